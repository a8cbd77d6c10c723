import JvmDerived
import JvmDerived.Pilot.@@N@@Statement
import JvmDerived.Pilot.@@N@@Code
set_option linter.unusedVariables false
set_option linter.unusedSimpArgs false
namespace Jvm.RoadKit
open Sem ClassFile Op Lib Jvm.Stand Jvm.Free Jvm.LawKit
section New
variable {p : Program} {l : Launch} {e : Env} {R : Room} {s : State} {m : MethodId} {args : Array Value} {below : List Frame} {meth : Method} {c : Code} {T : State} {locs : List Loc} {cells slots : Nat}
theorem retI (X : Stand p l e R s m args below meth c T locs cells slots) (hx : p.tables.exec = Jvm.exec) {pc : Nat} {Ls : Array Slot} {z : Int32} {rest : List Value} (hret : meth.sig.returnType = some .int) (hd : decode c.code pc = .ok (.ireturn, 1)) {fs : List Frame}
    (hl : ∀ (f : JFrame) (acts : List Action), f.method = m → f.locked = none → f.entered = [] → (doReturn e (T.setTop f) acts (some (.int z))).1 = T.setFrames fs) : Steps p.tables e below (T.setTop (mkF m pc Ls (.int z :: rest))) (T.setFrames fs) :=
  retOut X hx hret rfl (Or.inl ⟨rfl, Or.inl rfl, _, rfl⟩) hd hl
end New
end Jvm.RoadKit
namespace Jvm.Pilot.@@N@@
open Jvm Jvm.ClassFile Sem Op Lib Jvm.Free Jvm.Stand Jvm.LawKit Jvm.RoadKit Bundle Jvm.Pilot.@@N@@.Jvm.D
/-- the run goes on from A and comes to an end of which R holds -/
def own_Go (p : Program) (e : Env) (below : List Frame) (A : State) (R : State → Outcome → Prop) : Prop := ∃ s₂ o, Steps p.tables e below A s₂ ∧ s₂.status = .running ∧ Ended s₂ below o ∧ R s₂ o
theorem ob_ {p : Program} {e : Env} {below : List Frame} {A B : State} {R : State → Outcome → Prop} (k : ∀ t, Steps p.tables e below B t → Steps p.tables e below A t) (h : own_Go p e below B R) : own_Go p e below A R := by
  obtain ⟨s₂, o, h1, h2⟩ := h
  exact ⟨s₂, o, k _ h1, h2⟩
theorem own_ne {x y : Nat} (h : x ≠ y) : x ≠ y := h
theorem own_cat {v : Value} (h : v.isRef = true) : v.category = 1 := by rcases ref_cases h with rfl | ⟨_, rfl⟩ <;> rfl
theorem w_ {Z : State} {a0 : Array Value} (hw : ∀ d ∈ tables_1, d.before a0 Z = true) {d : Jvm.Cond} (i : Nat) (h : tables_1[i]? = some d) : d.before a0 Z = true := hw _ (List.mem_of_getElem? h)
theorem own_Ins_keep {Z : State} {h h' : Heap} {a : Addr} {C : String} {bo : Bool} {ws : List Addr} (F : Ins Z h a C bo) (K : Keep h h' ws) : Ins Z h' a C bo := by
  obtain ⟨cell, cT, h1, h2, h3⟩ := F
  obtain ⟨c', q, r1, r2, -⟩ := K.2.2 a cell h1
  exact ⟨c', cT, q, h2, by rw [r1, r2]; exact h3⟩
theorem own_narrow_ref {t : FieldType} {v : Value} (ht : t.isReference = true) (hv : v.isRef = true) : narrow t v = v := by
  cases t <;> first | (cases ht; done) | (cases v <;> first | rfl | (cases hv; done))
theorem own_fits_ref {t : FieldType} {v : Value} (hv : v.isRef = true) (ht : t.isReference = true := by rfl) : fits t v = true := by
  cases t <;> first | (cases ht; done) | (cases v <;> first | rfl | (cases hv; done))
set_option maxRecDepth 65536
set_option maxHeartbeats 40000000
abbrev s1_ : String := "com/example/rewrought/rewrought/DerivationsFinishPinLaw"
abbrev s2_ : String := "com/example/rewrought/rewrought/ConjunctiveQuery"
abbrev s3_ : String := "java/lang/String"
abbrev s4_ : String := "java/util/ArrayList"
abbrev s5_ : String := "java/util/AbstractList"
abbrev s6_ : String := "java/util/AbstractCollection"
abbrev s7_ : String := "java/lang/Object"
abbrev s8_ : String := "DEFAULTCAPACITY_EMPTY_ELEMENTDATA"
abbrev s9_ : String := "[Ljava/lang/Object;"
abbrev s10_ : String := "(Ljava/lang/String;[ILjava/util/List;Lcom/example/rewrought/rewrought/TermNames;)V"
abbrev s11_ : String := "(Ljava/lang/String;[ILjava/util/List;Lcom/example/rewrought/rewrought/TermNames;Z)V"
abbrev s12_ : String := "Ljava/lang/String;"
abbrev s13_ : String := "()Ljava/lang/Object;"
abbrev s14_ : String := "java/lang/Cloneable"
abbrev s15_ : String := "(Ljava/util/List;)Ljava/util/List;"
abbrev s16_ : String := "java/util/List"
abbrev s17_ : String := "com/example/rewrought/rewrought/Atom"
abbrev s18_ : String := "()Ljava/util/Iterator;"
abbrev s19_ : String := "java/util/Iterator"
abbrev s20_ : String := "java/util/ArrayList$Itr"
abbrev s21_ : String := "(Ljava/util/ArrayList;)V"
abbrev s22_ : String := "Ljava/util/ArrayList;"
abbrev s23_ : String := "expectedModCount"
abbrev s24_ : String := "([Ljava/lang/Object;)Ljava/util/List;"
abbrev s25_ : String := "java/util/ImmutableCollections"
abbrev s26_ : String := "Ljava/util/ImmutableCollections$ListN;"
abbrev s27_ : String := "Ljava/util/List;"
abbrev s28_ : String := "Lcom/example/rewrought/rewrought/TermNames;"
abbrev s29_ : String := "java/util/ImmutableCollections$ListN"
abbrev s30_ : String := "java/util/ImmutableCollections$AbstractImmutableList"
abbrev s31_ : String := "java/util/ImmutableCollections$ListItr"
abbrev s32_ : String := "(Ljava/util/List;I)V"
abbrev s33_ : String := "isListIterator"
abbrev s34_ : String := "com/example/rewrought/rewrought/Descendant"
abbrev s35_ : String := "(Lcom/example/rewrought/rewrought/ConjunctiveQuery;[I)V"
abbrev s36_ : String := "Lcom/example/rewrought/rewrought/ConjunctiveQuery;"
abbrev s37_ : String := "com/example/rewrought/rewrought/Derivations"
abbrev s38_ : String := "com/example/rewrought/rewrought/MinimalUnion"
abbrev s39_ : String := "com/example/rewrought/rewrought/PredicateIndex"
abbrev s40_ : String := "java/util/HashMap"
abbrev s41_ : String := "java/util/AbstractMap"
abbrev s42_ : String := "Ljava/util/Map;"
abbrev s43_ : String := "(Ljava/lang/Object;)Z"
abbrev s44_ : String := "(Ljava/lang/Object;[Ljava/lang/Object;I)V"
abbrev s45_ : String := "()[Ljava/lang/Object;"
abbrev s46_ : String := "(I)[Ljava/lang/Object;"
abbrev s47_ : String := "java/lang/Math"
abbrev s48_ : String := "jdk/internal/util/ArraysSupport"
abbrev s49_ : String := "java/util/Arrays"
abbrev s50_ : String := "([Ljava/lang/Object;I)[Ljava/lang/Object;"
abbrev s51_ : String := "()Ljava/lang/Class;"
abbrev s52_ : String := "([Ljava/lang/Object;ILjava/lang/Class;)[Ljava/lang/Object;"
abbrev s53_ : String := "java/lang/System"
abbrev s54_ : String := "(Ljava/lang/Object;ILjava/lang/Object;II)V"
abbrev s55_ : String := "Lcom/example/rewrought/rewrought/PredicateIndex;"
abbrev s56_ : String := "Lcom/example/rewrought/rewrought/MinimalUnion;"
abbrev s57_ : String := "java/util/ArrayDeque"
abbrev s58_ : String := "Ljava/util/Deque;"
abbrev s59_ : String := "(Lcom/example/rewrought/rewrought/Descendant;IZZ)I"
abbrev s60_ : String := "(Lcom/example/rewrought/rewrought/Descendant;)I"
abbrev s61_ : String := "(Lcom/example/rewrought/rewrought/Descendant;Z)I"
abbrev s62_ : String := "()Lcom/example/rewrought/rewrought/ConjunctiveQuery;"
abbrev s63_ : String := "java/lang/Integer"
abbrev s64_ : String := "(I)Ljava/lang/Integer;"
abbrev s65_ : String := "java/lang/Integer$IntegerCache"
abbrev s66_ : String := "[Ljava/lang/Integer;"
abbrev s67_ : String := "java/util/Deque"
abbrev s68_ : String := "(Ljava/lang/Object;)V"
abbrev s69_ : String := "java/util/Collection"
abbrev s70_ : String := "([Ljava/lang/Object;I)Ljava/lang/Object;"
abbrev s71_ : String := "()Ljava/util/List;"
abbrev v0_ : Value := .int (0 : Int32)
abbrev v1_ : Value := .int (1 : Int32)
abbrev v10_ : Value := .int (10 : Int32)
abbrev v16_ : Value := .int (16 : Int32)
abbrev v17_ : Value := .int (17 : Int32)
theorem sO {Z : State} {C O n d : String} {P : Prop} {a0 : Array Value} {O' n' d' : String} (L : Laid Z a0 C O n d) (L' : Laid Z a0 C O' n' d') (hn : n ≠ n' := by decide) (ht : (parseFieldDescriptor d).isSome = true := by decide) (ht' : (parseFieldDescriptor d').isSome = true := by decide) : P ∨ RoadKit.slotOf Z O n d ≠ RoadKit.slotOf Z O' n' d' := by
  obtain ⟨t, e⟩ := Option.isSome_iff_exists.mp ht
  obtain ⟨t', e'⟩ := Option.isSome_iff_exists.mp ht'
  exact Or.inr (slot_ne L L' hn e e')
theorem own_o {x y : Nat} (h : x ≠ y := by omega) : x ≠ y := h
def own_NE (x y : Nat) : Prop := x ≠ y
def own_LE (x y : Nat) : Prop := x ≤ y
theorem mN {x y : Nat} (h : x ≠ y := by omega) : own_NE x y := h
theorem uS {x y : Nat} (h : own_NE x y) : own_NE y x := fun q => h q.symm
theorem nT {x y : Addr} {L : List Addr} (q : own_NE x y) (r : x ∉ L) : x ∉ y :: L := ninS q r
theorem mL {x y : Nat} (h : x ≤ y := by omega) : own_LE x y := h
theorem nS {x y : Addr} {L : List Addr} (r : x ∉ L) (q : @Ne Nat x y := by omega) : x ∉ y :: L := ninS q r
section OwnW
variable {p : Program} {l : Launch} {e : Env} {Rm : Room} {s : State} {m : MethodId} {args : Array Value} {below : List Frame} {meth : Method} {c : Code} {T : State} {locs : List Loc} {cells slots : Nat} {code : ByteArray} {Q : State → Outcome → Prop} {pc : Nat} {Ls : Array Slot} {S : List Value}
theorem o_al (X : Stand p l e Rm s m args below meth c T locs cells slots) (hx : p.tables.exec = Jvm.exec) (hby : c.code = code) {i : Fin 4} {v : Value} (hd : decode code pc = .ok (.aload_n i, 1)) (hl : Ls[i.1]? = some (.val v)) (hv : v.isRef = true) (k : own_Go p e below (T.setTop (mkF m (pc + 1) Ls (v :: S))) Q) : own_Go p e below (T.setTop (mkF m pc Ls S)) Q := ob_ (fun _ k => XS.aloadN X.here hx rfl (hb hby hd) hl hv k) k
theorem o_aL (X : Stand p l e Rm s m args below meth c T locs cells slots) (hx : p.tables.exec = Jvm.exec) (hby : c.code = code) {i : Nat} {v : Value} (hd : decode code pc = .ok (.aload i, 2)) (hl : Ls[i]? = some (.val v)) (hv : v.isRef = true) (k : own_Go p e below (T.setTop (mkF m (pc + 2) Ls (v :: S))) Q) : own_Go p e below (T.setTop (mkF m pc Ls S)) Q := ob_ (fun _ k => XS.aload X.here hx rfl (hb hby hd) hl hv k) k
theorem o_il (X : Stand p l e Rm s m args below meth c T locs cells slots) (hx : p.tables.exec = Jvm.exec) (hby : c.code = code) {i : Fin 4} {v : Int32} (hd : decode code pc = .ok (.iload_n i, 1)) (hl : Ls[i.1]? = some (.val (.int v))) (k : own_Go p e below (T.setTop (mkF m (pc + 1) Ls (.int v :: S))) Q) : own_Go p e below (T.setTop (mkF m pc Ls S)) Q := ob_ (fun _ k => XS.iloadN X.here hx rfl (hb hby hd) hl k) k
theorem o_iL (X : Stand p l e Rm s m args below meth c T locs cells slots) (hx : p.tables.exec = Jvm.exec) (hby : c.code = code) {i : Nat} {v : Int32} (hd : decode code pc = .ok (.iload i, 2)) (hl : Ls[i]? = some (.val (.int v))) (k : own_Go p e below (T.setTop (mkF m (pc + 2) Ls (.int v :: S))) Q) : own_Go p e below (T.setTop (mkF m pc Ls S)) Q := ob_ (fun _ k => XS.iload X.here hx rfl (hb hby hd) hl k) k
theorem o_ic (X : Stand p l e Rm s m args below meth c T locs cells slots) (hx : p.tables.exec = Jvm.exec) (hby : c.code = code) {i : Int} (hd : decode code pc = .ok (.iconst i, 1)) (k : own_Go p e below (T.setTop (mkF m (pc + 1) Ls (.int (Int32.ofInt i) :: S))) Q) : own_Go p e below (T.setTop (mkF m pc Ls S)) Q := ob_ (fun _ k => XS.iconst X.here hx rfl (hb hby hd) k) k
theorem o_bi (X : Stand p l e Rm s m args below meth c T locs cells slots) (hx : p.tables.exec = Jvm.exec) (hby : c.code = code) {i : Int} (hd : decode code pc = .ok (.bipush i, 2)) (k : own_Go p e below (T.setTop (mkF m (pc + 2) Ls (.int (Int8.ofInt i).toInt32 :: S))) Q) : own_Go p e below (T.setTop (mkF m pc Ls S)) Q := ob_ (fun _ k => XS.bipush X.here hx rfl (hb hby hd) k) k
theorem o_gf {Z : State} {a0 : Array Value} {own R0 O n d : String} {index : Nat} {h : Heap} {a : Addr} {v : Value} (X : Stand p l e Rm s m args below meth c T locs cells slots) (hx : p.tables.exec = Jvm.exec) (hby : c.code = code) (hZ : Z.Warmed39 s.vm) (hown : s.vm.findClass own = some m.cls) (hw : ∀ d ∈ tables_1, d.before a0 Z = true) (i : Nat) (hi : tables_1[i]? = some (.fieldLink own index R0 n d)) (via : Via Z R0 O n d) (eT : T.heap = h) (F : Fld Z h a O n d v) (hd : decode code pc = .ok (.getfield index, 3))
    (k : ∀ T', Stand p l e Rm s m args below meth c T' locs cells slots → T'.heap = h → own_Go p e below (T'.setTop (mkF m (pc + 3) Ls (v :: S))) Q) : own_Go p e below (T.setTop (mkF m pc Ls (.ref a :: S))) Q := by
  obtain ⟨T', X', e', st⟩ := getF X hx hZ hown (host := "") (Or.inl (hw _ (List.mem_of_getElem? hi))) via eT F (g := mkF m pc Ls (.ref a :: S)) rfl rfl (hb hby hd)
  exact ob_ st (k T' X' e')
theorem o_k {Qc : Option Value → Heap → List Loc → Prop} {kc ks : Nat} {rest : List Value} (n : Nat) (call : ∃ (v : Option Value) (vm₁ : Vm) (B : Pt), s.WarmedH vm₁ ∧ Stand p l e Rm s m args below meth c B.U B.locs B.cells B.slots ∧ (∃ L, Qc v B.U.heap L ∧ B.locs = locs ++ L ∧ B.cells = cells + kc ∧ B.slots = slots + ks) ∧ Steps p.tables e below (T.setTop (mkF m pc Ls S)) (B.U.setTop (mkF m (pc + n) Ls (v.toList ++ rest))))
    (k : ∀ (T' : State) (L : List Loc) (v : Option Value), Stand p l e Rm s m args below meth c T' (locs ++ L) (cells + kc) (slots + ks) → Qc v T'.heap L → own_Go p e below (T'.setTop (mkF m (pc + n) Ls (v.toList ++ rest))) Q) : own_Go p e below (T.setTop (mkF m pc Ls S)) Q := by
  obtain ⟨v, _, ⟨T', L', c', s'⟩, -, X, ⟨L, hQ, h1, h2, h3⟩, st⟩ := call
  dsimp only [Pt.U, Pt.locs, Pt.cells, Pt.slots] at X hQ h1 h2 h3 st
  subst h1 h2 h3
  exact ob_ (fun _ k => st.trans k) (k T' L v X hQ)
theorem o_ks {Qc : Option Value → Heap → List Loc → Prop} {kc ks : Nat} {rest : List Value} (n : Nat) (call : ∃ (v : Option Value) (vm₁ : Vm) (B : Pt), s.WarmedH vm₁ ∧ Stand p l e Rm s m args below meth c B.U B.locs B.cells B.slots ∧ (∃ L, Qc v B.U.heap L ∧ B.locs = locs ++ L ∧ B.cells = cells + kc ∧ B.slots = slots + ks) ∧ ∀ target, Steps p.tables e below (B.U.setTop (mkF m (pc + n) Ls (v.toList ++ rest))) target → Steps p.tables e below (T.setTop (mkF m pc Ls S)) target)
    (k : ∀ (T' : State) (L : List Loc) (v : Option Value), Stand p l e Rm s m args below meth c T' (locs ++ L) (cells + kc) (slots + ks) → Qc v T'.heap L → own_Go p e below (T'.setTop (mkF m (pc + n) Ls (v.toList ++ rest))) Q) : own_Go p e below (T.setTop (mkF m pc Ls S)) Q := by
  obtain ⟨v, _, ⟨T', L', c', s'⟩, -, X, ⟨L, hQ, h1, h2, h3⟩, st⟩ := call
  dsimp only [Pt.U, Pt.locs, Pt.cells, Pt.slots] at X hQ h1 h2 h3 st
  subst h1 h2 h3
  exact ob_ st (k T' L v X hQ)
theorem o4 {h : Heap} {as' : Array Value} {u v : Nat} (eT : T.heap = h) (x kx y ky : Nat) (q : x + kx ≤ u := by decide) (r : y + ky ≤ v := by decide) : ∀ vm₁, s.WarmedH vm₁ → as' = as' ∧ (T.setVm vm₁).heap = h ∧ x + kx ≤ u ∧ y + ky ≤ v := fun _ _ => ⟨rfl, eT, q, r⟩
theorem bk {Z : State} {a0 : Array Value} {y : MethodName} {bytes : ByteArray} {maxL : Nat} {ret : Option FieldType} {rm : Room} {len : Nat} {as' : Array Value} {h : Heap} {Qc : Option Value → Heap → List Loc → Prop} (W : Nat) (hZ : Z.Warmed39 s.vm) (hw : ∀ d ∈ tables_1, d.before a0 Z = true) (i j : Nat)
    (hM : MetFree l y (head1 [Jvm.Cond.code y bytes maxL ret] rm) (fun a U => a = as' ∧ Z.Warmed39 U.vm ∧ U.heap = h) (fun _ _ _ _ _ => True) (fun _ U o U' => ∃ v L, o = .returned v ∧ Qc v U'.heap L ∧ FrameEnd U o U' L rm.cells rm.slots))
    (hi : tables_1[i]? = some (.code y bytes maxL ret) := by exact rfl) (hj : tables_1[j]? = some (.initialized y.cls) := by exact rfl) (hf : rm.frames + 1 ≤ Rm.frames := by decide) (hl : W + (maxL + 11) + rm.locals ≤ Rm.locals := by decide) :
    Back l Rm p e below s args y len W (fun A a => a = as' ∧ A.U.heap = h ∧ A.cells + rm.cells ≤ Rm.cells ∧ A.slots + rm.slots ≤ Rm.slots) (fun A _ v B => ∃ L, Qc v B.U.heap L ∧ B.locs = A.locs ++ L ∧ B.cells = A.cells + rm.cells ∧ B.slots = A.slots + rm.slots) := backOf (W := W) hM hZ (hw _ (List.mem_of_getElem? hi)) (hw _ (List.mem_of_getElem? hj)) hf hl
end OwnW
theorem eG {Z : State} {h : Heap} {a : Addr} {C : String} (F : Exa Z h a C) : @LT.lt Nat _ a h.size := F.lt
theorem fG {Z : State} {h : Heap} {a : Addr} {C n d : String} {v : Value} (F : Fld Z h a C n d v) : @LT.lt Nat _ a h.size := F.lt
theorem vG {Z : State} {h : Heap} {a : Addr} {k : ClassId} {ty : FieldType} {z : Int32} {vs : List Value} {dv : Value} (F : Arv Z h a k ty z vs dv) : @LT.lt Nat _ a h.size := F.lt
theorem kI {ws L : List Addr} {N : Nat} {a : Addr} (i : Nat) (h : ws[i]? = some a) (r : ∀ x ∈ L, x ∈ ws ∨ N ≤ x) : ∀ x ∈ a :: L, x ∈ ws ∨ N ≤ x := allS (P := fun x => x ∈ ws ∨ N ≤ x) (Or.inl (List.mem_of_getElem? h)) r
theorem kR {ws L : List Addr} {N : Nat} {a : Addr} (r : ∀ x ∈ L, x ∈ ws ∨ N ≤ x) (h : @LE.le Nat _ N a := by omega) : ∀ x ∈ a :: L, x ∈ ws ∨ N ≤ x := allS (P := fun x => x ∈ ws ∨ N ≤ x) (Or.inr h) r
abbrev own_Wd (Z : State) (a0 : Array Value) : Prop := ∀ d ∈ tables_1, d.before a0 Z = true
theorem mw {Z s : State} {a0 args : Array Value} (hZ : Z.Warmed39 s.vm) (hw : own_Wd Z a0) {d : Jvm.Cond} (i : Nat) (h : tables_1[i]? = some d) (hd : (d.onTables && d.keepsFace) = true := by first | rfl | simp [Cond.onTables, Cond.keepsFace, Cond.keeps, Cond.steady]) : d.before args s = true := mvT hZ (hw _ (List.mem_of_getElem? h)) hd
theorem own_z {a W : Nat} (h : a = W := by rfl) : 2 * 0 + a ≤ W := by omega
abbrev own_R (s : State) (rm : Room) (Q : Option Value → Heap → List Loc → Prop) : State → Outcome → Prop := fun t o => ∃ v L, o = .returned v ∧ Q v t.heap L ∧ FrameEnd s o t L rm.cells rm.slots
abbrev own_M (l : Launch) (Z : State) (ws : List Jvm.Cond) (y : MethodName) (code : ByteArray) (ml : Nat) (ret : Option FieldType) (rm : Room) (as' : Array Value) (h0 : Heap) (Q : Option Value → Heap → List Loc → Prop) : Prop :=
  MetFree l y (head1 (Jvm.Cond.code y code ml ret :: ws) rm) (fun a U => a = as' ∧ Z.Warmed39 U.vm ∧ U.heap = h0) (fun _ _ _ _ _ => True) (fun _ U o U' => ∃ v L, o = .returned v ∧ Q v U'.heap L ∧ FrameEnd U o U' L rm.cells rm.slots)
theorem own_open {l : Launch} {Z : State} {ws : List Jvm.Cond} {y : MethodName} {code : ByteArray} {ml : Nat} {ret : Option FieldType} {rm : Room} {as' : Array Value} {h0 : Heap} {n0 : Nat} {Q : Option Value → Heap → List Loc → Prop} (O0 : Old Z n0 h0) (hpl : plainFor y = true) {L0 : Array Slot}
    (k : ∀ (p : Program) (e : Env) (s : State) (m : MethodId) (below : List Frame) (meth : Method) (c : Code) (s₁ : State), BodyLoose p l y (head1 (Jvm.Cond.code y code ml ret :: ws) rm) code ml ret e s m as' below meth c s₁ → p.tables.exec = Jvm.exec → c.code = code → c.maxLocals = ml → Z.Warmed39 s.vm → s.heap = h0 →
      s.vm.findClass y.cls = some m.cls → meth.name = y.name → Stand p l e rm s m as' below meth c s₁ [] 0 0 → s₁.heap = h0 → Fr n0 [] → n0 ≤ h0.size → own_Go p e below (s₁.setTop (mkF m 0 L0 [])) (own_R s rm Q)) (hef : ∀ m, entryFrame m as' ml = mkF m 0 L0 [] := by intro m; first | (simp [entryFrame, mkF, argsToLocals, Value.category]; done) | rfl) : own_M l Z ws y code ml ret rm as' h0 Q := by
  refine MetFree.of_bodySF hpl hisR ?_
  intro p e s m args below meth c s₁ Bd hml hP hK
  obtain ⟨rfl, hZ, hh⟩ := hP
  have q := k p e s m below meth c s₁ Bd Bd.exec Bd.bytes hml hZ hh (findClass_of_methodNamed Bd.named) (name_of_methodNamed Bd.named Bd.method).1 (Stand.of_body Bd) (by rw [← hh, Bd.state]; rfl) (Fr.nil n0) (by rw [← O0.1]; exact O0.2.1)
  rw [← hef m] at q
  exact q
section OwnR
variable {p : Program} {l : Launch} {e : Env} {Rm : Room} {s : State} {m : MethodId} {args : Array Value} {below : List Frame} {meth : Method} {c : Code} {T s₁ : State} {locs : List Loc} {cells slots : Nat} {code : ByteArray} {Qc : Option Value → Heap → List Loc → Prop} {pc ml : Nat} {Ls : Array Slot} {S : List Value} {y : MethodName} {sp : Spec} {h : Heap}
theorem o_rv (Bd : BodyLoose p l y sp code ml none e s m args below meth c s₁) (X : Stand p l e Rm s m args below meth c T locs cells slots) (hx : p.tables.exec = Jvm.exec) (hby : c.code = code) (eT : T.heap = h) (hd : decode code pc = .ok (.return_, 1)) (q : Qc none h locs) (hc : cells ≤ Rm.cells := by decide) (hs : slots ≤ Rm.slots := by decide) : own_Go p e below (T.setTop (mkF m pc Ls [])) (own_R s Rm Qc) := by
  obtain ⟨fs, hr, hrun, hended, hW, hsame⟩ := X.leave (v := none) (fun h => rfl)
  refine ⟨_, _, X.returnOut hx Bd.returns (hb hby hd) hr, hrun, hended, _, _, rfl, ?_, ⟨_, rfl⟩, hW, hsame.mono hc hs⟩
  show Qc none T.heap _
  rw [eT]; exact q
theorem o_ri {z : Int32} (Bd : BodyLoose p l y sp code ml (some .int) e s m args below meth c s₁) (X : Stand p l e Rm s m args below meth c T locs cells slots) (hx : p.tables.exec = Jvm.exec) (hby : c.code = code) (eT : T.heap = h) (hd : decode code pc = .ok (.ireturn, 1)) (q : Qc (some (.int z)) h locs) (hc : cells ≤ Rm.cells := by decide) (hs : slots ≤ Rm.slots := by decide) : own_Go p e below (T.setTop (mkF m pc Ls (.int z :: S))) (own_R s Rm Qc) := by
  obtain ⟨fs, hr, hrun, hended, hW, hsame⟩ := X.leave (v := some (.int z)) (fun h => by rw [Bd.returns] at h; cases h)
  refine ⟨_, _, retI X hx Bd.returns (hb hby hd) hr, hrun, hended, _, _, rfl, ?_, ⟨_, rfl⟩, hW, hsame.mono hc hs⟩
  show Qc (some (.int z)) T.heap _
  rw [eT]; exact q
theorem o_rn {z : Int32} {t : FieldType} (Bd : BodyLoose p l y sp code ml (some t) e s m args below meth c s₁) (X : Stand p l e Rm s m args below meth c T locs cells slots) (hx : p.tables.exec = Jvm.exec) (hby : c.code = code) (eT : T.heap = h) (hd : decode code pc = .ok (.ireturn, 1)) (q : Qc (some (.int (nar t z))) h locs) (ht : t = .boolean ∨ t = .byte ∨ t = .char ∨ t = .short := by simp) (hc : cells ≤ Rm.cells := by decide) (hs : slots ≤ Rm.slots := by decide) : own_Go p e below (T.setTop (mkF m pc Ls (.int z :: S))) (own_R s Rm Qc) := by
  obtain ⟨fs, hr, hrun, hended, hW, hsame⟩ := X.leave (v := some (.int (nar t z))) (fun h => by rw [Bd.returns] at h; cases h)
  refine ⟨_, _, retN X hx Bd.returns ht (hb hby hd) hr, hrun, hended, _, _, rfl, ?_, ⟨_, rfl⟩, hW, hsame.mono hc hs⟩
  show Qc (some (.int (nar t z))) T.heap _
  rw [eT]; exact q
theorem o_ra {v : Value} {t : FieldType} (Bd : BodyLoose p l y sp code ml (some t) e s m args below meth c s₁) (X : Stand p l e Rm s m args below meth c T locs cells slots) (hx : p.tables.exec = Jvm.exec) (hby : c.code = code) (eT : T.heap = h) (hd : decode code pc = .ok (.areturn, 1)) (hv : v.isRef = true) (q : Qc (some v) h locs) (ht : t.isReference = true := by decide) (hc : cells ≤ Rm.cells := by decide) (hs : slots ≤ Rm.slots := by decide) : own_Go p e below (T.setTop (mkF m pc Ls (v :: S))) (own_R s Rm Qc) := by
  obtain ⟨fs, hr, hrun, hended, hW, hsame⟩ := X.leave (v := some v) (fun h => by rw [Bd.returns] at h; cases h)
  refine ⟨_, _, retOut X hx Bd.returns (own_narrow_ref ht hv) (Or.inr (Or.inr (Or.inr (Or.inr ⟨rfl, ht, hv⟩)))) (hb hby hd) hr, hrun, hended, _, _, rfl, ?_, ⟨_, rfl⟩, hW, hsame.mono hc hs⟩
  show Qc (some v) T.heap _
  rw [eT]; exact q
end OwnR
theorem own_eq_int {args : Array Value} {first s : State} {o : Option Outcome} {idx : List Nat} {t : Term} {n : Int32} (h : (Cond.eq t (.int n)).value args first o s idx = some true) : t.eval args first o idx s = some (.int n) := by
  simp only [Cond.value, Term.eval] at h
  cases ht : t.eval args first o idx s with
  | none => simp [ht] at h
  | some x => cases x <;> simp [ht] at h ⊢; exact h
theorem own_sta_via {s : State} {args : Array Value} {C n d n' d' : String} {v : Value} (wl : (Cond.laysStatic C n' d').before args s = true) (wi : (Cond.initializedFor C n' d').before args s = true) (w : (Cond.laysStatic C n d).before args s = true) (ev : (Term.static C n d).eval args s none [] s = some v) : Sta s s.heap C n d v := by
  have ini : (Cond.initialized C).before args s = true := by
    obtain ⟨c, k, i, f, a, cell, h1, h2, -⟩ := Cond.laysStatic_spec wl
    have q := Cond.initializedFor_spec h2 wi
    have hk := State.fieldFound?_class h2
    simp [Cond.before, Cond.holds, Cond.value, h1, hk, q]
  exact Sta.start ev (Or.inr ⟨ini, w⟩)
theorem own_static_idx {s : State} {args : Array Value} {C n d : String} {v : Value} {idx : List Nat} (h : (Term.static C n d).eval args s none [] s = some v) : (Term.static C n d).eval args s none idx s = some v := h
theorem own_len {s : State} {args : Array Value} {t : Term} {a : Addr} {c : Cell} {ty : FieldType} {n : Int32} (ht : t.eval args s none [] s = some (.ref a)) (A : Arr s s.heap a c ty) (h : (Cond.eq (.length t) (.int n)).value args s none s [] = some true) : c.slots.size < 2 ^ 31 ∧ c.slots.size.toInt32 = n := by
  have e := own_eq_int h
  have ha := A.fin (U := s) (Vm.Alike.refl _)
  by_cases q : c.slots.size < 2 ^ 31
  · rw [len_f ht ha q] at e
    exact ⟨q, by simpa using e⟩
  · simp [Term.eval, ht, ha, q] at e
theorem own_idx {s : State} {args : Array Value} {j : Int32} (nj : ¬ j < 0) : (Term.sub (.index 0) (.int 128)).eval args s none [j.toNatClampNeg] s = some (.int (j - 128)) := by
  have := idx_at (args := args) (s := s) (first := s) (o := none) nj
  simp [Term.eval] at this ⊢
  simp [this]
theorem own_box_i {s : State} {args : Array Value} {X : Term} {j : Int32} (nj : ¬ j < 0) (h : (Cond.eq X (.sub (.index 0) (.int 128))).value args s none s [j.toNatClampNeg] = some true) : X.eval args s none [j.toNatClampNeg] s = some (.int (j - 128)) := eqv_i (own_idx nj) h
theorem own_box_l {s : State} {args : Array Value} {X : Term} {j : Int32} (nj : ¬ j < 0) (h : (Cond.eq X (.op1 .i2l (.sub (.index 0) (.int 128)))).value args s none s [j.toNatClampNeg] = some true) : X.eval args s none [j.toNatClampNeg] s = some (.long (j - 128).toInt64) := eqv_l (i2l_at (own_idx nj)) h
def own_asc : List Nat → Prop
  | [] => True
  | [_] => True
  | x :: y :: r => x < y ∧ own_asc (y :: r)
theorem own_nar_b {x : Int32} (h : x = 0 ∨ x = 1) : nar .boolean x = x := by rcases h with rfl | rfl <;> decide
theorem own_fits_b {x : Int32} (h : x = 0 ∨ x = 1) : fits .boolean (.int x) = true := by rcases h with rfl | rfl <;> decide
theorem own_nrw_b {x : Int32} (h : x = 0 ∨ x = 1) : narrow .boolean (.int x) = .int x := by rcases h with rfl | rfl <;> decide
theorem own_fits_v {x : Int32} (h : x = 0 ∨ x = 1) : fits .boolean (.int x) = true := by rcases h with rfl | rfl <;> decide
theorem own_b1 {x : Int32} (h : x = 0 ∨ x = 1) (q : ¬ (x = (0 : Int32))) : x = 1 := h.resolve_left q
def own_fin (cm lo : Int32) : Int32 := if cm = 0 then 0 else if lo = 0 then 1 else 0
theorem own_fin_01 {cm lo : Int32} : own_fin cm lo = 0 ∨ own_fin cm lo = 1 := by
  unfold own_fin; split
  · exact Or.inl rfl
  · split
    · exact Or.inr rfl
    · exact Or.inl rfl
theorem own_fin_z {cm lo : Int32} (h : cm = (0 : Int32)) : (0 : Int32) = own_fin cm lo := by rw [own_fin, if_pos h]
theorem own_fin_l {cm lo : Int32} (h : ¬ (lo = (0 : Int32))) : (0 : Int32) = own_fin cm lo := by
  rw [own_fin, if_neg h]; split <;> rfl
theorem own_fin_1 {cm lo : Int32} (h : ¬ (cm = (0 : Int32))) (q : lo = (0 : Int32)) : (1 : Int32) = own_fin cm lo := by rw [own_fin, if_neg h, if_pos q]
def own_l0 (li dl lm : Int32) : Int32 := if dl = 0 then 0 else if lm = 0 then li else 0
def own_l1 (li dl lm : Int32) : Int32 := if dl = 0 then 0 else if lm = 0 then 0 else li
section
variable {li dl lm : Int32}
theorem own_l0_z (h : dl = (0 : Int32)) : (0 : Int32) = own_l0 li dl lm := by rw [own_l0, if_pos h]
theorem own_l1_z (h : dl = (0 : Int32)) : (0 : Int32) = own_l1 li dl lm := by rw [own_l1, if_pos h]
theorem own_l0_p (h : ¬ (dl = (0 : Int32))) : li = own_l0 li dl (0 : Int32) := by rw [own_l0, if_neg h, if_pos rfl]
theorem own_l1_p (h : ¬ (dl = (0 : Int32))) : (0 : Int32) = own_l1 li dl (0 : Int32) := by rw [own_l1, if_neg h, if_pos rfl]
theorem own_l0_q (h : ¬ (dl = (0 : Int32))) : (0 : Int32) = own_l0 li dl (1 : Int32) := by rw [own_l0, if_neg h, if_neg (by decide)]
theorem own_l1_q (h : ¬ (dl = (0 : Int32))) : li = own_l1 li dl (1 : Int32) := by rw [own_l1, if_neg h, if_neg (by decide)]
theorem own_l0_li (h : li = (0 : Int32)) : (0 : Int32) = own_l0 li dl lm := by rw [own_l0, h]; split; rfl; split <;> rfl
theorem own_l1_li (h : li = (0 : Int32)) : (0 : Int32) = own_l1 li dl lm := by rw [own_l1, h]; split; rfl; split <;> rfl
theorem own_l0_n (h : ¬ (lm = (0 : Int32))) : (0 : Int32) = own_l0 li dl lm := by rw [own_l0, if_neg h]; split <;> rfl
theorem own_l1_n (hl : lm = 0 ∨ lm = 1) (h : ¬ (lm = (1 : Int32))) : (0 : Int32) = own_l1 li dl lm := by rw [own_l1, if_pos (hl.resolve_right h)]; split <;> rfl
theorem own_l0_1 (hli : li = 0 ∨ li = 1) (h1 : ¬ (li = (0 : Int32))) (h2 : ¬ (dl = (0 : Int32))) (h3 : lm = (0 : Int32)) : (1 : Int32) = own_l0 li dl lm := by rw [own_l0, if_neg h2, if_pos h3, hli.resolve_left h1]
theorem own_l1_1 (hli : li = 0 ∨ li = 1) (h1 : ¬ (li = (0 : Int32))) (h2 : ¬ (dl = (0 : Int32))) (h3 : lm = (1 : Int32)) : (1 : Int32) = own_l1 li dl lm := by rw [own_l1, if_neg h2, h3, if_neg (by decide), hli.resolve_left h1]
end
def own_nx (x y : Int32) : Int32 := if x = 0 then 0 else if y = 0 then 1 else -1
theorem own_nx_0 {x y : Int32} (h : x = (0 : Int32)) : (0 : Int32) = own_nx x y := by rw [own_nx, if_pos h]
theorem own_nx_1 {x y : Int32} (h : ¬ (x = (0 : Int32))) (q : y = (0 : Int32)) : (1 : Int32) = own_nx x y := by rw [own_nx, if_neg h, if_pos q]
theorem own_nx_2 {x y : Int32} (h : ¬ (x = (0 : Int32))) (q : ¬ (y = (0 : Int32))) : (-1 : Int32) = own_nx x y := by rw [own_nx, if_neg h, if_neg q]
def own_bx (Z : State) (bx : Addr) (n : Int32) : Prop := Exa Z Z.heap bx "java/lang/Integer" ∧ Fld Z Z.heap bx "java/lang/Integer" "value" "I" (.int n)
def own_w0 (Z : State) (ee tq : Int32) (wq : List Value) : Prop := (ee = 1 ∧ tq = 0 ∧ wq = []) ∨ (ee = 0 ∧ tq = 1 ∧ ∃ bx, wq = [.ref bx] ∧ own_bx Z bx 0)
def own_w1 (Z : State) (ee tz : Int32) (wl : List Value) (tq : Int32) (wq : List Value) : Prop := (ee = 1 ∧ tq = tz ∧ wq = wl) ∨ (ee = 0 ∧ tq = tz + 1 ∧ ∃ bx, wq = wl ++ [.ref bx] ∧ own_bx Z bx 1)
section
variable {Z : State} {ee tz tq : Int32} {wl wq : List Value}
theorem own_w0_wl (h : own_w0 Z ee tq wq) : (tq = 0 ∧ wq = []) ∨ (tq = 1 ∧ ∃ wa, wq = [.ref wa]) := by
  rcases h with ⟨-, h1, h2⟩ | ⟨-, h1, bx, h2, -⟩
  · exact Or.inl ⟨h1, h2⟩
  · exact Or.inr ⟨h1, bx, h2⟩
theorem own_w0_1 (h : own_w0 Z (1 : Int32) tq wq) : tq = 0 ∧ wq = [] := by
  rcases h with ⟨-, h⟩ | ⟨h, -⟩
  · exact h
  · exact absurd h (by decide)
theorem own_w0_0 (h : own_w0 Z (0 : Int32) tq wq) : tq = 1 ∧ ∃ bx, wq = [.ref bx] ∧ own_bx Z bx 0 := by
  rcases h with ⟨h, -⟩ | ⟨-, h⟩
  · exact absurd h (by decide)
  · exact h
theorem own_w1_1 (h : own_w1 Z (1 : Int32) tz wl tq wq) : tq = tz ∧ wq = wl := by
  rcases h with ⟨-, h⟩ | ⟨h, -⟩
  · exact h
  · exact absurd h (by decide)
theorem own_w1_0 (h : own_w1 Z (0 : Int32) tz wl tq wq) : tq = tz + 1 ∧ ∃ bx, wq = wl ++ [.ref bx] ∧ own_bx Z bx 1 := by
  rcases h with ⟨h, -⟩ | ⟨-, h⟩
  · exact absurd h (by decide)
  · exact h
end
theorem own_and1_all : ∀ i : Fin 2, Int32.ofNat i.1 = 0 ∨ Int32.ofNat i.1 = 1 := by decide +kernel
theorem own_and1 {x r : Int32} (e : r = x &&& 1) : r = 0 ∨ r = 1 := by
  have h : (x &&& 1).toBitVec.toNat < 2 := by
    show (x.toBitVec &&& 1#32).toNat < 2
    rw [BitVec.toNat_and]
    exact Nat.lt_of_le_of_lt Nat.and_le_right (by decide)
  have q : x &&& 1 = Int32.ofNat (x &&& 1).toBitVec.toNat := by
    apply Int32.toBitVec_inj.mp
    show _ = BitVec.ofNat 32 (x &&& 1).toBitVec.toNat
    rw [BitVec.ofNat_toNat, BitVec.setWidth_eq]
  rw [e, q]; exact own_and1_all ⟨_, h⟩
theorem own_wS {Z : State} {a0 : Array Value} (hw : ∀ d ∈ tables_1, d.before a0 Z = true) : ∀ a ∈ Bundle.stringAtoms, a.before a0 Z = true := fun a ha => by
  simp only [Bundle.stringAtoms, List.mem_cons, List.not_mem_nil, or_false] at ha
  rcases ha with rfl | rfl | rfl | rfl | rfl | rfl | rfl
  · exact w_ hw 4 rfl
  · exact w_ hw 5 rfl
  · exact w_ hw 6 rfl
  · exact w_ hw 7 rfl
  · exact w_ hw 8 rfl
  · exact w_ hw 9 rfl
  · exact w_ hw 10 rfl
theorem own_ia {x y : Int32} (h : -2147483648 ≤ x.toInt + y.toInt ∧ x.toInt + y.toInt < 2147483648) : (x + y).toInt = x.toInt + y.toInt := by
  rw [Int32.toInt_add]; exact Int.bmod_eq_of_le (by omega) (by omega)
theorem own_inc {x : Int32} (h : x.toInt ≤ 1000) : (x + 1).toInt = x.toInt + 1 := by
  have b := Int32.le_toInt x
  have e : (1 : Int32).toInt = 1 := rfl
  rw [own_ia (by omega), e]
theorem own_nlt {x y : Int32} (h : y.toInt ≤ x.toInt) : ¬ x < y := by rw [Int32.lt_iff_toInt_lt]; omega
theorem own_cap {x : Int32} {n : Nat} (h : x.toInt ≤ n) : x.toNatClampNeg ≤ n := by simp only [Int32.toNatClampNeg]; omega
theorem own_inb {j z : Int32} {c : Cell} (S : c.slots.size = z.toNatClampNeg) (h0 : 0 ≤ j.toInt) (h1 : j.toInt < z.toInt) : ¬ (j < 0 ∨ c.slots.size ≤ j.toNatClampNeg) :=
  inb_of S ⟨own_nlt h0, Int32.lt_iff_toInt_lt.mpr h1⟩
/-- null, or an object -/
def own_ob (Z : State) (h : Heap) (v : Value) : Prop := v = .null ∨ ∃ y, v = .ref y ∧ Ins Z h y "java/lang/Object" true
def own_obs (Z : State) (h : Heap) (vs : List Value) : Prop := ∀ v ∈ vs, own_ob Z h v
section
variable {Z : State} {h h' : Heap} {vs : List Value}
theorem own_obs_nil : own_obs Z h [] := fun _ q => nomatch q
theorem own_obs.ext (F : own_obs Z h vs) (E : Ext h h') : own_obs Z h' vs := fun v hv => by
  rcases F v hv with q | ⟨y, q, r⟩
  · exact Or.inl q
  · exact Or.inr ⟨y, q, r.ext E⟩
theorem own_obs.wr {a : Addr} {sl : Nat} {w : Value} (F : own_obs Z h vs) (W : Wr h h' a sl w) : own_obs Z h' vs := fun v hv => by
  rcases F v hv with q | ⟨y, q, r⟩
  · exact Or.inl q
  · exact Or.inr ⟨y, q, r.wr W⟩
theorem own_obs.keep {ws : List Addr} (F : own_obs Z h vs) (K : Keep h h' ws) : own_obs Z h' vs := fun v hv => by
  rcases F v hv with q | ⟨y, q, r⟩
  · exact Or.inl q
  · refine Or.inr ⟨y, q, ?_⟩
    obtain ⟨cell, cT, h1, h2, h3⟩ := r
    obtain ⟨c', q1, r1, r2, -⟩ := K.2.2 y cell h1
    exact ⟨c', cT, q1, h2, by rw [r1, r2]; exact h3⟩
theorem own_mem_pad {n : Nat} {v : Value} (q : v ∈ vs ++ List.replicate n .null) : v = .null ∨ v ∈ vs := by
  rcases List.mem_append.mp q with r | r
  · exact Or.inr r
  · exact Or.inl (List.eq_of_mem_replicate r)
theorem own_stO {d x : Addr} {k : ClassId} {cp j : Int32} {ty : FieldType} (F : Arv Z h d k ty cp vs .null) (W : Wr h h' d j.toNatClampNeg (.ref x)) (hf : fits ty (.ref x) = true) (h0 : 0 ≤ j.toInt) (h1 : j.toInt < cp.toInt) (O : own_obs Z h vs) (I : Ins Z h x "java/lang/Object" true) :
    ∃ vz, Arv Z h' d k ty cp vz .null ∧ own_obs Z h' vz := by
  have hlt : j.toNatClampNeg < cp.toNatClampNeg := by simp only [Int32.toNatClampNeg]; omega
  obtain ⟨c, A, q1, S, q3, H, G⟩ := F.pad (pad_rep vs .null cp.toNatClampNeg)
  refine ⟨_, Arv.set A q1 S q3 H G hf W j.toNatClampNeg rfl (by rw [List.length_append, List.length_replicate]; omega), fun v hv => ?_⟩
  rcases List.mem_or_eq_of_mem_set hv with q | q
  · rcases own_mem_pad q with r | r
    · exact Or.inl r
    · exact (O.wr W) v r
  · exact Or.inr ⟨x, q, I.wr W⟩
theorem own_stoL {a : Addr} : ∀ {us : List Value}, (∀ v ∈ us, Sto Z h a v) → StoL Z h a us
  | [], _ => trivial
  | v :: r, q => ⟨q v (List.mem_cons_self ..), own_stoL fun w hw => q w (List.mem_cons_of_mem _ hw)⟩
end
theorem own_cpO {p : Program} {l : Launch} {e : Env} {R : Room} {s : State} {m : MethodId} {args : Array Value} {below : List Frame} {meth : Method} {c : Code} {T : State} {locs : List Loc} {cells slots : Nat} {Z : State} {h : Heap} {a b : Addr} {k : ClassId} {z : Int32} {va : List Value}
    (X : Stand p l e R s m args below meth c T locs cells slots) (hx : p.tables.exec = Jvm.exec) (hZ : Z.Warmed39 s.vm) {a0 : Array Value} {own : String} {index : Nat} (hown : s.vm.findClass own = some m.cls)
    (w1 : (Cond.methodLink own index Jvm.Stand.acN).before a0 Z = true) (w2 : (Cond.native Jvm.Stand.acN).before a0 Z = true) (w3 : (Cond.static Jvm.Stand.acN).before a0 Z = true) (w4 : (Cond.initialized "java/lang/System").before a0 Z = true) (eT : T.heap = h)
    {k' : ClassId} {z' : Int32} (A : Arv Z h a k (.object "java/lang/Object") z va .null) (B : Arv Z h b k' (.object "java/lang/Object") z' [] .null) (O : own_obs Z h va) (ov : Ovr Z k' "java/lang/Object") (h0 : 0 ≤ z.toInt) (hle : z.toInt ≤ z'.toInt) {n0 : Nat} (N : Fr n0 locs) (ge : n0 ≤ b)
    {g : JFrame} (hg : g.method = m) (hsize : g.locals.size = c.maxLocals) {rest : List Value} (hs : g.stack = .int z :: .int (0 : Int32) :: .ref b :: .int (0 : Int32) :: .ref a :: rest) (hd : decode c.code g.pc = .ok (.invokestatic index, 3))
    (hf : 1 ≤ R.frames) {W : Nat} (hW : 2 * g.monitorRoom + (rest.map fun v => v.category).sum ≤ W) (hlo : W + (nativeFrameWords "java/lang/System" "arraycopy" 5 + 11) ≤ R.locals) :
    ∃ T' h' L vn, Stand p l e R s m args below meth c T' L cells slots ∧ T'.heap = h' ∧ Fr n0 L ∧ Keep h h' [b] ∧ Arv Z h' b k' (.object "java/lang/Object") z' vn .null ∧ own_obs Z h' vn ∧
      ∀ target, Steps p.tables e below (T'.setTop { g with pc := g.pc + 3, stack := rest }) target → Steps p.tables e below (T.setTop g) target := by
  have e0 : (0 : Int32).toNatClampNeg = 0 := rfl
  have hzz : z.toNatClampNeg ≤ z'.toNatClampNeg := by simp only [Int32.toNatClampNeg]; omega
  have B' := B.pad (pad_rep [] .null z.toNatClampNeg)
  have hob : ∀ v ∈ (List.range z.toNatClampNeg).map fun i => va.getD ((0 : Int32).toNatClampNeg + i) .null, own_ob Z h v := fun v hv => by
    obtain ⟨i, -, rfl⟩ := List.mem_map.mp hv
    rw [List.getD_eq_getElem?_getD]
    cases q : va[(0 : Int32).toNatClampNeg + i]? with
    | none => exact Or.inl rfl
    | some w => exact O w (List.mem_of_getElem? q)
  have hst : ∀ v ∈ (List.range z.toNatClampNeg).map fun i => va.getD ((0 : Int32).toNatClampNeg + i) .null, Sto Z h b v := fun v hv => by
    rcases hob v hv with q | ⟨y, q, r⟩
    · exact Or.inl q
    · subst q
      obtain ⟨cB, AB, qB, -⟩ := B
      exact Sto.ofV AB qB ov r
  obtain ⟨T', h', L, X', e', N', K, V, st⟩ := cpA X hx hZ hown w1 w2 w3 w4 eT A B' (Or.inr ⟨rfl, rfl, own_stoL hst⟩) (sp := 0) (dp := 0) (nn := z) (by decide) (by decide) (own_nlt h0) (by rw [e0]; omega) (by rw [e0]; omega) rfl (by rw [e0]; simp) N ge hg hsize hs hd hf hW hlo
  refine ⟨T', h', L, _, X', e', N', K, V, own_obs.keep (fun v hv => ?_) K, st⟩
  rcases List.mem_append.mp hv with q | q
  · rcases List.mem_append.mp q with q | q
    · rcases own_mem_pad (List.mem_of_mem_take q) with r | r
      · exact Or.inl r
      · cases r
    · exact hob v q
  · rcases own_mem_pad (List.mem_of_mem_drop q) with r | r
    · exact Or.inl r
    · cases r
def own_Mir (Z : State) (C : String) (mr : Addr) : Prop := ∃ (c : ClassId) (k : Class), Z.vm.findClass C = some c ∧ Z.vm.classes[c]? = some k ∧ k.mirror = some mr
section
variable {p : Program} {l : Launch} {e : Env} {R : Room} {s : State} {m : MethodId} {args : Array Value} {below : List Frame} {meth : Method} {c : Code} {T : State} {locs : List Loc} {cells slots : Nat} {Z : State} {h : Heap}
theorem own_ldcM (X : Stand p l e R s m args below meth c T locs cells slots) (hx : p.tables.exec = Jvm.exec) (hZ : Z.Warmed39 s.vm) {a0 : Array Value} {own C : String} {index : Nat} (hown : s.vm.findClass own = some m.cls) (w1 : (Cond.classLink own index C).before a0 Z = true) (eT : T.heap = h) {mr : Addr} (M : own_Mir Z C mr)
    {g : JFrame} (hg : g.method = m) (hd : decode c.code g.pc = .ok (.ldc index, 2)) :
    ∃ T', Stand p l e R s m args below meth c T' locs cells slots ∧ T'.heap = h ∧ ∀ target, Steps p.tables e below (T'.setTop { g with pc := g.pc + 2, stack := .ref mr :: g.stack }) target → Steps p.tables e below (T.setTop g) target := by
  obtain ⟨cc, k, m1, m2, m3⟩ := M
  obtain ⟨k', q, ek⟩ := hZ.alike.2.2 _ _ m2
  have m1' : s.vm.findClass C = some cc := by rw [hZ.alike.findClass]; exact m1
  have m3' : k'.mirror = some mr := by rw [ek]; exact m3
  obtain ⟨vm', X', st⟩ := X.ldcMirror hx hown (mv hZ w1) (show (Term.mirror C).eval args s none [] s = some (.ref mr) by simp [Term.eval, m1', q, m3']) hg hd
  exact ⟨_, X', eT, st⟩
theorem own_gcls (X : Stand p l e R s m args below meth c T locs cells slots) (hx : p.tables.exec = Jvm.exec) (hZ : Z.Warmed39 s.vm) {a0 : Array Value} {own C : String} {index : Nat} (hown : s.vm.findClass own = some m.cls)
    (w1 : (Cond.methodLink own index Jvm.Stand.gcN).before a0 Z = true) (w2 : (Cond.declares Jvm.Stand.gcN).before a0 Z = true) (w4 : (Cond.selects C Jvm.Stand.gcN Jvm.Stand.gcN).before a0 Z = true)
    (w5 : (Cond.instanceMethod Jvm.Stand.gcN).before a0 Z = true) (w6 : (Cond.native Jvm.Stand.gcN).before a0 Z = true) (eT : T.heap = h) {a : Addr} (E : Exa Z h a C) {mr : Addr} (M : own_Mir Z C mr)
    {g : JFrame} (hg : g.method = m) (hsize : g.locals.size = c.maxLocals) {rest : List Value} (hs : g.stack = .ref a :: rest) (hd : decode c.code g.pc = .ok (.invokevirtual index, 3)) (hf : 1 ≤ R.frames) {W : Nat} (hW : 2 * g.monitorRoom + (rest.map fun v => v.category).sum ≤ W) (hl : W + (nativeFrameWords "java/lang/Object" "getClass" 1 + 11) ≤ R.locals) :
    ∃ T', Stand p l e R s m args below meth c T' locs cells slots ∧ T'.heap = h ∧ ∀ target, Steps p.tables e below (T'.setTop { g with pc := g.pc + 3, stack := .ref mr :: rest }) target → Steps p.tables e below (T.setTop g) target := by
  obtain ⟨cB, kB, i1, i2, i3⟩ := isOf hZ eT E
  obtain ⟨cc, kc, m1, m2, m3⟩ := M
  rw [hZ.alike.findClass] at i1
  cases i1.symm.trans m1
  obtain ⟨k', q, ek⟩ := hZ.alike.2.2 _ _ m2
  obtain ⟨vm', X', st⟩ := X.getClassOf hx hown (mvT hZ w1) (mvT hZ w2) (notFace_of_selects (args := #[]) (mvT hZ w4)) (mvT hZ w4) (mvT hZ w5) (mvT hZ w6) (by rw [hZ.alike.findClass]; exact m1) i3 q (by rw [ek]; exact m3) hg hsize hs hd hf (by omega)
  exact ⟨_, X', eT, st⟩
theorem own_selp {y z : MethodName} (hz : (Cond.selects z.cls z z).before args s = true) (ez : z.cls = y.cls) (hp : s.PrivateAt y) (hi : (Cond.instanceMethod y).before args s = true) (hy : y.cls ≠ "java/lang/invoke/MethodHandle" ∧ y.cls ≠ "java/lang/invoke/VarHandle") : (Cond.selects y.cls y y).before args s = true := by
  obtain ⟨c2, r2, m2, q1, q2, q3, q4, kP, hkP, hkPi⟩ := Cond.selects_spec hz
  have hc := findClass_of_methodNamed q3
  rw [ez] at hc
  exact selects_self_of_private hc hkP hkPi hp hi hy
end
def own_gr (cp nl : Int32) : Prop := nl.toInt ≤ 110 ∧ 0 ≤ cp.toInt ∧ cp.toInt ≤ nl.toInt
def own_lt (x y : Int32) : Prop := x.toInt < y.toInt
instance (x y : Int32) : Decidable (own_gr x y) := inferInstanceAs (Decidable (_ ∧ _ ∧ _))
instance (x y : Int32) : Decidable (own_lt x y) := inferInstanceAs (Decidable (_ < _))
/-- the list that is being filled: ii elements, an array of cp components -/
def own_cg (cp : Int32) (ng : Nat) : Prop := (cp = 10 ∧ ng = 1) ∨ (cp = 15 ∧ ng = 2) ∨ (cp = 22 ∧ ng = 3) ∨ (cp = 33 ∧ ng = 4) ∨ (cp = 49 ∧ ng = 5) ∨ (cp = 73 ∧ ng = 6)
def own_li (ii cp : Int32) (P D : Prop) (cl sl : Nat) : Prop := (ii = 0 ∧ cp = 0 ∧ D ∧ cl = 0 ∧ sl = 0) ∨ (P ∧ ∃ ng : Nat, own_cg cp ng ∧ 0 ≤ ii.toInt ∧ ii.toInt ≤ cp.toInt ∧ (cl : Int) ≤ ii.toInt + ng ∧ (sl : Int) ≤ 3 * ii.toInt + 110 * ng)
theorem own_li_0 {P D : Prop} {cl sl : Nat} (hD : D) (h1 : cl = 0 := by omega) (h2 : sl = 0 := by omega) : own_li 0 0 P D cl sl := Or.inl ⟨rfl, rfl, hD, h1, h2⟩
theorem own_li_rng {ii cp : Int32} {P D : Prop} {cl sl : Nat} (h : own_li ii cp P D cl sl) : 0 ≤ ii.toInt := by
  rcases h with ⟨rfl, -⟩ | ⟨-, ng, -, h, -⟩
  · decide
  · exact h
theorem own_cg_ng {cp : Int32} {ng : Nat} (h : own_cg cp ng) : ng ≤ 6 := by
  rcases h with ⟨-, h⟩ | ⟨-, h⟩ | ⟨-, h⟩ | ⟨-, h⟩ | ⟨-, h⟩ | ⟨-, h⟩ <;> omega
theorem own_li_max {ii cp : Int32} {P D : Prop} {cl sl : Nat} (h : own_li ii cp P D cl sl) (hi : ii.toInt ≤ 65) : cl ≤ 80 ∧ sl ≤ 900 := by
  rcases h with ⟨-, -, -, h1, h2⟩ | ⟨-, ng, g, -, -, h1, h2⟩
  · omega
  · have := own_cg_ng g; omega
theorem own_li_cases {ii cp : Int32} {P D : Prop} {cl sl : Nat} (h : own_li ii cp P D cl sl) (hi : ii.toInt ≤ 64) :
    (ii = 0 ∧ cp = 0 ∧ D ∧ ∀ (P' D' : Prop) {cl' sl' : Nat}, P' → cl' ≤ cl + 2 → sl' ≤ sl + 13 → own_li 1 10 P' D' cl' sl') ∨
    (P ∧ ii = cp ∧ (0 : Int32) < cp ∧ ((ii + (1 : Int32)) - cp) < (cp >>> ((1 : Int32) &&& 31)) ∧ (0 : Int32) < (cp + (cp >>> ((1 : Int32) &&& 31))) ∧ ¬ ((2147483639 : Int32) < (cp + (cp >>> ((1 : Int32) &&& 31)))) ∧ ¬ ((cp + (cp >>> ((1 : Int32) &&& 31))) < cp) ∧
      own_gr cp (cp + (cp >>> ((1 : Int32) &&& 31))) ∧ own_lt ii (cp + (cp >>> ((1 : Int32) &&& 31))) ∧
      ∀ (P' D' : Prop) {cl' sl' : Nat}, P' → cl' ≤ cl + 2 → sl' ≤ sl + 113 → own_li (ii + (1 : Int32)) (cp + (cp >>> ((1 : Int32) &&& 31))) P' D' cl' sl') ∨
    (P ∧ ¬ (ii = cp) ∧ ii.toInt < cp.toInt ∧ ∀ (P' D' : Prop) {cl' sl' : Nat}, P' → cl' ≤ cl + 1 → sl' ≤ sl + 3 → own_li (ii + (1 : Int32)) cp P' D' cl' sl') := by
  rcases h with ⟨rfl, rfl, hD, rfl, rfl⟩ | ⟨hP, ng, g, h0, h1, h2, h3⟩
  · refine Or.inl ⟨rfl, rfl, hD, fun P' D' cl' sl' hp a b => Or.inr ⟨hp, 1, Or.inl ⟨rfl, rfl⟩, by decide, by decide, ?_, ?_⟩⟩
    · have q : (1 : Int32).toInt = 1 := rfl
      omega
    · have q : (1 : Int32).toInt = 1 := rfl
      omega
  · by_cases q : ii = cp
    · subst q
      rcases g with ⟨rfl, rfl⟩ | ⟨rfl, rfl⟩ | ⟨rfl, rfl⟩ | ⟨rfl, rfl⟩ | ⟨rfl, rfl⟩ | ⟨rfl, rfl⟩
      · refine Or.inr (Or.inl ⟨hP, rfl, by decide, by decide, by decide, by decide, by decide, by decide, by decide, fun P' D' cl' sl' hp a b => Or.inr ⟨hp, 2, Or.inr (Or.inl ⟨by decide, rfl⟩), by decide, by decide, ?_, ?_⟩⟩)
        · have q : ((10 : Int32) + 1).toInt = 11 := by decide
          have q' : (10 : Int32).toInt = 10 := rfl
          omega
        · have q : ((10 : Int32) + 1).toInt = 11 := by decide
          have q' : (10 : Int32).toInt = 10 := rfl
          omega
      · refine Or.inr (Or.inl ⟨hP, rfl, by decide, by decide, by decide, by decide, by decide, by decide, by decide, fun P' D' cl' sl' hp a b => Or.inr ⟨hp, 3, Or.inr (Or.inr (Or.inl ⟨by decide, rfl⟩)), by decide, by decide, ?_, ?_⟩⟩)
        · have q : ((15 : Int32) + 1).toInt = 16 := by decide
          have q' : (15 : Int32).toInt = 15 := rfl
          omega
        · have q : ((15 : Int32) + 1).toInt = 16 := by decide
          have q' : (15 : Int32).toInt = 15 := rfl
          omega
      · refine Or.inr (Or.inl ⟨hP, rfl, by decide, by decide, by decide, by decide, by decide, by decide, by decide, fun P' D' cl' sl' hp a b => Or.inr ⟨hp, 4, Or.inr (Or.inr (Or.inr (Or.inl ⟨by decide, rfl⟩))), by decide, by decide, ?_, ?_⟩⟩)
        · have q : ((22 : Int32) + 1).toInt = 23 := by decide
          have q' : (22 : Int32).toInt = 22 := rfl
          omega
        · have q : ((22 : Int32) + 1).toInt = 23 := by decide
          have q' : (22 : Int32).toInt = 22 := rfl
          omega
      · refine Or.inr (Or.inl ⟨hP, rfl, by decide, by decide, by decide, by decide, by decide, by decide, by decide, fun P' D' cl' sl' hp a b => Or.inr ⟨hp, 5, Or.inr (Or.inr (Or.inr (Or.inr (Or.inl ⟨by decide, rfl⟩)))), by decide, by decide, ?_, ?_⟩⟩)
        · have q : ((33 : Int32) + 1).toInt = 34 := by decide
          have q' : (33 : Int32).toInt = 33 := rfl
          omega
        · have q : ((33 : Int32) + 1).toInt = 34 := by decide
          have q' : (33 : Int32).toInt = 33 := rfl
          omega
      · refine Or.inr (Or.inl ⟨hP, rfl, by decide, by decide, by decide, by decide, by decide, by decide, by decide, fun P' D' cl' sl' hp a b => Or.inr ⟨hp, 6, Or.inr (Or.inr (Or.inr (Or.inr (Or.inr ⟨by decide, rfl⟩)))), by decide, by decide, ?_, ?_⟩⟩)
        · have q : ((49 : Int32) + 1).toInt = 50 := by decide
          have q' : (49 : Int32).toInt = 49 := rfl
          omega
        · have q : ((49 : Int32) + 1).toInt = 50 := by decide
          have q' : (49 : Int32).toInt = 49 := rfl
          omega
      · exact absurd hi (by decide)
    · have hlt : ii.toInt < cp.toInt := by
        have : ¬ ii.toInt = cp.toInt := fun r => q (Int32.toInt_inj.mp r)
        omega
      refine Or.inr (Or.inr ⟨hP, q, hlt, fun P' D' cl' sl' hp a b => Or.inr ⟨hp, ng, g, ?_, ?_, ?_, ?_⟩⟩)
      all_goals rw [own_inc (by omega)]; omega
/-- what the word methodLink says, part by part -/
theorem own_mlink {args : Array Value} {s : State} {cls : String} {x : MethodName} {index d c : Nat} {ck ok : Class} {meth : Method} {mf : MethodId} (hd : s.vm.findClass cls = some d) (hc : s.vm.findClass x.cls = some c) (hck : s.vm.classes[c]? = some ck) (hf : s.methodFound? x.cls x.name x.desc = some mf) (hok : s.vm.classes[mf.cls]? = some ok) (hm : s.vm.method? mf = some meth)
    (h : (Cond.methodLink cls index x).before args s = true) : ∃ ci dk, s.memberEntry? cls index = some (ci, ck.isInterface) ∧ s.vm.classes[d]? = some dk ∧ s.classLinks cls ci x.cls = some true ∧ s.names cls index (.method x.cls x.name x.desc) = true ∧ s.openOr cls index (.method mf) = true ∧ ok.loader = none ∧ (plainAccess s.vm meth.accessFlags mf.cls ok c d dk = true ∨ x.name = "clone") := by
  simp only [Cond.before, Cond.holds, Cond.value, hd, hc, hf] at h
  cases hme : s.memberEntry? cls index with
  | none => simp [hme] at h
  | some me =>
    cases hcl : s.classLinks cls me.1 x.cls with
    | none => simp [hme, hcl] at h
    | some b =>
      cases hdk : s.vm.classes[d]? with
      | none => simp [hme, hcl, hdk] at h
      | some dk =>
        simp [hme, hcl, hdk, hck, hok, hm] at h
        obtain ⟨⟨⟨⟨⟨⟨⟨hb, h1⟩, h2⟩, h3⟩, -⟩, -⟩, h4⟩, h5⟩ := h
        subst hb
        refine ⟨me.1, dk, by rw [h3], rfl, hcl, h1, h2, h4, ?_⟩
        rcases h5 with q | q
        · exact Or.inl q
        · exact Or.inr q.1.2
theorem own_mvIF {Z s : State} {a0 args : Array Value} {r o n d : String} (hZ : Z.Warmed39 s.vm) (w : (Cond.interfaceMethod r o n d).before a0 Z = true) (hro : r ≠ o) (hx : r ≠ "java/lang/invoke/MethodHandle" ∧ r ≠ "java/lang/invoke/VarHandle") : (Cond.interfaceMethod r o n d).before args s = true := by
  obtain ⟨c, k, m, h1, h2, h3, h4, h5⟩ := Cond.interfaceMethod_spec w
  obtain ⟨k0, j1, j2⟩ := Vm.findClass_spec h1
  cases h2.symm.trans j1
  have poly : ∀ z, signaturePolymorphic k z = false := fun z => by simp [signaturePolymorphic, j2, hx.1, hx.2]
  obtain ⟨ok, o1, o2⟩ := className_of_methodNamed h5
  have none1 : k.findMethod n d = none := by
    cases hj : k.findMethod n d with
    | none => rfl
    | some j =>
      have q := State.methodFound?_declared h1 h2 poly hj (by obtain ⟨hlt, -, -⟩ := Array.findIdx?_eq_some_iff_getElem.mp hj; simp [hlt])
      have e1 : m = ⟨c, j⟩ := Option.some.inj (h4.symm.trans q)
      rw [e1] at o1
      cases h2.symm.trans o1
      exact absurd (j2.symm.trans o2) hro
  have ff := State.faceFind_of_found h1 h2 h3 poly none1 h4
  obtain ⟨k', q1, ek⟩ := hZ.alike.2.2 _ _ h2
  obtain ⟨ok', q2, eo⟩ := hZ.alike.2.2 _ _ o1
  have h1' : s.vm.findClass r = some c := by rw [hZ.alike.findClass]; exact h1
  have h4' : s.methodFound? r n d = some m := State.methodFound?_faceFind h1' q1 (by rw [ek]; exact h3) (fun z => by rw [ek]; exact poly z) (by rw [ek]; exact none1) (by rw [hZ.alike.faceFind]; exact ff) q2
  have h6 := findClass_of_methodNamed h5
  have h6' : s.vm.findClass o = some m.cls := by rw [hZ.alike.findClass]; exact h6
  have h5' : s.methodNamed? ⟨o, n, d⟩ = some m := by
    simp only [State.methodNamed?, h6, h6', o1, q2, Option.bind_eq_bind, Option.bind_some] at h5 ⊢
    rw [eo]; exact h5
  have h3' : k'.isInterface = true := by rw [ek]; exact h3
  simp [Cond.before, Cond.holds, Cond.value, h1', h4', h5', q1, h3']
section
variable {p : Program} {l : Launch} {e : Env} {R : Room} {s : State} {m : MethodId} {args : Array Value} {below : List Frame} {meth : Method} {c : Code} {T : State} {locs : List Loc} {cells slots : Nat}
/-- the entry's links, whoever may see the method (the library's law asks that it be public) -/
theorem own_linksFF {cls : String} {x : MethodName} {index d cI : Nat} {ck ok : Class} {r : Method} {mf : MethodId} (hd : s.vm.findClass cls = some d) (hc : s.vm.findClass x.cls = some cI) (hck : s.vm.classes[cI]? = some ck) (hvi : ck.isInterface = true) (hnone : ck.findMethod x.name x.desc = none) (hf : s.methodFound? x.cls x.name x.desc = some mf) (hok : s.vm.classes[mf.cls]? = some ok) (hm : ok.methods[mf.idx]? = some r)
    (hcl0 : x.name ≠ "clone") (hpoly : ∀ y, signaturePolymorphic ck y = false) (h : (Cond.methodLink cls index x).before args s = true) (pl : Platform) (hpl : pl.magicAccessors = ({} : Platform).magicAccessors) : ∃ ci, s.vm.MethodLinksFF pl d index ci cI mf ∧ s.rightAt d index (.method mf) = true := by
  obtain ⟨ci, dk, g1, g2, g3, g4, g5, g6, g7⟩ := own_mlink hd hc hck hf hok (meth := r) (by simp [Vm.method?, hok, hm]) h
  rw [hvi] at g1
  obtain ⟨cr, hcr, lk⟩ := State.classLinks_spec hd g3 pl hpl
  obtain rfl : cI = cr := Option.some.inj (hc.symm.trans hcr)
  obtain ⟨cp, hcp, nms⟩ := State.names_spec g4
  obtain ⟨dk', cf, k1, hcf, rfl⟩ := State.poolOf?_spec hd hcp
  obtain rfl : dk = dk' := Option.some.inj (g2.symm.trans k1)
  obtain ⟨ci', nt, ent, hnt, -⟩ := namesOf?_method nms
  simp only [State.memberEntry?, hcp, Option.bind_eq_bind, Option.bind_some] at g1
  have ent2 : cf.constantPool[index]? = some (.interfaceMethodref ci nt) := by
    rcases ent with q | q
    · rw [q] at g1; simp at g1
    · rw [q] at g1; simp at g1; rw [q, g1]
  have hne : ci ≠ index := fun he => by
    obtain ⟨k2, cf2, nm, -, j1, j2, -, j3, -⟩ := lk.here
    cases g2.symm.trans j1
    cases hcf.symm.trans j2
    rw [he] at j3
    simp [ConstantPool.className?, ent2] at j3
  have hl : dk.loader = none := by
    obtain ⟨k2, -, -, -, j1, -, j2, -⟩ := lk.here
    cases g2.symm.trans j1; exact j2
  have hplain : s.vm.Plain r.accessFlags mf.cls ok cI d dk := by
    rcases g7 with q | q
    · simpa [Vm.Plain, plainAccess, or_assoc, and_assoc] using q
    · exact absurd q hcl0
  exact ⟨ci, ⟨dk, cf, nt, x.name, x.desc, ck, ok, r, g2, hcf, ent2, hnt, lk, hne, hck, hvi, hpoly, hnone, State.faceFind_of_found hc hck hvi hpoly hnone hf, hok, hm, hl.trans g6.symm, hplain, State.openOr_spec hd g2 g5⟩, by simp [State.rightAt, g2, hcf, nms, hf]⟩
/-- invokeinterface through an interface that inherits the method: by a contract -/
theorem own_ifaceBackUp (X : Stand p l e R s m args below meth c T locs cells slots) (hexec : p.tables.exec = Jvm.exec) {own C J : String} {index count : Nat} {xi y : MethodName}
    (hown : s.vm.findClass own = some m.cls) (hlink : (Cond.methodLink own index xi).before args s = true) (hdecl : (Cond.declares ⟨J, xi.name, xi.desc⟩).before args s = true) (hcl0 : xi.name ≠ "clone")
    (hface : (Cond.interfaceMethod xi.cls J xi.name xi.desc).before args s = true) (hxo : xi.cls ≠ J) (hsel : (Cond.selects C xi y).before args s = true) (hinst : (Cond.instanceMethod y).before args s = true)
    (hpub : (Cond.publicMethod y).before args s = true) (hunh : (Cond.unhidden C xi.name xi.desc).before args s = true) (hcast : (Cond.castable C xi.cls).before args s = true)
    (hx : xi.cls ≠ "java/lang/invoke/MethodHandle" ∧ xi.cls ≠ "java/lang/invoke/VarHandle")
    {W : Nat} {Pre : Pt → Array Value → Prop} {Post : Pt → Array Value → Option Value → Pt → Prop} (hK : Back l R p e below s args y 5 W Pre Post)
    {b : Addr} {cB : ClassId} {kB : Class} (hcB : s.vm.findClass C = some cB) (hkB : s.vm.classes[cB]? = some kB) (hrecv : IsOf cB T b)
    {g : JFrame} (hg : g.method = m) (hsize : g.locals.size = c.maxLocals) {s₀ : State} (hcome : Steps p.tables e below s₀ (T.setTop g)) {argsL rest : List Value}
    (hlen : ∀ sig, parseMethodDescriptor xi.desc = some sig → argsL.length = sig.parameters.length) (hstack : g.stack = argsL.reverse ++ .ref b :: rest) (hW : 2 * g.monitorRoom + (rest.map fun v => v.category).sum ≤ W)
    (hdg : decode c.code g.pc = .ok (.invokeinterface index count, 5)) (hpre : ∀ vm₁, s.WarmedH vm₁ → Pre ⟨T.setVm vm₁, locs, cells, slots⟩ (.ref b :: argsL).toArray) :
    ∃ (v : Option Value) (vm₁ : Vm) (B : Pt), s.WarmedH vm₁ ∧ Stand p l e R s m args below meth c B.U B.locs B.cells B.slots ∧ Post ⟨T.setVm vm₁, locs, cells, slots⟩ (.ref b :: argsL).toArray v B ∧
      Steps p.tables e below s₀ (B.U.setTop { g with pc := g.pc + 5, stack := v.toList ++ rest }) := by
  have hpl : e.platform.magicAccessors = ({} : Platform).magicAccessors := by rw [X.admits.platform]
  obtain ⟨cell, k1, k2, k3⟩ := hrecv
  obtain ⟨r0, r, n1, n2, n3, n4⟩ := Cond.declares_spec hdecl
  obtain ⟨cI, kI, r1, i1, i2, i3, i4, i5⟩ := Cond.interfaceMethod_spec hface
  cases n1.symm.trans i5
  obtain ⟨nmR, dsR⟩ := name_of_methodNamed n1 n2
  obtain ⟨mk, mM, t1, t2, -, t3⟩ := Cond.instanceMethod_spec hinst
  obtain ⟨c2, r2, m2, q1, q2, q3, q4, -⟩ := Cond.selects_spec hsel
  cases hcB.symm.trans q1
  cases i4.symm.trans q2
  cases t1.symm.trans q3
  obtain ⟨c3, t4, w1, w2, w3⟩ := Cond.castable_spec hcast
  cases hcB.symm.trans w1
  cases i1.symm.trans w2
  obtain ⟨ok, o1, o2⟩ := className_of_methodNamed n1
  have o3 : ok.methods[r0.idx]? = some r := by simpa [Vm.method?, o1] using n2
  obtain ⟨kI', j1, j2⟩ := Vm.findClass_spec i1
  cases i2.symm.trans j1
  have poly : ∀ z, signaturePolymorphic kI z = false := fun z => by simp [signaturePolymorphic, j2, hx.1, hx.2]
  have none1 : kI.findMethod xi.name xi.desc = none := by
    cases hj : kI.findMethod xi.name xi.desc with
    | none => rfl
    | some j =>
      have h2 := State.methodFound?_declared i1 i2 poly hj (by obtain ⟨hlt, -, -⟩ := Array.findIdx?_eq_some_iff_getElem.mp hj; simp [hlt])
      have e1 : r0 = ⟨cI, j⟩ := Option.some.inj (i4.symm.trans h2)
      rw [e1] at o1
      cases i2.symm.trans o1
      exact absurd (j2.symm.trans o2) hxo
  obtain ⟨ci, hl, hright⟩ := own_linksFF hown i1 i2 i3 none1 i4 o1 o3 hcl0 poly hlink e.platform hpl
  have hE := State.methodEntryFF X.warmed hl hright
  obtain ⟨dk, cfile, nt, _, _, ck, _, _, f1, f2, f3, -, -, -, f4, f5, -⟩ := hl.here
  cases i2.symm.trans f4
  have al := hE.warmed.alike
  obtain ⟨dk2, d1, d2⟩ := hE.classReady
  obtain ⟨dk3, d3, d4⟩ := al.2.2 _ _ f1
  cases d1.symm.trans d3
  obtain ⟨ck2, d5, d6⟩ := al.2.2 _ _ f4
  obtain ⟨kB2, d7, -⟩ := al.2.2 _ _ hkB
  have X1 : Stand p l e R s m args below meth c (T.setVm (T.vm.calledUp m.cls ci index cI r0)) locs cells slots := X.noted hE.warmed
  obtain ⟨v, B, X', hpost, hsteps⟩ := hK m meth c ⟨T.setVm (T.vm.calledUp m.cls ci index cI r0), locs, cells, slots⟩ { g with stack := rest } (.invokeinterface index count) mk (.ref b :: argsL).toArray X1 hg hsize hdg hW (X1.named t1) (hpre (T.vm.calledUp m.cls ci index cI r0) X1.warmed)
  refine ⟨v, _, B, X1.warmed, X', hpost, (hcome.trans ?_).trans hsteps⟩
  subst hg
  have way : ((cell.cls :: s.vm.superclasses cell.cls).any fun k => (declaredIn s.vm r.name r.desc k).any fun (_, z) => z.isPrivate || z.isStatic) = false := by rw [nmR, dsR, k2]; exact Cond.unhidden_spec hcB hunh
  have sel : selectMethod e.platform s.vm cell.cls r0 = .method mk := by rw [Launch.admits_selectMethod X.admits, k2]; exact q4
  jvm_step X.here [hexec, hdg, invokeinterface.wp_coldFace (e := e) (s := T) (s₀ := s) (f := g) (count := count) X.here.top X.warmed hE f1 f2 (Or.inr f3) f4 f5,
    invokeinterface.wp_ready (e := e) (s := T.setVm (T.vm.calledUp g.method.cls ci index cI r0)) (f := g) (count := count) (r := r) (meth := mM) (m := mk) (args := argsL) (rest := rest) (cell := cell) (kcell := kB2) (ck := dk2) (nk := ck2) (cf := cfile) (ci := ci) (nt := nt) (named := cI)
      X.here.top hE.ready (by show (T.vm.calledUp g.method.cls ci index cI r0).method? r0 = some r; rw [al.method?]; exact n2) n3 (hlen _ n4) hstack k1 (fun z h => by rw [h] at k3; cases k3) (by rw [k2]; exact d7) d1 (by rw [d4]; exact f2) f3 d2 d5 (by rw [d6]; exact f5)
      (by show (T.vm.calledUp g.method.cls ci index cI r0).assignable cell.cls cI = true; rw [al.assignable, k2]; exact w3)
      (by show selectMethod e.platform (T.vm.calledUp g.method.cls ci index cI r0) cell.cls r0 = .method mk; rw [al.selectMethod]; exact sel)
      (by show (T.vm.calledUp g.method.cls ci index cI r0).method? mk = some mM; rw [al.method?]; exact t2)
      (Or.inr (Or.inr (by show ((cell.cls :: (T.vm.calledUp g.method.cls ci index cI r0).superclasses cell.cls).any fun k => (declaredIn (T.vm.calledUp g.method.cls ci index cI r0) r.name r.desc k).any fun (_, z) => z.isPrivate || z.isStatic) = false; simp only [al.superclasses, al.declaredIn]; exact way))) (Or.inl (Cond.publicMethod_spec t1 t2 hpub)) t3]
  intro acts; rw [doInvoke_state]; exact Steps.refl _
end
theorem pn1_ : plainName "java/util/AbstractCollection" = true := by first | (simp [plainName, overriddenIn]; done) | decide +kernel
theorem pn2_ : plainName "java/util/AbstractList" = true := by first | (simp [plainName, overriddenIn]; done) | decide +kernel
theorem pn3_ : plainName "java/util/ArrayList" = true := by first | (simp [plainName, overriddenIn]; done) | decide +kernel
theorem pn4_ : plainName "java/util/AbstractMap" = true := by first | (simp [plainName, overriddenIn]; done) | decide +kernel
theorem pn5_ : plainName "java/util/HashMap" = true := by first | (simp [plainName, overriddenIn]; done) | decide +kernel
theorem pn6_ : plainName "java/util/ArrayDeque" = true := by first | (simp [plainName, overriddenIn]; done) | decide +kernel
theorem pn8_ : plainName "jdk/internal/util/ArraysSupport" = true := by first | (simp [plainName, overriddenIn]; done) | decide +kernel
theorem pn9_ : plainName "java/util/Arrays" = true := by first | (simp [plainName, overriddenIn]; done) | decide +kernel
theorem pn10_ : plainName "com/example/rewrought/rewrought/PredicateIndex" = true := by first | (simp [plainName, overriddenIn]; done) | decide +kernel
theorem pn11_ : plainName "java/util/ArrayList$Itr" = true := by first | (simp [plainName, overriddenIn]; done) | decide +kernel
theorem pn12_ : plainName "java/util/List" = true := by first | (simp [plainName, overriddenIn]; done) | decide +kernel
theorem pn13_ : plainName "java/util/ImmutableCollections$ListN" = true := by first | (simp [plainName, overriddenIn]; done) | decide +kernel
theorem pn14_ : plainName "java/util/ImmutableCollections$ListItr" = true := by first | (simp [plainName, overriddenIn]; done) | decide +kernel
theorem pn15_ : plainName "java/util/ImmutableCollections$AbstractImmutableList" = true := by first | (simp [plainName, overriddenIn]; done) | decide +kernel
theorem pn16_ : plainName "com/example/rewrought/rewrought/ConjunctiveQuery" = true := by first | (simp [plainName, overriddenIn]; done) | decide +kernel
theorem pn17_ : plainName "com/example/rewrought/rewrought/Descendant" = true := by first | (simp [plainName, overriddenIn]; done) | decide +kernel
theorem pn18_ : plainName "com/example/rewrought/rewrought/MinimalUnion" = true := by first | (simp [plainName, overriddenIn]; done) | decide +kernel
theorem pn19_ : plainName "java/lang/Integer" = true := by first | (simp [plainName, overriddenIn]; done) | decide +kernel
theorem pn20_ : plainName "com/example/rewrought/rewrought/Derivations" = true := by first | (simp [plainName, overriddenIn]; done) | decide +kernel
theorem pn21_ : plainName "com/example/rewrought/rewrought/DerivationsFinishPinLaw" = true := by first | (simp [plainName, overriddenIn]; done) | decide +kernel
theorem pd1_ : parseMethodDescriptor "()V" = some ⟨[], none⟩ := by decide +kernel
theorem pd2_ : parseMethodDescriptor "(II)I" = some ⟨[.int, .int], some .int⟩ := by decide +kernel
theorem pd3_ : parseMethodDescriptor "([Ljava/lang/Object;ILjava/lang/Class;)[Ljava/lang/Object;" = some ⟨[(.array (.object s7_)), .int, (.object "java/lang/Class")], some (.array (.object s7_))⟩ := by decide +kernel
theorem pd4_ : parseMethodDescriptor "(III)I" = some ⟨[.int, .int, .int], some .int⟩ := by decide +kernel
theorem pd5_ : parseMethodDescriptor "([Ljava/lang/Object;I)[Ljava/lang/Object;" = some ⟨[(.array (.object s7_)), .int], some (.array (.object s7_))⟩ := by decide +kernel
theorem pd6_ : parseMethodDescriptor "(I)[Ljava/lang/Object;" = some ⟨[.int], some (.array (.object s7_))⟩ := by decide +kernel
theorem pd7_ : parseMethodDescriptor "(Ljava/lang/Object;[Ljava/lang/Object;I)V" = some ⟨[(.object s7_), (.array (.object s7_)), .int], none⟩ := by decide +kernel
theorem pd8_ : parseMethodDescriptor "()[Ljava/lang/Object;" = some ⟨[], some (.array (.object s7_))⟩ := by decide +kernel
theorem pd9_ : parseMethodDescriptor "(Ljava/lang/Object;)Z" = some ⟨[(.object s7_)], some .boolean⟩ := by decide +kernel
theorem pd10_ : parseMethodDescriptor "(Ljava/util/ArrayList;)V" = some ⟨[(.object s4_)], none⟩ := by decide +kernel
theorem pd11_ : parseMethodDescriptor "()I" = some ⟨[], some .int⟩ := by decide +kernel
theorem pd12_ : parseMethodDescriptor "(Ljava/util/List;I)V" = some ⟨[(.object s16_), .int], none⟩ := by decide +kernel
theorem pd13_ : parseMethodDescriptor "()Ljava/util/Iterator;" = some ⟨[], some (.object s19_)⟩ := by decide +kernel
theorem pd14_ : parseMethodDescriptor "()Z" = some ⟨[], some .boolean⟩ := by decide +kernel
theorem pd15_ : parseMethodDescriptor "([Ljava/lang/Object;)Ljava/util/List;" = some ⟨[(.array (.object s7_))], some (.object s16_)⟩ := by decide +kernel
theorem pd16_ : parseMethodDescriptor "(Ljava/util/List;)Ljava/util/List;" = some ⟨[(.object s16_)], some (.object s16_)⟩ := by decide +kernel
theorem pd17_ : parseMethodDescriptor "(Ljava/lang/String;[ILjava/util/List;Lcom/example/rewrought/rewrought/TermNames;Z)V" = some ⟨[(.object s3_), (.array .int), (.object s16_), (.object "com/example/rewrought/rewrought/TermNames"), .boolean], none⟩ := by decide +kernel
theorem pd18_ : parseMethodDescriptor "()Lcom/example/rewrought/rewrought/ConjunctiveQuery;" = some ⟨[], some (.object s2_)⟩ := by decide +kernel
theorem pd19_ : parseMethodDescriptor "()J" = some ⟨[], some .long⟩ := by decide +kernel
theorem pd20_ : parseMethodDescriptor "(Lcom/example/rewrought/rewrought/Descendant;Z)I" = some ⟨[(.object s34_), .boolean], some .int⟩ := by decide +kernel
theorem pd21_ : parseMethodDescriptor "(Ljava/lang/Object;)V" = some ⟨[(.object s7_)], none⟩ := by decide +kernel
theorem pd22_ : parseMethodDescriptor "([Ljava/lang/Object;I)Ljava/lang/Object;" = some ⟨[(.array (.object s7_)), .int], some (.object s7_)⟩ := by decide +kernel
theorem pd23_ : parseMethodDescriptor "()Ljava/lang/Object;" = some ⟨[], some (.object s7_)⟩ := by decide +kernel
theorem pd24_ : parseMethodDescriptor "(I)Ljava/lang/Integer;" = some ⟨[.int], some (.object s63_)⟩ := by decide +kernel
theorem pd25_ : parseMethodDescriptor "()Ljava/util/List;" = some ⟨[], some (.object s16_)⟩ := by decide +kernel
theorem pd26_ : parseMethodDescriptor "(Lcom/example/rewrought/rewrought/Descendant;)I" = some ⟨[(.object s34_)], some .int⟩ := by decide +kernel
theorem pd27_ : parseMethodDescriptor "(IZ)I" = some ⟨[.int, .boolean], some .int⟩ := by decide +kernel
theorem pd28_ : parseMethodDescriptor "(I)Z" = some ⟨[.int], some .boolean⟩ := by decide +kernel
theorem pd29_ : parseMethodDescriptor "(Ljava/lang/String;[ILjava/util/List;Lcom/example/rewrought/rewrought/TermNames;)V" = some ⟨[(.object s3_), (.array .int), (.object s16_), (.object "com/example/rewrought/rewrought/TermNames")], none⟩ := by decide +kernel
theorem pd30_ : parseMethodDescriptor "(Lcom/example/rewrought/rewrought/ConjunctiveQuery;[I)V" = some ⟨[(.object s2_), (.array .int)], none⟩ := by decide +kernel
theorem pd31_ : parseMethodDescriptor "(ZZ)V" = some ⟨[.boolean, .boolean], none⟩ := by decide +kernel
theorem pd32_ : parseMethodDescriptor "(Lcom/example/rewrought/rewrought/Descendant;IZZ)I" = some ⟨[(.object s34_), .int, .boolean, .boolean], some .int⟩ := by decide +kernel
theorem pd33_ : parseMethodDescriptor "(IZ)V" = some ⟨[.int, .boolean], none⟩ := by decide +kernel
theorem pd34_ : parseMethodDescriptor "(II[I)V" = some ⟨[.int, .int, (.array .int)], none⟩ := by decide +kernel
abbrev y1_ : MethodName := ⟨s6_, "<init>", "()V"⟩
abbrev y2_ : MethodName := ⟨s5_, "<init>", "()V"⟩
abbrev y3_ : MethodName := ⟨s4_, "<init>", "()V"⟩
abbrev y4_ : MethodName := ⟨s41_, "<init>", "()V"⟩
abbrev y5_ : MethodName := ⟨s40_, "<init>", "()V"⟩
abbrev y6_ : MethodName := ⟨s57_, "<init>", "()V"⟩
abbrev y7_ : MethodName := ⟨s47_, "max", "(II)I"⟩
abbrev y8_ : MethodName := ⟨s47_, "min", "(II)I"⟩
abbrev y9_ : MethodName := ⟨s48_, "newLength", "(III)I"⟩
abbrev y10_ : MethodName := ⟨s49_, "copyOf", s52_⟩
abbrev y11_ : MethodName := ⟨s49_, "copyOf", s50_⟩
abbrev y12_ : MethodName := ⟨s4_, "grow", s46_⟩
abbrev y13_ : MethodName := ⟨s4_, "grow", s45_⟩
abbrev y14_ : MethodName := ⟨s4_, "add", s44_⟩
abbrev y15_ : MethodName := ⟨s4_, "add", s43_⟩
abbrev y16_ : MethodName := ⟨s39_, "<init>", "()V"⟩
abbrev y17_ : MethodName := ⟨s16_, "add", s43_⟩
abbrev y18_ : MethodName := ⟨s4_, "size", "()I"⟩
abbrev y19_ : MethodName := ⟨s20_, "<init>", s21_⟩
abbrev y20_ : MethodName := ⟨s4_, "iterator", s18_⟩
abbrev y21_ : MethodName := ⟨s20_, "hasNext", "()Z"⟩
abbrev y22_ : MethodName := ⟨s16_, "of", s24_⟩
abbrev y23_ : MethodName := ⟨s29_, "size", "()I"⟩
abbrev y24_ : MethodName := ⟨s31_, "<init>", s32_⟩
abbrev y25_ : MethodName := ⟨s30_, "iterator", s18_⟩
abbrev y26_ : MethodName := ⟨s30_, "size", "()I"⟩
abbrev y27_ : MethodName := ⟨s31_, "hasNext", "()Z"⟩
abbrev y28_ : MethodName := ⟨s2_, "distinct", s15_⟩
abbrev y29_ : MethodName := ⟨s16_, "size", "()I"⟩
abbrev y30_ : MethodName := ⟨s16_, "iterator", s18_⟩
abbrev y31_ : MethodName := ⟨s19_, "hasNext", "()Z"⟩
abbrev y32_ : MethodName := ⟨s2_, "<init>", s11_⟩
abbrev y33_ : MethodName := ⟨s2_, "<init>", s10_⟩
abbrev y34_ : MethodName := ⟨s34_, "<init>", s35_⟩
abbrev y35_ : MethodName := ⟨s38_, "<init>", "()V"⟩
abbrev y36_ : MethodName := ⟨s34_, "cq", s62_⟩
abbrev y37_ : MethodName := ⟨s2_, "predicateMask", "()J"⟩
abbrev y38_ : MethodName := ⟨s38_, "append", s61_⟩
abbrev y39_ : MethodName := ⟨s38_, "admitApart", s60_⟩
abbrev y40_ : MethodName := ⟨s63_, "valueOf", s64_⟩
abbrev y41_ : MethodName := ⟨s63_, "intValue", "()I"⟩
abbrev y42_ : MethodName := ⟨s57_, "inc", "(II)I"⟩
abbrev y43_ : MethodName := ⟨s57_, "addLast", s68_⟩
abbrev y44_ : MethodName := ⟨s57_, "add", s43_⟩
abbrev y45_ : MethodName := ⟨s57_, "isEmpty", "()Z"⟩
abbrev y46_ : MethodName := ⟨s57_, "elementAt", s70_⟩
abbrev y47_ : MethodName := ⟨s57_, "pollFirst", s13_⟩
abbrev y48_ : MethodName := ⟨s57_, "removeFirst", s13_⟩
abbrev y49_ : MethodName := ⟨s57_, "remove", s13_⟩
abbrev y50_ : MethodName := ⟨s37_, "<init>", "(ZZ)V"⟩
abbrev y51_ : MethodName := ⟨s16_, "of", s71_⟩
abbrev y52_ : MethodName := ⟨s37_, "admitted", "(IZ)I"⟩
abbrev y53_ : MethodName := ⟨s67_, "add", s43_⟩
abbrev y54_ : MethodName := ⟨s37_, "addRecorded", s59_⟩
abbrev y55_ : MethodName := ⟨s37_, "finish", "(IZ)V"⟩
abbrev y56_ : MethodName := ⟨s37_, "link", "(II[I)V"⟩
abbrev y57_ : MethodName := ⟨s37_, "expanded", "(I)Z"⟩
abbrev y58_ : MethodName := ⟨s37_, "complete", "(I)Z"⟩
abbrev y59_ : MethodName := ⟨s38_, "holds", "(I)Z"⟩
abbrev y60_ : MethodName := ⟨s37_, "next", "()I"⟩
abbrev y61_ : MethodName := ⟨s67_, "isEmpty", "()Z"⟩
abbrev y62_ : MethodName := ⟨s67_, "remove", s13_⟩
abbrev f1_ (Z : State) (h : Heap) (a : Addr) (v : Value) : Prop := Fld Z h a s20_ "cursor" "I" v
abbrev f2_ (Z : State) (h : Heap) (a : Addr) (v : Value) : Prop := Fld Z h a s20_ "this$0" s22_ v
abbrev f3_ (Z : State) (h : Heap) (a : Addr) (v : Value) : Prop := Fld Z h a s29_ "elements" s9_ v
abbrev f4_ (Z : State) (h : Heap) (a : Addr) (v : Value) : Prop := Fld Z h a s2_ "_body" s27_ v
abbrev f5_ (Z : State) (h : Heap) (a : Addr) (v : Value) : Prop := Fld Z h a s2_ "_fresh" "I" v
abbrev f6_ (Z : State) (h : Heap) (a : Addr) (v : Value) : Prop := Fld Z h a s2_ "_head" "[I" v
abbrev f7_ (Z : State) (h : Heap) (a : Addr) (v : Value) : Prop := Fld Z h a s2_ "_headName" s12_ v
abbrev f8_ (Z : State) (h : Heap) (a : Addr) (v : Value) : Prop := Fld Z h a s2_ "_mask" "J" v
abbrev f9_ (Z : State) (h : Heap) (a : Addr) (v : Value) : Prop := Fld Z h a s2_ "_names" s28_ v
abbrev f10_ (Z : State) (h : Heap) (a : Addr) (v : Value) : Prop := Fld Z h a s31_ "cursor" "I" v
abbrev f11_ (Z : State) (h : Heap) (a : Addr) (v : Value) : Prop := Fld Z h a s31_ "size" "I" v
abbrev f12_ (Z : State) (h : Heap) (a : Addr) (v : Value) : Prop := Fld Z h a s34_ "_cq" s36_ v
abbrev f13_ (Z : State) (h : Heap) (a : Addr) (v : Value) : Prop := Fld Z h a s34_ "_images" "[I" v
abbrev f14_ (Z : State) (h : Heap) (a : Addr) (v : Value) : Prop := Fld Z h a s37_ "_axiomSets" "Z" v
abbrev f15_ (Z : State) (h : Heap) (a : Addr) (v : Value) : Prop := Fld Z h a s37_ "_children" s27_ v
abbrev f16_ (Z : State) (h : Heap) (a : Addr) (v : Value) : Prop := Fld Z h a s37_ "_complete" "[Z" v
abbrev f17_ (Z : State) (h : Heap) (a : Addr) (v : Value) : Prop := Fld Z h a s37_ "_dropped" s27_ v
abbrev f18_ (Z : State) (h : Heap) (a : Addr) (v : Value) : Prop := Fld Z h a s37_ "_droppedSteps" s27_ v
abbrev f19_ (Z : State) (h : Heap) (a : Addr) (v : Value) : Prop := Fld Z h a s37_ "_expanded" "[Z" v
abbrev f20_ (Z : State) (h : Heap) (a : Addr) (v : Value) : Prop := Fld Z h a s37_ "_linked" "Z" v
abbrev f21_ (Z : State) (h : Heap) (a : Addr) (v : Value) : Prop := Fld Z h a s37_ "_lost" "[Z" v
abbrev f22_ (Z : State) (h : Heap) (a : Addr) (v : Value) : Prop := Fld Z h a s37_ "_steps" s27_ v
abbrev f23_ (Z : State) (h : Heap) (a : Addr) (v : Value) : Prop := Fld Z h a s37_ "_union" s56_ v
abbrev f24_ (Z : State) (h : Heap) (a : Addr) (v : Value) : Prop := Fld Z h a s37_ "_waiting" s58_ v
abbrev f25_ (Z : State) (h : Heap) (a : Addr) (v : Value) : Prop := Fld Z h a s38_ "_held" "[Z" v
abbrev f26_ (Z : State) (h : Heap) (a : Addr) (v : Value) : Prop := Fld Z h a s38_ "_masks" "[J" v
abbrev f27_ (Z : State) (h : Heap) (a : Addr) (v : Value) : Prop := Fld Z h a s38_ "_members" s27_ v
abbrev f28_ (Z : State) (h : Heap) (a : Addr) (v : Value) : Prop := Fld Z h a s38_ "_size" "I" v
abbrev f29_ (Z : State) (h : Heap) (a : Addr) (v : Value) : Prop := Fld Z h a s39_ "_underBit" s27_ v
abbrev f30_ (Z : State) (h : Heap) (a : Addr) (v : Value) : Prop := Fld Z h a s39_ "_withBit" s27_ v
abbrev f31_ (Z : State) (h : Heap) (a : Addr) (v : Value) : Prop := Fld Z h a s4_ "elementData" s9_ v
abbrev f32_ (Z : State) (h : Heap) (a : Addr) (v : Value) : Prop := Fld Z h a s4_ "size" "I" v
abbrev f33_ (Z : State) (h : Heap) (a : Addr) (v : Value) : Prop := Fld Z h a s57_ "elements" s9_ v
abbrev f34_ (Z : State) (h : Heap) (a : Addr) (v : Value) : Prop := Fld Z h a s57_ "head" "I" v
abbrev f35_ (Z : State) (h : Heap) (a : Addr) (v : Value) : Prop := Fld Z h a s57_ "tail" "I" v
abbrev f36_ (Z : State) (h : Heap) (a : Addr) (v : Value) : Prop := Fld Z h a s5_ "modCount" "I" v
abbrev f37_ (Z : State) (h : Heap) (a : Addr) (v : Value) : Prop := Fld Z h a s63_ "value" "I" v
abbrev dD3 (n : Nat) (i : Instr) (k : Nat) : Prop := decode jdk_22_method_1_code n = .ok (i, k)
theorem D3_0 : dD3 0 (.aload_n 0) 1 := by decide +kernel
theorem D3_1 : dD3 1 (.invokespecial 1) 3 := by decide +kernel
theorem D3_4 : dD3 4 .return_ 1 := by decide +kernel
def Q_rm_ac (Z : State) (tt : Addr) (h0 : Heap) (n0 : Nat) (v : Option Value) (h : Heap) (L : List Loc) : Prop := v = none ∧ Fr n0 L ∧ h = h0
theorem rm_ac (l : Launch) (Z : State) (a0 : Array Value) (hw : own_Wd Z a0) (ws : List Jvm.Cond) (tt : Addr) (h0 : Heap) (n0 : Nat) (O0 : Old Z n0 h0) :
  own_M l Z ws y1_ jdk_22_method_1_code 1 none ({ frames := 1, cells := 0, slots := 0, locals := 12 } : Room) #[(.ref tt)] h0 (Q_rm_ac Z tt h0 n0) := by
 refine own_open O0 (plainFor_of_name pn1_) (L0 := #[.val (.ref tt)]) ?_
 intro p e s m below meth c s₁ Bd hx hby hml hZ hh hown hnm X0 e0 N0 Z0
 refine o_al X0 hx hby D3_0 rfl rfl ?_
 obtain ⟨T1, X1, e1, st1⟩ := initO X0 hx hZ hown (w_ hw 30 rfl) (w_ hw 31 rfl) (w_ hw 32 rfl) e0 (g := (mkF m 1 #[.val (.ref tt)] [(.ref tt)])) rfl (by rw [hml]; rfl) rfl (hb hby D3_1) (by decide) (W := 0) (by show 2 * 0 + _ ≤ _; exact Nat.le_of_eq rfl) (by decide)
 refine ob_ st1 ?_
 exact o_rv Bd X1 hx hby e1 D3_4 ⟨rfl, N0, rfl⟩
abbrev dD2 (n : Nat) (i : Instr) (k : Nat) : Prop := decode jdk_39_method_1_code n = .ok (i, k)
theorem D2_0 : dD2 0 (.aload_n 0) 1 := by decide +kernel
theorem D2_1 : dD2 1 (.invokespecial 1) 3 := by decide +kernel
theorem D2_4 : dD2 4 (.aload_n 0) 1 := by decide +kernel
theorem D2_5 : dD2 5 (.iconst 0) 1 := by decide +kernel
theorem D2_6 : dD2 6 (.putfield 7) 3 := by decide +kernel
theorem D2_9 : dD2 9 .return_ 1 := by decide +kernel
def Q_rm_ab (Z : State) (tt : Addr) (h0 : Heap) (n0 : Nat) (v : Option Value) (h : Heap) (L : List Loc) : Prop := v = none ∧ Fr n0 L ∧ Keep h0 h [tt] ∧ Exa Z h tt s4_ ∧ f32_ Z h tt v0_ ∧ f36_ Z h tt v0_ ∧ f31_ Z h tt .null
theorem rm_ab (l : Launch) (Z : State) (a0 : Array Value) (hw : own_Wd Z a0) (ws : List Jvm.Cond) (tt : Addr) (h0 : Heap) (n0 : Nat) (O0 : Old Z n0 h0) (Pf0 : Exa Z h0 tt s4_) (Pf1 : f32_ Z h0 tt v0_) (Pf2 : f36_ Z h0 tt v0_) (Pf3 : f31_ Z h0 tt .null) (gt_tt : n0 ≤ tt) :
  own_M l Z ws y2_ jdk_39_method_1_code 1 none ({ frames := 2, cells := 0, slots := 0, locals := 24 } : Room) #[(.ref tt)] h0 (Q_rm_ab Z tt h0 n0) := by
 refine own_open O0 (plainFor_of_name pn2_) (L0 := #[.val (.ref tt)]) ?_
 intro p e s m below meth c s₁ Bd hx hby hml hZ hh hown hnm X0 e0 N0 Z0
 have lt_Pf0 := eG Pf0
 refine o_al X0 hx hby D2_0 rfl rfl ?_
 refine o_k 3 (X0.specialBack hx (y := y1_) rfl hown (mw hZ hw 24 rfl) (mw hZ hw 25 rfl) (mw hZ hw 29 rfl) (by decide) (bk 0 hZ hw 29 28 (rm_ac l Z a0 hw [] tt h0 n0 O0)) (g := (mkF m 1 #[.val (.ref tt)] [(.ref tt)])) rfl hml.symm (Steps.refl _) (a := tt) (argsL := []) (rest := []) (lenOf pd1_ rfl) rfl own_z (hb hby D2_1) (o4 e0 0 0 0 0)) fun T1 Lc1 _ X1 hQ1 => ?_
 obtain ⟨rfl, M1, K1⟩ := hQ1
 have N1 := Fr.app N0 M1
 refine o_al X1 hx hby D2_4 rfl rfl ?_
 refine o_ic X1 hx hby D2_5 ?_
 obtain ⟨T2, h2, X2, e2, W2, st2⟩ := putF X1 hx hZ hown (host := "") (Or.inl (w_ hw 33 rfl)) Via.refl K1 Pf2 Pf0 (Or.inl (w_ hw 34 rfl)) (w_ hw 13 rfl) (ty := .int) (by decide) rfl rfl (g := (mkF m 6 #[.val (.ref tt)] [v0_, (.ref tt)])) rfl rfl (hb hby D2_6)
 refine ob_ st2 ?_
 have z2 := W2.size
 have N2 := Fr.snoc X2 N1 gt_tt
 have Fw2 : f36_ Z h2 tt v0_ := Pf2.same W2
 have fc3 := (Pf0.wr W2)
 have fc4 := (Pf1.other W2 (sO (Or.inl (w_ hw 73 rfl)) (Or.inl (w_ hw 34 rfl))))
 have fc5 := (Pf3.other W2 (sO (Or.inl (w_ hw 37 rfl)) (Or.inl (w_ hw 34 rfl))))
 have K6 : Keep h0 h2 [tt] := ((Keep.refl h0 [tt]).wr W2 (Or.inl (List.mem_of_getElem? (i := 0) rfl)))
 exact o_rv Bd X2 hx hby e2 D2_9 ⟨rfl, N2, K6, fc3, fc4, Fw2, fc5⟩
abbrev dD1 (n : Nat) (i : Instr) (k : Nat) : Prop := decode jdk_38_method_2_code n = .ok (i, k)
theorem D1_0 : dD1 0 (.aload_n 0) 1 := by decide +kernel
theorem D1_1 : dD1 1 (.invokespecial 1) 3 := by decide +kernel
theorem D1_4 : dD1 4 (.aload_n 0) 1 := by decide +kernel
theorem D1_5 : dD1 5 (.getstatic 39) 3 := by decide +kernel
theorem D1_8 : dD1 8 (.putfield 9) 3 := by decide +kernel
theorem D1_11 : dD1 11 .return_ 1 := by decide +kernel
def Q_rm_ai (Z : State) (tt dce : Addr) (kce : ClassId) (h0 : Heap) (n0 : Nat) (v : Option Value) (h : Heap) (L : List Loc) : Prop := v = none ∧ Fr n0 L ∧ Keep h0 h [tt] ∧ Exa Z h tt s4_ ∧ f32_ Z h tt v0_ ∧ f36_ Z h tt v0_ ∧ f31_ Z h tt (.ref dce)
theorem rm_ai (l : Launch) (Z : State) (a0 : Array Value) (hw : own_Wd Z a0) (ws : List Jvm.Cond) (tt dce : Addr) (kce : ClassId) (h0 : Heap) (n0 : Nat) (O0 : Old Z n0 h0) (S_DCE : Sta Z Z.heap s4_ s8_ s9_ (.ref dce)) (A_DCE : Arv Z Z.heap dce kce (.object s7_) (0 : Int32) [] .null) (E_DCE : Exa Z Z.heap dce s9_) (Pf0 : Exa Z h0 tt s4_) (Pf1 : f32_ Z h0 tt v0_) (Pf2 : f36_ Z h0 tt v0_) (Pf3 : f31_ Z h0 tt .null) (gt_tt : n0 ≤ tt) :
  own_M l Z ws y3_ jdk_38_method_2_code 1 none ({ frames := 3, cells := 0, slots := 0, locals := 36 } : Room) #[(.ref tt)] h0 (Q_rm_ai Z tt dce kce h0 n0) := by
 refine own_open O0 (plainFor_of_name pn3_) (L0 := #[.val (.ref tt)]) ?_
 intro p e s m below meth c s₁ Bd hx hby hml hZ hh hown hnm X0 e0 N0 Z0
 have lt_Pf0 := eG Pf0
 refine o_al X0 hx hby D1_0 rfl rfl ?_
 refine o_k 3 (X0.specialBack hx (y := y2_) rfl hown (mw hZ hw 18 rfl) (mw hZ hw 19 rfl) (mw hZ hw 23 rfl) (by decide) (bk 0 hZ hw 23 22 (rm_ab l Z a0 hw [] tt h0 n0 O0 Pf0 Pf1 Pf2 Pf3 gt_tt)) (g := (mkF m 1 #[.val (.ref tt)] [(.ref tt)])) rfl hml.symm (Steps.refl _) (a := tt) (argsL := []) (rest := []) (lenOf pd1_ rfl) rfl own_z (hb hby D1_1) (o4 e0 0 0 0 0)) fun T1 Lc1 _ X1 hQ1 => ?_
 obtain ⟨rfl, M1, K1, g1_0, g1_1, g1_2, g1_3⟩ := hQ1
 have N1 := Fr.app N0 M1
 have z1 := K1.1
 have lt_g1_0 := eG g1_0
 refine o_al X1 hx hby D1_4 rfl rfl ?_
 have O2 : Old Z n0 T1.heap := (O0.keep K1 (allS gt_tt all0))
 obtain ⟨T3, X3, e3, st3⟩ := getS2 X1 hx hZ hown (host := "") (Or.inl (w_ hw 35 rfl)) Via.refl rfl (S_DCE.ext O2.2) (g := (mkF m 5 #[.val (.ref tt)] [(.ref tt)])) rfl (hb hby D1_5)
 refine ob_ st3 ?_
 obtain ⟨T4, h4, X4, e4, W4, st4⟩ := putF X3 hx hZ hown (host := "") (Or.inl (w_ hw 36 rfl)) Via.refl e3 g1_3 g1_0 (Or.inl (w_ hw 37 rfl)) (w_ hw 13 rfl) (ty := (.array (.object s7_))) (by decide) rfl rfl (g := (mkF m 8 #[.val (.ref tt)] [(.ref dce), (.ref tt)])) rfl rfl (hb hby D1_8)
 refine ob_ st4 ?_
 have z4 := W4.size
 have N4 := Fr.snoc X4 N1 gt_tt
 have Fw4 : f31_ Z h4 tt (.ref dce) := g1_3.same W4
 have fc5 := (g1_0.wr W4)
 have fc6 := (g1_1.other W4 (sO (Or.inl (w_ hw 73 rfl)) (Or.inl (w_ hw 37 rfl))))
 have fc7 := (g1_2.other W4 (sO (Or.inl (w_ hw 34 rfl)) (Or.inl (w_ hw 37 rfl))))
 have K8 : Keep h0 h4 [tt] := (((Keep.refl h0 [tt]).trans K1 (kI 0 rfl all0)).wr W4 (Or.inl (List.mem_of_getElem? (i := 0) rfl)))
 exact o_rv Bd X4 hx hby e4 D1_11 ⟨rfl, N4, K8, fc5, fc6, fc7, Fw4⟩
abbrev dD22 (n : Nat) (i : Instr) (k : Nat) : Prop := decode jdk_71_method_1_code n = .ok (i, k)
theorem D22_0 : dD22 0 (.aload_n 0) 1 := by decide +kernel
theorem D22_1 : dD22 1 (.invokespecial 1) 3 := by decide +kernel
theorem D22_4 : dD22 4 .return_ 1 := by decide +kernel
def Q_rm_am (Z : State) (tt : Addr) (h0 : Heap) (n0 : Nat) (v : Option Value) (h : Heap) (L : List Loc) : Prop := v = none ∧ Fr n0 L ∧ h = h0
theorem rm_am (l : Launch) (Z : State) (a0 : Array Value) (hw : own_Wd Z a0) (ws : List Jvm.Cond) (tt : Addr) (h0 : Heap) (n0 : Nat) (O0 : Old Z n0 h0) :
  own_M l Z ws y4_ jdk_71_method_1_code 1 none ({ frames := 1, cells := 0, slots := 0, locals := 12 } : Room) #[(.ref tt)] h0 (Q_rm_am Z tt h0 n0) := by
 refine own_open O0 (plainFor_of_name pn4_) (L0 := #[.val (.ref tt)]) ?_
 intro p e s m below meth c s₁ Bd hx hby hml hZ hh hown hnm X0 e0 N0 Z0
 refine o_al X0 hx hby D22_0 rfl rfl ?_
 obtain ⟨T1, X1, e1, st1⟩ := initO X0 hx hZ hown (w_ hw 218 rfl) (w_ hw 31 rfl) (w_ hw 32 rfl) e0 (g := (mkF m 1 #[.val (.ref tt)] [(.ref tt)])) rfl (by rw [hml]; rfl) rfl (hb hby D22_1) (by decide) (W := 0) (by show 2 * 0 + _ ≤ _; exact Nat.le_of_eq rfl) (by decide)
 refine ob_ st1 ?_
 exact o_rv Bd X1 hx hby e1 D22_4 ⟨rfl, N0, rfl⟩
abbrev dD21 (n : Nat) (i : Instr) (k : Nat) : Prop := decode jdk_69_method_7_code n = .ok (i, k)
theorem D21_0 : dD21 0 (.aload_n 0) 1 := by decide +kernel
theorem D21_1 : dD21 1 (.invokespecial 43) 3 := by decide +kernel
theorem D21_4 : dD21 4 (.aload_n 0) 1 := by decide +kernel
theorem D21_5 : dD21 5 (.ldc 92) 2 := by decide +kernel
theorem D21_7 : dD21 7 (.putfield 81) 3 := by decide +kernel
theorem D21_10 : dD21 10 .return_ 1 := by decide +kernel
def Q_rm_hm (Z : State) (tt : Addr) (h0 : Heap) (n0 : Nat) (v : Option Value) (h : Heap) (L : List Loc) : Prop := v = none ∧ Fr n0 L ∧ Keep h0 h [tt] ∧ Exa Z h tt s40_
theorem rm_hm (l : Launch) (Z : State) (a0 : Array Value) (hw : own_Wd Z a0) (ws : List Jvm.Cond) (tt : Addr) (h0 : Heap) (n0 : Nat) (O0 : Old Z n0 h0) (Et : Exa Z h0 tt s40_) (Ft : Fld Z h0 tt s40_ "loadFactor" "F" (.float (0 : UInt32))) (gt_tt : n0 ≤ tt) :
  own_M l Z ws y5_ jdk_69_method_7_code 1 none ({ frames := 2, cells := 0, slots := 0, locals := 24 } : Room) #[(.ref tt)] h0 (Q_rm_hm Z tt h0 n0) := by
 refine own_open O0 (plainFor_of_name pn5_) (L0 := #[.val (.ref tt)]) ?_
 intro p e s m below meth c s₁ Bd hx hby hml hZ hh hown hnm X0 e0 N0 Z0
 have lt_Et := eG Et
 refine o_al X0 hx hby D21_0 rfl rfl ?_
 refine o_k 3 (X0.specialBack hx (y := y4_) rfl hown (mw hZ hw 212 rfl) (mw hZ hw 213 rfl) (mw hZ hw 217 rfl) (by decide) (bk 0 hZ hw 217 216 (rm_am l Z a0 hw [] tt h0 n0 O0)) (g := (mkF m 1 #[.val (.ref tt)] [(.ref tt)])) rfl hml.symm (Steps.refl _) (a := tt) (argsL := []) (rest := []) (lenOf pd1_ rfl) rfl own_z (hb hby D21_1) (o4 e0 0 0 0 0)) fun T1 Lc1 _ X1 hQ1 => ?_
 obtain ⟨rfl, M1, K1⟩ := hQ1
 have N1 := Fr.app N0 M1
 refine o_al X1 hx hby D21_4 rfl rfl ?_
 refine ob_ (X1.ldcFloatC hx hown (mvT hZ (w_ hw 219 rfl)) (g := (mkF m 5 #[.val (.ref tt)] [(.ref tt)])) rfl (hb hby D21_5)) ?_
 obtain ⟨T2, h2, X2, e2, W2, st2⟩ := putF X1 hx hZ hown (host := "") (Or.inl (w_ hw 220 rfl)) Via.refl K1 Ft Et (Or.inr ⟨(w_ hw 221 rfl), rfl, hnm⟩) (w_ hw 207 rfl) (ty := .float) (by decide) rfl rfl (g := (mkF m 7 #[.val (.ref tt)] [(.float (1061158912 : UInt32)), (.ref tt)])) rfl rfl (hb hby D21_7)
 refine ob_ st2 ?_
 have z2 := W2.size
 have N2 := Fr.snoc X2 N1 gt_tt
 have Fw2 : Fld Z h2 tt s40_ "loadFactor" "F" (.float (1061158912 : UInt32)) := Ft.same W2
 have fc3 := (Et.wr W2)
 have K4 : Keep h0 h2 [tt] := ((Keep.refl h0 [tt]).wr W2 (Or.inl (List.mem_of_getElem? (i := 0) rfl)))
 exact o_rv Bd X2 hx hby e2 D21_10 ⟨rfl, N2, K4, fc3⟩
abbrev dD32 (n : Nat) (i : Instr) (k : Nat) : Prop := decode jdk_21_method_3_code n = .ok (i, k)
theorem D32_0 : dD32 0 (.aload_n 0) 1 := by decide +kernel
theorem D32_1 : dD32 1 (.invokespecial 42) 3 := by decide +kernel
theorem D32_4 : dD32 4 (.aload_n 0) 1 := by decide +kernel
theorem D32_5 : dD32 5 (.bipush 17) 2 := by decide +kernel
theorem D32_7 : dD32 7 (.anewarray 47) 3 := by decide +kernel
theorem D32_10 : dD32 10 (.putfield 3) 3 := by decide +kernel
theorem D32_13 : dD32 13 .return_ 1 := by decide +kernel
def Q_rm_dq (Z : State) (tt : Addr) (h0 : Heap) (n0 : Nat) (v : Option Value) (h : Heap) (L : List Loc) : Prop := ∃ (de : Addr) (kde : ClassId), v = none ∧ Fr n0 L ∧ Keep h0 h [tt] ∧ Exa Z h tt s57_ ∧ f34_ Z h tt v0_ ∧ f35_ Z h tt v0_ ∧ f33_ Z h tt (.ref de) ∧ Arv Z h de kde (.object s7_) (17 : Int32) [] .null ∧ Ovr Z kde s7_ ∧ h0.size ≤ de
theorem rm_dq (l : Launch) (Z : State) (a0 : Array Value) (hw : own_Wd Z a0) (ws : List Jvm.Cond) (tt : Addr) (h0 : Heap) (n0 : Nat) (O0 : Old Z n0 h0) (Pf0 : Exa Z h0 tt s57_) (Pf1 : f34_ Z h0 tt v0_) (Pf2 : f35_ Z h0 tt v0_) (Pf3 : f33_ Z h0 tt .null) (gt_tt : n0 ≤ tt) :
  own_M l Z ws y6_ jdk_21_method_3_code 1 none ({ frames := 2, cells := 1, slots := 17, locals := 24 } : Room) #[(.ref tt)] h0 (Q_rm_dq Z tt h0 n0) := by
 refine own_open O0 (plainFor_of_name pn6_) (L0 := #[.val (.ref tt)]) ?_
 intro p e s m below meth c s₁ Bd hx hby hml hZ hh hown hnm X0 e0 N0 Z0
 have lt_Pf0 := eG Pf0
 refine o_al X0 hx hby D32_0 rfl rfl ?_
 refine o_k 3 (X0.specialBack hx (y := y1_) rfl hown (mw hZ hw 317 rfl) (mw hZ hw 25 rfl) (mw hZ hw 29 rfl) (by decide) (bk 0 hZ hw 29 28 (rm_ac l Z a0 hw [] tt h0 n0 O0)) (g := (mkF m 1 #[.val (.ref tt)] [(.ref tt)])) rfl hml.symm (Steps.refl _) (a := tt) (argsL := []) (rest := []) (lenOf pd1_ rfl) rfl own_z (hb hby D32_1) (o4 e0 0 0 0 0)) fun T1 Lc1 _ X1 hQ1 => ?_
 obtain ⟨rfl, M1, K1⟩ := hQ1
 have N1 := Fr.app N0 M1
 refine o_al X1 hx hby D32_4 rfl rfl ?_
 refine o_bi X1 hx hby D32_5 ?_
 obtain ⟨T2, h2, k2, X2, e2, E2, A2, Ex2, Ov2, st2⟩ := newRE X1 hx hZ hown (w_ hw 319 rfl) (w_ hw 261 rfl) K1 (g := (mkF m 7 #[.val (.ref tt)] [v17_, (.ref tt)])) rfl (hb hby D32_7) rfl (by decide) (cap := 17) (by decide) (by decide) (by decide) (by decide) (ad := s9_) rfl
 obtain ⟨ob2, g2⟩ : ∃ z, z = h0.size := ⟨_, rfl⟩
 rw [← g2] at A2 st2 Ex2
 refine ob_ st2 ?_
 have z2 := E2.1
 have Vw2 : Arv Z h2 ob2 k2 (.object s7_) (17 : Int32) [] .null := Arv.new A2 (by decide)
 have lt2 : h2.size > ob2 := Vw2.lt
 have fc3 := (Pf3.ext E2)
 have fc4 := (Pf0.ext E2)
 obtain ⟨T5, h5, X5, e5, W5, st5⟩ := putF X2 hx hZ hown (host := "") (Or.inl (w_ hw 320 rfl)) Via.refl e2 fc3 fc4 (Or.inl (w_ hw 321 rfl)) (w_ hw 312 rfl) (ty := (.array (.object s7_))) (by decide) rfl rfl (g := (mkF m 10 #[.val (.ref tt)] [(.ref ob2), (.ref tt)])) rfl rfl (hb hby D32_10)
 refine ob_ st5 ?_
 have z5 := W5.size
 have N5 := Fr.snoc X5 N1 gt_tt
 have Fw5 : f33_ Z h5 tt (.ref ob2) := fc3.same W5
 have fc6 := (fc4.wr W5)
 have fc7 := ((Pf1.ext E2).other W5 (sO (Or.inl (w_ hw 385 rfl)) (Or.inl (w_ hw 321 rfl))))
 have fc8 := ((Pf2.ext E2).other W5 (sO (Or.inl (w_ hw 382 rfl)) (Or.inl (w_ hw 321 rfl))))
 have fc9 := (Vw2.other W5 own_o)
 have K10 : Keep h0 h5 [tt] := (((Keep.refl h0 [tt]).ext E2).wr W5 (Or.inl (List.mem_of_getElem? (i := 0) rfl)))
 exact o_rv Bd X5 hx hby e5 D32_13 ⟨ob2, k2, rfl, N5, K10, fc6, fc7, fc8, Fw5, fc9, Ov2, (by first | assumption | omega)⟩
abbrev dD27 (n : Nat) (i : Instr) (k : Nat) : Prop := decode jdk_29_method_65_code n = .ok (i, k)
theorem D27_0 : dD27 0 (.iload_n 0) 1 := by decide +kernel
theorem D27_1 : dD27 1 (.iload_n 1) 1 := by decide +kernel
theorem D27_2 : dD27 2 (.if_icmp .lt 7) 3 := by decide +kernel
theorem D27_5 : dD27 5 (.iload_n 0) 1 := by decide +kernel
theorem D27_6 : dD27 6 (.goto 4) 3 := by decide +kernel
theorem D27_10 : dD27 10 .ireturn 1 := by decide +kernel
def Q_rm_mxA (Z : State) (xa xb : Int32) (h0 : Heap) (n0 : Nat) (v : Option Value) (h : Heap) (L : List Loc) : Prop := v = some (.int xa) ∧ Fr n0 L ∧ h = h0
theorem rm_mxA (l : Launch) (Z : State) (a0 : Array Value) (hw : own_Wd Z a0) (ws : List Jvm.Cond) (xa xb : Int32) (h0 : Heap) (n0 : Nat) (O0 : Old Z n0 h0) (hq : ¬ (xa < xb)) :
  own_M l Z ws y7_ jdk_29_method_65_code 2 (some .int) ({ frames := 0, cells := 0, slots := 0, locals := 0 } : Room) #[(.int xa), (.int xb)] h0 (Q_rm_mxA Z xa xb h0 n0) := by
 refine own_open O0 (Jvm.Free.JP.mathPlain rfl (by decide +kernel)) (L0 := #[.val (.int xa), .val (.int xb)]) ?_
 intro p e s m below meth c s₁ Bd hx hby hml hZ hh hown hnm X0 e0 N0 Z0
 refine o_il X0 hx hby D27_0 rfl ?_
 refine o_il X0 hx hby D27_1 rfl ?_
 refine ob_ (fun _ k => XS.icmpNo X0.here hx rfl (hb hby D27_2) rfl (flt hq).1 k) ?_
 refine o_il X0 hx hby D27_5 rfl ?_
 refine ob_ (fun _ k => XS.goto X0.here hx rfl (pc0 := 6) (pc' := 10) rfl (hb hby D27_6) (by decide) (by decide) k) ?_
 exact o_ri Bd X0 hx hby e0 D27_10 ⟨rfl, N0, rfl⟩
theorem D27_9 : dD27 9 (.iload_n 1) 1 := by decide +kernel
def Q_rm_mxB (Z : State) (xa xb : Int32) (h0 : Heap) (n0 : Nat) (v : Option Value) (h : Heap) (L : List Loc) : Prop := v = some (.int xb) ∧ Fr n0 L ∧ h = h0
theorem rm_mxB (l : Launch) (Z : State) (a0 : Array Value) (hw : own_Wd Z a0) (ws : List Jvm.Cond) (xa xb : Int32) (h0 : Heap) (n0 : Nat) (O0 : Old Z n0 h0) (hq : xa < xb) :
  own_M l Z ws y7_ jdk_29_method_65_code 2 (some .int) ({ frames := 0, cells := 0, slots := 0, locals := 0 } : Room) #[(.int xa), (.int xb)] h0 (Q_rm_mxB Z xa xb h0 n0) := by
 refine own_open O0 (Jvm.Free.JP.mathPlain rfl (by decide +kernel)) (L0 := #[.val (.int xa), .val (.int xb)]) ?_
 intro p e s m below meth c s₁ Bd hx hby hml hZ hh hown hnm X0 e0 N0 Z0
 refine o_il X0 hx hby D27_0 rfl ?_
 refine o_il X0 hx hby D27_1 rfl ?_
 refine ob_ (fun _ k => XS.icmpYes X0.here hx rfl (pc0 := 2) (pc' := 9) rfl (hb hby D27_2) rfl (tlt hq).1 (by decide) (by decide) k) ?_
 refine o_il X0 hx hby D27_9 rfl ?_
 exact o_ri Bd X0 hx hby e0 D27_10 ⟨rfl, N0, rfl⟩
abbrev dD31 (n : Nat) (i : Instr) (k : Nat) : Prop := decode jdk_29_method_69_code n = .ok (i, k)
theorem D31_0 : dD31 0 (.iload_n 0) 1 := by decide +kernel
theorem D31_1 : dD31 1 (.iload_n 1) 1 := by decide +kernel
theorem D31_2 : dD31 2 (.if_icmp .gt 7) 3 := by decide +kernel
theorem D31_5 : dD31 5 (.iload_n 0) 1 := by decide +kernel
theorem D31_6 : dD31 6 (.goto 4) 3 := by decide +kernel
theorem D31_10 : dD31 10 .ireturn 1 := by decide +kernel
def Q_rm_mnA (Z : State) (xa xb : Int32) (h0 : Heap) (n0 : Nat) (v : Option Value) (h : Heap) (L : List Loc) : Prop := v = some (.int xa) ∧ Fr n0 L ∧ h = h0
theorem rm_mnA (l : Launch) (Z : State) (a0 : Array Value) (hw : own_Wd Z a0) (ws : List Jvm.Cond) (xa xb : Int32) (h0 : Heap) (n0 : Nat) (O0 : Old Z n0 h0) (hq : ¬ (xb < xa)) :
  own_M l Z ws y8_ jdk_29_method_69_code 2 (some .int) ({ frames := 0, cells := 0, slots := 0, locals := 0 } : Room) #[(.int xa), (.int xb)] h0 (Q_rm_mnA Z xa xb h0 n0) := by
 refine own_open O0 (Jvm.Free.JP.mathPlain rfl (by decide +kernel)) (L0 := #[.val (.int xa), .val (.int xb)]) ?_
 intro p e s m below meth c s₁ Bd hx hby hml hZ hh hown hnm X0 e0 N0 Z0
 refine o_il X0 hx hby D31_0 rfl ?_
 refine o_il X0 hx hby D31_1 rfl ?_
 refine ob_ (fun _ k => XS.icmpNo X0.here hx rfl (hb hby D31_2) rfl (flt hq).2.2.1 k) ?_
 refine o_il X0 hx hby D31_5 rfl ?_
 refine ob_ (fun _ k => XS.goto X0.here hx rfl (pc0 := 6) (pc' := 10) rfl (hb hby D31_6) (by decide) (by decide) k) ?_
 exact o_ri Bd X0 hx hby e0 D31_10 ⟨rfl, N0, rfl⟩
abbrev dD28 (n : Nat) (i : Instr) (k : Nat) : Prop := decode jdk_48_method_27_code n = .ok (i, k)
theorem D28_0 : dD28 0 (.iload_n 0) 1 := by decide +kernel
theorem D28_1 : dD28 1 (.iload_n 1) 1 := by decide +kernel
theorem D28_2 : dD28 2 (.iload_n 2) 1 := by decide +kernel
theorem D28_3 : dD28 3 (.invokestatic 194) 3 := by decide +kernel
theorem D28_6 : dD28 6 .iadd 1 := by decide +kernel
theorem D28_7 : dD28 7 (.istore_n 3) 1 := by decide +kernel
theorem D28_8 : dD28 8 (.iconst 0) 1 := by decide +kernel
theorem D28_9 : dD28 9 (.iload_n 3) 1 := by decide +kernel
theorem D28_10 : dD28 10 (.if_icmp .ge 11) 3 := by decide +kernel
theorem D28_13 : dD28 13 (.iload_n 3) 1 := by decide +kernel
theorem D28_14 : dD28 14 (.ldc 200) 2 := by decide +kernel
theorem D28_16 : dD28 16 (.if_icmp .gt 5) 3 := by decide +kernel
theorem D28_19 : dD28 19 (.iload_n 3) 1 := by decide +kernel
theorem D28_20 : dD28 20 .ireturn 1 := by decide +kernel
def Q_rm_nl (Z : State) (ol mg pg : Int32) (h0 : Heap) (n0 : Nat) (v : Option Value) (h : Heap) (L : List Loc) : Prop := v = some (.int (ol + pg)) ∧ Fr n0 L ∧ h = h0
theorem rm_nl (l : Launch) (Z : State) (a0 : Array Value) (hw : own_Wd Z a0) (ws : List Jvm.Cond) (ol mg pg : Int32) (h0 : Heap) (n0 : Nat) (O0 : Old Z n0 h0) (hq1 : mg < pg) (hq2 : (0 : Int32) < (ol + pg)) (hq3 : ¬ ((2147483639 : Int32) < (ol + pg))) :
  own_M l Z ws y9_ jdk_48_method_27_code 4 (some .int) ({ frames := 1, cells := 0, slots := 0, locals := 14 } : Room) #[(.int ol), (.int mg), (.int pg)] h0 (Q_rm_nl Z ol mg pg h0 n0) := by
 refine own_open O0 (plainFor_of_name pn8_) (L0 := #[.val (.int ol), .val (.int mg), .val (.int pg), .unset]) ?_
 intro p e s m below meth c s₁ Bd hx hby hml hZ hh hown hnm X0 e0 N0 Z0
 refine o_il X0 hx hby D28_0 rfl ?_
 refine o_il X0 hx hby D28_1 rfl ?_
 refine o_il X0 hx hby D28_2 rfl ?_
 refine o_ks 3 (Jvm.LawKit.callS X0 hx (y := y7_) hown (mw hZ hw 267 rfl) (mw hZ hw 257 rfl) (mw hZ hw 258 rfl) (mw hZ hw 259 rfl) (by decide) (bk 1 hZ hw 259 258 (rm_mxB l Z a0 hw [] mg pg h0 n0 O0 hq1)) (g := (mkF m 3 #[.val (.int ol), .val (.int mg), .val (.int pg), .unset] [(.int pg), (.int mg), (.int ol)])) rfl hml.symm (argsL := [(.int mg), (.int pg)]) (rest := [(.int ol)]) (lenOf pd2_ rfl) rfl own_z (hb hby D28_3) (o4 e0 0 0 0 0)) fun T1 Lc1 _ X1 hQ1 => ?_
 obtain ⟨rfl, M1, K1⟩ := hQ1
 have N1 := Fr.app N0 M1
 refine ob_ (fun _ k => XS.iadd X1.here hx rfl (hb hby D28_6) rfl k) ?_
 refine ob_ (fun _ k => XS.istoreN X1.here hx rfl (hb hby D28_7) rfl (l' := #[.val (.int ol), .val (.int mg), .val (.int pg), .val (.int (ol + pg))]) rfl k) ?_
 refine o_ic X1 hx hby D28_8 ?_
 refine o_il X1 hx hby D28_9 rfl ?_
 refine ob_ (fun _ k => XS.icmpNo X1.here hx rfl (hb hby D28_10) rfl (tlt hq2).2.1 k) ?_
 refine o_il X1 hx hby D28_13 rfl ?_
 refine ob_ (X1.ldcInt hx hown (mvT hZ (w_ hw 268 rfl)) (g := (mkF m 14 #[.val (.int ol), .val (.int mg), .val (.int pg), .val (.int (ol + pg))] [(.int (ol + pg))])) rfl (hb hby D28_14)) ?_
 refine ob_ (fun _ k => XS.icmpNo X1.here hx rfl (hb hby D28_16) rfl (flt hq3).2.2.1 k) ?_
 refine o_il X1 hx hby D28_19 rfl ?_
 exact o_ri Bd X1 hx hby K1 D28_20 ⟨rfl, N1, rfl⟩
abbrev dD30 (n : Nat) (i : Instr) (k : Nat) : Prop := decode jdk_65_method_120_code n = .ok (i, k)
theorem D30_0 : dD30 0 (.aload_n 2) 1 := by decide +kernel
theorem D30_1 : dD30 1 (.ldc 110) 2 := by decide +kernel
theorem D30_3 : dD30 3 (.if_acmp .ne 10) 3 := by decide +kernel
theorem D30_6 : dD30 6 (.iload_n 1) 1 := by decide +kernel
theorem D30_7 : dD30 7 (.anewarray 2) 3 := by decide +kernel
theorem D30_10 : dD30 10 (.goto 14) 3 := by decide +kernel
theorem D30_24 : dD30 24 (.astore_n 3) 1 := by decide +kernel
theorem D30_25 : dD30 25 (.aload_n 0) 1 := by decide +kernel
theorem D30_26 : dD30 26 (.iconst 0) 1 := by decide +kernel
theorem D30_27 : dD30 27 (.aload_n 3) 1 := by decide +kernel
theorem D30_28 : dD30 28 (.iconst 0) 1 := by decide +kernel
theorem D30_29 : dD30 29 (.aload_n 0) 1 := by decide +kernel
theorem D30_30 : dD30 30 .arraylength 1 := by decide +kernel
theorem D30_31 : dD30 31 (.iload_n 1) 1 := by decide +kernel
theorem D30_32 : dD30 32 (.invokestatic 304) 3 := by decide +kernel
theorem D30_35 : dD30 35 (.invokestatic 150) 3 := by decide +kernel
theorem D30_38 : dD30 38 (.aload_n 3) 1 := by decide +kernel
theorem D30_39 : dD30 39 .areturn 1 := by decide +kernel
def Q_rm_cp3 (Z : State) (aa : Addr) (ka : ClassId) (ol : Int32) (vs : List Value) (nl : Int32) (mr : Addr) (h0 : Heap) (n0 : Nat) (v : Option Value) (h : Heap) (L : List Loc) : Prop := ∃ (oo : Addr) (kn : ClassId) (vn : List Value), v = some (.ref oo) ∧ Fr n0 L ∧ Keep h0 h [] ∧ Arv Z h oo kn (.object s7_) nl vn .null ∧ Exa Z h oo s9_ ∧ own_obs Z h vn ∧ Ovr Z kn s7_ ∧ h0.size ≤ oo
theorem rm_cp3 (l : Launch) (Z : State) (a0 : Array Value) (hw : own_Wd Z a0) (ws : List Jvm.Cond) (aa : Addr) (ka : ClassId) (ol : Int32) (vs : List Value) (nl : Int32) (mr : Addr) (h0 : Heap) (n0 : Nat) (O0 : Old Z n0 h0) (hMr : own_Mir Z s9_ mr) (Pa0 : Arv Z h0 aa ka (.object s7_) ol vs .null) (Pa1 : Exa Z h0 aa s9_) (Pa2 : own_obs Z h0 vs) (hq1 : ¬ (nl < ol)) (hq2 : nl.toInt ≤ 110) (hq3 : 0 ≤ ol.toInt) (hq4 : ol.toInt ≤ nl.toInt) :
  own_M l Z ws y10_ jdk_65_method_120_code 4 (some (.array (.object s7_))) ({ frames := 1, cells := 1, slots := 110, locals := 18 } : Room) #[(.ref aa), (.int nl), (.ref mr)] h0 (Q_rm_cp3 Z aa ka ol vs nl mr h0 n0) := by
 refine own_open O0 (plainFor_of_name pn9_) (L0 := #[.val (.ref aa), .val (.int nl), .val (.ref mr), .unset]) ?_
 intro p e s m below meth c s₁ Bd hx hby hml hZ hh hown hnm X0 e0 N0 Z0
 have lt_Pa0 := vG Pa0
 refine o_al X0 hx hby D30_0 rfl rfl ?_
 obtain ⟨T1, X1, e1, st1⟩ := own_ldcM X0 hx hZ hown (w_ hw 282 rfl) e0 hMr (g := (mkF m 1 #[.val (.ref aa), .val (.int nl), .val (.ref mr), .unset] [(.ref mr)])) rfl (hb hby D30_1)
 refine ob_ st1 ?_
 refine ob_ (fun _ k => Jvm.RoadKit.acmp (g := (mkF m 3 #[.val (.ref aa), .val (.int nl), .val (.ref mr), .unset] [(.ref mr), (.ref mr)])) X1 hx rfl rfl rfl (pc0 := 3) (pc' := 6) (same := true) rfl (hb hby D30_3) rfl (decide_eq_true rfl) (by decide) (by decide) k) ?_
 refine o_il X1 hx hby D30_6 rfl ?_
 obtain ⟨T2, h2, k2, X2, e2, E2, A2, Ex2, Ov2, st2⟩ := newRE X1 hx hZ hown (w_ hw 283 rfl) (w_ hw 261 rfl) e1 (g := (mkF m 7 #[.val (.ref aa), .val (.int nl), .val (.ref mr), .unset] [(.int nl)])) rfl (hb hby D30_7) rfl (own_nlt (show (0 : Int) ≤ (nl : Int32).toInt by omega)) (cap := 110) (own_cap (by omega)) (by decide) (by decide) (by decide) (ad := s9_) rfl
 obtain ⟨ob2, g2⟩ : ∃ z, z = h0.size := ⟨_, rfl⟩
 rw [← g2] at A2 st2 Ex2
 refine ob_ st2 ?_
 have z2 := E2.1
 have Vw2 : Arv Z h2 ob2 k2 (.object s7_) nl [] .null := Arv.new A2 (own_nlt (show (0 : Int) ≤ (nl : Int32).toInt by omega))
 have lt2 : h2.size > ob2 := Vw2.lt
 refine ob_ (fun _ k => XS.goto X2.here hx rfl (pc0 := 10) (pc' := 24) rfl (hb hby D30_10) (by decide) (by decide) k) ?_
 refine ob_ (fun _ k => XS.astoreN X2.here hx rfl (hb hby D30_24) rfl rfl (l' := #[.val (.ref aa), .val (.int nl), .val (.ref mr), .val (.ref ob2)]) rfl k) ?_
 refine o_al X2 hx hby D30_25 rfl rfl ?_
 refine o_ic X2 hx hby D30_26 ?_
 refine o_al X2 hx hby D30_27 rfl rfl ?_
 refine o_ic X2 hx hby D30_28 ?_
 refine o_al X2 hx hby D30_29 rfl rfl ?_
 have fc3 := (Pa0.ext E2)
 obtain ⟨cl4, Ar4, q4, S4, M4, H4, G4⟩ := (id fc3)
 refine ob_ (X2.arraylength hx (by rw [e2]; exact Ar4.1) (State.isArrayOf_alike hZ.alike Ar4.2.1) (g := (mkF m 30 #[.val (.ref aa), .val (.int nl), .val (.ref mr), .val (.ref ob2)] [(.ref aa), v0_, (.ref ob2), v0_, (.ref aa)])) rfl rfl (hb hby D30_30)) ?_
 rw [len_of S4 M4]
 refine o_il X2 hx hby D30_31 rfl ?_
 have O5 : Old Z n0 h2 := (O0.ext E2)
 refine o_ks 3 (Jvm.LawKit.callS X2 hx (y := y8_) hown (mw hZ hw 284 rfl) (mw hZ hw 285 rfl) (mw hZ hw 258 rfl) (mw hZ hw 286 rfl) (by decide) (bk 4 hZ hw 286 258 (rm_mnA l Z a0 hw [] ol nl h2 n0 O5 hq1)) (g := (mkF m 32 #[.val (.ref aa), .val (.int nl), .val (.ref mr), .val (.ref ob2)] [(.int nl), (.int ol), v0_, (.ref ob2), v0_, (.ref aa)])) rfl hml.symm (argsL := [(.int ol), (.int nl)]) (rest := [v0_, (.ref ob2), v0_, (.ref aa)]) (lenOf pd2_ rfl) rfl own_z (hb hby D30_32) (o4 e2 1 0 110 0)) fun T6 Lc6 _ X6 hQ6 => ?_
 obtain ⟨rfl, M6, K6⟩ := hQ6
 have N6 := Fr.app N0 M6
 have fc7 := (Pa2.ext E2)
 obtain ⟨T8, h8, L8, vn8, X8, e8, N8, K8, Vr8, Vo8, st8⟩ := own_cpO X6 hx hZ hown (w_ hw 287 rfl) (w_ hw 290 rfl) (w_ hw 288 rfl) (w_ hw 289 rfl) K6 fc3 Vw2 fc7 Ov2 (by omega) (by omega) N6 (by omega) (g := (mkF m 35 #[.val (.ref aa), .val (.int nl), .val (.ref mr), .val (.ref ob2)] [(.int ol), v0_, (.ref ob2), v0_, (.ref aa)])) rfl (by rw [hml]; rfl) rfl (hb hby D30_35) (by decide) (W := 0) (by show 2 * 0 + _ ≤ _; exact Nat.le_of_eq rfl) (by decide)
 refine ob_ st8 ?_
 have z8 := K8.1
 refine o_al X8 hx hby D30_38 rfl rfl ?_
 have fc9 := (Ex2.keep K8)
 have K10 : Keep h0 h8 [] := (((Keep.refl h0 []).ext E2).trans K8 (kR all0))
 exact o_ra Bd X8 hx hby e8 D30_39 rfl ⟨ob2, k2, vn8, rfl, N8, K10, Vr8, fc9, Vo8, Ov2, (by omega)⟩
abbrev dD29 (n : Nat) (i : Instr) (k : Nat) : Prop := decode jdk_65_method_119_code n = .ok (i, k)
theorem D29_0 : dD29 0 (.aload_n 0) 1 := by decide +kernel
theorem D29_1 : dD29 1 (.iload_n 1) 1 := by decide +kernel
theorem D29_2 : dD29 2 (.aload_n 0) 1 := by decide +kernel
theorem D29_3 : dD29 3 (.invokevirtual 86) 3 := by decide +kernel
theorem D29_6 : dD29 6 (.invokestatic 300) 3 := by decide +kernel
theorem D29_9 : dD29 9 .areturn 1 := by decide +kernel
def Q_rm_cp2 (Z : State) (aa : Addr) (ka : ClassId) (ol : Int32) (vs : List Value) (nl : Int32) (mr : Addr) (h0 : Heap) (n0 : Nat) (v : Option Value) (h : Heap) (L : List Loc) : Prop := ∃ (oo : Addr) (kn : ClassId) (vn : List Value), v = some (.ref oo) ∧ Fr n0 L ∧ Keep h0 h [] ∧ Arv Z h oo kn (.object s7_) nl vn .null ∧ Exa Z h oo s9_ ∧ own_obs Z h vn ∧ Ovr Z kn s7_ ∧ h0.size ≤ oo
theorem rm_cp2 (l : Launch) (Z : State) (a0 : Array Value) (hw : own_Wd Z a0) (ws : List Jvm.Cond) (aa : Addr) (ka : ClassId) (ol : Int32) (vs : List Value) (nl : Int32) (mr : Addr) (h0 : Heap) (n0 : Nat) (O0 : Old Z n0 h0) (hMr : own_Mir Z s9_ mr) (Pa0 : Arv Z h0 aa ka (.object s7_) ol vs .null) (Pa1 : Exa Z h0 aa s9_) (Pa2 : own_obs Z h0 vs) (hq1 : ¬ (nl < ol)) (hq2 : nl.toInt ≤ 110) (hq3 : 0 ≤ ol.toInt) (hq4 : ol.toInt ≤ nl.toInt) :
  own_M l Z ws y11_ jdk_65_method_119_code 2 (some (.array (.object s7_))) ({ frames := 2, cells := 1, slots := 110, locals := 33 } : Room) #[(.ref aa), (.int nl)] h0 (Q_rm_cp2 Z aa ka ol vs nl mr h0 n0) := by
 refine own_open O0 (plainFor_of_name pn9_) (L0 := #[.val (.ref aa), .val (.int nl)]) ?_
 intro p e s m below meth c s₁ Bd hx hby hml hZ hh hown hnm X0 e0 N0 Z0
 have lt_Pa0 := vG Pa0
 refine o_al X0 hx hby D29_0 rfl rfl ?_
 refine o_il X0 hx hby D29_1 rfl ?_
 refine o_al X0 hx hby D29_2 rfl rfl ?_
 obtain ⟨T1, X1, e1, st1⟩ := own_gcls X0 hx hZ hown (w_ hw 273 rfl) (w_ hw 274 rfl) (w_ hw 276 rfl) (w_ hw 275 rfl) (w_ hw 277 rfl) e0 Pa1 hMr (g := (mkF m 3 #[.val (.ref aa), .val (.int nl)] [(.ref aa), (.int nl), (.ref aa)])) rfl (by rw [hml]; rfl) rfl (hb hby D29_3) (by decide) (W := 2) (by show 2 * 0 + _ ≤ _; exact Nat.le_of_eq rfl) (by decide)
 refine ob_ st1 ?_
 refine o_ks 3 (Jvm.LawKit.callS X1 hx (y := y10_) hown (mw hZ hw 279 rfl) (mw hZ hw 280 rfl) (mw hZ hw 271 rfl) (mw hZ hw 281 rfl) (by decide) (bk 0 hZ hw 281 271 (rm_cp3 l Z a0 hw [] aa ka ol vs nl mr h0 n0 O0 hMr Pa0 Pa1 Pa2 hq1 hq2 hq3 hq4)) (g := (mkF m 6 #[.val (.ref aa), .val (.int nl)] [(.ref mr), (.int nl), (.ref aa)])) rfl hml.symm (argsL := [(.ref aa), (.int nl), (.ref mr)]) (rest := []) (lenOf pd3_ rfl) rfl own_z (hb hby D29_6) (o4 e1 0 1 0 110)) fun T2 Lc2 _ X2 hQ2 => ?_
 obtain ⟨oo_2, kn_2, vn_2, rfl, M2, K2, g2_0, g2_1, g2_2, r2_0, r2_1⟩ := hQ2
 have N2 := Fr.app N0 M2
 have z2 := K2.1
 have lt_g2_0 := vG g2_0
 have K3 : Keep h0 T2.heap [] := ((Keep.refl h0 []).trans K2 all0)
 exact o_ra Bd X2 hx hby rfl D29_9 rfl ⟨oo_2, kn_2, vn_2, rfl, N2, K3, g2_0, g2_1, g2_2, r2_0, (by omega)⟩
abbrev dD26 (n : Nat) (i : Instr) (k : Nat) : Prop := decode jdk_38_method_6_code n = .ok (i, k)
theorem D26_0 : dD26 0 (.aload_n 0) 1 := by decide +kernel
theorem D26_1 : dD26 1 (.getfield 9) 3 := by decide +kernel
theorem D26_4 : dD26 4 .arraylength 1 := by decide +kernel
theorem D26_5 : dD26 5 (.istore_n 2) 1 := by decide +kernel
theorem D26_6 : dD26 6 (.iload_n 2) 1 := by decide +kernel
theorem D26_7 : dD26 7 (.ifCond .gt 13) 3 := by decide +kernel
theorem D26_20 : dD26 20 (.iload_n 2) 1 := by decide +kernel
theorem D26_21 : dD26 21 (.iload_n 1) 1 := by decide +kernel
theorem D26_22 : dD26 22 (.iload_n 2) 1 := by decide +kernel
theorem D26_23 : dD26 23 .isub 1 := by decide +kernel
theorem D26_24 : dD26 24 (.iload_n 2) 1 := by decide +kernel
theorem D26_25 : dD26 25 (.iconst 1) 1 := by decide +kernel
theorem D26_26 : dD26 26 .ishr 1 := by decide +kernel
theorem D26_27 : dD26 27 (.invokestatic 73) 3 := by decide +kernel
theorem D26_30 : dD26 30 (.istore_n 3) 1 := by decide +kernel
theorem D26_31 : dD26 31 (.aload_n 0) 1 := by decide +kernel
theorem D26_32 : dD26 32 (.aload_n 0) 1 := by decide +kernel
theorem D26_33 : dD26 33 (.getfield 9) 3 := by decide +kernel
theorem D26_36 : dD26 36 (.iload_n 3) 1 := by decide +kernel
theorem D26_37 : dD26 37 (.invokestatic 66) 3 := by decide +kernel
theorem D26_40 : dD26 40 .dup_x1 1 := by decide +kernel
theorem D26_41 : dD26 41 (.putfield 9) 3 := by decide +kernel
theorem D26_44 : dD26 44 .areturn 1 := by decide +kernel
def Q_rm_growI (Z : State) (al : Addr) (ii md : Int32) (dd : Addr) (kd : ClassId) (cp : Int32) (vv : List Value) (mc : Int32) (mr : Addr) (h0 : Heap) (n0 : Nat) (v : Option Value) (h : Heap) (L : List Loc) : Prop := ∃ (oo : Addr) (kn : ClassId) (vn : List Value) (nw : Int32), v = some (.ref oo) ∧ Fr n0 L ∧ Keep h0 h [al] ∧ Exa Z h al s4_ ∧ f32_ Z h al (.int ii) ∧ f36_ Z h al (.int md) ∧ f31_ Z h al (.ref oo) ∧ Arv Z h oo kn (.object s7_) nw vn .null ∧ Exa Z h oo s9_ ∧ own_obs Z h vn ∧ Ovr Z kn s7_ ∧ h0.size ≤ oo ∧ nw = (cp + (cp >>> ((1 : Int32) &&& 31)))
theorem rm_growI (l : Launch) (Z : State) (a0 : Array Value) (hw : own_Wd Z a0) (ws : List Jvm.Cond) (al : Addr) (ii md : Int32) (dd : Addr) (kd : ClassId) (cp : Int32) (vv : List Value) (mc : Int32) (mr : Addr) (h0 : Heap) (n0 : Nat) (O0 : Old Z n0 h0) (hMr : own_Mir Z s9_ mr) (Pl0 : Exa Z h0 al s4_) (Pl1 : f32_ Z h0 al (.int ii)) (Pl2 : f36_ Z h0 al (.int md)) (Pl3 : f31_ Z h0 al (.ref dd)) (Pl4 : Arv Z h0 dd kd (.object s7_) cp vv .null) (Pl5 : Exa Z h0 dd s9_) (Pl6 : own_obs Z h0 vv) (gt_al : n0 ≤ al) (g0 : (0 : Int32) < cp) (g1 : (mc - cp) < (cp >>> ((1 : Int32) &&& 31))) (g2 : (0 : Int32) < (cp + (cp >>> ((1 : Int32) &&& 31)))) (g3 : ¬ ((2147483639 : Int32) < (cp + (cp >>> ((1 : Int32) &&& 31))))) (g4 : ¬ ((cp + (cp >>> ((1 : Int32) &&& 31))) < cp)) (g5 : own_gr cp (cp + (cp >>> ((1 : Int32) &&& 31)))) :
  own_M l Z ws y12_ jdk_38_method_6_code 4 (some (.array (.object s7_))) ({ frames := 3, cells := 1, slots := 110, locals := 47 } : Room) #[(.ref al), (.int mc)] h0 (Q_rm_growI Z al ii md dd kd cp vv mc mr h0 n0) := by
 refine own_open O0 (plainFor_of_name pn3_) (L0 := #[.val (.ref al), .val (.int mc), .unset, .unset]) ?_
 intro p e s m below meth c s₁ Bd hx hby hml hZ hh hown hnm X0 e0 N0 Z0
 have lt_Pl0 := eG Pl0
 have lt_Pl4 := vG Pl4
 refine o_al X0 hx hby D26_0 rfl rfl ?_
 refine o_gf X0 hx hby hZ hown hw 36 rfl Via.refl e0 Pl3 D26_1 fun T1 X1 e1 => ?_
 obtain ⟨cl2, Ar2, q2, S2, M2, H2, G2⟩ := (id Pl4)
 refine ob_ (X1.arraylength hx (by rw [e1]; exact Ar2.1) (State.isArrayOf_alike hZ.alike Ar2.2.1) (g := (mkF m 4 #[.val (.ref al), .val (.int mc), .unset, .unset] [(.ref dd)])) rfl rfl (hb hby D26_4)) ?_
 rw [len_of S2 M2]
 refine ob_ (fun _ k => XS.istoreN X1.here hx rfl (hb hby D26_5) rfl (l' := #[.val (.ref al), .val (.int mc), .val (.int cp), .unset]) rfl k) ?_
 refine o_il X1 hx hby D26_6 rfl ?_
 refine ob_ (fun _ k => XS.ifYes X1.here hx rfl (pc0 := 7) (pc' := 20) rfl (hb hby D26_7) rfl ((if0 _ _).trans (tlt g0).2.2.1) (by decide) (by decide) k) ?_
 refine o_il X1 hx hby D26_20 rfl ?_
 refine o_il X1 hx hby D26_21 rfl ?_
 refine o_il X1 hx hby D26_22 rfl ?_
 refine ob_ (fun _ k => XS.isub X1.here hx rfl (hb hby D26_23) rfl k) ?_
 refine o_il X1 hx hby D26_24 rfl ?_
 refine o_ic X1 hx hby D26_25 ?_
 show own_Go p e below (T1.setTop (mkF m 26 #[.val (.ref al), .val (.int mc), .val (.int cp), .unset] [v1_, (.int cp), (.int (mc - cp)), (.int cp)])) _
 refine ob_ (fun _ k => XS.ishr X1.here hx rfl (hb hby D26_26) rfl k) ?_
 refine o_ks 3 (Jvm.LawKit.callS X1 hx (y := y9_) hown (mw hZ hw 263 rfl) (mw hZ hw 264 rfl) (mw hZ hw 265 rfl) (mw hZ hw 266 rfl) (by decide) (bk 0 hZ hw 266 265 (rm_nl l Z a0 hw [] cp (mc - cp) (cp >>> ((1 : Int32) &&& 31)) h0 n0 O0 g1 g2 g3)) (g := (mkF m 27 #[.val (.ref al), .val (.int mc), .val (.int cp), .unset] [(.int (cp >>> ((1 : Int32) &&& 31))), (.int (mc - cp)), (.int cp)])) rfl hml.symm (argsL := [(.int cp), (.int (mc - cp)), (.int (cp >>> ((1 : Int32) &&& 31)))]) (rest := []) (lenOf pd4_ rfl) rfl own_z (hb hby D26_27) (o4 e1 0 0 0 0)) fun T3 Lc3 _ X3 hQ3 => ?_
 obtain ⟨rfl, M3, K3⟩ := hQ3
 have N3 := Fr.app N0 M3
 show own_Go p e below (T3.setTop (mkF m 30 #[.val (.ref al), .val (.int mc), .val (.int cp), .unset] [(.int (cp + (cp >>> ((1 : Int32) &&& 31))))])) _
 show own_Go p e below (T3.setTop (mkF m 30 #[.val (.ref al), .val (.int mc), .val (.int cp), .unset] [(.int (cp + (cp >>> ((1 : Int32) &&& 31))))])) _
 obtain ⟨nw, e_nw⟩ : ∃ z, z = (cp + (cp >>> ((1 : Int32) &&& 31))) := ⟨_, rfl⟩
 rw [← e_nw]
 have g5' : own_gr cp nw := by rw [e_nw]; exact g5
 have g4' : ¬ (nw < cp) := by rw [e_nw]; exact g4
 refine ob_ (fun _ k => XS.istoreN X3.here hx rfl (hb hby D26_30) rfl (l' := #[.val (.ref al), .val (.int mc), .val (.int cp), .val (.int nw)]) rfl k) ?_
 refine o_al X3 hx hby D26_31 rfl rfl ?_
 refine o_al X3 hx hby D26_32 rfl rfl ?_
 refine o_gf X3 hx hby hZ hown hw 36 rfl Via.refl K3 Pl3 D26_33 fun T4 X4 e4 => ?_
 refine o_il X4 hx hby D26_36 rfl ?_
 refine o_ks 3 (Jvm.LawKit.callS X4 hx (y := y11_) hown (mw hZ hw 269 rfl) (mw hZ hw 270 rfl) (mw hZ hw 271 rfl) (mw hZ hw 272 rfl) (by decide) (bk 1 hZ hw 272 271 (rm_cp2 l Z a0 hw [] dd kd cp vv nw mr h0 n0 O0 hMr Pl4 Pl5 Pl6 g4' g5'.1 g5'.2.1 g5'.2.2)) (g := (mkF m 37 #[.val (.ref al), .val (.int mc), .val (.int cp), .val (.int nw)] [(.int nw), (.ref dd), (.ref al)])) rfl hml.symm (argsL := [(.ref dd), (.int nw)]) (rest := [(.ref al)]) (lenOf pd5_ rfl) rfl own_z (hb hby D26_37) (o4 e4 0 1 0 110)) fun T5 Lc5 _ X5 hQ5 => ?_
 obtain ⟨oo_5, kn_5, vn_5, rfl, M5, K5, g5_0, g5_1, g5_2, r5_0, r5_1⟩ := hQ5
 have N5 := Fr.app N3 M5
 have z5 := K5.1
 have lt_g5_0 := vG g5_0
 refine ob_ (fun _ k => XS.dupX1 X5.here hx rfl (hb hby D26_40) rfl rfl rfl k) ?_
 have fc6 := (Pl3.keep K5 nin0)
 have fc7 := (Pl0.keep K5)
 obtain ⟨T8, h8, X8, e8, W8, st8⟩ := putF X5 hx hZ hown (host := "") (Or.inl (w_ hw 36 rfl)) Via.refl rfl fc6 fc7 (Or.inl (w_ hw 37 rfl)) (w_ hw 13 rfl) (ty := (.array (.object s7_))) (by decide) rfl rfl (g := (mkF m 41 #[.val (.ref al), .val (.int mc), .val (.int cp), .val (.int nw)] [(.ref oo_5), (.ref al), (.ref oo_5)])) rfl rfl (hb hby D26_41)
 refine ob_ st8 ?_
 have z8 := W8.size
 have N8 := Fr.snoc X8 N5 gt_al
 have Fw8 : f31_ Z h8 al (.ref oo_5) := fc6.same W8
 have fc9 := (fc7.wr W8)
 have fc10 := ((Pl1.keep K5 nin0).other W8 (sO (Or.inl (w_ hw 73 rfl)) (Or.inl (w_ hw 37 rfl))))
 have fc11 := ((Pl2.keep K5 nin0).other W8 (sO (Or.inl (w_ hw 34 rfl)) (Or.inl (w_ hw 37 rfl))))
 have q_1 : own_NE al oo_5 := mN
 have fc12 := (g5_0.other W8 (uS q_1))
 have fc13 := (g5_1.wr W8)
 have fc14 := (g5_2.wr W8)
 have K15 : Keep h0 h8 [al] := (((Keep.refl h0 [al]).trans K5 all0).wr W8 (Or.inl (List.mem_of_getElem? (i := 0) rfl)))
 exact o_ra Bd X8 hx hby e8 D26_44 rfl ⟨oo_5, kn_5, vn_5, nw, rfl, N8, K15, fc9, fc10, fc11, Fw8, fc12, fc13, fc14, r5_0, (by omega), e_nw⟩
abbrev dD25 (n : Nat) (i : Instr) (k : Nat) : Prop := decode jdk_38_method_7_code n = .ok (i, k)
theorem D25_0 : dD25 0 (.aload_n 0) 1 := by decide +kernel
theorem D25_1 : dD25 1 (.aload_n 0) 1 := by decide +kernel
theorem D25_2 : dD25 2 (.getfield 48) 3 := by decide +kernel
theorem D25_5 : dD25 5 (.iconst 1) 1 := by decide +kernel
theorem D25_6 : dD25 6 .iadd 1 := by decide +kernel
theorem D25_7 : dD25 7 (.invokevirtual 69) 3 := by decide +kernel
theorem D25_10 : dD25 10 .areturn 1 := by decide +kernel
def Q_rm_grow (Z : State) (al : Addr) (ii md : Int32) (dd : Addr) (kd : ClassId) (cp : Int32) (vv : List Value) (mr : Addr) (h0 : Heap) (n0 : Nat) (v : Option Value) (h : Heap) (L : List Loc) : Prop := ∃ (oo : Addr) (kn : ClassId) (vn : List Value) (nw : Int32), v = some (.ref oo) ∧ Fr n0 L ∧ Keep h0 h [al] ∧ Exa Z h al s4_ ∧ f32_ Z h al (.int ii) ∧ f36_ Z h al (.int md) ∧ f31_ Z h al (.ref oo) ∧ Arv Z h oo kn (.object s7_) nw vn .null ∧ Exa Z h oo s9_ ∧ own_obs Z h vn ∧ Ovr Z kn s7_ ∧ h0.size ≤ oo ∧ nw = (cp + (cp >>> ((1 : Int32) &&& 31)))
theorem rm_grow (l : Launch) (Z : State) (a0 : Array Value) (hw : own_Wd Z a0) (ws : List Jvm.Cond) (al : Addr) (ii md : Int32) (dd : Addr) (kd : ClassId) (cp : Int32) (vv : List Value) (mr : Addr) (h0 : Heap) (n0 : Nat) (O0 : Old Z n0 h0) (hMr : own_Mir Z s9_ mr) (Pl0 : Exa Z h0 al s4_) (Pl1 : f32_ Z h0 al (.int ii)) (Pl2 : f36_ Z h0 al (.int md)) (Pl3 : f31_ Z h0 al (.ref dd)) (Pl4 : Arv Z h0 dd kd (.object s7_) cp vv .null) (Pl5 : Exa Z h0 dd s9_) (Pl6 : own_obs Z h0 vv) (gt_al : n0 ≤ al) (g0 : (0 : Int32) < cp) (g1 : ((ii + (1 : Int32)) - cp) < (cp >>> ((1 : Int32) &&& 31))) (g2 : (0 : Int32) < (cp + (cp >>> ((1 : Int32) &&& 31)))) (g3 : ¬ ((2147483639 : Int32) < (cp + (cp >>> ((1 : Int32) &&& 31))))) (g4 : ¬ ((cp + (cp >>> ((1 : Int32) &&& 31))) < cp)) (g5 : own_gr cp (cp + (cp >>> ((1 : Int32) &&& 31)))) :
  own_M l Z ws y13_ jdk_38_method_7_code 1 (some (.array (.object s7_))) ({ frames := 4, cells := 1, slots := 110, locals := 62 } : Room) #[(.ref al)] h0 (Q_rm_grow Z al ii md dd kd cp vv mr h0 n0) := by
 refine own_open O0 (plainFor_of_name pn3_) (L0 := #[.val (.ref al)]) ?_
 intro p e s m below meth c s₁ Bd hx hby hml hZ hh hown hnm X0 e0 N0 Z0
 have lt_Pl0 := eG Pl0
 have lt_Pl4 := vG Pl4
 refine o_al X0 hx hby D25_0 rfl rfl ?_
 refine o_al X0 hx hby D25_1 rfl rfl ?_
 refine o_gf X0 hx hby hZ hown hw 72 rfl Via.refl e0 Pl1 D25_2 fun T1 X1 e1 => ?_
 refine o_ic X1 hx hby D25_5 ?_
 refine ob_ (fun _ k => XS.iadd X1.here hx rfl (hb hby D25_6) rfl k) ?_
 obtain ⟨cq2, q2, q2'⟩ := Pl0.cell
 refine o_k 3 (X1.privateBack hx (y := y12_) hown (mw hZ hw 251 rfl) (mw hZ hw 252 rfl) (mw hZ hw 254 rfl) (Cond.privateMethod_at (mvP hZ (w_ hw 253 rfl) (args := #[]))) (mw hZ hw 255 rfl) (by decide) (bk 0 hZ hw 255 14 (rm_growI l Z a0 hw [] al ii md dd kd cp vv (ii + (1 : Int32)) mr h0 n0 O0 hMr Pl0 Pl1 Pl2 Pl3 Pl4 Pl5 Pl6 gt_al g0 g1 g2 g3 g4 g5)) (g := (mkF m 7 #[.val (.ref al)] [(.int (ii + (1 : Int32))), (.ref al)])) rfl hml.symm (Steps.refl _) (a := al) (by rw [e1]; exact q2) q2' (argsL := [(.int (ii + (1 : Int32)))]) (rest := []) (lenOf pd6_ rfl) rfl own_z (hb hby D25_7) (o4 e1 0 1 0 110)) fun T2 Lc2 _ X2 hQ2 => ?_
 obtain ⟨oo_2, kn_2, vn_2, nw_2, rfl, M2, K2, g2_0, g2_1, g2_2, g2_3, g2_4, g2_5, g2_6, r2_0, r2_1, r2_2⟩ := hQ2
 have N2 := Fr.app N0 M2
 have z2 := K2.1
 have lt_g2_0 := eG g2_0
 have lt_g2_4 := vG g2_4
 have K3 : Keep h0 T2.heap [al] := ((Keep.refl h0 [al]).trans K2 (kI 0 rfl all0))
 exact o_ra Bd X2 hx hby rfl D25_10 rfl ⟨oo_2, kn_2, vn_2, nw_2, rfl, N2, K3, g2_0, g2_1, g2_2, g2_3, g2_4, g2_5, g2_6, r2_0, (by omega), r2_2⟩
theorem D26_10 : dD26 10 (.aload_n 0) 1 := by decide +kernel
theorem D26_11 : dD26 11 (.getfield 9) 3 := by decide +kernel
theorem D26_14 : dD26 14 (.getstatic 39) 3 := by decide +kernel
theorem D26_17 : dD26 17 (.if_acmp .eq 28) 3 := by decide +kernel
theorem D26_45 : dD26 45 (.aload_n 0) 1 := by decide +kernel
theorem D26_46 : dD26 46 (.bipush 10) 2 := by decide +kernel
theorem D26_48 : dD26 48 (.iload_n 1) 1 := by decide +kernel
theorem D26_49 : dD26 49 (.invokestatic 79) 3 := by decide +kernel
theorem D26_52 : dD26 52 (.anewarray 7) 3 := by decide +kernel
theorem D26_55 : dD26 55 .dup_x1 1 := by decide +kernel
theorem D26_56 : dD26 56 (.putfield 9) 3 := by decide +kernel
theorem D26_59 : dD26 59 .areturn 1 := by decide +kernel
def Q_rm_growIz (Z : State) (al : Addr) (md : Int32) (dce : Addr) (kce : ClassId) (h0 : Heap) (n0 : Nat) (v : Option Value) (h : Heap) (L : List Loc) : Prop := ∃ (oo : Addr) (kn : ClassId), v = some (.ref oo) ∧ Fr n0 L ∧ Keep h0 h [al] ∧ Exa Z h al s4_ ∧ f32_ Z h al v0_ ∧ f36_ Z h al (.int md) ∧ f31_ Z h al (.ref oo) ∧ Arv Z h oo kn (.object s7_) (10 : Int32) [] .null ∧ Exa Z h oo s9_ ∧ Ovr Z kn s7_ ∧ h0.size ≤ oo
theorem rm_growIz (l : Launch) (Z : State) (a0 : Array Value) (hw : own_Wd Z a0) (ws : List Jvm.Cond) (al : Addr) (md : Int32) (dce : Addr) (kce : ClassId) (h0 : Heap) (n0 : Nat) (O0 : Old Z n0 h0) (S_DCE : Sta Z Z.heap s4_ s8_ s9_ (.ref dce)) (A_DCE : Arv Z Z.heap dce kce (.object s7_) (0 : Int32) [] .null) (E_DCE : Exa Z Z.heap dce s9_) (Pl0 : Exa Z h0 al s4_) (Pl1 : f32_ Z h0 al v0_) (Pl2 : f36_ Z h0 al (.int md)) (Pl3 : f31_ Z h0 al (.ref dce)) (gt_al : n0 ≤ al) :
  own_M l Z ws y12_ jdk_38_method_6_code 4 (some (.array (.object s7_))) ({ frames := 1, cells := 1, slots := 10, locals := 14 } : Room) #[(.ref al), v1_] h0 (Q_rm_growIz Z al md dce kce h0 n0) := by
 refine own_open O0 (plainFor_of_name pn3_) (L0 := #[.val (.ref al), .val v1_, .unset, .unset]) ?_
 intro p e s m below meth c s₁ Bd hx hby hml hZ hh hown hnm X0 e0 N0 Z0
 have lt_Pl0 := eG Pl0
 refine o_al X0 hx hby D26_0 rfl rfl ?_
 refine o_gf X0 hx hby hZ hown hw 36 rfl Via.refl e0 Pl3 D26_1 fun T1 X1 e1 => ?_
 have fc2 : Arv Z h0 dce kce (.object s7_) (0 : Int32) [] .null := A_DCE.ext O0.2
 obtain ⟨cl3, Ar3, q3, S3, M3, H3, G3⟩ := (id fc2)
 refine ob_ (X1.arraylength hx (by rw [e1]; exact Ar3.1) (State.isArrayOf_alike hZ.alike Ar3.2.1) (g := (mkF m 4 #[.val (.ref al), .val v1_, .unset, .unset] [(.ref dce)])) rfl rfl (hb hby D26_4)) ?_
 rw [len_of S3 M3]
 refine ob_ (fun _ k => XS.istoreN X1.here hx rfl (hb hby D26_5) rfl (l' := #[.val (.ref al), .val v1_, .val v0_, .unset]) rfl k) ?_
 refine o_il X1 hx hby D26_6 rfl ?_
 refine ob_ (fun _ k => XS.ifNo X1.here hx rfl (hb hby D26_7) rfl ((if0 _ _).trans (flt (by decide : ¬ ((0 : Int32) < (0 : Int32)))).2.2.1) k) ?_
 refine o_al X1 hx hby D26_10 rfl rfl ?_
 refine o_gf X1 hx hby hZ hown hw 36 rfl Via.refl e1 Pl3 D26_11 fun T4 X4 e4 => ?_
 obtain ⟨T5, X5, e5, st5⟩ := getS2 X4 hx hZ hown (host := "") (Or.inl (w_ hw 35 rfl)) Via.refl e4 (S_DCE.ext O0.2) (g := (mkF m 14 #[.val (.ref al), .val v1_, .val v0_, .unset] [(.ref dce)])) rfl (hb hby D26_14)
 refine ob_ st5 ?_
 refine ob_ (fun _ k => Jvm.RoadKit.acmp (g := (mkF m 17 #[.val (.ref al), .val v1_, .val v0_, .unset] [(.ref dce), (.ref dce)])) X5 hx rfl rfl rfl (pc0 := 17) (pc' := 45) (same := true) rfl (hb hby D26_17) rfl (decide_eq_true rfl) (by decide) (by decide) k) ?_
 refine o_al X5 hx hby D26_45 rfl rfl ?_
 refine o_bi X5 hx hby D26_46 ?_
 refine o_il X5 hx hby D26_48 rfl ?_
 refine o_ks 3 (Jvm.LawKit.callS X5 hx (y := y7_) hown (mw hZ hw 256 rfl) (mw hZ hw 257 rfl) (mw hZ hw 258 rfl) (mw hZ hw 259 rfl) (by decide) (bk 1 hZ hw 259 258 (rm_mxA l Z a0 hw [] (10 : Int32) (1 : Int32) h0 n0 O0 (by decide : ¬ ((10 : Int32) < (1 : Int32))))) (g := (mkF m 49 #[.val (.ref al), .val v1_, .val v0_, .unset] [v1_, v10_, (.ref al)])) rfl hml.symm (argsL := [v10_, v1_]) (rest := [(.ref al)]) (lenOf pd2_ rfl) rfl own_z (hb hby D26_49) (o4 e5 0 0 0 0)) fun T6 Lc6 _ X6 hQ6 => ?_
 obtain ⟨rfl, M6, K6⟩ := hQ6
 have N6 := Fr.app N0 M6
 obtain ⟨T7, h7, k7, X7, e7, E7, A7, Ex7, Ov7, st7⟩ := newRE X6 hx hZ hown (w_ hw 260 rfl) (w_ hw 261 rfl) K6 (g := (mkF m 52 #[.val (.ref al), .val v1_, .val v0_, .unset] [v10_, (.ref al)])) rfl (hb hby D26_52) rfl (by decide) (cap := 10) (by decide) (by decide) (by decide) (by decide) (ad := s9_) rfl
 obtain ⟨ob7, g7⟩ : ∃ z, z = h0.size := ⟨_, rfl⟩
 rw [← g7] at A7 st7 Ex7
 refine ob_ st7 ?_
 have z7 := E7.1
 have Vw7 : Arv Z h7 ob7 k7 (.object s7_) (10 : Int32) [] .null := Arv.new A7 (by decide)
 have lt7 : h7.size > ob7 := Vw7.lt
 refine ob_ (fun _ k => XS.dupX1 X7.here hx rfl (hb hby D26_55) rfl rfl rfl k) ?_
 have fc8 := (Pl3.ext E7)
 have fc9 := (Pl0.ext E7)
 obtain ⟨T10, h10, X10, e10, W10, st10⟩ := putF X7 hx hZ hown (host := "") (Or.inl (w_ hw 36 rfl)) Via.refl e7 fc8 fc9 (Or.inl (w_ hw 37 rfl)) (w_ hw 13 rfl) (ty := (.array (.object s7_))) (by decide) rfl rfl (g := (mkF m 56 #[.val (.ref al), .val v1_, .val v0_, .unset] [(.ref ob7), (.ref al), (.ref ob7)])) rfl rfl (hb hby D26_56)
 refine ob_ st10 ?_
 have z10 := W10.size
 have N10 := Fr.snoc X10 N6 gt_al
 have Fw10 : f31_ Z h10 al (.ref ob7) := fc8.same W10
 have fc11 := (fc9.wr W10)
 have fc12 := ((Pl1.ext E7).other W10 (sO (Or.inl (w_ hw 73 rfl)) (Or.inl (w_ hw 37 rfl))))
 have fc13 := ((Pl2.ext E7).other W10 (sO (Or.inl (w_ hw 34 rfl)) (Or.inl (w_ hw 37 rfl))))
 have fc14 := (Vw7.other W10 own_o)
 have fc15 := (Ex7.wr W10)
 have K16 : Keep h0 h10 [al] := (((Keep.refl h0 [al]).ext E7).wr W10 (Or.inl (List.mem_of_getElem? (i := 0) rfl)))
 exact o_ra Bd X10 hx hby e10 D26_59 rfl ⟨ob7, k7, rfl, N10, K16, fc11, fc12, fc13, Fw10, fc14, fc15, Ov7, (by omega)⟩
def Q_rm_growz (Z : State) (al : Addr) (md : Int32) (dce : Addr) (kce : ClassId) (h0 : Heap) (n0 : Nat) (v : Option Value) (h : Heap) (L : List Loc) : Prop := ∃ (oo : Addr) (kn : ClassId), v = some (.ref oo) ∧ Fr n0 L ∧ Keep h0 h [al] ∧ Exa Z h al s4_ ∧ f32_ Z h al v0_ ∧ f36_ Z h al (.int md) ∧ f31_ Z h al (.ref oo) ∧ Arv Z h oo kn (.object s7_) (10 : Int32) [] .null ∧ Exa Z h oo s9_ ∧ Ovr Z kn s7_ ∧ h0.size ≤ oo
theorem rm_growz (l : Launch) (Z : State) (a0 : Array Value) (hw : own_Wd Z a0) (ws : List Jvm.Cond) (al : Addr) (md : Int32) (dce : Addr) (kce : ClassId) (h0 : Heap) (n0 : Nat) (O0 : Old Z n0 h0) (S_DCE : Sta Z Z.heap s4_ s8_ s9_ (.ref dce)) (A_DCE : Arv Z Z.heap dce kce (.object s7_) (0 : Int32) [] .null) (E_DCE : Exa Z Z.heap dce s9_) (Pl0 : Exa Z h0 al s4_) (Pl1 : f32_ Z h0 al v0_) (Pl2 : f36_ Z h0 al (.int md)) (Pl3 : f31_ Z h0 al (.ref dce)) (gt_al : n0 ≤ al) :
  own_M l Z ws y13_ jdk_38_method_7_code 1 (some (.array (.object s7_))) ({ frames := 2, cells := 1, slots := 10, locals := 29 } : Room) #[(.ref al)] h0 (Q_rm_growz Z al md dce kce h0 n0) := by
 refine own_open O0 (plainFor_of_name pn3_) (L0 := #[.val (.ref al)]) ?_
 intro p e s m below meth c s₁ Bd hx hby hml hZ hh hown hnm X0 e0 N0 Z0
 have lt_Pl0 := eG Pl0
 refine o_al X0 hx hby D25_0 rfl rfl ?_
 refine o_al X0 hx hby D25_1 rfl rfl ?_
 refine o_gf X0 hx hby hZ hown hw 72 rfl Via.refl e0 Pl1 D25_2 fun T1 X1 e1 => ?_
 refine o_ic X1 hx hby D25_5 ?_
 refine ob_ (fun _ k => XS.iadd X1.here hx rfl (hb hby D25_6) rfl k) ?_
 obtain ⟨cq2, q2, q2'⟩ := Pl0.cell
 refine o_k 3 (X1.privateBack hx (y := y12_) hown (mw hZ hw 251 rfl) (mw hZ hw 252 rfl) (mw hZ hw 254 rfl) (Cond.privateMethod_at (mvP hZ (w_ hw 253 rfl) (args := #[]))) (mw hZ hw 255 rfl) (by decide) (bk 0 hZ hw 255 14 (rm_growIz l Z a0 hw [] al md dce kce h0 n0 O0 S_DCE A_DCE E_DCE Pl0 Pl1 Pl2 Pl3 gt_al)) (g := (mkF m 7 #[.val (.ref al)] [v1_, (.ref al)])) rfl hml.symm (Steps.refl _) (a := al) (by rw [e1]; exact q2) q2' (argsL := [v1_]) (rest := []) (lenOf pd6_ rfl) rfl own_z (hb hby D25_7) (o4 e1 0 1 0 10)) fun T2 Lc2 _ X2 hQ2 => ?_
 obtain ⟨oo_2, kn_2, rfl, M2, K2, g2_0, g2_1, g2_2, g2_3, g2_4, g2_5, r2_0, r2_1⟩ := hQ2
 have N2 := Fr.app N0 M2
 have z2 := K2.1
 have lt_g2_0 := eG g2_0
 have lt_g2_4 := vG g2_4
 have K3 : Keep h0 T2.heap [al] := ((Keep.refl h0 [al]).trans K2 (kI 0 rfl all0))
 exact o_ra Bd X2 hx hby rfl D25_10 rfl ⟨oo_2, kn_2, rfl, N2, K3, g2_0, g2_1, g2_2, g2_3, g2_4, g2_5, r2_0, (by omega)⟩
abbrev dD24 (n : Nat) (i : Instr) (k : Nat) : Prop := decode jdk_38_method_24_code n = .ok (i, k)
theorem D24_0 : dD24 0 (.iload_n 3) 1 := by decide +kernel
theorem D24_1 : dD24 1 (.aload_n 2) 1 := by decide +kernel
theorem D24_2 : dD24 2 .arraylength 1 := by decide +kernel
theorem D24_3 : dD24 3 (.if_icmp .ne 8) 3 := by decide +kernel
theorem D24_11 : dD24 11 (.aload_n 2) 1 := by decide +kernel
theorem D24_12 : dD24 12 (.iload_n 3) 1 := by decide +kernel
theorem D24_13 : dD24 13 (.aload_n 1) 1 := by decide +kernel
theorem D24_14 : dD24 14 .aastore 1 := by decide +kernel
theorem D24_15 : dD24 15 (.aload_n 0) 1 := by decide +kernel
theorem D24_16 : dD24 16 (.iload_n 3) 1 := by decide +kernel
theorem D24_17 : dD24 17 (.iconst 1) 1 := by decide +kernel
theorem D24_18 : dD24 18 .iadd 1 := by decide +kernel
theorem D24_19 : dD24 19 (.putfield 48) 3 := by decide +kernel
theorem D24_22 : dD24 22 .return_ 1 := by decide +kernel
def Q_rm_addpR (Z : State) (al : Addr) (ii md : Int32) (dd : Addr) (kd : ClassId) (cp : Int32) (vv : List Value) (xx : Addr) (h0 : Heap) (n0 : Nat) (v : Option Value) (h : Heap) (L : List Loc) : Prop := ∃ (vz : List Value), v = none ∧ Fr n0 L ∧ Keep h0 h [al, dd] ∧ Exa Z h al s4_ ∧ f32_ Z h al (.int (ii + (1 : Int32))) ∧ f36_ Z h al (.int md) ∧ f31_ Z h al (.ref dd) ∧ Arv Z h dd kd (.object s7_) cp vz .null ∧ Exa Z h dd s9_ ∧ own_obs Z h vz
theorem rm_addpR (l : Launch) (Z : State) (a0 : Array Value) (hw : own_Wd Z a0) (ws : List Jvm.Cond) (al : Addr) (ii md : Int32) (dd : Addr) (kd : ClassId) (cp : Int32) (vv : List Value) (xx : Addr) (h0 : Heap) (n0 : Nat) (O0 : Old Z n0 h0) (Pl0 : Exa Z h0 al s4_) (Pl1 : f32_ Z h0 al (.int ii)) (Pl2 : f36_ Z h0 al (.int md)) (Pl3 : f31_ Z h0 al (.ref dd)) (Pl4 : Arv Z h0 dd kd (.object s7_) cp vv .null) (Pl5 : Exa Z h0 dd s9_) (Pl6 : own_obs Z h0 vv) (Ix : Ins Z h0 xx s7_ true) (gt_al : n0 ≤ al) (gt_dd : n0 ≤ dd) (ovd : Ovr Z kd s7_) (ne : ¬ (ii = cp)) (hi0 : 0 ≤ ii.toInt) (hi1 : ii.toInt < cp.toInt) (nad : ¬ (@Eq Nat al dd)) :
  own_M l Z ws y14_ jdk_38_method_24_code 4 none ({ frames := 0, cells := 0, slots := 0, locals := 0 } : Room) #[(.ref al), (.ref xx), (.ref dd), (.int ii)] h0 (Q_rm_addpR Z al ii md dd kd cp vv xx h0 n0) := by
 refine own_open O0 (plainFor_of_name pn3_) (L0 := #[.val (.ref al), .val (.ref xx), .val (.ref dd), .val (.int ii)]) ?_
 intro p e s m below meth c s₁ Bd hx hby hml hZ hh hown hnm X0 e0 N0 Z0
 have lt_Pl0 := eG Pl0
 have lt_Pl4 := vG Pl4
 refine o_il X0 hx hby D24_0 rfl ?_
 refine o_al X0 hx hby D24_1 rfl rfl ?_
 obtain ⟨cl1, Ar1, q1, S1, M1, H1, G1⟩ := (id Pl4)
 refine ob_ (X0.arraylength hx (by rw [e0]; exact Ar1.1) (State.isArrayOf_alike hZ.alike Ar1.2.1) (g := (mkF m 2 #[.val (.ref al), .val (.ref xx), .val (.ref dd), .val (.int ii)] [(.ref dd), (.int ii)])) rfl rfl (hb hby D24_2)) ?_
 rw [len_of S1 M1]
 refine ob_ (fun _ k => XS.icmpYes X0.here hx rfl (pc0 := 3) (pc' := 11) rfl (hb hby D24_3) rfl (feq ne).2 (by decide) (by decide) k) ?_
 refine o_al X0 hx hby D24_11 rfl rfl ?_
 refine o_il X0 hx hby D24_12 rfl ?_
 refine o_al X0 hx hby D24_13 rfl rfl ?_
 obtain ⟨cl2, Ar2, q2, S2, M2, H2, G2⟩ := (id Pl4)
 have hin2 : ¬ (ii < 0 ∨ cl2.slots.size ≤ (ii).toNatClampNeg) := own_inb S2 (by first | omega | decide) (by first | omega | decide)
 obtain ⟨T2, h2, X2, e2, W2, st2⟩ := stR X0 hx hZ e0 Ar2 (j := ii) hin2 rfl (Sto.ofV Ar2 q2 ovd Ix) (g := (mkF m 14 #[.val (.ref al), .val (.ref xx), .val (.ref dd), .val (.int ii)] [(.ref xx), (.int ii), (.ref dd)])) rfl rfl (hb hby D24_14)
 refine ob_ st2 ?_
 have z2 := W2.size
 have N2 := Fr.snoc X2 N0 (by omega)
 obtain ⟨vz2, Vw2, Vo2⟩ := own_stO Pl4 W2 rfl (by first | omega | decide) (by first | omega | decide) Pl6 Ix
 refine o_al X2 hx hby D24_15 rfl rfl ?_
 refine o_il X2 hx hby D24_16 rfl ?_
 refine o_ic X2 hx hby D24_17 ?_
 refine ob_ (fun _ k => XS.iadd X2.here hx rfl (hb hby D24_18) rfl k) ?_
 have q_1 : own_NE al dd := mN
 have fc3 := (Pl1.other W2 (Or.inl q_1))
 have fc4 := (Pl0.wr W2)
 obtain ⟨T5, h5, X5, e5, W5, st5⟩ := putF X2 hx hZ hown (host := "") (Or.inl (w_ hw 72 rfl)) Via.refl e2 fc3 fc4 (Or.inl (w_ hw 73 rfl)) (w_ hw 13 rfl) (ty := .int) (by decide) rfl rfl (g := (mkF m 19 #[.val (.ref al), .val (.ref xx), .val (.ref dd), .val (.int ii)] [(.int (ii + (1 : Int32))), (.ref al)])) rfl rfl (hb hby D24_19)
 refine ob_ st5 ?_
 have z5 := W5.size
 have N5 := Fr.snoc X5 N2 gt_al
 have Fw5 : f32_ Z h5 al (.int (ii + (1 : Int32))) := fc3.same W5
 have fc6 := (fc4.wr W5)
 have fc7 := ((Pl2.other W2 (Or.inl q_1)).other W5 (sO (Or.inl (w_ hw 34 rfl)) (Or.inl (w_ hw 73 rfl))))
 have fc8 := ((Pl3.other W2 (Or.inl q_1)).other W5 (sO (Or.inl (w_ hw 37 rfl)) (Or.inl (w_ hw 73 rfl))))
 have fc9 := (Vw2.other W5 (uS q_1))
 have fc10 := ((Pl5.wr W2).wr W5)
 have fc11 := (Vo2.wr W5)
 have K12 : Keep h0 h5 [al, dd] := (((Keep.refl h0 [al, dd]).wr W2 (Or.inl (List.mem_of_getElem? (i := 1) rfl))).wr W5 (Or.inl (List.mem_of_getElem? (i := 0) rfl)))
 exact o_rv Bd X5 hx hby e5 D24_22 ⟨vz2, rfl, N5, K12, fc6, Fw5, fc7, fc8, fc9, fc10, fc11⟩
abbrev dD23 (n : Nat) (i : Instr) (k : Nat) : Prop := decode jdk_38_method_25_code n = .ok (i, k)
theorem D23_0 : dD23 0 (.aload_n 0) 1 := by decide +kernel
theorem D23_1 : dD23 1 .dup 1 := by decide +kernel
theorem D23_2 : dD23 2 (.getfield 63) 3 := by decide +kernel
theorem D23_5 : dD23 5 (.iconst 1) 1 := by decide +kernel
theorem D23_6 : dD23 6 .iadd 1 := by decide +kernel
theorem D23_7 : dD23 7 (.putfield 63) 3 := by decide +kernel
theorem D23_10 : dD23 10 (.aload_n 0) 1 := by decide +kernel
theorem D23_11 : dD23 11 (.aload_n 1) 1 := by decide +kernel
theorem D23_12 : dD23 12 (.aload_n 0) 1 := by decide +kernel
theorem D23_13 : dD23 13 (.getfield 9) 3 := by decide +kernel
theorem D23_16 : dD23 16 (.aload_n 0) 1 := by decide +kernel
theorem D23_17 : dD23 17 (.getfield 48) 3 := by decide +kernel
theorem D23_20 : dD23 20 (.invokevirtual 131) 3 := by decide +kernel
theorem D23_23 : dD23 23 (.iconst 1) 1 := by decide +kernel
theorem D23_24 : dD23 24 .ireturn 1 := by decide +kernel
def Q_rm_addR (Z : State) (al : Addr) (ii md : Int32) (dd : Addr) (kd : ClassId) (cp : Int32) (vv : List Value) (xx : Addr) (h0 : Heap) (n0 : Nat) (v : Option Value) (h : Heap) (L : List Loc) : Prop := ∃ (vz : List Value), v = some v1_ ∧ Fr n0 L ∧ Keep h0 h [al, dd] ∧ Exa Z h al s4_ ∧ f32_ Z h al (.int (ii + (1 : Int32))) ∧ f36_ Z h al (.int (md + (1 : Int32))) ∧ f31_ Z h al (.ref dd) ∧ Arv Z h dd kd (.object s7_) cp vz .null ∧ Exa Z h dd s9_ ∧ own_obs Z h vz
theorem rm_addR (l : Launch) (Z : State) (a0 : Array Value) (hw : own_Wd Z a0) (ws : List Jvm.Cond) (al : Addr) (ii md : Int32) (dd : Addr) (kd : ClassId) (cp : Int32) (vv : List Value) (xx : Addr) (h0 : Heap) (n0 : Nat) (O0 : Old Z n0 h0) (Pl0 : Exa Z h0 al s4_) (Pl1 : f32_ Z h0 al (.int ii)) (Pl2 : f36_ Z h0 al (.int md)) (Pl3 : f31_ Z h0 al (.ref dd)) (Pl4 : Arv Z h0 dd kd (.object s7_) cp vv .null) (Pl5 : Exa Z h0 dd s9_) (Pl6 : own_obs Z h0 vv) (Ix : Ins Z h0 xx s7_ true) (gt_al : n0 ≤ al) (gt_dd : n0 ≤ dd) (ovd : Ovr Z kd s7_) (ne : ¬ (ii = cp)) (hi0 : 0 ≤ ii.toInt) (hi1 : ii.toInt < cp.toInt) (nad : ¬ (@Eq Nat al dd)) :
  own_M l Z ws y15_ jdk_38_method_25_code 2 (some .boolean) ({ frames := 1, cells := 0, slots := 0, locals := 15 } : Room) #[(.ref al), (.ref xx)] h0 (Q_rm_addR Z al ii md dd kd cp vv xx h0 n0) := by
 refine own_open O0 (plainFor_of_name pn3_) (L0 := #[.val (.ref al), .val (.ref xx)]) ?_
 intro p e s m below meth c s₁ Bd hx hby hml hZ hh hown hnm X0 e0 N0 Z0
 have lt_Pl0 := eG Pl0
 have lt_Pl4 := vG Pl4
 refine o_al X0 hx hby D23_0 rfl rfl ?_
 refine ob_ (fun _ k => XS.dup X0.here hx rfl (hb hby D23_1) rfl rfl k) ?_
 refine o_gf X0 hx hby hZ hown hw 240 rfl (Via.of (w_ hw 97 rfl)) e0 Pl2 D23_2 fun T1 X1 e1 => ?_
 refine o_ic X1 hx hby D23_5 ?_
 refine ob_ (fun _ k => XS.iadd X1.here hx rfl (hb hby D23_6) rfl k) ?_
 obtain ⟨T2, h2, X2, e2, W2, st2⟩ := putF X1 hx hZ hown (host := "") (Or.inl (w_ hw 240 rfl)) (Via.of (w_ hw 97 rfl)) e1 Pl2 Pl0 (Or.inl (w_ hw 34 rfl)) (w_ hw 13 rfl) (ty := .int) (by decide) rfl rfl (g := (mkF m 7 #[.val (.ref al), .val (.ref xx)] [(.int (md + (1 : Int32))), (.ref al)])) rfl rfl (hb hby D23_7)
 refine ob_ st2 ?_
 have z2 := W2.size
 have N2 := Fr.snoc X2 N0 gt_al
 have Fw2 : f36_ Z h2 al (.int (md + (1 : Int32))) := Pl2.same W2
 refine o_al X2 hx hby D23_10 rfl rfl ?_
 refine o_al X2 hx hby D23_11 rfl rfl ?_
 refine o_al X2 hx hby D23_12 rfl rfl ?_
 have fc3 := (Pl3.other W2 (sO (Or.inl (w_ hw 37 rfl)) (Or.inl (w_ hw 34 rfl))))
 refine o_gf X2 hx hby hZ hown hw 36 rfl Via.refl e2 fc3 D23_13 fun T4 X4 e4 => ?_
 refine o_al X4 hx hby D23_16 rfl rfl ?_
 have fc5 := (Pl1.other W2 (sO (Or.inl (w_ hw 73 rfl)) (Or.inl (w_ hw 34 rfl))))
 refine o_gf X4 hx hby hZ hown hw 72 rfl Via.refl e4 fc5 D23_17 fun T6 X6 e6 => ?_
 have fc7 := (Pl0.wr W2)
 have q_1 : own_NE al dd := mN
 have fc8 := (Pl4.other W2 (uS q_1))
 have fc9 := (Pl5.wr W2)
 have fc10 := (Pl6.wr W2)
 have fc11 := (Ix.wr W2)
 have O12 : Old Z n0 h2 := (O0.wr W2 gt_al)
 obtain ⟨cq13, q13, q13'⟩ := fc7.cell
 refine o_k 3 (X6.privateBack hx (y := y14_) hown (mw hZ hw 241 rfl) (mw hZ hw 242 rfl) (mw hZ hw 244 rfl) (Cond.privateMethod_at (mvP hZ (w_ hw 243 rfl) (args := #[]))) (mw hZ hw 245 rfl) (by decide) (bk 0 hZ hw 245 14 (rm_addpR l Z a0 hw [] al ii (md + (1 : Int32)) dd kd cp vv xx h2 n0 O12 fc7 fc5 Fw2 fc3 fc8 fc9 fc10 fc11 gt_al gt_dd ovd ne hi0 hi1 nad)) (g := (mkF m 20 #[.val (.ref al), .val (.ref xx)] [(.int ii), (.ref dd), (.ref xx), (.ref al)])) rfl hml.symm (Steps.refl _) (a := al) (by rw [e6]; exact q13) q13' (argsL := [(.ref xx), (.ref dd), (.int ii)]) (rest := []) (lenOf pd7_ rfl) rfl own_z (hb hby D23_20) (o4 e6 0 0 0 0)) fun T13 Lc13 _ X13 hQ13 => ?_
 obtain ⟨vz_13, rfl, M13, K13, g13_0, g13_1, g13_2, g13_3, g13_4, g13_5, g13_6⟩ := hQ13
 have N13 := Fr.app N2 M13
 have z13 := K13.1
 have lt_g13_0 := eG g13_0
 have lt_g13_4 := vG g13_4
 refine o_ic X13 hx hby D23_23 ?_
 have K14 : Keep h0 T13.heap [al, dd] := (((Keep.refl h0 [al, dd]).wr W2 (Or.inl (List.mem_of_getElem? (i := 0) rfl))).trans K13 (kI 0 rfl (kI 1 rfl all0)))
 exact o_rn Bd X13 hx hby rfl D23_24 ⟨vz_13, rfl, N13, K14, g13_0, g13_1, g13_2, g13_3, g13_4, g13_5, g13_6⟩
theorem D24_6 : dD24 6 (.aload_n 0) 1 := by decide +kernel
theorem D24_7 : dD24 7 (.invokevirtual 129) 3 := by decide +kernel
theorem D24_10 : dD24 10 (.astore_n 2) 1 := by decide +kernel
def Q_rm_addpG (Z : State) (al : Addr) (ii md : Int32) (dd : Addr) (kd : ClassId) (cp : Int32) (vv : List Value) (xx mr : Addr) (h0 : Heap) (n0 : Nat) (v : Option Value) (h : Heap) (L : List Loc) : Prop := ∃ (oo : Addr) (kn : ClassId) (vz : List Value) (nw : Int32), v = none ∧ Fr n0 L ∧ Keep h0 h [al] ∧ Exa Z h al s4_ ∧ f32_ Z h al (.int (ii + (1 : Int32))) ∧ f36_ Z h al (.int md) ∧ f31_ Z h al (.ref oo) ∧ Arv Z h oo kn (.object s7_) nw vz .null ∧ Exa Z h oo s9_ ∧ own_obs Z h vz ∧ Ovr Z kn s7_ ∧ h0.size ≤ oo ∧ nw = (cp + (cp >>> ((1 : Int32) &&& 31)))
theorem rm_addpG (l : Launch) (Z : State) (a0 : Array Value) (hw : own_Wd Z a0) (ws : List Jvm.Cond) (al : Addr) (ii md : Int32) (dd : Addr) (kd : ClassId) (cp : Int32) (vv : List Value) (xx mr : Addr) (h0 : Heap) (n0 : Nat) (O0 : Old Z n0 h0) (hMr : own_Mir Z s9_ mr) (Pl0 : Exa Z h0 al s4_) (Pl1 : f32_ Z h0 al (.int ii)) (Pl2 : f36_ Z h0 al (.int md)) (Pl3 : f31_ Z h0 al (.ref dd)) (Pl4 : Arv Z h0 dd kd (.object s7_) cp vv .null) (Pl5 : Exa Z h0 dd s9_) (Pl6 : own_obs Z h0 vv) (Ix : Ins Z h0 xx s7_ true) (gt_al : n0 ≤ al) (nad : ¬ (@Eq Nat al dd)) (ie : ii = cp) (g0 : (0 : Int32) < cp) (g1 : ((ii + (1 : Int32)) - cp) < (cp >>> ((1 : Int32) &&& 31))) (g2 : (0 : Int32) < (cp + (cp >>> ((1 : Int32) &&& 31)))) (g3 : ¬ ((2147483639 : Int32) < (cp + (cp >>> ((1 : Int32) &&& 31))))) (g4 : ¬ ((cp + (cp >>> ((1 : Int32) &&& 31))) < cp)) (g5 : own_gr cp (cp + (cp >>> ((1 : Int32) &&& 31)))) (hi1 : own_lt ii (cp + (cp >>> ((1 : Int32) &&& 31)))) (hi0 : 0 ≤ ii.toInt) :
  own_M l Z ws y14_ jdk_38_method_24_code 4 none ({ frames := 5, cells := 1, slots := 110, locals := 74 } : Room) #[(.ref al), (.ref xx), (.ref dd), (.int ii)] h0 (Q_rm_addpG Z al ii md dd kd cp vv xx mr h0 n0) := by
 refine own_open O0 (plainFor_of_name pn3_) (L0 := #[.val (.ref al), .val (.ref xx), .val (.ref dd), .val (.int ii)]) ?_
 intro p e s m below meth c s₁ Bd hx hby hml hZ hh hown hnm X0 e0 N0 Z0
 have lt_Pl0 := eG Pl0
 have lt_Pl4 := vG Pl4
 refine o_il X0 hx hby D24_0 rfl ?_
 refine o_al X0 hx hby D24_1 rfl rfl ?_
 obtain ⟨cl1, Ar1, q1, S1, M1, H1, G1⟩ := (id Pl4)
 refine ob_ (X0.arraylength hx (by rw [e0]; exact Ar1.1) (State.isArrayOf_alike hZ.alike Ar1.2.1) (g := (mkF m 2 #[.val (.ref al), .val (.ref xx), .val (.ref dd), .val (.int ii)] [(.ref dd), (.int ii)])) rfl rfl (hb hby D24_2)) ?_
 rw [len_of S1 M1]
 refine ob_ (fun _ k => XS.icmpNo X0.here hx rfl (hb hby D24_3) rfl (teq ie).2 k) ?_
 refine o_al X0 hx hby D24_6 rfl rfl ?_
 obtain ⟨cq2, q2, q2'⟩ := Pl0.cell
 refine o_k 3 (X0.privateBack hx (y := y13_) hown (mw hZ hw 246 rfl) (mw hZ hw 247 rfl) (mw hZ hw 249 rfl) (Cond.privateMethod_at (mvP hZ (w_ hw 248 rfl) (args := #[]))) (mw hZ hw 250 rfl) (by decide) (bk 0 hZ hw 250 14 (rm_grow l Z a0 hw [] al ii md dd kd cp vv mr h0 n0 O0 hMr Pl0 Pl1 Pl2 Pl3 Pl4 Pl5 Pl6 gt_al g0 g1 g2 g3 g4 g5)) (g := (mkF m 7 #[.val (.ref al), .val (.ref xx), .val (.ref dd), .val (.int ii)] [(.ref al)])) rfl hml.symm (Steps.refl _) (a := al) (by rw [e0]; exact q2) q2' (argsL := []) (rest := []) (lenOf pd8_ rfl) rfl own_z (hb hby D24_7) (o4 e0 0 1 0 110)) fun T2 Lc2 _ X2 hQ2 => ?_
 obtain ⟨oo_2, kn_2, vn_2, nw_2, rfl, M2, K2, g2_0, g2_1, g2_2, g2_3, g2_4, g2_5, g2_6, r2_0, r2_1, r2_2⟩ := hQ2
 have N2 := Fr.app N0 M2
 have z2 := K2.1
 have lt_g2_0 := eG g2_0
 have lt_g2_4 := vG g2_4
 have hin_nw : ii.toInt < nw_2.toInt := by have q := hi1; rw [← r2_2] at q; exact q
 refine ob_ (fun _ k => XS.astoreN X2.here hx rfl (hb hby D24_10) rfl rfl (l' := #[.val (.ref al), .val (.ref xx), .val (.ref oo_2), .val (.int ii)]) rfl k) ?_
 refine o_al X2 hx hby D24_11 rfl rfl ?_
 refine o_il X2 hx hby D24_12 rfl ?_
 refine o_al X2 hx hby D24_13 rfl rfl ?_
 have fc4 := (own_Ins_keep Ix K2)
 obtain ⟨cl3, Ar3, q3, S3, M3, H3, G3⟩ := (id g2_4)
 have hin3 : ¬ (ii < 0 ∨ cl3.slots.size ≤ (ii).toNatClampNeg) := own_inb S3 (by first | omega | decide) (by first | omega | decide)
 obtain ⟨T3, h3, X3, e3, W3, st3⟩ := stR X2 hx hZ rfl Ar3 (j := ii) hin3 rfl (Sto.ofV Ar3 q3 r2_0 fc4) (g := (mkF m 14 #[.val (.ref al), .val (.ref xx), .val (.ref oo_2), .val (.int ii)] [(.ref xx), (.int ii), (.ref oo_2)])) rfl rfl (hb hby D24_14)
 refine ob_ st3 ?_
 have z3 := W3.size
 have N3 := Fr.snoc X3 N2 (by omega)
 obtain ⟨vz3, Vw3, Vo3⟩ := own_stO g2_4 W3 rfl (by first | omega | decide) (by first | omega | decide) g2_6 fc4
 refine o_al X3 hx hby D24_15 rfl rfl ?_
 refine o_il X3 hx hby D24_16 rfl ?_
 refine o_ic X3 hx hby D24_17 ?_
 refine ob_ (fun _ k => XS.iadd X3.here hx rfl (hb hby D24_18) rfl k) ?_
 have q_1 : own_NE al oo_2 := mN
 have fc5 := (g2_1.other W3 (Or.inl q_1))
 have fc6 := (g2_0.wr W3)
 obtain ⟨T7, h7, X7, e7, W7, st7⟩ := putF X3 hx hZ hown (host := "") (Or.inl (w_ hw 72 rfl)) Via.refl e3 fc5 fc6 (Or.inl (w_ hw 73 rfl)) (w_ hw 13 rfl) (ty := .int) (by decide) rfl rfl (g := (mkF m 19 #[.val (.ref al), .val (.ref xx), .val (.ref oo_2), .val (.int ii)] [(.int (ii + (1 : Int32))), (.ref al)])) rfl rfl (hb hby D24_19)
 refine ob_ st7 ?_
 have z7 := W7.size
 have N7 := Fr.snoc X7 N3 gt_al
 have Fw7 : f32_ Z h7 al (.int (ii + (1 : Int32))) := fc5.same W7
 have fc8 := (fc6.wr W7)
 have fc9 := ((g2_2.other W3 (Or.inl q_1)).other W7 (sO (Or.inl (w_ hw 34 rfl)) (Or.inl (w_ hw 73 rfl))))
 have fc10 := ((g2_3.other W3 (Or.inl q_1)).other W7 (sO (Or.inl (w_ hw 37 rfl)) (Or.inl (w_ hw 73 rfl))))
 have fc11 := (Vw3.other W7 (uS q_1))
 have fc12 := ((g2_5.wr W3).wr W7)
 have fc13 := (Vo3.wr W7)
 have K14 : Keep h0 h7 [al] := ((((Keep.refl h0 [al]).trans K2 (kI 0 rfl all0)).wr W3 (Or.inr (by omega))).wr W7 (Or.inl (List.mem_of_getElem? (i := 0) rfl)))
 exact o_rv Bd X7 hx hby e7 D24_22 ⟨oo_2, kn_2, vz3, nw_2, rfl, N7, K14, fc8, Fw7, fc9, fc10, fc11, fc12, fc13, r2_0, (by omega), r2_2⟩
def Q_rm_addG (Z : State) (al : Addr) (ii md : Int32) (dd : Addr) (kd : ClassId) (cp : Int32) (vv : List Value) (xx mr : Addr) (h0 : Heap) (n0 : Nat) (v : Option Value) (h : Heap) (L : List Loc) : Prop := ∃ (oo : Addr) (kn : ClassId) (vz : List Value) (nw : Int32), v = some v1_ ∧ Fr n0 L ∧ Keep h0 h [al] ∧ Exa Z h al s4_ ∧ f32_ Z h al (.int (ii + (1 : Int32))) ∧ f36_ Z h al (.int (md + (1 : Int32))) ∧ f31_ Z h al (.ref oo) ∧ Arv Z h oo kn (.object s7_) nw vz .null ∧ Exa Z h oo s9_ ∧ own_obs Z h vz ∧ Ovr Z kn s7_ ∧ h0.size ≤ oo ∧ nw = (cp + (cp >>> ((1 : Int32) &&& 31)))
theorem rm_addG (l : Launch) (Z : State) (a0 : Array Value) (hw : own_Wd Z a0) (ws : List Jvm.Cond) (al : Addr) (ii md : Int32) (dd : Addr) (kd : ClassId) (cp : Int32) (vv : List Value) (xx mr : Addr) (h0 : Heap) (n0 : Nat) (O0 : Old Z n0 h0) (hMr : own_Mir Z s9_ mr) (Pl0 : Exa Z h0 al s4_) (Pl1 : f32_ Z h0 al (.int ii)) (Pl2 : f36_ Z h0 al (.int md)) (Pl3 : f31_ Z h0 al (.ref dd)) (Pl4 : Arv Z h0 dd kd (.object s7_) cp vv .null) (Pl5 : Exa Z h0 dd s9_) (Pl6 : own_obs Z h0 vv) (Ix : Ins Z h0 xx s7_ true) (gt_al : n0 ≤ al) (nad : ¬ (@Eq Nat al dd)) (ie : ii = cp) (g0 : (0 : Int32) < cp) (g1 : ((ii + (1 : Int32)) - cp) < (cp >>> ((1 : Int32) &&& 31))) (g2 : (0 : Int32) < (cp + (cp >>> ((1 : Int32) &&& 31)))) (g3 : ¬ ((2147483639 : Int32) < (cp + (cp >>> ((1 : Int32) &&& 31))))) (g4 : ¬ ((cp + (cp >>> ((1 : Int32) &&& 31))) < cp)) (g5 : own_gr cp (cp + (cp >>> ((1 : Int32) &&& 31)))) (hi1 : own_lt ii (cp + (cp >>> ((1 : Int32) &&& 31)))) (hi0 : 0 ≤ ii.toInt) :
  own_M l Z ws y15_ jdk_38_method_25_code 2 (some .boolean) ({ frames := 6, cells := 1, slots := 110, locals := 89 } : Room) #[(.ref al), (.ref xx)] h0 (Q_rm_addG Z al ii md dd kd cp vv xx mr h0 n0) := by
 refine own_open O0 (plainFor_of_name pn3_) (L0 := #[.val (.ref al), .val (.ref xx)]) ?_
 intro p e s m below meth c s₁ Bd hx hby hml hZ hh hown hnm X0 e0 N0 Z0
 have lt_Pl0 := eG Pl0
 have lt_Pl4 := vG Pl4
 refine o_al X0 hx hby D23_0 rfl rfl ?_
 refine ob_ (fun _ k => XS.dup X0.here hx rfl (hb hby D23_1) rfl rfl k) ?_
 refine o_gf X0 hx hby hZ hown hw 240 rfl (Via.of (w_ hw 97 rfl)) e0 Pl2 D23_2 fun T1 X1 e1 => ?_
 refine o_ic X1 hx hby D23_5 ?_
 refine ob_ (fun _ k => XS.iadd X1.here hx rfl (hb hby D23_6) rfl k) ?_
 obtain ⟨T2, h2, X2, e2, W2, st2⟩ := putF X1 hx hZ hown (host := "") (Or.inl (w_ hw 240 rfl)) (Via.of (w_ hw 97 rfl)) e1 Pl2 Pl0 (Or.inl (w_ hw 34 rfl)) (w_ hw 13 rfl) (ty := .int) (by decide) rfl rfl (g := (mkF m 7 #[.val (.ref al), .val (.ref xx)] [(.int (md + (1 : Int32))), (.ref al)])) rfl rfl (hb hby D23_7)
 refine ob_ st2 ?_
 have z2 := W2.size
 have N2 := Fr.snoc X2 N0 gt_al
 have Fw2 : f36_ Z h2 al (.int (md + (1 : Int32))) := Pl2.same W2
 refine o_al X2 hx hby D23_10 rfl rfl ?_
 refine o_al X2 hx hby D23_11 rfl rfl ?_
 refine o_al X2 hx hby D23_12 rfl rfl ?_
 have fc3 := (Pl3.other W2 (sO (Or.inl (w_ hw 37 rfl)) (Or.inl (w_ hw 34 rfl))))
 refine o_gf X2 hx hby hZ hown hw 36 rfl Via.refl e2 fc3 D23_13 fun T4 X4 e4 => ?_
 refine o_al X4 hx hby D23_16 rfl rfl ?_
 have fc5 := (Pl1.other W2 (sO (Or.inl (w_ hw 73 rfl)) (Or.inl (w_ hw 34 rfl))))
 refine o_gf X4 hx hby hZ hown hw 72 rfl Via.refl e4 fc5 D23_17 fun T6 X6 e6 => ?_
 have fc7 := (Pl0.wr W2)
 have q_1 : own_NE al dd := mN
 have fc8 := (Pl4.other W2 (uS q_1))
 have fc9 := (Pl5.wr W2)
 have fc10 := (Pl6.wr W2)
 have fc11 := (Ix.wr W2)
 have O12 : Old Z n0 h2 := (O0.wr W2 gt_al)
 obtain ⟨cq13, q13, q13'⟩ := fc7.cell
 refine o_k 3 (X6.privateBack hx (y := y14_) hown (mw hZ hw 241 rfl) (mw hZ hw 242 rfl) (mw hZ hw 244 rfl) (Cond.privateMethod_at (mvP hZ (w_ hw 243 rfl) (args := #[]))) (mw hZ hw 245 rfl) (by decide) (bk 0 hZ hw 245 14 (rm_addpG l Z a0 hw [] al ii (md + (1 : Int32)) dd kd cp vv xx mr h2 n0 O12 hMr fc7 fc5 Fw2 fc3 fc8 fc9 fc10 fc11 gt_al nad ie g0 g1 g2 g3 g4 g5 hi1 hi0)) (g := (mkF m 20 #[.val (.ref al), .val (.ref xx)] [(.int ii), (.ref dd), (.ref xx), (.ref al)])) rfl hml.symm (Steps.refl _) (a := al) (by rw [e6]; exact q13) q13' (argsL := [(.ref xx), (.ref dd), (.int ii)]) (rest := []) (lenOf pd7_ rfl) rfl own_z (hb hby D23_20) (o4 e6 0 1 0 110)) fun T13 Lc13 _ X13 hQ13 => ?_
 obtain ⟨oo_13, kn_13, vz_13, nw_13, rfl, M13, K13, g13_0, g13_1, g13_2, g13_3, g13_4, g13_5, g13_6, r13_0, r13_1, r13_2⟩ := hQ13
 have N13 := Fr.app N2 M13
 have z13 := K13.1
 have lt_g13_0 := eG g13_0
 have lt_g13_4 := vG g13_4
 refine o_ic X13 hx hby D23_23 ?_
 have K14 : Keep h0 T13.heap [al] := (((Keep.refl h0 [al]).wr W2 (Or.inl (List.mem_of_getElem? (i := 0) rfl))).trans K13 (kI 0 rfl all0))
 exact o_rn Bd X13 hx hby rfl D23_24 ⟨oo_13, kn_13, vz_13, nw_13, rfl, N13, K14, g13_0, g13_1, g13_2, g13_3, g13_4, g13_5, g13_6, r13_0, (by omega), r13_2⟩
def Q_rm_addpZ (Z : State) (al : Addr) (md : Int32) (xx dce : Addr) (kce : ClassId) (h0 : Heap) (n0 : Nat) (v : Option Value) (h : Heap) (L : List Loc) : Prop := ∃ (oo : Addr) (kn : ClassId) (vz : List Value), v = none ∧ Fr n0 L ∧ Keep h0 h [al] ∧ Exa Z h al s4_ ∧ f32_ Z h al v1_ ∧ f36_ Z h al (.int md) ∧ f31_ Z h al (.ref oo) ∧ Arv Z h oo kn (.object s7_) (10 : Int32) vz .null ∧ Exa Z h oo s9_ ∧ own_obs Z h vz ∧ Ovr Z kn s7_ ∧ h0.size ≤ oo
theorem rm_addpZ (l : Launch) (Z : State) (a0 : Array Value) (hw : own_Wd Z a0) (ws : List Jvm.Cond) (al : Addr) (md : Int32) (xx dce : Addr) (kce : ClassId) (h0 : Heap) (n0 : Nat) (O0 : Old Z n0 h0) (S_DCE : Sta Z Z.heap s4_ s8_ s9_ (.ref dce)) (A_DCE : Arv Z Z.heap dce kce (.object s7_) (0 : Int32) [] .null) (E_DCE : Exa Z Z.heap dce s9_) (Pl0 : Exa Z h0 al s4_) (Pl1 : f32_ Z h0 al v0_) (Pl2 : f36_ Z h0 al (.int md)) (Pl3 : f31_ Z h0 al (.ref dce)) (Ix : Ins Z h0 xx s7_ true) (gt_al : n0 ≤ al) :
  own_M l Z ws y14_ jdk_38_method_24_code 4 none ({ frames := 3, cells := 1, slots := 10, locals := 41 } : Room) #[(.ref al), (.ref xx), (.ref dce), v0_] h0 (Q_rm_addpZ Z al md xx dce kce h0 n0) := by
 refine own_open O0 (plainFor_of_name pn3_) (L0 := #[.val (.ref al), .val (.ref xx), .val (.ref dce), .val v0_]) ?_
 intro p e s m below meth c s₁ Bd hx hby hml hZ hh hown hnm X0 e0 N0 Z0
 have lt_Pl0 := eG Pl0
 refine o_il X0 hx hby D24_0 rfl ?_
 refine o_al X0 hx hby D24_1 rfl rfl ?_
 have fc1 : Arv Z h0 dce kce (.object s7_) (0 : Int32) [] .null := A_DCE.ext O0.2
 obtain ⟨cl2, Ar2, q2, S2, M2, H2, G2⟩ := (id fc1)
 refine ob_ (X0.arraylength hx (by rw [e0]; exact Ar2.1) (State.isArrayOf_alike hZ.alike Ar2.2.1) (g := (mkF m 2 #[.val (.ref al), .val (.ref xx), .val (.ref dce), .val v0_] [(.ref dce), v0_])) rfl rfl (hb hby D24_2)) ?_
 rw [len_of S2 M2]
 refine ob_ (fun _ k => XS.icmpNo X0.here hx rfl (hb hby D24_3) rfl (teq (by decide : (0 : Int32) = (0 : Int32))).2 k) ?_
 refine o_al X0 hx hby D24_6 rfl rfl ?_
 obtain ⟨cq3, q3, q3'⟩ := Pl0.cell
 refine o_k 3 (X0.privateBack hx (y := y13_) hown (mw hZ hw 246 rfl) (mw hZ hw 247 rfl) (mw hZ hw 249 rfl) (Cond.privateMethod_at (mvP hZ (w_ hw 248 rfl) (args := #[]))) (mw hZ hw 250 rfl) (by decide) (bk 0 hZ hw 250 14 (rm_growz l Z a0 hw [] al md dce kce h0 n0 O0 S_DCE A_DCE E_DCE Pl0 Pl1 Pl2 Pl3 gt_al)) (g := (mkF m 7 #[.val (.ref al), .val (.ref xx), .val (.ref dce), .val v0_] [(.ref al)])) rfl hml.symm (Steps.refl _) (a := al) (by rw [e0]; exact q3) q3' (argsL := []) (rest := []) (lenOf pd8_ rfl) rfl own_z (hb hby D24_7) (o4 e0 0 1 0 10)) fun T3 Lc3 _ X3 hQ3 => ?_
 obtain ⟨oo_3, kn_3, rfl, M3, K3, g3_0, g3_1, g3_2, g3_3, g3_4, g3_5, r3_0, r3_1⟩ := hQ3
 have N3 := Fr.app N0 M3
 have z3 := K3.1
 have lt_g3_0 := eG g3_0
 have lt_g3_4 := vG g3_4
 refine ob_ (fun _ k => XS.astoreN X3.here hx rfl (hb hby D24_10) rfl rfl (l' := #[.val (.ref al), .val (.ref xx), .val (.ref oo_3), .val v0_]) rfl k) ?_
 have Vb4 : own_obs Z T3.heap [] := own_obs_nil
 refine o_al X3 hx hby D24_11 rfl rfl ?_
 refine o_il X3 hx hby D24_12 rfl ?_
 refine o_al X3 hx hby D24_13 rfl rfl ?_
 have fc6 := (own_Ins_keep Ix K3)
 obtain ⟨cl5, Ar5, q5, S5, M5, H5, G5⟩ := (id g3_4)
 have hin5 : ¬ ((0 : Int32) < 0 ∨ cl5.slots.size ≤ ((0 : Int32)).toNatClampNeg) := own_inb S5 (by first | omega | decide) (by first | omega | decide)
 obtain ⟨T5, h5, X5, e5, W5, st5⟩ := stR X3 hx hZ rfl Ar5 (j := (0 : Int32)) hin5 rfl (Sto.ofV Ar5 q5 r3_0 fc6) (g := (mkF m 14 #[.val (.ref al), .val (.ref xx), .val (.ref oo_3), .val v0_] [(.ref xx), v0_, (.ref oo_3)])) rfl rfl (hb hby D24_14)
 refine ob_ st5 ?_
 have z5 := W5.size
 have N5 := Fr.snoc X5 N3 (by omega)
 obtain ⟨vz5, Vw5, Vo5⟩ := own_stO g3_4 W5 rfl (by first | omega | decide) (by first | omega | decide) Vb4 fc6
 refine o_al X5 hx hby D24_15 rfl rfl ?_
 refine o_il X5 hx hby D24_16 rfl ?_
 refine o_ic X5 hx hby D24_17 ?_
 refine ob_ (fun _ k => XS.iadd X5.here hx rfl (hb hby D24_18) rfl k) ?_
 have q_1 : own_NE al oo_3 := mN
 have fc7 := (g3_1.other W5 (Or.inl q_1))
 have fc8 := (g3_0.wr W5)
 obtain ⟨T9, h9, X9, e9, W9, st9⟩ := putF X5 hx hZ hown (host := "") (Or.inl (w_ hw 72 rfl)) Via.refl e5 fc7 fc8 (Or.inl (w_ hw 73 rfl)) (w_ hw 13 rfl) (ty := .int) (by decide) rfl rfl (g := (mkF m 19 #[.val (.ref al), .val (.ref xx), .val (.ref oo_3), .val v0_] [v1_, (.ref al)])) rfl rfl (hb hby D24_19)
 refine ob_ st9 ?_
 have z9 := W9.size
 have N9 := Fr.snoc X9 N5 gt_al
 have Fw9 : f32_ Z h9 al v1_ := fc7.same W9
 have fc10 := (fc8.wr W9)
 have fc11 := ((g3_2.other W5 (Or.inl q_1)).other W9 (sO (Or.inl (w_ hw 34 rfl)) (Or.inl (w_ hw 73 rfl))))
 have fc12 := ((g3_3.other W5 (Or.inl q_1)).other W9 (sO (Or.inl (w_ hw 37 rfl)) (Or.inl (w_ hw 73 rfl))))
 have fc13 := (Vw5.other W9 (uS q_1))
 have fc14 := ((g3_5.wr W5).wr W9)
 have fc15 := (Vo5.wr W9)
 have K16 : Keep h0 h9 [al] := ((((Keep.refl h0 [al]).trans K3 (kI 0 rfl all0)).wr W5 (Or.inr (by omega))).wr W9 (Or.inl (List.mem_of_getElem? (i := 0) rfl)))
 exact o_rv Bd X9 hx hby e9 D24_22 ⟨oo_3, kn_3, vz5, rfl, N9, K16, fc10, Fw9, fc11, fc12, fc13, fc14, fc15, r3_0, (by omega)⟩
def Q_rm_addZ (Z : State) (al : Addr) (md : Int32) (xx dce : Addr) (kce : ClassId) (h0 : Heap) (n0 : Nat) (v : Option Value) (h : Heap) (L : List Loc) : Prop := ∃ (oo : Addr) (kn : ClassId) (vz : List Value), v = some v1_ ∧ Fr n0 L ∧ Keep h0 h [al] ∧ Exa Z h al s4_ ∧ f32_ Z h al v1_ ∧ f36_ Z h al (.int (md + (1 : Int32))) ∧ f31_ Z h al (.ref oo) ∧ Arv Z h oo kn (.object s7_) (10 : Int32) vz .null ∧ Exa Z h oo s9_ ∧ own_obs Z h vz ∧ Ovr Z kn s7_ ∧ h0.size ≤ oo
theorem rm_addZ (l : Launch) (Z : State) (a0 : Array Value) (hw : own_Wd Z a0) (ws : List Jvm.Cond) (al : Addr) (md : Int32) (xx dce : Addr) (kce : ClassId) (h0 : Heap) (n0 : Nat) (O0 : Old Z n0 h0) (S_DCE : Sta Z Z.heap s4_ s8_ s9_ (.ref dce)) (A_DCE : Arv Z Z.heap dce kce (.object s7_) (0 : Int32) [] .null) (E_DCE : Exa Z Z.heap dce s9_) (Pl0 : Exa Z h0 al s4_) (Pl1 : f32_ Z h0 al v0_) (Pl2 : f36_ Z h0 al (.int md)) (Pl3 : f31_ Z h0 al (.ref dce)) (Ix : Ins Z h0 xx s7_ true) (gt_al : n0 ≤ al) :
  own_M l Z ws y15_ jdk_38_method_25_code 2 (some .boolean) ({ frames := 4, cells := 1, slots := 10, locals := 56 } : Room) #[(.ref al), (.ref xx)] h0 (Q_rm_addZ Z al md xx dce kce h0 n0) := by
 refine own_open O0 (plainFor_of_name pn3_) (L0 := #[.val (.ref al), .val (.ref xx)]) ?_
 intro p e s m below meth c s₁ Bd hx hby hml hZ hh hown hnm X0 e0 N0 Z0
 have lt_Pl0 := eG Pl0
 refine o_al X0 hx hby D23_0 rfl rfl ?_
 refine ob_ (fun _ k => XS.dup X0.here hx rfl (hb hby D23_1) rfl rfl k) ?_
 refine o_gf X0 hx hby hZ hown hw 240 rfl (Via.of (w_ hw 97 rfl)) e0 Pl2 D23_2 fun T1 X1 e1 => ?_
 refine o_ic X1 hx hby D23_5 ?_
 refine ob_ (fun _ k => XS.iadd X1.here hx rfl (hb hby D23_6) rfl k) ?_
 obtain ⟨T2, h2, X2, e2, W2, st2⟩ := putF X1 hx hZ hown (host := "") (Or.inl (w_ hw 240 rfl)) (Via.of (w_ hw 97 rfl)) e1 Pl2 Pl0 (Or.inl (w_ hw 34 rfl)) (w_ hw 13 rfl) (ty := .int) (by decide) rfl rfl (g := (mkF m 7 #[.val (.ref al), .val (.ref xx)] [(.int (md + (1 : Int32))), (.ref al)])) rfl rfl (hb hby D23_7)
 refine ob_ st2 ?_
 have z2 := W2.size
 have N2 := Fr.snoc X2 N0 gt_al
 have Fw2 : f36_ Z h2 al (.int (md + (1 : Int32))) := Pl2.same W2
 refine o_al X2 hx hby D23_10 rfl rfl ?_
 refine o_al X2 hx hby D23_11 rfl rfl ?_
 refine o_al X2 hx hby D23_12 rfl rfl ?_
 have fc3 := (Pl3.other W2 (sO (Or.inl (w_ hw 37 rfl)) (Or.inl (w_ hw 34 rfl))))
 refine o_gf X2 hx hby hZ hown hw 36 rfl Via.refl e2 fc3 D23_13 fun T4 X4 e4 => ?_
 refine o_al X4 hx hby D23_16 rfl rfl ?_
 have fc5 := (Pl1.other W2 (sO (Or.inl (w_ hw 73 rfl)) (Or.inl (w_ hw 34 rfl))))
 refine o_gf X4 hx hby hZ hown hw 72 rfl Via.refl e4 fc5 D23_17 fun T6 X6 e6 => ?_
 have fc7 := (Pl0.wr W2)
 have fc8 := (Ix.wr W2)
 have O9 : Old Z n0 h2 := (O0.wr W2 gt_al)
 obtain ⟨cq10, q10, q10'⟩ := fc7.cell
 refine o_k 3 (X6.privateBack hx (y := y14_) hown (mw hZ hw 241 rfl) (mw hZ hw 242 rfl) (mw hZ hw 244 rfl) (Cond.privateMethod_at (mvP hZ (w_ hw 243 rfl) (args := #[]))) (mw hZ hw 245 rfl) (by decide) (bk 0 hZ hw 245 14 (rm_addpZ l Z a0 hw [] al (md + (1 : Int32)) xx dce kce h2 n0 O9 S_DCE A_DCE E_DCE fc7 fc5 Fw2 fc3 fc8 gt_al)) (g := (mkF m 20 #[.val (.ref al), .val (.ref xx)] [v0_, (.ref dce), (.ref xx), (.ref al)])) rfl hml.symm (Steps.refl _) (a := al) (by rw [e6]; exact q10) q10' (argsL := [(.ref xx), (.ref dce), v0_]) (rest := []) (lenOf pd7_ rfl) rfl own_z (hb hby D23_20) (o4 e6 0 1 0 10)) fun T10 Lc10 _ X10 hQ10 => ?_
 obtain ⟨oo_10, kn_10, vz_10, rfl, M10, K10, g10_0, g10_1, g10_2, g10_3, g10_4, g10_5, g10_6, r10_0, r10_1⟩ := hQ10
 have N10 := Fr.app N2 M10
 have z10 := K10.1
 have lt_g10_0 := eG g10_0
 have lt_g10_4 := vG g10_4
 refine o_ic X10 hx hby D23_23 ?_
 have K11 : Keep h0 T10.heap [al] := (((Keep.refl h0 [al]).wr W2 (Or.inl (List.mem_of_getElem? (i := 0) rfl))).trans K10 (kI 0 rfl all0))
 exact o_rn Bd X10 hx hby rfl D23_24 ⟨oo_10, kn_10, vz_10, rfl, N10, K11, g10_0, g10_1, g10_2, g10_3, g10_4, g10_5, g10_6, r10_0, (by omega)⟩
abbrev dD20 (n : Nat) (i : Instr) (k : Nat) : Prop := decode prog_27_method_1_code n = .ok (i, k)
theorem D20_0 : dD20 0 (.aload_n 0) 1 := by decide +kernel
theorem D20_1 : dD20 1 (.invokespecial 1) 3 := by decide +kernel
theorem D20_4 : dD20 4 (.aload_n 0) 1 := by decide +kernel
theorem D20_5 : dD20 5 (.new 7) 3 := by decide +kernel
theorem D20_8 : dD20 8 .dup 1 := by decide +kernel
theorem D20_9 : dD20 9 (.invokespecial 9) 3 := by decide +kernel
theorem D20_12 : dD20 12 (.putfield 10) 3 := by decide +kernel
theorem D20_15 : dD20 15 (.aload_n 0) 1 := by decide +kernel
theorem D20_16 : dD20 16 (.new 16) 3 := by decide +kernel
theorem D20_19 : dD20 19 .dup 1 := by decide +kernel
theorem D20_20 : dD20 20 (.invokespecial 18) 3 := by decide +kernel
theorem D20_23 : dD20 23 (.putfield 19) 3 := by decide +kernel
theorem D20_26 : dD20 26 (.aload_n 0) 1 := by decide +kernel
theorem D20_27 : dD20 27 (.new 16) 3 := by decide +kernel
theorem D20_30 : dD20 30 .dup 1 := by decide +kernel
theorem D20_31 : dD20 31 (.invokespecial 18) 3 := by decide +kernel
theorem D20_34 : dD20 34 (.putfield 23) 3 := by decide +kernel
theorem D20_37 : dD20 37 (.aload_n 0) 1 := by decide +kernel
theorem D20_38 : dD20 38 (.new 16) 3 := by decide +kernel
theorem D20_41 : dD20 41 .dup 1 := by decide +kernel
theorem D20_42 : dD20 42 (.invokespecial 18) 3 := by decide +kernel
theorem D20_45 : dD20 45 (.putfield 26) 3 := by decide +kernel
theorem D20_48 : dD20 48 (.iconst 0) 1 := by decide +kernel
theorem D20_49 : dD20 49 (.istore_n 1) 1 := by decide +kernel
theorem D20_50 : dD20 50 (.iload_n 1) 1 := by decide +kernel
theorem D20_51 : dD20 51 (.bipush 64) 2 := by decide +kernel
theorem D20_53 : dD20 53 (.if_icmp .ge 26) 3 := by decide +kernel
theorem D20_56 : dD20 56 (.aload_n 0) 1 := by decide +kernel
theorem D20_57 : dD20 57 (.getfield 23) 3 := by decide +kernel
theorem D20_60 : dD20 60 (.new 16) 3 := by decide +kernel
theorem D20_63 : dD20 63 .dup 1 := by decide +kernel
theorem D20_64 : dD20 64 (.invokespecial 18) 3 := by decide +kernel
theorem D20_67 : dD20 67 (.invokeinterface 31 2) 5 := by decide +kernel
theorem D20_72 : dD20 72 .pop 1 := by decide +kernel
theorem D20_73 : dD20 73 (.iinc 1 1) 3 := by decide +kernel
theorem D20_76 : dD20 76 (.goto (-26)) 3 := by decide +kernel
theorem D20_79 : dD20 79 (.iconst 0) 1 := by decide +kernel
theorem D20_80 : dD20 80 (.istore_n 1) 1 := by decide +kernel
theorem D20_81 : dD20 81 (.iload_n 1) 1 := by decide +kernel
theorem D20_82 : dD20 82 (.bipush 64) 2 := by decide +kernel
theorem D20_84 : dD20 84 (.if_icmp .gt 26) 3 := by decide +kernel
theorem D20_87 : dD20 87 (.aload_n 0) 1 := by decide +kernel
theorem D20_88 : dD20 88 (.getfield 26) 3 := by decide +kernel
theorem D20_91 : dD20 91 (.new 16) 3 := by decide +kernel
theorem D20_94 : dD20 94 .dup 1 := by decide +kernel
theorem D20_95 : dD20 95 (.invokespecial 18) 3 := by decide +kernel
theorem D20_98 : dD20 98 (.invokeinterface 31 2) 5 := by decide +kernel
theorem D20_103 : dD20 103 .pop 1 := by decide +kernel
theorem D20_104 : dD20 104 (.iinc 1 1) 3 := by decide +kernel
theorem D20_107 : dD20 107 (.goto (-26)) 3 := by decide +kernel
theorem D20_110 : dD20 110 .return_ 1 := by decide +kernel
def Q_rm_px (Z : State) (tt dce : Addr) (kce : ClassId) (mr : Addr) (h0 : Heap) (n0 : Nat) (v : Option Value) (h : Heap) (L : List Loc) : Prop := v = none ∧ Fr n0 L ∧ Keep h0 h [tt] ∧ Exa Z h tt s39_
theorem rm_px (l : Launch) (Z : State) (a0 : Array Value) (hw : own_Wd Z a0) (ws : List Jvm.Cond) (tt dce : Addr) (kce : ClassId) (mr : Addr) (h0 : Heap) (n0 : Nat) (O0 : Old Z n0 h0) (S_DCE : Sta Z Z.heap s4_ s8_ s9_ (.ref dce)) (A_DCE : Arv Z Z.heap dce kce (.object s7_) (0 : Int32) [] .null) (E_DCE : Exa Z Z.heap dce s9_) (hMr : own_Mir Z s9_ mr) (Pf0 : Exa Z h0 tt s39_) (Pf1 : Fld Z h0 tt s39_ "_buckets" s42_ .null) (Pf2 : Fld Z h0 tt s39_ "_masks" s27_ .null) (Pf3 : f30_ Z h0 tt .null) (Pf4 : f29_ Z h0 tt .null) (gt_tt : n0 ≤ tt) :
  own_M l Z ws y16_ prog_27_method_1_code 2 none ({ frames := 9, cells := 300, slots := 2000, locals := 160 } : Room) #[(.ref tt)] h0 (Q_rm_px Z tt dce kce mr h0 n0) := by
 refine own_open O0 (plainFor_of_name pn10_) (L0 := #[.val (.ref tt), .unset]) ?_
 intro p e s m below meth c s₁ Bd hx hby hml hZ hh hown hnm X0 e0 N0 Z0
 have lt_Pf0 := eG Pf0
 refine o_al X0 hx hby D20_0 rfl rfl ?_
 obtain ⟨T1, X1, e1, st1⟩ := initO X0 hx hZ hown (w_ hw 205 rfl) (w_ hw 31 rfl) (w_ hw 32 rfl) e0 (g := (mkF m 1 #[.val (.ref tt), .unset] [(.ref tt)])) rfl (by rw [hml]; rfl) rfl (hb hby D20_1) (by decide) (W := 0) (by show 2 * 0 + _ ≤ _; exact Nat.le_of_eq rfl) (by decide)
 refine ob_ st1 ?_
 refine o_al X1 hx hby D20_4 rfl rfl ?_
 obtain ⟨T2, h2, X2, e2, E2, A2, D2, U2, st2⟩ := newO X1 hx hZ hown (w_ hw 206 rfl) (w_ hw 207 rfl) (w_ hw 208 rfl) e1 (g := (mkF m 5 #[.val (.ref tt), .unset] [(.ref tt)])) rfl (hb hby D20_5) (by decide) (by decide)
 obtain ⟨ob2, g2⟩ : ∃ z, z = h0.size := ⟨_, rfl⟩
 rw [← g2] at A2 D2 U2 st2
 refine ob_ st2 ?_
 have z2 := E2.1
 have lt2 : h2.size > ob2 := A2.lt
 refine ob_ (fun _ k => XS.dup X2.here hx rfl (hb hby D20_8) rfl rfl k) ?_
 have O3 : Old Z n0 h2 := (O0.ext E2)
 obtain ⟨_, _, ⟨T4, L4, k4, n4⟩, -, X4, ⟨Lc4, hQ4, l4, y4, z4⟩, st4⟩ := X2.specialBack hx (y := y5_) rfl hown (mw hZ hw 209 rfl) (mw hZ hw 210 rfl) (mw hZ hw 211 rfl) (by decide) (bk 2 hZ hw 211 208 (rm_hm l Z a0 hw [] ob2 h2 n0 O3 A2 (show Fld Z h2 ob2 s40_ "loadFactor" "F" (.float (0 : UInt32)) from D2 (Or.inr (w_ hw 221 rfl)) (ty := .float) (by decide)) (by omega))) (g := (mkF m 9 #[.val (.ref tt), .unset] [(.ref ob2), (.ref ob2), (.ref tt)])) rfl hml.symm (Steps.refl _) (a := ob2) (argsL := []) (rest := [(.ref ob2), (.ref tt)]) (lenOf pd1_ rfl) rfl own_z (hb hby D20_9) (o4 e2 1 0 8 0)
 dsimp only [Pt.U, Pt.locs, Pt.cells, Pt.slots] at X4 l4 y4 z4 st4 hQ4
 subst l4 y4 z4
 obtain ⟨rfl, M4, K4, g4_0⟩ := hQ4
 have N4 := Fr.app N0 M4
 refine ob_ (fun _ k => st4.trans k) ?_
 have z4 := K4.1
 have lt_g4_0 := eG g4_0
 have fc5 := ((Pf1.ext E2).keep K4 (nS nin0))
 have fc6 := ((Pf0.ext E2).keep K4)
 obtain ⟨T7, h7, X7, e7, W7, st7⟩ := putF X4 hx hZ hown (host := "") (Or.inl (w_ hw 222 rfl)) Via.refl rfl fc5 fc6 (Or.inr ⟨(w_ hw 223 rfl), rfl, hnm⟩) (w_ hw 200 rfl) (ty := (.object "java/util/Map")) (by decide) rfl rfl (g := (mkF m 12 #[.val (.ref tt), .unset] [(.ref ob2), (.ref tt)])) rfl rfl (hb hby D20_12)
 refine ob_ st7 ?_
 have z7 := W7.size
 have N7 := Fr.snoc X7 N4 gt_tt
 have Fw7 : Fld Z h7 tt s39_ "_buckets" s42_ (.ref ob2) := fc5.same W7
 refine o_al X7 hx hby D20_15 rfl rfl ?_
 obtain ⟨T8, h8, X8, e8, E8, A8, D8, U8, st8⟩ := newO X7 hx hZ hown (w_ hw 224 rfl) (w_ hw 13 rfl) (w_ hw 14 rfl) e7 (g := (mkF m 16 #[.val (.ref tt), .unset] [(.ref tt)])) rfl (hb hby D20_16) (by decide) (by decide)
 obtain ⟨ob8, g8⟩ : ∃ z, z = h7.size := ⟨_, rfl⟩
 rw [← g8] at A8 D8 U8 st8
 refine ob_ st8 ?_
 have z8 := E8.1
 have lt8 : h8.size > ob8 := A8.lt
 refine ob_ (fun _ k => XS.dup X8.here hx rfl (hb hby D20_19) rfl rfl k) ?_
 have O9 : Old Z n0 h8 := (((O3.keep K4 (allS (by omega) all0)).wr W7 gt_tt).ext E8)
 obtain ⟨_, _, ⟨T10, L10, k10, n10⟩, -, X10, ⟨Lc10, hQ10, l10, y10, z10⟩, st10⟩ := X8.specialBack hx (y := y3_) rfl hown (mw hZ hw 225 rfl) (mw hZ hw 16 rfl) (mw hZ hw 17 rfl) (by decide) (bk 2 hZ hw 17 14 (rm_ai l Z a0 hw [] ob8 dce kce h8 n0 O9 S_DCE A_DCE E_DCE A8 (show f32_ Z h8 ob8 v0_ from D8 (Or.inl (w_ hw 73 rfl)) (ty := .int) (by decide)) (show f36_ Z h8 ob8 v0_ from D8 (Or.inl (w_ hw 34 rfl)) (ty := .int) (by decide)) (show f31_ Z h8 ob8 .null from D8 (Or.inl (w_ hw 37 rfl)) (ty := (.array (.object s7_))) (by decide)) (by omega))) (g := (mkF m 20 #[.val (.ref tt), .unset] [(.ref ob8), (.ref ob8), (.ref tt)])) rfl hml.symm (Steps.refl _) (a := ob8) (argsL := []) (rest := [(.ref ob8), (.ref tt)]) (lenOf pd1_ rfl) rfl own_z (hb hby D20_20) (o4 e8 2 0 11 0)
 dsimp only [Pt.U, Pt.locs, Pt.cells, Pt.slots] at X10 l10 y10 z10 st10 hQ10
 subst l10 y10 z10
 obtain ⟨rfl, M10, K10, g10_0, g10_1, g10_2, g10_3⟩ := hQ10
 have N10 := Fr.app N7 M10
 refine ob_ (fun _ k => st10.trans k) ?_
 have z10 := K10.1
 have lt_g10_0 := eG g10_0
 have fc11 := (((((Pf2.ext E2).keep K4 (nS nin0)).other W7 (sO (Or.inr (w_ hw 227 rfl)) (Or.inr (w_ hw 223 rfl)))).ext E8).keep K10 (nS nin0))
 have fc12 := (((fc6.wr W7).ext E8).keep K10)
 obtain ⟨T13, h13, X13, e13, W13, st13⟩ := putF X10 hx hZ hown (host := "") (Or.inl (w_ hw 226 rfl)) Via.refl rfl fc11 fc12 (Or.inr ⟨(w_ hw 227 rfl), rfl, hnm⟩) (w_ hw 200 rfl) (ty := (.object s16_)) (by decide) rfl rfl (g := (mkF m 23 #[.val (.ref tt), .unset] [(.ref ob8), (.ref tt)])) rfl rfl (hb hby D20_23)
 refine ob_ st13 ?_
 have z13 := W13.size
 have N13 := Fr.snoc X13 N10 gt_tt
 have Fw13 : Fld Z h13 tt s39_ "_masks" s27_ (.ref ob8) := fc11.same W13
 refine o_al X13 hx hby D20_26 rfl rfl ?_
 obtain ⟨T14, h14, X14, e14, E14, A14, D14, U14, st14⟩ := newO X13 hx hZ hown (w_ hw 224 rfl) (w_ hw 13 rfl) (w_ hw 14 rfl) e13 (g := (mkF m 27 #[.val (.ref tt), .unset] [(.ref tt)])) rfl (hb hby D20_27) (by decide) (by decide)
 obtain ⟨ob14, g14⟩ : ∃ z, z = h13.size := ⟨_, rfl⟩
 rw [← g14] at A14 D14 U14 st14
 refine ob_ st14 ?_
 have z14 := E14.1
 have lt14 : h14.size > ob14 := A14.lt
 refine ob_ (fun _ k => XS.dup X14.here hx rfl (hb hby D20_30) rfl rfl k) ?_
 have O15 : Old Z n0 h14 := (((O9.keep K10 (allS (by omega) all0)).wr W13 gt_tt).ext E14)
 obtain ⟨_, _, ⟨T16, L16, k16, n16⟩, -, X16, ⟨Lc16, hQ16, l16, y16, z16⟩, st16⟩ := X14.specialBack hx (y := y3_) rfl hown (mw hZ hw 225 rfl) (mw hZ hw 16 rfl) (mw hZ hw 17 rfl) (by decide) (bk 2 hZ hw 17 14 (rm_ai l Z a0 hw [] ob14 dce kce h14 n0 O15 S_DCE A_DCE E_DCE A14 (show f32_ Z h14 ob14 v0_ from D14 (Or.inl (w_ hw 73 rfl)) (ty := .int) (by decide)) (show f36_ Z h14 ob14 v0_ from D14 (Or.inl (w_ hw 34 rfl)) (ty := .int) (by decide)) (show f31_ Z h14 ob14 .null from D14 (Or.inl (w_ hw 37 rfl)) (ty := (.array (.object s7_))) (by decide)) (by omega))) (g := (mkF m 31 #[.val (.ref tt), .unset] [(.ref ob14), (.ref ob14), (.ref tt)])) rfl hml.symm (Steps.refl _) (a := ob14) (argsL := []) (rest := [(.ref ob14), (.ref tt)]) (lenOf pd1_ rfl) rfl own_z (hb hby D20_31) (o4 e14 3 0 14 0)
 dsimp only [Pt.U, Pt.locs, Pt.cells, Pt.slots] at X16 l16 y16 z16 st16 hQ16
 subst l16 y16 z16
 obtain ⟨rfl, M16, K16, g16_0, g16_1, g16_2, g16_3⟩ := hQ16
 have N16 := Fr.app N13 M16
 refine ob_ (fun _ k => st16.trans k) ?_
 have z16 := K16.1
 have lt_g16_0 := eG g16_0
 have fc17 := ((((((((Pf3.ext E2).keep K4 (nS nin0)).other W7 (sO (Or.inr (w_ hw 229 rfl)) (Or.inr (w_ hw 223 rfl)))).ext E8).keep K10 (nS nin0)).other W13 (sO (Or.inr (w_ hw 229 rfl)) (Or.inr (w_ hw 227 rfl)))).ext E14).keep K16 (nS nin0))
 have fc18 := (((fc12.wr W13).ext E14).keep K16)
 obtain ⟨T19, h19, X19, e19, W19, st19⟩ := putF X16 hx hZ hown (host := "") (Or.inl (w_ hw 228 rfl)) Via.refl rfl fc17 fc18 (Or.inr ⟨(w_ hw 229 rfl), rfl, hnm⟩) (w_ hw 200 rfl) (ty := (.object s16_)) (by decide) rfl rfl (g := (mkF m 34 #[.val (.ref tt), .unset] [(.ref ob14), (.ref tt)])) rfl rfl (hb hby D20_34)
 refine ob_ st19 ?_
 have z19 := W19.size
 have N19 := Fr.snoc X19 N16 gt_tt
 have Fw19 : f30_ Z h19 tt (.ref ob14) := fc17.same W19
 refine o_al X19 hx hby D20_37 rfl rfl ?_
 obtain ⟨T20, h20, X20, e20, E20, A20, D20, U20, st20⟩ := newO X19 hx hZ hown (w_ hw 224 rfl) (w_ hw 13 rfl) (w_ hw 14 rfl) e19 (g := (mkF m 38 #[.val (.ref tt), .unset] [(.ref tt)])) rfl (hb hby D20_38) (by decide) (by decide)
 obtain ⟨ob20, g20⟩ : ∃ z, z = h19.size := ⟨_, rfl⟩
 rw [← g20] at A20 D20 U20 st20
 refine ob_ st20 ?_
 have z20 := E20.1
 have lt20 : h20.size > ob20 := A20.lt
 refine ob_ (fun _ k => XS.dup X20.here hx rfl (hb hby D20_41) rfl rfl k) ?_
 have O21 : Old Z n0 h20 := (((O15.keep K16 (allS (by omega) all0)).wr W19 gt_tt).ext E20)
 obtain ⟨_, _, ⟨T22, L22, k22, n22⟩, -, X22, ⟨Lc22, hQ22, l22, y22, z22⟩, st22⟩ := X20.specialBack hx (y := y3_) rfl hown (mw hZ hw 225 rfl) (mw hZ hw 16 rfl) (mw hZ hw 17 rfl) (by decide) (bk 2 hZ hw 17 14 (rm_ai l Z a0 hw [] ob20 dce kce h20 n0 O21 S_DCE A_DCE E_DCE A20 (show f32_ Z h20 ob20 v0_ from D20 (Or.inl (w_ hw 73 rfl)) (ty := .int) (by decide)) (show f36_ Z h20 ob20 v0_ from D20 (Or.inl (w_ hw 34 rfl)) (ty := .int) (by decide)) (show f31_ Z h20 ob20 .null from D20 (Or.inl (w_ hw 37 rfl)) (ty := (.array (.object s7_))) (by decide)) (by omega))) (g := (mkF m 42 #[.val (.ref tt), .unset] [(.ref ob20), (.ref ob20), (.ref tt)])) rfl hml.symm (Steps.refl _) (a := ob20) (argsL := []) (rest := [(.ref ob20), (.ref tt)]) (lenOf pd1_ rfl) rfl own_z (hb hby D20_42) (o4 e20 4 0 17 0)
 dsimp only [Pt.U, Pt.locs, Pt.cells, Pt.slots] at X22 l22 y22 z22 st22 hQ22
 subst l22 y22 z22
 obtain ⟨rfl, M22, K22, g22_0, g22_1, g22_2, g22_3⟩ := hQ22
 have N22 := Fr.app N19 M22
 refine ob_ (fun _ k => st22.trans k) ?_
 have z22 := K22.1
 have lt_g22_0 := eG g22_0
 have fc23 := (((((((((((Pf4.ext E2).keep K4 (nS nin0)).other W7 (sO (Or.inr (w_ hw 231 rfl)) (Or.inr (w_ hw 223 rfl)))).ext E8).keep K10 (nS nin0)).other W13 (sO (Or.inr (w_ hw 231 rfl)) (Or.inr (w_ hw 227 rfl)))).ext E14).keep K16 (nS nin0)).other W19 (sO (Or.inr (w_ hw 231 rfl)) (Or.inr (w_ hw 229 rfl)))).ext E20).keep K22 (nS nin0))
 have fc24 := (((fc18.wr W19).ext E20).keep K22)
 obtain ⟨T25, h25, X25, e25, W25, st25⟩ := putF X22 hx hZ hown (host := "") (Or.inl (w_ hw 230 rfl)) Via.refl rfl fc23 fc24 (Or.inr ⟨(w_ hw 231 rfl), rfl, hnm⟩) (w_ hw 200 rfl) (ty := (.object s16_)) (by decide) rfl rfl (g := (mkF m 45 #[.val (.ref tt), .unset] [(.ref ob20), (.ref tt)])) rfl rfl (hb hby D20_45)
 refine ob_ st25 ?_
 have z25 := W25.size
 have N25 := Fr.snoc X25 N22 gt_tt
 have Fw25 : f29_ Z h25 tt (.ref ob20) := fc23.same W25
 refine o_ic X25 hx hby D20_48 ?_
 refine ob_ (fun _ k => XS.istoreN X25.here hx rfl (hb hby D20_49) rfl (l' := #[.val (.ref tt), .val v0_]) rfl k) ?_
 have Vb26 : own_obs Z h25 [] := own_obs_nil
 have z0h26 : (0 : Int32).toInt = 0 := rfl
 have lp27 : ∀ (kk27 : Nat) (Tj27 : State) (Hj27 : Heap) (cl27 sl27 : Nat) (ii : Int32) (dd : Addr) (kd : ClassId) (cp : Int32) (md : Int32) (vv : List Value), (∃ lc, Stand p l e ({ frames := 9, cells := 300, slots := 2000, locals := 160 } : Room) s m #[(.ref tt)] below meth c Tj27 lc cl27 sl27 ∧ Fr n0 lc) → Tj27.heap = Hj27 → (Keep h0 Hj27 [tt]) → (Exa Z Hj27 tt s39_) → (f30_ Z Hj27 tt (.ref ob14)) → (Exa Z Hj27 ob14 s4_) → (f32_ Z Hj27 ob14 (.int ii)) → (f36_ Z Hj27 ob14 (.int md)) → (f31_ Z Hj27 ob14 (.ref dd)) → (Arv Z Hj27 dd kd (.object s7_) cp vv .null) → (Exa Z Hj27 dd s9_) → (own_obs Z Hj27 vv) → (f29_ Z Hj27 tt (.ref ob20)) → (Exa Z Hj27 ob20 s4_) → (f32_ Z Hj27 ob20 v0_) → (f36_ Z Hj27 ob20 v0_) → (f31_ Z Hj27 ob20 (.ref dce)) → (own_li ii cp (h25.size ≤ dd ∧ ¬ (@Eq Nat dd ob14) ∧ Ovr Z kd s7_) (dce = dd) (cl27 - 4) (sl27 - 17)) → (ii.toInt + (kk27 : Int) = 64) → (4 ≤ cl27 ∧ 17 ≤ sl27) → (h25.size ≤ Hj27.size) → own_Go p e below (Tj27.setTop (mkF m 50 #[.val (.ref tt), .val (.int ii)] [])) (own_R s ({ frames := 9, cells := 300, slots := 2000, locals := 160 } : Room) (Q_rm_px Z tt dce kce mr h0 n0)) := by
  intro kk27
  induction kk27 with
  | zero =>
   rintro Tj27 Hj27 cl27 sl27 ii dd kd cp md vv ⟨lc27, Xj27, Nj27⟩ ej27 Kj27 fj27_0 fj27_1 fj27_2 fj27_3 fj27_4 fj27_5 fj27_6 fj27_7 fj27_8 fj27_9 fj27_10 fj27_11 fj27_12 fj27_13 pj27_0 pj27_1 pj27_2 pj27_3
   have zj27 := Kj27.1
   have lt_fj27_0 : Hj27.size > tt := fj27_0.lt
   have lt_fj27_1 : Hj27.size > tt := fj27_1.lt
   have lt_fj27_2 : Hj27.size > ob14 := fj27_2.lt
   have lt_fj27_3 : Hj27.size > ob14 := fj27_3.lt
   have lt_fj27_4 : Hj27.size > ob14 := fj27_4.lt
   have lt_fj27_5 : Hj27.size > ob14 := fj27_5.lt
   have lt_fj27_6 : Hj27.size > dd := fj27_6.lt
   have lt_fj27_7 : Hj27.size > dd := fj27_7.lt
   have lt_fj27_9 : Hj27.size > tt := fj27_9.lt
   have lt_fj27_10 : Hj27.size > ob20 := fj27_10.lt
   have lt_fj27_11 : Hj27.size > ob20 := fj27_11.lt
   have lt_fj27_12 : Hj27.size > ob20 := fj27_12.lt
   have lt_fj27_13 : Hj27.size > ob20 := fj27_13.lt
   have hii : ii = (64 : Int32) := Int32.toInt_inj.mp (by have q : (64 : Int32).toInt = 64 := rfl; omega)
   subst hii
   have hbd := own_li_max pj27_0 (by decide)
   have Xm27 := Xj27.more (cells' := 144) (slots' := 917) (by omega) (by omega)
   refine o_il Xm27 hx hby D20_50 rfl ?_
   refine o_bi Xm27 hx hby D20_51 ?_
   refine ob_ (fun _ k => XS.icmpYes Xm27.here hx rfl (pc0 := 53) (pc' := 79) rfl (hb hby D20_53) rfl (flt (by decide : ¬ ((64 : Int32) < (64 : Int32)))).2.1 (by decide) (by decide) k) ?_
   refine o_ic Xm27 hx hby D20_79 ?_
   refine ob_ (fun _ k => XS.istoreN Xm27.here hx rfl (hb hby D20_80) rfl (l' := #[.val (.ref tt), .val v0_]) rfl k) ?_
   show own_Go p e below (Tj27.setTop (mkF m 81 #[.val (.ref tt), .val v0_] [])) _
   have Vb28 : own_obs Z Hj27 [] := own_obs_nil
   have z0h28 : (0 : Int32).toInt = 0 := rfl
   have lp29 : ∀ (kk29 : Nat) (Tj29 : State) (Hj29 : Heap) (cl29 sl29 : Nat) (ii : Int32) (dd : Addr) (kd : ClassId) (cp : Int32) (md : Int32) (vv : List Value), (∃ lc, Stand p l e ({ frames := 9, cells := 300, slots := 2000, locals := 160 } : Room) s m #[(.ref tt)] below meth c Tj29 lc cl29 sl29 ∧ Fr n0 lc) → Tj29.heap = Hj29 → (Keep h0 Hj29 [tt]) → (Exa Z Hj29 tt s39_) → (f29_ Z Hj29 tt (.ref ob20)) → (Exa Z Hj29 ob20 s4_) → (f32_ Z Hj29 ob20 (.int ii)) → (f36_ Z Hj29 ob20 (.int md)) → (f31_ Z Hj29 ob20 (.ref dd)) → (Arv Z Hj29 dd kd (.object s7_) cp vv .null) → (Exa Z Hj29 dd s9_) → (own_obs Z Hj29 vv) → (own_li ii cp (Hj27.size ≤ dd ∧ ¬ (@Eq Nat dd ob20) ∧ Ovr Z kd s7_) (dce = dd) (cl29 - 144) (sl29 - 917)) → (ii.toInt + (kk29 : Int) = 65) → (144 ≤ cl29 ∧ 917 ≤ sl29) → (Hj27.size ≤ Hj29.size) → own_Go p e below (Tj29.setTop (mkF m 81 #[.val (.ref tt), .val (.int ii)] [])) (own_R s ({ frames := 9, cells := 300, slots := 2000, locals := 160 } : Room) (Q_rm_px Z tt dce kce mr h0 n0)) := by
    intro kk29
    induction kk29 with
    | zero =>
     rintro Tj29 Hj29 cl29 sl29 ii dd kd cp md vv ⟨lc29, Xj29, Nj29⟩ ej29 Kj29 fj29_0 fj29_1 fj29_2 fj29_3 fj29_4 fj29_5 fj29_6 fj29_7 fj29_8 pj29_0 pj29_1 pj29_2 pj29_3
     have zj29 := Kj29.1
     have lt_fj29_0 : Hj29.size > tt := fj29_0.lt
     have lt_fj29_1 : Hj29.size > tt := fj29_1.lt
     have lt_fj29_2 : Hj29.size > ob20 := fj29_2.lt
     have lt_fj29_3 : Hj29.size > ob20 := fj29_3.lt
     have lt_fj29_4 : Hj29.size > ob20 := fj29_4.lt
     have lt_fj29_5 : Hj29.size > ob20 := fj29_5.lt
     have lt_fj29_6 : Hj29.size > dd := fj29_6.lt
     have lt_fj29_7 : Hj29.size > dd := fj29_7.lt
     have hii : ii = (65 : Int32) := Int32.toInt_inj.mp (by have q : (65 : Int32).toInt = 65 := rfl; omega)
     subst hii
     have hbd := own_li_max pj29_0 (by decide)
     have Xm29 := Xj29.more (cells' := 284) (slots' := 1817) (by omega) (by omega)
     refine o_il Xm29 hx hby D20_81 rfl ?_
     refine o_bi Xm29 hx hby D20_82 ?_
     refine ob_ (fun _ k => XS.icmpYes Xm29.here hx rfl (pc0 := 84) (pc' := 110) rfl (hb hby D20_84) rfl (tlt (by decide : (64 : Int32) < (65 : Int32))).2.2.1 (by decide) (by decide) k) ?_
     have K30 : Keep h0 Hj29 [tt] := ((Keep.refl h0 [tt]).trans Kj29 (kI 0 rfl all0))
     exact o_rv Bd Xm29 hx hby ej29 D20_110 ⟨rfl, Nj29, K30, fj29_0⟩
    | succ kq29 ih29 =>
     rintro Tj29 Hj29 cl29 sl29 ii dd kd cp md vv ⟨lc29, Xj29, Nj29⟩ ej29 Kj29 fj29_0 fj29_1 fj29_2 fj29_3 fj29_4 fj29_5 fj29_6 fj29_7 fj29_8 pj29_0 pj29_1 pj29_2 pj29_3
     have zj29 := Kj29.1
     have lt_fj29_0 : Hj29.size > tt := fj29_0.lt
     have lt_fj29_1 : Hj29.size > tt := fj29_1.lt
     have lt_fj29_2 : Hj29.size > ob20 := fj29_2.lt
     have lt_fj29_3 : Hj29.size > ob20 := fj29_3.lt
     have lt_fj29_4 : Hj29.size > ob20 := fj29_4.lt
     have lt_fj29_5 : Hj29.size > ob20 := fj29_5.lt
     have lt_fj29_6 : Hj29.size > dd := fj29_6.lt
     have lt_fj29_7 : Hj29.size > dd := fj29_7.lt
     refine o_il Xj29 hx hby D20_81 rfl ?_
     refine o_bi Xj29 hx hby D20_82 ?_
     have q64ht31 : (64 : Int32).toInt = 64 := rfl
     have hrght31 := own_li_rng pj29_0
     have hmxht31 := own_li_max pj29_0 (by omega)
     have ht31 : ¬ ((64 : Int32) < ii) := own_nlt (by omega)
     refine ob_ (fun _ k => XS.icmpNo Xj29.here hx rfl (hb hby D20_84) rfl (flt ht31).2.2.1 k) ?_
     refine o_al Xj29 hx hby D20_87 rfl rfl ?_
     refine o_gf Xj29 hx hby hZ hown hw 230 rfl Via.refl ej29 fj29_1 D20_88 fun T32 X32 e32 => ?_
     obtain ⟨T33, h33, X33, e33, E33, A33, D33, U33, st33⟩ := newO X32 hx hZ hown (w_ hw 224 rfl) (w_ hw 13 rfl) (w_ hw 14 rfl) e32 (g := (mkF m 91 #[.val (.ref tt), .val (.int ii)] [(.ref ob20)])) rfl (hb hby D20_91) (by show cl29 + 1 ≤ 300; omega) (by show sl29 + 3 ≤ 2000; omega)
     obtain ⟨ob33, g33⟩ : ∃ z, z = Hj29.size := ⟨_, rfl⟩
     rw [← g33] at A33 D33 U33 st33
     refine ob_ st33 ?_
     have z33 := E33.1
     have lt33 : h33.size > ob33 := A33.lt
     refine ob_ (fun _ k => XS.dup X33.here hx rfl (hb hby D20_94) rfl rfl k) ?_
     have O34 : Old Z n0 h33 := ((O0.keep Kj29 (allS gt_tt all0)).ext E33)
     obtain ⟨_, _, ⟨T35, L35, k35, n35⟩, -, X35, ⟨Lc35, hQ35, l35, y35, z35⟩, st35⟩ := X33.specialBack hx (y := y3_) rfl hown (mw hZ hw 225 rfl) (mw hZ hw 16 rfl) (mw hZ hw 17 rfl) (by decide) (bk 2 hZ hw 17 14 (rm_ai l Z a0 hw [] ob33 dce kce h33 n0 O34 S_DCE A_DCE E_DCE A33 (show f32_ Z h33 ob33 v0_ from D33 (Or.inl (w_ hw 73 rfl)) (ty := .int) (by decide)) (show f36_ Z h33 ob33 v0_ from D33 (Or.inl (w_ hw 34 rfl)) (ty := .int) (by decide)) (show f31_ Z h33 ob33 .null from D33 (Or.inl (w_ hw 37 rfl)) (ty := (.array (.object s7_))) (by decide)) (by omega))) (g := (mkF m 95 #[.val (.ref tt), .val (.int ii)] [(.ref ob33), (.ref ob33), (.ref ob20)])) rfl hml.symm (Steps.refl _) (a := ob33) (argsL := []) (rest := [(.ref ob33), (.ref ob20)]) (lenOf pd1_ rfl) rfl own_z (hb hby D20_95) (fun _ _ => ⟨rfl, e33, (by show (cl29 + 1) + 0 ≤ 300; omega), (by show (sl29 + 3) + 0 ≤ 2000; omega)⟩)
     dsimp only [Pt.U, Pt.locs, Pt.cells, Pt.slots] at X35 l35 y35 z35 st35 hQ35
     subst l35 y35 z35
     obtain ⟨rfl, M35, K35, g35_0, g35_1, g35_2, g35_3⟩ := hQ35
     have N35 := Fr.app Nj29 M35
     refine ob_ (fun _ k => st35.trans k) ?_
     have z35 := K35.1
     have lt_g35_0 := eG g35_0
     rcases own_li_cases pj29_0 (by omega) with hz | hz | hz
     ·
      obtain ⟨rfl, rfl, rfl, hli⟩ := hz
      have fc36 := ((fj29_2.ext E33).keep K35)
      have fc37 := ((fj29_3.ext E33).keep K35 (nS nin0))
      have fc38 := ((fj29_4.ext E33).keep K35 (nS nin0))
      have fc39 := ((fj29_5.ext E33).keep K35 (nS nin0))
      have O40 : Old Z n0 T35.heap := (O34.keep K35 (allS (by omega) all0))
      obtain ⟨cq41, kq41, q41a, q41b, q41c⟩ := isOf hZ rfl fc36
      obtain ⟨_, _, ⟨T41, L41, k41, n41⟩, -, X41, ⟨Lc41, hQ41, l41, y41, z41⟩, st41⟩ := X35.interfaceBack hx (xi := y17_) (y := y15_) hown (mw hZ hw 232 rfl) (mw hZ hw 233 rfl) (mw hZ hw 234 rfl) (mw hZ hw 235 rfl) (mw hZ hw 236 rfl) (mw hZ hw 237 rfl) (mw hZ hw 238 rfl) (mw hZ hw 70 rfl) (by decide) (bk 0 hZ hw 239 14 (rm_addZ l Z a0 hw [] ob20 md ob33 dce kce T35.heap n0 O40 S_DCE A_DCE E_DCE fc36 fc37 fc38 fc39 (Ins.of_exa g35_0 (w_ hw 262 rfl)) (by omega))) q41a q41b q41c (g := (mkF m 98 #[.val (.ref tt), .val v0_] [(.ref ob33), (.ref ob20)])) rfl hml.symm (Steps.refl _) (argsL := [(.ref ob33)]) (rest := []) (lenOf pd9_ rfl) rfl own_z (hb hby D20_98) (fun _ _ => ⟨rfl, rfl, (by show ((cl29 + 1) + 0) + 1 ≤ 300; omega), (by show ((sl29 + 3) + 0) + 10 ≤ 2000; omega)⟩)
      dsimp only [Pt.U, Pt.locs, Pt.cells, Pt.slots] at X41 l41 y41 z41 st41 hQ41
      subst l41 y41 z41
      obtain ⟨oo_41, kn_41, vz_41, rfl, M41, K41, g41_0, g41_1, g41_2, g41_3, g41_4, g41_5, g41_6, r41_0, r41_1⟩ := hQ41
      have N41 := Fr.app N35 M41
      refine ob_ (fun _ k => st41.trans k) ?_
      have z41 := K41.1
      have lt_g41_0 := eG g41_0
      have lt_g41_4 := vG g41_4
      refine ob_ (fun _ k => XS.pop X41.here hx rfl (hb hby D20_103) rfl rfl k) ?_
      refine ob_ (fun _ k => XS.iinc X41.here hx rfl (hb hby D20_104) rfl (l' := #[.val (.ref tt), .val v1_]) rfl k) ?_
      refine ob_ (fun _ k => XS.goto X41.here hx rfl (pc0 := 107) (pc' := 81) rfl (hb hby D20_107) (by decide) (by decide) k) ?_
      have fc42 := (((fj29_0.ext E33).keep K35).keep K41)
      have fc43 := (((fj29_1.ext E33).keep K35 (nS nin0)).keep K41 (nS nin0))
      have K44 : Keep h0 T41.heap [tt] := (((((Keep.refl h0 [tt]).trans Kj29 (kI 0 rfl all0)).ext E33).trans K35 (kR all0)).trans K41 (kR all0))
      refine ih29 _ _ _ _ (1 : Int32) oo_41 kn_41 (10 : Int32) (md + (1 : Int32)) vz_41 ⟨_, X41, N41⟩ rfl K44 fc42 fc43 g41_0 g41_1 g41_2 g41_3 g41_4 g41_5 g41_6 ?_ ?_ ?_ ?_
      ·
       exact hli _ _ (by exact ⟨by omega, own_ne (by omega), r41_0⟩) (by omega) (by omega)
      ·
       first | (rw [own_inc (by omega)]; omega) | (have q : (1 : Int32).toInt = 1 := rfl; omega)
      ·
       constructor <;> omega
      ·
       omega
     ·
      obtain ⟨⟨hf1, hf2, hf3⟩, hie, hg0, hg1, hg2, hg3, hg4, hg5, hg8, hli⟩ := hz
      have fc45 := ((fj29_2.ext E33).keep K35)
      have fc46 := ((fj29_3.ext E33).keep K35 (nS nin0))
      have fc47 := ((fj29_4.ext E33).keep K35 (nS nin0))
      have fc48 := ((fj29_5.ext E33).keep K35 (nS nin0))
      have fc49 := ((fj29_6.ext E33).keep K35 (nS nin0))
      have fc50 := ((fj29_7.ext E33).keep K35)
      have fc51 := ((fj29_8.ext E33).keep K35)
      have O52 : Old Z n0 T35.heap := (O34.keep K35 (allS (by omega) all0))
      obtain ⟨cq53, kq53, q53a, q53b, q53c⟩ := isOf hZ rfl fc45
      obtain ⟨_, _, ⟨T53, L53, k53, n53⟩, -, X53, ⟨Lc53, hQ53, l53, y53, z53⟩, st53⟩ := X35.interfaceBack hx (xi := y17_) (y := y15_) hown (mw hZ hw 232 rfl) (mw hZ hw 233 rfl) (mw hZ hw 234 rfl) (mw hZ hw 235 rfl) (mw hZ hw 236 rfl) (mw hZ hw 237 rfl) (mw hZ hw 238 rfl) (mw hZ hw 70 rfl) (by decide) (bk 0 hZ hw 239 14 (rm_addG l Z a0 hw [] ob20 ii md dd kd cp vv ob33 mr T35.heap n0 O52 hMr fc45 fc46 fc47 fc48 fc49 fc50 fc51 (Ins.of_exa g35_0 (w_ hw 262 rfl)) (by omega) (fun q => hf2 q.symm) (hie) (hg0) (hg1) (hg2) (hg3) (hg4) (hg5) (hg8) (by omega))) q53a q53b q53c (g := (mkF m 98 #[.val (.ref tt), .val (.int ii)] [(.ref ob33), (.ref ob20)])) rfl hml.symm (Steps.refl _) (argsL := [(.ref ob33)]) (rest := []) (lenOf pd9_ rfl) rfl own_z (hb hby D20_98) (fun _ _ => ⟨rfl, rfl, (by show ((cl29 + 1) + 0) + 1 ≤ 300; omega), (by show ((sl29 + 3) + 0) + 110 ≤ 2000; omega)⟩)
      dsimp only [Pt.U, Pt.locs, Pt.cells, Pt.slots] at X53 l53 y53 z53 st53 hQ53
      subst l53 y53 z53
      obtain ⟨oo_53, kn_53, vz_53, nw_53, rfl, M53, K53, g53_0, g53_1, g53_2, g53_3, g53_4, g53_5, g53_6, r53_0, r53_1, r53_2⟩ := hQ53
      have N53 := Fr.app N35 M53
      refine ob_ (fun _ k => st53.trans k) ?_
      have z53 := K53.1
      have lt_g53_0 := eG g53_0
      have lt_g53_4 := vG g53_4
      refine ob_ (fun _ k => XS.pop X53.here hx rfl (hb hby D20_103) rfl rfl k) ?_
      refine ob_ (fun _ k => XS.iinc X53.here hx rfl (hb hby D20_104) rfl (l' := #[.val (.ref tt), .val (.int (ii + (1 : Int32)))]) rfl k) ?_
      refine ob_ (fun _ k => XS.goto X53.here hx rfl (pc0 := 107) (pc' := 81) rfl (hb hby D20_107) (by decide) (by decide) k) ?_
      have fc54 := (((fj29_0.ext E33).keep K35).keep K53)
      have fc55 := (((fj29_1.ext E33).keep K35 (nS nin0)).keep K53 (nS nin0))
      have K56 : Keep h0 T53.heap [tt] := (((((Keep.refl h0 [tt]).trans Kj29 (kI 0 rfl all0)).ext E33).trans K35 (kR all0)).trans K53 (kR all0))
      refine ih29 _ _ _ _ (ii + (1 : Int32)) oo_53 kn_53 nw_53 (md + (1 : Int32)) vz_53 ⟨_, X53, N53⟩ rfl K56 fc54 fc55 g53_0 g53_1 g53_2 g53_3 g53_4 g53_5 g53_6 ?_ ?_ ?_ ?_
      ·
       rw [r53_2]; exact hli _ _ (by exact ⟨by omega, own_ne (by omega), r53_0⟩) (by omega) (by omega)
      ·
       first | (rw [own_inc (by omega)]; omega) | (have q : (1 : Int32).toInt = 1 := rfl; omega)
      ·
       constructor <;> omega
      ·
       omega
     ·
      obtain ⟨⟨hf1, hf2, hf3⟩, hne, hlt, hli⟩ := hz
      have fc57 := ((fj29_2.ext E33).keep K35)
      have fc58 := ((fj29_3.ext E33).keep K35 (nS nin0))
      have fc59 := ((fj29_4.ext E33).keep K35 (nS nin0))
      have fc60 := ((fj29_5.ext E33).keep K35 (nS nin0))
      have fc61 := ((fj29_6.ext E33).keep K35 (nS nin0))
      have fc62 := ((fj29_7.ext E33).keep K35)
      have fc63 := ((fj29_8.ext E33).keep K35)
      have O64 : Old Z n0 T35.heap := (O34.keep K35 (allS (by omega) all0))
      obtain ⟨cq65, kq65, q65a, q65b, q65c⟩ := isOf hZ rfl fc57
      obtain ⟨_, _, ⟨T65, L65, k65, n65⟩, -, X65, ⟨Lc65, hQ65, l65, y65, z65⟩, st65⟩ := X35.interfaceBack hx (xi := y17_) (y := y15_) hown (mw hZ hw 232 rfl) (mw hZ hw 233 rfl) (mw hZ hw 234 rfl) (mw hZ hw 235 rfl) (mw hZ hw 236 rfl) (mw hZ hw 237 rfl) (mw hZ hw 238 rfl) (mw hZ hw 70 rfl) (by decide) (bk 0 hZ hw 239 14 (rm_addR l Z a0 hw [] ob20 ii md dd kd cp vv ob33 T35.heap n0 O64 fc57 fc58 fc59 fc60 fc61 fc62 fc63 (Ins.of_exa g35_0 (w_ hw 262 rfl)) (by omega) (by omega) (hf3) (hne) (by omega) (hlt) (fun q => hf2 q.symm))) q65a q65b q65c (g := (mkF m 98 #[.val (.ref tt), .val (.int ii)] [(.ref ob33), (.ref ob20)])) rfl hml.symm (Steps.refl _) (argsL := [(.ref ob33)]) (rest := []) (lenOf pd9_ rfl) rfl own_z (hb hby D20_98) (fun _ _ => ⟨rfl, rfl, (by show ((cl29 + 1) + 0) + 0 ≤ 300; omega), (by show ((sl29 + 3) + 0) + 0 ≤ 2000; omega)⟩)
      dsimp only [Pt.U, Pt.locs, Pt.cells, Pt.slots] at X65 l65 y65 z65 st65 hQ65
      subst l65 y65 z65
      obtain ⟨vz_65, rfl, M65, K65, g65_0, g65_1, g65_2, g65_3, g65_4, g65_5, g65_6⟩ := hQ65
      have N65 := Fr.app N35 M65
      refine ob_ (fun _ k => st65.trans k) ?_
      have z65 := K65.1
      have lt_g65_0 := eG g65_0
      have lt_g65_4 := vG g65_4
      refine ob_ (fun _ k => XS.pop X65.here hx rfl (hb hby D20_103) rfl rfl k) ?_
      refine ob_ (fun _ k => XS.iinc X65.here hx rfl (hb hby D20_104) rfl (l' := #[.val (.ref tt), .val (.int (ii + (1 : Int32)))]) rfl k) ?_
      refine ob_ (fun _ k => XS.goto X65.here hx rfl (pc0 := 107) (pc' := 81) rfl (hb hby D20_107) (by decide) (by decide) k) ?_
      have fc66 := (((fj29_0.ext E33).keep K35).keep K65)
      have fc67 := (((fj29_1.ext E33).keep K35 (nS nin0)).keep K65 (nS (nS nin0)))
      have K68 : Keep h0 T65.heap [tt] := (((((Keep.refl h0 [tt]).trans Kj29 (kI 0 rfl all0)).ext E33).trans K35 (kR all0)).trans K65 (kR (kR all0)))
      refine ih29 _ _ _ _ (ii + (1 : Int32)) dd kd cp (md + (1 : Int32)) vz_65 ⟨_, X65, N65⟩ rfl K68 fc66 fc67 g65_0 g65_1 g65_2 g65_3 g65_4 g65_5 g65_6 ?_ ?_ ?_ ?_
      ·
       exact hli _ _ (by exact ⟨by omega, own_ne (by omega), hf3⟩) (by omega) (by omega)
      ·
       first | (rw [own_inc (by omega)]; omega) | (have q : (1 : Int32).toInt = 1 := rfl; omega)
      ·
       constructor <;> omega
      ·
       omega
   have O69 : Old Z n0 Hj27 := (O0.keep Kj27 (allS gt_tt all0))
   have fc70 : Arv Z Hj27 dce kce (.object s7_) (0 : Int32) [] .null := A_DCE.ext O69.2
   have fc71 : Exa Z Hj27 dce s9_ := E_DCE.ext O69.2
   have K72 : Keep h0 Hj27 [tt] := ((Keep.refl h0 [tt]).trans Kj27 (kI 0 rfl all0))
   refine lp29 65 _ _ _ _ (0 : Int32) dce kce (0 : Int32) (0 : Int32) [] ⟨_, Xm27, Nj27⟩ ej27 K72 fj27_0 fj27_9 fj27_10 fj27_11 fj27_12 fj27_13 fc70 fc71 Vb28 ?_ ?_ ?_ ?_
   ·
    exact own_li_0 rfl
   ·
    decide
   ·
    exact ⟨Nat.le_refl _, Nat.le_refl _⟩
   ·
    exact Nat.le_refl _
  | succ kq27 ih27 =>
   rintro Tj27 Hj27 cl27 sl27 ii dd kd cp md vv ⟨lc27, Xj27, Nj27⟩ ej27 Kj27 fj27_0 fj27_1 fj27_2 fj27_3 fj27_4 fj27_5 fj27_6 fj27_7 fj27_8 fj27_9 fj27_10 fj27_11 fj27_12 fj27_13 pj27_0 pj27_1 pj27_2 pj27_3
   have zj27 := Kj27.1
   have lt_fj27_0 : Hj27.size > tt := fj27_0.lt
   have lt_fj27_1 : Hj27.size > tt := fj27_1.lt
   have lt_fj27_2 : Hj27.size > ob14 := fj27_2.lt
   have lt_fj27_3 : Hj27.size > ob14 := fj27_3.lt
   have lt_fj27_4 : Hj27.size > ob14 := fj27_4.lt
   have lt_fj27_5 : Hj27.size > ob14 := fj27_5.lt
   have lt_fj27_6 : Hj27.size > dd := fj27_6.lt
   have lt_fj27_7 : Hj27.size > dd := fj27_7.lt
   have lt_fj27_9 : Hj27.size > tt := fj27_9.lt
   have lt_fj27_10 : Hj27.size > ob20 := fj27_10.lt
   have lt_fj27_11 : Hj27.size > ob20 := fj27_11.lt
   have lt_fj27_12 : Hj27.size > ob20 := fj27_12.lt
   have lt_fj27_13 : Hj27.size > ob20 := fj27_13.lt
   refine o_il Xj27 hx hby D20_50 rfl ?_
   refine o_bi Xj27 hx hby D20_51 ?_
   have q64ht73 : (64 : Int32).toInt = 64 := rfl
   have hrght73 := own_li_rng pj27_0
   have hmxht73 := own_li_max pj27_0 (by omega)
   have ht73 : ii < (64 : Int32) := Int32.lt_iff_toInt_lt.mpr (by omega)
   refine ob_ (fun _ k => XS.icmpNo Xj27.here hx rfl (hb hby D20_53) rfl (tlt ht73).2.1 k) ?_
   refine o_al Xj27 hx hby D20_56 rfl rfl ?_
   refine o_gf Xj27 hx hby hZ hown hw 228 rfl Via.refl ej27 fj27_1 D20_57 fun T74 X74 e74 => ?_
   obtain ⟨T75, h75, X75, e75, E75, A75, D75, U75, st75⟩ := newO X74 hx hZ hown (w_ hw 224 rfl) (w_ hw 13 rfl) (w_ hw 14 rfl) e74 (g := (mkF m 60 #[.val (.ref tt), .val (.int ii)] [(.ref ob14)])) rfl (hb hby D20_60) (by show cl27 + 1 ≤ 300; omega) (by show sl27 + 3 ≤ 2000; omega)
   obtain ⟨ob75, g75⟩ : ∃ z, z = Hj27.size := ⟨_, rfl⟩
   rw [← g75] at A75 D75 U75 st75
   refine ob_ st75 ?_
   have z75 := E75.1
   have lt75 : h75.size > ob75 := A75.lt
   show own_Go p e below (T75.setTop (mkF m 63 #[.val (.ref tt), .val (.int ii)] [(.ref ob75), (.ref ob14)])) _
   refine ob_ (fun _ k => XS.dup X75.here hx rfl (hb hby D20_63) rfl rfl k) ?_
   have O76 : Old Z n0 h75 := ((O0.keep Kj27 (allS gt_tt all0)).ext E75)
   obtain ⟨_, _, ⟨T77, L77, k77, n77⟩, -, X77, ⟨Lc77, hQ77, l77, y77, z77⟩, st77⟩ := X75.specialBack hx (y := y3_) rfl hown (mw hZ hw 225 rfl) (mw hZ hw 16 rfl) (mw hZ hw 17 rfl) (by decide) (bk 2 hZ hw 17 14 (rm_ai l Z a0 hw [] ob75 dce kce h75 n0 O76 S_DCE A_DCE E_DCE A75 (show f32_ Z h75 ob75 v0_ from D75 (Or.inl (w_ hw 73 rfl)) (ty := .int) (by decide)) (show f36_ Z h75 ob75 v0_ from D75 (Or.inl (w_ hw 34 rfl)) (ty := .int) (by decide)) (show f31_ Z h75 ob75 .null from D75 (Or.inl (w_ hw 37 rfl)) (ty := (.array (.object s7_))) (by decide)) (by omega))) (g := (mkF m 64 #[.val (.ref tt), .val (.int ii)] [(.ref ob75), (.ref ob75), (.ref ob14)])) rfl hml.symm (Steps.refl _) (a := ob75) (argsL := []) (rest := [(.ref ob75), (.ref ob14)]) (lenOf pd1_ rfl) rfl own_z (hb hby D20_64) (fun _ _ => ⟨rfl, e75, (by show (cl27 + 1) + 0 ≤ 300; omega), (by show (sl27 + 3) + 0 ≤ 2000; omega)⟩)
   dsimp only [Pt.U, Pt.locs, Pt.cells, Pt.slots] at X77 l77 y77 z77 st77 hQ77
   subst l77 y77 z77
   obtain ⟨rfl, M77, K77, g77_0, g77_1, g77_2, g77_3⟩ := hQ77
   have N77 := Fr.app Nj27 M77
   refine ob_ (fun _ k => st77.trans k) ?_
   have z77 := K77.1
   have lt_g77_0 := eG g77_0
   rcases own_li_cases pj27_0 (by omega) with hz | hz | hz
   ·
    obtain ⟨rfl, rfl, rfl, hli⟩ := hz
    have fc78 := ((fj27_2.ext E75).keep K77)
    have fc79 := ((fj27_3.ext E75).keep K77 (nS nin0))
    have fc80 := ((fj27_4.ext E75).keep K77 (nS nin0))
    have fc81 := ((fj27_5.ext E75).keep K77 (nS nin0))
    have O82 : Old Z n0 T77.heap := (O76.keep K77 (allS (by omega) all0))
    obtain ⟨cq83, kq83, q83a, q83b, q83c⟩ := isOf hZ rfl fc78
    obtain ⟨_, _, ⟨T83, L83, k83, n83⟩, -, X83, ⟨Lc83, hQ83, l83, y83, z83⟩, st83⟩ := X77.interfaceBack hx (xi := y17_) (y := y15_) hown (mw hZ hw 232 rfl) (mw hZ hw 233 rfl) (mw hZ hw 234 rfl) (mw hZ hw 235 rfl) (mw hZ hw 236 rfl) (mw hZ hw 237 rfl) (mw hZ hw 238 rfl) (mw hZ hw 70 rfl) (by decide) (bk 0 hZ hw 239 14 (rm_addZ l Z a0 hw [] ob14 md ob75 dce kce T77.heap n0 O82 S_DCE A_DCE E_DCE fc78 fc79 fc80 fc81 (Ins.of_exa g77_0 (w_ hw 262 rfl)) (by omega))) q83a q83b q83c (g := (mkF m 67 #[.val (.ref tt), .val v0_] [(.ref ob75), (.ref ob14)])) rfl hml.symm (Steps.refl _) (argsL := [(.ref ob75)]) (rest := []) (lenOf pd9_ rfl) rfl own_z (hb hby D20_67) (fun _ _ => ⟨rfl, rfl, (by show ((cl27 + 1) + 0) + 1 ≤ 300; omega), (by show ((sl27 + 3) + 0) + 10 ≤ 2000; omega)⟩)
    dsimp only [Pt.U, Pt.locs, Pt.cells, Pt.slots] at X83 l83 y83 z83 st83 hQ83
    subst l83 y83 z83
    obtain ⟨oo_83, kn_83, vz_83, rfl, M83, K83, g83_0, g83_1, g83_2, g83_3, g83_4, g83_5, g83_6, r83_0, r83_1⟩ := hQ83
    have N83 := Fr.app N77 M83
    refine ob_ (fun _ k => st83.trans k) ?_
    have z83 := K83.1
    have lt_g83_0 := eG g83_0
    have lt_g83_4 := vG g83_4
    refine ob_ (fun _ k => XS.pop X83.here hx rfl (hb hby D20_72) rfl rfl k) ?_
    refine ob_ (fun _ k => XS.iinc X83.here hx rfl (hb hby D20_73) rfl (l' := #[.val (.ref tt), .val v1_]) rfl k) ?_
    refine ob_ (fun _ k => XS.goto X83.here hx rfl (pc0 := 76) (pc' := 50) rfl (hb hby D20_76) (by decide) (by decide) k) ?_
    have fc84 := (((fj27_0.ext E75).keep K77).keep K83)
    have fc85 := (((fj27_1.ext E75).keep K77 (nS nin0)).keep K83 (nS nin0))
    have fc86 := (((fj27_9.ext E75).keep K77 (nS nin0)).keep K83 (nS nin0))
    have fc87 := (((fj27_10.ext E75).keep K77).keep K83)
    have fc88 := (((fj27_11.ext E75).keep K77 (nS nin0)).keep K83 (nS nin0))
    have fc89 := (((fj27_12.ext E75).keep K77 (nS nin0)).keep K83 (nS nin0))
    have fc90 := (((fj27_13.ext E75).keep K77 (nS nin0)).keep K83 (nS nin0))
    have K91 : Keep h0 T83.heap [tt] := (((((Keep.refl h0 [tt]).trans Kj27 (kI 0 rfl all0)).ext E75).trans K77 (kR all0)).trans K83 (kR all0))
    refine ih27 _ _ _ _ (1 : Int32) oo_83 kn_83 (10 : Int32) (md + (1 : Int32)) vz_83 ⟨_, X83, N83⟩ rfl K91 fc84 fc85 g83_0 g83_1 g83_2 g83_3 g83_4 g83_5 g83_6 fc86 fc87 fc88 fc89 fc90 ?_ ?_ ?_ ?_
    ·
     exact hli _ _ (by exact ⟨by omega, own_ne (by omega), r83_0⟩) (by omega) (by omega)
    ·
     first | (rw [own_inc (by omega)]; omega) | (have q : (1 : Int32).toInt = 1 := rfl; omega)
    ·
     constructor <;> omega
    ·
     omega
   ·
    obtain ⟨⟨hf1, hf2, hf3⟩, hie, hg0, hg1, hg2, hg3, hg4, hg5, hg8, hli⟩ := hz
    have fc92 := ((fj27_2.ext E75).keep K77)
    have fc93 := ((fj27_3.ext E75).keep K77 (nS nin0))
    have fc94 := ((fj27_4.ext E75).keep K77 (nS nin0))
    have fc95 := ((fj27_5.ext E75).keep K77 (nS nin0))
    have fc96 := ((fj27_6.ext E75).keep K77 (nS nin0))
    have fc97 := ((fj27_7.ext E75).keep K77)
    have fc98 := ((fj27_8.ext E75).keep K77)
    have O99 : Old Z n0 T77.heap := (O76.keep K77 (allS (by omega) all0))
    obtain ⟨cq100, kq100, q100a, q100b, q100c⟩ := isOf hZ rfl fc92
    obtain ⟨_, _, ⟨T100, L100, k100, n100⟩, -, X100, ⟨Lc100, hQ100, l100, y100, z100⟩, st100⟩ := X77.interfaceBack hx (xi := y17_) (y := y15_) hown (mw hZ hw 232 rfl) (mw hZ hw 233 rfl) (mw hZ hw 234 rfl) (mw hZ hw 235 rfl) (mw hZ hw 236 rfl) (mw hZ hw 237 rfl) (mw hZ hw 238 rfl) (mw hZ hw 70 rfl) (by decide) (bk 0 hZ hw 239 14 (rm_addG l Z a0 hw [] ob14 ii md dd kd cp vv ob75 mr T77.heap n0 O99 hMr fc92 fc93 fc94 fc95 fc96 fc97 fc98 (Ins.of_exa g77_0 (w_ hw 262 rfl)) (by omega) (fun q => hf2 q.symm) (hie) (hg0) (hg1) (hg2) (hg3) (hg4) (hg5) (hg8) (by omega))) q100a q100b q100c (g := (mkF m 67 #[.val (.ref tt), .val (.int ii)] [(.ref ob75), (.ref ob14)])) rfl hml.symm (Steps.refl _) (argsL := [(.ref ob75)]) (rest := []) (lenOf pd9_ rfl) rfl own_z (hb hby D20_67) (fun _ _ => ⟨rfl, rfl, (by show ((cl27 + 1) + 0) + 1 ≤ 300; omega), (by show ((sl27 + 3) + 0) + 110 ≤ 2000; omega)⟩)
    dsimp only [Pt.U, Pt.locs, Pt.cells, Pt.slots] at X100 l100 y100 z100 st100 hQ100
    subst l100 y100 z100
    obtain ⟨oo_100, kn_100, vz_100, nw_100, rfl, M100, K100, g100_0, g100_1, g100_2, g100_3, g100_4, g100_5, g100_6, r100_0, r100_1, r100_2⟩ := hQ100
    have N100 := Fr.app N77 M100
    refine ob_ (fun _ k => st100.trans k) ?_
    have z100 := K100.1
    have lt_g100_0 := eG g100_0
    have lt_g100_4 := vG g100_4
    refine ob_ (fun _ k => XS.pop X100.here hx rfl (hb hby D20_72) rfl rfl k) ?_
    refine ob_ (fun _ k => XS.iinc X100.here hx rfl (hb hby D20_73) rfl (l' := #[.val (.ref tt), .val (.int (ii + (1 : Int32)))]) rfl k) ?_
    refine ob_ (fun _ k => XS.goto X100.here hx rfl (pc0 := 76) (pc' := 50) rfl (hb hby D20_76) (by decide) (by decide) k) ?_
    have fc101 := (((fj27_0.ext E75).keep K77).keep K100)
    have fc102 := (((fj27_1.ext E75).keep K77 (nS nin0)).keep K100 (nS nin0))
    have fc103 := (((fj27_9.ext E75).keep K77 (nS nin0)).keep K100 (nS nin0))
    have fc104 := (((fj27_10.ext E75).keep K77).keep K100)
    have fc105 := (((fj27_11.ext E75).keep K77 (nS nin0)).keep K100 (nS nin0))
    have fc106 := (((fj27_12.ext E75).keep K77 (nS nin0)).keep K100 (nS nin0))
    have fc107 := (((fj27_13.ext E75).keep K77 (nS nin0)).keep K100 (nS nin0))
    have K108 : Keep h0 T100.heap [tt] := (((((Keep.refl h0 [tt]).trans Kj27 (kI 0 rfl all0)).ext E75).trans K77 (kR all0)).trans K100 (kR all0))
    refine ih27 _ _ _ _ (ii + (1 : Int32)) oo_100 kn_100 nw_100 (md + (1 : Int32)) vz_100 ⟨_, X100, N100⟩ rfl K108 fc101 fc102 g100_0 g100_1 g100_2 g100_3 g100_4 g100_5 g100_6 fc103 fc104 fc105 fc106 fc107 ?_ ?_ ?_ ?_
    ·
     rw [r100_2]; exact hli _ _ (by exact ⟨by omega, own_ne (by omega), r100_0⟩) (by omega) (by omega)
    ·
     first | (rw [own_inc (by omega)]; omega) | (have q : (1 : Int32).toInt = 1 := rfl; omega)
    ·
     constructor <;> omega
    ·
     omega
   ·
    obtain ⟨⟨hf1, hf2, hf3⟩, hne, hlt, hli⟩ := hz
    have fc109 := ((fj27_2.ext E75).keep K77)
    have fc110 := ((fj27_3.ext E75).keep K77 (nS nin0))
    have fc111 := ((fj27_4.ext E75).keep K77 (nS nin0))
    have fc112 := ((fj27_5.ext E75).keep K77 (nS nin0))
    have fc113 := ((fj27_6.ext E75).keep K77 (nS nin0))
    have fc114 := ((fj27_7.ext E75).keep K77)
    have fc115 := ((fj27_8.ext E75).keep K77)
    have O116 : Old Z n0 T77.heap := (O76.keep K77 (allS (by omega) all0))
    obtain ⟨cq117, kq117, q117a, q117b, q117c⟩ := isOf hZ rfl fc109
    obtain ⟨_, _, ⟨T117, L117, k117, n117⟩, -, X117, ⟨Lc117, hQ117, l117, y117, z117⟩, st117⟩ := X77.interfaceBack hx (xi := y17_) (y := y15_) hown (mw hZ hw 232 rfl) (mw hZ hw 233 rfl) (mw hZ hw 234 rfl) (mw hZ hw 235 rfl) (mw hZ hw 236 rfl) (mw hZ hw 237 rfl) (mw hZ hw 238 rfl) (mw hZ hw 70 rfl) (by decide) (bk 0 hZ hw 239 14 (rm_addR l Z a0 hw [] ob14 ii md dd kd cp vv ob75 T77.heap n0 O116 fc109 fc110 fc111 fc112 fc113 fc114 fc115 (Ins.of_exa g77_0 (w_ hw 262 rfl)) (by omega) (by omega) (hf3) (hne) (by omega) (hlt) (fun q => hf2 q.symm))) q117a q117b q117c (g := (mkF m 67 #[.val (.ref tt), .val (.int ii)] [(.ref ob75), (.ref ob14)])) rfl hml.symm (Steps.refl _) (argsL := [(.ref ob75)]) (rest := []) (lenOf pd9_ rfl) rfl own_z (hb hby D20_67) (fun _ _ => ⟨rfl, rfl, (by show ((cl27 + 1) + 0) + 0 ≤ 300; omega), (by show ((sl27 + 3) + 0) + 0 ≤ 2000; omega)⟩)
    dsimp only [Pt.U, Pt.locs, Pt.cells, Pt.slots] at X117 l117 y117 z117 st117 hQ117
    subst l117 y117 z117
    obtain ⟨vz_117, rfl, M117, K117, g117_0, g117_1, g117_2, g117_3, g117_4, g117_5, g117_6⟩ := hQ117
    have N117 := Fr.app N77 M117
    refine ob_ (fun _ k => st117.trans k) ?_
    have z117 := K117.1
    have lt_g117_0 := eG g117_0
    have lt_g117_4 := vG g117_4
    refine ob_ (fun _ k => XS.pop X117.here hx rfl (hb hby D20_72) rfl rfl k) ?_
    refine ob_ (fun _ k => XS.iinc X117.here hx rfl (hb hby D20_73) rfl (l' := #[.val (.ref tt), .val (.int (ii + (1 : Int32)))]) rfl k) ?_
    refine ob_ (fun _ k => XS.goto X117.here hx rfl (pc0 := 76) (pc' := 50) rfl (hb hby D20_76) (by decide) (by decide) k) ?_
    have fc118 := (((fj27_0.ext E75).keep K77).keep K117)
    have fc119 := (((fj27_1.ext E75).keep K77 (nS nin0)).keep K117 (nS (nS nin0)))
    have fc120 := (((fj27_9.ext E75).keep K77 (nS nin0)).keep K117 (nS (nS nin0)))
    have fc121 := (((fj27_10.ext E75).keep K77).keep K117)
    have fc122 := (((fj27_11.ext E75).keep K77 (nS nin0)).keep K117 (nS (nS nin0)))
    have fc123 := (((fj27_12.ext E75).keep K77 (nS nin0)).keep K117 (nS (nS nin0)))
    have fc124 := (((fj27_13.ext E75).keep K77 (nS nin0)).keep K117 (nS (nS nin0)))
    have K125 : Keep h0 T117.heap [tt] := (((((Keep.refl h0 [tt]).trans Kj27 (kI 0 rfl all0)).ext E75).trans K77 (kR all0)).trans K117 (kR (kR all0)))
    refine ih27 _ _ _ _ (ii + (1 : Int32)) dd kd cp (md + (1 : Int32)) vz_117 ⟨_, X117, N117⟩ rfl K125 fc118 fc119 g117_0 g117_1 g117_2 g117_3 g117_4 g117_5 g117_6 fc120 fc121 fc122 fc123 fc124 ?_ ?_ ?_ ?_
    ·
     exact hli _ _ (by exact ⟨by omega, own_ne (by omega), hf3⟩) (by omega) (by omega)
    ·
     first | (rw [own_inc (by omega)]; omega) | (have q : (1 : Int32).toInt = 1 := rfl; omega)
    ·
     constructor <;> omega
    ·
     omega
 have fc126 := (fc24.wr W25)
 have fc127 := (((Fw19.ext E20).keep K22 (nS nin0)).other W25 (sO (Or.inr (w_ hw 229 rfl)) (Or.inr (w_ hw 231 rfl))))
 have fc128 := ((((g16_0.wr W19).ext E20).keep K22).wr W25)
 have fc129 := ((((g16_1.other W19 (Or.inl own_o)).ext E20).keep K22 (nS nin0)).other W25 (Or.inl own_o))
 have fc130 := ((((g16_2.other W19 (Or.inl own_o)).ext E20).keep K22 (nS nin0)).other W25 (Or.inl own_o))
 have fc131 := ((((g16_3.other W19 (Or.inl own_o)).ext E20).keep K22 (nS nin0)).other W25 (Or.inl own_o))
 have O132 : Old Z n0 h25 := ((O21.keep K22 (allS (by omega) all0)).wr W25 gt_tt)
 have fc133 : Arv Z h25 dce kce (.object s7_) (0 : Int32) [] .null := A_DCE.ext O132.2
 have fc134 : Exa Z h25 dce s9_ := E_DCE.ext O132.2
 have fc135 := (g22_0.wr W25)
 have fc136 := (g22_1.other W25 (Or.inl own_o))
 have fc137 := (g22_2.other W25 (Or.inl own_o))
 have fc138 := (g22_3.other W25 (Or.inl own_o))
 have K139 : Keep h0 h25 [tt] := (((((((((((((Keep.refl h0 [tt]).ext E2).trans K4 (kR all0)).wr W7 (Or.inl (List.mem_of_getElem? (i := 0) rfl))).ext E8).trans K10 (kR all0)).wr W13 (Or.inl (List.mem_of_getElem? (i := 0) rfl))).ext E14).trans K16 (kR all0)).wr W19 (Or.inl (List.mem_of_getElem? (i := 0) rfl))).ext E20).trans K22 (kR all0)).wr W25 (Or.inl (List.mem_of_getElem? (i := 0) rfl)))
 refine lp27 64 _ _ _ _ (0 : Int32) dce kce (0 : Int32) (0 : Int32) [] ⟨_, X25, N25⟩ e25 K139 fc126 fc127 fc128 fc129 fc130 fc131 fc133 fc134 Vb26 Fw25 fc135 fc136 fc137 fc138 ?_ ?_ ?_ ?_
 ·
  exact own_li_0 rfl
 ·
  decide
 ·
  exact ⟨Nat.le_refl _, Nat.le_refl _⟩
 ·
  exact Nat.le_refl _
abbrev dD8 (n : Nat) (i : Instr) (k : Nat) : Prop := decode jdk_38_method_8_code n = .ok (i, k)
theorem D8_0 : dD8 0 (.aload_n 0) 1 := by decide +kernel
theorem D8_1 : dD8 1 (.getfield 48) 3 := by decide +kernel
theorem D8_4 : dD8 4 .ireturn 1 := by decide +kernel
def Q_rm_size (Z : State) (al : Addr) (ii : Int32) (h0 : Heap) (n0 : Nat) (v : Option Value) (h : Heap) (L : List Loc) : Prop := v = some (.int ii) ∧ Fr n0 L ∧ h = h0
theorem rm_size (l : Launch) (Z : State) (a0 : Array Value) (hw : own_Wd Z a0) (ws : List Jvm.Cond) (al : Addr) (ii : Int32) (h0 : Heap) (n0 : Nat) (O0 : Old Z n0 h0) (Fs : f32_ Z h0 al (.int ii)) :
  own_M l Z ws y18_ jdk_38_method_8_code 1 (some .int) ({ frames := 0, cells := 0, slots := 0, locals := 0 } : Room) #[(.ref al)] h0 (Q_rm_size Z al ii h0 n0) := by
 refine own_open O0 (plainFor_of_name pn3_) (L0 := #[.val (.ref al)]) ?_
 intro p e s m below meth c s₁ Bd hx hby hml hZ hh hown hnm X0 e0 N0 Z0
 have lt_Fs := fG Fs
 refine o_al X0 hx hby D8_0 rfl rfl ?_
 refine o_gf X0 hx hby hZ hown hw 72 rfl Via.refl e0 Fs D8_1 fun T1 X1 e1 => ?_
 exact o_ri Bd X1 hx hby e1 D8_4 ⟨rfl, N0, rfl⟩
abbrev dD10 (n : Nat) (i : Instr) (k : Nat) : Prop := decode jdk_49_method_1_code n = .ok (i, k)
theorem D10_0 : dD10 0 (.aload_n 0) 1 := by decide +kernel
theorem D10_1 : dD10 1 (.aload_n 1) 1 := by decide +kernel
theorem D10_2 : dD10 2 (.putfield 1) 3 := by decide +kernel
theorem D10_5 : dD10 5 (.aload_n 0) 1 := by decide +kernel
theorem D10_6 : dD10 6 (.invokespecial 7) 3 := by decide +kernel
theorem D10_9 : dD10 9 (.aload_n 0) 1 := by decide +kernel
theorem D10_10 : dD10 10 (.iconst (-1)) 1 := by decide +kernel
theorem D10_11 : dD10 11 (.putfield 13) 3 := by decide +kernel
theorem D10_14 : dD10 14 (.aload_n 0) 1 := by decide +kernel
theorem D10_15 : dD10 15 (.aload_n 0) 1 := by decide +kernel
theorem D10_16 : dD10 16 (.getfield 1) 3 := by decide +kernel
theorem D10_19 : dD10 19 (.getfield 17) 3 := by decide +kernel
theorem D10_22 : dD10 22 (.putfield 22) 3 := by decide +kernel
theorem D10_25 : dD10 25 .return_ 1 := by decide +kernel
def Q_rm_iti (Z : State) (it al : Addr) (md : Int32) (h0 : Heap) (n0 : Nat) (v : Option Value) (h : Heap) (L : List Loc) : Prop := v = none ∧ Fr n0 L ∧ Keep h0 h [it] ∧ Exa Z h it s20_ ∧ f2_ Z h it (.ref al) ∧ f1_ Z h it v0_
theorem rm_iti (l : Launch) (Z : State) (a0 : Array Value) (hw : own_Wd Z a0) (ws : List Jvm.Cond) (it al : Addr) (md : Int32) (h0 : Heap) (n0 : Nat) (O0 : Old Z n0 h0) (Pf0 : Exa Z h0 it s20_) (Pf1 : f2_ Z h0 it .null) (Pf2 : f1_ Z h0 it v0_) (Pf3 : Fld Z h0 it s20_ "lastRet" "I" v0_) (Pf4 : Fld Z h0 it s20_ s23_ "I" v0_) (Pf5 : f36_ Z h0 al (.int md)) (gt_it : n0 ≤ it) (nai : ¬ (@Eq Nat al it)) :
  own_M l Z ws y19_ jdk_49_method_1_code 2 none ({ frames := 1, cells := 0, slots := 0, locals := 12 } : Room) #[(.ref it), (.ref al)] h0 (Q_rm_iti Z it al md h0 n0) := by
 refine own_open O0 (plainFor_of_name pn11_) (L0 := #[.val (.ref it), .val (.ref al)]) ?_
 intro p e s m below meth c s₁ Bd hx hby hml hZ hh hown hnm X0 e0 N0 Z0
 have lt_Pf0 := eG Pf0
 have lt_Pf5 := fG Pf5
 refine o_al X0 hx hby D10_0 rfl rfl ?_
 refine o_al X0 hx hby D10_1 rfl rfl ?_
 obtain ⟨T1, h1, X1, e1, W1, st1⟩ := putF X0 hx hZ hown (host := "") (Or.inl (w_ hw 91 rfl)) Via.refl e0 Pf1 Pf0 (Or.inr ⟨(w_ hw 92 rfl), rfl, hnm⟩) (w_ hw 85 rfl) (ty := (.object s4_)) (by decide) rfl rfl (g := (mkF m 2 #[.val (.ref it), .val (.ref al)] [(.ref al), (.ref it)])) rfl rfl (hb hby D10_2)
 refine ob_ st1 ?_
 have z1 := W1.size
 have N1 := Fr.snoc X1 N0 gt_it
 have Fw1 : f2_ Z h1 it (.ref al) := Pf1.same W1
 refine o_al X1 hx hby D10_5 rfl rfl ?_
 obtain ⟨T2, X2, e2, st2⟩ := initO X1 hx hZ hown (w_ hw 93 rfl) (w_ hw 31 rfl) (w_ hw 32 rfl) e1 (g := (mkF m 6 #[.val (.ref it), .val (.ref al)] [(.ref it)])) rfl (by rw [hml]; rfl) rfl (hb hby D10_6) (by decide) (W := 0) (by show 2 * 0 + _ ≤ _; exact Nat.le_of_eq rfl) (by decide)
 refine ob_ st2 ?_
 refine o_al X2 hx hby D10_9 rfl rfl ?_
 refine o_ic X2 hx hby D10_10 ?_
 have fc3 := (Pf3.other W1 (sO (Or.inl (w_ hw 95 rfl)) (Or.inr (w_ hw 92 rfl))))
 have fc4 := (Pf0.wr W1)
 obtain ⟨T5, h5, X5, e5, W5, st5⟩ := putF X2 hx hZ hown (host := "") (Or.inl (w_ hw 94 rfl)) Via.refl e2 fc3 fc4 (Or.inl (w_ hw 95 rfl)) (w_ hw 85 rfl) (ty := .int) (by decide) rfl rfl (g := (mkF m 11 #[.val (.ref it), .val (.ref al)] [(.int (-1 : Int32)), (.ref it)])) rfl rfl (hb hby D10_11)
 refine ob_ st5 ?_
 have z5 := W5.size
 have N5 := Fr.snoc X5 N1 gt_it
 have Fw5 : Fld Z h5 it s20_ "lastRet" "I" (.int (-1 : Int32)) := fc3.same W5
 refine o_al X5 hx hby D10_14 rfl rfl ?_
 refine o_al X5 hx hby D10_15 rfl rfl ?_
 have fc6 := (Fw1.other W5 (sO (Or.inr (w_ hw 92 rfl)) (Or.inl (w_ hw 95 rfl))))
 refine o_gf X5 hx hby hZ hown hw 91 rfl Via.refl e5 fc6 D10_16 fun T7 X7 e7 => ?_
 have q_1 : own_NE al it := mN
 have fc8 := ((Pf5.other W1 (Or.inl q_1)).other W5 (Or.inl q_1))
 refine o_gf X7 hx hby hZ hown hw 96 rfl (Via.of (w_ hw 97 rfl)) e7 fc8 D10_19 fun T9 X9 e9 => ?_
 have fc10 := ((Pf4.other W1 (sO (Or.inl (w_ hw 99 rfl)) (Or.inr (w_ hw 92 rfl)))).other W5 (sO (Or.inl (w_ hw 99 rfl)) (Or.inl (w_ hw 95 rfl))))
 have fc11 := (fc4.wr W5)
 obtain ⟨T12, h12, X12, e12, W12, st12⟩ := putF X9 hx hZ hown (host := "") (Or.inl (w_ hw 98 rfl)) Via.refl e9 fc10 fc11 (Or.inl (w_ hw 99 rfl)) (w_ hw 85 rfl) (ty := .int) (by decide) rfl rfl (g := (mkF m 22 #[.val (.ref it), .val (.ref al)] [(.int md), (.ref it)])) rfl rfl (hb hby D10_22)
 refine ob_ st12 ?_
 have z12 := W12.size
 have N12 := Fr.snoc X12 N5 gt_it
 have Fw12 : Fld Z h12 it s20_ s23_ "I" (.int md) := fc10.same W12
 have fc13 := (fc11.wr W12)
 have fc14 := (fc6.other W12 (sO (Or.inr (w_ hw 92 rfl)) (Or.inl (w_ hw 99 rfl))))
 have fc15 := (((Pf2.other W1 (sO (Or.inl (w_ hw 110 rfl)) (Or.inr (w_ hw 92 rfl)))).other W5 (sO (Or.inl (w_ hw 110 rfl)) (Or.inl (w_ hw 95 rfl)))).other W12 (sO (Or.inl (w_ hw 110 rfl)) (Or.inl (w_ hw 99 rfl))))
 have K16 : Keep h0 h12 [it] := ((((Keep.refl h0 [it]).wr W1 (Or.inl (List.mem_of_getElem? (i := 0) rfl))).wr W5 (Or.inl (List.mem_of_getElem? (i := 0) rfl))).wr W12 (Or.inl (List.mem_of_getElem? (i := 0) rfl)))
 exact o_rv Bd X12 hx hby e12 D10_25 ⟨rfl, N12, K16, fc13, fc14, fc15⟩
abbrev dD9 (n : Nat) (i : Instr) (k : Nat) : Prop := decode jdk_38_method_55_code n = .ok (i, k)
theorem D9_0 : dD9 0 (.new 267) 3 := by decide +kernel
theorem D9_3 : dD9 3 .dup 1 := by decide +kernel
theorem D9_4 : dD9 4 (.aload_n 0) 1 := by decide +kernel
theorem D9_5 : dD9 5 (.invokespecial 269) 3 := by decide +kernel
theorem D9_8 : dD9 8 .areturn 1 := by decide +kernel
def Q_rm_ite (Z : State) (al : Addr) (md : Int32) (h0 : Heap) (n0 : Nat) (v : Option Value) (h : Heap) (L : List Loc) : Prop := ∃ (it : Addr), v = some (.ref it) ∧ Fr n0 L ∧ Keep h0 h [] ∧ Exa Z h it s20_ ∧ f2_ Z h it (.ref al) ∧ f1_ Z h it v0_ ∧ h0.size ≤ it
theorem rm_ite (l : Launch) (Z : State) (a0 : Array Value) (hw : own_Wd Z a0) (ws : List Jvm.Cond) (al : Addr) (md : Int32) (h0 : Heap) (n0 : Nat) (O0 : Old Z n0 h0) (Fm : f36_ Z h0 al (.int md)) :
  own_M l Z ws y20_ jdk_38_method_55_code 1 (some (.object s19_)) ({ frames := 2, cells := 1, slots := 4, locals := 26 } : Room) #[(.ref al)] h0 (Q_rm_ite Z al md h0 n0) := by
 refine own_open O0 (plainFor_of_name pn3_) (L0 := #[.val (.ref al)]) ?_
 intro p e s m below meth c s₁ Bd hx hby hml hZ hh hown hnm X0 e0 N0 Z0
 have lt_Fm := fG Fm
 obtain ⟨T1, h1, X1, e1, E1, A1, D1, U1, st1⟩ := newO X0 hx hZ hown (w_ hw 84 rfl) (w_ hw 85 rfl) (w_ hw 86 rfl) e0 (g := (mkF m 0 #[.val (.ref al)] [])) rfl (hb hby D9_0) (by decide) (by decide)
 obtain ⟨ob1, g1⟩ : ∃ z, z = h0.size := ⟨_, rfl⟩
 rw [← g1] at A1 D1 U1 st1
 refine ob_ st1 ?_
 have z1 := E1.1
 have lt1 : h1.size > ob1 := A1.lt
 refine ob_ (fun _ k => XS.dup X1.here hx rfl (hb hby D9_3) rfl rfl k) ?_
 refine o_al X1 hx hby D9_4 rfl rfl ?_
 have fc2 := (Fm.ext E1)
 have O3 : Old Z n0 h1 := (O0.ext E1)
 refine o_k 3 (X1.specialBack hx (y := y19_) rfl hown (mw hZ hw 87 rfl) (mw hZ hw 88 rfl) (mw hZ hw 90 rfl) (by decide) (bk 1 hZ hw 90 86 (rm_iti l Z a0 hw [] ob1 al md h1 n0 O3 A1 (show f2_ Z h1 ob1 .null from D1 (Or.inr (w_ hw 92 rfl)) (ty := (.object s4_)) (by decide)) (show f1_ Z h1 ob1 v0_ from D1 (Or.inl (w_ hw 110 rfl)) (ty := .int) (by decide)) (show Fld Z h1 ob1 s20_ "lastRet" "I" v0_ from D1 (Or.inl (w_ hw 95 rfl)) (ty := .int) (by decide)) (show Fld Z h1 ob1 s20_ s23_ "I" v0_ from D1 (Or.inl (w_ hw 99 rfl)) (ty := .int) (by decide)) fc2 (by omega) (by first | assumption | omega | decide))) (g := (mkF m 5 #[.val (.ref al)] [(.ref al), (.ref ob1), (.ref ob1)])) rfl hml.symm (Steps.refl _) (a := ob1) (argsL := [(.ref al)]) (rest := [(.ref ob1)]) (lenOf pd10_ rfl) rfl own_z (hb hby D9_5) (o4 e1 1 0 4 0)) fun T4 Lc4 _ X4 hQ4 => ?_
 obtain ⟨rfl, M4, K4, g4_0, g4_1, g4_2⟩ := hQ4
 have N4 := Fr.app N0 M4
 have z4 := K4.1
 have lt_g4_0 := eG g4_0
 have K5 : Keep h0 T4.heap [] := (((Keep.refl h0 []).ext E1).trans K4 (kR all0))
 exact o_ra Bd X4 hx hby rfl D9_8 rfl ⟨ob1, rfl, N4, K5, g4_0, g4_1, g4_2, (by first | assumption | omega)⟩
abbrev dD11 (n : Nat) (i : Instr) (k : Nat) : Prop := decode jdk_49_method_2_code n = .ok (i, k)
theorem D11_0 : dD11 0 (.aload_n 0) 1 := by decide +kernel
theorem D11_1 : dD11 1 (.getfield 25) 3 := by decide +kernel
theorem D11_4 : dD11 4 (.aload_n 0) 1 := by decide +kernel
theorem D11_5 : dD11 5 (.getfield 1) 3 := by decide +kernel
theorem D11_8 : dD11 8 (.getfield 28) 3 := by decide +kernel
theorem D11_11 : dD11 11 (.if_icmp .eq 7) 3 := by decide +kernel
theorem D11_18 : dD11 18 (.iconst 0) 1 := by decide +kernel
theorem D11_19 : dD11 19 .ireturn 1 := by decide +kernel
def Q_rm_hn (Z : State) (it al : Addr) (h0 : Heap) (n0 : Nat) (v : Option Value) (h : Heap) (L : List Loc) : Prop := v = some v0_ ∧ Fr n0 L ∧ h = h0
theorem rm_hn (l : Launch) (Z : State) (a0 : Array Value) (hw : own_Wd Z a0) (ws : List Jvm.Cond) (it al : Addr) (h0 : Heap) (n0 : Nat) (O0 : Old Z n0 h0) (Pf0 : f2_ Z h0 it (.ref al)) (Pf1 : f1_ Z h0 it v0_) (Pf2 : f32_ Z h0 al v0_) :
  own_M l Z ws y21_ jdk_49_method_2_code 1 (some .boolean) ({ frames := 0, cells := 0, slots := 0, locals := 0 } : Room) #[(.ref it)] h0 (Q_rm_hn Z it al h0 n0) := by
 refine own_open O0 (plainFor_of_name pn11_) (L0 := #[.val (.ref it)]) ?_
 intro p e s m below meth c s₁ Bd hx hby hml hZ hh hown hnm X0 e0 N0 Z0
 have lt_Pf0 := fG Pf0
 have lt_Pf2 := fG Pf2
 refine o_al X0 hx hby D11_0 rfl rfl ?_
 refine o_gf X0 hx hby hZ hown hw 109 rfl Via.refl e0 Pf1 D11_1 fun T1 X1 e1 => ?_
 refine o_al X1 hx hby D11_4 rfl rfl ?_
 refine o_gf X1 hx hby hZ hown hw 91 rfl Via.refl e1 Pf0 D11_5 fun T2 X2 e2 => ?_
 obtain ⟨T3, X3, e3, st3⟩ := getF X2 hx hZ hown (Or.inr (w_ hw 111 rfl)) Via.refl e2 Pf2 (g := (mkF m 8 #[.val (.ref it)] [(.ref al), v0_])) rfl rfl (hb hby D11_8)
 refine ob_ st3 ?_
 refine ob_ (fun _ k => XS.icmpYes X3.here hx rfl (pc0 := 11) (pc' := 18) rfl (hb hby D11_11) rfl (teq (by decide : (0 : Int32) = (0 : Int32))).1 (by decide) (by decide) k) ?_
 refine o_ic X3 hx hby D11_18 ?_
 exact o_rn Bd X3 hx hby e3 D11_19 ⟨rfl, N0, rfl⟩
abbrev dD12 (n : Nat) (i : Instr) (k : Nat) : Prop := decode jdk_40_method_47_code n = .ok (i, k)
theorem D12_0 : dD12 0 (.aload_n 0) 1 := by decide +kernel
theorem D12_1 : dD12 1 .arraylength 1 := by decide +kernel
theorem D12_2 : dD12 2 (.tableswitch 57 0 2 #[26, 32, 43]) 26 := by decide +kernel
theorem D12_28 : dD12 28 (.getstatic 90) 3 := by decide +kernel
theorem D12_31 : dD12 31 (.astore_n 1) 1 := by decide +kernel
theorem D12_32 : dD12 32 (.aload_n 1) 1 := by decide +kernel
theorem D12_33 : dD12 33 .areturn 1 := by decide +kernel
def Q_rm_lof (Z : State) (ar : Addr) (ka : ClassId) (el ele : Addr) (kele : ClassId) (h0 : Heap) (n0 : Nat) (v : Option Value) (h : Heap) (L : List Loc) : Prop := v = some (.ref el) ∧ Fr n0 L ∧ h = h0
theorem rm_lof (l : Launch) (Z : State) (a0 : Array Value) (hw : own_Wd Z a0) (ws : List Jvm.Cond) (ar : Addr) (ka : ClassId) (el ele : Addr) (kele : ClassId) (h0 : Heap) (n0 : Nat) (O0 : Old Z n0 h0) (S_EL : Sta Z Z.heap s25_ "EMPTY_LIST" s26_ (.ref el)) (E_EL : Exa Z Z.heap el s29_) (F_EL : f3_ Z Z.heap el (.ref ele)) (A_EL : Arv Z Z.heap ele kele (.object s7_) (0 : Int32) [] .null) (Va : Arv Z h0 ar ka (.object s17_) (0 : Int32) [] .null) :
  own_M l Z ws y22_ jdk_40_method_47_code 2 (some (.object s16_)) ({ frames := 0, cells := 0, slots := 0, locals := 0 } : Room) #[(.ref ar)] h0 (Q_rm_lof Z ar ka el ele kele h0 n0) := by
 refine own_open O0 (plainFor_of_name pn12_) (L0 := #[.val (.ref ar), .unset]) ?_
 intro p e s m below meth c s₁ Bd hx hby hml hZ hh hown hnm X0 e0 N0 Z0
 have lt_Va := vG Va
 refine o_al X0 hx hby D12_0 rfl rfl ?_
 obtain ⟨cl1, Ar1, q1, S1, M1, H1, G1⟩ := (id Va)
 refine ob_ (X0.arraylength hx (by rw [e0]; exact Ar1.1) (State.isArrayOf_alike hZ.alike Ar1.2.1) (g := (mkF m 1 #[.val (.ref ar), .unset] [(.ref ar)])) rfl rfl (hb hby D12_1)) ?_
 rw [len_of S1 M1]
 refine ob_ (fun _ k => XS.tswIn X0.here hx rfl (pc0 := 2) (pc' := 28) rfl (hb hby D12_2) rfl (by decide) (o := 26) (by decide) (by decide) (by decide) k) ?_
 obtain ⟨T2, X2, e2, st2⟩ := getS2 X0 hx hZ hown (host := "") (Or.inl (w_ hw 116 rfl)) Via.refl e0 (S_EL.ext O0.2) (g := (mkF m 28 #[.val (.ref ar), .unset] [])) rfl (hb hby D12_28)
 refine ob_ st2 ?_
 refine ob_ (fun _ k => XS.astoreN X2.here hx rfl (hb hby D12_31) rfl rfl (l' := #[.val (.ref ar), .val (.ref el)]) rfl k) ?_
 refine o_al X2 hx hby D12_32 rfl rfl ?_
 exact o_ra Bd X2 hx hby e2 D12_33 rfl ⟨rfl, N0, rfl⟩
abbrev dD14 (n : Nat) (i : Instr) (k : Nat) : Prop := decode jdk_45_method_3_code n = .ok (i, k)
theorem D14_0 : dD14 0 (.aload_n 0) 1 := by decide +kernel
theorem D14_1 : dD14 1 (.getfield 7) 3 := by decide +kernel
theorem D14_4 : dD14 4 .arraylength 1 := by decide +kernel
theorem D14_5 : dD14 5 .ireturn 1 := by decide +kernel
def Q_rm_lns (Z : State) (el ele : Addr) (kele : ClassId) (h0 : Heap) (n0 : Nat) (v : Option Value) (h : Heap) (L : List Loc) : Prop := v = some v0_ ∧ Fr n0 L ∧ h = h0
theorem rm_lns (l : Launch) (Z : State) (a0 : Array Value) (hw : own_Wd Z a0) (ws : List Jvm.Cond) (el ele : Addr) (kele : ClassId) (h0 : Heap) (n0 : Nat) (O0 : Old Z n0 h0) (S_EL : Sta Z Z.heap s25_ "EMPTY_LIST" s26_ (.ref el)) (E_EL : Exa Z Z.heap el s29_) (F_EL : f3_ Z Z.heap el (.ref ele)) (A_EL : Arv Z Z.heap ele kele (.object s7_) (0 : Int32) [] .null) :
  own_M l Z ws y23_ jdk_45_method_3_code 1 (some .int) ({ frames := 0, cells := 0, slots := 0, locals := 0 } : Room) #[(.ref el)] h0 (Q_rm_lns Z el ele kele h0 n0) := by
 refine own_open O0 (plainFor_of_name pn13_) (L0 := #[.val (.ref el)]) ?_
 intro p e s m below meth c s₁ Bd hx hby hml hZ hh hown hnm X0 e0 N0 Z0
 refine o_al X0 hx hby D14_0 rfl rfl ?_
 have fc1 : f3_ Z h0 el (.ref ele) := F_EL.ext O0.2
 refine o_gf X0 hx hby hZ hown hw 139 rfl Via.refl e0 fc1 D14_1 fun T2 X2 e2 => ?_
 have fc3 : Arv Z h0 ele kele (.object s7_) (0 : Int32) [] .null := A_EL.ext O0.2
 obtain ⟨cl4, Ar4, q4, S4, M4, H4, G4⟩ := (id fc3)
 refine ob_ (X2.arraylength hx (by rw [e2]; exact Ar4.1) (State.isArrayOf_alike hZ.alike Ar4.2.1) (g := (mkF m 4 #[.val (.ref el)] [(.ref ele)])) rfl rfl (hb hby D14_4)) ?_
 rw [len_of S4 M4]
 exact o_ri Bd X2 hx hby e2 D14_5 ⟨rfl, N0, rfl⟩
abbrev dD15 (n : Nat) (i : Instr) (k : Nat) : Prop := decode jdk_53_method_1_code n = .ok (i, k)
theorem D15_0 : dD15 0 (.aload_n 0) 1 := by decide +kernel
theorem D15_1 : dD15 1 (.invokespecial 1) 3 := by decide +kernel
theorem D15_4 : dD15 4 (.aload_n 0) 1 := by decide +kernel
theorem D15_5 : dD15 5 (.aload_n 1) 1 := by decide +kernel
theorem D15_6 : dD15 6 (.putfield 7) 3 := by decide +kernel
theorem D15_9 : dD15 9 (.aload_n 0) 1 := by decide +kernel
theorem D15_10 : dD15 10 (.iload_n 2) 1 := by decide +kernel
theorem D15_11 : dD15 11 (.putfield 13) 3 := by decide +kernel
theorem D15_14 : dD15 14 (.aload_n 0) 1 := by decide +kernel
theorem D15_15 : dD15 15 (.iconst 0) 1 := by decide +kernel
theorem D15_16 : dD15 16 (.putfield 17) 3 := by decide +kernel
theorem D15_19 : dD15 19 (.aload_n 0) 1 := by decide +kernel
theorem D15_20 : dD15 20 (.iconst 0) 1 := by decide +kernel
theorem D15_21 : dD15 21 (.putfield 20) 3 := by decide +kernel
theorem D15_24 : dD15 24 .return_ 1 := by decide +kernel
def Q_rm_lii (Z : State) (it xl : Addr) (h0 : Heap) (n0 : Nat) (v : Option Value) (h : Heap) (L : List Loc) : Prop := v = none ∧ Fr n0 L ∧ Keep h0 h [it] ∧ Exa Z h it s31_ ∧ f10_ Z h it v0_ ∧ f11_ Z h it v0_
theorem rm_lii (l : Launch) (Z : State) (a0 : Array Value) (hw : own_Wd Z a0) (ws : List Jvm.Cond) (it xl : Addr) (h0 : Heap) (n0 : Nat) (O0 : Old Z n0 h0) (Pf0 : Exa Z h0 it s31_) (Pf1 : f10_ Z h0 it v0_) (Pf2 : f11_ Z h0 it v0_) (Pf3 : Fld Z h0 it s31_ "list" s27_ .null) (Pf4 : Fld Z h0 it s31_ s33_ "Z" v0_) (gt_it : n0 ≤ it) :
  own_M l Z ws y24_ jdk_53_method_1_code 3 none ({ frames := 1, cells := 0, slots := 0, locals := 12 } : Room) #[(.ref it), (.ref xl), v0_] h0 (Q_rm_lii Z it xl h0 n0) := by
 refine own_open O0 (plainFor_of_name pn14_) (L0 := #[.val (.ref it), .val (.ref xl), .val v0_]) ?_
 intro p e s m below meth c s₁ Bd hx hby hml hZ hh hown hnm X0 e0 N0 Z0
 have lt_Pf0 := eG Pf0
 refine o_al X0 hx hby D15_0 rfl rfl ?_
 obtain ⟨T1, X1, e1, st1⟩ := initO X0 hx hZ hown (w_ hw 145 rfl) (w_ hw 31 rfl) (w_ hw 32 rfl) e0 (g := (mkF m 1 #[.val (.ref it), .val (.ref xl), .val v0_] [(.ref it)])) rfl (by rw [hml]; rfl) rfl (hb hby D15_1) (by decide) (W := 0) (by show 2 * 0 + _ ≤ _; exact Nat.le_of_eq rfl) (by decide)
 refine ob_ st1 ?_
 refine o_al X1 hx hby D15_4 rfl rfl ?_
 refine o_al X1 hx hby D15_5 rfl rfl ?_
 obtain ⟨T2, h2, X2, e2, W2, st2⟩ := putF X1 hx hZ hown (host := "") (Or.inl (w_ hw 146 rfl)) Via.refl e1 Pf3 Pf0 (Or.inr ⟨(w_ hw 147 rfl), rfl, hnm⟩) (w_ hw 130 rfl) (ty := (.object s16_)) (by decide) rfl rfl (g := (mkF m 6 #[.val (.ref it), .val (.ref xl), .val v0_] [(.ref xl), (.ref it)])) rfl rfl (hb hby D15_6)
 refine ob_ st2 ?_
 have z2 := W2.size
 have N2 := Fr.snoc X2 N0 gt_it
 have Fw2 : Fld Z h2 it s31_ "list" s27_ (.ref xl) := Pf3.same W2
 refine o_al X2 hx hby D15_9 rfl rfl ?_
 refine o_il X2 hx hby D15_10 rfl ?_
 have fc3 := (Pf2.other W2 (sO (Or.inr (w_ hw 149 rfl)) (Or.inr (w_ hw 147 rfl))))
 have fc4 := (Pf0.wr W2)
 obtain ⟨T5, h5, X5, e5, W5, st5⟩ := putF X2 hx hZ hown (host := "") (Or.inl (w_ hw 148 rfl)) Via.refl e2 fc3 fc4 (Or.inr ⟨(w_ hw 149 rfl), rfl, hnm⟩) (w_ hw 130 rfl) (ty := .int) (by decide) rfl rfl (g := (mkF m 11 #[.val (.ref it), .val (.ref xl), .val v0_] [v0_, (.ref it)])) rfl rfl (hb hby D15_11)
 refine ob_ st5 ?_
 have z5 := W5.size
 have N5 := Fr.snoc X5 N2 gt_it
 have Fw5 : f11_ Z h5 it v0_ := fc3.same W5
 refine o_al X5 hx hby D15_14 rfl rfl ?_
 refine o_ic X5 hx hby D15_15 ?_
 have fc6 := ((Pf1.other W2 (sO (Or.inl (w_ hw 151 rfl)) (Or.inr (w_ hw 147 rfl)))).other W5 (sO (Or.inl (w_ hw 151 rfl)) (Or.inr (w_ hw 149 rfl))))
 have fc7 := (fc4.wr W5)
 obtain ⟨T8, h8, X8, e8, W8, st8⟩ := putF X5 hx hZ hown (host := "") (Or.inl (w_ hw 150 rfl)) Via.refl e5 fc6 fc7 (Or.inl (w_ hw 151 rfl)) (w_ hw 130 rfl) (ty := .int) (by decide) rfl rfl (g := (mkF m 16 #[.val (.ref it), .val (.ref xl), .val v0_] [v0_, (.ref it)])) rfl rfl (hb hby D15_16)
 refine ob_ st8 ?_
 have z8 := W8.size
 have N8 := Fr.snoc X8 N5 gt_it
 have Fw8 : f10_ Z h8 it v0_ := fc6.same W8
 refine o_al X8 hx hby D15_19 rfl rfl ?_
 refine o_ic X8 hx hby D15_20 ?_
 have fc9 := (((Pf4.other W2 (sO (Or.inr (w_ hw 153 rfl)) (Or.inr (w_ hw 147 rfl)))).other W5 (sO (Or.inr (w_ hw 153 rfl)) (Or.inr (w_ hw 149 rfl)))).other W8 (sO (Or.inr (w_ hw 153 rfl)) (Or.inl (w_ hw 151 rfl))))
 have fc10 := (fc7.wr W8)
 obtain ⟨T11, h11, X11, e11, W11, st11⟩ := putFN X8 hx hZ hown (w_ hw 152 rfl) Via.refl e8 fc9 fc10 (Or.inr ⟨(w_ hw 153 rfl), rfl, hnm⟩) (w_ hw 130 rfl) (ty := .boolean) (v' := (.int (0 : Int32))) (by decide) rfl rfl (g := (mkF m 21 #[.val (.ref it), .val (.ref xl), .val v0_] [v0_, (.ref it)])) rfl rfl (hb hby D15_21)
 refine ob_ st11 ?_
 have z11 := W11.size
 have N11 := Fr.snoc X11 N8 gt_it
 have Fw11 : Fld Z h11 it s31_ s33_ "Z" v0_ := fc9.same W11
 have fc12 := (fc10.wr W11)
 have fc13 := (Fw8.other W11 (sO (Or.inl (w_ hw 151 rfl)) (Or.inr (w_ hw 153 rfl))))
 have fc14 := ((Fw5.other W8 (sO (Or.inr (w_ hw 149 rfl)) (Or.inl (w_ hw 151 rfl)))).other W11 (sO (Or.inr (w_ hw 149 rfl)) (Or.inr (w_ hw 153 rfl))))
 have K15 : Keep h0 h11 [it] := (((((Keep.refl h0 [it]).wr W2 (Or.inl (List.mem_of_getElem? (i := 0) rfl))).wr W5 (Or.inl (List.mem_of_getElem? (i := 0) rfl))).wr W8 (Or.inl (List.mem_of_getElem? (i := 0) rfl))).wr W11 (Or.inl (List.mem_of_getElem? (i := 0) rfl)))
 exact o_rv Bd X11 hx hby e11 D15_24 ⟨rfl, N11, K15, fc12, fc13, fc14⟩
abbrev dD13 (n : Nat) (i : Instr) (k : Nat) : Prop := decode jdk_46_method_10_code n = .ok (i, k)
theorem D13_0 : dD13 0 (.new 61) 3 := by decide +kernel
theorem D13_3 : dD13 3 .dup 1 := by decide +kernel
theorem D13_4 : dD13 4 (.aload_n 0) 1 := by decide +kernel
theorem D13_5 : dD13 5 (.aload_n 0) 1 := by decide +kernel
theorem D13_6 : dD13 6 (.invokevirtual 13) 3 := by decide +kernel
theorem D13_9 : dD13 9 (.invokespecial 63) 3 := by decide +kernel
theorem D13_12 : dD13 12 .areturn 1 := by decide +kernel
def Q_rm_lit (Z : State) (el ele : Addr) (kele : ClassId) (h0 : Heap) (n0 : Nat) (v : Option Value) (h : Heap) (L : List Loc) : Prop := ∃ (it : Addr), v = some (.ref it) ∧ Fr n0 L ∧ Keep h0 h [] ∧ Exa Z h it s31_ ∧ f10_ Z h it v0_ ∧ f11_ Z h it v0_ ∧ h0.size ≤ it
theorem rm_lit (l : Launch) (Z : State) (a0 : Array Value) (hw : own_Wd Z a0) (ws : List Jvm.Cond) (el ele : Addr) (kele : ClassId) (h0 : Heap) (n0 : Nat) (O0 : Old Z n0 h0) (S_EL : Sta Z Z.heap s25_ "EMPTY_LIST" s26_ (.ref el)) (E_EL : Exa Z Z.heap el s29_) (F_EL : f3_ Z Z.heap el (.ref ele)) (A_EL : Arv Z Z.heap ele kele (.object s7_) (0 : Int32) [] .null) :
  own_M l Z ws y25_ jdk_46_method_10_code 1 (some (.object s19_)) ({ frames := 2, cells := 1, slots := 4, locals := 27 } : Room) #[(.ref el)] h0 (Q_rm_lit Z el ele kele h0 n0) := by
 refine own_open O0 (plainFor_of_name pn15_) (L0 := #[.val (.ref el)]) ?_
 intro p e s m below meth c s₁ Bd hx hby hml hZ hh hown hnm X0 e0 N0 Z0
 obtain ⟨T1, h1, X1, e1, E1, A1, D1, U1, st1⟩ := newO X0 hx hZ hown (w_ hw 129 rfl) (w_ hw 130 rfl) (w_ hw 131 rfl) e0 (g := (mkF m 0 #[.val (.ref el)] [])) rfl (hb hby D13_0) (by decide) (by decide)
 obtain ⟨ob1, g1⟩ : ∃ z, z = h0.size := ⟨_, rfl⟩
 rw [← g1] at A1 D1 U1 st1
 refine ob_ st1 ?_
 have z1 := E1.1
 have lt1 : h1.size > ob1 := A1.lt
 refine ob_ (fun _ k => XS.dup X1.here hx rfl (hb hby D13_3) rfl rfl k) ?_
 refine o_al X1 hx hby D13_4 rfl rfl ?_
 refine o_al X1 hx hby D13_5 rfl rfl ?_
 have O2 : Old Z n0 h1 := (O0.ext E1)
 have fc4 : Exa Z h1 el s29_ := E_EL.ext O2.2
 obtain ⟨cq3, kq3, q3a, q3b, q3c⟩ := isOf hZ e1 fc4
 refine o_k 3 (X1.virtualBackUp hx (C := s29_) (owner := s6_) (x := y26_) (y := y23_) hown (mw hZ hw 132 rfl) (mw hZ hw 133 rfl) (mw hZ hw 134 rfl) (by decide) (mw hZ hw 135 rfl) (mw hZ hw 136 rfl) (bk 3 hZ hw 138 137 (rm_lns l Z a0 hw [] el ele kele h1 n0 O2 S_EL E_EL F_EL A_EL)) q3a q3c (g := (mkF m 6 #[.val (.ref el)] [(.ref el), (.ref el), (.ref ob1), (.ref ob1)])) rfl hml.symm (Steps.refl _) (argsL := []) (rest := [(.ref el), (.ref ob1), (.ref ob1)]) (lenOf pd11_ rfl) rfl own_z (hb hby D13_6) (o4 e1 1 0 4 0)) fun T3 Lc3 _ X3 hQ3 => ?_
 obtain ⟨rfl, M3, K3⟩ := hQ3
 have N3 := Fr.app N0 M3
 refine o_k 3 (X3.specialBack hx (y := y24_) rfl hown (mw hZ hw 141 rfl) (mw hZ hw 142 rfl) (mw hZ hw 144 rfl) (by decide) (bk 1 hZ hw 144 131 (rm_lii l Z a0 hw [] ob1 el h1 n0 O2 A1 (show f10_ Z h1 ob1 v0_ from D1 (Or.inl (w_ hw 151 rfl)) (ty := .int) (by decide)) (show f11_ Z h1 ob1 v0_ from D1 (Or.inr (w_ hw 149 rfl)) (ty := .int) (by decide)) (show Fld Z h1 ob1 s31_ "list" s27_ .null from D1 (Or.inr (w_ hw 147 rfl)) (ty := (.object s16_)) (by decide)) (show Fld Z h1 ob1 s31_ s33_ "Z" v0_ from D1 (Or.inr (w_ hw 153 rfl)) (ty := .boolean) (by decide)) (by omega))) (g := (mkF m 9 #[.val (.ref el)] [v0_, (.ref el), (.ref ob1), (.ref ob1)])) rfl hml.symm (Steps.refl _) (a := ob1) (argsL := [(.ref el), v0_]) (rest := [(.ref ob1)]) (lenOf pd12_ rfl) rfl own_z (hb hby D13_9) (o4 K3 1 0 4 0)) fun T5 Lc5 _ X5 hQ5 => ?_
 obtain ⟨rfl, M5, K5, g5_0, g5_1, g5_2⟩ := hQ5
 have N5 := Fr.app N3 M5
 have z5 := K5.1
 have lt_g5_0 := eG g5_0
 have K6 : Keep h0 T5.heap [] := (((Keep.refl h0 []).ext E1).trans K5 (kR all0))
 exact o_ra Bd X5 hx hby rfl D13_12 rfl ⟨ob1, rfl, N5, K6, g5_0, g5_1, g5_2, (by first | assumption | omega)⟩
abbrev dD16 (n : Nat) (i : Instr) (k : Nat) : Prop := decode jdk_53_method_3_code n = .ok (i, k)
theorem D16_0 : dD16 0 (.aload_n 0) 1 := by decide +kernel
theorem D16_1 : dD16 1 (.getfield 17) 3 := by decide +kernel
theorem D16_4 : dD16 4 (.aload_n 0) 1 := by decide +kernel
theorem D16_5 : dD16 5 (.getfield 13) 3 := by decide +kernel
theorem D16_8 : dD16 8 (.if_icmp .eq 7) 3 := by decide +kernel
theorem D16_15 : dD16 15 (.iconst 0) 1 := by decide +kernel
theorem D16_16 : dD16 16 .ireturn 1 := by decide +kernel
def Q_rm_lhn (Z : State) (it : Addr) (h0 : Heap) (n0 : Nat) (v : Option Value) (h : Heap) (L : List Loc) : Prop := v = some v0_ ∧ Fr n0 L ∧ h = h0
theorem rm_lhn (l : Launch) (Z : State) (a0 : Array Value) (hw : own_Wd Z a0) (ws : List Jvm.Cond) (it : Addr) (h0 : Heap) (n0 : Nat) (O0 : Old Z n0 h0) (Pf0 : f10_ Z h0 it v0_) (Pf1 : f11_ Z h0 it v0_) :
  own_M l Z ws y27_ jdk_53_method_3_code 1 (some .boolean) ({ frames := 0, cells := 0, slots := 0, locals := 0 } : Room) #[(.ref it)] h0 (Q_rm_lhn Z it h0 n0) := by
 refine own_open O0 (plainFor_of_name pn14_) (L0 := #[.val (.ref it)]) ?_
 intro p e s m below meth c s₁ Bd hx hby hml hZ hh hown hnm X0 e0 N0 Z0
 have lt_Pf0 := fG Pf0
 refine o_al X0 hx hby D16_0 rfl rfl ?_
 refine o_gf X0 hx hby hZ hown hw 150 rfl Via.refl e0 Pf0 D16_1 fun T1 X1 e1 => ?_
 refine o_al X1 hx hby D16_4 rfl rfl ?_
 refine o_gf X1 hx hby hZ hown hw 148 rfl Via.refl e1 Pf1 D16_5 fun T2 X2 e2 => ?_
 refine ob_ (fun _ k => XS.icmpYes X2.here hx rfl (pc0 := 8) (pc' := 15) rfl (hb hby D16_8) rfl (teq (by decide : (0 : Int32) = (0 : Int32))).1 (by decide) (by decide) k) ?_
 refine o_ic X2 hx hby D16_15 ?_
 exact o_rn Bd X2 hx hby e2 D16_16 ⟨rfl, N0, rfl⟩
abbrev dD7 (n : Nat) (i : Instr) (k : Nat) : Prop := decode prog_6_method_32_code n = .ok (i, k)
theorem D7_0 : dD7 0 (.aload_n 0) 1 := by decide +kernel
theorem D7_1 : dD7 1 (.invokeinterface 87 1) 5 := by decide +kernel
theorem D7_6 : dD7 6 (.bipush 16) 2 := by decide +kernel
theorem D7_8 : dD7 8 (.if_icmp .le 15) 3 := by decide +kernel
theorem D7_23 : dD7 23 (.aload_n 0) 1 := by decide +kernel
theorem D7_24 : dD7 24 (.invokeinterface 87 1) 5 := by decide +kernel
theorem D7_29 : dD7 29 (.anewarray 60) 3 := by decide +kernel
theorem D7_32 : dD7 32 (.astore_n 1) 1 := by decide +kernel
theorem D7_33 : dD7 33 (.iconst 0) 1 := by decide +kernel
theorem D7_34 : dD7 34 (.istore_n 2) 1 := by decide +kernel
theorem D7_35 : dD7 35 (.aload_n 0) 1 := by decide +kernel
theorem D7_36 : dD7 36 (.invokeinterface 47 1) 5 := by decide +kernel
theorem D7_41 : dD7 41 (.astore_n 3) 1 := by decide +kernel
theorem D7_42 : dD7 42 (.aload_n 3) 1 := by decide +kernel
theorem D7_43 : dD7 43 (.invokeinterface 51 1) 5 := by decide +kernel
theorem D7_48 : dD7 48 (.ifCond .eq 35) 3 := by decide +kernel
theorem D7_83 : dD7 83 (.iload_n 2) 1 := by decide +kernel
theorem D7_84 : dD7 84 (.aload_n 1) 1 := by decide +kernel
theorem D7_85 : dD7 85 .arraylength 1 := by decide +kernel
theorem D7_86 : dD7 86 (.if_icmp .ne 7) 3 := by decide +kernel
theorem D7_89 : dD7 89 (.aload_n 1) 1 := by decide +kernel
theorem D7_90 : dD7 90 (.goto 11) 3 := by decide +kernel
theorem D7_101 : dD7 101 (.invokestatic 303) 3 := by decide +kernel
theorem D7_104 : dD7 104 .areturn 1 := by decide +kernel
def Q_rm_dis (Z : State) (al dce : Addr) (kce : ClassId) (el ele : Addr) (kele : ClassId) (h0 : Heap) (n0 : Nat) (v : Option Value) (h : Heap) (L : List Loc) : Prop := v = some (.ref el) ∧ Fr n0 L ∧ Keep h0 h []
theorem rm_dis (l : Launch) (Z : State) (a0 : Array Value) (hw : own_Wd Z a0) (ws : List Jvm.Cond) (al dce : Addr) (kce : ClassId) (el ele : Addr) (kele : ClassId) (h0 : Heap) (n0 : Nat) (O0 : Old Z n0 h0) (S_DCE : Sta Z Z.heap s4_ s8_ s9_ (.ref dce)) (A_DCE : Arv Z Z.heap dce kce (.object s7_) (0 : Int32) [] .null) (E_DCE : Exa Z Z.heap dce s9_) (S_EL : Sta Z Z.heap s25_ "EMPTY_LIST" s26_ (.ref el)) (E_EL : Exa Z Z.heap el s29_) (F_EL : f3_ Z Z.heap el (.ref ele)) (A_EL : Arv Z Z.heap ele kele (.object s7_) (0 : Int32) [] .null) (Pl0 : Exa Z h0 al s4_) (Pl1 : f32_ Z h0 al v0_) (Pl2 : f36_ Z h0 al v0_) (Pl3 : f31_ Z h0 al (.ref dce)) :
  own_M l Z ws y28_ prog_6_method_32_code 5 (some (.object s16_)) ({ frames := 3, cells := 2, slots := 4, locals := 38 } : Room) #[(.ref al)] h0 (Q_rm_dis Z al dce kce el ele kele h0 n0) := by
 refine own_open O0 (plainFor_of_name pn16_) (L0 := #[.val (.ref al), .unset, .unset, .unset, .unset]) ?_
 intro p e s m below meth c s₁ Bd hx hby hml hZ hh hown hnm X0 e0 N0 Z0
 have lt_Pl0 := eG Pl0
 refine o_al X0 hx hby D7_0 rfl rfl ?_
 obtain ⟨cq1, kq1, q1a, q1b, q1c⟩ := isOf hZ e0 Pl0
 refine o_k 5 (X0.interfaceBack hx (xi := y29_) (y := y18_) hown (mw hZ hw 63 rfl) (mw hZ hw 64 rfl) (mw hZ hw 65 rfl) (mw hZ hw 66 rfl) (mw hZ hw 67 rfl) (mw hZ hw 68 rfl) (mw hZ hw 69 rfl) (mw hZ hw 70 rfl) (by decide) (bk 0 hZ hw 71 14 (rm_size l Z a0 hw [] al (0 : Int32) h0 n0 O0 Pl1)) q1a q1b q1c (g := (mkF m 1 #[.val (.ref al), .unset, .unset, .unset, .unset] [(.ref al)])) rfl hml.symm (Steps.refl _) (argsL := []) (rest := []) (lenOf pd11_ rfl) rfl own_z (hb hby D7_1) (o4 e0 0 0 0 0)) fun T1 Lc1 _ X1 hQ1 => ?_
 obtain ⟨rfl, M1, K1⟩ := hQ1
 have N1 := Fr.app N0 M1
 refine o_bi X1 hx hby D7_6 ?_
 refine ob_ (fun _ k => XS.icmpYes X1.here hx rfl (pc0 := 8) (pc' := 23) rfl (hb hby D7_8) rfl (flt (by decide : ¬ ((16 : Int32) < (0 : Int32)))).2.2.2 (by decide) (by decide) k) ?_
 refine o_al X1 hx hby D7_23 rfl rfl ?_
 obtain ⟨cq2, kq2, q2a, q2b, q2c⟩ := isOf hZ K1 Pl0
 refine o_k 5 (X1.interfaceBack hx (xi := y29_) (y := y18_) hown (mw hZ hw 63 rfl) (mw hZ hw 64 rfl) (mw hZ hw 65 rfl) (mw hZ hw 66 rfl) (mw hZ hw 67 rfl) (mw hZ hw 68 rfl) (mw hZ hw 69 rfl) (mw hZ hw 70 rfl) (by decide) (bk 0 hZ hw 71 14 (rm_size l Z a0 hw [] al (0 : Int32) h0 n0 O0 Pl1)) q2a q2b q2c (g := (mkF m 24 #[.val (.ref al), .unset, .unset, .unset, .unset] [(.ref al)])) rfl hml.symm (Steps.refl _) (argsL := []) (rest := []) (lenOf pd11_ rfl) rfl own_z (hb hby D7_24) (o4 K1 0 0 0 0)) fun T2 Lc2 _ X2 hQ2 => ?_
 obtain ⟨rfl, M2, K2⟩ := hQ2
 have N2 := Fr.app N1 M2
 obtain ⟨T3, h3, k3, X3, e3, E3, A3, Ex3, Ov3, st3⟩ := newRE X2 hx hZ hown (w_ hw 74 rfl) (w_ hw 75 rfl) K2 (g := (mkF m 29 #[.val (.ref al), .unset, .unset, .unset, .unset] [v0_])) rfl (hb hby D7_29) rfl (by decide) (cap := 0) (by decide) (by decide) (by decide) (by decide) (ad := "[Lcom/example/rewrought/rewrought/Atom;") rfl
 obtain ⟨ob3, g3⟩ : ∃ z, z = h0.size := ⟨_, rfl⟩
 rw [← g3] at A3 st3 Ex3
 refine ob_ st3 ?_
 have z3 := E3.1
 have Vw3 : Arv Z h3 ob3 k3 (.object s17_) (0 : Int32) [] .null := Arv.new A3 (by decide)
 have lt3 : h3.size > ob3 := Vw3.lt
 refine ob_ (fun _ k => XS.astoreN X3.here hx rfl (hb hby D7_32) rfl rfl (l' := #[.val (.ref al), .val (.ref ob3), .unset, .unset, .unset]) rfl k) ?_
 refine o_ic X3 hx hby D7_33 ?_
 refine ob_ (fun _ k => XS.istoreN X3.here hx rfl (hb hby D7_34) rfl (l' := #[.val (.ref al), .val (.ref ob3), .val v0_, .unset, .unset]) rfl k) ?_
 refine o_al X3 hx hby D7_35 rfl rfl ?_
 have fc4 := (Pl2.ext E3)
 have O5 : Old Z n0 h3 := (O0.ext E3)
 have fc7 := (Pl0.ext E3)
 obtain ⟨cq6, kq6, q6a, q6b, q6c⟩ := isOf hZ e3 fc7
 refine o_k 5 (X3.interfaceBack hx (xi := y30_) (y := y20_) hown (mw hZ hw 76 rfl) (mw hZ hw 77 rfl) (mw hZ hw 78 rfl) (mw hZ hw 79 rfl) (mw hZ hw 80 rfl) (mw hZ hw 81 rfl) (mw hZ hw 82 rfl) (mw hZ hw 70 rfl) (by decide) (bk 0 hZ hw 83 14 (rm_ite l Z a0 hw [] al (0 : Int32) h3 n0 O5 fc4)) q6a q6b q6c (g := (mkF m 36 #[.val (.ref al), .val (.ref ob3), .val v0_, .unset, .unset] [(.ref al)])) rfl hml.symm (Steps.refl _) (argsL := []) (rest := []) (lenOf pd13_ rfl) rfl own_z (hb hby D7_36) (o4 e3 1 1 0 4)) fun T6 Lc6 _ X6 hQ6 => ?_
 obtain ⟨it_6, rfl, M6, K6, g6_0, g6_1, g6_2, r6_0⟩ := hQ6
 have N6 := Fr.app N2 M6
 have z6 := K6.1
 have lt_g6_0 := eG g6_0
 refine ob_ (fun _ k => XS.astoreN X6.here hx rfl (hb hby D7_41) rfl rfl (l' := #[.val (.ref al), .val (.ref ob3), .val v0_, .val (.ref it_6), .unset]) rfl k) ?_
 refine o_al X6 hx hby D7_42 rfl rfl ?_
 have fc8 := ((Pl1.ext E3).keep K6 nin0)
 have O9 : Old Z n0 T6.heap := (O5.keep K6 all0)
 obtain ⟨cq10, kq10, q10a, q10b, q10c⟩ := isOf hZ rfl g6_0
 refine o_k 5 (X6.interfaceBack hx (xi := y31_) (y := y21_) hown (mw hZ hw 100 rfl) (mw hZ hw 101 rfl) (mw hZ hw 102 rfl) (mw hZ hw 103 rfl) (mw hZ hw 104 rfl) (mw hZ hw 105 rfl) (mw hZ hw 106 rfl) (mw hZ hw 107 rfl) (by decide) (bk 0 hZ hw 108 86 (rm_hn l Z a0 hw [] it_6 al T6.heap n0 O9 g6_1 g6_2 fc8)) q10a q10b q10c (g := (mkF m 43 #[.val (.ref al), .val (.ref ob3), .val v0_, .val (.ref it_6), .unset] [(.ref it_6)])) rfl hml.symm (Steps.refl _) (argsL := []) (rest := []) (lenOf pd14_ rfl) rfl own_z (hb hby D7_43) (o4 rfl 2 0 4 0)) fun T10 Lc10 _ X10 hQ10 => ?_
 obtain ⟨rfl, M10, K10⟩ := hQ10
 have N10 := Fr.app N6 M10
 refine ob_ (fun _ k => XS.ifYes X10.here hx rfl (pc0 := 48) (pc' := 83) rfl (hb hby D7_48) rfl ((if0 _ _).trans (teq (by decide : (0 : Int32) = (0 : Int32))).1) (by decide) (by decide) k) ?_
 refine o_il X10 hx hby D7_83 rfl ?_
 refine o_al X10 hx hby D7_84 rfl rfl ?_
 have fc11 := (Vw3.keep K6 nin0)
 obtain ⟨cl12, Ar12, q12, S12, M12, H12, G12⟩ := (id fc11)
 refine ob_ (X10.arraylength hx (by rw [K10]; exact Ar12.1) (State.isArrayOf_alike hZ.alike Ar12.2.1) (g := (mkF m 85 #[.val (.ref al), .val (.ref ob3), .val v0_, .val (.ref it_6), .unset] [(.ref ob3), v0_])) rfl rfl (hb hby D7_85)) ?_
 rw [len_of S12 M12]
 refine ob_ (fun _ k => XS.icmpNo X10.here hx rfl (hb hby D7_86) rfl (teq (by decide : (0 : Int32) = (0 : Int32))).2 k) ?_
 refine o_al X10 hx hby D7_89 rfl rfl ?_
 refine ob_ (fun _ k => XS.goto X10.here hx rfl (pc0 := 90) (pc' := 101) rfl (hb hby D7_90) (by decide) (by decide) k) ?_
 refine o_ks 3 (Jvm.LawKit.callS X10 hx (y := y22_) hown (mw hZ hw 112 rfl) (mw hZ hw 113 rfl) (mw hZ hw 114 rfl) (mw hZ hw 115 rfl) (by decide) (bk 0 hZ hw 115 114 (rm_lof l Z a0 hw [] ob3 k3 el ele kele T6.heap n0 O9 S_EL E_EL F_EL A_EL fc11)) (g := (mkF m 101 #[.val (.ref al), .val (.ref ob3), .val v0_, .val (.ref it_6), .unset] [(.ref ob3)])) rfl hml.symm (argsL := [(.ref ob3)]) (rest := []) (lenOf pd15_ rfl) rfl own_z (hb hby D7_101) (o4 K10 2 0 4 0)) fun T13 Lc13 _ X13 hQ13 => ?_
 obtain ⟨rfl, M13, K13⟩ := hQ13
 have N13 := Fr.app N10 M13
 have K14 : Keep h0 T6.heap [] := (((Keep.refl h0 []).ext E3).trans K6 all0)
 exact o_ra Bd X13 hx hby K13 D7_104 rfl ⟨rfl, N13, K14⟩
abbrev dD6 (n : Nat) (i : Instr) (k : Nat) : Prop := decode prog_6_method_2_code n = .ok (i, k)
theorem D6_0 : dD6 0 (.aload_n 0) 1 := by decide +kernel
theorem D6_1 : dD6 1 (.invokespecial 7) 3 := by decide +kernel
theorem D6_4 : dD6 4 (.aload_n 0) 1 := by decide +kernel
theorem D6_5 : dD6 5 (.iconst (-1)) 1 := by decide +kernel
theorem D6_6 : dD6 6 (.putfield 12) 3 := by decide +kernel
theorem D6_9 : dD6 9 (.aload_n 0) 1 := by decide +kernel
theorem D6_10 : dD6 10 (.aload_n 1) 1 := by decide +kernel
theorem D6_11 : dD6 11 (.putfield 16) 3 := by decide +kernel
theorem D6_14 : dD6 14 (.aload_n 0) 1 := by decide +kernel
theorem D6_15 : dD6 15 (.aload_n 2) 1 := by decide +kernel
theorem D6_16 : dD6 16 (.invokevirtual 20) 3 := by decide +kernel
theorem D6_19 : dD6 19 (.checkcast 21) 3 := by decide +kernel
theorem D6_22 : dD6 22 (.putfield 26) 3 := by decide +kernel
theorem D6_25 : dD6 25 (.aload_n 0) 1 := by decide +kernel
theorem D6_26 : dD6 26 (.iload 5) 2 := by decide +kernel
theorem D6_28 : dD6 28 (.ifCond .eq 10) 3 := by decide +kernel
theorem D6_38 : dD6 38 (.aload_n 3) 1 := by decide +kernel
theorem D6_39 : dD6 39 (.invokestatic 35) 3 := by decide +kernel
theorem D6_42 : dD6 42 (.putfield 39) 3 := by decide +kernel
theorem D6_45 : dD6 45 (.aload_n 0) 1 := by decide +kernel
theorem D6_46 : dD6 46 (.aload 4) 2 := by decide +kernel
theorem D6_48 : dD6 48 (.putfield 43) 3 := by decide +kernel
theorem D6_51 : dD6 51 (.lconst 0) 1 := by decide +kernel
theorem D6_52 : dD6 52 (.lstore 6) 2 := by decide +kernel
theorem D6_54 : dD6 54 (.aload_n 0) 1 := by decide +kernel
theorem D6_55 : dD6 55 (.getfield 39) 3 := by decide +kernel
theorem D6_58 : dD6 58 (.invokeinterface 47 1) 5 := by decide +kernel
theorem D6_63 : dD6 63 (.astore 8) 2 := by decide +kernel
theorem D6_65 : dD6 65 (.aload 8) 2 := by decide +kernel
theorem D6_67 : dD6 67 (.invokeinterface 51 1) 5 := by decide +kernel
theorem D6_72 : dD6 72 (.ifCond .eq 31) 3 := by decide +kernel
theorem D6_103 : dD6 103 (.aload_n 0) 1 := by decide +kernel
theorem D6_104 : dD6 104 (.lload 6) 2 := by decide +kernel
theorem D6_106 : dD6 106 (.putfield 70) 3 := by decide +kernel
theorem D6_109 : dD6 109 .return_ 1 := by decide +kernel
def Q_rm_cq5 (Z : State) (tt nm_ ar : Addr) (ka : ClassId) (al dce : Addr) (kce : ClassId) (el ele : Addr) (kele : ClassId) (h0 : Heap) (n0 : Nat) (v : Option Value) (h : Heap) (L : List Loc) : Prop := v = none ∧ Fr n0 L ∧ Keep h0 h [tt] ∧ Exa Z h tt s2_ ∧ f8_ Z h tt (.long (0 : Int64))
theorem rm_cq5 (l : Launch) (Z : State) (a0 : Array Value) (hw : own_Wd Z a0) (ws : List Jvm.Cond) (tt nm_ ar : Addr) (ka : ClassId) (al dce : Addr) (kce : ClassId) (el ele : Addr) (kele : ClassId) (h0 : Heap) (n0 : Nat) (O0 : Old Z n0 h0) (S_DCE : Sta Z Z.heap s4_ s8_ s9_ (.ref dce)) (A_DCE : Arv Z Z.heap dce kce (.object s7_) (0 : Int32) [] .null) (E_DCE : Exa Z Z.heap dce s9_) (S_EL : Sta Z Z.heap s25_ "EMPTY_LIST" s26_ (.ref el)) (E_EL : Exa Z Z.heap el s29_) (F_EL : f3_ Z Z.heap el (.ref ele)) (A_EL : Arv Z Z.heap ele kele (.object s7_) (0 : Int32) [] .null) (Pf0 : Exa Z h0 tt s2_) (Pf1 : f5_ Z h0 tt v0_) (Pf2 : f7_ Z h0 tt .null) (Pf3 : f6_ Z h0 tt .null) (Pf4 : f4_ Z h0 tt .null) (Pf5 : f9_ Z h0 tt .null) (Pf6 : f8_ Z h0 tt (.long (0 : Int64))) (Pf7 : Arv Z h0 ar ka .int (0 : Int32) [] v0_) (Pf8 : Exa Z h0 ar "[I") (Pf9 : Exa Z h0 al s4_) (Pf10 : f32_ Z h0 al v0_) (Pf11 : f36_ Z h0 al v0_) (Pf12 : f31_ Z h0 al (.ref dce)) (gt_tt : n0 ≤ tt) (nat : ¬ (@Eq Nat al tt)) (nrt : ¬ (@Eq Nat ar tt)) (net : ¬ (@Eq Nat el tt)) :
  own_M l Z ws y32_ prog_6_method_2_code 10 none ({ frames := 4, cells := 4, slots := 8, locals := 55 } : Room) #[(.ref tt), (.ref nm_), (.ref ar), (.ref al), .null, v0_] h0 (Q_rm_cq5 Z tt nm_ ar ka al dce kce el ele kele h0 n0) := by
 refine own_open O0 (plainFor_of_name pn16_) (L0 := #[.val (.ref tt), .val (.ref nm_), .val (.ref ar), .val (.ref al), .val .null, .val v0_, .unset, .unset, .unset, .unset]) ?_
 intro p e s m below meth c s₁ Bd hx hby hml hZ hh hown hnm X0 e0 N0 Z0
 have lt_Pf0 := eG Pf0
 have lt_Pf7 := vG Pf7
 have lt_Pf9 := eG Pf9
 refine o_al X0 hx hby D6_0 rfl rfl ?_
 obtain ⟨T1, X1, e1, st1⟩ := initO X0 hx hZ hown (w_ hw 44 rfl) (w_ hw 31 rfl) (w_ hw 32 rfl) e0 (g := (mkF m 1 #[.val (.ref tt), .val (.ref nm_), .val (.ref ar), .val (.ref al), .val .null, .val v0_, .unset, .unset, .unset, .unset] [(.ref tt)])) rfl (by rw [hml]; rfl) rfl (hb hby D6_1) (by decide) (W := 0) (by show 2 * 0 + _ ≤ _; exact Nat.le_of_eq rfl) (by decide)
 refine ob_ st1 ?_
 refine o_al X1 hx hby D6_4 rfl rfl ?_
 refine o_ic X1 hx hby D6_5 ?_
 obtain ⟨T2, h2, X2, e2, W2, st2⟩ := putF X1 hx hZ hown (host := "") (Or.inl (w_ hw 45 rfl)) Via.refl e1 Pf1 Pf0 (Or.inl (w_ hw 46 rfl)) (w_ hw 1 rfl) (ty := .int) (by decide) rfl rfl (g := (mkF m 6 #[.val (.ref tt), .val (.ref nm_), .val (.ref ar), .val (.ref al), .val .null, .val v0_, .unset, .unset, .unset, .unset] [(.int (-1 : Int32)), (.ref tt)])) rfl rfl (hb hby D6_6)
 refine ob_ st2 ?_
 have z2 := W2.size
 have N2 := Fr.snoc X2 N0 gt_tt
 have Fw2 : f5_ Z h2 tt (.int (-1 : Int32)) := Pf1.same W2
 refine o_al X2 hx hby D6_9 rfl rfl ?_
 refine o_al X2 hx hby D6_10 rfl rfl ?_
 have fc3 := (Pf2.other W2 (sO (Or.inr (w_ hw 48 rfl)) (Or.inl (w_ hw 46 rfl))))
 have fc4 := (Pf0.wr W2)
 obtain ⟨T5, h5, X5, e5, W5, st5⟩ := putF X2 hx hZ hown (host := "") (Or.inl (w_ hw 47 rfl)) Via.refl e2 fc3 fc4 (Or.inr ⟨(w_ hw 48 rfl), rfl, hnm⟩) (w_ hw 1 rfl) (ty := (.object s3_)) (by decide) rfl rfl (g := (mkF m 11 #[.val (.ref tt), .val (.ref nm_), .val (.ref ar), .val (.ref al), .val .null, .val v0_, .unset, .unset, .unset, .unset] [(.ref nm_), (.ref tt)])) rfl rfl (hb hby D6_11)
 refine ob_ st5 ?_
 have z5 := W5.size
 have N5 := Fr.snoc X5 N2 gt_tt
 have Fw5 : f7_ Z h5 tt (.ref nm_) := fc3.same W5
 refine o_al X5 hx hby D6_14 rfl rfl ?_
 refine o_al X5 hx hby D6_15 rfl rfl ?_
 have q_1 : own_NE ar tt := mN
 have fc6 := ((Pf7.other W2 q_1).other W5 q_1)
 have fc7 := ((Pf8.wr W2).wr W5)
 obtain ⟨T8, h8, X8, e8, E8, A8, Ex8, st8⟩ := cloneH X5 hx hZ hown (w_ hw 49 rfl) (w_ hw 50 rfl) (w_ hw 54 rfl) (w_ hw 52 rfl) (w_ hw 53 rfl) (w_ hw 55 rfl) e5 (Arv.arh fc6) fc7 (g := (mkF m 16 #[.val (.ref tt), .val (.ref nm_), .val (.ref ar), .val (.ref al), .val .null, .val v0_, .unset, .unset, .unset, .unset] [(.ref ar), (.ref tt)])) rfl (by rw [hml]; rfl) rfl (hb hby D6_16) (by decide) (W := 1) (cap := 0) (by show 2 * 0 + _ ≤ _; exact Nat.le_of_eq rfl) (by decide) (by decide) (by decide) (by decide)
 obtain ⟨ob8, g8⟩ : ∃ z, z = h5.size := ⟨_, rfl⟩
 rw [← g8] at A8 Ex8 st8
 refine ob_ st8 ?_
 have z8 := E8.1
 have Vw8 : Arv Z h8 ob8 ka .int (0 : Int32) [] v0_ := A8
 have lt8 : h8.size > ob8 := Vw8.lt
 obtain ⟨T9, X9, e9, st9⟩ := castY X8 hx hZ hown (w_ hw 56 rfl) e8 (Ins.self Ex8) (g := (mkF m 19 #[.val (.ref tt), .val (.ref nm_), .val (.ref ar), .val (.ref al), .val .null, .val v0_, .unset, .unset, .unset, .unset] [(.ref ob8), (.ref tt)])) rfl rfl (hb hby D6_19)
 refine ob_ st9 ?_
 have fc10 := (((Pf3.other W2 (sO (Or.inr (w_ hw 59 rfl)) (Or.inl (w_ hw 46 rfl)))).other W5 (sO (Or.inr (w_ hw 59 rfl)) (Or.inr (w_ hw 48 rfl)))).ext E8)
 have fc11 := ((fc4.wr W5).ext E8)
 obtain ⟨T12, h12, X12, e12, W12, st12⟩ := putF X9 hx hZ hown (host := "") (Or.inl (w_ hw 58 rfl)) Via.refl e9 fc10 fc11 (Or.inr ⟨(w_ hw 59 rfl), rfl, hnm⟩) (w_ hw 1 rfl) (ty := (.array .int)) (by decide) rfl rfl (g := (mkF m 22 #[.val (.ref tt), .val (.ref nm_), .val (.ref ar), .val (.ref al), .val .null, .val v0_, .unset, .unset, .unset, .unset] [(.ref ob8), (.ref tt)])) rfl rfl (hb hby D6_22)
 refine ob_ st12 ?_
 have z12 := W12.size
 have N12 := Fr.snoc X12 N5 gt_tt
 have Fw12 : f6_ Z h12 tt (.ref ob8) := fc10.same W12
 refine o_al X12 hx hby D6_25 rfl rfl ?_
 refine o_iL X12 hx hby D6_26 rfl ?_
 refine ob_ (fun _ k => XS.ifYes X12.here hx rfl (pc0 := 28) (pc' := 38) rfl (hb hby D6_28) rfl ((if0 _ _).trans (teq (by decide : (0 : Int32) = (0 : Int32))).1) (by decide) (by decide) k) ?_
 refine o_al X12 hx hby D6_38 rfl rfl ?_
 have fc13 := ((((Pf9.wr W2).wr W5).ext E8).wr W12)
 have q_2 : own_NE al tt := mN
 have fc14 := ((((Pf10.other W2 (Or.inl q_2)).other W5 (Or.inl q_2)).ext E8).other W12 (Or.inl q_2))
 have fc15 := ((((Pf11.other W2 (Or.inl q_2)).other W5 (Or.inl q_2)).ext E8).other W12 (Or.inl q_2))
 have fc16 := ((((Pf12.other W2 (Or.inl q_2)).other W5 (Or.inl q_2)).ext E8).other W12 (Or.inl q_2))
 have O17 : Old Z n0 h12 := ((((O0.wr W2 gt_tt).wr W5 gt_tt).ext E8).wr W12 gt_tt)
 refine o_ks 3 (Jvm.LawKit.callS X12 hx (y := y28_) hown (mw hZ hw 60 rfl) (mw hZ hw 61 rfl) (mw hZ hw 2 rfl) (mw hZ hw 62 rfl) (by decide) (bk 1 hZ hw 62 2 (rm_dis l Z a0 hw [] al dce kce el ele kele h12 n0 O17 S_DCE A_DCE E_DCE S_EL E_EL F_EL A_EL fc13 fc14 fc15 fc16)) (g := (mkF m 39 #[.val (.ref tt), .val (.ref nm_), .val (.ref ar), .val (.ref al), .val .null, .val v0_, .unset, .unset, .unset, .unset] [(.ref al), (.ref tt)])) rfl hml.symm (argsL := [(.ref al)]) (rest := [(.ref tt)]) (lenOf pd16_ rfl) rfl own_z (hb hby D6_39) (o4 e12 1 2 0 4)) fun T18 Lc18 _ X18 hQ18 => ?_
 obtain ⟨rfl, M18, K18⟩ := hQ18
 have N18 := Fr.app N12 M18
 have z18 := K18.1
 have fc19 := (((((Pf4.other W2 (sO (Or.inr (w_ hw 119 rfl)) (Or.inl (w_ hw 46 rfl)))).other W5 (sO (Or.inr (w_ hw 119 rfl)) (Or.inr (w_ hw 48 rfl)))).ext E8).other W12 (sO (Or.inr (w_ hw 119 rfl)) (Or.inr (w_ hw 59 rfl)))).keep K18 nin0)
 have fc20 := ((fc11.wr W12).keep K18)
 obtain ⟨T21, h21, X21, e21, W21, st21⟩ := putF X18 hx hZ hown (host := "") (Or.inl (w_ hw 118 rfl)) Via.refl rfl fc19 fc20 (Or.inr ⟨(w_ hw 119 rfl), rfl, hnm⟩) (w_ hw 1 rfl) (ty := (.object s16_)) (by decide) rfl rfl (g := (mkF m 42 #[.val (.ref tt), .val (.ref nm_), .val (.ref ar), .val (.ref al), .val .null, .val v0_, .unset, .unset, .unset, .unset] [(.ref el), (.ref tt)])) rfl rfl (hb hby D6_42)
 refine ob_ st21 ?_
 have z21 := W21.size
 have N21 := Fr.snoc X21 N18 gt_tt
 have Fw21 : f4_ Z h21 tt (.ref el) := fc19.same W21
 refine o_al X21 hx hby D6_45 rfl rfl ?_
 refine o_aL X21 hx hby D6_46 rfl rfl ?_
 have fc22 := ((((((Pf5.other W2 (sO (Or.inr (w_ hw 121 rfl)) (Or.inl (w_ hw 46 rfl)))).other W5 (sO (Or.inr (w_ hw 121 rfl)) (Or.inr (w_ hw 48 rfl)))).ext E8).other W12 (sO (Or.inr (w_ hw 121 rfl)) (Or.inr (w_ hw 59 rfl)))).keep K18 nin0).other W21 (sO (Or.inr (w_ hw 121 rfl)) (Or.inr (w_ hw 119 rfl))))
 have fc23 := (fc20.wr W21)
 obtain ⟨T24, h24, X24, e24, W24, st24⟩ := putF X21 hx hZ hown (host := "") (Or.inl (w_ hw 120 rfl)) Via.refl e21 fc22 fc23 (Or.inr ⟨(w_ hw 121 rfl), rfl, hnm⟩) (w_ hw 1 rfl) (ty := (.object "com/example/rewrought/rewrought/TermNames")) (by decide) rfl rfl (g := (mkF m 48 #[.val (.ref tt), .val (.ref nm_), .val (.ref ar), .val (.ref al), .val .null, .val v0_, .unset, .unset, .unset, .unset] [.null, (.ref tt)])) rfl rfl (hb hby D6_48)
 refine ob_ st24 ?_
 have z24 := W24.size
 have N24 := Fr.snoc X24 N21 gt_tt
 have Fw24 : f9_ Z h24 tt .null := fc22.same W24
 refine ob_ (fun _ k => XS.lconst X24.here hx rfl (hb hby D6_51) k) ?_
 refine ob_ (fun _ k => XS.lstore X24.here hx rfl (hb hby D6_52) rfl (l' := #[.val (.ref tt), .val (.ref nm_), .val (.ref ar), .val (.ref al), .val .null, .val v0_, .val (.long (0 : Int64)), .second, .unset, .unset]) rfl k) ?_
 refine o_al X24 hx hby D6_54 rfl rfl ?_
 have fc25 := (Fw21.other W24 (sO (Or.inr (w_ hw 119 rfl)) (Or.inr (w_ hw 121 rfl))))
 refine o_gf X24 hx hby hZ hown hw 118 rfl Via.refl e24 fc25 D6_55 fun T26 X26 e26 => ?_
 have O27 : Old Z n0 h24 := (((O17.keep K18 all0).wr W21 gt_tt).wr W24 gt_tt)
 have fc29 : Exa Z h24 el s29_ := E_EL.ext O27.2
 obtain ⟨cq28, kq28, q28a, q28b, q28c⟩ := isOf hZ e26 fc29
 refine o_k 5 (X26.interfaceBack hx (xi := y30_) (y := y25_) hown (mw hZ hw 76 rfl) (mw hZ hw 77 rfl) (mw hZ hw 78 rfl) (mw hZ hw 122 rfl) (mw hZ hw 123 rfl) (mw hZ hw 124 rfl) (mw hZ hw 125 rfl) (mw hZ hw 126 rfl) (by decide) (bk 0 hZ hw 128 127 (rm_lit l Z a0 hw [] el ele kele h24 n0 O27 S_EL E_EL F_EL A_EL)) q28a q28b q28c (g := (mkF m 58 #[.val (.ref tt), .val (.ref nm_), .val (.ref ar), .val (.ref al), .val .null, .val v0_, .val (.long (0 : Int64)), .second, .unset, .unset] [(.ref el)])) rfl hml.symm (Steps.refl _) (argsL := []) (rest := []) (lenOf pd13_ rfl) rfl own_z (hb hby D6_58) (o4 e26 3 1 4 4)) fun T28 Lc28 _ X28 hQ28 => ?_
 obtain ⟨it_28, rfl, M28, K28, g28_0, g28_1, g28_2, r28_0⟩ := hQ28
 have N28 := Fr.app N24 M28
 have z28 := K28.1
 have lt_g28_0 := eG g28_0
 refine ob_ (fun _ k => XS.astore X28.here hx rfl (hb hby D6_63) rfl rfl (l' := #[.val (.ref tt), .val (.ref nm_), .val (.ref ar), .val (.ref al), .val .null, .val v0_, .val (.long (0 : Int64)), .second, .val (.ref it_28), .unset]) rfl k) ?_
 refine o_aL X28 hx hby D6_65 rfl rfl ?_
 have O30 : Old Z n0 T28.heap := (O27.keep K28 all0)
 obtain ⟨cq31, kq31, q31a, q31b, q31c⟩ := isOf hZ rfl g28_0
 refine o_k 5 (X28.interfaceBack hx (xi := y31_) (y := y27_) hown (mw hZ hw 100 rfl) (mw hZ hw 101 rfl) (mw hZ hw 102 rfl) (mw hZ hw 154 rfl) (mw hZ hw 155 rfl) (mw hZ hw 156 rfl) (mw hZ hw 157 rfl) (mw hZ hw 158 rfl) (by decide) (bk 0 hZ hw 159 131 (rm_lhn l Z a0 hw [] it_28 T28.heap n0 O30 g28_1 g28_2)) q31a q31b q31c (g := (mkF m 67 #[.val (.ref tt), .val (.ref nm_), .val (.ref ar), .val (.ref al), .val .null, .val v0_, .val (.long (0 : Int64)), .second, .val (.ref it_28), .unset] [(.ref it_28)])) rfl hml.symm (Steps.refl _) (argsL := []) (rest := []) (lenOf pd14_ rfl) rfl own_z (hb hby D6_67) (o4 rfl 4 0 8 0)) fun T31 Lc31 _ X31 hQ31 => ?_
 obtain ⟨rfl, M31, K31⟩ := hQ31
 have N31 := Fr.app N28 M31
 show own_Go p e below (T31.setTop (mkF m 72 #[.val (.ref tt), .val (.ref nm_), .val (.ref ar), .val (.ref al), .val .null, .val v0_, .val (.long (0 : Int64)), .second, .val (.ref it_28), .unset] [v0_])) _
 refine ob_ (fun _ k => XS.ifYes X31.here hx rfl (pc0 := 72) (pc' := 103) rfl (hb hby D6_72) rfl ((if0 _ _).trans (teq (by decide : (0 : Int32) = (0 : Int32))).1) (by decide) (by decide) k) ?_
 refine o_al X31 hx hby D6_103 rfl rfl ?_
 refine ob_ (fun _ k => XS.lload X31.here hx rfl (hb hby D6_104) rfl k) ?_
 have fc32 := ((((((((Pf6.other W2 (sO (Or.inr (w_ hw 161 rfl)) (Or.inl (w_ hw 46 rfl)))).other W5 (sO (Or.inr (w_ hw 161 rfl)) (Or.inr (w_ hw 48 rfl)))).ext E8).other W12 (sO (Or.inr (w_ hw 161 rfl)) (Or.inr (w_ hw 59 rfl)))).keep K18 nin0).other W21 (sO (Or.inr (w_ hw 161 rfl)) (Or.inr (w_ hw 119 rfl)))).other W24 (sO (Or.inr (w_ hw 161 rfl)) (Or.inr (w_ hw 121 rfl)))).keep K28 nin0)
 have fc33 := ((fc23.wr W24).keep K28)
 obtain ⟨T34, h34, X34, e34, W34, st34⟩ := putF X31 hx hZ hown (host := "") (Or.inl (w_ hw 160 rfl)) Via.refl K31 fc32 fc33 (Or.inr ⟨(w_ hw 161 rfl), rfl, hnm⟩) (w_ hw 1 rfl) (ty := .long) (by decide) rfl rfl (g := (mkF m 106 #[.val (.ref tt), .val (.ref nm_), .val (.ref ar), .val (.ref al), .val .null, .val v0_, .val (.long (0 : Int64)), .second, .val (.ref it_28), .unset] [(.long (0 : Int64)), (.ref tt)])) rfl rfl (hb hby D6_106)
 refine ob_ st34 ?_
 have z34 := W34.size
 have N34 := Fr.snoc X34 N31 gt_tt
 have Fw34 : f8_ Z h34 tt (.long (0 : Int64)) := fc32.same W34
 have fc35 := (fc33.wr W34)
 have K36 : Keep h0 h34 [tt] := ((((((((((Keep.refl h0 [tt]).wr W2 (Or.inl (List.mem_of_getElem? (i := 0) rfl))).wr W5 (Or.inl (List.mem_of_getElem? (i := 0) rfl))).ext E8).wr W12 (Or.inl (List.mem_of_getElem? (i := 0) rfl))).trans K18 all0).wr W21 (Or.inl (List.mem_of_getElem? (i := 0) rfl))).wr W24 (Or.inl (List.mem_of_getElem? (i := 0) rfl))).trans K28 all0).wr W34 (Or.inl (List.mem_of_getElem? (i := 0) rfl)))
 exact o_rv Bd X34 hx hby e34 D6_109 ⟨rfl, N34, K36, fc35, Fw34⟩
abbrev dD5 (n : Nat) (i : Instr) (k : Nat) : Prop := decode prog_6_method_1_code n = .ok (i, k)
theorem D5_0 : dD5 0 (.aload_n 0) 1 := by decide +kernel
theorem D5_1 : dD5 1 (.aload_n 1) 1 := by decide +kernel
theorem D5_2 : dD5 2 (.aload_n 2) 1 := by decide +kernel
theorem D5_3 : dD5 3 (.aload_n 3) 1 := by decide +kernel
theorem D5_4 : dD5 4 (.aload 4) 2 := by decide +kernel
theorem D5_6 : dD5 6 (.iconst 0) 1 := by decide +kernel
theorem D5_7 : dD5 7 (.invokespecial 1) 3 := by decide +kernel
theorem D5_10 : dD5 10 .return_ 1 := by decide +kernel
def Q_rm_cq4 (Z : State) (tt nm_ ar : Addr) (ka : ClassId) (al dce : Addr) (kce : ClassId) (el ele : Addr) (kele : ClassId) (h0 : Heap) (n0 : Nat) (v : Option Value) (h : Heap) (L : List Loc) : Prop := v = none ∧ Fr n0 L ∧ Keep h0 h [tt] ∧ Exa Z h tt s2_ ∧ f8_ Z h tt (.long (0 : Int64))
theorem rm_cq4 (l : Launch) (Z : State) (a0 : Array Value) (hw : own_Wd Z a0) (ws : List Jvm.Cond) (tt nm_ ar : Addr) (ka : ClassId) (al dce : Addr) (kce : ClassId) (el ele : Addr) (kele : ClassId) (h0 : Heap) (n0 : Nat) (O0 : Old Z n0 h0) (S_DCE : Sta Z Z.heap s4_ s8_ s9_ (.ref dce)) (A_DCE : Arv Z Z.heap dce kce (.object s7_) (0 : Int32) [] .null) (E_DCE : Exa Z Z.heap dce s9_) (S_EL : Sta Z Z.heap s25_ "EMPTY_LIST" s26_ (.ref el)) (E_EL : Exa Z Z.heap el s29_) (F_EL : f3_ Z Z.heap el (.ref ele)) (A_EL : Arv Z Z.heap ele kele (.object s7_) (0 : Int32) [] .null) (Pf0 : Exa Z h0 tt s2_) (Pf1 : f5_ Z h0 tt v0_) (Pf2 : f7_ Z h0 tt .null) (Pf3 : f6_ Z h0 tt .null) (Pf4 : f4_ Z h0 tt .null) (Pf5 : f9_ Z h0 tt .null) (Pf6 : f8_ Z h0 tt (.long (0 : Int64))) (Pf7 : Arv Z h0 ar ka .int (0 : Int32) [] v0_) (Pf8 : Exa Z h0 ar "[I") (Pf9 : Exa Z h0 al s4_) (Pf10 : f32_ Z h0 al v0_) (Pf11 : f36_ Z h0 al v0_) (Pf12 : f31_ Z h0 al (.ref dce)) (gt_tt : n0 ≤ tt) (nat : ¬ (@Eq Nat al tt)) (nrt : ¬ (@Eq Nat ar tt)) (net : ¬ (@Eq Nat el tt)) :
  own_M l Z ws y33_ prog_6_method_1_code 5 none ({ frames := 5, cells := 4, slots := 8, locals := 76 } : Room) #[(.ref tt), (.ref nm_), (.ref ar), (.ref al), .null] h0 (Q_rm_cq4 Z tt nm_ ar ka al dce kce el ele kele h0 n0) := by
 refine own_open O0 (plainFor_of_name pn16_) (L0 := #[.val (.ref tt), .val (.ref nm_), .val (.ref ar), .val (.ref al), .val .null]) ?_
 intro p e s m below meth c s₁ Bd hx hby hml hZ hh hown hnm X0 e0 N0 Z0
 have lt_Pf0 := eG Pf0
 have lt_Pf7 := vG Pf7
 have lt_Pf9 := eG Pf9
 refine o_al X0 hx hby D5_0 rfl rfl ?_
 refine o_al X0 hx hby D5_1 rfl rfl ?_
 refine o_al X0 hx hby D5_2 rfl rfl ?_
 refine o_al X0 hx hby D5_3 rfl rfl ?_
 refine o_aL X0 hx hby D5_4 rfl rfl ?_
 refine o_ic X0 hx hby D5_6 ?_
 refine o_k 3 (X0.specialBack hx (y := y32_) rfl hown (mw hZ hw 41 rfl) (mw hZ hw 42 rfl) (mw hZ hw 43 rfl) (by decide) (bk 0 hZ hw 43 2 (rm_cq5 l Z a0 hw [] tt nm_ ar ka al dce kce el ele kele h0 n0 O0 S_DCE A_DCE E_DCE S_EL E_EL F_EL A_EL Pf0 Pf1 Pf2 Pf3 Pf4 Pf5 Pf6 Pf7 Pf8 Pf9 Pf10 Pf11 Pf12 gt_tt nat nrt net)) (g := (mkF m 7 #[.val (.ref tt), .val (.ref nm_), .val (.ref ar), .val (.ref al), .val .null] [v0_, .null, (.ref al), (.ref ar), (.ref nm_), (.ref tt)])) rfl hml.symm (Steps.refl _) (a := tt) (argsL := [(.ref nm_), (.ref ar), (.ref al), .null, v0_]) (rest := []) (lenOf pd17_ rfl) rfl own_z (hb hby D5_7) (o4 e0 0 4 0 8)) fun T1 Lc1 _ X1 hQ1 => ?_
 obtain ⟨rfl, M1, K1, g1_0, g1_1⟩ := hQ1
 have N1 := Fr.app N0 M1
 have z1 := K1.1
 have lt_g1_0 := eG g1_0
 have K2 : Keep h0 T1.heap [tt] := ((Keep.refl h0 [tt]).trans K1 (kI 0 rfl all0))
 exact o_rv Bd X1 hx hby rfl D5_10 ⟨rfl, N1, K2, g1_0, g1_1⟩
abbrev dD17 (n : Nat) (i : Instr) (k : Nat) : Prop := decode prog_14_method_3_code n = .ok (i, k)
theorem D17_0 : dD17 0 (.aload_n 0) 1 := by decide +kernel
theorem D17_1 : dD17 1 (.invokespecial 24) 3 := by decide +kernel
theorem D17_4 : dD17 4 (.aload_n 0) 1 := by decide +kernel
theorem D17_5 : dD17 5 (.aload_n 1) 1 := by decide +kernel
theorem D17_6 : dD17 6 (.putfield 29) 3 := by decide +kernel
theorem D17_9 : dD17 9 (.aload_n 0) 1 := by decide +kernel
theorem D17_10 : dD17 10 (.aload_n 2) 1 := by decide +kernel
theorem D17_11 : dD17 11 (.putfield 33) 3 := by decide +kernel
theorem D17_14 : dD17 14 .return_ 1 := by decide +kernel
def Q_rm_dsi (Z : State) (tt cq ar : Addr) (h0 : Heap) (n0 : Nat) (v : Option Value) (h : Heap) (L : List Loc) : Prop := v = none ∧ Fr n0 L ∧ Keep h0 h [tt] ∧ Exa Z h tt s34_ ∧ f12_ Z h tt (.ref cq)
theorem rm_dsi (l : Launch) (Z : State) (a0 : Array Value) (hw : own_Wd Z a0) (ws : List Jvm.Cond) (tt cq ar : Addr) (h0 : Heap) (n0 : Nat) (O0 : Old Z n0 h0) (Pf0 : Exa Z h0 tt s34_) (Pf1 : f12_ Z h0 tt .null) (Pf2 : f13_ Z h0 tt .null) (gt_tt : n0 ≤ tt) :
  own_M l Z ws y34_ prog_14_method_3_code 3 none ({ frames := 1, cells := 0, slots := 0, locals := 12 } : Room) #[(.ref tt), (.ref cq), (.ref ar)] h0 (Q_rm_dsi Z tt cq ar h0 n0) := by
 refine own_open O0 (plainFor_of_name pn17_) (L0 := #[.val (.ref tt), .val (.ref cq), .val (.ref ar)]) ?_
 intro p e s m below meth c s₁ Bd hx hby hml hZ hh hown hnm X0 e0 N0 Z0
 have lt_Pf0 := eG Pf0
 refine o_al X0 hx hby D17_0 rfl rfl ?_
 obtain ⟨T1, X1, e1, st1⟩ := initO X0 hx hZ hown (w_ hw 168 rfl) (w_ hw 31 rfl) (w_ hw 32 rfl) e0 (g := (mkF m 1 #[.val (.ref tt), .val (.ref cq), .val (.ref ar)] [(.ref tt)])) rfl (by rw [hml]; rfl) rfl (hb hby D17_1) (by decide) (W := 0) (by show 2 * 0 + _ ≤ _; exact Nat.le_of_eq rfl) (by decide)
 refine ob_ st1 ?_
 refine o_al X1 hx hby D17_4 rfl rfl ?_
 refine o_al X1 hx hby D17_5 rfl rfl ?_
 obtain ⟨T2, h2, X2, e2, W2, st2⟩ := putF X1 hx hZ hown (host := "") (Or.inl (w_ hw 169 rfl)) Via.refl e1 Pf1 Pf0 (Or.inr ⟨(w_ hw 170 rfl), rfl, hnm⟩) (w_ hw 163 rfl) (ty := (.object s2_)) (by decide) rfl rfl (g := (mkF m 6 #[.val (.ref tt), .val (.ref cq), .val (.ref ar)] [(.ref cq), (.ref tt)])) rfl rfl (hb hby D17_6)
 refine ob_ st2 ?_
 have z2 := W2.size
 have N2 := Fr.snoc X2 N0 gt_tt
 have Fw2 : f12_ Z h2 tt (.ref cq) := Pf1.same W2
 refine o_al X2 hx hby D17_9 rfl rfl ?_
 refine o_al X2 hx hby D17_10 rfl rfl ?_
 have fc3 := (Pf2.other W2 (sO (Or.inr (w_ hw 172 rfl)) (Or.inr (w_ hw 170 rfl))))
 have fc4 := (Pf0.wr W2)
 obtain ⟨T5, h5, X5, e5, W5, st5⟩ := putF X2 hx hZ hown (host := "") (Or.inl (w_ hw 171 rfl)) Via.refl e2 fc3 fc4 (Or.inr ⟨(w_ hw 172 rfl), rfl, hnm⟩) (w_ hw 163 rfl) (ty := (.array .int)) (by decide) rfl rfl (g := (mkF m 11 #[.val (.ref tt), .val (.ref cq), .val (.ref ar)] [(.ref ar), (.ref tt)])) rfl rfl (hb hby D17_11)
 refine ob_ st5 ?_
 have z5 := W5.size
 have N5 := Fr.snoc X5 N2 gt_tt
 have Fw5 : f13_ Z h5 tt (.ref ar) := fc3.same W5
 have fc6 := (fc4.wr W5)
 have fc7 := (Fw2.other W5 (sO (Or.inr (w_ hw 170 rfl)) (Or.inr (w_ hw 172 rfl))))
 have K8 : Keep h0 h5 [tt] := (((Keep.refl h0 [tt]).wr W2 (Or.inl (List.mem_of_getElem? (i := 0) rfl))).wr W5 (Or.inl (List.mem_of_getElem? (i := 0) rfl)))
 exact o_rv Bd X5 hx hby e5 D17_14 ⟨rfl, N5, K8, fc6, fc7⟩
abbrev dD19 (n : Nat) (i : Instr) (k : Nat) : Prop := decode prog_25_method_1_code n = .ok (i, k)
theorem D19_0 : dD19 0 (.aload_n 0) 1 := by decide +kernel
theorem D19_1 : dD19 1 (.invokespecial 1) 3 := by decide +kernel
theorem D19_4 : dD19 4 (.aload_n 0) 1 := by decide +kernel
theorem D19_5 : dD19 5 (.new 7) 3 := by decide +kernel
theorem D19_8 : dD19 8 .dup 1 := by decide +kernel
theorem D19_9 : dD19 9 (.invokespecial 9) 3 := by decide +kernel
theorem D19_12 : dD19 12 (.putfield 10) 3 := by decide +kernel
theorem D19_15 : dD19 15 (.aload_n 0) 1 := by decide +kernel
theorem D19_16 : dD19 16 (.bipush 16) 2 := by decide +kernel
theorem D19_18 : dD19 18 (.newarray .long) 2 := by decide +kernel
theorem D19_20 : dD19 20 (.putfield 16) 3 := by decide +kernel
theorem D19_23 : dD19 23 (.aload_n 0) 1 := by decide +kernel
theorem D19_24 : dD19 24 (.bipush 16) 2 := by decide +kernel
theorem D19_26 : dD19 26 (.newarray .boolean) 2 := by decide +kernel
theorem D19_28 : dD19 28 (.putfield 20) 3 := by decide +kernel
theorem D19_31 : dD19 31 (.aload_n 0) 1 := by decide +kernel
theorem D19_32 : dD19 32 (.bipush 16) 2 := by decide +kernel
theorem D19_34 : dD19 34 (.newarray .int) 2 := by decide +kernel
theorem D19_36 : dD19 36 (.putfield 24) 3 := by decide +kernel
theorem D19_39 : dD19 39 (.aload_n 0) 1 := by decide +kernel
theorem D19_40 : dD19 40 (.new 28) 3 := by decide +kernel
theorem D19_43 : dD19 43 .dup 1 := by decide +kernel
theorem D19_44 : dD19 44 (.invokespecial 30) 3 := by decide +kernel
theorem D19_47 : dD19 47 (.putfield 31) 3 := by decide +kernel
theorem D19_50 : dD19 50 .return_ 1 := by decide +kernel
def Q_rm_mui (Z : State) (tt dce : Addr) (kce : ClassId) (mr : Addr) (h0 : Heap) (n0 : Nat) (v : Option Value) (h : Heap) (L : List Loc) : Prop := ∃ (mb ms : Addr) (kms : ClassId) (hl : Addr) (khl : ClassId), v = none ∧ Fr n0 L ∧ Keep h0 h [tt] ∧ Exa Z h tt s38_ ∧ f27_ Z h tt (.ref mb) ∧ f26_ Z h tt (.ref ms) ∧ f25_ Z h tt (.ref hl) ∧ f28_ Z h tt v0_ ∧ Arv Z h ms kms .long (16 : Int32) [] (.long (0 : Int64)) ∧ Arv Z h hl khl .boolean (16 : Int32) [] v0_ ∧ Exa Z h mb s4_ ∧ f32_ Z h mb v0_ ∧ f36_ Z h mb v0_ ∧ f31_ Z h mb (.ref dce) ∧ h0.size ≤ mb ∧ own_asc [mb, ms, hl]
theorem rm_mui (l : Launch) (Z : State) (a0 : Array Value) (hw : own_Wd Z a0) (ws : List Jvm.Cond) (tt dce : Addr) (kce : ClassId) (mr : Addr) (h0 : Heap) (n0 : Nat) (O0 : Old Z n0 h0) (S_DCE : Sta Z Z.heap s4_ s8_ s9_ (.ref dce)) (A_DCE : Arv Z Z.heap dce kce (.object s7_) (0 : Int32) [] .null) (E_DCE : Exa Z Z.heap dce s9_) (hMr : own_Mir Z s9_ mr) (Pf0 : Exa Z h0 tt s38_) (Pf1 : f27_ Z h0 tt .null) (Pf2 : f26_ Z h0 tt .null) (Pf3 : f25_ Z h0 tt .null) (Pf4 : Fld Z h0 tt s38_ "_displacers" "[I" .null) (Pf5 : Fld Z h0 tt s38_ "_index" s55_ .null) (Pf6 : f28_ Z h0 tt v0_) (gt_tt : n0 ≤ tt) :
  own_M l Z ws y35_ prog_25_method_1_code 1 none ({ frames := 10, cells := 305, slots := 2055, locals := 175 } : Room) #[(.ref tt)] h0 (Q_rm_mui Z tt dce kce mr h0 n0) := by
 refine own_open O0 (plainFor_of_name pn18_) (L0 := #[.val (.ref tt)]) ?_
 intro p e s m below meth c s₁ Bd hx hby hml hZ hh hown hnm X0 e0 N0 Z0
 have lt_Pf0 := eG Pf0
 refine o_al X0 hx hby D19_0 rfl rfl ?_
 obtain ⟨T1, X1, e1, st1⟩ := initO X0 hx hZ hown (w_ hw 186 rfl) (w_ hw 31 rfl) (w_ hw 32 rfl) e0 (g := (mkF m 1 #[.val (.ref tt)] [(.ref tt)])) rfl (by rw [hml]; rfl) rfl (hb hby D19_1) (by decide) (W := 0) (by show 2 * 0 + _ ≤ _; exact Nat.le_of_eq rfl) (by decide)
 refine ob_ st1 ?_
 refine o_al X1 hx hby D19_4 rfl rfl ?_
 obtain ⟨T2, h2, X2, e2, E2, A2, D2, U2, st2⟩ := newO X1 hx hZ hown (w_ hw 187 rfl) (w_ hw 13 rfl) (w_ hw 14 rfl) e1 (g := (mkF m 5 #[.val (.ref tt)] [(.ref tt)])) rfl (hb hby D19_5) (by decide) (by decide)
 obtain ⟨ob2, g2⟩ : ∃ z, z = h0.size := ⟨_, rfl⟩
 rw [← g2] at A2 D2 U2 st2
 refine ob_ st2 ?_
 have z2 := E2.1
 have lt2 : h2.size > ob2 := A2.lt
 refine ob_ (fun _ k => XS.dup X2.here hx rfl (hb hby D19_8) rfl rfl k) ?_
 have q_1 : own_LE n0 ob2 := mL
 have O3 : Old Z n0 h2 := (O0.ext E2)
 refine o_k 3 (X2.specialBack hx (y := y3_) rfl hown (mw hZ hw 188 rfl) (mw hZ hw 16 rfl) (mw hZ hw 17 rfl) (by decide) (bk 2 hZ hw 17 14 (rm_ai l Z a0 hw [] ob2 dce kce h2 n0 O3 S_DCE A_DCE E_DCE A2 (show f32_ Z h2 ob2 v0_ from D2 (Or.inl (w_ hw 73 rfl)) (ty := .int) (by decide)) (show f36_ Z h2 ob2 v0_ from D2 (Or.inl (w_ hw 34 rfl)) (ty := .int) (by decide)) (show f31_ Z h2 ob2 .null from D2 (Or.inl (w_ hw 37 rfl)) (ty := (.array (.object s7_))) (by decide)) q_1)) (g := (mkF m 9 #[.val (.ref tt)] [(.ref ob2), (.ref ob2), (.ref tt)])) rfl hml.symm (Steps.refl _) (a := ob2) (argsL := []) (rest := [(.ref ob2), (.ref tt)]) (lenOf pd1_ rfl) rfl own_z (hb hby D19_9) (o4 e2 1 0 3 0)) fun T4 Lc4 _ X4 hQ4 => ?_
 obtain ⟨rfl, M4, K4, g4_0, g4_1, g4_2, g4_3⟩ := hQ4
 have N4 := Fr.app N0 M4
 have z4 := K4.1
 have lt_g4_0 := eG g4_0
 have q_2 : own_NE ob2 tt := mN
 have fc5 := ((Pf1.ext E2).keep K4 (nT (uS q_2) nin0))
 have fc6 := ((Pf0.ext E2).keep K4)
 obtain ⟨T7, h7, X7, e7, W7, st7⟩ := putF X4 hx hZ hown (host := "") (Or.inl (w_ hw 189 rfl)) Via.refl rfl fc5 fc6 (Or.inr ⟨(w_ hw 190 rfl), rfl, hnm⟩) (w_ hw 181 rfl) (ty := (.object s16_)) (by decide) rfl rfl (g := (mkF m 12 #[.val (.ref tt)] [(.ref ob2), (.ref tt)])) rfl rfl (hb hby D19_12)
 refine ob_ st7 ?_
 have z7 := W7.size
 have N7 := Fr.snoc X7 N4 gt_tt
 have Fw7 : f27_ Z h7 tt (.ref ob2) := fc5.same W7
 refine o_al X7 hx hby D19_15 rfl rfl ?_
 refine o_bi X7 hx hby D19_16 ?_
 obtain ⟨T8, h8, k8, X8, e8, E8, A8, Ex8, st8⟩ := newPE X7 hx hZ (w_ hw 191 rfl) e7 (g := (mkF m 18 #[.val (.ref tt)] [v16_, (.ref tt)])) rfl (hb hby D19_18) rfl (by decide) (cap := 16) (by decide) (by decide) (by decide) (by decide) (ad := "[J") rfl
 obtain ⟨ob8, g8⟩ : ∃ z, z = h7.size := ⟨_, rfl⟩
 rw [← g8] at A8 st8 Ex8
 refine ob_ st8 ?_
 have z8 := E8.1
 have Vw8 : Arv Z h8 ob8 k8 .long (16 : Int32) [] (.long (0 : Int64)) := Arv.new A8 (by decide)
 have lt8 : h8.size > ob8 := Vw8.lt
 have fc9 := ((((Pf2.ext E2).keep K4 (nT (uS q_2) nin0)).other W7 (sO (Or.inl (w_ hw 193 rfl)) (Or.inr (w_ hw 190 rfl)))).ext E8)
 have fc10 := ((fc6.wr W7).ext E8)
 obtain ⟨T11, h11, X11, e11, W11, st11⟩ := putF X8 hx hZ hown (host := "") (Or.inl (w_ hw 192 rfl)) Via.refl e8 fc9 fc10 (Or.inl (w_ hw 193 rfl)) (w_ hw 181 rfl) (ty := (.array .long)) (by decide) rfl rfl (g := (mkF m 20 #[.val (.ref tt)] [(.ref ob8), (.ref tt)])) rfl rfl (hb hby D19_20)
 refine ob_ st11 ?_
 have z11 := W11.size
 have N11 := Fr.snoc X11 N7 gt_tt
 have Fw11 : f26_ Z h11 tt (.ref ob8) := fc9.same W11
 refine o_al X11 hx hby D19_23 rfl rfl ?_
 refine o_bi X11 hx hby D19_24 ?_
 obtain ⟨T12, h12, k12, X12, e12, E12, A12, Ex12, st12⟩ := newPE X11 hx hZ (w_ hw 194 rfl) e11 (g := (mkF m 26 #[.val (.ref tt)] [v16_, (.ref tt)])) rfl (hb hby D19_26) rfl (by decide) (cap := 16) (by decide) (by decide) (by decide) (by decide) (ad := "[Z") rfl
 obtain ⟨ob12, g12⟩ : ∃ z, z = h11.size := ⟨_, rfl⟩
 rw [← g12] at A12 st12 Ex12
 refine ob_ st12 ?_
 have z12 := E12.1
 have Vw12 : Arv Z h12 ob12 k12 .boolean (16 : Int32) [] v0_ := Arv.new A12 (by decide)
 have lt12 : h12.size > ob12 := Vw12.lt
 have fc13 := ((((((Pf3.ext E2).keep K4 (nT (uS q_2) nin0)).other W7 (sO (Or.inl (w_ hw 196 rfl)) (Or.inr (w_ hw 190 rfl)))).ext E8).other W11 (sO (Or.inl (w_ hw 196 rfl)) (Or.inl (w_ hw 193 rfl)))).ext E12)
 have fc14 := ((fc10.wr W11).ext E12)
 obtain ⟨T15, h15, X15, e15, W15, st15⟩ := putF X12 hx hZ hown (host := "") (Or.inl (w_ hw 195 rfl)) Via.refl e12 fc13 fc14 (Or.inl (w_ hw 196 rfl)) (w_ hw 181 rfl) (ty := (.array .boolean)) (by decide) rfl rfl (g := (mkF m 28 #[.val (.ref tt)] [(.ref ob12), (.ref tt)])) rfl rfl (hb hby D19_28)
 refine ob_ st15 ?_
 have z15 := W15.size
 have N15 := Fr.snoc X15 N11 gt_tt
 have Fw15 : f25_ Z h15 tt (.ref ob12) := fc13.same W15
 refine o_al X15 hx hby D19_31 rfl rfl ?_
 refine o_bi X15 hx hby D19_32 ?_
 obtain ⟨T16, h16, k16, X16, e16, E16, A16, Ex16, st16⟩ := newPE X15 hx hZ (w_ hw 11 rfl) e15 (g := (mkF m 34 #[.val (.ref tt)] [v16_, (.ref tt)])) rfl (hb hby D19_34) rfl (by decide) (cap := 16) (by decide) (by decide) (by decide) (by decide) (ad := "[I") rfl
 obtain ⟨ob16, g16⟩ : ∃ z, z = h15.size := ⟨_, rfl⟩
 rw [← g16] at A16 st16 Ex16
 refine ob_ st16 ?_
 have z16 := E16.1
 have Vw16 : Arv Z h16 ob16 k16 .int (16 : Int32) [] v0_ := Arv.new A16 (by decide)
 have lt16 : h16.size > ob16 := Vw16.lt
 have fc17 := ((((((((Pf4.ext E2).keep K4 (nT (uS q_2) nin0)).other W7 (sO (Or.inl (w_ hw 198 rfl)) (Or.inr (w_ hw 190 rfl)))).ext E8).other W11 (sO (Or.inl (w_ hw 198 rfl)) (Or.inl (w_ hw 193 rfl)))).ext E12).other W15 (sO (Or.inl (w_ hw 198 rfl)) (Or.inl (w_ hw 196 rfl)))).ext E16)
 have fc18 := ((fc14.wr W15).ext E16)
 obtain ⟨T19, h19, X19, e19, W19, st19⟩ := putF X16 hx hZ hown (host := "") (Or.inl (w_ hw 197 rfl)) Via.refl e16 fc17 fc18 (Or.inl (w_ hw 198 rfl)) (w_ hw 181 rfl) (ty := (.array .int)) (by decide) rfl rfl (g := (mkF m 36 #[.val (.ref tt)] [(.ref ob16), (.ref tt)])) rfl rfl (hb hby D19_36)
 refine ob_ st19 ?_
 have z19 := W19.size
 have N19 := Fr.snoc X19 N15 gt_tt
 have Fw19 : Fld Z h19 tt s38_ "_displacers" "[I" (.ref ob16) := fc17.same W19
 refine o_al X19 hx hby D19_39 rfl rfl ?_
 obtain ⟨T20, h20, X20, e20, E20, A20, D20, U20, st20⟩ := newO X19 hx hZ hown (w_ hw 199 rfl) (w_ hw 200 rfl) (w_ hw 201 rfl) e19 (g := (mkF m 40 #[.val (.ref tt)] [(.ref tt)])) rfl (hb hby D19_40) (by decide) (by decide)
 obtain ⟨ob20, g20⟩ : ∃ z, z = h19.size := ⟨_, rfl⟩
 rw [← g20] at A20 D20 U20 st20
 refine ob_ st20 ?_
 have z20 := E20.1
 have lt20 : h20.size > ob20 := A20.lt
 refine ob_ (fun _ k => XS.dup X20.here hx rfl (hb hby D19_43) rfl rfl k) ?_
 have O21 : Old Z n0 h20 := (((((((((O3.keep K4 (allS q_1 all0)).wr W7 gt_tt).ext E8).wr W11 gt_tt).ext E12).wr W15 gt_tt).ext E16).wr W19 gt_tt).ext E20)
 refine o_k 3 (X20.specialBack hx (y := y16_) rfl hown (mw hZ hw 202 rfl) (mw hZ hw 203 rfl) (mw hZ hw 204 rfl) (by decide) (bk 2 hZ hw 204 201 (rm_px l Z a0 hw [] ob20 dce kce mr h20 n0 O21 S_DCE A_DCE E_DCE hMr A20 (show Fld Z h20 ob20 s39_ "_buckets" s42_ .null from D20 (Or.inr (w_ hw 223 rfl)) (ty := (.object "java/util/Map")) (by decide)) (show Fld Z h20 ob20 s39_ "_masks" s27_ .null from D20 (Or.inr (w_ hw 227 rfl)) (ty := (.object s16_)) (by decide)) (show f30_ Z h20 ob20 .null from D20 (Or.inr (w_ hw 229 rfl)) (ty := (.object s16_)) (by decide)) (show f29_ Z h20 ob20 .null from D20 (Or.inr (w_ hw 231 rfl)) (ty := (.object s16_)) (by decide)) (by omega))) (g := (mkF m 44 #[.val (.ref tt)] [(.ref ob20), (.ref ob20), (.ref tt)])) rfl hml.symm (Steps.refl _) (a := ob20) (argsL := []) (rest := [(.ref ob20), (.ref tt)]) (lenOf pd1_ rfl) rfl own_z (hb hby D19_44) (o4 e20 5 300 55 2000)) fun T22 Lc22 _ X22 hQ22 => ?_
 obtain ⟨rfl, M22, K22, g22_0⟩ := hQ22
 have N22 := Fr.app N19 M22
 have z22 := K22.1
 have lt_g22_0 := eG g22_0
 have q_3 : own_NE ob20 tt := mN
 have fc23 := (((((((((((Pf5.ext E2).keep K4 (nT (uS q_2) nin0)).other W7 (sO (Or.inr (w_ hw 292 rfl)) (Or.inr (w_ hw 190 rfl)))).ext E8).other W11 (sO (Or.inr (w_ hw 292 rfl)) (Or.inl (w_ hw 193 rfl)))).ext E12).other W15 (sO (Or.inr (w_ hw 292 rfl)) (Or.inl (w_ hw 196 rfl)))).ext E16).other W19 (sO (Or.inr (w_ hw 292 rfl)) (Or.inl (w_ hw 198 rfl)))).ext E20).keep K22 (nT (uS q_3) nin0))
 have fc24 := (((fc18.wr W19).ext E20).keep K22)
 obtain ⟨T25, h25, X25, e25, W25, st25⟩ := putF X22 hx hZ hown (host := "") (Or.inl (w_ hw 291 rfl)) Via.refl rfl fc23 fc24 (Or.inr ⟨(w_ hw 292 rfl), rfl, hnm⟩) (w_ hw 181 rfl) (ty := (.object s39_)) (by decide) rfl rfl (g := (mkF m 47 #[.val (.ref tt)] [(.ref ob20), (.ref tt)])) rfl rfl (hb hby D19_47)
 refine ob_ st25 ?_
 have z25 := W25.size
 have N25 := Fr.snoc X25 N22 gt_tt
 have Fw25 : Fld Z h25 tt s38_ "_index" s55_ (.ref ob20) := fc23.same W25
 have fc26 := (fc24.wr W25)
 have fc27 := (((((((((Fw7.ext E8).other W11 (sO (Or.inr (w_ hw 190 rfl)) (Or.inl (w_ hw 193 rfl)))).ext E12).other W15 (sO (Or.inr (w_ hw 190 rfl)) (Or.inl (w_ hw 196 rfl)))).ext E16).other W19 (sO (Or.inr (w_ hw 190 rfl)) (Or.inl (w_ hw 198 rfl)))).ext E20).keep K22 (nT (uS q_3) nin0)).other W25 (sO (Or.inr (w_ hw 190 rfl)) (Or.inr (w_ hw 292 rfl))))
 have fc28 := (((((((Fw11.ext E12).other W15 (sO (Or.inl (w_ hw 193 rfl)) (Or.inl (w_ hw 196 rfl)))).ext E16).other W19 (sO (Or.inl (w_ hw 193 rfl)) (Or.inl (w_ hw 198 rfl)))).ext E20).keep K22 (nT (uS q_3) nin0)).other W25 (sO (Or.inl (w_ hw 193 rfl)) (Or.inr (w_ hw 292 rfl))))
 have fc29 := (((((Fw15.ext E16).other W19 (sO (Or.inl (w_ hw 196 rfl)) (Or.inl (w_ hw 198 rfl)))).ext E20).keep K22 (nT (uS q_3) nin0)).other W25 (sO (Or.inl (w_ hw 196 rfl)) (Or.inr (w_ hw 292 rfl))))
 have fc30 := ((((((((((((Pf6.ext E2).keep K4 (nT (uS q_2) nin0)).other W7 (sO (Or.inl (w_ hw 343 rfl)) (Or.inr (w_ hw 190 rfl)))).ext E8).other W11 (sO (Or.inl (w_ hw 343 rfl)) (Or.inl (w_ hw 193 rfl)))).ext E12).other W15 (sO (Or.inl (w_ hw 343 rfl)) (Or.inl (w_ hw 196 rfl)))).ext E16).other W19 (sO (Or.inl (w_ hw 343 rfl)) (Or.inl (w_ hw 198 rfl)))).ext E20).keep K22 (nT (uS q_3) nin0)).other W25 (sO (Or.inl (w_ hw 343 rfl)) (Or.inr (w_ hw 292 rfl))))
 have q_4 : own_NE ob8 tt := mN
 have fc31 := ((((((((Vw8.other W11 q_4).ext E12).other W15 q_4).ext E16).other W19 q_4).ext E20).keep K22 (nS nin0)).other W25 q_4)
 have q_5 : own_NE ob12 tt := mN
 have fc32 := ((((((Vw12.other W15 q_5).ext E16).other W19 q_5).ext E20).keep K22 (nS nin0)).other W25 q_5)
 have fc33 := ((((((((((g4_0.wr W7).ext E8).wr W11).ext E12).wr W15).ext E16).wr W19).ext E20).keep K22).wr W25)
 have q_6 : own_NE ob2 ob20 := mN
 have fc34 := ((((((((((g4_1.other W7 (Or.inl q_2)).ext E8).other W11 (Or.inl q_2)).ext E12).other W15 (Or.inl q_2)).ext E16).other W19 (Or.inl q_2)).ext E20).keep K22 (nT q_6 nin0)).other W25 (Or.inl q_2))
 have fc35 := ((((((((((g4_2.other W7 (Or.inl q_2)).ext E8).other W11 (Or.inl q_2)).ext E12).other W15 (Or.inl q_2)).ext E16).other W19 (Or.inl q_2)).ext E20).keep K22 (nT q_6 nin0)).other W25 (Or.inl q_2))
 have fc36 := ((((((((((g4_3.other W7 (Or.inl q_2)).ext E8).other W11 (Or.inl q_2)).ext E12).other W15 (Or.inl q_2)).ext E16).other W19 (Or.inl q_2)).ext E20).keep K22 (nT q_6 nin0)).other W25 (Or.inl q_2))
 have K37 : Keep h0 h25 [tt] := (((((((((((((Keep.refl h0 [tt]).ext E2).trans K4 (kR all0)).wr W7 (Or.inl (List.mem_of_getElem? (i := 0) rfl))).ext E8).wr W11 (Or.inl (List.mem_of_getElem? (i := 0) rfl))).ext E12).wr W15 (Or.inl (List.mem_of_getElem? (i := 0) rfl))).ext E16).wr W19 (Or.inl (List.mem_of_getElem? (i := 0) rfl))).ext E20).trans K22 (kR all0)).wr W25 (Or.inl (List.mem_of_getElem? (i := 0) rfl)))
 exact o_rv Bd X25 hx hby e25 D19_50 ⟨ob2, ob8, k8, ob12, k12, rfl, N25, K37, fc26, fc27, fc28, fc29, fc30, fc31, fc32, fc33, fc34, fc35, fc36, (by first | assumption | omega), (by simp only [own_asc, and_true]; omega)⟩
abbrev dD36 (n : Nat) (i : Instr) (k : Nat) : Prop := decode prog_14_method_4_code n = .ok (i, k)
theorem D36_0 : dD36 0 (.aload_n 0) 1 := by decide +kernel
theorem D36_1 : dD36 1 (.getfield 29) 3 := by decide +kernel
theorem D36_4 : dD36 4 .areturn 1 := by decide +kernel
def Q_rm_cq (Z : State) (xd cq : Addr) (h0 : Heap) (n0 : Nat) (v : Option Value) (h : Heap) (L : List Loc) : Prop := v = some (.ref cq) ∧ Fr n0 L ∧ h = h0
theorem rm_cq (l : Launch) (Z : State) (a0 : Array Value) (hw : own_Wd Z a0) (ws : List Jvm.Cond) (xd cq : Addr) (h0 : Heap) (n0 : Nat) (O0 : Old Z n0 h0) (Fq : f12_ Z h0 xd (.ref cq)) :
  own_M l Z ws y36_ prog_14_method_4_code 1 (some (.object s2_)) ({ frames := 0, cells := 0, slots := 0, locals := 0 } : Room) #[(.ref xd)] h0 (Q_rm_cq Z xd cq h0 n0) := by
 refine own_open O0 (plainFor_of_name pn17_) (L0 := #[.val (.ref xd)]) ?_
 intro p e s m below meth c s₁ Bd hx hby hml hZ hh hown hnm X0 e0 N0 Z0
 have lt_Fq := fG Fq
 refine o_al X0 hx hby D36_0 rfl rfl ?_
 refine o_gf X0 hx hby hZ hown hw 169 rfl Via.refl e0 Fq D36_1 fun T1 X1 e1 => ?_
 exact o_ra Bd X1 hx hby e1 D36_4 rfl ⟨rfl, N0, rfl⟩
abbrev dD37 (n : Nat) (i : Instr) (k : Nat) : Prop := decode prog_6_method_27_code n = .ok (i, k)
theorem D37_0 : dD37 0 (.aload_n 0) 1 := by decide +kernel
theorem D37_1 : dD37 1 (.getfield 70) 3 := by decide +kernel
theorem D37_4 : dD37 4 .lreturn 1 := by decide +kernel
def Q_rm_pmk (Z : State) (cq : Addr) (h0 : Heap) (n0 : Nat) (v : Option Value) (h : Heap) (L : List Loc) : Prop := v = some (.long (0 : Int64)) ∧ Fr n0 L ∧ h = h0
theorem rm_pmk (l : Launch) (Z : State) (a0 : Array Value) (hw : own_Wd Z a0) (ws : List Jvm.Cond) (cq : Addr) (h0 : Heap) (n0 : Nat) (O0 : Old Z n0 h0) (Fq : f8_ Z h0 cq (.long (0 : Int64))) :
  own_M l Z ws y37_ prog_6_method_27_code 1 (some .long) ({ frames := 0, cells := 0, slots := 0, locals := 0 } : Room) #[(.ref cq)] h0 (Q_rm_pmk Z cq h0 n0) := by
 refine own_open O0 (plainFor_of_name pn16_) (L0 := #[.val (.ref cq)]) ?_
 intro p e s m below meth c s₁ Bd hx hby hml hZ hh hown hnm X0 e0 N0 Z0
 have lt_Fq := fG Fq
 refine o_al X0 hx hby D37_0 rfl rfl ?_
 refine o_gf X0 hx hby hZ hown hw 160 rfl Via.refl e0 Fq D37_1 fun T1 X1 e1 => ?_
 obtain ⟨fs, hr, hrun, hended, hW, hsame⟩ := X1.leave (v := some (.long (0 : Int64))) (fun h => by rw [Bd.returns] at h; cases h)
 refine ⟨_, _, retOut X1 hx Bd.returns rfl (Or.inr (Or.inl ⟨rfl, rfl, _, rfl⟩)) (hb hby D37_4) hr, hrun, hended, _, _, rfl, ?_, ⟨_, rfl⟩, hW, hsame.mono (by decide) (by decide)⟩
 show Q_rm_pmk Z cq h0 n0 _ T1.heap _
 rw [e1]
 exact ⟨rfl, N0, rfl⟩
abbrev dD35 (n : Nat) (i : Instr) (k : Nat) : Prop := decode prog_25_method_10_code n = .ok (i, k)
theorem D35_0 : dD35 0 (.aload_n 0) 1 := by decide +kernel
theorem D35_1 : dD35 1 (.getfield 88) 3 := by decide +kernel
theorem D35_4 : dD35 4 (.aload_n 0) 1 := by decide +kernel
theorem D35_5 : dD35 5 (.getfield 16) 3 := by decide +kernel
theorem D35_8 : dD35 8 .arraylength 1 := by decide +kernel
theorem D35_9 : dD35 9 (.if_icmp .ne 54) 3 := by decide +kernel
theorem D35_63 : dD35 63 (.aload_n 0) 1 := by decide +kernel
theorem D35_64 : dD35 64 (.getfield 16) 3 := by decide +kernel
theorem D35_67 : dD35 67 (.aload_n 0) 1 := by decide +kernel
theorem D35_68 : dD35 68 (.getfield 88) 3 := by decide +kernel
theorem D35_71 : dD35 71 (.aload_n 1) 1 := by decide +kernel
theorem D35_72 : dD35 72 (.invokevirtual 130) 3 := by decide +kernel
theorem D35_75 : dD35 75 (.invokevirtual 96) 3 := by decide +kernel
theorem D35_78 : dD35 78 .lastore 1 := by decide +kernel
theorem D35_79 : dD35 79 (.aload_n 0) 1 := by decide +kernel
theorem D35_80 : dD35 80 (.getfield 20) 3 := by decide +kernel
theorem D35_83 : dD35 83 (.aload_n 0) 1 := by decide +kernel
theorem D35_84 : dD35 84 (.getfield 88) 3 := by decide +kernel
theorem D35_87 : dD35 87 (.iload_n 2) 1 := by decide +kernel
theorem D35_88 : dD35 88 .bastore 1 := by decide +kernel
theorem D35_89 : dD35 89 (.aload_n 0) 1 := by decide +kernel
theorem D35_90 : dD35 90 (.getfield 10) 3 := by decide +kernel
theorem D35_93 : dD35 93 (.aload_n 1) 1 := by decide +kernel
theorem D35_94 : dD35 94 (.invokeinterface 84 2) 5 := by decide +kernel
theorem D35_99 : dD35 99 .pop 1 := by decide +kernel
theorem D35_100 : dD35 100 (.aload_n 0) 1 := by decide +kernel
theorem D35_101 : dD35 101 .dup 1 := by decide +kernel
theorem D35_102 : dD35 102 (.getfield 88) 3 := by decide +kernel
theorem D35_105 : dD35 105 .dup_x1 1 := by decide +kernel
theorem D35_106 : dD35 106 (.iconst 1) 1 := by decide +kernel
theorem D35_107 : dD35 107 .iadd 1 := by decide +kernel
theorem D35_108 : dD35 108 (.putfield 88) 3 := by decide +kernel
theorem D35_111 : dD35 111 .ireturn 1 := by decide +kernel
def Q_rm_app0 (Z : State) (un : Addr) (md : Int32) (mb ms : Addr) (kms : ClassId) (hl : Addr) (khl : ClassId) (xd cq dce : Addr) (kce : ClassId) (h0 : Heap) (n0 : Nat) (v : Option Value) (h : Heap) (L : List Loc) : Prop := ∃ (oo : Addr) (kn : ClassId) (vz : List Value), v = some v0_ ∧ Fr n0 L ∧ Keep h0 h [un, mb, ms, hl] ∧ Exa Z h un s38_ ∧ f27_ Z h un (.ref mb) ∧ f26_ Z h un (.ref ms) ∧ f25_ Z h un (.ref hl) ∧ f28_ Z h un v1_ ∧ Arv Z h ms kms .long (16 : Int32) [(.long (0 : Int64))] (.long (0 : Int64)) ∧ Arv Z h hl khl .boolean (16 : Int32) [v1_] v0_ ∧ Exa Z h mb s4_ ∧ f32_ Z h mb v1_ ∧ f36_ Z h mb (.int (md + (1 : Int32))) ∧ f31_ Z h mb (.ref oo) ∧ Arv Z h oo kn (.object s7_) (10 : Int32) vz .null ∧ Exa Z h oo s9_ ∧ own_obs Z h vz ∧ Ovr Z kn s7_ ∧ h0.size ≤ oo
theorem rm_app0 (l : Launch) (Z : State) (a0 : Array Value) (hw : own_Wd Z a0) (ws : List Jvm.Cond) (un : Addr) (md : Int32) (mb ms : Addr) (kms : ClassId) (hl : Addr) (khl : ClassId) (xd cq dce : Addr) (kce : ClassId) (h0 : Heap) (n0 : Nat) (O0 : Old Z n0 h0) (S_DCE : Sta Z Z.heap s4_ s8_ s9_ (.ref dce)) (A_DCE : Arv Z Z.heap dce kce (.object s7_) (0 : Int32) [] .null) (E_DCE : Exa Z Z.heap dce s9_) (Pm0 : Exa Z h0 un s38_) (Pm1 : f27_ Z h0 un (.ref mb)) (Pm2 : f26_ Z h0 un (.ref ms)) (Pm3 : f25_ Z h0 un (.ref hl)) (Pm4 : f28_ Z h0 un v0_) (Pm5 : Arv Z h0 ms kms .long (16 : Int32) [] (.long (0 : Int64))) (Pm6 : Arv Z h0 hl khl .boolean (16 : Int32) [] v0_) (Pm7 : Exa Z h0 mb s4_) (Pm8 : f32_ Z h0 mb v0_) (Pm9 : f36_ Z h0 mb (.int md)) (Pm10 : f31_ Z h0 mb (.ref dce)) (Pm11 : Exa Z h0 xd s34_) (Pm12 : f12_ Z h0 xd (.ref cq)) (Pm13 : Exa Z h0 cq s2_) (Pm14 : f8_ Z h0 cq (.long (0 : Int64))) (gt_un : n0 ≤ un) (hch : own_asc [un, mb, ms, hl]) :
  own_M l Z ws y38_ prog_25_method_10_code 3 (some .int) ({ frames := 5, cells := 1, slots := 10, locals := 69 } : Room) #[(.ref un), (.ref xd), v1_] h0 (Q_rm_app0 Z un md mb ms kms hl khl xd cq dce kce h0 n0) := by
 refine own_open O0 (plainFor_of_name pn18_) (L0 := #[.val (.ref un), .val (.ref xd), .val v1_]) ?_
 intro p e s m below meth c s₁ Bd hx hby hml hZ hh hown hnm X0 e0 N0 Z0
 have hq_hch := hch
 simp only [own_asc] at hq_hch
 have lt_Pm0 := eG Pm0
 have lt_Pm5 := vG Pm5
 have lt_Pm6 := vG Pm6
 have lt_Pm7 := eG Pm7
 have lt_Pm11 := eG Pm11
 have lt_Pm13 := eG Pm13
 refine o_al X0 hx hby D35_0 rfl rfl ?_
 refine o_gf X0 hx hby hZ hown hw 342 rfl Via.refl e0 Pm4 D35_1 fun T1 X1 e1 => ?_
 refine o_al X1 hx hby D35_4 rfl rfl ?_
 refine o_gf X1 hx hby hZ hown hw 192 rfl Via.refl e1 Pm2 D35_5 fun T2 X2 e2 => ?_
 obtain ⟨cl3, Ar3, q3, S3, M3, H3, G3⟩ := (id Pm5)
 refine ob_ (X2.arraylength hx (by rw [e2]; exact Ar3.1) (State.isArrayOf_alike hZ.alike Ar3.2.1) (g := (mkF m 8 #[.val (.ref un), .val (.ref xd), .val v1_] [(.ref ms), v0_])) rfl rfl (hb hby D35_8)) ?_
 rw [len_of S3 M3]
 refine ob_ (fun _ k => XS.icmpYes X2.here hx rfl (pc0 := 9) (pc' := 63) rfl (hb hby D35_9) rfl (feq (by decide : ¬ ((0 : Int32) = (16 : Int32)))).2 (by decide) (by decide) k) ?_
 refine o_al X2 hx hby D35_63 rfl rfl ?_
 refine o_gf X2 hx hby hZ hown hw 192 rfl Via.refl e2 Pm2 D35_64 fun T4 X4 e4 => ?_
 refine o_al X4 hx hby D35_67 rfl rfl ?_
 refine o_gf X4 hx hby hZ hown hw 342 rfl Via.refl e4 Pm4 D35_68 fun T5 X5 e5 => ?_
 refine o_al X5 hx hby D35_71 rfl rfl ?_
 obtain ⟨cq6, kq6, q6a, q6b, q6c⟩ := isOf hZ e5 Pm11
 refine o_k 3 (X5.virtualBack hx (y := y36_) (z := y36_) hown (mw hZ hw 344 rfl) (mw hZ hw 345 rfl) (notFace_of_selects (args := #[]) (mw hZ hw 347 rfl)) (mw hZ hw 347 rfl) (mw hZ hw 346 rfl) (by decide) (bk 2 hZ hw 348 164 (rm_cq l Z a0 hw [] xd cq h0 n0 O0 Pm12)) q6a q6c (g := (mkF m 72 #[.val (.ref un), .val (.ref xd), .val v1_] [(.ref xd), v0_, (.ref ms)])) rfl hml.symm (Steps.refl _) (argsL := []) (rest := [v0_, (.ref ms)]) (lenOf pd18_ rfl) rfl own_z (hb hby D35_72) (o4 e5 0 0 0 0)) fun T6 Lc6 _ X6 hQ6 => ?_
 obtain ⟨rfl, M6, K6⟩ := hQ6
 have N6 := Fr.app N0 M6
 obtain ⟨cq7, kq7, q7a, q7b, q7c⟩ := isOf hZ K6 Pm13
 refine o_k 3 (X6.virtualBack hx (y := y37_) (z := y37_) hown (mw hZ hw 349 rfl) (mw hZ hw 350 rfl) (notFace_of_selects (args := #[]) (mw hZ hw 352 rfl)) (mw hZ hw 352 rfl) (mw hZ hw 351 rfl) (by decide) (bk 2 hZ hw 353 2 (rm_pmk l Z a0 hw [] cq h0 n0 O0 Pm14)) q7a q7c (g := (mkF m 75 #[.val (.ref un), .val (.ref xd), .val v1_] [(.ref cq), v0_, (.ref ms)])) rfl hml.symm (Steps.refl _) (argsL := []) (rest := [v0_, (.ref ms)]) (lenOf pd19_ rfl) rfl own_z (hb hby D35_75) (o4 K6 0 0 0 0)) fun T7 Lc7 _ X7 hQ7 => ?_
 obtain ⟨rfl, M7, K7⟩ := hQ7
 have N7 := Fr.app N6 M7
 have Vw8 : Arv Z h0 ms kms .long (16 : Int32) [(.long (0 : Int64))] (.long (0 : Int64)) := Pm5.pad (pad_rep [] (.long (0 : Int64)) 1)
 obtain ⟨cl9, Ar9, q9, S9, M9, H9, G9⟩ := (id Vw8)
 have hin9 : ¬ ((0 : Int32) < 0 ∨ cl9.slots.size ≤ ((0 : Int32)).toNatClampNeg) := inb_of S9 ⟨by decide, by decide⟩
 obtain ⟨T9, h9, X9, e9, W9, st9⟩ := stJ X7 hx hZ K7 Ar9 (j := (0 : Int32)) hin9 (g := (mkF m 78 #[.val (.ref un), .val (.ref xd), .val v1_] [(.long (0 : Int64)), v0_, (.ref ms)])) rfl rfl (hb hby D35_78)
 refine ob_ st9 ?_
 have z9 := W9.size
 have q_1 : own_LE n0 ms := mL
 have N9 := Fr.snoc X9 N7 q_1
 have Vw9 : Arv Z h9 ms kms .long (16 : Int32) [(.long (0 : Int64))] (.long (0 : Int64)) := Arv.set Ar9 q9 S9 M9 H9 G9 rfl W9 0 rfl (Nat.le_of_ble_eq_true rfl)
 refine o_al X9 hx hby D35_79 rfl rfl ?_
 have q_2 : own_NE ms un := mN
 have fc10 := (Pm3.other W9 (Or.inl (uS q_2)))
 refine o_gf X9 hx hby hZ hown hw 195 rfl Via.refl e9 fc10 D35_80 fun T11 X11 e11 => ?_
 refine o_al X11 hx hby D35_83 rfl rfl ?_
 have fc12 := (Pm4.other W9 (Or.inl (uS q_2)))
 refine o_gf X11 hx hby hZ hown hw 342 rfl Via.refl e11 fc12 D35_84 fun T13 X13 e13 => ?_
 refine o_il X13 hx hby D35_87 rfl ?_
 have q_3 : own_NE hl ms := mN
 have fc14 := (Pm6.other W9 q_3)
 have Vw15 : Arv Z h9 hl khl .boolean (16 : Int32) [v0_] v0_ := fc14.pad (pad_rep [] v0_ 1)
 obtain ⟨cl16, Ar16, q16, S16, M16, H16, G16⟩ := (id Vw15)
 have hin16 : ¬ ((0 : Int32) < 0 ∨ cl16.slots.size ≤ ((0 : Int32)).toNatClampNeg) := inb_of S16 ⟨by decide, by decide⟩
 obtain ⟨T16, h16, X16, e16, W16, st16⟩ := stZ X13 hx hZ e13 Ar16 (j := (0 : Int32)) hin16 (g := (mkF m 88 #[.val (.ref un), .val (.ref xd), .val v1_] [v1_, v0_, (.ref hl)])) rfl rfl (hb hby D35_88)
 refine ob_ st16 ?_
 have z16 := W16.size
 have q_4 : own_LE n0 hl := mL
 have N16 := Fr.snoc X16 N9 q_4
 have Vw16 : Arv Z h16 hl khl .boolean (16 : Int32) [v1_] v0_ := Arv.set Ar16 q16 S16 M16 H16 G16 rfl W16 0 rfl (Nat.le_of_ble_eq_true rfl)
 refine o_al X16 hx hby D35_89 rfl rfl ?_
 have q_5 : own_NE hl un := mN
 have fc17 := ((Pm1.other W9 (Or.inl (uS q_2))).other W16 (Or.inl (uS q_5)))
 refine o_gf X16 hx hby hZ hown hw 189 rfl Via.refl e16 fc17 D35_90 fun T18 X18 e18 => ?_
 refine o_al X18 hx hby D35_93 rfl rfl ?_
 have fc19 := ((Pm7.wr W9).wr W16)
 have q_6 : own_NE mb ms := mN
 have q_7 : own_NE hl mb := mN
 have fc20 := ((Pm8.other W9 (Or.inl q_6)).other W16 (Or.inl (uS q_7)))
 have fc21 := ((Pm9.other W9 (Or.inl q_6)).other W16 (Or.inl (uS q_7)))
 have fc22 := ((Pm10.other W9 (Or.inl q_6)).other W16 (Or.inl (uS q_7)))
 have fc23 := ((Pm11.wr W9).wr W16)
 have O24 : Old Z n0 h16 := ((O0.wr W9 q_1).wr W16 q_4)
 obtain ⟨cq25, kq25, q25a, q25b, q25c⟩ := isOf hZ e18 fc19
 refine o_k 5 (X18.interfaceBack hx (xi := y17_) (y := y15_) hown (mw hZ hw 354 rfl) (mw hZ hw 233 rfl) (mw hZ hw 234 rfl) (mw hZ hw 235 rfl) (mw hZ hw 236 rfl) (mw hZ hw 237 rfl) (mw hZ hw 238 rfl) (mw hZ hw 70 rfl) (by decide) (bk 0 hZ hw 239 14 (rm_addZ l Z a0 hw [] mb md xd dce kce h16 n0 O24 S_DCE A_DCE E_DCE fc19 fc20 fc21 fc22 (Ins.of_exa fc23 (w_ hw 355 rfl)) (by omega))) q25a q25b q25c (g := (mkF m 94 #[.val (.ref un), .val (.ref xd), .val v1_] [(.ref xd), (.ref mb)])) rfl hml.symm (Steps.refl _) (argsL := [(.ref xd)]) (rest := []) (lenOf pd9_ rfl) rfl own_z (hb hby D35_94) (o4 e18 0 1 0 10)) fun T25 Lc25 _ X25 hQ25 => ?_
 obtain ⟨oo_25, kn_25, vz_25, rfl, M25, K25, g25_0, g25_1, g25_2, g25_3, g25_4, g25_5, g25_6, r25_0, r25_1⟩ := hQ25
 have N25 := Fr.app N16 M25
 have z25 := K25.1
 have lt_g25_0 := eG g25_0
 have lt_g25_4 := vG g25_4
 refine ob_ (fun _ k => XS.pop X25.here hx rfl (hb hby D35_99) rfl rfl k) ?_
 refine o_al X25 hx hby D35_100 rfl rfl ?_
 refine ob_ (fun _ k => XS.dup X25.here hx rfl (hb hby D35_101) rfl rfl k) ?_
 have q_8 : own_NE mb un := mN
 have fc26 := ((fc12.other W16 (Or.inl (uS q_5))).keep K25 (nT (uS q_8) nin0))
 refine o_gf X25 hx hby hZ hown hw 342 rfl Via.refl rfl fc26 D35_102 fun T27 X27 e27 => ?_
 refine ob_ (fun _ k => XS.dupX1 X27.here hx rfl (hb hby D35_105) rfl rfl rfl k) ?_
 refine o_ic X27 hx hby D35_106 ?_
 show own_Go p e below (T27.setTop (mkF m 107 #[.val (.ref un), .val (.ref xd), .val v1_] [v1_, v0_, (.ref un), v0_])) _
 refine ob_ (fun _ k => XS.iadd X27.here hx rfl (hb hby D35_107) rfl k) ?_
 have fc28 := (((Pm0.wr W9).wr W16).keep K25)
 obtain ⟨T29, h29, X29, e29, W29, st29⟩ := putF X27 hx hZ hown (host := "") (Or.inl (w_ hw 342 rfl)) Via.refl e27 fc26 fc28 (Or.inl (w_ hw 343 rfl)) (w_ hw 181 rfl) (ty := .int) (by decide) rfl rfl (g := (mkF m 108 #[.val (.ref un), .val (.ref xd), .val v1_] [v1_, (.ref un), v0_])) rfl rfl (hb hby D35_108)
 refine ob_ st29 ?_
 have z29 := W29.size
 have N29 := Fr.snoc X29 N25 gt_un
 have Fw29 : f28_ Z h29 un v1_ := fc26.same W29
 have fc30 := (fc28.wr W29)
 have fc31 := ((fc17.keep K25 (nT (uS q_8) nin0)).other W29 (sO (Or.inr (w_ hw 190 rfl)) (Or.inl (w_ hw 343 rfl))))
 have fc32 := ((((Pm2.other W9 (Or.inl (uS q_2))).other W16 (Or.inl (uS q_5))).keep K25 (nT (uS q_8) nin0)).other W29 (sO (Or.inl (w_ hw 193 rfl)) (Or.inl (w_ hw 343 rfl))))
 have fc33 := (((fc10.other W16 (Or.inl (uS q_5))).keep K25 (nT (uS q_8) nin0)).other W29 (sO (Or.inl (w_ hw 196 rfl)) (Or.inl (w_ hw 343 rfl))))
 have fc34 := (((Vw9.other W16 (uS q_3)).keep K25 (nT (uS q_6) nin0)).other W29 q_2)
 have fc35 := ((Vw16.keep K25 (nT q_7 nin0)).other W29 q_5)
 have fc36 := (g25_0.wr W29)
 have fc37 := (g25_1.other W29 (Or.inl q_8))
 have fc38 := (g25_2.other W29 (Or.inl q_8))
 have fc39 := (g25_3.other W29 (Or.inl q_8))
 have q_9 : own_NE oo_25 un := mN
 have fc40 := (g25_4.other W29 q_9)
 have fc41 := (g25_5.wr W29)
 have fc42 := (g25_6.wr W29)
 have K43 : Keep h0 h29 [un, mb, ms, hl] := (((((Keep.refl h0 [un, mb, ms, hl]).wr W9 (Or.inl (List.mem_of_getElem? (i := 2) rfl))).wr W16 (Or.inl (List.mem_of_getElem? (i := 3) rfl))).trans K25 (kI 1 rfl all0)).wr W29 (Or.inl (List.mem_of_getElem? (i := 0) rfl)))
 exact o_ri Bd X29 hx hby e29 D35_111 ⟨oo_25, kn_25, vz_25, rfl, N29, K43, fc30, fc31, fc32, fc33, Fw29, fc34, fc35, fc36, fc37, fc38, fc39, fc40, fc41, fc42, r25_0, (by omega)⟩
abbrev dD34 (n : Nat) (i : Instr) (k : Nat) : Prop := decode prog_25_method_8_code n = .ok (i, k)
theorem D34_0 : dD34 0 (.aload_n 0) 1 := by decide +kernel
theorem D34_1 : dD34 1 (.aload_n 1) 1 := by decide +kernel
theorem D34_2 : dD34 2 (.iconst 1) 1 := by decide +kernel
theorem D34_3 : dD34 3 (.invokevirtual 143) 3 := by decide +kernel
theorem D34_6 : dD34 6 .ireturn 1 := by decide +kernel
def Q_rm_ada0 (Z : State) (un : Addr) (md : Int32) (mb ms : Addr) (kms : ClassId) (hl : Addr) (khl : ClassId) (xd cq dce : Addr) (kce : ClassId) (h0 : Heap) (n0 : Nat) (v : Option Value) (h : Heap) (L : List Loc) : Prop := ∃ (oo : Addr) (kn : ClassId) (vz : List Value), v = some v0_ ∧ Fr n0 L ∧ Keep h0 h [un, mb, ms, hl] ∧ Exa Z h un s38_ ∧ f27_ Z h un (.ref mb) ∧ f26_ Z h un (.ref ms) ∧ f25_ Z h un (.ref hl) ∧ f28_ Z h un v1_ ∧ Arv Z h ms kms .long (16 : Int32) [(.long (0 : Int64))] (.long (0 : Int64)) ∧ Arv Z h hl khl .boolean (16 : Int32) [v1_] v0_ ∧ Exa Z h mb s4_ ∧ f32_ Z h mb v1_ ∧ f36_ Z h mb (.int (md + (1 : Int32))) ∧ f31_ Z h mb (.ref oo) ∧ Arv Z h oo kn (.object s7_) (10 : Int32) vz .null ∧ Exa Z h oo s9_ ∧ own_obs Z h vz ∧ Ovr Z kn s7_ ∧ h0.size ≤ oo
theorem rm_ada0 (l : Launch) (Z : State) (a0 : Array Value) (hw : own_Wd Z a0) (ws : List Jvm.Cond) (un : Addr) (md : Int32) (mb ms : Addr) (kms : ClassId) (hl : Addr) (khl : ClassId) (xd cq dce : Addr) (kce : ClassId) (h0 : Heap) (n0 : Nat) (O0 : Old Z n0 h0) (S_DCE : Sta Z Z.heap s4_ s8_ s9_ (.ref dce)) (A_DCE : Arv Z Z.heap dce kce (.object s7_) (0 : Int32) [] .null) (E_DCE : Exa Z Z.heap dce s9_) (Pm0 : Exa Z h0 un s38_) (Pm1 : f27_ Z h0 un (.ref mb)) (Pm2 : f26_ Z h0 un (.ref ms)) (Pm3 : f25_ Z h0 un (.ref hl)) (Pm4 : f28_ Z h0 un v0_) (Pm5 : Arv Z h0 ms kms .long (16 : Int32) [] (.long (0 : Int64))) (Pm6 : Arv Z h0 hl khl .boolean (16 : Int32) [] v0_) (Pm7 : Exa Z h0 mb s4_) (Pm8 : f32_ Z h0 mb v0_) (Pm9 : f36_ Z h0 mb (.int md)) (Pm10 : f31_ Z h0 mb (.ref dce)) (Pm11 : Exa Z h0 xd s34_) (Pm12 : f12_ Z h0 xd (.ref cq)) (Pm13 : Exa Z h0 cq s2_) (Pm14 : f8_ Z h0 cq (.long (0 : Int64))) (gt_un : n0 ≤ un) (hch : own_asc [un, mb, ms, hl]) :
  own_M l Z ws y39_ prog_25_method_8_code 2 (some .int) ({ frames := 6, cells := 1, slots := 10, locals := 83 } : Room) #[(.ref un), (.ref xd)] h0 (Q_rm_ada0 Z un md mb ms kms hl khl xd cq dce kce h0 n0) := by
 refine own_open O0 (plainFor_of_name pn18_) (L0 := #[.val (.ref un), .val (.ref xd)]) ?_
 intro p e s m below meth c s₁ Bd hx hby hml hZ hh hown hnm X0 e0 N0 Z0
 have hq_hch := hch
 simp only [own_asc] at hq_hch
 have lt_Pm0 := eG Pm0
 have lt_Pm5 := vG Pm5
 have lt_Pm6 := vG Pm6
 have lt_Pm7 := eG Pm7
 have lt_Pm11 := eG Pm11
 have lt_Pm13 := eG Pm13
 refine o_al X0 hx hby D34_0 rfl rfl ?_
 refine o_al X0 hx hby D34_1 rfl rfl ?_
 refine o_ic X0 hx hby D34_2 ?_
 obtain ⟨cq1, q1, q1'⟩ := Pm0.cell
 refine o_k 3 (X0.privateBack hx (y := y38_) hown (mw hZ hw 338 rfl) (mw hZ hw 339 rfl) (own_selp (z := y39_) (mw hZ hw 336 rfl) rfl (Cond.privateMethod_at (mvP hZ (w_ hw 340 rfl) (args := #[]))) (mw hZ hw 339 rfl) (by decide)) (Cond.privateMethod_at (mvP hZ (w_ hw 340 rfl) (args := #[]))) (mw hZ hw 341 rfl) (by decide) (bk 0 hZ hw 341 182 (rm_app0 l Z a0 hw [] un md mb ms kms hl khl xd cq dce kce h0 n0 O0 S_DCE A_DCE E_DCE Pm0 Pm1 Pm2 Pm3 Pm4 Pm5 Pm6 Pm7 Pm8 Pm9 Pm10 Pm11 Pm12 Pm13 Pm14 gt_un hch)) (g := (mkF m 3 #[.val (.ref un), .val (.ref xd)] [v1_, (.ref xd), (.ref un)])) rfl hml.symm (Steps.refl _) (a := un) (by rw [e0]; exact q1) q1' (argsL := [(.ref xd), v1_]) (rest := []) (lenOf pd20_ rfl) rfl own_z (hb hby D34_3) (o4 e0 0 1 0 10)) fun T1 Lc1 _ X1 hQ1 => ?_
 obtain ⟨oo_1, kn_1, vz_1, rfl, M1, K1, g1_0, g1_1, g1_2, g1_3, g1_4, g1_5, g1_6, g1_7, g1_8, g1_9, g1_10, g1_11, g1_12, g1_13, r1_0, r1_1⟩ := hQ1
 have N1 := Fr.app N0 M1
 have z1 := K1.1
 have lt_g1_0 := eG g1_0
 have lt_g1_5 := vG g1_5
 have lt_g1_6 := vG g1_6
 have lt_g1_7 := eG g1_7
 have lt_g1_11 := vG g1_11
 have K2 : Keep h0 T1.heap [un, mb, ms, hl] := ((Keep.refl h0 [un, mb, ms, hl]).trans K1 (kI 0 rfl (kI 1 rfl (kI 2 rfl (kI 3 rfl all0)))))
 exact o_ri Bd X1 hx hby rfl D34_6 ⟨oo_1, kn_1, vz_1, rfl, N1, K2, g1_0, g1_1, g1_2, g1_3, g1_4, g1_5, g1_6, g1_7, g1_8, g1_9, g1_10, g1_11, g1_12, g1_13, r1_0, (by omega)⟩
def Q_rm_app1 (Z : State) (un : Addr) (md : Int32) (mb ms : Addr) (kms : ClassId) (hl : Addr) (khl : ClassId) (dd : Addr) (kd : ClassId) (vv : List Value) (xd cq dce : Addr) (kce : ClassId) (h0 : Heap) (n0 : Nat) (v : Option Value) (h : Heap) (L : List Loc) : Prop := v = some v1_ ∧ Fr n0 L ∧ Keep h0 h [un, mb, ms, hl, dd] ∧ Exa Z h un s38_ ∧ f27_ Z h un (.ref mb) ∧ f26_ Z h un (.ref ms) ∧ f25_ Z h un (.ref hl) ∧ f28_ Z h un (.int (2 : Int32)) ∧ Arv Z h ms kms .long (16 : Int32) [(.long (0 : Int64)), (.long (0 : Int64))] (.long (0 : Int64)) ∧ Arv Z h hl khl .boolean (16 : Int32) [v1_, v1_] v0_
theorem rm_app1 (l : Launch) (Z : State) (a0 : Array Value) (hw : own_Wd Z a0) (ws : List Jvm.Cond) (un : Addr) (md : Int32) (mb ms : Addr) (kms : ClassId) (hl : Addr) (khl : ClassId) (dd : Addr) (kd : ClassId) (vv : List Value) (xd cq dce : Addr) (kce : ClassId) (h0 : Heap) (n0 : Nat) (O0 : Old Z n0 h0) (S_DCE : Sta Z Z.heap s4_ s8_ s9_ (.ref dce)) (A_DCE : Arv Z Z.heap dce kce (.object s7_) (0 : Int32) [] .null) (E_DCE : Exa Z Z.heap dce s9_) (Pm0 : Exa Z h0 un s38_) (Pm1 : f27_ Z h0 un (.ref mb)) (Pm2 : f26_ Z h0 un (.ref ms)) (Pm3 : f25_ Z h0 un (.ref hl)) (Pm4 : f28_ Z h0 un v1_) (Pm5 : Arv Z h0 ms kms .long (16 : Int32) [(.long (0 : Int64))] (.long (0 : Int64))) (Pm6 : Arv Z h0 hl khl .boolean (16 : Int32) [v1_] v0_) (Pm7 : Exa Z h0 mb s4_) (Pm8 : f32_ Z h0 mb v1_) (Pm9 : f36_ Z h0 mb (.int md)) (Pm10 : f31_ Z h0 mb (.ref dd)) (Pm11 : Arv Z h0 dd kd (.object s7_) (10 : Int32) vv .null) (Pm12 : Exa Z h0 dd s9_) (Pm13 : own_obs Z h0 vv) (Pm14 : Exa Z h0 xd s34_) (Pm15 : f12_ Z h0 xd (.ref cq)) (Pm16 : Exa Z h0 cq s2_) (Pm17 : f8_ Z h0 cq (.long (0 : Int64))) (gt_un : n0 ≤ un) (hch : own_asc [un, mb, ms, hl, dd]) (ovd : Ovr Z kd s7_) :
  own_M l Z ws y38_ prog_25_method_10_code 3 (some .int) ({ frames := 2, cells := 0, slots := 0, locals := 28 } : Room) #[(.ref un), (.ref xd), v1_] h0 (Q_rm_app1 Z un md mb ms kms hl khl dd kd vv xd cq dce kce h0 n0) := by
 refine own_open O0 (plainFor_of_name pn18_) (L0 := #[.val (.ref un), .val (.ref xd), .val v1_]) ?_
 intro p e s m below meth c s₁ Bd hx hby hml hZ hh hown hnm X0 e0 N0 Z0
 have hq_hch := hch
 simp only [own_asc] at hq_hch
 have lt_Pm0 := eG Pm0
 have lt_Pm5 := vG Pm5
 have lt_Pm6 := vG Pm6
 have lt_Pm7 := eG Pm7
 have lt_Pm11 := vG Pm11
 have lt_Pm14 := eG Pm14
 have lt_Pm16 := eG Pm16
 refine o_al X0 hx hby D35_0 rfl rfl ?_
 refine o_gf X0 hx hby hZ hown hw 342 rfl Via.refl e0 Pm4 D35_1 fun T1 X1 e1 => ?_
 refine o_al X1 hx hby D35_4 rfl rfl ?_
 refine o_gf X1 hx hby hZ hown hw 192 rfl Via.refl e1 Pm2 D35_5 fun T2 X2 e2 => ?_
 obtain ⟨cl3, Ar3, q3, S3, M3, H3, G3⟩ := (id Pm5)
 refine ob_ (X2.arraylength hx (by rw [e2]; exact Ar3.1) (State.isArrayOf_alike hZ.alike Ar3.2.1) (g := (mkF m 8 #[.val (.ref un), .val (.ref xd), .val v1_] [(.ref ms), v1_])) rfl rfl (hb hby D35_8)) ?_
 rw [len_of S3 M3]
 refine ob_ (fun _ k => XS.icmpYes X2.here hx rfl (pc0 := 9) (pc' := 63) rfl (hb hby D35_9) rfl (feq (by decide : ¬ ((1 : Int32) = (16 : Int32)))).2 (by decide) (by decide) k) ?_
 refine o_al X2 hx hby D35_63 rfl rfl ?_
 refine o_gf X2 hx hby hZ hown hw 192 rfl Via.refl e2 Pm2 D35_64 fun T4 X4 e4 => ?_
 refine o_al X4 hx hby D35_67 rfl rfl ?_
 refine o_gf X4 hx hby hZ hown hw 342 rfl Via.refl e4 Pm4 D35_68 fun T5 X5 e5 => ?_
 refine o_al X5 hx hby D35_71 rfl rfl ?_
 obtain ⟨cq6, kq6, q6a, q6b, q6c⟩ := isOf hZ e5 Pm14
 refine o_k 3 (X5.virtualBack hx (y := y36_) (z := y36_) hown (mw hZ hw 344 rfl) (mw hZ hw 345 rfl) (notFace_of_selects (args := #[]) (mw hZ hw 347 rfl)) (mw hZ hw 347 rfl) (mw hZ hw 346 rfl) (by decide) (bk 2 hZ hw 348 164 (rm_cq l Z a0 hw [] xd cq h0 n0 O0 Pm15)) q6a q6c (g := (mkF m 72 #[.val (.ref un), .val (.ref xd), .val v1_] [(.ref xd), v1_, (.ref ms)])) rfl hml.symm (Steps.refl _) (argsL := []) (rest := [v1_, (.ref ms)]) (lenOf pd18_ rfl) rfl own_z (hb hby D35_72) (o4 e5 0 0 0 0)) fun T6 Lc6 _ X6 hQ6 => ?_
 obtain ⟨rfl, M6, K6⟩ := hQ6
 have N6 := Fr.app N0 M6
 obtain ⟨cq7, kq7, q7a, q7b, q7c⟩ := isOf hZ K6 Pm16
 refine o_k 3 (X6.virtualBack hx (y := y37_) (z := y37_) hown (mw hZ hw 349 rfl) (mw hZ hw 350 rfl) (notFace_of_selects (args := #[]) (mw hZ hw 352 rfl)) (mw hZ hw 352 rfl) (mw hZ hw 351 rfl) (by decide) (bk 2 hZ hw 353 2 (rm_pmk l Z a0 hw [] cq h0 n0 O0 Pm17)) q7a q7c (g := (mkF m 75 #[.val (.ref un), .val (.ref xd), .val v1_] [(.ref cq), v1_, (.ref ms)])) rfl hml.symm (Steps.refl _) (argsL := []) (rest := [v1_, (.ref ms)]) (lenOf pd19_ rfl) rfl own_z (hb hby D35_75) (o4 K6 0 0 0 0)) fun T7 Lc7 _ X7 hQ7 => ?_
 obtain ⟨rfl, M7, K7⟩ := hQ7
 have N7 := Fr.app N6 M7
 have Vw8 : Arv Z h0 ms kms .long (16 : Int32) [(.long (0 : Int64)), (.long (0 : Int64))] (.long (0 : Int64)) := Pm5.pad (pad_rep [(.long (0 : Int64))] (.long (0 : Int64)) 1)
 obtain ⟨cl9, Ar9, q9, S9, M9, H9, G9⟩ := (id Vw8)
 have hin9 : ¬ ((1 : Int32) < 0 ∨ cl9.slots.size ≤ ((1 : Int32)).toNatClampNeg) := inb_of S9 ⟨by decide, by decide⟩
 obtain ⟨T9, h9, X9, e9, W9, st9⟩ := stJ X7 hx hZ K7 Ar9 (j := (1 : Int32)) hin9 (g := (mkF m 78 #[.val (.ref un), .val (.ref xd), .val v1_] [(.long (0 : Int64)), v1_, (.ref ms)])) rfl rfl (hb hby D35_78)
 refine ob_ st9 ?_
 have z9 := W9.size
 have q_1 : own_LE n0 ms := mL
 have N9 := Fr.snoc X9 N7 q_1
 have Vw9 : Arv Z h9 ms kms .long (16 : Int32) [(.long (0 : Int64)), (.long (0 : Int64))] (.long (0 : Int64)) := Arv.set Ar9 q9 S9 M9 H9 G9 rfl W9 1 rfl (Nat.le_of_ble_eq_true rfl)
 refine o_al X9 hx hby D35_79 rfl rfl ?_
 have q_2 : own_NE ms un := mN
 have fc10 := (Pm3.other W9 (Or.inl (uS q_2)))
 refine o_gf X9 hx hby hZ hown hw 195 rfl Via.refl e9 fc10 D35_80 fun T11 X11 e11 => ?_
 refine o_al X11 hx hby D35_83 rfl rfl ?_
 have fc12 := (Pm4.other W9 (Or.inl (uS q_2)))
 refine o_gf X11 hx hby hZ hown hw 342 rfl Via.refl e11 fc12 D35_84 fun T13 X13 e13 => ?_
 refine o_il X13 hx hby D35_87 rfl ?_
 have q_3 : own_NE hl ms := mN
 have fc14 := (Pm6.other W9 q_3)
 have Vw15 : Arv Z h9 hl khl .boolean (16 : Int32) [v1_, v0_] v0_ := fc14.pad (pad_rep [v1_] v0_ 1)
 obtain ⟨cl16, Ar16, q16, S16, M16, H16, G16⟩ := (id Vw15)
 have hin16 : ¬ ((1 : Int32) < 0 ∨ cl16.slots.size ≤ ((1 : Int32)).toNatClampNeg) := inb_of S16 ⟨by decide, by decide⟩
 obtain ⟨T16, h16, X16, e16, W16, st16⟩ := stZ X13 hx hZ e13 Ar16 (j := (1 : Int32)) hin16 (g := (mkF m 88 #[.val (.ref un), .val (.ref xd), .val v1_] [v1_, v1_, (.ref hl)])) rfl rfl (hb hby D35_88)
 refine ob_ st16 ?_
 have z16 := W16.size
 have q_4 : own_LE n0 hl := mL
 have N16 := Fr.snoc X16 N9 q_4
 have Vw16 : Arv Z h16 hl khl .boolean (16 : Int32) [v1_, v1_] v0_ := Arv.set Ar16 q16 S16 M16 H16 G16 rfl W16 1 rfl (Nat.le_of_ble_eq_true rfl)
 refine o_al X16 hx hby D35_89 rfl rfl ?_
 have q_5 : own_NE hl un := mN
 have fc17 := ((Pm1.other W9 (Or.inl (uS q_2))).other W16 (Or.inl (uS q_5)))
 refine o_gf X16 hx hby hZ hown hw 189 rfl Via.refl e16 fc17 D35_90 fun T18 X18 e18 => ?_
 refine o_al X18 hx hby D35_93 rfl rfl ?_
 have fc19 := ((Pm7.wr W9).wr W16)
 have q_6 : own_NE mb ms := mN
 have q_7 : own_NE hl mb := mN
 have fc20 := ((Pm8.other W9 (Or.inl q_6)).other W16 (Or.inl (uS q_7)))
 have fc21 := ((Pm9.other W9 (Or.inl q_6)).other W16 (Or.inl (uS q_7)))
 have fc22 := ((Pm10.other W9 (Or.inl q_6)).other W16 (Or.inl (uS q_7)))
 have q_8 : own_NE dd ms := mN
 have q_9 : own_NE dd hl := mN
 have fc23 := ((Pm11.other W9 q_8).other W16 q_9)
 have fc24 := ((Pm12.wr W9).wr W16)
 have fc25 := ((Pm13.wr W9).wr W16)
 have fc26 := ((Pm14.wr W9).wr W16)
 have O27 : Old Z n0 h16 := ((O0.wr W9 q_1).wr W16 q_4)
 obtain ⟨cq28, kq28, q28a, q28b, q28c⟩ := isOf hZ e18 fc19
 refine o_k 5 (X18.interfaceBack hx (xi := y17_) (y := y15_) hown (mw hZ hw 354 rfl) (mw hZ hw 233 rfl) (mw hZ hw 234 rfl) (mw hZ hw 235 rfl) (mw hZ hw 236 rfl) (mw hZ hw 237 rfl) (mw hZ hw 238 rfl) (mw hZ hw 70 rfl) (by decide) (bk 0 hZ hw 239 14 (rm_addR l Z a0 hw [] mb (1 : Int32) md dd kd (10 : Int32) vv xd h16 n0 O27 fc19 fc20 fc21 fc22 fc23 fc24 fc25 (Ins.of_exa fc26 (w_ hw 355 rfl)) (by omega) (by omega) ovd (by decide) (by decide) (by decide) (by first | assumption | omega | decide))) q28a q28b q28c (g := (mkF m 94 #[.val (.ref un), .val (.ref xd), .val v1_] [(.ref xd), (.ref mb)])) rfl hml.symm (Steps.refl _) (argsL := [(.ref xd)]) (rest := []) (lenOf pd9_ rfl) rfl own_z (hb hby D35_94) (o4 e18 0 0 0 0)) fun T28 Lc28 _ X28 hQ28 => ?_
 obtain ⟨vz_28, rfl, M28, K28, g28_0, g28_1, g28_2, g28_3, g28_4, g28_5, g28_6⟩ := hQ28
 have N28 := Fr.app N16 M28
 have z28 := K28.1
 have lt_g28_0 := eG g28_0
 have lt_g28_4 := vG g28_4
 refine ob_ (fun _ k => XS.pop X28.here hx rfl (hb hby D35_99) rfl rfl k) ?_
 refine o_al X28 hx hby D35_100 rfl rfl ?_
 refine ob_ (fun _ k => XS.dup X28.here hx rfl (hb hby D35_101) rfl rfl k) ?_
 have q_10 : own_NE dd un := mN
 have q_11 : own_NE mb un := mN
 have q_12 : un ∉ [mb, dd] := nT (uS q_11) (nT (uS q_10) nin0)
 have fc29 := ((fc12.other W16 (Or.inl (uS q_5))).keep K28 q_12)
 refine o_gf X28 hx hby hZ hown hw 342 rfl Via.refl rfl fc29 D35_102 fun T30 X30 e30 => ?_
 refine ob_ (fun _ k => XS.dupX1 X30.here hx rfl (hb hby D35_105) rfl rfl rfl k) ?_
 refine o_ic X30 hx hby D35_106 ?_
 show own_Go p e below (T30.setTop (mkF m 107 #[.val (.ref un), .val (.ref xd), .val v1_] [v1_, v1_, (.ref un), v1_])) _
 refine ob_ (fun _ k => XS.iadd X30.here hx rfl (hb hby D35_107) rfl k) ?_
 have fc31 := (((Pm0.wr W9).wr W16).keep K28)
 obtain ⟨T32, h32, X32, e32, W32, st32⟩ := putF X30 hx hZ hown (host := "") (Or.inl (w_ hw 342 rfl)) Via.refl e30 fc29 fc31 (Or.inl (w_ hw 343 rfl)) (w_ hw 181 rfl) (ty := .int) (by decide) rfl rfl (g := (mkF m 108 #[.val (.ref un), .val (.ref xd), .val v1_] [(.int (2 : Int32)), (.ref un), v1_])) rfl rfl (hb hby D35_108)
 refine ob_ st32 ?_
 have z32 := W32.size
 have N32 := Fr.snoc X32 N28 gt_un
 have Fw32 : f28_ Z h32 un (.int (2 : Int32)) := fc29.same W32
 have fc33 := (fc31.wr W32)
 have fc34 := ((fc17.keep K28 q_12).other W32 (sO (Or.inr (w_ hw 190 rfl)) (Or.inl (w_ hw 343 rfl))))
 have fc35 := ((((Pm2.other W9 (Or.inl (uS q_2))).other W16 (Or.inl (uS q_5))).keep K28 q_12).other W32 (sO (Or.inl (w_ hw 193 rfl)) (Or.inl (w_ hw 343 rfl))))
 have fc36 := (((fc10.other W16 (Or.inl (uS q_5))).keep K28 q_12).other W32 (sO (Or.inl (w_ hw 196 rfl)) (Or.inl (w_ hw 343 rfl))))
 have fc37 := (((Vw9.other W16 (uS q_3)).keep K28 (nT (uS q_6) (nT (uS q_8) nin0))).other W32 q_2)
 have fc38 := ((Vw16.keep K28 (nT q_7 (nT (uS q_9) nin0))).other W32 q_5)
 have K39 : Keep h0 h32 [un, mb, ms, hl, dd] := (((((Keep.refl h0 [un, mb, ms, hl, dd]).wr W9 (Or.inl (List.mem_of_getElem? (i := 2) rfl))).wr W16 (Or.inl (List.mem_of_getElem? (i := 3) rfl))).trans K28 (kI 1 rfl (kI 4 rfl all0))).wr W32 (Or.inl (List.mem_of_getElem? (i := 0) rfl)))
 exact o_ri Bd X32 hx hby e32 D35_111 ⟨rfl, N32, K39, fc33, fc34, fc35, fc36, Fw32, fc37, fc38⟩
def Q_rm_ada1 (Z : State) (un : Addr) (md : Int32) (mb ms : Addr) (kms : ClassId) (hl : Addr) (khl : ClassId) (dd : Addr) (kd : ClassId) (vv : List Value) (xd cq dce : Addr) (kce : ClassId) (h0 : Heap) (n0 : Nat) (v : Option Value) (h : Heap) (L : List Loc) : Prop := v = some v1_ ∧ Fr n0 L ∧ Keep h0 h [un, mb, ms, hl, dd] ∧ Exa Z h un s38_ ∧ f27_ Z h un (.ref mb) ∧ f26_ Z h un (.ref ms) ∧ f25_ Z h un (.ref hl) ∧ f28_ Z h un (.int (2 : Int32)) ∧ Arv Z h ms kms .long (16 : Int32) [(.long (0 : Int64)), (.long (0 : Int64))] (.long (0 : Int64)) ∧ Arv Z h hl khl .boolean (16 : Int32) [v1_, v1_] v0_
theorem rm_ada1 (l : Launch) (Z : State) (a0 : Array Value) (hw : own_Wd Z a0) (ws : List Jvm.Cond) (un : Addr) (md : Int32) (mb ms : Addr) (kms : ClassId) (hl : Addr) (khl : ClassId) (dd : Addr) (kd : ClassId) (vv : List Value) (xd cq dce : Addr) (kce : ClassId) (h0 : Heap) (n0 : Nat) (O0 : Old Z n0 h0) (S_DCE : Sta Z Z.heap s4_ s8_ s9_ (.ref dce)) (A_DCE : Arv Z Z.heap dce kce (.object s7_) (0 : Int32) [] .null) (E_DCE : Exa Z Z.heap dce s9_) (Pm0 : Exa Z h0 un s38_) (Pm1 : f27_ Z h0 un (.ref mb)) (Pm2 : f26_ Z h0 un (.ref ms)) (Pm3 : f25_ Z h0 un (.ref hl)) (Pm4 : f28_ Z h0 un v1_) (Pm5 : Arv Z h0 ms kms .long (16 : Int32) [(.long (0 : Int64))] (.long (0 : Int64))) (Pm6 : Arv Z h0 hl khl .boolean (16 : Int32) [v1_] v0_) (Pm7 : Exa Z h0 mb s4_) (Pm8 : f32_ Z h0 mb v1_) (Pm9 : f36_ Z h0 mb (.int md)) (Pm10 : f31_ Z h0 mb (.ref dd)) (Pm11 : Arv Z h0 dd kd (.object s7_) (10 : Int32) vv .null) (Pm12 : Exa Z h0 dd s9_) (Pm13 : own_obs Z h0 vv) (Pm14 : Exa Z h0 xd s34_) (Pm15 : f12_ Z h0 xd (.ref cq)) (Pm16 : Exa Z h0 cq s2_) (Pm17 : f8_ Z h0 cq (.long (0 : Int64))) (gt_un : n0 ≤ un) (hch : own_asc [un, mb, ms, hl, dd]) (ovd : Ovr Z kd s7_) :
  own_M l Z ws y39_ prog_25_method_8_code 2 (some .int) ({ frames := 3, cells := 0, slots := 0, locals := 42 } : Room) #[(.ref un), (.ref xd)] h0 (Q_rm_ada1 Z un md mb ms kms hl khl dd kd vv xd cq dce kce h0 n0) := by
 refine own_open O0 (plainFor_of_name pn18_) (L0 := #[.val (.ref un), .val (.ref xd)]) ?_
 intro p e s m below meth c s₁ Bd hx hby hml hZ hh hown hnm X0 e0 N0 Z0
 have hq_hch := hch
 simp only [own_asc] at hq_hch
 have lt_Pm0 := eG Pm0
 have lt_Pm5 := vG Pm5
 have lt_Pm6 := vG Pm6
 have lt_Pm7 := eG Pm7
 have lt_Pm11 := vG Pm11
 have lt_Pm14 := eG Pm14
 have lt_Pm16 := eG Pm16
 refine o_al X0 hx hby D34_0 rfl rfl ?_
 refine o_al X0 hx hby D34_1 rfl rfl ?_
 refine o_ic X0 hx hby D34_2 ?_
 obtain ⟨cq1, q1, q1'⟩ := Pm0.cell
 refine o_k 3 (X0.privateBack hx (y := y38_) hown (mw hZ hw 338 rfl) (mw hZ hw 339 rfl) (own_selp (z := y39_) (mw hZ hw 336 rfl) rfl (Cond.privateMethod_at (mvP hZ (w_ hw 340 rfl) (args := #[]))) (mw hZ hw 339 rfl) (by decide)) (Cond.privateMethod_at (mvP hZ (w_ hw 340 rfl) (args := #[]))) (mw hZ hw 341 rfl) (by decide) (bk 0 hZ hw 341 182 (rm_app1 l Z a0 hw [] un md mb ms kms hl khl dd kd vv xd cq dce kce h0 n0 O0 S_DCE A_DCE E_DCE Pm0 Pm1 Pm2 Pm3 Pm4 Pm5 Pm6 Pm7 Pm8 Pm9 Pm10 Pm11 Pm12 Pm13 Pm14 Pm15 Pm16 Pm17 gt_un hch ovd)) (g := (mkF m 3 #[.val (.ref un), .val (.ref xd)] [v1_, (.ref xd), (.ref un)])) rfl hml.symm (Steps.refl _) (a := un) (by rw [e0]; exact q1) q1' (argsL := [(.ref xd), v1_]) (rest := []) (lenOf pd20_ rfl) rfl own_z (hb hby D34_3) (o4 e0 0 0 0 0)) fun T1 Lc1 _ X1 hQ1 => ?_
 obtain ⟨rfl, M1, K1, g1_0, g1_1, g1_2, g1_3, g1_4, g1_5, g1_6⟩ := hQ1
 have N1 := Fr.app N0 M1
 have z1 := K1.1
 have lt_g1_0 := eG g1_0
 have lt_g1_5 := vG g1_5
 have lt_g1_6 := vG g1_6
 have K2 : Keep h0 T1.heap [un, mb, ms, hl, dd] := ((Keep.refl h0 [un, mb, ms, hl, dd]).trans K1 (kI 0 rfl (kI 1 rfl (kI 2 rfl (kI 3 rfl (kI 4 rfl all0))))))
 exact o_ri Bd X1 hx hby rfl D34_6 ⟨rfl, N1, K2, g1_0, g1_1, g1_2, g1_3, g1_4, g1_5, g1_6⟩
abbrev dD39 (n : Nat) (i : Instr) (k : Nat) : Prop := decode jdk_33_method_22_code n = .ok (i, k)
theorem D39_0 : dD39 0 (.iload_n 0) 1 := by decide +kernel
theorem D39_1 : dD39 1 (.bipush (-128)) 2 := by decide +kernel
theorem D39_3 : dD39 3 (.if_icmp .lt 20) 3 := by decide +kernel
theorem D39_6 : dD39 6 (.iload_n 0) 1 := by decide +kernel
theorem D39_7 : dD39 7 (.getstatic 191) 3 := by decide +kernel
theorem D39_10 : dD39 10 (.if_icmp .gt 13) 3 := by decide +kernel
theorem D39_13 : dD39 13 (.getstatic 195) 3 := by decide +kernel
theorem D39_16 : dD39 16 (.iload_n 0) 1 := by decide +kernel
theorem D39_17 : dD39 17 (.sipush 128) 3 := by decide +kernel
theorem D39_20 : dD39 20 .iadd 1 := by decide +kernel
theorem D39_21 : dD39 21 .aaload 1 := by decide +kernel
theorem D39_22 : dD39 22 .areturn 1 := by decide +kernel
def Q_rm_iv0 (Z : State) (ci : Addr) (cci : Cell) (h0 : Heap) (n0 : Nat) (v : Option Value) (h : Heap) (L : List Loc) : Prop := ∃ (bx : Addr), v = some (.ref bx) ∧ Fr n0 L ∧ h = h0 ∧ own_bx Z bx (0 : Int32)
theorem rm_iv0 (l : Launch) (Z : State) (a0 : Array Value) (hw : own_Wd Z a0) (ws : List Jvm.Cond) (ci : Addr) (cci : Cell) (h0 : Heap) (n0 : Nat) (O0 : Old Z n0 h0) (S_high : Sta Z Z.heap s65_ "high" "I" (.int (127 : Int32))) (S_icache : Sta Z Z.heap s65_ "cache" s66_ (.ref ci)) (Bxi : Bxs Z ci cci s63_ "I" (256 : Int32) (fun j => .int (j - 128))) :
  own_M l Z ws y40_ jdk_33_method_22_code 1 (some (.object s63_)) ({ frames := 0, cells := 0, slots := 0, locals := 0 } : Room) #[v0_] h0 (Q_rm_iv0 Z ci cci h0 n0) := by
 refine own_open O0 (plainFor_of_name pn19_) (L0 := #[.val v0_]) ?_
 intro p e s m below meth c s₁ Bd hx hby hml hZ hh hown hnm X0 e0 N0 Z0
 refine o_il X0 hx hby D39_0 rfl ?_
 refine o_bi X0 hx hby D39_1 ?_
 refine ob_ (fun _ k => XS.icmpNo X0.here hx rfl (hb hby D39_3) rfl (flt (by decide : ¬ ((0 : Int32) < (-128 : Int32)))).1 k) ?_
 refine o_il X0 hx hby D39_6 rfl ?_
 obtain ⟨T1, X1, e1, st1⟩ := getS2 X0 hx hZ hown (host := "") (Or.inl (w_ hw 364 rfl)) Via.refl e0 (S_high.ext O0.2) (g := (mkF m 7 #[.val v0_] [v0_])) rfl (hb hby D39_7)
 refine ob_ st1 ?_
 refine ob_ (fun _ k => XS.icmpNo X1.here hx rfl (hb hby D39_10) rfl (flt (by decide : ¬ ((127 : Int32) < (0 : Int32)))).2.2.1 k) ?_
 obtain ⟨T2, X2, e2, st2⟩ := getS2 X1 hx hZ hown (host := "") (Or.inl (w_ hw 366 rfl)) Via.refl e1 (S_icache.ext O0.2) (g := (mkF m 13 #[.val v0_] [])) rfl (hb hby D39_13)
 refine ob_ st2 ?_
 refine o_il X2 hx hby D39_16 rfl ?_
 refine ob_ (fun _ k => XS.sipush X2.here hx rfl (hb hby D39_17) k) ?_
 refine ob_ (fun _ k => XS.iadd X2.here hx rfl (hb hby D39_20) rfl k) ?_
 have hj3 : ¬ ((128 : Int32) < 0 ∨ cci.slots.size ≤ ((128 : Int32)).toNatClampNeg) := inb_of Bxi.2.1 ⟨by decide, by decide⟩
 obtain ⟨x3, u3, v3, w3⟩ := Bxi.2.2.2 (128 : Int32) hj3
 have w3 : f37_ Z Z.heap x3 (.int (0 : Int32)) := w3
 refine ob_ (X2.aaload hx (j := (128 : Int32)) (v := (.ref x3)) (by rw [e2]; exact (Bxi.1.ext O0.2).1) (State.isArrayOf_alike hZ.alike Bxi.1.2.1) rfl Bxi.1.2.2 hj3 u3 (g := (mkF m 21 #[.val v0_] [(.int (128 : Int32)), (.ref ci)])) rfl rfl (hb hby D39_21)) ?_
 exact o_ra Bd X2 hx hby e2 D39_22 rfl ⟨x3, rfl, N0, rfl, ⟨v3, w3⟩⟩
def Q_rm_iv1 (Z : State) (ci : Addr) (cci : Cell) (h0 : Heap) (n0 : Nat) (v : Option Value) (h : Heap) (L : List Loc) : Prop := ∃ (bx : Addr), v = some (.ref bx) ∧ Fr n0 L ∧ h = h0 ∧ own_bx Z bx (1 : Int32)
theorem rm_iv1 (l : Launch) (Z : State) (a0 : Array Value) (hw : own_Wd Z a0) (ws : List Jvm.Cond) (ci : Addr) (cci : Cell) (h0 : Heap) (n0 : Nat) (O0 : Old Z n0 h0) (S_high : Sta Z Z.heap s65_ "high" "I" (.int (127 : Int32))) (S_icache : Sta Z Z.heap s65_ "cache" s66_ (.ref ci)) (Bxi : Bxs Z ci cci s63_ "I" (256 : Int32) (fun j => .int (j - 128))) :
  own_M l Z ws y40_ jdk_33_method_22_code 1 (some (.object s63_)) ({ frames := 0, cells := 0, slots := 0, locals := 0 } : Room) #[v1_] h0 (Q_rm_iv1 Z ci cci h0 n0) := by
 refine own_open O0 (plainFor_of_name pn19_) (L0 := #[.val v1_]) ?_
 intro p e s m below meth c s₁ Bd hx hby hml hZ hh hown hnm X0 e0 N0 Z0
 refine o_il X0 hx hby D39_0 rfl ?_
 refine o_bi X0 hx hby D39_1 ?_
 refine ob_ (fun _ k => XS.icmpNo X0.here hx rfl (hb hby D39_3) rfl (flt (by decide : ¬ ((1 : Int32) < (-128 : Int32)))).1 k) ?_
 refine o_il X0 hx hby D39_6 rfl ?_
 obtain ⟨T1, X1, e1, st1⟩ := getS2 X0 hx hZ hown (host := "") (Or.inl (w_ hw 364 rfl)) Via.refl e0 (S_high.ext O0.2) (g := (mkF m 7 #[.val v1_] [v1_])) rfl (hb hby D39_7)
 refine ob_ st1 ?_
 refine ob_ (fun _ k => XS.icmpNo X1.here hx rfl (hb hby D39_10) rfl (flt (by decide : ¬ ((127 : Int32) < (1 : Int32)))).2.2.1 k) ?_
 obtain ⟨T2, X2, e2, st2⟩ := getS2 X1 hx hZ hown (host := "") (Or.inl (w_ hw 366 rfl)) Via.refl e1 (S_icache.ext O0.2) (g := (mkF m 13 #[.val v1_] [])) rfl (hb hby D39_13)
 refine ob_ st2 ?_
 refine o_il X2 hx hby D39_16 rfl ?_
 refine ob_ (fun _ k => XS.sipush X2.here hx rfl (hb hby D39_17) k) ?_
 refine ob_ (fun _ k => XS.iadd X2.here hx rfl (hb hby D39_20) rfl k) ?_
 have hj3 : ¬ ((129 : Int32) < 0 ∨ cci.slots.size ≤ ((129 : Int32)).toNatClampNeg) := inb_of Bxi.2.1 ⟨by decide, by decide⟩
 obtain ⟨x3, u3, v3, w3⟩ := Bxi.2.2.2 (129 : Int32) hj3
 have w3 : f37_ Z Z.heap x3 (.int (1 : Int32)) := w3
 refine ob_ (X2.aaload hx (j := (129 : Int32)) (v := (.ref x3)) (by rw [e2]; exact (Bxi.1.ext O0.2).1) (State.isArrayOf_alike hZ.alike Bxi.1.2.1) rfl Bxi.1.2.2 hj3 u3 (g := (mkF m 21 #[.val v1_] [(.int (129 : Int32)), (.ref ci)])) rfl rfl (hb hby D39_21)) ?_
 exact o_ra Bd X2 hx hby e2 D39_22 rfl ⟨x3, rfl, N0, rfl, ⟨v3, w3⟩⟩
abbrev dD52 (n : Nat) (i : Instr) (k : Nat) : Prop := decode jdk_33_method_27_code n = .ok (i, k)
theorem D52_0 : dD52 0 (.aload_n 0) 1 := by decide +kernel
theorem D52_1 : dD52 1 (.getfield 205) 3 := by decide +kernel
theorem D52_4 : dD52 4 .ireturn 1 := by decide +kernel
def Q_rm_ivl (Z : State) (bx : Addr) (nn : Int32) (h0 : Heap) (n0 : Nat) (v : Option Value) (h : Heap) (L : List Loc) : Prop := v = some (.int nn) ∧ Fr n0 L ∧ h = h0
theorem rm_ivl (l : Launch) (Z : State) (a0 : Array Value) (hw : own_Wd Z a0) (ws : List Jvm.Cond) (bx : Addr) (nn : Int32) (h0 : Heap) (n0 : Nat) (O0 : Old Z n0 h0) (Fv : f37_ Z h0 bx (.int nn)) :
  own_M l Z ws y41_ jdk_33_method_27_code 1 (some .int) ({ frames := 0, cells := 0, slots := 0, locals := 0 } : Room) #[(.ref bx)] h0 (Q_rm_ivl Z bx nn h0 n0) := by
 refine own_open O0 (plainFor_of_name pn19_) (L0 := #[.val (.ref bx)]) ?_
 intro p e s m below meth c s₁ Bd hx hby hml hZ hh hown hnm X0 e0 N0 Z0
 have lt_Fv := fG Fv
 refine o_al X0 hx hby D52_0 rfl rfl ?_
 refine o_gf X0 hx hby hZ hown hw 445 rfl Via.refl e0 Fv D52_1 fun T1 X1 e1 => ?_
 exact o_ri Bd X1 hx hby e1 D52_4 ⟨rfl, N0, rfl⟩
abbrev dD42 (n : Nat) (i : Instr) (k : Nat) : Prop := decode jdk_21_method_6_code n = .ok (i, k)
theorem D42_0 : dD42 0 (.iinc 0 1) 3 := by decide +kernel
theorem D42_3 : dD42 3 (.iload_n 0) 1 := by decide +kernel
theorem D42_4 : dD42 4 (.iload_n 1) 1 := by decide +kernel
theorem D42_5 : dD42 5 (.if_icmp .lt 5) 3 := by decide +kernel
theorem D42_10 : dD42 10 (.iload_n 0) 1 := by decide +kernel
theorem D42_11 : dD42 11 .ireturn 1 := by decide +kernel
def Q_rm_inc0 (Z : State) (h0 : Heap) (n0 : Nat) (v : Option Value) (h : Heap) (L : List Loc) : Prop := v = some v1_ ∧ Fr n0 L ∧ h = h0
theorem rm_inc0 (l : Launch) (Z : State) (a0 : Array Value) (hw : own_Wd Z a0) (ws : List Jvm.Cond) (h0 : Heap) (n0 : Nat) (O0 : Old Z n0 h0) :
  own_M l Z ws y42_ jdk_21_method_6_code 2 (some .int) ({ frames := 0, cells := 0, slots := 0, locals := 0 } : Room) #[v0_, v17_] h0 (Q_rm_inc0 Z h0 n0) := by
 refine own_open O0 (plainFor_of_name pn6_) (L0 := #[.val v0_, .val v17_]) ?_
 intro p e s m below meth c s₁ Bd hx hby hml hZ hh hown hnm X0 e0 N0 Z0
 refine ob_ (fun _ k => XS.iinc X0.here hx rfl (hb hby D42_0) rfl (l' := #[.val v1_, .val v17_]) rfl k) ?_
 refine o_il X0 hx hby D42_3 rfl ?_
 refine o_il X0 hx hby D42_4 rfl ?_
 refine ob_ (fun _ k => XS.icmpYes X0.here hx rfl (pc0 := 5) (pc' := 10) rfl (hb hby D42_5) rfl (tlt (by decide : (1 : Int32) < (17 : Int32))).1 (by decide) (by decide) k) ?_
 refine o_il X0 hx hby D42_10 rfl ?_
 exact o_ri Bd X0 hx hby e0 D42_11 ⟨rfl, N0, rfl⟩
def Q_rm_inc1 (Z : State) (h0 : Heap) (n0 : Nat) (v : Option Value) (h : Heap) (L : List Loc) : Prop := v = some (.int (2 : Int32)) ∧ Fr n0 L ∧ h = h0
theorem rm_inc1 (l : Launch) (Z : State) (a0 : Array Value) (hw : own_Wd Z a0) (ws : List Jvm.Cond) (h0 : Heap) (n0 : Nat) (O0 : Old Z n0 h0) :
  own_M l Z ws y42_ jdk_21_method_6_code 2 (some .int) ({ frames := 0, cells := 0, slots := 0, locals := 0 } : Room) #[v1_, v17_] h0 (Q_rm_inc1 Z h0 n0) := by
 refine own_open O0 (plainFor_of_name pn6_) (L0 := #[.val v1_, .val v17_]) ?_
 intro p e s m below meth c s₁ Bd hx hby hml hZ hh hown hnm X0 e0 N0 Z0
 refine ob_ (fun _ k => XS.iinc X0.here hx rfl (hb hby D42_0) rfl (l' := #[.val (.int (2 : Int32)), .val v17_]) rfl k) ?_
 refine o_il X0 hx hby D42_3 rfl ?_
 refine o_il X0 hx hby D42_4 rfl ?_
 refine ob_ (fun _ k => XS.icmpYes X0.here hx rfl (pc0 := 5) (pc' := 10) rfl (hb hby D42_5) rfl (tlt (by decide : (2 : Int32) < (17 : Int32))).1 (by decide) (by decide) k) ?_
 refine o_il X0 hx hby D42_10 rfl ?_
 exact o_ri Bd X0 hx hby e0 D42_11 ⟨rfl, N0, rfl⟩
abbrev dD41 (n : Nat) (i : Instr) (k : Nat) : Prop := decode jdk_21_method_13_code n = .ok (i, k)
theorem D41_0 : dD41 0 (.aload_n 1) 1 := by decide +kernel
theorem D41_1 : dD41 1 (.ifnonnull 11) 3 := by decide +kernel
theorem D41_12 : dD41 12 (.aload_n 0) 1 := by decide +kernel
theorem D41_13 : dD41 13 (.getfield 3) 3 := by decide +kernel
theorem D41_16 : dD41 16 (.astore_n 2) 1 := by decide +kernel
theorem D41_17 : dD41 17 (.aload_n 2) 1 := by decide +kernel
theorem D41_18 : dD41 18 (.aload_n 0) 1 := by decide +kernel
theorem D41_19 : dD41 19 (.getfield 20) 3 := by decide +kernel
theorem D41_22 : dD41 22 (.aload_n 1) 1 := by decide +kernel
theorem D41_23 : dD41 23 .aastore 1 := by decide +kernel
theorem D41_24 : dD41 24 (.aload_n 0) 1 := by decide +kernel
theorem D41_25 : dD41 25 (.getfield 24) 3 := by decide +kernel
theorem D41_28 : dD41 28 (.aload_n 0) 1 := by decide +kernel
theorem D41_29 : dD41 29 (.aload_n 0) 1 := by decide +kernel
theorem D41_30 : dD41 30 (.getfield 20) 3 := by decide +kernel
theorem D41_33 : dD41 33 (.aload_n 2) 1 := by decide +kernel
theorem D41_34 : dD41 34 .arraylength 1 := by decide +kernel
theorem D41_35 : dD41 35 (.invokestatic 74) 3 := by decide +kernel
theorem D41_38 : dD41 38 .dup_x1 1 := by decide +kernel
theorem D41_39 : dD41 39 (.putfield 20) 3 := by decide +kernel
theorem D41_42 : dD41 42 (.if_icmp .ne 8) 3 := by decide +kernel
theorem D41_50 : dD41 50 .return_ 1 := by decide +kernel
def Q_rm_al0 (Z : State) (dq de : Addr) (kde : ClassId) (xx : Addr) (h0 : Heap) (n0 : Nat) (v : Option Value) (h : Heap) (L : List Loc) : Prop := v = none ∧ Fr n0 L ∧ Keep h0 h [dq, de] ∧ Exa Z h dq s57_ ∧ f34_ Z h dq v0_ ∧ f35_ Z h dq v1_ ∧ f33_ Z h dq (.ref de) ∧ Arv Z h de kde (.object s7_) (17 : Int32) [(.ref xx)] .null
theorem rm_al0 (l : Launch) (Z : State) (a0 : Array Value) (hw : own_Wd Z a0) (ws : List Jvm.Cond) (dq de : Addr) (kde : ClassId) (xx : Addr) (h0 : Heap) (n0 : Nat) (O0 : Old Z n0 h0) (Pq0 : Exa Z h0 dq s57_) (Pq1 : f34_ Z h0 dq v0_) (Pq2 : f35_ Z h0 dq v0_) (Pq3 : f33_ Z h0 dq (.ref de)) (Pq4 : Arv Z h0 de kde (.object s7_) (17 : Int32) [] .null) (Ix : Ins Z h0 xx s7_ true) (gt_dq : n0 ≤ dq) (hch : own_asc [dq, de]) (ovq : Ovr Z kde s7_) :
  own_M l Z ws y43_ jdk_21_method_13_code 3 none ({ frames := 1, cells := 0, slots := 0, locals := 15 } : Room) #[(.ref dq), (.ref xx)] h0 (Q_rm_al0 Z dq de kde xx h0 n0) := by
 refine own_open O0 (plainFor_of_name pn6_) (L0 := #[.val (.ref dq), .val (.ref xx), .unset]) ?_
 intro p e s m below meth c s₁ Bd hx hby hml hZ hh hown hnm X0 e0 N0 Z0
 have hq_hch := hch
 simp only [own_asc] at hq_hch
 have lt_Pq0 := eG Pq0
 have lt_Pq4 := vG Pq4
 refine o_al X0 hx hby D41_0 rfl rfl ?_
 refine ob_ (fun _ k => XS.ifnonnullYes X0.here hx rfl (pc0 := 1) (pc' := 12) rfl (hb hby D41_1) rfl (by decide) (by decide) k) ?_
 refine o_al X0 hx hby D41_12 rfl rfl ?_
 refine o_gf X0 hx hby hZ hown hw 320 rfl Via.refl e0 Pq3 D41_13 fun T1 X1 e1 => ?_
 refine ob_ (fun _ k => XS.astoreN X1.here hx rfl (hb hby D41_16) rfl rfl (l' := #[.val (.ref dq), .val (.ref xx), .val (.ref de)]) rfl k) ?_
 refine o_al X1 hx hby D41_17 rfl rfl ?_
 refine o_al X1 hx hby D41_18 rfl rfl ?_
 refine o_gf X1 hx hby hZ hown hw 381 rfl Via.refl e1 Pq2 D41_19 fun T2 X2 e2 => ?_
 refine o_al X2 hx hby D41_22 rfl rfl ?_
 have Vw3 : Arv Z h0 de kde (.object s7_) (17 : Int32) [.null] .null := Pq4.pad (pad_rep [] .null 1)
 obtain ⟨cl4, Ar4, q4, S4, M4, H4, G4⟩ := (id Vw3)
 have hin4 : ¬ ((0 : Int32) < 0 ∨ cl4.slots.size ≤ ((0 : Int32)).toNatClampNeg) := inb_of S4 ⟨by decide, by decide⟩
 obtain ⟨T4, h4, X4, e4, W4, st4⟩ := stR X2 hx hZ e2 Ar4 (j := (0 : Int32)) hin4 rfl (Sto.ofV Ar4 q4 ovq Ix) (g := (mkF m 23 #[.val (.ref dq), .val (.ref xx), .val (.ref de)] [(.ref xx), v0_, (.ref de)])) rfl rfl (hb hby D41_23)
 refine ob_ st4 ?_
 have z4 := W4.size
 have q_1 : own_LE n0 de := mL
 have N4 := Fr.snoc X4 N0 q_1
 have Vw4 : Arv Z h4 de kde (.object s7_) (17 : Int32) [(.ref xx)] .null := Arv.set Ar4 q4 S4 M4 H4 G4 rfl W4 0 rfl (Nat.le_of_ble_eq_true rfl)
 refine o_al X4 hx hby D41_24 rfl rfl ?_
 have q_2 : own_NE de dq := mN
 have fc5 := (Pq1.other W4 (Or.inl (uS q_2)))
 refine o_gf X4 hx hby hZ hown hw 384 rfl Via.refl e4 fc5 D41_25 fun T6 X6 e6 => ?_
 refine o_al X6 hx hby D41_28 rfl rfl ?_
 refine o_al X6 hx hby D41_29 rfl rfl ?_
 have fc7 := (Pq2.other W4 (Or.inl (uS q_2)))
 refine o_gf X6 hx hby hZ hown hw 381 rfl Via.refl e6 fc7 D41_30 fun T8 X8 e8 => ?_
 refine o_al X8 hx hby D41_33 rfl rfl ?_
 obtain ⟨cl9, Ar9, q9, S9, M9, H9, G9⟩ := (id Vw4)
 refine ob_ (X8.arraylength hx (by rw [e8]; exact Ar9.1) (State.isArrayOf_alike hZ.alike Ar9.2.1) (g := (mkF m 34 #[.val (.ref dq), .val (.ref xx), .val (.ref de)] [(.ref de), v0_, (.ref dq), v0_])) rfl rfl (hb hby D41_34)) ?_
 rw [len_of S9 M9]
 have O10 : Old Z n0 h4 := (O0.wr W4 q_1)
 refine o_ks 3 (Jvm.LawKit.callS X8 hx (y := y42_) hown (mw hZ hw 386 rfl) (mw hZ hw 387 rfl) (mw hZ hw 313 rfl) (mw hZ hw 388 rfl) (by decide) (bk 2 hZ hw 388 313 (rm_inc0 l Z a0 hw [] h4 n0 O10)) (g := (mkF m 35 #[.val (.ref dq), .val (.ref xx), .val (.ref de)] [v17_, v0_, (.ref dq), v0_])) rfl hml.symm (argsL := [v0_, v17_]) (rest := [(.ref dq), v0_]) (lenOf pd2_ rfl) rfl own_z (hb hby D41_35) (o4 e8 0 0 0 0)) fun T11 Lc11 _ X11 hQ11 => ?_
 obtain ⟨rfl, M11, K11⟩ := hQ11
 have N11 := Fr.app N4 M11
 refine ob_ (fun _ k => XS.dupX1 X11.here hx rfl (hb hby D41_38) rfl rfl rfl k) ?_
 have fc12 := (Pq0.wr W4)
 obtain ⟨T13, h13, X13, e13, W13, st13⟩ := putF X11 hx hZ hown (host := "") (Or.inl (w_ hw 381 rfl)) Via.refl K11 fc7 fc12 (Or.inl (w_ hw 382 rfl)) (w_ hw 312 rfl) (ty := .int) (by decide) rfl rfl (g := (mkF m 39 #[.val (.ref dq), .val (.ref xx), .val (.ref de)] [v1_, (.ref dq), v1_, v0_])) rfl rfl (hb hby D41_39)
 refine ob_ st13 ?_
 have z13 := W13.size
 have N13 := Fr.snoc X13 N11 gt_dq
 have Fw13 : f35_ Z h13 dq v1_ := fc7.same W13
 refine ob_ (fun _ k => XS.icmpYes X13.here hx rfl (pc0 := 42) (pc' := 50) rfl (hb hby D41_42) rfl (feq (by decide : ¬ ((0 : Int32) = (1 : Int32)))).2 (by decide) (by decide) k) ?_
 have fc14 := (fc12.wr W13)
 have fc15 := (fc5.other W13 (sO (Or.inl (w_ hw 385 rfl)) (Or.inl (w_ hw 382 rfl))))
 have fc16 := ((Pq3.other W4 (Or.inl (uS q_2))).other W13 (sO (Or.inl (w_ hw 321 rfl)) (Or.inl (w_ hw 382 rfl))))
 have fc17 := (Vw4.other W13 q_2)
 have K18 : Keep h0 h13 [dq, de] := (((Keep.refl h0 [dq, de]).wr W4 (Or.inl (List.mem_of_getElem? (i := 1) rfl))).wr W13 (Or.inl (List.mem_of_getElem? (i := 0) rfl)))
 exact o_rv Bd X13 hx hby e13 D41_50 ⟨rfl, N13, K18, fc14, fc15, Fw13, fc16, fc17⟩
abbrev dD40 (n : Nat) (i : Instr) (k : Nat) : Prop := decode jdk_21_method_28_code n = .ok (i, k)
theorem D40_0 : dD40 0 (.aload_n 0) 1 := by decide +kernel
theorem D40_1 : dD40 1 (.aload_n 1) 1 := by decide +kernel
theorem D40_2 : dD40 2 (.invokevirtual 90) 3 := by decide +kernel
theorem D40_5 : dD40 5 (.iconst 1) 1 := by decide +kernel
theorem D40_6 : dD40 6 .ireturn 1 := by decide +kernel
def Q_rm_dad0 (Z : State) (dq de : Addr) (kde : ClassId) (xx : Addr) (h0 : Heap) (n0 : Nat) (v : Option Value) (h : Heap) (L : List Loc) : Prop := v = some v1_ ∧ Fr n0 L ∧ Keep h0 h [dq, de] ∧ Exa Z h dq s57_ ∧ f34_ Z h dq v0_ ∧ f35_ Z h dq v1_ ∧ f33_ Z h dq (.ref de) ∧ Arv Z h de kde (.object s7_) (17 : Int32) [(.ref xx)] .null
theorem rm_dad0 (l : Launch) (Z : State) (a0 : Array Value) (hw : own_Wd Z a0) (ws : List Jvm.Cond) (dq de : Addr) (kde : ClassId) (xx : Addr) (h0 : Heap) (n0 : Nat) (O0 : Old Z n0 h0) (Pq0 : Exa Z h0 dq s57_) (Pq1 : f34_ Z h0 dq v0_) (Pq2 : f35_ Z h0 dq v0_) (Pq3 : f33_ Z h0 dq (.ref de)) (Pq4 : Arv Z h0 de kde (.object s7_) (17 : Int32) [] .null) (Ix : Ins Z h0 xx s7_ true) (gt_dq : n0 ≤ dq) (hch : own_asc [dq, de]) (ovq : Ovr Z kde s7_) :
  own_M l Z ws y44_ jdk_21_method_28_code 2 (some .boolean) ({ frames := 2, cells := 0, slots := 0, locals := 29 } : Room) #[(.ref dq), (.ref xx)] h0 (Q_rm_dad0 Z dq de kde xx h0 n0) := by
 refine own_open O0 (plainFor_of_name pn6_) (L0 := #[.val (.ref dq), .val (.ref xx)]) ?_
 intro p e s m below meth c s₁ Bd hx hby hml hZ hh hown hnm X0 e0 N0 Z0
 have hq_hch := hch
 simp only [own_asc] at hq_hch
 have lt_Pq0 := eG Pq0
 have lt_Pq4 := vG Pq4
 refine o_al X0 hx hby D40_0 rfl rfl ?_
 refine o_al X0 hx hby D40_1 rfl rfl ?_
 obtain ⟨cq1, kq1, q1a, q1b, q1c⟩ := isOf hZ e0 Pq0
 refine o_k 3 (X0.virtualBack hx (y := y43_) (z := y43_) hown (mw hZ hw 376 rfl) (mw hZ hw 377 rfl) (notFace_of_selects (args := #[]) (mw hZ hw 379 rfl)) (mw hZ hw 379 rfl) (mw hZ hw 378 rfl) (by decide) (bk 0 hZ hw 380 313 (rm_al0 l Z a0 hw [] dq de kde xx h0 n0 O0 Pq0 Pq1 Pq2 Pq3 Pq4 Ix gt_dq hch ovq)) q1a q1c (g := (mkF m 2 #[.val (.ref dq), .val (.ref xx)] [(.ref xx), (.ref dq)])) rfl hml.symm (Steps.refl _) (argsL := [(.ref xx)]) (rest := []) (lenOf pd21_ rfl) rfl own_z (hb hby D40_2) (o4 e0 0 0 0 0)) fun T1 Lc1 _ X1 hQ1 => ?_
 obtain ⟨rfl, M1, K1, g1_0, g1_1, g1_2, g1_3, g1_4⟩ := hQ1
 have N1 := Fr.app N0 M1
 have z1 := K1.1
 have lt_g1_0 := eG g1_0
 have lt_g1_4 := vG g1_4
 refine o_ic X1 hx hby D40_5 ?_
 have K2 : Keep h0 T1.heap [dq, de] := ((Keep.refl h0 [dq, de]).trans K1 (kI 0 rfl (kI 1 rfl all0)))
 exact o_rn Bd X1 hx hby rfl D40_6 ⟨rfl, N1, K2, g1_0, g1_1, g1_2, g1_3, g1_4⟩
def Q_rm_al1 (Z : State) (dq de : Addr) (kde : ClassId) (wa xx : Addr) (h0 : Heap) (n0 : Nat) (v : Option Value) (h : Heap) (L : List Loc) : Prop := v = none ∧ Fr n0 L ∧ Keep h0 h [dq, de] ∧ Exa Z h dq s57_ ∧ f34_ Z h dq v0_ ∧ f35_ Z h dq (.int (2 : Int32)) ∧ f33_ Z h dq (.ref de) ∧ Arv Z h de kde (.object s7_) (17 : Int32) [(.ref wa), (.ref xx)] .null
theorem rm_al1 (l : Launch) (Z : State) (a0 : Array Value) (hw : own_Wd Z a0) (ws : List Jvm.Cond) (dq de : Addr) (kde : ClassId) (wa xx : Addr) (h0 : Heap) (n0 : Nat) (O0 : Old Z n0 h0) (Pq0 : Exa Z h0 dq s57_) (Pq1 : f34_ Z h0 dq v0_) (Pq2 : f35_ Z h0 dq v1_) (Pq3 : f33_ Z h0 dq (.ref de)) (Pq4 : Arv Z h0 de kde (.object s7_) (17 : Int32) [(.ref wa)] .null) (Ix : Ins Z h0 xx s7_ true) (gt_dq : n0 ≤ dq) (hch : own_asc [dq, de]) (ovq : Ovr Z kde s7_) :
  own_M l Z ws y43_ jdk_21_method_13_code 3 none ({ frames := 1, cells := 0, slots := 0, locals := 15 } : Room) #[(.ref dq), (.ref xx)] h0 (Q_rm_al1 Z dq de kde wa xx h0 n0) := by
 refine own_open O0 (plainFor_of_name pn6_) (L0 := #[.val (.ref dq), .val (.ref xx), .unset]) ?_
 intro p e s m below meth c s₁ Bd hx hby hml hZ hh hown hnm X0 e0 N0 Z0
 have hq_hch := hch
 simp only [own_asc] at hq_hch
 have lt_Pq0 := eG Pq0
 have lt_Pq4 := vG Pq4
 refine o_al X0 hx hby D41_0 rfl rfl ?_
 refine ob_ (fun _ k => XS.ifnonnullYes X0.here hx rfl (pc0 := 1) (pc' := 12) rfl (hb hby D41_1) rfl (by decide) (by decide) k) ?_
 refine o_al X0 hx hby D41_12 rfl rfl ?_
 refine o_gf X0 hx hby hZ hown hw 320 rfl Via.refl e0 Pq3 D41_13 fun T1 X1 e1 => ?_
 refine ob_ (fun _ k => XS.astoreN X1.here hx rfl (hb hby D41_16) rfl rfl (l' := #[.val (.ref dq), .val (.ref xx), .val (.ref de)]) rfl k) ?_
 refine o_al X1 hx hby D41_17 rfl rfl ?_
 refine o_al X1 hx hby D41_18 rfl rfl ?_
 refine o_gf X1 hx hby hZ hown hw 381 rfl Via.refl e1 Pq2 D41_19 fun T2 X2 e2 => ?_
 refine o_al X2 hx hby D41_22 rfl rfl ?_
 have Vw3 : Arv Z h0 de kde (.object s7_) (17 : Int32) [(.ref wa), .null] .null := Pq4.pad (pad_rep [(.ref wa)] .null 1)
 obtain ⟨cl4, Ar4, q4, S4, M4, H4, G4⟩ := (id Vw3)
 have hin4 : ¬ ((1 : Int32) < 0 ∨ cl4.slots.size ≤ ((1 : Int32)).toNatClampNeg) := inb_of S4 ⟨by decide, by decide⟩
 obtain ⟨T4, h4, X4, e4, W4, st4⟩ := stR X2 hx hZ e2 Ar4 (j := (1 : Int32)) hin4 rfl (Sto.ofV Ar4 q4 ovq Ix) (g := (mkF m 23 #[.val (.ref dq), .val (.ref xx), .val (.ref de)] [(.ref xx), v1_, (.ref de)])) rfl rfl (hb hby D41_23)
 refine ob_ st4 ?_
 have z4 := W4.size
 have q_1 : own_LE n0 de := mL
 have N4 := Fr.snoc X4 N0 q_1
 have Vw4 : Arv Z h4 de kde (.object s7_) (17 : Int32) [(.ref wa), (.ref xx)] .null := Arv.set Ar4 q4 S4 M4 H4 G4 rfl W4 1 rfl (Nat.le_of_ble_eq_true rfl)
 refine o_al X4 hx hby D41_24 rfl rfl ?_
 have q_2 : own_NE de dq := mN
 have fc5 := (Pq1.other W4 (Or.inl (uS q_2)))
 refine o_gf X4 hx hby hZ hown hw 384 rfl Via.refl e4 fc5 D41_25 fun T6 X6 e6 => ?_
 refine o_al X6 hx hby D41_28 rfl rfl ?_
 refine o_al X6 hx hby D41_29 rfl rfl ?_
 have fc7 := (Pq2.other W4 (Or.inl (uS q_2)))
 refine o_gf X6 hx hby hZ hown hw 381 rfl Via.refl e6 fc7 D41_30 fun T8 X8 e8 => ?_
 refine o_al X8 hx hby D41_33 rfl rfl ?_
 obtain ⟨cl9, Ar9, q9, S9, M9, H9, G9⟩ := (id Vw4)
 refine ob_ (X8.arraylength hx (by rw [e8]; exact Ar9.1) (State.isArrayOf_alike hZ.alike Ar9.2.1) (g := (mkF m 34 #[.val (.ref dq), .val (.ref xx), .val (.ref de)] [(.ref de), v1_, (.ref dq), v0_])) rfl rfl (hb hby D41_34)) ?_
 rw [len_of S9 M9]
 have O10 : Old Z n0 h4 := (O0.wr W4 q_1)
 refine o_ks 3 (Jvm.LawKit.callS X8 hx (y := y42_) hown (mw hZ hw 386 rfl) (mw hZ hw 387 rfl) (mw hZ hw 313 rfl) (mw hZ hw 388 rfl) (by decide) (bk 2 hZ hw 388 313 (rm_inc1 l Z a0 hw [] h4 n0 O10)) (g := (mkF m 35 #[.val (.ref dq), .val (.ref xx), .val (.ref de)] [v17_, v1_, (.ref dq), v0_])) rfl hml.symm (argsL := [v1_, v17_]) (rest := [(.ref dq), v0_]) (lenOf pd2_ rfl) rfl own_z (hb hby D41_35) (o4 e8 0 0 0 0)) fun T11 Lc11 _ X11 hQ11 => ?_
 obtain ⟨rfl, M11, K11⟩ := hQ11
 have N11 := Fr.app N4 M11
 refine ob_ (fun _ k => XS.dupX1 X11.here hx rfl (hb hby D41_38) rfl rfl rfl k) ?_
 have fc12 := (Pq0.wr W4)
 obtain ⟨T13, h13, X13, e13, W13, st13⟩ := putF X11 hx hZ hown (host := "") (Or.inl (w_ hw 381 rfl)) Via.refl K11 fc7 fc12 (Or.inl (w_ hw 382 rfl)) (w_ hw 312 rfl) (ty := .int) (by decide) rfl rfl (g := (mkF m 39 #[.val (.ref dq), .val (.ref xx), .val (.ref de)] [(.int (2 : Int32)), (.ref dq), (.int (2 : Int32)), v0_])) rfl rfl (hb hby D41_39)
 refine ob_ st13 ?_
 have z13 := W13.size
 have N13 := Fr.snoc X13 N11 gt_dq
 have Fw13 : f35_ Z h13 dq (.int (2 : Int32)) := fc7.same W13
 refine ob_ (fun _ k => XS.icmpYes X13.here hx rfl (pc0 := 42) (pc' := 50) rfl (hb hby D41_42) rfl (feq (by decide : ¬ ((0 : Int32) = (2 : Int32)))).2 (by decide) (by decide) k) ?_
 have fc14 := (fc12.wr W13)
 have fc15 := (fc5.other W13 (sO (Or.inl (w_ hw 385 rfl)) (Or.inl (w_ hw 382 rfl))))
 have fc16 := ((Pq3.other W4 (Or.inl (uS q_2))).other W13 (sO (Or.inl (w_ hw 321 rfl)) (Or.inl (w_ hw 382 rfl))))
 have fc17 := (Vw4.other W13 q_2)
 have K18 : Keep h0 h13 [dq, de] := (((Keep.refl h0 [dq, de]).wr W4 (Or.inl (List.mem_of_getElem? (i := 1) rfl))).wr W13 (Or.inl (List.mem_of_getElem? (i := 0) rfl)))
 exact o_rv Bd X13 hx hby e13 D41_50 ⟨rfl, N13, K18, fc14, fc15, Fw13, fc16, fc17⟩
def Q_rm_dad1 (Z : State) (dq de : Addr) (kde : ClassId) (wa xx : Addr) (h0 : Heap) (n0 : Nat) (v : Option Value) (h : Heap) (L : List Loc) : Prop := v = some v1_ ∧ Fr n0 L ∧ Keep h0 h [dq, de] ∧ Exa Z h dq s57_ ∧ f34_ Z h dq v0_ ∧ f35_ Z h dq (.int (2 : Int32)) ∧ f33_ Z h dq (.ref de) ∧ Arv Z h de kde (.object s7_) (17 : Int32) [(.ref wa), (.ref xx)] .null
theorem rm_dad1 (l : Launch) (Z : State) (a0 : Array Value) (hw : own_Wd Z a0) (ws : List Jvm.Cond) (dq de : Addr) (kde : ClassId) (wa xx : Addr) (h0 : Heap) (n0 : Nat) (O0 : Old Z n0 h0) (Pq0 : Exa Z h0 dq s57_) (Pq1 : f34_ Z h0 dq v0_) (Pq2 : f35_ Z h0 dq v1_) (Pq3 : f33_ Z h0 dq (.ref de)) (Pq4 : Arv Z h0 de kde (.object s7_) (17 : Int32) [(.ref wa)] .null) (Ix : Ins Z h0 xx s7_ true) (gt_dq : n0 ≤ dq) (hch : own_asc [dq, de]) (ovq : Ovr Z kde s7_) :
  own_M l Z ws y44_ jdk_21_method_28_code 2 (some .boolean) ({ frames := 2, cells := 0, slots := 0, locals := 29 } : Room) #[(.ref dq), (.ref xx)] h0 (Q_rm_dad1 Z dq de kde wa xx h0 n0) := by
 refine own_open O0 (plainFor_of_name pn6_) (L0 := #[.val (.ref dq), .val (.ref xx)]) ?_
 intro p e s m below meth c s₁ Bd hx hby hml hZ hh hown hnm X0 e0 N0 Z0
 have hq_hch := hch
 simp only [own_asc] at hq_hch
 have lt_Pq0 := eG Pq0
 have lt_Pq4 := vG Pq4
 refine o_al X0 hx hby D40_0 rfl rfl ?_
 refine o_al X0 hx hby D40_1 rfl rfl ?_
 obtain ⟨cq1, kq1, q1a, q1b, q1c⟩ := isOf hZ e0 Pq0
 refine o_k 3 (X0.virtualBack hx (y := y43_) (z := y43_) hown (mw hZ hw 376 rfl) (mw hZ hw 377 rfl) (notFace_of_selects (args := #[]) (mw hZ hw 379 rfl)) (mw hZ hw 379 rfl) (mw hZ hw 378 rfl) (by decide) (bk 0 hZ hw 380 313 (rm_al1 l Z a0 hw [] dq de kde wa xx h0 n0 O0 Pq0 Pq1 Pq2 Pq3 Pq4 Ix gt_dq hch ovq)) q1a q1c (g := (mkF m 2 #[.val (.ref dq), .val (.ref xx)] [(.ref xx), (.ref dq)])) rfl hml.symm (Steps.refl _) (argsL := [(.ref xx)]) (rest := []) (lenOf pd21_ rfl) rfl own_z (hb hby D40_2) (o4 e0 0 0 0 0)) fun T1 Lc1 _ X1 hQ1 => ?_
 obtain ⟨rfl, M1, K1, g1_0, g1_1, g1_2, g1_3, g1_4⟩ := hQ1
 have N1 := Fr.app N0 M1
 have z1 := K1.1
 have lt_g1_0 := eG g1_0
 have lt_g1_4 := vG g1_4
 refine o_ic X1 hx hby D40_5 ?_
 have K2 : Keep h0 T1.heap [dq, de] := ((Keep.refl h0 [dq, de]).trans K1 (kI 0 rfl (kI 1 rfl all0)))
 exact o_rn Bd X1 hx hby rfl D40_6 ⟨rfl, N1, K2, g1_0, g1_1, g1_2, g1_3, g1_4⟩
abbrev dD47 (n : Nat) (i : Instr) (k : Nat) : Prop := decode jdk_21_method_38_code n = .ok (i, k)
theorem D47_0 : dD47 0 (.aload_n 0) 1 := by decide +kernel
theorem D47_1 : dD47 1 (.getfield 24) 3 := by decide +kernel
theorem D47_4 : dD47 4 (.aload_n 0) 1 := by decide +kernel
theorem D47_5 : dD47 5 (.getfield 20) 3 := by decide +kernel
theorem D47_8 : dD47 8 (.if_icmp .ne 7) 3 := by decide +kernel
theorem D47_11 : dD47 11 (.iconst 1) 1 := by decide +kernel
theorem D47_12 : dD47 12 (.goto 4) 3 := by decide +kernel
theorem D47_16 : dD47 16 .ireturn 1 := by decide +kernel
def Q_rm_empY (Z : State) (dq : Addr) (hh_ : Int32) (h0 : Heap) (n0 : Nat) (v : Option Value) (h : Heap) (L : List Loc) : Prop := v = some v1_ ∧ Fr n0 L ∧ h = h0
theorem rm_empY (l : Launch) (Z : State) (a0 : Array Value) (hw : own_Wd Z a0) (ws : List Jvm.Cond) (dq : Addr) (hh_ : Int32) (h0 : Heap) (n0 : Nat) (O0 : Old Z n0 h0) (Pq0 : f34_ Z h0 dq (.int hh_)) (Pq1 : f35_ Z h0 dq (.int hh_)) :
  own_M l Z ws y45_ jdk_21_method_38_code 1 (some .boolean) ({ frames := 0, cells := 0, slots := 0, locals := 0 } : Room) #[(.ref dq)] h0 (Q_rm_empY Z dq hh_ h0 n0) := by
 refine own_open O0 (plainFor_of_name pn6_) (L0 := #[.val (.ref dq)]) ?_
 intro p e s m below meth c s₁ Bd hx hby hml hZ hh hown hnm X0 e0 N0 Z0
 have lt_Pq0 := fG Pq0
 refine o_al X0 hx hby D47_0 rfl rfl ?_
 refine o_gf X0 hx hby hZ hown hw 384 rfl Via.refl e0 Pq0 D47_1 fun T1 X1 e1 => ?_
 refine o_al X1 hx hby D47_4 rfl rfl ?_
 refine o_gf X1 hx hby hZ hown hw 381 rfl Via.refl e1 Pq1 D47_5 fun T2 X2 e2 => ?_
 refine ob_ (fun _ k => XS.icmpNo X2.here hx rfl (hb hby D47_8) rfl (teq (rfl : hh_ = hh_)).2 k) ?_
 refine o_ic X2 hx hby D47_11 ?_
 refine ob_ (fun _ k => XS.goto X2.here hx rfl (pc0 := 12) (pc' := 16) rfl (hb hby D47_12) (by decide) (by decide) k) ?_
 exact o_rn Bd X2 hx hby e2 D47_16 ⟨rfl, N0, rfl⟩
theorem D47_15 : dD47 15 (.iconst 0) 1 := by decide +kernel
def Q_rm_empN (Z : State) (dq : Addr) (hh_ tl_ : Int32) (h0 : Heap) (n0 : Nat) (v : Option Value) (h : Heap) (L : List Loc) : Prop := v = some v0_ ∧ Fr n0 L ∧ h = h0
theorem rm_empN (l : Launch) (Z : State) (a0 : Array Value) (hw : own_Wd Z a0) (ws : List Jvm.Cond) (dq : Addr) (hh_ tl_ : Int32) (h0 : Heap) (n0 : Nat) (O0 : Old Z n0 h0) (Pq0 : f34_ Z h0 dq (.int hh_)) (Pq1 : f35_ Z h0 dq (.int tl_)) (hne : ¬ (hh_ = tl_)) :
  own_M l Z ws y45_ jdk_21_method_38_code 1 (some .boolean) ({ frames := 0, cells := 0, slots := 0, locals := 0 } : Room) #[(.ref dq)] h0 (Q_rm_empN Z dq hh_ tl_ h0 n0) := by
 refine own_open O0 (plainFor_of_name pn6_) (L0 := #[.val (.ref dq)]) ?_
 intro p e s m below meth c s₁ Bd hx hby hml hZ hh hown hnm X0 e0 N0 Z0
 have lt_Pq0 := fG Pq0
 refine o_al X0 hx hby D47_0 rfl rfl ?_
 refine o_gf X0 hx hby hZ hown hw 384 rfl Via.refl e0 Pq0 D47_1 fun T1 X1 e1 => ?_
 refine o_al X1 hx hby D47_4 rfl rfl ?_
 refine o_gf X1 hx hby hZ hown hw 381 rfl Via.refl e1 Pq1 D47_5 fun T2 X2 e2 => ?_
 refine ob_ (fun _ k => XS.icmpYes X2.here hx rfl (pc0 := 8) (pc' := 15) rfl (hb hby D47_8) rfl (feq hne).2 (by decide) (by decide) k) ?_
 refine o_ic X2 hx hby D47_15 ?_
 exact o_rn Bd X2 hx hby e2 D47_16 ⟨rfl, N0, rfl⟩
abbrev dD51 (n : Nat) (i : Instr) (k : Nat) : Prop := decode jdk_21_method_10_code n = .ok (i, k)
theorem D51_0 : dD51 0 (.aload_n 0) 1 := by decide +kernel
theorem D51_1 : dD51 1 (.iload_n 1) 1 := by decide +kernel
theorem D51_2 : dD51 2 .aaload 1 := by decide +kernel
theorem D51_3 : dD51 3 .areturn 1 := by decide +kernel
def Q_rm_ela01 (Z : State) (de : Addr) (kde : ClassId) (wa : Addr) (h0 : Heap) (n0 : Nat) (v : Option Value) (h : Heap) (L : List Loc) : Prop := v = some (.ref wa) ∧ Fr n0 L ∧ h = h0
theorem rm_ela01 (l : Launch) (Z : State) (a0 : Array Value) (hw : own_Wd Z a0) (ws : List Jvm.Cond) (de : Addr) (kde : ClassId) (wa : Addr) (h0 : Heap) (n0 : Nat) (O0 : Old Z n0 h0) (Ve : Arv Z h0 de kde (.object s7_) (17 : Int32) [(.ref wa)] .null) :
  own_M l Z ws y46_ jdk_21_method_10_code 2 (some (.object s7_)) ({ frames := 0, cells := 0, slots := 0, locals := 0 } : Room) #[(.ref de), v0_] h0 (Q_rm_ela01 Z de kde wa h0 n0) := by
 refine own_open O0 (plainFor_of_name pn6_) (L0 := #[.val (.ref de), .val v0_]) ?_
 intro p e s m below meth c s₁ Bd hx hby hml hZ hh hown hnm X0 e0 N0 Z0
 have lt_Ve := vG Ve
 refine o_al X0 hx hby D51_0 rfl rfl ?_
 refine o_il X0 hx hby D51_1 rfl ?_
 obtain ⟨cl1, Ar1, q1, S1, M1, H1, G1⟩ := (id Ve)
 have hin1 : ¬ ((0 : Int32) < 0 ∨ cl1.slots.size ≤ ((0 : Int32)).toNatClampNeg) := inb_of S1 ⟨by decide, by decide⟩
 refine ob_ (X0.aaload hx (j := (0 : Int32)) (v := (.ref wa)) (by rw [e0]; exact Ar1.1) (State.isArrayOf_alike hZ.alike Ar1.2.1) rfl Ar1.2.2 hin1 (H1.at hin1 rfl) (g := (mkF m 2 #[.val (.ref de), .val v0_] [v0_, (.ref de)])) rfl rfl (hb hby D51_2)) ?_
 exact o_ra Bd X0 hx hby e0 D51_3 rfl ⟨rfl, N0, rfl⟩
abbrev dD50 (n : Nat) (i : Instr) (k : Nat) : Prop := decode jdk_21_method_20_code n = .ok (i, k)
theorem D50_0 : dD50 0 (.aload_n 0) 1 := by decide +kernel
theorem D50_1 : dD50 1 (.getfield 3) 3 := by decide +kernel
theorem D50_4 : dD50 4 .dup 1 := by decide +kernel
theorem D50_5 : dD50 5 (.astore_n 1) 1 := by decide +kernel
theorem D50_6 : dD50 6 (.aload_n 0) 1 := by decide +kernel
theorem D50_7 : dD50 7 (.getfield 24) 3 := by decide +kernel
theorem D50_10 : dD50 10 .dup 1 := by decide +kernel
theorem D50_11 : dD50 11 (.istore_n 2) 1 := by decide +kernel
theorem D50_12 : dD50 12 (.invokestatic 103) 3 := by decide +kernel
theorem D50_15 : dD50 15 (.astore_n 3) 1 := by decide +kernel
theorem D50_16 : dD50 16 (.aload_n 3) 1 := by decide +kernel
theorem D50_17 : dD50 17 (.ifnull 17) 3 := by decide +kernel
theorem D50_20 : dD50 20 (.aload_n 1) 1 := by decide +kernel
theorem D50_21 : dD50 21 (.iload_n 2) 1 := by decide +kernel
theorem D50_22 : dD50 22 .aconst_null 1 := by decide +kernel
theorem D50_23 : dD50 23 .aastore 1 := by decide +kernel
theorem D50_24 : dD50 24 (.aload_n 0) 1 := by decide +kernel
theorem D50_25 : dD50 25 (.iload_n 2) 1 := by decide +kernel
theorem D50_26 : dD50 26 (.aload_n 1) 1 := by decide +kernel
theorem D50_27 : dD50 27 .arraylength 1 := by decide +kernel
theorem D50_28 : dD50 28 (.invokestatic 74) 3 := by decide +kernel
theorem D50_31 : dD50 31 (.putfield 24) 3 := by decide +kernel
theorem D50_34 : dD50 34 (.aload_n 3) 1 := by decide +kernel
theorem D50_35 : dD50 35 .areturn 1 := by decide +kernel
def Q_rm_pol01 (Z : State) (dq de : Addr) (kde : ClassId) (wa : Addr) (h0 : Heap) (n0 : Nat) (v : Option Value) (h : Heap) (L : List Loc) : Prop := v = some (.ref wa) ∧ Fr n0 L ∧ Keep h0 h [dq, de] ∧ Exa Z h dq s57_ ∧ f34_ Z h dq v1_ ∧ f35_ Z h dq v1_ ∧ f33_ Z h dq (.ref de) ∧ Arv Z h de kde (.object s7_) (17 : Int32) [.null] .null
theorem rm_pol01 (l : Launch) (Z : State) (a0 : Array Value) (hw : own_Wd Z a0) (ws : List Jvm.Cond) (dq de : Addr) (kde : ClassId) (wa : Addr) (h0 : Heap) (n0 : Nat) (O0 : Old Z n0 h0) (Pq0 : Exa Z h0 dq s57_) (Pq1 : f34_ Z h0 dq v0_) (Pq2 : f35_ Z h0 dq v1_) (Pq3 : f33_ Z h0 dq (.ref de)) (Pq4 : Arv Z h0 de kde (.object s7_) (17 : Int32) [(.ref wa)] .null) (gt_dq : n0 ≤ dq) (hch : own_asc [dq, de]) :
  own_M l Z ws y47_ jdk_21_method_20_code 4 (some (.object s7_)) ({ frames := 1, cells := 0, slots := 0, locals := 14 } : Room) #[(.ref dq)] h0 (Q_rm_pol01 Z dq de kde wa h0 n0) := by
 refine own_open O0 (plainFor_of_name pn6_) (L0 := #[.val (.ref dq), .unset, .unset, .unset]) ?_
 intro p e s m below meth c s₁ Bd hx hby hml hZ hh hown hnm X0 e0 N0 Z0
 have hq_hch := hch
 simp only [own_asc] at hq_hch
 have lt_Pq0 := eG Pq0
 have lt_Pq4 := vG Pq4
 refine o_al X0 hx hby D50_0 rfl rfl ?_
 refine o_gf X0 hx hby hZ hown hw 320 rfl Via.refl e0 Pq3 D50_1 fun T1 X1 e1 => ?_
 refine ob_ (fun _ k => XS.dup X1.here hx rfl (hb hby D50_4) rfl rfl k) ?_
 refine ob_ (fun _ k => XS.astoreN X1.here hx rfl (hb hby D50_5) rfl rfl (l' := #[.val (.ref dq), .val (.ref de), .unset, .unset]) rfl k) ?_
 refine o_al X1 hx hby D50_6 rfl rfl ?_
 refine o_gf X1 hx hby hZ hown hw 384 rfl Via.refl e1 Pq1 D50_7 fun T2 X2 e2 => ?_
 refine ob_ (fun _ k => XS.dup X2.here hx rfl (hb hby D50_10) rfl rfl k) ?_
 refine ob_ (fun _ k => XS.istoreN X2.here hx rfl (hb hby D50_11) rfl (l' := #[.val (.ref dq), .val (.ref de), .val v0_, .unset]) rfl k) ?_
 refine o_ks 3 (Jvm.LawKit.callS X2 hx (y := y46_) hown (mw hZ hw 435 rfl) (mw hZ hw 436 rfl) (mw hZ hw 313 rfl) (mw hZ hw 437 rfl) (by decide) (bk 0 hZ hw 437 313 (rm_ela01 l Z a0 hw [] de kde wa h0 n0 O0 Pq4)) (g := (mkF m 12 #[.val (.ref dq), .val (.ref de), .val v0_, .unset] [v0_, (.ref de)])) rfl hml.symm (argsL := [(.ref de), v0_]) (rest := []) (lenOf pd22_ rfl) rfl own_z (hb hby D50_12) (o4 e2 0 0 0 0)) fun T3 Lc3 _ X3 hQ3 => ?_
 obtain ⟨rfl, M3, K3⟩ := hQ3
 have N3 := Fr.app N0 M3
 refine ob_ (fun _ k => XS.astoreN X3.here hx rfl (hb hby D50_15) rfl rfl (l' := #[.val (.ref dq), .val (.ref de), .val v0_, .val (.ref wa)]) rfl k) ?_
 refine o_al X3 hx hby D50_16 rfl rfl ?_
 refine ob_ (fun _ k => XS.ifnullNo X3.here hx rfl (hb hby D50_17) rfl k) ?_
 refine o_al X3 hx hby D50_20 rfl rfl ?_
 refine o_il X3 hx hby D50_21 rfl ?_
 refine ob_ (fun _ k => XS.aconstNull X3.here hx rfl (hb hby D50_22) k) ?_
 obtain ⟨cl4, Ar4, q4, S4, M4, H4, G4⟩ := (id Pq4)
 have hin4 : ¬ ((0 : Int32) < 0 ∨ cl4.slots.size ≤ ((0 : Int32)).toNatClampNeg) := inb_of S4 ⟨by decide, by decide⟩
 obtain ⟨T4, h4, X4, e4, W4, st4⟩ := stR X3 hx hZ K3 Ar4 (j := (0 : Int32)) hin4 rfl (Or.inl rfl) (g := (mkF m 23 #[.val (.ref dq), .val (.ref de), .val v0_, .val (.ref wa)] [.null, v0_, (.ref de)])) rfl rfl (hb hby D50_23)
 refine ob_ st4 ?_
 have z4 := W4.size
 have q_1 : own_LE n0 de := mL
 have N4 := Fr.snoc X4 N3 q_1
 have Vw4 : Arv Z h4 de kde (.object s7_) (17 : Int32) [.null] .null := Arv.set Ar4 q4 S4 M4 H4 G4 rfl W4 0 rfl (Nat.le_of_ble_eq_true rfl)
 refine o_al X4 hx hby D50_24 rfl rfl ?_
 refine o_il X4 hx hby D50_25 rfl ?_
 refine o_al X4 hx hby D50_26 rfl rfl ?_
 obtain ⟨cl5, Ar5, q5, S5, M5, H5, G5⟩ := (id Vw4)
 refine ob_ (X4.arraylength hx (by rw [e4]; exact Ar5.1) (State.isArrayOf_alike hZ.alike Ar5.2.1) (g := (mkF m 27 #[.val (.ref dq), .val (.ref de), .val v0_, .val (.ref wa)] [(.ref de), v0_, (.ref dq)])) rfl rfl (hb hby D50_27)) ?_
 rw [len_of S5 M5]
 have O6 : Old Z n0 h4 := (O0.wr W4 q_1)
 refine o_ks 3 (Jvm.LawKit.callS X4 hx (y := y42_) hown (mw hZ hw 386 rfl) (mw hZ hw 387 rfl) (mw hZ hw 313 rfl) (mw hZ hw 388 rfl) (by decide) (bk 1 hZ hw 388 313 (rm_inc0 l Z a0 hw [] h4 n0 O6)) (g := (mkF m 28 #[.val (.ref dq), .val (.ref de), .val v0_, .val (.ref wa)] [v17_, v0_, (.ref dq)])) rfl hml.symm (argsL := [v0_, v17_]) (rest := [(.ref dq)]) (lenOf pd2_ rfl) rfl own_z (hb hby D50_28) (o4 e4 0 0 0 0)) fun T7 Lc7 _ X7 hQ7 => ?_
 obtain ⟨rfl, M7, K7⟩ := hQ7
 have N7 := Fr.app N4 M7
 have q_2 : own_NE de dq := mN
 have fc8 := (Pq1.other W4 (Or.inl (uS q_2)))
 have fc9 := (Pq0.wr W4)
 obtain ⟨T10, h10, X10, e10, W10, st10⟩ := putF X7 hx hZ hown (host := "") (Or.inl (w_ hw 384 rfl)) Via.refl K7 fc8 fc9 (Or.inl (w_ hw 385 rfl)) (w_ hw 312 rfl) (ty := .int) (by decide) rfl rfl (g := (mkF m 31 #[.val (.ref dq), .val (.ref de), .val v0_, .val (.ref wa)] [v1_, (.ref dq)])) rfl rfl (hb hby D50_31)
 refine ob_ st10 ?_
 have z10 := W10.size
 have N10 := Fr.snoc X10 N7 gt_dq
 have Fw10 : f34_ Z h10 dq v1_ := fc8.same W10
 refine o_al X10 hx hby D50_34 rfl rfl ?_
 have fc11 := (fc9.wr W10)
 have fc12 := ((Pq2.other W4 (Or.inl (uS q_2))).other W10 (sO (Or.inl (w_ hw 382 rfl)) (Or.inl (w_ hw 385 rfl))))
 have fc13 := ((Pq3.other W4 (Or.inl (uS q_2))).other W10 (sO (Or.inl (w_ hw 321 rfl)) (Or.inl (w_ hw 385 rfl))))
 have fc14 := (Vw4.other W10 q_2)
 have K15 : Keep h0 h10 [dq, de] := (((Keep.refl h0 [dq, de]).wr W4 (Or.inl (List.mem_of_getElem? (i := 1) rfl))).wr W10 (Or.inl (List.mem_of_getElem? (i := 0) rfl)))
 exact o_ra Bd X10 hx hby e10 D50_35 rfl ⟨rfl, N10, K15, fc11, Fw10, fc12, fc13, fc14⟩
abbrev dD49 (n : Nat) (i : Instr) (k : Nat) : Prop := decode jdk_21_method_18_code n = .ok (i, k)
theorem D49_0 : dD49 0 (.aload_n 0) 1 := by decide +kernel
theorem D49_1 : dD49 1 (.invokevirtual 93) 3 := by decide +kernel
theorem D49_4 : dD49 4 (.astore_n 1) 1 := by decide +kernel
theorem D49_5 : dD49 5 (.aload_n 1) 1 := by decide +kernel
theorem D49_6 : dD49 6 (.ifnonnull 11) 3 := by decide +kernel
theorem D49_17 : dD49 17 (.aload_n 1) 1 := by decide +kernel
theorem D49_18 : dD49 18 .areturn 1 := by decide +kernel
def Q_rm_rmf01 (Z : State) (dq de : Addr) (kde : ClassId) (wa : Addr) (h0 : Heap) (n0 : Nat) (v : Option Value) (h : Heap) (L : List Loc) : Prop := v = some (.ref wa) ∧ Fr n0 L ∧ Keep h0 h [dq, de] ∧ Exa Z h dq s57_ ∧ f34_ Z h dq v1_ ∧ f35_ Z h dq v1_ ∧ f33_ Z h dq (.ref de) ∧ Arv Z h de kde (.object s7_) (17 : Int32) [.null] .null
theorem rm_rmf01 (l : Launch) (Z : State) (a0 : Array Value) (hw : own_Wd Z a0) (ws : List Jvm.Cond) (dq de : Addr) (kde : ClassId) (wa : Addr) (h0 : Heap) (n0 : Nat) (O0 : Old Z n0 h0) (Pq0 : Exa Z h0 dq s57_) (Pq1 : f34_ Z h0 dq v0_) (Pq2 : f35_ Z h0 dq v1_) (Pq3 : f33_ Z h0 dq (.ref de)) (Pq4 : Arv Z h0 de kde (.object s7_) (17 : Int32) [(.ref wa)] .null) (gt_dq : n0 ≤ dq) (hch : own_asc [dq, de]) :
  own_M l Z ws y48_ jdk_21_method_18_code 2 (some (.object s7_)) ({ frames := 2, cells := 0, slots := 0, locals := 29 } : Room) #[(.ref dq)] h0 (Q_rm_rmf01 Z dq de kde wa h0 n0) := by
 refine own_open O0 (plainFor_of_name pn6_) (L0 := #[.val (.ref dq), .unset]) ?_
 intro p e s m below meth c s₁ Bd hx hby hml hZ hh hown hnm X0 e0 N0 Z0
 have hq_hch := hch
 simp only [own_asc] at hq_hch
 have lt_Pq0 := eG Pq0
 have lt_Pq4 := vG Pq4
 refine o_al X0 hx hby D49_0 rfl rfl ?_
 obtain ⟨cq1, kq1, q1a, q1b, q1c⟩ := isOf hZ e0 Pq0
 refine o_k 3 (X0.virtualBack hx (y := y47_) (z := y47_) hown (mw hZ hw 430 rfl) (mw hZ hw 431 rfl) (notFace_of_selects (args := #[]) (mw hZ hw 433 rfl)) (mw hZ hw 433 rfl) (mw hZ hw 432 rfl) (by decide) (bk 0 hZ hw 434 313 (rm_pol01 l Z a0 hw [] dq de kde wa h0 n0 O0 Pq0 Pq1 Pq2 Pq3 Pq4 gt_dq hch)) q1a q1c (g := (mkF m 1 #[.val (.ref dq), .unset] [(.ref dq)])) rfl hml.symm (Steps.refl _) (argsL := []) (rest := []) (lenOf pd23_ rfl) rfl own_z (hb hby D49_1) (o4 e0 0 0 0 0)) fun T1 Lc1 _ X1 hQ1 => ?_
 obtain ⟨rfl, M1, K1, g1_0, g1_1, g1_2, g1_3, g1_4⟩ := hQ1
 have N1 := Fr.app N0 M1
 have z1 := K1.1
 have lt_g1_0 := eG g1_0
 have lt_g1_4 := vG g1_4
 refine ob_ (fun _ k => XS.astoreN X1.here hx rfl (hb hby D49_4) rfl rfl (l' := #[.val (.ref dq), .val (.ref wa)]) rfl k) ?_
 refine o_al X1 hx hby D49_5 rfl rfl ?_
 refine ob_ (fun _ k => XS.ifnonnullYes X1.here hx rfl (pc0 := 6) (pc' := 17) rfl (hb hby D49_6) rfl (by decide) (by decide) k) ?_
 refine o_al X1 hx hby D49_17 rfl rfl ?_
 have K2 : Keep h0 T1.heap [dq, de] := ((Keep.refl h0 [dq, de]).trans K1 (kI 0 rfl (kI 1 rfl all0)))
 exact o_ra Bd X1 hx hby rfl D49_18 rfl ⟨rfl, N1, K2, g1_0, g1_1, g1_2, g1_3, g1_4⟩
abbrev dD48 (n : Nat) (i : Instr) (k : Nat) : Prop := decode jdk_21_method_30_code n = .ok (i, k)
theorem D48_0 : dD48 0 (.aload_n 0) 1 := by decide +kernel
theorem D48_1 : dD48 1 (.invokevirtual 118) 3 := by decide +kernel
theorem D48_4 : dD48 4 .areturn 1 := by decide +kernel
def Q_rm_rem01 (Z : State) (dq de : Addr) (kde : ClassId) (wa : Addr) (h0 : Heap) (n0 : Nat) (v : Option Value) (h : Heap) (L : List Loc) : Prop := v = some (.ref wa) ∧ Fr n0 L ∧ Keep h0 h [dq, de] ∧ Exa Z h dq s57_ ∧ f34_ Z h dq v1_ ∧ f35_ Z h dq v1_ ∧ f33_ Z h dq (.ref de) ∧ Arv Z h de kde (.object s7_) (17 : Int32) [.null] .null
theorem rm_rem01 (l : Launch) (Z : State) (a0 : Array Value) (hw : own_Wd Z a0) (ws : List Jvm.Cond) (dq de : Addr) (kde : ClassId) (wa : Addr) (h0 : Heap) (n0 : Nat) (O0 : Old Z n0 h0) (Pq0 : Exa Z h0 dq s57_) (Pq1 : f34_ Z h0 dq v0_) (Pq2 : f35_ Z h0 dq v1_) (Pq3 : f33_ Z h0 dq (.ref de)) (Pq4 : Arv Z h0 de kde (.object s7_) (17 : Int32) [(.ref wa)] .null) (gt_dq : n0 ≤ dq) (hch : own_asc [dq, de]) :
  own_M l Z ws y49_ jdk_21_method_30_code 1 (some (.object s7_)) ({ frames := 3, cells := 0, slots := 0, locals := 42 } : Room) #[(.ref dq)] h0 (Q_rm_rem01 Z dq de kde wa h0 n0) := by
 refine own_open O0 (plainFor_of_name pn6_) (L0 := #[.val (.ref dq)]) ?_
 intro p e s m below meth c s₁ Bd hx hby hml hZ hh hown hnm X0 e0 N0 Z0
 have hq_hch := hch
 simp only [own_asc] at hq_hch
 have lt_Pq0 := eG Pq0
 have lt_Pq4 := vG Pq4
 refine o_al X0 hx hby D48_0 rfl rfl ?_
 obtain ⟨cq1, kq1, q1a, q1b, q1c⟩ := isOf hZ e0 Pq0
 refine o_k 3 (X0.virtualBack hx (y := y48_) (z := y48_) hown (mw hZ hw 425 rfl) (mw hZ hw 426 rfl) (notFace_of_selects (args := #[]) (mw hZ hw 428 rfl)) (mw hZ hw 428 rfl) (mw hZ hw 427 rfl) (by decide) (bk 0 hZ hw 429 313 (rm_rmf01 l Z a0 hw [] dq de kde wa h0 n0 O0 Pq0 Pq1 Pq2 Pq3 Pq4 gt_dq hch)) q1a q1c (g := (mkF m 1 #[.val (.ref dq)] [(.ref dq)])) rfl hml.symm (Steps.refl _) (argsL := []) (rest := []) (lenOf pd23_ rfl) rfl own_z (hb hby D48_1) (o4 e0 0 0 0 0)) fun T1 Lc1 _ X1 hQ1 => ?_
 obtain ⟨rfl, M1, K1, g1_0, g1_1, g1_2, g1_3, g1_4⟩ := hQ1
 have N1 := Fr.app N0 M1
 have z1 := K1.1
 have lt_g1_0 := eG g1_0
 have lt_g1_4 := vG g1_4
 have K2 : Keep h0 T1.heap [dq, de] := ((Keep.refl h0 [dq, de]).trans K1 (kI 0 rfl (kI 1 rfl all0)))
 exact o_ra Bd X1 hx hby rfl D48_4 rfl ⟨rfl, N1, K2, g1_0, g1_1, g1_2, g1_3, g1_4⟩
def Q_rm_ela02 (Z : State) (de : Addr) (kde : ClassId) (wa wb : Addr) (h0 : Heap) (n0 : Nat) (v : Option Value) (h : Heap) (L : List Loc) : Prop := v = some (.ref wa) ∧ Fr n0 L ∧ h = h0
theorem rm_ela02 (l : Launch) (Z : State) (a0 : Array Value) (hw : own_Wd Z a0) (ws : List Jvm.Cond) (de : Addr) (kde : ClassId) (wa wb : Addr) (h0 : Heap) (n0 : Nat) (O0 : Old Z n0 h0) (Ve : Arv Z h0 de kde (.object s7_) (17 : Int32) [(.ref wa), (.ref wb)] .null) :
  own_M l Z ws y46_ jdk_21_method_10_code 2 (some (.object s7_)) ({ frames := 0, cells := 0, slots := 0, locals := 0 } : Room) #[(.ref de), v0_] h0 (Q_rm_ela02 Z de kde wa wb h0 n0) := by
 refine own_open O0 (plainFor_of_name pn6_) (L0 := #[.val (.ref de), .val v0_]) ?_
 intro p e s m below meth c s₁ Bd hx hby hml hZ hh hown hnm X0 e0 N0 Z0
 have lt_Ve := vG Ve
 refine o_al X0 hx hby D51_0 rfl rfl ?_
 refine o_il X0 hx hby D51_1 rfl ?_
 obtain ⟨cl1, Ar1, q1, S1, M1, H1, G1⟩ := (id Ve)
 have hin1 : ¬ ((0 : Int32) < 0 ∨ cl1.slots.size ≤ ((0 : Int32)).toNatClampNeg) := inb_of S1 ⟨by decide, by decide⟩
 refine ob_ (X0.aaload hx (j := (0 : Int32)) (v := (.ref wa)) (by rw [e0]; exact Ar1.1) (State.isArrayOf_alike hZ.alike Ar1.2.1) rfl Ar1.2.2 hin1 (H1.at hin1 rfl) (g := (mkF m 2 #[.val (.ref de), .val v0_] [v0_, (.ref de)])) rfl rfl (hb hby D51_2)) ?_
 exact o_ra Bd X0 hx hby e0 D51_3 rfl ⟨rfl, N0, rfl⟩
def Q_rm_pol02 (Z : State) (dq de : Addr) (kde : ClassId) (wa wb : Addr) (h0 : Heap) (n0 : Nat) (v : Option Value) (h : Heap) (L : List Loc) : Prop := v = some (.ref wa) ∧ Fr n0 L ∧ Keep h0 h [dq, de] ∧ Exa Z h dq s57_ ∧ f34_ Z h dq v1_ ∧ f35_ Z h dq (.int (2 : Int32)) ∧ f33_ Z h dq (.ref de) ∧ Arv Z h de kde (.object s7_) (17 : Int32) [.null, (.ref wb)] .null
theorem rm_pol02 (l : Launch) (Z : State) (a0 : Array Value) (hw : own_Wd Z a0) (ws : List Jvm.Cond) (dq de : Addr) (kde : ClassId) (wa wb : Addr) (h0 : Heap) (n0 : Nat) (O0 : Old Z n0 h0) (Pq0 : Exa Z h0 dq s57_) (Pq1 : f34_ Z h0 dq v0_) (Pq2 : f35_ Z h0 dq (.int (2 : Int32))) (Pq3 : f33_ Z h0 dq (.ref de)) (Pq4 : Arv Z h0 de kde (.object s7_) (17 : Int32) [(.ref wa), (.ref wb)] .null) (gt_dq : n0 ≤ dq) (hch : own_asc [dq, de]) :
  own_M l Z ws y47_ jdk_21_method_20_code 4 (some (.object s7_)) ({ frames := 1, cells := 0, slots := 0, locals := 14 } : Room) #[(.ref dq)] h0 (Q_rm_pol02 Z dq de kde wa wb h0 n0) := by
 refine own_open O0 (plainFor_of_name pn6_) (L0 := #[.val (.ref dq), .unset, .unset, .unset]) ?_
 intro p e s m below meth c s₁ Bd hx hby hml hZ hh hown hnm X0 e0 N0 Z0
 have hq_hch := hch
 simp only [own_asc] at hq_hch
 have lt_Pq0 := eG Pq0
 have lt_Pq4 := vG Pq4
 refine o_al X0 hx hby D50_0 rfl rfl ?_
 refine o_gf X0 hx hby hZ hown hw 320 rfl Via.refl e0 Pq3 D50_1 fun T1 X1 e1 => ?_
 refine ob_ (fun _ k => XS.dup X1.here hx rfl (hb hby D50_4) rfl rfl k) ?_
 refine ob_ (fun _ k => XS.astoreN X1.here hx rfl (hb hby D50_5) rfl rfl (l' := #[.val (.ref dq), .val (.ref de), .unset, .unset]) rfl k) ?_
 refine o_al X1 hx hby D50_6 rfl rfl ?_
 refine o_gf X1 hx hby hZ hown hw 384 rfl Via.refl e1 Pq1 D50_7 fun T2 X2 e2 => ?_
 refine ob_ (fun _ k => XS.dup X2.here hx rfl (hb hby D50_10) rfl rfl k) ?_
 refine ob_ (fun _ k => XS.istoreN X2.here hx rfl (hb hby D50_11) rfl (l' := #[.val (.ref dq), .val (.ref de), .val v0_, .unset]) rfl k) ?_
 refine o_ks 3 (Jvm.LawKit.callS X2 hx (y := y46_) hown (mw hZ hw 435 rfl) (mw hZ hw 436 rfl) (mw hZ hw 313 rfl) (mw hZ hw 437 rfl) (by decide) (bk 0 hZ hw 437 313 (rm_ela02 l Z a0 hw [] de kde wa wb h0 n0 O0 Pq4)) (g := (mkF m 12 #[.val (.ref dq), .val (.ref de), .val v0_, .unset] [v0_, (.ref de)])) rfl hml.symm (argsL := [(.ref de), v0_]) (rest := []) (lenOf pd22_ rfl) rfl own_z (hb hby D50_12) (o4 e2 0 0 0 0)) fun T3 Lc3 _ X3 hQ3 => ?_
 obtain ⟨rfl, M3, K3⟩ := hQ3
 have N3 := Fr.app N0 M3
 refine ob_ (fun _ k => XS.astoreN X3.here hx rfl (hb hby D50_15) rfl rfl (l' := #[.val (.ref dq), .val (.ref de), .val v0_, .val (.ref wa)]) rfl k) ?_
 refine o_al X3 hx hby D50_16 rfl rfl ?_
 refine ob_ (fun _ k => XS.ifnullNo X3.here hx rfl (hb hby D50_17) rfl k) ?_
 refine o_al X3 hx hby D50_20 rfl rfl ?_
 refine o_il X3 hx hby D50_21 rfl ?_
 refine ob_ (fun _ k => XS.aconstNull X3.here hx rfl (hb hby D50_22) k) ?_
 obtain ⟨cl4, Ar4, q4, S4, M4, H4, G4⟩ := (id Pq4)
 have hin4 : ¬ ((0 : Int32) < 0 ∨ cl4.slots.size ≤ ((0 : Int32)).toNatClampNeg) := inb_of S4 ⟨by decide, by decide⟩
 obtain ⟨T4, h4, X4, e4, W4, st4⟩ := stR X3 hx hZ K3 Ar4 (j := (0 : Int32)) hin4 rfl (Or.inl rfl) (g := (mkF m 23 #[.val (.ref dq), .val (.ref de), .val v0_, .val (.ref wa)] [.null, v0_, (.ref de)])) rfl rfl (hb hby D50_23)
 refine ob_ st4 ?_
 have z4 := W4.size
 have q_1 : own_LE n0 de := mL
 have N4 := Fr.snoc X4 N3 q_1
 have Vw4 : Arv Z h4 de kde (.object s7_) (17 : Int32) [.null, (.ref wb)] .null := Arv.set Ar4 q4 S4 M4 H4 G4 rfl W4 0 rfl (Nat.le_of_ble_eq_true rfl)
 refine o_al X4 hx hby D50_24 rfl rfl ?_
 refine o_il X4 hx hby D50_25 rfl ?_
 refine o_al X4 hx hby D50_26 rfl rfl ?_
 obtain ⟨cl5, Ar5, q5, S5, M5, H5, G5⟩ := (id Vw4)
 refine ob_ (X4.arraylength hx (by rw [e4]; exact Ar5.1) (State.isArrayOf_alike hZ.alike Ar5.2.1) (g := (mkF m 27 #[.val (.ref dq), .val (.ref de), .val v0_, .val (.ref wa)] [(.ref de), v0_, (.ref dq)])) rfl rfl (hb hby D50_27)) ?_
 rw [len_of S5 M5]
 have O6 : Old Z n0 h4 := (O0.wr W4 q_1)
 refine o_ks 3 (Jvm.LawKit.callS X4 hx (y := y42_) hown (mw hZ hw 386 rfl) (mw hZ hw 387 rfl) (mw hZ hw 313 rfl) (mw hZ hw 388 rfl) (by decide) (bk 1 hZ hw 388 313 (rm_inc0 l Z a0 hw [] h4 n0 O6)) (g := (mkF m 28 #[.val (.ref dq), .val (.ref de), .val v0_, .val (.ref wa)] [v17_, v0_, (.ref dq)])) rfl hml.symm (argsL := [v0_, v17_]) (rest := [(.ref dq)]) (lenOf pd2_ rfl) rfl own_z (hb hby D50_28) (o4 e4 0 0 0 0)) fun T7 Lc7 _ X7 hQ7 => ?_
 obtain ⟨rfl, M7, K7⟩ := hQ7
 have N7 := Fr.app N4 M7
 have q_2 : own_NE de dq := mN
 have fc8 := (Pq1.other W4 (Or.inl (uS q_2)))
 have fc9 := (Pq0.wr W4)
 obtain ⟨T10, h10, X10, e10, W10, st10⟩ := putF X7 hx hZ hown (host := "") (Or.inl (w_ hw 384 rfl)) Via.refl K7 fc8 fc9 (Or.inl (w_ hw 385 rfl)) (w_ hw 312 rfl) (ty := .int) (by decide) rfl rfl (g := (mkF m 31 #[.val (.ref dq), .val (.ref de), .val v0_, .val (.ref wa)] [v1_, (.ref dq)])) rfl rfl (hb hby D50_31)
 refine ob_ st10 ?_
 have z10 := W10.size
 have N10 := Fr.snoc X10 N7 gt_dq
 have Fw10 : f34_ Z h10 dq v1_ := fc8.same W10
 refine o_al X10 hx hby D50_34 rfl rfl ?_
 have fc11 := (fc9.wr W10)
 have fc12 := ((Pq2.other W4 (Or.inl (uS q_2))).other W10 (sO (Or.inl (w_ hw 382 rfl)) (Or.inl (w_ hw 385 rfl))))
 have fc13 := ((Pq3.other W4 (Or.inl (uS q_2))).other W10 (sO (Or.inl (w_ hw 321 rfl)) (Or.inl (w_ hw 385 rfl))))
 have fc14 := (Vw4.other W10 q_2)
 have K15 : Keep h0 h10 [dq, de] := (((Keep.refl h0 [dq, de]).wr W4 (Or.inl (List.mem_of_getElem? (i := 1) rfl))).wr W10 (Or.inl (List.mem_of_getElem? (i := 0) rfl)))
 exact o_ra Bd X10 hx hby e10 D50_35 rfl ⟨rfl, N10, K15, fc11, Fw10, fc12, fc13, fc14⟩
def Q_rm_rmf02 (Z : State) (dq de : Addr) (kde : ClassId) (wa wb : Addr) (h0 : Heap) (n0 : Nat) (v : Option Value) (h : Heap) (L : List Loc) : Prop := v = some (.ref wa) ∧ Fr n0 L ∧ Keep h0 h [dq, de] ∧ Exa Z h dq s57_ ∧ f34_ Z h dq v1_ ∧ f35_ Z h dq (.int (2 : Int32)) ∧ f33_ Z h dq (.ref de) ∧ Arv Z h de kde (.object s7_) (17 : Int32) [.null, (.ref wb)] .null
theorem rm_rmf02 (l : Launch) (Z : State) (a0 : Array Value) (hw : own_Wd Z a0) (ws : List Jvm.Cond) (dq de : Addr) (kde : ClassId) (wa wb : Addr) (h0 : Heap) (n0 : Nat) (O0 : Old Z n0 h0) (Pq0 : Exa Z h0 dq s57_) (Pq1 : f34_ Z h0 dq v0_) (Pq2 : f35_ Z h0 dq (.int (2 : Int32))) (Pq3 : f33_ Z h0 dq (.ref de)) (Pq4 : Arv Z h0 de kde (.object s7_) (17 : Int32) [(.ref wa), (.ref wb)] .null) (gt_dq : n0 ≤ dq) (hch : own_asc [dq, de]) :
  own_M l Z ws y48_ jdk_21_method_18_code 2 (some (.object s7_)) ({ frames := 2, cells := 0, slots := 0, locals := 29 } : Room) #[(.ref dq)] h0 (Q_rm_rmf02 Z dq de kde wa wb h0 n0) := by
 refine own_open O0 (plainFor_of_name pn6_) (L0 := #[.val (.ref dq), .unset]) ?_
 intro p e s m below meth c s₁ Bd hx hby hml hZ hh hown hnm X0 e0 N0 Z0
 have hq_hch := hch
 simp only [own_asc] at hq_hch
 have lt_Pq0 := eG Pq0
 have lt_Pq4 := vG Pq4
 refine o_al X0 hx hby D49_0 rfl rfl ?_
 obtain ⟨cq1, kq1, q1a, q1b, q1c⟩ := isOf hZ e0 Pq0
 refine o_k 3 (X0.virtualBack hx (y := y47_) (z := y47_) hown (mw hZ hw 430 rfl) (mw hZ hw 431 rfl) (notFace_of_selects (args := #[]) (mw hZ hw 433 rfl)) (mw hZ hw 433 rfl) (mw hZ hw 432 rfl) (by decide) (bk 0 hZ hw 434 313 (rm_pol02 l Z a0 hw [] dq de kde wa wb h0 n0 O0 Pq0 Pq1 Pq2 Pq3 Pq4 gt_dq hch)) q1a q1c (g := (mkF m 1 #[.val (.ref dq), .unset] [(.ref dq)])) rfl hml.symm (Steps.refl _) (argsL := []) (rest := []) (lenOf pd23_ rfl) rfl own_z (hb hby D49_1) (o4 e0 0 0 0 0)) fun T1 Lc1 _ X1 hQ1 => ?_
 obtain ⟨rfl, M1, K1, g1_0, g1_1, g1_2, g1_3, g1_4⟩ := hQ1
 have N1 := Fr.app N0 M1
 have z1 := K1.1
 have lt_g1_0 := eG g1_0
 have lt_g1_4 := vG g1_4
 refine ob_ (fun _ k => XS.astoreN X1.here hx rfl (hb hby D49_4) rfl rfl (l' := #[.val (.ref dq), .val (.ref wa)]) rfl k) ?_
 refine o_al X1 hx hby D49_5 rfl rfl ?_
 refine ob_ (fun _ k => XS.ifnonnullYes X1.here hx rfl (pc0 := 6) (pc' := 17) rfl (hb hby D49_6) rfl (by decide) (by decide) k) ?_
 refine o_al X1 hx hby D49_17 rfl rfl ?_
 have K2 : Keep h0 T1.heap [dq, de] := ((Keep.refl h0 [dq, de]).trans K1 (kI 0 rfl (kI 1 rfl all0)))
 exact o_ra Bd X1 hx hby rfl D49_18 rfl ⟨rfl, N1, K2, g1_0, g1_1, g1_2, g1_3, g1_4⟩
def Q_rm_rem02 (Z : State) (dq de : Addr) (kde : ClassId) (wa wb : Addr) (h0 : Heap) (n0 : Nat) (v : Option Value) (h : Heap) (L : List Loc) : Prop := v = some (.ref wa) ∧ Fr n0 L ∧ Keep h0 h [dq, de] ∧ Exa Z h dq s57_ ∧ f34_ Z h dq v1_ ∧ f35_ Z h dq (.int (2 : Int32)) ∧ f33_ Z h dq (.ref de) ∧ Arv Z h de kde (.object s7_) (17 : Int32) [.null, (.ref wb)] .null
theorem rm_rem02 (l : Launch) (Z : State) (a0 : Array Value) (hw : own_Wd Z a0) (ws : List Jvm.Cond) (dq de : Addr) (kde : ClassId) (wa wb : Addr) (h0 : Heap) (n0 : Nat) (O0 : Old Z n0 h0) (Pq0 : Exa Z h0 dq s57_) (Pq1 : f34_ Z h0 dq v0_) (Pq2 : f35_ Z h0 dq (.int (2 : Int32))) (Pq3 : f33_ Z h0 dq (.ref de)) (Pq4 : Arv Z h0 de kde (.object s7_) (17 : Int32) [(.ref wa), (.ref wb)] .null) (gt_dq : n0 ≤ dq) (hch : own_asc [dq, de]) :
  own_M l Z ws y49_ jdk_21_method_30_code 1 (some (.object s7_)) ({ frames := 3, cells := 0, slots := 0, locals := 42 } : Room) #[(.ref dq)] h0 (Q_rm_rem02 Z dq de kde wa wb h0 n0) := by
 refine own_open O0 (plainFor_of_name pn6_) (L0 := #[.val (.ref dq)]) ?_
 intro p e s m below meth c s₁ Bd hx hby hml hZ hh hown hnm X0 e0 N0 Z0
 have hq_hch := hch
 simp only [own_asc] at hq_hch
 have lt_Pq0 := eG Pq0
 have lt_Pq4 := vG Pq4
 refine o_al X0 hx hby D48_0 rfl rfl ?_
 obtain ⟨cq1, kq1, q1a, q1b, q1c⟩ := isOf hZ e0 Pq0
 refine o_k 3 (X0.virtualBack hx (y := y48_) (z := y48_) hown (mw hZ hw 425 rfl) (mw hZ hw 426 rfl) (notFace_of_selects (args := #[]) (mw hZ hw 428 rfl)) (mw hZ hw 428 rfl) (mw hZ hw 427 rfl) (by decide) (bk 0 hZ hw 429 313 (rm_rmf02 l Z a0 hw [] dq de kde wa wb h0 n0 O0 Pq0 Pq1 Pq2 Pq3 Pq4 gt_dq hch)) q1a q1c (g := (mkF m 1 #[.val (.ref dq)] [(.ref dq)])) rfl hml.symm (Steps.refl _) (argsL := []) (rest := []) (lenOf pd23_ rfl) rfl own_z (hb hby D48_1) (o4 e0 0 0 0 0)) fun T1 Lc1 _ X1 hQ1 => ?_
 obtain ⟨rfl, M1, K1, g1_0, g1_1, g1_2, g1_3, g1_4⟩ := hQ1
 have N1 := Fr.app N0 M1
 have z1 := K1.1
 have lt_g1_0 := eG g1_0
 have lt_g1_4 := vG g1_4
 have K2 : Keep h0 T1.heap [dq, de] := ((Keep.refl h0 [dq, de]).trans K1 (kI 0 rfl (kI 1 rfl all0)))
 exact o_ra Bd X1 hx hby rfl D48_4 rfl ⟨rfl, N1, K2, g1_0, g1_1, g1_2, g1_3, g1_4⟩
def Q_rm_ela12 (Z : State) (de : Addr) (kde : ClassId) (wa : Addr) (h0 : Heap) (n0 : Nat) (v : Option Value) (h : Heap) (L : List Loc) : Prop := v = some (.ref wa) ∧ Fr n0 L ∧ h = h0
theorem rm_ela12 (l : Launch) (Z : State) (a0 : Array Value) (hw : own_Wd Z a0) (ws : List Jvm.Cond) (de : Addr) (kde : ClassId) (wa : Addr) (h0 : Heap) (n0 : Nat) (O0 : Old Z n0 h0) (Ve : Arv Z h0 de kde (.object s7_) (17 : Int32) [.null, (.ref wa)] .null) :
  own_M l Z ws y46_ jdk_21_method_10_code 2 (some (.object s7_)) ({ frames := 0, cells := 0, slots := 0, locals := 0 } : Room) #[(.ref de), v1_] h0 (Q_rm_ela12 Z de kde wa h0 n0) := by
 refine own_open O0 (plainFor_of_name pn6_) (L0 := #[.val (.ref de), .val v1_]) ?_
 intro p e s m below meth c s₁ Bd hx hby hml hZ hh hown hnm X0 e0 N0 Z0
 have lt_Ve := vG Ve
 refine o_al X0 hx hby D51_0 rfl rfl ?_
 refine o_il X0 hx hby D51_1 rfl ?_
 obtain ⟨cl1, Ar1, q1, S1, M1, H1, G1⟩ := (id Ve)
 have hin1 : ¬ ((1 : Int32) < 0 ∨ cl1.slots.size ≤ ((1 : Int32)).toNatClampNeg) := inb_of S1 ⟨by decide, by decide⟩
 refine ob_ (X0.aaload hx (j := (1 : Int32)) (v := (.ref wa)) (by rw [e0]; exact Ar1.1) (State.isArrayOf_alike hZ.alike Ar1.2.1) rfl Ar1.2.2 hin1 (H1.at hin1 rfl) (g := (mkF m 2 #[.val (.ref de), .val v1_] [v1_, (.ref de)])) rfl rfl (hb hby D51_2)) ?_
 exact o_ra Bd X0 hx hby e0 D51_3 rfl ⟨rfl, N0, rfl⟩
def Q_rm_pol12 (Z : State) (dq de : Addr) (kde : ClassId) (wa : Addr) (h0 : Heap) (n0 : Nat) (v : Option Value) (h : Heap) (L : List Loc) : Prop := v = some (.ref wa) ∧ Fr n0 L ∧ Keep h0 h [dq, de] ∧ Exa Z h dq s57_ ∧ f34_ Z h dq (.int (2 : Int32)) ∧ f35_ Z h dq (.int (2 : Int32)) ∧ f33_ Z h dq (.ref de) ∧ Arv Z h de kde (.object s7_) (17 : Int32) [.null, .null] .null
theorem rm_pol12 (l : Launch) (Z : State) (a0 : Array Value) (hw : own_Wd Z a0) (ws : List Jvm.Cond) (dq de : Addr) (kde : ClassId) (wa : Addr) (h0 : Heap) (n0 : Nat) (O0 : Old Z n0 h0) (Pq0 : Exa Z h0 dq s57_) (Pq1 : f34_ Z h0 dq v1_) (Pq2 : f35_ Z h0 dq (.int (2 : Int32))) (Pq3 : f33_ Z h0 dq (.ref de)) (Pq4 : Arv Z h0 de kde (.object s7_) (17 : Int32) [.null, (.ref wa)] .null) (gt_dq : n0 ≤ dq) (hch : own_asc [dq, de]) :
  own_M l Z ws y47_ jdk_21_method_20_code 4 (some (.object s7_)) ({ frames := 1, cells := 0, slots := 0, locals := 14 } : Room) #[(.ref dq)] h0 (Q_rm_pol12 Z dq de kde wa h0 n0) := by
 refine own_open O0 (plainFor_of_name pn6_) (L0 := #[.val (.ref dq), .unset, .unset, .unset]) ?_
 intro p e s m below meth c s₁ Bd hx hby hml hZ hh hown hnm X0 e0 N0 Z0
 have hq_hch := hch
 simp only [own_asc] at hq_hch
 have lt_Pq0 := eG Pq0
 have lt_Pq4 := vG Pq4
 refine o_al X0 hx hby D50_0 rfl rfl ?_
 refine o_gf X0 hx hby hZ hown hw 320 rfl Via.refl e0 Pq3 D50_1 fun T1 X1 e1 => ?_
 refine ob_ (fun _ k => XS.dup X1.here hx rfl (hb hby D50_4) rfl rfl k) ?_
 refine ob_ (fun _ k => XS.astoreN X1.here hx rfl (hb hby D50_5) rfl rfl (l' := #[.val (.ref dq), .val (.ref de), .unset, .unset]) rfl k) ?_
 refine o_al X1 hx hby D50_6 rfl rfl ?_
 refine o_gf X1 hx hby hZ hown hw 384 rfl Via.refl e1 Pq1 D50_7 fun T2 X2 e2 => ?_
 refine ob_ (fun _ k => XS.dup X2.here hx rfl (hb hby D50_10) rfl rfl k) ?_
 refine ob_ (fun _ k => XS.istoreN X2.here hx rfl (hb hby D50_11) rfl (l' := #[.val (.ref dq), .val (.ref de), .val v1_, .unset]) rfl k) ?_
 refine o_ks 3 (Jvm.LawKit.callS X2 hx (y := y46_) hown (mw hZ hw 435 rfl) (mw hZ hw 436 rfl) (mw hZ hw 313 rfl) (mw hZ hw 437 rfl) (by decide) (bk 0 hZ hw 437 313 (rm_ela12 l Z a0 hw [] de kde wa h0 n0 O0 Pq4)) (g := (mkF m 12 #[.val (.ref dq), .val (.ref de), .val v1_, .unset] [v1_, (.ref de)])) rfl hml.symm (argsL := [(.ref de), v1_]) (rest := []) (lenOf pd22_ rfl) rfl own_z (hb hby D50_12) (o4 e2 0 0 0 0)) fun T3 Lc3 _ X3 hQ3 => ?_
 obtain ⟨rfl, M3, K3⟩ := hQ3
 have N3 := Fr.app N0 M3
 refine ob_ (fun _ k => XS.astoreN X3.here hx rfl (hb hby D50_15) rfl rfl (l' := #[.val (.ref dq), .val (.ref de), .val v1_, .val (.ref wa)]) rfl k) ?_
 refine o_al X3 hx hby D50_16 rfl rfl ?_
 refine ob_ (fun _ k => XS.ifnullNo X3.here hx rfl (hb hby D50_17) rfl k) ?_
 refine o_al X3 hx hby D50_20 rfl rfl ?_
 refine o_il X3 hx hby D50_21 rfl ?_
 refine ob_ (fun _ k => XS.aconstNull X3.here hx rfl (hb hby D50_22) k) ?_
 obtain ⟨cl4, Ar4, q4, S4, M4, H4, G4⟩ := (id Pq4)
 have hin4 : ¬ ((1 : Int32) < 0 ∨ cl4.slots.size ≤ ((1 : Int32)).toNatClampNeg) := inb_of S4 ⟨by decide, by decide⟩
 obtain ⟨T4, h4, X4, e4, W4, st4⟩ := stR X3 hx hZ K3 Ar4 (j := (1 : Int32)) hin4 rfl (Or.inl rfl) (g := (mkF m 23 #[.val (.ref dq), .val (.ref de), .val v1_, .val (.ref wa)] [.null, v1_, (.ref de)])) rfl rfl (hb hby D50_23)
 refine ob_ st4 ?_
 have z4 := W4.size
 have q_1 : own_LE n0 de := mL
 have N4 := Fr.snoc X4 N3 q_1
 have Vw4 : Arv Z h4 de kde (.object s7_) (17 : Int32) [.null, .null] .null := Arv.set Ar4 q4 S4 M4 H4 G4 rfl W4 1 rfl (Nat.le_of_ble_eq_true rfl)
 refine o_al X4 hx hby D50_24 rfl rfl ?_
 refine o_il X4 hx hby D50_25 rfl ?_
 refine o_al X4 hx hby D50_26 rfl rfl ?_
 obtain ⟨cl5, Ar5, q5, S5, M5, H5, G5⟩ := (id Vw4)
 refine ob_ (X4.arraylength hx (by rw [e4]; exact Ar5.1) (State.isArrayOf_alike hZ.alike Ar5.2.1) (g := (mkF m 27 #[.val (.ref dq), .val (.ref de), .val v1_, .val (.ref wa)] [(.ref de), v1_, (.ref dq)])) rfl rfl (hb hby D50_27)) ?_
 rw [len_of S5 M5]
 have O6 : Old Z n0 h4 := (O0.wr W4 q_1)
 refine o_ks 3 (Jvm.LawKit.callS X4 hx (y := y42_) hown (mw hZ hw 386 rfl) (mw hZ hw 387 rfl) (mw hZ hw 313 rfl) (mw hZ hw 388 rfl) (by decide) (bk 1 hZ hw 388 313 (rm_inc1 l Z a0 hw [] h4 n0 O6)) (g := (mkF m 28 #[.val (.ref dq), .val (.ref de), .val v1_, .val (.ref wa)] [v17_, v1_, (.ref dq)])) rfl hml.symm (argsL := [v1_, v17_]) (rest := [(.ref dq)]) (lenOf pd2_ rfl) rfl own_z (hb hby D50_28) (o4 e4 0 0 0 0)) fun T7 Lc7 _ X7 hQ7 => ?_
 obtain ⟨rfl, M7, K7⟩ := hQ7
 have N7 := Fr.app N4 M7
 have q_2 : own_NE de dq := mN
 have fc8 := (Pq1.other W4 (Or.inl (uS q_2)))
 have fc9 := (Pq0.wr W4)
 obtain ⟨T10, h10, X10, e10, W10, st10⟩ := putF X7 hx hZ hown (host := "") (Or.inl (w_ hw 384 rfl)) Via.refl K7 fc8 fc9 (Or.inl (w_ hw 385 rfl)) (w_ hw 312 rfl) (ty := .int) (by decide) rfl rfl (g := (mkF m 31 #[.val (.ref dq), .val (.ref de), .val v1_, .val (.ref wa)] [(.int (2 : Int32)), (.ref dq)])) rfl rfl (hb hby D50_31)
 refine ob_ st10 ?_
 have z10 := W10.size
 have N10 := Fr.snoc X10 N7 gt_dq
 have Fw10 : f34_ Z h10 dq (.int (2 : Int32)) := fc8.same W10
 refine o_al X10 hx hby D50_34 rfl rfl ?_
 have fc11 := (fc9.wr W10)
 have fc12 := ((Pq2.other W4 (Or.inl (uS q_2))).other W10 (sO (Or.inl (w_ hw 382 rfl)) (Or.inl (w_ hw 385 rfl))))
 have fc13 := ((Pq3.other W4 (Or.inl (uS q_2))).other W10 (sO (Or.inl (w_ hw 321 rfl)) (Or.inl (w_ hw 385 rfl))))
 have fc14 := (Vw4.other W10 q_2)
 have K15 : Keep h0 h10 [dq, de] := (((Keep.refl h0 [dq, de]).wr W4 (Or.inl (List.mem_of_getElem? (i := 1) rfl))).wr W10 (Or.inl (List.mem_of_getElem? (i := 0) rfl)))
 exact o_ra Bd X10 hx hby e10 D50_35 rfl ⟨rfl, N10, K15, fc11, Fw10, fc12, fc13, fc14⟩
def Q_rm_rmf12 (Z : State) (dq de : Addr) (kde : ClassId) (wa : Addr) (h0 : Heap) (n0 : Nat) (v : Option Value) (h : Heap) (L : List Loc) : Prop := v = some (.ref wa) ∧ Fr n0 L ∧ Keep h0 h [dq, de] ∧ Exa Z h dq s57_ ∧ f34_ Z h dq (.int (2 : Int32)) ∧ f35_ Z h dq (.int (2 : Int32)) ∧ f33_ Z h dq (.ref de) ∧ Arv Z h de kde (.object s7_) (17 : Int32) [.null, .null] .null
theorem rm_rmf12 (l : Launch) (Z : State) (a0 : Array Value) (hw : own_Wd Z a0) (ws : List Jvm.Cond) (dq de : Addr) (kde : ClassId) (wa : Addr) (h0 : Heap) (n0 : Nat) (O0 : Old Z n0 h0) (Pq0 : Exa Z h0 dq s57_) (Pq1 : f34_ Z h0 dq v1_) (Pq2 : f35_ Z h0 dq (.int (2 : Int32))) (Pq3 : f33_ Z h0 dq (.ref de)) (Pq4 : Arv Z h0 de kde (.object s7_) (17 : Int32) [.null, (.ref wa)] .null) (gt_dq : n0 ≤ dq) (hch : own_asc [dq, de]) :
  own_M l Z ws y48_ jdk_21_method_18_code 2 (some (.object s7_)) ({ frames := 2, cells := 0, slots := 0, locals := 29 } : Room) #[(.ref dq)] h0 (Q_rm_rmf12 Z dq de kde wa h0 n0) := by
 refine own_open O0 (plainFor_of_name pn6_) (L0 := #[.val (.ref dq), .unset]) ?_
 intro p e s m below meth c s₁ Bd hx hby hml hZ hh hown hnm X0 e0 N0 Z0
 have hq_hch := hch
 simp only [own_asc] at hq_hch
 have lt_Pq0 := eG Pq0
 have lt_Pq4 := vG Pq4
 refine o_al X0 hx hby D49_0 rfl rfl ?_
 obtain ⟨cq1, kq1, q1a, q1b, q1c⟩ := isOf hZ e0 Pq0
 refine o_k 3 (X0.virtualBack hx (y := y47_) (z := y47_) hown (mw hZ hw 430 rfl) (mw hZ hw 431 rfl) (notFace_of_selects (args := #[]) (mw hZ hw 433 rfl)) (mw hZ hw 433 rfl) (mw hZ hw 432 rfl) (by decide) (bk 0 hZ hw 434 313 (rm_pol12 l Z a0 hw [] dq de kde wa h0 n0 O0 Pq0 Pq1 Pq2 Pq3 Pq4 gt_dq hch)) q1a q1c (g := (mkF m 1 #[.val (.ref dq), .unset] [(.ref dq)])) rfl hml.symm (Steps.refl _) (argsL := []) (rest := []) (lenOf pd23_ rfl) rfl own_z (hb hby D49_1) (o4 e0 0 0 0 0)) fun T1 Lc1 _ X1 hQ1 => ?_
 obtain ⟨rfl, M1, K1, g1_0, g1_1, g1_2, g1_3, g1_4⟩ := hQ1
 have N1 := Fr.app N0 M1
 have z1 := K1.1
 have lt_g1_0 := eG g1_0
 have lt_g1_4 := vG g1_4
 refine ob_ (fun _ k => XS.astoreN X1.here hx rfl (hb hby D49_4) rfl rfl (l' := #[.val (.ref dq), .val (.ref wa)]) rfl k) ?_
 refine o_al X1 hx hby D49_5 rfl rfl ?_
 refine ob_ (fun _ k => XS.ifnonnullYes X1.here hx rfl (pc0 := 6) (pc' := 17) rfl (hb hby D49_6) rfl (by decide) (by decide) k) ?_
 refine o_al X1 hx hby D49_17 rfl rfl ?_
 have K2 : Keep h0 T1.heap [dq, de] := ((Keep.refl h0 [dq, de]).trans K1 (kI 0 rfl (kI 1 rfl all0)))
 exact o_ra Bd X1 hx hby rfl D49_18 rfl ⟨rfl, N1, K2, g1_0, g1_1, g1_2, g1_3, g1_4⟩
def Q_rm_rem12 (Z : State) (dq de : Addr) (kde : ClassId) (wa : Addr) (h0 : Heap) (n0 : Nat) (v : Option Value) (h : Heap) (L : List Loc) : Prop := v = some (.ref wa) ∧ Fr n0 L ∧ Keep h0 h [dq, de] ∧ Exa Z h dq s57_ ∧ f34_ Z h dq (.int (2 : Int32)) ∧ f35_ Z h dq (.int (2 : Int32)) ∧ f33_ Z h dq (.ref de) ∧ Arv Z h de kde (.object s7_) (17 : Int32) [.null, .null] .null
theorem rm_rem12 (l : Launch) (Z : State) (a0 : Array Value) (hw : own_Wd Z a0) (ws : List Jvm.Cond) (dq de : Addr) (kde : ClassId) (wa : Addr) (h0 : Heap) (n0 : Nat) (O0 : Old Z n0 h0) (Pq0 : Exa Z h0 dq s57_) (Pq1 : f34_ Z h0 dq v1_) (Pq2 : f35_ Z h0 dq (.int (2 : Int32))) (Pq3 : f33_ Z h0 dq (.ref de)) (Pq4 : Arv Z h0 de kde (.object s7_) (17 : Int32) [.null, (.ref wa)] .null) (gt_dq : n0 ≤ dq) (hch : own_asc [dq, de]) :
  own_M l Z ws y49_ jdk_21_method_30_code 1 (some (.object s7_)) ({ frames := 3, cells := 0, slots := 0, locals := 42 } : Room) #[(.ref dq)] h0 (Q_rm_rem12 Z dq de kde wa h0 n0) := by
 refine own_open O0 (plainFor_of_name pn6_) (L0 := #[.val (.ref dq)]) ?_
 intro p e s m below meth c s₁ Bd hx hby hml hZ hh hown hnm X0 e0 N0 Z0
 have hq_hch := hch
 simp only [own_asc] at hq_hch
 have lt_Pq0 := eG Pq0
 have lt_Pq4 := vG Pq4
 refine o_al X0 hx hby D48_0 rfl rfl ?_
 obtain ⟨cq1, kq1, q1a, q1b, q1c⟩ := isOf hZ e0 Pq0
 refine o_k 3 (X0.virtualBack hx (y := y48_) (z := y48_) hown (mw hZ hw 425 rfl) (mw hZ hw 426 rfl) (notFace_of_selects (args := #[]) (mw hZ hw 428 rfl)) (mw hZ hw 428 rfl) (mw hZ hw 427 rfl) (by decide) (bk 0 hZ hw 429 313 (rm_rmf12 l Z a0 hw [] dq de kde wa h0 n0 O0 Pq0 Pq1 Pq2 Pq3 Pq4 gt_dq hch)) q1a q1c (g := (mkF m 1 #[.val (.ref dq)] [(.ref dq)])) rfl hml.symm (Steps.refl _) (argsL := []) (rest := []) (lenOf pd23_ rfl) rfl own_z (hb hby D48_1) (o4 e0 0 0 0 0)) fun T1 Lc1 _ X1 hQ1 => ?_
 obtain ⟨rfl, M1, K1, g1_0, g1_1, g1_2, g1_3, g1_4⟩ := hQ1
 have N1 := Fr.app N0 M1
 have z1 := K1.1
 have lt_g1_0 := eG g1_0
 have lt_g1_4 := vG g1_4
 have K2 : Keep h0 T1.heap [dq, de] := ((Keep.refl h0 [dq, de]).trans K1 (kI 0 rfl (kI 1 rfl all0)))
 exact o_ra Bd X1 hx hby rfl D48_4 rfl ⟨rfl, N1, K2, g1_0, g1_1, g1_2, g1_3, g1_4⟩
abbrev dD18 (n : Nat) (i : Instr) (k : Nat) : Prop := decode prog_12_method_1_code n = .ok (i, k)
theorem D18_0 : dD18 0 (.aload_n 0) 1 := by decide +kernel
theorem D18_1 : dD18 1 (.invokespecial 1) 3 := by decide +kernel
theorem D18_4 : dD18 4 (.aload_n 0) 1 := by decide +kernel
theorem D18_5 : dD18 5 (.new 7) 3 := by decide +kernel
theorem D18_8 : dD18 8 .dup 1 := by decide +kernel
theorem D18_9 : dD18 9 (.invokespecial 9) 3 := by decide +kernel
theorem D18_12 : dD18 12 (.putfield 10) 3 := by decide +kernel
theorem D18_15 : dD18 15 (.aload_n 0) 1 := by decide +kernel
theorem D18_16 : dD18 16 (.bipush 16) 2 := by decide +kernel
theorem D18_18 : dD18 18 (.newarray .boolean) 2 := by decide +kernel
theorem D18_20 : dD18 20 (.putfield 16) 3 := by decide +kernel
theorem D18_23 : dD18 23 (.aload_n 0) 1 := by decide +kernel
theorem D18_24 : dD18 24 (.bipush 16) 2 := by decide +kernel
theorem D18_26 : dD18 26 (.newarray .boolean) 2 := by decide +kernel
theorem D18_28 : dD18 28 (.putfield 20) 3 := by decide +kernel
theorem D18_31 : dD18 31 (.aload_n 0) 1 := by decide +kernel
theorem D18_32 : dD18 32 (.bipush 16) 2 := by decide +kernel
theorem D18_34 : dD18 34 (.newarray .boolean) 2 := by decide +kernel
theorem D18_36 : dD18 36 (.putfield 23) 3 := by decide +kernel
theorem D18_39 : dD18 39 (.aload_n 0) 1 := by decide +kernel
theorem D18_40 : dD18 40 (.new 26) 3 := by decide +kernel
theorem D18_43 : dD18 43 .dup 1 := by decide +kernel
theorem D18_44 : dD18 44 (.invokespecial 28) 3 := by decide +kernel
theorem D18_47 : dD18 47 (.putfield 29) 3 := by decide +kernel
theorem D18_50 : dD18 50 (.aload_n 0) 1 := by decide +kernel
theorem D18_51 : dD18 51 (.new 26) 3 := by decide +kernel
theorem D18_54 : dD18 54 .dup 1 := by decide +kernel
theorem D18_55 : dD18 55 (.invokespecial 28) 3 := by decide +kernel
theorem D18_58 : dD18 58 (.putfield 33) 3 := by decide +kernel
theorem D18_61 : dD18 61 (.aload_n 0) 1 := by decide +kernel
theorem D18_62 : dD18 62 (.new 26) 3 := by decide +kernel
theorem D18_65 : dD18 65 .dup 1 := by decide +kernel
theorem D18_66 : dD18 66 (.invokespecial 28) 3 := by decide +kernel
theorem D18_69 : dD18 69 (.putfield 36) 3 := by decide +kernel
theorem D18_72 : dD18 72 (.aload_n 0) 1 := by decide +kernel
theorem D18_73 : dD18 73 (.new 26) 3 := by decide +kernel
theorem D18_76 : dD18 76 .dup 1 := by decide +kernel
theorem D18_77 : dD18 77 (.invokespecial 28) 3 := by decide +kernel
theorem D18_80 : dD18 80 (.putfield 39) 3 := by decide +kernel
theorem D18_83 : dD18 83 (.aload_n 0) 1 := by decide +kernel
theorem D18_84 : dD18 84 (.new 42) 3 := by decide +kernel
theorem D18_87 : dD18 87 .dup 1 := by decide +kernel
theorem D18_88 : dD18 88 (.invokespecial 44) 3 := by decide +kernel
theorem D18_91 : dD18 91 (.putfield 45) 3 := by decide +kernel
theorem D18_94 : dD18 94 (.iload_n 2) 1 := by decide +kernel
theorem D18_95 : dD18 95 (.ifCond .eq 17) 3 := by decide +kernel
theorem D18_98 : dD18 98 (.iload_n 1) 1 := by decide +kernel
theorem D18_99 : dD18 99 (.ifCond .ne 13) 3 := by decide +kernel
theorem D18_112 : dD18 112 (.aload_n 0) 1 := by decide +kernel
theorem D18_113 : dD18 113 (.iload_n 1) 1 := by decide +kernel
theorem D18_114 : dD18 114 (.putfield 56) 3 := by decide +kernel
theorem D18_117 : dD18 117 (.aload_n 0) 1 := by decide +kernel
theorem D18_118 : dD18 118 (.iload_n 2) 1 := by decide +kernel
theorem D18_119 : dD18 119 (.putfield 60) 3 := by decide +kernel
theorem D18_122 : dD18 122 .return_ 1 := by decide +kernel
def Q_rm_dvi (Z : State) (tt : Addr) (li ax : Int32) (dce : Addr) (kce : ClassId) (mr : Addr) (h0 : Heap) (n0 : Nat) (v : Option Value) (h : Heap) (L : List Loc) : Prop := ∃ (un mb ms : Addr) (kms : ClassId) (hl : Addr) (khl : ClassId) (dq de : Addr) (kde : ClassId) (xa ca lo ch sp dr dp : Addr) (kxa kca klo : ClassId), v = none ∧ Fr n0 L ∧ Keep h0 h [tt] ∧ Exa Z h tt s37_ ∧ f23_ Z h tt (.ref un) ∧ f19_ Z h tt (.ref xa) ∧ f16_ Z h tt (.ref ca) ∧ f21_ Z h tt (.ref lo) ∧ f24_ Z h tt (.ref dq) ∧ f20_ Z h tt (.int li) ∧ f14_ Z h tt (.int ax) ∧ f15_ Z h tt (.ref ch) ∧ f22_ Z h tt (.ref sp) ∧ f17_ Z h tt (.ref dr) ∧ f18_ Z h tt (.ref dp) ∧ Exa Z h un s38_ ∧ f27_ Z h un (.ref mb) ∧ f26_ Z h un (.ref ms) ∧ f25_ Z h un (.ref hl) ∧ f28_ Z h un v0_ ∧ Arv Z h ms kms .long (16 : Int32) [] (.long (0 : Int64)) ∧ Arv Z h hl khl .boolean (16 : Int32) [] v0_ ∧ Exa Z h mb s4_ ∧ f32_ Z h mb v0_ ∧ f36_ Z h mb v0_ ∧ f31_ Z h mb (.ref dce) ∧ Exa Z h dq s57_ ∧ f34_ Z h dq v0_ ∧ f35_ Z h dq v0_ ∧ f33_ Z h dq (.ref de) ∧ Arv Z h de kde (.object s7_) (17 : Int32) [] .null ∧ Arv Z h xa kxa .boolean (16 : Int32) [] v0_ ∧ Arv Z h ca kca .boolean (16 : Int32) [] v0_ ∧ Arv Z h lo klo .boolean (16 : Int32) [] v0_ ∧ Exa Z h ch s4_ ∧ f32_ Z h ch v0_ ∧ f36_ Z h ch v0_ ∧ f31_ Z h ch (.ref dce) ∧ Exa Z h sp s4_ ∧ f32_ Z h sp v0_ ∧ f36_ Z h sp v0_ ∧ f31_ Z h sp (.ref dce) ∧ Exa Z h dr s4_ ∧ f32_ Z h dr v0_ ∧ f36_ Z h dr v0_ ∧ f31_ Z h dr (.ref dce) ∧ Exa Z h dp s4_ ∧ f32_ Z h dp v0_ ∧ f36_ Z h dp v0_ ∧ f31_ Z h dp (.ref dce) ∧ Ovr Z kde s7_ ∧ h0.size ≤ un ∧ own_asc [un, mb, ms, hl, xa, ca, lo, ch, sp, dr, dp, dq, de]
theorem rm_dvi (l : Launch) (Z : State) (a0 : Array Value) (hw : own_Wd Z a0) (ws : List Jvm.Cond) (tt : Addr) (li ax : Int32) (dce : Addr) (kce : ClassId) (mr : Addr) (h0 : Heap) (n0 : Nat) (O0 : Old Z n0 h0) (S_DCE : Sta Z Z.heap s4_ s8_ s9_ (.ref dce)) (A_DCE : Arv Z Z.heap dce kce (.object s7_) (0 : Int32) [] .null) (E_DCE : Exa Z Z.heap dce s9_) (hMr : own_Mir Z s9_ mr) (Pf0 : Exa Z h0 tt s37_) (Pf1 : f23_ Z h0 tt .null) (Pf2 : f19_ Z h0 tt .null) (Pf3 : f16_ Z h0 tt .null) (Pf4 : f21_ Z h0 tt .null) (Pf5 : f15_ Z h0 tt .null) (Pf6 : f22_ Z h0 tt .null) (Pf7 : f17_ Z h0 tt .null) (Pf8 : f18_ Z h0 tt .null) (Pf9 : f24_ Z h0 tt .null) (Pf10 : f20_ Z h0 tt v0_) (Pf11 : f14_ Z h0 tt v0_) (gt_tt : n0 ≤ tt) (hli : li = 0 ∨ li = 1) (hax : ax = 0 ∨ ax = 1) (hla : li = 0 → ax = 0) :
  own_M l Z ws y50_ prog_12_method_1_code 3 none ({ frames := 11, cells := 315, slots := 2142, locals := 189 } : Room) #[(.ref tt), (.int li), (.int ax)] h0 (Q_rm_dvi Z tt li ax dce kce mr h0 n0) := by
 refine own_open O0 (plainFor_of_name pn20_) (L0 := #[.val (.ref tt), .val (.int li), .val (.int ax)]) ?_
 intro p e s m below meth c s₁ Bd hx hby hml hZ hh hown hnm X0 e0 N0 Z0
 have lt_Pf0 := eG Pf0
 refine o_al X0 hx hby D18_0 rfl rfl ?_
 obtain ⟨T1, X1, e1, st1⟩ := initO X0 hx hZ hown (w_ hw 179 rfl) (w_ hw 31 rfl) (w_ hw 32 rfl) e0 (g := (mkF m 1 #[.val (.ref tt), .val (.int li), .val (.int ax)] [(.ref tt)])) rfl (by rw [hml]; rfl) rfl (hb hby D18_1) (by decide) (W := 0) (by show 2 * 0 + _ ≤ _; exact Nat.le_of_eq rfl) (by decide)
 refine ob_ st1 ?_
 refine o_al X1 hx hby D18_4 rfl rfl ?_
 obtain ⟨T2, h2, X2, e2, E2, A2, D2, U2, st2⟩ := newO X1 hx hZ hown (w_ hw 180 rfl) (w_ hw 181 rfl) (w_ hw 182 rfl) e1 (g := (mkF m 5 #[.val (.ref tt), .val (.int li), .val (.int ax)] [(.ref tt)])) rfl (hb hby D18_5) (by decide) (by decide)
 obtain ⟨ob2, g2⟩ : ∃ z, z = h0.size := ⟨_, rfl⟩
 rw [← g2] at A2 D2 U2 st2
 refine ob_ st2 ?_
 have z2 := E2.1
 have lt2 : h2.size > ob2 := A2.lt
 refine ob_ (fun _ k => XS.dup X2.here hx rfl (hb hby D18_8) rfl rfl k) ?_
 have q_1 : own_LE n0 ob2 := mL
 have O3 : Old Z n0 h2 := (O0.ext E2)
 refine o_k 3 (X2.specialBack hx (y := y35_) rfl hown (mw hZ hw 183 rfl) (mw hZ hw 184 rfl) (mw hZ hw 185 rfl) (by decide) (bk 2 hZ hw 185 182 (rm_mui l Z a0 hw [] ob2 dce kce mr h2 n0 O3 S_DCE A_DCE E_DCE hMr A2 (show f27_ Z h2 ob2 .null from D2 (Or.inr (w_ hw 190 rfl)) (ty := (.object s16_)) (by decide)) (show f26_ Z h2 ob2 .null from D2 (Or.inl (w_ hw 193 rfl)) (ty := (.array .long)) (by decide)) (show f25_ Z h2 ob2 .null from D2 (Or.inl (w_ hw 196 rfl)) (ty := (.array .boolean)) (by decide)) (show Fld Z h2 ob2 s38_ "_displacers" "[I" .null from D2 (Or.inl (w_ hw 198 rfl)) (ty := (.array .int)) (by decide)) (show Fld Z h2 ob2 s38_ "_index" s55_ .null from D2 (Or.inr (w_ hw 292 rfl)) (ty := (.object s39_)) (by decide)) (show f28_ Z h2 ob2 v0_ from D2 (Or.inl (w_ hw 343 rfl)) (ty := .int) (by decide)) q_1)) (g := (mkF m 9 #[.val (.ref tt), .val (.int li), .val (.int ax)] [(.ref ob2), (.ref ob2), (.ref tt)])) rfl hml.symm (Steps.refl _) (a := ob2) (argsL := []) (rest := [(.ref ob2), (.ref tt)]) (lenOf pd1_ rfl) rfl own_z (hb hby D18_9) (o4 e2 1 305 7 2055)) fun T4 Lc4 _ X4 hQ4 => ?_
 obtain ⟨mb_4, ms_4, kms_4, hl_4, khl_4, rfl, M4, K4, g4_0, g4_1, g4_2, g4_3, g4_4, g4_5, g4_6, g4_7, g4_8, g4_9, g4_10, r4_0, r4_1⟩ := hQ4
 have N4 := Fr.app N0 M4
 have z4 := K4.1
 have lt_g4_0 := eG g4_0
 have lt_g4_5 := vG g4_5
 have lt_g4_6 := vG g4_6
 have lt_g4_7 := eG g4_7
 simp only [own_asc] at r4_1
 have q_2 : own_NE ob2 tt := mN
 have fc5 := ((Pf1.ext E2).keep K4 (nT (uS q_2) nin0))
 have fc6 := ((Pf0.ext E2).keep K4)
 obtain ⟨T7, h7, X7, e7, W7, st7⟩ := putF X4 hx hZ hown (host := "") (Or.inl (w_ hw 293 rfl)) Via.refl rfl fc5 fc6 (Or.inr ⟨(w_ hw 294 rfl), rfl, hnm⟩) (w_ hw 174 rfl) (ty := (.object s38_)) (by decide) rfl rfl (g := (mkF m 12 #[.val (.ref tt), .val (.int li), .val (.int ax)] [(.ref ob2), (.ref tt)])) rfl rfl (hb hby D18_12)
 refine ob_ st7 ?_
 have z7 := W7.size
 have N7 := Fr.snoc X7 N4 gt_tt
 have Fw7 : f23_ Z h7 tt (.ref ob2) := fc5.same W7
 refine o_al X7 hx hby D18_15 rfl rfl ?_
 refine o_bi X7 hx hby D18_16 ?_
 obtain ⟨T8, h8, k8, X8, e8, E8, A8, Ex8, st8⟩ := newPE X7 hx hZ (w_ hw 194 rfl) e7 (g := (mkF m 18 #[.val (.ref tt), .val (.int li), .val (.int ax)] [v16_, (.ref tt)])) rfl (hb hby D18_18) rfl (by decide) (cap := 16) (by decide) (by decide) (by decide) (by decide) (ad := "[Z") rfl
 obtain ⟨ob8, g8⟩ : ∃ z, z = h7.size := ⟨_, rfl⟩
 rw [← g8] at A8 st8 Ex8
 refine ob_ st8 ?_
 have z8 := E8.1
 have Vw8 : Arv Z h8 ob8 k8 .boolean (16 : Int32) [] v0_ := Arv.new A8 (by decide)
 have lt8 : h8.size > ob8 := Vw8.lt
 have fc9 := ((((Pf2.ext E2).keep K4 (nT (uS q_2) nin0)).other W7 (sO (Or.inl (w_ hw 296 rfl)) (Or.inr (w_ hw 294 rfl)))).ext E8)
 have fc10 := ((fc6.wr W7).ext E8)
 obtain ⟨T11, h11, X11, e11, W11, st11⟩ := putF X8 hx hZ hown (host := "") (Or.inl (w_ hw 295 rfl)) Via.refl e8 fc9 fc10 (Or.inl (w_ hw 296 rfl)) (w_ hw 174 rfl) (ty := (.array .boolean)) (by decide) rfl rfl (g := (mkF m 20 #[.val (.ref tt), .val (.int li), .val (.int ax)] [(.ref ob8), (.ref tt)])) rfl rfl (hb hby D18_20)
 refine ob_ st11 ?_
 have z11 := W11.size
 have N11 := Fr.snoc X11 N7 gt_tt
 have Fw11 : f19_ Z h11 tt (.ref ob8) := fc9.same W11
 refine o_al X11 hx hby D18_23 rfl rfl ?_
 refine o_bi X11 hx hby D18_24 ?_
 obtain ⟨T12, h12, k12, X12, e12, E12, A12, Ex12, st12⟩ := newPE X11 hx hZ (w_ hw 194 rfl) e11 (g := (mkF m 26 #[.val (.ref tt), .val (.int li), .val (.int ax)] [v16_, (.ref tt)])) rfl (hb hby D18_26) rfl (by decide) (cap := 16) (by decide) (by decide) (by decide) (by decide) (ad := "[Z") rfl
 obtain ⟨ob12, g12⟩ : ∃ z, z = h11.size := ⟨_, rfl⟩
 rw [← g12] at A12 st12 Ex12
 refine ob_ st12 ?_
 have z12 := E12.1
 have Vw12 : Arv Z h12 ob12 k12 .boolean (16 : Int32) [] v0_ := Arv.new A12 (by decide)
 have lt12 : h12.size > ob12 := Vw12.lt
 have fc13 := ((((((Pf3.ext E2).keep K4 (nT (uS q_2) nin0)).other W7 (sO (Or.inl (w_ hw 298 rfl)) (Or.inr (w_ hw 294 rfl)))).ext E8).other W11 (sO (Or.inl (w_ hw 298 rfl)) (Or.inl (w_ hw 296 rfl)))).ext E12)
 have fc14 := ((fc10.wr W11).ext E12)
 obtain ⟨T15, h15, X15, e15, W15, st15⟩ := putF X12 hx hZ hown (host := "") (Or.inl (w_ hw 297 rfl)) Via.refl e12 fc13 fc14 (Or.inl (w_ hw 298 rfl)) (w_ hw 174 rfl) (ty := (.array .boolean)) (by decide) rfl rfl (g := (mkF m 28 #[.val (.ref tt), .val (.int li), .val (.int ax)] [(.ref ob12), (.ref tt)])) rfl rfl (hb hby D18_28)
 refine ob_ st15 ?_
 have z15 := W15.size
 have N15 := Fr.snoc X15 N11 gt_tt
 have Fw15 : f16_ Z h15 tt (.ref ob12) := fc13.same W15
 refine o_al X15 hx hby D18_31 rfl rfl ?_
 refine o_bi X15 hx hby D18_32 ?_
 obtain ⟨T16, h16, k16, X16, e16, E16, A16, Ex16, st16⟩ := newPE X15 hx hZ (w_ hw 194 rfl) e15 (g := (mkF m 34 #[.val (.ref tt), .val (.int li), .val (.int ax)] [v16_, (.ref tt)])) rfl (hb hby D18_34) rfl (by decide) (cap := 16) (by decide) (by decide) (by decide) (by decide) (ad := "[Z") rfl
 obtain ⟨ob16, g16⟩ : ∃ z, z = h15.size := ⟨_, rfl⟩
 rw [← g16] at A16 st16 Ex16
 refine ob_ st16 ?_
 have z16 := E16.1
 have Vw16 : Arv Z h16 ob16 k16 .boolean (16 : Int32) [] v0_ := Arv.new A16 (by decide)
 have lt16 : h16.size > ob16 := Vw16.lt
 have fc17 := ((((((((Pf4.ext E2).keep K4 (nT (uS q_2) nin0)).other W7 (sO (Or.inl (w_ hw 300 rfl)) (Or.inr (w_ hw 294 rfl)))).ext E8).other W11 (sO (Or.inl (w_ hw 300 rfl)) (Or.inl (w_ hw 296 rfl)))).ext E12).other W15 (sO (Or.inl (w_ hw 300 rfl)) (Or.inl (w_ hw 298 rfl)))).ext E16)
 have fc18 := ((fc14.wr W15).ext E16)
 obtain ⟨T19, h19, X19, e19, W19, st19⟩ := putF X16 hx hZ hown (host := "") (Or.inl (w_ hw 299 rfl)) Via.refl e16 fc17 fc18 (Or.inl (w_ hw 300 rfl)) (w_ hw 174 rfl) (ty := (.array .boolean)) (by decide) rfl rfl (g := (mkF m 36 #[.val (.ref tt), .val (.int li), .val (.int ax)] [(.ref ob16), (.ref tt)])) rfl rfl (hb hby D18_36)
 refine ob_ st19 ?_
 have z19 := W19.size
 have N19 := Fr.snoc X19 N15 gt_tt
 have Fw19 : f21_ Z h19 tt (.ref ob16) := fc17.same W19
 refine o_al X19 hx hby D18_39 rfl rfl ?_
 obtain ⟨T20, h20, X20, e20, E20, A20, D20, U20, st20⟩ := newO X19 hx hZ hown (w_ hw 301 rfl) (w_ hw 13 rfl) (w_ hw 14 rfl) e19 (g := (mkF m 40 #[.val (.ref tt), .val (.int li), .val (.int ax)] [(.ref tt)])) rfl (hb hby D18_40) (by decide) (by decide)
 obtain ⟨ob20, g20⟩ : ∃ z, z = h19.size := ⟨_, rfl⟩
 rw [← g20] at A20 D20 U20 st20
 refine ob_ st20 ?_
 have z20 := E20.1
 have lt20 : h20.size > ob20 := A20.lt
 refine ob_ (fun _ k => XS.dup X20.here hx rfl (hb hby D18_43) rfl rfl k) ?_
 have q_3 : own_LE n0 ob20 := mL
 have O21 : Old Z n0 h20 := (((((((((O3.keep K4 (allS q_1 all0)).wr W7 gt_tt).ext E8).wr W11 gt_tt).ext E12).wr W15 gt_tt).ext E16).wr W19 gt_tt).ext E20)
 refine o_k 3 (X20.specialBack hx (y := y3_) rfl hown (mw hZ hw 302 rfl) (mw hZ hw 16 rfl) (mw hZ hw 17 rfl) (by decide) (bk 2 hZ hw 17 14 (rm_ai l Z a0 hw [] ob20 dce kce h20 n0 O21 S_DCE A_DCE E_DCE A20 (show f32_ Z h20 ob20 v0_ from D20 (Or.inl (w_ hw 73 rfl)) (ty := .int) (by decide)) (show f36_ Z h20 ob20 v0_ from D20 (Or.inl (w_ hw 34 rfl)) (ty := .int) (by decide)) (show f31_ Z h20 ob20 .null from D20 (Or.inl (w_ hw 37 rfl)) (ty := (.array (.object s7_))) (by decide)) q_3)) (g := (mkF m 44 #[.val (.ref tt), .val (.int li), .val (.int ax)] [(.ref ob20), (.ref ob20), (.ref tt)])) rfl hml.symm (Steps.refl _) (a := ob20) (argsL := []) (rest := [(.ref ob20), (.ref tt)]) (lenOf pd1_ rfl) rfl own_z (hb hby D18_44) (o4 e20 310 0 2113 0)) fun T22 Lc22 _ X22 hQ22 => ?_
 obtain ⟨rfl, M22, K22, g22_0, g22_1, g22_2, g22_3⟩ := hQ22
 have N22 := Fr.app N19 M22
 have z22 := K22.1
 have lt_g22_0 := eG g22_0
 have q_4 : own_NE ob20 tt := mN
 have fc23 := (((((((((((Pf5.ext E2).keep K4 (nT (uS q_2) nin0)).other W7 (sO (Or.inr (w_ hw 304 rfl)) (Or.inr (w_ hw 294 rfl)))).ext E8).other W11 (sO (Or.inr (w_ hw 304 rfl)) (Or.inl (w_ hw 296 rfl)))).ext E12).other W15 (sO (Or.inr (w_ hw 304 rfl)) (Or.inl (w_ hw 298 rfl)))).ext E16).other W19 (sO (Or.inr (w_ hw 304 rfl)) (Or.inl (w_ hw 300 rfl)))).ext E20).keep K22 (nT (uS q_4) nin0))
 have fc24 := (((fc18.wr W19).ext E20).keep K22)
 obtain ⟨T25, h25, X25, e25, W25, st25⟩ := putF X22 hx hZ hown (host := "") (Or.inl (w_ hw 303 rfl)) Via.refl rfl fc23 fc24 (Or.inr ⟨(w_ hw 304 rfl), rfl, hnm⟩) (w_ hw 174 rfl) (ty := (.object s16_)) (by decide) rfl rfl (g := (mkF m 47 #[.val (.ref tt), .val (.int li), .val (.int ax)] [(.ref ob20), (.ref tt)])) rfl rfl (hb hby D18_47)
 refine ob_ st25 ?_
 have z25 := W25.size
 have N25 := Fr.snoc X25 N22 gt_tt
 have Fw25 : f15_ Z h25 tt (.ref ob20) := fc23.same W25
 refine o_al X25 hx hby D18_50 rfl rfl ?_
 obtain ⟨T26, h26, X26, e26, E26, A26, D26, U26, st26⟩ := newO X25 hx hZ hown (w_ hw 301 rfl) (w_ hw 13 rfl) (w_ hw 14 rfl) e25 (g := (mkF m 51 #[.val (.ref tt), .val (.int li), .val (.int ax)] [(.ref tt)])) rfl (hb hby D18_51) (by decide) (by decide)
 obtain ⟨ob26, g26⟩ : ∃ z, z = h25.size := ⟨_, rfl⟩
 rw [← g26] at A26 D26 U26 st26
 refine ob_ st26 ?_
 have z26 := E26.1
 have lt26 : h26.size > ob26 := A26.lt
 refine ob_ (fun _ k => XS.dup X26.here hx rfl (hb hby D18_54) rfl rfl k) ?_
 have q_5 : own_LE n0 ob26 := mL
 have O27 : Old Z n0 h26 := (((O21.keep K22 (allS q_3 all0)).wr W25 gt_tt).ext E26)
 refine o_k 3 (X26.specialBack hx (y := y3_) rfl hown (mw hZ hw 302 rfl) (mw hZ hw 16 rfl) (mw hZ hw 17 rfl) (by decide) (bk 2 hZ hw 17 14 (rm_ai l Z a0 hw [] ob26 dce kce h26 n0 O27 S_DCE A_DCE E_DCE A26 (show f32_ Z h26 ob26 v0_ from D26 (Or.inl (w_ hw 73 rfl)) (ty := .int) (by decide)) (show f36_ Z h26 ob26 v0_ from D26 (Or.inl (w_ hw 34 rfl)) (ty := .int) (by decide)) (show f31_ Z h26 ob26 .null from D26 (Or.inl (w_ hw 37 rfl)) (ty := (.array (.object s7_))) (by decide)) q_5)) (g := (mkF m 55 #[.val (.ref tt), .val (.int li), .val (.int ax)] [(.ref ob26), (.ref ob26), (.ref tt)])) rfl hml.symm (Steps.refl _) (a := ob26) (argsL := []) (rest := [(.ref ob26), (.ref tt)]) (lenOf pd1_ rfl) rfl own_z (hb hby D18_55) (o4 e26 311 0 2116 0)) fun T28 Lc28 _ X28 hQ28 => ?_
 obtain ⟨rfl, M28, K28, g28_0, g28_1, g28_2, g28_3⟩ := hQ28
 have N28 := Fr.app N25 M28
 have z28 := K28.1
 have lt_g28_0 := eG g28_0
 have q_6 : own_NE ob26 tt := mN
 have fc29 := ((((((((((((((Pf6.ext E2).keep K4 (nT (uS q_2) nin0)).other W7 (sO (Or.inr (w_ hw 306 rfl)) (Or.inr (w_ hw 294 rfl)))).ext E8).other W11 (sO (Or.inr (w_ hw 306 rfl)) (Or.inl (w_ hw 296 rfl)))).ext E12).other W15 (sO (Or.inr (w_ hw 306 rfl)) (Or.inl (w_ hw 298 rfl)))).ext E16).other W19 (sO (Or.inr (w_ hw 306 rfl)) (Or.inl (w_ hw 300 rfl)))).ext E20).keep K22 (nT (uS q_4) nin0)).other W25 (sO (Or.inr (w_ hw 306 rfl)) (Or.inr (w_ hw 304 rfl)))).ext E26).keep K28 (nT (uS q_6) nin0))
 have fc30 := (((fc24.wr W25).ext E26).keep K28)
 obtain ⟨T31, h31, X31, e31, W31, st31⟩ := putF X28 hx hZ hown (host := "") (Or.inl (w_ hw 305 rfl)) Via.refl rfl fc29 fc30 (Or.inr ⟨(w_ hw 306 rfl), rfl, hnm⟩) (w_ hw 174 rfl) (ty := (.object s16_)) (by decide) rfl rfl (g := (mkF m 58 #[.val (.ref tt), .val (.int li), .val (.int ax)] [(.ref ob26), (.ref tt)])) rfl rfl (hb hby D18_58)
 refine ob_ st31 ?_
 have z31 := W31.size
 have N31 := Fr.snoc X31 N28 gt_tt
 have Fw31 : f22_ Z h31 tt (.ref ob26) := fc29.same W31
 refine o_al X31 hx hby D18_61 rfl rfl ?_
 show own_Go p e below (T31.setTop (mkF m 62 #[.val (.ref tt), .val (.int li), .val (.int ax)] [(.ref tt)])) _
 obtain ⟨T32, h32, X32, e32, E32, A32, D32, U32, st32⟩ := newO X31 hx hZ hown (w_ hw 301 rfl) (w_ hw 13 rfl) (w_ hw 14 rfl) e31 (g := (mkF m 62 #[.val (.ref tt), .val (.int li), .val (.int ax)] [(.ref tt)])) rfl (hb hby D18_62) (by decide) (by decide)
 obtain ⟨ob32, g32⟩ : ∃ z, z = h31.size := ⟨_, rfl⟩
 rw [← g32] at A32 D32 U32 st32
 refine ob_ st32 ?_
 have z32 := E32.1
 have lt32 : h32.size > ob32 := A32.lt
 refine ob_ (fun _ k => XS.dup X32.here hx rfl (hb hby D18_65) rfl rfl k) ?_
 have q_7 : own_LE n0 ob32 := mL
 have O33 : Old Z n0 h32 := (((O27.keep K28 (allS q_5 all0)).wr W31 gt_tt).ext E32)
 refine o_k 3 (X32.specialBack hx (y := y3_) rfl hown (mw hZ hw 302 rfl) (mw hZ hw 16 rfl) (mw hZ hw 17 rfl) (by decide) (bk 2 hZ hw 17 14 (rm_ai l Z a0 hw [] ob32 dce kce h32 n0 O33 S_DCE A_DCE E_DCE A32 (show f32_ Z h32 ob32 v0_ from D32 (Or.inl (w_ hw 73 rfl)) (ty := .int) (by decide)) (show f36_ Z h32 ob32 v0_ from D32 (Or.inl (w_ hw 34 rfl)) (ty := .int) (by decide)) (show f31_ Z h32 ob32 .null from D32 (Or.inl (w_ hw 37 rfl)) (ty := (.array (.object s7_))) (by decide)) q_7)) (g := (mkF m 66 #[.val (.ref tt), .val (.int li), .val (.int ax)] [(.ref ob32), (.ref ob32), (.ref tt)])) rfl hml.symm (Steps.refl _) (a := ob32) (argsL := []) (rest := [(.ref ob32), (.ref tt)]) (lenOf pd1_ rfl) rfl own_z (hb hby D18_66) (o4 e32 312 0 2119 0)) fun T34 Lc34 _ X34 hQ34 => ?_
 obtain ⟨rfl, M34, K34, g34_0, g34_1, g34_2, g34_3⟩ := hQ34
 have N34 := Fr.app N31 M34
 have z34 := K34.1
 have lt_g34_0 := eG g34_0
 have q_8 : own_NE ob32 tt := mN
 have fc35 := (((((((((((((((((Pf7.ext E2).keep K4 (nT (uS q_2) nin0)).other W7 (sO (Or.inr (w_ hw 308 rfl)) (Or.inr (w_ hw 294 rfl)))).ext E8).other W11 (sO (Or.inr (w_ hw 308 rfl)) (Or.inl (w_ hw 296 rfl)))).ext E12).other W15 (sO (Or.inr (w_ hw 308 rfl)) (Or.inl (w_ hw 298 rfl)))).ext E16).other W19 (sO (Or.inr (w_ hw 308 rfl)) (Or.inl (w_ hw 300 rfl)))).ext E20).keep K22 (nT (uS q_4) nin0)).other W25 (sO (Or.inr (w_ hw 308 rfl)) (Or.inr (w_ hw 304 rfl)))).ext E26).keep K28 (nT (uS q_6) nin0)).other W31 (sO (Or.inr (w_ hw 308 rfl)) (Or.inr (w_ hw 306 rfl)))).ext E32).keep K34 (nT (uS q_8) nin0))
 have fc36 := (((fc30.wr W31).ext E32).keep K34)
 obtain ⟨T37, h37, X37, e37, W37, st37⟩ := putF X34 hx hZ hown (host := "") (Or.inl (w_ hw 307 rfl)) Via.refl rfl fc35 fc36 (Or.inr ⟨(w_ hw 308 rfl), rfl, hnm⟩) (w_ hw 174 rfl) (ty := (.object s16_)) (by decide) rfl rfl (g := (mkF m 69 #[.val (.ref tt), .val (.int li), .val (.int ax)] [(.ref ob32), (.ref tt)])) rfl rfl (hb hby D18_69)
 refine ob_ st37 ?_
 have z37 := W37.size
 have N37 := Fr.snoc X37 N34 gt_tt
 have Fw37 : f17_ Z h37 tt (.ref ob32) := fc35.same W37
 refine o_al X37 hx hby D18_72 rfl rfl ?_
 obtain ⟨T38, h38, X38, e38, E38, A38, D38, U38, st38⟩ := newO X37 hx hZ hown (w_ hw 301 rfl) (w_ hw 13 rfl) (w_ hw 14 rfl) e37 (g := (mkF m 73 #[.val (.ref tt), .val (.int li), .val (.int ax)] [(.ref tt)])) rfl (hb hby D18_73) (by decide) (by decide)
 obtain ⟨ob38, g38⟩ : ∃ z, z = h37.size := ⟨_, rfl⟩
 rw [← g38] at A38 D38 U38 st38
 refine ob_ st38 ?_
 have z38 := E38.1
 have lt38 : h38.size > ob38 := A38.lt
 refine ob_ (fun _ k => XS.dup X38.here hx rfl (hb hby D18_76) rfl rfl k) ?_
 have q_9 : own_LE n0 ob38 := mL
 have O39 : Old Z n0 h38 := (((O33.keep K34 (allS q_7 all0)).wr W37 gt_tt).ext E38)
 refine o_k 3 (X38.specialBack hx (y := y3_) rfl hown (mw hZ hw 302 rfl) (mw hZ hw 16 rfl) (mw hZ hw 17 rfl) (by decide) (bk 2 hZ hw 17 14 (rm_ai l Z a0 hw [] ob38 dce kce h38 n0 O39 S_DCE A_DCE E_DCE A38 (show f32_ Z h38 ob38 v0_ from D38 (Or.inl (w_ hw 73 rfl)) (ty := .int) (by decide)) (show f36_ Z h38 ob38 v0_ from D38 (Or.inl (w_ hw 34 rfl)) (ty := .int) (by decide)) (show f31_ Z h38 ob38 .null from D38 (Or.inl (w_ hw 37 rfl)) (ty := (.array (.object s7_))) (by decide)) q_9)) (g := (mkF m 77 #[.val (.ref tt), .val (.int li), .val (.int ax)] [(.ref ob38), (.ref ob38), (.ref tt)])) rfl hml.symm (Steps.refl _) (a := ob38) (argsL := []) (rest := [(.ref ob38), (.ref tt)]) (lenOf pd1_ rfl) rfl own_z (hb hby D18_77) (o4 e38 313 0 2122 0)) fun T40 Lc40 _ X40 hQ40 => ?_
 obtain ⟨rfl, M40, K40, g40_0, g40_1, g40_2, g40_3⟩ := hQ40
 have N40 := Fr.app N37 M40
 have z40 := K40.1
 have lt_g40_0 := eG g40_0
 have q_10 : own_NE ob38 tt := mN
 have fc41 := ((((((((((((((((((((Pf8.ext E2).keep K4 (nT (uS q_2) nin0)).other W7 (sO (Or.inr (w_ hw 310 rfl)) (Or.inr (w_ hw 294 rfl)))).ext E8).other W11 (sO (Or.inr (w_ hw 310 rfl)) (Or.inl (w_ hw 296 rfl)))).ext E12).other W15 (sO (Or.inr (w_ hw 310 rfl)) (Or.inl (w_ hw 298 rfl)))).ext E16).other W19 (sO (Or.inr (w_ hw 310 rfl)) (Or.inl (w_ hw 300 rfl)))).ext E20).keep K22 (nT (uS q_4) nin0)).other W25 (sO (Or.inr (w_ hw 310 rfl)) (Or.inr (w_ hw 304 rfl)))).ext E26).keep K28 (nT (uS q_6) nin0)).other W31 (sO (Or.inr (w_ hw 310 rfl)) (Or.inr (w_ hw 306 rfl)))).ext E32).keep K34 (nT (uS q_8) nin0)).other W37 (sO (Or.inr (w_ hw 310 rfl)) (Or.inr (w_ hw 308 rfl)))).ext E38).keep K40 (nT (uS q_10) nin0))
 have fc42 := (((fc36.wr W37).ext E38).keep K40)
 obtain ⟨T43, h43, X43, e43, W43, st43⟩ := putF X40 hx hZ hown (host := "") (Or.inl (w_ hw 309 rfl)) Via.refl rfl fc41 fc42 (Or.inr ⟨(w_ hw 310 rfl), rfl, hnm⟩) (w_ hw 174 rfl) (ty := (.object s16_)) (by decide) rfl rfl (g := (mkF m 80 #[.val (.ref tt), .val (.int li), .val (.int ax)] [(.ref ob38), (.ref tt)])) rfl rfl (hb hby D18_80)
 refine ob_ st43 ?_
 have z43 := W43.size
 have N43 := Fr.snoc X43 N40 gt_tt
 have Fw43 : f18_ Z h43 tt (.ref ob38) := fc41.same W43
 refine o_al X43 hx hby D18_83 rfl rfl ?_
 obtain ⟨T44, h44, X44, e44, E44, A44, D44, U44, st44⟩ := newO X43 hx hZ hown (w_ hw 311 rfl) (w_ hw 312 rfl) (w_ hw 313 rfl) e43 (g := (mkF m 84 #[.val (.ref tt), .val (.int li), .val (.int ax)] [(.ref tt)])) rfl (hb hby D18_84) (by decide) (by decide)
 obtain ⟨ob44, g44⟩ : ∃ z, z = h43.size := ⟨_, rfl⟩
 rw [← g44] at A44 D44 U44 st44
 refine ob_ st44 ?_
 have z44 := E44.1
 have lt44 : h44.size > ob44 := A44.lt
 refine ob_ (fun _ k => XS.dup X44.here hx rfl (hb hby D18_87) rfl rfl k) ?_
 have O45 : Old Z n0 h44 := (((O39.keep K40 (allS q_9 all0)).wr W43 gt_tt).ext E44)
 refine o_k 3 (X44.specialBack hx (y := y6_) rfl hown (mw hZ hw 314 rfl) (mw hZ hw 315 rfl) (mw hZ hw 316 rfl) (by decide) (bk 2 hZ hw 316 313 (rm_dq l Z a0 hw [] ob44 h44 n0 O45 A44 (show f34_ Z h44 ob44 v0_ from D44 (Or.inl (w_ hw 385 rfl)) (ty := .int) (by decide)) (show f35_ Z h44 ob44 v0_ from D44 (Or.inl (w_ hw 382 rfl)) (ty := .int) (by decide)) (show f33_ Z h44 ob44 .null from D44 (Or.inl (w_ hw 321 rfl)) (ty := (.array (.object s7_))) (by decide)) (by omega))) (g := (mkF m 88 #[.val (.ref tt), .val (.int li), .val (.int ax)] [(.ref ob44), (.ref ob44), (.ref tt)])) rfl hml.symm (Steps.refl _) (a := ob44) (argsL := []) (rest := [(.ref ob44), (.ref tt)]) (lenOf pd1_ rfl) rfl own_z (hb hby D18_88) (o4 e44 314 1 2125 17)) fun T46 Lc46 _ X46 hQ46 => ?_
 obtain ⟨de_46, kde_46, rfl, M46, K46, g46_0, g46_1, g46_2, g46_3, g46_4, r46_0, r46_1⟩ := hQ46
 have N46 := Fr.app N43 M46
 have z46 := K46.1
 have lt_g46_0 := eG g46_0
 have lt_g46_4 := vG g46_4
 have q_11 : own_NE ob44 tt := mN
 have fc47 := (((((((((((((((((((((((Pf9.ext E2).keep K4 (nT (uS q_2) nin0)).other W7 (sO (Or.inr (w_ hw 323 rfl)) (Or.inr (w_ hw 294 rfl)))).ext E8).other W11 (sO (Or.inr (w_ hw 323 rfl)) (Or.inl (w_ hw 296 rfl)))).ext E12).other W15 (sO (Or.inr (w_ hw 323 rfl)) (Or.inl (w_ hw 298 rfl)))).ext E16).other W19 (sO (Or.inr (w_ hw 323 rfl)) (Or.inl (w_ hw 300 rfl)))).ext E20).keep K22 (nT (uS q_4) nin0)).other W25 (sO (Or.inr (w_ hw 323 rfl)) (Or.inr (w_ hw 304 rfl)))).ext E26).keep K28 (nT (uS q_6) nin0)).other W31 (sO (Or.inr (w_ hw 323 rfl)) (Or.inr (w_ hw 306 rfl)))).ext E32).keep K34 (nT (uS q_8) nin0)).other W37 (sO (Or.inr (w_ hw 323 rfl)) (Or.inr (w_ hw 308 rfl)))).ext E38).keep K40 (nT (uS q_10) nin0)).other W43 (sO (Or.inr (w_ hw 323 rfl)) (Or.inr (w_ hw 310 rfl)))).ext E44).keep K46 (nT (uS q_11) nin0))
 have fc48 := (((fc42.wr W43).ext E44).keep K46)
 obtain ⟨T49, h49, X49, e49, W49, st49⟩ := putF X46 hx hZ hown (host := "") (Or.inl (w_ hw 322 rfl)) Via.refl rfl fc47 fc48 (Or.inr ⟨(w_ hw 323 rfl), rfl, hnm⟩) (w_ hw 174 rfl) (ty := (.object s67_)) (by decide) rfl rfl (g := (mkF m 91 #[.val (.ref tt), .val (.int li), .val (.int ax)] [(.ref ob44), (.ref tt)])) rfl rfl (hb hby D18_91)
 refine ob_ st49 ?_
 have z49 := W49.size
 have N49 := Fr.snoc X49 N46 gt_tt
 have Fw49 : f24_ Z h49 tt (.ref ob44) := fc47.same W49
 have jn50 : ∀ (Tj50 : State), (∃ lc, Stand p l e ({ frames := 11, cells := 315, slots := 2142, locals := 189 } : Room) s m #[(.ref tt), (.int li), (.int ax)] below meth c Tj50 lc 315 2142 ∧ Fr n0 lc) → Tj50.heap = h49 → (True) → own_Go p e below (Tj50.setTop (mkF m 112 #[.val (.ref tt), .val (.int li), .val (.int ax)] [])) (own_R s ({ frames := 11, cells := 315, slots := 2142, locals := 189 } : Room) (Q_rm_dvi Z tt li ax dce kce mr h0 n0)) := by
  rintro Tj50 ⟨lc50, Xj50, Nj50⟩ ej50  hj50
  refine o_al Xj50 hx hby D18_112 rfl rfl ?_
  refine o_il Xj50 hx hby D18_113 rfl ?_
  have fc51 := ((((((((((((((((((((((((Pf10.ext E2).keep K4 (nT (uS q_2) nin0)).other W7 (sO (Or.inr (w_ hw 325 rfl)) (Or.inr (w_ hw 294 rfl)))).ext E8).other W11 (sO (Or.inr (w_ hw 325 rfl)) (Or.inl (w_ hw 296 rfl)))).ext E12).other W15 (sO (Or.inr (w_ hw 325 rfl)) (Or.inl (w_ hw 298 rfl)))).ext E16).other W19 (sO (Or.inr (w_ hw 325 rfl)) (Or.inl (w_ hw 300 rfl)))).ext E20).keep K22 (nT (uS q_4) nin0)).other W25 (sO (Or.inr (w_ hw 325 rfl)) (Or.inr (w_ hw 304 rfl)))).ext E26).keep K28 (nT (uS q_6) nin0)).other W31 (sO (Or.inr (w_ hw 325 rfl)) (Or.inr (w_ hw 306 rfl)))).ext E32).keep K34 (nT (uS q_8) nin0)).other W37 (sO (Or.inr (w_ hw 325 rfl)) (Or.inr (w_ hw 308 rfl)))).ext E38).keep K40 (nT (uS q_10) nin0)).other W43 (sO (Or.inr (w_ hw 325 rfl)) (Or.inr (w_ hw 310 rfl)))).ext E44).keep K46 (nT (uS q_11) nin0)).other W49 (sO (Or.inr (w_ hw 325 rfl)) (Or.inr (w_ hw 323 rfl))))
  have fc52 := (fc48.wr W49)
  obtain ⟨T53, h53, X53, e53, W53, st53⟩ := putFN Xj50 hx hZ hown (w_ hw 324 rfl) Via.refl ej50 fc51 fc52 (Or.inr ⟨(w_ hw 325 rfl), rfl, hnm⟩) (w_ hw 174 rfl) (ty := .boolean) (v' := (.int li)) (by decide) (own_nrw_b hli) (own_fits_v hli) (g := (mkF m 114 #[.val (.ref tt), .val (.int li), .val (.int ax)] [(.int li), (.ref tt)])) rfl rfl (hb hby D18_114)
  refine ob_ st53 ?_
  have z53 := W53.size
  have N53 := Fr.snoc X53 Nj50 gt_tt
  have Fw53 : f20_ Z h53 tt (.int li) := fc51.same W53
  refine o_al X53 hx hby D18_117 rfl rfl ?_
  refine o_il X53 hx hby D18_118 rfl ?_
  have fc54 := (((((((((((((((((((((((((Pf11.ext E2).keep K4 (nT (uS q_2) nin0)).other W7 (sO (Or.inr (w_ hw 327 rfl)) (Or.inr (w_ hw 294 rfl)))).ext E8).other W11 (sO (Or.inr (w_ hw 327 rfl)) (Or.inl (w_ hw 296 rfl)))).ext E12).other W15 (sO (Or.inr (w_ hw 327 rfl)) (Or.inl (w_ hw 298 rfl)))).ext E16).other W19 (sO (Or.inr (w_ hw 327 rfl)) (Or.inl (w_ hw 300 rfl)))).ext E20).keep K22 (nT (uS q_4) nin0)).other W25 (sO (Or.inr (w_ hw 327 rfl)) (Or.inr (w_ hw 304 rfl)))).ext E26).keep K28 (nT (uS q_6) nin0)).other W31 (sO (Or.inr (w_ hw 327 rfl)) (Or.inr (w_ hw 306 rfl)))).ext E32).keep K34 (nT (uS q_8) nin0)).other W37 (sO (Or.inr (w_ hw 327 rfl)) (Or.inr (w_ hw 308 rfl)))).ext E38).keep K40 (nT (uS q_10) nin0)).other W43 (sO (Or.inr (w_ hw 327 rfl)) (Or.inr (w_ hw 310 rfl)))).ext E44).keep K46 (nT (uS q_11) nin0)).other W49 (sO (Or.inr (w_ hw 327 rfl)) (Or.inr (w_ hw 323 rfl)))).other W53 (sO (Or.inr (w_ hw 327 rfl)) (Or.inr (w_ hw 325 rfl))))
  have fc55 := (fc52.wr W53)
  obtain ⟨T56, h56, X56, e56, W56, st56⟩ := putFN X53 hx hZ hown (w_ hw 326 rfl) Via.refl e53 fc54 fc55 (Or.inr ⟨(w_ hw 327 rfl), rfl, hnm⟩) (w_ hw 174 rfl) (ty := .boolean) (v' := (.int ax)) (by decide) (own_nrw_b hax) (own_fits_v hax) (g := (mkF m 119 #[.val (.ref tt), .val (.int li), .val (.int ax)] [(.int ax), (.ref tt)])) rfl rfl (hb hby D18_119)
  refine ob_ st56 ?_
  have z56 := W56.size
  have N56 := Fr.snoc X56 N53 gt_tt
  have Fw56 : f14_ Z h56 tt (.int ax) := fc54.same W56
  have fc57 := (fc55.wr W56)
  have fc58 := (((((((((((((((((((((((Fw7.ext E8).other W11 (sO (Or.inr (w_ hw 294 rfl)) (Or.inl (w_ hw 296 rfl)))).ext E12).other W15 (sO (Or.inr (w_ hw 294 rfl)) (Or.inl (w_ hw 298 rfl)))).ext E16).other W19 (sO (Or.inr (w_ hw 294 rfl)) (Or.inl (w_ hw 300 rfl)))).ext E20).keep K22 (nT (uS q_4) nin0)).other W25 (sO (Or.inr (w_ hw 294 rfl)) (Or.inr (w_ hw 304 rfl)))).ext E26).keep K28 (nT (uS q_6) nin0)).other W31 (sO (Or.inr (w_ hw 294 rfl)) (Or.inr (w_ hw 306 rfl)))).ext E32).keep K34 (nT (uS q_8) nin0)).other W37 (sO (Or.inr (w_ hw 294 rfl)) (Or.inr (w_ hw 308 rfl)))).ext E38).keep K40 (nT (uS q_10) nin0)).other W43 (sO (Or.inr (w_ hw 294 rfl)) (Or.inr (w_ hw 310 rfl)))).ext E44).keep K46 (nT (uS q_11) nin0)).other W49 (sO (Or.inr (w_ hw 294 rfl)) (Or.inr (w_ hw 323 rfl)))).other W53 (sO (Or.inr (w_ hw 294 rfl)) (Or.inr (w_ hw 325 rfl)))).other W56 (sO (Or.inr (w_ hw 294 rfl)) (Or.inr (w_ hw 327 rfl))))
  have fc59 := (((((((((((((((((((((Fw11.ext E12).other W15 (sO (Or.inl (w_ hw 296 rfl)) (Or.inl (w_ hw 298 rfl)))).ext E16).other W19 (sO (Or.inl (w_ hw 296 rfl)) (Or.inl (w_ hw 300 rfl)))).ext E20).keep K22 (nT (uS q_4) nin0)).other W25 (sO (Or.inl (w_ hw 296 rfl)) (Or.inr (w_ hw 304 rfl)))).ext E26).keep K28 (nT (uS q_6) nin0)).other W31 (sO (Or.inl (w_ hw 296 rfl)) (Or.inr (w_ hw 306 rfl)))).ext E32).keep K34 (nT (uS q_8) nin0)).other W37 (sO (Or.inl (w_ hw 296 rfl)) (Or.inr (w_ hw 308 rfl)))).ext E38).keep K40 (nT (uS q_10) nin0)).other W43 (sO (Or.inl (w_ hw 296 rfl)) (Or.inr (w_ hw 310 rfl)))).ext E44).keep K46 (nT (uS q_11) nin0)).other W49 (sO (Or.inl (w_ hw 296 rfl)) (Or.inr (w_ hw 323 rfl)))).other W53 (sO (Or.inl (w_ hw 296 rfl)) (Or.inr (w_ hw 325 rfl)))).other W56 (sO (Or.inl (w_ hw 296 rfl)) (Or.inr (w_ hw 327 rfl))))
  have fc60 := (((((((((((((((((((Fw15.ext E16).other W19 (sO (Or.inl (w_ hw 298 rfl)) (Or.inl (w_ hw 300 rfl)))).ext E20).keep K22 (nT (uS q_4) nin0)).other W25 (sO (Or.inl (w_ hw 298 rfl)) (Or.inr (w_ hw 304 rfl)))).ext E26).keep K28 (nT (uS q_6) nin0)).other W31 (sO (Or.inl (w_ hw 298 rfl)) (Or.inr (w_ hw 306 rfl)))).ext E32).keep K34 (nT (uS q_8) nin0)).other W37 (sO (Or.inl (w_ hw 298 rfl)) (Or.inr (w_ hw 308 rfl)))).ext E38).keep K40 (nT (uS q_10) nin0)).other W43 (sO (Or.inl (w_ hw 298 rfl)) (Or.inr (w_ hw 310 rfl)))).ext E44).keep K46 (nT (uS q_11) nin0)).other W49 (sO (Or.inl (w_ hw 298 rfl)) (Or.inr (w_ hw 323 rfl)))).other W53 (sO (Or.inl (w_ hw 298 rfl)) (Or.inr (w_ hw 325 rfl)))).other W56 (sO (Or.inl (w_ hw 298 rfl)) (Or.inr (w_ hw 327 rfl))))
  have fc61 := (((((((((((((((((Fw19.ext E20).keep K22 (nT (uS q_4) nin0)).other W25 (sO (Or.inl (w_ hw 300 rfl)) (Or.inr (w_ hw 304 rfl)))).ext E26).keep K28 (nT (uS q_6) nin0)).other W31 (sO (Or.inl (w_ hw 300 rfl)) (Or.inr (w_ hw 306 rfl)))).ext E32).keep K34 (nT (uS q_8) nin0)).other W37 (sO (Or.inl (w_ hw 300 rfl)) (Or.inr (w_ hw 308 rfl)))).ext E38).keep K40 (nT (uS q_10) nin0)).other W43 (sO (Or.inl (w_ hw 300 rfl)) (Or.inr (w_ hw 310 rfl)))).ext E44).keep K46 (nT (uS q_11) nin0)).other W49 (sO (Or.inl (w_ hw 300 rfl)) (Or.inr (w_ hw 323 rfl)))).other W53 (sO (Or.inl (w_ hw 300 rfl)) (Or.inr (w_ hw 325 rfl)))).other W56 (sO (Or.inl (w_ hw 300 rfl)) (Or.inr (w_ hw 327 rfl))))
  have fc62 := ((Fw49.other W53 (sO (Or.inr (w_ hw 323 rfl)) (Or.inr (w_ hw 325 rfl)))).other W56 (sO (Or.inr (w_ hw 323 rfl)) (Or.inr (w_ hw 327 rfl))))
  have fc63 := (Fw53.other W56 (sO (Or.inr (w_ hw 325 rfl)) (Or.inr (w_ hw 327 rfl))))
  have fc64 := ((((((((((((((Fw25.ext E26).keep K28 (nT (uS q_6) nin0)).other W31 (sO (Or.inr (w_ hw 304 rfl)) (Or.inr (w_ hw 306 rfl)))).ext E32).keep K34 (nT (uS q_8) nin0)).other W37 (sO (Or.inr (w_ hw 304 rfl)) (Or.inr (w_ hw 308 rfl)))).ext E38).keep K40 (nT (uS q_10) nin0)).other W43 (sO (Or.inr (w_ hw 304 rfl)) (Or.inr (w_ hw 310 rfl)))).ext E44).keep K46 (nT (uS q_11) nin0)).other W49 (sO (Or.inr (w_ hw 304 rfl)) (Or.inr (w_ hw 323 rfl)))).other W53 (sO (Or.inr (w_ hw 304 rfl)) (Or.inr (w_ hw 325 rfl)))).other W56 (sO (Or.inr (w_ hw 304 rfl)) (Or.inr (w_ hw 327 rfl))))
  have fc65 := (((((((((((Fw31.ext E32).keep K34 (nT (uS q_8) nin0)).other W37 (sO (Or.inr (w_ hw 306 rfl)) (Or.inr (w_ hw 308 rfl)))).ext E38).keep K40 (nT (uS q_10) nin0)).other W43 (sO (Or.inr (w_ hw 306 rfl)) (Or.inr (w_ hw 310 rfl)))).ext E44).keep K46 (nT (uS q_11) nin0)).other W49 (sO (Or.inr (w_ hw 306 rfl)) (Or.inr (w_ hw 323 rfl)))).other W53 (sO (Or.inr (w_ hw 306 rfl)) (Or.inr (w_ hw 325 rfl)))).other W56 (sO (Or.inr (w_ hw 306 rfl)) (Or.inr (w_ hw 327 rfl))))
  have fc66 := ((((((((Fw37.ext E38).keep K40 (nT (uS q_10) nin0)).other W43 (sO (Or.inr (w_ hw 308 rfl)) (Or.inr (w_ hw 310 rfl)))).ext E44).keep K46 (nT (uS q_11) nin0)).other W49 (sO (Or.inr (w_ hw 308 rfl)) (Or.inr (w_ hw 323 rfl)))).other W53 (sO (Or.inr (w_ hw 308 rfl)) (Or.inr (w_ hw 325 rfl)))).other W56 (sO (Or.inr (w_ hw 308 rfl)) (Or.inr (w_ hw 327 rfl))))
  have fc67 := (((((Fw43.ext E44).keep K46 (nT (uS q_11) nin0)).other W49 (sO (Or.inr (w_ hw 310 rfl)) (Or.inr (w_ hw 323 rfl)))).other W53 (sO (Or.inr (w_ hw 310 rfl)) (Or.inr (w_ hw 325 rfl)))).other W56 (sO (Or.inr (w_ hw 310 rfl)) (Or.inr (w_ hw 327 rfl))))
  have fc68 := ((((((((((((((((((((((((g4_0.wr W7).ext E8).wr W11).ext E12).wr W15).ext E16).wr W19).ext E20).keep K22).wr W25).ext E26).keep K28).wr W31).ext E32).keep K34).wr W37).ext E38).keep K40).wr W43).ext E44).keep K46).wr W49).wr W53).wr W56)
  have q_12 : own_NE ob2 ob20 := mN
  have q_13 : own_NE ob2 ob26 := mN
  have q_14 : own_NE ob2 ob32 := mN
  have q_15 : own_NE ob2 ob38 := mN
  have q_16 : own_NE ob2 ob44 := mN
  have fc69 := ((((((((((((((((((((((((g4_1.other W7 (Or.inl q_2)).ext E8).other W11 (Or.inl q_2)).ext E12).other W15 (Or.inl q_2)).ext E16).other W19 (Or.inl q_2)).ext E20).keep K22 (nT q_12 nin0)).other W25 (Or.inl q_2)).ext E26).keep K28 (nT q_13 nin0)).other W31 (Or.inl q_2)).ext E32).keep K34 (nT q_14 nin0)).other W37 (Or.inl q_2)).ext E38).keep K40 (nT q_15 nin0)).other W43 (Or.inl q_2)).ext E44).keep K46 (nT q_16 nin0)).other W49 (Or.inl q_2)).other W53 (Or.inl q_2)).other W56 (Or.inl q_2))
  have fc70 := ((((((((((((((((((((((((g4_2.other W7 (Or.inl q_2)).ext E8).other W11 (Or.inl q_2)).ext E12).other W15 (Or.inl q_2)).ext E16).other W19 (Or.inl q_2)).ext E20).keep K22 (nT q_12 nin0)).other W25 (Or.inl q_2)).ext E26).keep K28 (nT q_13 nin0)).other W31 (Or.inl q_2)).ext E32).keep K34 (nT q_14 nin0)).other W37 (Or.inl q_2)).ext E38).keep K40 (nT q_15 nin0)).other W43 (Or.inl q_2)).ext E44).keep K46 (nT q_16 nin0)).other W49 (Or.inl q_2)).other W53 (Or.inl q_2)).other W56 (Or.inl q_2))
  have fc71 := ((((((((((((((((((((((((g4_3.other W7 (Or.inl q_2)).ext E8).other W11 (Or.inl q_2)).ext E12).other W15 (Or.inl q_2)).ext E16).other W19 (Or.inl q_2)).ext E20).keep K22 (nT q_12 nin0)).other W25 (Or.inl q_2)).ext E26).keep K28 (nT q_13 nin0)).other W31 (Or.inl q_2)).ext E32).keep K34 (nT q_14 nin0)).other W37 (Or.inl q_2)).ext E38).keep K40 (nT q_15 nin0)).other W43 (Or.inl q_2)).ext E44).keep K46 (nT q_16 nin0)).other W49 (Or.inl q_2)).other W53 (Or.inl q_2)).other W56 (Or.inl q_2))
  have fc72 := ((((((((((((((((((((((((g4_4.other W7 (Or.inl q_2)).ext E8).other W11 (Or.inl q_2)).ext E12).other W15 (Or.inl q_2)).ext E16).other W19 (Or.inl q_2)).ext E20).keep K22 (nT q_12 nin0)).other W25 (Or.inl q_2)).ext E26).keep K28 (nT q_13 nin0)).other W31 (Or.inl q_2)).ext E32).keep K34 (nT q_14 nin0)).other W37 (Or.inl q_2)).ext E38).keep K40 (nT q_15 nin0)).other W43 (Or.inl q_2)).ext E44).keep K46 (nT q_16 nin0)).other W49 (Or.inl q_2)).other W53 (Or.inl q_2)).other W56 (Or.inl q_2))
  have q_17 : own_NE ms_4 tt := mN
  have fc73 := ((((((((((((((((((((((((g4_5.other W7 q_17).ext E8).other W11 q_17).ext E12).other W15 q_17).ext E16).other W19 q_17).ext E20).keep K22 (nS nin0)).other W25 q_17).ext E26).keep K28 (nS nin0)).other W31 q_17).ext E32).keep K34 (nS nin0)).other W37 q_17).ext E38).keep K40 (nS nin0)).other W43 q_17).ext E44).keep K46 (nS nin0)).other W49 q_17).other W53 q_17).other W56 q_17)
  have q_18 : own_NE hl_4 tt := mN
  have fc74 := ((((((((((((((((((((((((g4_6.other W7 q_18).ext E8).other W11 q_18).ext E12).other W15 q_18).ext E16).other W19 q_18).ext E20).keep K22 (nS nin0)).other W25 q_18).ext E26).keep K28 (nS nin0)).other W31 q_18).ext E32).keep K34 (nS nin0)).other W37 q_18).ext E38).keep K40 (nS nin0)).other W43 q_18).ext E44).keep K46 (nS nin0)).other W49 q_18).other W53 q_18).other W56 q_18)
  have fc75 := ((((((((((((((((((((((((g4_7.wr W7).ext E8).wr W11).ext E12).wr W15).ext E16).wr W19).ext E20).keep K22).wr W25).ext E26).keep K28).wr W31).ext E32).keep K34).wr W37).ext E38).keep K40).wr W43).ext E44).keep K46).wr W49).wr W53).wr W56)
  have q_19 : own_NE mb_4 tt := mN
  have q_20 : own_NE mb_4 ob20 := mN
  have q_21 : own_NE mb_4 ob26 := mN
  have q_22 : own_NE mb_4 ob32 := mN
  have q_23 : own_NE mb_4 ob38 := mN
  have q_24 : own_NE mb_4 ob44 := mN
  have fc76 := ((((((((((((((((((((((((g4_8.other W7 (Or.inl q_19)).ext E8).other W11 (Or.inl q_19)).ext E12).other W15 (Or.inl q_19)).ext E16).other W19 (Or.inl q_19)).ext E20).keep K22 (nT q_20 nin0)).other W25 (Or.inl q_19)).ext E26).keep K28 (nT q_21 nin0)).other W31 (Or.inl q_19)).ext E32).keep K34 (nT q_22 nin0)).other W37 (Or.inl q_19)).ext E38).keep K40 (nT q_23 nin0)).other W43 (Or.inl q_19)).ext E44).keep K46 (nT q_24 nin0)).other W49 (Or.inl q_19)).other W53 (Or.inl q_19)).other W56 (Or.inl q_19))
  have fc77 := ((((((((((((((((((((((((g4_9.other W7 (Or.inl q_19)).ext E8).other W11 (Or.inl q_19)).ext E12).other W15 (Or.inl q_19)).ext E16).other W19 (Or.inl q_19)).ext E20).keep K22 (nT q_20 nin0)).other W25 (Or.inl q_19)).ext E26).keep K28 (nT q_21 nin0)).other W31 (Or.inl q_19)).ext E32).keep K34 (nT q_22 nin0)).other W37 (Or.inl q_19)).ext E38).keep K40 (nT q_23 nin0)).other W43 (Or.inl q_19)).ext E44).keep K46 (nT q_24 nin0)).other W49 (Or.inl q_19)).other W53 (Or.inl q_19)).other W56 (Or.inl q_19))
  have fc78 := ((((((((((((((((((((((((g4_10.other W7 (Or.inl q_19)).ext E8).other W11 (Or.inl q_19)).ext E12).other W15 (Or.inl q_19)).ext E16).other W19 (Or.inl q_19)).ext E20).keep K22 (nT q_20 nin0)).other W25 (Or.inl q_19)).ext E26).keep K28 (nT q_21 nin0)).other W31 (Or.inl q_19)).ext E32).keep K34 (nT q_22 nin0)).other W37 (Or.inl q_19)).ext E38).keep K40 (nT q_23 nin0)).other W43 (Or.inl q_19)).ext E44).keep K46 (nT q_24 nin0)).other W49 (Or.inl q_19)).other W53 (Or.inl q_19)).other W56 (Or.inl q_19))
  have fc79 := (((g46_0.wr W49).wr W53).wr W56)
  have fc80 := (((g46_1.other W49 (Or.inl q_11)).other W53 (Or.inl q_11)).other W56 (Or.inl q_11))
  have fc81 := (((g46_2.other W49 (Or.inl q_11)).other W53 (Or.inl q_11)).other W56 (Or.inl q_11))
  have fc82 := (((g46_3.other W49 (Or.inl q_11)).other W53 (Or.inl q_11)).other W56 (Or.inl q_11))
  have q_25 : own_NE de_46 tt := mN
  have fc83 := (((g46_4.other W49 q_25).other W53 q_25).other W56 q_25)
  have q_26 : own_NE ob8 tt := mN
  have fc84 := ((((((((((((((((((((((Vw8.other W11 q_26).ext E12).other W15 q_26).ext E16).other W19 q_26).ext E20).keep K22 (nS nin0)).other W25 q_26).ext E26).keep K28 (nS nin0)).other W31 q_26).ext E32).keep K34 (nS nin0)).other W37 q_26).ext E38).keep K40 (nS nin0)).other W43 q_26).ext E44).keep K46 (nS nin0)).other W49 q_26).other W53 q_26).other W56 q_26)
  have q_27 : own_NE ob12 tt := mN
  have fc85 := ((((((((((((((((((((Vw12.other W15 q_27).ext E16).other W19 q_27).ext E20).keep K22 (nS nin0)).other W25 q_27).ext E26).keep K28 (nS nin0)).other W31 q_27).ext E32).keep K34 (nS nin0)).other W37 q_27).ext E38).keep K40 (nS nin0)).other W43 q_27).ext E44).keep K46 (nS nin0)).other W49 q_27).other W53 q_27).other W56 q_27)
  have q_28 : own_NE ob16 tt := mN
  have fc86 := ((((((((((((((((((Vw16.other W19 q_28).ext E20).keep K22 (nS nin0)).other W25 q_28).ext E26).keep K28 (nS nin0)).other W31 q_28).ext E32).keep K34 (nS nin0)).other W37 q_28).ext E38).keep K40 (nS nin0)).other W43 q_28).ext E44).keep K46 (nS nin0)).other W49 q_28).other W53 q_28).other W56 q_28)
  have fc87 := (((((((((((((((g22_0.wr W25).ext E26).keep K28).wr W31).ext E32).keep K34).wr W37).ext E38).keep K40).wr W43).ext E44).keep K46).wr W49).wr W53).wr W56)
  have q_29 : own_NE ob20 ob26 := mN
  have q_30 : own_NE ob20 ob32 := mN
  have q_31 : own_NE ob20 ob38 := mN
  have q_32 : own_NE ob20 ob44 := mN
  have fc88 := (((((((((((((((g22_1.other W25 (Or.inl q_4)).ext E26).keep K28 (nT q_29 nin0)).other W31 (Or.inl q_4)).ext E32).keep K34 (nT q_30 nin0)).other W37 (Or.inl q_4)).ext E38).keep K40 (nT q_31 nin0)).other W43 (Or.inl q_4)).ext E44).keep K46 (nT q_32 nin0)).other W49 (Or.inl q_4)).other W53 (Or.inl q_4)).other W56 (Or.inl q_4))
  have fc89 := (((((((((((((((g22_2.other W25 (Or.inl q_4)).ext E26).keep K28 (nT q_29 nin0)).other W31 (Or.inl q_4)).ext E32).keep K34 (nT q_30 nin0)).other W37 (Or.inl q_4)).ext E38).keep K40 (nT q_31 nin0)).other W43 (Or.inl q_4)).ext E44).keep K46 (nT q_32 nin0)).other W49 (Or.inl q_4)).other W53 (Or.inl q_4)).other W56 (Or.inl q_4))
  have fc90 := (((((((((((((((g22_3.other W25 (Or.inl q_4)).ext E26).keep K28 (nT q_29 nin0)).other W31 (Or.inl q_4)).ext E32).keep K34 (nT q_30 nin0)).other W37 (Or.inl q_4)).ext E38).keep K40 (nT q_31 nin0)).other W43 (Or.inl q_4)).ext E44).keep K46 (nT q_32 nin0)).other W49 (Or.inl q_4)).other W53 (Or.inl q_4)).other W56 (Or.inl q_4))
  have fc91 := ((((((((((((g28_0.wr W31).ext E32).keep K34).wr W37).ext E38).keep K40).wr W43).ext E44).keep K46).wr W49).wr W53).wr W56)
  have q_33 : own_NE ob26 ob32 := mN
  have q_34 : own_NE ob26 ob38 := mN
  have q_35 : own_NE ob26 ob44 := mN
  have fc92 := ((((((((((((g28_1.other W31 (Or.inl q_6)).ext E32).keep K34 (nT q_33 nin0)).other W37 (Or.inl q_6)).ext E38).keep K40 (nT q_34 nin0)).other W43 (Or.inl q_6)).ext E44).keep K46 (nT q_35 nin0)).other W49 (Or.inl q_6)).other W53 (Or.inl q_6)).other W56 (Or.inl q_6))
  have fc93 := ((((((((((((g28_2.other W31 (Or.inl q_6)).ext E32).keep K34 (nT q_33 nin0)).other W37 (Or.inl q_6)).ext E38).keep K40 (nT q_34 nin0)).other W43 (Or.inl q_6)).ext E44).keep K46 (nT q_35 nin0)).other W49 (Or.inl q_6)).other W53 (Or.inl q_6)).other W56 (Or.inl q_6))
  have fc94 := ((((((((((((g28_3.other W31 (Or.inl q_6)).ext E32).keep K34 (nT q_33 nin0)).other W37 (Or.inl q_6)).ext E38).keep K40 (nT q_34 nin0)).other W43 (Or.inl q_6)).ext E44).keep K46 (nT q_35 nin0)).other W49 (Or.inl q_6)).other W53 (Or.inl q_6)).other W56 (Or.inl q_6))
  have fc95 := (((((((((g34_0.wr W37).ext E38).keep K40).wr W43).ext E44).keep K46).wr W49).wr W53).wr W56)
  have q_36 : own_NE ob32 ob38 := mN
  have q_37 : own_NE ob32 ob44 := mN
  have fc96 := (((((((((g34_1.other W37 (Or.inl q_8)).ext E38).keep K40 (nT q_36 nin0)).other W43 (Or.inl q_8)).ext E44).keep K46 (nT q_37 nin0)).other W49 (Or.inl q_8)).other W53 (Or.inl q_8)).other W56 (Or.inl q_8))
  have fc97 := (((((((((g34_2.other W37 (Or.inl q_8)).ext E38).keep K40 (nT q_36 nin0)).other W43 (Or.inl q_8)).ext E44).keep K46 (nT q_37 nin0)).other W49 (Or.inl q_8)).other W53 (Or.inl q_8)).other W56 (Or.inl q_8))
  have fc98 := (((((((((g34_3.other W37 (Or.inl q_8)).ext E38).keep K40 (nT q_36 nin0)).other W43 (Or.inl q_8)).ext E44).keep K46 (nT q_37 nin0)).other W49 (Or.inl q_8)).other W53 (Or.inl q_8)).other W56 (Or.inl q_8))
  have fc99 := ((((((g40_0.wr W43).ext E44).keep K46).wr W49).wr W53).wr W56)
  have q_38 : own_NE ob38 ob44 := mN
  have fc100 := ((((((g40_1.other W43 (Or.inl q_10)).ext E44).keep K46 (nT q_38 nin0)).other W49 (Or.inl q_10)).other W53 (Or.inl q_10)).other W56 (Or.inl q_10))
  have fc101 := ((((((g40_2.other W43 (Or.inl q_10)).ext E44).keep K46 (nT q_38 nin0)).other W49 (Or.inl q_10)).other W53 (Or.inl q_10)).other W56 (Or.inl q_10))
  have fc102 := ((((((g40_3.other W43 (Or.inl q_10)).ext E44).keep K46 (nT q_38 nin0)).other W49 (Or.inl q_10)).other W53 (Or.inl q_10)).other W56 (Or.inl q_10))
  have K103 : Keep h0 h56 [tt] := (((((((((((((((((((((((((((Keep.refl h0 [tt]).ext E2).trans K4 (kR all0)).wr W7 (Or.inl (List.mem_of_getElem? (i := 0) rfl))).ext E8).wr W11 (Or.inl (List.mem_of_getElem? (i := 0) rfl))).ext E12).wr W15 (Or.inl (List.mem_of_getElem? (i := 0) rfl))).ext E16).wr W19 (Or.inl (List.mem_of_getElem? (i := 0) rfl))).ext E20).trans K22 (kR all0)).wr W25 (Or.inl (List.mem_of_getElem? (i := 0) rfl))).ext E26).trans K28 (kR all0)).wr W31 (Or.inl (List.mem_of_getElem? (i := 0) rfl))).ext E32).trans K34 (kR all0)).wr W37 (Or.inl (List.mem_of_getElem? (i := 0) rfl))).ext E38).trans K40 (kR all0)).wr W43 (Or.inl (List.mem_of_getElem? (i := 0) rfl))).ext E44).trans K46 (kR all0)).wr W49 (Or.inl (List.mem_of_getElem? (i := 0) rfl))).wr W53 (Or.inl (List.mem_of_getElem? (i := 0) rfl))).wr W56 (Or.inl (List.mem_of_getElem? (i := 0) rfl)))
  exact o_rv Bd X56 hx hby e56 D18_122 ⟨ob2, mb_4, ms_4, kms_4, hl_4, khl_4, ob44, de_46, kde_46, ob8, ob12, ob16, ob20, ob26, ob32, ob38, k8, k12, k16, rfl, N56, K103, fc57, fc58, fc59, fc60, fc61, fc62, fc63, Fw56, fc64, fc65, fc66, fc67, fc68, fc69, fc70, fc71, fc72, fc73, fc74, fc75, fc76, fc77, fc78, fc79, fc80, fc81, fc82, fc83, fc84, fc85, fc86, fc87, fc88, fc89, fc90, fc91, fc92, fc93, fc94, fc95, fc96, fc97, fc98, fc99, fc100, fc101, fc102, r46_0, (by first | assumption | omega), (by simp only [own_asc, and_true]; omega)⟩
 refine o_il X49 hx hby D18_94 rfl ?_
 by_cases hc104 : ax = (0 : Int32)
 ·
  refine ob_ (fun _ k => XS.ifYes X49.here hx rfl (pc0 := 95) (pc' := 112) rfl (hb hby D18_95) rfl ((if0 _ _).trans (teq hc104).1) (by decide) (by decide) k) ?_
  exact jn50 _ ⟨_, X49, N49⟩ e49  trivial
 ·
  refine ob_ (fun _ k => XS.ifNo X49.here hx rfl (hb hby D18_95) rfl ((if0 _ _).trans (feq hc104).1) k) ?_
  refine o_il X49 hx hby D18_98 rfl ?_
  by_cases hc105 : li = (0 : Int32)
  ·
   refine ob_ (fun _ k => XS.ifNo X49.here hx rfl (hb hby D18_99) rfl ((if0 _ _).trans (teq hc105).2) k) ?_
   exact absurd (hla (by assumption)) (by assumption)
  ·
   refine ob_ (fun _ k => XS.ifYes X49.here hx rfl (pc0 := 99) (pc' := 112) rfl (hb hby D18_99) rfl ((if0 _ _).trans (feq hc105).2) (by decide) (by decide) k) ?_
   exact jn50 _ ⟨_, X49, N49⟩ e49  trivial
abbrev dD54 (n : Nat) (i : Instr) (k : Nat) : Prop := decode jdk_40_method_36_code n = .ok (i, k)
theorem D54_0 : dD54 0 (.getstatic 90) 3 := by decide +kernel
theorem D54_3 : dD54 3 .areturn 1 := by decide +kernel
def Q_rm_lo0 (Z : State) (el ele : Addr) (kele : ClassId) (h0 : Heap) (n0 : Nat) (v : Option Value) (h : Heap) (L : List Loc) : Prop := v = some (.ref el) ∧ Fr n0 L ∧ h = h0
theorem rm_lo0 (l : Launch) (Z : State) (a0 : Array Value) (hw : own_Wd Z a0) (ws : List Jvm.Cond) (el ele : Addr) (kele : ClassId) (h0 : Heap) (n0 : Nat) (O0 : Old Z n0 h0) (S_EL : Sta Z Z.heap s25_ "EMPTY_LIST" s26_ (.ref el)) (E_EL : Exa Z Z.heap el s29_) (F_EL : f3_ Z Z.heap el (.ref ele)) (A_EL : Arv Z Z.heap ele kele (.object s7_) (0 : Int32) [] .null) :
  own_M l Z ws y51_ jdk_40_method_36_code 0 (some (.object s16_)) ({ frames := 0, cells := 0, slots := 0, locals := 0 } : Room) #[] h0 (Q_rm_lo0 Z el ele kele h0 n0) := by
 refine own_open O0 (plainFor_of_name pn12_) (L0 := #[]) ?_
 intro p e s m below meth c s₁ Bd hx hby hml hZ hh hown hnm X0 e0 N0 Z0
 obtain ⟨T1, X1, e1, st1⟩ := getS2 X0 hx hZ hown (host := "") (Or.inl (w_ hw 116 rfl)) Via.refl e0 (S_EL.ext O0.2) (g := (mkF m 0 #[] [])) rfl (hb hby D54_0)
 refine ob_ st1 ?_
 exact o_ra Bd X1 hx hby e1 D54_3 rfl ⟨rfl, N0, rfl⟩
abbrev dD38 (n : Nat) (i : Instr) (k : Nat) : Prop := decode prog_12_method_5_code n = .ok (i, k)
theorem D38_0 : dD38 0 (.iload_n 1) 1 := by decide +kernel
theorem D38_1 : dD38 1 (.aload_n 0) 1 := by decide +kernel
theorem D38_2 : dD38 2 (.getfield 16) 3 := by decide +kernel
theorem D38_5 : dD38 5 .arraylength 1 := by decide +kernel
theorem D38_6 : dD38 6 (.if_icmp .ne 45) 3 := by decide +kernel
theorem D38_51 : dD38 51 (.aload_n 0) 1 := by decide +kernel
theorem D38_52 : dD38 52 (.getfield 16) 3 := by decide +kernel
theorem D38_55 : dD38 55 (.iload_n 1) 1 := by decide +kernel
theorem D38_56 : dD38 56 (.iload_n 2) 1 := by decide +kernel
theorem D38_57 : dD38 57 .bastore 1 := by decide +kernel
theorem D38_58 : dD38 58 (.aload_n 0) 1 := by decide +kernel
theorem D38_59 : dD38 59 (.getfield 56) 3 := by decide +kernel
theorem D38_62 : dD38 62 (.ifCond .eq 110) 3 := by decide +kernel
theorem D38_65 : dD38 65 (.aload_n 0) 1 := by decide +kernel
theorem D38_66 : dD38 66 (.getfield 29) 3 := by decide +kernel
theorem D38_69 : dD38 69 (.new 26) 3 := by decide +kernel
theorem D38_72 : dD38 72 .dup 1 := by decide +kernel
theorem D38_73 : dD38 73 (.invokespecial 28) 3 := by decide +kernel
theorem D38_76 : dD38 76 (.invokeinterface 97 2) 5 := by decide +kernel
theorem D38_81 : dD38 81 .pop 1 := by decide +kernel
theorem D38_82 : dD38 82 (.aload_n 0) 1 := by decide +kernel
theorem D38_83 : dD38 83 (.getfield 33) 3 := by decide +kernel
theorem D38_86 : dD38 86 (.aload_n 0) 1 := by decide +kernel
theorem D38_87 : dD38 87 (.getfield 60) 3 := by decide +kernel
theorem D38_90 : dD38 90 (.ifCond .eq 13) 3 := by decide +kernel
theorem D38_93 : dD38 93 (.new 26) 3 := by decide +kernel
theorem D38_96 : dD38 96 .dup 1 := by decide +kernel
theorem D38_97 : dD38 97 (.invokespecial 28) 3 := by decide +kernel
theorem D38_100 : dD38 100 (.goto 6) 3 := by decide +kernel
theorem D38_103 : dD38 103 (.invokestatic 102) 3 := by decide +kernel
theorem D38_106 : dD38 106 (.invokeinterface 97 2) 5 := by decide +kernel
theorem D38_111 : dD38 111 .pop 1 := by decide +kernel
theorem D38_112 : dD38 112 (.aload_n 0) 1 := by decide +kernel
theorem D38_113 : dD38 113 (.getfield 36) 3 := by decide +kernel
theorem D38_116 : dD38 116 (.aload_n 0) 1 := by decide +kernel
theorem D38_117 : dD38 117 (.getfield 60) 3 := by decide +kernel
theorem D38_120 : dD38 120 (.ifCond .eq 13) 3 := by decide +kernel
theorem D38_123 : dD38 123 (.new 26) 3 := by decide +kernel
theorem D38_126 : dD38 126 .dup 1 := by decide +kernel
theorem D38_127 : dD38 127 (.invokespecial 28) 3 := by decide +kernel
theorem D38_130 : dD38 130 (.goto 6) 3 := by decide +kernel
theorem D38_133 : dD38 133 (.invokestatic 102) 3 := by decide +kernel
theorem D38_136 : dD38 136 (.invokeinterface 97 2) 5 := by decide +kernel
theorem D38_141 : dD38 141 .pop 1 := by decide +kernel
theorem D38_142 : dD38 142 (.aload_n 0) 1 := by decide +kernel
theorem D38_143 : dD38 143 (.getfield 39) 3 := by decide +kernel
theorem D38_146 : dD38 146 (.aload_n 0) 1 := by decide +kernel
theorem D38_147 : dD38 147 (.getfield 60) 3 := by decide +kernel
theorem D38_150 : dD38 150 (.ifCond .eq 13) 3 := by decide +kernel
theorem D38_153 : dD38 153 (.new 26) 3 := by decide +kernel
theorem D38_156 : dD38 156 .dup 1 := by decide +kernel
theorem D38_157 : dD38 157 (.invokespecial 28) 3 := by decide +kernel
theorem D38_160 : dD38 160 (.goto 6) 3 := by decide +kernel
theorem D38_163 : dD38 163 (.invokestatic 102) 3 := by decide +kernel
theorem D38_166 : dD38 166 (.invokeinterface 97 2) 5 := by decide +kernel
theorem D38_171 : dD38 171 .pop 1 := by decide +kernel
theorem D38_172 : dD38 172 (.iload_n 2) 1 := by decide +kernel
theorem D38_173 : dD38 173 (.ifCond .ne 17) 3 := by decide +kernel
theorem D38_176 : dD38 176 (.aload_n 0) 1 := by decide +kernel
theorem D38_177 : dD38 177 (.getfield 45) 3 := by decide +kernel
theorem D38_180 : dD38 180 (.iload_n 1) 1 := by decide +kernel
theorem D38_181 : dD38 181 (.invokestatic 106) 3 := by decide +kernel
theorem D38_184 : dD38 184 (.invokeinterface 112 2) 5 := by decide +kernel
theorem D38_189 : dD38 189 .pop 1 := by decide +kernel
theorem D38_190 : dD38 190 (.iload_n 1) 1 := by decide +kernel
theorem D38_191 : dD38 191 .ireturn 1 := by decide +kernel
def Q_rm_adm0 (Z : State) (ds un xa : Addr) (kxa : ClassId) (ca dq de : Addr) (kde : ClassId) (li ax ee : Int32) (ch sp dr dp dce : Addr) (kce : ClassId) (el ele : Addr) (kele : ClassId) (ci : Addr) (cci : Cell) (md_ch md_sp md_dr md_dp : Int32) (h0 : Heap) (n0 : Nat) (v : Option Value) (h : Heap) (L : List Loc) : Prop := ∃ (tq : Int32) (wq : List Value) (da db dc dg : Addr) (kda kdb kdc kdg : ClassId) (cda cdb cdc cdg : Int32) (vda vdb vdc vdg : List Value) (mda mdb mdc mdg : Int32), v = some v0_ ∧ Fr n0 L ∧ Keep h0 h [xa, ch, sp, dr, dp, dq, de] ∧ Arv Z h xa kxa .boolean (16 : Int32) [(.int ee)] v0_ ∧ Exa Z h dq s57_ ∧ f34_ Z h dq v0_ ∧ f35_ Z h dq (.int tq) ∧ f33_ Z h dq (.ref de) ∧ Arv Z h de kde (.object s7_) (17 : Int32) wq .null ∧ Exa Z h ch s4_ ∧ f32_ Z h ch (.int li) ∧ f36_ Z h ch (.int mda) ∧ f31_ Z h ch (.ref da) ∧ Arv Z h da kda (.object s7_) cda vda .null ∧ Exa Z h da s9_ ∧ own_obs Z h vda ∧ Exa Z h sp s4_ ∧ f32_ Z h sp (.int li) ∧ f36_ Z h sp (.int mdb) ∧ f31_ Z h sp (.ref db) ∧ Arv Z h db kdb (.object s7_) cdb vdb .null ∧ Exa Z h db s9_ ∧ own_obs Z h vdb ∧ Exa Z h dr s4_ ∧ f32_ Z h dr (.int li) ∧ f36_ Z h dr (.int mdc) ∧ f31_ Z h dr (.ref dc) ∧ Arv Z h dc kdc (.object s7_) cdc vdc .null ∧ Exa Z h dc s9_ ∧ own_obs Z h vdc ∧ Exa Z h dp s4_ ∧ f32_ Z h dp (.int li) ∧ f36_ Z h dp (.int mdg) ∧ f31_ Z h dp (.ref dg) ∧ Arv Z h dg kdg (.object s7_) cdg vdg .null ∧ Exa Z h dg s9_ ∧ own_obs Z h vdg ∧ own_w0 Z ee tq wq ∧ (li = 0 ∨ (cda = 10 ∧ cdb = 10 ∧ cdc = 10 ∧ cdg = 10 ∧ Ovr Z kda s7_ ∧ Ovr Z kdb s7_ ∧ Ovr Z kdc s7_ ∧ Ovr Z kdg s7_ ∧ own_asc [de, da, db, dc, dg])) ∧ ((@LT.lt Nat instLTNat da n0 ∧ @LT.lt Nat instLTNat db n0 ∧ @LT.lt Nat instLTNat dc n0 ∧ @LT.lt Nat instLTNat dg n0) ∨ (h0.size ≤ da ∧ @LT.lt Nat instLTNat da db ∧ @LT.lt Nat instLTNat db dc ∧ @LT.lt Nat instLTNat dc dg))
theorem rm_adm0 (l : Launch) (Z : State) (a0 : Array Value) (hw : own_Wd Z a0) (ws : List Jvm.Cond) (ds un xa : Addr) (kxa : ClassId) (ca dq de : Addr) (kde : ClassId) (li ax ee : Int32) (ch sp dr dp dce : Addr) (kce : ClassId) (el ele : Addr) (kele : ClassId) (ci : Addr) (cci : Cell) (md_ch md_sp md_dr md_dp : Int32) (h0 : Heap) (n0 : Nat) (O0 : Old Z n0 h0) (S_DCE : Sta Z Z.heap s4_ s8_ s9_ (.ref dce)) (A_DCE : Arv Z Z.heap dce kce (.object s7_) (0 : Int32) [] .null) (E_DCE : Exa Z Z.heap dce s9_) (S_EL : Sta Z Z.heap s25_ "EMPTY_LIST" s26_ (.ref el)) (E_EL : Exa Z Z.heap el s29_) (F_EL : f3_ Z Z.heap el (.ref ele)) (A_EL : Arv Z Z.heap ele kele (.object s7_) (0 : Int32) [] .null) (S_high : Sta Z Z.heap s65_ "high" "I" (.int (127 : Int32))) (S_icache : Sta Z Z.heap s65_ "cache" s66_ (.ref ci)) (Bxi : Bxs Z ci cci s63_ "I" (256 : Int32) (fun j => .int (j - 128))) (Pm0 : Exa Z h0 ds s37_) (Pm1 : f23_ Z h0 ds (.ref un)) (Pm2 : f19_ Z h0 ds (.ref xa)) (Pm3 : f16_ Z h0 ds (.ref ca)) (Pm4 : f24_ Z h0 ds (.ref dq)) (Pm5 : f20_ Z h0 ds (.int li)) (Pm6 : f14_ Z h0 ds (.int ax)) (Pm7 : f15_ Z h0 ds (.ref ch)) (Pm8 : f22_ Z h0 ds (.ref sp)) (Pm9 : f17_ Z h0 ds (.ref dr)) (Pm10 : f18_ Z h0 ds (.ref dp)) (Pm11 : Arv Z h0 xa kxa .boolean (16 : Int32) [] v0_) (Pm12 : Exa Z h0 ch s4_) (Pm13 : f32_ Z h0 ch v0_) (Pm14 : f36_ Z h0 ch (.int md_ch)) (Pm15 : f31_ Z h0 ch (.ref dce)) (Pm16 : Exa Z h0 sp s4_) (Pm17 : f32_ Z h0 sp v0_) (Pm18 : f36_ Z h0 sp (.int md_sp)) (Pm19 : f31_ Z h0 sp (.ref dce)) (Pm20 : Exa Z h0 dr s4_) (Pm21 : f32_ Z h0 dr v0_) (Pm22 : f36_ Z h0 dr (.int md_dr)) (Pm23 : f31_ Z h0 dr (.ref dce)) (Pm24 : Exa Z h0 dp s4_) (Pm25 : f32_ Z h0 dp v0_) (Pm26 : f36_ Z h0 dp (.int md_dp)) (Pm27 : f31_ Z h0 dp (.ref dce)) (Pm28 : Exa Z h0 dq s57_) (Pm29 : f34_ Z h0 dq v0_) (Pm30 : f35_ Z h0 dq v0_) (Pm31 : f33_ Z h0 dq (.ref de)) (Pm32 : Arv Z h0 de kde (.object s7_) (17 : Int32) [] .null) (gt_ds : n0 ≤ ds) (hch : own_asc [ds, xa, ch, sp, dr, dp, dq, de]) (ovq : Ovr Z kde s7_) (hli : li = 0 ∨ li = 1) (hee : ee = 0 ∨ ee = 1) :
  own_M l Z ws y52_ prog_12_method_5_code 3 (some .int) ({ frames := 5, cells := 9, slots := 61, locals := 69 } : Room) #[(.ref ds), v0_, (.int ee)] h0 (Q_rm_adm0 Z ds un xa kxa ca dq de kde li ax ee ch sp dr dp dce kce el ele kele ci cci md_ch md_sp md_dr md_dp h0 n0) := by
 refine own_open O0 (plainFor_of_name pn20_) (L0 := #[.val (.ref ds), .val v0_, .val (.int ee)]) ?_
 intro p e s m below meth c s₁ Bd hx hby hml hZ hh hown hnm X0 e0 N0 Z0
 have hq_hch := hch
 simp only [own_asc] at hq_hch
 have lt_Pm0 := eG Pm0
 have lt_Pm11 := vG Pm11
 have lt_Pm12 := eG Pm12
 have lt_Pm16 := eG Pm16
 have lt_Pm20 := eG Pm20
 have lt_Pm24 := eG Pm24
 have lt_Pm28 := eG Pm28
 have lt_Pm32 := vG Pm32
 refine o_il X0 hx hby D38_0 rfl ?_
 refine o_al X0 hx hby D38_1 rfl rfl ?_
 refine o_gf X0 hx hby hZ hown hw 295 rfl Via.refl e0 Pm2 D38_2 fun T1 X1 e1 => ?_
 obtain ⟨cl2, Ar2, q2, S2, M2, H2, G2⟩ := (id Pm11)
 refine ob_ (X1.arraylength hx (by rw [e1]; exact Ar2.1) (State.isArrayOf_alike hZ.alike Ar2.2.1) (g := (mkF m 5 #[.val (.ref ds), .val v0_, .val (.int ee)] [(.ref xa), v0_])) rfl rfl (hb hby D38_5)) ?_
 rw [len_of S2 M2]
 refine ob_ (fun _ k => XS.icmpYes X1.here hx rfl (pc0 := 6) (pc' := 51) rfl (hb hby D38_6) rfl (feq (by decide : ¬ ((0 : Int32) = (16 : Int32)))).2 (by decide) (by decide) k) ?_
 refine o_al X1 hx hby D38_51 rfl rfl ?_
 refine o_gf X1 hx hby hZ hown hw 295 rfl Via.refl e1 Pm2 D38_52 fun T3 X3 e3 => ?_
 refine o_il X3 hx hby D38_55 rfl ?_
 refine o_il X3 hx hby D38_56 rfl ?_
 have Vw4 : Arv Z h0 xa kxa .boolean (16 : Int32) [v0_] v0_ := Pm11.pad (pad_rep [] v0_ 1)
 obtain ⟨cl5, Ar5, q5, S5, M5, H5, G5⟩ := (id Vw4)
 have hin5 : ¬ ((0 : Int32) < 0 ∨ cl5.slots.size ≤ ((0 : Int32)).toNatClampNeg) := inb_of S5 ⟨by decide, by decide⟩
 obtain ⟨T5, h5, X5, e5, W5, st5⟩ := stZ X3 hx hZ e3 Ar5 (j := (0 : Int32)) hin5 (g := (mkF m 57 #[.val (.ref ds), .val v0_, .val (.int ee)] [(.int ee), v0_, (.ref xa)])) rfl rfl (hb hby D38_57)
 refine ob_ st5 ?_
 rw [own_nar_b hee] at W5
 have z5 := W5.size
 have q_1 : own_LE n0 xa := mL
 have N5 := Fr.snoc X5 N0 q_1
 have Vw5 : Arv Z h5 xa kxa .boolean (16 : Int32) [(.int ee)] v0_ := Arv.set Ar5 q5 S5 M5 H5 G5 (own_fits_b hee) W5 0 rfl (Nat.le_of_ble_eq_true rfl)
 refine o_al X5 hx hby D38_58 rfl rfl ?_
 have q_2 : own_NE ds xa := mN
 have fc6 := (Pm5.other W5 (Or.inl q_2))
 refine o_gf X5 hx hby hZ hown hw 324 rfl Via.refl e5 fc6 D38_59 fun T7 X7 e7 => ?_
 have Vb8 : own_obs Z h5 [] := own_obs_nil
 have ldce : @LT.lt Nat instLTNat dce n0 := O0.1 ▸ A_DCE.lt
 have jn9 : ∀ (Tj9 : State) (Hj9 : Heap), (∃ lc, Stand p l e ({ frames := 5, cells := 9, slots := 61, locals := 69 } : Room) s m #[(.ref ds), v0_, (.int ee)] below meth c Tj9 lc 9 61 ∧ Fr n0 lc) → Tj9.heap = Hj9 → ∀ (da : Addr) (db : Addr) (dc : Addr) (dg : Addr) (kda : ClassId) (kdb : ClassId) (kdc : ClassId) (kdg : ClassId) (cda : Int32) (cdb : Int32) (cdc : Int32) (cdg : Int32) (vda : List Value) (vdb : List Value) (vdc : List Value) (vdg : List Value) (mda : Int32) (mdb : Int32) (mdc : Int32) (mdg : Int32), (Keep h0 Hj9 [xa, ch, sp, dr, dp]) → (Arv Z Hj9 xa kxa .boolean (16 : Int32) [(.int ee)] v0_) → (Exa Z Hj9 ds s37_) → (f24_ Z Hj9 ds (.ref dq)) → (Exa Z Hj9 dq s57_) → (f34_ Z Hj9 dq v0_) → (f35_ Z Hj9 dq v0_) → (f33_ Z Hj9 dq (.ref de)) → (Arv Z Hj9 de kde (.object s7_) (17 : Int32) [] .null) → (Exa Z Hj9 ch s4_) → (f32_ Z Hj9 ch (.int li)) → (f36_ Z Hj9 ch (.int mda)) → (f31_ Z Hj9 ch (.ref da)) → (Arv Z Hj9 da kda (.object s7_) cda vda .null) → (Exa Z Hj9 da s9_) → (own_obs Z Hj9 vda) → (Exa Z Hj9 sp s4_) → (f32_ Z Hj9 sp (.int li)) → (f36_ Z Hj9 sp (.int mdb)) → (f31_ Z Hj9 sp (.ref db)) → (Arv Z Hj9 db kdb (.object s7_) cdb vdb .null) → (Exa Z Hj9 db s9_) → (own_obs Z Hj9 vdb) → (Exa Z Hj9 dr s4_) → (f32_ Z Hj9 dr (.int li)) → (f36_ Z Hj9 dr (.int mdc)) → (f31_ Z Hj9 dr (.ref dc)) → (Arv Z Hj9 dc kdc (.object s7_) cdc vdc .null) → (Exa Z Hj9 dc s9_) → (own_obs Z Hj9 vdc) → (Exa Z Hj9 dp s4_) → (f32_ Z Hj9 dp (.int li)) → (f36_ Z Hj9 dp (.int mdg)) → (f31_ Z Hj9 dp (.ref dg)) → (Arv Z Hj9 dg kdg (.object s7_) cdg vdg .null) → (Exa Z Hj9 dg s9_) → (own_obs Z Hj9 vdg) → (li = 0 ∨ (cda = 10 ∧ cdb = 10 ∧ cdc = 10 ∧ cdg = 10 ∧ Ovr Z kda s7_ ∧ Ovr Z kdb s7_ ∧ Ovr Z kdc s7_ ∧ Ovr Z kdg s7_ ∧ own_asc [de, da, db, dc, dg])) → ((@LT.lt Nat instLTNat da n0 ∧ @LT.lt Nat instLTNat db n0 ∧ @LT.lt Nat instLTNat dc n0 ∧ @LT.lt Nat instLTNat dg n0) ∨ (h0.size ≤ da ∧ @LT.lt Nat instLTNat da db ∧ @LT.lt Nat instLTNat db dc ∧ @LT.lt Nat instLTNat dc dg)) → own_Go p e below (Tj9.setTop (mkF m 172 #[.val (.ref ds), .val v0_, .val (.int ee)] [])) (own_R s ({ frames := 5, cells := 9, slots := 61, locals := 69 } : Room) (Q_rm_adm0 Z ds un xa kxa ca dq de kde li ax ee ch sp dr dp dce kce el ele kele ci cci md_ch md_sp md_dr md_dp h0 n0)) := by
  rintro Tj9 Hj9 ⟨lc9, Xj9, Nj9⟩ ej9 da db dc dg kda kdb kdc kdg cda cdb cdc cdg vda vdb vdc vdg mda mdb mdc mdg Kj9 fj9_0 fj9_1 fj9_2 fj9_3 fj9_4 fj9_5 fj9_6 fj9_7 fj9_8 fj9_9 fj9_10 fj9_11 fj9_12 fj9_13 fj9_14 fj9_15 fj9_16 fj9_17 fj9_18 fj9_19 fj9_20 fj9_21 fj9_22 fj9_23 fj9_24 fj9_25 fj9_26 fj9_27 fj9_28 fj9_29 fj9_30 fj9_31 fj9_32 fj9_33 fj9_34 fj9_35 pj9_0 pj9_1
  have zj9 := Kj9.1
  have lt_fj9_0 := vG fj9_0
  have lt_fj9_1 := eG fj9_1
  have lt_fj9_3 := eG fj9_3
  have lt_fj9_7 := vG fj9_7
  have lt_fj9_8 := eG fj9_8
  have lt_fj9_12 := vG fj9_12
  have lt_fj9_15 := eG fj9_15
  have lt_fj9_19 := vG fj9_19
  have lt_fj9_22 := eG fj9_22
  have lt_fj9_26 := vG fj9_26
  have lt_fj9_29 := eG fj9_29
  have lt_fj9_33 := vG fj9_33
  refine o_il Xj9 hx hby D38_172 rfl ?_
  by_cases hc10 : ee = (0 : Int32)
  ·
   refine ob_ (fun _ k => XS.ifNo Xj9.here hx rfl (hb hby D38_173) rfl ((if0 _ _).trans (teq hc10).2) k) ?_
   refine o_al Xj9 hx hby D38_176 rfl rfl ?_
   refine o_gf Xj9 hx hby hZ hown hw 322 rfl Via.refl ej9 fj9_2 D38_177 fun T11 X11 e11 => ?_
   refine o_il X11 hx hby D38_180 rfl ?_
   have q_3 : own_LE n0 dp := mL
   have q_4 : own_LE n0 dr := mL
   have q_5 : own_LE n0 sp := mL
   have q_6 : own_LE n0 ch := mL
   have O12 : Old Z n0 Hj9 := (O0.keep Kj9 (allS q_1 (allS q_6 (allS q_5 (allS q_4 (allS q_3 all0))))))
   refine o_ks 3 (Jvm.LawKit.callS X11 hx (y := y40_) hown (mw hZ hw 360 rfl) (mw hZ hw 361 rfl) (mw hZ hw 362 rfl) (mw hZ hw 363 rfl) (by decide) (bk 1 hZ hw 363 362 (rm_iv0 l Z a0 hw [] ci cci Hj9 n0 O12 S_high S_icache Bxi)) (g := (mkF m 181 #[.val (.ref ds), .val v0_, .val (.int ee)] [v0_, (.ref dq)])) rfl hml.symm (argsL := [v0_]) (rest := [(.ref dq)]) (lenOf pd24_ rfl) rfl own_z (hb hby D38_181) (o4 e11 9 0 61 0)) fun T13 Lc13 _ X13 hQ13 => ?_
   obtain ⟨bx_13, rfl, M13, K13, r13_0⟩ := hQ13
   have N13 := Fr.app Nj9 M13
   have fc14 : Exa Z Hj9 bx_13 s63_ := r13_0.1.ext O12.2
   obtain ⟨cq15, kq15, q15a, q15b, q15c⟩ := isOf hZ K13 fj9_3
   refine o_k 5 (X13.interfaceBack hx (xi := y53_) (y := y44_) hown (mw hZ hw 367 rfl) (mw hZ hw 368 rfl) (mw hZ hw 369 rfl) (mw hZ hw 370 rfl) (mw hZ hw 371 rfl) (mw hZ hw 372 rfl) (mw hZ hw 373 rfl) (mw hZ hw 374 rfl) (by decide) (bk 0 hZ hw 375 313 (rm_dad0 l Z a0 hw [] dq de kde bx_13 Hj9 n0 O12 fj9_3 fj9_4 fj9_5 fj9_6 fj9_7 (Ins.of_exa fc14 (w_ hw 383 rfl)) (by omega) (by simp only [own_asc, and_true]; omega) ovq)) q15a q15b q15c (g := (mkF m 184 #[.val (.ref ds), .val v0_, .val (.int ee)] [(.ref bx_13), (.ref dq)])) rfl hml.symm (Steps.refl _) (argsL := [(.ref bx_13)]) (rest := []) (lenOf pd9_ rfl) rfl own_z (hb hby D38_184) (o4 K13 9 0 61 0)) fun T15 Lc15 _ X15 hQ15 => ?_
   obtain ⟨rfl, M15, K15, g15_0, g15_1, g15_2, g15_3, g15_4⟩ := hQ15
   have N15 := Fr.app N13 M15
   have z15 := K15.1
   have lt_g15_0 := eG g15_0
   have lt_g15_4 := vG g15_4
   refine ob_ (fun _ k => XS.pop X15.here hx rfl (hb hby D38_189) rfl rfl k) ?_
   refine o_il X15 hx hby D38_190 rfl ?_
   have q_7 : own_NE de xa := mN
   have q_8 : own_NE dq xa := mN
   have fc16 := (fj9_0.keep K15 (nT (uS q_8) (nT (uS q_7) nin0)))
   have fc17 := (fj9_8.keep K15)
   have q_9 : own_NE ch de := mN
   have q_10 : own_NE ch dq := mN
   have q_11 : ch ∉ [dq, de] := nT q_10 (nT q_9 nin0)
   have fc18 := (fj9_9.keep K15 q_11)
   have fc19 := (fj9_10.keep K15 q_11)
   have fc20 := (fj9_11.keep K15 q_11)
   have q_12 : own_NE da de := mN
   have q_13 : own_NE da dq := mN
   have q_14 : da ∉ [dq, de] := nT q_13 (nT q_12 nin0)
   have fc21 := (fj9_12.keep K15 q_14)
   have fc22 := (fj9_13.keep K15)
   have fc23 := (fj9_14.keep K15)
   have fc24 := (fj9_15.keep K15)
   have q_15 : own_NE de sp := mN
   have q_16 : own_NE dq sp := mN
   have q_17 : sp ∉ [dq, de] := nT (uS q_16) (nT (uS q_15) nin0)
   have fc25 := (fj9_16.keep K15 q_17)
   have fc26 := (fj9_17.keep K15 q_17)
   have fc27 := (fj9_18.keep K15 q_17)
   have q_18 : own_NE db de := mN
   have q_19 : own_NE db dq := mN
   have q_20 : db ∉ [dq, de] := nT q_19 (nT q_18 nin0)
   have fc28 := (fj9_19.keep K15 q_20)
   have fc29 := (fj9_20.keep K15)
   have fc30 := (fj9_21.keep K15)
   have fc31 := (fj9_22.keep K15)
   have q_21 : own_NE de dr := mN
   have q_22 : own_NE dq dr := mN
   have q_23 : dr ∉ [dq, de] := nT (uS q_22) (nT (uS q_21) nin0)
   have fc32 := (fj9_23.keep K15 q_23)
   have fc33 := (fj9_24.keep K15 q_23)
   have fc34 := (fj9_25.keep K15 q_23)
   have q_24 : own_NE dc de := mN
   have q_25 : own_NE dc dq := mN
   have q_26 : dc ∉ [dq, de] := nT q_25 (nT q_24 nin0)
   have fc35 := (fj9_26.keep K15 q_26)
   have fc36 := (fj9_27.keep K15)
   have fc37 := (fj9_28.keep K15)
   have fc38 := (fj9_29.keep K15)
   have q_27 : own_NE de dp := mN
   have q_28 : own_NE dp dq := mN
   have q_29 : dp ∉ [dq, de] := nT q_28 (nT (uS q_27) nin0)
   have fc39 := (fj9_30.keep K15 q_29)
   have fc40 := (fj9_31.keep K15 q_29)
   have fc41 := (fj9_32.keep K15 q_29)
   have q_30 : own_NE de dg := mN
   have q_31 : own_NE dg dq := mN
   have q_32 : dg ∉ [dq, de] := nT q_31 (nT (uS q_30) nin0)
   have fc42 := (fj9_33.keep K15 q_32)
   have fc43 := (fj9_34.keep K15)
   have fc44 := (fj9_35.keep K15)
   have K45 : Keep h0 T15.heap [xa, ch, sp, dr, dp, dq, de] := (((Keep.refl h0 [xa, ch, sp, dr, dp, dq, de]).trans Kj9 (kI 0 rfl (kI 1 rfl (kI 2 rfl (kI 3 rfl (kI 4 rfl all0)))))).trans K15 (kI 5 rfl (kI 6 rfl all0)))
   exact o_ri Bd X15 hx hby rfl D38_191 ⟨(1 : Int32), [(.ref bx_13)], da, db, dc, dg, kda, kdb, kdc, kdg, cda, cdb, cdc, cdg, vda, vdb, vdc, vdg, mda, mdb, mdc, mdg, rfl, N15, K45, fc16, g15_0, g15_1, g15_2, g15_3, g15_4, fc17, fc18, fc19, fc20, fc21, fc22, fc23, fc24, fc25, fc26, fc27, fc28, fc29, fc30, fc31, fc32, fc33, fc34, fc35, fc36, fc37, fc38, fc39, fc40, fc41, fc42, fc43, fc44, (Or.inr ⟨hc10, rfl, _, rfl, r13_0⟩), pj9_0, pj9_1⟩
  ·
   refine ob_ (fun _ k => XS.ifYes Xj9.here hx rfl (pc0 := 173) (pc' := 190) rfl (hb hby D38_173) rfl ((if0 _ _).trans (feq hc10).2) (by decide) (by decide) k) ?_
   refine o_il Xj9 hx hby D38_190 rfl ?_
   have K46 : Keep h0 Hj9 [xa, ch, sp, dr, dp, dq, de] := ((Keep.refl h0 [xa, ch, sp, dr, dp, dq, de]).trans Kj9 (kI 0 rfl (kI 1 rfl (kI 2 rfl (kI 3 rfl (kI 4 rfl all0))))))
   exact o_ri Bd Xj9 hx hby ej9 D38_191 ⟨(0 : Int32), [], da, db, dc, dg, kda, kdb, kdc, kdg, cda, cdb, cdc, cdg, vda, vdb, vdc, vdg, mda, mdb, mdc, mdg, rfl, Nj9, K46, fj9_0, fj9_3, fj9_4, fj9_5, fj9_6, fj9_7, fj9_8, fj9_9, fj9_10, fj9_11, fj9_12, fj9_13, fj9_14, fj9_15, fj9_16, fj9_17, fj9_18, fj9_19, fj9_20, fj9_21, fj9_22, fj9_23, fj9_24, fj9_25, fj9_26, fj9_27, fj9_28, fj9_29, fj9_30, fj9_31, fj9_32, fj9_33, fj9_34, fj9_35, (Or.inl ⟨own_b1 hee hc10, rfl, rfl⟩), pj9_0, pj9_1⟩
 rcases hli with rfl | rfl
 ·
  refine ob_ (fun _ k => XS.ifYes X7.here hx rfl (pc0 := 62) (pc' := 172) rfl (hb hby D38_62) rfl ((if0 _ _).trans (teq (by decide : (0 : Int32) = (0 : Int32))).1) (by decide) (by decide) k) ?_
  have fc47 := (Pm0.wr W5)
  have fc48 := (Pm4.other W5 (Or.inl q_2))
  have fc49 := (Pm28.wr W5)
  have q_33 : own_NE dq xa := mN
  have fc50 := (Pm29.other W5 (Or.inl q_33))
  have fc51 := (Pm30.other W5 (Or.inl q_33))
  have fc52 := (Pm31.other W5 (Or.inl q_33))
  have q_34 : own_NE de xa := mN
  have fc53 := (Pm32.other W5 q_34)
  have fc54 := (Pm12.wr W5)
  have q_35 : own_NE ch xa := mN
  have fc55 := (Pm13.other W5 (Or.inl q_35))
  have fc56 := (Pm14.other W5 (Or.inl q_35))
  have fc57 := (Pm15.other W5 (Or.inl q_35))
  have O58 : Old Z n0 h5 := (O0.wr W5 q_1)
  have fc59 : Arv Z h5 dce kce (.object s7_) (0 : Int32) [] .null := A_DCE.ext O58.2
  have fc60 : Exa Z h5 dce s9_ := E_DCE.ext O58.2
  have fc61 := (Pm16.wr W5)
  have q_36 : own_NE sp xa := mN
  have fc62 := (Pm17.other W5 (Or.inl q_36))
  have fc63 := (Pm18.other W5 (Or.inl q_36))
  have fc64 := (Pm19.other W5 (Or.inl q_36))
  have fc65 := (Pm20.wr W5)
  have q_37 : own_NE dr xa := mN
  have fc66 := (Pm21.other W5 (Or.inl q_37))
  have fc67 := (Pm22.other W5 (Or.inl q_37))
  have fc68 := (Pm23.other W5 (Or.inl q_37))
  have fc69 := (Pm24.wr W5)
  have q_38 : own_NE dp xa := mN
  have fc70 := (Pm25.other W5 (Or.inl q_38))
  have fc71 := (Pm26.other W5 (Or.inl q_38))
  have fc72 := (Pm27.other W5 (Or.inl q_38))
  have K73 : Keep h0 h5 [xa, ch, sp, dr, dp] := ((Keep.refl h0 [xa, ch, sp, dr, dp]).wr W5 (Or.inl (List.mem_of_getElem? (i := 0) rfl)))
  exact jn9 _ _ ⟨_, (X7.more (by decide) (by decide)), N5⟩ e7 dce dce dce dce kce kce kce kce (0 : Int32) (0 : Int32) (0 : Int32) (0 : Int32) [] [] [] [] md_ch md_sp md_dr md_dp K73 Vw5 fc47 fc48 fc49 fc50 fc51 fc52 fc53 fc54 fc55 fc56 fc57 fc59 fc60 Vb8 fc61 fc62 fc63 fc64 fc59 fc60 Vb8 fc65 fc66 fc67 fc68 fc59 fc60 Vb8 fc69 fc70 fc71 fc72 fc59 fc60 Vb8 (by first | exact Or.inl rfl | exact Or.inr ⟨rfl, rfl, rfl, rfl, by assumption, by assumption, by assumption, by assumption, by simp only [own_asc, and_true]; omega⟩) (by omega)
 ·
  refine ob_ (fun _ k => XS.ifNo X7.here hx rfl (hb hby D38_62) rfl ((if0 _ _).trans (feq (by decide : ¬ ((1 : Int32) = (0 : Int32)))).1) k) ?_
  refine o_al X7 hx hby D38_65 rfl rfl ?_
  have fc74 := (Pm7.other W5 (Or.inl q_2))
  refine o_gf X7 hx hby hZ hown hw 303 rfl Via.refl e7 fc74 D38_66 fun T75 X75 e75 => ?_
  obtain ⟨T76, h76, X76, e76, E76, A76, D76, U76, st76⟩ := newO X75 hx hZ hown (w_ hw 301 rfl) (w_ hw 13 rfl) (w_ hw 14 rfl) e75 (g := (mkF m 69 #[.val (.ref ds), .val v0_, .val (.int ee)] [(.ref ch)])) rfl (hb hby D38_69) (by decide) (by decide)
  obtain ⟨ob76, g76⟩ : ∃ z, z = h5.size := ⟨_, rfl⟩
  rw [← g76] at A76 D76 U76 st76
  refine ob_ st76 ?_
  have z76 := E76.1
  have lt76 : h76.size > ob76 := A76.lt
  refine ob_ (fun _ k => XS.dup X76.here hx rfl (hb hby D38_72) rfl rfl k) ?_
  have q_39 : own_LE n0 ob76 := mL
  have O77 : Old Z n0 h76 := ((O0.wr W5 q_1).ext E76)
  refine o_k 3 (X76.specialBack hx (y := y3_) rfl hown (mw hZ hw 302 rfl) (mw hZ hw 16 rfl) (mw hZ hw 17 rfl) (by decide) (bk 2 hZ hw 17 14 (rm_ai l Z a0 hw [] ob76 dce kce h76 n0 O77 S_DCE A_DCE E_DCE A76 (show f32_ Z h76 ob76 v0_ from D76 (Or.inl (w_ hw 73 rfl)) (ty := .int) (by decide)) (show f36_ Z h76 ob76 v0_ from D76 (Or.inl (w_ hw 34 rfl)) (ty := .int) (by decide)) (show f31_ Z h76 ob76 .null from D76 (Or.inl (w_ hw 37 rfl)) (ty := (.array (.object s7_))) (by decide)) q_39)) (g := (mkF m 73 #[.val (.ref ds), .val v0_, .val (.int ee)] [(.ref ob76), (.ref ob76), (.ref ch)])) rfl hml.symm (Steps.refl _) (a := ob76) (argsL := []) (rest := [(.ref ob76), (.ref ch)]) (lenOf pd1_ rfl) rfl own_z (hb hby D38_73) (o4 e76 1 0 3 0)) fun T78 Lc78 _ X78 hQ78 => ?_
  obtain ⟨rfl, M78, K78, g78_0, g78_1, g78_2, g78_3⟩ := hQ78
  have N78 := Fr.app N5 M78
  have z78 := K78.1
  have lt_g78_0 := eG g78_0
  have fc79 := (((Pm12.wr W5).ext E76).keep K78)
  have q_40 : own_NE ch xa := mN
  have q_41 : own_NE ch ob76 := mN
  have fc80 := (((Pm13.other W5 (Or.inl q_40)).ext E76).keep K78 (nT q_41 nin0))
  have fc81 := (((Pm14.other W5 (Or.inl q_40)).ext E76).keep K78 (nT q_41 nin0))
  have fc82 := (((Pm15.other W5 (Or.inl q_40)).ext E76).keep K78 (nT q_41 nin0))
  have q_42 : own_LE n0 ch := mL
  have O83 : Old Z n0 T78.heap := (O77.keep K78 (allS q_39 all0))
  obtain ⟨cq84, kq84, q84a, q84b, q84c⟩ := isOf hZ rfl fc79
  refine o_k 5 (X78.interfaceBack hx (xi := y17_) (y := y15_) hown (mw hZ hw 452 rfl) (mw hZ hw 233 rfl) (mw hZ hw 234 rfl) (mw hZ hw 235 rfl) (mw hZ hw 236 rfl) (mw hZ hw 237 rfl) (mw hZ hw 238 rfl) (mw hZ hw 70 rfl) (by decide) (bk 0 hZ hw 239 14 (rm_addZ l Z a0 hw [] ch md_ch ob76 dce kce T78.heap n0 O83 S_DCE A_DCE E_DCE fc79 fc80 fc81 fc82 (Ins.of_exa g78_0 (w_ hw 262 rfl)) q_42)) q84a q84b q84c (g := (mkF m 76 #[.val (.ref ds), .val v0_, .val (.int ee)] [(.ref ob76), (.ref ch)])) rfl hml.symm (Steps.refl _) (argsL := [(.ref ob76)]) (rest := []) (lenOf pd9_ rfl) rfl own_z (hb hby D38_76) (o4 rfl 1 1 3 10)) fun T84 Lc84 _ X84 hQ84 => ?_
  obtain ⟨oo_84, kn_84, vz_84, rfl, M84, K84, g84_0, g84_1, g84_2, g84_3, g84_4, g84_5, g84_6, r84_0, r84_1⟩ := hQ84
  have N84 := Fr.app N78 M84
  have z84 := K84.1
  have lt_g84_0 := eG g84_0
  have lt_g84_4 := vG g84_4
  refine ob_ (fun _ k => XS.pop X84.here hx rfl (hb hby D38_81) rfl rfl k) ?_
  refine o_al X84 hx hby D38_82 rfl rfl ?_
  have q_43 : own_NE ds ob76 := mN
  have q_44 : own_NE ch ds := mN
  have fc85 := ((((Pm8.other W5 (Or.inl q_2)).ext E76).keep K78 (nT q_43 nin0)).keep K84 (nT (uS q_44) nin0))
  refine o_gf X84 hx hby hZ hown hw 305 rfl Via.refl rfl fc85 D38_83 fun T86 X86 e86 => ?_
  refine o_al X86 hx hby D38_86 rfl rfl ?_
  have fc87 := ((((Pm6.other W5 (Or.inl q_2)).ext E76).keep K78 (nT q_43 nin0)).keep K84 (nT (uS q_44) nin0))
  refine o_gf X86 hx hby hZ hown hw 326 rfl Via.refl e86 fc87 D38_87 fun T88 X88 e88 => ?_
  by_cases hc89 : ax = (0 : Int32)
  ·
   refine ob_ (fun _ k => XS.ifYes X88.here hx rfl (pc0 := 90) (pc' := 103) rfl (hb hby D38_90) rfl ((if0 _ _).trans (teq hc89).1) (by decide) (by decide) k) ?_
   have O90 : Old Z n0 T84.heap := (O83.keep K84 (allS q_42 all0))
   refine o_ks 3 (Jvm.LawKit.callS X88 hx (y := y51_) hown (mw hZ hw 453 rfl) (mw hZ hw 454 rfl) (mw hZ hw 114 rfl) (mw hZ hw 455 rfl) (by decide) (bk 1 hZ hw 455 114 (rm_lo0 l Z a0 hw [] el ele kele T84.heap n0 O90 S_EL E_EL F_EL A_EL)) (g := (mkF m 103 #[.val (.ref ds), .val v0_, .val (.int ee)] [(.ref sp)])) rfl hml.symm (argsL := []) (rest := [(.ref sp)]) (lenOf pd25_ rfl) rfl own_z (hb hby D38_103) (o4 e88 2 0 13 0)) fun T91 Lc91 _ X91 hQ91 => ?_
   obtain ⟨rfl, M91, K91⟩ := hQ91
   have N91 := Fr.app N84 M91
   have fc92 := ((((Pm16.wr W5).ext E76).keep K78).keep K84)
   have q_45 : own_NE sp xa := mN
   have q_46 : own_NE ob76 sp := mN
   have q_47 : own_NE ch sp := mN
   have fc93 := ((((Pm17.other W5 (Or.inl q_45)).ext E76).keep K78 (nT (uS q_46) nin0)).keep K84 (nT (uS q_47) nin0))
   have fc94 := ((((Pm18.other W5 (Or.inl q_45)).ext E76).keep K78 (nT (uS q_46) nin0)).keep K84 (nT (uS q_47) nin0))
   have fc95 := ((((Pm19.other W5 (Or.inl q_45)).ext E76).keep K78 (nT (uS q_46) nin0)).keep K84 (nT (uS q_47) nin0))
   have fc96 : Exa Z T84.heap el s29_ := E_EL.ext O90.2
   have q_48 : own_LE n0 sp := mL
   obtain ⟨cq97, kq97, q97a, q97b, q97c⟩ := isOf hZ K91 fc92
   refine o_k 5 (X91.interfaceBack hx (xi := y17_) (y := y15_) hown (mw hZ hw 452 rfl) (mw hZ hw 233 rfl) (mw hZ hw 234 rfl) (mw hZ hw 235 rfl) (mw hZ hw 236 rfl) (mw hZ hw 237 rfl) (mw hZ hw 238 rfl) (mw hZ hw 70 rfl) (by decide) (bk 0 hZ hw 239 14 (rm_addZ l Z a0 hw [] sp md_sp el dce kce T84.heap n0 O90 S_DCE A_DCE E_DCE fc92 fc93 fc94 fc95 (Ins.of_exa fc96 (w_ hw 456 rfl)) q_48)) q97a q97b q97c (g := (mkF m 106 #[.val (.ref ds), .val v0_, .val (.int ee)] [(.ref el), (.ref sp)])) rfl hml.symm (Steps.refl _) (argsL := [(.ref el)]) (rest := []) (lenOf pd9_ rfl) rfl own_z (hb hby D38_106) (o4 K91 2 1 13 10)) fun T97 Lc97 _ X97 hQ97 => ?_
   obtain ⟨oo_97, kn_97, vz_97, rfl, M97, K97, g97_0, g97_1, g97_2, g97_3, g97_4, g97_5, g97_6, r97_0, r97_1⟩ := hQ97
   have N97 := Fr.app N91 M97
   have z97 := K97.1
   have lt_g97_0 := eG g97_0
   have lt_g97_4 := vG g97_4
   refine ob_ (fun _ k => XS.pop X97.here hx rfl (hb hby D38_111) rfl rfl k) ?_
   refine o_al X97 hx hby D38_112 rfl rfl ?_
   show own_Go p e below (T97.setTop (mkF m 113 #[.val (.ref ds), .val v0_, .val (.int ee)] [(.ref ds)])) _
   have q_49 : own_NE ds sp := mN
   have fc98 := (((((Pm9.other W5 (Or.inl q_2)).ext E76).keep K78 (nT q_43 nin0)).keep K84 (nT (uS q_44) nin0)).keep K97 (nT q_49 nin0))
   refine o_gf X97 hx hby hZ hown hw 307 rfl Via.refl rfl fc98 D38_113 fun T99 X99 e99 => ?_
   refine o_al X99 hx hby D38_116 rfl rfl ?_
   have fc100 := (fc87.keep K97 (nT q_49 nin0))
   refine o_gf X99 hx hby hZ hown hw 326 rfl Via.refl e99 fc100 D38_117 fun T101 X101 e101 => ?_
   refine ob_ (fun _ k => XS.ifYes X101.here hx rfl (pc0 := 120) (pc' := 133) rfl (hb hby D38_120) rfl ((if0 _ _).trans (teq hc89).1) (by decide) (by decide) k) ?_
   have O102 : Old Z n0 T97.heap := (O90.keep K97 (allS q_48 all0))
   refine o_ks 3 (Jvm.LawKit.callS X101 hx (y := y51_) hown (mw hZ hw 453 rfl) (mw hZ hw 454 rfl) (mw hZ hw 114 rfl) (mw hZ hw 455 rfl) (by decide) (bk 1 hZ hw 455 114 (rm_lo0 l Z a0 hw [] el ele kele T97.heap n0 O102 S_EL E_EL F_EL A_EL)) (g := (mkF m 133 #[.val (.ref ds), .val v0_, .val (.int ee)] [(.ref dr)])) rfl hml.symm (argsL := []) (rest := [(.ref dr)]) (lenOf pd25_ rfl) rfl own_z (hb hby D38_133) (o4 e101 3 0 23 0)) fun T103 Lc103 _ X103 hQ103 => ?_
   obtain ⟨rfl, M103, K103⟩ := hQ103
   have N103 := Fr.app N97 M103
   have fc104 := (((((Pm20.wr W5).ext E76).keep K78).keep K84).keep K97)
   have q_50 : own_NE dr xa := mN
   have q_51 : own_NE dr ob76 := mN
   have q_52 : own_NE ch dr := mN
   have q_53 : own_NE dr sp := mN
   have fc105 := (((((Pm21.other W5 (Or.inl q_50)).ext E76).keep K78 (nT q_51 nin0)).keep K84 (nT (uS q_52) nin0)).keep K97 (nT q_53 nin0))
   have fc106 := (((((Pm22.other W5 (Or.inl q_50)).ext E76).keep K78 (nT q_51 nin0)).keep K84 (nT (uS q_52) nin0)).keep K97 (nT q_53 nin0))
   have fc107 := (((((Pm23.other W5 (Or.inl q_50)).ext E76).keep K78 (nT q_51 nin0)).keep K84 (nT (uS q_52) nin0)).keep K97 (nT q_53 nin0))
   have fc108 : Exa Z T97.heap el s29_ := E_EL.ext O102.2
   have q_54 : own_LE n0 dr := mL
   obtain ⟨cq109, kq109, q109a, q109b, q109c⟩ := isOf hZ K103 fc104
   refine o_k 5 (X103.interfaceBack hx (xi := y17_) (y := y15_) hown (mw hZ hw 452 rfl) (mw hZ hw 233 rfl) (mw hZ hw 234 rfl) (mw hZ hw 235 rfl) (mw hZ hw 236 rfl) (mw hZ hw 237 rfl) (mw hZ hw 238 rfl) (mw hZ hw 70 rfl) (by decide) (bk 0 hZ hw 239 14 (rm_addZ l Z a0 hw [] dr md_dr el dce kce T97.heap n0 O102 S_DCE A_DCE E_DCE fc104 fc105 fc106 fc107 (Ins.of_exa fc108 (w_ hw 456 rfl)) q_54)) q109a q109b q109c (g := (mkF m 136 #[.val (.ref ds), .val v0_, .val (.int ee)] [(.ref el), (.ref dr)])) rfl hml.symm (Steps.refl _) (argsL := [(.ref el)]) (rest := []) (lenOf pd9_ rfl) rfl own_z (hb hby D38_136) (o4 K103 3 1 23 10)) fun T109 Lc109 _ X109 hQ109 => ?_
   obtain ⟨oo_109, kn_109, vz_109, rfl, M109, K109, g109_0, g109_1, g109_2, g109_3, g109_4, g109_5, g109_6, r109_0, r109_1⟩ := hQ109
   have N109 := Fr.app N103 M109
   have z109 := K109.1
   have lt_g109_0 := eG g109_0
   have lt_g109_4 := vG g109_4
   refine ob_ (fun _ k => XS.pop X109.here hx rfl (hb hby D38_141) rfl rfl k) ?_
   refine o_al X109 hx hby D38_142 rfl rfl ?_
   have q_55 : own_NE dr ds := mN
   have fc110 := ((((((Pm10.other W5 (Or.inl q_2)).ext E76).keep K78 (nT q_43 nin0)).keep K84 (nT (uS q_44) nin0)).keep K97 (nT q_49 nin0)).keep K109 (nT (uS q_55) nin0))
   refine o_gf X109 hx hby hZ hown hw 309 rfl Via.refl rfl fc110 D38_143 fun T111 X111 e111 => ?_
   refine o_al X111 hx hby D38_146 rfl rfl ?_
   have fc112 := (fc100.keep K109 (nT (uS q_55) nin0))
   refine o_gf X111 hx hby hZ hown hw 326 rfl Via.refl e111 fc112 D38_147 fun T113 X113 e113 => ?_
   refine ob_ (fun _ k => XS.ifYes X113.here hx rfl (pc0 := 150) (pc' := 163) rfl (hb hby D38_150) rfl ((if0 _ _).trans (teq hc89).1) (by decide) (by decide) k) ?_
   have O114 : Old Z n0 T109.heap := (O102.keep K109 (allS q_54 all0))
   refine o_ks 3 (Jvm.LawKit.callS X113 hx (y := y51_) hown (mw hZ hw 453 rfl) (mw hZ hw 454 rfl) (mw hZ hw 114 rfl) (mw hZ hw 455 rfl) (by decide) (bk 1 hZ hw 455 114 (rm_lo0 l Z a0 hw [] el ele kele T109.heap n0 O114 S_EL E_EL F_EL A_EL)) (g := (mkF m 163 #[.val (.ref ds), .val v0_, .val (.int ee)] [(.ref dp)])) rfl hml.symm (argsL := []) (rest := [(.ref dp)]) (lenOf pd25_ rfl) rfl own_z (hb hby D38_163) (o4 e113 4 0 33 0)) fun T115 Lc115 _ X115 hQ115 => ?_
   obtain ⟨rfl, M115, K115⟩ := hQ115
   have N115 := Fr.app N109 M115
   have fc116 := ((((((Pm24.wr W5).ext E76).keep K78).keep K84).keep K97).keep K109)
   have q_56 : own_NE dp xa := mN
   have q_57 : own_NE dp ob76 := mN
   have q_58 : own_NE ch dp := mN
   have q_59 : own_NE dp sp := mN
   have q_60 : own_NE dp dr := mN
   have fc117 := ((((((Pm25.other W5 (Or.inl q_56)).ext E76).keep K78 (nT q_57 nin0)).keep K84 (nT (uS q_58) nin0)).keep K97 (nT q_59 nin0)).keep K109 (nT q_60 nin0))
   have fc118 := ((((((Pm26.other W5 (Or.inl q_56)).ext E76).keep K78 (nT q_57 nin0)).keep K84 (nT (uS q_58) nin0)).keep K97 (nT q_59 nin0)).keep K109 (nT q_60 nin0))
   have fc119 := ((((((Pm27.other W5 (Or.inl q_56)).ext E76).keep K78 (nT q_57 nin0)).keep K84 (nT (uS q_58) nin0)).keep K97 (nT q_59 nin0)).keep K109 (nT q_60 nin0))
   have fc120 : Exa Z T109.heap el s29_ := E_EL.ext O114.2
   have q_61 : own_LE n0 dp := mL
   obtain ⟨cq121, kq121, q121a, q121b, q121c⟩ := isOf hZ K115 fc116
   refine o_k 5 (X115.interfaceBack hx (xi := y17_) (y := y15_) hown (mw hZ hw 452 rfl) (mw hZ hw 233 rfl) (mw hZ hw 234 rfl) (mw hZ hw 235 rfl) (mw hZ hw 236 rfl) (mw hZ hw 237 rfl) (mw hZ hw 238 rfl) (mw hZ hw 70 rfl) (by decide) (bk 0 hZ hw 239 14 (rm_addZ l Z a0 hw [] dp md_dp el dce kce T109.heap n0 O114 S_DCE A_DCE E_DCE fc116 fc117 fc118 fc119 (Ins.of_exa fc120 (w_ hw 456 rfl)) q_61)) q121a q121b q121c (g := (mkF m 166 #[.val (.ref ds), .val v0_, .val (.int ee)] [(.ref el), (.ref dp)])) rfl hml.symm (Steps.refl _) (argsL := [(.ref el)]) (rest := []) (lenOf pd9_ rfl) rfl own_z (hb hby D38_166) (o4 K115 4 1 33 10)) fun T121 Lc121 _ X121 hQ121 => ?_
   obtain ⟨oo_121, kn_121, vz_121, rfl, M121, K121, g121_0, g121_1, g121_2, g121_3, g121_4, g121_5, g121_6, r121_0, r121_1⟩ := hQ121
   have N121 := Fr.app N115 M121
   have z121 := K121.1
   have lt_g121_0 := eG g121_0
   have lt_g121_4 := vG g121_4
   refine ob_ (fun _ k => XS.pop X121.here hx rfl (hb hby D38_171) rfl rfl k) ?_
   have q_62 : own_NE ob76 xa := mN
   have fc122 := ((((((Vw5.ext E76).keep K78 (nT (uS q_62) nin0)).keep K84 (nT (uS q_40) nin0)).keep K97 (nT (uS q_45) nin0)).keep K109 (nT (uS q_50) nin0)).keep K121 (nT (uS q_56) nin0))
   have fc123 := (((((((Pm0.wr W5).ext E76).keep K78).keep K84).keep K97).keep K109).keep K121)
   have q_63 : own_NE dp ds := mN
   have fc124 := (((((((Pm4.other W5 (Or.inl q_2)).ext E76).keep K78 (nT q_43 nin0)).keep K84 (nT (uS q_44) nin0)).keep K97 (nT q_49 nin0)).keep K109 (nT (uS q_55) nin0)).keep K121 (nT (uS q_63) nin0))
   have fc125 := (((((((Pm28.wr W5).ext E76).keep K78).keep K84).keep K97).keep K109).keep K121)
   have q_64 : own_NE dq xa := mN
   have q_65 : own_NE dq ob76 := mN
   have q_66 : own_NE ch dq := mN
   have q_67 : own_NE dq sp := mN
   have q_68 : own_NE dq dr := mN
   have q_69 : own_NE dp dq := mN
   have fc126 := (((((((Pm29.other W5 (Or.inl q_64)).ext E76).keep K78 (nT q_65 nin0)).keep K84 (nT (uS q_66) nin0)).keep K97 (nT q_67 nin0)).keep K109 (nT q_68 nin0)).keep K121 (nT (uS q_69) nin0))
   have fc127 := (((((((Pm30.other W5 (Or.inl q_64)).ext E76).keep K78 (nT q_65 nin0)).keep K84 (nT (uS q_66) nin0)).keep K97 (nT q_67 nin0)).keep K109 (nT q_68 nin0)).keep K121 (nT (uS q_69) nin0))
   have fc128 := (((((((Pm31.other W5 (Or.inl q_64)).ext E76).keep K78 (nT q_65 nin0)).keep K84 (nT (uS q_66) nin0)).keep K97 (nT q_67 nin0)).keep K109 (nT q_68 nin0)).keep K121 (nT (uS q_69) nin0))
   have q_70 : own_NE de xa := mN
   have q_71 : own_NE de ob76 := mN
   have q_72 : own_NE ch de := mN
   have q_73 : own_NE de sp := mN
   have q_74 : own_NE de dr := mN
   have q_75 : own_NE de dp := mN
   have fc129 := (((((((Pm32.other W5 q_70).ext E76).keep K78 (nT q_71 nin0)).keep K84 (nT (uS q_72) nin0)).keep K97 (nT q_73 nin0)).keep K109 (nT q_74 nin0)).keep K121 (nT q_75 nin0))
   have fc130 := (((g84_0.keep K97).keep K109).keep K121)
   have fc131 := (((g84_1.keep K97 (nT q_47 nin0)).keep K109 (nT q_52 nin0)).keep K121 (nT q_58 nin0))
   have fc132 := (((g84_2.keep K97 (nT q_47 nin0)).keep K109 (nT q_52 nin0)).keep K121 (nT q_58 nin0))
   have fc133 := (((g84_3.keep K97 (nT q_47 nin0)).keep K109 (nT q_52 nin0)).keep K121 (nT q_58 nin0))
   have q_76 : own_NE oo_84 sp := mN
   have q_77 : own_NE dr oo_84 := mN
   have q_78 : own_NE dp oo_84 := mN
   have fc134 := (((g84_4.keep K97 (nT q_76 nin0)).keep K109 (nT (uS q_77) nin0)).keep K121 (nT (uS q_78) nin0))
   have fc135 := (((g84_5.keep K97).keep K109).keep K121)
   have fc136 := (((g84_6.keep K97).keep K109).keep K121)
   have fc137 := ((g97_0.keep K109).keep K121)
   have fc138 := ((g97_1.keep K109 (nT (uS q_53) nin0)).keep K121 (nT (uS q_59) nin0))
   have fc139 := ((g97_2.keep K109 (nT (uS q_53) nin0)).keep K121 (nT (uS q_59) nin0))
   have fc140 := ((g97_3.keep K109 (nT (uS q_53) nin0)).keep K121 (nT (uS q_59) nin0))
   have q_79 : own_NE dr oo_97 := mN
   have q_80 : own_NE dp oo_97 := mN
   have fc141 := ((g97_4.keep K109 (nT (uS q_79) nin0)).keep K121 (nT (uS q_80) nin0))
   have fc142 := ((g97_5.keep K109).keep K121)
   have fc143 := ((g97_6.keep K109).keep K121)
   have fc144 := (g109_0.keep K121)
   have fc145 := (g109_1.keep K121 (nT (uS q_60) nin0))
   have fc146 := (g109_2.keep K121 (nT (uS q_60) nin0))
   have fc147 := (g109_3.keep K121 (nT (uS q_60) nin0))
   have q_81 : own_NE dp oo_109 := mN
   have fc148 := (g109_4.keep K121 (nT (uS q_81) nin0))
   have fc149 := (g109_5.keep K121)
   have fc150 := (g109_6.keep K121)
   have q_82 : own_LE h0.size ob76 := mL
   have K151 : Keep h0 T121.heap [xa, ch, sp, dr, dp] := ((((((((Keep.refl h0 [xa, ch, sp, dr, dp]).wr W5 (Or.inl (List.mem_of_getElem? (i := 0) rfl))).ext E76).trans K78 (kR all0 q_82)).trans K84 (kI 1 rfl all0)).trans K97 (kI 2 rfl all0)).trans K109 (kI 3 rfl all0)).trans K121 (kI 4 rfl all0))
   exact jn9 _ _ ⟨_, (X121.more (by decide) (by decide)), N121⟩ rfl oo_84 oo_97 oo_109 oo_121 kn_84 kn_97 kn_109 kn_121 (10 : Int32) (10 : Int32) (10 : Int32) (10 : Int32) vz_84 vz_97 vz_109 vz_121 (md_ch + (1 : Int32)) (md_sp + (1 : Int32)) (md_dr + (1 : Int32)) (md_dp + (1 : Int32)) K151 fc122 fc123 fc124 fc125 fc126 fc127 fc128 fc129 fc130 fc131 fc132 fc133 fc134 fc135 fc136 fc137 fc138 fc139 fc140 fc141 fc142 fc143 fc144 fc145 fc146 fc147 fc148 fc149 fc150 g121_0 g121_1 g121_2 g121_3 g121_4 g121_5 g121_6 (by first | exact Or.inl rfl | exact Or.inr ⟨rfl, rfl, rfl, rfl, by assumption, by assumption, by assumption, by assumption, by simp only [own_asc, and_true]; omega⟩) (by omega)
  ·
   refine ob_ (fun _ k => XS.ifNo X88.here hx rfl (hb hby D38_90) rfl ((if0 _ _).trans (feq hc89).1) k) ?_
   obtain ⟨T152, h152, X152, e152, E152, A152, D152, U152, st152⟩ := newO X88 hx hZ hown (w_ hw 301 rfl) (w_ hw 13 rfl) (w_ hw 14 rfl) e88 (g := (mkF m 93 #[.val (.ref ds), .val v0_, .val (.int ee)] [(.ref sp)])) rfl (hb hby D38_93) (by decide) (by decide)
   obtain ⟨ob152, g152⟩ : ∃ z, z = T84.heap.size := ⟨_, rfl⟩
   rw [← g152] at A152 D152 U152 st152
   refine ob_ st152 ?_
   have z152 := E152.1
   have lt152 : h152.size > ob152 := A152.lt
   refine ob_ (fun _ k => XS.dup X152.here hx rfl (hb hby D38_96) rfl rfl k) ?_
   have q_83 : own_LE n0 ob152 := mL
   have O153 : Old Z n0 h152 := ((O83.keep K84 (allS q_42 all0)).ext E152)
   refine o_k 3 (X152.specialBack hx (y := y3_) rfl hown (mw hZ hw 302 rfl) (mw hZ hw 16 rfl) (mw hZ hw 17 rfl) (by decide) (bk 2 hZ hw 17 14 (rm_ai l Z a0 hw [] ob152 dce kce h152 n0 O153 S_DCE A_DCE E_DCE A152 (show f32_ Z h152 ob152 v0_ from D152 (Or.inl (w_ hw 73 rfl)) (ty := .int) (by decide)) (show f36_ Z h152 ob152 v0_ from D152 (Or.inl (w_ hw 34 rfl)) (ty := .int) (by decide)) (show f31_ Z h152 ob152 .null from D152 (Or.inl (w_ hw 37 rfl)) (ty := (.array (.object s7_))) (by decide)) q_83)) (g := (mkF m 97 #[.val (.ref ds), .val v0_, .val (.int ee)] [(.ref ob152), (.ref ob152), (.ref sp)])) rfl hml.symm (Steps.refl _) (a := ob152) (argsL := []) (rest := [(.ref ob152), (.ref sp)]) (lenOf pd1_ rfl) rfl own_z (hb hby D38_97) (o4 e152 3 0 16 0)) fun T154 Lc154 _ X154 hQ154 => ?_
   obtain ⟨rfl, M154, K154, g154_0, g154_1, g154_2, g154_3⟩ := hQ154
   have N154 := Fr.app N84 M154
   have z154 := K154.1
   have lt_g154_0 := eG g154_0
   refine ob_ (fun _ k => XS.goto X154.here hx rfl (pc0 := 100) (pc' := 106) rfl (hb hby D38_100) (by decide) (by decide) k) ?_
   show own_Go p e below (T154.setTop (mkF m 106 #[.val (.ref ds), .val v0_, .val (.int ee)] [(.ref ob152), (.ref sp)])) _
   have fc155 := ((((((Pm16.wr W5).ext E76).keep K78).keep K84).ext E152).keep K154)
   have q_84 : own_NE sp xa := mN
   have q_85 : own_NE ob76 sp := mN
   have q_86 : own_NE ch sp := mN
   have q_87 : own_NE ob152 sp := mN
   have fc156 := ((((((Pm17.other W5 (Or.inl q_84)).ext E76).keep K78 (nT (uS q_85) nin0)).keep K84 (nT (uS q_86) nin0)).ext E152).keep K154 (nT (uS q_87) nin0))
   have fc157 := ((((((Pm18.other W5 (Or.inl q_84)).ext E76).keep K78 (nT (uS q_85) nin0)).keep K84 (nT (uS q_86) nin0)).ext E152).keep K154 (nT (uS q_87) nin0))
   have fc158 := ((((((Pm19.other W5 (Or.inl q_84)).ext E76).keep K78 (nT (uS q_85) nin0)).keep K84 (nT (uS q_86) nin0)).ext E152).keep K154 (nT (uS q_87) nin0))
   have q_88 : own_LE n0 sp := mL
   have O159 : Old Z n0 T154.heap := (O153.keep K154 (allS q_83 all0))
   obtain ⟨cq160, kq160, q160a, q160b, q160c⟩ := isOf hZ rfl fc155
   refine o_k 5 (X154.interfaceBack hx (xi := y17_) (y := y15_) hown (mw hZ hw 452 rfl) (mw hZ hw 233 rfl) (mw hZ hw 234 rfl) (mw hZ hw 235 rfl) (mw hZ hw 236 rfl) (mw hZ hw 237 rfl) (mw hZ hw 238 rfl) (mw hZ hw 70 rfl) (by decide) (bk 0 hZ hw 239 14 (rm_addZ l Z a0 hw [] sp md_sp ob152 dce kce T154.heap n0 O159 S_DCE A_DCE E_DCE fc155 fc156 fc157 fc158 (Ins.of_exa g154_0 (w_ hw 262 rfl)) q_88)) q160a q160b q160c (g := (mkF m 106 #[.val (.ref ds), .val v0_, .val (.int ee)] [(.ref ob152), (.ref sp)])) rfl hml.symm (Steps.refl _) (argsL := [(.ref ob152)]) (rest := []) (lenOf pd9_ rfl) rfl own_z (hb hby D38_106) (o4 rfl 3 1 16 10)) fun T160 Lc160 _ X160 hQ160 => ?_
   obtain ⟨oo_160, kn_160, vz_160, rfl, M160, K160, g160_0, g160_1, g160_2, g160_3, g160_4, g160_5, g160_6, r160_0, r160_1⟩ := hQ160
   have N160 := Fr.app N154 M160
   have z160 := K160.1
   have lt_g160_0 := eG g160_0
   have lt_g160_4 := vG g160_4
   refine ob_ (fun _ k => XS.pop X160.here hx rfl (hb hby D38_111) rfl rfl k) ?_
   refine o_al X160 hx hby D38_112 rfl rfl ?_
   have q_89 : own_NE ds ob152 := mN
   have q_90 : own_NE ds sp := mN
   have fc161 := (((((((Pm9.other W5 (Or.inl q_2)).ext E76).keep K78 (nT q_43 nin0)).keep K84 (nT (uS q_44) nin0)).ext E152).keep K154 (nT q_89 nin0)).keep K160 (nT q_90 nin0))
   refine o_gf X160 hx hby hZ hown hw 307 rfl Via.refl rfl fc161 D38_113 fun T162 X162 e162 => ?_
   refine o_al X162 hx hby D38_116 rfl rfl ?_
   have fc163 := (((fc87.ext E152).keep K154 (nT q_89 nin0)).keep K160 (nT q_90 nin0))
   refine o_gf X162 hx hby hZ hown hw 326 rfl Via.refl e162 fc163 D38_117 fun T164 X164 e164 => ?_
   refine ob_ (fun _ k => XS.ifNo X164.here hx rfl (hb hby D38_120) rfl ((if0 _ _).trans (feq hc89).1) k) ?_
   obtain ⟨T165, h165, X165, e165, E165, A165, D165, U165, st165⟩ := newO X164 hx hZ hown (w_ hw 301 rfl) (w_ hw 13 rfl) (w_ hw 14 rfl) e164 (g := (mkF m 123 #[.val (.ref ds), .val v0_, .val (.int ee)] [(.ref dr)])) rfl (hb hby D38_123) (by decide) (by decide)
   obtain ⟨ob165, g165⟩ : ∃ z, z = T160.heap.size := ⟨_, rfl⟩
   rw [← g165] at A165 D165 U165 st165
   refine ob_ st165 ?_
   have z165 := E165.1
   have lt165 : h165.size > ob165 := A165.lt
   refine ob_ (fun _ k => XS.dup X165.here hx rfl (hb hby D38_126) rfl rfl k) ?_
   have q_91 : own_LE n0 ob165 := mL
   have O166 : Old Z n0 h165 := ((O159.keep K160 (allS q_88 all0)).ext E165)
   refine o_k 3 (X165.specialBack hx (y := y3_) rfl hown (mw hZ hw 302 rfl) (mw hZ hw 16 rfl) (mw hZ hw 17 rfl) (by decide) (bk 2 hZ hw 17 14 (rm_ai l Z a0 hw [] ob165 dce kce h165 n0 O166 S_DCE A_DCE E_DCE A165 (show f32_ Z h165 ob165 v0_ from D165 (Or.inl (w_ hw 73 rfl)) (ty := .int) (by decide)) (show f36_ Z h165 ob165 v0_ from D165 (Or.inl (w_ hw 34 rfl)) (ty := .int) (by decide)) (show f31_ Z h165 ob165 .null from D165 (Or.inl (w_ hw 37 rfl)) (ty := (.array (.object s7_))) (by decide)) q_91)) (g := (mkF m 127 #[.val (.ref ds), .val v0_, .val (.int ee)] [(.ref ob165), (.ref ob165), (.ref dr)])) rfl hml.symm (Steps.refl _) (a := ob165) (argsL := []) (rest := [(.ref ob165), (.ref dr)]) (lenOf pd1_ rfl) rfl own_z (hb hby D38_127) (o4 e165 5 0 29 0)) fun T167 Lc167 _ X167 hQ167 => ?_
   obtain ⟨rfl, M167, K167, g167_0, g167_1, g167_2, g167_3⟩ := hQ167
   have N167 := Fr.app N160 M167
   have z167 := K167.1
   have lt_g167_0 := eG g167_0
   refine ob_ (fun _ k => XS.goto X167.here hx rfl (pc0 := 130) (pc' := 136) rfl (hb hby D38_130) (by decide) (by decide) k) ?_
   have fc168 := (((((((((Pm20.wr W5).ext E76).keep K78).keep K84).ext E152).keep K154).keep K160).ext E165).keep K167)
   have q_92 : own_NE dr xa := mN
   have q_93 : own_NE dr ob76 := mN
   have q_94 : own_NE ch dr := mN
   have q_95 : own_NE dr ob152 := mN
   have q_96 : own_NE dr sp := mN
   have q_97 : own_NE dr ob165 := mN
   have fc169 := (((((((((Pm21.other W5 (Or.inl q_92)).ext E76).keep K78 (nT q_93 nin0)).keep K84 (nT (uS q_94) nin0)).ext E152).keep K154 (nT q_95 nin0)).keep K160 (nT q_96 nin0)).ext E165).keep K167 (nT q_97 nin0))
   have fc170 := (((((((((Pm22.other W5 (Or.inl q_92)).ext E76).keep K78 (nT q_93 nin0)).keep K84 (nT (uS q_94) nin0)).ext E152).keep K154 (nT q_95 nin0)).keep K160 (nT q_96 nin0)).ext E165).keep K167 (nT q_97 nin0))
   have fc171 := (((((((((Pm23.other W5 (Or.inl q_92)).ext E76).keep K78 (nT q_93 nin0)).keep K84 (nT (uS q_94) nin0)).ext E152).keep K154 (nT q_95 nin0)).keep K160 (nT q_96 nin0)).ext E165).keep K167 (nT q_97 nin0))
   have q_98 : own_LE n0 dr := mL
   have O172 : Old Z n0 T167.heap := (O166.keep K167 (allS q_91 all0))
   obtain ⟨cq173, kq173, q173a, q173b, q173c⟩ := isOf hZ rfl fc168
   refine o_k 5 (X167.interfaceBack hx (xi := y17_) (y := y15_) hown (mw hZ hw 452 rfl) (mw hZ hw 233 rfl) (mw hZ hw 234 rfl) (mw hZ hw 235 rfl) (mw hZ hw 236 rfl) (mw hZ hw 237 rfl) (mw hZ hw 238 rfl) (mw hZ hw 70 rfl) (by decide) (bk 0 hZ hw 239 14 (rm_addZ l Z a0 hw [] dr md_dr ob165 dce kce T167.heap n0 O172 S_DCE A_DCE E_DCE fc168 fc169 fc170 fc171 (Ins.of_exa g167_0 (w_ hw 262 rfl)) q_98)) q173a q173b q173c (g := (mkF m 136 #[.val (.ref ds), .val v0_, .val (.int ee)] [(.ref ob165), (.ref dr)])) rfl hml.symm (Steps.refl _) (argsL := [(.ref ob165)]) (rest := []) (lenOf pd9_ rfl) rfl own_z (hb hby D38_136) (o4 rfl 5 1 29 10)) fun T173 Lc173 _ X173 hQ173 => ?_
   obtain ⟨oo_173, kn_173, vz_173, rfl, M173, K173, g173_0, g173_1, g173_2, g173_3, g173_4, g173_5, g173_6, r173_0, r173_1⟩ := hQ173
   have N173 := Fr.app N167 M173
   have z173 := K173.1
   have lt_g173_0 := eG g173_0
   have lt_g173_4 := vG g173_4
   refine ob_ (fun _ k => XS.pop X173.here hx rfl (hb hby D38_141) rfl rfl k) ?_
   refine o_al X173 hx hby D38_142 rfl rfl ?_
   have q_99 : own_NE ds ob165 := mN
   have q_100 : own_NE dr ds := mN
   have fc174 := ((((((((((Pm10.other W5 (Or.inl q_2)).ext E76).keep K78 (nT q_43 nin0)).keep K84 (nT (uS q_44) nin0)).ext E152).keep K154 (nT q_89 nin0)).keep K160 (nT q_90 nin0)).ext E165).keep K167 (nT q_99 nin0)).keep K173 (nT (uS q_100) nin0))
   refine o_gf X173 hx hby hZ hown hw 309 rfl Via.refl rfl fc174 D38_143 fun T175 X175 e175 => ?_
   refine o_al X175 hx hby D38_146 rfl rfl ?_
   have fc176 := (((fc163.ext E165).keep K167 (nT q_99 nin0)).keep K173 (nT (uS q_100) nin0))
   refine o_gf X175 hx hby hZ hown hw 326 rfl Via.refl e175 fc176 D38_147 fun T177 X177 e177 => ?_
   refine ob_ (fun _ k => XS.ifNo X177.here hx rfl (hb hby D38_150) rfl ((if0 _ _).trans (feq hc89).1) k) ?_
   obtain ⟨T178, h178, X178, e178, E178, A178, D178, U178, st178⟩ := newO X177 hx hZ hown (w_ hw 301 rfl) (w_ hw 13 rfl) (w_ hw 14 rfl) e177 (g := (mkF m 153 #[.val (.ref ds), .val v0_, .val (.int ee)] [(.ref dp)])) rfl (hb hby D38_153) (by decide) (by decide)
   obtain ⟨ob178, g178⟩ : ∃ z, z = T173.heap.size := ⟨_, rfl⟩
   rw [← g178] at A178 D178 U178 st178
   refine ob_ st178 ?_
   have z178 := E178.1
   have lt178 : h178.size > ob178 := A178.lt
   refine ob_ (fun _ k => XS.dup X178.here hx rfl (hb hby D38_156) rfl rfl k) ?_
   have q_101 : own_LE n0 ob178 := mL
   have O179 : Old Z n0 h178 := ((O172.keep K173 (allS q_98 all0)).ext E178)
   refine o_k 3 (X178.specialBack hx (y := y3_) rfl hown (mw hZ hw 302 rfl) (mw hZ hw 16 rfl) (mw hZ hw 17 rfl) (by decide) (bk 2 hZ hw 17 14 (rm_ai l Z a0 hw [] ob178 dce kce h178 n0 O179 S_DCE A_DCE E_DCE A178 (show f32_ Z h178 ob178 v0_ from D178 (Or.inl (w_ hw 73 rfl)) (ty := .int) (by decide)) (show f36_ Z h178 ob178 v0_ from D178 (Or.inl (w_ hw 34 rfl)) (ty := .int) (by decide)) (show f31_ Z h178 ob178 .null from D178 (Or.inl (w_ hw 37 rfl)) (ty := (.array (.object s7_))) (by decide)) q_101)) (g := (mkF m 157 #[.val (.ref ds), .val v0_, .val (.int ee)] [(.ref ob178), (.ref ob178), (.ref dp)])) rfl hml.symm (Steps.refl _) (a := ob178) (argsL := []) (rest := [(.ref ob178), (.ref dp)]) (lenOf pd1_ rfl) rfl own_z (hb hby D38_157) (o4 e178 7 0 42 0)) fun T180 Lc180 _ X180 hQ180 => ?_
   obtain ⟨rfl, M180, K180, g180_0, g180_1, g180_2, g180_3⟩ := hQ180
   have N180 := Fr.app N173 M180
   have z180 := K180.1
   have lt_g180_0 := eG g180_0
   refine ob_ (fun _ k => XS.goto X180.here hx rfl (pc0 := 160) (pc' := 166) rfl (hb hby D38_160) (by decide) (by decide) k) ?_
   have fc181 := ((((((((((((Pm24.wr W5).ext E76).keep K78).keep K84).ext E152).keep K154).keep K160).ext E165).keep K167).keep K173).ext E178).keep K180)
   have q_102 : own_NE dp xa := mN
   have q_103 : own_NE dp ob76 := mN
   have q_104 : own_NE ch dp := mN
   have q_105 : own_NE dp ob152 := mN
   have q_106 : own_NE dp sp := mN
   have q_107 : own_NE dp ob165 := mN
   have q_108 : own_NE dp dr := mN
   have q_109 : own_NE dp ob178 := mN
   have fc182 := ((((((((((((Pm25.other W5 (Or.inl q_102)).ext E76).keep K78 (nT q_103 nin0)).keep K84 (nT (uS q_104) nin0)).ext E152).keep K154 (nT q_105 nin0)).keep K160 (nT q_106 nin0)).ext E165).keep K167 (nT q_107 nin0)).keep K173 (nT q_108 nin0)).ext E178).keep K180 (nT q_109 nin0))
   have fc183 := ((((((((((((Pm26.other W5 (Or.inl q_102)).ext E76).keep K78 (nT q_103 nin0)).keep K84 (nT (uS q_104) nin0)).ext E152).keep K154 (nT q_105 nin0)).keep K160 (nT q_106 nin0)).ext E165).keep K167 (nT q_107 nin0)).keep K173 (nT q_108 nin0)).ext E178).keep K180 (nT q_109 nin0))
   have fc184 := ((((((((((((Pm27.other W5 (Or.inl q_102)).ext E76).keep K78 (nT q_103 nin0)).keep K84 (nT (uS q_104) nin0)).ext E152).keep K154 (nT q_105 nin0)).keep K160 (nT q_106 nin0)).ext E165).keep K167 (nT q_107 nin0)).keep K173 (nT q_108 nin0)).ext E178).keep K180 (nT q_109 nin0))
   have q_110 : own_LE n0 dp := mL
   have O185 : Old Z n0 T180.heap := (O179.keep K180 (allS q_101 all0))
   obtain ⟨cq186, kq186, q186a, q186b, q186c⟩ := isOf hZ rfl fc181
   refine o_k 5 (X180.interfaceBack hx (xi := y17_) (y := y15_) hown (mw hZ hw 452 rfl) (mw hZ hw 233 rfl) (mw hZ hw 234 rfl) (mw hZ hw 235 rfl) (mw hZ hw 236 rfl) (mw hZ hw 237 rfl) (mw hZ hw 238 rfl) (mw hZ hw 70 rfl) (by decide) (bk 0 hZ hw 239 14 (rm_addZ l Z a0 hw [] dp md_dp ob178 dce kce T180.heap n0 O185 S_DCE A_DCE E_DCE fc181 fc182 fc183 fc184 (Ins.of_exa g180_0 (w_ hw 262 rfl)) q_110)) q186a q186b q186c (g := (mkF m 166 #[.val (.ref ds), .val v0_, .val (.int ee)] [(.ref ob178), (.ref dp)])) rfl hml.symm (Steps.refl _) (argsL := [(.ref ob178)]) (rest := []) (lenOf pd9_ rfl) rfl own_z (hb hby D38_166) (o4 rfl 7 1 42 10)) fun T186 Lc186 _ X186 hQ186 => ?_
   obtain ⟨oo_186, kn_186, vz_186, rfl, M186, K186, g186_0, g186_1, g186_2, g186_3, g186_4, g186_5, g186_6, r186_0, r186_1⟩ := hQ186
   have N186 := Fr.app N180 M186
   have z186 := K186.1
   have lt_g186_0 := eG g186_0
   have lt_g186_4 := vG g186_4
   refine ob_ (fun _ k => XS.pop X186.here hx rfl (hb hby D38_171) rfl rfl k) ?_
   have q_111 : own_NE ob76 xa := mN
   have fc187 := ((((((((((((Vw5.ext E76).keep K78 (nT (uS q_111) nin0)).keep K84 (nT (uS q_40) nin0)).ext E152).keep K154 (nS nin0)).keep K160 (nT (uS q_84) nin0)).ext E165).keep K167 (nS nin0)).keep K173 (nT (uS q_92) nin0)).ext E178).keep K180 (nS nin0)).keep K186 (nT (uS q_102) nin0))
   have fc188 := (((((((((((((Pm0.wr W5).ext E76).keep K78).keep K84).ext E152).keep K154).keep K160).ext E165).keep K167).keep K173).ext E178).keep K180).keep K186)
   have q_112 : own_NE dp ds := mN
   have fc189 := (((((((((((((Pm4.other W5 (Or.inl q_2)).ext E76).keep K78 (nT q_43 nin0)).keep K84 (nT (uS q_44) nin0)).ext E152).keep K154 (nT q_89 nin0)).keep K160 (nT q_90 nin0)).ext E165).keep K167 (nT q_99 nin0)).keep K173 (nT (uS q_100) nin0)).ext E178).keep K180 (nS nin0)).keep K186 (nT (uS q_112) nin0))
   have fc190 := (((((((((((((Pm28.wr W5).ext E76).keep K78).keep K84).ext E152).keep K154).keep K160).ext E165).keep K167).keep K173).ext E178).keep K180).keep K186)
   have q_113 : own_NE dq xa := mN
   have q_114 : own_NE dq ob76 := mN
   have q_115 : own_NE ch dq := mN
   have q_116 : own_NE dq ob152 := mN
   have q_117 : own_NE dq sp := mN
   have q_118 : own_NE dq ob165 := mN
   have q_119 : own_NE dq dr := mN
   have q_120 : own_NE dq ob178 := mN
   have q_121 : own_NE dp dq := mN
   have fc191 := (((((((((((((Pm29.other W5 (Or.inl q_113)).ext E76).keep K78 (nT q_114 nin0)).keep K84 (nT (uS q_115) nin0)).ext E152).keep K154 (nT q_116 nin0)).keep K160 (nT q_117 nin0)).ext E165).keep K167 (nT q_118 nin0)).keep K173 (nT q_119 nin0)).ext E178).keep K180 (nT q_120 nin0)).keep K186 (nT (uS q_121) nin0))
   have fc192 := (((((((((((((Pm30.other W5 (Or.inl q_113)).ext E76).keep K78 (nT q_114 nin0)).keep K84 (nT (uS q_115) nin0)).ext E152).keep K154 (nT q_116 nin0)).keep K160 (nT q_117 nin0)).ext E165).keep K167 (nT q_118 nin0)).keep K173 (nT q_119 nin0)).ext E178).keep K180 (nT q_120 nin0)).keep K186 (nT (uS q_121) nin0))
   have fc193 := (((((((((((((Pm31.other W5 (Or.inl q_113)).ext E76).keep K78 (nT q_114 nin0)).keep K84 (nT (uS q_115) nin0)).ext E152).keep K154 (nT q_116 nin0)).keep K160 (nT q_117 nin0)).ext E165).keep K167 (nT q_118 nin0)).keep K173 (nT q_119 nin0)).ext E178).keep K180 (nT q_120 nin0)).keep K186 (nT (uS q_121) nin0))
   have q_122 : own_NE de xa := mN
   have q_123 : own_NE de ob76 := mN
   have q_124 : own_NE ch de := mN
   have q_125 : own_NE de sp := mN
   have q_126 : own_NE de dr := mN
   have q_127 : own_NE de dp := mN
   have fc194 := (((((((((((((Pm32.other W5 q_122).ext E76).keep K78 (nT q_123 nin0)).keep K84 (nT (uS q_124) nin0)).ext E152).keep K154 (nS nin0)).keep K160 (nT q_125 nin0)).ext E165).keep K167 (nS nin0)).keep K173 (nT q_126 nin0)).ext E178).keep K180 (nS nin0)).keep K186 (nT q_127 nin0))
   have fc195 := (((((((((g84_0.ext E152).keep K154).keep K160).ext E165).keep K167).keep K173).ext E178).keep K180).keep K186)
   have q_128 : own_NE ch ob152 := mN
   have q_129 : own_NE ch ob165 := mN
   have q_130 : own_NE ch ob178 := mN
   have fc196 := (((((((((g84_1.ext E152).keep K154 (nT q_128 nin0)).keep K160 (nT q_86 nin0)).ext E165).keep K167 (nT q_129 nin0)).keep K173 (nT q_94 nin0)).ext E178).keep K180 (nT q_130 nin0)).keep K186 (nT q_104 nin0))
   have fc197 := (((((((((g84_2.ext E152).keep K154 (nT q_128 nin0)).keep K160 (nT q_86 nin0)).ext E165).keep K167 (nT q_129 nin0)).keep K173 (nT q_94 nin0)).ext E178).keep K180 (nT q_130 nin0)).keep K186 (nT q_104 nin0))
   have fc198 := (((((((((g84_3.ext E152).keep K154 (nT q_128 nin0)).keep K160 (nT q_86 nin0)).ext E165).keep K167 (nT q_129 nin0)).keep K173 (nT q_94 nin0)).ext E178).keep K180 (nT q_130 nin0)).keep K186 (nT q_104 nin0))
   have q_131 : own_NE ob152 oo_84 := mN
   have q_132 : own_NE oo_84 sp := mN
   have q_133 : own_NE ob165 oo_84 := mN
   have q_134 : own_NE dr oo_84 := mN
   have q_135 : own_NE ob178 oo_84 := mN
   have q_136 : own_NE dp oo_84 := mN
   have fc199 := (((((((((g84_4.ext E152).keep K154 (nT (uS q_131) nin0)).keep K160 (nT q_132 nin0)).ext E165).keep K167 (nT (uS q_133) nin0)).keep K173 (nT (uS q_134) nin0)).ext E178).keep K180 (nT (uS q_135) nin0)).keep K186 (nT (uS q_136) nin0))
   have fc200 := (((((((((g84_5.ext E152).keep K154).keep K160).ext E165).keep K167).keep K173).ext E178).keep K180).keep K186)
   have fc201 := (((((((((g84_6.ext E152).keep K154).keep K160).ext E165).keep K167).keep K173).ext E178).keep K180).keep K186)
   have fc202 := ((((((g160_0.ext E165).keep K167).keep K173).ext E178).keep K180).keep K186)
   have q_137 : own_NE ob165 sp := mN
   have q_138 : own_NE ob178 sp := mN
   have fc203 := ((((((g160_1.ext E165).keep K167 (nT (uS q_137) nin0)).keep K173 (nT (uS q_96) nin0)).ext E178).keep K180 (nT (uS q_138) nin0)).keep K186 (nT (uS q_106) nin0))
   have fc204 := ((((((g160_2.ext E165).keep K167 (nT (uS q_137) nin0)).keep K173 (nT (uS q_96) nin0)).ext E178).keep K180 (nT (uS q_138) nin0)).keep K186 (nT (uS q_106) nin0))
   have fc205 := ((((((g160_3.ext E165).keep K167 (nT (uS q_137) nin0)).keep K173 (nT (uS q_96) nin0)).ext E178).keep K180 (nT (uS q_138) nin0)).keep K186 (nT (uS q_106) nin0))
   have q_139 : own_NE ob165 oo_160 := mN
   have q_140 : own_NE dr oo_160 := mN
   have q_141 : own_NE ob178 oo_160 := mN
   have q_142 : own_NE dp oo_160 := mN
   have fc206 := ((((((g160_4.ext E165).keep K167 (nT (uS q_139) nin0)).keep K173 (nT (uS q_140) nin0)).ext E178).keep K180 (nT (uS q_141) nin0)).keep K186 (nT (uS q_142) nin0))
   have fc207 := ((((((g160_5.ext E165).keep K167).keep K173).ext E178).keep K180).keep K186)
   have fc208 := ((((((g160_6.ext E165).keep K167).keep K173).ext E178).keep K180).keep K186)
   have fc209 := (((g173_0.ext E178).keep K180).keep K186)
   have q_143 : own_NE dr ob178 := mN
   have fc210 := (((g173_1.ext E178).keep K180 (nT q_143 nin0)).keep K186 (nT (uS q_108) nin0))
   have fc211 := (((g173_2.ext E178).keep K180 (nT q_143 nin0)).keep K186 (nT (uS q_108) nin0))
   have fc212 := (((g173_3.ext E178).keep K180 (nT q_143 nin0)).keep K186 (nT (uS q_108) nin0))
   have q_144 : own_NE ob178 oo_173 := mN
   have q_145 : own_NE dp oo_173 := mN
   have fc213 := (((g173_4.ext E178).keep K180 (nT (uS q_144) nin0)).keep K186 (nT (uS q_145) nin0))
   have fc214 := (((g173_5.ext E178).keep K180).keep K186)
   have fc215 := (((g173_6.ext E178).keep K180).keep K186)
   have q_146 : own_LE h0.size ob76 := mL
   have K216 : Keep h0 T186.heap [xa, ch, sp, dr, dp] := ((((((((((((((Keep.refl h0 [xa, ch, sp, dr, dp]).wr W5 (Or.inl (List.mem_of_getElem? (i := 0) rfl))).ext E76).trans K78 (kR all0 q_146)).trans K84 (kI 1 rfl all0)).ext E152).trans K154 (kR all0)).trans K160 (kI 2 rfl all0)).ext E165).trans K167 (kR all0)).trans K173 (kI 3 rfl all0)).ext E178).trans K180 (kR all0)).trans K186 (kI 4 rfl all0))
   exact jn9 _ _ ⟨_, (X186.more (by decide) (by decide)), N186⟩ rfl oo_84 oo_160 oo_173 oo_186 kn_84 kn_160 kn_173 kn_186 (10 : Int32) (10 : Int32) (10 : Int32) (10 : Int32) vz_84 vz_160 vz_173 vz_186 (md_ch + (1 : Int32)) (md_sp + (1 : Int32)) (md_dr + (1 : Int32)) (md_dp + (1 : Int32)) K216 fc187 fc188 fc189 fc190 fc191 fc192 fc193 fc194 fc195 fc196 fc197 fc198 fc199 fc200 fc201 fc202 fc203 fc204 fc205 fc206 fc207 fc208 fc209 fc210 fc211 fc212 fc213 fc214 fc215 g186_0 g186_1 g186_2 g186_3 g186_4 g186_5 g186_6 (by first | exact Or.inl rfl | exact Or.inr ⟨rfl, rfl, rfl, rfl, by assumption, by assumption, by assumption, by assumption, by simp only [own_asc, and_true]; omega⟩) (by omega)
def Q_rm_adm10 (Z : State) (ds un xa : Addr) (kxa : ClassId) (ca dq de : Addr) (kde : ClassId) (ee : Int32) (dce : Addr) (kce : ClassId) (el ele : Addr) (kele : ClassId) (ci : Addr) (cci : Cell) (xp tz : Int32) (wl : List Value) (h0 : Heap) (n0 : Nat) (v : Option Value) (h : Heap) (L : List Loc) : Prop := ∃ (tq : Int32) (wq : List Value), v = some v1_ ∧ Fr n0 L ∧ Keep h0 h [xa, dq, de] ∧ Arv Z h xa kxa .boolean (16 : Int32) [(.int xp), (.int ee)] v0_ ∧ Exa Z h dq s57_ ∧ f34_ Z h dq v0_ ∧ f35_ Z h dq (.int tq) ∧ f33_ Z h dq (.ref de) ∧ Arv Z h de kde (.object s7_) (17 : Int32) wq .null ∧ own_w1 Z ee tz wl tq wq
theorem rm_adm10 (l : Launch) (Z : State) (a0 : Array Value) (hw : own_Wd Z a0) (ws : List Jvm.Cond) (ds un xa : Addr) (kxa : ClassId) (ca dq de : Addr) (kde : ClassId) (ee : Int32) (dce : Addr) (kce : ClassId) (el ele : Addr) (kele : ClassId) (ci : Addr) (cci : Cell) (xp tz : Int32) (wl : List Value) (h0 : Heap) (n0 : Nat) (O0 : Old Z n0 h0) (S_DCE : Sta Z Z.heap s4_ s8_ s9_ (.ref dce)) (A_DCE : Arv Z Z.heap dce kce (.object s7_) (0 : Int32) [] .null) (E_DCE : Exa Z Z.heap dce s9_) (S_EL : Sta Z Z.heap s25_ "EMPTY_LIST" s26_ (.ref el)) (E_EL : Exa Z Z.heap el s29_) (F_EL : f3_ Z Z.heap el (.ref ele)) (A_EL : Arv Z Z.heap ele kele (.object s7_) (0 : Int32) [] .null) (S_high : Sta Z Z.heap s65_ "high" "I" (.int (127 : Int32))) (S_icache : Sta Z Z.heap s65_ "cache" s66_ (.ref ci)) (Bxi : Bxs Z ci cci s63_ "I" (256 : Int32) (fun j => .int (j - 128))) (Pm0 : Exa Z h0 ds s37_) (Pm1 : f23_ Z h0 ds (.ref un)) (Pm2 : f19_ Z h0 ds (.ref xa)) (Pm3 : f16_ Z h0 ds (.ref ca)) (Pm4 : f24_ Z h0 ds (.ref dq)) (Pm5 : f20_ Z h0 ds v0_) (Pm6 : Arv Z h0 xa kxa .boolean (16 : Int32) [(.int xp)] v0_) (Pm7 : Exa Z h0 dq s57_) (Pm8 : f34_ Z h0 dq v0_) (Pm9 : f35_ Z h0 dq (.int tz)) (Pm10 : f33_ Z h0 dq (.ref de)) (Pm11 : Arv Z h0 de kde (.object s7_) (17 : Int32) wl .null) (gt_ds : n0 ≤ ds) (hch : own_asc [ds, xa, dq, de]) (ovq : Ovr Z kde s7_) (hee : ee = 0 ∨ ee = 1) (hwl : (tz = 0 ∧ wl = []) ∨ (tz = 1 ∧ ∃ wa, wl = [.ref wa])) :
  own_M l Z ws y52_ prog_12_method_5_code 3 (some .int) ({ frames := 3, cells := 0, slots := 0, locals := 42 } : Room) #[(.ref ds), v1_, (.int ee)] h0 (Q_rm_adm10 Z ds un xa kxa ca dq de kde ee dce kce el ele kele ci cci xp tz wl h0 n0) := by
 refine own_open O0 (plainFor_of_name pn20_) (L0 := #[.val (.ref ds), .val v1_, .val (.int ee)]) ?_
 intro p e s m below meth c s₁ Bd hx hby hml hZ hh hown hnm X0 e0 N0 Z0
 have hq_hch := hch
 simp only [own_asc] at hq_hch
 have lt_Pm0 := eG Pm0
 have lt_Pm6 := vG Pm6
 have lt_Pm7 := eG Pm7
 have lt_Pm11 := vG Pm11
 refine o_il X0 hx hby D38_0 rfl ?_
 refine o_al X0 hx hby D38_1 rfl rfl ?_
 refine o_gf X0 hx hby hZ hown hw 295 rfl Via.refl e0 Pm2 D38_2 fun T1 X1 e1 => ?_
 obtain ⟨cl2, Ar2, q2, S2, M2, H2, G2⟩ := (id Pm6)
 refine ob_ (X1.arraylength hx (by rw [e1]; exact Ar2.1) (State.isArrayOf_alike hZ.alike Ar2.2.1) (g := (mkF m 5 #[.val (.ref ds), .val v1_, .val (.int ee)] [(.ref xa), v1_])) rfl rfl (hb hby D38_5)) ?_
 rw [len_of S2 M2]
 refine ob_ (fun _ k => XS.icmpYes X1.here hx rfl (pc0 := 6) (pc' := 51) rfl (hb hby D38_6) rfl (feq (by decide : ¬ ((1 : Int32) = (16 : Int32)))).2 (by decide) (by decide) k) ?_
 refine o_al X1 hx hby D38_51 rfl rfl ?_
 refine o_gf X1 hx hby hZ hown hw 295 rfl Via.refl e1 Pm2 D38_52 fun T3 X3 e3 => ?_
 refine o_il X3 hx hby D38_55 rfl ?_
 refine o_il X3 hx hby D38_56 rfl ?_
 have Vw4 : Arv Z h0 xa kxa .boolean (16 : Int32) [(.int xp), v0_] v0_ := Pm6.pad (pad_rep [(.int xp)] v0_ 1)
 obtain ⟨cl5, Ar5, q5, S5, M5, H5, G5⟩ := (id Vw4)
 have hin5 : ¬ ((1 : Int32) < 0 ∨ cl5.slots.size ≤ ((1 : Int32)).toNatClampNeg) := inb_of S5 ⟨by decide, by decide⟩
 obtain ⟨T5, h5, X5, e5, W5, st5⟩ := stZ X3 hx hZ e3 Ar5 (j := (1 : Int32)) hin5 (g := (mkF m 57 #[.val (.ref ds), .val v1_, .val (.int ee)] [(.int ee), v1_, (.ref xa)])) rfl rfl (hb hby D38_57)
 refine ob_ st5 ?_
 rw [own_nar_b hee] at W5
 have z5 := W5.size
 have q_1 : own_LE n0 xa := mL
 have N5 := Fr.snoc X5 N0 q_1
 have Vw5 : Arv Z h5 xa kxa .boolean (16 : Int32) [(.int xp), (.int ee)] v0_ := Arv.set Ar5 q5 S5 M5 H5 G5 (own_fits_b hee) W5 1 rfl (Nat.le_of_ble_eq_true rfl)
 refine o_al X5 hx hby D38_58 rfl rfl ?_
 have q_2 : own_NE ds xa := mN
 have fc6 := (Pm5.other W5 (Or.inl q_2))
 refine o_gf X5 hx hby hZ hown hw 324 rfl Via.refl e5 fc6 D38_59 fun T7 X7 e7 => ?_
 refine ob_ (fun _ k => XS.ifYes X7.here hx rfl (pc0 := 62) (pc' := 172) rfl (hb hby D38_62) rfl ((if0 _ _).trans (teq (by decide : (0 : Int32) = (0 : Int32))).1) (by decide) (by decide) k) ?_
 refine o_il X7 hx hby D38_172 rfl ?_
 by_cases hc8 : ee = (0 : Int32)
 ·
  refine ob_ (fun _ k => XS.ifNo X7.here hx rfl (hb hby D38_173) rfl ((if0 _ _).trans (teq hc8).2) k) ?_
  rcases hwl with ⟨rfl, rfl⟩ | ⟨rfl, wa, rfl⟩
  ·
   have q_3 : own_NE de xa := mN
   have fc9 := (Pm11.other W5 q_3)
   have Vd10 : Arv Z h5 de kde (.object s7_) (17 : Int32) [] .null := fc9
   refine o_al X7 hx hby D38_176 rfl rfl ?_
   have fc11 := (Pm4.other W5 (Or.inl q_2))
   refine o_gf X7 hx hby hZ hown hw 322 rfl Via.refl e7 fc11 D38_177 fun T12 X12 e12 => ?_
   refine o_il X12 hx hby D38_180 rfl ?_
   have O13 : Old Z n0 h5 := (O0.wr W5 q_1)
   refine o_ks 3 (Jvm.LawKit.callS X12 hx (y := y40_) hown (mw hZ hw 360 rfl) (mw hZ hw 361 rfl) (mw hZ hw 362 rfl) (mw hZ hw 363 rfl) (by decide) (bk 1 hZ hw 363 362 (rm_iv1 l Z a0 hw [] ci cci h5 n0 O13 S_high S_icache Bxi)) (g := (mkF m 181 #[.val (.ref ds), .val v1_, .val (.int ee)] [v1_, (.ref dq)])) rfl hml.symm (argsL := [v1_]) (rest := [(.ref dq)]) (lenOf pd24_ rfl) rfl own_z (hb hby D38_181) (o4 e12 0 0 0 0)) fun T14 Lc14 _ X14 hQ14 => ?_
   obtain ⟨bx_14, rfl, M14, K14, r14_0⟩ := hQ14
   have N14 := Fr.app N5 M14
   have fc15 := (Pm7.wr W5)
   have q_4 : own_NE dq xa := mN
   have fc16 := (Pm8.other W5 (Or.inl q_4))
   have fc17 := (Pm9.other W5 (Or.inl q_4))
   have fc18 := (Pm10.other W5 (Or.inl q_4))
   have fc19 : Exa Z h5 bx_14 s63_ := r14_0.1.ext O13.2
   have q_5 : own_LE n0 dq := mL
   obtain ⟨cq20, kq20, q20a, q20b, q20c⟩ := isOf hZ K14 fc15
   refine o_k 5 (X14.interfaceBack hx (xi := y53_) (y := y44_) hown (mw hZ hw 367 rfl) (mw hZ hw 368 rfl) (mw hZ hw 369 rfl) (mw hZ hw 370 rfl) (mw hZ hw 371 rfl) (mw hZ hw 372 rfl) (mw hZ hw 373 rfl) (mw hZ hw 374 rfl) (by decide) (bk 0 hZ hw 375 313 (rm_dad0 l Z a0 hw [] dq de kde bx_14 h5 n0 O13 fc15 fc16 fc17 fc18 Vd10 (Ins.of_exa fc19 (w_ hw 383 rfl)) q_5 (by simp only [own_asc, and_true]; omega) ovq)) q20a q20b q20c (g := (mkF m 184 #[.val (.ref ds), .val v1_, .val (.int ee)] [(.ref bx_14), (.ref dq)])) rfl hml.symm (Steps.refl _) (argsL := [(.ref bx_14)]) (rest := []) (lenOf pd9_ rfl) rfl own_z (hb hby D38_184) (o4 K14 0 0 0 0)) fun T20 Lc20 _ X20 hQ20 => ?_
   obtain ⟨rfl, M20, K20, g20_0, g20_1, g20_2, g20_3, g20_4⟩ := hQ20
   have N20 := Fr.app N14 M20
   have z20 := K20.1
   have lt_g20_0 := eG g20_0
   have lt_g20_4 := vG g20_4
   refine ob_ (fun _ k => XS.pop X20.here hx rfl (hb hby D38_189) rfl rfl k) ?_
   refine o_il X20 hx hby D38_190 rfl ?_
   have q_6 : xa ∉ [dq, de] := nT (uS q_4) (nT (uS q_3) nin0)
   have fc21 := (Vw5.keep K20 q_6)
   have K22 : Keep h0 T20.heap [xa, dq, de] := (((Keep.refl h0 [xa, dq, de]).wr W5 (Or.inl (List.mem_of_getElem? (i := 0) rfl))).trans K20 (kI 1 rfl (kI 2 rfl all0)))
   exact o_ri Bd X20 hx hby rfl D38_191 ⟨(1 : Int32), [(.ref bx_14)], rfl, N20, K22, fc21, g20_0, g20_1, g20_2, g20_3, g20_4, (Or.inr ⟨hc8, rfl, _, rfl, r14_0⟩)⟩
  ·
   have q_7 : own_NE de xa := mN
   have fc23 := (Pm11.other W5 q_7)
   have Vd24 : Arv Z h5 de kde (.object s7_) (17 : Int32) [(.ref wa)] .null := fc23
   refine o_al X7 hx hby D38_176 rfl rfl ?_
   have fc25 := (Pm4.other W5 (Or.inl q_2))
   refine o_gf X7 hx hby hZ hown hw 322 rfl Via.refl e7 fc25 D38_177 fun T26 X26 e26 => ?_
   refine o_il X26 hx hby D38_180 rfl ?_
   have O27 : Old Z n0 h5 := (O0.wr W5 q_1)
   refine o_ks 3 (Jvm.LawKit.callS X26 hx (y := y40_) hown (mw hZ hw 360 rfl) (mw hZ hw 361 rfl) (mw hZ hw 362 rfl) (mw hZ hw 363 rfl) (by decide) (bk 1 hZ hw 363 362 (rm_iv1 l Z a0 hw [] ci cci h5 n0 O27 S_high S_icache Bxi)) (g := (mkF m 181 #[.val (.ref ds), .val v1_, .val (.int ee)] [v1_, (.ref dq)])) rfl hml.symm (argsL := [v1_]) (rest := [(.ref dq)]) (lenOf pd24_ rfl) rfl own_z (hb hby D38_181) (o4 e26 0 0 0 0)) fun T28 Lc28 _ X28 hQ28 => ?_
   obtain ⟨bx_28, rfl, M28, K28, r28_0⟩ := hQ28
   have N28 := Fr.app N5 M28
   have fc29 := (Pm7.wr W5)
   have q_8 : own_NE dq xa := mN
   have fc30 := (Pm8.other W5 (Or.inl q_8))
   have fc31 := (Pm9.other W5 (Or.inl q_8))
   have fc32 := (Pm10.other W5 (Or.inl q_8))
   have fc33 : Exa Z h5 bx_28 s63_ := r28_0.1.ext O27.2
   have q_9 : own_LE n0 dq := mL
   obtain ⟨cq34, kq34, q34a, q34b, q34c⟩ := isOf hZ K28 fc29
   refine o_k 5 (X28.interfaceBack hx (xi := y53_) (y := y44_) hown (mw hZ hw 367 rfl) (mw hZ hw 368 rfl) (mw hZ hw 369 rfl) (mw hZ hw 370 rfl) (mw hZ hw 371 rfl) (mw hZ hw 372 rfl) (mw hZ hw 373 rfl) (mw hZ hw 374 rfl) (by decide) (bk 0 hZ hw 375 313 (rm_dad1 l Z a0 hw [] dq de kde wa bx_28 h5 n0 O27 fc29 fc30 fc31 fc32 Vd24 (Ins.of_exa fc33 (w_ hw 383 rfl)) q_9 (by simp only [own_asc, and_true]; omega) ovq)) q34a q34b q34c (g := (mkF m 184 #[.val (.ref ds), .val v1_, .val (.int ee)] [(.ref bx_28), (.ref dq)])) rfl hml.symm (Steps.refl _) (argsL := [(.ref bx_28)]) (rest := []) (lenOf pd9_ rfl) rfl own_z (hb hby D38_184) (o4 K28 0 0 0 0)) fun T34 Lc34 _ X34 hQ34 => ?_
   obtain ⟨rfl, M34, K34, g34_0, g34_1, g34_2, g34_3, g34_4⟩ := hQ34
   have N34 := Fr.app N28 M34
   have z34 := K34.1
   have lt_g34_0 := eG g34_0
   have lt_g34_4 := vG g34_4
   refine ob_ (fun _ k => XS.pop X34.here hx rfl (hb hby D38_189) rfl rfl k) ?_
   refine o_il X34 hx hby D38_190 rfl ?_
   have q_10 : xa ∉ [dq, de] := nT (uS q_8) (nT (uS q_7) nin0)
   have fc35 := (Vw5.keep K34 q_10)
   have K36 : Keep h0 T34.heap [xa, dq, de] := (((Keep.refl h0 [xa, dq, de]).wr W5 (Or.inl (List.mem_of_getElem? (i := 0) rfl))).trans K34 (kI 1 rfl (kI 2 rfl all0)))
   exact o_ri Bd X34 hx hby rfl D38_191 ⟨(2 : Int32), [(.ref wa), (.ref bx_28)], rfl, N34, K36, fc35, g34_0, g34_1, g34_2, g34_3, g34_4, (Or.inr ⟨hc8, rfl, _, rfl, r28_0⟩)⟩
 ·
  refine ob_ (fun _ k => XS.ifYes X7.here hx rfl (pc0 := 173) (pc' := 190) rfl (hb hby D38_173) rfl ((if0 _ _).trans (feq hc8).2) (by decide) (by decide) k) ?_
  refine o_il X7 hx hby D38_190 rfl ?_
  have fc37 := (Pm7.wr W5)
  have q_11 : own_NE dq xa := mN
  have fc38 := (Pm8.other W5 (Or.inl q_11))
  have fc39 := (Pm9.other W5 (Or.inl q_11))
  have fc40 := (Pm10.other W5 (Or.inl q_11))
  have q_12 : own_NE de xa := mN
  have fc41 := (Pm11.other W5 q_12)
  have K42 : Keep h0 h5 [xa, dq, de] := ((Keep.refl h0 [xa, dq, de]).wr W5 (Or.inl (List.mem_of_getElem? (i := 0) rfl)))
  exact o_ri Bd X7 hx hby e7 D38_191 ⟨tz, wl, rfl, N5, K42, Vw5, fc37, fc38, fc39, fc40, fc41, (Or.inl ⟨own_b1 hee hc8, rfl, rfl⟩)⟩
def Q_rm_adm11 (Z : State) (ds un xa : Addr) (kxa : ClassId) (ca dq de : Addr) (kde : ClassId) (ee ax : Int32) (ch sp dr dp dce : Addr) (kce : ClassId) (el ele : Addr) (kele : ClassId) (ci : Addr) (cci : Cell) (xp tz : Int32) (wl : List Value) (da db dc dg : Addr) (kda kdb kdc kdg : ClassId) (vda vdb vdc vdg : List Value) (mda mdb mdc mdg : Int32) (h0 : Heap) (n0 : Nat) (v : Option Value) (h : Heap) (L : List Loc) : Prop := ∃ (tq : Int32) (wq : List Value), v = some v1_ ∧ Fr n0 L ∧ Keep h0 h [xa, ch, sp, dr, dp, da, db, dc, dg, dq, de] ∧ Arv Z h xa kxa .boolean (16 : Int32) [(.int xp), (.int ee)] v0_ ∧ Exa Z h dq s57_ ∧ f34_ Z h dq v0_ ∧ f35_ Z h dq (.int tq) ∧ f33_ Z h dq (.ref de) ∧ Arv Z h de kde (.object s7_) (17 : Int32) wq .null ∧ own_w1 Z ee tz wl tq wq
theorem rm_adm11 (l : Launch) (Z : State) (a0 : Array Value) (hw : own_Wd Z a0) (ws : List Jvm.Cond) (ds un xa : Addr) (kxa : ClassId) (ca dq de : Addr) (kde : ClassId) (ee ax : Int32) (ch sp dr dp dce : Addr) (kce : ClassId) (el ele : Addr) (kele : ClassId) (ci : Addr) (cci : Cell) (xp tz : Int32) (wl : List Value) (da db dc dg : Addr) (kda kdb kdc kdg : ClassId) (vda vdb vdc vdg : List Value) (mda mdb mdc mdg : Int32) (h0 : Heap) (n0 : Nat) (O0 : Old Z n0 h0) (S_DCE : Sta Z Z.heap s4_ s8_ s9_ (.ref dce)) (A_DCE : Arv Z Z.heap dce kce (.object s7_) (0 : Int32) [] .null) (E_DCE : Exa Z Z.heap dce s9_) (S_EL : Sta Z Z.heap s25_ "EMPTY_LIST" s26_ (.ref el)) (E_EL : Exa Z Z.heap el s29_) (F_EL : f3_ Z Z.heap el (.ref ele)) (A_EL : Arv Z Z.heap ele kele (.object s7_) (0 : Int32) [] .null) (S_high : Sta Z Z.heap s65_ "high" "I" (.int (127 : Int32))) (S_icache : Sta Z Z.heap s65_ "cache" s66_ (.ref ci)) (Bxi : Bxs Z ci cci s63_ "I" (256 : Int32) (fun j => .int (j - 128))) (Pm0 : Exa Z h0 ds s37_) (Pm1 : f23_ Z h0 ds (.ref un)) (Pm2 : f19_ Z h0 ds (.ref xa)) (Pm3 : f16_ Z h0 ds (.ref ca)) (Pm4 : f24_ Z h0 ds (.ref dq)) (Pm5 : f20_ Z h0 ds v1_) (Pm6 : f14_ Z h0 ds (.int ax)) (Pm7 : f15_ Z h0 ds (.ref ch)) (Pm8 : f22_ Z h0 ds (.ref sp)) (Pm9 : f17_ Z h0 ds (.ref dr)) (Pm10 : f18_ Z h0 ds (.ref dp)) (Pm11 : Arv Z h0 xa kxa .boolean (16 : Int32) [(.int xp)] v0_) (Pm12 : Exa Z h0 ch s4_) (Pm13 : f32_ Z h0 ch v1_) (Pm14 : f36_ Z h0 ch (.int mda)) (Pm15 : f31_ Z h0 ch (.ref da)) (Pm16 : Arv Z h0 da kda (.object s7_) (10 : Int32) vda .null) (Pm17 : Exa Z h0 da s9_) (Pm18 : own_obs Z h0 vda) (Pm19 : Exa Z h0 sp s4_) (Pm20 : f32_ Z h0 sp v1_) (Pm21 : f36_ Z h0 sp (.int mdb)) (Pm22 : f31_ Z h0 sp (.ref db)) (Pm23 : Arv Z h0 db kdb (.object s7_) (10 : Int32) vdb .null) (Pm24 : Exa Z h0 db s9_) (Pm25 : own_obs Z h0 vdb) (Pm26 : Exa Z h0 dr s4_) (Pm27 : f32_ Z h0 dr v1_) (Pm28 : f36_ Z h0 dr (.int mdc)) (Pm29 : f31_ Z h0 dr (.ref dc)) (Pm30 : Arv Z h0 dc kdc (.object s7_) (10 : Int32) vdc .null) (Pm31 : Exa Z h0 dc s9_) (Pm32 : own_obs Z h0 vdc) (Pm33 : Exa Z h0 dp s4_) (Pm34 : f32_ Z h0 dp v1_) (Pm35 : f36_ Z h0 dp (.int mdg)) (Pm36 : f31_ Z h0 dp (.ref dg)) (Pm37 : Arv Z h0 dg kdg (.object s7_) (10 : Int32) vdg .null) (Pm38 : Exa Z h0 dg s9_) (Pm39 : own_obs Z h0 vdg) (Pm40 : Exa Z h0 dq s57_) (Pm41 : f34_ Z h0 dq v0_) (Pm42 : f35_ Z h0 dq (.int tz)) (Pm43 : f33_ Z h0 dq (.ref de)) (Pm44 : Arv Z h0 de kde (.object s7_) (17 : Int32) wl .null) (gt_ds : n0 ≤ ds) (hch : own_asc [ds, xa, ch, sp, dr, dp, dq, de, da, db, dc, dg]) (ovq : Ovr Z kde s7_) (hee : ee = 0 ∨ ee = 1) (hwl : (tz = 0 ∧ wl = []) ∨ (tz = 1 ∧ ∃ wa, wl = [.ref wa])) (ov_da : Ovr Z kda s7_) (ov_db : Ovr Z kdb s7_) (ov_dc : Ovr Z kdc s7_) (ov_dg : Ovr Z kdg s7_) :
  own_M l Z ws y52_ prog_12_method_5_code 3 (some .int) ({ frames := 4, cells := 9, slots := 61, locals := 50 } : Room) #[(.ref ds), v1_, (.int ee)] h0 (Q_rm_adm11 Z ds un xa kxa ca dq de kde ee ax ch sp dr dp dce kce el ele kele ci cci xp tz wl da db dc dg kda kdb kdc kdg vda vdb vdc vdg mda mdb mdc mdg h0 n0) := by
 refine own_open O0 (plainFor_of_name pn20_) (L0 := #[.val (.ref ds), .val v1_, .val (.int ee)]) ?_
 intro p e s m below meth c s₁ Bd hx hby hml hZ hh hown hnm X0 e0 N0 Z0
 have hq_hch := hch
 simp only [own_asc] at hq_hch
 have lt_Pm0 := eG Pm0
 have lt_Pm11 := vG Pm11
 have lt_Pm12 := eG Pm12
 have lt_Pm16 := vG Pm16
 have lt_Pm19 := eG Pm19
 have lt_Pm23 := vG Pm23
 have lt_Pm26 := eG Pm26
 have lt_Pm30 := vG Pm30
 have lt_Pm33 := eG Pm33
 have lt_Pm37 := vG Pm37
 have lt_Pm40 := eG Pm40
 have lt_Pm44 := vG Pm44
 refine o_il X0 hx hby D38_0 rfl ?_
 refine o_al X0 hx hby D38_1 rfl rfl ?_
 refine o_gf X0 hx hby hZ hown hw 295 rfl Via.refl e0 Pm2 D38_2 fun T1 X1 e1 => ?_
 obtain ⟨cl2, Ar2, q2, S2, M2, H2, G2⟩ := (id Pm11)
 refine ob_ (X1.arraylength hx (by rw [e1]; exact Ar2.1) (State.isArrayOf_alike hZ.alike Ar2.2.1) (g := (mkF m 5 #[.val (.ref ds), .val v1_, .val (.int ee)] [(.ref xa), v1_])) rfl rfl (hb hby D38_5)) ?_
 rw [len_of S2 M2]
 refine ob_ (fun _ k => XS.icmpYes X1.here hx rfl (pc0 := 6) (pc' := 51) rfl (hb hby D38_6) rfl (feq (by decide : ¬ ((1 : Int32) = (16 : Int32)))).2 (by decide) (by decide) k) ?_
 refine o_al X1 hx hby D38_51 rfl rfl ?_
 refine o_gf X1 hx hby hZ hown hw 295 rfl Via.refl e1 Pm2 D38_52 fun T3 X3 e3 => ?_
 refine o_il X3 hx hby D38_55 rfl ?_
 refine o_il X3 hx hby D38_56 rfl ?_
 have Vw4 : Arv Z h0 xa kxa .boolean (16 : Int32) [(.int xp), v0_] v0_ := Pm11.pad (pad_rep [(.int xp)] v0_ 1)
 obtain ⟨cl5, Ar5, q5, S5, M5, H5, G5⟩ := (id Vw4)
 have hin5 : ¬ ((1 : Int32) < 0 ∨ cl5.slots.size ≤ ((1 : Int32)).toNatClampNeg) := inb_of S5 ⟨by decide, by decide⟩
 obtain ⟨T5, h5, X5, e5, W5, st5⟩ := stZ X3 hx hZ e3 Ar5 (j := (1 : Int32)) hin5 (g := (mkF m 57 #[.val (.ref ds), .val v1_, .val (.int ee)] [(.int ee), v1_, (.ref xa)])) rfl rfl (hb hby D38_57)
 refine ob_ st5 ?_
 rw [own_nar_b hee] at W5
 have z5 := W5.size
 have q_1 : own_LE n0 xa := mL
 have N5 := Fr.snoc X5 N0 q_1
 have Vw5 : Arv Z h5 xa kxa .boolean (16 : Int32) [(.int xp), (.int ee)] v0_ := Arv.set Ar5 q5 S5 M5 H5 G5 (own_fits_b hee) W5 1 rfl (Nat.le_of_ble_eq_true rfl)
 refine o_al X5 hx hby D38_58 rfl rfl ?_
 have q_2 : own_NE ds xa := mN
 have fc6 := (Pm5.other W5 (Or.inl q_2))
 refine o_gf X5 hx hby hZ hown hw 324 rfl Via.refl e5 fc6 D38_59 fun T7 X7 e7 => ?_
 have jn8 : ∀ (Tj8 : State) (Hj8 : Heap), (∃ lc, Stand p l e ({ frames := 4, cells := 9, slots := 61, locals := 50 } : Room) s m #[(.ref ds), v1_, (.int ee)] below meth c Tj8 lc 9 61 ∧ Fr n0 lc) → Tj8.heap = Hj8 → (Keep h0 Hj8 [xa, ch, sp, dr, dp, da, db, dc, dg]) → (Arv Z Hj8 xa kxa .boolean (16 : Int32) [(.int xp), (.int ee)] v0_) → (Exa Z Hj8 ds s37_) → (f24_ Z Hj8 ds (.ref dq)) → (Exa Z Hj8 dq s57_) → (f34_ Z Hj8 dq v0_) → (f35_ Z Hj8 dq (.int tz)) → (f33_ Z Hj8 dq (.ref de)) → (Arv Z Hj8 de kde (.object s7_) (17 : Int32) wl .null) → own_Go p e below (Tj8.setTop (mkF m 172 #[.val (.ref ds), .val v1_, .val (.int ee)] [])) (own_R s ({ frames := 4, cells := 9, slots := 61, locals := 50 } : Room) (Q_rm_adm11 Z ds un xa kxa ca dq de kde ee ax ch sp dr dp dce kce el ele kele ci cci xp tz wl da db dc dg kda kdb kdc kdg vda vdb vdc vdg mda mdb mdc mdg h0 n0)) := by
  rintro Tj8 Hj8 ⟨lc8, Xj8, Nj8⟩ ej8 Kj8 fj8_0 fj8_1 fj8_2 fj8_3 fj8_4 fj8_5 fj8_6 fj8_7
  have zj8 := Kj8.1
  have lt_fj8_0 := vG fj8_0
  have lt_fj8_1 := eG fj8_1
  have lt_fj8_3 := eG fj8_3
  have lt_fj8_7 := vG fj8_7
  refine o_il Xj8 hx hby D38_172 rfl ?_
  by_cases hc9 : ee = (0 : Int32)
  ·
   refine ob_ (fun _ k => XS.ifNo Xj8.here hx rfl (hb hby D38_173) rfl ((if0 _ _).trans (teq hc9).2) k) ?_
   rcases hwl with ⟨rfl, rfl⟩ | ⟨rfl, wa, rfl⟩
   ·
    have Vd10 : Arv Z Hj8 de kde (.object s7_) (17 : Int32) [] .null := fj8_7
    refine o_al Xj8 hx hby D38_176 rfl rfl ?_
    refine o_gf Xj8 hx hby hZ hown hw 322 rfl Via.refl ej8 fj8_2 D38_177 fun T11 X11 e11 => ?_
    refine o_il X11 hx hby D38_180 rfl ?_
    have q_3 : own_LE n0 dg := mL
    have q_4 : own_LE n0 dc := mL
    have q_5 : own_LE n0 db := mL
    have q_6 : own_LE n0 da := mL
    have q_7 : own_LE n0 dp := mL
    have q_8 : own_LE n0 dr := mL
    have q_9 : own_LE n0 sp := mL
    have q_10 : own_LE n0 ch := mL
    have O12 : Old Z n0 Hj8 := (O0.keep Kj8 (allS q_1 (allS q_10 (allS q_9 (allS q_8 (allS q_7 (allS q_6 (allS q_5 (allS q_4 (allS q_3 all0))))))))))
    refine o_ks 3 (Jvm.LawKit.callS X11 hx (y := y40_) hown (mw hZ hw 360 rfl) (mw hZ hw 361 rfl) (mw hZ hw 362 rfl) (mw hZ hw 363 rfl) (by decide) (bk 1 hZ hw 363 362 (rm_iv1 l Z a0 hw [] ci cci Hj8 n0 O12 S_high S_icache Bxi)) (g := (mkF m 181 #[.val (.ref ds), .val v1_, .val (.int ee)] [v1_, (.ref dq)])) rfl hml.symm (argsL := [v1_]) (rest := [(.ref dq)]) (lenOf pd24_ rfl) rfl own_z (hb hby D38_181) (o4 e11 9 0 61 0)) fun T13 Lc13 _ X13 hQ13 => ?_
    obtain ⟨bx_13, rfl, M13, K13, r13_0⟩ := hQ13
    have N13 := Fr.app Nj8 M13
    have fc14 : Exa Z Hj8 bx_13 s63_ := r13_0.1.ext O12.2
    have q_11 : own_LE n0 dq := mL
    obtain ⟨cq15, kq15, q15a, q15b, q15c⟩ := isOf hZ K13 fj8_3
    refine o_k 5 (X13.interfaceBack hx (xi := y53_) (y := y44_) hown (mw hZ hw 367 rfl) (mw hZ hw 368 rfl) (mw hZ hw 369 rfl) (mw hZ hw 370 rfl) (mw hZ hw 371 rfl) (mw hZ hw 372 rfl) (mw hZ hw 373 rfl) (mw hZ hw 374 rfl) (by decide) (bk 0 hZ hw 375 313 (rm_dad0 l Z a0 hw [] dq de kde bx_13 Hj8 n0 O12 fj8_3 fj8_4 fj8_5 fj8_6 Vd10 (Ins.of_exa fc14 (w_ hw 383 rfl)) q_11 (by simp only [own_asc, and_true]; omega) ovq)) q15a q15b q15c (g := (mkF m 184 #[.val (.ref ds), .val v1_, .val (.int ee)] [(.ref bx_13), (.ref dq)])) rfl hml.symm (Steps.refl _) (argsL := [(.ref bx_13)]) (rest := []) (lenOf pd9_ rfl) rfl own_z (hb hby D38_184) (o4 K13 9 0 61 0)) fun T15 Lc15 _ X15 hQ15 => ?_
    obtain ⟨rfl, M15, K15, g15_0, g15_1, g15_2, g15_3, g15_4⟩ := hQ15
    have N15 := Fr.app N13 M15
    have z15 := K15.1
    have lt_g15_0 := eG g15_0
    have lt_g15_4 := vG g15_4
    refine ob_ (fun _ k => XS.pop X15.here hx rfl (hb hby D38_189) rfl rfl k) ?_
    refine o_il X15 hx hby D38_190 rfl ?_
    have q_12 : own_NE de xa := mN
    have q_13 : own_NE dq xa := mN
    have q_14 : xa ∉ [dq, de] := nT (uS q_13) (nT (uS q_12) nin0)
    have fc16 := (fj8_0.keep K15 q_14)
    have K17 : Keep h0 T15.heap [xa, ch, sp, dr, dp, da, db, dc, dg, dq, de] := (((Keep.refl h0 [xa, ch, sp, dr, dp, da, db, dc, dg, dq, de]).trans Kj8 (kI 0 rfl (kI 1 rfl (kI 2 rfl (kI 3 rfl (kI 4 rfl (kI 5 rfl (kI 6 rfl (kI 7 rfl (kI 8 rfl all0)))))))))).trans K15 (kI 9 rfl (kI 10 rfl all0)))
    exact o_ri Bd X15 hx hby rfl D38_191 ⟨(1 : Int32), [(.ref bx_13)], rfl, N15, K17, fc16, g15_0, g15_1, g15_2, g15_3, g15_4, (Or.inr ⟨hc9, rfl, _, rfl, r13_0⟩)⟩
   ·
    have Vd18 : Arv Z Hj8 de kde (.object s7_) (17 : Int32) [(.ref wa)] .null := fj8_7
    refine o_al Xj8 hx hby D38_176 rfl rfl ?_
    refine o_gf Xj8 hx hby hZ hown hw 322 rfl Via.refl ej8 fj8_2 D38_177 fun T19 X19 e19 => ?_
    refine o_il X19 hx hby D38_180 rfl ?_
    have q_15 : own_LE n0 dg := mL
    have q_16 : own_LE n0 dc := mL
    have q_17 : own_LE n0 db := mL
    have q_18 : own_LE n0 da := mL
    have q_19 : own_LE n0 dp := mL
    have q_20 : own_LE n0 dr := mL
    have q_21 : own_LE n0 sp := mL
    have q_22 : own_LE n0 ch := mL
    have O20 : Old Z n0 Hj8 := (O0.keep Kj8 (allS q_1 (allS q_22 (allS q_21 (allS q_20 (allS q_19 (allS q_18 (allS q_17 (allS q_16 (allS q_15 all0))))))))))
    refine o_ks 3 (Jvm.LawKit.callS X19 hx (y := y40_) hown (mw hZ hw 360 rfl) (mw hZ hw 361 rfl) (mw hZ hw 362 rfl) (mw hZ hw 363 rfl) (by decide) (bk 1 hZ hw 363 362 (rm_iv1 l Z a0 hw [] ci cci Hj8 n0 O20 S_high S_icache Bxi)) (g := (mkF m 181 #[.val (.ref ds), .val v1_, .val (.int ee)] [v1_, (.ref dq)])) rfl hml.symm (argsL := [v1_]) (rest := [(.ref dq)]) (lenOf pd24_ rfl) rfl own_z (hb hby D38_181) (o4 e19 9 0 61 0)) fun T21 Lc21 _ X21 hQ21 => ?_
    obtain ⟨bx_21, rfl, M21, K21, r21_0⟩ := hQ21
    have N21 := Fr.app Nj8 M21
    have fc22 : Exa Z Hj8 bx_21 s63_ := r21_0.1.ext O20.2
    have q_23 : own_LE n0 dq := mL
    obtain ⟨cq23, kq23, q23a, q23b, q23c⟩ := isOf hZ K21 fj8_3
    refine o_k 5 (X21.interfaceBack hx (xi := y53_) (y := y44_) hown (mw hZ hw 367 rfl) (mw hZ hw 368 rfl) (mw hZ hw 369 rfl) (mw hZ hw 370 rfl) (mw hZ hw 371 rfl) (mw hZ hw 372 rfl) (mw hZ hw 373 rfl) (mw hZ hw 374 rfl) (by decide) (bk 0 hZ hw 375 313 (rm_dad1 l Z a0 hw [] dq de kde wa bx_21 Hj8 n0 O20 fj8_3 fj8_4 fj8_5 fj8_6 Vd18 (Ins.of_exa fc22 (w_ hw 383 rfl)) q_23 (by simp only [own_asc, and_true]; omega) ovq)) q23a q23b q23c (g := (mkF m 184 #[.val (.ref ds), .val v1_, .val (.int ee)] [(.ref bx_21), (.ref dq)])) rfl hml.symm (Steps.refl _) (argsL := [(.ref bx_21)]) (rest := []) (lenOf pd9_ rfl) rfl own_z (hb hby D38_184) (o4 K21 9 0 61 0)) fun T23 Lc23 _ X23 hQ23 => ?_
    obtain ⟨rfl, M23, K23, g23_0, g23_1, g23_2, g23_3, g23_4⟩ := hQ23
    have N23 := Fr.app N21 M23
    have z23 := K23.1
    have lt_g23_0 := eG g23_0
    have lt_g23_4 := vG g23_4
    refine ob_ (fun _ k => XS.pop X23.here hx rfl (hb hby D38_189) rfl rfl k) ?_
    refine o_il X23 hx hby D38_190 rfl ?_
    have q_24 : own_NE de xa := mN
    have q_25 : own_NE dq xa := mN
    have q_26 : xa ∉ [dq, de] := nT (uS q_25) (nT (uS q_24) nin0)
    have fc24 := (fj8_0.keep K23 q_26)
    have K25 : Keep h0 T23.heap [xa, ch, sp, dr, dp, da, db, dc, dg, dq, de] := (((Keep.refl h0 [xa, ch, sp, dr, dp, da, db, dc, dg, dq, de]).trans Kj8 (kI 0 rfl (kI 1 rfl (kI 2 rfl (kI 3 rfl (kI 4 rfl (kI 5 rfl (kI 6 rfl (kI 7 rfl (kI 8 rfl all0)))))))))).trans K23 (kI 9 rfl (kI 10 rfl all0)))
    exact o_ri Bd X23 hx hby rfl D38_191 ⟨(2 : Int32), [(.ref wa), (.ref bx_21)], rfl, N23, K25, fc24, g23_0, g23_1, g23_2, g23_3, g23_4, (Or.inr ⟨hc9, rfl, _, rfl, r21_0⟩)⟩
  ·
   refine ob_ (fun _ k => XS.ifYes Xj8.here hx rfl (pc0 := 173) (pc' := 190) rfl (hb hby D38_173) rfl ((if0 _ _).trans (feq hc9).2) (by decide) (by decide) k) ?_
   refine o_il Xj8 hx hby D38_190 rfl ?_
   have K26 : Keep h0 Hj8 [xa, ch, sp, dr, dp, da, db, dc, dg, dq, de] := ((Keep.refl h0 [xa, ch, sp, dr, dp, da, db, dc, dg, dq, de]).trans Kj8 (kI 0 rfl (kI 1 rfl (kI 2 rfl (kI 3 rfl (kI 4 rfl (kI 5 rfl (kI 6 rfl (kI 7 rfl (kI 8 rfl all0))))))))))
   exact o_ri Bd Xj8 hx hby ej8 D38_191 ⟨tz, wl, rfl, Nj8, K26, fj8_0, fj8_3, fj8_4, fj8_5, fj8_6, fj8_7, (Or.inl ⟨own_b1 hee hc9, rfl, rfl⟩)⟩
 refine ob_ (fun _ k => XS.ifNo X7.here hx rfl (hb hby D38_62) rfl ((if0 _ _).trans (feq (by decide : ¬ ((1 : Int32) = (0 : Int32)))).1) k) ?_
 refine o_al X7 hx hby D38_65 rfl rfl ?_
 have fc27 := (Pm7.other W5 (Or.inl q_2))
 refine o_gf X7 hx hby hZ hown hw 303 rfl Via.refl e7 fc27 D38_66 fun T28 X28 e28 => ?_
 obtain ⟨T29, h29, X29, e29, E29, A29, D29, U29, st29⟩ := newO X28 hx hZ hown (w_ hw 301 rfl) (w_ hw 13 rfl) (w_ hw 14 rfl) e28 (g := (mkF m 69 #[.val (.ref ds), .val v1_, .val (.int ee)] [(.ref ch)])) rfl (hb hby D38_69) (by decide) (by decide)
 obtain ⟨ob29, g29⟩ : ∃ z, z = h5.size := ⟨_, rfl⟩
 rw [← g29] at A29 D29 U29 st29
 refine ob_ st29 ?_
 have z29 := E29.1
 have lt29 : h29.size > ob29 := A29.lt
 refine ob_ (fun _ k => XS.dup X29.here hx rfl (hb hby D38_72) rfl rfl k) ?_
 have q_27 : own_LE n0 ob29 := mL
 have O30 : Old Z n0 h29 := ((O0.wr W5 q_1).ext E29)
 refine o_k 3 (X29.specialBack hx (y := y3_) rfl hown (mw hZ hw 302 rfl) (mw hZ hw 16 rfl) (mw hZ hw 17 rfl) (by decide) (bk 2 hZ hw 17 14 (rm_ai l Z a0 hw [] ob29 dce kce h29 n0 O30 S_DCE A_DCE E_DCE A29 (show f32_ Z h29 ob29 v0_ from D29 (Or.inl (w_ hw 73 rfl)) (ty := .int) (by decide)) (show f36_ Z h29 ob29 v0_ from D29 (Or.inl (w_ hw 34 rfl)) (ty := .int) (by decide)) (show f31_ Z h29 ob29 .null from D29 (Or.inl (w_ hw 37 rfl)) (ty := (.array (.object s7_))) (by decide)) q_27)) (g := (mkF m 73 #[.val (.ref ds), .val v1_, .val (.int ee)] [(.ref ob29), (.ref ob29), (.ref ch)])) rfl hml.symm (Steps.refl _) (a := ob29) (argsL := []) (rest := [(.ref ob29), (.ref ch)]) (lenOf pd1_ rfl) rfl own_z (hb hby D38_73) (o4 e29 1 0 3 0)) fun T31 Lc31 _ X31 hQ31 => ?_
 obtain ⟨rfl, M31, K31, g31_0, g31_1, g31_2, g31_3⟩ := hQ31
 have N31 := Fr.app N5 M31
 have z31 := K31.1
 have lt_g31_0 := eG g31_0
 have fc32 := (((Pm12.wr W5).ext E29).keep K31)
 have q_28 : own_NE ch xa := mN
 have q_29 : own_NE ch ob29 := mN
 have fc33 := (((Pm13.other W5 (Or.inl q_28)).ext E29).keep K31 (nT q_29 nin0))
 have fc34 := (((Pm14.other W5 (Or.inl q_28)).ext E29).keep K31 (nT q_29 nin0))
 have fc35 := (((Pm15.other W5 (Or.inl q_28)).ext E29).keep K31 (nT q_29 nin0))
 have q_30 : own_NE da xa := mN
 have q_31 : own_NE da ob29 := mN
 have fc36 := (((Pm16.other W5 q_30).ext E29).keep K31 (nT q_31 nin0))
 have fc37 := (((Pm17.wr W5).ext E29).keep K31)
 have fc38 := (((Pm18.wr W5).ext E29).keep K31)
 have q_32 : own_LE n0 ch := mL
 have q_33 : own_LE n0 da := mL
 have O39 : Old Z n0 T31.heap := (O30.keep K31 (allS q_27 all0))
 obtain ⟨cq40, kq40, q40a, q40b, q40c⟩ := isOf hZ rfl fc32
 refine o_k 5 (X31.interfaceBack hx (xi := y17_) (y := y15_) hown (mw hZ hw 452 rfl) (mw hZ hw 233 rfl) (mw hZ hw 234 rfl) (mw hZ hw 235 rfl) (mw hZ hw 236 rfl) (mw hZ hw 237 rfl) (mw hZ hw 238 rfl) (mw hZ hw 70 rfl) (by decide) (bk 0 hZ hw 239 14 (rm_addR l Z a0 hw [] ch (1 : Int32) mda da kda (10 : Int32) vda ob29 T31.heap n0 O39 fc32 fc33 fc34 fc35 fc36 fc37 fc38 (Ins.of_exa g31_0 (w_ hw 262 rfl)) q_32 q_33 ov_da (by decide) (by decide) (by decide) (by first | assumption | omega | decide))) q40a q40b q40c (g := (mkF m 76 #[.val (.ref ds), .val v1_, .val (.int ee)] [(.ref ob29), (.ref ch)])) rfl hml.symm (Steps.refl _) (argsL := [(.ref ob29)]) (rest := []) (lenOf pd9_ rfl) rfl own_z (hb hby D38_76) (o4 rfl 1 0 3 0)) fun T40 Lc40 _ X40 hQ40 => ?_
 obtain ⟨vz_40, rfl, M40, K40, g40_0, g40_1, g40_2, g40_3, g40_4, g40_5, g40_6⟩ := hQ40
 have N40 := Fr.app N31 M40
 have z40 := K40.1
 have lt_g40_0 := eG g40_0
 have lt_g40_4 := vG g40_4
 refine ob_ (fun _ k => XS.pop X40.here hx rfl (hb hby D38_81) rfl rfl k) ?_
 refine o_al X40 hx hby D38_82 rfl rfl ?_
 have q_34 : own_NE ds ob29 := mN
 have q_35 : own_NE da ds := mN
 have q_36 : own_NE ch ds := mN
 have q_37 : ds ∉ [ch, da] := nT (uS q_36) (nT (uS q_35) nin0)
 have fc41 := ((((Pm8.other W5 (Or.inl q_2)).ext E29).keep K31 (nT q_34 nin0)).keep K40 q_37)
 refine o_gf X40 hx hby hZ hown hw 305 rfl Via.refl rfl fc41 D38_83 fun T42 X42 e42 => ?_
 refine o_al X42 hx hby D38_86 rfl rfl ?_
 have fc43 := ((((Pm6.other W5 (Or.inl q_2)).ext E29).keep K31 (nT q_34 nin0)).keep K40 q_37)
 refine o_gf X42 hx hby hZ hown hw 326 rfl Via.refl e42 fc43 D38_87 fun T44 X44 e44 => ?_
 by_cases hc45 : ax = (0 : Int32)
 ·
  refine ob_ (fun _ k => XS.ifYes X44.here hx rfl (pc0 := 90) (pc' := 103) rfl (hb hby D38_90) rfl ((if0 _ _).trans (teq hc45).1) (by decide) (by decide) k) ?_
  have O46 : Old Z n0 T40.heap := (O39.keep K40 (allS q_32 (allS q_33 all0)))
  refine o_ks 3 (Jvm.LawKit.callS X44 hx (y := y51_) hown (mw hZ hw 453 rfl) (mw hZ hw 454 rfl) (mw hZ hw 114 rfl) (mw hZ hw 455 rfl) (by decide) (bk 1 hZ hw 455 114 (rm_lo0 l Z a0 hw [] el ele kele T40.heap n0 O46 S_EL E_EL F_EL A_EL)) (g := (mkF m 103 #[.val (.ref ds), .val v1_, .val (.int ee)] [(.ref sp)])) rfl hml.symm (argsL := []) (rest := [(.ref sp)]) (lenOf pd25_ rfl) rfl own_z (hb hby D38_103) (o4 e44 1 0 3 0)) fun T47 Lc47 _ X47 hQ47 => ?_
  obtain ⟨rfl, M47, K47⟩ := hQ47
  have N47 := Fr.app N40 M47
  have fc48 := ((((Pm19.wr W5).ext E29).keep K31).keep K40)
  have q_38 : own_NE sp xa := mN
  have q_39 : own_NE ob29 sp := mN
  have q_40 : own_NE da sp := mN
  have q_41 : own_NE ch sp := mN
  have q_42 : sp ∉ [ch, da] := nT (uS q_41) (nT (uS q_40) nin0)
  have fc49 := ((((Pm20.other W5 (Or.inl q_38)).ext E29).keep K31 (nT (uS q_39) nin0)).keep K40 q_42)
  have fc50 := ((((Pm21.other W5 (Or.inl q_38)).ext E29).keep K31 (nT (uS q_39) nin0)).keep K40 q_42)
  have fc51 := ((((Pm22.other W5 (Or.inl q_38)).ext E29).keep K31 (nT (uS q_39) nin0)).keep K40 q_42)
  have q_43 : own_NE db xa := mN
  have q_44 : own_NE db ob29 := mN
  have q_45 : own_NE da db := mN
  have q_46 : own_NE ch db := mN
  have q_47 : db ∉ [ch, da] := nT (uS q_46) (nT (uS q_45) nin0)
  have fc52 := ((((Pm23.other W5 q_43).ext E29).keep K31 (nT q_44 nin0)).keep K40 q_47)
  have fc53 := ((((Pm24.wr W5).ext E29).keep K31).keep K40)
  have fc54 := ((((Pm25.wr W5).ext E29).keep K31).keep K40)
  have fc55 : Exa Z T40.heap el s29_ := E_EL.ext O46.2
  have q_48 : own_LE n0 sp := mL
  have q_49 : own_LE n0 db := mL
  obtain ⟨cq56, kq56, q56a, q56b, q56c⟩ := isOf hZ K47 fc48
  refine o_k 5 (X47.interfaceBack hx (xi := y17_) (y := y15_) hown (mw hZ hw 452 rfl) (mw hZ hw 233 rfl) (mw hZ hw 234 rfl) (mw hZ hw 235 rfl) (mw hZ hw 236 rfl) (mw hZ hw 237 rfl) (mw hZ hw 238 rfl) (mw hZ hw 70 rfl) (by decide) (bk 0 hZ hw 239 14 (rm_addR l Z a0 hw [] sp (1 : Int32) mdb db kdb (10 : Int32) vdb el T40.heap n0 O46 fc48 fc49 fc50 fc51 fc52 fc53 fc54 (Ins.of_exa fc55 (w_ hw 456 rfl)) q_48 q_49 ov_db (by decide) (by decide) (by decide) (by first | assumption | omega | decide))) q56a q56b q56c (g := (mkF m 106 #[.val (.ref ds), .val v1_, .val (.int ee)] [(.ref el), (.ref sp)])) rfl hml.symm (Steps.refl _) (argsL := [(.ref el)]) (rest := []) (lenOf pd9_ rfl) rfl own_z (hb hby D38_106) (o4 K47 1 0 3 0)) fun T56 Lc56 _ X56 hQ56 => ?_
  obtain ⟨vz_56, rfl, M56, K56, g56_0, g56_1, g56_2, g56_3, g56_4, g56_5, g56_6⟩ := hQ56
  have N56 := Fr.app N47 M56
  have z56 := K56.1
  have lt_g56_0 := eG g56_0
  have lt_g56_4 := vG g56_4
  refine ob_ (fun _ k => XS.pop X56.here hx rfl (hb hby D38_111) rfl rfl k) ?_
  refine o_al X56 hx hby D38_112 rfl rfl ?_
  have q_50 : own_NE db ds := mN
  have q_51 : own_NE ds sp := mN
  have q_52 : ds ∉ [sp, db] := nT q_51 (nT (uS q_50) nin0)
  have fc57 := (((((Pm9.other W5 (Or.inl q_2)).ext E29).keep K31 (nT q_34 nin0)).keep K40 q_37).keep K56 q_52)
  refine o_gf X56 hx hby hZ hown hw 307 rfl Via.refl rfl fc57 D38_113 fun T58 X58 e58 => ?_
  show own_Go p e below (T58.setTop (mkF m 116 #[.val (.ref ds), .val v1_, .val (.int ee)] [(.ref dr)])) _
  refine o_al X58 hx hby D38_116 rfl rfl ?_
  have fc59 := (fc43.keep K56 q_52)
  refine o_gf X58 hx hby hZ hown hw 326 rfl Via.refl e58 fc59 D38_117 fun T60 X60 e60 => ?_
  refine ob_ (fun _ k => XS.ifYes X60.here hx rfl (pc0 := 120) (pc' := 133) rfl (hb hby D38_120) rfl ((if0 _ _).trans (teq hc45).1) (by decide) (by decide) k) ?_
  have O61 : Old Z n0 T56.heap := (O46.keep K56 (allS q_48 (allS q_49 all0)))
  refine o_ks 3 (Jvm.LawKit.callS X60 hx (y := y51_) hown (mw hZ hw 453 rfl) (mw hZ hw 454 rfl) (mw hZ hw 114 rfl) (mw hZ hw 455 rfl) (by decide) (bk 1 hZ hw 455 114 (rm_lo0 l Z a0 hw [] el ele kele T56.heap n0 O61 S_EL E_EL F_EL A_EL)) (g := (mkF m 133 #[.val (.ref ds), .val v1_, .val (.int ee)] [(.ref dr)])) rfl hml.symm (argsL := []) (rest := [(.ref dr)]) (lenOf pd25_ rfl) rfl own_z (hb hby D38_133) (o4 e60 1 0 3 0)) fun T62 Lc62 _ X62 hQ62 => ?_
  obtain ⟨rfl, M62, K62⟩ := hQ62
  have N62 := Fr.app N56 M62
  have fc63 := (((((Pm26.wr W5).ext E29).keep K31).keep K40).keep K56)
  have q_53 : own_NE dr xa := mN
  have q_54 : own_NE dr ob29 := mN
  have q_55 : own_NE da dr := mN
  have q_56 : own_NE ch dr := mN
  have q_57 : dr ∉ [ch, da] := nT (uS q_56) (nT (uS q_55) nin0)
  have q_58 : own_NE db dr := mN
  have q_59 : own_NE dr sp := mN
  have q_60 : dr ∉ [sp, db] := nT q_59 (nT (uS q_58) nin0)
  have fc64 := (((((Pm27.other W5 (Or.inl q_53)).ext E29).keep K31 (nT q_54 nin0)).keep K40 q_57).keep K56 q_60)
  have fc65 := (((((Pm28.other W5 (Or.inl q_53)).ext E29).keep K31 (nT q_54 nin0)).keep K40 q_57).keep K56 q_60)
  have fc66 := (((((Pm29.other W5 (Or.inl q_53)).ext E29).keep K31 (nT q_54 nin0)).keep K40 q_57).keep K56 q_60)
  have q_61 : own_NE dc xa := mN
  have q_62 : own_NE dc ob29 := mN
  have q_63 : own_NE da dc := mN
  have q_64 : own_NE ch dc := mN
  have q_65 : dc ∉ [ch, da] := nT (uS q_64) (nT (uS q_63) nin0)
  have q_66 : own_NE db dc := mN
  have q_67 : own_NE dc sp := mN
  have q_68 : dc ∉ [sp, db] := nT q_67 (nT (uS q_66) nin0)
  have fc67 := (((((Pm30.other W5 q_61).ext E29).keep K31 (nT q_62 nin0)).keep K40 q_65).keep K56 q_68)
  have fc68 := (((((Pm31.wr W5).ext E29).keep K31).keep K40).keep K56)
  have fc69 := (((((Pm32.wr W5).ext E29).keep K31).keep K40).keep K56)
  have fc70 : Exa Z T56.heap el s29_ := E_EL.ext O61.2
  have q_69 : own_LE n0 dr := mL
  have q_70 : own_LE n0 dc := mL
  obtain ⟨cq71, kq71, q71a, q71b, q71c⟩ := isOf hZ K62 fc63
  refine o_k 5 (X62.interfaceBack hx (xi := y17_) (y := y15_) hown (mw hZ hw 452 rfl) (mw hZ hw 233 rfl) (mw hZ hw 234 rfl) (mw hZ hw 235 rfl) (mw hZ hw 236 rfl) (mw hZ hw 237 rfl) (mw hZ hw 238 rfl) (mw hZ hw 70 rfl) (by decide) (bk 0 hZ hw 239 14 (rm_addR l Z a0 hw [] dr (1 : Int32) mdc dc kdc (10 : Int32) vdc el T56.heap n0 O61 fc63 fc64 fc65 fc66 fc67 fc68 fc69 (Ins.of_exa fc70 (w_ hw 456 rfl)) q_69 q_70 ov_dc (by decide) (by decide) (by decide) (by first | assumption | omega | decide))) q71a q71b q71c (g := (mkF m 136 #[.val (.ref ds), .val v1_, .val (.int ee)] [(.ref el), (.ref dr)])) rfl hml.symm (Steps.refl _) (argsL := [(.ref el)]) (rest := []) (lenOf pd9_ rfl) rfl own_z (hb hby D38_136) (o4 K62 1 0 3 0)) fun T71 Lc71 _ X71 hQ71 => ?_
  obtain ⟨vz_71, rfl, M71, K71, g71_0, g71_1, g71_2, g71_3, g71_4, g71_5, g71_6⟩ := hQ71
  have N71 := Fr.app N62 M71
  have z71 := K71.1
  have lt_g71_0 := eG g71_0
  have lt_g71_4 := vG g71_4
  refine ob_ (fun _ k => XS.pop X71.here hx rfl (hb hby D38_141) rfl rfl k) ?_
  refine o_al X71 hx hby D38_142 rfl rfl ?_
  have q_71 : own_NE dc ds := mN
  have q_72 : own_NE dr ds := mN
  have q_73 : ds ∉ [dr, dc] := nT (uS q_72) (nT (uS q_71) nin0)
  have fc72 := ((((((Pm10.other W5 (Or.inl q_2)).ext E29).keep K31 (nT q_34 nin0)).keep K40 q_37).keep K56 q_52).keep K71 q_73)
  refine o_gf X71 hx hby hZ hown hw 309 rfl Via.refl rfl fc72 D38_143 fun T73 X73 e73 => ?_
  refine o_al X73 hx hby D38_146 rfl rfl ?_
  have fc74 := (fc59.keep K71 q_73)
  refine o_gf X73 hx hby hZ hown hw 326 rfl Via.refl e73 fc74 D38_147 fun T75 X75 e75 => ?_
  refine ob_ (fun _ k => XS.ifYes X75.here hx rfl (pc0 := 150) (pc' := 163) rfl (hb hby D38_150) rfl ((if0 _ _).trans (teq hc45).1) (by decide) (by decide) k) ?_
  have O76 : Old Z n0 T71.heap := (O61.keep K71 (allS q_69 (allS q_70 all0)))
  refine o_ks 3 (Jvm.LawKit.callS X75 hx (y := y51_) hown (mw hZ hw 453 rfl) (mw hZ hw 454 rfl) (mw hZ hw 114 rfl) (mw hZ hw 455 rfl) (by decide) (bk 1 hZ hw 455 114 (rm_lo0 l Z a0 hw [] el ele kele T71.heap n0 O76 S_EL E_EL F_EL A_EL)) (g := (mkF m 163 #[.val (.ref ds), .val v1_, .val (.int ee)] [(.ref dp)])) rfl hml.symm (argsL := []) (rest := [(.ref dp)]) (lenOf pd25_ rfl) rfl own_z (hb hby D38_163) (o4 e75 1 0 3 0)) fun T77 Lc77 _ X77 hQ77 => ?_
  obtain ⟨rfl, M77, K77⟩ := hQ77
  have N77 := Fr.app N71 M77
  have fc78 := ((((((Pm33.wr W5).ext E29).keep K31).keep K40).keep K56).keep K71)
  have q_74 : own_NE dp xa := mN
  have q_75 : own_NE dp ob29 := mN
  have q_76 : own_NE da dp := mN
  have q_77 : own_NE ch dp := mN
  have q_78 : dp ∉ [ch, da] := nT (uS q_77) (nT (uS q_76) nin0)
  have q_79 : own_NE db dp := mN
  have q_80 : own_NE dp sp := mN
  have q_81 : dp ∉ [sp, db] := nT q_80 (nT (uS q_79) nin0)
  have q_82 : own_NE dc dp := mN
  have q_83 : own_NE dp dr := mN
  have q_84 : dp ∉ [dr, dc] := nT q_83 (nT (uS q_82) nin0)
  have fc79 := ((((((Pm34.other W5 (Or.inl q_74)).ext E29).keep K31 (nT q_75 nin0)).keep K40 q_78).keep K56 q_81).keep K71 q_84)
  have fc80 := ((((((Pm35.other W5 (Or.inl q_74)).ext E29).keep K31 (nT q_75 nin0)).keep K40 q_78).keep K56 q_81).keep K71 q_84)
  have fc81 := ((((((Pm36.other W5 (Or.inl q_74)).ext E29).keep K31 (nT q_75 nin0)).keep K40 q_78).keep K56 q_81).keep K71 q_84)
  have q_85 : own_NE dg xa := mN
  have q_86 : own_NE dg ob29 := mN
  have q_87 : own_NE da dg := mN
  have q_88 : own_NE ch dg := mN
  have q_89 : dg ∉ [ch, da] := nT (uS q_88) (nT (uS q_87) nin0)
  have q_90 : own_NE db dg := mN
  have q_91 : own_NE dg sp := mN
  have q_92 : dg ∉ [sp, db] := nT q_91 (nT (uS q_90) nin0)
  have q_93 : own_NE dc dg := mN
  have q_94 : own_NE dg dr := mN
  have q_95 : dg ∉ [dr, dc] := nT q_94 (nT (uS q_93) nin0)
  have fc82 := ((((((Pm37.other W5 q_85).ext E29).keep K31 (nT q_86 nin0)).keep K40 q_89).keep K56 q_92).keep K71 q_95)
  have fc83 := ((((((Pm38.wr W5).ext E29).keep K31).keep K40).keep K56).keep K71)
  have fc84 := ((((((Pm39.wr W5).ext E29).keep K31).keep K40).keep K56).keep K71)
  have fc85 : Exa Z T71.heap el s29_ := E_EL.ext O76.2
  have q_96 : own_LE n0 dp := mL
  have q_97 : own_LE n0 dg := mL
  obtain ⟨cq86, kq86, q86a, q86b, q86c⟩ := isOf hZ K77 fc78
  refine o_k 5 (X77.interfaceBack hx (xi := y17_) (y := y15_) hown (mw hZ hw 452 rfl) (mw hZ hw 233 rfl) (mw hZ hw 234 rfl) (mw hZ hw 235 rfl) (mw hZ hw 236 rfl) (mw hZ hw 237 rfl) (mw hZ hw 238 rfl) (mw hZ hw 70 rfl) (by decide) (bk 0 hZ hw 239 14 (rm_addR l Z a0 hw [] dp (1 : Int32) mdg dg kdg (10 : Int32) vdg el T71.heap n0 O76 fc78 fc79 fc80 fc81 fc82 fc83 fc84 (Ins.of_exa fc85 (w_ hw 456 rfl)) q_96 q_97 ov_dg (by decide) (by decide) (by decide) (by first | assumption | omega | decide))) q86a q86b q86c (g := (mkF m 166 #[.val (.ref ds), .val v1_, .val (.int ee)] [(.ref el), (.ref dp)])) rfl hml.symm (Steps.refl _) (argsL := [(.ref el)]) (rest := []) (lenOf pd9_ rfl) rfl own_z (hb hby D38_166) (o4 K77 1 0 3 0)) fun T86 Lc86 _ X86 hQ86 => ?_
  obtain ⟨vz_86, rfl, M86, K86, g86_0, g86_1, g86_2, g86_3, g86_4, g86_5, g86_6⟩ := hQ86
  have N86 := Fr.app N77 M86
  have z86 := K86.1
  have lt_g86_0 := eG g86_0
  have lt_g86_4 := vG g86_4
  refine ob_ (fun _ k => XS.pop X86.here hx rfl (hb hby D38_171) rfl rfl k) ?_
  have q_98 : own_NE ob29 xa := mN
  have q_99 : xa ∉ [ch, da] := nT (uS q_28) (nT (uS q_30) nin0)
  have q_100 : xa ∉ [sp, db] := nT (uS q_38) (nT (uS q_43) nin0)
  have q_101 : xa ∉ [dr, dc] := nT (uS q_53) (nT (uS q_61) nin0)
  have q_102 : xa ∉ [dp, dg] := nT (uS q_74) (nT (uS q_85) nin0)
  have fc87 := ((((((Vw5.ext E29).keep K31 (nT (uS q_98) nin0)).keep K40 q_99).keep K56 q_100).keep K71 q_101).keep K86 q_102)
  have fc88 := (((((((Pm0.wr W5).ext E29).keep K31).keep K40).keep K56).keep K71).keep K86)
  have q_103 : own_NE dg ds := mN
  have q_104 : own_NE dp ds := mN
  have q_105 : ds ∉ [dp, dg] := nT (uS q_104) (nT (uS q_103) nin0)
  have fc89 := (((((((Pm4.other W5 (Or.inl q_2)).ext E29).keep K31 (nT q_34 nin0)).keep K40 q_37).keep K56 q_52).keep K71 q_73).keep K86 q_105)
  have fc90 := (((((((Pm40.wr W5).ext E29).keep K31).keep K40).keep K56).keep K71).keep K86)
  have q_106 : own_NE dq xa := mN
  have q_107 : own_NE dq ob29 := mN
  have q_108 : own_NE da dq := mN
  have q_109 : own_NE ch dq := mN
  have q_110 : dq ∉ [ch, da] := nT (uS q_109) (nT (uS q_108) nin0)
  have q_111 : own_NE db dq := mN
  have q_112 : own_NE dq sp := mN
  have q_113 : dq ∉ [sp, db] := nT q_112 (nT (uS q_111) nin0)
  have q_114 : own_NE dc dq := mN
  have q_115 : own_NE dq dr := mN
  have q_116 : dq ∉ [dr, dc] := nT q_115 (nT (uS q_114) nin0)
  have q_117 : own_NE dg dq := mN
  have q_118 : own_NE dp dq := mN
  have q_119 : dq ∉ [dp, dg] := nT (uS q_118) (nT (uS q_117) nin0)
  have fc91 := (((((((Pm41.other W5 (Or.inl q_106)).ext E29).keep K31 (nT q_107 nin0)).keep K40 q_110).keep K56 q_113).keep K71 q_116).keep K86 q_119)
  have fc92 := (((((((Pm42.other W5 (Or.inl q_106)).ext E29).keep K31 (nT q_107 nin0)).keep K40 q_110).keep K56 q_113).keep K71 q_116).keep K86 q_119)
  have fc93 := (((((((Pm43.other W5 (Or.inl q_106)).ext E29).keep K31 (nT q_107 nin0)).keep K40 q_110).keep K56 q_113).keep K71 q_116).keep K86 q_119)
  have q_120 : own_NE de xa := mN
  have q_121 : own_NE de ob29 := mN
  have q_122 : own_NE da de := mN
  have q_123 : own_NE ch de := mN
  have q_124 : de ∉ [ch, da] := nT (uS q_123) (nT (uS q_122) nin0)
  have q_125 : own_NE db de := mN
  have q_126 : own_NE de sp := mN
  have q_127 : de ∉ [sp, db] := nT q_126 (nT (uS q_125) nin0)
  have q_128 : own_NE dc de := mN
  have q_129 : own_NE de dr := mN
  have q_130 : de ∉ [dr, dc] := nT q_129 (nT (uS q_128) nin0)
  have q_131 : own_NE de dg := mN
  have q_132 : own_NE de dp := mN
  have q_133 : de ∉ [dp, dg] := nT q_132 (nT q_131 nin0)
  have fc94 := (((((((Pm44.other W5 q_120).ext E29).keep K31 (nT q_121 nin0)).keep K40 q_124).keep K56 q_127).keep K71 q_130).keep K86 q_133)
  have q_134 : own_LE h0.size ob29 := mL
  have K95 : Keep h0 T86.heap [xa, ch, sp, dr, dp, da, db, dc, dg] := ((((((((Keep.refl h0 [xa, ch, sp, dr, dp, da, db, dc, dg]).wr W5 (Or.inl (List.mem_of_getElem? (i := 0) rfl))).ext E29).trans K31 (kR all0 q_134)).trans K40 (kI 1 rfl (kI 5 rfl all0))).trans K56 (kI 2 rfl (kI 6 rfl all0))).trans K71 (kI 3 rfl (kI 7 rfl all0))).trans K86 (kI 4 rfl (kI 8 rfl all0)))
  exact jn8 _ _ ⟨_, (X86.more (by decide) (by decide)), N86⟩ rfl K95 fc87 fc88 fc89 fc90 fc91 fc92 fc93 fc94
 ·
  refine ob_ (fun _ k => XS.ifNo X44.here hx rfl (hb hby D38_90) rfl ((if0 _ _).trans (feq hc45).1) k) ?_
  obtain ⟨T96, h96, X96, e96, E96, A96, D96, U96, st96⟩ := newO X44 hx hZ hown (w_ hw 301 rfl) (w_ hw 13 rfl) (w_ hw 14 rfl) e44 (g := (mkF m 93 #[.val (.ref ds), .val v1_, .val (.int ee)] [(.ref sp)])) rfl (hb hby D38_93) (by decide) (by decide)
  obtain ⟨ob96, g96⟩ : ∃ z, z = T40.heap.size := ⟨_, rfl⟩
  rw [← g96] at A96 D96 U96 st96
  refine ob_ st96 ?_
  have z96 := E96.1
  have lt96 : h96.size > ob96 := A96.lt
  refine ob_ (fun _ k => XS.dup X96.here hx rfl (hb hby D38_96) rfl rfl k) ?_
  have q_135 : own_LE n0 ob96 := mL
  have O97 : Old Z n0 h96 := ((O39.keep K40 (allS q_32 (allS q_33 all0))).ext E96)
  refine o_k 3 (X96.specialBack hx (y := y3_) rfl hown (mw hZ hw 302 rfl) (mw hZ hw 16 rfl) (mw hZ hw 17 rfl) (by decide) (bk 2 hZ hw 17 14 (rm_ai l Z a0 hw [] ob96 dce kce h96 n0 O97 S_DCE A_DCE E_DCE A96 (show f32_ Z h96 ob96 v0_ from D96 (Or.inl (w_ hw 73 rfl)) (ty := .int) (by decide)) (show f36_ Z h96 ob96 v0_ from D96 (Or.inl (w_ hw 34 rfl)) (ty := .int) (by decide)) (show f31_ Z h96 ob96 .null from D96 (Or.inl (w_ hw 37 rfl)) (ty := (.array (.object s7_))) (by decide)) q_135)) (g := (mkF m 97 #[.val (.ref ds), .val v1_, .val (.int ee)] [(.ref ob96), (.ref ob96), (.ref sp)])) rfl hml.symm (Steps.refl _) (a := ob96) (argsL := []) (rest := [(.ref ob96), (.ref sp)]) (lenOf pd1_ rfl) rfl own_z (hb hby D38_97) (o4 e96 2 0 6 0)) fun T98 Lc98 _ X98 hQ98 => ?_
  obtain ⟨rfl, M98, K98, g98_0, g98_1, g98_2, g98_3⟩ := hQ98
  have N98 := Fr.app N40 M98
  have z98 := K98.1
  have lt_g98_0 := eG g98_0
  refine ob_ (fun _ k => XS.goto X98.here hx rfl (pc0 := 100) (pc' := 106) rfl (hb hby D38_100) (by decide) (by decide) k) ?_
  have fc99 := ((((((Pm19.wr W5).ext E29).keep K31).keep K40).ext E96).keep K98)
  have q_136 : own_NE sp xa := mN
  have q_137 : own_NE ob29 sp := mN
  have q_138 : own_NE da sp := mN
  have q_139 : own_NE ch sp := mN
  have q_140 : sp ∉ [ch, da] := nT (uS q_139) (nT (uS q_138) nin0)
  have q_141 : own_NE ob96 sp := mN
  have fc100 := ((((((Pm20.other W5 (Or.inl q_136)).ext E29).keep K31 (nT (uS q_137) nin0)).keep K40 q_140).ext E96).keep K98 (nT (uS q_141) nin0))
  have fc101 := ((((((Pm21.other W5 (Or.inl q_136)).ext E29).keep K31 (nT (uS q_137) nin0)).keep K40 q_140).ext E96).keep K98 (nT (uS q_141) nin0))
  have fc102 := ((((((Pm22.other W5 (Or.inl q_136)).ext E29).keep K31 (nT (uS q_137) nin0)).keep K40 q_140).ext E96).keep K98 (nT (uS q_141) nin0))
  have q_142 : own_NE db xa := mN
  have q_143 : own_NE db ob29 := mN
  have q_144 : own_NE da db := mN
  have q_145 : own_NE ch db := mN
  have q_146 : db ∉ [ch, da] := nT (uS q_145) (nT (uS q_144) nin0)
  have q_147 : own_NE db ob96 := mN
  have fc103 := ((((((Pm23.other W5 q_142).ext E29).keep K31 (nT q_143 nin0)).keep K40 q_146).ext E96).keep K98 (nT q_147 nin0))
  have fc104 := ((((((Pm24.wr W5).ext E29).keep K31).keep K40).ext E96).keep K98)
  have fc105 := ((((((Pm25.wr W5).ext E29).keep K31).keep K40).ext E96).keep K98)
  have q_148 : own_LE n0 sp := mL
  have q_149 : own_LE n0 db := mL
  have O106 : Old Z n0 T98.heap := (O97.keep K98 (allS q_135 all0))
  obtain ⟨cq107, kq107, q107a, q107b, q107c⟩ := isOf hZ rfl fc99
  refine o_k 5 (X98.interfaceBack hx (xi := y17_) (y := y15_) hown (mw hZ hw 452 rfl) (mw hZ hw 233 rfl) (mw hZ hw 234 rfl) (mw hZ hw 235 rfl) (mw hZ hw 236 rfl) (mw hZ hw 237 rfl) (mw hZ hw 238 rfl) (mw hZ hw 70 rfl) (by decide) (bk 0 hZ hw 239 14 (rm_addR l Z a0 hw [] sp (1 : Int32) mdb db kdb (10 : Int32) vdb ob96 T98.heap n0 O106 fc99 fc100 fc101 fc102 fc103 fc104 fc105 (Ins.of_exa g98_0 (w_ hw 262 rfl)) q_148 q_149 ov_db (by decide) (by decide) (by decide) (by first | assumption | omega | decide))) q107a q107b q107c (g := (mkF m 106 #[.val (.ref ds), .val v1_, .val (.int ee)] [(.ref ob96), (.ref sp)])) rfl hml.symm (Steps.refl _) (argsL := [(.ref ob96)]) (rest := []) (lenOf pd9_ rfl) rfl own_z (hb hby D38_106) (o4 rfl 2 0 6 0)) fun T107 Lc107 _ X107 hQ107 => ?_
  obtain ⟨vz_107, rfl, M107, K107, g107_0, g107_1, g107_2, g107_3, g107_4, g107_5, g107_6⟩ := hQ107
  have N107 := Fr.app N98 M107
  have z107 := K107.1
  have lt_g107_0 := eG g107_0
  have lt_g107_4 := vG g107_4
  show own_Go p e below (T107.setTop (mkF m 111 #[.val (.ref ds), .val v1_, .val (.int ee)] [v1_])) _
  refine ob_ (fun _ k => XS.pop X107.here hx rfl (hb hby D38_111) rfl rfl k) ?_
  refine o_al X107 hx hby D38_112 rfl rfl ?_
  have q_150 : own_NE ds ob96 := mN
  have q_151 : own_NE db ds := mN
  have q_152 : own_NE ds sp := mN
  have q_153 : ds ∉ [sp, db] := nT q_152 (nT (uS q_151) nin0)
  have fc108 := (((((((Pm9.other W5 (Or.inl q_2)).ext E29).keep K31 (nT q_34 nin0)).keep K40 q_37).ext E96).keep K98 (nT q_150 nin0)).keep K107 q_153)
  refine o_gf X107 hx hby hZ hown hw 307 rfl Via.refl rfl fc108 D38_113 fun T109 X109 e109 => ?_
  refine o_al X109 hx hby D38_116 rfl rfl ?_
  have fc110 := (((fc43.ext E96).keep K98 (nT q_150 nin0)).keep K107 q_153)
  refine o_gf X109 hx hby hZ hown hw 326 rfl Via.refl e109 fc110 D38_117 fun T111 X111 e111 => ?_
  refine ob_ (fun _ k => XS.ifNo X111.here hx rfl (hb hby D38_120) rfl ((if0 _ _).trans (feq hc45).1) k) ?_
  obtain ⟨T112, h112, X112, e112, E112, A112, D112, U112, st112⟩ := newO X111 hx hZ hown (w_ hw 301 rfl) (w_ hw 13 rfl) (w_ hw 14 rfl) e111 (g := (mkF m 123 #[.val (.ref ds), .val v1_, .val (.int ee)] [(.ref dr)])) rfl (hb hby D38_123) (by decide) (by decide)
  obtain ⟨ob112, g112⟩ : ∃ z, z = T107.heap.size := ⟨_, rfl⟩
  rw [← g112] at A112 D112 U112 st112
  refine ob_ st112 ?_
  have z112 := E112.1
  have lt112 : h112.size > ob112 := A112.lt
  refine ob_ (fun _ k => XS.dup X112.here hx rfl (hb hby D38_126) rfl rfl k) ?_
  have q_154 : own_LE n0 ob112 := mL
  have O113 : Old Z n0 h112 := ((O106.keep K107 (allS q_148 (allS q_149 all0))).ext E112)
  refine o_k 3 (X112.specialBack hx (y := y3_) rfl hown (mw hZ hw 302 rfl) (mw hZ hw 16 rfl) (mw hZ hw 17 rfl) (by decide) (bk 2 hZ hw 17 14 (rm_ai l Z a0 hw [] ob112 dce kce h112 n0 O113 S_DCE A_DCE E_DCE A112 (show f32_ Z h112 ob112 v0_ from D112 (Or.inl (w_ hw 73 rfl)) (ty := .int) (by decide)) (show f36_ Z h112 ob112 v0_ from D112 (Or.inl (w_ hw 34 rfl)) (ty := .int) (by decide)) (show f31_ Z h112 ob112 .null from D112 (Or.inl (w_ hw 37 rfl)) (ty := (.array (.object s7_))) (by decide)) q_154)) (g := (mkF m 127 #[.val (.ref ds), .val v1_, .val (.int ee)] [(.ref ob112), (.ref ob112), (.ref dr)])) rfl hml.symm (Steps.refl _) (a := ob112) (argsL := []) (rest := [(.ref ob112), (.ref dr)]) (lenOf pd1_ rfl) rfl own_z (hb hby D38_127) (o4 e112 3 0 9 0)) fun T114 Lc114 _ X114 hQ114 => ?_
  obtain ⟨rfl, M114, K114, g114_0, g114_1, g114_2, g114_3⟩ := hQ114
  have N114 := Fr.app N107 M114
  have z114 := K114.1
  have lt_g114_0 := eG g114_0
  refine ob_ (fun _ k => XS.goto X114.here hx rfl (pc0 := 130) (pc' := 136) rfl (hb hby D38_130) (by decide) (by decide) k) ?_
  have fc115 := (((((((((Pm26.wr W5).ext E29).keep K31).keep K40).ext E96).keep K98).keep K107).ext E112).keep K114)
  have q_155 : own_NE dr xa := mN
  have q_156 : own_NE dr ob29 := mN
  have q_157 : own_NE da dr := mN
  have q_158 : own_NE ch dr := mN
  have q_159 : dr ∉ [ch, da] := nT (uS q_158) (nT (uS q_157) nin0)
  have q_160 : own_NE dr ob96 := mN
  have q_161 : own_NE db dr := mN
  have q_162 : own_NE dr sp := mN
  have q_163 : dr ∉ [sp, db] := nT q_162 (nT (uS q_161) nin0)
  have q_164 : own_NE dr ob112 := mN
  have fc116 := (((((((((Pm27.other W5 (Or.inl q_155)).ext E29).keep K31 (nT q_156 nin0)).keep K40 q_159).ext E96).keep K98 (nT q_160 nin0)).keep K107 q_163).ext E112).keep K114 (nT q_164 nin0))
  have fc117 := (((((((((Pm28.other W5 (Or.inl q_155)).ext E29).keep K31 (nT q_156 nin0)).keep K40 q_159).ext E96).keep K98 (nT q_160 nin0)).keep K107 q_163).ext E112).keep K114 (nT q_164 nin0))
  have fc118 := (((((((((Pm29.other W5 (Or.inl q_155)).ext E29).keep K31 (nT q_156 nin0)).keep K40 q_159).ext E96).keep K98 (nT q_160 nin0)).keep K107 q_163).ext E112).keep K114 (nT q_164 nin0))
  have q_165 : own_NE dc xa := mN
  have q_166 : own_NE dc ob29 := mN
  have q_167 : own_NE da dc := mN
  have q_168 : own_NE ch dc := mN
  have q_169 : dc ∉ [ch, da] := nT (uS q_168) (nT (uS q_167) nin0)
  have q_170 : own_NE dc ob96 := mN
  have q_171 : own_NE db dc := mN
  have q_172 : own_NE dc sp := mN
  have q_173 : dc ∉ [sp, db] := nT q_172 (nT (uS q_171) nin0)
  have q_174 : own_NE dc ob112 := mN
  have fc119 := (((((((((Pm30.other W5 q_165).ext E29).keep K31 (nT q_166 nin0)).keep K40 q_169).ext E96).keep K98 (nT q_170 nin0)).keep K107 q_173).ext E112).keep K114 (nT q_174 nin0))
  have fc120 := (((((((((Pm31.wr W5).ext E29).keep K31).keep K40).ext E96).keep K98).keep K107).ext E112).keep K114)
  have fc121 := (((((((((Pm32.wr W5).ext E29).keep K31).keep K40).ext E96).keep K98).keep K107).ext E112).keep K114)
  have q_175 : own_LE n0 dr := mL
  have q_176 : own_LE n0 dc := mL
  have O122 : Old Z n0 T114.heap := (O113.keep K114 (allS q_154 all0))
  obtain ⟨cq123, kq123, q123a, q123b, q123c⟩ := isOf hZ rfl fc115
  refine o_k 5 (X114.interfaceBack hx (xi := y17_) (y := y15_) hown (mw hZ hw 452 rfl) (mw hZ hw 233 rfl) (mw hZ hw 234 rfl) (mw hZ hw 235 rfl) (mw hZ hw 236 rfl) (mw hZ hw 237 rfl) (mw hZ hw 238 rfl) (mw hZ hw 70 rfl) (by decide) (bk 0 hZ hw 239 14 (rm_addR l Z a0 hw [] dr (1 : Int32) mdc dc kdc (10 : Int32) vdc ob112 T114.heap n0 O122 fc115 fc116 fc117 fc118 fc119 fc120 fc121 (Ins.of_exa g114_0 (w_ hw 262 rfl)) q_175 q_176 ov_dc (by decide) (by decide) (by decide) (by first | assumption | omega | decide))) q123a q123b q123c (g := (mkF m 136 #[.val (.ref ds), .val v1_, .val (.int ee)] [(.ref ob112), (.ref dr)])) rfl hml.symm (Steps.refl _) (argsL := [(.ref ob112)]) (rest := []) (lenOf pd9_ rfl) rfl own_z (hb hby D38_136) (o4 rfl 3 0 9 0)) fun T123 Lc123 _ X123 hQ123 => ?_
  obtain ⟨vz_123, rfl, M123, K123, g123_0, g123_1, g123_2, g123_3, g123_4, g123_5, g123_6⟩ := hQ123
  have N123 := Fr.app N114 M123
  have z123 := K123.1
  have lt_g123_0 := eG g123_0
  have lt_g123_4 := vG g123_4
  refine ob_ (fun _ k => XS.pop X123.here hx rfl (hb hby D38_141) rfl rfl k) ?_
  refine o_al X123 hx hby D38_142 rfl rfl ?_
  have q_177 : own_NE ds ob112 := mN
  have q_178 : own_NE dc ds := mN
  have q_179 : own_NE dr ds := mN
  have q_180 : ds ∉ [dr, dc] := nT (uS q_179) (nT (uS q_178) nin0)
  have fc124 := ((((((((((Pm10.other W5 (Or.inl q_2)).ext E29).keep K31 (nT q_34 nin0)).keep K40 q_37).ext E96).keep K98 (nT q_150 nin0)).keep K107 q_153).ext E112).keep K114 (nT q_177 nin0)).keep K123 q_180)
  refine o_gf X123 hx hby hZ hown hw 309 rfl Via.refl rfl fc124 D38_143 fun T125 X125 e125 => ?_
  refine o_al X125 hx hby D38_146 rfl rfl ?_
  have fc126 := (((fc110.ext E112).keep K114 (nT q_177 nin0)).keep K123 q_180)
  refine o_gf X125 hx hby hZ hown hw 326 rfl Via.refl e125 fc126 D38_147 fun T127 X127 e127 => ?_
  refine ob_ (fun _ k => XS.ifNo X127.here hx rfl (hb hby D38_150) rfl ((if0 _ _).trans (feq hc45).1) k) ?_
  obtain ⟨T128, h128, X128, e128, E128, A128, D128, U128, st128⟩ := newO X127 hx hZ hown (w_ hw 301 rfl) (w_ hw 13 rfl) (w_ hw 14 rfl) e127 (g := (mkF m 153 #[.val (.ref ds), .val v1_, .val (.int ee)] [(.ref dp)])) rfl (hb hby D38_153) (by decide) (by decide)
  obtain ⟨ob128, g128⟩ : ∃ z, z = T123.heap.size := ⟨_, rfl⟩
  rw [← g128] at A128 D128 U128 st128
  refine ob_ st128 ?_
  have z128 := E128.1
  have lt128 : h128.size > ob128 := A128.lt
  refine ob_ (fun _ k => XS.dup X128.here hx rfl (hb hby D38_156) rfl rfl k) ?_
  have q_181 : own_LE n0 ob128 := mL
  have O129 : Old Z n0 h128 := ((O122.keep K123 (allS q_175 (allS q_176 all0))).ext E128)
  refine o_k 3 (X128.specialBack hx (y := y3_) rfl hown (mw hZ hw 302 rfl) (mw hZ hw 16 rfl) (mw hZ hw 17 rfl) (by decide) (bk 2 hZ hw 17 14 (rm_ai l Z a0 hw [] ob128 dce kce h128 n0 O129 S_DCE A_DCE E_DCE A128 (show f32_ Z h128 ob128 v0_ from D128 (Or.inl (w_ hw 73 rfl)) (ty := .int) (by decide)) (show f36_ Z h128 ob128 v0_ from D128 (Or.inl (w_ hw 34 rfl)) (ty := .int) (by decide)) (show f31_ Z h128 ob128 .null from D128 (Or.inl (w_ hw 37 rfl)) (ty := (.array (.object s7_))) (by decide)) q_181)) (g := (mkF m 157 #[.val (.ref ds), .val v1_, .val (.int ee)] [(.ref ob128), (.ref ob128), (.ref dp)])) rfl hml.symm (Steps.refl _) (a := ob128) (argsL := []) (rest := [(.ref ob128), (.ref dp)]) (lenOf pd1_ rfl) rfl own_z (hb hby D38_157) (o4 e128 4 0 12 0)) fun T130 Lc130 _ X130 hQ130 => ?_
  obtain ⟨rfl, M130, K130, g130_0, g130_1, g130_2, g130_3⟩ := hQ130
  have N130 := Fr.app N123 M130
  have z130 := K130.1
  have lt_g130_0 := eG g130_0
  refine ob_ (fun _ k => XS.goto X130.here hx rfl (pc0 := 160) (pc' := 166) rfl (hb hby D38_160) (by decide) (by decide) k) ?_
  have fc131 := ((((((((((((Pm33.wr W5).ext E29).keep K31).keep K40).ext E96).keep K98).keep K107).ext E112).keep K114).keep K123).ext E128).keep K130)
  have q_182 : own_NE dp xa := mN
  have q_183 : own_NE dp ob29 := mN
  have q_184 : own_NE da dp := mN
  have q_185 : own_NE ch dp := mN
  have q_186 : dp ∉ [ch, da] := nT (uS q_185) (nT (uS q_184) nin0)
  have q_187 : own_NE dp ob96 := mN
  have q_188 : own_NE db dp := mN
  have q_189 : own_NE dp sp := mN
  have q_190 : dp ∉ [sp, db] := nT q_189 (nT (uS q_188) nin0)
  have q_191 : own_NE dp ob112 := mN
  have q_192 : own_NE dc dp := mN
  have q_193 : own_NE dp dr := mN
  have q_194 : dp ∉ [dr, dc] := nT q_193 (nT (uS q_192) nin0)
  have q_195 : own_NE dp ob128 := mN
  have fc132 := ((((((((((((Pm34.other W5 (Or.inl q_182)).ext E29).keep K31 (nT q_183 nin0)).keep K40 q_186).ext E96).keep K98 (nT q_187 nin0)).keep K107 q_190).ext E112).keep K114 (nT q_191 nin0)).keep K123 q_194).ext E128).keep K130 (nT q_195 nin0))
  have fc133 := ((((((((((((Pm35.other W5 (Or.inl q_182)).ext E29).keep K31 (nT q_183 nin0)).keep K40 q_186).ext E96).keep K98 (nT q_187 nin0)).keep K107 q_190).ext E112).keep K114 (nT q_191 nin0)).keep K123 q_194).ext E128).keep K130 (nT q_195 nin0))
  have fc134 := ((((((((((((Pm36.other W5 (Or.inl q_182)).ext E29).keep K31 (nT q_183 nin0)).keep K40 q_186).ext E96).keep K98 (nT q_187 nin0)).keep K107 q_190).ext E112).keep K114 (nT q_191 nin0)).keep K123 q_194).ext E128).keep K130 (nT q_195 nin0))
  have q_196 : own_NE dg xa := mN
  have q_197 : own_NE dg ob29 := mN
  have q_198 : own_NE da dg := mN
  have q_199 : own_NE ch dg := mN
  have q_200 : dg ∉ [ch, da] := nT (uS q_199) (nT (uS q_198) nin0)
  have q_201 : own_NE dg ob96 := mN
  have q_202 : own_NE db dg := mN
  have q_203 : own_NE dg sp := mN
  have q_204 : dg ∉ [sp, db] := nT q_203 (nT (uS q_202) nin0)
  have q_205 : own_NE dg ob112 := mN
  have q_206 : own_NE dc dg := mN
  have q_207 : own_NE dg dr := mN
  have q_208 : dg ∉ [dr, dc] := nT q_207 (nT (uS q_206) nin0)
  have q_209 : own_NE dg ob128 := mN
  have fc135 := ((((((((((((Pm37.other W5 q_196).ext E29).keep K31 (nT q_197 nin0)).keep K40 q_200).ext E96).keep K98 (nT q_201 nin0)).keep K107 q_204).ext E112).keep K114 (nT q_205 nin0)).keep K123 q_208).ext E128).keep K130 (nT q_209 nin0))
  have fc136 := ((((((((((((Pm38.wr W5).ext E29).keep K31).keep K40).ext E96).keep K98).keep K107).ext E112).keep K114).keep K123).ext E128).keep K130)
  have fc137 := ((((((((((((Pm39.wr W5).ext E29).keep K31).keep K40).ext E96).keep K98).keep K107).ext E112).keep K114).keep K123).ext E128).keep K130)
  have q_210 : own_LE n0 dp := mL
  have q_211 : own_LE n0 dg := mL
  have O138 : Old Z n0 T130.heap := (O129.keep K130 (allS q_181 all0))
  obtain ⟨cq139, kq139, q139a, q139b, q139c⟩ := isOf hZ rfl fc131
  refine o_k 5 (X130.interfaceBack hx (xi := y17_) (y := y15_) hown (mw hZ hw 452 rfl) (mw hZ hw 233 rfl) (mw hZ hw 234 rfl) (mw hZ hw 235 rfl) (mw hZ hw 236 rfl) (mw hZ hw 237 rfl) (mw hZ hw 238 rfl) (mw hZ hw 70 rfl) (by decide) (bk 0 hZ hw 239 14 (rm_addR l Z a0 hw [] dp (1 : Int32) mdg dg kdg (10 : Int32) vdg ob128 T130.heap n0 O138 fc131 fc132 fc133 fc134 fc135 fc136 fc137 (Ins.of_exa g130_0 (w_ hw 262 rfl)) q_210 q_211 ov_dg (by decide) (by decide) (by decide) (by first | assumption | omega | decide))) q139a q139b q139c (g := (mkF m 166 #[.val (.ref ds), .val v1_, .val (.int ee)] [(.ref ob128), (.ref dp)])) rfl hml.symm (Steps.refl _) (argsL := [(.ref ob128)]) (rest := []) (lenOf pd9_ rfl) rfl own_z (hb hby D38_166) (o4 rfl 4 0 12 0)) fun T139 Lc139 _ X139 hQ139 => ?_
  obtain ⟨vz_139, rfl, M139, K139, g139_0, g139_1, g139_2, g139_3, g139_4, g139_5, g139_6⟩ := hQ139
  have N139 := Fr.app N130 M139
  have z139 := K139.1
  have lt_g139_0 := eG g139_0
  have lt_g139_4 := vG g139_4
  refine ob_ (fun _ k => XS.pop X139.here hx rfl (hb hby D38_171) rfl rfl k) ?_
  have q_212 : own_NE ob29 xa := mN
  have q_213 : xa ∉ [ch, da] := nT (uS q_28) (nT (uS q_30) nin0)
  have q_214 : xa ∉ [sp, db] := nT (uS q_136) (nT (uS q_142) nin0)
  have q_215 : xa ∉ [dr, dc] := nT (uS q_155) (nT (uS q_165) nin0)
  have q_216 : xa ∉ [dp, dg] := nT (uS q_182) (nT (uS q_196) nin0)
  have fc140 := ((((((((((((Vw5.ext E29).keep K31 (nT (uS q_212) nin0)).keep K40 q_213).ext E96).keep K98 (nS nin0)).keep K107 q_214).ext E112).keep K114 (nS nin0)).keep K123 q_215).ext E128).keep K130 (nS nin0)).keep K139 q_216)
  have fc141 := (((((((((((((Pm0.wr W5).ext E29).keep K31).keep K40).ext E96).keep K98).keep K107).ext E112).keep K114).keep K123).ext E128).keep K130).keep K139)
  have q_217 : own_NE dg ds := mN
  have q_218 : own_NE dp ds := mN
  have q_219 : ds ∉ [dp, dg] := nT (uS q_218) (nT (uS q_217) nin0)
  have fc142 := (((((((((((((Pm4.other W5 (Or.inl q_2)).ext E29).keep K31 (nT q_34 nin0)).keep K40 q_37).ext E96).keep K98 (nT q_150 nin0)).keep K107 q_153).ext E112).keep K114 (nT q_177 nin0)).keep K123 q_180).ext E128).keep K130 (nS nin0)).keep K139 q_219)
  have fc143 := (((((((((((((Pm40.wr W5).ext E29).keep K31).keep K40).ext E96).keep K98).keep K107).ext E112).keep K114).keep K123).ext E128).keep K130).keep K139)
  have q_220 : own_NE dq xa := mN
  have q_221 : own_NE dq ob29 := mN
  have q_222 : own_NE da dq := mN
  have q_223 : own_NE ch dq := mN
  have q_224 : dq ∉ [ch, da] := nT (uS q_223) (nT (uS q_222) nin0)
  have q_225 : own_NE dq ob96 := mN
  have q_226 : own_NE db dq := mN
  have q_227 : own_NE dq sp := mN
  have q_228 : dq ∉ [sp, db] := nT q_227 (nT (uS q_226) nin0)
  have q_229 : own_NE dq ob112 := mN
  have q_230 : own_NE dc dq := mN
  have q_231 : own_NE dq dr := mN
  have q_232 : dq ∉ [dr, dc] := nT q_231 (nT (uS q_230) nin0)
  have q_233 : own_NE dq ob128 := mN
  have q_234 : own_NE dg dq := mN
  have q_235 : own_NE dp dq := mN
  have q_236 : dq ∉ [dp, dg] := nT (uS q_235) (nT (uS q_234) nin0)
  have fc144 := (((((((((((((Pm41.other W5 (Or.inl q_220)).ext E29).keep K31 (nT q_221 nin0)).keep K40 q_224).ext E96).keep K98 (nT q_225 nin0)).keep K107 q_228).ext E112).keep K114 (nT q_229 nin0)).keep K123 q_232).ext E128).keep K130 (nT q_233 nin0)).keep K139 q_236)
  have fc145 := (((((((((((((Pm42.other W5 (Or.inl q_220)).ext E29).keep K31 (nT q_221 nin0)).keep K40 q_224).ext E96).keep K98 (nT q_225 nin0)).keep K107 q_228).ext E112).keep K114 (nT q_229 nin0)).keep K123 q_232).ext E128).keep K130 (nT q_233 nin0)).keep K139 q_236)
  have fc146 := (((((((((((((Pm43.other W5 (Or.inl q_220)).ext E29).keep K31 (nT q_221 nin0)).keep K40 q_224).ext E96).keep K98 (nT q_225 nin0)).keep K107 q_228).ext E112).keep K114 (nT q_229 nin0)).keep K123 q_232).ext E128).keep K130 (nT q_233 nin0)).keep K139 q_236)
  have q_237 : own_NE de xa := mN
  have q_238 : own_NE de ob29 := mN
  have q_239 : own_NE da de := mN
  have q_240 : own_NE ch de := mN
  have q_241 : de ∉ [ch, da] := nT (uS q_240) (nT (uS q_239) nin0)
  have q_242 : own_NE db de := mN
  have q_243 : own_NE de sp := mN
  have q_244 : de ∉ [sp, db] := nT q_243 (nT (uS q_242) nin0)
  have q_245 : own_NE dc de := mN
  have q_246 : own_NE de dr := mN
  have q_247 : de ∉ [dr, dc] := nT q_246 (nT (uS q_245) nin0)
  have q_248 : own_NE de dg := mN
  have q_249 : own_NE de dp := mN
  have q_250 : de ∉ [dp, dg] := nT q_249 (nT q_248 nin0)
  have fc147 := (((((((((((((Pm44.other W5 q_237).ext E29).keep K31 (nT q_238 nin0)).keep K40 q_241).ext E96).keep K98 (nS nin0)).keep K107 q_244).ext E112).keep K114 (nS nin0)).keep K123 q_247).ext E128).keep K130 (nS nin0)).keep K139 q_250)
  have q_251 : own_LE h0.size ob29 := mL
  have K148 : Keep h0 T139.heap [xa, ch, sp, dr, dp, da, db, dc, dg] := ((((((((((((((Keep.refl h0 [xa, ch, sp, dr, dp, da, db, dc, dg]).wr W5 (Or.inl (List.mem_of_getElem? (i := 0) rfl))).ext E29).trans K31 (kR all0 q_251)).trans K40 (kI 1 rfl (kI 5 rfl all0))).ext E96).trans K98 (kR all0)).trans K107 (kI 2 rfl (kI 6 rfl all0))).ext E112).trans K114 (kR all0)).trans K123 (kI 3 rfl (kI 7 rfl all0))).ext E128).trans K130 (kR all0)).trans K139 (kI 4 rfl (kI 8 rfl all0)))
  exact jn8 _ _ ⟨_, (X139.more (by decide) (by decide)), N139⟩ rfl K148 fc140 fc141 fc142 fc143 fc144 fc145 fc146 fc147
abbrev dD33 (n : Nat) (i : Instr) (k : Nat) : Prop := decode prog_12_method_4_code n = .ok (i, k)
theorem D33_0 : dD33 0 (.iload_n 2) 1 := by decide +kernel
theorem D33_1 : dD33 1 (.ifCond .ge 14) 3 := by decide +kernel
theorem D33_4 : dD33 4 (.aload_n 0) 1 := by decide +kernel
theorem D33_5 : dD33 5 (.getfield 10) 3 := by decide +kernel
theorem D33_8 : dD33 8 (.aload_n 1) 1 := by decide +kernel
theorem D33_9 : dD33 9 (.invokevirtual 84) 3 := by decide +kernel
theorem D33_12 : dD33 12 (.goto 12) 3 := by decide +kernel
theorem D33_24 : dD33 24 (.istore 5) 2 := by decide +kernel
theorem D33_26 : dD33 26 (.aload_n 0) 1 := by decide +kernel
theorem D33_27 : dD33 27 (.iload 5) 2 := by decide +kernel
theorem D33_29 : dD33 29 (.iload_n 3) 1 := by decide +kernel
theorem D33_30 : dD33 30 (.invokevirtual 71) 3 := by decide +kernel
theorem D33_33 : dD33 33 .pop 1 := by decide +kernel
theorem D33_34 : dD33 34 (.aload_n 0) 1 := by decide +kernel
theorem D33_35 : dD33 35 (.getfield 20) 3 := by decide +kernel
theorem D33_38 : dD33 38 (.iload 5) 2 := by decide +kernel
theorem D33_40 : dD33 40 (.iload 4) 2 := by decide +kernel
theorem D33_42 : dD33 42 .bastore 1 := by decide +kernel
theorem D33_43 : dD33 43 (.iload 5) 2 := by decide +kernel
theorem D33_45 : dD33 45 .ireturn 1 := by decide +kernel
def Q_rm_rec0 (Z : State) (ds un xa : Addr) (kxa : ClassId) (ca : Addr) (kca : ClassId) (dq de : Addr) (kde : ClassId) (li ax ee co md : Int32) (ch sp dr dp mb ms : Addr) (kms : ClassId) (hl : Addr) (khl : ClassId) (xd cq dce : Addr) (kce : ClassId) (el ele : Addr) (kele : ClassId) (ci : Addr) (cci : Cell) (md_ch md_sp md_dr md_dp : Int32) (h0 : Heap) (n0 : Nat) (v : Option Value) (h : Heap) (L : List Loc) : Prop := ∃ (tq : Int32) (wq : List Value) (da db dc dg : Addr) (kda kdb kdc kdg : ClassId) (cda cdb cdc cdg : Int32) (vda vdb vdc vdg : List Value) (mda mdb mdc mdg : Int32) (oo : Addr) (kn : ClassId) (vz : List Value), v = some v0_ ∧ Fr n0 L ∧ Keep h0 h [xa, ch, sp, dr, dp, dq, de, un, mb, ms, hl, ca] ∧ Arv Z h xa kxa .boolean (16 : Int32) [(.int ee)] v0_ ∧ Arv Z h ca kca .boolean (16 : Int32) [(.int co)] v0_ ∧ Exa Z h dq s57_ ∧ f34_ Z h dq v0_ ∧ f35_ Z h dq (.int tq) ∧ f33_ Z h dq (.ref de) ∧ Arv Z h de kde (.object s7_) (17 : Int32) wq .null ∧ Exa Z h un s38_ ∧ f27_ Z h un (.ref mb) ∧ f26_ Z h un (.ref ms) ∧ f25_ Z h un (.ref hl) ∧ f28_ Z h un v1_ ∧ Arv Z h ms kms .long (16 : Int32) [(.long (0 : Int64))] (.long (0 : Int64)) ∧ Arv Z h hl khl .boolean (16 : Int32) [v1_] v0_ ∧ Exa Z h ch s4_ ∧ f32_ Z h ch (.int li) ∧ f36_ Z h ch (.int mda) ∧ f31_ Z h ch (.ref da) ∧ Arv Z h da kda (.object s7_) cda vda .null ∧ Exa Z h da s9_ ∧ own_obs Z h vda ∧ Exa Z h sp s4_ ∧ f32_ Z h sp (.int li) ∧ f36_ Z h sp (.int mdb) ∧ f31_ Z h sp (.ref db) ∧ Arv Z h db kdb (.object s7_) cdb vdb .null ∧ Exa Z h db s9_ ∧ own_obs Z h vdb ∧ Exa Z h dr s4_ ∧ f32_ Z h dr (.int li) ∧ f36_ Z h dr (.int mdc) ∧ f31_ Z h dr (.ref dc) ∧ Arv Z h dc kdc (.object s7_) cdc vdc .null ∧ Exa Z h dc s9_ ∧ own_obs Z h vdc ∧ Exa Z h dp s4_ ∧ f32_ Z h dp (.int li) ∧ f36_ Z h dp (.int mdg) ∧ f31_ Z h dp (.ref dg) ∧ Arv Z h dg kdg (.object s7_) cdg vdg .null ∧ Exa Z h dg s9_ ∧ own_obs Z h vdg ∧ Exa Z h mb s4_ ∧ f32_ Z h mb v1_ ∧ f36_ Z h mb (.int (md + (1 : Int32))) ∧ f31_ Z h mb (.ref oo) ∧ Arv Z h oo kn (.object s7_) (10 : Int32) vz .null ∧ Exa Z h oo s9_ ∧ own_obs Z h vz ∧ own_w0 Z ee tq wq ∧ (li = 0 ∨ (cda = 10 ∧ cdb = 10 ∧ cdc = 10 ∧ cdg = 10 ∧ Ovr Z kda s7_ ∧ Ovr Z kdb s7_ ∧ Ovr Z kdc s7_ ∧ Ovr Z kdg s7_ ∧ own_asc [de, da, db, dc, dg])) ∧ ((@LT.lt Nat instLTNat da n0 ∧ @LT.lt Nat instLTNat db n0 ∧ @LT.lt Nat instLTNat dc n0 ∧ @LT.lt Nat instLTNat dg n0) ∨ (@LT.lt Nat instLTNat oo da ∧ @LT.lt Nat instLTNat da db ∧ @LT.lt Nat instLTNat db dc ∧ @LT.lt Nat instLTNat dc dg)) ∧ Ovr Z kn s7_ ∧ h0.size ≤ oo
theorem rm_rec0 (l : Launch) (Z : State) (a0 : Array Value) (hw : own_Wd Z a0) (ws : List Jvm.Cond) (ds un xa : Addr) (kxa : ClassId) (ca : Addr) (kca : ClassId) (dq de : Addr) (kde : ClassId) (li ax ee co md : Int32) (ch sp dr dp mb ms : Addr) (kms : ClassId) (hl : Addr) (khl : ClassId) (xd cq dce : Addr) (kce : ClassId) (el ele : Addr) (kele : ClassId) (ci : Addr) (cci : Cell) (md_ch md_sp md_dr md_dp : Int32) (h0 : Heap) (n0 : Nat) (O0 : Old Z n0 h0) (S_DCE : Sta Z Z.heap s4_ s8_ s9_ (.ref dce)) (A_DCE : Arv Z Z.heap dce kce (.object s7_) (0 : Int32) [] .null) (E_DCE : Exa Z Z.heap dce s9_) (S_EL : Sta Z Z.heap s25_ "EMPTY_LIST" s26_ (.ref el)) (E_EL : Exa Z Z.heap el s29_) (F_EL : f3_ Z Z.heap el (.ref ele)) (A_EL : Arv Z Z.heap ele kele (.object s7_) (0 : Int32) [] .null) (S_high : Sta Z Z.heap s65_ "high" "I" (.int (127 : Int32))) (S_icache : Sta Z Z.heap s65_ "cache" s66_ (.ref ci)) (Bxi : Bxs Z ci cci s63_ "I" (256 : Int32) (fun j => .int (j - 128))) (Pm0 : Exa Z h0 ds s37_) (Pm1 : f23_ Z h0 ds (.ref un)) (Pm2 : f19_ Z h0 ds (.ref xa)) (Pm3 : f16_ Z h0 ds (.ref ca)) (Pm4 : f24_ Z h0 ds (.ref dq)) (Pm5 : f20_ Z h0 ds (.int li)) (Pm6 : f14_ Z h0 ds (.int ax)) (Pm7 : f15_ Z h0 ds (.ref ch)) (Pm8 : f22_ Z h0 ds (.ref sp)) (Pm9 : f17_ Z h0 ds (.ref dr)) (Pm10 : f18_ Z h0 ds (.ref dp)) (Pm11 : Arv Z h0 xa kxa .boolean (16 : Int32) [] v0_) (Pm12 : Arv Z h0 ca kca .boolean (16 : Int32) [] v0_) (Pm13 : Exa Z h0 un s38_) (Pm14 : f27_ Z h0 un (.ref mb)) (Pm15 : f26_ Z h0 un (.ref ms)) (Pm16 : f25_ Z h0 un (.ref hl)) (Pm17 : f28_ Z h0 un v0_) (Pm18 : Arv Z h0 ms kms .long (16 : Int32) [] (.long (0 : Int64))) (Pm19 : Arv Z h0 hl khl .boolean (16 : Int32) [] v0_) (Pm20 : Exa Z h0 xd s34_) (Pm21 : f12_ Z h0 xd (.ref cq)) (Pm22 : Exa Z h0 cq s2_) (Pm23 : f8_ Z h0 cq (.long (0 : Int64))) (Pm24 : Exa Z h0 ch s4_) (Pm25 : f32_ Z h0 ch v0_) (Pm26 : f36_ Z h0 ch (.int md_ch)) (Pm27 : f31_ Z h0 ch (.ref dce)) (Pm28 : Exa Z h0 sp s4_) (Pm29 : f32_ Z h0 sp v0_) (Pm30 : f36_ Z h0 sp (.int md_sp)) (Pm31 : f31_ Z h0 sp (.ref dce)) (Pm32 : Exa Z h0 dr s4_) (Pm33 : f32_ Z h0 dr v0_) (Pm34 : f36_ Z h0 dr (.int md_dr)) (Pm35 : f31_ Z h0 dr (.ref dce)) (Pm36 : Exa Z h0 dp s4_) (Pm37 : f32_ Z h0 dp v0_) (Pm38 : f36_ Z h0 dp (.int md_dp)) (Pm39 : f31_ Z h0 dp (.ref dce)) (Pm40 : Exa Z h0 dq s57_) (Pm41 : f34_ Z h0 dq v0_) (Pm42 : f35_ Z h0 dq v0_) (Pm43 : f33_ Z h0 dq (.ref de)) (Pm44 : Arv Z h0 de kde (.object s7_) (17 : Int32) [] .null) (Pm45 : Exa Z h0 mb s4_) (Pm46 : f32_ Z h0 mb v0_) (Pm47 : f36_ Z h0 mb (.int md)) (Pm48 : f31_ Z h0 mb (.ref dce)) (gt_ds : n0 ≤ ds) (hch : own_asc [ds, un, mb, ms, hl, xa, ca, ch, sp, dr, dp, dq, de]) (ovq : Ovr Z kde s7_) (hli : li = 0 ∨ li = 1) (hee : ee = 0 ∨ ee = 1) (hco : co = 0 ∨ co = 1) :
  own_M l Z ws y54_ prog_12_method_4_code 6 (some .int) ({ frames := 7, cells := 10, slots := 71, locals := 96 } : Room) #[(.ref ds), (.ref xd), (.int (-1 : Int32)), (.int ee), (.int co)] h0 (Q_rm_rec0 Z ds un xa kxa ca kca dq de kde li ax ee co md ch sp dr dp mb ms kms hl khl xd cq dce kce el ele kele ci cci md_ch md_sp md_dr md_dp h0 n0) := by
 refine own_open O0 (plainFor_of_name pn20_) (L0 := #[.val (.ref ds), .val (.ref xd), .val (.int (-1 : Int32)), .val (.int ee), .val (.int co), .unset]) ?_
 intro p e s m below meth c s₁ Bd hx hby hml hZ hh hown hnm X0 e0 N0 Z0
 have hq_hch := hch
 simp only [own_asc] at hq_hch
 have lt_Pm0 := eG Pm0
 have lt_Pm11 := vG Pm11
 have lt_Pm12 := vG Pm12
 have lt_Pm13 := eG Pm13
 have lt_Pm18 := vG Pm18
 have lt_Pm19 := vG Pm19
 have lt_Pm20 := eG Pm20
 have lt_Pm22 := eG Pm22
 have lt_Pm24 := eG Pm24
 have lt_Pm28 := eG Pm28
 have lt_Pm32 := eG Pm32
 have lt_Pm36 := eG Pm36
 have lt_Pm40 := eG Pm40
 have lt_Pm44 := vG Pm44
 have lt_Pm45 := eG Pm45
 refine o_il X0 hx hby D33_0 rfl ?_
 refine ob_ (fun _ k => XS.ifNo X0.here hx rfl (hb hby D33_1) rfl ((if0 _ _).trans (tlt (by decide : (-1 : Int32) < (0 : Int32))).2.1) k) ?_
 refine o_al X0 hx hby D33_4 rfl rfl ?_
 refine o_gf X0 hx hby hZ hown hw 293 rfl Via.refl e0 Pm1 D33_5 fun T1 X1 e1 => ?_
 refine o_al X1 hx hby D33_8 rfl rfl ?_
 have q_1 : own_LE n0 un := mL
 obtain ⟨cq2, kq2, q2a, q2b, q2c⟩ := isOf hZ e1 Pm13
 refine o_k 3 (X1.virtualBack hx (y := y39_) (z := y39_) hown (mw hZ hw 333 rfl) (mw hZ hw 334 rfl) (notFace_of_selects (args := #[]) (mw hZ hw 336 rfl)) (mw hZ hw 336 rfl) (mw hZ hw 335 rfl) (by decide) (bk 0 hZ hw 337 182 (rm_ada0 l Z a0 hw [] un md mb ms kms hl khl xd cq dce kce h0 n0 O0 S_DCE A_DCE E_DCE Pm13 Pm14 Pm15 Pm16 Pm17 Pm18 Pm19 Pm45 Pm46 Pm47 Pm48 Pm20 Pm21 Pm22 Pm23 q_1 (by simp only [own_asc, and_true]; omega))) q2a q2c (g := (mkF m 9 #[.val (.ref ds), .val (.ref xd), .val (.int (-1 : Int32)), .val (.int ee), .val (.int co), .unset] [(.ref xd), (.ref un)])) rfl hml.symm (Steps.refl _) (argsL := [(.ref xd)]) (rest := []) (lenOf pd26_ rfl) rfl own_z (hb hby D33_9) (o4 e1 0 1 0 10)) fun T2 Lc2 _ X2 hQ2 => ?_
 obtain ⟨oo_2, kn_2, vz_2, rfl, M2, K2, g2_0, g2_1, g2_2, g2_3, g2_4, g2_5, g2_6, g2_7, g2_8, g2_9, g2_10, g2_11, g2_12, g2_13, r2_0, r2_1⟩ := hQ2
 have N2 := Fr.app N0 M2
 have z2 := K2.1
 have lt_g2_0 := eG g2_0
 have lt_g2_5 := vG g2_5
 have lt_g2_6 := vG g2_6
 have lt_g2_7 := eG g2_7
 have lt_g2_11 := vG g2_11
 refine ob_ (fun _ k => XS.goto X2.here hx rfl (pc0 := 12) (pc' := 24) rfl (hb hby D33_12) (by decide) (by decide) k) ?_
 refine ob_ (fun _ k => XS.istore X2.here hx rfl (hb hby D33_24) rfl (l' := #[.val (.ref ds), .val (.ref xd), .val (.int (-1 : Int32)), .val (.int ee), .val (.int co), .val v0_]) rfl k) ?_
 refine o_al X2 hx hby D33_26 rfl rfl ?_
 refine o_iL X2 hx hby D33_27 rfl ?_
 refine o_il X2 hx hby D33_29 rfl ?_
 have fc3 := (Pm0.keep K2)
 have q_2 : own_NE ds hl := mN
 have q_3 : own_NE ds ms := mN
 have q_4 : own_NE ds mb := mN
 have q_5 : own_NE ds un := mN
 have q_6 : ds ∉ [un, mb, ms, hl] := nT q_5 (nT q_4 (nT q_3 (nT q_2 nin0)))
 have fc4 := (Pm1.keep K2 q_6)
 have fc5 := (Pm2.keep K2 q_6)
 have fc6 := (Pm3.keep K2 q_6)
 have fc7 := (Pm4.keep K2 q_6)
 have fc8 := (Pm5.keep K2 q_6)
 have fc9 := (Pm6.keep K2 q_6)
 have fc10 := (Pm7.keep K2 q_6)
 have fc11 := (Pm8.keep K2 q_6)
 have fc12 := (Pm9.keep K2 q_6)
 have fc13 := (Pm10.keep K2 q_6)
 have q_7 : own_NE hl xa := mN
 have q_8 : own_NE ms xa := mN
 have q_9 : own_NE mb xa := mN
 have q_10 : own_NE un xa := mN
 have fc14 := (Pm11.keep K2 (nT (uS q_10) (nT (uS q_9) (nT (uS q_8) (nT (uS q_7) nin0)))))
 have fc15 := (Pm24.keep K2)
 have q_11 : own_NE ch hl := mN
 have q_12 : own_NE ch ms := mN
 have q_13 : own_NE ch mb := mN
 have q_14 : own_NE ch un := mN
 have q_15 : ch ∉ [un, mb, ms, hl] := nT q_14 (nT q_13 (nT q_12 (nT q_11 nin0)))
 have fc16 := (Pm25.keep K2 q_15)
 have fc17 := (Pm26.keep K2 q_15)
 have fc18 := (Pm27.keep K2 q_15)
 have fc19 := (Pm28.keep K2)
 have q_16 : own_NE hl sp := mN
 have q_17 : own_NE ms sp := mN
 have q_18 : own_NE mb sp := mN
 have q_19 : own_NE sp un := mN
 have q_20 : sp ∉ [un, mb, ms, hl] := nT q_19 (nT (uS q_18) (nT (uS q_17) (nT (uS q_16) nin0)))
 have fc20 := (Pm29.keep K2 q_20)
 have fc21 := (Pm30.keep K2 q_20)
 have fc22 := (Pm31.keep K2 q_20)
 have fc23 := (Pm32.keep K2)
 have q_21 : own_NE dr hl := mN
 have q_22 : own_NE dr ms := mN
 have q_23 : own_NE dr mb := mN
 have q_24 : own_NE dr un := mN
 have q_25 : dr ∉ [un, mb, ms, hl] := nT q_24 (nT q_23 (nT q_22 (nT q_21 nin0)))
 have fc24 := (Pm33.keep K2 q_25)
 have fc25 := (Pm34.keep K2 q_25)
 have fc26 := (Pm35.keep K2 q_25)
 have fc27 := (Pm36.keep K2)
 have q_26 : own_NE dp hl := mN
 have q_27 : own_NE dp ms := mN
 have q_28 : own_NE dp mb := mN
 have q_29 : own_NE dp un := mN
 have q_30 : dp ∉ [un, mb, ms, hl] := nT q_29 (nT q_28 (nT q_27 (nT q_26 nin0)))
 have fc28 := (Pm37.keep K2 q_30)
 have fc29 := (Pm38.keep K2 q_30)
 have fc30 := (Pm39.keep K2 q_30)
 have fc31 := (Pm40.keep K2)
 have q_31 : own_NE dq hl := mN
 have q_32 : own_NE dq ms := mN
 have q_33 : own_NE dq mb := mN
 have q_34 : own_NE dq un := mN
 have q_35 : dq ∉ [un, mb, ms, hl] := nT q_34 (nT q_33 (nT q_32 (nT q_31 nin0)))
 have fc32 := (Pm41.keep K2 q_35)
 have fc33 := (Pm42.keep K2 q_35)
 have fc34 := (Pm43.keep K2 q_35)
 have q_36 : own_NE de hl := mN
 have q_37 : own_NE de ms := mN
 have q_38 : own_NE de mb := mN
 have q_39 : own_NE de un := mN
 have fc35 := (Pm44.keep K2 (nT q_39 (nT q_38 (nT q_37 (nT q_36 nin0)))))
 have O36 : Old Z n0 T2.heap := (O0.keep K2 (allS q_1 (allS (by omega) (allS (by omega) (allS (by omega) all0)))))
 obtain ⟨cq37, q37, q37'⟩ := fc3.cell
 refine o_k 3 (X2.privateBack hx (y := y52_) hown (mw hZ hw 356 rfl) (mw hZ hw 357 rfl) (own_selp (z := y54_) (mw hZ hw 331 rfl) rfl (Cond.privateMethod_at (mvP hZ (w_ hw 358 rfl) (args := #[]))) (mw hZ hw 357 rfl) (by decide)) (Cond.privateMethod_at (mvP hZ (w_ hw 358 rfl) (args := #[]))) (mw hZ hw 359 rfl) (by decide) (bk 0 hZ hw 359 175 (rm_adm0 l Z a0 hw [] ds un xa kxa ca dq de kde li ax ee ch sp dr dp dce kce el ele kele ci cci md_ch md_sp md_dr md_dp T2.heap n0 O36 S_DCE A_DCE E_DCE S_EL E_EL F_EL A_EL S_high S_icache Bxi fc3 fc4 fc5 fc6 fc7 fc8 fc9 fc10 fc11 fc12 fc13 fc14 fc15 fc16 fc17 fc18 fc19 fc20 fc21 fc22 fc23 fc24 fc25 fc26 fc27 fc28 fc29 fc30 fc31 fc32 fc33 fc34 fc35 gt_ds (by simp only [own_asc, and_true]; omega) ovq hli hee)) (g := (mkF m 30 #[.val (.ref ds), .val (.ref xd), .val (.int (-1 : Int32)), .val (.int ee), .val (.int co), .val v0_] [(.int ee), v0_, (.ref ds)])) rfl hml.symm (Steps.refl _) (a := ds) q37 q37' (argsL := [v0_, (.int ee)]) (rest := []) (lenOf pd27_ rfl) rfl own_z (hb hby D33_30) (o4 rfl 1 9 10 61)) fun T37 Lc37 _ X37 hQ37 => ?_
 obtain ⟨tq_37, wq_37, da_37, db_37, dc_37, dg_37, kda_37, kdb_37, kdc_37, kdg_37, cda_37, cdb_37, cdc_37, cdg_37, vda_37, vdb_37, vdc_37, vdg_37, mda_37, mdb_37, mdc_37, mdg_37, rfl, M37, K37, g37_0, g37_1, g37_2, g37_3, g37_4, g37_5, g37_6, g37_7, g37_8, g37_9, g37_10, g37_11, g37_12, g37_13, g37_14, g37_15, g37_16, g37_17, g37_18, g37_19, g37_20, g37_21, g37_22, g37_23, g37_24, g37_25, g37_26, g37_27, g37_28, g37_29, g37_30, g37_31, g37_32, g37_33, r37_0, r37_1, r37_2⟩ := hQ37
 have N37 := Fr.app N2 M37
 have z37 := K37.1
 have lt_g37_0 := vG g37_0
 have lt_g37_1 := eG g37_1
 have lt_g37_5 := vG g37_5
 have lt_g37_6 := eG g37_6
 have lt_g37_10 := vG g37_10
 have lt_g37_13 := eG g37_13
 have lt_g37_17 := vG g37_17
 have lt_g37_20 := eG g37_20
 have lt_g37_24 := vG g37_24
 have lt_g37_27 := eG g37_27
 have lt_g37_31 := vG g37_31
 refine ob_ (fun _ k => XS.pop X37.here hx rfl (hb hby D33_33) rfl rfl k) ?_
 refine o_al X37 hx hby D33_34 rfl rfl ?_
 have fc38 := (fc6.keep K37 (nS (nS (nS (nS (nS (nS (nS nin0))))))))
 refine o_gf X37 hx hby hZ hown hw 297 rfl Via.refl rfl fc38 D33_35 fun T39 X39 e39 => ?_
 refine o_iL X39 hx hby D33_38 rfl ?_
 refine o_iL X39 hx hby D33_40 rfl ?_
 have q_40 : own_NE ca hl := mN
 have q_41 : own_NE ca ms := mN
 have q_42 : own_NE ca mb := mN
 have q_43 : own_NE ca un := mN
 have q_44 : own_NE ca de := mN
 have q_45 : own_NE ca dq := mN
 have q_46 : own_NE ca dp := mN
 have q_47 : own_NE ca dr := mN
 have q_48 : own_NE ca sp := mN
 have q_49 : own_NE ca ch := mN
 have q_50 : own_NE ca xa := mN
 have fc40 := ((Pm12.keep K2 (nT q_43 (nT q_42 (nT q_41 (nT q_40 nin0))))).keep K37 (nT q_50 (nT q_49 (nT q_48 (nT q_47 (nT q_46 (nT q_45 (nT q_44 nin0))))))))
 have Vw41 : Arv Z T37.heap ca kca .boolean (16 : Int32) [v0_] v0_ := fc40.pad (pad_rep [] v0_ 1)
 obtain ⟨cl42, Ar42, q42, S42, M42, H42, G42⟩ := (id Vw41)
 have hin42 : ¬ ((0 : Int32) < 0 ∨ cl42.slots.size ≤ ((0 : Int32)).toNatClampNeg) := inb_of S42 ⟨by decide, by decide⟩
 obtain ⟨T42, h42, X42, e42, W42, st42⟩ := stZ X39 hx hZ e39 Ar42 (j := (0 : Int32)) hin42 (g := (mkF m 42 #[.val (.ref ds), .val (.ref xd), .val (.int (-1 : Int32)), .val (.int ee), .val (.int co), .val v0_] [(.int co), v0_, (.ref ca)])) rfl rfl (hb hby D33_42)
 refine ob_ st42 ?_
 rw [own_nar_b hco] at W42
 have z42 := W42.size
 have N42 := Fr.snoc X42 N37 (by omega)
 have Vw42 : Arv Z h42 ca kca .boolean (16 : Int32) [(.int co)] v0_ := Arv.set Ar42 q42 S42 M42 H42 G42 (own_fits_b hco) W42 0 rfl (Nat.le_of_ble_eq_true rfl)
 refine o_iL X42 hx hby D33_43 rfl ?_
 have fc43 := (g37_0.other W42 (uS q_50))
 have fc44 := (g37_1.wr W42)
 have fc45 := (g37_2.other W42 (Or.inl (uS q_45)))
 have fc46 := (g37_3.other W42 (Or.inl (uS q_45)))
 have fc47 := (g37_4.other W42 (Or.inl (uS q_45)))
 have fc48 := (g37_5.other W42 (uS q_44))
 have fc49 := ((g2_0.keep K37).wr W42)
 have q_51 : un ∉ [xa, ch, sp, dr, dp, dq, de] := nT q_10 (nT (uS q_14) (nT (uS q_19) (nT (uS q_24) (nT (uS q_29) (nT (uS q_34) (nT (uS q_39) nin0))))))
 have fc50 := ((g2_1.keep K37 q_51).other W42 (Or.inl (uS q_43)))
 have fc51 := ((g2_2.keep K37 q_51).other W42 (Or.inl (uS q_43)))
 have fc52 := ((g2_3.keep K37 q_51).other W42 (Or.inl (uS q_43)))
 have fc53 := ((g2_4.keep K37 q_51).other W42 (Or.inl (uS q_43)))
 have fc54 := ((g2_5.keep K37 (nT q_8 (nT (uS q_12) (nT q_17 (nT (uS q_22) (nT (uS q_27) (nT (uS q_32) (nT (uS q_37) nin0)))))))).other W42 (uS q_41))
 have fc55 := ((g2_6.keep K37 (nT q_7 (nT (uS q_11) (nT q_16 (nT (uS q_21) (nT (uS q_26) (nT (uS q_31) (nT (uS q_36) nin0)))))))).other W42 (uS q_40))
 have fc56 := (g37_6.wr W42)
 have fc57 := (g37_7.other W42 (Or.inl (uS q_49)))
 have fc58 := (g37_8.other W42 (Or.inl (uS q_49)))
 have fc59 := (g37_9.other W42 (Or.inl (uS q_49)))
 have q_52 : own_NE ca da_37 := mN
 have fc60 := (g37_10.other W42 (uS q_52))
 have fc61 := (g37_11.wr W42)
 have fc62 := (g37_12.wr W42)
 have fc63 := (g37_13.wr W42)
 have fc64 := (g37_14.other W42 (Or.inl (uS q_48)))
 have fc65 := (g37_15.other W42 (Or.inl (uS q_48)))
 have fc66 := (g37_16.other W42 (Or.inl (uS q_48)))
 have q_53 : own_NE ca db_37 := mN
 have fc67 := (g37_17.other W42 (uS q_53))
 have fc68 := (g37_18.wr W42)
 have fc69 := (g37_19.wr W42)
 have fc70 := (g37_20.wr W42)
 have fc71 := (g37_21.other W42 (Or.inl (uS q_47)))
 have fc72 := (g37_22.other W42 (Or.inl (uS q_47)))
 have fc73 := (g37_23.other W42 (Or.inl (uS q_47)))
 have q_54 : own_NE ca dc_37 := mN
 have fc74 := (g37_24.other W42 (uS q_54))
 have fc75 := (g37_25.wr W42)
 have fc76 := (g37_26.wr W42)
 have fc77 := (g37_27.wr W42)
 have fc78 := (g37_28.other W42 (Or.inl (uS q_46)))
 have fc79 := (g37_29.other W42 (Or.inl (uS q_46)))
 have fc80 := (g37_30.other W42 (Or.inl (uS q_46)))
 have q_55 : own_NE ca dg_37 := mN
 have fc81 := (g37_31.other W42 (uS q_55))
 have fc82 := (g37_32.wr W42)
 have fc83 := (g37_33.wr W42)
 have fc84 := ((g2_7.keep K37).wr W42)
 have q_56 : mb ∉ [xa, ch, sp, dr, dp, dq, de] := nT q_9 (nT (uS q_13) (nT q_18 (nT (uS q_23) (nT (uS q_28) (nT (uS q_33) (nT (uS q_38) nin0))))))
 have fc85 := ((g2_8.keep K37 q_56).other W42 (Or.inl (uS q_42)))
 have fc86 := ((g2_9.keep K37 q_56).other W42 (Or.inl (uS q_42)))
 have fc87 := ((g2_10.keep K37 q_56).other W42 (Or.inl (uS q_42)))
 have q_57 : own_NE de oo_2 := mN
 have q_58 : own_NE dq oo_2 := mN
 have q_59 : own_NE dp oo_2 := mN
 have q_60 : own_NE dr oo_2 := mN
 have q_61 : own_NE oo_2 sp := mN
 have q_62 : own_NE ch oo_2 := mN
 have q_63 : own_NE oo_2 xa := mN
 have q_64 : oo_2 ∉ [xa, ch, sp, dr, dp, dq, de] := nT q_63 (nT (uS q_62) (nT q_61 (nT (uS q_60) (nT (uS q_59) (nT (uS q_58) (nT (uS q_57) nin0))))))
 have q_65 : own_NE ca oo_2 := mN
 have fc88 := ((g2_11.keep K37 q_64).other W42 (uS q_65))
 have fc89 := ((g2_12.keep K37).wr W42)
 have fc90 := ((g2_13.keep K37).wr W42)
 have K91 : Keep h0 h42 [xa, ch, sp, dr, dp, dq, de, un, mb, ms, hl, ca] := ((((Keep.refl h0 [xa, ch, sp, dr, dp, dq, de, un, mb, ms, hl, ca]).trans K2 (kI 7 rfl (kI 8 rfl (kI 9 rfl (kI 10 rfl all0))))).trans K37 (kI 0 rfl (kI 1 rfl (kI 2 rfl (kI 3 rfl (kI 4 rfl (kI 5 rfl (kI 6 rfl all0)))))))).wr W42 (Or.inl (List.mem_of_getElem? (i := 11) rfl)))
 exact o_ri Bd X42 hx hby e42 D33_45 ⟨tq_37, wq_37, da_37, db_37, dc_37, dg_37, kda_37, kdb_37, kdc_37, kdg_37, cda_37, cdb_37, cdc_37, cdg_37, vda_37, vdb_37, vdc_37, vdg_37, mda_37, mdb_37, mdc_37, mdg_37, oo_2, kn_2, vz_2, rfl, N42, K91, fc43, Vw42, fc44, fc45, fc46, fc47, fc48, fc49, fc50, fc51, fc52, fc53, fc54, fc55, fc56, fc57, fc58, fc59, fc60, fc61, fc62, fc63, fc64, fc65, fc66, fc67, fc68, fc69, fc70, fc71, fc72, fc73, fc74, fc75, fc76, fc77, fc78, fc79, fc80, fc81, fc82, fc83, fc84, fc85, fc86, fc87, fc88, fc89, fc90, r37_0, r37_1, (by omega), r2_0, (by omega)⟩
def Q_rm_rec10 (Z : State) (ds un xa : Addr) (kxa : ClassId) (ca : Addr) (kca : ClassId) (dq de : Addr) (kde : ClassId) (ee co md : Int32) (mb ms : Addr) (kms : ClassId) (hl : Addr) (khl : ClassId) (xd cq dce : Addr) (kce : ClassId) (el ele : Addr) (kele : ClassId) (ci : Addr) (cci : Cell) (xp cp_ tz : Int32) (wl : List Value) (dd : Addr) (kd : ClassId) (vv : List Value) (h0 : Heap) (n0 : Nat) (v : Option Value) (h : Heap) (L : List Loc) : Prop := ∃ (tq : Int32) (wq : List Value), v = some v1_ ∧ Fr n0 L ∧ Keep h0 h [xa, dq, de, un, mb, ms, hl, ca, dd] ∧ Arv Z h xa kxa .boolean (16 : Int32) [(.int xp), (.int ee)] v0_ ∧ Arv Z h ca kca .boolean (16 : Int32) [(.int cp_), (.int co)] v0_ ∧ Exa Z h dq s57_ ∧ f34_ Z h dq v0_ ∧ f35_ Z h dq (.int tq) ∧ f33_ Z h dq (.ref de) ∧ Arv Z h de kde (.object s7_) (17 : Int32) wq .null ∧ Exa Z h un s38_ ∧ f27_ Z h un (.ref mb) ∧ f26_ Z h un (.ref ms) ∧ f25_ Z h un (.ref hl) ∧ f28_ Z h un (.int (2 : Int32)) ∧ Arv Z h ms kms .long (16 : Int32) [(.long (0 : Int64)), (.long (0 : Int64))] (.long (0 : Int64)) ∧ Arv Z h hl khl .boolean (16 : Int32) [v1_, v1_] v0_ ∧ own_w1 Z ee tz wl tq wq
theorem rm_rec10 (l : Launch) (Z : State) (a0 : Array Value) (hw : own_Wd Z a0) (ws : List Jvm.Cond) (ds un xa : Addr) (kxa : ClassId) (ca : Addr) (kca : ClassId) (dq de : Addr) (kde : ClassId) (ee co md : Int32) (mb ms : Addr) (kms : ClassId) (hl : Addr) (khl : ClassId) (xd cq dce : Addr) (kce : ClassId) (el ele : Addr) (kele : ClassId) (ci : Addr) (cci : Cell) (xp cp_ tz : Int32) (wl : List Value) (dd : Addr) (kd : ClassId) (vv : List Value) (h0 : Heap) (n0 : Nat) (O0 : Old Z n0 h0) (S_DCE : Sta Z Z.heap s4_ s8_ s9_ (.ref dce)) (A_DCE : Arv Z Z.heap dce kce (.object s7_) (0 : Int32) [] .null) (E_DCE : Exa Z Z.heap dce s9_) (S_EL : Sta Z Z.heap s25_ "EMPTY_LIST" s26_ (.ref el)) (E_EL : Exa Z Z.heap el s29_) (F_EL : f3_ Z Z.heap el (.ref ele)) (A_EL : Arv Z Z.heap ele kele (.object s7_) (0 : Int32) [] .null) (S_high : Sta Z Z.heap s65_ "high" "I" (.int (127 : Int32))) (S_icache : Sta Z Z.heap s65_ "cache" s66_ (.ref ci)) (Bxi : Bxs Z ci cci s63_ "I" (256 : Int32) (fun j => .int (j - 128))) (Pm0 : Exa Z h0 ds s37_) (Pm1 : f23_ Z h0 ds (.ref un)) (Pm2 : f19_ Z h0 ds (.ref xa)) (Pm3 : f16_ Z h0 ds (.ref ca)) (Pm4 : f24_ Z h0 ds (.ref dq)) (Pm5 : f20_ Z h0 ds v0_) (Pm6 : Arv Z h0 xa kxa .boolean (16 : Int32) [(.int xp)] v0_) (Pm7 : Arv Z h0 ca kca .boolean (16 : Int32) [(.int cp_)] v0_) (Pm8 : Exa Z h0 un s38_) (Pm9 : f27_ Z h0 un (.ref mb)) (Pm10 : f26_ Z h0 un (.ref ms)) (Pm11 : f25_ Z h0 un (.ref hl)) (Pm12 : f28_ Z h0 un v1_) (Pm13 : Arv Z h0 ms kms .long (16 : Int32) [(.long (0 : Int64))] (.long (0 : Int64))) (Pm14 : Arv Z h0 hl khl .boolean (16 : Int32) [v1_] v0_) (Pm15 : Exa Z h0 xd s34_) (Pm16 : f12_ Z h0 xd (.ref cq)) (Pm17 : Exa Z h0 cq s2_) (Pm18 : f8_ Z h0 cq (.long (0 : Int64))) (Pm19 : Exa Z h0 dq s57_) (Pm20 : f34_ Z h0 dq v0_) (Pm21 : f35_ Z h0 dq (.int tz)) (Pm22 : f33_ Z h0 dq (.ref de)) (Pm23 : Arv Z h0 de kde (.object s7_) (17 : Int32) wl .null) (Pm24 : Exa Z h0 mb s4_) (Pm25 : f32_ Z h0 mb v1_) (Pm26 : f36_ Z h0 mb (.int md)) (Pm27 : f31_ Z h0 mb (.ref dd)) (Pm28 : Arv Z h0 dd kd (.object s7_) (10 : Int32) vv .null) (Pm29 : Exa Z h0 dd s9_) (Pm30 : own_obs Z h0 vv) (gt_ds : n0 ≤ ds) (hch : own_asc [ds, un, mb, ms, hl, xa, ca, dq, de, dd]) (ovq : Ovr Z kde s7_) (hee : ee = 0 ∨ ee = 1) (hco : co = 0 ∨ co = 1) (hwl : (tz = 0 ∧ wl = []) ∨ (tz = 1 ∧ ∃ wa, wl = [.ref wa])) (ovd : Ovr Z kd s7_) :
  own_M l Z ws y54_ prog_12_method_4_code 6 (some .int) ({ frames := 4, cells := 0, slots := 0, locals := 56 } : Room) #[(.ref ds), (.ref xd), (.int (-1 : Int32)), (.int ee), (.int co)] h0 (Q_rm_rec10 Z ds un xa kxa ca kca dq de kde ee co md mb ms kms hl khl xd cq dce kce el ele kele ci cci xp cp_ tz wl dd kd vv h0 n0) := by
 refine own_open O0 (plainFor_of_name pn20_) (L0 := #[.val (.ref ds), .val (.ref xd), .val (.int (-1 : Int32)), .val (.int ee), .val (.int co), .unset]) ?_
 intro p e s m below meth c s₁ Bd hx hby hml hZ hh hown hnm X0 e0 N0 Z0
 have hq_hch := hch
 simp only [own_asc] at hq_hch
 have lt_Pm0 := eG Pm0
 have lt_Pm6 := vG Pm6
 have lt_Pm7 := vG Pm7
 have lt_Pm8 := eG Pm8
 have lt_Pm13 := vG Pm13
 have lt_Pm14 := vG Pm14
 have lt_Pm15 := eG Pm15
 have lt_Pm17 := eG Pm17
 have lt_Pm19 := eG Pm19
 have lt_Pm23 := vG Pm23
 have lt_Pm24 := eG Pm24
 have lt_Pm28 := vG Pm28
 refine o_il X0 hx hby D33_0 rfl ?_
 refine ob_ (fun _ k => XS.ifNo X0.here hx rfl (hb hby D33_1) rfl ((if0 _ _).trans (tlt (by decide : (-1 : Int32) < (0 : Int32))).2.1) k) ?_
 refine o_al X0 hx hby D33_4 rfl rfl ?_
 refine o_gf X0 hx hby hZ hown hw 293 rfl Via.refl e0 Pm1 D33_5 fun T1 X1 e1 => ?_
 refine o_al X1 hx hby D33_8 rfl rfl ?_
 have q_1 : own_LE n0 un := mL
 obtain ⟨cq2, kq2, q2a, q2b, q2c⟩ := isOf hZ e1 Pm8
 refine o_k 3 (X1.virtualBack hx (y := y39_) (z := y39_) hown (mw hZ hw 333 rfl) (mw hZ hw 334 rfl) (notFace_of_selects (args := #[]) (mw hZ hw 336 rfl)) (mw hZ hw 336 rfl) (mw hZ hw 335 rfl) (by decide) (bk 0 hZ hw 337 182 (rm_ada1 l Z a0 hw [] un md mb ms kms hl khl dd kd vv xd cq dce kce h0 n0 O0 S_DCE A_DCE E_DCE Pm8 Pm9 Pm10 Pm11 Pm12 Pm13 Pm14 Pm24 Pm25 Pm26 Pm27 Pm28 Pm29 Pm30 Pm15 Pm16 Pm17 Pm18 q_1 (by simp only [own_asc, and_true]; omega) ovd)) q2a q2c (g := (mkF m 9 #[.val (.ref ds), .val (.ref xd), .val (.int (-1 : Int32)), .val (.int ee), .val (.int co), .unset] [(.ref xd), (.ref un)])) rfl hml.symm (Steps.refl _) (argsL := [(.ref xd)]) (rest := []) (lenOf pd26_ rfl) rfl own_z (hb hby D33_9) (o4 e1 0 0 0 0)) fun T2 Lc2 _ X2 hQ2 => ?_
 obtain ⟨rfl, M2, K2, g2_0, g2_1, g2_2, g2_3, g2_4, g2_5, g2_6⟩ := hQ2
 have N2 := Fr.app N0 M2
 have z2 := K2.1
 have lt_g2_0 := eG g2_0
 have lt_g2_5 := vG g2_5
 have lt_g2_6 := vG g2_6
 refine ob_ (fun _ k => XS.goto X2.here hx rfl (pc0 := 12) (pc' := 24) rfl (hb hby D33_12) (by decide) (by decide) k) ?_
 refine ob_ (fun _ k => XS.istore X2.here hx rfl (hb hby D33_24) rfl (l' := #[.val (.ref ds), .val (.ref xd), .val (.int (-1 : Int32)), .val (.int ee), .val (.int co), .val v1_]) rfl k) ?_
 refine o_al X2 hx hby D33_26 rfl rfl ?_
 refine o_iL X2 hx hby D33_27 rfl ?_
 refine o_il X2 hx hby D33_29 rfl ?_
 have fc3 := (Pm0.keep K2)
 have q_2 : own_NE dd ds := mN
 have q_3 : own_NE ds hl := mN
 have q_4 : own_NE ds ms := mN
 have q_5 : own_NE ds mb := mN
 have q_6 : own_NE ds un := mN
 have q_7 : ds ∉ [un, mb, ms, hl, dd] := nT q_6 (nT q_5 (nT q_4 (nT q_3 (nT (uS q_2) nin0))))
 have fc4 := (Pm1.keep K2 q_7)
 have fc5 := (Pm2.keep K2 q_7)
 have fc6 := (Pm3.keep K2 q_7)
 have fc7 := (Pm4.keep K2 q_7)
 have fc8 := (Pm5.keep K2 q_7)
 have q_8 : own_NE hl xa := mN
 have q_9 : own_NE ms xa := mN
 have q_10 : own_NE un xa := mN
 have fc9 := (Pm6.keep K2 (nT (uS q_10) (nS (nT (uS q_9) (nT (uS q_8) (nS nin0))))))
 have fc10 := (Pm19.keep K2)
 have q_11 : own_NE dd dq := mN
 have q_12 : own_NE dq hl := mN
 have q_13 : own_NE dq ms := mN
 have q_14 : own_NE dq mb := mN
 have q_15 : own_NE dq un := mN
 have q_16 : dq ∉ [un, mb, ms, hl, dd] := nT q_15 (nT q_14 (nT q_13 (nT q_12 (nT (uS q_11) nin0))))
 have fc11 := (Pm20.keep K2 q_16)
 have fc12 := (Pm21.keep K2 q_16)
 have fc13 := (Pm22.keep K2 q_16)
 have q_17 : own_NE de hl := mN
 have q_18 : own_NE de ms := mN
 have q_19 : own_NE de un := mN
 have fc14 := (Pm23.keep K2 (nT q_19 (nS (nT q_18 (nT q_17 (nS nin0))))))
 have O15 : Old Z n0 T2.heap := (O0.keep K2 (allS q_1 (allS (by omega) (allS (by omega) (allS (by omega) (allS (by omega) all0))))))
 obtain ⟨cq16, q16, q16'⟩ := fc3.cell
 refine o_k 3 (X2.privateBack hx (y := y52_) hown (mw hZ hw 356 rfl) (mw hZ hw 357 rfl) (own_selp (z := y54_) (mw hZ hw 331 rfl) rfl (Cond.privateMethod_at (mvP hZ (w_ hw 358 rfl) (args := #[]))) (mw hZ hw 357 rfl) (by decide)) (Cond.privateMethod_at (mvP hZ (w_ hw 358 rfl) (args := #[]))) (mw hZ hw 359 rfl) (by decide) (bk 0 hZ hw 359 175 (rm_adm10 l Z a0 hw [] ds un xa kxa ca dq de kde ee dce kce el ele kele ci cci xp tz wl T2.heap n0 O15 S_DCE A_DCE E_DCE S_EL E_EL F_EL A_EL S_high S_icache Bxi fc3 fc4 fc5 fc6 fc7 fc8 fc9 fc10 fc11 fc12 fc13 fc14 gt_ds (by simp only [own_asc, and_true]; omega) ovq hee hwl)) (g := (mkF m 30 #[.val (.ref ds), .val (.ref xd), .val (.int (-1 : Int32)), .val (.int ee), .val (.int co), .val v1_] [(.int ee), v1_, (.ref ds)])) rfl hml.symm (Steps.refl _) (a := ds) q16 q16' (argsL := [v1_, (.int ee)]) (rest := []) (lenOf pd27_ rfl) rfl own_z (hb hby D33_30) (o4 rfl 0 0 0 0)) fun T16 Lc16 _ X16 hQ16 => ?_
 obtain ⟨tq_16, wq_16, rfl, M16, K16, g16_0, g16_1, g16_2, g16_3, g16_4, g16_5, r16_0⟩ := hQ16
 have N16 := Fr.app N2 M16
 have z16 := K16.1
 have lt_g16_0 := vG g16_0
 have lt_g16_1 := eG g16_1
 have lt_g16_5 := vG g16_5
 refine ob_ (fun _ k => XS.pop X16.here hx rfl (hb hby D33_33) rfl rfl k) ?_
 refine o_al X16 hx hby D33_34 rfl rfl ?_
 have fc17 := (fc6.keep K16 (nS (nS (nS nin0))))
 refine o_gf X16 hx hby hZ hown hw 297 rfl Via.refl rfl fc17 D33_35 fun T18 X18 e18 => ?_
 refine o_iL X18 hx hby D33_38 rfl ?_
 refine o_iL X18 hx hby D33_40 rfl ?_
 have q_20 : own_NE ca hl := mN
 have q_21 : own_NE ca ms := mN
 have q_22 : own_NE ca un := mN
 have q_23 : own_NE ca de := mN
 have q_24 : own_NE ca dq := mN
 have q_25 : own_NE ca xa := mN
 have fc19 := ((Pm7.keep K2 (nT q_22 (nS (nT q_21 (nT q_20 (nS nin0)))))).keep K16 (nT q_25 (nT q_24 (nT q_23 nin0))))
 have Vw20 : Arv Z T16.heap ca kca .boolean (16 : Int32) [(.int cp_), v0_] v0_ := fc19.pad (pad_rep [(.int cp_)] v0_ 1)
 obtain ⟨cl21, Ar21, q21, S21, M21, H21, G21⟩ := (id Vw20)
 have hin21 : ¬ ((1 : Int32) < 0 ∨ cl21.slots.size ≤ ((1 : Int32)).toNatClampNeg) := inb_of S21 ⟨by decide, by decide⟩
 obtain ⟨T21, h21, X21, e21, W21, st21⟩ := stZ X18 hx hZ e18 Ar21 (j := (1 : Int32)) hin21 (g := (mkF m 42 #[.val (.ref ds), .val (.ref xd), .val (.int (-1 : Int32)), .val (.int ee), .val (.int co), .val v1_] [(.int co), v1_, (.ref ca)])) rfl rfl (hb hby D33_42)
 refine ob_ st21 ?_
 rw [own_nar_b hco] at W21
 have z21 := W21.size
 have N21 := Fr.snoc X21 N16 (by omega)
 have Vw21 : Arv Z h21 ca kca .boolean (16 : Int32) [(.int cp_), (.int co)] v0_ := Arv.set Ar21 q21 S21 M21 H21 G21 (own_fits_b hco) W21 1 rfl (Nat.le_of_ble_eq_true rfl)
 refine o_iL X21 hx hby D33_43 rfl ?_
 have fc22 := (g16_0.other W21 (uS q_25))
 have fc23 := (g16_1.wr W21)
 have fc24 := (g16_2.other W21 (Or.inl (uS q_24)))
 have fc25 := (g16_3.other W21 (Or.inl (uS q_24)))
 have fc26 := (g16_4.other W21 (Or.inl (uS q_24)))
 have fc27 := (g16_5.other W21 (uS q_23))
 have fc28 := ((g2_0.keep K16).wr W21)
 have q_26 : un ∉ [xa, dq, de] := nT q_10 (nT (uS q_15) (nT (uS q_19) nin0))
 have fc29 := ((g2_1.keep K16 q_26).other W21 (Or.inl (uS q_22)))
 have fc30 := ((g2_2.keep K16 q_26).other W21 (Or.inl (uS q_22)))
 have fc31 := ((g2_3.keep K16 q_26).other W21 (Or.inl (uS q_22)))
 have fc32 := ((g2_4.keep K16 q_26).other W21 (Or.inl (uS q_22)))
 have fc33 := ((g2_5.keep K16 (nT q_9 (nT (uS q_13) (nT (uS q_18) nin0)))).other W21 (uS q_21))
 have fc34 := ((g2_6.keep K16 (nT q_8 (nT (uS q_12) (nT (uS q_17) nin0)))).other W21 (uS q_20))
 have K35 : Keep h0 h21 [xa, dq, de, un, mb, ms, hl, ca, dd] := ((((Keep.refl h0 [xa, dq, de, un, mb, ms, hl, ca, dd]).trans K2 (kI 3 rfl (kI 4 rfl (kI 5 rfl (kI 6 rfl (kI 8 rfl all0)))))).trans K16 (kI 0 rfl (kI 1 rfl (kI 2 rfl all0)))).wr W21 (Or.inl (List.mem_of_getElem? (i := 7) rfl)))
 exact o_ri Bd X21 hx hby e21 D33_45 ⟨tq_16, wq_16, rfl, N21, K35, fc22, Vw21, fc23, fc24, fc25, fc26, fc27, fc28, fc29, fc30, fc31, fc32, fc33, fc34, r16_0⟩
def Q_rm_rec11 (Z : State) (ds un xa : Addr) (kxa : ClassId) (ca : Addr) (kca : ClassId) (dq de : Addr) (kde : ClassId) (ee co md ax : Int32) (ch sp dr dp mb ms : Addr) (kms : ClassId) (hl : Addr) (khl : ClassId) (xd cq dce : Addr) (kce : ClassId) (el ele : Addr) (kele : ClassId) (ci : Addr) (cci : Cell) (xp cp_ tz : Int32) (wl : List Value) (dd : Addr) (kd : ClassId) (vv : List Value) (da db dc dg : Addr) (kda kdb kdc kdg : ClassId) (vda vdb vdc vdg : List Value) (mda mdb mdc mdg : Int32) (h0 : Heap) (n0 : Nat) (v : Option Value) (h : Heap) (L : List Loc) : Prop := ∃ (tq : Int32) (wq : List Value), v = some v1_ ∧ Fr n0 L ∧ Keep h0 h [xa, ch, sp, dr, dp, da, db, dc, dg, dq, de, un, mb, ms, hl, ca, dd] ∧ Arv Z h xa kxa .boolean (16 : Int32) [(.int xp), (.int ee)] v0_ ∧ Arv Z h ca kca .boolean (16 : Int32) [(.int cp_), (.int co)] v0_ ∧ Exa Z h dq s57_ ∧ f34_ Z h dq v0_ ∧ f35_ Z h dq (.int tq) ∧ f33_ Z h dq (.ref de) ∧ Arv Z h de kde (.object s7_) (17 : Int32) wq .null ∧ Exa Z h un s38_ ∧ f27_ Z h un (.ref mb) ∧ f26_ Z h un (.ref ms) ∧ f25_ Z h un (.ref hl) ∧ f28_ Z h un (.int (2 : Int32)) ∧ Arv Z h ms kms .long (16 : Int32) [(.long (0 : Int64)), (.long (0 : Int64))] (.long (0 : Int64)) ∧ Arv Z h hl khl .boolean (16 : Int32) [v1_, v1_] v0_ ∧ own_w1 Z ee tz wl tq wq
theorem rm_rec11 (l : Launch) (Z : State) (a0 : Array Value) (hw : own_Wd Z a0) (ws : List Jvm.Cond) (ds un xa : Addr) (kxa : ClassId) (ca : Addr) (kca : ClassId) (dq de : Addr) (kde : ClassId) (ee co md ax : Int32) (ch sp dr dp mb ms : Addr) (kms : ClassId) (hl : Addr) (khl : ClassId) (xd cq dce : Addr) (kce : ClassId) (el ele : Addr) (kele : ClassId) (ci : Addr) (cci : Cell) (xp cp_ tz : Int32) (wl : List Value) (dd : Addr) (kd : ClassId) (vv : List Value) (da db dc dg : Addr) (kda kdb kdc kdg : ClassId) (vda vdb vdc vdg : List Value) (mda mdb mdc mdg : Int32) (h0 : Heap) (n0 : Nat) (O0 : Old Z n0 h0) (S_DCE : Sta Z Z.heap s4_ s8_ s9_ (.ref dce)) (A_DCE : Arv Z Z.heap dce kce (.object s7_) (0 : Int32) [] .null) (E_DCE : Exa Z Z.heap dce s9_) (S_EL : Sta Z Z.heap s25_ "EMPTY_LIST" s26_ (.ref el)) (E_EL : Exa Z Z.heap el s29_) (F_EL : f3_ Z Z.heap el (.ref ele)) (A_EL : Arv Z Z.heap ele kele (.object s7_) (0 : Int32) [] .null) (S_high : Sta Z Z.heap s65_ "high" "I" (.int (127 : Int32))) (S_icache : Sta Z Z.heap s65_ "cache" s66_ (.ref ci)) (Bxi : Bxs Z ci cci s63_ "I" (256 : Int32) (fun j => .int (j - 128))) (Pm0 : Exa Z h0 ds s37_) (Pm1 : f23_ Z h0 ds (.ref un)) (Pm2 : f19_ Z h0 ds (.ref xa)) (Pm3 : f16_ Z h0 ds (.ref ca)) (Pm4 : f24_ Z h0 ds (.ref dq)) (Pm5 : f20_ Z h0 ds v1_) (Pm6 : f14_ Z h0 ds (.int ax)) (Pm7 : f15_ Z h0 ds (.ref ch)) (Pm8 : f22_ Z h0 ds (.ref sp)) (Pm9 : f17_ Z h0 ds (.ref dr)) (Pm10 : f18_ Z h0 ds (.ref dp)) (Pm11 : Arv Z h0 xa kxa .boolean (16 : Int32) [(.int xp)] v0_) (Pm12 : Arv Z h0 ca kca .boolean (16 : Int32) [(.int cp_)] v0_) (Pm13 : Exa Z h0 un s38_) (Pm14 : f27_ Z h0 un (.ref mb)) (Pm15 : f26_ Z h0 un (.ref ms)) (Pm16 : f25_ Z h0 un (.ref hl)) (Pm17 : f28_ Z h0 un v1_) (Pm18 : Arv Z h0 ms kms .long (16 : Int32) [(.long (0 : Int64))] (.long (0 : Int64))) (Pm19 : Arv Z h0 hl khl .boolean (16 : Int32) [v1_] v0_) (Pm20 : Exa Z h0 xd s34_) (Pm21 : f12_ Z h0 xd (.ref cq)) (Pm22 : Exa Z h0 cq s2_) (Pm23 : f8_ Z h0 cq (.long (0 : Int64))) (Pm24 : Exa Z h0 ch s4_) (Pm25 : f32_ Z h0 ch v1_) (Pm26 : f36_ Z h0 ch (.int mda)) (Pm27 : f31_ Z h0 ch (.ref da)) (Pm28 : Arv Z h0 da kda (.object s7_) (10 : Int32) vda .null) (Pm29 : Exa Z h0 da s9_) (Pm30 : own_obs Z h0 vda) (Pm31 : Exa Z h0 sp s4_) (Pm32 : f32_ Z h0 sp v1_) (Pm33 : f36_ Z h0 sp (.int mdb)) (Pm34 : f31_ Z h0 sp (.ref db)) (Pm35 : Arv Z h0 db kdb (.object s7_) (10 : Int32) vdb .null) (Pm36 : Exa Z h0 db s9_) (Pm37 : own_obs Z h0 vdb) (Pm38 : Exa Z h0 dr s4_) (Pm39 : f32_ Z h0 dr v1_) (Pm40 : f36_ Z h0 dr (.int mdc)) (Pm41 : f31_ Z h0 dr (.ref dc)) (Pm42 : Arv Z h0 dc kdc (.object s7_) (10 : Int32) vdc .null) (Pm43 : Exa Z h0 dc s9_) (Pm44 : own_obs Z h0 vdc) (Pm45 : Exa Z h0 dp s4_) (Pm46 : f32_ Z h0 dp v1_) (Pm47 : f36_ Z h0 dp (.int mdg)) (Pm48 : f31_ Z h0 dp (.ref dg)) (Pm49 : Arv Z h0 dg kdg (.object s7_) (10 : Int32) vdg .null) (Pm50 : Exa Z h0 dg s9_) (Pm51 : own_obs Z h0 vdg) (Pm52 : Exa Z h0 dq s57_) (Pm53 : f34_ Z h0 dq v0_) (Pm54 : f35_ Z h0 dq (.int tz)) (Pm55 : f33_ Z h0 dq (.ref de)) (Pm56 : Arv Z h0 de kde (.object s7_) (17 : Int32) wl .null) (Pm57 : Exa Z h0 mb s4_) (Pm58 : f32_ Z h0 mb v1_) (Pm59 : f36_ Z h0 mb (.int md)) (Pm60 : f31_ Z h0 mb (.ref dd)) (Pm61 : Arv Z h0 dd kd (.object s7_) (10 : Int32) vv .null) (Pm62 : Exa Z h0 dd s9_) (Pm63 : own_obs Z h0 vv) (gt_ds : n0 ≤ ds) (hch : own_asc [ds, un, mb, ms, hl, xa, ca, ch, sp, dr, dp, dq, de, dd, da, db, dc, dg]) (ovq : Ovr Z kde s7_) (hee : ee = 0 ∨ ee = 1) (hco : co = 0 ∨ co = 1) (hwl : (tz = 0 ∧ wl = []) ∨ (tz = 1 ∧ ∃ wa, wl = [.ref wa])) (ovd : Ovr Z kd s7_) (ov_da : Ovr Z kda s7_) (ov_db : Ovr Z kdb s7_) (ov_dc : Ovr Z kdc s7_) (ov_dg : Ovr Z kdg s7_) :
  own_M l Z ws y54_ prog_12_method_4_code 6 (some .int) ({ frames := 5, cells := 9, slots := 61, locals := 64 } : Room) #[(.ref ds), (.ref xd), (.int (-1 : Int32)), (.int ee), (.int co)] h0 (Q_rm_rec11 Z ds un xa kxa ca kca dq de kde ee co md ax ch sp dr dp mb ms kms hl khl xd cq dce kce el ele kele ci cci xp cp_ tz wl dd kd vv da db dc dg kda kdb kdc kdg vda vdb vdc vdg mda mdb mdc mdg h0 n0) := by
 refine own_open O0 (plainFor_of_name pn20_) (L0 := #[.val (.ref ds), .val (.ref xd), .val (.int (-1 : Int32)), .val (.int ee), .val (.int co), .unset]) ?_
 intro p e s m below meth c s₁ Bd hx hby hml hZ hh hown hnm X0 e0 N0 Z0
 have hq_hch := hch
 simp only [own_asc] at hq_hch
 have lt_Pm0 := eG Pm0
 have lt_Pm11 := vG Pm11
 have lt_Pm12 := vG Pm12
 have lt_Pm13 := eG Pm13
 have lt_Pm18 := vG Pm18
 have lt_Pm19 := vG Pm19
 have lt_Pm20 := eG Pm20
 have lt_Pm22 := eG Pm22
 have lt_Pm24 := eG Pm24
 have lt_Pm28 := vG Pm28
 have lt_Pm31 := eG Pm31
 have lt_Pm35 := vG Pm35
 have lt_Pm38 := eG Pm38
 have lt_Pm42 := vG Pm42
 have lt_Pm45 := eG Pm45
 have lt_Pm49 := vG Pm49
 have lt_Pm52 := eG Pm52
 have lt_Pm56 := vG Pm56
 have lt_Pm57 := eG Pm57
 have lt_Pm61 := vG Pm61
 refine o_il X0 hx hby D33_0 rfl ?_
 refine ob_ (fun _ k => XS.ifNo X0.here hx rfl (hb hby D33_1) rfl ((if0 _ _).trans (tlt (by decide : (-1 : Int32) < (0 : Int32))).2.1) k) ?_
 refine o_al X0 hx hby D33_4 rfl rfl ?_
 refine o_gf X0 hx hby hZ hown hw 293 rfl Via.refl e0 Pm1 D33_5 fun T1 X1 e1 => ?_
 refine o_al X1 hx hby D33_8 rfl rfl ?_
 have q_1 : own_LE n0 un := mL
 obtain ⟨cq2, kq2, q2a, q2b, q2c⟩ := isOf hZ e1 Pm13
 refine o_k 3 (X1.virtualBack hx (y := y39_) (z := y39_) hown (mw hZ hw 333 rfl) (mw hZ hw 334 rfl) (notFace_of_selects (args := #[]) (mw hZ hw 336 rfl)) (mw hZ hw 336 rfl) (mw hZ hw 335 rfl) (by decide) (bk 0 hZ hw 337 182 (rm_ada1 l Z a0 hw [] un md mb ms kms hl khl dd kd vv xd cq dce kce h0 n0 O0 S_DCE A_DCE E_DCE Pm13 Pm14 Pm15 Pm16 Pm17 Pm18 Pm19 Pm57 Pm58 Pm59 Pm60 Pm61 Pm62 Pm63 Pm20 Pm21 Pm22 Pm23 q_1 (by simp only [own_asc, and_true]; omega) ovd)) q2a q2c (g := (mkF m 9 #[.val (.ref ds), .val (.ref xd), .val (.int (-1 : Int32)), .val (.int ee), .val (.int co), .unset] [(.ref xd), (.ref un)])) rfl hml.symm (Steps.refl _) (argsL := [(.ref xd)]) (rest := []) (lenOf pd26_ rfl) rfl own_z (hb hby D33_9) (o4 e1 0 0 0 0)) fun T2 Lc2 _ X2 hQ2 => ?_
 obtain ⟨rfl, M2, K2, g2_0, g2_1, g2_2, g2_3, g2_4, g2_5, g2_6⟩ := hQ2
 have N2 := Fr.app N0 M2
 have z2 := K2.1
 have lt_g2_0 := eG g2_0
 have lt_g2_5 := vG g2_5
 have lt_g2_6 := vG g2_6
 refine ob_ (fun _ k => XS.goto X2.here hx rfl (pc0 := 12) (pc' := 24) rfl (hb hby D33_12) (by decide) (by decide) k) ?_
 refine ob_ (fun _ k => XS.istore X2.here hx rfl (hb hby D33_24) rfl (l' := #[.val (.ref ds), .val (.ref xd), .val (.int (-1 : Int32)), .val (.int ee), .val (.int co), .val v1_]) rfl k) ?_
 refine o_al X2 hx hby D33_26 rfl rfl ?_
 refine o_iL X2 hx hby D33_27 rfl ?_
 refine o_il X2 hx hby D33_29 rfl ?_
 have fc3 := (Pm0.keep K2)
 have q_2 : own_NE dd ds := mN
 have q_3 : own_NE ds hl := mN
 have q_4 : own_NE ds ms := mN
 have q_5 : own_NE ds mb := mN
 have q_6 : own_NE ds un := mN
 have q_7 : ds ∉ [un, mb, ms, hl, dd] := nT q_6 (nT q_5 (nT q_4 (nT q_3 (nT (uS q_2) nin0))))
 have fc4 := (Pm1.keep K2 q_7)
 have fc5 := (Pm2.keep K2 q_7)
 have fc6 := (Pm3.keep K2 q_7)
 have fc7 := (Pm4.keep K2 q_7)
 have fc8 := (Pm5.keep K2 q_7)
 have fc9 := (Pm6.keep K2 q_7)
 have fc10 := (Pm7.keep K2 q_7)
 have fc11 := (Pm8.keep K2 q_7)
 have fc12 := (Pm9.keep K2 q_7)
 have fc13 := (Pm10.keep K2 q_7)
 have q_8 : own_NE hl xa := mN
 have q_9 : own_NE ms xa := mN
 have q_10 : own_NE un xa := mN
 have fc14 := (Pm11.keep K2 (nT (uS q_10) (nS (nT (uS q_9) (nT (uS q_8) (nS nin0))))))
 have fc15 := (Pm24.keep K2)
 have q_11 : own_NE ch dd := mN
 have q_12 : own_NE ch hl := mN
 have q_13 : own_NE ch ms := mN
 have q_14 : own_NE ch mb := mN
 have q_15 : own_NE ch un := mN
 have q_16 : ch ∉ [un, mb, ms, hl, dd] := nT q_15 (nT q_14 (nT q_13 (nT q_12 (nT q_11 nin0))))
 have fc16 := (Pm25.keep K2 q_16)
 have fc17 := (Pm26.keep K2 q_16)
 have fc18 := (Pm27.keep K2 q_16)
 have q_17 : own_NE da dd := mN
 have q_18 : own_NE da hl := mN
 have q_19 : own_NE da ms := mN
 have q_20 : own_NE da mb := mN
 have q_21 : own_NE da un := mN
 have q_22 : da ∉ [un, mb, ms, hl, dd] := nT q_21 (nT q_20 (nT q_19 (nT q_18 (nT q_17 nin0))))
 have fc19 := (Pm28.keep K2 q_22)
 have fc20 := (Pm29.keep K2)
 have fc21 := (Pm30.keep K2)
 have fc22 := (Pm31.keep K2)
 have q_23 : own_NE dd sp := mN
 have q_24 : own_NE hl sp := mN
 have q_25 : own_NE ms sp := mN
 have q_26 : own_NE mb sp := mN
 have q_27 : own_NE sp un := mN
 have q_28 : sp ∉ [un, mb, ms, hl, dd] := nT q_27 (nT (uS q_26) (nT (uS q_25) (nT (uS q_24) (nT (uS q_23) nin0))))
 have fc23 := (Pm32.keep K2 q_28)
 have fc24 := (Pm33.keep K2 q_28)
 have fc25 := (Pm34.keep K2 q_28)
 have q_29 : own_NE db dd := mN
 have q_30 : own_NE db hl := mN
 have q_31 : own_NE db ms := mN
 have q_32 : own_NE db mb := mN
 have q_33 : own_NE db un := mN
 have q_34 : db ∉ [un, mb, ms, hl, dd] := nT q_33 (nT q_32 (nT q_31 (nT q_30 (nT q_29 nin0))))
 have fc26 := (Pm35.keep K2 q_34)
 have fc27 := (Pm36.keep K2)
 have fc28 := (Pm37.keep K2)
 have fc29 := (Pm38.keep K2)
 have q_35 : own_NE dd dr := mN
 have q_36 : own_NE dr hl := mN
 have q_37 : own_NE dr ms := mN
 have q_38 : own_NE dr mb := mN
 have q_39 : own_NE dr un := mN
 have q_40 : dr ∉ [un, mb, ms, hl, dd] := nT q_39 (nT q_38 (nT q_37 (nT q_36 (nT (uS q_35) nin0))))
 have fc30 := (Pm39.keep K2 q_40)
 have fc31 := (Pm40.keep K2 q_40)
 have fc32 := (Pm41.keep K2 q_40)
 have q_41 : own_NE dc dd := mN
 have q_42 : own_NE dc hl := mN
 have q_43 : own_NE dc ms := mN
 have q_44 : own_NE dc mb := mN
 have q_45 : own_NE dc un := mN
 have q_46 : dc ∉ [un, mb, ms, hl, dd] := nT q_45 (nT q_44 (nT q_43 (nT q_42 (nT q_41 nin0))))
 have fc33 := (Pm42.keep K2 q_46)
 have fc34 := (Pm43.keep K2)
 have fc35 := (Pm44.keep K2)
 have fc36 := (Pm45.keep K2)
 have q_47 : own_NE dd dp := mN
 have q_48 : own_NE dp hl := mN
 have q_49 : own_NE dp ms := mN
 have q_50 : own_NE dp mb := mN
 have q_51 : own_NE dp un := mN
 have q_52 : dp ∉ [un, mb, ms, hl, dd] := nT q_51 (nT q_50 (nT q_49 (nT q_48 (nT (uS q_47) nin0))))
 have fc37 := (Pm46.keep K2 q_52)
 have fc38 := (Pm47.keep K2 q_52)
 have fc39 := (Pm48.keep K2 q_52)
 have q_53 : own_NE dd dg := mN
 have q_54 : own_NE dg hl := mN
 have q_55 : own_NE dg ms := mN
 have q_56 : own_NE dg mb := mN
 have q_57 : own_NE dg un := mN
 have q_58 : dg ∉ [un, mb, ms, hl, dd] := nT q_57 (nT q_56 (nT q_55 (nT q_54 (nT (uS q_53) nin0))))
 have fc40 := (Pm49.keep K2 q_58)
 have fc41 := (Pm50.keep K2)
 have fc42 := (Pm51.keep K2)
 have fc43 := (Pm52.keep K2)
 have q_59 : own_NE dd dq := mN
 have q_60 : own_NE dq hl := mN
 have q_61 : own_NE dq ms := mN
 have q_62 : own_NE dq mb := mN
 have q_63 : own_NE dq un := mN
 have q_64 : dq ∉ [un, mb, ms, hl, dd] := nT q_63 (nT q_62 (nT q_61 (nT q_60 (nT (uS q_59) nin0))))
 have fc44 := (Pm53.keep K2 q_64)
 have fc45 := (Pm54.keep K2 q_64)
 have fc46 := (Pm55.keep K2 q_64)
 have q_65 : own_NE de hl := mN
 have q_66 : own_NE de ms := mN
 have q_67 : own_NE de un := mN
 have fc47 := (Pm56.keep K2 (nT q_67 (nS (nT q_66 (nT q_65 (nS nin0))))))
 have O48 : Old Z n0 T2.heap := (O0.keep K2 (allS q_1 (allS (by omega) (allS (by omega) (allS (by omega) (allS (by omega) all0))))))
 obtain ⟨cq49, q49, q49'⟩ := fc3.cell
 refine o_k 3 (X2.privateBack hx (y := y52_) hown (mw hZ hw 356 rfl) (mw hZ hw 357 rfl) (own_selp (z := y54_) (mw hZ hw 331 rfl) rfl (Cond.privateMethod_at (mvP hZ (w_ hw 358 rfl) (args := #[]))) (mw hZ hw 357 rfl) (by decide)) (Cond.privateMethod_at (mvP hZ (w_ hw 358 rfl) (args := #[]))) (mw hZ hw 359 rfl) (by decide) (bk 0 hZ hw 359 175 (rm_adm11 l Z a0 hw [] ds un xa kxa ca dq de kde ee ax ch sp dr dp dce kce el ele kele ci cci xp tz wl da db dc dg kda kdb kdc kdg vda vdb vdc vdg mda mdb mdc mdg T2.heap n0 O48 S_DCE A_DCE E_DCE S_EL E_EL F_EL A_EL S_high S_icache Bxi fc3 fc4 fc5 fc6 fc7 fc8 fc9 fc10 fc11 fc12 fc13 fc14 fc15 fc16 fc17 fc18 fc19 fc20 fc21 fc22 fc23 fc24 fc25 fc26 fc27 fc28 fc29 fc30 fc31 fc32 fc33 fc34 fc35 fc36 fc37 fc38 fc39 fc40 fc41 fc42 fc43 fc44 fc45 fc46 fc47 gt_ds (by simp only [own_asc, and_true]; omega) ovq hee hwl ov_da ov_db ov_dc ov_dg)) (g := (mkF m 30 #[.val (.ref ds), .val (.ref xd), .val (.int (-1 : Int32)), .val (.int ee), .val (.int co), .val v1_] [(.int ee), v1_, (.ref ds)])) rfl hml.symm (Steps.refl _) (a := ds) q49 q49' (argsL := [v1_, (.int ee)]) (rest := []) (lenOf pd27_ rfl) rfl own_z (hb hby D33_30) (o4 rfl 0 9 0 61)) fun T49 Lc49 _ X49 hQ49 => ?_
 obtain ⟨tq_49, wq_49, rfl, M49, K49, g49_0, g49_1, g49_2, g49_3, g49_4, g49_5, r49_0⟩ := hQ49
 have N49 := Fr.app N2 M49
 have z49 := K49.1
 have lt_g49_0 := vG g49_0
 have lt_g49_1 := eG g49_1
 have lt_g49_5 := vG g49_5
 refine ob_ (fun _ k => XS.pop X49.here hx rfl (hb hby D33_33) rfl rfl k) ?_
 refine o_al X49 hx hby D33_34 rfl rfl ?_
 have fc50 := (fc6.keep K49 (nS (nS (nS (nS (nS (nS (nS (nS (nS (nS (nS nin0))))))))))))
 refine o_gf X49 hx hby hZ hown hw 297 rfl Via.refl rfl fc50 D33_35 fun T51 X51 e51 => ?_
 refine o_iL X51 hx hby D33_38 rfl ?_
 refine o_iL X51 hx hby D33_40 rfl ?_
 have q_68 : own_NE ca hl := mN
 have q_69 : own_NE ca ms := mN
 have q_70 : own_NE ca un := mN
 have q_71 : own_NE ca de := mN
 have q_72 : own_NE ca dq := mN
 have q_73 : own_NE ca xa := mN
 have fc52 := ((Pm12.keep K2 (nT q_70 (nS (nT q_69 (nT q_68 (nS nin0)))))).keep K49 (nT q_73 (nS (nS (nS (nS (nS (nS (nS (nS (nT q_72 (nT q_71 nin0))))))))))))
 have Vw53 : Arv Z T49.heap ca kca .boolean (16 : Int32) [(.int cp_), v0_] v0_ := fc52.pad (pad_rep [(.int cp_)] v0_ 1)
 obtain ⟨cl54, Ar54, q54, S54, M54, H54, G54⟩ := (id Vw53)
 have hin54 : ¬ ((1 : Int32) < 0 ∨ cl54.slots.size ≤ ((1 : Int32)).toNatClampNeg) := inb_of S54 ⟨by decide, by decide⟩
 obtain ⟨T54, h54, X54, e54, W54, st54⟩ := stZ X51 hx hZ e51 Ar54 (j := (1 : Int32)) hin54 (g := (mkF m 42 #[.val (.ref ds), .val (.ref xd), .val (.int (-1 : Int32)), .val (.int ee), .val (.int co), .val v1_] [(.int co), v1_, (.ref ca)])) rfl rfl (hb hby D33_42)
 refine ob_ st54 ?_
 rw [own_nar_b hco] at W54
 have z54 := W54.size
 have N54 := Fr.snoc X54 N49 (by omega)
 have Vw54 : Arv Z h54 ca kca .boolean (16 : Int32) [(.int cp_), (.int co)] v0_ := Arv.set Ar54 q54 S54 M54 H54 G54 (own_fits_b hco) W54 1 rfl (Nat.le_of_ble_eq_true rfl)
 refine o_iL X54 hx hby D33_43 rfl ?_
 have fc55 := (g49_0.other W54 (uS q_73))
 have fc56 := (g49_1.wr W54)
 have fc57 := (g49_2.other W54 (Or.inl (uS q_72)))
 have fc58 := (g49_3.other W54 (Or.inl (uS q_72)))
 have fc59 := (g49_4.other W54 (Or.inl (uS q_72)))
 have fc60 := (g49_5.other W54 (uS q_71))
 have fc61 := ((g2_0.keep K49).wr W54)
 have q_74 : un ∉ [xa, ch, sp, dr, dp, da, db, dc, dg, dq, de] := nT q_10 (nT (uS q_15) (nT (uS q_27) (nT (uS q_39) (nT (uS q_51) (nT (uS q_21) (nT (uS q_33) (nT (uS q_45) (nT (uS q_57) (nT (uS q_63) (nT (uS q_67) nin0))))))))))
 have fc62 := ((g2_1.keep K49 q_74).other W54 (Or.inl (uS q_70)))
 have fc63 := ((g2_2.keep K49 q_74).other W54 (Or.inl (uS q_70)))
 have fc64 := ((g2_3.keep K49 q_74).other W54 (Or.inl (uS q_70)))
 have fc65 := ((g2_4.keep K49 q_74).other W54 (Or.inl (uS q_70)))
 have fc66 := ((g2_5.keep K49 (nT q_9 (nT (uS q_13) (nT q_25 (nT (uS q_37) (nT (uS q_49) (nT (uS q_19) (nT (uS q_31) (nT (uS q_43) (nT (uS q_55) (nT (uS q_61) (nT (uS q_66) nin0)))))))))))).other W54 (uS q_69))
 have fc67 := ((g2_6.keep K49 (nT q_8 (nT (uS q_12) (nT q_24 (nT (uS q_36) (nT (uS q_48) (nT (uS q_18) (nT (uS q_30) (nT (uS q_42) (nT (uS q_54) (nT (uS q_60) (nT (uS q_65) nin0)))))))))))).other W54 (uS q_68))
 have K68 : Keep h0 h54 [xa, ch, sp, dr, dp, da, db, dc, dg, dq, de, un, mb, ms, hl, ca, dd] := ((((Keep.refl h0 [xa, ch, sp, dr, dp, da, db, dc, dg, dq, de, un, mb, ms, hl, ca, dd]).trans K2 (kI 11 rfl (kI 12 rfl (kI 13 rfl (kI 14 rfl (kI 16 rfl all0)))))).trans K49 (kI 0 rfl (kI 1 rfl (kI 2 rfl (kI 3 rfl (kI 4 rfl (kI 5 rfl (kI 6 rfl (kI 7 rfl (kI 8 rfl (kI 9 rfl (kI 10 rfl all0)))))))))))).wr W54 (Or.inl (List.mem_of_getElem? (i := 15) rfl)))
 exact o_ri Bd X54 hx hby e54 D33_45 ⟨tq_49, wq_49, rfl, N54, K68, fc55, Vw54, fc56, fc57, fc58, fc59, fc60, fc61, fc62, fc63, fc64, fc65, fc66, fc67, r49_0⟩
abbrev dD43 (n : Nat) (i : Instr) (k : Nat) : Prop := decode prog_12_method_10_code n = .ok (i, k)
theorem D43_0 : dD43 0 (.aload_n 0) 1 := by decide +kernel
theorem D43_1 : dD43 1 (.getfield 16) 3 := by decide +kernel
theorem D43_4 : dD43 4 (.iload_n 1) 1 := by decide +kernel
theorem D43_5 : dD43 5 (.iconst 1) 1 := by decide +kernel
theorem D43_6 : dD43 6 .bastore 1 := by decide +kernel
theorem D43_7 : dD43 7 (.aload_n 0) 1 := by decide +kernel
theorem D43_8 : dD43 8 (.getfield 20) 3 := by decide +kernel
theorem D43_11 : dD43 11 (.iload_n 1) 1 := by decide +kernel
theorem D43_12 : dD43 12 (.iload_n 2) 1 := by decide +kernel
theorem D43_13 : dD43 13 (.ifCond .eq 16) 3 := by decide +kernel
theorem D43_16 : dD43 16 (.aload_n 0) 1 := by decide +kernel
theorem D43_17 : dD43 17 (.getfield 23) 3 := by decide +kernel
theorem D43_20 : dD43 20 (.iload_n 1) 1 := by decide +kernel
theorem D43_21 : dD43 21 .baload 1 := by decide +kernel
theorem D43_22 : dD43 22 (.ifCond .ne 7) 3 := by decide +kernel
theorem D43_25 : dD43 25 (.iconst 1) 1 := by decide +kernel
theorem D43_26 : dD43 26 (.goto 4) 3 := by decide +kernel
theorem D43_29 : dD43 29 (.iconst 0) 1 := by decide +kernel
theorem D43_30 : dD43 30 .bastore 1 := by decide +kernel
theorem D43_31 : dD43 31 .return_ 1 := by decide +kernel
def Q_rm_fin0 (Z : State) (ds xa ca lo : Addr) (kxa kca klo : ClassId) (cm x0 x1 c0 c1 l0 l1 : Int32) (h0 : Heap) (n0 : Nat) (v : Option Value) (h : Heap) (L : List Loc) : Prop := v = none ∧ Fr n0 L ∧ Keep h0 h [xa, ca] ∧ Arv Z h xa kxa .boolean (16 : Int32) [v1_, (.int x1)] v0_ ∧ Arv Z h ca kca .boolean (16 : Int32) [(.int (own_fin cm l0)), (.int c1)] v0_
theorem rm_fin0 (l : Launch) (Z : State) (a0 : Array Value) (hw : own_Wd Z a0) (ws : List Jvm.Cond) (ds xa ca lo : Addr) (kxa kca klo : ClassId) (cm x0 x1 c0 c1 l0 l1 : Int32) (h0 : Heap) (n0 : Nat) (O0 : Old Z n0 h0) (Pm0 : f19_ Z h0 ds (.ref xa)) (Pm1 : f16_ Z h0 ds (.ref ca)) (Pm2 : f21_ Z h0 ds (.ref lo)) (Pm3 : Arv Z h0 xa kxa .boolean (16 : Int32) [(.int x0), (.int x1)] v0_) (Pm4 : Arv Z h0 ca kca .boolean (16 : Int32) [(.int c0), (.int c1)] v0_) (Pm5 : Arv Z h0 lo klo .boolean (16 : Int32) [(.int l0), (.int l1)] v0_) (gt_ds : n0 ≤ ds) (hch : own_asc [ds, xa, ca, lo]) :
  own_M l Z ws y55_ prog_12_method_10_code 3 none ({ frames := 0, cells := 0, slots := 0, locals := 0 } : Room) #[(.ref ds), v0_, (.int cm)] h0 (Q_rm_fin0 Z ds xa ca lo kxa kca klo cm x0 x1 c0 c1 l0 l1 h0 n0) := by
 refine own_open O0 (plainFor_of_name pn20_) (L0 := #[.val (.ref ds), .val v0_, .val (.int cm)]) ?_
 intro p e s m below meth c s₁ Bd hx hby hml hZ hh hown hnm X0 e0 N0 Z0
 have hq_hch := hch
 simp only [own_asc] at hq_hch
 have lt_Pm0 := fG Pm0
 have lt_Pm3 := vG Pm3
 have lt_Pm4 := vG Pm4
 have lt_Pm5 := vG Pm5
 refine o_al X0 hx hby D43_0 rfl rfl ?_
 refine o_gf X0 hx hby hZ hown hw 295 rfl Via.refl e0 Pm0 D43_1 fun T1 X1 e1 => ?_
 refine o_il X1 hx hby D43_4 rfl ?_
 refine o_ic X1 hx hby D43_5 ?_
 obtain ⟨cl2, Ar2, q2, S2, M2, H2, G2⟩ := (id Pm3)
 have hin2 : ¬ ((0 : Int32) < 0 ∨ cl2.slots.size ≤ ((0 : Int32)).toNatClampNeg) := inb_of S2 ⟨by decide, by decide⟩
 obtain ⟨T2, h2, X2, e2, W2, st2⟩ := stZ X1 hx hZ e1 Ar2 (j := (0 : Int32)) hin2 (g := (mkF m 6 #[.val (.ref ds), .val v0_, .val (.int cm)] [v1_, v0_, (.ref xa)])) rfl rfl (hb hby D43_6)
 refine ob_ st2 ?_
 have z2 := W2.size
 have N2 := Fr.snoc X2 N0 (by omega)
 have Vw2 : Arv Z h2 xa kxa .boolean (16 : Int32) [v1_, (.int x1)] v0_ := Arv.set Ar2 q2 S2 M2 H2 G2 rfl W2 0 rfl (Nat.le_of_ble_eq_true rfl)
 refine o_al X2 hx hby D43_7 rfl rfl ?_
 have q_1 : own_NE ds xa := mN
 have fc3 := (Pm1.other W2 (Or.inl q_1))
 refine o_gf X2 hx hby hZ hown hw 297 rfl Via.refl e2 fc3 D43_8 fun T4 X4 e4 => ?_
 refine o_il X4 hx hby D43_11 rfl ?_
 refine o_il X4 hx hby D43_12 rfl ?_
 have jn5 : ∀ (Tj5 : State), (∃ lc, Stand p l e ({ frames := 0, cells := 0, slots := 0, locals := 0 } : Room) s m #[(.ref ds), v0_, (.int cm)] below meth c Tj5 lc 0 0 ∧ Fr n0 lc) → Tj5.heap = h2 → ∀ (vv : Int32), (vv = (own_fin cm l0)) → own_Go p e below (Tj5.setTop (mkF m 30 #[.val (.ref ds), .val v0_, .val (.int cm)] [(.int vv), v0_, (.ref ca)])) (own_R s ({ frames := 0, cells := 0, slots := 0, locals := 0 } : Room) (Q_rm_fin0 Z ds xa ca lo kxa kca klo cm x0 x1 c0 c1 l0 l1 h0 n0)) := by
  rintro Tj5 ⟨lc5, Xj5, Nj5⟩ ej5 vv hj5
  subst hj5
  have q_2 : own_NE ca xa := mN
  have fc6 := (Pm4.other W2 q_2)
  obtain ⟨cl7, Ar7, q7, S7, M7, H7, G7⟩ := (id fc6)
  have hin7 : ¬ ((0 : Int32) < 0 ∨ cl7.slots.size ≤ ((0 : Int32)).toNatClampNeg) := inb_of S7 ⟨by decide, by decide⟩
  obtain ⟨T7, h7, X7, e7, W7, st7⟩ := stZ Xj5 hx hZ ej5 Ar7 (j := (0 : Int32)) hin7 (g := (mkF m 30 #[.val (.ref ds), .val v0_, .val (.int cm)] [(.int (own_fin cm l0)), v0_, (.ref ca)])) rfl rfl (hb hby D43_30)
  refine ob_ st7 ?_
  rw [own_nar_b own_fin_01] at W7
  have z7 := W7.size
  have N7 := Fr.snoc X7 Nj5 (by omega)
  have Vw7 : Arv Z h7 ca kca .boolean (16 : Int32) [(.int (own_fin cm l0)), (.int c1)] v0_ := Arv.set Ar7 q7 S7 M7 H7 G7 (own_fits_b own_fin_01) W7 0 rfl (Nat.le_of_ble_eq_true rfl)
  have fc8 := (Vw2.other W7 (uS q_2))
  have K9 : Keep h0 h7 [xa, ca] := (((Keep.refl h0 [xa, ca]).wr W2 (Or.inl (List.mem_of_getElem? (i := 0) rfl))).wr W7 (Or.inl (List.mem_of_getElem? (i := 1) rfl)))
  exact o_rv Bd X7 hx hby e7 D43_31 ⟨rfl, N7, K9, fc8, Vw7⟩
 by_cases hc10 : cm = (0 : Int32)
 ·
  refine ob_ (fun _ k => XS.ifYes X4.here hx rfl (pc0 := 13) (pc' := 29) rfl (hb hby D43_13) rfl ((if0 _ _).trans (teq hc10).1) (by decide) (by decide) k) ?_
  refine o_ic X4 hx hby D43_29 ?_
  exact jn5 _ ⟨_, X4, N2⟩ e4 (0 : Int32) (by first | exact own_fin_z (by assumption) | exact own_fin_l (by assumption) | exact own_fin_1 (by assumption) (by assumption))
 ·
  refine ob_ (fun _ k => XS.ifNo X4.here hx rfl (hb hby D43_13) rfl ((if0 _ _).trans (feq hc10).1) k) ?_
  refine o_al X4 hx hby D43_16 rfl rfl ?_
  have fc11 := (Pm2.other W2 (Or.inl q_1))
  refine o_gf X4 hx hby hZ hown hw 299 rfl Via.refl e4 fc11 D43_17 fun T12 X12 e12 => ?_
  refine o_il X12 hx hby D43_20 rfl ?_
  have fc13 := (Pm5.other W2 own_o)
  obtain ⟨cl14, Ar14, q14, S14, M14, H14, G14⟩ := (id fc13)
  have hin14 : ¬ ((0 : Int32) < 0 ∨ cl14.slots.size ≤ ((0 : Int32)).toNatClampNeg) := inb_of S14 ⟨by decide, by decide⟩
  refine ob_ (X12.baloadBooleans hx (j := (0 : Int32)) (v := (.int l0)) (by rw [e12]; exact Ar14.1) (State.isArrayOf_alike hZ.alike Ar14.2.1) Ar14.2.2 hin14 (H14.at hin14 rfl) (g := (mkF m 21 #[.val (.ref ds), .val v0_, .val (.int cm)] [v0_, (.ref lo), v0_, (.ref ca)])) rfl rfl (hb hby D43_21)) ?_
  by_cases hc15 : l0 = (0 : Int32)
  ·
   refine ob_ (fun _ k => XS.ifNo X12.here hx rfl (hb hby D43_22) rfl ((if0 _ _).trans (teq hc15).2) k) ?_
   refine o_ic X12 hx hby D43_25 ?_
   refine ob_ (fun _ k => XS.goto X12.here hx rfl (pc0 := 26) (pc' := 30) rfl (hb hby D43_26) (by decide) (by decide) k) ?_
   exact jn5 _ ⟨_, X12, N2⟩ e12 (1 : Int32) (by first | exact own_fin_z (by assumption) | exact own_fin_l (by assumption) | exact own_fin_1 (by assumption) (by assumption))
  ·
   refine ob_ (fun _ k => XS.ifYes X12.here hx rfl (pc0 := 22) (pc' := 29) rfl (hb hby D43_22) rfl ((if0 _ _).trans (feq hc15).2) (by decide) (by decide) k) ?_
   refine o_ic X12 hx hby D43_29 ?_
   exact jn5 _ ⟨_, X12, N2⟩ e12 (0 : Int32) (by first | exact own_fin_z (by assumption) | exact own_fin_l (by assumption) | exact own_fin_1 (by assumption) (by assumption))
def Q_rm_fin1 (Z : State) (ds xa ca lo : Addr) (kxa kca klo : ClassId) (cm x0 x1 c0 c1 l0 l1 : Int32) (h0 : Heap) (n0 : Nat) (v : Option Value) (h : Heap) (L : List Loc) : Prop := v = none ∧ Fr n0 L ∧ Keep h0 h [xa, ca] ∧ Arv Z h xa kxa .boolean (16 : Int32) [(.int x0), v1_] v0_ ∧ Arv Z h ca kca .boolean (16 : Int32) [(.int c0), (.int (own_fin cm l1))] v0_
theorem rm_fin1 (l : Launch) (Z : State) (a0 : Array Value) (hw : own_Wd Z a0) (ws : List Jvm.Cond) (ds xa ca lo : Addr) (kxa kca klo : ClassId) (cm x0 x1 c0 c1 l0 l1 : Int32) (h0 : Heap) (n0 : Nat) (O0 : Old Z n0 h0) (Pm0 : f19_ Z h0 ds (.ref xa)) (Pm1 : f16_ Z h0 ds (.ref ca)) (Pm2 : f21_ Z h0 ds (.ref lo)) (Pm3 : Arv Z h0 xa kxa .boolean (16 : Int32) [(.int x0), (.int x1)] v0_) (Pm4 : Arv Z h0 ca kca .boolean (16 : Int32) [(.int c0), (.int c1)] v0_) (Pm5 : Arv Z h0 lo klo .boolean (16 : Int32) [(.int l0), (.int l1)] v0_) (gt_ds : n0 ≤ ds) (hch : own_asc [ds, xa, ca, lo]) :
  own_M l Z ws y55_ prog_12_method_10_code 3 none ({ frames := 0, cells := 0, slots := 0, locals := 0 } : Room) #[(.ref ds), v1_, (.int cm)] h0 (Q_rm_fin1 Z ds xa ca lo kxa kca klo cm x0 x1 c0 c1 l0 l1 h0 n0) := by
 refine own_open O0 (plainFor_of_name pn20_) (L0 := #[.val (.ref ds), .val v1_, .val (.int cm)]) ?_
 intro p e s m below meth c s₁ Bd hx hby hml hZ hh hown hnm X0 e0 N0 Z0
 have hq_hch := hch
 simp only [own_asc] at hq_hch
 have lt_Pm0 := fG Pm0
 have lt_Pm3 := vG Pm3
 have lt_Pm4 := vG Pm4
 have lt_Pm5 := vG Pm5
 refine o_al X0 hx hby D43_0 rfl rfl ?_
 refine o_gf X0 hx hby hZ hown hw 295 rfl Via.refl e0 Pm0 D43_1 fun T1 X1 e1 => ?_
 refine o_il X1 hx hby D43_4 rfl ?_
 refine o_ic X1 hx hby D43_5 ?_
 obtain ⟨cl2, Ar2, q2, S2, M2, H2, G2⟩ := (id Pm3)
 have hin2 : ¬ ((1 : Int32) < 0 ∨ cl2.slots.size ≤ ((1 : Int32)).toNatClampNeg) := inb_of S2 ⟨by decide, by decide⟩
 obtain ⟨T2, h2, X2, e2, W2, st2⟩ := stZ X1 hx hZ e1 Ar2 (j := (1 : Int32)) hin2 (g := (mkF m 6 #[.val (.ref ds), .val v1_, .val (.int cm)] [v1_, v1_, (.ref xa)])) rfl rfl (hb hby D43_6)
 refine ob_ st2 ?_
 have z2 := W2.size
 have N2 := Fr.snoc X2 N0 (by omega)
 have Vw2 : Arv Z h2 xa kxa .boolean (16 : Int32) [(.int x0), v1_] v0_ := Arv.set Ar2 q2 S2 M2 H2 G2 rfl W2 1 rfl (Nat.le_of_ble_eq_true rfl)
 refine o_al X2 hx hby D43_7 rfl rfl ?_
 have q_1 : own_NE ds xa := mN
 have fc3 := (Pm1.other W2 (Or.inl q_1))
 refine o_gf X2 hx hby hZ hown hw 297 rfl Via.refl e2 fc3 D43_8 fun T4 X4 e4 => ?_
 refine o_il X4 hx hby D43_11 rfl ?_
 refine o_il X4 hx hby D43_12 rfl ?_
 have jn5 : ∀ (Tj5 : State), (∃ lc, Stand p l e ({ frames := 0, cells := 0, slots := 0, locals := 0 } : Room) s m #[(.ref ds), v1_, (.int cm)] below meth c Tj5 lc 0 0 ∧ Fr n0 lc) → Tj5.heap = h2 → ∀ (vv : Int32), (vv = (own_fin cm l1)) → own_Go p e below (Tj5.setTop (mkF m 30 #[.val (.ref ds), .val v1_, .val (.int cm)] [(.int vv), v1_, (.ref ca)])) (own_R s ({ frames := 0, cells := 0, slots := 0, locals := 0 } : Room) (Q_rm_fin1 Z ds xa ca lo kxa kca klo cm x0 x1 c0 c1 l0 l1 h0 n0)) := by
  rintro Tj5 ⟨lc5, Xj5, Nj5⟩ ej5 vv hj5
  subst hj5
  have q_2 : own_NE ca xa := mN
  have fc6 := (Pm4.other W2 q_2)
  obtain ⟨cl7, Ar7, q7, S7, M7, H7, G7⟩ := (id fc6)
  have hin7 : ¬ ((1 : Int32) < 0 ∨ cl7.slots.size ≤ ((1 : Int32)).toNatClampNeg) := inb_of S7 ⟨by decide, by decide⟩
  obtain ⟨T7, h7, X7, e7, W7, st7⟩ := stZ Xj5 hx hZ ej5 Ar7 (j := (1 : Int32)) hin7 (g := (mkF m 30 #[.val (.ref ds), .val v1_, .val (.int cm)] [(.int (own_fin cm l1)), v1_, (.ref ca)])) rfl rfl (hb hby D43_30)
  refine ob_ st7 ?_
  rw [own_nar_b own_fin_01] at W7
  have z7 := W7.size
  have N7 := Fr.snoc X7 Nj5 (by omega)
  have Vw7 : Arv Z h7 ca kca .boolean (16 : Int32) [(.int c0), (.int (own_fin cm l1))] v0_ := Arv.set Ar7 q7 S7 M7 H7 G7 (own_fits_b own_fin_01) W7 1 rfl (Nat.le_of_ble_eq_true rfl)
  have fc8 := (Vw2.other W7 (uS q_2))
  have K9 : Keep h0 h7 [xa, ca] := (((Keep.refl h0 [xa, ca]).wr W2 (Or.inl (List.mem_of_getElem? (i := 0) rfl))).wr W7 (Or.inl (List.mem_of_getElem? (i := 1) rfl)))
  exact o_rv Bd X7 hx hby e7 D43_31 ⟨rfl, N7, K9, fc8, Vw7⟩
 by_cases hc10 : cm = (0 : Int32)
 ·
  refine ob_ (fun _ k => XS.ifYes X4.here hx rfl (pc0 := 13) (pc' := 29) rfl (hb hby D43_13) rfl ((if0 _ _).trans (teq hc10).1) (by decide) (by decide) k) ?_
  refine o_ic X4 hx hby D43_29 ?_
  exact jn5 _ ⟨_, X4, N2⟩ e4 (0 : Int32) (by first | exact own_fin_z (by assumption) | exact own_fin_l (by assumption) | exact own_fin_1 (by assumption) (by assumption))
 ·
  refine ob_ (fun _ k => XS.ifNo X4.here hx rfl (hb hby D43_13) rfl ((if0 _ _).trans (feq hc10).1) k) ?_
  refine o_al X4 hx hby D43_16 rfl rfl ?_
  have fc11 := (Pm2.other W2 (Or.inl q_1))
  refine o_gf X4 hx hby hZ hown hw 299 rfl Via.refl e4 fc11 D43_17 fun T12 X12 e12 => ?_
  refine o_il X12 hx hby D43_20 rfl ?_
  have fc13 := (Pm5.other W2 own_o)
  obtain ⟨cl14, Ar14, q14, S14, M14, H14, G14⟩ := (id fc13)
  have hin14 : ¬ ((1 : Int32) < 0 ∨ cl14.slots.size ≤ ((1 : Int32)).toNatClampNeg) := inb_of S14 ⟨by decide, by decide⟩
  refine ob_ (X12.baloadBooleans hx (j := (1 : Int32)) (v := (.int l1)) (by rw [e12]; exact Ar14.1) (State.isArrayOf_alike hZ.alike Ar14.2.1) Ar14.2.2 hin14 (H14.at hin14 rfl) (g := (mkF m 21 #[.val (.ref ds), .val v1_, .val (.int cm)] [v1_, (.ref lo), v1_, (.ref ca)])) rfl rfl (hb hby D43_21)) ?_
  by_cases hc15 : l1 = (0 : Int32)
  ·
   refine ob_ (fun _ k => XS.ifNo X12.here hx rfl (hb hby D43_22) rfl ((if0 _ _).trans (teq hc15).2) k) ?_
   refine o_ic X12 hx hby D43_25 ?_
   refine ob_ (fun _ k => XS.goto X12.here hx rfl (pc0 := 26) (pc' := 30) rfl (hb hby D43_26) (by decide) (by decide) k) ?_
   exact jn5 _ ⟨_, X12, N2⟩ e12 (1 : Int32) (by first | exact own_fin_z (by assumption) | exact own_fin_l (by assumption) | exact own_fin_1 (by assumption) (by assumption))
  ·
   refine ob_ (fun _ k => XS.ifYes X12.here hx rfl (pc0 := 22) (pc' := 29) rfl (hb hby D43_22) rfl ((if0 _ _).trans (feq hc15).2) (by decide) (by decide) k) ?_
   refine o_ic X12 hx hby D43_29 ?_
   exact jn5 _ ⟨_, X12, N2⟩ e12 (0 : Int32) (by first | exact own_fin_z (by assumption) | exact own_fin_l (by assumption) | exact own_fin_1 (by assumption) (by assumption))
abbrev dD55 (n : Nat) (i : Instr) (k : Nat) : Prop := decode prog_12_method_7_code n = .ok (i, k)
theorem D55_0 : dD55 0 (.aload_n 0) 1 := by decide +kernel
theorem D55_1 : dD55 1 (.getfield 56) 3 := by decide +kernel
theorem D55_4 : dD55 4 (.ifCond .ne 4) 3 := by decide +kernel
theorem D55_7 : dD55 7 .return_ 1 := by decide +kernel
theorem D55_8 : dD55 8 (.iload_n 2) 1 := by decide +kernel
theorem D55_9 : dD55 9 (.ifCond .ge 11) 3 := by decide +kernel
theorem D55_12 : dD55 12 (.aload_n 0) 1 := by decide +kernel
theorem D55_13 : dD55 13 (.getfield 23) 3 := by decide +kernel
theorem D55_16 : dD55 16 (.iload_n 1) 1 := by decide +kernel
theorem D55_17 : dD55 17 (.iconst 1) 1 := by decide +kernel
theorem D55_18 : dD55 18 .bastore 1 := by decide +kernel
theorem D55_19 : dD55 19 .return_ 1 := by decide +kernel
def Q_rm_lk0 (Z : State) (ds lo : Addr) (klo : ClassId) (li : Int32) (h0 : Heap) (n0 : Nat) (v : Option Value) (h : Heap) (L : List Loc) : Prop := v = none ∧ Fr n0 L ∧ Keep h0 h [lo] ∧ Arv Z h lo klo .boolean (16 : Int32) [(.int li), v0_] v0_
theorem rm_lk0 (l : Launch) (Z : State) (a0 : Array Value) (hw : own_Wd Z a0) (ws : List Jvm.Cond) (ds lo : Addr) (klo : ClassId) (li : Int32) (h0 : Heap) (n0 : Nat) (O0 : Old Z n0 h0) (Pm0 : f20_ Z h0 ds (.int li)) (Pm1 : f21_ Z h0 ds (.ref lo)) (Pm2 : Arv Z h0 lo klo .boolean (16 : Int32) [v0_, v0_] v0_) (gt_ds : n0 ≤ ds) (hch : own_asc [ds, lo]) (hli : li = 0 ∨ li = 1) :
  own_M l Z ws y56_ prog_12_method_7_code 4 none ({ frames := 0, cells := 0, slots := 0, locals := 0 } : Room) #[(.ref ds), v0_, (.int (-1 : Int32)), .null] h0 (Q_rm_lk0 Z ds lo klo li h0 n0) := by
 refine own_open O0 (plainFor_of_name pn20_) (L0 := #[.val (.ref ds), .val v0_, .val (.int (-1 : Int32)), .val .null]) ?_
 intro p e s m below meth c s₁ Bd hx hby hml hZ hh hown hnm X0 e0 N0 Z0
 have hq_hch := hch
 simp only [own_asc] at hq_hch
 have lt_Pm0 := fG Pm0
 have lt_Pm2 := vG Pm2
 rcases hli with rfl | rfl
 ·
  refine o_al X0 hx hby D55_0 rfl rfl ?_
  refine o_gf X0 hx hby hZ hown hw 324 rfl Via.refl e0 Pm0 D55_1 fun T1 X1 e1 => ?_
  refine ob_ (fun _ k => XS.ifNo X1.here hx rfl (hb hby D55_4) rfl ((if0 _ _).trans (teq (by decide : (0 : Int32) = (0 : Int32))).2) k) ?_
  have K2 : Keep h0 h0 [lo] := (Keep.refl h0 [lo])
  exact o_rv Bd X1 hx hby e1 D55_7 ⟨rfl, N0, K2, Pm2⟩
 ·
  refine o_al X0 hx hby D55_0 rfl rfl ?_
  refine o_gf X0 hx hby hZ hown hw 324 rfl Via.refl e0 Pm0 D55_1 fun T3 X3 e3 => ?_
  refine ob_ (fun _ k => XS.ifYes X3.here hx rfl (pc0 := 4) (pc' := 8) rfl (hb hby D55_4) rfl ((if0 _ _).trans (feq (by decide : ¬ ((1 : Int32) = (0 : Int32)))).2) (by decide) (by decide) k) ?_
  refine o_il X3 hx hby D55_8 rfl ?_
  refine ob_ (fun _ k => XS.ifNo X3.here hx rfl (hb hby D55_9) rfl ((if0 _ _).trans (tlt (by decide : (-1 : Int32) < (0 : Int32))).2.1) k) ?_
  refine o_al X3 hx hby D55_12 rfl rfl ?_
  refine o_gf X3 hx hby hZ hown hw 299 rfl Via.refl e3 Pm1 D55_13 fun T4 X4 e4 => ?_
  refine o_il X4 hx hby D55_16 rfl ?_
  refine o_ic X4 hx hby D55_17 ?_
  obtain ⟨cl5, Ar5, q5, S5, M5, H5, G5⟩ := (id Pm2)
  have hin5 : ¬ ((0 : Int32) < 0 ∨ cl5.slots.size ≤ ((0 : Int32)).toNatClampNeg) := inb_of S5 ⟨by decide, by decide⟩
  obtain ⟨T5, h5, X5, e5, W5, st5⟩ := stZ X4 hx hZ e4 Ar5 (j := (0 : Int32)) hin5 (g := (mkF m 18 #[.val (.ref ds), .val v0_, .val (.int (-1 : Int32)), .val .null] [v1_, v0_, (.ref lo)])) rfl rfl (hb hby D55_18)
  refine ob_ st5 ?_
  have z5 := W5.size
  have N5 := Fr.snoc X5 N0 (by omega)
  have Vw5 : Arv Z h5 lo klo .boolean (16 : Int32) [v1_, v0_] v0_ := Arv.set Ar5 q5 S5 M5 H5 G5 rfl W5 0 rfl (Nat.le_of_ble_eq_true rfl)
  have K6 : Keep h0 h5 [lo] := ((Keep.refl h0 [lo]).wr W5 (Or.inl (List.mem_of_getElem? (i := 0) rfl)))
  exact o_rv Bd X5 hx hby e5 D55_19 ⟨rfl, N5, K6, Vw5⟩
def Q_rm_lk1 (Z : State) (ds lo : Addr) (klo : ClassId) (li : Int32) (h0 : Heap) (n0 : Nat) (v : Option Value) (h : Heap) (L : List Loc) : Prop := v = none ∧ Fr n0 L ∧ Keep h0 h [lo] ∧ Arv Z h lo klo .boolean (16 : Int32) [v0_, (.int li)] v0_
theorem rm_lk1 (l : Launch) (Z : State) (a0 : Array Value) (hw : own_Wd Z a0) (ws : List Jvm.Cond) (ds lo : Addr) (klo : ClassId) (li : Int32) (h0 : Heap) (n0 : Nat) (O0 : Old Z n0 h0) (Pm0 : f20_ Z h0 ds (.int li)) (Pm1 : f21_ Z h0 ds (.ref lo)) (Pm2 : Arv Z h0 lo klo .boolean (16 : Int32) [v0_, v0_] v0_) (gt_ds : n0 ≤ ds) (hch : own_asc [ds, lo]) (hli : li = 0 ∨ li = 1) :
  own_M l Z ws y56_ prog_12_method_7_code 4 none ({ frames := 0, cells := 0, slots := 0, locals := 0 } : Room) #[(.ref ds), v1_, (.int (-1 : Int32)), .null] h0 (Q_rm_lk1 Z ds lo klo li h0 n0) := by
 refine own_open O0 (plainFor_of_name pn20_) (L0 := #[.val (.ref ds), .val v1_, .val (.int (-1 : Int32)), .val .null]) ?_
 intro p e s m below meth c s₁ Bd hx hby hml hZ hh hown hnm X0 e0 N0 Z0
 have hq_hch := hch
 simp only [own_asc] at hq_hch
 have lt_Pm0 := fG Pm0
 have lt_Pm2 := vG Pm2
 rcases hli with rfl | rfl
 ·
  refine o_al X0 hx hby D55_0 rfl rfl ?_
  refine o_gf X0 hx hby hZ hown hw 324 rfl Via.refl e0 Pm0 D55_1 fun T1 X1 e1 => ?_
  refine ob_ (fun _ k => XS.ifNo X1.here hx rfl (hb hby D55_4) rfl ((if0 _ _).trans (teq (by decide : (0 : Int32) = (0 : Int32))).2) k) ?_
  have K2 : Keep h0 h0 [lo] := (Keep.refl h0 [lo])
  exact o_rv Bd X1 hx hby e1 D55_7 ⟨rfl, N0, K2, Pm2⟩
 ·
  refine o_al X0 hx hby D55_0 rfl rfl ?_
  refine o_gf X0 hx hby hZ hown hw 324 rfl Via.refl e0 Pm0 D55_1 fun T3 X3 e3 => ?_
  refine ob_ (fun _ k => XS.ifYes X3.here hx rfl (pc0 := 4) (pc' := 8) rfl (hb hby D55_4) rfl ((if0 _ _).trans (feq (by decide : ¬ ((1 : Int32) = (0 : Int32)))).2) (by decide) (by decide) k) ?_
  refine o_il X3 hx hby D55_8 rfl ?_
  refine ob_ (fun _ k => XS.ifNo X3.here hx rfl (hb hby D55_9) rfl ((if0 _ _).trans (tlt (by decide : (-1 : Int32) < (0 : Int32))).2.1) k) ?_
  refine o_al X3 hx hby D55_12 rfl rfl ?_
  refine o_gf X3 hx hby hZ hown hw 299 rfl Via.refl e3 Pm1 D55_13 fun T4 X4 e4 => ?_
  refine o_il X4 hx hby D55_16 rfl ?_
  refine o_ic X4 hx hby D55_17 ?_
  obtain ⟨cl5, Ar5, q5, S5, M5, H5, G5⟩ := (id Pm2)
  have hin5 : ¬ ((1 : Int32) < 0 ∨ cl5.slots.size ≤ ((1 : Int32)).toNatClampNeg) := inb_of S5 ⟨by decide, by decide⟩
  obtain ⟨T5, h5, X5, e5, W5, st5⟩ := stZ X4 hx hZ e4 Ar5 (j := (1 : Int32)) hin5 (g := (mkF m 18 #[.val (.ref ds), .val v1_, .val (.int (-1 : Int32)), .val .null] [v1_, v1_, (.ref lo)])) rfl rfl (hb hby D55_18)
  refine ob_ st5 ?_
  have z5 := W5.size
  have N5 := Fr.snoc X5 N0 (by omega)
  have Vw5 : Arv Z h5 lo klo .boolean (16 : Int32) [v0_, v1_] v0_ := Arv.set Ar5 q5 S5 M5 H5 G5 rfl W5 1 rfl (Nat.le_of_ble_eq_true rfl)
  have K6 : Keep h0 h5 [lo] := ((Keep.refl h0 [lo]).wr W5 (Or.inl (List.mem_of_getElem? (i := 0) rfl)))
  exact o_rv Bd X5 hx hby e5 D55_19 ⟨rfl, N5, K6, Vw5⟩
abbrev dD44 (n : Nat) (i : Instr) (k : Nat) : Prop := decode prog_12_method_18_code n = .ok (i, k)
theorem D44_0 : dD44 0 (.aload_n 0) 1 := by decide +kernel
theorem D44_1 : dD44 1 (.getfield 16) 3 := by decide +kernel
theorem D44_4 : dD44 4 (.iload_n 1) 1 := by decide +kernel
theorem D44_5 : dD44 5 .baload 1 := by decide +kernel
theorem D44_6 : dD44 6 .ireturn 1 := by decide +kernel
def Q_rm_exp0 (Z : State) (ds xa : Addr) (kxa : ClassId) (ya yb : Int32) (h0 : Heap) (n0 : Nat) (v : Option Value) (h : Heap) (L : List Loc) : Prop := v = some (.int ya) ∧ Fr n0 L ∧ h = h0
theorem rm_exp0 (l : Launch) (Z : State) (a0 : Array Value) (hw : own_Wd Z a0) (ws : List Jvm.Cond) (ds xa : Addr) (kxa : ClassId) (ya yb : Int32) (h0 : Heap) (n0 : Nat) (O0 : Old Z n0 h0) (Pm0 : f19_ Z h0 ds (.ref xa)) (Pm1 : Arv Z h0 xa kxa .boolean (16 : Int32) [(.int ya), (.int yb)] v0_) (hy : ya = 0 ∨ ya = 1) :
  own_M l Z ws y57_ prog_12_method_18_code 2 (some .boolean) ({ frames := 0, cells := 0, slots := 0, locals := 0 } : Room) #[(.ref ds), v0_] h0 (Q_rm_exp0 Z ds xa kxa ya yb h0 n0) := by
 refine own_open O0 (plainFor_of_name pn20_) (L0 := #[.val (.ref ds), .val v0_]) ?_
 intro p e s m below meth c s₁ Bd hx hby hml hZ hh hown hnm X0 e0 N0 Z0
 have lt_Pm0 := fG Pm0
 have lt_Pm1 := vG Pm1
 refine o_al X0 hx hby D44_0 rfl rfl ?_
 refine o_gf X0 hx hby hZ hown hw 295 rfl Via.refl e0 Pm0 D44_1 fun T1 X1 e1 => ?_
 refine o_il X1 hx hby D44_4 rfl ?_
 obtain ⟨cl2, Ar2, q2, S2, M2, H2, G2⟩ := (id Pm1)
 have hin2 : ¬ ((0 : Int32) < 0 ∨ cl2.slots.size ≤ ((0 : Int32)).toNatClampNeg) := inb_of S2 ⟨by decide, by decide⟩
 refine ob_ (X1.baloadBooleans hx (j := (0 : Int32)) (v := (.int ya)) (by rw [e1]; exact Ar2.1) (State.isArrayOf_alike hZ.alike Ar2.2.1) Ar2.2.2 hin2 (H2.at hin2 rfl) (g := (mkF m 5 #[.val (.ref ds), .val v0_] [v0_, (.ref xa)])) rfl rfl (hb hby D44_5)) ?_
 exact o_rn Bd X1 hx hby e1 D44_6 ⟨(by rw [own_nar_b hy]), N0, rfl⟩
def Q_rm_exp1 (Z : State) (ds xa : Addr) (kxa : ClassId) (ya yb : Int32) (h0 : Heap) (n0 : Nat) (v : Option Value) (h : Heap) (L : List Loc) : Prop := v = some (.int yb) ∧ Fr n0 L ∧ h = h0
theorem rm_exp1 (l : Launch) (Z : State) (a0 : Array Value) (hw : own_Wd Z a0) (ws : List Jvm.Cond) (ds xa : Addr) (kxa : ClassId) (ya yb : Int32) (h0 : Heap) (n0 : Nat) (O0 : Old Z n0 h0) (Pm0 : f19_ Z h0 ds (.ref xa)) (Pm1 : Arv Z h0 xa kxa .boolean (16 : Int32) [(.int ya), (.int yb)] v0_) (hy : yb = 0 ∨ yb = 1) :
  own_M l Z ws y57_ prog_12_method_18_code 2 (some .boolean) ({ frames := 0, cells := 0, slots := 0, locals := 0 } : Room) #[(.ref ds), v1_] h0 (Q_rm_exp1 Z ds xa kxa ya yb h0 n0) := by
 refine own_open O0 (plainFor_of_name pn20_) (L0 := #[.val (.ref ds), .val v1_]) ?_
 intro p e s m below meth c s₁ Bd hx hby hml hZ hh hown hnm X0 e0 N0 Z0
 have lt_Pm0 := fG Pm0
 have lt_Pm1 := vG Pm1
 refine o_al X0 hx hby D44_0 rfl rfl ?_
 refine o_gf X0 hx hby hZ hown hw 295 rfl Via.refl e0 Pm0 D44_1 fun T1 X1 e1 => ?_
 refine o_il X1 hx hby D44_4 rfl ?_
 obtain ⟨cl2, Ar2, q2, S2, M2, H2, G2⟩ := (id Pm1)
 have hin2 : ¬ ((1 : Int32) < 0 ∨ cl2.slots.size ≤ ((1 : Int32)).toNatClampNeg) := inb_of S2 ⟨by decide, by decide⟩
 refine ob_ (X1.baloadBooleans hx (j := (1 : Int32)) (v := (.int yb)) (by rw [e1]; exact Ar2.1) (State.isArrayOf_alike hZ.alike Ar2.2.1) Ar2.2.2 hin2 (H2.at hin2 rfl) (g := (mkF m 5 #[.val (.ref ds), .val v1_] [v1_, (.ref xa)])) rfl rfl (hb hby D44_5)) ?_
 exact o_rn Bd X1 hx hby e1 D44_6 ⟨(by rw [own_nar_b hy]), N0, rfl⟩
abbrev dD45 (n : Nat) (i : Instr) (k : Nat) : Prop := decode prog_12_method_19_code n = .ok (i, k)
theorem D45_0 : dD45 0 (.aload_n 0) 1 := by decide +kernel
theorem D45_1 : dD45 1 (.getfield 20) 3 := by decide +kernel
theorem D45_4 : dD45 4 (.iload_n 1) 1 := by decide +kernel
theorem D45_5 : dD45 5 .baload 1 := by decide +kernel
theorem D45_6 : dD45 6 .ireturn 1 := by decide +kernel
def Q_rm_com0 (Z : State) (ds xa : Addr) (kxa : ClassId) (ya yb : Int32) (h0 : Heap) (n0 : Nat) (v : Option Value) (h : Heap) (L : List Loc) : Prop := v = some (.int ya) ∧ Fr n0 L ∧ h = h0
theorem rm_com0 (l : Launch) (Z : State) (a0 : Array Value) (hw : own_Wd Z a0) (ws : List Jvm.Cond) (ds xa : Addr) (kxa : ClassId) (ya yb : Int32) (h0 : Heap) (n0 : Nat) (O0 : Old Z n0 h0) (Pm0 : f16_ Z h0 ds (.ref xa)) (Pm1 : Arv Z h0 xa kxa .boolean (16 : Int32) [(.int ya), (.int yb)] v0_) (hy : ya = 0 ∨ ya = 1) :
  own_M l Z ws y58_ prog_12_method_19_code 2 (some .boolean) ({ frames := 0, cells := 0, slots := 0, locals := 0 } : Room) #[(.ref ds), v0_] h0 (Q_rm_com0 Z ds xa kxa ya yb h0 n0) := by
 refine own_open O0 (plainFor_of_name pn20_) (L0 := #[.val (.ref ds), .val v0_]) ?_
 intro p e s m below meth c s₁ Bd hx hby hml hZ hh hown hnm X0 e0 N0 Z0
 have lt_Pm0 := fG Pm0
 have lt_Pm1 := vG Pm1
 refine o_al X0 hx hby D45_0 rfl rfl ?_
 refine o_gf X0 hx hby hZ hown hw 297 rfl Via.refl e0 Pm0 D45_1 fun T1 X1 e1 => ?_
 refine o_il X1 hx hby D45_4 rfl ?_
 obtain ⟨cl2, Ar2, q2, S2, M2, H2, G2⟩ := (id Pm1)
 have hin2 : ¬ ((0 : Int32) < 0 ∨ cl2.slots.size ≤ ((0 : Int32)).toNatClampNeg) := inb_of S2 ⟨by decide, by decide⟩
 refine ob_ (X1.baloadBooleans hx (j := (0 : Int32)) (v := (.int ya)) (by rw [e1]; exact Ar2.1) (State.isArrayOf_alike hZ.alike Ar2.2.1) Ar2.2.2 hin2 (H2.at hin2 rfl) (g := (mkF m 5 #[.val (.ref ds), .val v0_] [v0_, (.ref xa)])) rfl rfl (hb hby D45_5)) ?_
 exact o_rn Bd X1 hx hby e1 D45_6 ⟨(by rw [own_nar_b hy]), N0, rfl⟩
def Q_rm_com1 (Z : State) (ds xa : Addr) (kxa : ClassId) (ya yb : Int32) (h0 : Heap) (n0 : Nat) (v : Option Value) (h : Heap) (L : List Loc) : Prop := v = some (.int yb) ∧ Fr n0 L ∧ h = h0
theorem rm_com1 (l : Launch) (Z : State) (a0 : Array Value) (hw : own_Wd Z a0) (ws : List Jvm.Cond) (ds xa : Addr) (kxa : ClassId) (ya yb : Int32) (h0 : Heap) (n0 : Nat) (O0 : Old Z n0 h0) (Pm0 : f16_ Z h0 ds (.ref xa)) (Pm1 : Arv Z h0 xa kxa .boolean (16 : Int32) [(.int ya), (.int yb)] v0_) (hy : yb = 0 ∨ yb = 1) :
  own_M l Z ws y58_ prog_12_method_19_code 2 (some .boolean) ({ frames := 0, cells := 0, slots := 0, locals := 0 } : Room) #[(.ref ds), v1_] h0 (Q_rm_com1 Z ds xa kxa ya yb h0 n0) := by
 refine own_open O0 (plainFor_of_name pn20_) (L0 := #[.val (.ref ds), .val v1_]) ?_
 intro p e s m below meth c s₁ Bd hx hby hml hZ hh hown hnm X0 e0 N0 Z0
 have lt_Pm0 := fG Pm0
 have lt_Pm1 := vG Pm1
 refine o_al X0 hx hby D45_0 rfl rfl ?_
 refine o_gf X0 hx hby hZ hown hw 297 rfl Via.refl e0 Pm0 D45_1 fun T1 X1 e1 => ?_
 refine o_il X1 hx hby D45_4 rfl ?_
 obtain ⟨cl2, Ar2, q2, S2, M2, H2, G2⟩ := (id Pm1)
 have hin2 : ¬ ((1 : Int32) < 0 ∨ cl2.slots.size ≤ ((1 : Int32)).toNatClampNeg) := inb_of S2 ⟨by decide, by decide⟩
 refine ob_ (X1.baloadBooleans hx (j := (1 : Int32)) (v := (.int yb)) (by rw [e1]; exact Ar2.1) (State.isArrayOf_alike hZ.alike Ar2.2.1) Ar2.2.2 hin2 (H2.at hin2 rfl) (g := (mkF m 5 #[.val (.ref ds), .val v1_] [v1_, (.ref xa)])) rfl rfl (hb hby D45_5)) ?_
 exact o_rn Bd X1 hx hby e1 D45_6 ⟨(by rw [own_nar_b hy]), N0, rfl⟩
abbrev dD53 (n : Nat) (i : Instr) (k : Nat) : Prop := decode prog_25_method_18_code n = .ok (i, k)
theorem D53_0 : dD53 0 (.aload_n 0) 1 := by decide +kernel
theorem D53_1 : dD53 1 (.getfield 20) 3 := by decide +kernel
theorem D53_4 : dD53 4 (.iload_n 1) 1 := by decide +kernel
theorem D53_5 : dD53 5 .baload 1 := by decide +kernel
theorem D53_6 : dD53 6 .ireturn 1 := by decide +kernel
def Q_rm_hol0 (Z : State) (un hl : Addr) (khl : ClassId) (h0 : Heap) (n0 : Nat) (v : Option Value) (h : Heap) (L : List Loc) : Prop := v = some v1_ ∧ Fr n0 L ∧ h = h0
theorem rm_hol0 (l : Launch) (Z : State) (a0 : Array Value) (hw : own_Wd Z a0) (ws : List Jvm.Cond) (un hl : Addr) (khl : ClassId) (h0 : Heap) (n0 : Nat) (O0 : Old Z n0 h0) (Pm0 : f25_ Z h0 un (.ref hl)) (Pm1 : Arv Z h0 hl khl .boolean (16 : Int32) [v1_, v1_] v0_) :
  own_M l Z ws y59_ prog_25_method_18_code 2 (some .boolean) ({ frames := 0, cells := 0, slots := 0, locals := 0 } : Room) #[(.ref un), v0_] h0 (Q_rm_hol0 Z un hl khl h0 n0) := by
 refine own_open O0 (plainFor_of_name pn18_) (L0 := #[.val (.ref un), .val v0_]) ?_
 intro p e s m below meth c s₁ Bd hx hby hml hZ hh hown hnm X0 e0 N0 Z0
 have lt_Pm0 := fG Pm0
 have lt_Pm1 := vG Pm1
 refine o_al X0 hx hby D53_0 rfl rfl ?_
 refine o_gf X0 hx hby hZ hown hw 195 rfl Via.refl e0 Pm0 D53_1 fun T1 X1 e1 => ?_
 refine o_il X1 hx hby D53_4 rfl ?_
 obtain ⟨cl2, Ar2, q2, S2, M2, H2, G2⟩ := (id Pm1)
 have hin2 : ¬ ((0 : Int32) < 0 ∨ cl2.slots.size ≤ ((0 : Int32)).toNatClampNeg) := inb_of S2 ⟨by decide, by decide⟩
 refine ob_ (X1.baloadBooleans hx (j := (0 : Int32)) (v := v1_) (by rw [e1]; exact Ar2.1) (State.isArrayOf_alike hZ.alike Ar2.2.1) Ar2.2.2 hin2 (H2.at hin2 rfl) (g := (mkF m 5 #[.val (.ref un), .val v0_] [v0_, (.ref hl)])) rfl rfl (hb hby D53_5)) ?_
 exact o_rn Bd X1 hx hby e1 D53_6 ⟨rfl, N0, rfl⟩
def Q_rm_hol1 (Z : State) (un hl : Addr) (khl : ClassId) (h0 : Heap) (n0 : Nat) (v : Option Value) (h : Heap) (L : List Loc) : Prop := v = some v1_ ∧ Fr n0 L ∧ h = h0
theorem rm_hol1 (l : Launch) (Z : State) (a0 : Array Value) (hw : own_Wd Z a0) (ws : List Jvm.Cond) (un hl : Addr) (khl : ClassId) (h0 : Heap) (n0 : Nat) (O0 : Old Z n0 h0) (Pm0 : f25_ Z h0 un (.ref hl)) (Pm1 : Arv Z h0 hl khl .boolean (16 : Int32) [v1_, v1_] v0_) :
  own_M l Z ws y59_ prog_25_method_18_code 2 (some .boolean) ({ frames := 0, cells := 0, slots := 0, locals := 0 } : Room) #[(.ref un), v1_] h0 (Q_rm_hol1 Z un hl khl h0 n0) := by
 refine own_open O0 (plainFor_of_name pn18_) (L0 := #[.val (.ref un), .val v1_]) ?_
 intro p e s m below meth c s₁ Bd hx hby hml hZ hh hown hnm X0 e0 N0 Z0
 have lt_Pm0 := fG Pm0
 have lt_Pm1 := vG Pm1
 refine o_al X0 hx hby D53_0 rfl rfl ?_
 refine o_gf X0 hx hby hZ hown hw 195 rfl Via.refl e0 Pm0 D53_1 fun T1 X1 e1 => ?_
 refine o_il X1 hx hby D53_4 rfl ?_
 obtain ⟨cl2, Ar2, q2, S2, M2, H2, G2⟩ := (id Pm1)
 have hin2 : ¬ ((1 : Int32) < 0 ∨ cl2.slots.size ≤ ((1 : Int32)).toNatClampNeg) := inb_of S2 ⟨by decide, by decide⟩
 refine ob_ (X1.baloadBooleans hx (j := (1 : Int32)) (v := v1_) (by rw [e1]; exact Ar2.1) (State.isArrayOf_alike hZ.alike Ar2.2.1) Ar2.2.2 hin2 (H2.at hin2 rfl) (g := (mkF m 5 #[.val (.ref un), .val v1_] [v1_, (.ref hl)])) rfl rfl (hb hby D53_5)) ?_
 exact o_rn Bd X1 hx hby e1 D53_6 ⟨rfl, N0, rfl⟩
abbrev dD46 (n : Nat) (i : Instr) (k : Nat) : Prop := decode prog_12_method_11_code n = .ok (i, k)
theorem D46_0 : dD46 0 (.aload_n 0) 1 := by decide +kernel
theorem D46_1 : dD46 1 (.getfield 45) 3 := by decide +kernel
theorem D46_4 : dD46 4 (.invokeinterface 150 1) 5 := by decide +kernel
theorem D46_9 : dD46 9 (.ifCond .ne 44) 3 := by decide +kernel
theorem D46_12 : dD46 12 (.aload_n 0) 1 := by decide +kernel
theorem D46_13 : dD46 13 (.getfield 45) 3 := by decide +kernel
theorem D46_16 : dD46 16 (.invokeinterface 154 1) 5 := by decide +kernel
theorem D46_21 : dD46 21 (.checkcast 107) 3 := by decide +kernel
theorem D46_24 : dD46 24 (.invokevirtual 158) 3 := by decide +kernel
theorem D46_27 : dD46 27 (.istore_n 1) 1 := by decide +kernel
theorem D46_28 : dD46 28 (.aload_n 0) 1 := by decide +kernel
theorem D46_29 : dD46 29 (.getfield 10) 3 := by decide +kernel
theorem D46_32 : dD46 32 (.iload_n 1) 1 := by decide +kernel
theorem D46_33 : dD46 33 (.invokevirtual 161) 3 := by decide +kernel
theorem D46_36 : dD46 36 (.ifCond .eq 14) 3 := by decide +kernel
theorem D46_39 : dD46 39 (.aload_n 0) 1 := by decide +kernel
theorem D46_40 : dD46 40 (.getfield 16) 3 := by decide +kernel
theorem D46_43 : dD46 43 (.iload_n 1) 1 := by decide +kernel
theorem D46_44 : dD46 44 .baload 1 := by decide +kernel
theorem D46_45 : dD46 45 (.ifCond .ne 5) 3 := by decide +kernel
theorem D46_48 : dD46 48 (.iload_n 1) 1 := by decide +kernel
theorem D46_49 : dD46 49 .ireturn 1 := by decide +kernel
theorem D46_50 : dD46 50 (.goto (-50)) 3 := by decide +kernel
def Q_rm_nx01_10 (Z : State) (ds un hl : Addr) (khl : ClassId) (xa : Addr) (kxa : ClassId) (dq de : Addr) (kde : ClassId) (wa wb : Addr) (h0 : Heap) (n0 : Nat) (v : Option Value) (h : Heap) (L : List Loc) : Prop := v = some v1_ ∧ Fr n0 L ∧ Keep h0 h [dq, de]
theorem rm_nx01_10 (l : Launch) (Z : State) (a0 : Array Value) (hw : own_Wd Z a0) (ws : List Jvm.Cond) (ds un hl : Addr) (khl : ClassId) (xa : Addr) (kxa : ClassId) (dq de : Addr) (kde : ClassId) (wa wb : Addr) (h0 : Heap) (n0 : Nat) (O0 : Old Z n0 h0) (Pm0 : f23_ Z h0 ds (.ref un)) (Pm1 : f19_ Z h0 ds (.ref xa)) (Pm2 : f24_ Z h0 ds (.ref dq)) (Pm3 : Exa Z h0 un s38_) (Pm4 : f25_ Z h0 un (.ref hl)) (Pm5 : Arv Z h0 hl khl .boolean (16 : Int32) [v1_, v1_] v0_) (Pm6 : Arv Z h0 xa kxa .boolean (16 : Int32) [v1_, v0_] v0_) (Pm7 : Exa Z h0 dq s57_) (Pm8 : f34_ Z h0 dq v0_) (Pm9 : f35_ Z h0 dq (.int (2 : Int32))) (Pm10 : f33_ Z h0 dq (.ref de)) (Pm11 : Arv Z h0 de kde (.object s7_) (17 : Int32) [(.ref wa), (.ref wb)] .null) (gt_ds : n0 ≤ ds) (hch : own_asc [ds, un, hl, xa, dq, de]) (hb_wa : own_bx Z wa (0 : Int32)) (hb_wb : own_bx Z wb (1 : Int32)) :
  own_M l Z ws y60_ prog_12_method_11_code 2 (some .int) ({ frames := 4, cells := 0, slots := 0, locals := 54 } : Room) #[(.ref ds)] h0 (Q_rm_nx01_10 Z ds un hl khl xa kxa dq de kde wa wb h0 n0) := by
 refine own_open O0 (plainFor_of_name pn20_) (L0 := #[.val (.ref ds), .unset]) ?_
 intro p e s m below meth c s₁ Bd hx hby hml hZ hh hown hnm X0 e0 N0 Z0
 have hq_hch := hch
 simp only [own_asc] at hq_hch
 have lt_Pm0 := fG Pm0
 have lt_Pm3 := eG Pm3
 have lt_Pm5 := vG Pm5
 have lt_Pm6 := vG Pm6
 have lt_Pm7 := eG Pm7
 have lt_Pm11 := vG Pm11
 refine o_al X0 hx hby D46_0 rfl rfl ?_
 refine o_gf X0 hx hby hZ hown hw 322 rfl Via.refl e0 Pm2 D46_1 fun T1 X1 e1 => ?_
 obtain ⟨cq2, kq2, q2a, q2b, q2c⟩ := isOf hZ e1 Pm7
 refine o_k 5 (own_ifaceBackUp X1 hx (C := s57_) (J := s69_) (xi := y61_) (y := y45_) hown (mw hZ hw 409 rfl) (mw hZ hw 410 rfl) (by decide) (own_mvIF hZ (w_ hw 411 rfl) (by decide) (by decide)) (by decide) (mw hZ hw 412 rfl) (mw hZ hw 413 rfl) (mw hZ hw 414 rfl) (mw hZ hw 415 rfl) (mw hZ hw 374 rfl) (by decide) (bk 0 hZ hw 416 313 (rm_empN l Z a0 hw [] dq (0 : Int32) (2 : Int32) h0 n0 O0 Pm8 Pm9 (by decide))) q2a q2b q2c (g := (mkF m 4 #[.val (.ref ds), .unset] [(.ref dq)])) rfl hml.symm (Steps.refl _) (argsL := []) (rest := []) (lenOf pd14_ rfl) rfl own_z (hb hby D46_4) (o4 e1 0 0 0 0)) fun T2 Lc2 _ X2 hQ2 => ?_
 obtain ⟨rfl, M2, K2⟩ := hQ2
 have N2 := Fr.app N0 M2
 refine ob_ (fun _ k => XS.ifNo X2.here hx rfl (hb hby D46_9) rfl ((if0 _ _).trans (teq (by decide : (0 : Int32) = (0 : Int32))).2) k) ?_
 refine o_al X2 hx hby D46_12 rfl rfl ?_
 refine o_gf X2 hx hby hZ hown hw 322 rfl Via.refl K2 Pm2 D46_13 fun T3 X3 e3 => ?_
 have q_1 : own_LE n0 dq := mL
 obtain ⟨cq4, kq4, q4a, q4b, q4c⟩ := isOf hZ e3 Pm7
 refine o_k 5 (X3.interfaceBack hx (xi := y62_) (y := y49_) hown (mw hZ hw 417 rfl) (mw hZ hw 418 rfl) (mw hZ hw 419 rfl) (mw hZ hw 420 rfl) (mw hZ hw 421 rfl) (mw hZ hw 422 rfl) (mw hZ hw 423 rfl) (mw hZ hw 374 rfl) (by decide) (bk 0 hZ hw 424 313 (rm_rem02 l Z a0 hw [] dq de kde wa wb h0 n0 O0 Pm7 Pm8 Pm9 Pm10 Pm11 q_1 (by simp only [own_asc, and_true]; omega))) q4a q4b q4c (g := (mkF m 16 #[.val (.ref ds), .unset] [(.ref dq)])) rfl hml.symm (Steps.refl _) (argsL := []) (rest := []) (lenOf pd23_ rfl) rfl own_z (hb hby D46_16) (o4 e3 0 0 0 0)) fun T4 Lc4 _ X4 hQ4 => ?_
 obtain ⟨rfl, M4, K4, g4_0, g4_1, g4_2, g4_3, g4_4⟩ := hQ4
 have N4 := Fr.app N2 M4
 have z4 := K4.1
 have lt_g4_0 := eG g4_0
 have lt_g4_4 := vG g4_4
 have q_2 : own_LE n0 de := mL
 have O5 : Old Z n0 T4.heap := (O0.keep K4 (allS q_1 (allS q_2 all0)))
 have fc6 : Exa Z T4.heap wa s63_ := hb_wa.1.ext O5.2
 obtain ⟨T7, X7, e7, st7⟩ := castY X4 hx hZ hown (w_ hw 438 rfl) rfl (Ins.self fc6) (g := (mkF m 21 #[.val (.ref ds), .unset] [(.ref wa)])) rfl rfl (hb hby D46_21)
 refine ob_ st7 ?_
 have fc8 : f37_ Z T4.heap wa v0_ := hb_wa.2.ext O5.2
 obtain ⟨cq9, kq9, q9a, q9b, q9c⟩ := isOf hZ e7 fc6
 refine o_k 3 (X7.virtualBack hx (y := y41_) (z := y41_) hown (mw hZ hw 440 rfl) (mw hZ hw 441 rfl) (notFace_of_selects (args := #[]) (mw hZ hw 443 rfl)) (mw hZ hw 443 rfl) (mw hZ hw 442 rfl) (by decide) (bk 0 hZ hw 444 362 (rm_ivl l Z a0 hw [] wa (0 : Int32) T4.heap n0 O5 fc8)) q9a q9c (g := (mkF m 24 #[.val (.ref ds), .unset] [(.ref wa)])) rfl hml.symm (Steps.refl _) (argsL := []) (rest := []) (lenOf pd11_ rfl) rfl own_z (hb hby D46_24) (o4 e7 0 0 0 0)) fun T9 Lc9 _ X9 hQ9 => ?_
 obtain ⟨rfl, M9, K9⟩ := hQ9
 have N9 := Fr.app N4 M9
 refine ob_ (fun _ k => XS.istoreN X9.here hx rfl (hb hby D46_27) rfl (l' := #[.val (.ref ds), .val v0_]) rfl k) ?_
 refine o_al X9 hx hby D46_28 rfl rfl ?_
 have q_3 : own_NE de ds := mN
 have q_4 : own_NE dq ds := mN
 have q_5 : ds ∉ [dq, de] := nT (uS q_4) (nT (uS q_3) nin0)
 have fc10 := (Pm0.keep K4 q_5)
 refine o_gf X9 hx hby hZ hown hw 293 rfl Via.refl K9 fc10 D46_29 fun T11 X11 e11 => ?_
 refine o_il X11 hx hby D46_32 rfl ?_
 have q_6 : own_NE de un := mN
 have q_7 : own_NE dq un := mN
 have q_8 : un ∉ [dq, de] := nT (uS q_7) (nT (uS q_6) nin0)
 have fc12 := (Pm4.keep K4 q_8)
 have q_9 : own_NE de hl := mN
 have q_10 : own_NE dq hl := mN
 have q_11 : hl ∉ [dq, de] := nT (uS q_10) (nT (uS q_9) nin0)
 have fc13 := (Pm5.keep K4 q_11)
 have fc15 := (Pm3.keep K4)
 obtain ⟨cq14, kq14, q14a, q14b, q14c⟩ := isOf hZ e11 fc15
 refine o_k 3 (X11.virtualBack hx (y := y59_) (z := y59_) hown (mw hZ hw 447 rfl) (mw hZ hw 448 rfl) (notFace_of_selects (args := #[]) (mw hZ hw 450 rfl)) (mw hZ hw 450 rfl) (mw hZ hw 449 rfl) (by decide) (bk 0 hZ hw 451 182 (rm_hol0 l Z a0 hw [] un hl khl T4.heap n0 O5 fc12 fc13)) q14a q14c (g := (mkF m 33 #[.val (.ref ds), .val v0_] [v0_, (.ref un)])) rfl hml.symm (Steps.refl _) (argsL := [v0_]) (rest := []) (lenOf pd28_ rfl) rfl own_z (hb hby D46_33) (o4 e11 0 0 0 0)) fun T14 Lc14 _ X14 hQ14 => ?_
 obtain ⟨rfl, M14, K14⟩ := hQ14
 have N14 := Fr.app N9 M14
 refine ob_ (fun _ k => XS.ifNo X14.here hx rfl (hb hby D46_36) rfl ((if0 _ _).trans (feq (by decide : ¬ ((1 : Int32) = (0 : Int32)))).1) k) ?_
 refine o_al X14 hx hby D46_39 rfl rfl ?_
 have fc16 := (Pm1.keep K4 q_5)
 refine o_gf X14 hx hby hZ hown hw 295 rfl Via.refl K14 fc16 D46_40 fun T17 X17 e17 => ?_
 refine o_il X17 hx hby D46_43 rfl ?_
 have q_12 : own_NE de xa := mN
 have q_13 : own_NE dq xa := mN
 have q_14 : xa ∉ [dq, de] := nT (uS q_13) (nT (uS q_12) nin0)
 have fc18 := (Pm6.keep K4 q_14)
 obtain ⟨cl19, Ar19, q19, S19, M19, H19, G19⟩ := (id fc18)
 have hin19 : ¬ ((0 : Int32) < 0 ∨ cl19.slots.size ≤ ((0 : Int32)).toNatClampNeg) := inb_of S19 ⟨by decide, by decide⟩
 refine ob_ (X17.baloadBooleans hx (j := (0 : Int32)) (v := v1_) (by rw [e17]; exact Ar19.1) (State.isArrayOf_alike hZ.alike Ar19.2.1) Ar19.2.2 hin19 (H19.at hin19 rfl) (g := (mkF m 44 #[.val (.ref ds), .val v0_] [v0_, (.ref xa)])) rfl rfl (hb hby D46_44)) ?_
 refine ob_ (fun _ k => XS.ifYes X17.here hx rfl (pc0 := 45) (pc' := 50) rfl (hb hby D46_45) rfl ((if0 _ _).trans (feq (by decide : ¬ ((1 : Int32) = (0 : Int32)))).2) (by decide) (by decide) k) ?_
 refine ob_ (fun _ k => XS.goto X17.here hx rfl (pc0 := 50) (pc' := 0) rfl (hb hby D46_50) (by decide) (by decide) k) ?_
 refine o_al X17 hx hby D46_0 rfl rfl ?_
 have fc20 := (Pm2.keep K4 q_5)
 refine o_gf X17 hx hby hZ hown hw 322 rfl Via.refl e17 fc20 D46_1 fun T21 X21 e21 => ?_
 obtain ⟨cq22, kq22, q22a, q22b, q22c⟩ := isOf hZ e21 g4_0
 refine o_k 5 (own_ifaceBackUp X21 hx (C := s57_) (J := s69_) (xi := y61_) (y := y45_) hown (mw hZ hw 409 rfl) (mw hZ hw 410 rfl) (by decide) (own_mvIF hZ (w_ hw 411 rfl) (by decide) (by decide)) (by decide) (mw hZ hw 412 rfl) (mw hZ hw 413 rfl) (mw hZ hw 414 rfl) (mw hZ hw 415 rfl) (mw hZ hw 374 rfl) (by decide) (bk 0 hZ hw 416 313 (rm_empN l Z a0 hw [] dq (1 : Int32) (2 : Int32) T4.heap n0 O5 g4_1 g4_2 (by decide))) q22a q22b q22c (g := (mkF m 4 #[.val (.ref ds), .val v0_] [(.ref dq)])) rfl hml.symm (Steps.refl _) (argsL := []) (rest := []) (lenOf pd14_ rfl) rfl own_z (hb hby D46_4) (o4 e21 0 0 0 0)) fun T22 Lc22 _ X22 hQ22 => ?_
 obtain ⟨rfl, M22, K22⟩ := hQ22
 have N22 := Fr.app N14 M22
 refine ob_ (fun _ k => XS.ifNo X22.here hx rfl (hb hby D46_9) rfl ((if0 _ _).trans (teq (by decide : (0 : Int32) = (0 : Int32))).2) k) ?_
 refine o_al X22 hx hby D46_12 rfl rfl ?_
 refine o_gf X22 hx hby hZ hown hw 322 rfl Via.refl K22 fc20 D46_13 fun T23 X23 e23 => ?_
 obtain ⟨cq24, kq24, q24a, q24b, q24c⟩ := isOf hZ e23 g4_0
 refine o_k 5 (X23.interfaceBack hx (xi := y62_) (y := y49_) hown (mw hZ hw 417 rfl) (mw hZ hw 418 rfl) (mw hZ hw 419 rfl) (mw hZ hw 420 rfl) (mw hZ hw 421 rfl) (mw hZ hw 422 rfl) (mw hZ hw 423 rfl) (mw hZ hw 374 rfl) (by decide) (bk 0 hZ hw 424 313 (rm_rem12 l Z a0 hw [] dq de kde wb T4.heap n0 O5 g4_0 g4_1 g4_2 g4_3 g4_4 q_1 (by simp only [own_asc, and_true]; omega))) q24a q24b q24c (g := (mkF m 16 #[.val (.ref ds), .val v0_] [(.ref dq)])) rfl hml.symm (Steps.refl _) (argsL := []) (rest := []) (lenOf pd23_ rfl) rfl own_z (hb hby D46_16) (o4 e23 0 0 0 0)) fun T24 Lc24 _ X24 hQ24 => ?_
 obtain ⟨rfl, M24, K24, g24_0, g24_1, g24_2, g24_3, g24_4⟩ := hQ24
 have N24 := Fr.app N22 M24
 have z24 := K24.1
 have lt_g24_0 := eG g24_0
 have lt_g24_4 := vG g24_4
 have O25 : Old Z n0 T24.heap := (O5.keep K24 (allS q_1 (allS q_2 all0)))
 have fc26 : Exa Z T24.heap wb s63_ := hb_wb.1.ext O25.2
 obtain ⟨T27, X27, e27, st27⟩ := castY X24 hx hZ hown (w_ hw 438 rfl) rfl (Ins.self fc26) (g := (mkF m 21 #[.val (.ref ds), .val v0_] [(.ref wb)])) rfl rfl (hb hby D46_21)
 refine ob_ st27 ?_
 have fc28 : f37_ Z T24.heap wb v1_ := hb_wb.2.ext O25.2
 obtain ⟨cq29, kq29, q29a, q29b, q29c⟩ := isOf hZ e27 fc26
 refine o_k 3 (X27.virtualBack hx (y := y41_) (z := y41_) hown (mw hZ hw 440 rfl) (mw hZ hw 441 rfl) (notFace_of_selects (args := #[]) (mw hZ hw 443 rfl)) (mw hZ hw 443 rfl) (mw hZ hw 442 rfl) (by decide) (bk 0 hZ hw 444 362 (rm_ivl l Z a0 hw [] wb (1 : Int32) T24.heap n0 O25 fc28)) q29a q29c (g := (mkF m 24 #[.val (.ref ds), .val v0_] [(.ref wb)])) rfl hml.symm (Steps.refl _) (argsL := []) (rest := []) (lenOf pd11_ rfl) rfl own_z (hb hby D46_24) (o4 e27 0 0 0 0)) fun T29 Lc29 _ X29 hQ29 => ?_
 obtain ⟨rfl, M29, K29⟩ := hQ29
 have N29 := Fr.app N24 M29
 show own_Go p e below (T29.setTop (mkF m 27 #[.val (.ref ds), .val v0_] [v1_])) _
 refine ob_ (fun _ k => XS.istoreN X29.here hx rfl (hb hby D46_27) rfl (l' := #[.val (.ref ds), .val v1_]) rfl k) ?_
 refine o_al X29 hx hby D46_28 rfl rfl ?_
 have fc30 := (fc10.keep K24 q_5)
 refine o_gf X29 hx hby hZ hown hw 293 rfl Via.refl K29 fc30 D46_29 fun T31 X31 e31 => ?_
 refine o_il X31 hx hby D46_32 rfl ?_
 have fc32 := (fc12.keep K24 q_8)
 have fc33 := (fc13.keep K24 q_11)
 have fc35 := (fc15.keep K24)
 obtain ⟨cq34, kq34, q34a, q34b, q34c⟩ := isOf hZ e31 fc35
 refine o_k 3 (X31.virtualBack hx (y := y59_) (z := y59_) hown (mw hZ hw 447 rfl) (mw hZ hw 448 rfl) (notFace_of_selects (args := #[]) (mw hZ hw 450 rfl)) (mw hZ hw 450 rfl) (mw hZ hw 449 rfl) (by decide) (bk 0 hZ hw 451 182 (rm_hol1 l Z a0 hw [] un hl khl T24.heap n0 O25 fc32 fc33)) q34a q34c (g := (mkF m 33 #[.val (.ref ds), .val v1_] [v1_, (.ref un)])) rfl hml.symm (Steps.refl _) (argsL := [v1_]) (rest := []) (lenOf pd28_ rfl) rfl own_z (hb hby D46_33) (o4 e31 0 0 0 0)) fun T34 Lc34 _ X34 hQ34 => ?_
 obtain ⟨rfl, M34, K34⟩ := hQ34
 have N34 := Fr.app N29 M34
 refine ob_ (fun _ k => XS.ifNo X34.here hx rfl (hb hby D46_36) rfl ((if0 _ _).trans (feq (by decide : ¬ ((1 : Int32) = (0 : Int32)))).1) k) ?_
 refine o_al X34 hx hby D46_39 rfl rfl ?_
 have fc36 := (fc16.keep K24 q_5)
 refine o_gf X34 hx hby hZ hown hw 295 rfl Via.refl K34 fc36 D46_40 fun T37 X37 e37 => ?_
 refine o_il X37 hx hby D46_43 rfl ?_
 have fc38 := (fc18.keep K24 q_14)
 obtain ⟨cl39, Ar39, q39, S39, M39, H39, G39⟩ := (id fc38)
 have hin39 : ¬ ((1 : Int32) < 0 ∨ cl39.slots.size ≤ ((1 : Int32)).toNatClampNeg) := inb_of S39 ⟨by decide, by decide⟩
 refine ob_ (X37.baloadBooleans hx (j := (1 : Int32)) (v := v0_) (by rw [e37]; exact Ar39.1) (State.isArrayOf_alike hZ.alike Ar39.2.1) Ar39.2.2 hin39 (H39.at hin39 rfl) (g := (mkF m 44 #[.val (.ref ds), .val v1_] [v1_, (.ref xa)])) rfl rfl (hb hby D46_44)) ?_
 refine ob_ (fun _ k => XS.ifNo X37.here hx rfl (hb hby D46_45) rfl ((if0 _ _).trans (teq (by decide : (0 : Int32) = (0 : Int32))).2) k) ?_
 refine o_il X37 hx hby D46_48 rfl ?_
 have K40 : Keep h0 T24.heap [dq, de] := (((Keep.refl h0 [dq, de]).trans K4 (kI 0 rfl (kI 1 rfl all0))).trans K24 (kI 0 rfl (kI 1 rfl all0)))
 exact o_ri Bd X37 hx hby e37 D46_49 ⟨rfl, N34, K40⟩
def Q_rm_nx01_01 (Z : State) (ds un hl : Addr) (khl : ClassId) (xa : Addr) (kxa : ClassId) (dq de : Addr) (kde : ClassId) (wa wb : Addr) (h0 : Heap) (n0 : Nat) (v : Option Value) (h : Heap) (L : List Loc) : Prop := v = some v0_ ∧ Fr n0 L ∧ Keep h0 h [dq, de]
theorem rm_nx01_01 (l : Launch) (Z : State) (a0 : Array Value) (hw : own_Wd Z a0) (ws : List Jvm.Cond) (ds un hl : Addr) (khl : ClassId) (xa : Addr) (kxa : ClassId) (dq de : Addr) (kde : ClassId) (wa wb : Addr) (h0 : Heap) (n0 : Nat) (O0 : Old Z n0 h0) (Pm0 : f23_ Z h0 ds (.ref un)) (Pm1 : f19_ Z h0 ds (.ref xa)) (Pm2 : f24_ Z h0 ds (.ref dq)) (Pm3 : Exa Z h0 un s38_) (Pm4 : f25_ Z h0 un (.ref hl)) (Pm5 : Arv Z h0 hl khl .boolean (16 : Int32) [v1_, v1_] v0_) (Pm6 : Arv Z h0 xa kxa .boolean (16 : Int32) [v0_, v1_] v0_) (Pm7 : Exa Z h0 dq s57_) (Pm8 : f34_ Z h0 dq v0_) (Pm9 : f35_ Z h0 dq (.int (2 : Int32))) (Pm10 : f33_ Z h0 dq (.ref de)) (Pm11 : Arv Z h0 de kde (.object s7_) (17 : Int32) [(.ref wa), (.ref wb)] .null) (gt_ds : n0 ≤ ds) (hch : own_asc [ds, un, hl, xa, dq, de]) (hb_wa : own_bx Z wa (0 : Int32)) (hb_wb : own_bx Z wb (1 : Int32)) :
  own_M l Z ws y60_ prog_12_method_11_code 2 (some .int) ({ frames := 4, cells := 0, slots := 0, locals := 54 } : Room) #[(.ref ds)] h0 (Q_rm_nx01_01 Z ds un hl khl xa kxa dq de kde wa wb h0 n0) := by
 refine own_open O0 (plainFor_of_name pn20_) (L0 := #[.val (.ref ds), .unset]) ?_
 intro p e s m below meth c s₁ Bd hx hby hml hZ hh hown hnm X0 e0 N0 Z0
 have hq_hch := hch
 simp only [own_asc] at hq_hch
 have lt_Pm0 := fG Pm0
 have lt_Pm3 := eG Pm3
 have lt_Pm5 := vG Pm5
 have lt_Pm6 := vG Pm6
 have lt_Pm7 := eG Pm7
 have lt_Pm11 := vG Pm11
 refine o_al X0 hx hby D46_0 rfl rfl ?_
 refine o_gf X0 hx hby hZ hown hw 322 rfl Via.refl e0 Pm2 D46_1 fun T1 X1 e1 => ?_
 obtain ⟨cq2, kq2, q2a, q2b, q2c⟩ := isOf hZ e1 Pm7
 refine o_k 5 (own_ifaceBackUp X1 hx (C := s57_) (J := s69_) (xi := y61_) (y := y45_) hown (mw hZ hw 409 rfl) (mw hZ hw 410 rfl) (by decide) (own_mvIF hZ (w_ hw 411 rfl) (by decide) (by decide)) (by decide) (mw hZ hw 412 rfl) (mw hZ hw 413 rfl) (mw hZ hw 414 rfl) (mw hZ hw 415 rfl) (mw hZ hw 374 rfl) (by decide) (bk 0 hZ hw 416 313 (rm_empN l Z a0 hw [] dq (0 : Int32) (2 : Int32) h0 n0 O0 Pm8 Pm9 (by decide))) q2a q2b q2c (g := (mkF m 4 #[.val (.ref ds), .unset] [(.ref dq)])) rfl hml.symm (Steps.refl _) (argsL := []) (rest := []) (lenOf pd14_ rfl) rfl own_z (hb hby D46_4) (o4 e1 0 0 0 0)) fun T2 Lc2 _ X2 hQ2 => ?_
 obtain ⟨rfl, M2, K2⟩ := hQ2
 have N2 := Fr.app N0 M2
 refine ob_ (fun _ k => XS.ifNo X2.here hx rfl (hb hby D46_9) rfl ((if0 _ _).trans (teq (by decide : (0 : Int32) = (0 : Int32))).2) k) ?_
 refine o_al X2 hx hby D46_12 rfl rfl ?_
 refine o_gf X2 hx hby hZ hown hw 322 rfl Via.refl K2 Pm2 D46_13 fun T3 X3 e3 => ?_
 have q_1 : own_LE n0 dq := mL
 obtain ⟨cq4, kq4, q4a, q4b, q4c⟩ := isOf hZ e3 Pm7
 refine o_k 5 (X3.interfaceBack hx (xi := y62_) (y := y49_) hown (mw hZ hw 417 rfl) (mw hZ hw 418 rfl) (mw hZ hw 419 rfl) (mw hZ hw 420 rfl) (mw hZ hw 421 rfl) (mw hZ hw 422 rfl) (mw hZ hw 423 rfl) (mw hZ hw 374 rfl) (by decide) (bk 0 hZ hw 424 313 (rm_rem02 l Z a0 hw [] dq de kde wa wb h0 n0 O0 Pm7 Pm8 Pm9 Pm10 Pm11 q_1 (by simp only [own_asc, and_true]; omega))) q4a q4b q4c (g := (mkF m 16 #[.val (.ref ds), .unset] [(.ref dq)])) rfl hml.symm (Steps.refl _) (argsL := []) (rest := []) (lenOf pd23_ rfl) rfl own_z (hb hby D46_16) (o4 e3 0 0 0 0)) fun T4 Lc4 _ X4 hQ4 => ?_
 obtain ⟨rfl, M4, K4, g4_0, g4_1, g4_2, g4_3, g4_4⟩ := hQ4
 have N4 := Fr.app N2 M4
 have z4 := K4.1
 have lt_g4_0 := eG g4_0
 have lt_g4_4 := vG g4_4
 have O5 : Old Z n0 T4.heap := (O0.keep K4 (allS q_1 (allS (by omega) all0)))
 have fc6 : Exa Z T4.heap wa s63_ := hb_wa.1.ext O5.2
 obtain ⟨T7, X7, e7, st7⟩ := castY X4 hx hZ hown (w_ hw 438 rfl) rfl (Ins.self fc6) (g := (mkF m 21 #[.val (.ref ds), .unset] [(.ref wa)])) rfl rfl (hb hby D46_21)
 refine ob_ st7 ?_
 have fc8 : f37_ Z T4.heap wa v0_ := hb_wa.2.ext O5.2
 obtain ⟨cq9, kq9, q9a, q9b, q9c⟩ := isOf hZ e7 fc6
 refine o_k 3 (X7.virtualBack hx (y := y41_) (z := y41_) hown (mw hZ hw 440 rfl) (mw hZ hw 441 rfl) (notFace_of_selects (args := #[]) (mw hZ hw 443 rfl)) (mw hZ hw 443 rfl) (mw hZ hw 442 rfl) (by decide) (bk 0 hZ hw 444 362 (rm_ivl l Z a0 hw [] wa (0 : Int32) T4.heap n0 O5 fc8)) q9a q9c (g := (mkF m 24 #[.val (.ref ds), .unset] [(.ref wa)])) rfl hml.symm (Steps.refl _) (argsL := []) (rest := []) (lenOf pd11_ rfl) rfl own_z (hb hby D46_24) (o4 e7 0 0 0 0)) fun T9 Lc9 _ X9 hQ9 => ?_
 obtain ⟨rfl, M9, K9⟩ := hQ9
 have N9 := Fr.app N4 M9
 refine ob_ (fun _ k => XS.istoreN X9.here hx rfl (hb hby D46_27) rfl (l' := #[.val (.ref ds), .val v0_]) rfl k) ?_
 refine o_al X9 hx hby D46_28 rfl rfl ?_
 have q_2 : own_NE de ds := mN
 have q_3 : own_NE dq ds := mN
 have q_4 : ds ∉ [dq, de] := nT (uS q_3) (nT (uS q_2) nin0)
 have fc10 := (Pm0.keep K4 q_4)
 refine o_gf X9 hx hby hZ hown hw 293 rfl Via.refl K9 fc10 D46_29 fun T11 X11 e11 => ?_
 refine o_il X11 hx hby D46_32 rfl ?_
 have fc12 := (Pm4.keep K4 (nS (nS nin0)))
 have fc13 := (Pm5.keep K4 (nS (nS nin0)))
 have fc15 := (Pm3.keep K4)
 obtain ⟨cq14, kq14, q14a, q14b, q14c⟩ := isOf hZ e11 fc15
 refine o_k 3 (X11.virtualBack hx (y := y59_) (z := y59_) hown (mw hZ hw 447 rfl) (mw hZ hw 448 rfl) (notFace_of_selects (args := #[]) (mw hZ hw 450 rfl)) (mw hZ hw 450 rfl) (mw hZ hw 449 rfl) (by decide) (bk 0 hZ hw 451 182 (rm_hol0 l Z a0 hw [] un hl khl T4.heap n0 O5 fc12 fc13)) q14a q14c (g := (mkF m 33 #[.val (.ref ds), .val v0_] [v0_, (.ref un)])) rfl hml.symm (Steps.refl _) (argsL := [v0_]) (rest := []) (lenOf pd28_ rfl) rfl own_z (hb hby D46_33) (o4 e11 0 0 0 0)) fun T14 Lc14 _ X14 hQ14 => ?_
 obtain ⟨rfl, M14, K14⟩ := hQ14
 have N14 := Fr.app N9 M14
 refine ob_ (fun _ k => XS.ifNo X14.here hx rfl (hb hby D46_36) rfl ((if0 _ _).trans (feq (by decide : ¬ ((1 : Int32) = (0 : Int32)))).1) k) ?_
 refine o_al X14 hx hby D46_39 rfl rfl ?_
 have fc16 := (Pm1.keep K4 q_4)
 refine o_gf X14 hx hby hZ hown hw 295 rfl Via.refl K14 fc16 D46_40 fun T17 X17 e17 => ?_
 refine o_il X17 hx hby D46_43 rfl ?_
 have fc18 := (Pm6.keep K4 (nS (nS nin0)))
 obtain ⟨cl19, Ar19, q19, S19, M19, H19, G19⟩ := (id fc18)
 have hin19 : ¬ ((0 : Int32) < 0 ∨ cl19.slots.size ≤ ((0 : Int32)).toNatClampNeg) := inb_of S19 ⟨by decide, by decide⟩
 refine ob_ (X17.baloadBooleans hx (j := (0 : Int32)) (v := v0_) (by rw [e17]; exact Ar19.1) (State.isArrayOf_alike hZ.alike Ar19.2.1) Ar19.2.2 hin19 (H19.at hin19 rfl) (g := (mkF m 44 #[.val (.ref ds), .val v0_] [v0_, (.ref xa)])) rfl rfl (hb hby D46_44)) ?_
 refine ob_ (fun _ k => XS.ifNo X17.here hx rfl (hb hby D46_45) rfl ((if0 _ _).trans (teq (by decide : (0 : Int32) = (0 : Int32))).2) k) ?_
 refine o_il X17 hx hby D46_48 rfl ?_
 have K20 : Keep h0 T4.heap [dq, de] := ((Keep.refl h0 [dq, de]).trans K4 (kI 0 rfl (kI 1 rfl all0)))
 exact o_ri Bd X17 hx hby e17 D46_49 ⟨rfl, N14, K20⟩
theorem D46_53 : dD46 53 (.iconst (-1)) 1 := by decide +kernel
theorem D46_54 : dD46 54 .ireturn 1 := by decide +kernel
def Q_rm_nx0_11 (Z : State) (ds un hl : Addr) (khl : ClassId) (xa : Addr) (kxa : ClassId) (dq de : Addr) (kde : ClassId) (wa : Addr) (h0 : Heap) (n0 : Nat) (v : Option Value) (h : Heap) (L : List Loc) : Prop := v = some (.int (-1 : Int32)) ∧ Fr n0 L ∧ Keep h0 h [dq, de]
theorem rm_nx0_11 (l : Launch) (Z : State) (a0 : Array Value) (hw : own_Wd Z a0) (ws : List Jvm.Cond) (ds un hl : Addr) (khl : ClassId) (xa : Addr) (kxa : ClassId) (dq de : Addr) (kde : ClassId) (wa : Addr) (h0 : Heap) (n0 : Nat) (O0 : Old Z n0 h0) (Pm0 : f23_ Z h0 ds (.ref un)) (Pm1 : f19_ Z h0 ds (.ref xa)) (Pm2 : f24_ Z h0 ds (.ref dq)) (Pm3 : Exa Z h0 un s38_) (Pm4 : f25_ Z h0 un (.ref hl)) (Pm5 : Arv Z h0 hl khl .boolean (16 : Int32) [v1_, v1_] v0_) (Pm6 : Arv Z h0 xa kxa .boolean (16 : Int32) [v1_, v1_] v0_) (Pm7 : Exa Z h0 dq s57_) (Pm8 : f34_ Z h0 dq v0_) (Pm9 : f35_ Z h0 dq v1_) (Pm10 : f33_ Z h0 dq (.ref de)) (Pm11 : Arv Z h0 de kde (.object s7_) (17 : Int32) [(.ref wa)] .null) (gt_ds : n0 ≤ ds) (hch : own_asc [ds, un, hl, xa, dq, de]) (hb_wa : own_bx Z wa (0 : Int32)) :
  own_M l Z ws y60_ prog_12_method_11_code 2 (some .int) ({ frames := 4, cells := 0, slots := 0, locals := 54 } : Room) #[(.ref ds)] h0 (Q_rm_nx0_11 Z ds un hl khl xa kxa dq de kde wa h0 n0) := by
 refine own_open O0 (plainFor_of_name pn20_) (L0 := #[.val (.ref ds), .unset]) ?_
 intro p e s m below meth c s₁ Bd hx hby hml hZ hh hown hnm X0 e0 N0 Z0
 have hq_hch := hch
 simp only [own_asc] at hq_hch
 have lt_Pm0 := fG Pm0
 have lt_Pm3 := eG Pm3
 have lt_Pm5 := vG Pm5
 have lt_Pm6 := vG Pm6
 have lt_Pm7 := eG Pm7
 have lt_Pm11 := vG Pm11
 refine o_al X0 hx hby D46_0 rfl rfl ?_
 refine o_gf X0 hx hby hZ hown hw 322 rfl Via.refl e0 Pm2 D46_1 fun T1 X1 e1 => ?_
 obtain ⟨cq2, kq2, q2a, q2b, q2c⟩ := isOf hZ e1 Pm7
 refine o_k 5 (own_ifaceBackUp X1 hx (C := s57_) (J := s69_) (xi := y61_) (y := y45_) hown (mw hZ hw 409 rfl) (mw hZ hw 410 rfl) (by decide) (own_mvIF hZ (w_ hw 411 rfl) (by decide) (by decide)) (by decide) (mw hZ hw 412 rfl) (mw hZ hw 413 rfl) (mw hZ hw 414 rfl) (mw hZ hw 415 rfl) (mw hZ hw 374 rfl) (by decide) (bk 0 hZ hw 416 313 (rm_empN l Z a0 hw [] dq (0 : Int32) (1 : Int32) h0 n0 O0 Pm8 Pm9 (by decide))) q2a q2b q2c (g := (mkF m 4 #[.val (.ref ds), .unset] [(.ref dq)])) rfl hml.symm (Steps.refl _) (argsL := []) (rest := []) (lenOf pd14_ rfl) rfl own_z (hb hby D46_4) (o4 e1 0 0 0 0)) fun T2 Lc2 _ X2 hQ2 => ?_
 obtain ⟨rfl, M2, K2⟩ := hQ2
 have N2 := Fr.app N0 M2
 refine ob_ (fun _ k => XS.ifNo X2.here hx rfl (hb hby D46_9) rfl ((if0 _ _).trans (teq (by decide : (0 : Int32) = (0 : Int32))).2) k) ?_
 refine o_al X2 hx hby D46_12 rfl rfl ?_
 refine o_gf X2 hx hby hZ hown hw 322 rfl Via.refl K2 Pm2 D46_13 fun T3 X3 e3 => ?_
 have q_1 : own_LE n0 dq := mL
 obtain ⟨cq4, kq4, q4a, q4b, q4c⟩ := isOf hZ e3 Pm7
 refine o_k 5 (X3.interfaceBack hx (xi := y62_) (y := y49_) hown (mw hZ hw 417 rfl) (mw hZ hw 418 rfl) (mw hZ hw 419 rfl) (mw hZ hw 420 rfl) (mw hZ hw 421 rfl) (mw hZ hw 422 rfl) (mw hZ hw 423 rfl) (mw hZ hw 374 rfl) (by decide) (bk 0 hZ hw 424 313 (rm_rem01 l Z a0 hw [] dq de kde wa h0 n0 O0 Pm7 Pm8 Pm9 Pm10 Pm11 q_1 (by simp only [own_asc, and_true]; omega))) q4a q4b q4c (g := (mkF m 16 #[.val (.ref ds), .unset] [(.ref dq)])) rfl hml.symm (Steps.refl _) (argsL := []) (rest := []) (lenOf pd23_ rfl) rfl own_z (hb hby D46_16) (o4 e3 0 0 0 0)) fun T4 Lc4 _ X4 hQ4 => ?_
 obtain ⟨rfl, M4, K4, g4_0, g4_1, g4_2, g4_3, g4_4⟩ := hQ4
 have N4 := Fr.app N2 M4
 have z4 := K4.1
 have lt_g4_0 := eG g4_0
 have lt_g4_4 := vG g4_4
 have O5 : Old Z n0 T4.heap := (O0.keep K4 (allS q_1 (allS (by omega) all0)))
 have fc6 : Exa Z T4.heap wa s63_ := hb_wa.1.ext O5.2
 obtain ⟨T7, X7, e7, st7⟩ := castY X4 hx hZ hown (w_ hw 438 rfl) rfl (Ins.self fc6) (g := (mkF m 21 #[.val (.ref ds), .unset] [(.ref wa)])) rfl rfl (hb hby D46_21)
 refine ob_ st7 ?_
 have fc8 : f37_ Z T4.heap wa v0_ := hb_wa.2.ext O5.2
 obtain ⟨cq9, kq9, q9a, q9b, q9c⟩ := isOf hZ e7 fc6
 refine o_k 3 (X7.virtualBack hx (y := y41_) (z := y41_) hown (mw hZ hw 440 rfl) (mw hZ hw 441 rfl) (notFace_of_selects (args := #[]) (mw hZ hw 443 rfl)) (mw hZ hw 443 rfl) (mw hZ hw 442 rfl) (by decide) (bk 0 hZ hw 444 362 (rm_ivl l Z a0 hw [] wa (0 : Int32) T4.heap n0 O5 fc8)) q9a q9c (g := (mkF m 24 #[.val (.ref ds), .unset] [(.ref wa)])) rfl hml.symm (Steps.refl _) (argsL := []) (rest := []) (lenOf pd11_ rfl) rfl own_z (hb hby D46_24) (o4 e7 0 0 0 0)) fun T9 Lc9 _ X9 hQ9 => ?_
 obtain ⟨rfl, M9, K9⟩ := hQ9
 have N9 := Fr.app N4 M9
 refine ob_ (fun _ k => XS.istoreN X9.here hx rfl (hb hby D46_27) rfl (l' := #[.val (.ref ds), .val v0_]) rfl k) ?_
 refine o_al X9 hx hby D46_28 rfl rfl ?_
 have q_2 : own_NE de ds := mN
 have q_3 : own_NE dq ds := mN
 have q_4 : ds ∉ [dq, de] := nT (uS q_3) (nT (uS q_2) nin0)
 have fc10 := (Pm0.keep K4 q_4)
 refine o_gf X9 hx hby hZ hown hw 293 rfl Via.refl K9 fc10 D46_29 fun T11 X11 e11 => ?_
 refine o_il X11 hx hby D46_32 rfl ?_
 have fc12 := (Pm4.keep K4 (nS (nS nin0)))
 have fc13 := (Pm5.keep K4 (nS (nS nin0)))
 have fc15 := (Pm3.keep K4)
 obtain ⟨cq14, kq14, q14a, q14b, q14c⟩ := isOf hZ e11 fc15
 refine o_k 3 (X11.virtualBack hx (y := y59_) (z := y59_) hown (mw hZ hw 447 rfl) (mw hZ hw 448 rfl) (notFace_of_selects (args := #[]) (mw hZ hw 450 rfl)) (mw hZ hw 450 rfl) (mw hZ hw 449 rfl) (by decide) (bk 0 hZ hw 451 182 (rm_hol0 l Z a0 hw [] un hl khl T4.heap n0 O5 fc12 fc13)) q14a q14c (g := (mkF m 33 #[.val (.ref ds), .val v0_] [v0_, (.ref un)])) rfl hml.symm (Steps.refl _) (argsL := [v0_]) (rest := []) (lenOf pd28_ rfl) rfl own_z (hb hby D46_33) (o4 e11 0 0 0 0)) fun T14 Lc14 _ X14 hQ14 => ?_
 obtain ⟨rfl, M14, K14⟩ := hQ14
 have N14 := Fr.app N9 M14
 refine ob_ (fun _ k => XS.ifNo X14.here hx rfl (hb hby D46_36) rfl ((if0 _ _).trans (feq (by decide : ¬ ((1 : Int32) = (0 : Int32)))).1) k) ?_
 refine o_al X14 hx hby D46_39 rfl rfl ?_
 have fc16 := (Pm1.keep K4 q_4)
 refine o_gf X14 hx hby hZ hown hw 295 rfl Via.refl K14 fc16 D46_40 fun T17 X17 e17 => ?_
 refine o_il X17 hx hby D46_43 rfl ?_
 have fc18 := (Pm6.keep K4 (nS (nS nin0)))
 obtain ⟨cl19, Ar19, q19, S19, M19, H19, G19⟩ := (id fc18)
 have hin19 : ¬ ((0 : Int32) < 0 ∨ cl19.slots.size ≤ ((0 : Int32)).toNatClampNeg) := inb_of S19 ⟨by decide, by decide⟩
 refine ob_ (X17.baloadBooleans hx (j := (0 : Int32)) (v := v1_) (by rw [e17]; exact Ar19.1) (State.isArrayOf_alike hZ.alike Ar19.2.1) Ar19.2.2 hin19 (H19.at hin19 rfl) (g := (mkF m 44 #[.val (.ref ds), .val v0_] [v0_, (.ref xa)])) rfl rfl (hb hby D46_44)) ?_
 refine ob_ (fun _ k => XS.ifYes X17.here hx rfl (pc0 := 45) (pc' := 50) rfl (hb hby D46_45) rfl ((if0 _ _).trans (feq (by decide : ¬ ((1 : Int32) = (0 : Int32)))).2) (by decide) (by decide) k) ?_
 refine ob_ (fun _ k => XS.goto X17.here hx rfl (pc0 := 50) (pc' := 0) rfl (hb hby D46_50) (by decide) (by decide) k) ?_
 refine o_al X17 hx hby D46_0 rfl rfl ?_
 have fc20 := (Pm2.keep K4 q_4)
 refine o_gf X17 hx hby hZ hown hw 322 rfl Via.refl e17 fc20 D46_1 fun T21 X21 e21 => ?_
 obtain ⟨cq22, kq22, q22a, q22b, q22c⟩ := isOf hZ e21 g4_0
 refine o_k 5 (own_ifaceBackUp X21 hx (C := s57_) (J := s69_) (xi := y61_) (y := y45_) hown (mw hZ hw 409 rfl) (mw hZ hw 410 rfl) (by decide) (own_mvIF hZ (w_ hw 411 rfl) (by decide) (by decide)) (by decide) (mw hZ hw 412 rfl) (mw hZ hw 413 rfl) (mw hZ hw 414 rfl) (mw hZ hw 415 rfl) (mw hZ hw 374 rfl) (by decide) (bk 0 hZ hw 416 313 (rm_empY l Z a0 hw [] dq (1 : Int32) T4.heap n0 O5 g4_1 g4_2)) q22a q22b q22c (g := (mkF m 4 #[.val (.ref ds), .val v0_] [(.ref dq)])) rfl hml.symm (Steps.refl _) (argsL := []) (rest := []) (lenOf pd14_ rfl) rfl own_z (hb hby D46_4) (o4 e21 0 0 0 0)) fun T22 Lc22 _ X22 hQ22 => ?_
 obtain ⟨rfl, M22, K22⟩ := hQ22
 have N22 := Fr.app N14 M22
 refine ob_ (fun _ k => XS.ifYes X22.here hx rfl (pc0 := 9) (pc' := 53) rfl (hb hby D46_9) rfl ((if0 _ _).trans (feq (by decide : ¬ ((1 : Int32) = (0 : Int32)))).2) (by decide) (by decide) k) ?_
 refine o_ic X22 hx hby D46_53 ?_
 have K23 : Keep h0 T4.heap [dq, de] := ((Keep.refl h0 [dq, de]).trans K4 (kI 0 rfl (kI 1 rfl all0)))
 exact o_ri Bd X22 hx hby K22 D46_54 ⟨rfl, N22, K23⟩
def Q_rm_nx0_01 (Z : State) (ds un hl : Addr) (khl : ClassId) (xa : Addr) (kxa : ClassId) (dq de : Addr) (kde : ClassId) (wa : Addr) (h0 : Heap) (n0 : Nat) (v : Option Value) (h : Heap) (L : List Loc) : Prop := v = some v0_ ∧ Fr n0 L ∧ Keep h0 h [dq, de]
theorem rm_nx0_01 (l : Launch) (Z : State) (a0 : Array Value) (hw : own_Wd Z a0) (ws : List Jvm.Cond) (ds un hl : Addr) (khl : ClassId) (xa : Addr) (kxa : ClassId) (dq de : Addr) (kde : ClassId) (wa : Addr) (h0 : Heap) (n0 : Nat) (O0 : Old Z n0 h0) (Pm0 : f23_ Z h0 ds (.ref un)) (Pm1 : f19_ Z h0 ds (.ref xa)) (Pm2 : f24_ Z h0 ds (.ref dq)) (Pm3 : Exa Z h0 un s38_) (Pm4 : f25_ Z h0 un (.ref hl)) (Pm5 : Arv Z h0 hl khl .boolean (16 : Int32) [v1_, v1_] v0_) (Pm6 : Arv Z h0 xa kxa .boolean (16 : Int32) [v0_, v1_] v0_) (Pm7 : Exa Z h0 dq s57_) (Pm8 : f34_ Z h0 dq v0_) (Pm9 : f35_ Z h0 dq v1_) (Pm10 : f33_ Z h0 dq (.ref de)) (Pm11 : Arv Z h0 de kde (.object s7_) (17 : Int32) [(.ref wa)] .null) (gt_ds : n0 ≤ ds) (hch : own_asc [ds, un, hl, xa, dq, de]) (hb_wa : own_bx Z wa (0 : Int32)) :
  own_M l Z ws y60_ prog_12_method_11_code 2 (some .int) ({ frames := 4, cells := 0, slots := 0, locals := 54 } : Room) #[(.ref ds)] h0 (Q_rm_nx0_01 Z ds un hl khl xa kxa dq de kde wa h0 n0) := by
 refine own_open O0 (plainFor_of_name pn20_) (L0 := #[.val (.ref ds), .unset]) ?_
 intro p e s m below meth c s₁ Bd hx hby hml hZ hh hown hnm X0 e0 N0 Z0
 have hq_hch := hch
 simp only [own_asc] at hq_hch
 have lt_Pm0 := fG Pm0
 have lt_Pm3 := eG Pm3
 have lt_Pm5 := vG Pm5
 have lt_Pm6 := vG Pm6
 have lt_Pm7 := eG Pm7
 have lt_Pm11 := vG Pm11
 refine o_al X0 hx hby D46_0 rfl rfl ?_
 refine o_gf X0 hx hby hZ hown hw 322 rfl Via.refl e0 Pm2 D46_1 fun T1 X1 e1 => ?_
 obtain ⟨cq2, kq2, q2a, q2b, q2c⟩ := isOf hZ e1 Pm7
 refine o_k 5 (own_ifaceBackUp X1 hx (C := s57_) (J := s69_) (xi := y61_) (y := y45_) hown (mw hZ hw 409 rfl) (mw hZ hw 410 rfl) (by decide) (own_mvIF hZ (w_ hw 411 rfl) (by decide) (by decide)) (by decide) (mw hZ hw 412 rfl) (mw hZ hw 413 rfl) (mw hZ hw 414 rfl) (mw hZ hw 415 rfl) (mw hZ hw 374 rfl) (by decide) (bk 0 hZ hw 416 313 (rm_empN l Z a0 hw [] dq (0 : Int32) (1 : Int32) h0 n0 O0 Pm8 Pm9 (by decide))) q2a q2b q2c (g := (mkF m 4 #[.val (.ref ds), .unset] [(.ref dq)])) rfl hml.symm (Steps.refl _) (argsL := []) (rest := []) (lenOf pd14_ rfl) rfl own_z (hb hby D46_4) (o4 e1 0 0 0 0)) fun T2 Lc2 _ X2 hQ2 => ?_
 obtain ⟨rfl, M2, K2⟩ := hQ2
 have N2 := Fr.app N0 M2
 refine ob_ (fun _ k => XS.ifNo X2.here hx rfl (hb hby D46_9) rfl ((if0 _ _).trans (teq (by decide : (0 : Int32) = (0 : Int32))).2) k) ?_
 refine o_al X2 hx hby D46_12 rfl rfl ?_
 refine o_gf X2 hx hby hZ hown hw 322 rfl Via.refl K2 Pm2 D46_13 fun T3 X3 e3 => ?_
 have q_1 : own_LE n0 dq := mL
 obtain ⟨cq4, kq4, q4a, q4b, q4c⟩ := isOf hZ e3 Pm7
 refine o_k 5 (X3.interfaceBack hx (xi := y62_) (y := y49_) hown (mw hZ hw 417 rfl) (mw hZ hw 418 rfl) (mw hZ hw 419 rfl) (mw hZ hw 420 rfl) (mw hZ hw 421 rfl) (mw hZ hw 422 rfl) (mw hZ hw 423 rfl) (mw hZ hw 374 rfl) (by decide) (bk 0 hZ hw 424 313 (rm_rem01 l Z a0 hw [] dq de kde wa h0 n0 O0 Pm7 Pm8 Pm9 Pm10 Pm11 q_1 (by simp only [own_asc, and_true]; omega))) q4a q4b q4c (g := (mkF m 16 #[.val (.ref ds), .unset] [(.ref dq)])) rfl hml.symm (Steps.refl _) (argsL := []) (rest := []) (lenOf pd23_ rfl) rfl own_z (hb hby D46_16) (o4 e3 0 0 0 0)) fun T4 Lc4 _ X4 hQ4 => ?_
 obtain ⟨rfl, M4, K4, g4_0, g4_1, g4_2, g4_3, g4_4⟩ := hQ4
 have N4 := Fr.app N2 M4
 have z4 := K4.1
 have lt_g4_0 := eG g4_0
 have lt_g4_4 := vG g4_4
 have O5 : Old Z n0 T4.heap := (O0.keep K4 (allS q_1 (allS (by omega) all0)))
 have fc6 : Exa Z T4.heap wa s63_ := hb_wa.1.ext O5.2
 obtain ⟨T7, X7, e7, st7⟩ := castY X4 hx hZ hown (w_ hw 438 rfl) rfl (Ins.self fc6) (g := (mkF m 21 #[.val (.ref ds), .unset] [(.ref wa)])) rfl rfl (hb hby D46_21)
 refine ob_ st7 ?_
 have fc8 : f37_ Z T4.heap wa v0_ := hb_wa.2.ext O5.2
 obtain ⟨cq9, kq9, q9a, q9b, q9c⟩ := isOf hZ e7 fc6
 refine o_k 3 (X7.virtualBack hx (y := y41_) (z := y41_) hown (mw hZ hw 440 rfl) (mw hZ hw 441 rfl) (notFace_of_selects (args := #[]) (mw hZ hw 443 rfl)) (mw hZ hw 443 rfl) (mw hZ hw 442 rfl) (by decide) (bk 0 hZ hw 444 362 (rm_ivl l Z a0 hw [] wa (0 : Int32) T4.heap n0 O5 fc8)) q9a q9c (g := (mkF m 24 #[.val (.ref ds), .unset] [(.ref wa)])) rfl hml.symm (Steps.refl _) (argsL := []) (rest := []) (lenOf pd11_ rfl) rfl own_z (hb hby D46_24) (o4 e7 0 0 0 0)) fun T9 Lc9 _ X9 hQ9 => ?_
 obtain ⟨rfl, M9, K9⟩ := hQ9
 have N9 := Fr.app N4 M9
 refine ob_ (fun _ k => XS.istoreN X9.here hx rfl (hb hby D46_27) rfl (l' := #[.val (.ref ds), .val v0_]) rfl k) ?_
 refine o_al X9 hx hby D46_28 rfl rfl ?_
 have q_2 : own_NE de ds := mN
 have q_3 : own_NE dq ds := mN
 have q_4 : ds ∉ [dq, de] := nT (uS q_3) (nT (uS q_2) nin0)
 have fc10 := (Pm0.keep K4 q_4)
 refine o_gf X9 hx hby hZ hown hw 293 rfl Via.refl K9 fc10 D46_29 fun T11 X11 e11 => ?_
 refine o_il X11 hx hby D46_32 rfl ?_
 have fc12 := (Pm4.keep K4 (nS (nS nin0)))
 have fc13 := (Pm5.keep K4 (nS (nS nin0)))
 have fc15 := (Pm3.keep K4)
 obtain ⟨cq14, kq14, q14a, q14b, q14c⟩ := isOf hZ e11 fc15
 refine o_k 3 (X11.virtualBack hx (y := y59_) (z := y59_) hown (mw hZ hw 447 rfl) (mw hZ hw 448 rfl) (notFace_of_selects (args := #[]) (mw hZ hw 450 rfl)) (mw hZ hw 450 rfl) (mw hZ hw 449 rfl) (by decide) (bk 0 hZ hw 451 182 (rm_hol0 l Z a0 hw [] un hl khl T4.heap n0 O5 fc12 fc13)) q14a q14c (g := (mkF m 33 #[.val (.ref ds), .val v0_] [v0_, (.ref un)])) rfl hml.symm (Steps.refl _) (argsL := [v0_]) (rest := []) (lenOf pd28_ rfl) rfl own_z (hb hby D46_33) (o4 e11 0 0 0 0)) fun T14 Lc14 _ X14 hQ14 => ?_
 obtain ⟨rfl, M14, K14⟩ := hQ14
 have N14 := Fr.app N9 M14
 refine ob_ (fun _ k => XS.ifNo X14.here hx rfl (hb hby D46_36) rfl ((if0 _ _).trans (feq (by decide : ¬ ((1 : Int32) = (0 : Int32)))).1) k) ?_
 refine o_al X14 hx hby D46_39 rfl rfl ?_
 have fc16 := (Pm1.keep K4 q_4)
 refine o_gf X14 hx hby hZ hown hw 295 rfl Via.refl K14 fc16 D46_40 fun T17 X17 e17 => ?_
 refine o_il X17 hx hby D46_43 rfl ?_
 have fc18 := (Pm6.keep K4 (nS (nS nin0)))
 obtain ⟨cl19, Ar19, q19, S19, M19, H19, G19⟩ := (id fc18)
 have hin19 : ¬ ((0 : Int32) < 0 ∨ cl19.slots.size ≤ ((0 : Int32)).toNatClampNeg) := inb_of S19 ⟨by decide, by decide⟩
 refine ob_ (X17.baloadBooleans hx (j := (0 : Int32)) (v := v0_) (by rw [e17]; exact Ar19.1) (State.isArrayOf_alike hZ.alike Ar19.2.1) Ar19.2.2 hin19 (H19.at hin19 rfl) (g := (mkF m 44 #[.val (.ref ds), .val v0_] [v0_, (.ref xa)])) rfl rfl (hb hby D46_44)) ?_
 refine ob_ (fun _ k => XS.ifNo X17.here hx rfl (hb hby D46_45) rfl ((if0 _ _).trans (teq (by decide : (0 : Int32) = (0 : Int32))).2) k) ?_
 refine o_il X17 hx hby D46_48 rfl ?_
 have K20 : Keep h0 T4.heap [dq, de] := ((Keep.refl h0 [dq, de]).trans K4 (kI 0 rfl (kI 1 rfl all0)))
 exact o_ri Bd X17 hx hby e17 D46_49 ⟨rfl, N14, K20⟩
def Q_rm_nx1_10 (Z : State) (ds un hl : Addr) (khl : ClassId) (xa : Addr) (kxa : ClassId) (dq de : Addr) (kde : ClassId) (wa : Addr) (h0 : Heap) (n0 : Nat) (v : Option Value) (h : Heap) (L : List Loc) : Prop := v = some v1_ ∧ Fr n0 L ∧ Keep h0 h [dq, de]
theorem rm_nx1_10 (l : Launch) (Z : State) (a0 : Array Value) (hw : own_Wd Z a0) (ws : List Jvm.Cond) (ds un hl : Addr) (khl : ClassId) (xa : Addr) (kxa : ClassId) (dq de : Addr) (kde : ClassId) (wa : Addr) (h0 : Heap) (n0 : Nat) (O0 : Old Z n0 h0) (Pm0 : f23_ Z h0 ds (.ref un)) (Pm1 : f19_ Z h0 ds (.ref xa)) (Pm2 : f24_ Z h0 ds (.ref dq)) (Pm3 : Exa Z h0 un s38_) (Pm4 : f25_ Z h0 un (.ref hl)) (Pm5 : Arv Z h0 hl khl .boolean (16 : Int32) [v1_, v1_] v0_) (Pm6 : Arv Z h0 xa kxa .boolean (16 : Int32) [v1_, v0_] v0_) (Pm7 : Exa Z h0 dq s57_) (Pm8 : f34_ Z h0 dq v0_) (Pm9 : f35_ Z h0 dq v1_) (Pm10 : f33_ Z h0 dq (.ref de)) (Pm11 : Arv Z h0 de kde (.object s7_) (17 : Int32) [(.ref wa)] .null) (gt_ds : n0 ≤ ds) (hch : own_asc [ds, un, hl, xa, dq, de]) (hb_wa : own_bx Z wa (1 : Int32)) :
  own_M l Z ws y60_ prog_12_method_11_code 2 (some .int) ({ frames := 4, cells := 0, slots := 0, locals := 54 } : Room) #[(.ref ds)] h0 (Q_rm_nx1_10 Z ds un hl khl xa kxa dq de kde wa h0 n0) := by
 refine own_open O0 (plainFor_of_name pn20_) (L0 := #[.val (.ref ds), .unset]) ?_
 intro p e s m below meth c s₁ Bd hx hby hml hZ hh hown hnm X0 e0 N0 Z0
 have hq_hch := hch
 simp only [own_asc] at hq_hch
 have lt_Pm0 := fG Pm0
 have lt_Pm3 := eG Pm3
 have lt_Pm5 := vG Pm5
 have lt_Pm6 := vG Pm6
 have lt_Pm7 := eG Pm7
 have lt_Pm11 := vG Pm11
 refine o_al X0 hx hby D46_0 rfl rfl ?_
 refine o_gf X0 hx hby hZ hown hw 322 rfl Via.refl e0 Pm2 D46_1 fun T1 X1 e1 => ?_
 obtain ⟨cq2, kq2, q2a, q2b, q2c⟩ := isOf hZ e1 Pm7
 refine o_k 5 (own_ifaceBackUp X1 hx (C := s57_) (J := s69_) (xi := y61_) (y := y45_) hown (mw hZ hw 409 rfl) (mw hZ hw 410 rfl) (by decide) (own_mvIF hZ (w_ hw 411 rfl) (by decide) (by decide)) (by decide) (mw hZ hw 412 rfl) (mw hZ hw 413 rfl) (mw hZ hw 414 rfl) (mw hZ hw 415 rfl) (mw hZ hw 374 rfl) (by decide) (bk 0 hZ hw 416 313 (rm_empN l Z a0 hw [] dq (0 : Int32) (1 : Int32) h0 n0 O0 Pm8 Pm9 (by decide))) q2a q2b q2c (g := (mkF m 4 #[.val (.ref ds), .unset] [(.ref dq)])) rfl hml.symm (Steps.refl _) (argsL := []) (rest := []) (lenOf pd14_ rfl) rfl own_z (hb hby D46_4) (o4 e1 0 0 0 0)) fun T2 Lc2 _ X2 hQ2 => ?_
 obtain ⟨rfl, M2, K2⟩ := hQ2
 have N2 := Fr.app N0 M2
 refine ob_ (fun _ k => XS.ifNo X2.here hx rfl (hb hby D46_9) rfl ((if0 _ _).trans (teq (by decide : (0 : Int32) = (0 : Int32))).2) k) ?_
 refine o_al X2 hx hby D46_12 rfl rfl ?_
 refine o_gf X2 hx hby hZ hown hw 322 rfl Via.refl K2 Pm2 D46_13 fun T3 X3 e3 => ?_
 have q_1 : own_LE n0 dq := mL
 obtain ⟨cq4, kq4, q4a, q4b, q4c⟩ := isOf hZ e3 Pm7
 refine o_k 5 (X3.interfaceBack hx (xi := y62_) (y := y49_) hown (mw hZ hw 417 rfl) (mw hZ hw 418 rfl) (mw hZ hw 419 rfl) (mw hZ hw 420 rfl) (mw hZ hw 421 rfl) (mw hZ hw 422 rfl) (mw hZ hw 423 rfl) (mw hZ hw 374 rfl) (by decide) (bk 0 hZ hw 424 313 (rm_rem01 l Z a0 hw [] dq de kde wa h0 n0 O0 Pm7 Pm8 Pm9 Pm10 Pm11 q_1 (by simp only [own_asc, and_true]; omega))) q4a q4b q4c (g := (mkF m 16 #[.val (.ref ds), .unset] [(.ref dq)])) rfl hml.symm (Steps.refl _) (argsL := []) (rest := []) (lenOf pd23_ rfl) rfl own_z (hb hby D46_16) (o4 e3 0 0 0 0)) fun T4 Lc4 _ X4 hQ4 => ?_
 obtain ⟨rfl, M4, K4, g4_0, g4_1, g4_2, g4_3, g4_4⟩ := hQ4
 have N4 := Fr.app N2 M4
 have z4 := K4.1
 have lt_g4_0 := eG g4_0
 have lt_g4_4 := vG g4_4
 have O5 : Old Z n0 T4.heap := (O0.keep K4 (allS q_1 (allS (by omega) all0)))
 have fc6 : Exa Z T4.heap wa s63_ := hb_wa.1.ext O5.2
 obtain ⟨T7, X7, e7, st7⟩ := castY X4 hx hZ hown (w_ hw 438 rfl) rfl (Ins.self fc6) (g := (mkF m 21 #[.val (.ref ds), .unset] [(.ref wa)])) rfl rfl (hb hby D46_21)
 refine ob_ st7 ?_
 have fc8 : f37_ Z T4.heap wa v1_ := hb_wa.2.ext O5.2
 obtain ⟨cq9, kq9, q9a, q9b, q9c⟩ := isOf hZ e7 fc6
 refine o_k 3 (X7.virtualBack hx (y := y41_) (z := y41_) hown (mw hZ hw 440 rfl) (mw hZ hw 441 rfl) (notFace_of_selects (args := #[]) (mw hZ hw 443 rfl)) (mw hZ hw 443 rfl) (mw hZ hw 442 rfl) (by decide) (bk 0 hZ hw 444 362 (rm_ivl l Z a0 hw [] wa (1 : Int32) T4.heap n0 O5 fc8)) q9a q9c (g := (mkF m 24 #[.val (.ref ds), .unset] [(.ref wa)])) rfl hml.symm (Steps.refl _) (argsL := []) (rest := []) (lenOf pd11_ rfl) rfl own_z (hb hby D46_24) (o4 e7 0 0 0 0)) fun T9 Lc9 _ X9 hQ9 => ?_
 obtain ⟨rfl, M9, K9⟩ := hQ9
 have N9 := Fr.app N4 M9
 refine ob_ (fun _ k => XS.istoreN X9.here hx rfl (hb hby D46_27) rfl (l' := #[.val (.ref ds), .val v1_]) rfl k) ?_
 refine o_al X9 hx hby D46_28 rfl rfl ?_
 have q_2 : own_NE de ds := mN
 have q_3 : own_NE dq ds := mN
 have q_4 : ds ∉ [dq, de] := nT (uS q_3) (nT (uS q_2) nin0)
 have fc10 := (Pm0.keep K4 q_4)
 refine o_gf X9 hx hby hZ hown hw 293 rfl Via.refl K9 fc10 D46_29 fun T11 X11 e11 => ?_
 refine o_il X11 hx hby D46_32 rfl ?_
 have fc12 := (Pm4.keep K4 (nS (nS nin0)))
 have fc13 := (Pm5.keep K4 (nS (nS nin0)))
 have fc15 := (Pm3.keep K4)
 obtain ⟨cq14, kq14, q14a, q14b, q14c⟩ := isOf hZ e11 fc15
 refine o_k 3 (X11.virtualBack hx (y := y59_) (z := y59_) hown (mw hZ hw 447 rfl) (mw hZ hw 448 rfl) (notFace_of_selects (args := #[]) (mw hZ hw 450 rfl)) (mw hZ hw 450 rfl) (mw hZ hw 449 rfl) (by decide) (bk 0 hZ hw 451 182 (rm_hol1 l Z a0 hw [] un hl khl T4.heap n0 O5 fc12 fc13)) q14a q14c (g := (mkF m 33 #[.val (.ref ds), .val v1_] [v1_, (.ref un)])) rfl hml.symm (Steps.refl _) (argsL := [v1_]) (rest := []) (lenOf pd28_ rfl) rfl own_z (hb hby D46_33) (o4 e11 0 0 0 0)) fun T14 Lc14 _ X14 hQ14 => ?_
 obtain ⟨rfl, M14, K14⟩ := hQ14
 have N14 := Fr.app N9 M14
 refine ob_ (fun _ k => XS.ifNo X14.here hx rfl (hb hby D46_36) rfl ((if0 _ _).trans (feq (by decide : ¬ ((1 : Int32) = (0 : Int32)))).1) k) ?_
 refine o_al X14 hx hby D46_39 rfl rfl ?_
 have fc16 := (Pm1.keep K4 q_4)
 refine o_gf X14 hx hby hZ hown hw 295 rfl Via.refl K14 fc16 D46_40 fun T17 X17 e17 => ?_
 refine o_il X17 hx hby D46_43 rfl ?_
 have fc18 := (Pm6.keep K4 (nS (nS nin0)))
 obtain ⟨cl19, Ar19, q19, S19, M19, H19, G19⟩ := (id fc18)
 have hin19 : ¬ ((1 : Int32) < 0 ∨ cl19.slots.size ≤ ((1 : Int32)).toNatClampNeg) := inb_of S19 ⟨by decide, by decide⟩
 refine ob_ (X17.baloadBooleans hx (j := (1 : Int32)) (v := v0_) (by rw [e17]; exact Ar19.1) (State.isArrayOf_alike hZ.alike Ar19.2.1) Ar19.2.2 hin19 (H19.at hin19 rfl) (g := (mkF m 44 #[.val (.ref ds), .val v1_] [v1_, (.ref xa)])) rfl rfl (hb hby D46_44)) ?_
 refine ob_ (fun _ k => XS.ifNo X17.here hx rfl (hb hby D46_45) rfl ((if0 _ _).trans (teq (by decide : (0 : Int32) = (0 : Int32))).2) k) ?_
 refine o_il X17 hx hby D46_48 rfl ?_
 have K20 : Keep h0 T4.heap [dq, de] := ((Keep.refl h0 [dq, de]).trans K4 (kI 0 rfl (kI 1 rfl all0)))
 exact o_ri Bd X17 hx hby e17 D46_49 ⟨rfl, N14, K20⟩
def Q_rm_nx1_11 (Z : State) (ds un hl : Addr) (khl : ClassId) (xa : Addr) (kxa : ClassId) (dq de : Addr) (kde : ClassId) (wa : Addr) (h0 : Heap) (n0 : Nat) (v : Option Value) (h : Heap) (L : List Loc) : Prop := v = some (.int (-1 : Int32)) ∧ Fr n0 L ∧ Keep h0 h [dq, de]
theorem rm_nx1_11 (l : Launch) (Z : State) (a0 : Array Value) (hw : own_Wd Z a0) (ws : List Jvm.Cond) (ds un hl : Addr) (khl : ClassId) (xa : Addr) (kxa : ClassId) (dq de : Addr) (kde : ClassId) (wa : Addr) (h0 : Heap) (n0 : Nat) (O0 : Old Z n0 h0) (Pm0 : f23_ Z h0 ds (.ref un)) (Pm1 : f19_ Z h0 ds (.ref xa)) (Pm2 : f24_ Z h0 ds (.ref dq)) (Pm3 : Exa Z h0 un s38_) (Pm4 : f25_ Z h0 un (.ref hl)) (Pm5 : Arv Z h0 hl khl .boolean (16 : Int32) [v1_, v1_] v0_) (Pm6 : Arv Z h0 xa kxa .boolean (16 : Int32) [v1_, v1_] v0_) (Pm7 : Exa Z h0 dq s57_) (Pm8 : f34_ Z h0 dq v0_) (Pm9 : f35_ Z h0 dq v1_) (Pm10 : f33_ Z h0 dq (.ref de)) (Pm11 : Arv Z h0 de kde (.object s7_) (17 : Int32) [(.ref wa)] .null) (gt_ds : n0 ≤ ds) (hch : own_asc [ds, un, hl, xa, dq, de]) (hb_wa : own_bx Z wa (1 : Int32)) :
  own_M l Z ws y60_ prog_12_method_11_code 2 (some .int) ({ frames := 4, cells := 0, slots := 0, locals := 54 } : Room) #[(.ref ds)] h0 (Q_rm_nx1_11 Z ds un hl khl xa kxa dq de kde wa h0 n0) := by
 refine own_open O0 (plainFor_of_name pn20_) (L0 := #[.val (.ref ds), .unset]) ?_
 intro p e s m below meth c s₁ Bd hx hby hml hZ hh hown hnm X0 e0 N0 Z0
 have hq_hch := hch
 simp only [own_asc] at hq_hch
 have lt_Pm0 := fG Pm0
 have lt_Pm3 := eG Pm3
 have lt_Pm5 := vG Pm5
 have lt_Pm6 := vG Pm6
 have lt_Pm7 := eG Pm7
 have lt_Pm11 := vG Pm11
 refine o_al X0 hx hby D46_0 rfl rfl ?_
 refine o_gf X0 hx hby hZ hown hw 322 rfl Via.refl e0 Pm2 D46_1 fun T1 X1 e1 => ?_
 obtain ⟨cq2, kq2, q2a, q2b, q2c⟩ := isOf hZ e1 Pm7
 refine o_k 5 (own_ifaceBackUp X1 hx (C := s57_) (J := s69_) (xi := y61_) (y := y45_) hown (mw hZ hw 409 rfl) (mw hZ hw 410 rfl) (by decide) (own_mvIF hZ (w_ hw 411 rfl) (by decide) (by decide)) (by decide) (mw hZ hw 412 rfl) (mw hZ hw 413 rfl) (mw hZ hw 414 rfl) (mw hZ hw 415 rfl) (mw hZ hw 374 rfl) (by decide) (bk 0 hZ hw 416 313 (rm_empN l Z a0 hw [] dq (0 : Int32) (1 : Int32) h0 n0 O0 Pm8 Pm9 (by decide))) q2a q2b q2c (g := (mkF m 4 #[.val (.ref ds), .unset] [(.ref dq)])) rfl hml.symm (Steps.refl _) (argsL := []) (rest := []) (lenOf pd14_ rfl) rfl own_z (hb hby D46_4) (o4 e1 0 0 0 0)) fun T2 Lc2 _ X2 hQ2 => ?_
 obtain ⟨rfl, M2, K2⟩ := hQ2
 have N2 := Fr.app N0 M2
 refine ob_ (fun _ k => XS.ifNo X2.here hx rfl (hb hby D46_9) rfl ((if0 _ _).trans (teq (by decide : (0 : Int32) = (0 : Int32))).2) k) ?_
 refine o_al X2 hx hby D46_12 rfl rfl ?_
 refine o_gf X2 hx hby hZ hown hw 322 rfl Via.refl K2 Pm2 D46_13 fun T3 X3 e3 => ?_
 have q_1 : own_LE n0 dq := mL
 obtain ⟨cq4, kq4, q4a, q4b, q4c⟩ := isOf hZ e3 Pm7
 refine o_k 5 (X3.interfaceBack hx (xi := y62_) (y := y49_) hown (mw hZ hw 417 rfl) (mw hZ hw 418 rfl) (mw hZ hw 419 rfl) (mw hZ hw 420 rfl) (mw hZ hw 421 rfl) (mw hZ hw 422 rfl) (mw hZ hw 423 rfl) (mw hZ hw 374 rfl) (by decide) (bk 0 hZ hw 424 313 (rm_rem01 l Z a0 hw [] dq de kde wa h0 n0 O0 Pm7 Pm8 Pm9 Pm10 Pm11 q_1 (by simp only [own_asc, and_true]; omega))) q4a q4b q4c (g := (mkF m 16 #[.val (.ref ds), .unset] [(.ref dq)])) rfl hml.symm (Steps.refl _) (argsL := []) (rest := []) (lenOf pd23_ rfl) rfl own_z (hb hby D46_16) (o4 e3 0 0 0 0)) fun T4 Lc4 _ X4 hQ4 => ?_
 obtain ⟨rfl, M4, K4, g4_0, g4_1, g4_2, g4_3, g4_4⟩ := hQ4
 have N4 := Fr.app N2 M4
 have z4 := K4.1
 have lt_g4_0 := eG g4_0
 have lt_g4_4 := vG g4_4
 have O5 : Old Z n0 T4.heap := (O0.keep K4 (allS q_1 (allS (by omega) all0)))
 have fc6 : Exa Z T4.heap wa s63_ := hb_wa.1.ext O5.2
 obtain ⟨T7, X7, e7, st7⟩ := castY X4 hx hZ hown (w_ hw 438 rfl) rfl (Ins.self fc6) (g := (mkF m 21 #[.val (.ref ds), .unset] [(.ref wa)])) rfl rfl (hb hby D46_21)
 refine ob_ st7 ?_
 have fc8 : f37_ Z T4.heap wa v1_ := hb_wa.2.ext O5.2
 obtain ⟨cq9, kq9, q9a, q9b, q9c⟩ := isOf hZ e7 fc6
 refine o_k 3 (X7.virtualBack hx (y := y41_) (z := y41_) hown (mw hZ hw 440 rfl) (mw hZ hw 441 rfl) (notFace_of_selects (args := #[]) (mw hZ hw 443 rfl)) (mw hZ hw 443 rfl) (mw hZ hw 442 rfl) (by decide) (bk 0 hZ hw 444 362 (rm_ivl l Z a0 hw [] wa (1 : Int32) T4.heap n0 O5 fc8)) q9a q9c (g := (mkF m 24 #[.val (.ref ds), .unset] [(.ref wa)])) rfl hml.symm (Steps.refl _) (argsL := []) (rest := []) (lenOf pd11_ rfl) rfl own_z (hb hby D46_24) (o4 e7 0 0 0 0)) fun T9 Lc9 _ X9 hQ9 => ?_
 obtain ⟨rfl, M9, K9⟩ := hQ9
 have N9 := Fr.app N4 M9
 refine ob_ (fun _ k => XS.istoreN X9.here hx rfl (hb hby D46_27) rfl (l' := #[.val (.ref ds), .val v1_]) rfl k) ?_
 refine o_al X9 hx hby D46_28 rfl rfl ?_
 have q_2 : own_NE de ds := mN
 have q_3 : own_NE dq ds := mN
 have q_4 : ds ∉ [dq, de] := nT (uS q_3) (nT (uS q_2) nin0)
 have fc10 := (Pm0.keep K4 q_4)
 refine o_gf X9 hx hby hZ hown hw 293 rfl Via.refl K9 fc10 D46_29 fun T11 X11 e11 => ?_
 refine o_il X11 hx hby D46_32 rfl ?_
 have fc12 := (Pm4.keep K4 (nS (nS nin0)))
 have fc13 := (Pm5.keep K4 (nS (nS nin0)))
 have fc15 := (Pm3.keep K4)
 obtain ⟨cq14, kq14, q14a, q14b, q14c⟩ := isOf hZ e11 fc15
 refine o_k 3 (X11.virtualBack hx (y := y59_) (z := y59_) hown (mw hZ hw 447 rfl) (mw hZ hw 448 rfl) (notFace_of_selects (args := #[]) (mw hZ hw 450 rfl)) (mw hZ hw 450 rfl) (mw hZ hw 449 rfl) (by decide) (bk 0 hZ hw 451 182 (rm_hol1 l Z a0 hw [] un hl khl T4.heap n0 O5 fc12 fc13)) q14a q14c (g := (mkF m 33 #[.val (.ref ds), .val v1_] [v1_, (.ref un)])) rfl hml.symm (Steps.refl _) (argsL := [v1_]) (rest := []) (lenOf pd28_ rfl) rfl own_z (hb hby D46_33) (o4 e11 0 0 0 0)) fun T14 Lc14 _ X14 hQ14 => ?_
 obtain ⟨rfl, M14, K14⟩ := hQ14
 have N14 := Fr.app N9 M14
 refine ob_ (fun _ k => XS.ifNo X14.here hx rfl (hb hby D46_36) rfl ((if0 _ _).trans (feq (by decide : ¬ ((1 : Int32) = (0 : Int32)))).1) k) ?_
 refine o_al X14 hx hby D46_39 rfl rfl ?_
 have fc16 := (Pm1.keep K4 q_4)
 refine o_gf X14 hx hby hZ hown hw 295 rfl Via.refl K14 fc16 D46_40 fun T17 X17 e17 => ?_
 refine o_il X17 hx hby D46_43 rfl ?_
 have fc18 := (Pm6.keep K4 (nS (nS nin0)))
 obtain ⟨cl19, Ar19, q19, S19, M19, H19, G19⟩ := (id fc18)
 have hin19 : ¬ ((1 : Int32) < 0 ∨ cl19.slots.size ≤ ((1 : Int32)).toNatClampNeg) := inb_of S19 ⟨by decide, by decide⟩
 refine ob_ (X17.baloadBooleans hx (j := (1 : Int32)) (v := v1_) (by rw [e17]; exact Ar19.1) (State.isArrayOf_alike hZ.alike Ar19.2.1) Ar19.2.2 hin19 (H19.at hin19 rfl) (g := (mkF m 44 #[.val (.ref ds), .val v1_] [v1_, (.ref xa)])) rfl rfl (hb hby D46_44)) ?_
 refine ob_ (fun _ k => XS.ifYes X17.here hx rfl (pc0 := 45) (pc' := 50) rfl (hb hby D46_45) rfl ((if0 _ _).trans (feq (by decide : ¬ ((1 : Int32) = (0 : Int32)))).2) (by decide) (by decide) k) ?_
 refine ob_ (fun _ k => XS.goto X17.here hx rfl (pc0 := 50) (pc' := 0) rfl (hb hby D46_50) (by decide) (by decide) k) ?_
 refine o_al X17 hx hby D46_0 rfl rfl ?_
 have fc20 := (Pm2.keep K4 q_4)
 refine o_gf X17 hx hby hZ hown hw 322 rfl Via.refl e17 fc20 D46_1 fun T21 X21 e21 => ?_
 obtain ⟨cq22, kq22, q22a, q22b, q22c⟩ := isOf hZ e21 g4_0
 refine o_k 5 (own_ifaceBackUp X21 hx (C := s57_) (J := s69_) (xi := y61_) (y := y45_) hown (mw hZ hw 409 rfl) (mw hZ hw 410 rfl) (by decide) (own_mvIF hZ (w_ hw 411 rfl) (by decide) (by decide)) (by decide) (mw hZ hw 412 rfl) (mw hZ hw 413 rfl) (mw hZ hw 414 rfl) (mw hZ hw 415 rfl) (mw hZ hw 374 rfl) (by decide) (bk 0 hZ hw 416 313 (rm_empY l Z a0 hw [] dq (1 : Int32) T4.heap n0 O5 g4_1 g4_2)) q22a q22b q22c (g := (mkF m 4 #[.val (.ref ds), .val v1_] [(.ref dq)])) rfl hml.symm (Steps.refl _) (argsL := []) (rest := []) (lenOf pd14_ rfl) rfl own_z (hb hby D46_4) (o4 e21 0 0 0 0)) fun T22 Lc22 _ X22 hQ22 => ?_
 obtain ⟨rfl, M22, K22⟩ := hQ22
 have N22 := Fr.app N14 M22
 refine ob_ (fun _ k => XS.ifYes X22.here hx rfl (pc0 := 9) (pc' := 53) rfl (hb hby D46_9) rfl ((if0 _ _).trans (feq (by decide : ¬ ((1 : Int32) = (0 : Int32)))).2) (by decide) (by decide) k) ?_
 refine o_ic X22 hx hby D46_53 ?_
 have K23 : Keep h0 T4.heap [dq, de] := ((Keep.refl h0 [dq, de]).trans K4 (kI 0 rfl (kI 1 rfl all0)))
 exact o_ri Bd X22 hx hby K22 D46_54 ⟨rfl, N22, K23⟩
def Q_rm_nx_11 (Z : State) (ds un hl : Addr) (khl : ClassId) (xa : Addr) (kxa : ClassId) (dq de : Addr) (kde : ClassId) (h0 : Heap) (n0 : Nat) (v : Option Value) (h : Heap) (L : List Loc) : Prop := v = some (.int (-1 : Int32)) ∧ Fr n0 L ∧ Keep h0 h [dq, de]
theorem rm_nx_11 (l : Launch) (Z : State) (a0 : Array Value) (hw : own_Wd Z a0) (ws : List Jvm.Cond) (ds un hl : Addr) (khl : ClassId) (xa : Addr) (kxa : ClassId) (dq de : Addr) (kde : ClassId) (h0 : Heap) (n0 : Nat) (O0 : Old Z n0 h0) (Pm0 : f23_ Z h0 ds (.ref un)) (Pm1 : f19_ Z h0 ds (.ref xa)) (Pm2 : f24_ Z h0 ds (.ref dq)) (Pm3 : Exa Z h0 un s38_) (Pm4 : f25_ Z h0 un (.ref hl)) (Pm5 : Arv Z h0 hl khl .boolean (16 : Int32) [v1_, v1_] v0_) (Pm6 : Arv Z h0 xa kxa .boolean (16 : Int32) [v1_, v1_] v0_) (Pm7 : Exa Z h0 dq s57_) (Pm8 : f34_ Z h0 dq v0_) (Pm9 : f35_ Z h0 dq v0_) (Pm10 : f33_ Z h0 dq (.ref de)) (Pm11 : Arv Z h0 de kde (.object s7_) (17 : Int32) [] .null) (gt_ds : n0 ≤ ds) (hch : own_asc [ds, un, hl, xa, dq, de]) :
  own_M l Z ws y60_ prog_12_method_11_code 2 (some .int) ({ frames := 1, cells := 0, slots := 0, locals := 12 } : Room) #[(.ref ds)] h0 (Q_rm_nx_11 Z ds un hl khl xa kxa dq de kde h0 n0) := by
 refine own_open O0 (plainFor_of_name pn20_) (L0 := #[.val (.ref ds), .unset]) ?_
 intro p e s m below meth c s₁ Bd hx hby hml hZ hh hown hnm X0 e0 N0 Z0
 have hq_hch := hch
 simp only [own_asc] at hq_hch
 have lt_Pm0 := fG Pm0
 have lt_Pm3 := eG Pm3
 have lt_Pm5 := vG Pm5
 have lt_Pm6 := vG Pm6
 have lt_Pm7 := eG Pm7
 have lt_Pm11 := vG Pm11
 refine o_al X0 hx hby D46_0 rfl rfl ?_
 refine o_gf X0 hx hby hZ hown hw 322 rfl Via.refl e0 Pm2 D46_1 fun T1 X1 e1 => ?_
 obtain ⟨cq2, kq2, q2a, q2b, q2c⟩ := isOf hZ e1 Pm7
 refine o_k 5 (own_ifaceBackUp X1 hx (C := s57_) (J := s69_) (xi := y61_) (y := y45_) hown (mw hZ hw 409 rfl) (mw hZ hw 410 rfl) (by decide) (own_mvIF hZ (w_ hw 411 rfl) (by decide) (by decide)) (by decide) (mw hZ hw 412 rfl) (mw hZ hw 413 rfl) (mw hZ hw 414 rfl) (mw hZ hw 415 rfl) (mw hZ hw 374 rfl) (by decide) (bk 0 hZ hw 416 313 (rm_empY l Z a0 hw [] dq (0 : Int32) h0 n0 O0 Pm8 Pm9)) q2a q2b q2c (g := (mkF m 4 #[.val (.ref ds), .unset] [(.ref dq)])) rfl hml.symm (Steps.refl _) (argsL := []) (rest := []) (lenOf pd14_ rfl) rfl own_z (hb hby D46_4) (o4 e1 0 0 0 0)) fun T2 Lc2 _ X2 hQ2 => ?_
 obtain ⟨rfl, M2, K2⟩ := hQ2
 have N2 := Fr.app N0 M2
 refine ob_ (fun _ k => XS.ifYes X2.here hx rfl (pc0 := 9) (pc' := 53) rfl (hb hby D46_9) rfl ((if0 _ _).trans (feq (by decide : ¬ ((1 : Int32) = (0 : Int32)))).2) (by decide) (by decide) k) ?_
 refine o_ic X2 hx hby D46_53 ?_
 have K3 : Keep h0 h0 [dq, de] := (Keep.refl h0 [dq, de])
 exact o_ri Bd X2 hx hby K2 D46_54 ⟨rfl, N2, K3⟩
def Q_rm_law (Z : State) (su wh dn : Int32) (dce : Addr) (kce : ClassId) (el ele : Addr) (kele : ClassId) (ci : Addr) (cci : Cell) (mr : Addr) (h0 : Heap) (n0 : Nat) (v : Option Value) (h : Heap) (L : List Loc) : Prop := v = some v1_ ∧ Fr n0 L ∧ Keep h0 h []
theorem ef_rm_law (m : MethodId) (su : Int32) (wh : Int32) (dn : Int32) (dce : Addr) (kce : ClassId) (el : Addr) (ele : Addr) (kele : ClassId) (ci : Addr) (cci : Cell) (mr : Addr) : entryFrame m #[(.int su), (.int wh), (.int dn)] maxLocals = mkF m 0 #[.val (.int su), .val (.int wh), .val (.int dn), .unset, .unset, .unset, .unset, .unset, .unset, .unset, .unset, .unset, .unset, .unset, .unset, .unset, .unset, .unset, .unset, .unset, .unset, .unset, .unset, .unset, .unset] [] := by first | (simp [entryFrame, mkF, argsToLocals, Value.category, maxLocals]; done) | rfl
set_option maxRecDepth 65536 in
set_option maxHeartbeats 40000000 in
theorem rm_law (l : Launch) (Z : State) (a0 : Array Value) (hw : ∀ d ∈ tables_1, d.before a0 Z = true) (ws : List Jvm.Cond) (su wh dn : Int32) (dce : Addr) (kce : ClassId) (el ele : Addr) (kele : ClassId) (ci : Addr) (cci : Cell) (mr : Addr) (h0 : Heap) (n0 : Nat) (O0 : Old Z n0 h0) (S_DCE : Sta Z Z.heap s4_ s8_ s9_ (.ref dce)) (A_DCE : Arv Z Z.heap dce kce (.object s7_) (0 : Int32) [] .null) (E_DCE : Exa Z Z.heap dce s9_) (S_EL : Sta Z Z.heap s25_ "EMPTY_LIST" s26_ (.ref el)) (E_EL : Exa Z Z.heap el s29_) (F_EL : f3_ Z Z.heap el (.ref ele)) (A_EL : Arv Z Z.heap ele kele (.object s7_) (0 : Int32) [] .null) (S_high : Sta Z Z.heap s65_ "high" "I" (.int (127 : Int32))) (S_icache : Sta Z Z.heap s65_ "cache" s66_ (.ref ci)) (Bxi : Bxs Z ci cci s63_ "I" (256 : Int32) (fun j => .int (j - 128))) (hMr : own_Mir Z s9_ mr) :
  MetFree l x (head1 (Jvm.Cond.code x code maxLocals ret :: ws) room_1) (fun a U => a = #[(.int su), (.int wh), (.int dn)] ∧ Z.Warmed39 U.vm ∧ U.heap = h0) (fun _ _ _ _ _ => True) (fun _ U o U' => ∃ v L, o = .returned v ∧ Q_rm_law Z su wh dn dce kce el ele kele ci cci mr h0 n0 v U'.heap L ∧ ReturnedEndW U o U' L room_1.cells room_1.slots) := by
 refine MetFree.of_bodySF (plainFor_of_name pn21_) hisR ?_
 intro p e s m args below meth c s₁ Bd hml0 hP hK
 obtain ⟨rfl, hZ, hh⟩ := hP
 have hx := Bd.exec
 have hby := Bd.bytes
 have hml : c.maxLocals = 25 := hml0
 have hown : s.vm.findClass s1_ = some m.cls := findClass_of_methodNamed Bd.named
 have hnm := (name_of_methodNamed Bd.named Bd.method).1
 have X0 : Stand p l e room_1 (s.setVm s.vm) m #[(.int su), (.int wh), (.int dn)] below meth c s₁ [] 0 0 := Stand.of_body Bd
 have S0 : s.Since s.vm h0.size := (State.WarmedH.refl s).since _
 have hZ : Z.Warmed39 (s.setVm s.vm).vm := hZ
 have hown : (s.setVm s.vm).vm.findClass s1_ = some m.cls := hown
 have e0 : s₁.heap = h0 := by rw [← hh, Bd.state]; rfl
 have N0 := Fr.nil n0
 have Z0 : n0 ≤ h0.size := by rw [← O0.1]; exact O0.2.1
 show own_Go p e below (s₁.setTop (entryFrame m #[(.int su), (.int wh), (.int dn)] maxLocals)) (fun t o => ∃ v L, o = .returned v ∧ Q_rm_law Z su wh dn dce kce el ele kele ci cci mr h0 n0 v t.heap L ∧ ReturnedEndW s o t L room_1.cells room_1.slots)
 rw [ef_rm_law m su wh dn dce kce el ele kele ci cci mr]
 have lel : @LT.lt Nat instLTNat el n0 := O0.1 ▸ E_EL.lt
 refine o_il X0 hx hby at_0 rfl ?_
 refine o_ic X0 hx hby at_1 ?_
 refine ob_ (fun _ k => XS.iand X0.here hx rfl (hb hby at_2) rfl k) ?_
 have jn1 : ∀ (Tj1 : State), (∃ lc, Stand p l e room_1 (s.setVm s.vm) m #[(.int su), (.int wh), (.int dn)] below meth c Tj1 lc 0 0 ∧ Fr n0 lc) → Tj1.heap = h0 → ∀ (li : Int32), (li = 0 ∨ li = 1) → own_Go p e below (Tj1.setTop (mkF m 11 #[.val (.int su), .val (.int wh), .val (.int dn), .unset, .unset, .unset, .unset, .unset, .unset, .unset, .unset, .unset, .unset, .unset, .unset, .unset, .unset, .unset, .unset, .unset, .unset, .unset, .unset, .unset, .unset] [(.int li)])) (fun t o => ∃ v L, o = .returned v ∧ Q_rm_law Z su wh dn dce kce el ele kele ci cci mr h0 n0 v t.heap L ∧ ReturnedEndW s o t L room_1.cells room_1.slots) := by
  rintro Tj1 ⟨lc1, Xj1, Nj1⟩ ej1 li hj1
  refine ob_ (fun _ k => XS.istoreN Xj1.here hx rfl (hb hby at_11) rfl (l' := #[.val (.int su), .val (.int wh), .val (.int dn), .val (.int li), .unset, .unset, .unset, .unset, .unset, .unset, .unset, .unset, .unset, .unset, .unset, .unset, .unset, .unset, .unset, .unset, .unset, .unset, .unset, .unset, .unset]) rfl k) ?_
  refine o_il Xj1 hx hby at_12 rfl ?_
  have jn2 : ∀ (Tj2 : State), (∃ lc, Stand p l e room_1 (s.setVm s.vm) m #[(.int su), (.int wh), (.int dn)] below meth c Tj2 lc 0 0 ∧ Fr n0 lc) → Tj2.heap = h0 → ∀ (ax : Int32), ((ax = 0 ∨ ax = 1) ∧ (li = 0 → ax = 0)) → own_Go p e below (Tj2.setTop (mkF m 27 #[.val (.int su), .val (.int wh), .val (.int dn), .val (.int li), .unset, .unset, .unset, .unset, .unset, .unset, .unset, .unset, .unset, .unset, .unset, .unset, .unset, .unset, .unset, .unset, .unset, .unset, .unset, .unset, .unset] [(.int ax)])) (fun t o => ∃ v L, o = .returned v ∧ Q_rm_law Z su wh dn dce kce el ele kele ci cci mr h0 n0 v t.heap L ∧ ReturnedEndW s o t L room_1.cells room_1.slots) := by
   rintro Tj2 ⟨lc2, Xj2, Nj2⟩ ej2 ax hj2
   refine ob_ (fun _ k => XS.istore Xj2.here hx rfl (hb hby at_27) rfl (l' := #[.val (.int su), .val (.int wh), .val (.int dn), .val (.int li), .val (.int ax), .unset, .unset, .unset, .unset, .unset, .unset, .unset, .unset, .unset, .unset, .unset, .unset, .unset, .unset, .unset, .unset, .unset, .unset, .unset, .unset]) rfl k) ?_
   refine o_il Xj2 hx hby at_29 rfl ?_
   refine o_ic Xj2 hx hby at_30 ?_
   refine ob_ (fun _ k => XS.iand Xj2.here hx rfl (hb hby at_31) rfl k) ?_
   have jn3 : ∀ (Tj3 : State), (∃ lc, Stand p l e room_1 (s.setVm s.vm) m #[(.int su), (.int wh), (.int dn)] below meth c Tj3 lc 0 0 ∧ Fr n0 lc) → Tj3.heap = h0 → ∀ (ea : Int32), (ea = 0 ∨ ea = 1) → own_Go p e below (Tj3.setTop (mkF m 40 #[.val (.int su), .val (.int wh), .val (.int dn), .val (.int li), .val (.int ax), .unset, .unset, .unset, .unset, .unset, .unset, .unset, .unset, .unset, .unset, .unset, .unset, .unset, .unset, .unset, .unset, .unset, .unset, .unset, .unset] [(.int ea)])) (fun t o => ∃ v L, o = .returned v ∧ Q_rm_law Z su wh dn dce kce el ele kele ci cci mr h0 n0 v t.heap L ∧ ReturnedEndW s o t L room_1.cells room_1.slots) := by
    rintro Tj3 ⟨lc3, Xj3, Nj3⟩ ej3 ea hj3
    refine ob_ (fun _ k => XS.istore Xj3.here hx rfl (hb hby at_40) rfl (l' := #[.val (.int su), .val (.int wh), .val (.int dn), .val (.int li), .val (.int ax), .val (.int ea), .unset, .unset, .unset, .unset, .unset, .unset, .unset, .unset, .unset, .unset, .unset, .unset, .unset, .unset, .unset, .unset, .unset, .unset, .unset]) rfl k) ?_
    refine o_il Xj3 hx hby at_42 rfl ?_
    refine o_bi Xj3 hx hby at_43 ?_
    refine ob_ (fun _ k => XS.iand Xj3.here hx rfl (hb hby at_45) rfl k) ?_
    have jn4 : ∀ (Tj4 : State), (∃ lc, Stand p l e room_1 (s.setVm s.vm) m #[(.int su), (.int wh), (.int dn)] below meth c Tj4 lc 0 0 ∧ Fr n0 lc) → Tj4.heap = h0 → ∀ (eb : Int32), (eb = 0 ∨ eb = 1) → own_Go p e below (Tj4.setTop (mkF m 54 #[.val (.int su), .val (.int wh), .val (.int dn), .val (.int li), .val (.int ax), .val (.int ea), .unset, .unset, .unset, .unset, .unset, .unset, .unset, .unset, .unset, .unset, .unset, .unset, .unset, .unset, .unset, .unset, .unset, .unset, .unset] [(.int eb)])) (fun t o => ∃ v L, o = .returned v ∧ Q_rm_law Z su wh dn dce kce el ele kele ci cci mr h0 n0 v t.heap L ∧ ReturnedEndW s o t L room_1.cells room_1.slots) := by
     rintro Tj4 ⟨lc4, Xj4, Nj4⟩ ej4 eb hj4
     refine ob_ (fun _ k => XS.istore Xj4.here hx rfl (hb hby at_54) rfl (l' := #[.val (.int su), .val (.int wh), .val (.int dn), .val (.int li), .val (.int ax), .val (.int ea), .val (.int eb), .unset, .unset, .unset, .unset, .unset, .unset, .unset, .unset, .unset, .unset, .unset, .unset, .unset, .unset, .unset, .unset, .unset, .unset]) rfl k) ?_
     refine o_il Xj4 hx hby at_56 rfl ?_
     refine o_bi Xj4 hx hby at_57 ?_
     refine ob_ (fun _ k => XS.iand Xj4.here hx rfl (hb hby at_59) rfl k) ?_
     have jn5 : ∀ (Tj5 : State), (∃ lc, Stand p l e room_1 (s.setVm s.vm) m #[(.int su), (.int wh), (.int dn)] below meth c Tj5 lc 0 0 ∧ Fr n0 lc) → Tj5.heap = h0 → ∀ (pa : Int32), (pa = 0 ∨ pa = 1) → own_Go p e below (Tj5.setTop (mkF m 68 #[.val (.int su), .val (.int wh), .val (.int dn), .val (.int li), .val (.int ax), .val (.int ea), .val (.int eb), .unset, .unset, .unset, .unset, .unset, .unset, .unset, .unset, .unset, .unset, .unset, .unset, .unset, .unset, .unset, .unset, .unset, .unset] [(.int pa)])) (fun t o => ∃ v L, o = .returned v ∧ Q_rm_law Z su wh dn dce kce el ele kele ci cci mr h0 n0 v t.heap L ∧ ReturnedEndW s o t L room_1.cells room_1.slots) := by
      rintro Tj5 ⟨lc5, Xj5, Nj5⟩ ej5 pa hj5
      refine ob_ (fun _ k => XS.istore Xj5.here hx rfl (hb hby at_68) rfl (l' := #[.val (.int su), .val (.int wh), .val (.int dn), .val (.int li), .val (.int ax), .val (.int ea), .val (.int eb), .val (.int pa), .unset, .unset, .unset, .unset, .unset, .unset, .unset, .unset, .unset, .unset, .unset, .unset, .unset, .unset, .unset, .unset, .unset]) rfl k) ?_
      refine o_il Xj5 hx hby at_70 rfl ?_
      refine o_bi Xj5 hx hby at_71 ?_
      refine ob_ (fun _ k => XS.iand Xj5.here hx rfl (hb hby at_73) rfl k) ?_
      have jn6 : ∀ (Tj6 : State), (∃ lc, Stand p l e room_1 (s.setVm s.vm) m #[(.int su), (.int wh), (.int dn)] below meth c Tj6 lc 0 0 ∧ Fr n0 lc) → Tj6.heap = h0 → ∀ (pb : Int32), (pb = 0 ∨ pb = 1) → own_Go p e below (Tj6.setTop (mkF m 82 #[.val (.int su), .val (.int wh), .val (.int dn), .val (.int li), .val (.int ax), .val (.int ea), .val (.int eb), .val (.int pa), .unset, .unset, .unset, .unset, .unset, .unset, .unset, .unset, .unset, .unset, .unset, .unset, .unset, .unset, .unset, .unset, .unset] [(.int pb)])) (fun t o => ∃ v L, o = .returned v ∧ Q_rm_law Z su wh dn dce kce el ele kele ci cci mr h0 n0 v t.heap L ∧ ReturnedEndW s o t L room_1.cells room_1.slots) := by
       rintro Tj6 ⟨lc6, Xj6, Nj6⟩ ej6 pb hj6
       refine ob_ (fun _ k => XS.istore Xj6.here hx rfl (hb hby at_82) rfl (l' := #[.val (.int su), .val (.int wh), .val (.int dn), .val (.int li), .val (.int ax), .val (.int ea), .val (.int eb), .val (.int pa), .val (.int pb), .unset, .unset, .unset, .unset, .unset, .unset, .unset, .unset, .unset, .unset, .unset, .unset, .unset, .unset, .unset, .unset]) rfl k) ?_
       refine o_il Xj6 hx hby at_84 rfl ?_
       refine o_bi Xj6 hx hby at_85 ?_
       refine ob_ (fun _ k => XS.iand Xj6.here hx rfl (hb hby at_87) rfl k) ?_
       have jn7 : ∀ (Tj7 : State), (∃ lc, Stand p l e room_1 (s.setVm s.vm) m #[(.int su), (.int wh), (.int dn)] below meth c Tj7 lc 0 0 ∧ Fr n0 lc) → Tj7.heap = h0 → ∀ (dl : Int32), (dl = 0 ∨ dl = 1) → own_Go p e below (Tj7.setTop (mkF m 96 #[.val (.int su), .val (.int wh), .val (.int dn), .val (.int li), .val (.int ax), .val (.int ea), .val (.int eb), .val (.int pa), .val (.int pb), .unset, .unset, .unset, .unset, .unset, .unset, .unset, .unset, .unset, .unset, .unset, .unset, .unset, .unset, .unset, .unset] [(.int dl)])) (fun t o => ∃ v L, o = .returned v ∧ Q_rm_law Z su wh dn dce kce el ele kele ci cci mr h0 n0 v t.heap L ∧ ReturnedEndW s o t L room_1.cells room_1.slots) := by
        rintro Tj7 ⟨lc7, Xj7, Nj7⟩ ej7 dl hj7
        refine ob_ (fun _ k => XS.istore Xj7.here hx rfl (hb hby at_96) rfl (l' := #[.val (.int su), .val (.int wh), .val (.int dn), .val (.int li), .val (.int ax), .val (.int ea), .val (.int eb), .val (.int pa), .val (.int pb), .val (.int dl), .unset, .unset, .unset, .unset, .unset, .unset, .unset, .unset, .unset, .unset, .unset, .unset, .unset, .unset, .unset]) rfl k) ?_
        refine o_il Xj7 hx hby at_98 rfl ?_
        refine o_bi Xj7 hx hby at_99 ?_
        show own_Go p e below (Tj7.setTop (mkF m 101 #[.val (.int su), .val (.int wh), .val (.int dn), .val (.int li), .val (.int ax), .val (.int ea), .val (.int eb), .val (.int pa), .val (.int pb), .val (.int dl), .unset, .unset, .unset, .unset, .unset, .unset, .unset, .unset, .unset, .unset, .unset, .unset, .unset, .unset, .unset] [(.int (7 : Int32)), (.int su)])) _
        refine ob_ (fun _ k => XS.ishr Xj7.here hx rfl (hb hby at_101) rfl k) ?_
        refine o_ic Xj7 hx hby at_102 ?_
        show own_Go p e below (Tj7.setTop (mkF m 103 #[.val (.int su), .val (.int wh), .val (.int dn), .val (.int li), .val (.int ax), .val (.int ea), .val (.int eb), .val (.int pa), .val (.int pb), .val (.int dl), .unset, .unset, .unset, .unset, .unset, .unset, .unset, .unset, .unset, .unset, .unset, .unset, .unset, .unset, .unset] [v1_, (.int (su >>> ((7 : Int32) &&& 31)))])) _
        refine ob_ (fun _ k => XS.iand Xj7.here hx rfl (hb hby at_103) rfl k) ?_
        refine ob_ (fun _ k => XS.istore Xj7.here hx rfl (hb hby at_104) rfl (l' := #[.val (.int su), .val (.int wh), .val (.int dn), .val (.int li), .val (.int ax), .val (.int ea), .val (.int eb), .val (.int pa), .val (.int pb), .val (.int dl), .val (.int ((su >>> ((7 : Int32) &&& 31)) &&& (1 : Int32))), .unset, .unset, .unset, .unset, .unset, .unset, .unset, .unset, .unset, .unset, .unset, .unset, .unset, .unset]) rfl k) ?_
        show own_Go p e below (Tj7.setTop (mkF m 106 #[.val (.int su), .val (.int wh), .val (.int dn), .val (.int li), .val (.int ax), .val (.int ea), .val (.int eb), .val (.int pa), .val (.int pb), .val (.int dl), .val (.int ((su >>> ((7 : Int32) &&& 31)) &&& (1 : Int32))), .unset, .unset, .unset, .unset, .unset, .unset, .unset, .unset, .unset, .unset, .unset, .unset, .unset, .unset] [])) _
        obtain ⟨lm, e_lm⟩ : ∃ z, z = ((su >>> ((7 : Int32) &&& 31)) &&& (1 : Int32)) := ⟨_, rfl⟩
        rw [← e_lm]
        have h_lm := own_and1 e_lm
        refine o_il Xj7 hx hby at_106 rfl ?_
        refine o_ic Xj7 hx hby at_107 ?_
        refine ob_ (fun _ k => XS.iand Xj7.here hx rfl (hb hby at_108) rfl k) ?_
        refine ob_ (fun _ k => XS.istore Xj7.here hx rfl (hb hby at_109) rfl (l' := #[.val (.int su), .val (.int wh), .val (.int dn), .val (.int li), .val (.int ax), .val (.int ea), .val (.int eb), .val (.int pa), .val (.int pb), .val (.int dl), .val (.int lm), .val (.int (wh &&& (1 : Int32))), .unset, .unset, .unset, .unset, .unset, .unset, .unset, .unset, .unset, .unset, .unset, .unset, .unset]) rfl k) ?_
        show own_Go p e below (Tj7.setTop (mkF m 111 #[.val (.int su), .val (.int wh), .val (.int dn), .val (.int li), .val (.int ax), .val (.int ea), .val (.int eb), .val (.int pa), .val (.int pb), .val (.int dl), .val (.int lm), .val (.int (wh &&& (1 : Int32))), .unset, .unset, .unset, .unset, .unset, .unset, .unset, .unset, .unset, .unset, .unset, .unset, .unset] [])) _
        obtain ⟨ix, e_ix⟩ : ∃ z, z = (wh &&& (1 : Int32)) := ⟨_, rfl⟩
        rw [← e_ix]
        have h_ix := own_and1 e_ix
        refine o_il Xj7 hx hby at_111 rfl ?_
        refine o_ic Xj7 hx hby at_112 ?_
        refine ob_ (fun _ k => XS.iand Xj7.here hx rfl (hb hby at_113) rfl k) ?_
        have jn8 : ∀ (Tj8 : State), (∃ lc, Stand p l e room_1 (s.setVm s.vm) m #[(.int su), (.int wh), (.int dn)] below meth c Tj8 lc 0 0 ∧ Fr n0 lc) → Tj8.heap = h0 → ∀ (cm : Int32), (cm = 0 ∨ cm = 1) → own_Go p e below (Tj8.setTop (mkF m 122 #[.val (.int su), .val (.int wh), .val (.int dn), .val (.int li), .val (.int ax), .val (.int ea), .val (.int eb), .val (.int pa), .val (.int pb), .val (.int dl), .val (.int lm), .val (.int ix), .unset, .unset, .unset, .unset, .unset, .unset, .unset, .unset, .unset, .unset, .unset, .unset, .unset] [(.int cm)])) (fun t o => ∃ v L, o = .returned v ∧ Q_rm_law Z su wh dn dce kce el ele kele ci cci mr h0 n0 v t.heap L ∧ ReturnedEndW s o t L room_1.cells room_1.slots) := by
         rintro Tj8 ⟨lc8, Xj8, Nj8⟩ ej8 cm hj8
         refine ob_ (fun _ k => XS.istore Xj8.here hx rfl (hb hby at_122) rfl (l' := #[.val (.int su), .val (.int wh), .val (.int dn), .val (.int li), .val (.int ax), .val (.int ea), .val (.int eb), .val (.int pa), .val (.int pb), .val (.int dl), .val (.int lm), .val (.int ix), .val (.int cm), .unset, .unset, .unset, .unset, .unset, .unset, .unset, .unset, .unset, .unset, .unset, .unset]) rfl k) ?_
         obtain ⟨T9, h9, X9, e9, E9, A9, D9, U9, st9⟩ := newO Xj8 hx hZ hown (w_ hw 0 rfl) (w_ hw 1 rfl) (w_ hw 2 rfl) ej8 (g := (mkF m 124 #[.val (.int su), .val (.int wh), .val (.int dn), .val (.int li), .val (.int ax), .val (.int ea), .val (.int eb), .val (.int pa), .val (.int pb), .val (.int dl), .val (.int lm), .val (.int ix), .val (.int cm), .unset, .unset, .unset, .unset, .unset, .unset, .unset, .unset, .unset, .unset, .unset, .unset] [])) rfl (hb hby at_124) (by decide) (by decide)
         obtain ⟨ob9, g9⟩ : ∃ z, z = h0.size := ⟨_, rfl⟩
         rw [← g9] at A9 D9 U9 st9
         refine ob_ st9 ?_
         have z9 := E9.1
         have lt9 : h9.size > ob9 := A9.lt
         refine ob_ (fun _ k => XS.dup X9.here hx rfl (hb hby at_127) rfl rfl k) ?_
         obtain ⟨b10, T10, h10, k10, X10, e10, E10, S10, kk10, hZ10, ho10, st10⟩ := ldcS X9 hx hZ hown (w_ hw 3 rfl) (own_wS hw) e9 S0 (by omega) (g := (mkF m 128 #[.val (.int su), .val (.int wh), .val (.int dn), .val (.int li), .val (.int ax), .val (.int ea), .val (.int eb), .val (.int pa), .val (.int pb), .val (.int dl), .val (.int lm), .val (.int ix), .val (.int cm), .unset, .unset, .unset, .unset, .unset, .unset, .unset, .unset, .unset, .unset, .unset, .unset] [(.ref ob9), (.ref ob9)])) rfl (hb hby at_128) (n := 4) (by decide) (by decide) (by decide) (by decide)
         refine ob_ st10 ?_
         have z10 := E10.1
         refine o_ic X10 hx hby at_130 ?_
         obtain ⟨T11, h11, k11, X11, e11, E11, A11, Ex11, st11⟩ := newPE X10 hx hZ10 (w_ hw 11 rfl) e10 (g := (mkF m 131 #[.val (.int su), .val (.int wh), .val (.int dn), .val (.int li), .val (.int ax), .val (.int ea), .val (.int eb), .val (.int pa), .val (.int pb), .val (.int dl), .val (.int lm), .val (.int ix), .val (.int cm), .unset, .unset, .unset, .unset, .unset, .unset, .unset, .unset, .unset, .unset, .unset, .unset] [v0_, (.ref b10), (.ref ob9), (.ref ob9)])) rfl (hb hby at_131) rfl (by decide) (cap := 0) (by decide) (by decide) (by decide) (by decide) (ad := "[I") rfl
         obtain ⟨ob11, g11⟩ : ∃ z, z = h10.size := ⟨_, rfl⟩
         rw [← g11] at A11 st11 Ex11
         refine ob_ st11 ?_
         have z11 := E11.1
         have Vw11 : Arv Z h11 ob11 k11 .int (0 : Int32) [] v0_ := Arv.new A11 (by decide)
         have lt11 : h11.size > ob11 := Vw11.lt
         obtain ⟨T12, h12, X12, e12, E12, A12, D12, U12, st12⟩ := newO X11 hx hZ10 ho10 (w_ hw 12 rfl) (w_ hw 13 rfl) (w_ hw 14 rfl) e11 (g := (mkF m 133 #[.val (.int su), .val (.int wh), .val (.int dn), .val (.int li), .val (.int ax), .val (.int ea), .val (.int eb), .val (.int pa), .val (.int pb), .val (.int dl), .val (.int lm), .val (.int ix), .val (.int cm), .unset, .unset, .unset, .unset, .unset, .unset, .unset, .unset, .unset, .unset, .unset, .unset] [(.ref ob11), (.ref b10), (.ref ob9), (.ref ob9)])) rfl (hb hby at_133) (by decide) (by decide)
         obtain ⟨ob12, g12⟩ : ∃ z, z = h11.size := ⟨_, rfl⟩
         rw [← g12] at A12 D12 U12 st12
         refine ob_ st12 ?_
         have z12 := E12.1
         have lt12 : h12.size > ob12 := A12.lt
         refine ob_ (fun _ k => XS.dup X12.here hx rfl (hb hby at_136) rfl rfl k) ?_
         have q_1 : own_LE n0 ob12 := mL
         have O13 : Old Z n0 h12 := ((((O0.ext E9).ext E10).ext E11).ext E12)
         refine o_k 3 (X12.specialBack hx (y := y3_) rfl ho10 (mvT hZ10 (w_ hw 15 rfl)) (mvT hZ10 (w_ hw 16 rfl)) (mvT hZ10 (w_ hw 17 rfl)) (by decide) (bk 5 hZ10 hw 17 14 (rm_ai l Z a0 hw [] ob12 dce kce h12 n0 O13 S_DCE A_DCE E_DCE A12 (show f32_ Z h12 ob12 v0_ from D12 (Or.inl (w_ hw 73 rfl)) (ty := .int) (by decide)) (show f36_ Z h12 ob12 v0_ from D12 (Or.inl (w_ hw 34 rfl)) (ty := .int) (by decide)) (show f31_ Z h12 ob12 .null from D12 (Or.inl (w_ hw 37 rfl)) (ty := (.array (.object s7_))) (by decide)) q_1)) (g := (mkF m 137 #[.val (.int su), .val (.int wh), .val (.int dn), .val (.int li), .val (.int ax), .val (.int ea), .val (.int eb), .val (.int pa), .val (.int pb), .val (.int dl), .val (.int lm), .val (.int ix), .val (.int cm), .unset, .unset, .unset, .unset, .unset, .unset, .unset, .unset, .unset, .unset, .unset, .unset] [(.ref ob12), (.ref ob12), (.ref ob11), (.ref b10), (.ref ob9), (.ref ob9)])) rfl (by rw [hml]; rfl) (Steps.refl _) (a := ob12) (argsL := []) (rest := [(.ref ob12), (.ref ob11), (.ref b10), (.ref ob9), (.ref ob9)]) (lenOf pd1_ rfl) rfl own_z (hb hby at_137) (o4 e12 5 0 17 0)) fun T14 Lc14 _ X14 hQ14 => ?_
         obtain ⟨rfl, M14, K14, g14_0, g14_1, g14_2, g14_3⟩ := hQ14
         have N14 := Fr.app Nj8 M14
         have z14 := K14.1
         have lt_g14_0 := eG g14_0
         refine ob_ (fun _ k => XS.aconstNull X14.here hx rfl (hb hby at_140) k) ?_
         have fc15 := ((((A9.ext E10).ext E11).ext E12).keep K14)
         have q_2 : own_NE ob12 ob9 := mN
         have fc16 : f5_ Z T14.heap ob9 v0_ := (((((show f5_ Z h9 ob9 v0_ from D9 (Or.inl (w_ hw 46 rfl)) (ty := .int) (by decide)).ext E10).ext E11).ext E12).keep K14 (nT (uS q_2) nin0))
         have fc17 : f7_ Z T14.heap ob9 .null := (((((show f7_ Z h9 ob9 .null from D9 (Or.inr (w_ hw 48 rfl)) (ty := (.object s3_)) (by decide)).ext E10).ext E11).ext E12).keep K14 (nT (uS q_2) nin0))
         have fc18 : f6_ Z T14.heap ob9 .null := (((((show f6_ Z h9 ob9 .null from D9 (Or.inr (w_ hw 59 rfl)) (ty := (.array .int)) (by decide)).ext E10).ext E11).ext E12).keep K14 (nT (uS q_2) nin0))
         have fc19 : f4_ Z T14.heap ob9 .null := (((((show f4_ Z h9 ob9 .null from D9 (Or.inr (w_ hw 119 rfl)) (ty := (.object s16_)) (by decide)).ext E10).ext E11).ext E12).keep K14 (nT (uS q_2) nin0))
         have fc20 : f9_ Z T14.heap ob9 .null := (((((show f9_ Z h9 ob9 .null from D9 (Or.inr (w_ hw 121 rfl)) (ty := (.object "com/example/rewrought/rewrought/TermNames")) (by decide)).ext E10).ext E11).ext E12).keep K14 (nT (uS q_2) nin0))
         have fc21 : f8_ Z T14.heap ob9 (.long (0 : Int64)) := (((((show f8_ Z h9 ob9 (.long (0 : Int64)) from D9 (Or.inr (w_ hw 161 rfl)) (ty := .long) (by decide)).ext E10).ext E11).ext E12).keep K14 (nT (uS q_2) nin0))
         have fc22 := ((Vw11.ext E12).keep K14 (nS nin0))
         have fc23 := ((Ex11.ext E12).keep K14)
         have q_3 : own_LE n0 ob9 := mL
         have O24 : Old Z n0 T14.heap := (O13.keep K14 (allS q_1 all0))
         refine o_k 3 (X14.specialBack hx (y := y33_) rfl ho10 (mvT hZ10 (w_ hw 38 rfl)) (mvT hZ10 (w_ hw 39 rfl)) (mvT hZ10 (w_ hw 40 rfl)) (by decide) (bk 1 hZ10 hw 40 2 (rm_cq4 l Z a0 hw [] ob9 b10 ob11 k11 ob12 dce kce el ele kele T14.heap n0 O24 S_DCE A_DCE E_DCE S_EL E_EL F_EL A_EL fc15 fc16 fc17 fc18 fc19 fc20 fc21 fc22 fc23 g14_0 g14_1 g14_2 g14_3 q_3 (by first | assumption | omega | decide) (by first | assumption | omega | decide) (by first | assumption | omega | decide))) (g := (mkF m 141 #[.val (.int su), .val (.int wh), .val (.int dn), .val (.int li), .val (.int ax), .val (.int ea), .val (.int eb), .val (.int pa), .val (.int pb), .val (.int dl), .val (.int lm), .val (.int ix), .val (.int cm), .unset, .unset, .unset, .unset, .unset, .unset, .unset, .unset, .unset, .unset, .unset, .unset] [.null, (.ref ob12), (.ref ob11), (.ref b10), (.ref ob9), (.ref ob9)])) rfl (by rw [hml]; rfl) (Steps.refl _) (a := ob9) (argsL := [(.ref b10), (.ref ob11), (.ref ob12), .null]) (rest := [(.ref ob9)]) (lenOf pd29_ rfl) rfl own_z (hb hby at_141) (o4 rfl 5 4 17 8)) fun T25 Lc25 _ X25 hQ25 => ?_
         obtain ⟨rfl, M25, K25, g25_0, g25_1⟩ := hQ25
         have N25 := Fr.app N14 M25
         have z25 := K25.1
         have lt_g25_0 := eG g25_0
         refine ob_ (fun _ k => XS.astore X25.here hx rfl (hb hby at_144) rfl rfl (l' := #[.val (.int su), .val (.int wh), .val (.int dn), .val (.int li), .val (.int ax), .val (.int ea), .val (.int eb), .val (.int pa), .val (.int pb), .val (.int dl), .val (.int lm), .val (.int ix), .val (.int cm), .val (.ref ob9), .unset, .unset, .unset, .unset, .unset, .unset, .unset, .unset, .unset, .unset, .unset]) rfl k) ?_
         obtain ⟨T26, h26, X26, e26, E26, A26, D26, U26, st26⟩ := newO X25 hx hZ10 ho10 (w_ hw 162 rfl) (w_ hw 163 rfl) (w_ hw 164 rfl) rfl (g := (mkF m 146 #[.val (.int su), .val (.int wh), .val (.int dn), .val (.int li), .val (.int ax), .val (.int ea), .val (.int eb), .val (.int pa), .val (.int pb), .val (.int dl), .val (.int lm), .val (.int ix), .val (.int cm), .val (.ref ob9), .unset, .unset, .unset, .unset, .unset, .unset, .unset, .unset, .unset, .unset, .unset] [])) rfl (hb hby at_146) (by decide) (by decide)
         obtain ⟨ob26, g26⟩ : ∃ z, z = T25.heap.size := ⟨_, rfl⟩
         rw [← g26] at A26 D26 U26 st26
         refine ob_ st26 ?_
         have z26 := E26.1
         have lt26 : h26.size > ob26 := A26.lt
         refine ob_ (fun _ k => XS.dup X26.here hx rfl (hb hby at_149) rfl rfl k) ?_
         refine o_aL X26 hx hby at_150 rfl rfl ?_
         refine o_ic X26 hx hby at_152 ?_
         obtain ⟨T27, h27, k27, X27, e27, E27, A27, Ex27, st27⟩ := newPE X26 hx hZ10 (w_ hw 11 rfl) e26 (g := (mkF m 153 #[.val (.int su), .val (.int wh), .val (.int dn), .val (.int li), .val (.int ax), .val (.int ea), .val (.int eb), .val (.int pa), .val (.int pb), .val (.int dl), .val (.int lm), .val (.int ix), .val (.int cm), .val (.ref ob9), .unset, .unset, .unset, .unset, .unset, .unset, .unset, .unset, .unset, .unset, .unset] [v0_, (.ref ob9), (.ref ob26), (.ref ob26)])) rfl (hb hby at_153) rfl (by decide) (cap := 0) (by decide) (by decide) (by decide) (by decide) (ad := "[I") rfl
         obtain ⟨ob27, g27⟩ : ∃ z, z = h26.size := ⟨_, rfl⟩
         rw [← g27] at A27 st27 Ex27
         refine ob_ st27 ?_
         have z27 := E27.1
         have Vw27 : Arv Z h27 ob27 k27 .int (0 : Int32) [] v0_ := Arv.new A27 (by decide)
         have lt27 : h27.size > ob27 := Vw27.lt
         have fc28 := (A26.ext E27)
         have fc29 : f12_ Z h27 ob26 .null := ((show f12_ Z h26 ob26 .null from D26 (Or.inr (w_ hw 170 rfl)) (ty := (.object s2_)) (by decide)).ext E27)
         have fc30 : f13_ Z h27 ob26 .null := ((show f13_ Z h26 ob26 .null from D26 (Or.inr (w_ hw 172 rfl)) (ty := (.array .int)) (by decide)).ext E27)
         have q_4 : own_LE n0 ob26 := mL
         have O31 : Old Z n0 h27 := (((O24.keep K25 (allS q_3 all0)).ext E26).ext E27)
         refine o_k 3 (X27.specialBack hx (y := y34_) rfl ho10 (mvT hZ10 (w_ hw 165 rfl)) (mvT hZ10 (w_ hw 166 rfl)) (mvT hZ10 (w_ hw 167 rfl)) (by decide) (bk 1 hZ10 hw 167 164 (rm_dsi l Z a0 hw [] ob26 ob9 ob27 h27 n0 O31 fc28 fc29 fc30 q_4)) (g := (mkF m 155 #[.val (.int su), .val (.int wh), .val (.int dn), .val (.int li), .val (.int ax), .val (.int ea), .val (.int eb), .val (.int pa), .val (.int pb), .val (.int dl), .val (.int lm), .val (.int ix), .val (.int cm), .val (.ref ob9), .unset, .unset, .unset, .unset, .unset, .unset, .unset, .unset, .unset, .unset, .unset] [(.ref ob27), (.ref ob9), (.ref ob26), (.ref ob26)])) rfl (by rw [hml]; rfl) (Steps.refl _) (a := ob26) (argsL := [(.ref ob9), (.ref ob27)]) (rest := [(.ref ob26)]) (lenOf pd30_ rfl) rfl own_z (hb hby at_155) (o4 e27 11 0 27 0)) fun T32 Lc32 _ X32 hQ32 => ?_
         obtain ⟨rfl, M32, K32, g32_0, g32_1⟩ := hQ32
         have N32 := Fr.app N25 M32
         have z32 := K32.1
         have lt_g32_0 := eG g32_0
         refine ob_ (fun _ k => XS.astore X32.here hx rfl (hb hby at_158) rfl rfl (l' := #[.val (.int su), .val (.int wh), .val (.int dn), .val (.int li), .val (.int ax), .val (.int ea), .val (.int eb), .val (.int pa), .val (.int pb), .val (.int dl), .val (.int lm), .val (.int ix), .val (.int cm), .val (.ref ob9), .val (.ref ob26), .unset, .unset, .unset, .unset, .unset, .unset, .unset, .unset, .unset, .unset]) rfl k) ?_
         obtain ⟨T33, h33, X33, e33, E33, A33, D33, U33, st33⟩ := newO X32 hx hZ10 ho10 (w_ hw 173 rfl) (w_ hw 174 rfl) (w_ hw 175 rfl) rfl (g := (mkF m 160 #[.val (.int su), .val (.int wh), .val (.int dn), .val (.int li), .val (.int ax), .val (.int ea), .val (.int eb), .val (.int pa), .val (.int pb), .val (.int dl), .val (.int lm), .val (.int ix), .val (.int cm), .val (.ref ob9), .val (.ref ob26), .unset, .unset, .unset, .unset, .unset, .unset, .unset, .unset, .unset, .unset] [])) rfl (hb hby at_160) (by decide) (by decide)
         obtain ⟨ob33, g33⟩ : ∃ z, z = T32.heap.size := ⟨_, rfl⟩
         rw [← g33] at A33 D33 U33 st33
         refine ob_ st33 ?_
         have z33 := E33.1
         have lt33 : h33.size > ob33 := A33.lt
         refine ob_ (fun _ k => XS.dup X33.here hx rfl (hb hby at_163) rfl rfl k) ?_
         refine o_il X33 hx hby at_164 rfl ?_
         refine o_iL X33 hx hby at_165 rfl ?_
         have q_5 : own_LE n0 ob33 := mL
         have O34 : Old Z n0 h33 := ((O31.keep K32 (allS q_4 all0)).ext E33)
         refine o_k 3 (X33.specialBack hx (y := y50_) rfl ho10 (mvT hZ10 (w_ hw 176 rfl)) (mvT hZ10 (w_ hw 177 rfl)) (mvT hZ10 (w_ hw 178 rfl)) (by decide) (bk 1 hZ10 hw 178 175 (rm_dvi l Z a0 hw [] ob33 li ax dce kce mr h33 n0 O34 S_DCE A_DCE E_DCE hMr A33 (show f23_ Z h33 ob33 .null from D33 (Or.inr (w_ hw 294 rfl)) (ty := (.object s38_)) (by decide)) (show f19_ Z h33 ob33 .null from D33 (Or.inl (w_ hw 296 rfl)) (ty := (.array .boolean)) (by decide)) (show f16_ Z h33 ob33 .null from D33 (Or.inl (w_ hw 298 rfl)) (ty := (.array .boolean)) (by decide)) (show f21_ Z h33 ob33 .null from D33 (Or.inl (w_ hw 300 rfl)) (ty := (.array .boolean)) (by decide)) (show f15_ Z h33 ob33 .null from D33 (Or.inr (w_ hw 304 rfl)) (ty := (.object s16_)) (by decide)) (show f22_ Z h33 ob33 .null from D33 (Or.inr (w_ hw 306 rfl)) (ty := (.object s16_)) (by decide)) (show f17_ Z h33 ob33 .null from D33 (Or.inr (w_ hw 308 rfl)) (ty := (.object s16_)) (by decide)) (show f18_ Z h33 ob33 .null from D33 (Or.inr (w_ hw 310 rfl)) (ty := (.object s16_)) (by decide)) (show f24_ Z h33 ob33 .null from D33 (Or.inr (w_ hw 323 rfl)) (ty := (.object s67_)) (by decide)) (show f20_ Z h33 ob33 v0_ from D33 (Or.inr (w_ hw 325 rfl)) (ty := .boolean) (by decide)) (show f14_ Z h33 ob33 v0_ from D33 (Or.inr (w_ hw 327 rfl)) (ty := .boolean) (by decide)) q_5 hj1 hj2.1 hj2.2)) (g := (mkF m 167 #[.val (.int su), .val (.int wh), .val (.int dn), .val (.int li), .val (.int ax), .val (.int ea), .val (.int eb), .val (.int pa), .val (.int pb), .val (.int dl), .val (.int lm), .val (.int ix), .val (.int cm), .val (.ref ob9), .val (.ref ob26), .unset, .unset, .unset, .unset, .unset, .unset, .unset, .unset, .unset, .unset] [(.int ax), (.int li), (.ref ob33), (.ref ob33)])) rfl (by rw [hml]; rfl) (Steps.refl _) (a := ob33) (argsL := [(.int li), (.int ax)]) (rest := [(.ref ob33)]) (lenOf pd31_ rfl) rfl own_z (hb hby at_167) (o4 e33 12 315 38 2142)) fun T35 Lc35 _ X35 hQ35 => ?_
         obtain ⟨un_35, mb_35, ms_35, kms_35, hl_35, khl_35, dq_35, de_35, kde_35, xa_35, ca_35, lo_35, ch_35, sp_35, dr_35, dp_35, kxa_35, kca_35, klo_35, rfl, M35, K35, g35_0, g35_1, g35_2, g35_3, g35_4, g35_5, g35_6, g35_7, g35_8, g35_9, g35_10, g35_11, g35_12, g35_13, g35_14, g35_15, g35_16, g35_17, g35_18, g35_19, g35_20, g35_21, g35_22, g35_23, g35_24, g35_25, g35_26, g35_27, g35_28, g35_29, g35_30, g35_31, g35_32, g35_33, g35_34, g35_35, g35_36, g35_37, g35_38, g35_39, g35_40, g35_41, g35_42, g35_43, g35_44, g35_45, g35_46, r35_0, r35_1, r35_2⟩ := hQ35
         have N35 := Fr.app N32 M35
         have z35 := K35.1
         have lt_g35_0 := eG g35_0
         have lt_g35_12 := eG g35_12
         have lt_g35_17 := vG g35_17
         have lt_g35_18 := vG g35_18
         have lt_g35_19 := eG g35_19
         have lt_g35_23 := eG g35_23
         have lt_g35_27 := vG g35_27
         have lt_g35_28 := vG g35_28
         have lt_g35_29 := vG g35_29
         have lt_g35_30 := vG g35_30
         have lt_g35_31 := eG g35_31
         have lt_g35_35 := eG g35_35
         have lt_g35_39 := eG g35_39
         have lt_g35_43 := eG g35_43
         simp only [own_asc] at r35_2
         refine ob_ (fun _ k => XS.astore X35.here hx rfl (hb hby at_170) rfl rfl (l' := #[.val (.int su), .val (.int wh), .val (.int dn), .val (.int li), .val (.int ax), .val (.int ea), .val (.int eb), .val (.int pa), .val (.int pb), .val (.int dl), .val (.int lm), .val (.int ix), .val (.int cm), .val (.ref ob9), .val (.ref ob26), .val (.ref ob33), .unset, .unset, .unset, .unset, .unset, .unset, .unset, .unset, .unset]) rfl k) ?_
         refine o_aL X35 hx hby at_172 rfl rfl ?_
         refine o_aL X35 hx hby at_174 rfl rfl ?_
         show own_Go p e below (T35.setTop (mkF m 176 #[.val (.int su), .val (.int wh), .val (.int dn), .val (.int li), .val (.int ax), .val (.int ea), .val (.int eb), .val (.int pa), .val (.int pb), .val (.int dl), .val (.int lm), .val (.int ix), .val (.int cm), .val (.ref ob9), .val (.ref ob26), .val (.ref ob33), .unset, .unset, .unset, .unset, .unset, .unset, .unset, .unset, .unset] [(.ref ob26), (.ref ob33)])) _
         refine o_ic X35 hx hby at_176 ?_
         refine o_iL X35 hx hby at_177 rfl ?_
         refine o_iL X35 hx hby at_179 rfl ?_
         have fc36 := ((g32_0.ext E33).keep K35)
         have fc37 := ((g32_1.ext E33).keep K35 (nS nin0))
         have fc38 := (((((g25_0.ext E26).ext E27).keep K32).ext E33).keep K35)
         have fc39 := (((((g25_1.ext E26).ext E27).keep K32 (nS nin0)).ext E33).keep K35 (nS nin0))
         have O40 : Old Z n0 T35.heap := (O34.keep K35 (allS q_5 all0))
         obtain ⟨cq41, kq41, q41a, q41b, q41c⟩ := isOf hZ10 rfl g35_0
         refine o_k 3 (X35.virtualBack hx (y := y54_) (z := y54_) ho10 (mvT hZ10 (w_ hw 328 rfl)) (mvT hZ10 (w_ hw 329 rfl)) (notFace_of_selects (args := #[]) (mvT hZ10 (w_ hw 331 rfl))) (mvT hZ10 (w_ hw 331 rfl)) (mvT hZ10 (w_ hw 330 rfl)) (by decide) (bk 0 hZ10 hw 332 175 (rm_rec0 l Z a0 hw [] ob33 un_35 xa_35 kxa_35 ca_35 kca_35 dq_35 de_35 kde_35 li ax ea pa (0 : Int32) ch_35 sp_35 dr_35 dp_35 mb_35 ms_35 kms_35 hl_35 khl_35 ob26 ob9 dce kce el ele kele ci cci (0 : Int32) (0 : Int32) (0 : Int32) (0 : Int32) T35.heap n0 O40 S_DCE A_DCE E_DCE S_EL E_EL F_EL A_EL S_high S_icache Bxi g35_0 g35_1 g35_2 g35_3 g35_5 g35_6 g35_7 g35_8 g35_9 g35_10 g35_11 g35_28 g35_29 g35_12 g35_13 g35_14 g35_15 g35_16 g35_17 g35_18 fc36 fc37 fc38 fc39 g35_31 g35_32 g35_33 g35_34 g35_35 g35_36 g35_37 g35_38 g35_39 g35_40 g35_41 g35_42 g35_43 g35_44 g35_45 g35_46 g35_23 g35_24 g35_25 g35_26 g35_27 g35_19 g35_20 g35_21 g35_22 q_5 (by simp only [own_asc, and_true]; omega) r35_0 hj1 hj3 hj5)) q41a q41c (g := (mkF m 181 #[.val (.int su), .val (.int wh), .val (.int dn), .val (.int li), .val (.int ax), .val (.int ea), .val (.int eb), .val (.int pa), .val (.int pb), .val (.int dl), .val (.int lm), .val (.int ix), .val (.int cm), .val (.ref ob9), .val (.ref ob26), .val (.ref ob33), .unset, .unset, .unset, .unset, .unset, .unset, .unset, .unset, .unset] [(.int pa), (.int ea), (.int (-1 : Int32)), (.ref ob26), (.ref ob33)])) rfl (by rw [hml]; rfl) (Steps.refl _) (argsL := [(.ref ob26), (.int (-1 : Int32)), (.int ea), (.int pa)]) (rest := []) (lenOf pd32_ rfl) rfl own_z (hb hby at_181) (o4 rfl 327 10 2180 71)) fun T41 Lc41 _ X41 hQ41 => ?_
         obtain ⟨tq_41, wq_41, da_41, db_41, dc_41, dg_41, kda_41, kdb_41, kdc_41, kdg_41, cda_41, cdb_41, cdc_41, cdg_41, vda_41, vdb_41, vdc_41, vdg_41, mda_41, mdb_41, mdc_41, mdg_41, oo_41, kn_41, vz_41, rfl, M41, K41, g41_0, g41_1, g41_2, g41_3, g41_4, g41_5, g41_6, g41_7, g41_8, g41_9, g41_10, g41_11, g41_12, g41_13, g41_14, g41_15, g41_16, g41_17, g41_18, g41_19, g41_20, g41_21, g41_22, g41_23, g41_24, g41_25, g41_26, g41_27, g41_28, g41_29, g41_30, g41_31, g41_32, g41_33, g41_34, g41_35, g41_36, g41_37, g41_38, g41_39, g41_40, g41_41, g41_42, g41_43, g41_44, g41_45, g41_46, g41_47, g41_48, r41_0, r41_1, r41_2, r41_3, r41_4⟩ := hQ41
         have N41 := Fr.app N35 M41
         have z41 := K41.1
         have lt_g41_0 := vG g41_0
         have lt_g41_1 := vG g41_1
         have lt_g41_2 := eG g41_2
         have lt_g41_6 := vG g41_6
         have lt_g41_7 := eG g41_7
         have lt_g41_12 := vG g41_12
         have lt_g41_13 := vG g41_13
         have lt_g41_14 := eG g41_14
         have lt_g41_18 := vG g41_18
         have lt_g41_21 := eG g41_21
         have lt_g41_25 := vG g41_25
         have lt_g41_28 := eG g41_28
         have lt_g41_32 := vG g41_32
         have lt_g41_35 := eG g41_35
         have lt_g41_39 := vG g41_39
         have lt_g41_42 := eG g41_42
         have lt_g41_46 := vG g41_46
         refine ob_ (fun _ k => XS.istore X41.here hx rfl (hb hby at_184) rfl (l' := #[.val (.int su), .val (.int wh), .val (.int dn), .val (.int li), .val (.int ax), .val (.int ea), .val (.int eb), .val (.int pa), .val (.int pb), .val (.int dl), .val (.int lm), .val (.int ix), .val (.int cm), .val (.ref ob9), .val (.ref ob26), .val (.ref ob33), .val v0_, .unset, .unset, .unset, .unset, .unset, .unset, .unset, .unset]) rfl k) ?_
         refine o_aL X41 hx hby at_186 rfl rfl ?_
         refine o_aL X41 hx hby at_188 rfl rfl ?_
         refine o_ic X41 hx hby at_190 ?_
         refine o_iL X41 hx hby at_191 rfl ?_
         refine o_iL X41 hx hby at_193 rfl ?_
         have jn42 : ∀ (Tj42 : State) (Hj42 : Heap), (∃ lc, Stand p l e room_1 (s.setVm T10.vm) m #[(.int su), (.int wh), (.int dn)] below meth c Tj42 lc 346 2312 ∧ Fr n0 lc) → Tj42.heap = Hj42 → ∀ (tu : Int32) (wu : List Value), (Keep h0 Hj42 []) → (Exa Z Hj42 ob33 s37_) → (f20_ Z Hj42 ob33 (.int li)) → (f23_ Z Hj42 ob33 (.ref un_35)) → (f19_ Z Hj42 ob33 (.ref xa_35)) → (f16_ Z Hj42 ob33 (.ref ca_35)) → (f21_ Z Hj42 ob33 (.ref lo_35)) → (f24_ Z Hj42 ob33 (.ref dq_35)) → (Exa Z Hj42 un_35 s38_) → (f25_ Z Hj42 un_35 (.ref hl_35)) → (Arv Z Hj42 hl_35 khl_35 .boolean (16 : Int32) [v1_, v1_] v0_) → (Arv Z Hj42 xa_35 kxa_35 .boolean (16 : Int32) [(.int ea), (.int eb)] v0_) → (Arv Z Hj42 ca_35 kca_35 .boolean (16 : Int32) [(.int pa), (.int pb)] v0_) → (Arv Z Hj42 lo_35 klo_35 .boolean (16 : Int32) [] v0_) → (Exa Z Hj42 dq_35 s57_) → (f34_ Z Hj42 dq_35 v0_) → (f35_ Z Hj42 dq_35 (.int tu)) → (f33_ Z Hj42 dq_35 (.ref de_35)) → (Arv Z Hj42 de_35 kde_35 (.object s7_) (17 : Int32) wu .null) → (own_w1 Z eb tq_41 wq_41 tu wu) → own_Go p e below (Tj42.setTop (mkF m 200 #[.val (.int su), .val (.int wh), .val (.int dn), .val (.int li), .val (.int ax), .val (.int ea), .val (.int eb), .val (.int pa), .val (.int pb), .val (.int dl), .val (.int lm), .val (.int ix), .val (.int cm), .val (.ref ob9), .val (.ref ob26), .val (.ref ob33), .val v0_, .val v1_, .unset, .unset, .unset, .unset, .unset, .unset, .unset] [])) (fun t o => ∃ v L, o = .returned v ∧ Q_rm_law Z su wh dn dce kce el ele kele ci cci mr h0 n0 v t.heap L ∧ ReturnedEndW s o t L room_1.cells room_1.slots) := by
          rintro Tj42 Hj42 ⟨lc42, Xj42, Nj42⟩ ej42 tu wu Kj42 fj42_0 fj42_1 fj42_2 fj42_3 fj42_4 fj42_5 fj42_6 fj42_7 fj42_8 fj42_9 fj42_10 fj42_11 fj42_12 fj42_13 fj42_14 fj42_15 fj42_16 fj42_17 pj42_0
          have zj42 := Kj42.1
          have lt_fj42_0 := eG fj42_0
          have lt_fj42_7 := eG fj42_7
          have lt_fj42_9 := vG fj42_9
          have lt_fj42_10 := vG fj42_10
          have lt_fj42_11 := vG fj42_11
          have lt_fj42_12 := vG fj42_12
          have lt_fj42_13 := eG fj42_13
          have lt_fj42_17 := vG fj42_17
          refine o_iL Xj42 hx hby at_200 rfl ?_
          refine ob_ (fun _ k => XS.ifNo Xj42.here hx rfl (hb hby at_202) rfl ((if0 _ _).trans (teq (by decide : (0 : Int32) = (0 : Int32))).2) k) ?_
          refine o_iL Xj42 hx hby at_205 rfl ?_
          refine o_ic Xj42 hx hby at_207 ?_
          refine ob_ (fun _ k => XS.icmpYes Xj42.here hx rfl (pc0 := 208) (pc' := 213) rfl (hb hby at_208) rfl (teq (by decide : (1 : Int32) = (1 : Int32))).1 (by decide) (by decide) k) ?_
          have Vw43 : Arv Z Hj42 lo_35 klo_35 .boolean (16 : Int32) [v0_, v0_] v0_ := fj42_12.pad (pad_rep [] v0_ 2)
          have jn44 : ∀ (Tj44 : State) (Hj44 : Heap), (∃ lc, Stand p l e room_1 (s.setVm T10.vm) m #[(.int su), (.int wh), (.int dn)] below meth c Tj44 lc 346 2312 ∧ Fr n0 lc) → Tj44.heap = Hj44 → ∀ (l0 : Int32) (l1 : Int32), (Keep h0 Hj44 []) → (Exa Z Hj44 ob33 s37_) → (f23_ Z Hj44 ob33 (.ref un_35)) → (f19_ Z Hj44 ob33 (.ref xa_35)) → (f16_ Z Hj44 ob33 (.ref ca_35)) → (f21_ Z Hj44 ob33 (.ref lo_35)) → (f24_ Z Hj44 ob33 (.ref dq_35)) → (Exa Z Hj44 un_35 s38_) → (f25_ Z Hj44 un_35 (.ref hl_35)) → (Arv Z Hj44 hl_35 khl_35 .boolean (16 : Int32) [v1_, v1_] v0_) → (Arv Z Hj44 xa_35 kxa_35 .boolean (16 : Int32) [(.int ea), (.int eb)] v0_) → (Arv Z Hj44 ca_35 kca_35 .boolean (16 : Int32) [(.int pa), (.int pb)] v0_) → (Arv Z Hj44 lo_35 klo_35 .boolean (16 : Int32) [(.int l0), (.int l1)] v0_) → (Exa Z Hj44 dq_35 s57_) → (f34_ Z Hj44 dq_35 v0_) → (f35_ Z Hj44 dq_35 (.int tu)) → (f33_ Z Hj44 dq_35 (.ref de_35)) → (Arv Z Hj44 de_35 kde_35 (.object s7_) (17 : Int32) wu .null) → (l0 = (own_l0 li dl lm)) → (l1 = (own_l1 li dl lm)) → own_Go p e below (Tj44.setTop (mkF m 227 #[.val (.int su), .val (.int wh), .val (.int dn), .val (.int li), .val (.int ax), .val (.int ea), .val (.int eb), .val (.int pa), .val (.int pb), .val (.int dl), .val (.int lm), .val (.int ix), .val (.int cm), .val (.ref ob9), .val (.ref ob26), .val (.ref ob33), .val v0_, .val v1_, .unset, .unset, .unset, .unset, .unset, .unset, .unset] [])) (fun t o => ∃ v L, o = .returned v ∧ Q_rm_law Z su wh dn dce kce el ele kele ci cci mr h0 n0 v t.heap L ∧ ReturnedEndW s o t L room_1.cells room_1.slots) := by
           rintro Tj44 Hj44 ⟨lc44, Xj44, Nj44⟩ ej44 l0 l1 Kj44 fj44_0 fj44_1 fj44_2 fj44_3 fj44_4 fj44_5 fj44_6 fj44_7 fj44_8 fj44_9 fj44_10 fj44_11 fj44_12 fj44_13 fj44_14 fj44_15 fj44_16 pj44_0 pj44_1
           have zj44 := Kj44.1
           have lt_fj44_0 := eG fj44_0
           have lt_fj44_6 := eG fj44_6
           have lt_fj44_8 := vG fj44_8
           have lt_fj44_9 := vG fj44_9
           have lt_fj44_10 := vG fj44_10
           have lt_fj44_11 := vG fj44_11
           have lt_fj44_12 := eG fj44_12
           have lt_fj44_16 := vG fj44_16
           refine o_aL Xj44 hx hby at_227 rfl rfl ?_
           refine o_iL Xj44 hx hby at_229 rfl ?_
           refine o_iL Xj44 hx hby at_231 rfl ?_
           rcases h_ix with rfl | rfl
           ·
            have O45 : Old Z n0 Hj44 := (O0.keep Kj44 all0)
            obtain ⟨cq46, kq46, q46a, q46b, q46c⟩ := isOf hZ10 ej44 fj44_0
            refine o_k 3 (Xj44.virtualBack hx (y := y55_) (z := y55_) ho10 (mvT hZ10 (w_ hw 389 rfl)) (mvT hZ10 (w_ hw 390 rfl)) (notFace_of_selects (args := #[]) (mvT hZ10 (w_ hw 392 rfl))) (mvT hZ10 (w_ hw 392 rfl)) (mvT hZ10 (w_ hw 391 rfl)) (by decide) (bk 0 hZ10 hw 393 175 (rm_fin0 l Z a0 hw [] ob33 xa_35 ca_35 lo_35 kxa_35 kca_35 klo_35 cm ea eb pa pb l0 l1 Hj44 n0 O45 fj44_2 fj44_3 fj44_4 fj44_9 fj44_10 fj44_11 q_5 (by simp only [own_asc, and_true]; omega))) q46a q46c (g := (mkF m 233 #[.val (.int su), .val (.int wh), .val (.int dn), .val (.int li), .val (.int ax), .val (.int ea), .val (.int eb), .val (.int pa), .val (.int pb), .val (.int dl), .val (.int lm), .val v0_, .val (.int cm), .val (.ref ob9), .val (.ref ob26), .val (.ref ob33), .val v0_, .val v1_, .unset, .unset, .unset, .unset, .unset, .unset, .unset] [(.int cm), v0_, (.ref ob33)])) rfl (by rw [hml]; rfl) (Steps.refl _) (argsL := [v0_, (.int cm)]) (rest := []) (lenOf pd33_ rfl) rfl own_z (hb hby at_233) (o4 ej44 346 0 2312 0)) fun T46 Lc46 _ X46 hQ46 => ?_
            obtain ⟨rfl, M46, K46, g46_0, g46_1⟩ := hQ46
            have N46 := Fr.app Nj44 M46
            have z46 := K46.1
            have lt_g46_0 := vG g46_0
            have lt_g46_1 := vG g46_1
            refine o_il X46 hx hby at_236 rfl ?_
            have jn47 : ∀ (Tj47 : State), (∃ lc, Stand p l e room_1 (s.setVm T10.vm) m #[(.int su), (.int wh), (.int dn)] below meth c Tj47 lc 346 2312 ∧ Fr n0 lc) → Tj47.heap = T46.heap → ∀ (za : Int32), (za = l0) → own_Go p e below (Tj47.setTop (mkF m 255 #[.val (.int su), .val (.int wh), .val (.int dn), .val (.int li), .val (.int ax), .val (.int ea), .val (.int eb), .val (.int pa), .val (.int pb), .val (.int dl), .val (.int lm), .val v0_, .val (.int cm), .val (.ref ob9), .val (.ref ob26), .val (.ref ob33), .val v0_, .val v1_, .unset, .unset, .unset, .unset, .unset, .unset, .unset] [(.int za)])) (fun t o => ∃ v L, o = .returned v ∧ Q_rm_law Z su wh dn dce kce el ele kele ci cci mr h0 n0 v t.heap L ∧ ReturnedEndW s o t L room_1.cells room_1.slots) := by
             rintro Tj47 ⟨lc47, Xj47, Nj47⟩ ej47 za hj47
             subst hj47
             refine ob_ (fun _ k => XS.istore Xj47.here hx rfl (hb hby at_255) rfl (l' := #[.val (.int su), .val (.int wh), .val (.int dn), .val (.int li), .val (.int ax), .val (.int ea), .val (.int eb), .val (.int pa), .val (.int pb), .val (.int dl), .val (.int lm), .val v0_, .val (.int cm), .val (.ref ob9), .val (.ref ob26), .val (.ref ob33), .val v0_, .val v1_, .val (.int za), .unset, .unset, .unset, .unset, .unset, .unset]) rfl k) ?_
             refine o_il Xj47 hx hby at_257 rfl ?_
             have jn48 : ∀ (Tj48 : State), (∃ lc, Stand p l e room_1 (s.setVm T10.vm) m #[(.int su), (.int wh), (.int dn)] below meth c Tj48 lc 346 2312 ∧ Fr n0 lc) → Tj48.heap = T46.heap → ∀ (zb : Int32), (zb = l1) → own_Go p e below (Tj48.setTop (mkF m 277 #[.val (.int su), .val (.int wh), .val (.int dn), .val (.int li), .val (.int ax), .val (.int ea), .val (.int eb), .val (.int pa), .val (.int pb), .val (.int dl), .val (.int lm), .val v0_, .val (.int cm), .val (.ref ob9), .val (.ref ob26), .val (.ref ob33), .val v0_, .val v1_, .val (.int za), .unset, .unset, .unset, .unset, .unset, .unset] [(.int zb)])) (fun t o => ∃ v L, o = .returned v ∧ Q_rm_law Z su wh dn dce kce el ele kele ci cci mr h0 n0 v t.heap L ∧ ReturnedEndW s o t L room_1.cells room_1.slots) := by
              rintro Tj48 ⟨lc48, Xj48, Nj48⟩ ej48 zb hj48
              subst hj48
              refine ob_ (fun _ k => XS.istore Xj48.here hx rfl (hb hby at_277) rfl (l' := #[.val (.int su), .val (.int wh), .val (.int dn), .val (.int li), .val (.int ax), .val (.int ea), .val (.int eb), .val (.int pa), .val (.int pb), .val (.int dl), .val (.int lm), .val v0_, .val (.int cm), .val (.ref ob9), .val (.ref ob26), .val (.ref ob33), .val v0_, .val v1_, .val (.int za), .val (.int zb), .unset, .unset, .unset, .unset, .unset]) rfl k) ?_
              refine o_iL Xj48 hx hby at_279 rfl ?_
              have jn49 : ∀ (Tj49 : State), (∃ lc, Stand p l e room_1 (s.setVm T10.vm) m #[(.int su), (.int wh), (.int dn)] below meth c Tj49 lc 346 2312 ∧ Fr n0 lc) → Tj49.heap = T46.heap → ∀ (xe : Int32), (xe = (1 : Int32)) → own_Go p e below (Tj49.setTop (mkF m 294 #[.val (.int su), .val (.int wh), .val (.int dn), .val (.int li), .val (.int ax), .val (.int ea), .val (.int eb), .val (.int pa), .val (.int pb), .val (.int dl), .val (.int lm), .val v0_, .val (.int cm), .val (.ref ob9), .val (.ref ob26), .val (.ref ob33), .val v0_, .val v1_, .val (.int za), .val (.int zb), .unset, .unset, .unset, .unset, .unset] [(.int xe)])) (fun t o => ∃ v L, o = .returned v ∧ Q_rm_law Z su wh dn dce kce el ele kele ci cci mr h0 n0 v t.heap L ∧ ReturnedEndW s o t L room_1.cells room_1.slots) := by
               rintro Tj49 ⟨lc49, Xj49, Nj49⟩ ej49 xe hj49
               obtain rfl : (1 : Int32) = xe := hj49.symm
               refine ob_ (fun _ k => XS.istore Xj49.here hx rfl (hb hby at_294) rfl (l' := #[.val (.int su), .val (.int wh), .val (.int dn), .val (.int li), .val (.int ax), .val (.int ea), .val (.int eb), .val (.int pa), .val (.int pb), .val (.int dl), .val (.int lm), .val v0_, .val (.int cm), .val (.ref ob9), .val (.ref ob26), .val (.ref ob33), .val v0_, .val v1_, .val (.int za), .val (.int zb), .val v1_, .unset, .unset, .unset, .unset]) rfl k) ?_
               refine o_iL Xj49 hx hby at_296 rfl ?_
               show own_Go p e below (Tj49.setTop (mkF m 298 #[.val (.int su), .val (.int wh), .val (.int dn), .val (.int li), .val (.int ax), .val (.int ea), .val (.int eb), .val (.int pa), .val (.int pb), .val (.int dl), .val (.int lm), .val v0_, .val (.int cm), .val (.ref ob9), .val (.ref ob26), .val (.ref ob33), .val v0_, .val v1_, .val (.int za), .val (.int zb), .val v1_, .unset, .unset, .unset, .unset] [(.int eb)])) _
               have jn50 : ∀ (Tj50 : State), (∃ lc, Stand p l e room_1 (s.setVm T10.vm) m #[(.int su), (.int wh), (.int dn)] below meth c Tj50 lc 346 2312 ∧ Fr n0 lc) → Tj50.heap = T46.heap → ∀ (xf : Int32), (xf = eb) → own_Go p e below (Tj50.setTop (mkF m 312 #[.val (.int su), .val (.int wh), .val (.int dn), .val (.int li), .val (.int ax), .val (.int ea), .val (.int eb), .val (.int pa), .val (.int pb), .val (.int dl), .val (.int lm), .val v0_, .val (.int cm), .val (.ref ob9), .val (.ref ob26), .val (.ref ob33), .val v0_, .val v1_, .val (.int za), .val (.int zb), .val v1_, .unset, .unset, .unset, .unset] [(.int xf)])) (fun t o => ∃ v L, o = .returned v ∧ Q_rm_law Z su wh dn dce kce el ele kele ci cci mr h0 n0 v t.heap L ∧ ReturnedEndW s o t L room_1.cells room_1.slots) := by
                rintro Tj50 ⟨lc50, Xj50, Nj50⟩ ej50 xf hj50
                obtain rfl : eb = xf := hj50.symm
                refine ob_ (fun _ k => XS.istore Xj50.here hx rfl (hb hby at_312) rfl (l' := #[.val (.int su), .val (.int wh), .val (.int dn), .val (.int li), .val (.int ax), .val (.int ea), .val (.int eb), .val (.int pa), .val (.int pb), .val (.int dl), .val (.int lm), .val v0_, .val (.int cm), .val (.ref ob9), .val (.ref ob26), .val (.ref ob33), .val v0_, .val v1_, .val (.int za), .val (.int zb), .val v1_, .val (.int eb), .unset, .unset, .unset]) rfl k) ?_
                refine o_iL Xj50 hx hby at_314 rfl ?_
                refine ob_ (fun _ k => XS.ifNo Xj50.here hx rfl (hb hby at_316) rfl ((if0 _ _).trans (teq (by decide : (0 : Int32) = (0 : Int32))).2) k) ?_
                have jn51 : ∀ (Tj51 : State), (∃ lc, Stand p l e room_1 (s.setVm T10.vm) m #[(.int su), (.int wh), (.int dn)] below meth c Tj51 lc 346 2312 ∧ Fr n0 lc) → Tj51.heap = T46.heap → ∀ (yc : Int32), (yc = (own_fin cm za)) → own_Go p e below (Tj51.setTop (mkF m 339 #[.val (.int su), .val (.int wh), .val (.int dn), .val (.int li), .val (.int ax), .val (.int ea), .val (.int eb), .val (.int pa), .val (.int pb), .val (.int dl), .val (.int lm), .val v0_, .val (.int cm), .val (.ref ob9), .val (.ref ob26), .val (.ref ob33), .val v0_, .val v1_, .val (.int za), .val (.int zb), .val v1_, .val (.int eb), .unset, .unset, .unset] [(.int yc)])) (fun t o => ∃ v L, o = .returned v ∧ Q_rm_law Z su wh dn dce kce el ele kele ci cci mr h0 n0 v t.heap L ∧ ReturnedEndW s o t L room_1.cells room_1.slots) := by
                 rintro Tj51 ⟨lc51, Xj51, Nj51⟩ ej51 yc hj51
                 refine ob_ (fun _ k => XS.istore Xj51.here hx rfl (hb hby at_339) rfl (l' := #[.val (.int su), .val (.int wh), .val (.int dn), .val (.int li), .val (.int ax), .val (.int ea), .val (.int eb), .val (.int pa), .val (.int pb), .val (.int dl), .val (.int lm), .val v0_, .val (.int cm), .val (.ref ob9), .val (.ref ob26), .val (.ref ob33), .val v0_, .val v1_, .val (.int za), .val (.int zb), .val v1_, .val (.int eb), .val (.int yc), .unset, .unset]) rfl k) ?_
                 refine o_iL Xj51 hx hby at_341 rfl ?_
                 refine o_ic Xj51 hx hby at_343 ?_
                 refine ob_ (fun _ k => XS.icmpYes Xj51.here hx rfl (pc0 := 344) (pc' := 365) rfl (hb hby at_344) rfl (feq (by decide : ¬ ((0 : Int32) = (1 : Int32)))).2 (by decide) (by decide) k) ?_
                 refine o_iL Xj51 hx hby at_365 rfl ?_
                 refine ob_ (fun _ k => XS.istore Xj51.here hx rfl (hb hby at_367) rfl (l' := #[.val (.int su), .val (.int wh), .val (.int dn), .val (.int li), .val (.int ax), .val (.int ea), .val (.int eb), .val (.int pa), .val (.int pb), .val (.int dl), .val (.int lm), .val v0_, .val (.int cm), .val (.ref ob9), .val (.ref ob26), .val (.ref ob33), .val v0_, .val v1_, .val (.int za), .val (.int zb), .val v1_, .val (.int eb), .val (.int yc), .val (.int pb), .unset]) rfl k) ?_
                 refine o_iL Xj51 hx hby at_369 rfl ?_
                 have jn52 : ∀ (Tj52 : State), (∃ lc, Stand p l e room_1 (s.setVm T10.vm) m #[(.int su), (.int wh), (.int dn)] below meth c Tj52 lc 346 2312 ∧ Fr n0 lc) → Tj52.heap = T46.heap → ∀ (xn : Int32), (xn = (own_nx (1 : Int32) eb)) → own_Go p e below (Tj52.setTop (mkF m 388 #[.val (.int su), .val (.int wh), .val (.int dn), .val (.int li), .val (.int ax), .val (.int ea), .val (.int eb), .val (.int pa), .val (.int pb), .val (.int dl), .val (.int lm), .val v0_, .val (.int cm), .val (.ref ob9), .val (.ref ob26), .val (.ref ob33), .val v0_, .val v1_, .val (.int za), .val (.int zb), .val v1_, .val (.int eb), .val (.int yc), .val (.int pb), .unset] [(.int xn)])) (fun t o => ∃ v L, o = .returned v ∧ Q_rm_law Z su wh dn dce kce el ele kele ci cci mr h0 n0 v t.heap L ∧ ReturnedEndW s o t L room_1.cells room_1.slots) := by
                  rintro Tj52 ⟨lc52, Xj52, Nj52⟩ ej52 xn hj52
                  refine ob_ (fun _ k => XS.istore Xj52.here hx rfl (hb hby at_388) rfl (l' := #[.val (.int su), .val (.int wh), .val (.int dn), .val (.int li), .val (.int ax), .val (.int ea), .val (.int eb), .val (.int pa), .val (.int pb), .val (.int dl), .val (.int lm), .val v0_, .val (.int cm), .val (.ref ob9), .val (.ref ob26), .val (.ref ob33), .val v0_, .val v1_, .val (.int za), .val (.int zb), .val v1_, .val (.int eb), .val (.int yc), .val (.int pb), .val (.int xn)]) rfl k) ?_
                  refine o_aL Xj52 hx hby at_390 rfl rfl ?_
                  refine o_ic Xj52 hx hby at_392 ?_
                  have q_6 : own_NE ca_35 ob33 := mN
                  have q_7 : own_NE ob33 xa_35 := mN
                  have q_8 : ob33 ∉ [xa_35, ca_35] := nT q_7 (nT (uS q_6) nin0)
                  have fc53 := (fj44_2.keep K46 q_8)
                  have q_9 : own_LE n0 ca_35 := mL
                  have q_10 : own_LE n0 xa_35 := mL
                  have O54 : Old Z n0 T46.heap := (O45.keep K46 (allS q_10 (allS q_9 all0)))
                  have fc56 := (fj44_0.keep K46)
                  obtain ⟨cq55, kq55, q55a, q55b, q55c⟩ := isOf hZ10 ej52 fc56
                  refine o_k 3 (Xj52.virtualBack hx (y := y57_) (z := y57_) ho10 (mvT hZ10 (w_ hw 394 rfl)) (mvT hZ10 (w_ hw 395 rfl)) (notFace_of_selects (args := #[]) (mvT hZ10 (w_ hw 397 rfl))) (mvT hZ10 (w_ hw 397 rfl)) (mvT hZ10 (w_ hw 396 rfl)) (by decide) (bk 0 hZ10 hw 398 175 (rm_exp0 l Z a0 hw [] ob33 xa_35 kxa_35 (1 : Int32) eb T46.heap n0 O54 fc53 g46_0 (by decide))) q55a q55c (g := (mkF m 393 #[.val (.int su), .val (.int wh), .val (.int dn), .val (.int li), .val (.int ax), .val (.int ea), .val (.int eb), .val (.int pa), .val (.int pb), .val (.int dl), .val (.int lm), .val v0_, .val (.int cm), .val (.ref ob9), .val (.ref ob26), .val (.ref ob33), .val v0_, .val v1_, .val (.int za), .val (.int zb), .val v1_, .val (.int eb), .val (.int yc), .val (.int pb), .val (.int xn)] [v0_, (.ref ob33)])) rfl (by rw [hml]; rfl) (Steps.refl _) (argsL := [v0_]) (rest := []) (lenOf pd28_ rfl) rfl own_z (hb hby at_393) (o4 ej52 346 0 2312 0)) fun T55 Lc55 _ X55 hQ55 => ?_
                  obtain ⟨rfl, M55, K55⟩ := hQ55
                  have N55 := Fr.app Nj52 M55
                  refine o_iL X55 hx hby at_396 rfl ?_
                  refine ob_ (fun _ k => XS.icmpNo X55.here hx rfl (hb hby at_398) rfl (teq hj49).2 k) ?_
                  refine o_aL X55 hx hby at_401 rfl rfl ?_
                  refine o_ic X55 hx hby at_403 ?_
                  obtain ⟨cq57, kq57, q57a, q57b, q57c⟩ := isOf hZ10 K55 fc56
                  refine o_k 3 (X55.virtualBack hx (y := y57_) (z := y57_) ho10 (mvT hZ10 (w_ hw 394 rfl)) (mvT hZ10 (w_ hw 395 rfl)) (notFace_of_selects (args := #[]) (mvT hZ10 (w_ hw 397 rfl))) (mvT hZ10 (w_ hw 397 rfl)) (mvT hZ10 (w_ hw 396 rfl)) (by decide) (bk 0 hZ10 hw 398 175 (rm_exp1 l Z a0 hw [] ob33 xa_35 kxa_35 (1 : Int32) eb T46.heap n0 O54 fc53 g46_0 hj4)) q57a q57c (g := (mkF m 404 #[.val (.int su), .val (.int wh), .val (.int dn), .val (.int li), .val (.int ax), .val (.int ea), .val (.int eb), .val (.int pa), .val (.int pb), .val (.int dl), .val (.int lm), .val v0_, .val (.int cm), .val (.ref ob9), .val (.ref ob26), .val (.ref ob33), .val v0_, .val v1_, .val (.int za), .val (.int zb), .val v1_, .val (.int eb), .val (.int yc), .val (.int pb), .val (.int xn)] [v1_, (.ref ob33)])) rfl (by rw [hml]; rfl) (Steps.refl _) (argsL := [v1_]) (rest := []) (lenOf pd28_ rfl) rfl own_z (hb hby at_404) (o4 K55 346 0 2312 0)) fun T57 Lc57 _ X57 hQ57 => ?_
                  obtain ⟨rfl, M57, K57⟩ := hQ57
                  have N57 := Fr.app N55 M57
                  refine o_iL X57 hx hby at_407 rfl ?_
                  refine ob_ (fun _ k => XS.icmpNo X57.here hx rfl (hb hby at_409) rfl (teq hj50).2 k) ?_
                  refine o_aL X57 hx hby at_412 rfl rfl ?_
                  refine o_ic X57 hx hby at_414 ?_
                  have fc58 := (fj44_3.keep K46 q_8)
                  obtain ⟨cq59, kq59, q59a, q59b, q59c⟩ := isOf hZ10 K57 fc56
                  refine o_k 3 (X57.virtualBack hx (y := y58_) (z := y58_) ho10 (mvT hZ10 (w_ hw 399 rfl)) (mvT hZ10 (w_ hw 400 rfl)) (notFace_of_selects (args := #[]) (mvT hZ10 (w_ hw 402 rfl))) (mvT hZ10 (w_ hw 402 rfl)) (mvT hZ10 (w_ hw 401 rfl)) (by decide) (bk 0 hZ10 hw 403 175 (rm_com0 l Z a0 hw [] ob33 ca_35 kca_35 (own_fin cm za) pb T46.heap n0 O54 fc58 g46_1 own_fin_01)) q59a q59c (g := (mkF m 415 #[.val (.int su), .val (.int wh), .val (.int dn), .val (.int li), .val (.int ax), .val (.int ea), .val (.int eb), .val (.int pa), .val (.int pb), .val (.int dl), .val (.int lm), .val v0_, .val (.int cm), .val (.ref ob9), .val (.ref ob26), .val (.ref ob33), .val v0_, .val v1_, .val (.int za), .val (.int zb), .val v1_, .val (.int eb), .val (.int yc), .val (.int pb), .val (.int xn)] [v0_, (.ref ob33)])) rfl (by rw [hml]; rfl) (Steps.refl _) (argsL := [v0_]) (rest := []) (lenOf pd28_ rfl) rfl own_z (hb hby at_415) (o4 K57 346 0 2312 0)) fun T59 Lc59 _ X59 hQ59 => ?_
                  obtain ⟨rfl, M59, K59⟩ := hQ59
                  have N59 := Fr.app N57 M59
                  refine o_iL X59 hx hby at_418 rfl ?_
                  refine ob_ (fun _ k => XS.icmpNo X59.here hx rfl (hb hby at_420) rfl (teq hj51.symm).2 k) ?_
                  refine o_aL X59 hx hby at_423 rfl rfl ?_
                  refine o_ic X59 hx hby at_425 ?_
                  obtain ⟨cq60, kq60, q60a, q60b, q60c⟩ := isOf hZ10 K59 fc56
                  refine o_k 3 (X59.virtualBack hx (y := y58_) (z := y58_) ho10 (mvT hZ10 (w_ hw 399 rfl)) (mvT hZ10 (w_ hw 400 rfl)) (notFace_of_selects (args := #[]) (mvT hZ10 (w_ hw 402 rfl))) (mvT hZ10 (w_ hw 402 rfl)) (mvT hZ10 (w_ hw 401 rfl)) (by decide) (bk 0 hZ10 hw 403 175 (rm_com1 l Z a0 hw [] ob33 ca_35 kca_35 (own_fin cm za) pb T46.heap n0 O54 fc58 g46_1 hj6)) q60a q60c (g := (mkF m 426 #[.val (.int su), .val (.int wh), .val (.int dn), .val (.int li), .val (.int ax), .val (.int ea), .val (.int eb), .val (.int pa), .val (.int pb), .val (.int dl), .val (.int lm), .val v0_, .val (.int cm), .val (.ref ob9), .val (.ref ob26), .val (.ref ob33), .val v0_, .val v1_, .val (.int za), .val (.int zb), .val v1_, .val (.int eb), .val (.int yc), .val (.int pb), .val (.int xn)] [v1_, (.ref ob33)])) rfl (by rw [hml]; rfl) (Steps.refl _) (argsL := [v1_]) (rest := []) (lenOf pd28_ rfl) rfl own_z (hb hby at_426) (o4 K59 346 0 2312 0)) fun T60 Lc60 _ X60 hQ60 => ?_
                  obtain ⟨rfl, M60, K60⟩ := hQ60
                  have N60 := Fr.app N59 M60
                  show own_Go p e below (T60.setTop (mkF m 429 #[.val (.int su), .val (.int wh), .val (.int dn), .val (.int li), .val (.int ax), .val (.int ea), .val (.int eb), .val (.int pa), .val (.int pb), .val (.int dl), .val (.int lm), .val v0_, .val (.int cm), .val (.ref ob9), .val (.ref ob26), .val (.ref ob33), .val v0_, .val v1_, .val (.int za), .val (.int zb), .val v1_, .val (.int eb), .val (.int yc), .val (.int pb), .val (.int xn)] [(.int pb)])) _
                  refine o_iL X60 hx hby at_429 rfl ?_
                  refine ob_ (fun _ k => XS.icmpNo X60.here hx rfl (hb hby at_431) rfl (teq (rfl : pb = pb)).2 k) ?_
                  have hea := hj3
                  have heb := hj4
                  have hw0 := r41_0
                  have hw1 := pj42_0
                  rcases hea with rfl | rfl
                  ·
                   rcases heb with rfl | rfl
                   ·
                    obtain ⟨rfl, wa, rfl, hba⟩ := own_w0_0 hw0
                    obtain ⟨rfl, wb, rfl, hbb⟩ := own_w1_0 hw1
                    have q_11 : own_NE ca_35 de_35 := mN
                    have q_12 : own_NE de_35 xa_35 := mN
                    have q_13 : de_35 ∉ [xa_35, ca_35] := nT q_12 (nT (uS q_11) nin0)
                    have fc61 := (fj44_16.keep K46 q_13)
                    have Vd62 : Arv Z T46.heap de_35 kde_35 (.object s7_) (17 : Int32) [(.ref wa), (.ref wb)] .null := fc61
                    have q_14 : own_NE ca_35 dq_35 := mN
                    have q_15 : own_NE dq_35 xa_35 := mN
                    have q_16 : dq_35 ∉ [xa_35, ca_35] := nT q_15 (nT (uS q_14) nin0)
                    have fc63 := (fj44_14.keep K46 q_16)
                    have Ft64 : f35_ Z T46.heap dq_35 (.int (2 : Int32)) := fc63
                    have hxl : xn = (1 : Int32) := by rw [hj52]; decide
                    subst hxl
                    refine o_aL X60 hx hby at_434 rfl rfl ?_
                    have fc65 := (fj44_1.keep K46 q_8)
                    have fc66 := (fj44_5.keep K46 q_8)
                    have fc67 := (fj44_6.keep K46)
                    have q_17 : own_NE ca_35 un_35 := mN
                    have q_18 : own_NE un_35 xa_35 := mN
                    have q_19 : un_35 ∉ [xa_35, ca_35] := nT q_18 (nT (uS q_17) nin0)
                    have fc68 := (fj44_7.keep K46 q_19)
                    have q_20 : own_NE ca_35 hl_35 := mN
                    have q_21 : own_NE hl_35 xa_35 := mN
                    have q_22 : hl_35 ∉ [xa_35, ca_35] := nT q_21 (nT (uS q_20) nin0)
                    have fc69 := (fj44_8.keep K46 q_22)
                    have fc70 := (fj44_12.keep K46)
                    have fc71 := (fj44_13.keep K46 q_16)
                    have fc72 := (fj44_15.keep K46 q_16)
                    obtain ⟨cq73, kq73, q73a, q73b, q73c⟩ := isOf hZ10 K60 fc56
                    refine o_k 3 (X60.virtualBack hx (y := y60_) (z := y60_) ho10 (mvT hZ10 (w_ hw 404 rfl)) (mvT hZ10 (w_ hw 405 rfl)) (notFace_of_selects (args := #[]) (mvT hZ10 (w_ hw 407 rfl))) (mvT hZ10 (w_ hw 407 rfl)) (mvT hZ10 (w_ hw 406 rfl)) (by decide) (bk 0 hZ10 hw 408 175 (rm_nx01_10 l Z a0 hw [] ob33 un_35 hl_35 khl_35 xa_35 kxa_35 dq_35 de_35 kde_35 wa wb T46.heap n0 O54 fc65 fc53 fc66 fc67 fc68 fc69 g46_0 fc70 fc71 Ft64 fc72 Vd62 q_5 (by simp only [own_asc, and_true]; omega) hba hbb)) q73a q73c (g := (mkF m 436 #[.val (.int su), .val (.int wh), .val (.int dn), .val (.int li), .val (.int ax), .val v0_, .val v0_, .val (.int pa), .val (.int pb), .val (.int dl), .val (.int lm), .val v0_, .val (.int cm), .val (.ref ob9), .val (.ref ob26), .val (.ref ob33), .val v0_, .val v1_, .val (.int za), .val (.int zb), .val v1_, .val v0_, .val (.int yc), .val (.int pb), .val v1_] [(.ref ob33)])) rfl (by rw [hml]; rfl) (Steps.refl _) (argsL := []) (rest := []) (lenOf pd11_ rfl) rfl own_z (hb hby at_436) (o4 K60 346 0 2312 0)) fun T73 Lc73 _ X73 hQ73 => ?_
                    obtain ⟨rfl, M73, K73⟩ := hQ73
                    have N73 := Fr.app N60 M73
                    have z73 := K73.1
                    refine o_iL X73 hx hby at_439 rfl ?_
                    refine ob_ (fun _ k => XS.icmpNo X73.here hx rfl (hb hby at_441) rfl (teq hj49).2 k) ?_
                    refine o_ic X73 hx hby at_444 ?_
                    refine ob_ (fun _ k => XS.goto X73.here hx rfl (pc0 := 445) (pc' := 449) rfl (hb hby at_445) (by decide) (by decide) k) ?_
                    have q_23 : own_LE h0.size ca_35 := mL
                    have q_24 : own_LE h0.size xa_35 := mL
                    have q_25 : own_LE h0.size de_35 := mL
                    have q_26 : own_LE h0.size dq_35 := mL
                    have K74 : Keep h0 T73.heap [] := ((((Keep.refl h0 []).trans Kj44 all0).trans K46 (kR (kR all0 q_23) q_24)).trans K73 (kR (kR all0 q_25) q_26))
                    obtain ⟨fs, hr, hrun, hended, hW⟩ := X73.leaveW S10 (by first | omega | (rw [e0]; omega)) (v := some v1_) (fun h => by rw [Bd.returns] at h; cases h)
                    refine ⟨_, _, retN X73 hx (t := .boolean) Bd.returns (by simp) (hb hby at_449) hr, hrun, hended, _, _, rfl, ?_, ⟨_, rfl⟩, hW.2.1, hW.2.2.1, hW.2.2.2.mono (by decide) (by decide)⟩
                    show Q_rm_law Z su wh dn dce kce el ele kele ci cci mr h0 n0 _ T73.heap _
                    exact ⟨rfl, N73, K74⟩
                   ·
                    obtain ⟨rfl, wa, rfl, hba⟩ := own_w0_0 hw0
                    obtain ⟨rfl, rfl⟩ := own_w1_1 hw1
                    have q_27 : own_NE ca_35 de_35 := mN
                    have q_28 : own_NE de_35 xa_35 := mN
                    have q_29 : de_35 ∉ [xa_35, ca_35] := nT q_28 (nT (uS q_27) nin0)
                    have fc75 := (fj44_16.keep K46 q_29)
                    have Vd76 : Arv Z T46.heap de_35 kde_35 (.object s7_) (17 : Int32) [(.ref wa)] .null := fc75
                    have q_30 : own_NE ca_35 dq_35 := mN
                    have q_31 : own_NE dq_35 xa_35 := mN
                    have q_32 : dq_35 ∉ [xa_35, ca_35] := nT q_31 (nT (uS q_30) nin0)
                    have fc77 := (fj44_14.keep K46 q_32)
                    have Ft78 : f35_ Z T46.heap dq_35 v1_ := fc77
                    have hxl : xn = (-1 : Int32) := by rw [hj52]; decide
                    subst hxl
                    refine o_aL X60 hx hby at_434 rfl rfl ?_
                    have fc79 := (fj44_1.keep K46 q_8)
                    have fc80 := (fj44_5.keep K46 q_8)
                    have fc81 := (fj44_6.keep K46)
                    have q_33 : own_NE ca_35 un_35 := mN
                    have q_34 : own_NE un_35 xa_35 := mN
                    have q_35 : un_35 ∉ [xa_35, ca_35] := nT q_34 (nT (uS q_33) nin0)
                    have fc82 := (fj44_7.keep K46 q_35)
                    have q_36 : own_NE ca_35 hl_35 := mN
                    have q_37 : own_NE hl_35 xa_35 := mN
                    have q_38 : hl_35 ∉ [xa_35, ca_35] := nT q_37 (nT (uS q_36) nin0)
                    have fc83 := (fj44_8.keep K46 q_38)
                    have fc84 := (fj44_12.keep K46)
                    have fc85 := (fj44_13.keep K46 q_32)
                    have fc86 := (fj44_15.keep K46 q_32)
                    obtain ⟨cq87, kq87, q87a, q87b, q87c⟩ := isOf hZ10 K60 fc56
                    refine o_k 3 (X60.virtualBack hx (y := y60_) (z := y60_) ho10 (mvT hZ10 (w_ hw 404 rfl)) (mvT hZ10 (w_ hw 405 rfl)) (notFace_of_selects (args := #[]) (mvT hZ10 (w_ hw 407 rfl))) (mvT hZ10 (w_ hw 407 rfl)) (mvT hZ10 (w_ hw 406 rfl)) (by decide) (bk 0 hZ10 hw 408 175 (rm_nx0_11 l Z a0 hw [] ob33 un_35 hl_35 khl_35 xa_35 kxa_35 dq_35 de_35 kde_35 wa T46.heap n0 O54 fc79 fc53 fc80 fc81 fc82 fc83 g46_0 fc84 fc85 Ft78 fc86 Vd76 q_5 (by simp only [own_asc, and_true]; omega) hba)) q87a q87c (g := (mkF m 436 #[.val (.int su), .val (.int wh), .val (.int dn), .val (.int li), .val (.int ax), .val v0_, .val v1_, .val (.int pa), .val (.int pb), .val (.int dl), .val (.int lm), .val v0_, .val (.int cm), .val (.ref ob9), .val (.ref ob26), .val (.ref ob33), .val v0_, .val v1_, .val (.int za), .val (.int zb), .val v1_, .val v1_, .val (.int yc), .val (.int pb), .val (.int (-1 : Int32))] [(.ref ob33)])) rfl (by rw [hml]; rfl) (Steps.refl _) (argsL := []) (rest := []) (lenOf pd11_ rfl) rfl own_z (hb hby at_436) (o4 K60 346 0 2312 0)) fun T87 Lc87 _ X87 hQ87 => ?_
                    obtain ⟨rfl, M87, K87⟩ := hQ87
                    have N87 := Fr.app N60 M87
                    have z87 := K87.1
                    refine o_iL X87 hx hby at_439 rfl ?_
                    refine ob_ (fun _ k => XS.icmpNo X87.here hx rfl (hb hby at_441) rfl (teq (by decide : (-1 : Int32) = (-1 : Int32))).2 k) ?_
                    refine o_ic X87 hx hby at_444 ?_
                    refine ob_ (fun _ k => XS.goto X87.here hx rfl (pc0 := 445) (pc' := 449) rfl (hb hby at_445) (by decide) (by decide) k) ?_
                    have q_39 : own_LE h0.size ca_35 := mL
                    have q_40 : own_LE h0.size xa_35 := mL
                    have q_41 : own_LE h0.size de_35 := mL
                    have q_42 : own_LE h0.size dq_35 := mL
                    have K88 : Keep h0 T87.heap [] := ((((Keep.refl h0 []).trans Kj44 all0).trans K46 (kR (kR all0 q_39) q_40)).trans K87 (kR (kR all0 q_41) q_42))
                    obtain ⟨fs, hr, hrun, hended, hW⟩ := X87.leaveW S10 (by first | omega | (rw [e0]; omega)) (v := some v1_) (fun h => by rw [Bd.returns] at h; cases h)
                    refine ⟨_, _, retN X87 hx (t := .boolean) Bd.returns (by simp) (hb hby at_449) hr, hrun, hended, _, _, rfl, ?_, ⟨_, rfl⟩, hW.2.1, hW.2.2.1, hW.2.2.2.mono (by decide) (by decide)⟩
                    show Q_rm_law Z su wh dn dce kce el ele kele ci cci mr h0 n0 _ T87.heap _
                    exact ⟨rfl, N87, K88⟩
                  ·
                   rcases heb with rfl | rfl
                   ·
                    obtain ⟨rfl, rfl⟩ := own_w0_1 hw0
                    obtain ⟨rfl, wb, rfl, hbb⟩ := own_w1_0 hw1
                    have q_43 : own_NE ca_35 de_35 := mN
                    have q_44 : own_NE de_35 xa_35 := mN
                    have q_45 : de_35 ∉ [xa_35, ca_35] := nT q_44 (nT (uS q_43) nin0)
                    have fc89 := (fj44_16.keep K46 q_45)
                    have Vd90 : Arv Z T46.heap de_35 kde_35 (.object s7_) (17 : Int32) [(.ref wb)] .null := fc89
                    have q_46 : own_NE ca_35 dq_35 := mN
                    have q_47 : own_NE dq_35 xa_35 := mN
                    have q_48 : dq_35 ∉ [xa_35, ca_35] := nT q_47 (nT (uS q_46) nin0)
                    have fc91 := (fj44_14.keep K46 q_48)
                    have Ft92 : f35_ Z T46.heap dq_35 v1_ := fc91
                    have hxl : xn = (1 : Int32) := by rw [hj52]; decide
                    subst hxl
                    refine o_aL X60 hx hby at_434 rfl rfl ?_
                    have fc93 := (fj44_1.keep K46 q_8)
                    have fc94 := (fj44_5.keep K46 q_8)
                    have fc95 := (fj44_6.keep K46)
                    have q_49 : own_NE ca_35 un_35 := mN
                    have q_50 : own_NE un_35 xa_35 := mN
                    have q_51 : un_35 ∉ [xa_35, ca_35] := nT q_50 (nT (uS q_49) nin0)
                    have fc96 := (fj44_7.keep K46 q_51)
                    have q_52 : own_NE ca_35 hl_35 := mN
                    have q_53 : own_NE hl_35 xa_35 := mN
                    have q_54 : hl_35 ∉ [xa_35, ca_35] := nT q_53 (nT (uS q_52) nin0)
                    have fc97 := (fj44_8.keep K46 q_54)
                    have fc98 := (fj44_12.keep K46)
                    have fc99 := (fj44_13.keep K46 q_48)
                    have fc100 := (fj44_15.keep K46 q_48)
                    obtain ⟨cq101, kq101, q101a, q101b, q101c⟩ := isOf hZ10 K60 fc56
                    refine o_k 3 (X60.virtualBack hx (y := y60_) (z := y60_) ho10 (mvT hZ10 (w_ hw 404 rfl)) (mvT hZ10 (w_ hw 405 rfl)) (notFace_of_selects (args := #[]) (mvT hZ10 (w_ hw 407 rfl))) (mvT hZ10 (w_ hw 407 rfl)) (mvT hZ10 (w_ hw 406 rfl)) (by decide) (bk 0 hZ10 hw 408 175 (rm_nx1_10 l Z a0 hw [] ob33 un_35 hl_35 khl_35 xa_35 kxa_35 dq_35 de_35 kde_35 wb T46.heap n0 O54 fc93 fc53 fc94 fc95 fc96 fc97 g46_0 fc98 fc99 Ft92 fc100 Vd90 q_5 (by simp only [own_asc, and_true]; omega) hbb)) q101a q101c (g := (mkF m 436 #[.val (.int su), .val (.int wh), .val (.int dn), .val (.int li), .val (.int ax), .val v1_, .val v0_, .val (.int pa), .val (.int pb), .val (.int dl), .val (.int lm), .val v0_, .val (.int cm), .val (.ref ob9), .val (.ref ob26), .val (.ref ob33), .val v0_, .val v1_, .val (.int za), .val (.int zb), .val v1_, .val v0_, .val (.int yc), .val (.int pb), .val v1_] [(.ref ob33)])) rfl (by rw [hml]; rfl) (Steps.refl _) (argsL := []) (rest := []) (lenOf pd11_ rfl) rfl own_z (hb hby at_436) (o4 K60 346 0 2312 0)) fun T101 Lc101 _ X101 hQ101 => ?_
                    obtain ⟨rfl, M101, K101⟩ := hQ101
                    have N101 := Fr.app N60 M101
                    have z101 := K101.1
                    refine o_iL X101 hx hby at_439 rfl ?_
                    refine ob_ (fun _ k => XS.icmpNo X101.here hx rfl (hb hby at_441) rfl (teq hj49).2 k) ?_
                    refine o_ic X101 hx hby at_444 ?_
                    refine ob_ (fun _ k => XS.goto X101.here hx rfl (pc0 := 445) (pc' := 449) rfl (hb hby at_445) (by decide) (by decide) k) ?_
                    have q_55 : own_LE h0.size ca_35 := mL
                    have q_56 : own_LE h0.size xa_35 := mL
                    have q_57 : own_LE h0.size de_35 := mL
                    have q_58 : own_LE h0.size dq_35 := mL
                    have K102 : Keep h0 T101.heap [] := ((((Keep.refl h0 []).trans Kj44 all0).trans K46 (kR (kR all0 q_55) q_56)).trans K101 (kR (kR all0 q_57) q_58))
                    obtain ⟨fs, hr, hrun, hended, hW⟩ := X101.leaveW S10 (by first | omega | (rw [e0]; omega)) (v := some v1_) (fun h => by rw [Bd.returns] at h; cases h)
                    refine ⟨_, _, retN X101 hx (t := .boolean) Bd.returns (by simp) (hb hby at_449) hr, hrun, hended, _, _, rfl, ?_, ⟨_, rfl⟩, hW.2.1, hW.2.2.1, hW.2.2.2.mono (by decide) (by decide)⟩
                    show Q_rm_law Z su wh dn dce kce el ele kele ci cci mr h0 n0 _ T101.heap _
                    exact ⟨rfl, N101, K102⟩
                   ·
                    obtain ⟨rfl, rfl⟩ := own_w0_1 hw0
                    obtain ⟨rfl, rfl⟩ := own_w1_1 hw1
                    have q_59 : own_NE ca_35 de_35 := mN
                    have q_60 : own_NE de_35 xa_35 := mN
                    have q_61 : de_35 ∉ [xa_35, ca_35] := nT q_60 (nT (uS q_59) nin0)
                    have fc103 := (fj44_16.keep K46 q_61)
                    have Vd104 : Arv Z T46.heap de_35 kde_35 (.object s7_) (17 : Int32) [] .null := fc103
                    have q_62 : own_NE ca_35 dq_35 := mN
                    have q_63 : own_NE dq_35 xa_35 := mN
                    have q_64 : dq_35 ∉ [xa_35, ca_35] := nT q_63 (nT (uS q_62) nin0)
                    have fc105 := (fj44_14.keep K46 q_64)
                    have Ft106 : f35_ Z T46.heap dq_35 v0_ := fc105
                    have hxl : xn = (-1 : Int32) := by rw [hj52]; decide
                    subst hxl
                    refine o_aL X60 hx hby at_434 rfl rfl ?_
                    have fc107 := (fj44_1.keep K46 q_8)
                    have fc108 := (fj44_5.keep K46 q_8)
                    have fc109 := (fj44_6.keep K46)
                    have q_65 : own_NE ca_35 un_35 := mN
                    have q_66 : own_NE un_35 xa_35 := mN
                    have q_67 : un_35 ∉ [xa_35, ca_35] := nT q_66 (nT (uS q_65) nin0)
                    have fc110 := (fj44_7.keep K46 q_67)
                    have q_68 : own_NE ca_35 hl_35 := mN
                    have q_69 : own_NE hl_35 xa_35 := mN
                    have q_70 : hl_35 ∉ [xa_35, ca_35] := nT q_69 (nT (uS q_68) nin0)
                    have fc111 := (fj44_8.keep K46 q_70)
                    have fc112 := (fj44_12.keep K46)
                    have fc113 := (fj44_13.keep K46 q_64)
                    have fc114 := (fj44_15.keep K46 q_64)
                    obtain ⟨cq115, kq115, q115a, q115b, q115c⟩ := isOf hZ10 K60 fc56
                    refine o_k 3 (X60.virtualBack hx (y := y60_) (z := y60_) ho10 (mvT hZ10 (w_ hw 404 rfl)) (mvT hZ10 (w_ hw 405 rfl)) (notFace_of_selects (args := #[]) (mvT hZ10 (w_ hw 407 rfl))) (mvT hZ10 (w_ hw 407 rfl)) (mvT hZ10 (w_ hw 406 rfl)) (by decide) (bk 0 hZ10 hw 408 175 (rm_nx_11 l Z a0 hw [] ob33 un_35 hl_35 khl_35 xa_35 kxa_35 dq_35 de_35 kde_35 T46.heap n0 O54 fc107 fc53 fc108 fc109 fc110 fc111 g46_0 fc112 fc113 Ft106 fc114 Vd104 q_5 (by simp only [own_asc, and_true]; omega))) q115a q115c (g := (mkF m 436 #[.val (.int su), .val (.int wh), .val (.int dn), .val (.int li), .val (.int ax), .val v1_, .val v1_, .val (.int pa), .val (.int pb), .val (.int dl), .val (.int lm), .val v0_, .val (.int cm), .val (.ref ob9), .val (.ref ob26), .val (.ref ob33), .val v0_, .val v1_, .val (.int za), .val (.int zb), .val v1_, .val v1_, .val (.int yc), .val (.int pb), .val (.int (-1 : Int32))] [(.ref ob33)])) rfl (by rw [hml]; rfl) (Steps.refl _) (argsL := []) (rest := []) (lenOf pd11_ rfl) rfl own_z (hb hby at_436) (o4 K60 346 0 2312 0)) fun T115 Lc115 _ X115 hQ115 => ?_
                    obtain ⟨rfl, M115, K115⟩ := hQ115
                    have N115 := Fr.app N60 M115
                    have z115 := K115.1
                    refine o_iL X115 hx hby at_439 rfl ?_
                    refine ob_ (fun _ k => XS.icmpNo X115.here hx rfl (hb hby at_441) rfl (teq (by decide : (-1 : Int32) = (-1 : Int32))).2 k) ?_
                    refine o_ic X115 hx hby at_444 ?_
                    refine ob_ (fun _ k => XS.goto X115.here hx rfl (pc0 := 445) (pc' := 449) rfl (hb hby at_445) (by decide) (by decide) k) ?_
                    have q_71 : own_LE h0.size ca_35 := mL
                    have q_72 : own_LE h0.size xa_35 := mL
                    have q_73 : own_LE h0.size de_35 := mL
                    have q_74 : own_LE h0.size dq_35 := mL
                    have K116 : Keep h0 T115.heap [] := ((((Keep.refl h0 []).trans Kj44 all0).trans K46 (kR (kR all0 q_71) q_72)).trans K115 (kR (kR all0 q_73) q_74))
                    obtain ⟨fs, hr, hrun, hended, hW⟩ := X115.leaveW S10 (by first | omega | (rw [e0]; omega)) (v := some v1_) (fun h => by rw [Bd.returns] at h; cases h)
                    refine ⟨_, _, retN X115 hx (t := .boolean) Bd.returns (by simp) (hb hby at_449) hr, hrun, hended, _, _, rfl, ?_, ⟨_, rfl⟩, hW.2.1, hW.2.2.1, hW.2.2.2.mono (by decide) (by decide)⟩
                    show Q_rm_law Z su wh dn dce kce el ele kele ci cci mr h0 n0 _ T115.heap _
                    exact ⟨rfl, N115, K116⟩
                 refine ob_ (fun _ k => XS.ifYes Xj51.here hx rfl (pc0 := 371) (pc' := 378) rfl (hb hby at_371) rfl ((if0 _ _).trans (feq (by decide : ¬ ((1 : Int32) = (0 : Int32)))).2) (by decide) (by decide) k) ?_
                 refine o_iL Xj51 hx hby at_378 rfl ?_
                 by_cases hc117 : eb = (0 : Int32)
                 ·
                  refine ob_ (fun _ k => XS.ifNo Xj51.here hx rfl (hb hby at_380) rfl ((if0 _ _).trans (teq hc117).2) k) ?_
                  refine o_ic Xj51 hx hby at_383 ?_
                  refine ob_ (fun _ k => XS.goto Xj51.here hx rfl (pc0 := 384) (pc' := 388) rfl (hb hby at_384) (by decide) (by decide) k) ?_
                  exact jn52 _ ⟨_, Xj51, Nj51⟩ ej51 (1 : Int32) (by first | exact own_nx_0 (by assumption) | exact own_nx_1 (by assumption) (by assumption) | exact own_nx_2 (by assumption) (by assumption) | decide | exact own_nx_1 (by decide) (by assumption) | exact own_nx_2 (by decide) (by assumption) | exact own_nx_0 (by decide) | exact own_nx_1 (by assumption) (by decide) | exact own_nx_2 (by assumption) (by decide))
                 ·
                  refine ob_ (fun _ k => XS.ifYes Xj51.here hx rfl (pc0 := 380) (pc' := 387) rfl (hb hby at_380) rfl ((if0 _ _).trans (feq hc117).2) (by decide) (by decide) k) ?_
                  refine o_ic Xj51 hx hby at_387 ?_
                  exact jn52 _ ⟨_, Xj51, Nj51⟩ ej51 (-1 : Int32) (by first | exact own_nx_0 (by assumption) | exact own_nx_1 (by assumption) (by assumption) | exact own_nx_2 (by assumption) (by assumption) | decide | exact own_nx_1 (by decide) (by assumption) | exact own_nx_2 (by decide) (by assumption) | exact own_nx_0 (by decide) | exact own_nx_1 (by assumption) (by decide) | exact own_nx_2 (by assumption) (by decide))
                refine o_iL Xj50 hx hby at_319 rfl ?_
                by_cases hc118 : cm = (0 : Int32)
                ·
                 refine ob_ (fun _ k => XS.ifYes Xj50.here hx rfl (pc0 := 321) (pc' := 333) rfl (hb hby at_321) rfl ((if0 _ _).trans (teq hc118).1) (by decide) (by decide) k) ?_
                 refine o_ic Xj50 hx hby at_333 ?_
                 refine ob_ (fun _ k => XS.goto Xj50.here hx rfl (pc0 := 334) (pc' := 339) rfl (hb hby at_334) (by decide) (by decide) k) ?_
                 exact jn51 _ ⟨_, Xj50, Nj50⟩ ej50 (0 : Int32) (by first | exact own_fin_z (by assumption) | exact own_fin_l (by assumption) | exact own_fin_1 (by assumption) (by assumption))
                ·
                 refine ob_ (fun _ k => XS.ifNo Xj50.here hx rfl (hb hby at_321) rfl ((if0 _ _).trans (feq hc118).1) k) ?_
                 refine o_iL Xj50 hx hby at_324 rfl ?_
                 by_cases hc119 : za = (0 : Int32)
                 ·
                  refine ob_ (fun _ k => XS.ifNo Xj50.here hx rfl (hb hby at_326) rfl ((if0 _ _).trans (teq hc119).2) k) ?_
                  refine o_ic Xj50 hx hby at_329 ?_
                  refine ob_ (fun _ k => XS.goto Xj50.here hx rfl (pc0 := 330) (pc' := 339) rfl (hb hby at_330) (by decide) (by decide) k) ?_
                  exact jn51 _ ⟨_, Xj50, Nj50⟩ ej50 (1 : Int32) (by first | exact own_fin_z (by assumption) | exact own_fin_l (by assumption) | exact own_fin_1 (by assumption) (by assumption))
                 ·
                  refine ob_ (fun _ k => XS.ifYes Xj50.here hx rfl (pc0 := 326) (pc' := 333) rfl (hb hby at_326) rfl ((if0 _ _).trans (feq hc119).2) (by decide) (by decide) k) ?_
                  refine o_ic Xj50 hx hby at_333 ?_
                  refine ob_ (fun _ k => XS.goto Xj50.here hx rfl (pc0 := 334) (pc' := 339) rfl (hb hby at_334) (by decide) (by decide) k) ?_
                  exact jn51 _ ⟨_, Xj50, Nj50⟩ ej50 (0 : Int32) (by first | exact own_fin_z (by assumption) | exact own_fin_l (by assumption) | exact own_fin_1 (by assumption) (by assumption))
               by_cases hc120 : eb = (0 : Int32)
               ·
                refine ob_ (fun _ k => XS.ifNo Xj49.here hx rfl (hb hby at_298) rfl ((if0 _ _).trans (teq hc120).2) k) ?_
                refine o_iL Xj49 hx hby at_301 rfl ?_
                refine o_ic Xj49 hx hby at_303 ?_
                refine ob_ (fun _ k => XS.icmpYes Xj49.here hx rfl (pc0 := 304) (pc' := 311) rfl (hb hby at_304) rfl (feq (by decide : ¬ ((0 : Int32) = (1 : Int32)))).2 (by decide) (by decide) k) ?_
                refine o_ic Xj49 hx hby at_311 ?_
                exact jn50 _ ⟨_, Xj49, Nj49⟩ ej49 (0 : Int32) (by first | exact (by assumption : eb = (0 : Int32)).symm | exact (own_b1 hj4 (by assumption)).symm)
               ·
                refine ob_ (fun _ k => XS.ifYes Xj49.here hx rfl (pc0 := 298) (pc' := 307) rfl (hb hby at_298) rfl ((if0 _ _).trans (feq hc120).2) (by decide) (by decide) k) ?_
                refine o_ic Xj49 hx hby at_307 ?_
                refine ob_ (fun _ k => XS.goto Xj49.here hx rfl (pc0 := 308) (pc' := 312) rfl (hb hby at_308) (by decide) (by decide) k) ?_
                exact jn50 _ ⟨_, Xj49, Nj49⟩ ej49 (1 : Int32) (by first | exact (by assumption : eb = (0 : Int32)).symm | exact (own_b1 hj4 (by assumption)).symm)
              by_cases hc121 : ea = (0 : Int32)
              ·
               refine ob_ (fun _ k => XS.ifNo Xj48.here hx rfl (hb hby at_281) rfl ((if0 _ _).trans (teq hc121).2) k) ?_
               refine o_iL Xj48 hx hby at_284 rfl ?_
               refine ob_ (fun _ k => XS.ifNo Xj48.here hx rfl (hb hby at_286) rfl ((if0 _ _).trans (teq (by decide : (0 : Int32) = (0 : Int32))).2) k) ?_
               show own_Go p e below (Tj48.setTop (mkF m 289 #[.val (.int su), .val (.int wh), .val (.int dn), .val (.int li), .val (.int ax), .val (.int ea), .val (.int eb), .val (.int pa), .val (.int pb), .val (.int dl), .val (.int lm), .val v0_, .val (.int cm), .val (.ref ob9), .val (.ref ob26), .val (.ref ob33), .val v0_, .val v1_, .val (.int za), .val (.int zb), .unset, .unset, .unset, .unset, .unset] [])) _
               refine o_ic Xj48 hx hby at_289 ?_
               refine ob_ (fun _ k => XS.goto Xj48.here hx rfl (pc0 := 290) (pc' := 294) rfl (hb hby at_290) (by decide) (by decide) k) ?_
               exact jn49 _ ⟨_, Xj48, Nj48⟩ ej48 (1 : Int32) rfl
              ·
               refine ob_ (fun _ k => XS.ifYes Xj48.here hx rfl (pc0 := 281) (pc' := 289) rfl (hb hby at_281) rfl ((if0 _ _).trans (feq hc121).2) (by decide) (by decide) k) ?_
               refine o_ic Xj48 hx hby at_289 ?_
               refine ob_ (fun _ k => XS.goto Xj48.here hx rfl (pc0 := 290) (pc' := 294) rfl (hb hby at_290) (by decide) (by decide) k) ?_
               show own_Go p e below (Tj48.setTop (mkF m 294 #[.val (.int su), .val (.int wh), .val (.int dn), .val (.int li), .val (.int ax), .val (.int ea), .val (.int eb), .val (.int pa), .val (.int pb), .val (.int dl), .val (.int lm), .val v0_, .val (.int cm), .val (.ref ob9), .val (.ref ob26), .val (.ref ob33), .val v0_, .val v1_, .val (.int za), .val (.int zb), .unset, .unset, .unset, .unset, .unset] [v1_])) _
               exact jn49 _ ⟨_, Xj48, Nj48⟩ ej48 (1 : Int32) rfl
             by_cases hc122 : li = (0 : Int32)
             ·
              refine ob_ (fun _ k => XS.ifYes Xj47.here hx rfl (pc0 := 258) (pc' := 276) rfl (hb hby at_258) rfl ((if0 _ _).trans (teq hc122).1) (by decide) (by decide) k) ?_
              refine o_ic Xj47 hx hby at_276 ?_
              exact jn48 _ ⟨_, Xj47, Nj47⟩ ej47 (0 : Int32) (by rw [pj44_1]; first | exact own_l1_li (by assumption) | exact own_l1_z (by assumption) | exact own_l1_n h_lm (by assumption) | exact own_l1_1 hj1 (by assumption) (by assumption) (by assumption))
             ·
              refine ob_ (fun _ k => XS.ifNo Xj47.here hx rfl (hb hby at_258) rfl ((if0 _ _).trans (feq hc122).1) k) ?_
              refine o_iL Xj47 hx hby at_261 rfl ?_
              by_cases hc123 : dl = (0 : Int32)
              ·
               refine ob_ (fun _ k => XS.ifYes Xj47.here hx rfl (pc0 := 263) (pc' := 276) rfl (hb hby at_263) rfl ((if0 _ _).trans (teq hc123).1) (by decide) (by decide) k) ?_
               refine o_ic Xj47 hx hby at_276 ?_
               exact jn48 _ ⟨_, Xj47, Nj47⟩ ej47 (0 : Int32) (by rw [pj44_1]; first | exact own_l1_li (by assumption) | exact own_l1_z (by assumption) | exact own_l1_n h_lm (by assumption) | exact own_l1_1 hj1 (by assumption) (by assumption) (by assumption))
              ·
               refine ob_ (fun _ k => XS.ifNo Xj47.here hx rfl (hb hby at_263) rfl ((if0 _ _).trans (feq hc123).1) k) ?_
               refine o_iL Xj47 hx hby at_266 rfl ?_
               refine o_ic Xj47 hx hby at_268 ?_
               by_cases hc124 : lm = (1 : Int32)
               ·
                refine ob_ (fun _ k => XS.icmpNo Xj47.here hx rfl (hb hby at_269) rfl (teq hc124).2 k) ?_
                show own_Go p e below (Tj47.setTop (mkF m 272 #[.val (.int su), .val (.int wh), .val (.int dn), .val (.int li), .val (.int ax), .val (.int ea), .val (.int eb), .val (.int pa), .val (.int pb), .val (.int dl), .val (.int lm), .val v0_, .val (.int cm), .val (.ref ob9), .val (.ref ob26), .val (.ref ob33), .val v0_, .val v1_, .val (.int za), .unset, .unset, .unset, .unset, .unset, .unset] [])) _
                refine o_ic Xj47 hx hby at_272 ?_
                refine ob_ (fun _ k => XS.goto Xj47.here hx rfl (pc0 := 273) (pc' := 277) rfl (hb hby at_273) (by decide) (by decide) k) ?_
                exact jn48 _ ⟨_, Xj47, Nj47⟩ ej47 (1 : Int32) (by rw [pj44_1]; first | exact own_l1_li (by assumption) | exact own_l1_z (by assumption) | exact own_l1_n h_lm (by assumption) | exact own_l1_1 hj1 (by assumption) (by assumption) (by assumption))
               ·
                refine ob_ (fun _ k => XS.icmpYes Xj47.here hx rfl (pc0 := 269) (pc' := 276) rfl (hb hby at_269) rfl (feq hc124).2 (by decide) (by decide) k) ?_
                show own_Go p e below (Tj47.setTop (mkF m 276 #[.val (.int su), .val (.int wh), .val (.int dn), .val (.int li), .val (.int ax), .val (.int ea), .val (.int eb), .val (.int pa), .val (.int pb), .val (.int dl), .val (.int lm), .val v0_, .val (.int cm), .val (.ref ob9), .val (.ref ob26), .val (.ref ob33), .val v0_, .val v1_, .val (.int za), .unset, .unset, .unset, .unset, .unset, .unset] [])) _
                refine o_ic Xj47 hx hby at_276 ?_
                exact jn48 _ ⟨_, Xj47, Nj47⟩ ej47 (0 : Int32) (by rw [pj44_1]; first | exact own_l1_li (by assumption) | exact own_l1_z (by assumption) | exact own_l1_n h_lm (by assumption) | exact own_l1_1 hj1 (by assumption) (by assumption) (by assumption))
            by_cases hc125 : li = (0 : Int32)
            ·
             refine ob_ (fun _ k => XS.ifYes X46.here hx rfl (pc0 := 237) (pc' := 254) rfl (hb hby at_237) rfl ((if0 _ _).trans (teq hc125).1) (by decide) (by decide) k) ?_
             refine o_ic X46 hx hby at_254 ?_
             exact jn47 _ ⟨_, X46, N46⟩ rfl (0 : Int32) (by rw [pj44_0]; first | exact own_l0_li (by assumption) | exact own_l0_z (by assumption) | exact own_l0_n (by assumption) | exact own_l0_1 hj1 (by assumption) (by assumption) (by assumption))
            ·
             refine ob_ (fun _ k => XS.ifNo X46.here hx rfl (hb hby at_237) rfl ((if0 _ _).trans (feq hc125).1) k) ?_
             refine o_iL X46 hx hby at_240 rfl ?_
             by_cases hc126 : dl = (0 : Int32)
             ·
              refine ob_ (fun _ k => XS.ifYes X46.here hx rfl (pc0 := 242) (pc' := 254) rfl (hb hby at_242) rfl ((if0 _ _).trans (teq hc126).1) (by decide) (by decide) k) ?_
              refine o_ic X46 hx hby at_254 ?_
              exact jn47 _ ⟨_, X46, N46⟩ rfl (0 : Int32) (by rw [pj44_0]; first | exact own_l0_li (by assumption) | exact own_l0_z (by assumption) | exact own_l0_n (by assumption) | exact own_l0_1 hj1 (by assumption) (by assumption) (by assumption))
             ·
              refine ob_ (fun _ k => XS.ifNo X46.here hx rfl (hb hby at_242) rfl ((if0 _ _).trans (feq hc126).1) k) ?_
              refine o_iL X46 hx hby at_245 rfl ?_
              by_cases hc127 : lm = (0 : Int32)
              ·
               refine ob_ (fun _ k => XS.ifNo X46.here hx rfl (hb hby at_247) rfl ((if0 _ _).trans (teq hc127).2) k) ?_
               refine o_ic X46 hx hby at_250 ?_
               refine ob_ (fun _ k => XS.goto X46.here hx rfl (pc0 := 251) (pc' := 255) rfl (hb hby at_251) (by decide) (by decide) k) ?_
               exact jn47 _ ⟨_, X46, N46⟩ rfl (1 : Int32) (by rw [pj44_0]; first | exact own_l0_li (by assumption) | exact own_l0_z (by assumption) | exact own_l0_n (by assumption) | exact own_l0_1 hj1 (by assumption) (by assumption) (by assumption))
              ·
               refine ob_ (fun _ k => XS.ifYes X46.here hx rfl (pc0 := 247) (pc' := 254) rfl (hb hby at_247) rfl ((if0 _ _).trans (feq hc127).2) (by decide) (by decide) k) ?_
               refine o_ic X46 hx hby at_254 ?_
               exact jn47 _ ⟨_, X46, N46⟩ rfl (0 : Int32) (by rw [pj44_0]; first | exact own_l0_li (by assumption) | exact own_l0_z (by assumption) | exact own_l0_n (by assumption) | exact own_l0_1 hj1 (by assumption) (by assumption) (by assumption))
           ·
            have O128 : Old Z n0 Hj44 := (O0.keep Kj44 all0)
            obtain ⟨cq129, kq129, q129a, q129b, q129c⟩ := isOf hZ10 ej44 fj44_0
            refine o_k 3 (Xj44.virtualBack hx (y := y55_) (z := y55_) ho10 (mvT hZ10 (w_ hw 389 rfl)) (mvT hZ10 (w_ hw 390 rfl)) (notFace_of_selects (args := #[]) (mvT hZ10 (w_ hw 392 rfl))) (mvT hZ10 (w_ hw 392 rfl)) (mvT hZ10 (w_ hw 391 rfl)) (by decide) (bk 0 hZ10 hw 393 175 (rm_fin1 l Z a0 hw [] ob33 xa_35 ca_35 lo_35 kxa_35 kca_35 klo_35 cm ea eb pa pb l0 l1 Hj44 n0 O128 fj44_2 fj44_3 fj44_4 fj44_9 fj44_10 fj44_11 q_5 (by simp only [own_asc, and_true]; omega))) q129a q129c (g := (mkF m 233 #[.val (.int su), .val (.int wh), .val (.int dn), .val (.int li), .val (.int ax), .val (.int ea), .val (.int eb), .val (.int pa), .val (.int pb), .val (.int dl), .val (.int lm), .val v1_, .val (.int cm), .val (.ref ob9), .val (.ref ob26), .val (.ref ob33), .val v0_, .val v1_, .unset, .unset, .unset, .unset, .unset, .unset, .unset] [(.int cm), v1_, (.ref ob33)])) rfl (by rw [hml]; rfl) (Steps.refl _) (argsL := [v1_, (.int cm)]) (rest := []) (lenOf pd33_ rfl) rfl own_z (hb hby at_233) (o4 ej44 346 0 2312 0)) fun T129 Lc129 _ X129 hQ129 => ?_
            obtain ⟨rfl, M129, K129, g129_0, g129_1⟩ := hQ129
            have N129 := Fr.app Nj44 M129
            have z129 := K129.1
            have lt_g129_0 := vG g129_0
            have lt_g129_1 := vG g129_1
            refine o_il X129 hx hby at_236 rfl ?_
            have jn130 : ∀ (Tj130 : State), (∃ lc, Stand p l e room_1 (s.setVm T10.vm) m #[(.int su), (.int wh), (.int dn)] below meth c Tj130 lc 346 2312 ∧ Fr n0 lc) → Tj130.heap = T129.heap → ∀ (za : Int32), (za = l0) → own_Go p e below (Tj130.setTop (mkF m 255 #[.val (.int su), .val (.int wh), .val (.int dn), .val (.int li), .val (.int ax), .val (.int ea), .val (.int eb), .val (.int pa), .val (.int pb), .val (.int dl), .val (.int lm), .val v1_, .val (.int cm), .val (.ref ob9), .val (.ref ob26), .val (.ref ob33), .val v0_, .val v1_, .unset, .unset, .unset, .unset, .unset, .unset, .unset] [(.int za)])) (fun t o => ∃ v L, o = .returned v ∧ Q_rm_law Z su wh dn dce kce el ele kele ci cci mr h0 n0 v t.heap L ∧ ReturnedEndW s o t L room_1.cells room_1.slots) := by
             rintro Tj130 ⟨lc130, Xj130, Nj130⟩ ej130 za hj130
             subst hj130
             refine ob_ (fun _ k => XS.istore Xj130.here hx rfl (hb hby at_255) rfl (l' := #[.val (.int su), .val (.int wh), .val (.int dn), .val (.int li), .val (.int ax), .val (.int ea), .val (.int eb), .val (.int pa), .val (.int pb), .val (.int dl), .val (.int lm), .val v1_, .val (.int cm), .val (.ref ob9), .val (.ref ob26), .val (.ref ob33), .val v0_, .val v1_, .val (.int za), .unset, .unset, .unset, .unset, .unset, .unset]) rfl k) ?_
             refine o_il Xj130 hx hby at_257 rfl ?_
             have jn131 : ∀ (Tj131 : State), (∃ lc, Stand p l e room_1 (s.setVm T10.vm) m #[(.int su), (.int wh), (.int dn)] below meth c Tj131 lc 346 2312 ∧ Fr n0 lc) → Tj131.heap = T129.heap → ∀ (zb : Int32), (zb = l1) → own_Go p e below (Tj131.setTop (mkF m 277 #[.val (.int su), .val (.int wh), .val (.int dn), .val (.int li), .val (.int ax), .val (.int ea), .val (.int eb), .val (.int pa), .val (.int pb), .val (.int dl), .val (.int lm), .val v1_, .val (.int cm), .val (.ref ob9), .val (.ref ob26), .val (.ref ob33), .val v0_, .val v1_, .val (.int za), .unset, .unset, .unset, .unset, .unset, .unset] [(.int zb)])) (fun t o => ∃ v L, o = .returned v ∧ Q_rm_law Z su wh dn dce kce el ele kele ci cci mr h0 n0 v t.heap L ∧ ReturnedEndW s o t L room_1.cells room_1.slots) := by
              rintro Tj131 ⟨lc131, Xj131, Nj131⟩ ej131 zb hj131
              subst hj131
              refine ob_ (fun _ k => XS.istore Xj131.here hx rfl (hb hby at_277) rfl (l' := #[.val (.int su), .val (.int wh), .val (.int dn), .val (.int li), .val (.int ax), .val (.int ea), .val (.int eb), .val (.int pa), .val (.int pb), .val (.int dl), .val (.int lm), .val v1_, .val (.int cm), .val (.ref ob9), .val (.ref ob26), .val (.ref ob33), .val v0_, .val v1_, .val (.int za), .val (.int zb), .unset, .unset, .unset, .unset, .unset]) rfl k) ?_
              refine o_iL Xj131 hx hby at_279 rfl ?_
              have jn132 : ∀ (Tj132 : State), (∃ lc, Stand p l e room_1 (s.setVm T10.vm) m #[(.int su), (.int wh), (.int dn)] below meth c Tj132 lc 346 2312 ∧ Fr n0 lc) → Tj132.heap = T129.heap → ∀ (xe : Int32), (xe = ea) → own_Go p e below (Tj132.setTop (mkF m 294 #[.val (.int su), .val (.int wh), .val (.int dn), .val (.int li), .val (.int ax), .val (.int ea), .val (.int eb), .val (.int pa), .val (.int pb), .val (.int dl), .val (.int lm), .val v1_, .val (.int cm), .val (.ref ob9), .val (.ref ob26), .val (.ref ob33), .val v0_, .val v1_, .val (.int za), .val (.int zb), .unset, .unset, .unset, .unset, .unset] [(.int xe)])) (fun t o => ∃ v L, o = .returned v ∧ Q_rm_law Z su wh dn dce kce el ele kele ci cci mr h0 n0 v t.heap L ∧ ReturnedEndW s o t L room_1.cells room_1.slots) := by
               rintro Tj132 ⟨lc132, Xj132, Nj132⟩ ej132 xe hj132
               obtain rfl : ea = xe := hj132.symm
               refine ob_ (fun _ k => XS.istore Xj132.here hx rfl (hb hby at_294) rfl (l' := #[.val (.int su), .val (.int wh), .val (.int dn), .val (.int li), .val (.int ax), .val (.int ea), .val (.int eb), .val (.int pa), .val (.int pb), .val (.int dl), .val (.int lm), .val v1_, .val (.int cm), .val (.ref ob9), .val (.ref ob26), .val (.ref ob33), .val v0_, .val v1_, .val (.int za), .val (.int zb), .val (.int ea), .unset, .unset, .unset, .unset]) rfl k) ?_
               refine o_iL Xj132 hx hby at_296 rfl ?_
               show own_Go p e below (Tj132.setTop (mkF m 298 #[.val (.int su), .val (.int wh), .val (.int dn), .val (.int li), .val (.int ax), .val (.int ea), .val (.int eb), .val (.int pa), .val (.int pb), .val (.int dl), .val (.int lm), .val v1_, .val (.int cm), .val (.ref ob9), .val (.ref ob26), .val (.ref ob33), .val v0_, .val v1_, .val (.int za), .val (.int zb), .val (.int ea), .unset, .unset, .unset, .unset] [(.int eb)])) _
               have jn133 : ∀ (Tj133 : State), (∃ lc, Stand p l e room_1 (s.setVm T10.vm) m #[(.int su), (.int wh), (.int dn)] below meth c Tj133 lc 346 2312 ∧ Fr n0 lc) → Tj133.heap = T129.heap → ∀ (xf : Int32), (xf = (1 : Int32)) → own_Go p e below (Tj133.setTop (mkF m 312 #[.val (.int su), .val (.int wh), .val (.int dn), .val (.int li), .val (.int ax), .val (.int ea), .val (.int eb), .val (.int pa), .val (.int pb), .val (.int dl), .val (.int lm), .val v1_, .val (.int cm), .val (.ref ob9), .val (.ref ob26), .val (.ref ob33), .val v0_, .val v1_, .val (.int za), .val (.int zb), .val (.int ea), .unset, .unset, .unset, .unset] [(.int xf)])) (fun t o => ∃ v L, o = .returned v ∧ Q_rm_law Z su wh dn dce kce el ele kele ci cci mr h0 n0 v t.heap L ∧ ReturnedEndW s o t L room_1.cells room_1.slots) := by
                rintro Tj133 ⟨lc133, Xj133, Nj133⟩ ej133 xf hj133
                obtain rfl : (1 : Int32) = xf := hj133.symm
                refine ob_ (fun _ k => XS.istore Xj133.here hx rfl (hb hby at_312) rfl (l' := #[.val (.int su), .val (.int wh), .val (.int dn), .val (.int li), .val (.int ax), .val (.int ea), .val (.int eb), .val (.int pa), .val (.int pb), .val (.int dl), .val (.int lm), .val v1_, .val (.int cm), .val (.ref ob9), .val (.ref ob26), .val (.ref ob33), .val v0_, .val v1_, .val (.int za), .val (.int zb), .val (.int ea), .val v1_, .unset, .unset, .unset]) rfl k) ?_
                refine o_iL Xj133 hx hby at_314 rfl ?_
                refine ob_ (fun _ k => XS.ifYes Xj133.here hx rfl (pc0 := 316) (pc' := 337) rfl (hb hby at_316) rfl ((if0 _ _).trans (feq (by decide : ¬ ((1 : Int32) = (0 : Int32)))).2) (by decide) (by decide) k) ?_
                refine o_iL Xj133 hx hby at_337 rfl ?_
                refine ob_ (fun _ k => XS.istore Xj133.here hx rfl (hb hby at_339) rfl (l' := #[.val (.int su), .val (.int wh), .val (.int dn), .val (.int li), .val (.int ax), .val (.int ea), .val (.int eb), .val (.int pa), .val (.int pb), .val (.int dl), .val (.int lm), .val v1_, .val (.int cm), .val (.ref ob9), .val (.ref ob26), .val (.ref ob33), .val v0_, .val v1_, .val (.int za), .val (.int zb), .val (.int ea), .val v1_, .val (.int pa), .unset, .unset]) rfl k) ?_
                refine o_iL Xj133 hx hby at_341 rfl ?_
                refine o_ic Xj133 hx hby at_343 ?_
                refine ob_ (fun _ k => XS.icmpNo Xj133.here hx rfl (hb hby at_344) rfl (teq hj133).2 k) ?_
                have jn134 : ∀ (Tj134 : State), (∃ lc, Stand p l e room_1 (s.setVm T10.vm) m #[(.int su), (.int wh), (.int dn)] below meth c Tj134 lc 346 2312 ∧ Fr n0 lc) → Tj134.heap = T129.heap → ∀ (yd : Int32), (yd = (own_fin cm zb)) → own_Go p e below (Tj134.setTop (mkF m 367 #[.val (.int su), .val (.int wh), .val (.int dn), .val (.int li), .val (.int ax), .val (.int ea), .val (.int eb), .val (.int pa), .val (.int pb), .val (.int dl), .val (.int lm), .val v1_, .val (.int cm), .val (.ref ob9), .val (.ref ob26), .val (.ref ob33), .val v0_, .val v1_, .val (.int za), .val (.int zb), .val (.int ea), .val v1_, .val (.int pa), .unset, .unset] [(.int yd)])) (fun t o => ∃ v L, o = .returned v ∧ Q_rm_law Z su wh dn dce kce el ele kele ci cci mr h0 n0 v t.heap L ∧ ReturnedEndW s o t L room_1.cells room_1.slots) := by
                 rintro Tj134 ⟨lc134, Xj134, Nj134⟩ ej134 yd hj134
                 refine ob_ (fun _ k => XS.istore Xj134.here hx rfl (hb hby at_367) rfl (l' := #[.val (.int su), .val (.int wh), .val (.int dn), .val (.int li), .val (.int ax), .val (.int ea), .val (.int eb), .val (.int pa), .val (.int pb), .val (.int dl), .val (.int lm), .val v1_, .val (.int cm), .val (.ref ob9), .val (.ref ob26), .val (.ref ob33), .val v0_, .val v1_, .val (.int za), .val (.int zb), .val (.int ea), .val v1_, .val (.int pa), .val (.int yd), .unset]) rfl k) ?_
                 refine o_iL Xj134 hx hby at_369 rfl ?_
                 have jn135 : ∀ (Tj135 : State), (∃ lc, Stand p l e room_1 (s.setVm T10.vm) m #[(.int su), (.int wh), (.int dn)] below meth c Tj135 lc 346 2312 ∧ Fr n0 lc) → Tj135.heap = T129.heap → ∀ (xn : Int32), (xn = (own_nx ea (1 : Int32))) → own_Go p e below (Tj135.setTop (mkF m 388 #[.val (.int su), .val (.int wh), .val (.int dn), .val (.int li), .val (.int ax), .val (.int ea), .val (.int eb), .val (.int pa), .val (.int pb), .val (.int dl), .val (.int lm), .val v1_, .val (.int cm), .val (.ref ob9), .val (.ref ob26), .val (.ref ob33), .val v0_, .val v1_, .val (.int za), .val (.int zb), .val (.int ea), .val v1_, .val (.int pa), .val (.int yd), .unset] [(.int xn)])) (fun t o => ∃ v L, o = .returned v ∧ Q_rm_law Z su wh dn dce kce el ele kele ci cci mr h0 n0 v t.heap L ∧ ReturnedEndW s o t L room_1.cells room_1.slots) := by
                  rintro Tj135 ⟨lc135, Xj135, Nj135⟩ ej135 xn hj135
                  refine ob_ (fun _ k => XS.istore Xj135.here hx rfl (hb hby at_388) rfl (l' := #[.val (.int su), .val (.int wh), .val (.int dn), .val (.int li), .val (.int ax), .val (.int ea), .val (.int eb), .val (.int pa), .val (.int pb), .val (.int dl), .val (.int lm), .val v1_, .val (.int cm), .val (.ref ob9), .val (.ref ob26), .val (.ref ob33), .val v0_, .val v1_, .val (.int za), .val (.int zb), .val (.int ea), .val v1_, .val (.int pa), .val (.int yd), .val (.int xn)]) rfl k) ?_
                  refine o_aL Xj135 hx hby at_390 rfl rfl ?_
                  refine o_ic Xj135 hx hby at_392 ?_
                  have q_75 : own_NE ca_35 ob33 := mN
                  have q_76 : own_NE ob33 xa_35 := mN
                  have q_77 : ob33 ∉ [xa_35, ca_35] := nT q_76 (nT (uS q_75) nin0)
                  have fc136 := (fj44_2.keep K129 q_77)
                  have q_78 : own_LE n0 ca_35 := mL
                  have q_79 : own_LE n0 xa_35 := mL
                  have O137 : Old Z n0 T129.heap := (O128.keep K129 (allS q_79 (allS q_78 all0)))
                  have fc139 := (fj44_0.keep K129)
                  obtain ⟨cq138, kq138, q138a, q138b, q138c⟩ := isOf hZ10 ej135 fc139
                  refine o_k 3 (Xj135.virtualBack hx (y := y57_) (z := y57_) ho10 (mvT hZ10 (w_ hw 394 rfl)) (mvT hZ10 (w_ hw 395 rfl)) (notFace_of_selects (args := #[]) (mvT hZ10 (w_ hw 397 rfl))) (mvT hZ10 (w_ hw 397 rfl)) (mvT hZ10 (w_ hw 396 rfl)) (by decide) (bk 0 hZ10 hw 398 175 (rm_exp0 l Z a0 hw [] ob33 xa_35 kxa_35 ea (1 : Int32) T129.heap n0 O137 fc136 g129_0 hj3)) q138a q138c (g := (mkF m 393 #[.val (.int su), .val (.int wh), .val (.int dn), .val (.int li), .val (.int ax), .val (.int ea), .val (.int eb), .val (.int pa), .val (.int pb), .val (.int dl), .val (.int lm), .val v1_, .val (.int cm), .val (.ref ob9), .val (.ref ob26), .val (.ref ob33), .val v0_, .val v1_, .val (.int za), .val (.int zb), .val (.int ea), .val v1_, .val (.int pa), .val (.int yd), .val (.int xn)] [v0_, (.ref ob33)])) rfl (by rw [hml]; rfl) (Steps.refl _) (argsL := [v0_]) (rest := []) (lenOf pd28_ rfl) rfl own_z (hb hby at_393) (o4 ej135 346 0 2312 0)) fun T138 Lc138 _ X138 hQ138 => ?_
                  obtain ⟨rfl, M138, K138⟩ := hQ138
                  have N138 := Fr.app Nj135 M138
                  refine o_iL X138 hx hby at_396 rfl ?_
                  refine ob_ (fun _ k => XS.icmpNo X138.here hx rfl (hb hby at_398) rfl (teq hj132).2 k) ?_
                  refine o_aL X138 hx hby at_401 rfl rfl ?_
                  refine o_ic X138 hx hby at_403 ?_
                  obtain ⟨cq140, kq140, q140a, q140b, q140c⟩ := isOf hZ10 K138 fc139
                  refine o_k 3 (X138.virtualBack hx (y := y57_) (z := y57_) ho10 (mvT hZ10 (w_ hw 394 rfl)) (mvT hZ10 (w_ hw 395 rfl)) (notFace_of_selects (args := #[]) (mvT hZ10 (w_ hw 397 rfl))) (mvT hZ10 (w_ hw 397 rfl)) (mvT hZ10 (w_ hw 396 rfl)) (by decide) (bk 0 hZ10 hw 398 175 (rm_exp1 l Z a0 hw [] ob33 xa_35 kxa_35 ea (1 : Int32) T129.heap n0 O137 fc136 g129_0 (by decide))) q140a q140c (g := (mkF m 404 #[.val (.int su), .val (.int wh), .val (.int dn), .val (.int li), .val (.int ax), .val (.int ea), .val (.int eb), .val (.int pa), .val (.int pb), .val (.int dl), .val (.int lm), .val v1_, .val (.int cm), .val (.ref ob9), .val (.ref ob26), .val (.ref ob33), .val v0_, .val v1_, .val (.int za), .val (.int zb), .val (.int ea), .val v1_, .val (.int pa), .val (.int yd), .val (.int xn)] [v1_, (.ref ob33)])) rfl (by rw [hml]; rfl) (Steps.refl _) (argsL := [v1_]) (rest := []) (lenOf pd28_ rfl) rfl own_z (hb hby at_404) (o4 K138 346 0 2312 0)) fun T140 Lc140 _ X140 hQ140 => ?_
                  obtain ⟨rfl, M140, K140⟩ := hQ140
                  have N140 := Fr.app N138 M140
                  refine o_iL X140 hx hby at_407 rfl ?_
                  refine ob_ (fun _ k => XS.icmpNo X140.here hx rfl (hb hby at_409) rfl (teq hj133).2 k) ?_
                  refine o_aL X140 hx hby at_412 rfl rfl ?_
                  refine o_ic X140 hx hby at_414 ?_
                  have fc141 := (fj44_3.keep K129 q_77)
                  obtain ⟨cq142, kq142, q142a, q142b, q142c⟩ := isOf hZ10 K140 fc139
                  refine o_k 3 (X140.virtualBack hx (y := y58_) (z := y58_) ho10 (mvT hZ10 (w_ hw 399 rfl)) (mvT hZ10 (w_ hw 400 rfl)) (notFace_of_selects (args := #[]) (mvT hZ10 (w_ hw 402 rfl))) (mvT hZ10 (w_ hw 402 rfl)) (mvT hZ10 (w_ hw 401 rfl)) (by decide) (bk 0 hZ10 hw 403 175 (rm_com0 l Z a0 hw [] ob33 ca_35 kca_35 pa (own_fin cm zb) T129.heap n0 O137 fc141 g129_1 hj5)) q142a q142c (g := (mkF m 415 #[.val (.int su), .val (.int wh), .val (.int dn), .val (.int li), .val (.int ax), .val (.int ea), .val (.int eb), .val (.int pa), .val (.int pb), .val (.int dl), .val (.int lm), .val v1_, .val (.int cm), .val (.ref ob9), .val (.ref ob26), .val (.ref ob33), .val v0_, .val v1_, .val (.int za), .val (.int zb), .val (.int ea), .val v1_, .val (.int pa), .val (.int yd), .val (.int xn)] [v0_, (.ref ob33)])) rfl (by rw [hml]; rfl) (Steps.refl _) (argsL := [v0_]) (rest := []) (lenOf pd28_ rfl) rfl own_z (hb hby at_415) (o4 K140 346 0 2312 0)) fun T142 Lc142 _ X142 hQ142 => ?_
                  obtain ⟨rfl, M142, K142⟩ := hQ142
                  have N142 := Fr.app N140 M142
                  refine o_iL X142 hx hby at_418 rfl ?_
                  refine ob_ (fun _ k => XS.icmpNo X142.here hx rfl (hb hby at_420) rfl (teq (rfl : pa = pa)).2 k) ?_
                  refine o_aL X142 hx hby at_423 rfl rfl ?_
                  refine o_ic X142 hx hby at_425 ?_
                  obtain ⟨cq143, kq143, q143a, q143b, q143c⟩ := isOf hZ10 K142 fc139
                  refine o_k 3 (X142.virtualBack hx (y := y58_) (z := y58_) ho10 (mvT hZ10 (w_ hw 399 rfl)) (mvT hZ10 (w_ hw 400 rfl)) (notFace_of_selects (args := #[]) (mvT hZ10 (w_ hw 402 rfl))) (mvT hZ10 (w_ hw 402 rfl)) (mvT hZ10 (w_ hw 401 rfl)) (by decide) (bk 0 hZ10 hw 403 175 (rm_com1 l Z a0 hw [] ob33 ca_35 kca_35 pa (own_fin cm zb) T129.heap n0 O137 fc141 g129_1 own_fin_01)) q143a q143c (g := (mkF m 426 #[.val (.int su), .val (.int wh), .val (.int dn), .val (.int li), .val (.int ax), .val (.int ea), .val (.int eb), .val (.int pa), .val (.int pb), .val (.int dl), .val (.int lm), .val v1_, .val (.int cm), .val (.ref ob9), .val (.ref ob26), .val (.ref ob33), .val v0_, .val v1_, .val (.int za), .val (.int zb), .val (.int ea), .val v1_, .val (.int pa), .val (.int yd), .val (.int xn)] [v1_, (.ref ob33)])) rfl (by rw [hml]; rfl) (Steps.refl _) (argsL := [v1_]) (rest := []) (lenOf pd28_ rfl) rfl own_z (hb hby at_426) (o4 K142 346 0 2312 0)) fun T143 Lc143 _ X143 hQ143 => ?_
                  obtain ⟨rfl, M143, K143⟩ := hQ143
                  have N143 := Fr.app N142 M143
                  show own_Go p e below (T143.setTop (mkF m 429 #[.val (.int su), .val (.int wh), .val (.int dn), .val (.int li), .val (.int ax), .val (.int ea), .val (.int eb), .val (.int pa), .val (.int pb), .val (.int dl), .val (.int lm), .val v1_, .val (.int cm), .val (.ref ob9), .val (.ref ob26), .val (.ref ob33), .val v0_, .val v1_, .val (.int za), .val (.int zb), .val (.int ea), .val v1_, .val (.int pa), .val (.int yd), .val (.int xn)] [(.int (own_fin cm zb))])) _
                  refine o_iL X143 hx hby at_429 rfl ?_
                  refine ob_ (fun _ k => XS.icmpNo X143.here hx rfl (hb hby at_431) rfl (teq hj134.symm).2 k) ?_
                  have hea := hj3
                  have heb := hj4
                  have hw0 := r41_0
                  have hw1 := pj42_0
                  rcases hea with rfl | rfl
                  ·
                   rcases heb with rfl | rfl
                   ·
                    obtain ⟨rfl, wa, rfl, hba⟩ := own_w0_0 hw0
                    obtain ⟨rfl, wb, rfl, hbb⟩ := own_w1_0 hw1
                    have q_80 : own_NE ca_35 de_35 := mN
                    have q_81 : own_NE de_35 xa_35 := mN
                    have q_82 : de_35 ∉ [xa_35, ca_35] := nT q_81 (nT (uS q_80) nin0)
                    have fc144 := (fj44_16.keep K129 q_82)
                    have Vd145 : Arv Z T129.heap de_35 kde_35 (.object s7_) (17 : Int32) [(.ref wa), (.ref wb)] .null := fc144
                    have q_83 : own_NE ca_35 dq_35 := mN
                    have q_84 : own_NE dq_35 xa_35 := mN
                    have q_85 : dq_35 ∉ [xa_35, ca_35] := nT q_84 (nT (uS q_83) nin0)
                    have fc146 := (fj44_14.keep K129 q_85)
                    have Ft147 : f35_ Z T129.heap dq_35 (.int (2 : Int32)) := fc146
                    have hxl : xn = (0 : Int32) := by rw [hj135]; decide
                    subst hxl
                    refine o_aL X143 hx hby at_434 rfl rfl ?_
                    have fc148 := (fj44_1.keep K129 q_77)
                    have fc149 := (fj44_5.keep K129 q_77)
                    have fc150 := (fj44_6.keep K129)
                    have q_86 : own_NE ca_35 un_35 := mN
                    have q_87 : own_NE un_35 xa_35 := mN
                    have q_88 : un_35 ∉ [xa_35, ca_35] := nT q_87 (nT (uS q_86) nin0)
                    have fc151 := (fj44_7.keep K129 q_88)
                    have q_89 : own_NE ca_35 hl_35 := mN
                    have q_90 : own_NE hl_35 xa_35 := mN
                    have q_91 : hl_35 ∉ [xa_35, ca_35] := nT q_90 (nT (uS q_89) nin0)
                    have fc152 := (fj44_8.keep K129 q_91)
                    have fc153 := (fj44_12.keep K129)
                    have fc154 := (fj44_13.keep K129 q_85)
                    have fc155 := (fj44_15.keep K129 q_85)
                    obtain ⟨cq156, kq156, q156a, q156b, q156c⟩ := isOf hZ10 K143 fc139
                    refine o_k 3 (X143.virtualBack hx (y := y60_) (z := y60_) ho10 (mvT hZ10 (w_ hw 404 rfl)) (mvT hZ10 (w_ hw 405 rfl)) (notFace_of_selects (args := #[]) (mvT hZ10 (w_ hw 407 rfl))) (mvT hZ10 (w_ hw 407 rfl)) (mvT hZ10 (w_ hw 406 rfl)) (by decide) (bk 0 hZ10 hw 408 175 (rm_nx01_01 l Z a0 hw [] ob33 un_35 hl_35 khl_35 xa_35 kxa_35 dq_35 de_35 kde_35 wa wb T129.heap n0 O137 fc148 fc136 fc149 fc150 fc151 fc152 g129_0 fc153 fc154 Ft147 fc155 Vd145 q_5 (by simp only [own_asc, and_true]; omega) hba hbb)) q156a q156c (g := (mkF m 436 #[.val (.int su), .val (.int wh), .val (.int dn), .val (.int li), .val (.int ax), .val v0_, .val v0_, .val (.int pa), .val (.int pb), .val (.int dl), .val (.int lm), .val v1_, .val (.int cm), .val (.ref ob9), .val (.ref ob26), .val (.ref ob33), .val v0_, .val v1_, .val (.int za), .val (.int zb), .val v0_, .val v1_, .val (.int pa), .val (.int yd), .val v0_] [(.ref ob33)])) rfl (by rw [hml]; rfl) (Steps.refl _) (argsL := []) (rest := []) (lenOf pd11_ rfl) rfl own_z (hb hby at_436) (o4 K143 346 0 2312 0)) fun T156 Lc156 _ X156 hQ156 => ?_
                    obtain ⟨rfl, M156, K156⟩ := hQ156
                    have N156 := Fr.app N143 M156
                    have z156 := K156.1
                    refine o_iL X156 hx hby at_439 rfl ?_
                    refine ob_ (fun _ k => XS.icmpNo X156.here hx rfl (hb hby at_441) rfl (teq hj132).2 k) ?_
                    refine o_ic X156 hx hby at_444 ?_
                    refine ob_ (fun _ k => XS.goto X156.here hx rfl (pc0 := 445) (pc' := 449) rfl (hb hby at_445) (by decide) (by decide) k) ?_
                    have q_92 : own_LE h0.size ca_35 := mL
                    have q_93 : own_LE h0.size xa_35 := mL
                    have q_94 : own_LE h0.size de_35 := mL
                    have q_95 : own_LE h0.size dq_35 := mL
                    have K157 : Keep h0 T156.heap [] := ((((Keep.refl h0 []).trans Kj44 all0).trans K129 (kR (kR all0 q_92) q_93)).trans K156 (kR (kR all0 q_94) q_95))
                    obtain ⟨fs, hr, hrun, hended, hW⟩ := X156.leaveW S10 (by first | omega | (rw [e0]; omega)) (v := some v1_) (fun h => by rw [Bd.returns] at h; cases h)
                    refine ⟨_, _, retN X156 hx (t := .boolean) Bd.returns (by simp) (hb hby at_449) hr, hrun, hended, _, _, rfl, ?_, ⟨_, rfl⟩, hW.2.1, hW.2.2.1, hW.2.2.2.mono (by decide) (by decide)⟩
                    show Q_rm_law Z su wh dn dce kce el ele kele ci cci mr h0 n0 _ T156.heap _
                    exact ⟨rfl, N156, K157⟩
                   ·
                    obtain ⟨rfl, wa, rfl, hba⟩ := own_w0_0 hw0
                    obtain ⟨rfl, rfl⟩ := own_w1_1 hw1
                    have q_96 : own_NE ca_35 de_35 := mN
                    have q_97 : own_NE de_35 xa_35 := mN
                    have q_98 : de_35 ∉ [xa_35, ca_35] := nT q_97 (nT (uS q_96) nin0)
                    have fc158 := (fj44_16.keep K129 q_98)
                    have Vd159 : Arv Z T129.heap de_35 kde_35 (.object s7_) (17 : Int32) [(.ref wa)] .null := fc158
                    have q_99 : own_NE ca_35 dq_35 := mN
                    have q_100 : own_NE dq_35 xa_35 := mN
                    have q_101 : dq_35 ∉ [xa_35, ca_35] := nT q_100 (nT (uS q_99) nin0)
                    have fc160 := (fj44_14.keep K129 q_101)
                    have Ft161 : f35_ Z T129.heap dq_35 v1_ := fc160
                    have hxl : xn = (0 : Int32) := by rw [hj135]; decide
                    subst hxl
                    refine o_aL X143 hx hby at_434 rfl rfl ?_
                    have fc162 := (fj44_1.keep K129 q_77)
                    have fc163 := (fj44_5.keep K129 q_77)
                    have fc164 := (fj44_6.keep K129)
                    have q_102 : own_NE ca_35 un_35 := mN
                    have q_103 : own_NE un_35 xa_35 := mN
                    have q_104 : un_35 ∉ [xa_35, ca_35] := nT q_103 (nT (uS q_102) nin0)
                    have fc165 := (fj44_7.keep K129 q_104)
                    have q_105 : own_NE ca_35 hl_35 := mN
                    have q_106 : own_NE hl_35 xa_35 := mN
                    have q_107 : hl_35 ∉ [xa_35, ca_35] := nT q_106 (nT (uS q_105) nin0)
                    have fc166 := (fj44_8.keep K129 q_107)
                    have fc167 := (fj44_12.keep K129)
                    have fc168 := (fj44_13.keep K129 q_101)
                    have fc169 := (fj44_15.keep K129 q_101)
                    obtain ⟨cq170, kq170, q170a, q170b, q170c⟩ := isOf hZ10 K143 fc139
                    refine o_k 3 (X143.virtualBack hx (y := y60_) (z := y60_) ho10 (mvT hZ10 (w_ hw 404 rfl)) (mvT hZ10 (w_ hw 405 rfl)) (notFace_of_selects (args := #[]) (mvT hZ10 (w_ hw 407 rfl))) (mvT hZ10 (w_ hw 407 rfl)) (mvT hZ10 (w_ hw 406 rfl)) (by decide) (bk 0 hZ10 hw 408 175 (rm_nx0_01 l Z a0 hw [] ob33 un_35 hl_35 khl_35 xa_35 kxa_35 dq_35 de_35 kde_35 wa T129.heap n0 O137 fc162 fc136 fc163 fc164 fc165 fc166 g129_0 fc167 fc168 Ft161 fc169 Vd159 q_5 (by simp only [own_asc, and_true]; omega) hba)) q170a q170c (g := (mkF m 436 #[.val (.int su), .val (.int wh), .val (.int dn), .val (.int li), .val (.int ax), .val v0_, .val v1_, .val (.int pa), .val (.int pb), .val (.int dl), .val (.int lm), .val v1_, .val (.int cm), .val (.ref ob9), .val (.ref ob26), .val (.ref ob33), .val v0_, .val v1_, .val (.int za), .val (.int zb), .val v0_, .val v1_, .val (.int pa), .val (.int yd), .val v0_] [(.ref ob33)])) rfl (by rw [hml]; rfl) (Steps.refl _) (argsL := []) (rest := []) (lenOf pd11_ rfl) rfl own_z (hb hby at_436) (o4 K143 346 0 2312 0)) fun T170 Lc170 _ X170 hQ170 => ?_
                    obtain ⟨rfl, M170, K170⟩ := hQ170
                    have N170 := Fr.app N143 M170
                    have z170 := K170.1
                    refine o_iL X170 hx hby at_439 rfl ?_
                    refine ob_ (fun _ k => XS.icmpNo X170.here hx rfl (hb hby at_441) rfl (teq hj132).2 k) ?_
                    refine o_ic X170 hx hby at_444 ?_
                    refine ob_ (fun _ k => XS.goto X170.here hx rfl (pc0 := 445) (pc' := 449) rfl (hb hby at_445) (by decide) (by decide) k) ?_
                    have q_108 : own_LE h0.size ca_35 := mL
                    have q_109 : own_LE h0.size xa_35 := mL
                    have q_110 : own_LE h0.size de_35 := mL
                    have q_111 : own_LE h0.size dq_35 := mL
                    have K171 : Keep h0 T170.heap [] := ((((Keep.refl h0 []).trans Kj44 all0).trans K129 (kR (kR all0 q_108) q_109)).trans K170 (kR (kR all0 q_110) q_111))
                    obtain ⟨fs, hr, hrun, hended, hW⟩ := X170.leaveW S10 (by first | omega | (rw [e0]; omega)) (v := some v1_) (fun h => by rw [Bd.returns] at h; cases h)
                    refine ⟨_, _, retN X170 hx (t := .boolean) Bd.returns (by simp) (hb hby at_449) hr, hrun, hended, _, _, rfl, ?_, ⟨_, rfl⟩, hW.2.1, hW.2.2.1, hW.2.2.2.mono (by decide) (by decide)⟩
                    show Q_rm_law Z su wh dn dce kce el ele kele ci cci mr h0 n0 _ T170.heap _
                    exact ⟨rfl, N170, K171⟩
                  ·
                   rcases heb with rfl | rfl
                   ·
                    obtain ⟨rfl, rfl⟩ := own_w0_1 hw0
                    obtain ⟨rfl, wb, rfl, hbb⟩ := own_w1_0 hw1
                    have q_112 : own_NE ca_35 de_35 := mN
                    have q_113 : own_NE de_35 xa_35 := mN
                    have q_114 : de_35 ∉ [xa_35, ca_35] := nT q_113 (nT (uS q_112) nin0)
                    have fc172 := (fj44_16.keep K129 q_114)
                    have Vd173 : Arv Z T129.heap de_35 kde_35 (.object s7_) (17 : Int32) [(.ref wb)] .null := fc172
                    have q_115 : own_NE ca_35 dq_35 := mN
                    have q_116 : own_NE dq_35 xa_35 := mN
                    have q_117 : dq_35 ∉ [xa_35, ca_35] := nT q_116 (nT (uS q_115) nin0)
                    have fc174 := (fj44_14.keep K129 q_117)
                    have Ft175 : f35_ Z T129.heap dq_35 v1_ := fc174
                    have hxl : xn = (-1 : Int32) := by rw [hj135]; decide
                    subst hxl
                    refine o_aL X143 hx hby at_434 rfl rfl ?_
                    have fc176 := (fj44_1.keep K129 q_77)
                    have fc177 := (fj44_5.keep K129 q_77)
                    have fc178 := (fj44_6.keep K129)
                    have q_118 : own_NE ca_35 un_35 := mN
                    have q_119 : own_NE un_35 xa_35 := mN
                    have q_120 : un_35 ∉ [xa_35, ca_35] := nT q_119 (nT (uS q_118) nin0)
                    have fc179 := (fj44_7.keep K129 q_120)
                    have q_121 : own_NE ca_35 hl_35 := mN
                    have q_122 : own_NE hl_35 xa_35 := mN
                    have q_123 : hl_35 ∉ [xa_35, ca_35] := nT q_122 (nT (uS q_121) nin0)
                    have fc180 := (fj44_8.keep K129 q_123)
                    have fc181 := (fj44_12.keep K129)
                    have fc182 := (fj44_13.keep K129 q_117)
                    have fc183 := (fj44_15.keep K129 q_117)
                    obtain ⟨cq184, kq184, q184a, q184b, q184c⟩ := isOf hZ10 K143 fc139
                    refine o_k 3 (X143.virtualBack hx (y := y60_) (z := y60_) ho10 (mvT hZ10 (w_ hw 404 rfl)) (mvT hZ10 (w_ hw 405 rfl)) (notFace_of_selects (args := #[]) (mvT hZ10 (w_ hw 407 rfl))) (mvT hZ10 (w_ hw 407 rfl)) (mvT hZ10 (w_ hw 406 rfl)) (by decide) (bk 0 hZ10 hw 408 175 (rm_nx1_11 l Z a0 hw [] ob33 un_35 hl_35 khl_35 xa_35 kxa_35 dq_35 de_35 kde_35 wb T129.heap n0 O137 fc176 fc136 fc177 fc178 fc179 fc180 g129_0 fc181 fc182 Ft175 fc183 Vd173 q_5 (by simp only [own_asc, and_true]; omega) hbb)) q184a q184c (g := (mkF m 436 #[.val (.int su), .val (.int wh), .val (.int dn), .val (.int li), .val (.int ax), .val v1_, .val v0_, .val (.int pa), .val (.int pb), .val (.int dl), .val (.int lm), .val v1_, .val (.int cm), .val (.ref ob9), .val (.ref ob26), .val (.ref ob33), .val v0_, .val v1_, .val (.int za), .val (.int zb), .val v1_, .val v1_, .val (.int pa), .val (.int yd), .val (.int (-1 : Int32))] [(.ref ob33)])) rfl (by rw [hml]; rfl) (Steps.refl _) (argsL := []) (rest := []) (lenOf pd11_ rfl) rfl own_z (hb hby at_436) (o4 K143 346 0 2312 0)) fun T184 Lc184 _ X184 hQ184 => ?_
                    obtain ⟨rfl, M184, K184⟩ := hQ184
                    have N184 := Fr.app N143 M184
                    have z184 := K184.1
                    refine o_iL X184 hx hby at_439 rfl ?_
                    refine ob_ (fun _ k => XS.icmpNo X184.here hx rfl (hb hby at_441) rfl (teq (by decide : (-1 : Int32) = (-1 : Int32))).2 k) ?_
                    refine o_ic X184 hx hby at_444 ?_
                    refine ob_ (fun _ k => XS.goto X184.here hx rfl (pc0 := 445) (pc' := 449) rfl (hb hby at_445) (by decide) (by decide) k) ?_
                    have q_124 : own_LE h0.size ca_35 := mL
                    have q_125 : own_LE h0.size xa_35 := mL
                    have q_126 : own_LE h0.size de_35 := mL
                    have q_127 : own_LE h0.size dq_35 := mL
                    have K185 : Keep h0 T184.heap [] := ((((Keep.refl h0 []).trans Kj44 all0).trans K129 (kR (kR all0 q_124) q_125)).trans K184 (kR (kR all0 q_126) q_127))
                    obtain ⟨fs, hr, hrun, hended, hW⟩ := X184.leaveW S10 (by first | omega | (rw [e0]; omega)) (v := some v1_) (fun h => by rw [Bd.returns] at h; cases h)
                    refine ⟨_, _, retN X184 hx (t := .boolean) Bd.returns (by simp) (hb hby at_449) hr, hrun, hended, _, _, rfl, ?_, ⟨_, rfl⟩, hW.2.1, hW.2.2.1, hW.2.2.2.mono (by decide) (by decide)⟩
                    show Q_rm_law Z su wh dn dce kce el ele kele ci cci mr h0 n0 _ T184.heap _
                    exact ⟨rfl, N184, K185⟩
                   ·
                    obtain ⟨rfl, rfl⟩ := own_w0_1 hw0
                    obtain ⟨rfl, rfl⟩ := own_w1_1 hw1
                    have q_128 : own_NE ca_35 de_35 := mN
                    have q_129 : own_NE de_35 xa_35 := mN
                    have q_130 : de_35 ∉ [xa_35, ca_35] := nT q_129 (nT (uS q_128) nin0)
                    have fc186 := (fj44_16.keep K129 q_130)
                    have Vd187 : Arv Z T129.heap de_35 kde_35 (.object s7_) (17 : Int32) [] .null := fc186
                    have q_131 : own_NE ca_35 dq_35 := mN
                    have q_132 : own_NE dq_35 xa_35 := mN
                    have q_133 : dq_35 ∉ [xa_35, ca_35] := nT q_132 (nT (uS q_131) nin0)
                    have fc188 := (fj44_14.keep K129 q_133)
                    have Ft189 : f35_ Z T129.heap dq_35 v0_ := fc188
                    have hxl : xn = (-1 : Int32) := by rw [hj135]; decide
                    subst hxl
                    refine o_aL X143 hx hby at_434 rfl rfl ?_
                    have fc190 := (fj44_1.keep K129 q_77)
                    have fc191 := (fj44_5.keep K129 q_77)
                    have fc192 := (fj44_6.keep K129)
                    have q_134 : own_NE ca_35 un_35 := mN
                    have q_135 : own_NE un_35 xa_35 := mN
                    have q_136 : un_35 ∉ [xa_35, ca_35] := nT q_135 (nT (uS q_134) nin0)
                    have fc193 := (fj44_7.keep K129 q_136)
                    have q_137 : own_NE ca_35 hl_35 := mN
                    have q_138 : own_NE hl_35 xa_35 := mN
                    have q_139 : hl_35 ∉ [xa_35, ca_35] := nT q_138 (nT (uS q_137) nin0)
                    have fc194 := (fj44_8.keep K129 q_139)
                    have fc195 := (fj44_12.keep K129)
                    have fc196 := (fj44_13.keep K129 q_133)
                    have fc197 := (fj44_15.keep K129 q_133)
                    obtain ⟨cq198, kq198, q198a, q198b, q198c⟩ := isOf hZ10 K143 fc139
                    refine o_k 3 (X143.virtualBack hx (y := y60_) (z := y60_) ho10 (mvT hZ10 (w_ hw 404 rfl)) (mvT hZ10 (w_ hw 405 rfl)) (notFace_of_selects (args := #[]) (mvT hZ10 (w_ hw 407 rfl))) (mvT hZ10 (w_ hw 407 rfl)) (mvT hZ10 (w_ hw 406 rfl)) (by decide) (bk 0 hZ10 hw 408 175 (rm_nx_11 l Z a0 hw [] ob33 un_35 hl_35 khl_35 xa_35 kxa_35 dq_35 de_35 kde_35 T129.heap n0 O137 fc190 fc136 fc191 fc192 fc193 fc194 g129_0 fc195 fc196 Ft189 fc197 Vd187 q_5 (by simp only [own_asc, and_true]; omega))) q198a q198c (g := (mkF m 436 #[.val (.int su), .val (.int wh), .val (.int dn), .val (.int li), .val (.int ax), .val v1_, .val v1_, .val (.int pa), .val (.int pb), .val (.int dl), .val (.int lm), .val v1_, .val (.int cm), .val (.ref ob9), .val (.ref ob26), .val (.ref ob33), .val v0_, .val v1_, .val (.int za), .val (.int zb), .val v1_, .val v1_, .val (.int pa), .val (.int yd), .val (.int (-1 : Int32))] [(.ref ob33)])) rfl (by rw [hml]; rfl) (Steps.refl _) (argsL := []) (rest := []) (lenOf pd11_ rfl) rfl own_z (hb hby at_436) (o4 K143 346 0 2312 0)) fun T198 Lc198 _ X198 hQ198 => ?_
                    obtain ⟨rfl, M198, K198⟩ := hQ198
                    have N198 := Fr.app N143 M198
                    have z198 := K198.1
                    refine o_iL X198 hx hby at_439 rfl ?_
                    refine ob_ (fun _ k => XS.icmpNo X198.here hx rfl (hb hby at_441) rfl (teq (by decide : (-1 : Int32) = (-1 : Int32))).2 k) ?_
                    refine o_ic X198 hx hby at_444 ?_
                    refine ob_ (fun _ k => XS.goto X198.here hx rfl (pc0 := 445) (pc' := 449) rfl (hb hby at_445) (by decide) (by decide) k) ?_
                    have q_140 : own_LE h0.size ca_35 := mL
                    have q_141 : own_LE h0.size xa_35 := mL
                    have q_142 : own_LE h0.size de_35 := mL
                    have q_143 : own_LE h0.size dq_35 := mL
                    have K199 : Keep h0 T198.heap [] := ((((Keep.refl h0 []).trans Kj44 all0).trans K129 (kR (kR all0 q_140) q_141)).trans K198 (kR (kR all0 q_142) q_143))
                    obtain ⟨fs, hr, hrun, hended, hW⟩ := X198.leaveW S10 (by first | omega | (rw [e0]; omega)) (v := some v1_) (fun h => by rw [Bd.returns] at h; cases h)
                    refine ⟨_, _, retN X198 hx (t := .boolean) Bd.returns (by simp) (hb hby at_449) hr, hrun, hended, _, _, rfl, ?_, ⟨_, rfl⟩, hW.2.1, hW.2.2.1, hW.2.2.2.mono (by decide) (by decide)⟩
                    show Q_rm_law Z su wh dn dce kce el ele kele ci cci mr h0 n0 _ T198.heap _
                    exact ⟨rfl, N198, K199⟩
                 by_cases hc200 : ea = (0 : Int32)
                 ·
                  refine ob_ (fun _ k => XS.ifNo Xj134.here hx rfl (hb hby at_371) rfl ((if0 _ _).trans (teq hc200).2) k) ?_
                  refine o_ic Xj134 hx hby at_374 ?_
                  refine ob_ (fun _ k => XS.goto Xj134.here hx rfl (pc0 := 375) (pc' := 388) rfl (hb hby at_375) (by decide) (by decide) k) ?_
                  exact jn135 _ ⟨_, Xj134, Nj134⟩ ej134 (0 : Int32) (by first | exact own_nx_0 (by assumption) | exact own_nx_1 (by assumption) (by assumption) | exact own_nx_2 (by assumption) (by assumption) | decide | exact own_nx_1 (by decide) (by assumption) | exact own_nx_2 (by decide) (by assumption) | exact own_nx_0 (by decide) | exact own_nx_1 (by assumption) (by decide) | exact own_nx_2 (by assumption) (by decide))
                 ·
                  refine ob_ (fun _ k => XS.ifYes Xj134.here hx rfl (pc0 := 371) (pc' := 378) rfl (hb hby at_371) rfl ((if0 _ _).trans (feq hc200).2) (by decide) (by decide) k) ?_
                  refine o_iL Xj134 hx hby at_378 rfl ?_
                  refine ob_ (fun _ k => XS.ifYes Xj134.here hx rfl (pc0 := 380) (pc' := 387) rfl (hb hby at_380) rfl ((if0 _ _).trans (feq (by decide : ¬ ((1 : Int32) = (0 : Int32)))).2) (by decide) (by decide) k) ?_
                  refine o_ic Xj134 hx hby at_387 ?_
                  exact jn135 _ ⟨_, Xj134, Nj134⟩ ej134 (-1 : Int32) (by first | exact own_nx_0 (by assumption) | exact own_nx_1 (by assumption) (by assumption) | exact own_nx_2 (by assumption) (by assumption) | decide | exact own_nx_1 (by decide) (by assumption) | exact own_nx_2 (by decide) (by assumption) | exact own_nx_0 (by decide) | exact own_nx_1 (by assumption) (by decide) | exact own_nx_2 (by assumption) (by decide))
                refine o_iL Xj133 hx hby at_347 rfl ?_
                by_cases hc201 : cm = (0 : Int32)
                ·
                 refine ob_ (fun _ k => XS.ifYes Xj133.here hx rfl (pc0 := 349) (pc' := 361) rfl (hb hby at_349) rfl ((if0 _ _).trans (teq hc201).1) (by decide) (by decide) k) ?_
                 refine o_ic Xj133 hx hby at_361 ?_
                 refine ob_ (fun _ k => XS.goto Xj133.here hx rfl (pc0 := 362) (pc' := 367) rfl (hb hby at_362) (by decide) (by decide) k) ?_
                 exact jn134 _ ⟨_, Xj133, Nj133⟩ ej133 (0 : Int32) (by first | exact own_fin_z (by assumption) | exact own_fin_l (by assumption) | exact own_fin_1 (by assumption) (by assumption))
                ·
                 refine ob_ (fun _ k => XS.ifNo Xj133.here hx rfl (hb hby at_349) rfl ((if0 _ _).trans (feq hc201).1) k) ?_
                 refine o_iL Xj133 hx hby at_352 rfl ?_
                 by_cases hc202 : zb = (0 : Int32)
                 ·
                  refine ob_ (fun _ k => XS.ifNo Xj133.here hx rfl (hb hby at_354) rfl ((if0 _ _).trans (teq hc202).2) k) ?_
                  refine o_ic Xj133 hx hby at_357 ?_
                  refine ob_ (fun _ k => XS.goto Xj133.here hx rfl (pc0 := 358) (pc' := 367) rfl (hb hby at_358) (by decide) (by decide) k) ?_
                  exact jn134 _ ⟨_, Xj133, Nj133⟩ ej133 (1 : Int32) (by first | exact own_fin_z (by assumption) | exact own_fin_l (by assumption) | exact own_fin_1 (by assumption) (by assumption))
                 ·
                  refine ob_ (fun _ k => XS.ifYes Xj133.here hx rfl (pc0 := 354) (pc' := 361) rfl (hb hby at_354) rfl ((if0 _ _).trans (feq hc202).2) (by decide) (by decide) k) ?_
                  refine o_ic Xj133 hx hby at_361 ?_
                  refine ob_ (fun _ k => XS.goto Xj133.here hx rfl (pc0 := 362) (pc' := 367) rfl (hb hby at_362) (by decide) (by decide) k) ?_
                  exact jn134 _ ⟨_, Xj133, Nj133⟩ ej133 (0 : Int32) (by first | exact own_fin_z (by assumption) | exact own_fin_l (by assumption) | exact own_fin_1 (by assumption) (by assumption))
               by_cases hc203 : eb = (0 : Int32)
               ·
                refine ob_ (fun _ k => XS.ifNo Xj132.here hx rfl (hb hby at_298) rfl ((if0 _ _).trans (teq hc203).2) k) ?_
                refine o_iL Xj132 hx hby at_301 rfl ?_
                refine o_ic Xj132 hx hby at_303 ?_
                refine ob_ (fun _ k => XS.icmpNo Xj132.here hx rfl (hb hby at_304) rfl (teq (by decide : (1 : Int32) = (1 : Int32))).2 k) ?_
                refine o_ic Xj132 hx hby at_307 ?_
                refine ob_ (fun _ k => XS.goto Xj132.here hx rfl (pc0 := 308) (pc' := 312) rfl (hb hby at_308) (by decide) (by decide) k) ?_
                exact jn133 _ ⟨_, Xj132, Nj132⟩ ej132 (1 : Int32) rfl
               ·
                refine ob_ (fun _ k => XS.ifYes Xj132.here hx rfl (pc0 := 298) (pc' := 307) rfl (hb hby at_298) rfl ((if0 _ _).trans (feq hc203).2) (by decide) (by decide) k) ?_
                refine o_ic Xj132 hx hby at_307 ?_
                refine ob_ (fun _ k => XS.goto Xj132.here hx rfl (pc0 := 308) (pc' := 312) rfl (hb hby at_308) (by decide) (by decide) k) ?_
                exact jn133 _ ⟨_, Xj132, Nj132⟩ ej132 (1 : Int32) rfl
              by_cases hc204 : ea = (0 : Int32)
              ·
               refine ob_ (fun _ k => XS.ifNo Xj131.here hx rfl (hb hby at_281) rfl ((if0 _ _).trans (teq hc204).2) k) ?_
               refine o_iL Xj131 hx hby at_284 rfl ?_
               refine ob_ (fun _ k => XS.ifYes Xj131.here hx rfl (pc0 := 286) (pc' := 293) rfl (hb hby at_286) rfl ((if0 _ _).trans (feq (by decide : ¬ ((1 : Int32) = (0 : Int32)))).2) (by decide) (by decide) k) ?_
               show own_Go p e below (Tj131.setTop (mkF m 293 #[.val (.int su), .val (.int wh), .val (.int dn), .val (.int li), .val (.int ax), .val (.int ea), .val (.int eb), .val (.int pa), .val (.int pb), .val (.int dl), .val (.int lm), .val v1_, .val (.int cm), .val (.ref ob9), .val (.ref ob26), .val (.ref ob33), .val v0_, .val v1_, .val (.int za), .val (.int zb), .unset, .unset, .unset, .unset, .unset] [])) _
               refine o_ic Xj131 hx hby at_293 ?_
               exact jn132 _ ⟨_, Xj131, Nj131⟩ ej131 (0 : Int32) (by first | exact (by assumption : ea = (0 : Int32)).symm | exact (own_b1 hj3 (by assumption)).symm)
              ·
               refine ob_ (fun _ k => XS.ifYes Xj131.here hx rfl (pc0 := 281) (pc' := 289) rfl (hb hby at_281) rfl ((if0 _ _).trans (feq hc204).2) (by decide) (by decide) k) ?_
               refine o_ic Xj131 hx hby at_289 ?_
               refine ob_ (fun _ k => XS.goto Xj131.here hx rfl (pc0 := 290) (pc' := 294) rfl (hb hby at_290) (by decide) (by decide) k) ?_
               show own_Go p e below (Tj131.setTop (mkF m 294 #[.val (.int su), .val (.int wh), .val (.int dn), .val (.int li), .val (.int ax), .val (.int ea), .val (.int eb), .val (.int pa), .val (.int pb), .val (.int dl), .val (.int lm), .val v1_, .val (.int cm), .val (.ref ob9), .val (.ref ob26), .val (.ref ob33), .val v0_, .val v1_, .val (.int za), .val (.int zb), .unset, .unset, .unset, .unset, .unset] [v1_])) _
               exact jn132 _ ⟨_, Xj131, Nj131⟩ ej131 (1 : Int32) (by first | exact (by assumption : ea = (0 : Int32)).symm | exact (own_b1 hj3 (by assumption)).symm)
             by_cases hc205 : li = (0 : Int32)
             ·
              refine ob_ (fun _ k => XS.ifYes Xj130.here hx rfl (pc0 := 258) (pc' := 276) rfl (hb hby at_258) rfl ((if0 _ _).trans (teq hc205).1) (by decide) (by decide) k) ?_
              refine o_ic Xj130 hx hby at_276 ?_
              exact jn131 _ ⟨_, Xj130, Nj130⟩ ej130 (0 : Int32) (by rw [pj44_1]; first | exact own_l1_li (by assumption) | exact own_l1_z (by assumption) | exact own_l1_n h_lm (by assumption) | exact own_l1_1 hj1 (by assumption) (by assumption) (by assumption))
             ·
              refine ob_ (fun _ k => XS.ifNo Xj130.here hx rfl (hb hby at_258) rfl ((if0 _ _).trans (feq hc205).1) k) ?_
              refine o_iL Xj130 hx hby at_261 rfl ?_
              by_cases hc206 : dl = (0 : Int32)
              ·
               refine ob_ (fun _ k => XS.ifYes Xj130.here hx rfl (pc0 := 263) (pc' := 276) rfl (hb hby at_263) rfl ((if0 _ _).trans (teq hc206).1) (by decide) (by decide) k) ?_
               refine o_ic Xj130 hx hby at_276 ?_
               exact jn131 _ ⟨_, Xj130, Nj130⟩ ej130 (0 : Int32) (by rw [pj44_1]; first | exact own_l1_li (by assumption) | exact own_l1_z (by assumption) | exact own_l1_n h_lm (by assumption) | exact own_l1_1 hj1 (by assumption) (by assumption) (by assumption))
              ·
               refine ob_ (fun _ k => XS.ifNo Xj130.here hx rfl (hb hby at_263) rfl ((if0 _ _).trans (feq hc206).1) k) ?_
               refine o_iL Xj130 hx hby at_266 rfl ?_
               refine o_ic Xj130 hx hby at_268 ?_
               by_cases hc207 : lm = (1 : Int32)
               ·
                refine ob_ (fun _ k => XS.icmpNo Xj130.here hx rfl (hb hby at_269) rfl (teq hc207).2 k) ?_
                show own_Go p e below (Tj130.setTop (mkF m 272 #[.val (.int su), .val (.int wh), .val (.int dn), .val (.int li), .val (.int ax), .val (.int ea), .val (.int eb), .val (.int pa), .val (.int pb), .val (.int dl), .val (.int lm), .val v1_, .val (.int cm), .val (.ref ob9), .val (.ref ob26), .val (.ref ob33), .val v0_, .val v1_, .val (.int za), .unset, .unset, .unset, .unset, .unset, .unset] [])) _
                refine o_ic Xj130 hx hby at_272 ?_
                refine ob_ (fun _ k => XS.goto Xj130.here hx rfl (pc0 := 273) (pc' := 277) rfl (hb hby at_273) (by decide) (by decide) k) ?_
                exact jn131 _ ⟨_, Xj130, Nj130⟩ ej130 (1 : Int32) (by rw [pj44_1]; first | exact own_l1_li (by assumption) | exact own_l1_z (by assumption) | exact own_l1_n h_lm (by assumption) | exact own_l1_1 hj1 (by assumption) (by assumption) (by assumption))
               ·
                refine ob_ (fun _ k => XS.icmpYes Xj130.here hx rfl (pc0 := 269) (pc' := 276) rfl (hb hby at_269) rfl (feq hc207).2 (by decide) (by decide) k) ?_
                show own_Go p e below (Tj130.setTop (mkF m 276 #[.val (.int su), .val (.int wh), .val (.int dn), .val (.int li), .val (.int ax), .val (.int ea), .val (.int eb), .val (.int pa), .val (.int pb), .val (.int dl), .val (.int lm), .val v1_, .val (.int cm), .val (.ref ob9), .val (.ref ob26), .val (.ref ob33), .val v0_, .val v1_, .val (.int za), .unset, .unset, .unset, .unset, .unset, .unset] [])) _
                refine o_ic Xj130 hx hby at_276 ?_
                exact jn131 _ ⟨_, Xj130, Nj130⟩ ej130 (0 : Int32) (by rw [pj44_1]; first | exact own_l1_li (by assumption) | exact own_l1_z (by assumption) | exact own_l1_n h_lm (by assumption) | exact own_l1_1 hj1 (by assumption) (by assumption) (by assumption))
            by_cases hc208 : li = (0 : Int32)
            ·
             refine ob_ (fun _ k => XS.ifYes X129.here hx rfl (pc0 := 237) (pc' := 254) rfl (hb hby at_237) rfl ((if0 _ _).trans (teq hc208).1) (by decide) (by decide) k) ?_
             refine o_ic X129 hx hby at_254 ?_
             exact jn130 _ ⟨_, X129, N129⟩ rfl (0 : Int32) (by rw [pj44_0]; first | exact own_l0_li (by assumption) | exact own_l0_z (by assumption) | exact own_l0_n (by assumption) | exact own_l0_1 hj1 (by assumption) (by assumption) (by assumption))
            ·
             refine ob_ (fun _ k => XS.ifNo X129.here hx rfl (hb hby at_237) rfl ((if0 _ _).trans (feq hc208).1) k) ?_
             refine o_iL X129 hx hby at_240 rfl ?_
             by_cases hc209 : dl = (0 : Int32)
             ·
              refine ob_ (fun _ k => XS.ifYes X129.here hx rfl (pc0 := 242) (pc' := 254) rfl (hb hby at_242) rfl ((if0 _ _).trans (teq hc209).1) (by decide) (by decide) k) ?_
              refine o_ic X129 hx hby at_254 ?_
              exact jn130 _ ⟨_, X129, N129⟩ rfl (0 : Int32) (by rw [pj44_0]; first | exact own_l0_li (by assumption) | exact own_l0_z (by assumption) | exact own_l0_n (by assumption) | exact own_l0_1 hj1 (by assumption) (by assumption) (by assumption))
             ·
              refine ob_ (fun _ k => XS.ifNo X129.here hx rfl (hb hby at_242) rfl ((if0 _ _).trans (feq hc209).1) k) ?_
              refine o_iL X129 hx hby at_245 rfl ?_
              by_cases hc210 : lm = (0 : Int32)
              ·
               refine ob_ (fun _ k => XS.ifNo X129.here hx rfl (hb hby at_247) rfl ((if0 _ _).trans (teq hc210).2) k) ?_
               refine o_ic X129 hx hby at_250 ?_
               refine ob_ (fun _ k => XS.goto X129.here hx rfl (pc0 := 251) (pc' := 255) rfl (hb hby at_251) (by decide) (by decide) k) ?_
               exact jn130 _ ⟨_, X129, N129⟩ rfl (1 : Int32) (by rw [pj44_0]; first | exact own_l0_li (by assumption) | exact own_l0_z (by assumption) | exact own_l0_n (by assumption) | exact own_l0_1 hj1 (by assumption) (by assumption) (by assumption))
              ·
               refine ob_ (fun _ k => XS.ifYes X129.here hx rfl (pc0 := 247) (pc' := 254) rfl (hb hby at_247) rfl ((if0 _ _).trans (feq hc210).2) (by decide) (by decide) k) ?_
               refine o_ic X129 hx hby at_254 ?_
               exact jn130 _ ⟨_, X129, N129⟩ rfl (0 : Int32) (by rw [pj44_0]; first | exact own_l0_li (by assumption) | exact own_l0_z (by assumption) | exact own_l0_n (by assumption) | exact own_l0_1 hj1 (by assumption) (by assumption) (by assumption))
          refine o_iL Xj42 hx hby at_213 rfl ?_
          by_cases hc211 : dl = (0 : Int32)
          ·
           refine ob_ (fun _ k => XS.ifYes Xj42.here hx rfl (pc0 := 215) (pc' := 227) rfl (hb hby at_215) rfl ((if0 _ _).trans (teq hc211).1) (by decide) (by decide) k) ?_
           have K212 : Keep h0 Hj42 [] := ((Keep.refl h0 []).trans Kj42 all0)
           exact jn44 _ _ ⟨_, Xj42, Nj42⟩ ej42 (0 : Int32) (0 : Int32) K212 fj42_0 fj42_2 fj42_3 fj42_4 fj42_5 fj42_6 fj42_7 fj42_8 fj42_9 fj42_10 fj42_11 Vw43 fj42_13 fj42_14 fj42_15 fj42_16 fj42_17 (by first | exact own_l0_z (by assumption) | exact own_l0_p (by assumption) | exact own_l0_q (by assumption)) (by first | exact own_l1_z (by assumption) | exact own_l1_p (by assumption) | exact own_l1_q (by assumption))
          ·
           refine ob_ (fun _ k => XS.ifNo Xj42.here hx rfl (hb hby at_215) rfl ((if0 _ _).trans (feq hc211).1) k) ?_
           refine o_aL Xj42 hx hby at_218 rfl rfl ?_
           refine o_iL Xj42 hx hby at_220 rfl ?_
           refine o_ic Xj42 hx hby at_222 ?_
           refine ob_ (fun _ k => XS.aconstNull Xj42.here hx rfl (hb hby at_223) k) ?_
           rcases h_lm with rfl | rfl
           ·
            have O213 : Old Z n0 Hj42 := (O0.keep Kj42 all0)
            obtain ⟨cq214, kq214, q214a, q214b, q214c⟩ := isOf hZ10 ej42 fj42_0
            refine o_k 3 (Xj42.virtualBack hx (y := y56_) (z := y56_) ho10 (mvT hZ10 (w_ hw 457 rfl)) (mvT hZ10 (w_ hw 458 rfl)) (notFace_of_selects (args := #[]) (mvT hZ10 (w_ hw 460 rfl))) (mvT hZ10 (w_ hw 460 rfl)) (mvT hZ10 (w_ hw 459 rfl)) (by decide) (bk 0 hZ10 hw 461 175 (rm_lk0 l Z a0 hw [] ob33 lo_35 klo_35 li Hj42 n0 O213 fj42_1 fj42_5 Vw43 q_5 (by simp only [own_asc, and_true]; omega) hj1)) q214a q214c (g := (mkF m 224 #[.val (.int su), .val (.int wh), .val (.int dn), .val (.int li), .val (.int ax), .val (.int ea), .val (.int eb), .val (.int pa), .val (.int pb), .val (.int dl), .val v0_, .val (.int ix), .val (.int cm), .val (.ref ob9), .val (.ref ob26), .val (.ref ob33), .val v0_, .val v1_, .unset, .unset, .unset, .unset, .unset, .unset, .unset] [.null, (.int (-1 : Int32)), v0_, (.ref ob33)])) rfl (by rw [hml]; rfl) (Steps.refl _) (argsL := [v0_, (.int (-1 : Int32)), .null]) (rest := []) (lenOf pd34_ rfl) rfl own_z (hb hby at_224) (o4 ej42 346 0 2312 0)) fun T214 Lc214 _ X214 hQ214 => ?_
            obtain ⟨rfl, M214, K214, g214_0⟩ := hQ214
            have N214 := Fr.app Nj42 M214
            have z214 := K214.1
            have lt_g214_0 := vG g214_0
            have fc215 := (fj42_0.keep K214)
            have q_144 : own_NE lo_35 ob33 := mN
            have fc216 := (fj42_2.keep K214 (nT (uS q_144) nin0))
            have fc217 := (fj42_3.keep K214 (nT (uS q_144) nin0))
            have fc218 := (fj42_4.keep K214 (nT (uS q_144) nin0))
            have fc219 := (fj42_5.keep K214 (nT (uS q_144) nin0))
            have fc220 := (fj42_6.keep K214 (nT (uS q_144) nin0))
            have fc221 := (fj42_7.keep K214)
            have q_145 : own_NE lo_35 un_35 := mN
            have fc222 := (fj42_8.keep K214 (nT (uS q_145) nin0))
            have q_146 : own_NE hl_35 lo_35 := mN
            have fc223 := (fj42_9.keep K214 (nT q_146 nin0))
            have q_147 : own_NE lo_35 xa_35 := mN
            have fc224 := (fj42_10.keep K214 (nT (uS q_147) nin0))
            have q_148 : own_NE ca_35 lo_35 := mN
            have fc225 := (fj42_11.keep K214 (nT q_148 nin0))
            have fc226 := (fj42_13.keep K214)
            have q_149 : own_NE dq_35 lo_35 := mN
            have fc227 := (fj42_14.keep K214 (nT q_149 nin0))
            have fc228 := (fj42_15.keep K214 (nT q_149 nin0))
            have fc229 := (fj42_16.keep K214 (nT q_149 nin0))
            have q_150 : own_NE de_35 lo_35 := mN
            have fc230 := (fj42_17.keep K214 (nT q_150 nin0))
            have q_151 : own_LE h0.size lo_35 := mL
            have K231 : Keep h0 T214.heap [] := (((Keep.refl h0 []).trans Kj42 all0).trans K214 (kR all0 q_151))
            exact jn44 _ _ ⟨_, X214, N214⟩ rfl li (0 : Int32) K231 fc215 fc216 fc217 fc218 fc219 fc220 fc221 fc222 fc223 fc224 fc225 g214_0 fc226 fc227 fc228 fc229 fc230 (by first | exact own_l0_z (by assumption) | exact own_l0_p (by assumption) | exact own_l0_q (by assumption)) (by first | exact own_l1_z (by assumption) | exact own_l1_p (by assumption) | exact own_l1_q (by assumption))
           ·
            have O232 : Old Z n0 Hj42 := (O0.keep Kj42 all0)
            obtain ⟨cq233, kq233, q233a, q233b, q233c⟩ := isOf hZ10 ej42 fj42_0
            refine o_k 3 (Xj42.virtualBack hx (y := y56_) (z := y56_) ho10 (mvT hZ10 (w_ hw 457 rfl)) (mvT hZ10 (w_ hw 458 rfl)) (notFace_of_selects (args := #[]) (mvT hZ10 (w_ hw 460 rfl))) (mvT hZ10 (w_ hw 460 rfl)) (mvT hZ10 (w_ hw 459 rfl)) (by decide) (bk 0 hZ10 hw 461 175 (rm_lk1 l Z a0 hw [] ob33 lo_35 klo_35 li Hj42 n0 O232 fj42_1 fj42_5 Vw43 q_5 (by simp only [own_asc, and_true]; omega) hj1)) q233a q233c (g := (mkF m 224 #[.val (.int su), .val (.int wh), .val (.int dn), .val (.int li), .val (.int ax), .val (.int ea), .val (.int eb), .val (.int pa), .val (.int pb), .val (.int dl), .val v1_, .val (.int ix), .val (.int cm), .val (.ref ob9), .val (.ref ob26), .val (.ref ob33), .val v0_, .val v1_, .unset, .unset, .unset, .unset, .unset, .unset, .unset] [.null, (.int (-1 : Int32)), v1_, (.ref ob33)])) rfl (by rw [hml]; rfl) (Steps.refl _) (argsL := [v1_, (.int (-1 : Int32)), .null]) (rest := []) (lenOf pd34_ rfl) rfl own_z (hb hby at_224) (o4 ej42 346 0 2312 0)) fun T233 Lc233 _ X233 hQ233 => ?_
            obtain ⟨rfl, M233, K233, g233_0⟩ := hQ233
            have N233 := Fr.app Nj42 M233
            have z233 := K233.1
            have lt_g233_0 := vG g233_0
            have fc234 := (fj42_0.keep K233)
            have q_152 : own_NE lo_35 ob33 := mN
            have fc235 := (fj42_2.keep K233 (nT (uS q_152) nin0))
            have fc236 := (fj42_3.keep K233 (nT (uS q_152) nin0))
            have fc237 := (fj42_4.keep K233 (nT (uS q_152) nin0))
            have fc238 := (fj42_5.keep K233 (nT (uS q_152) nin0))
            have fc239 := (fj42_6.keep K233 (nT (uS q_152) nin0))
            have fc240 := (fj42_7.keep K233)
            have q_153 : own_NE lo_35 un_35 := mN
            have fc241 := (fj42_8.keep K233 (nT (uS q_153) nin0))
            have q_154 : own_NE hl_35 lo_35 := mN
            have fc242 := (fj42_9.keep K233 (nT q_154 nin0))
            have q_155 : own_NE lo_35 xa_35 := mN
            have fc243 := (fj42_10.keep K233 (nT (uS q_155) nin0))
            have q_156 : own_NE ca_35 lo_35 := mN
            have fc244 := (fj42_11.keep K233 (nT q_156 nin0))
            have fc245 := (fj42_13.keep K233)
            have q_157 : own_NE dq_35 lo_35 := mN
            have fc246 := (fj42_14.keep K233 (nT q_157 nin0))
            have fc247 := (fj42_15.keep K233 (nT q_157 nin0))
            have fc248 := (fj42_16.keep K233 (nT q_157 nin0))
            have q_158 : own_NE de_35 lo_35 := mN
            have fc249 := (fj42_17.keep K233 (nT q_158 nin0))
            have q_159 : own_LE h0.size lo_35 := mL
            have K250 : Keep h0 T233.heap [] := (((Keep.refl h0 []).trans Kj42 all0).trans K233 (kR all0 q_159))
            exact jn44 _ _ ⟨_, X233, N233⟩ rfl (0 : Int32) li K250 fc234 fc235 fc236 fc237 fc238 fc239 fc240 fc241 fc242 fc243 fc244 g233_0 fc245 fc246 fc247 fc248 fc249 (by first | exact own_l0_z (by assumption) | exact own_l0_p (by assumption) | exact own_l0_q (by assumption)) (by first | exact own_l1_z (by assumption) | exact own_l1_p (by assumption) | exact own_l1_q (by assumption))
         have hli' := hj1
         rcases hli' with rfl | rfl
         ·
          have fc251 := (g35_0.keep K41)
          have q_160 : own_NE ca_35 ob33 := mN
          have q_161 : own_NE hl_35 ob33 := mN
          have q_162 : own_NE ms_35 ob33 := mN
          have q_163 : own_NE mb_35 ob33 := mN
          have q_164 : own_NE ob33 un_35 := mN
          have q_165 : own_NE de_35 ob33 := mN
          have q_166 : own_NE dq_35 ob33 := mN
          have q_167 : own_NE dp_35 ob33 := mN
          have q_168 : own_NE dr_35 ob33 := mN
          have q_169 : own_NE ob33 sp_35 := mN
          have q_170 : own_NE ch_35 ob33 := mN
          have q_171 : own_NE ob33 xa_35 := mN
          have q_172 : ob33 ∉ [xa_35, ch_35, sp_35, dr_35, dp_35, dq_35, de_35, un_35, mb_35, ms_35, hl_35, ca_35] := nT q_171 (nT (uS q_170) (nT q_169 (nT (uS q_168) (nT (uS q_167) (nT (uS q_166) (nT (uS q_165) (nT q_164 (nT (uS q_163) (nT (uS q_162) (nT (uS q_161) (nT (uS q_160) nin0)))))))))))
          have fc252 := (g35_1.keep K41 q_172)
          have fc253 := (g35_2.keep K41 q_172)
          have fc254 := (g35_3.keep K41 q_172)
          have fc255 := (g35_5.keep K41 q_172)
          have fc256 := (g35_6.keep K41 q_172)
          have fc257 := (fc36.keep K41)
          have q_173 : own_NE ca_35 ob26 := mN
          have q_174 : own_NE hl_35 ob26 := mN
          have q_175 : own_NE ms_35 ob26 := mN
          have q_176 : own_NE mb_35 ob26 := mN
          have q_177 : own_NE ob26 un_35 := mN
          have q_178 : own_NE de_35 ob26 := mN
          have q_179 : own_NE dq_35 ob26 := mN
          have q_180 : own_NE dp_35 ob26 := mN
          have q_181 : own_NE dr_35 ob26 := mN
          have q_182 : own_NE ob26 sp_35 := mN
          have q_183 : own_NE ch_35 ob26 := mN
          have q_184 : own_NE ob26 xa_35 := mN
          have q_185 : ob26 ∉ [xa_35, ch_35, sp_35, dr_35, dp_35, dq_35, de_35, un_35, mb_35, ms_35, hl_35, ca_35] := nT q_184 (nT (uS q_183) (nT q_182 (nT (uS q_181) (nT (uS q_180) (nT (uS q_179) (nT (uS q_178) (nT q_177 (nT (uS q_176) (nT (uS q_175) (nT (uS q_174) (nT (uS q_173) nin0)))))))))))
          have fc258 := (fc37.keep K41 q_185)
          have fc259 := (fc38.keep K41)
          have q_186 : own_NE ca_35 ob9 := mN
          have q_187 : own_NE hl_35 ob9 := mN
          have q_188 : own_NE ms_35 ob9 := mN
          have q_189 : own_NE mb_35 ob9 := mN
          have q_190 : own_NE ob9 un_35 := mN
          have q_191 : own_NE de_35 ob9 := mN
          have q_192 : own_NE dq_35 ob9 := mN
          have q_193 : own_NE dp_35 ob9 := mN
          have q_194 : own_NE dr_35 ob9 := mN
          have q_195 : own_NE ob9 sp_35 := mN
          have q_196 : own_NE ch_35 ob9 := mN
          have q_197 : own_NE ob9 xa_35 := mN
          have q_198 : ob9 ∉ [xa_35, ch_35, sp_35, dr_35, dp_35, dq_35, de_35, un_35, mb_35, ms_35, hl_35, ca_35] := nT q_197 (nT (uS q_196) (nT q_195 (nT (uS q_194) (nT (uS q_193) (nT (uS q_192) (nT (uS q_191) (nT q_190 (nT (uS q_189) (nT (uS q_188) (nT (uS q_187) (nT (uS q_186) nin0)))))))))))
          have fc260 := (fc39.keep K41 q_198)
          have q_199 : own_LE n0 ca_35 := mL
          have q_200 : own_LE n0 hl_35 := mL
          have q_201 : own_LE n0 ms_35 := mL
          have q_202 : own_LE n0 mb_35 := mL
          have q_203 : own_LE n0 un_35 := mL
          have q_204 : own_LE n0 de_35 := mL
          have q_205 : own_LE n0 dq_35 := mL
          have q_206 : own_LE n0 dp_35 := mL
          have q_207 : own_LE n0 dr_35 := mL
          have q_208 : own_LE n0 sp_35 := mL
          have q_209 : own_LE n0 ch_35 := mL
          have q_210 : own_LE n0 xa_35 := mL
          have O261 : Old Z n0 T41.heap := (O40.keep K41 (allS q_210 (allS q_209 (allS q_208 (allS q_207 (allS q_206 (allS q_205 (allS q_204 (allS q_203 (allS q_202 (allS q_201 (allS q_200 (allS q_199 all0)))))))))))))
          obtain ⟨cq262, kq262, q262a, q262b, q262c⟩ := isOf hZ10 rfl fc251
          refine o_k 3 (X41.virtualBack hx (y := y54_) (z := y54_) ho10 (mvT hZ10 (w_ hw 328 rfl)) (mvT hZ10 (w_ hw 329 rfl)) (notFace_of_selects (args := #[]) (mvT hZ10 (w_ hw 331 rfl))) (mvT hZ10 (w_ hw 331 rfl)) (mvT hZ10 (w_ hw 330 rfl)) (by decide) (bk 0 hZ10 hw 332 175 (rm_rec10 l Z a0 hw [] ob33 un_35 xa_35 kxa_35 ca_35 kca_35 dq_35 de_35 kde_35 eb pb ((0 : Int32) + (1 : Int32)) mb_35 ms_35 kms_35 hl_35 khl_35 ob26 ob9 dce kce el ele kele ci cci ea pa tq_41 wq_41 oo_41 kn_41 vz_41 T41.heap n0 O261 S_DCE A_DCE E_DCE S_EL E_EL F_EL A_EL S_high S_icache Bxi fc251 fc252 fc253 fc254 fc255 fc256 g41_0 g41_1 g41_7 g41_8 g41_9 g41_10 g41_11 g41_12 g41_13 fc257 fc258 fc259 fc260 g41_2 g41_3 g41_4 g41_5 g41_6 g41_42 g41_43 g41_44 g41_45 g41_46 g41_47 g41_48 q_5 (by simp only [own_asc, and_true]; omega) r35_0 hj4 hj6 (own_w0_wl r41_0) r41_3)) q262a q262c (g := (mkF m 195 #[.val (.int su), .val (.int wh), .val (.int dn), .val v0_, .val (.int ax), .val (.int ea), .val (.int eb), .val (.int pa), .val (.int pb), .val (.int dl), .val (.int lm), .val (.int ix), .val (.int cm), .val (.ref ob9), .val (.ref ob26), .val (.ref ob33), .val v0_, .unset, .unset, .unset, .unset, .unset, .unset, .unset, .unset] [(.int pb), (.int eb), (.int (-1 : Int32)), (.ref ob26), (.ref ob33)])) rfl (by rw [hml]; rfl) (Steps.refl _) (argsL := [(.ref ob26), (.int (-1 : Int32)), (.int eb), (.int pb)]) (rest := []) (lenOf pd32_ rfl) rfl own_z (hb hby at_195) (o4 rfl 337 0 2251 0)) fun T262 Lc262 _ X262 hQ262 => ?_
          obtain ⟨tq_262, wq_262, rfl, M262, K262, g262_0, g262_1, g262_2, g262_3, g262_4, g262_5, g262_6, g262_7, g262_8, g262_9, g262_10, g262_11, g262_12, g262_13, r262_0⟩ := hQ262
          have N262 := Fr.app N41 M262
          have z262 := K262.1
          have lt_g262_0 := vG g262_0
          have lt_g262_1 := vG g262_1
          have lt_g262_2 := eG g262_2
          have lt_g262_6 := vG g262_6
          have lt_g262_7 := eG g262_7
          have lt_g262_12 := vG g262_12
          have lt_g262_13 := vG g262_13
          refine ob_ (fun _ k => XS.istore X262.here hx rfl (hb hby at_198) rfl (l' := #[.val (.int su), .val (.int wh), .val (.int dn), .val v0_, .val (.int ax), .val (.int ea), .val (.int eb), .val (.int pa), .val (.int pb), .val (.int dl), .val (.int lm), .val (.int ix), .val (.int cm), .val (.ref ob9), .val (.ref ob26), .val (.ref ob33), .val v0_, .val v1_, .unset, .unset, .unset, .unset, .unset, .unset, .unset]) rfl k) ?_
          have fc263 := (fc251.keep K262)
          have q_211 : own_NE ob33 oo_41 := mN
          have q_212 : ob33 ∉ [xa_35, dq_35, de_35, un_35, mb_35, ms_35, hl_35, ca_35, oo_41] := nT q_171 (nT (uS q_166) (nT (uS q_165) (nT q_164 (nT (uS q_163) (nT (uS q_162) (nT (uS q_161) (nT (uS q_160) (nT q_211 nin0))))))))
          have fc264 := (fc256.keep K262 q_212)
          have fc265 := (fc252.keep K262 q_212)
          have fc266 := (fc253.keep K262 q_212)
          have fc267 := (fc254.keep K262 q_212)
          have fc268 := ((g35_4.keep K41 q_172).keep K262 q_212)
          have fc269 := (fc255.keep K262 q_212)
          have q_213 : own_NE ca_35 lo_35 := mN
          have q_214 : own_NE hl_35 lo_35 := mN
          have q_215 : own_NE lo_35 ms_35 := mN
          have q_216 : own_NE lo_35 mb_35 := mN
          have q_217 : own_NE lo_35 un_35 := mN
          have q_218 : own_NE de_35 lo_35 := mN
          have q_219 : own_NE dq_35 lo_35 := mN
          have q_220 : own_NE dp_35 lo_35 := mN
          have q_221 : own_NE dr_35 lo_35 := mN
          have q_222 : own_NE lo_35 sp_35 := mN
          have q_223 : own_NE ch_35 lo_35 := mN
          have q_224 : own_NE lo_35 xa_35 := mN
          have q_225 : lo_35 ∉ [xa_35, ch_35, sp_35, dr_35, dp_35, dq_35, de_35, un_35, mb_35, ms_35, hl_35, ca_35] := nT q_224 (nT (uS q_223) (nT q_222 (nT (uS q_221) (nT (uS q_220) (nT (uS q_219) (nT (uS q_218) (nT q_217 (nT q_216 (nT q_215 (nT (uS q_214) (nT (uS q_213) nin0)))))))))))
          have q_226 : own_NE lo_35 oo_41 := mN
          have fc270 := ((g35_30.keep K41 q_225).keep K262 (nT q_224 (nT (uS q_219) (nT (uS q_218) (nT q_217 (nT q_216 (nT q_215 (nT (uS q_214) (nT (uS q_213) (nT q_226 nin0))))))))))
          have q_227 : own_LE h0.size ob12 := mL
          have q_228 : own_LE h0.size ob9 := mL
          have q_229 : own_LE h0.size ob26 := mL
          have q_230 : own_LE h0.size ob33 := mL
          have q_231 : own_LE h0.size ca_35 := mL
          have q_232 : own_LE h0.size hl_35 := mL
          have q_233 : own_LE h0.size ms_35 := mL
          have q_234 : own_LE h0.size mb_35 := mL
          have q_235 : own_LE h0.size un_35 := mL
          have q_236 : own_LE h0.size de_35 := mL
          have q_237 : own_LE h0.size dq_35 := mL
          have q_238 : own_LE h0.size dp_35 := mL
          have q_239 : own_LE h0.size dr_35 := mL
          have q_240 : own_LE h0.size sp_35 := mL
          have q_241 : own_LE h0.size ch_35 := mL
          have q_242 : own_LE h0.size xa_35 := mL
          have q_243 : own_LE h0.size oo_41 := mL
          have K271 : Keep h0 T262.heap [] := ((((((((((((((Keep.refl h0 []).ext E9).ext E10).ext E11).ext E12).trans K14 (kR all0 q_227)).trans K25 (kR all0 q_228)).ext E26).ext E27).trans K32 (kR all0 q_229)).ext E33).trans K35 (kR all0 q_230)).trans K41 (kR (kR (kR (kR (kR (kR (kR (kR (kR (kR (kR (kR all0 q_231) q_232) q_233) q_234) q_235) q_236) q_237) q_238) q_239) q_240) q_241) q_242)).trans K262 (kR (kR (kR (kR (kR (kR (kR (kR (kR all0 q_243) q_231) q_232) q_233) q_234) q_235) q_236) q_237) q_242))
          exact jn42 _ _ ⟨_, (X262.more (by decide) (by decide)), N262⟩ rfl tq_262 wq_262 K271 fc263 fc264 fc265 fc266 fc267 fc268 fc269 g262_7 g262_10 g262_13 g262_0 g262_1 fc270 g262_2 g262_3 g262_4 g262_5 g262_6 (by assumption)
         ·
          obtain ⟨rfl, rfl, rfl, rfl, ov_da, ov_db, ov_dc, ov_dg, hasc⟩ := r41_1.resolve_left (by decide)
          simp only [own_asc] at hasc
          have fc272 := (g35_0.keep K41)
          have q_244 : own_NE ca_35 ob33 := mN
          have q_245 : own_NE hl_35 ob33 := mN
          have q_246 : own_NE ms_35 ob33 := mN
          have q_247 : own_NE mb_35 ob33 := mN
          have q_248 : own_NE ob33 un_35 := mN
          have q_249 : own_NE de_35 ob33 := mN
          have q_250 : own_NE dq_35 ob33 := mN
          have q_251 : own_NE dp_35 ob33 := mN
          have q_252 : own_NE dr_35 ob33 := mN
          have q_253 : own_NE ob33 sp_35 := mN
          have q_254 : own_NE ch_35 ob33 := mN
          have q_255 : own_NE ob33 xa_35 := mN
          have q_256 : ob33 ∉ [xa_35, ch_35, sp_35, dr_35, dp_35, dq_35, de_35, un_35, mb_35, ms_35, hl_35, ca_35] := nT q_255 (nT (uS q_254) (nT q_253 (nT (uS q_252) (nT (uS q_251) (nT (uS q_250) (nT (uS q_249) (nT q_248 (nT (uS q_247) (nT (uS q_246) (nT (uS q_245) (nT (uS q_244) nin0)))))))))))
          have fc273 := (g35_1.keep K41 q_256)
          have fc274 := (g35_2.keep K41 q_256)
          have fc275 := (g35_3.keep K41 q_256)
          have fc276 := (g35_5.keep K41 q_256)
          have fc277 := (g35_6.keep K41 q_256)
          have fc278 := (g35_7.keep K41 q_256)
          have fc279 := (g35_8.keep K41 q_256)
          have fc280 := (g35_9.keep K41 q_256)
          have fc281 := (g35_10.keep K41 q_256)
          have fc282 := (g35_11.keep K41 q_256)
          have fc283 := (fc36.keep K41)
          have q_257 : own_NE ca_35 ob26 := mN
          have q_258 : own_NE hl_35 ob26 := mN
          have q_259 : own_NE ms_35 ob26 := mN
          have q_260 : own_NE mb_35 ob26 := mN
          have q_261 : own_NE ob26 un_35 := mN
          have q_262 : own_NE de_35 ob26 := mN
          have q_263 : own_NE dq_35 ob26 := mN
          have q_264 : own_NE dp_35 ob26 := mN
          have q_265 : own_NE dr_35 ob26 := mN
          have q_266 : own_NE ob26 sp_35 := mN
          have q_267 : own_NE ch_35 ob26 := mN
          have q_268 : own_NE ob26 xa_35 := mN
          have q_269 : ob26 ∉ [xa_35, ch_35, sp_35, dr_35, dp_35, dq_35, de_35, un_35, mb_35, ms_35, hl_35, ca_35] := nT q_268 (nT (uS q_267) (nT q_266 (nT (uS q_265) (nT (uS q_264) (nT (uS q_263) (nT (uS q_262) (nT q_261 (nT (uS q_260) (nT (uS q_259) (nT (uS q_258) (nT (uS q_257) nin0)))))))))))
          have fc284 := (fc37.keep K41 q_269)
          have fc285 := (fc38.keep K41)
          have q_270 : own_NE ca_35 ob9 := mN
          have q_271 : own_NE hl_35 ob9 := mN
          have q_272 : own_NE ms_35 ob9 := mN
          have q_273 : own_NE mb_35 ob9 := mN
          have q_274 : own_NE ob9 un_35 := mN
          have q_275 : own_NE de_35 ob9 := mN
          have q_276 : own_NE dq_35 ob9 := mN
          have q_277 : own_NE dp_35 ob9 := mN
          have q_278 : own_NE dr_35 ob9 := mN
          have q_279 : own_NE ob9 sp_35 := mN
          have q_280 : own_NE ch_35 ob9 := mN
          have q_281 : own_NE ob9 xa_35 := mN
          have q_282 : ob9 ∉ [xa_35, ch_35, sp_35, dr_35, dp_35, dq_35, de_35, un_35, mb_35, ms_35, hl_35, ca_35] := nT q_281 (nT (uS q_280) (nT q_279 (nT (uS q_278) (nT (uS q_277) (nT (uS q_276) (nT (uS q_275) (nT q_274 (nT (uS q_273) (nT (uS q_272) (nT (uS q_271) (nT (uS q_270) nin0)))))))))))
          have fc286 := (fc39.keep K41 q_282)
          have q_283 : own_LE n0 ca_35 := mL
          have q_284 : own_LE n0 hl_35 := mL
          have q_285 : own_LE n0 ms_35 := mL
          have q_286 : own_LE n0 mb_35 := mL
          have q_287 : own_LE n0 un_35 := mL
          have q_288 : own_LE n0 de_35 := mL
          have q_289 : own_LE n0 dq_35 := mL
          have q_290 : own_LE n0 dp_35 := mL
          have q_291 : own_LE n0 dr_35 := mL
          have q_292 : own_LE n0 sp_35 := mL
          have q_293 : own_LE n0 ch_35 := mL
          have q_294 : own_LE n0 xa_35 := mL
          have O287 : Old Z n0 T41.heap := (O40.keep K41 (allS q_294 (allS q_293 (allS q_292 (allS q_291 (allS q_290 (allS q_289 (allS q_288 (allS q_287 (allS q_286 (allS q_285 (allS q_284 (allS q_283 all0)))))))))))))
          obtain ⟨cq288, kq288, q288a, q288b, q288c⟩ := isOf hZ10 rfl fc272
          refine o_k 3 (X41.virtualBack hx (y := y54_) (z := y54_) ho10 (mvT hZ10 (w_ hw 328 rfl)) (mvT hZ10 (w_ hw 329 rfl)) (notFace_of_selects (args := #[]) (mvT hZ10 (w_ hw 331 rfl))) (mvT hZ10 (w_ hw 331 rfl)) (mvT hZ10 (w_ hw 330 rfl)) (by decide) (bk 0 hZ10 hw 332 175 (rm_rec11 l Z a0 hw [] ob33 un_35 xa_35 kxa_35 ca_35 kca_35 dq_35 de_35 kde_35 eb pb ((0 : Int32) + (1 : Int32)) ax ch_35 sp_35 dr_35 dp_35 mb_35 ms_35 kms_35 hl_35 khl_35 ob26 ob9 dce kce el ele kele ci cci ea pa tq_41 wq_41 oo_41 kn_41 vz_41 da_41 db_41 dc_41 dg_41 kda_41 kdb_41 kdc_41 kdg_41 vda_41 vdb_41 vdc_41 vdg_41 mda_41 mdb_41 mdc_41 mdg_41 T41.heap n0 O287 S_DCE A_DCE E_DCE S_EL E_EL F_EL A_EL S_high S_icache Bxi fc272 fc273 fc274 fc275 fc276 fc277 fc278 fc279 fc280 fc281 fc282 g41_0 g41_1 g41_7 g41_8 g41_9 g41_10 g41_11 g41_12 g41_13 fc283 fc284 fc285 fc286 g41_14 g41_15 g41_16 g41_17 g41_18 g41_19 g41_20 g41_21 g41_22 g41_23 g41_24 g41_25 g41_26 g41_27 g41_28 g41_29 g41_30 g41_31 g41_32 g41_33 g41_34 g41_35 g41_36 g41_37 g41_38 g41_39 g41_40 g41_41 g41_2 g41_3 g41_4 g41_5 g41_6 g41_42 g41_43 g41_44 g41_45 g41_46 g41_47 g41_48 q_5 (by simp only [own_asc, and_true]; omega) r35_0 hj4 hj6 (own_w0_wl r41_0) r41_3 ov_da ov_db ov_dc ov_dg)) q288a q288c (g := (mkF m 195 #[.val (.int su), .val (.int wh), .val (.int dn), .val v1_, .val (.int ax), .val (.int ea), .val (.int eb), .val (.int pa), .val (.int pb), .val (.int dl), .val (.int lm), .val (.int ix), .val (.int cm), .val (.ref ob9), .val (.ref ob26), .val (.ref ob33), .val v0_, .unset, .unset, .unset, .unset, .unset, .unset, .unset, .unset] [(.int pb), (.int eb), (.int (-1 : Int32)), (.ref ob26), (.ref ob33)])) rfl (by rw [hml]; rfl) (Steps.refl _) (argsL := [(.ref ob26), (.int (-1 : Int32)), (.int eb), (.int pb)]) (rest := []) (lenOf pd32_ rfl) rfl own_z (hb hby at_195) (o4 rfl 337 9 2251 61)) fun T288 Lc288 _ X288 hQ288 => ?_
          obtain ⟨tq_288, wq_288, rfl, M288, K288, g288_0, g288_1, g288_2, g288_3, g288_4, g288_5, g288_6, g288_7, g288_8, g288_9, g288_10, g288_11, g288_12, g288_13, r288_0⟩ := hQ288
          have N288 := Fr.app N41 M288
          have z288 := K288.1
          have lt_g288_0 := vG g288_0
          have lt_g288_1 := vG g288_1
          have lt_g288_2 := eG g288_2
          have lt_g288_6 := vG g288_6
          have lt_g288_7 := eG g288_7
          have lt_g288_12 := vG g288_12
          have lt_g288_13 := vG g288_13
          refine ob_ (fun _ k => XS.istore X288.here hx rfl (hb hby at_198) rfl (l' := #[.val (.int su), .val (.int wh), .val (.int dn), .val v1_, .val (.int ax), .val (.int ea), .val (.int eb), .val (.int pa), .val (.int pb), .val (.int dl), .val (.int lm), .val (.int ix), .val (.int cm), .val (.ref ob9), .val (.ref ob26), .val (.ref ob33), .val v0_, .val v1_, .unset, .unset, .unset, .unset, .unset, .unset, .unset]) rfl k) ?_
          have fc289 := (fc272.keep K288)
          have q_295 : own_NE ob33 oo_41 := mN
          have q_296 : own_NE dg_41 ob33 := mN
          have q_297 : own_NE dc_41 ob33 := mN
          have q_298 : own_NE db_41 ob33 := mN
          have q_299 : own_NE da_41 ob33 := mN
          have q_300 : ob33 ∉ [xa_35, ch_35, sp_35, dr_35, dp_35, da_41, db_41, dc_41, dg_41, dq_35, de_35, un_35, mb_35, ms_35, hl_35, ca_35, oo_41] := nT q_255 (nT (uS q_254) (nT q_253 (nT (uS q_252) (nT (uS q_251) (nT (uS q_299) (nT (uS q_298) (nT (uS q_297) (nT (uS q_296) (nT (uS q_250) (nT (uS q_249) (nT q_248 (nT (uS q_247) (nT (uS q_246) (nT (uS q_245) (nT (uS q_244) (nT q_295 nin0))))))))))))))))
          have fc290 := (fc277.keep K288 q_300)
          have fc291 := (fc273.keep K288 q_300)
          have fc292 := (fc274.keep K288 q_300)
          have fc293 := (fc275.keep K288 q_300)
          have fc294 := ((g35_4.keep K41 q_256).keep K288 q_300)
          have fc295 := (fc276.keep K288 q_300)
          have q_301 : own_NE ca_35 lo_35 := mN
          have q_302 : own_NE hl_35 lo_35 := mN
          have q_303 : own_NE lo_35 ms_35 := mN
          have q_304 : own_NE lo_35 mb_35 := mN
          have q_305 : own_NE lo_35 un_35 := mN
          have q_306 : own_NE de_35 lo_35 := mN
          have q_307 : own_NE dq_35 lo_35 := mN
          have q_308 : own_NE dp_35 lo_35 := mN
          have q_309 : own_NE dr_35 lo_35 := mN
          have q_310 : own_NE lo_35 sp_35 := mN
          have q_311 : own_NE ch_35 lo_35 := mN
          have q_312 : own_NE lo_35 xa_35 := mN
          have q_313 : lo_35 ∉ [xa_35, ch_35, sp_35, dr_35, dp_35, dq_35, de_35, un_35, mb_35, ms_35, hl_35, ca_35] := nT q_312 (nT (uS q_311) (nT q_310 (nT (uS q_309) (nT (uS q_308) (nT (uS q_307) (nT (uS q_306) (nT q_305 (nT q_304 (nT q_303 (nT (uS q_302) (nT (uS q_301) nin0)))))))))))
          have q_314 : own_NE lo_35 oo_41 := mN
          have fc296 := ((g35_30.keep K41 q_313).keep K288 (nT q_312 (nT (uS q_311) (nT q_310 (nT (uS q_309) (nT (uS q_308) (nS (nS (nS (nS (nT (uS q_307) (nT (uS q_306) (nT q_305 (nT q_304 (nT q_303 (nT (uS q_302) (nT (uS q_301) (nT q_314 nin0))))))))))))))))))
          have q_315 : own_LE h0.size ob12 := mL
          have q_316 : own_LE h0.size ob9 := mL
          have q_317 : own_LE h0.size ob26 := mL
          have q_318 : own_LE h0.size ob33 := mL
          have q_319 : own_LE h0.size ca_35 := mL
          have q_320 : own_LE h0.size hl_35 := mL
          have q_321 : own_LE h0.size ms_35 := mL
          have q_322 : own_LE h0.size mb_35 := mL
          have q_323 : own_LE h0.size un_35 := mL
          have q_324 : own_LE h0.size de_35 := mL
          have q_325 : own_LE h0.size dq_35 := mL
          have q_326 : own_LE h0.size dp_35 := mL
          have q_327 : own_LE h0.size dr_35 := mL
          have q_328 : own_LE h0.size sp_35 := mL
          have q_329 : own_LE h0.size ch_35 := mL
          have q_330 : own_LE h0.size xa_35 := mL
          have q_331 : own_LE h0.size oo_41 := mL
          have K297 : Keep h0 T288.heap [] := ((((((((((((((Keep.refl h0 []).ext E9).ext E10).ext E11).ext E12).trans K14 (kR all0 q_315)).trans K25 (kR all0 q_316)).ext E26).ext E27).trans K32 (kR all0 q_317)).ext E33).trans K35 (kR all0 q_318)).trans K41 (kR (kR (kR (kR (kR (kR (kR (kR (kR (kR (kR (kR all0 q_319) q_320) q_321) q_322) q_323) q_324) q_325) q_326) q_327) q_328) q_329) q_330)).trans K288 (kR (kR (kR (kR (kR (kR (kR (kR (kR (kR (kR (kR (kR (kR (kR (kR (kR all0 q_331) q_319) q_320) q_321) q_322) q_323) q_324) q_325))))) q_326) q_327) q_328) q_329) q_330))
          exact jn42 _ _ ⟨_, X288, N288⟩ rfl tq_288 wq_288 K297 fc289 fc290 fc291 fc292 fc293 fc294 fc295 g288_7 g288_10 g288_13 g288_0 g288_1 fc296 g288_2 g288_3 g288_4 g288_5 g288_6 (by assumption)
        by_cases hc298 : (dn &&& (1 : Int32)) = (0 : Int32)
        ·
         refine ob_ (fun _ k => XS.ifYes Xj7.here hx rfl (pc0 := 114) (pc' := 121) rfl (hb hby at_114) rfl ((if0 _ _).trans (teq hc298).1) (by decide) (by decide) k) ?_
         refine o_ic Xj7 hx hby at_121 ?_
         exact jn8 _ ⟨_, Xj7, Nj7⟩ ej7 (0 : Int32) (by decide)
        ·
         refine ob_ (fun _ k => XS.ifNo Xj7.here hx rfl (hb hby at_114) rfl ((if0 _ _).trans (feq hc298).1) k) ?_
         refine o_ic Xj7 hx hby at_117 ?_
         refine ob_ (fun _ k => XS.goto Xj7.here hx rfl (pc0 := 118) (pc' := 122) rfl (hb hby at_118) (by decide) (by decide) k) ?_
         exact jn8 _ ⟨_, Xj7, Nj7⟩ ej7 (1 : Int32) (by decide)
       by_cases hc299 : (su &&& (64 : Int32)) = (0 : Int32)
       ·
        refine ob_ (fun _ k => XS.ifYes Xj6.here hx rfl (pc0 := 88) (pc' := 95) rfl (hb hby at_88) rfl ((if0 _ _).trans (teq hc299).1) (by decide) (by decide) k) ?_
        refine o_ic Xj6 hx hby at_95 ?_
        exact jn7 _ ⟨_, Xj6, Nj6⟩ ej6 (0 : Int32) (by decide)
       ·
        refine ob_ (fun _ k => XS.ifNo Xj6.here hx rfl (hb hby at_88) rfl ((if0 _ _).trans (feq hc299).1) k) ?_
        refine o_ic Xj6 hx hby at_91 ?_
        refine ob_ (fun _ k => XS.goto Xj6.here hx rfl (pc0 := 92) (pc' := 96) rfl (hb hby at_92) (by decide) (by decide) k) ?_
        exact jn7 _ ⟨_, Xj6, Nj6⟩ ej6 (1 : Int32) (by decide)
      by_cases hc300 : (su &&& (32 : Int32)) = (0 : Int32)
      ·
       refine ob_ (fun _ k => XS.ifYes Xj5.here hx rfl (pc0 := 74) (pc' := 81) rfl (hb hby at_74) rfl ((if0 _ _).trans (teq hc300).1) (by decide) (by decide) k) ?_
       refine o_ic Xj5 hx hby at_81 ?_
       exact jn6 _ ⟨_, Xj5, Nj5⟩ ej5 (0 : Int32) (by decide)
      ·
       refine ob_ (fun _ k => XS.ifNo Xj5.here hx rfl (hb hby at_74) rfl ((if0 _ _).trans (feq hc300).1) k) ?_
       refine o_ic Xj5 hx hby at_77 ?_
       refine ob_ (fun _ k => XS.goto Xj5.here hx rfl (pc0 := 78) (pc' := 82) rfl (hb hby at_78) (by decide) (by decide) k) ?_
       exact jn6 _ ⟨_, Xj5, Nj5⟩ ej5 (1 : Int32) (by decide)
     by_cases hc301 : (su &&& (16 : Int32)) = (0 : Int32)
     ·
      refine ob_ (fun _ k => XS.ifYes Xj4.here hx rfl (pc0 := 60) (pc' := 67) rfl (hb hby at_60) rfl ((if0 _ _).trans (teq hc301).1) (by decide) (by decide) k) ?_
      refine o_ic Xj4 hx hby at_67 ?_
      exact jn5 _ ⟨_, Xj4, Nj4⟩ ej4 (0 : Int32) (by decide)
     ·
      refine ob_ (fun _ k => XS.ifNo Xj4.here hx rfl (hb hby at_60) rfl ((if0 _ _).trans (feq hc301).1) k) ?_
      refine o_ic Xj4 hx hby at_63 ?_
      refine ob_ (fun _ k => XS.goto Xj4.here hx rfl (pc0 := 64) (pc' := 68) rfl (hb hby at_64) (by decide) (by decide) k) ?_
      exact jn5 _ ⟨_, Xj4, Nj4⟩ ej4 (1 : Int32) (by decide)
    by_cases hc302 : (su &&& (8 : Int32)) = (0 : Int32)
    ·
     refine ob_ (fun _ k => XS.ifYes Xj3.here hx rfl (pc0 := 46) (pc' := 53) rfl (hb hby at_46) rfl ((if0 _ _).trans (teq hc302).1) (by decide) (by decide) k) ?_
     refine o_ic Xj3 hx hby at_53 ?_
     exact jn4 _ ⟨_, Xj3, Nj3⟩ ej3 (0 : Int32) (by decide)
    ·
     refine ob_ (fun _ k => XS.ifNo Xj3.here hx rfl (hb hby at_46) rfl ((if0 _ _).trans (feq hc302).1) k) ?_
     refine o_ic Xj3 hx hby at_49 ?_
     refine ob_ (fun _ k => XS.goto Xj3.here hx rfl (pc0 := 50) (pc' := 54) rfl (hb hby at_50) (by decide) (by decide) k) ?_
     exact jn4 _ ⟨_, Xj3, Nj3⟩ ej3 (1 : Int32) (by decide)
   by_cases hc303 : (su &&& (4 : Int32)) = (0 : Int32)
   ·
    refine ob_ (fun _ k => XS.ifYes Xj2.here hx rfl (pc0 := 32) (pc' := 39) rfl (hb hby at_32) rfl ((if0 _ _).trans (teq hc303).1) (by decide) (by decide) k) ?_
    refine o_ic Xj2 hx hby at_39 ?_
    exact jn3 _ ⟨_, Xj2, Nj2⟩ ej2 (0 : Int32) (by decide)
   ·
    refine ob_ (fun _ k => XS.ifNo Xj2.here hx rfl (hb hby at_32) rfl ((if0 _ _).trans (feq hc303).1) k) ?_
    refine o_ic Xj2 hx hby at_35 ?_
    refine ob_ (fun _ k => XS.goto Xj2.here hx rfl (pc0 := 36) (pc' := 40) rfl (hb hby at_36) (by decide) (by decide) k) ?_
    exact jn3 _ ⟨_, Xj2, Nj2⟩ ej2 (1 : Int32) (by decide)
  by_cases hc304 : li = (0 : Int32)
  ·
   refine ob_ (fun _ k => XS.ifYes Xj1.here hx rfl (pc0 := 13) (pc' := 26) rfl (hb hby at_13) rfl ((if0 _ _).trans (teq hc304).1) (by decide) (by decide) k) ?_
   refine o_ic Xj1 hx hby at_26 ?_
   exact jn2 _ ⟨_, Xj1, Nj1⟩ ej1 (0 : Int32) (by refine ⟨by decide, fun q => ?_⟩; first | rfl | exact absurd q (by assumption))
  ·
   refine ob_ (fun _ k => XS.ifNo Xj1.here hx rfl (hb hby at_13) rfl ((if0 _ _).trans (feq hc304).1) k) ?_
   refine o_il Xj1 hx hby at_16 rfl ?_
   refine o_ic Xj1 hx hby at_17 ?_
   refine ob_ (fun _ k => XS.iand Xj1.here hx rfl (hb hby at_18) rfl k) ?_
   by_cases hc305 : (su &&& (2 : Int32)) = (0 : Int32)
   ·
    refine ob_ (fun _ k => XS.ifYes Xj1.here hx rfl (pc0 := 19) (pc' := 26) rfl (hb hby at_19) rfl ((if0 _ _).trans (teq hc305).1) (by decide) (by decide) k) ?_
    refine o_ic Xj1 hx hby at_26 ?_
    exact jn2 _ ⟨_, Xj1, Nj1⟩ ej1 (0 : Int32) (by refine ⟨by decide, fun q => ?_⟩; first | rfl | exact absurd q (by assumption))
   ·
    refine ob_ (fun _ k => XS.ifNo Xj1.here hx rfl (hb hby at_19) rfl ((if0 _ _).trans (feq hc305).1) k) ?_
    refine o_ic Xj1 hx hby at_22 ?_
    refine ob_ (fun _ k => XS.goto Xj1.here hx rfl (pc0 := 23) (pc' := 27) rfl (hb hby at_23) (by decide) (by decide) k) ?_
    exact jn2 _ ⟨_, Xj1, Nj1⟩ ej1 (1 : Int32) (by refine ⟨by decide, fun q => ?_⟩; first | rfl | exact absurd q (by assumption))
 by_cases hc306 : (su &&& (1 : Int32)) = (0 : Int32)
 ·
  refine ob_ (fun _ k => XS.ifYes X0.here hx rfl (pc0 := 3) (pc' := 10) rfl (hb hby at_3) rfl ((if0 _ _).trans (teq hc306).1) (by decide) (by decide) k) ?_
  refine o_ic X0 hx hby at_10 ?_
  exact jn1 _ ⟨_, X0, N0⟩ e0 (0 : Int32) (by decide)
 ·
  refine ob_ (fun _ k => XS.ifNo X0.here hx rfl (hb hby at_3) rfl ((if0 _ _).trans (feq hc306).1) k) ?_
  refine o_ic X0 hx hby at_6 ?_
  refine ob_ (fun _ k => XS.goto X0.here hx rfl (pc0 := 7) (pc' := 11) rfl (hb hby at_7) (by decide) (by decide) k) ?_
  exact jn1 _ ⟨_, X0, N0⟩ e0 (1 : Int32) (by decide)
set_option maxRecDepth 65536 in
set_option maxHeartbeats 40000000 in
theorem comes_1 {Post : Tables → Env → Array Value → State → Outcome → State → Prop} (hpost : ∀ tb e args s v u, (limb_1_1.after args s (.returned v) u = true ∧ limb_1_2.after args s (.returned v) u = true ∧ True) → ReturnedEndW s (.returned v) u (Jvm.fieldLocs frame_1_writes args s ++ Jvm.arrayLocs frame_1_arrays args s ++ Jvm.staticLocs frame_1_statics s) 376 3200 → Post tb e args s (.returned v) u) :
    ArmFor flags0 classFile x code maxLocals ret World_1 tables_1 room_1 Calls_1 rest_1 Pre_1 Post := by
  intro l hfl _ _ p e ha hc hk s m args below hf hA hF happ hP
  obtain ⟨hcalls, hrest, hpre⟩ := hP
  obtain ⟨-, -, -, hnamed, -, -, -, hat⟩ := (Spec.applies_iff hf).mp happ
  obtain ⟨hg, hn⟩ := and_e (Cond.before_iff.mp (show (Jvm.Cond.and given_1 narrow_1).before args s = true from hpre))
  obtain ⟨hh0, hg0⟩ := and_e hg
  obtain ⟨hh1, hg1⟩ := and_e hg0
  obtain ⟨hh2, hg2⟩ := and_e hg1
  obtain ⟨w0, w1, w2, rfl⟩ : ∃ w0 w1 w2 : Value, args = #[w0, w1, w2] := by
    have hs : args.size = 3 := by simpa [Cond.value, given_1] using hh0
    obtain ⟨L⟩ := args
    match L, hs with
    | [w0, w1, w2], _ => exact ⟨w0, w1, w2, rfl⟩
  have hw := fun d (hd : d ∈ tables_1) => atoms_spec (ws := Jvm.Cond.code x code maxLocals ret :: tables_1) hat d (List.mem_cons_of_mem _ hd)
  have hfit : Fit s := fun {y c} hc i hi => by
    obtain ⟨ha, rfl⟩ := Array.getElem?_eq_some_iff.mp hc
    have q := List.all_eq_true.mp ((Array.all_eq_true_iff_forall_mem.mp hF) _ (Array.getElem_mem ha)) i (List.mem_range.mpr hi)
    simpa [Array.getElem?_eq_getElem hi] using q
  obtain ⟨hsets, hown0⟩ := atoms_of _ (rest_1_c_eq ▸ (show rest_1_c.before _ s = true from hrest))
  have hr0 := Cond.before_iff.mp hown0
  obtain ⟨i0, ea0⟩ := is_v hh1
  obtain rfl : w0 = (.int i0) := Option.some.inj ea0
  obtain ⟨i1, ea1⟩ := is_v hh2
  obtain rfl : w1 = (.int i1) := Option.some.inj ea1
  obtain ⟨i2, ea2⟩ := is_v hg2
  obtain rfl : w2 = (.int i2) := Option.some.inj ea2
  obtain ⟨dce, v_dce⟩ := arr_v (Cond.before_iff.mp (hsets _ (List.mem_of_getElem? (i := 6) rfl)))
  have S_DCE := own_sta_via (hsets _ (List.mem_of_getElem? (i := 0) rfl)) (hsets _ (List.mem_of_getElem? (i := 1) rfl)) (hsets _ (List.mem_of_getElem? (i := 2) rfl)) v_dce
  obtain ⟨c_dce, AA_dce⟩ := Arr.start v_dce (Cond.before_iff.mp (hsets _ (List.mem_of_getElem? (i := 6) rfl)))
  have len_dce := own_len v_dce AA_dce (Cond.before_iff.mp (hsets _ (List.mem_of_getElem? (i := 8) rfl)))
  have A_dce : Arv s s.heap dce c_dce.cls _ (0 : Int32) [] .null := Arv.start hfit AA_dce len_dce.1 len_dce.2 (by decide) rfl trivial
  have E_DCE := Exa.start v_dce (Cond.before_iff.mp (hsets _ (List.mem_of_getElem? (i := 7) rfl)))
  obtain ⟨el, v_el⟩ := exa_v (Cond.before_iff.mp (hsets _ (List.mem_of_getElem? (i := 11) rfl)))
  have S_EL := Sta.start v_el (Or.inl (hsets _ (List.mem_of_getElem? (i := 10) rfl)))
  have E_EL := Exa.start v_el (Cond.before_iff.mp (hsets _ (List.mem_of_getElem? (i := 11) rfl)))
  obtain ⟨ele, v_ele⟩ := arr_v (Cond.before_iff.mp (hsets _ (List.mem_of_getElem? (i := 12) rfl)))
  have F_EL := Fld.start ((fld_at v_el).symm.trans v_ele)
  obtain ⟨c_ele, AA_ele⟩ := Arr.start v_ele (Cond.before_iff.mp (hsets _ (List.mem_of_getElem? (i := 12) rfl)))
  have len_ele := own_len v_ele AA_ele (Cond.before_iff.mp (hsets _ (List.mem_of_getElem? (i := 14) rfl)))
  have A_ele : Arv s s.heap ele c_ele.cls _ (0 : Int32) [] .null := Arv.start hfit AA_ele len_ele.1 len_ele.2 (by decide) rfl trivial
  have v_high := own_eq_int (Cond.before_iff.mp (hsets _ (List.mem_of_getElem? (i := 19) rfl)))
  have S_high := Sta.start v_high (Or.inl (hsets _ (List.mem_of_getElem? (i := 17) rfl)))
  obtain ⟨ci, v_ci⟩ := arr_v (Cond.before_iff.mp (hsets _ (List.mem_of_getElem? (i := 20) rfl)))
  have S_icache := own_sta_via (hsets _ (List.mem_of_getElem? (i := 16) rfl)) (hsets _ (List.mem_of_getElem? (i := 17) rfl)) (hsets _ (List.mem_of_getElem? (i := 18) rfl)) v_ci
  obtain ⟨cci, A_ci⟩ := Arr.start v_ci (Cond.before_iff.mp (hsets _ (List.mem_of_getElem? (i := 20) rfl)))
  have len_ci := own_len v_ci A_ci (Cond.before_iff.mp (hsets _ (List.mem_of_getElem? (i := 22) rfl)))
  have Bxi : Bxs s ci cci "java/lang/Integer" "I" (256 : Int32) (fun j => .int (j - 128)) := Bxs.start (fun _ => own_static_idx v_ci) A_ci len_ci.1 len_ci.2 (by decide) (Cond.before_iff.mp (hsets _ (List.mem_of_getElem? (i := 23) rfl))) (fun X j nj h => by have hn0 := (back32 nj).1; exact own_box_i nj h)
  obtain ⟨cmr, kmr, mr, qm1, qm2, qm3⟩ := hcalls.1
  have hMr : own_Mir s s9_ mr := ⟨_, _, qm1, qm2, qm3.1⟩
  obtain ⟨n, o, h1, h2, h3, _, L, rfl, ⟨rfl, N, -⟩, hq⟩ := rm_law l s _ hw tables_1 i0 i1 i2 dce _ el ele _ ci cci mr s.heap s.heap.size (Old.start s) S_DCE A_dce E_DCE S_EL E_EL F_EL A_ele S_high S_icache Bxi hMr p e ha hc hk s m _ below hf ((Spec.applies_iff_loose hf).mp happ).1 ⟨rfl, State.Warmed39.refl s, rfl⟩ trivial
  refine ⟨n, _, h1, h2, h3, hpost _ _ _ _ _ _ ⟨Cond.after_iff.mpr rfl, Cond.after_iff.mpr (eq_i res_at (Term.int_eval (1)) rfl), trivial⟩ ⟨hq.1, hq.2.1, hq.2.2.1, (hq.2.2.2.sift fun y hy => Or.inr (N y hy)).mono (by decide) (by decide)⟩⟩
theorem main_1_1 : Claimed_1_1 := comes_1 fun _ _ _ _ _ _ h hF => ⟨h.1, hF⟩
theorem main_1_2 : Claimed_1_2 := comes_1 fun _ _ _ _ _ _ h hF => ⟨h.2.1, hF⟩
end Jvm.Pilot.@@N@@
namespace Jvm.Pilot.@@N@@
open Jvm Jvm.ClassFile Sem Op Lib Jvm.Free Jvm.Stand Jvm.Pilot.@@N@@.Jvm.D
/-! MADE BY PROGRAM (witnessworld.py) out of the Statement's table words and the real class files: 56 classes; the members and pool entries that the words name. The judged class is class 1, her method 1. -/
namespace start1
open Jvm.ClassFile
def u (s : String) : CpInfo := .utf8 (stringToUtf16 s)
/-- a pool by its gaps: so many unusable entries, then the entry; so many at the end -/
def gap : Nat → List CpInfo → List CpInfo
  | 0, r => r
  | n + 1, r => .unusable :: gap n r
def poolList (es : List (Nat × CpInfo)) (last : Nat) : List CpInfo := es.foldr (fun e r => gap e.1 (e.2 :: r)) (gap last [])
def pool (es : List (Nat × CpInfo)) (last : Nat) : Array CpInfo := ⟨poolList es last⟩
def fileOf (pool : Array CpInfo) (this : Nat) (attrs : Array Attribute := #[]) (ms : Array MethodInfo := #[]) (fl : Nat := 33) (sup : Nat := 0) (ifs : Array Nat := #[]) (fds : Array FieldInfo := #[]) : ClassFile where
  minorVersion := 0
  majorVersion := 65
  constantPool := pool
  accessFlags := fl
  thisClass := this
  superClass := sup
  interfaces := ifs
  fields := fds
  methods := ms
  attributes := attrs
def plain (name : String) (sup : Option ClassId) : Class where
  name := name
  kind := .ordinary
  loader := none
  accessFlags := 33
  super := sup
  interfaces := #[]
  cf := none
  fields := #[]
  methods := #[]
  instanceTypes := #[]
  staticTypes := #[]
  resolved := #[]
  callSites := []
  init := .initialized
  statics := none
  mirror := none

def pool0 : Array CpInfo := pool [(5, u "<init>"), (0, u "()V"), (1, .class_ 10), (1, u "java/lang/Object"), (0, u "getClass"), (0, u "()Ljava/lang/Class;"), (83, u "clone"), (0, u "()Ljava/lang/Object;")] 26

def k0c0 : Code := ⟨0, 1, object_method_1_code, #[], #[]⟩
def k0m0 : Method := ⟨"<init>", "()V", ⟨[], none⟩, 1, some k0c0⟩
def k0m1 : Method := ⟨"getClass", "()Ljava/lang/Class;", ⟨[], some (.object "java/lang/Class")⟩, 273, none⟩
def k0m2 : Method := ⟨"clone", "()Ljava/lang/Object;", ⟨[], some (.object "java/lang/Object")⟩, 260, none⟩
def k0 : Class := { plain "java/lang/Object" none with
  accessFlags := 33
  cf := some (fileOf pool0 8 #[] #[⟨1, 5, 6, #[]⟩, ⟨273, 11, 12, #[]⟩, ⟨260, 96, 97, #[]⟩] 33 0 #[] #[])
  methods := #[k0m0, k0m1, k0m2]
  resolved := Array.replicate 124 none
}

def pool1 : Array CpInfo := pool [(2, .class_ 4), (0, .nameAndType 5 6), (0, u "java/lang/Object"), (0, u "<init>"), (0, u "()V"), (0, .class_ 8), (0, u "com/example/rewrought/rewrought/ConjunctiveQuery"), (0, .string 10), (0, u "Q"), (0, .class_ 12), (0, u "java/util/ArrayList"), (0, .methodref 11 3), (0, .methodref 7 15), (0, .nameAndType 5 16), (0, u "(Ljava/lang/String;[ILjava/util/List;Lcom/example/rewrought/rewrought/TermNames;)V"), (0, .class_ 18), (0, u "com/example/rewrought/rewrought/Descendant"), (0, .methodref 17 20), (0, .nameAndType 5 21), (0, u "(Lcom/example/rewrought/rewrought/ConjunctiveQuery;[I)V"), (0, .class_ 23), (0, u "com/example/rewrought/rewrought/Derivations"), (0, .methodref 22 25), (0, .nameAndType 5 26), (0, u "(ZZ)V"), (0, .methodref 22 28), (0, .nameAndType 29 30), (0, u "addRecorded"), (0, u "(Lcom/example/rewrought/rewrought/Descendant;IZZ)I"), (0, .methodref 22 32), (0, .nameAndType 33 34), (0, u "link"), (0, u "(II[I)V"), (0, .methodref 22 36), (0, .nameAndType 37 38), (0, u "finish"), (0, u "(IZ)V"), (0, .methodref 22 40), (0, .nameAndType 41 42), (0, u "expanded"), (0, u "(I)Z"), (0, .methodref 22 44), (0, .nameAndType 45 42), (0, u "complete"), (0, .methodref 22 47), (0, .nameAndType 48 49), (0, u "next"), (0, u "()I"), (0, .class_ 51), (0, u "com/example/rewrought/rewrought/DerivationsFinishPinLaw"), (2, u "law"), (0, u "(III)Z")] 3

def k1m0 : Method := ⟨"<init>", "()V", ⟨[], none⟩, 1, none⟩
def k1c1 : Code := ⟨6, 25, code, #[], #[]⟩
def k1m1 : Method := ⟨"law", "(III)Z", ⟨[.int, .int, .int], some .boolean⟩, 9, some k1c1⟩
def k1 : Class := { plain "com/example/rewrought/rewrought/DerivationsFinishPinLaw" (some 0) with
  accessFlags := 49
  cf := some (fileOf pool1 50 #[] #[⟨1, 5, 6, #[]⟩, ⟨9, 54, 55, #[]⟩] 49 2 #[] #[])
  methods := #[k1m0, k1m1]
  resolved := Array.replicate 59 none
}

def pool2 : Array CpInfo := pool [(1, .methodref 2 3), (0, .class_ 4), (0, .nameAndType 5 6), (0, u "com/example/rewrought/rewrought/ConjunctiveQuery"), (0, u "<init>"), (0, u "(Ljava/lang/String;[ILjava/util/List;Lcom/example/rewrought/rewrought/TermNames;Z)V"), (0, .methodref 8 9), (0, .class_ 10), (0, .nameAndType 5 11), (0, u "java/lang/Object"), (0, u "()V"), (0, .fieldref 2 13), (0, .nameAndType 14 15), (0, u "_fresh"), (0, u "I"), (0, .fieldref 2 17), (0, .nameAndType 18 19), (0, u "_headName"), (0, u "Ljava/lang/String;"), (0, .methodref 21 22), (0, .class_ 23), (0, .nameAndType 24 25), (0, u "[I"), (0, u "clone"), (0, u "()Ljava/lang/Object;"), (0, .fieldref 2 27), (0, .nameAndType 28 23), (0, u "_head"), (1, .class_ 32), (1, u "java/util/List"), (0, u "copyOf"), (1, .methodref 2 36), (0, .nameAndType 37 38), (0, u "distinct"), (0, u "(Ljava/util/List;)Ljava/util/List;"), (0, .fieldref 2 40), (0, .nameAndType 41 42), (0, u "_body"), (0, u "Ljava/util/List;"), (0, .fieldref 2 44), (0, .nameAndType 45 46), (0, u "_names"), (0, u "Lcom/example/rewrought/rewrought/TermNames;"), (0, .interfaceMethodref 30 48), (0, .nameAndType 49 50), (0, u "iterator"), (0, u "()Ljava/util/Iterator;"), (0, .interfaceMethodref 52 53), (0, .class_ 54), (0, .nameAndType 55 56), (0, u "java/util/Iterator"), (0, u "hasNext"), (0, u "()Z"), (3, .class_ 61), (0, u "com/example/rewrought/rewrought/Atom"), (8, .fieldref 2 71), (0, .nameAndType 72 73), (0, u "_mask"), (0, u "J"), (8, u "NO_TERMS"), (4, .interfaceMethodref 30 88), (0, .nameAndType 89 90), (0, u "size"), (0, u "()I"), (70, u "of"), (22, u "(Ljava/lang/String;[ILjava/util/List;Lcom/example/rewrought/rewrought/TermNames;)V"), (111, .methodref 297 298), (0, .class_ 299), (0, .nameAndType 33 300), (0, u "java/util/Arrays"), (0, u "([Ljava/lang/Object;I)[Ljava/lang/Object;"), (2, .interfaceMethodref 30 304), (0, .nameAndType 161 305), (0, u "([Ljava/lang/Object;)Ljava/util/List;"), (3, u "PAIRWISE"), (36, u "predicateMask"), (0, u "()J")] 22

def k2c0 : Code := ⟨6, 5, prog_6_method_1_code, #[], #[]⟩
def k2m0 : Method := ⟨"<init>", "(Ljava/lang/String;[ILjava/util/List;Lcom/example/rewrought/rewrought/TermNames;)V", ⟨[(.object "java/lang/String"), (.array .int), (.object "java/util/List"), (.object "com/example/rewrought/rewrought/TermNames")], none⟩, 0, some k2c0⟩
def k2c1 : Code := ⟨4, 10, prog_6_method_2_code, #[], #[]⟩
def k2m1 : Method := ⟨"<init>", "(Ljava/lang/String;[ILjava/util/List;Lcom/example/rewrought/rewrought/TermNames;Z)V", ⟨[(.object "java/lang/String"), (.array .int), (.object "java/util/List"), (.object "com/example/rewrought/rewrought/TermNames"), .boolean], none⟩, 2, some k2c1⟩
def k2c2 : Code := ⟨2, 1, prog_6_method_27_code, #[], #[]⟩
def k2m2 : Method := ⟨"predicateMask", "()J", ⟨[], some .long⟩, 0, some k2c2⟩
def k2c3 : Code := ⟨3, 5, prog_6_method_32_code, #[], #[]⟩
def k2m3 : Method := ⟨"distinct", "(Ljava/util/List;)Ljava/util/List;", ⟨[(.object "java/util/List")], some (.object "java/util/List")⟩, 10, some k2c3⟩
def k2 : Class := { plain "com/example/rewrought/rewrought/ConjunctiveQuery" (some 0) with
  accessFlags := 49
  cf := some (fileOf pool2 2 #[] #[⟨0, 5, 184, #[]⟩, ⟨2, 5, 6, #[]⟩, ⟨0, 346, 347, #[]⟩, ⟨10, 37, 38, #[]⟩] 49 8 #[] #[⟨26, 82, 23, #[]⟩, ⟨26, 309, 15, #[]⟩, ⟨18, 18, 19, #[]⟩, ⟨18, 28, 23, #[]⟩, ⟨18, 41, 42, #[]⟩, ⟨18, 45, 46, #[]⟩, ⟨18, 72, 73, #[]⟩, ⟨2, 14, 15, #[]⟩])
  fields := #[⟨"NO_TERMS", (.array .int), 26, 0, 0⟩, ⟨"PAIRWISE", .int, 26, 1, 0⟩, ⟨"_headName", (.object "java/lang/String"), 18, 0, 0⟩, ⟨"_head", (.array .int), 18, 1, 0⟩, ⟨"_body", (.object "java/util/List"), 18, 2, 0⟩, ⟨"_names", (.object "com/example/rewrought/rewrought/TermNames"), 18, 3, 0⟩, ⟨"_mask", .long, 18, 4, 0⟩, ⟨"_fresh", .int, 2, 5, 0⟩]
  methods := #[k2m0, k2m1, k2m2, k2m3]
  instanceTypes := #[(.object "java/lang/String"), (.array .int), (.object "java/util/List"), (.object "com/example/rewrought/rewrought/TermNames"), .long, .int]
  staticTypes := #[(.array .int), .int]
  resolved := Array.replicate 370 none
}

def pool3 : Array CpInfo := pool [(1, .class_ 2), (0, u "java/io/Serializable"), (0, .class_ 4), (0, u "java/lang/Object")] 2

def k3 : Class := { plain "java/io/Serializable" (some 0) with
  accessFlags := 1537
  cf := some (fileOf pool3 1 #[] #[] 1537 3 #[] #[])
  resolved := Array.replicate 7 none
}

def pool4 : Array CpInfo := pool [(1, .class_ 2), (0, u "java/lang/Comparable"), (0, .class_ 4), (0, u "java/lang/Object")] 7

def k4 : Class := { plain "java/lang/Comparable" (some 0) with
  accessFlags := 1537
  cf := some (fileOf pool4 1 #[] #[] 1537 3 #[] #[])
  resolved := Array.replicate 12 none
}

def pool5 : Array CpInfo := pool [(2, .class_ 4), (1, u "java/lang/CharSequence"), (42, .class_ 48), (0, u "java/lang/CharSequence$1CodePointIterator"), (10, .class_ 60), (0, u "java/lang/CharSequence$1CharIterator"), (5, .class_ 67), (0, u "java/lang/Object")] 63

def k5 : Class := { plain "java/lang/CharSequence" (some 0) with
  accessFlags := 1537
  cf := some (fileOf pool5 2 #[.nestMembers #[47, 59]] #[] 1537 66 #[] #[])
  resolved := Array.replicate 131 none
}

def pool6 : Array CpInfo := pool [(1, .class_ 2), (0, u "java/lang/constant/Constable"), (0, .class_ 4), (0, u "java/lang/Object")] 6

def k6 : Class := { plain "java/lang/constant/Constable" (some 0) with
  accessFlags := 1537
  cf := some (fileOf pool6 1 #[] #[] 1537 3 #[] #[])
  resolved := Array.replicate 11 none
}

def pool7 : Array CpInfo := pool [(1, .class_ 2), (0, u "java/lang/constant/ConstantDesc"), (0, .class_ 4), (0, u "java/lang/Object")] 32

def k7 : Class := { plain "java/lang/constant/ConstantDesc" (some 0) with
  accessFlags := 1537
  cf := some (fileOf pool7 1 #[] #[] 1537 3 #[] #[])
  resolved := Array.replicate 37 none
}

def pool8 : Array CpInfo := pool [(2, .class_ 4), (1, u "java/lang/Object"), (0, u "<init>"), (0, u "()V"), (3, .class_ 12), (1, u "java/lang/String"), (0, u "value"), (0, u "[B"), (2, u "coder"), (0, u "B"), (2, u "hash"), (0, u "I"), (2, u "hashIsZero"), (0, u "Z"), (13, u "COMPACT_STRINGS"), (534, .class_ 576), (0, u "java/lang/CharSequence"), (22, u "CASE_INSENSITIVE_ORDER"), (0, u "Ljava/util/Comparator;"), (500, u "serialPersistentFields"), (0, u "[Ljava/io/ObjectStreamField;"), (0, .class_ 1104), (0, u "java/lang/String$CaseInsensitiveComparator"), (1, .class_ 1107), (0, u "java/io/Serializable"), (0, .class_ 1109), (0, u "java/lang/Comparable"), (0, .class_ 1111), (0, u "java/lang/constant/Constable"), (0, .class_ 1113), (0, u "java/lang/constant/ConstantDesc"), (2, u "serialVersionUID"), (0, u "J"), (3, u "REPL"), (0, u "C"), (2, u "LATIN1"), (1, u "UTF16")] 323

def k8m0 : Method := ⟨"<init>", "()V", ⟨[], none⟩, 1, none⟩
def k8 : Class := { plain "java/lang/String" (some 0) with
  accessFlags := 49
  interfaces := #[3, 4, 5, 6, 7]
  cf := some (fileOf pool8 10 #[.nestMembers #[1103]] #[⟨1, 5, 6, #[]⟩] 49 2 #[1106, 1108, 575, 1110, 1112] #[⟨18, 13, 14, #[]⟩, ⟨18, 17, 18, #[]⟩, ⟨2, 21, 22, #[]⟩, ⟨2, 25, 26, #[]⟩, ⟨26, 1116, 1117, #[]⟩, ⟨24, 40, 26, #[]⟩, ⟨26, 1101, 1102, #[]⟩, ⟨26, 1121, 1122, #[]⟩, ⟨25, 599, 600, #[]⟩, ⟨24, 1125, 18, #[]⟩, ⟨24, 1127, 18, #[]⟩])
  fields := #[⟨"value", (.array .byte), 18, 0, 0⟩, ⟨"coder", .byte, 18, 1, 0⟩, ⟨"hash", .int, 2, 2, 0⟩, ⟨"hashIsZero", .boolean, 2, 3, 0⟩, ⟨"serialVersionUID", .long, 26, 0, 0⟩, ⟨"COMPACT_STRINGS", .boolean, 24, 1, 0⟩, ⟨"serialPersistentFields", (.array (.object "java/io/ObjectStreamField")), 26, 2, 0⟩, ⟨"REPL", .char, 26, 3, 0⟩, ⟨"CASE_INSENSITIVE_ORDER", (.object "java/util/Comparator"), 25, 4, 0⟩, ⟨"LATIN1", .byte, 24, 5, 0⟩, ⟨"UTF16", .byte, 24, 6, 0⟩]
  methods := #[k8m0]
  instanceTypes := #[(.array .byte), .byte, .int, .boolean]
  staticTypes := #[.long, .boolean, (.array (.object "java/io/ObjectStreamField")), .char, (.object "java/util/Comparator"), .byte, .byte]
  resolved := Array.replicate 1451 none
}

def pool9 : Array CpInfo := pool [(8, .class_ 10), (1, u "java/lang/Iterable"), (24, .class_ 36), (0, u "java/lang/Object")] 25

def k9 : Class := { plain "java/lang/Iterable" (some 0) with
  accessFlags := 1537
  cf := some (fileOf pool9 8 #[] #[] 1537 35 #[] #[])
  resolved := Array.replicate 62 none
}

def pool10 : Array CpInfo := pool [(10, .class_ 12), (1, u "java/util/Collection"), (17, u "()Z"), (29, .class_ 61), (0, u "java/lang/Object"), (0, .class_ 63), (0, u "java/lang/Iterable"), (2, u "isEmpty")] 48

def k10m0 : Method := ⟨"isEmpty", "()Z", ⟨[], some .boolean⟩, 1025, none⟩
def k10 : Class := { plain "java/util/Collection" (some 0) with
  accessFlags := 1537
  interfaces := #[9]
  cf := some (fileOf pool10 10 #[] #[⟨1025, 66, 30, #[]⟩] 1537 60 #[62] #[])
  methods := #[k10m0]
  resolved := Array.replicate 115 none
}

def pool11 : Array CpInfo := pool [(1, .methodref 2 3), (0, .class_ 4), (0, .nameAndType 5 6), (0, u "java/lang/Object"), (0, u "<init>"), (0, u "()V"), (1, .class_ 10), (1, u "java/util/AbstractCollection"), (0, u "size"), (0, u "()I"), (64, .class_ 78), (0, u "java/util/Collection")] 81

def k11c0 : Code := ⟨1, 1, jdk_22_method_1_code, #[], #[]⟩
def k11m0 : Method := ⟨"<init>", "()V", ⟨[], none⟩, 4, some k11c0⟩
def k11m1 : Method := ⟨"size", "()I", ⟨[], some .int⟩, 1025, none⟩
def k11 : Class := { plain "java/util/AbstractCollection" (some 0) with
  accessFlags := 1057
  interfaces := #[10]
  cf := some (fileOf pool11 8 #[] #[⟨4, 5, 6, #[]⟩, ⟨1025, 11, 12, #[]⟩] 1057 2 #[77] #[])
  methods := #[k11m0, k11m1]
  resolved := Array.replicate 160 none
}

def pool12 : Array CpInfo := pool [(8, .class_ 10), (1, u "java/util/SequencedCollection"), (15, .class_ 27), (0, u "java/lang/Object"), (0, .class_ 29), (0, u "java/util/Collection")] 27

def k12 : Class := { plain "java/util/SequencedCollection" (some 0) with
  accessFlags := 1537
  interfaces := #[10]
  cf := some (fileOf pool12 8 #[] #[] 1537 26 #[28] #[])
  resolved := Array.replicate 57 none
}

def pool13 : Array CpInfo := pool [(8, .class_ 10), (1, u "java/util/List"), (49, u "add"), (3, u "(Ljava/lang/Object;)Z"), (14, u "size"), (0, u "()I"), (7, u "of"), (1, .fieldref 91 92), (0, .class_ 93), (0, .nameAndType 94 95), (0, u "java/util/ImmutableCollections"), (0, u "EMPTY_LIST"), (0, u "Ljava/util/ImmutableCollections$ListN;"), (7, .class_ 104), (0, u "java/lang/Object"), (3, u "([Ljava/lang/Object;)Ljava/util/List;"), (10, u "()Ljava/util/List;"), (0, .class_ 121), (0, u "java/util/SequencedCollection"), (1, u "iterator"), (0, u "()Ljava/util/Iterator;")] 126

def k13m0 : Method := ⟨"size", "()I", ⟨[], some .int⟩, 1025, none⟩
def k13m1 : Method := ⟨"iterator", "()Ljava/util/Iterator;", ⟨[], some (.object "java/util/Iterator")⟩, 1025, none⟩
def k13m2 : Method := ⟨"add", "(Ljava/lang/Object;)Z", ⟨[(.object "java/lang/Object")], some .boolean⟩, 1025, none⟩
def k13c3 : Code := ⟨1, 0, jdk_40_method_36_code, #[], #[]⟩
def k13m3 : Method := ⟨"of", "()Ljava/util/List;", ⟨[], some (.object "java/util/List")⟩, 9, some k13c3⟩
def k13c4 : Code := ⟨5, 2, jdk_40_method_47_code, #[], #[]⟩
def k13m4 : Method := ⟨"of", "([Ljava/lang/Object;)Ljava/util/List;", ⟨[(.array (.object "java/lang/Object"))], some (.object "java/util/List")⟩, 137, some k13c4⟩
def k13 : Class := { plain "java/util/List" (some 0) with
  accessFlags := 1537
  interfaces := #[12]
  cf := some (fileOf pool13 8 #[] #[⟨1025, 79, 80, #[]⟩, ⟨1025, 123, 124, #[]⟩, ⟨1025, 60, 64, #[]⟩, ⟨9, 88, 119, #[]⟩, ⟨137, 88, 108, #[]⟩] 1537 103 #[120] #[])
  methods := #[k13m0, k13m1, k13m2, k13m3, k13m4]
  resolved := Array.replicate 251 none
}

def pool14 : Array CpInfo := pool [(1, .methodref 2 3), (0, .class_ 4), (0, .nameAndType 5 6), (0, u "java/util/AbstractCollection"), (0, u "<init>"), (0, u "()V"), (0, .fieldref 8 9), (0, .class_ 10), (0, .nameAndType 11 12), (0, u "java/util/AbstractList"), (0, u "modCount"), (0, u "I"), (64, .class_ 78), (0, u "java/util/AbstractList$Itr"), (3, .class_ 83), (0, u "java/util/AbstractList$ListItr"), (9, .class_ 94), (0, u "java/util/AbstractList$RandomAccessSubList"), (3, .class_ 99), (0, u "java/util/AbstractList$SubList"), (33, .class_ 134), (0, u "java/util/List"), (73, .class_ 209), (0, u "java/util/AbstractList$SubList$1"), (0, .class_ 211), (0, u "java/util/AbstractList$RandomAccessSpliterator")] 6

def k14c0 : Code := ⟨2, 1, jdk_39_method_1_code, #[], #[]⟩
def k14m0 : Method := ⟨"<init>", "()V", ⟨[], none⟩, 4, some k14c0⟩
def k14 : Class := { plain "java/util/AbstractList" (some 11) with
  accessFlags := 1057
  interfaces := #[13]
  cf := some (fileOf pool14 8 #[.nestMembers #[93, 98, 208, 210, 82, 77]] #[⟨4, 5, 6, #[]⟩] 1057 2 #[133] #[⟨132, 11, 12, #[]⟩])
  fields := #[⟨"modCount", .int, 132, 0, 0⟩]
  methods := #[k14m0]
  instanceTypes := #[.int]
  resolved := Array.replicate 218 none
}

def pool15 : Array CpInfo := pool [(1, .class_ 2), (0, u "java/util/RandomAccess"), (0, .class_ 4), (0, u "java/lang/Object")] 2

def k15 : Class := { plain "java/util/RandomAccess" (some 0) with
  accessFlags := 1537
  cf := some (fileOf pool15 1 #[] #[] 1537 3 #[] #[])
  resolved := Array.replicate 7 none
}

def pool16 : Array CpInfo := pool [(1, .class_ 2), (0, u "java/lang/Cloneable"), (0, .class_ 4), (0, u "java/lang/Object")] 2

def k16 : Class := { plain "java/lang/Cloneable" (some 0) with
  accessFlags := 1537
  cf := some (fileOf pool16 1 #[] #[] 1537 3 #[] #[])
  resolved := Array.replicate 7 none
}

def pool17 : Array CpInfo := pool [(1, .methodref 2 3), (0, .class_ 4), (0, .nameAndType 5 6), (0, u "java/util/AbstractList"), (0, u "<init>"), (0, u "()V"), (0, .class_ 8), (0, u "java/lang/Object"), (0, .fieldref 10 11), (0, .class_ 12), (0, .nameAndType 13 14), (0, u "java/util/ArrayList"), (0, u "elementData"), (0, u "[Ljava/lang/Object;"), (2, u "EMPTY_ELEMENTDATA"), (21, .fieldref 10 40), (0, .nameAndType 41 14), (0, u "DEFAULTCAPACITY_EMPTY_ELEMENTDATA"), (5, u "()[Ljava/lang/Object;"), (0, .fieldref 10 49), (0, .nameAndType 50 51), (0, u "size"), (0, u "I"), (6, .class_ 60), (1, u "java/util/Arrays"), (0, u "copyOf"), (1, .fieldref 10 64), (0, .nameAndType 65 51), (0, u "modCount"), (0, .methodref 58 67), (0, .nameAndType 61 68), (0, u "([Ljava/lang/Object;I)[Ljava/lang/Object;"), (0, .methodref 10 70), (0, .nameAndType 71 72), (0, u "grow"), (0, u "(I)[Ljava/lang/Object;"), (0, .methodref 74 75), (0, .class_ 76), (0, .nameAndType 77 78), (0, u "jdk/internal/util/ArraysSupport"), (0, u "newLength"), (0, u "(III)I"), (0, .methodref 80 81), (0, .class_ 82), (0, .nameAndType 83 84), (0, u "java/lang/Math"), (0, u "max"), (0, u "(II)I"), (11, u "(Ljava/lang/Object;)Z"), (32, .methodref 10 130), (0, .nameAndType 71 47), (0, .methodref 10 132), (0, .nameAndType 133 134), (0, u "add"), (0, u "(Ljava/lang/Object;[Ljava/lang/Object;I)V"), (13, .class_ 149), (0, u "java/util/List"), (16, u "iterator"), (0, u "()Ljava/util/Iterator;"), (18, u "()I"), (75, .class_ 263), (0, u "java/util/ArrayList$ListItr"), (3, .class_ 268), (0, u "java/util/ArrayList$Itr"), (0, .methodref 267 270), (0, .nameAndType 5 271), (0, u "(Ljava/util/ArrayList;)V"), (4, .class_ 277), (0, u "java/util/ArrayList$SubList"), (12, .class_ 291), (0, u "java/util/ArrayList$ArrayListSpliterator"), (37, .class_ 330), (0, u "java/util/RandomAccess"), (0, .class_ 332), (0, u "java/lang/Cloneable"), (0, .class_ 334), (0, u "java/io/Serializable"), (0, u "serialVersionUID"), (0, u "J"), (3, u "DEFAULT_CAPACITY"), (159, .class_ 501), (0, u "java/util/ArrayList$SubList$2"), (0, .class_ 503), (0, u "java/util/ArrayList$SubList$1")] 5

def k17c0 : Code := ⟨2, 1, jdk_38_method_2_code, #[], #[]⟩
def k17m0 : Method := ⟨"<init>", "()V", ⟨[], none⟩, 1, some k17c0⟩
def k17c1 : Code := ⟨4, 4, jdk_38_method_6_code, #[], #[]⟩
def k17m1 : Method := ⟨"grow", "(I)[Ljava/lang/Object;", ⟨[.int], some (.array (.object "java/lang/Object"))⟩, 2, some k17c1⟩
def k17c2 : Code := ⟨3, 1, jdk_38_method_7_code, #[], #[]⟩
def k17m2 : Method := ⟨"grow", "()[Ljava/lang/Object;", ⟨[], some (.array (.object "java/lang/Object"))⟩, 2, some k17c2⟩
def k17c3 : Code := ⟨1, 1, jdk_38_method_8_code, #[], #[]⟩
def k17m3 : Method := ⟨"size", "()I", ⟨[], some .int⟩, 1, some k17c3⟩
def k17c4 : Code := ⟨3, 4, jdk_38_method_24_code, #[], #[]⟩
def k17m4 : Method := ⟨"add", "(Ljava/lang/Object;[Ljava/lang/Object;I)V", ⟨[(.object "java/lang/Object"), (.array (.object "java/lang/Object")), .int], none⟩, 2, some k17c4⟩
def k17c5 : Code := ⟨4, 2, jdk_38_method_25_code, #[], #[]⟩
def k17m5 : Method := ⟨"add", "(Ljava/lang/Object;)Z", ⟨[(.object "java/lang/Object")], some .boolean⟩, 1, some k17c5⟩
def k17c6 : Code := ⟨3, 1, jdk_38_method_55_code, #[], #[]⟩
def k17m6 : Method := ⟨"iterator", "()Ljava/util/Iterator;", ⟨[], some (.object "java/util/Iterator")⟩, 1, some k17c6⟩
def k17 : Class := { plain "java/util/ArrayList" (some 14) with
  accessFlags := 33
  interfaces := #[13, 15, 16, 3]
  cf := some (fileOf pool17 10 #[.nestMembers #[290, 276, 500, 502, 262, 267]] #[⟨1, 5, 6, #[]⟩, ⟨2, 71, 72, #[]⟩, ⟨2, 71, 47, #[]⟩, ⟨1, 50, 186, #[]⟩, ⟨2, 133, 134, #[]⟩, ⟨1, 133, 96, #[]⟩, ⟨1, 166, 167, #[]⟩] 33 2 #[148, 329, 331, 333] #[⟨26, 335, 336, #[]⟩, ⟨26, 340, 51, #[]⟩, ⟨26, 17, 14, #[]⟩, ⟨26, 41, 14, #[]⟩, ⟨128, 13, 14, #[]⟩, ⟨2, 50, 51, #[]⟩])
  fields := #[⟨"serialVersionUID", .long, 26, 0, 0⟩, ⟨"DEFAULT_CAPACITY", .int, 26, 1, 0⟩, ⟨"EMPTY_ELEMENTDATA", (.array (.object "java/lang/Object")), 26, 2, 0⟩, ⟨"DEFAULTCAPACITY_EMPTY_ELEMENTDATA", (.array (.object "java/lang/Object")), 26, 3, 0⟩, ⟨"elementData", (.array (.object "java/lang/Object")), 128, 1, 0⟩, ⟨"size", .int, 2, 2, 0⟩]
  methods := #[k17m0, k17m1, k17m2, k17m3, k17m4, k17m5, k17m6]
  instanceTypes := #[.int, (.array (.object "java/lang/Object")), .int]
  staticTypes := #[.long, .int, (.array (.object "java/lang/Object")), (.array (.object "java/lang/Object"))]
  resolved := Array.replicate 509 none
  statics := some 0 }

def pool18 : Array CpInfo := pool [(2, .class_ 4), (1, u "java/lang/Object"), (24, .class_ 31), (1, u "com/example/rewrought/rewrought/Atom"), (0, u "_predicate"), (0, u "Lcom/example/rewrought/rewrought/Predicate;"), (3, u "[I"), (4, u "_arguments")] 89

def k18 : Class := { plain "com/example/rewrought/rewrought/Atom" (some 0) with
  accessFlags := 49
  cf := some (fileOf pool18 29 #[] #[] 49 2 #[] #[⟨18, 32, 33, #[]⟩, ⟨18, 42, 37, #[]⟩])
  fields := #[⟨"_predicate", (.object "com/example/rewrought/rewrought/Predicate"), 18, 0, 0⟩, ⟨"_arguments", (.array .int), 18, 1, 0⟩]
  instanceTypes := #[(.object "com/example/rewrought/rewrought/Predicate"), (.array .int)]
  resolved := Array.replicate 132 none
}

def pool19 : Array CpInfo := pool [(16, .class_ 18), (1, u "java/util/Iterator"), (0, u "hasNext"), (0, u "()Z"), (10, .class_ 32), (0, u "java/lang/Object")] 20

def k19m0 : Method := ⟨"hasNext", "()Z", ⟨[], some .boolean⟩, 1025, none⟩
def k19 : Class := { plain "java/util/Iterator" (some 0) with
  accessFlags := 1537
  cf := some (fileOf pool19 16 #[] #[⟨1025, 19, 20, #[]⟩] 1537 31 #[] #[])
  methods := #[k19m0]
  resolved := Array.replicate 53 none
}

def pool20 : Array CpInfo := pool [(1, .fieldref 2 3), (0, .class_ 4), (0, .nameAndType 5 6), (0, u "java/util/ArrayList$Itr"), (0, u "this$0"), (0, u "Ljava/util/ArrayList;"), (0, .methodref 8 9), (0, .class_ 10), (0, .nameAndType 11 12), (0, u "java/lang/Object"), (0, u "<init>"), (0, u "()V"), (0, .fieldref 2 14), (0, .nameAndType 15 16), (0, u "lastRet"), (0, u "I"), (0, .fieldref 18 19), (0, .class_ 20), (0, .nameAndType 21 16), (0, u "java/util/ArrayList"), (0, u "modCount"), (0, .fieldref 2 23), (0, .nameAndType 24 16), (0, u "expectedModCount"), (0, .fieldref 2 26), (0, .nameAndType 27 16), (0, u "cursor"), (0, .fieldref 18 29), (0, .nameAndType 30 16), (0, u "size"), (38, .class_ 70), (0, u "java/util/Iterator"), (0, u "(Ljava/util/ArrayList;)V"), (8, u "hasNext"), (0, u "()Z")] 22

def k20c0 : Code := ⟨2, 2, jdk_49_method_1_code, #[], #[]⟩
def k20m0 : Method := ⟨"<init>", "(Ljava/util/ArrayList;)V", ⟨[(.object "java/util/ArrayList")], none⟩, 0, some k20c0⟩
def k20c1 : Code := ⟨2, 1, jdk_49_method_2_code, #[], #[]⟩
def k20m1 : Method := ⟨"hasNext", "()Z", ⟨[], some .boolean⟩, 1, some k20c1⟩
def k20 : Class := { plain "java/util/ArrayList$Itr" (some 0) with
  accessFlags := 32
  interfaces := #[19]
  cf := some (fileOf pool20 2 #[.nestHost 18] #[⟨0, 11, 71, #[]⟩, ⟨1, 80, 81, #[]⟩] 32 8 #[69] #[⟨0, 27, 16, #[]⟩, ⟨0, 15, 16, #[]⟩, ⟨0, 24, 16, #[]⟩, ⟨4112, 5, 6, #[]⟩])
  fields := #[⟨"cursor", .int, 0, 0, 0⟩, ⟨"lastRet", .int, 0, 1, 0⟩, ⟨"expectedModCount", .int, 0, 2, 0⟩, ⟨"this$0", (.object "java/util/ArrayList"), 4112, 3, 0⟩]
  methods := #[k20m0, k20m1]
  instanceTypes := #[.int, .int, .int, (.object "java/util/ArrayList")]
  resolved := Array.replicate 104 none
}

def pool21 : Array CpInfo := pool [(2, .class_ 4), (1, u "java/lang/Object"), (0, u "<init>"), (0, u "()V"), (3, .class_ 11), (0, u "java/util/ImmutableCollections$List12"), (0, .class_ 13), (0, u "java/util/ImmutableCollections$ListN"), (3, u "Z"), (29, .class_ 49), (1, u "java/util/ImmutableCollections"), (0, u "$assertionsDisabled"), (5, u "[Ljava/lang/Object;"), (5, u "EMPTY_LIST"), (0, u "Ljava/util/ImmutableCollections$ListN;"), (8, u "EMPTY_LIST_NULLS"), (22, u "SALT32L"), (0, u "J"), (2, u "REVERSE"), (6, u "archivedObjects"), (2, u "EMPTY"), (0, u "Ljava/lang/Object;"), (0, .class_ 112), (0, u "java/util/ImmutableCollections$SetN"), (5, u "EMPTY_SET"), (0, u "Ljava/util/ImmutableCollections$SetN;"), (0, .class_ 121), (0, u "java/util/ImmutableCollections$MapN"), (3, u "EMPTY_MAP"), (0, u "Ljava/util/ImmutableCollections$MapN;"), (4, u "EXPAND_FACTOR"), (0, u "I"), (36, .class_ 170), (0, u "java/util/ImmutableCollections$MapN$MapNIterator"), (0, .class_ 172), (0, u "java/util/ImmutableCollections$MapN$1"), (0, .class_ 174), (0, u "java/util/ImmutableCollections$Map1"), (0, .class_ 176), (0, u "java/util/ImmutableCollections$AbstractImmutableMap"), (0, .class_ 178), (0, u "java/util/ImmutableCollections$SetN$SetNIterator"), (0, .class_ 180), (0, u "java/util/ImmutableCollections$Set12"), (0, .class_ 182), (0, u "java/util/ImmutableCollections$Set12$1"), (0, .class_ 184), (0, u "java/util/ImmutableCollections$AbstractImmutableSet"), (0, .class_ 186), (0, u "java/util/ImmutableCollections$SubList"), (0, .class_ 188), (0, u "java/util/ImmutableCollections$ListItr"), (0, .class_ 190), (0, u "java/util/ImmutableCollections$AbstractImmutableList"), (0, .class_ 192), (0, u "java/util/ImmutableCollections$AbstractImmutableCollection"), (0, .class_ 194), (0, u "java/util/ImmutableCollections$Access"), (0, .class_ 196), (0, u "java/util/ImmutableCollections$Access$1")] 16

def k21m0 : Method := ⟨"<init>", "()V", ⟨[], none⟩, 2, none⟩
def k21 : Class := { plain "java/util/ImmutableCollections" (some 0) with
  accessFlags := 32
  cf := some (fileOf pool21 47 #[.nestMembers #[120, 169, 171, 173, 175, 111, 177, 179, 181, 183, 12, 10, 185, 187, 189, 191, 193, 195]] #[⟨2, 5, 6, #[]⟩] 32 2 #[] #[⟨26, 95, 96, #[]⟩, ⟨26, 99, 17, #[]⟩, ⟨10, 106, 56, #[]⟩, ⟨26, 109, 110, #[]⟩, ⟨24, 62, 63, #[]⟩, ⟨24, 72, 63, #[]⟩, ⟨24, 118, 119, #[]⟩, ⟨24, 125, 126, #[]⟩, ⟨24, 131, 132, #[]⟩, ⟨4120, 50, 17, #[]⟩])
  fields := #[⟨"SALT32L", .long, 26, 0, 0⟩, ⟨"REVERSE", .boolean, 26, 1, 0⟩, ⟨"archivedObjects", (.array (.object "java/lang/Object")), 10, 2, 0⟩, ⟨"EMPTY", (.object "java/lang/Object"), 26, 3, 0⟩, ⟨"EMPTY_LIST", (.object "java/util/ImmutableCollections$ListN"), 24, 4, 0⟩, ⟨"EMPTY_LIST_NULLS", (.object "java/util/ImmutableCollections$ListN"), 24, 5, 0⟩, ⟨"EMPTY_SET", (.object "java/util/ImmutableCollections$SetN"), 24, 6, 0⟩, ⟨"EMPTY_MAP", (.object "java/util/ImmutableCollections$MapN"), 24, 7, 0⟩, ⟨"EXPAND_FACTOR", .int, 24, 8, 0⟩, ⟨"$assertionsDisabled", .boolean, 4120, 9, 0⟩]
  methods := #[k21m0]
  staticTypes := #[.long, .boolean, (.array (.object "java/lang/Object")), (.object "java/lang/Object"), (.object "java/util/ImmutableCollections$ListN"), (.object "java/util/ImmutableCollections$ListN"), (.object "java/util/ImmutableCollections$SetN"), (.object "java/util/ImmutableCollections$MapN"), .int, .boolean]
  resolved := Array.replicate 213 none
  statics := some 1 }

def pool22 : Array CpInfo := pool [(2, .class_ 4), (1, u "java/util/AbstractCollection"), (0, u "<init>"), (0, u "()V"), (1, .class_ 10), (1, u "java/util/ImmutableCollections"), (2, .class_ 14), (0, u "java/util/ImmutableCollections$AbstractImmutableCollection")] 41

def k22m0 : Method := ⟨"<init>", "()V", ⟨[], none⟩, 0, none⟩
def k22 : Class := { plain "java/util/ImmutableCollections$AbstractImmutableCollection" (some 11) with
  accessFlags := 1056
  cf := some (fileOf pool22 13 #[.nestHost 8] #[⟨0, 5, 6, #[]⟩] 1056 2 #[] #[])
  methods := #[k22m0]
  resolved := Array.replicate 56 none
}

def pool23 : Array CpInfo := pool [(2, .class_ 4), (1, u "java/util/ImmutableCollections$AbstractImmutableCollection"), (0, u "<init>"), (0, u "()V"), (1, .class_ 10), (1, u "java/util/ImmutableCollections"), (2, .methodref 14 15), (0, .class_ 16), (0, .nameAndType 17 18), (0, u "java/util/ImmutableCollections$AbstractImmutableList"), (0, u "size"), (0, u "()I"), (42, .class_ 62), (0, u "java/util/ImmutableCollections$ListItr"), (0, .methodref 61 64), (0, .nameAndType 5 65), (0, u "(Ljava/util/List;I)V"), (11, .class_ 78), (0, u "java/util/List"), (2, u "iterator"), (0, u "()Ljava/util/Iterator;"), (41, .class_ 125), (0, u "java/util/RandomAccess")] 70

def k23m0 : Method := ⟨"<init>", "()V", ⟨[], none⟩, 0, none⟩
def k23c1 : Code := ⟨4, 1, jdk_46_method_10_code, #[], #[]⟩
def k23m1 : Method := ⟨"iterator", "()Ljava/util/Iterator;", ⟨[], some (.object "java/util/Iterator")⟩, 1, some k23c1⟩
def k23 : Class := { plain "java/util/ImmutableCollections$AbstractImmutableList" (some 22) with
  accessFlags := 1056
  interfaces := #[13, 15]
  cf := some (fileOf pool23 14 #[.nestHost 8] #[⟨0, 5, 6, #[]⟩, ⟨1, 81, 82, #[]⟩] 1056 2 #[77, 124] #[])
  methods := #[k23m0, k23m1]
  resolved := Array.replicate 196 none
}

def pool24 : Array CpInfo := pool [(2, .class_ 4), (1, u "java/util/ImmutableCollections$AbstractImmutableList"), (2, .fieldref 8 9), (0, .class_ 10), (0, .nameAndType 11 12), (0, u "java/util/ImmutableCollections$ListN"), (0, u "elements"), (0, u "[Ljava/lang/Object;"), (2, u "allowNulls"), (0, u "Z"), (42, .class_ 60), (0, u "java/io/Serializable"), (16, u "size"), (0, u "()I"), (35, .class_ 115), (0, u "java/util/ImmutableCollections")] 3

def k24c0 : Code := ⟨1, 1, jdk_45_method_3_code, #[], #[]⟩
def k24m0 : Method := ⟨"size", "()I", ⟨[], some .int⟩, 1, some k24c0⟩
def k24 : Class := { plain "java/util/ImmutableCollections$ListN" (some 23) with
  accessFlags := 48
  interfaces := #[3]
  cf := some (fileOf pool24 8 #[.nestHost 114] #[⟨1, 77, 78, #[]⟩] 48 2 #[59] #[⟨18, 11, 12, #[]⟩, ⟨18, 15, 16, #[]⟩])
  fields := #[⟨"elements", (.array (.object "java/lang/Object")), 18, 0, 0⟩, ⟨"allowNulls", .boolean, 18, 1, 0⟩]
  methods := #[k24m0]
  instanceTypes := #[(.array (.object "java/lang/Object")), .boolean]
  resolved := Array.replicate 119 none
}

def pool25 : Array CpInfo := pool [(1, .class_ 2), (0, u "java/util/ListIterator"), (0, .class_ 4), (0, u "java/lang/Object"), (0, .class_ 6), (0, u "java/util/Iterator")] 20

def k25 : Class := { plain "java/util/ListIterator" (some 0) with
  accessFlags := 1537
  interfaces := #[19]
  cf := some (fileOf pool25 1 #[] #[] 1537 3 #[5] #[])
  resolved := Array.replicate 27 none
}

def pool26 : Array CpInfo := pool [(1, .methodref 2 3), (0, .class_ 4), (0, .nameAndType 5 6), (0, u "java/lang/Object"), (0, u "<init>"), (0, u "()V"), (0, .fieldref 8 9), (0, .class_ 10), (0, .nameAndType 11 12), (0, u "java/util/ImmutableCollections$ListItr"), (0, u "list"), (0, u "Ljava/util/List;"), (0, .fieldref 8 14), (0, .nameAndType 15 16), (0, u "size"), (0, u "I"), (0, .fieldref 8 18), (0, .nameAndType 19 16), (0, u "cursor"), (0, .fieldref 8 21), (0, .nameAndType 22 23), (0, u "isListIterator"), (0, u "Z"), (12, .class_ 38), (1, u "java/util/ImmutableCollections"), (2, .class_ 42), (0, u "java/util/ListIterator"), (4, u "(Ljava/util/List;I)V"), (11, u "hasNext"), (0, u "()Z")] 25

def k26c0 : Code := ⟨2, 3, jdk_53_method_1_code, #[], #[]⟩
def k26m0 : Method := ⟨"<init>", "(Ljava/util/List;I)V", ⟨[(.object "java/util/List"), .int], none⟩, 0, some k26c0⟩
def k26c1 : Code := ⟨2, 1, jdk_53_method_3_code, #[], #[]⟩
def k26m1 : Method := ⟨"hasNext", "()Z", ⟨[], some .boolean⟩, 1, some k26c1⟩
def k26 : Class := { plain "java/util/ImmutableCollections$ListItr" (some 0) with
  accessFlags := 48
  interfaces := #[25]
  cf := some (fileOf pool26 8 #[.nestHost 36] #[⟨0, 5, 47, #[]⟩, ⟨1, 59, 60, #[]⟩] 48 2 #[41] #[⟨18, 11, 12, #[]⟩, ⟨18, 15, 16, #[]⟩, ⟨18, 22, 23, #[]⟩, ⟨2, 19, 16, #[]⟩])
  fields := #[⟨"list", (.object "java/util/List"), 18, 0, 0⟩, ⟨"size", .int, 18, 1, 0⟩, ⟨"isListIterator", .boolean, 18, 2, 0⟩, ⟨"cursor", .int, 2, 3, 0⟩]
  methods := #[k26m0, k26m1]
  instanceTypes := #[(.object "java/util/List"), .int, .boolean, .int]
  resolved := Array.replicate 86 none
}

def pool27 : Array CpInfo := pool [(13, .class_ 14), (0, u "com/example/rewrought/rewrought/Descendant"), (3, u "<init>"), (0, u "(Lcom/example/rewrought/rewrought/ConjunctiveQuery;[I)V"), (2, u "NO_IMAGES"), (0, u "[I"), (0, .methodref 25 26), (0, .class_ 27), (0, .nameAndType 18 28), (0, u "java/lang/Object"), (0, u "()V"), (0, .fieldref 13 30), (0, .nameAndType 31 32), (0, u "_cq"), (0, u "Lcom/example/rewrought/rewrought/ConjunctiveQuery;"), (0, .fieldref 13 34), (0, .nameAndType 35 23), (0, u "_images"), (44, u "GONE"), (0, u "I"), (7, u "cq"), (0, u "()Lcom/example/rewrought/rewrought/ConjunctiveQuery;")] 12

def k27c0 : Code := ⟨2, 3, prog_14_method_3_code, #[], #[]⟩
def k27m0 : Method := ⟨"<init>", "(Lcom/example/rewrought/rewrought/ConjunctiveQuery;[I)V", ⟨[(.object "com/example/rewrought/rewrought/ConjunctiveQuery"), (.array .int)], none⟩, 0, some k27c0⟩
def k27c1 : Code := ⟨1, 1, prog_14_method_4_code, #[], #[]⟩
def k27m1 : Method := ⟨"cq", "()Lcom/example/rewrought/rewrought/ConjunctiveQuery;", ⟨[], some (.object "com/example/rewrought/rewrought/ConjunctiveQuery")⟩, 0, some k27c1⟩
def k27 : Class := { plain "com/example/rewrought/rewrought/Descendant" (some 0) with
  accessFlags := 48
  cf := some (fileOf pool27 13 #[] #[⟨0, 18, 19, #[]⟩, ⟨0, 89, 90, #[]⟩] 48 25 #[] #[⟨24, 80, 81, #[]⟩, ⟨26, 22, 23, #[]⟩, ⟨18, 31, 32, #[]⟩, ⟨18, 35, 23, #[]⟩])
  fields := #[⟨"GONE", .int, 24, 0, 0⟩, ⟨"NO_IMAGES", (.array .int), 26, 1, 0⟩, ⟨"_cq", (.object "com/example/rewrought/rewrought/ConjunctiveQuery"), 18, 0, 0⟩, ⟨"_images", (.array .int), 18, 1, 0⟩]
  methods := #[k27m0, k27m1]
  instanceTypes := #[(.object "com/example/rewrought/rewrought/ConjunctiveQuery"), (.array .int)]
  staticTypes := #[.int, (.array .int)]
  resolved := Array.replicate 103 none
}

def pool28 : Array CpInfo := pool [(1, .methodref 2 3), (0, .class_ 4), (0, .nameAndType 5 6), (0, u "java/lang/Object"), (0, u "<init>"), (0, u "()V"), (0, .class_ 8), (0, u "com/example/rewrought/rewrought/MinimalUnion"), (0, .methodref 7 3), (0, .fieldref 11 12), (0, .class_ 13), (0, .nameAndType 14 15), (0, u "com/example/rewrought/rewrought/Derivations"), (0, u "_union"), (0, u "Lcom/example/rewrought/rewrought/MinimalUnion;"), (0, .fieldref 11 17), (0, .nameAndType 18 19), (0, u "_expanded"), (0, u "[Z"), (0, .fieldref 11 21), (0, .nameAndType 22 19), (0, u "_complete"), (0, .fieldref 11 24), (0, .nameAndType 25 19), (0, u "_lost"), (0, .class_ 27), (0, u "java/util/ArrayList"), (0, .methodref 26 3), (0, .fieldref 11 30), (0, .nameAndType 31 32), (0, u "_children"), (0, u "Ljava/util/List;"), (0, .fieldref 11 34), (0, .nameAndType 35 32), (0, u "_steps"), (0, .fieldref 11 37), (0, .nameAndType 38 32), (0, u "_dropped"), (0, .fieldref 11 40), (0, .nameAndType 41 32), (0, u "_droppedSteps"), (0, .class_ 43), (0, u "java/util/ArrayDeque"), (0, .methodref 42 3), (0, .fieldref 11 46), (0, .nameAndType 47 48), (0, u "_waiting"), (0, u "Ljava/util/Deque;"), (7, .fieldref 11 57), (0, .nameAndType 58 59), (0, u "_linked"), (0, u "Z"), (0, .fieldref 11 61), (0, .nameAndType 62 59), (0, u "_axiomSets"), (2, u "admitted"), (0, u "()I"), (2, u "add"), (0, u "(Lcom/example/rewrought/rewrought/Descendant;)I"), (0, .methodref 11 72), (0, .nameAndType 65 73), (0, u "(IZ)I"), (10, .methodref 7 85), (0, .nameAndType 86 70), (0, u "admitApart"), (10, .interfaceMethodref 98 99), (0, .class_ 100), (0, .nameAndType 69 101), (0, u "java/util/List"), (0, u "(Ljava/lang/Object;)Z"), (0, .interfaceMethodref 98 103), (0, .nameAndType 104 105), (0, u "of"), (0, u "()Ljava/util/List;"), (0, .methodref 107 108), (0, .class_ 109), (0, .nameAndType 110 111), (0, u "java/lang/Integer"), (0, u "valueOf"), (0, u "(I)Ljava/lang/Integer;"), (0, .interfaceMethodref 113 99), (0, .class_ 114), (0, u "java/util/Deque"), (9, u "(II[I)V"), (2, u "link"), (22, .interfaceMethodref 113 151), (0, .nameAndType 152 153), (0, u "isEmpty"), (0, u "()Z"), (0, .interfaceMethodref 113 155), (0, .nameAndType 156 157), (0, u "remove"), (0, u "()Ljava/lang/Object;"), (0, .methodref 107 159), (0, .nameAndType 160 66), (0, u "intValue"), (0, .methodref 7 162), (0, .nameAndType 163 164), (0, u "holds"), (0, u "(I)Z"), (7, u "(ZZ)V"), (4, u "addRecorded"), (0, u "(Lcom/example/rewrought/rewrought/Descendant;IZZ)I"), (3, u "finish"), (0, u "(IZ)V"), (1, u "next"), (9, u "expanded"), (0, u "complete")] 2

def k28c0 : Code := ⟨3, 3, prog_12_method_1_code, #[], #[]⟩
def k28m0 : Method := ⟨"<init>", "(ZZ)V", ⟨[.boolean, .boolean], none⟩, 0, some k28c0⟩
def k28c1 : Code := ⟨3, 6, prog_12_method_4_code, #[], #[]⟩
def k28m1 : Method := ⟨"addRecorded", "(Lcom/example/rewrought/rewrought/Descendant;IZZ)I", ⟨[(.object "com/example/rewrought/rewrought/Descendant"), .int, .boolean, .boolean], some .int⟩, 0, some k28c1⟩
def k28c2 : Code := ⟨4, 3, prog_12_method_5_code, #[], #[]⟩
def k28m2 : Method := ⟨"admitted", "(IZ)I", ⟨[.int, .boolean], some .int⟩, 2, some k28c2⟩
def k28c3 : Code := ⟨5, 4, prog_12_method_7_code, #[], #[]⟩
def k28m3 : Method := ⟨"link", "(II[I)V", ⟨[.int, .int, (.array .int)], none⟩, 0, some k28c3⟩
def k28c4 : Code := ⟨4, 3, prog_12_method_10_code, #[], #[]⟩
def k28m4 : Method := ⟨"finish", "(IZ)V", ⟨[.int, .boolean], none⟩, 0, some k28c4⟩
def k28c5 : Code := ⟨2, 2, prog_12_method_11_code, #[], #[]⟩
def k28m5 : Method := ⟨"next", "()I", ⟨[], some .int⟩, 0, some k28c5⟩
def k28c6 : Code := ⟨2, 2, prog_12_method_18_code, #[], #[]⟩
def k28m6 : Method := ⟨"expanded", "(I)Z", ⟨[.int], some .boolean⟩, 0, some k28c6⟩
def k28c7 : Code := ⟨2, 2, prog_12_method_19_code, #[], #[]⟩
def k28m7 : Method := ⟨"complete", "(I)Z", ⟨[.int], some .boolean⟩, 0, some k28c7⟩
def k28 : Class := { plain "com/example/rewrought/rewrought/Derivations" (some 0) with
  accessFlags := 48
  cf := some (fileOf pool28 11 #[] #[⟨0, 5, 172, #[]⟩, ⟨0, 177, 178, #[]⟩, ⟨2, 65, 73, #[]⟩, ⟨0, 127, 124, #[]⟩, ⟨0, 182, 183, #[]⟩, ⟨0, 185, 66, #[]⟩, ⟨0, 195, 164, #[]⟩, ⟨0, 196, 164, #[]⟩] 48 2 #[] #[⟨18, 58, 59, #[]⟩, ⟨18, 62, 59, #[]⟩, ⟨18, 14, 15, #[]⟩, ⟨2, 18, 19, #[]⟩, ⟨2, 22, 19, #[]⟩, ⟨2, 25, 19, #[]⟩, ⟨18, 31, 32, #[]⟩, ⟨18, 35, 32, #[]⟩, ⟨18, 38, 32, #[]⟩, ⟨18, 41, 32, #[]⟩, ⟨18, 47, 48, #[]⟩])
  fields := #[⟨"_linked", .boolean, 18, 0, 0⟩, ⟨"_axiomSets", .boolean, 18, 1, 0⟩, ⟨"_union", (.object "com/example/rewrought/rewrought/MinimalUnion"), 18, 2, 0⟩, ⟨"_expanded", (.array .boolean), 2, 3, 0⟩, ⟨"_complete", (.array .boolean), 2, 4, 0⟩, ⟨"_lost", (.array .boolean), 2, 5, 0⟩, ⟨"_children", (.object "java/util/List"), 18, 6, 0⟩, ⟨"_steps", (.object "java/util/List"), 18, 7, 0⟩, ⟨"_dropped", (.object "java/util/List"), 18, 8, 0⟩, ⟨"_droppedSteps", (.object "java/util/List"), 18, 9, 0⟩, ⟨"_waiting", (.object "java/util/Deque"), 18, 10, 0⟩]
  methods := #[k28m0, k28m1, k28m2, k28m3, k28m4, k28m5, k28m6, k28m7]
  instanceTypes := #[.boolean, .boolean, (.object "com/example/rewrought/rewrought/MinimalUnion"), (.array .boolean), (.array .boolean), (.array .boolean), (.object "java/util/List"), (.object "java/util/List"), (.object "java/util/List"), (.object "java/util/List"), (.object "java/util/Deque")]
  resolved := Array.replicate 199 none
}

def pool29 : Array CpInfo := pool [(1, .methodref 2 3), (0, .class_ 4), (0, .nameAndType 5 6), (0, u "java/lang/Object"), (0, u "<init>"), (0, u "()V"), (0, .class_ 8), (0, u "java/util/ArrayList"), (0, .methodref 7 3), (0, .fieldref 11 12), (0, .class_ 13), (0, .nameAndType 14 15), (0, u "com/example/rewrought/rewrought/MinimalUnion"), (0, u "_members"), (0, u "Ljava/util/List;"), (0, .fieldref 11 17), (0, .nameAndType 18 19), (0, u "_masks"), (0, u "[J"), (0, .fieldref 11 21), (0, .nameAndType 22 23), (0, u "_held"), (0, u "[Z"), (0, .fieldref 11 25), (0, .nameAndType 26 27), (0, u "_displacers"), (0, u "[I"), (0, .class_ 29), (0, u "com/example/rewrought/rewrought/PredicateIndex"), (0, .methodref 28 3), (0, .fieldref 11 32), (0, .nameAndType 33 34), (0, u "_index"), (0, u "Lcom/example/rewrought/rewrought/PredicateIndex;"), (1, .class_ 38), (1, u "java/util/List"), (21, .class_ 61), (0, u "com/example/rewrought/rewrought/ConjunctiveQuery"), (1, .class_ 65), (1, u "com/example/rewrought/rewrought/Descendant"), (5, u "(Lcom/example/rewrought/rewrought/Descendant;)I"), (12, .interfaceMethodref 36 85), (0, .nameAndType 86 87), (0, u "add"), (0, u "(Ljava/lang/Object;)Z"), (0, .fieldref 11 89), (0, .nameAndType 90 91), (0, u "_size"), (0, u "I"), (4, .methodref 60 97), (0, .nameAndType 98 99), (0, u "predicateMask"), (0, u "()J"), (30, .methodref 63 131), (0, .nameAndType 132 133), (0, u "cq"), (0, u "()Lcom/example/rewrought/rewrought/ConjunctiveQuery;"), (9, .methodref 11 144), (0, .nameAndType 145 146), (0, u "append"), (0, u "(Lcom/example/rewrought/rewrought/Descendant;Z)I"), (32, u "_indexed"), (17, u "admitApart"), (6, u "holds"), (0, u "(I)Z")] 7

def k29c0 : Code := ⟨3, 1, prog_25_method_1_code, #[], #[]⟩
def k29m0 : Method := ⟨"<init>", "()V", ⟨[], none⟩, 0, some k29c0⟩
def k29c1 : Code := ⟨3, 2, prog_25_method_8_code, #[], #[]⟩
def k29m1 : Method := ⟨"admitApart", "(Lcom/example/rewrought/rewrought/Descendant;)I", ⟨[(.object "com/example/rewrought/rewrought/Descendant")], some .int⟩, 0, some k29c1⟩
def k29c2 : Code := ⟨4, 3, prog_25_method_10_code, #[], #[]⟩
def k29m2 : Method := ⟨"append", "(Lcom/example/rewrought/rewrought/Descendant;Z)I", ⟨[(.object "com/example/rewrought/rewrought/Descendant"), .boolean], some .int⟩, 2, some k29c2⟩
def k29c3 : Code := ⟨2, 2, prog_25_method_18_code, #[], #[]⟩
def k29m3 : Method := ⟨"holds", "(I)Z", ⟨[.int], some .boolean⟩, 0, some k29c3⟩
def k29 : Class := { plain "com/example/rewrought/rewrought/MinimalUnion" (some 0) with
  accessFlags := 48
  cf := some (fileOf pool29 11 #[] #[⟨0, 5, 6, #[]⟩, ⟨0, 197, 71, #[]⟩, ⟨2, 145, 146, #[]⟩, ⟨0, 204, 205, #[]⟩] 48 2 #[] #[⟨18, 14, 15, #[]⟩, ⟨2, 90, 91, #[]⟩, ⟨2, 18, 19, #[]⟩, ⟨2, 22, 23, #[]⟩, ⟨2, 26, 27, #[]⟩, ⟨18, 33, 34, #[]⟩, ⟨2, 179, 91, #[]⟩])
  fields := #[⟨"_members", (.object "java/util/List"), 18, 0, 0⟩, ⟨"_size", .int, 2, 1, 0⟩, ⟨"_masks", (.array .long), 2, 2, 0⟩, ⟨"_held", (.array .boolean), 2, 3, 0⟩, ⟨"_displacers", (.array .int), 2, 4, 0⟩, ⟨"_index", (.object "com/example/rewrought/rewrought/PredicateIndex"), 18, 5, 0⟩, ⟨"_indexed", .int, 2, 6, 0⟩]
  methods := #[k29m0, k29m1, k29m2, k29m3]
  instanceTypes := #[(.object "java/util/List"), .int, (.array .long), (.array .boolean), (.array .int), (.object "com/example/rewrought/rewrought/PredicateIndex"), .int]
  resolved := Array.replicate 213 none
}

def pool30 : Array CpInfo := pool [(1, .methodref 2 3), (0, .class_ 4), (0, .nameAndType 5 6), (0, u "java/lang/Object"), (0, u "<init>"), (0, u "()V"), (0, .class_ 8), (0, u "java/util/HashMap"), (0, .methodref 7 3), (0, .fieldref 11 12), (0, .class_ 13), (0, .nameAndType 14 15), (0, u "com/example/rewrought/rewrought/PredicateIndex"), (0, u "_buckets"), (0, u "Ljava/util/Map;"), (0, .class_ 17), (0, u "java/util/ArrayList"), (0, .methodref 16 3), (0, .fieldref 11 20), (0, .nameAndType 21 22), (0, u "_masks"), (0, u "Ljava/util/List;"), (0, .fieldref 11 24), (0, .nameAndType 25 22), (0, u "_withBit"), (0, .fieldref 11 27), (0, .nameAndType 28 22), (0, u "_underBit"), (2, .interfaceMethodref 32 33), (0, .class_ 34), (0, .nameAndType 35 36), (0, u "java/util/List"), (0, u "add"), (0, u "(Ljava/lang/Object;)Z"), (14, .class_ 52), (0, u "com/example/rewrought/rewrought/PredicateIndex$Bucket"), (58, u "I"), (12, u "FEW"), (2, u "LOOKUP_STEPS")] 20

def k30c0 : Code := ⟨3, 2, prog_27_method_1_code, #[], #[]⟩
def k30m0 : Method := ⟨"<init>", "()V", ⟨[], none⟩, 0, some k30c0⟩
def k30 : Class := { plain "com/example/rewrought/rewrought/PredicateIndex" (some 0) with
  accessFlags := 48
  cf := some (fileOf pool30 11 #[.nestMembers #[51]] #[⟨0, 5, 6, #[]⟩] 48 2 #[] #[⟨26, 124, 111, #[]⟩, ⟨26, 127, 111, #[]⟩, ⟨18, 14, 15, #[]⟩, ⟨18, 21, 22, #[]⟩, ⟨18, 25, 22, #[]⟩, ⟨18, 28, 22, #[]⟩])
  fields := #[⟨"FEW", .int, 26, 0, 0⟩, ⟨"LOOKUP_STEPS", .int, 26, 1, 0⟩, ⟨"_buckets", (.object "java/util/Map"), 18, 0, 0⟩, ⟨"_masks", (.object "java/util/List"), 18, 1, 0⟩, ⟨"_withBit", (.object "java/util/List"), 18, 2, 0⟩, ⟨"_underBit", (.object "java/util/List"), 18, 3, 0⟩]
  methods := #[k30m0]
  instanceTypes := #[(.object "java/util/Map"), (.object "java/util/List"), (.object "java/util/List"), (.object "java/util/List")]
  staticTypes := #[.int, .int]
  resolved := Array.replicate 148 none
}

def pool31 : Array CpInfo := pool [(2, .class_ 4), (1, u "java/util/Map"), (31, .class_ 37), (0, u "java/util/Map$Entry"), (55, .class_ 94), (0, u "java/lang/Object")] 168

def k31 : Class := { plain "java/util/Map" (some 0) with
  accessFlags := 1537
  cf := some (fileOf pool31 2 #[.nestMembers #[36]] #[] 1537 93 #[] #[])
  resolved := Array.replicate 263 none
}

def pool32 : Array CpInfo := pool [(1, .methodref 2 3), (0, .class_ 4), (0, .nameAndType 5 6), (0, u "java/lang/Object"), (0, u "<init>"), (0, u "()V"), (1, .class_ 10), (1, u "java/util/AbstractMap"), (42, .class_ 54), (0, u "java/util/Map"), (9, u "keySet"), (0, u "Ljava/util/Set;"), (0, .class_ 67), (0, u "java/util/AbstractMap$1"), (5, u "values"), (0, u "Ljava/util/Collection;"), (0, .class_ 76), (0, u "java/util/AbstractMap$2"), (104, .class_ 182), (0, u "java/util/AbstractMap$ViewCollection"), (0, .class_ 184), (0, u "java/util/AbstractMap$SimpleImmutableEntry"), (0, .class_ 186), (0, u "java/util/AbstractMap$SimpleEntry"), (0, .class_ 188), (0, u "java/util/AbstractMap$2$1"), (0, .class_ 190), (0, u "java/util/AbstractMap$1$1")] 5

def k32c0 : Code := ⟨1, 1, jdk_71_method_1_code, #[], #[]⟩
def k32m0 : Method := ⟨"<init>", "()V", ⟨[], none⟩, 4, some k32c0⟩
def k32 : Class := { plain "java/util/AbstractMap" (some 0) with
  accessFlags := 1057
  interfaces := #[31]
  cf := some (fileOf pool32 8 #[.nestMembers #[181, 183, 185, 75, 187, 66, 189]] #[⟨4, 5, 6, #[]⟩] 1057 2 #[53] #[⟨128, 64, 65, #[]⟩, ⟨128, 73, 74, #[]⟩])
  fields := #[⟨"keySet", (.object "java/util/Set"), 128, 0, 0⟩, ⟨"values", (.object "java/util/Collection"), 128, 1, 0⟩]
  methods := #[k32m0]
  instanceTypes := #[(.object "java/util/Set"), (.object "java/util/Collection")]
  resolved := Array.replicate 196 none
}

def pool33 : Array CpInfo := pool [(40, .class_ 41), (0, u "java/util/HashMap"), (1, .methodref 44 45), (0, .class_ 46), (0, .nameAndType 47 48), (0, u "java/util/AbstractMap"), (0, u "<init>"), (0, u "()V"), (32, .fieldref 40 82), (0, .nameAndType 83 84), (0, u "loadFactor"), (0, u "F"), (5, u "threshold"), (0, u "I"), (0, .float 1061158912), (8, .class_ 103), (1, u "java/util/Map"), (0, u "size"), (2, u "table"), (0, u "[Ljava/util/HashMap$Node;"), (14, u "entrySet"), (39, .class_ 165), (1, u "java/util/HashMap$Node"), (14, .class_ 181), (0, u "java/util/HashMap$TreeNode"), (22, u "modCount"), (37, u "Ljava/util/Set;"), (0, .class_ 244), (0, u "java/util/HashMap$KeySet"), (18, .class_ 264), (0, u "java/util/HashMap$Values"), (3, .class_ 269), (0, u "java/util/HashMap$EntrySet"), (76, .class_ 348), (1, u "java/util/HashMap$UnsafeHolder"), (43, .class_ 393), (0, u "java/lang/Cloneable"), (0, .class_ 395), (0, u "java/io/Serializable"), (0, u "serialVersionUID"), (0, u "J"), (3, u "DEFAULT_INITIAL_CAPACITY"), (1, u "MAXIMUM_CAPACITY"), (0, u "DEFAULT_LOAD_FACTOR"), (0, u "TREEIFY_THRESHOLD"), (1, u "UNTREEIFY_THRESHOLD"), (1, u "MIN_TREEIFY_CAPACITY"), (186, .class_ 597), (0, u "java/util/HashMap$EntrySpliterator"), (0, .class_ 599), (0, u "java/util/HashMap$ValueSpliterator"), (0, .class_ 601), (0, u "java/util/HashMap$KeySpliterator"), (0, .class_ 603), (0, u "java/util/HashMap$HashMapSpliterator"), (0, .class_ 605), (0, u "java/util/HashMap$EntryIterator"), (0, .class_ 607), (0, u "java/util/HashMap$ValueIterator"), (0, .class_ 609), (0, u "java/util/HashMap$KeyIterator"), (0, .class_ 611), (0, u "java/util/HashMap$HashIterator")] 17

def k33c0 : Code := ⟨2, 1, jdk_69_method_7_code, #[], #[]⟩
def k33m0 : Method := ⟨"<init>", "()V", ⟨[], none⟩, 1, some k33c0⟩
def k33 : Class := { plain "java/util/HashMap" (some 32) with
  accessFlags := 33
  interfaces := #[31, 16, 3]
  cf := some (fileOf pool33 40 #[.nestMembers #[180, 596, 598, 600, 602, 604, 606, 608, 610, 346, 268, 263, 243, 163]] #[⟨1, 47, 48, #[]⟩] 33 44 #[101, 392, 394] #[⟨26, 396, 397, #[]⟩, ⟨24, 401, 91, #[]⟩, ⟨24, 403, 91, #[]⟩, ⟨24, 404, 84, #[]⟩, ⟨24, 405, 91, #[]⟩, ⟨24, 407, 91, #[]⟩, ⟨24, 409, 91, #[]⟩, ⟨128, 107, 108, #[]⟩, ⟨128, 123, 242, #[]⟩, ⟨128, 104, 91, #[]⟩, ⟨128, 204, 91, #[]⟩, ⟨0, 90, 91, #[]⟩, ⟨16, 83, 84, #[]⟩])
  fields := #[⟨"serialVersionUID", .long, 26, 0, 0⟩, ⟨"DEFAULT_INITIAL_CAPACITY", .int, 24, 1, 0⟩, ⟨"MAXIMUM_CAPACITY", .int, 24, 2, 0⟩, ⟨"DEFAULT_LOAD_FACTOR", .float, 24, 3, 0⟩, ⟨"TREEIFY_THRESHOLD", .int, 24, 4, 0⟩, ⟨"UNTREEIFY_THRESHOLD", .int, 24, 5, 0⟩, ⟨"MIN_TREEIFY_CAPACITY", .int, 24, 6, 0⟩, ⟨"table", (.array (.object "java/util/HashMap$Node")), 128, 2, 0⟩, ⟨"entrySet", (.object "java/util/Set"), 128, 3, 0⟩, ⟨"size", .int, 128, 4, 0⟩, ⟨"modCount", .int, 128, 5, 0⟩, ⟨"threshold", .int, 0, 6, 0⟩, ⟨"loadFactor", .float, 16, 7, 0⟩]
  methods := #[k33m0]
  instanceTypes := #[(.object "java/util/Set"), (.object "java/util/Collection"), (.array (.object "java/util/HashMap$Node")), (.object "java/util/Set"), .int, .int, .int, .float]
  staticTypes := #[.long, .int, .int, .float, .int, .int, .int]
  resolved := Array.replicate 629 none
}

def pool34 : Array CpInfo := pool [(1, .class_ 2), (0, u "java/lang/Math"), (1, .class_ 6), (1, u "java/lang/Object"), (0, u "<init>"), (0, u "()V"), (89, .class_ 100), (1, u "java/lang/Math$RandomNumberGeneratorHolder"), (71, u "negativeZeroFloatBits"), (0, u "J"), (2, u "negativeZeroDoubleBits"), (21, u "max"), (2, u "min"), (43, u "$assertionsDisabled"), (0, u "Z"), (88, u "(II)I"), (2, u "twoToTheDoubleScaleDown"), (0, u "D"), (4, u "twoToTheDoubleScaleUp"), (9, u "E"), (3, u "PI"), (2, u "TAU"), (2, u "DEGREES_TO_RADIANS"), (0, u "RADIANS_TO_DEGREES")] 94

def k34m0 : Method := ⟨"<init>", "()V", ⟨[], none⟩, 2, none⟩
def k34c1 : Code := ⟨2, 2, jdk_29_method_65_code, #[], #[]⟩
def k34m1 : Method := ⟨"max", "(II)I", ⟨[.int, .int], some .int⟩, 9, some k34c1⟩
def k34c2 : Code := ⟨2, 2, jdk_29_method_69_code, #[], #[]⟩
def k34m2 : Method := ⟨"min", "(II)I", ⟨[.int, .int], some .int⟩, 9, some k34c2⟩
def k34 : Class := { plain "java/lang/Math" (some 0) with
  accessFlags := 49
  cf := some (fileOf pool34 1 #[.nestMembers #[98]] #[⟨2, 7, 8, #[]⟩, ⟨9, 198, 335, #[]⟩, ⟨9, 201, 335, #[]⟩] 49 4 #[] #[⟨25, 354, 339, #[]⟩, ⟨25, 358, 339, #[]⟩, ⟨25, 361, 339, #[]⟩, ⟨26, 364, 339, #[]⟩, ⟨26, 365, 339, #[]⟩, ⟨26, 172, 173, #[]⟩, ⟨26, 176, 173, #[]⟩, ⟨8, 344, 339, #[]⟩, ⟨8, 338, 339, #[]⟩, ⟨4120, 245, 246, #[]⟩])
  fields := #[⟨"E", .double, 25, 0, 0⟩, ⟨"PI", .double, 25, 1, 0⟩, ⟨"TAU", .double, 25, 2, 0⟩, ⟨"DEGREES_TO_RADIANS", .double, 26, 3, 0⟩, ⟨"RADIANS_TO_DEGREES", .double, 26, 4, 0⟩, ⟨"negativeZeroFloatBits", .long, 26, 5, 0⟩, ⟨"negativeZeroDoubleBits", .long, 26, 6, 0⟩, ⟨"twoToTheDoubleScaleUp", .double, 8, 7, 0⟩, ⟨"twoToTheDoubleScaleDown", .double, 8, 8, 0⟩, ⟨"$assertionsDisabled", .boolean, 4120, 9, 0⟩]
  methods := #[k34m0, k34m1, k34m2]
  staticTypes := #[.double, .double, .double, .double, .double, .long, .long, .double, .double, .boolean]
  resolved := Array.replicate 460 none
}

def pool35 : Array CpInfo := pool [(9, u "<init>"), (6, .class_ 18), (1, u "java/lang/Object"), (0, u "()V"), (1, .class_ 23), (1, u "jdk/internal/util/ArraysSupport"), (0, u "LOG2_ARRAY_LONG_INDEX_SCALE"), (0, u "I"), (2, u "U"), (0, u "Ljdk/internal/misc/Unsafe;"), (8, u "BIG_ENDIAN"), (0, u "Z"), (8, u "LOG2_BYTE_BIT_SIZE"), (4, u "LOG2_ARRAY_INT_INDEX_SCALE"), (54, u "JLA"), (0, u "Ljdk/internal/access/JavaLangAccess;"), (11, u "LOG2_ARRAY_BOOLEAN_INDEX_SCALE"), (9, u "LOG2_ARRAY_BYTE_INDEX_SCALE"), (5, u "LOG2_ARRAY_CHAR_INDEX_SCALE"), (5, u "LOG2_ARRAY_SHORT_INDEX_SCALE"), (18, u "LOG2_ARRAY_FLOAT_INDEX_SCALE"), (24, u "LOG2_ARRAY_DOUBLE_INDEX_SCALE"), (6, .methodref 195 196), (0, .class_ 197), (0, .nameAndType 198 199), (0, u "java/lang/Math"), (0, u "max"), (0, u "(II)I"), (0, .integer 2147483639), (76, u "T_BOOLEAN"), (2, u "T_CHAR"), (1, u "T_FLOAT"), (1, u "T_DOUBLE"), (1, u "T_BYTE"), (1, u "T_SHORT"), (1, u "T_INT"), (1, u "T_LONG"), (1, u "SOFT_MAX_ARRAY_LENGTH"), (56, u "newLength"), (0, u "(III)I")] 25

def k35m0 : Method := ⟨"<init>", "()V", ⟨[], none⟩, 2, none⟩
def k35c1 : Code := ⟨3, 4, jdk_48_method_27_code, #[], #[]⟩
def k35m1 : Method := ⟨"newLength", "(III)I", ⟨[.int, .int, .int], some .int⟩, 9, some k35c1⟩
def k35 : Class := { plain "jdk/internal/util/ArraysSupport" (some 0) with
  accessFlags := 33
  cf := some (fileOf pool35 21 #[] #[⟨2, 9, 19, #[]⟩, ⟨9, 351, 352, #[]⟩] 33 16 #[] #[⟨24, 28, 29, #[]⟩, ⟨26, 38, 39, #[]⟩, ⟨25, 121, 25, #[]⟩, ⟨25, 131, 25, #[]⟩, ⟨25, 137, 25, #[]⟩, ⟨25, 143, 25, #[]⟩, ⟨25, 53, 25, #[]⟩, ⟨25, 24, 25, #[]⟩, ⟨25, 162, 25, #[]⟩, ⟨25, 187, 25, #[]⟩, ⟨26, 48, 25, #[]⟩, ⟨25, 277, 25, #[]⟩, ⟨25, 280, 25, #[]⟩, ⟨25, 282, 25, #[]⟩, ⟨25, 284, 25, #[]⟩, ⟨25, 286, 25, #[]⟩, ⟨25, 288, 25, #[]⟩, ⟨25, 290, 25, #[]⟩, ⟨25, 292, 25, #[]⟩, ⟨26, 108, 109, #[]⟩, ⟨25, 294, 25, #[]⟩])
  fields := #[⟨"U", (.object "jdk/internal/misc/Unsafe"), 24, 0, 0⟩, ⟨"BIG_ENDIAN", .boolean, 26, 1, 0⟩, ⟨"LOG2_ARRAY_BOOLEAN_INDEX_SCALE", .int, 25, 2, 0⟩, ⟨"LOG2_ARRAY_BYTE_INDEX_SCALE", .int, 25, 3, 0⟩, ⟨"LOG2_ARRAY_CHAR_INDEX_SCALE", .int, 25, 4, 0⟩, ⟨"LOG2_ARRAY_SHORT_INDEX_SCALE", .int, 25, 5, 0⟩, ⟨"LOG2_ARRAY_INT_INDEX_SCALE", .int, 25, 6, 0⟩, ⟨"LOG2_ARRAY_LONG_INDEX_SCALE", .int, 25, 7, 0⟩, ⟨"LOG2_ARRAY_FLOAT_INDEX_SCALE", .int, 25, 8, 0⟩, ⟨"LOG2_ARRAY_DOUBLE_INDEX_SCALE", .int, 25, 9, 0⟩, ⟨"LOG2_BYTE_BIT_SIZE", .int, 26, 10, 0⟩, ⟨"T_BOOLEAN", .int, 25, 11, 0⟩, ⟨"T_CHAR", .int, 25, 12, 0⟩, ⟨"T_FLOAT", .int, 25, 13, 0⟩, ⟨"T_DOUBLE", .int, 25, 14, 0⟩, ⟨"T_BYTE", .int, 25, 15, 0⟩, ⟨"T_SHORT", .int, 25, 16, 0⟩, ⟨"T_INT", .int, 25, 17, 0⟩, ⟨"T_LONG", .int, 25, 18, 0⟩, ⟨"JLA", (.object "jdk/internal/access/JavaLangAccess"), 26, 19, 0⟩, ⟨"SOFT_MAX_ARRAY_LENGTH", .int, 25, 20, 0⟩]
  methods := #[k35m0, k35m1]
  staticTypes := #[(.object "jdk/internal/misc/Unsafe"), .boolean, .int, .int, .int, .int, .int, .int, .int, .int, .int, .int, .int, .int, .int, .int, .int, .int, .int, (.object "jdk/internal/access/JavaLangAccess"), .int]
  resolved := Array.replicate 378 none
}

def pool36 : Array CpInfo := pool [(2, .class_ 4), (1, u "java/lang/Object"), (0, u "<init>"), (0, u "()V"), (7, .class_ 16), (1, u "java/util/Arrays"), (57, .class_ 76), (1, u "java/util/Arrays$NaturalOrder"), (9, .methodref 2 87), (0, .nameAndType 88 89), (0, u "getClass"), (0, u "()Ljava/lang/Class;"), (20, .class_ 111), (0, u "[Ljava/lang/Object;"), (1, .class_ 115), (1, u "java/util/Arrays$LegacyMergeSort"), (1, u "Z"), (32, .methodref 151 152), (0, .class_ 153), (0, .nameAndType 154 155), (0, u "java/lang/System"), (0, u "arraycopy"), (0, u "(Ljava/lang/Object;ILjava/lang/Object;II)V"), (144, .methodref 14 301), (0, .nameAndType 302 303), (0, u "copyOf"), (0, u "([Ljava/lang/Object;ILjava/lang/Class;)[Ljava/lang/Object;"), (0, .methodref 305 306), (0, .class_ 307), (0, .nameAndType 308 309), (0, u "java/lang/Math"), (0, u "min"), (0, u "(II)I"), (65, .class_ 376), (0, u "java/util/Arrays$ArrayList"), (68, u "$assertionsDisabled"), (269, u "MIN_ARRAY_SORT_GRAN"), (0, u "I"), (2, u "INSERTIONSORT_THRESHOLD"), (140, u "([Ljava/lang/Object;I)[Ljava/lang/Object;"), (114, .class_ 976), (0, u "java/util/Arrays$ArrayItr")] 52

def k36m0 : Method := ⟨"<init>", "()V", ⟨[], none⟩, 2, none⟩
def k36c1 : Code := ⟨3, 2, jdk_65_method_119_code, #[], #[]⟩
def k36m1 : Method := ⟨"copyOf", "([Ljava/lang/Object;I)[Ljava/lang/Object;", ⟨[(.array (.object "java/lang/Object")), .int], some (.array (.object "java/lang/Object"))⟩, 9, some k36c1⟩
def k36c2 : Code := ⟨6, 4, jdk_65_method_120_code, #[], #[]⟩
def k36m2 : Method := ⟨"copyOf", "([Ljava/lang/Object;ILjava/lang/Class;)[Ljava/lang/Object;", ⟨[(.array (.object "java/lang/Object")), .int, (.object "java/lang/Class")], some (.array (.object "java/lang/Object"))⟩, 9, some k36c2⟩
def k36 : Class := { plain "java/util/Arrays" (some 0) with
  accessFlags := 49
  cf := some (fileOf pool36 14 #[.nestMembers #[975, 375, 113, 74]] #[⟨2, 5, 6, #[]⟩, ⟨9, 302, 860, #[]⟩, ⟨9, 302, 303, #[]⟩] 49 2 #[] #[⟨26, 715, 716, #[]⟩, ⟨26, 719, 716, #[]⟩, ⟨4120, 445, 117, #[]⟩])
  fields := #[⟨"MIN_ARRAY_SORT_GRAN", .int, 26, 0, 0⟩, ⟨"INSERTIONSORT_THRESHOLD", .int, 26, 1, 0⟩, ⟨"$assertionsDisabled", .boolean, 4120, 2, 0⟩]
  methods := #[k36m0, k36m1, k36m2]
  staticTypes := #[.int, .int, .boolean]
  resolved := Array.replicate 1029 none
}

def pool37 : Array CpInfo := pool [(2, .class_ 4), (1, u "java/lang/Object"), (0, u "<init>"), (0, u "()V"), (1, .class_ 10), (1, u "java/lang/System"), (0, u "allowSecurityManager"), (0, u "I"), (16, u "cons"), (0, u "Ljava/io/Console;"), (77, .class_ 110), (1, u "java/lang/System$CallersHolder"), (43, u "initialErrStream"), (0, u "Ljava/io/PrintStream;"), (19, u "security"), (0, u "Ljava/lang/SecurityManager;"), (31, .class_ 209), (0, u "java/lang/System$1"), (7, u "props"), (0, u "Ljava/util/Properties;"), (2, u "lineSeparator"), (0, u "Ljava/lang/String;"), (96, .class_ 321), (1, u "java/lang/System$LoggerFinder"), (5, .class_ 328), (0, u "java/lang/System$Logger"), (67, u "err"), (2, u "out"), (91, u "notSupportedJnuEncoding"), (15, u "in"), (17, u "initialIn"), (0, u "Ljava/io/InputStream;"), (35, u "bootLayer"), (0, u "Ljava/lang/ModuleLayer;"), (99, .class_ 664), (0, u "java/lang/System$2"), (9, u "NEVER"), (2, u "MAYBE"), (49, u "arraycopy"), (0, u "(Ljava/lang/Object;ILjava/lang/Object;II)V"), (72, .class_ 802), (0, u "java/lang/System$Logger$Level")] 31

def k37m0 : Method := ⟨"<init>", "()V", ⟨[], none⟩, 2, none⟩
def k37m1 : Method := ⟨"arraycopy", "(Ljava/lang/Object;ILjava/lang/Object;II)V", ⟨[(.object "java/lang/Object"), .int, (.object "java/lang/Object"), .int, .int], none⟩, 265, none⟩
def k37 : Class := { plain "java/lang/System" (some 0) with
  accessFlags := 49
  cf := some (fileOf pool37 8 #[.nestMembers #[319, 327, 801, 108, 663, 208]] #[⟨2, 5, 6, #[]⟩, ⟨265, 727, 728, #[]⟩] 49 2 #[] #[⟨25, 507, 526, #[]⟩, ⟨25, 399, 155, #[]⟩, ⟨25, 396, 155, #[]⟩, ⟨10, 525, 526, #[]⟩, ⟨26, 674, 12, #[]⟩, ⟨26, 677, 12, #[]⟩, ⟨10, 11, 12, #[]⟩, ⟨74, 175, 176, #[]⟩, ⟨10, 491, 222, #[]⟩, ⟨74, 29, 30, #[]⟩, ⟨74, 154, 155, #[]⟩, ⟨10, 217, 218, #[]⟩, ⟨10, 221, 222, #[]⟩, ⟨8, 562, 563, #[]⟩])
  fields := #[⟨"in", (.object "java/io/InputStream"), 25, 0, 0⟩, ⟨"out", (.object "java/io/PrintStream"), 25, 1, 0⟩, ⟨"err", (.object "java/io/PrintStream"), 25, 2, 0⟩, ⟨"initialIn", (.object "java/io/InputStream"), 10, 3, 0⟩, ⟨"NEVER", .int, 26, 4, 0⟩, ⟨"MAYBE", .int, 26, 5, 0⟩, ⟨"allowSecurityManager", .int, 10, 6, 0⟩, ⟨"security", (.object "java/lang/SecurityManager"), 74, 7, 0⟩, ⟨"notSupportedJnuEncoding", (.object "java/lang/String"), 10, 8, 0⟩, ⟨"cons", (.object "java/io/Console"), 74, 9, 0⟩, ⟨"initialErrStream", (.object "java/io/PrintStream"), 74, 10, 0⟩, ⟨"props", (.object "java/util/Properties"), 10, 11, 0⟩, ⟨"lineSeparator", (.object "java/lang/String"), 10, 12, 0⟩, ⟨"bootLayer", (.object "java/lang/ModuleLayer"), 8, 13, 0⟩]
  methods := #[k37m0, k37m1]
  staticTypes := #[(.object "java/io/InputStream"), (.object "java/io/PrintStream"), (.object "java/io/PrintStream"), (.object "java/io/InputStream"), .int, .int, .int, (.object "java/lang/SecurityManager"), (.object "java/lang/String"), (.object "java/io/Console"), (.object "java/io/PrintStream"), (.object "java/util/Properties"), (.object "java/lang/String"), (.object "java/lang/ModuleLayer")]
  resolved := Array.replicate 834 none
}

def pool38 : Array CpInfo := pool [(1, .class_ 2), (0, u "java/util/Queue"), (0, .class_ 4), (0, u "java/lang/Object"), (0, .class_ 6), (0, u "java/util/Collection")] 14

def k38 : Class := { plain "java/util/Queue" (some 0) with
  accessFlags := 1537
  interfaces := #[10]
  cf := some (fileOf pool38 1 #[] #[] 1537 3 #[5] #[])
  resolved := Array.replicate 21 none
}

def pool39 : Array CpInfo := pool [(8, .class_ 10), (1, u "java/util/Deque"), (2, .class_ 14), (0, u "java/lang/Object"), (0, .class_ 16), (0, u "java/util/Queue"), (0, .class_ 18), (0, u "java/util/SequencedCollection"), (6, u "(Ljava/lang/Object;)Z"), (3, u "()Ljava/lang/Object;"), (10, u "add"), (1, u "remove")] 27

def k39m0 : Method := ⟨"add", "(Ljava/lang/Object;)Z", ⟨[(.object "java/lang/Object")], some .boolean⟩, 1025, none⟩
def k39m1 : Method := ⟨"remove", "()Ljava/lang/Object;", ⟨[], some (.object "java/lang/Object")⟩, 1025, none⟩
def k39 : Class := { plain "java/util/Deque" (some 0) with
  accessFlags := 1537
  interfaces := #[38, 12]
  cf := some (fileOf pool39 8 #[] #[⟨1025, 40, 25, #[]⟩, ⟨1025, 42, 29, #[]⟩] 1537 13 #[15, 17] #[])
  methods := #[k39m0, k39m1]
  resolved := Array.replicate 70 none
}

def pool40 : Array CpInfo := pool [(3, .fieldref 4 5), (0, .class_ 6), (0, .nameAndType 7 8), (0, u "java/util/ArrayDeque"), (0, u "elements"), (0, u "[Ljava/lang/Object;"), (4, u "(II)I"), (6, .fieldref 4 21), (0, .nameAndType 22 23), (0, u "tail"), (0, u "I"), (0, .fieldref 4 25), (0, .nameAndType 26 23), (0, u "head"), (12, u "<init>"), (2, .methodref 43 44), (0, .class_ 45), (0, .nameAndType 39 46), (0, u "java/util/AbstractCollection"), (0, u "()V"), (0, .class_ 48), (0, u "java/lang/Object"), (25, .methodref 4 75), (0, .nameAndType 76 13), (0, u "inc"), (12, u "(Ljava/lang/Object;)V"), (0, .methodref 4 91), (0, .nameAndType 92 89), (0, u "addLast"), (0, .methodref 4 94), (0, .nameAndType 95 96), (0, u "pollFirst"), (0, u "()Ljava/lang/Object;"), (6, .methodref 4 104), (0, .nameAndType 105 106), (0, u "elementAt"), (0, u "([Ljava/lang/Object;I)Ljava/lang/Object;"), (3, u "(Ljava/lang/Object;)Z"), (7, .methodref 4 119), (0, .nameAndType 120 96), (0, u "removeFirst"), (10, .class_ 132), (0, u "java/util/ArrayDeque$DeqIterator"), (3, .class_ 137), (0, u "java/util/ArrayDeque$DescendingIterator"), (1, .class_ 140), (0, u "java/util/ArrayDeque$DeqSpliterator"), (137, .class_ 279), (0, u "java/util/Deque"), (0, .class_ 281), (0, u "java/lang/Cloneable"), (0, .class_ 283), (0, u "java/io/Serializable"), (0, u "MAX_ARRAY_SIZE"), (1, u "serialVersionUID"), (0, u "J"), (48, u "add"), (1, u "remove"), (8, u "isEmpty"), (0, u "()Z")] 89

def k40c0 : Code := ⟨2, 1, jdk_21_method_3_code, #[], #[]⟩
def k40m0 : Method := ⟨"<init>", "()V", ⟨[], none⟩, 1, some k40c0⟩
def k40c1 : Code := ⟨2, 2, jdk_21_method_6_code, #[], #[]⟩
def k40m1 : Method := ⟨"inc", "(II)I", ⟨[.int, .int], some .int⟩, 24, some k40c1⟩
def k40c2 : Code := ⟨2, 2, jdk_21_method_10_code, #[], #[]⟩
def k40m2 : Method := ⟨"elementAt", "([Ljava/lang/Object;I)Ljava/lang/Object;", ⟨[(.array (.object "java/lang/Object")), .int], some (.object "java/lang/Object")⟩, 24, some k40c2⟩
def k40c3 : Code := ⟨4, 3, jdk_21_method_13_code, #[], #[]⟩
def k40m3 : Method := ⟨"addLast", "(Ljava/lang/Object;)V", ⟨[(.object "java/lang/Object")], none⟩, 1, some k40c3⟩
def k40c4 : Code := ⟨2, 2, jdk_21_method_18_code, #[], #[]⟩
def k40m4 : Method := ⟨"removeFirst", "()Ljava/lang/Object;", ⟨[], some (.object "java/lang/Object")⟩, 1, some k40c4⟩
def k40c5 : Code := ⟨3, 4, jdk_21_method_20_code, #[], #[]⟩
def k40m5 : Method := ⟨"pollFirst", "()Ljava/lang/Object;", ⟨[], some (.object "java/lang/Object")⟩, 1, some k40c5⟩
def k40c6 : Code := ⟨2, 2, jdk_21_method_28_code, #[], #[]⟩
def k40m6 : Method := ⟨"add", "(Ljava/lang/Object;)Z", ⟨[(.object "java/lang/Object")], some .boolean⟩, 1, some k40c6⟩
def k40c7 : Code := ⟨1, 1, jdk_21_method_30_code, #[], #[]⟩
def k40m7 : Method := ⟨"remove", "()Ljava/lang/Object;", ⟨[], some (.object "java/lang/Object")⟩, 1, some k40c7⟩
def k40c8 : Code := ⟨2, 1, jdk_21_method_38_code, #[], #[]⟩
def k40m8 : Method := ⟨"isEmpty", "()Z", ⟨[], some .boolean⟩, 1, some k40c8⟩
def k40 : Class := { plain "java/util/ArrayDeque" (some 11) with
  accessFlags := 33
  interfaces := #[39, 16, 3]
  cf := some (fileOf pool40 4 #[.nestMembers #[139, 136, 131]] #[⟨1, 39, 46, #[]⟩, ⟨24, 76, 13, #[]⟩, ⟨24, 105, 106, #[]⟩, ⟨1, 92, 89, #[]⟩, ⟨1, 120, 96, #[]⟩, ⟨1, 95, 96, #[]⟩, ⟨1, 336, 110, #[]⟩, ⟨1, 338, 96, #[]⟩, ⟨1, 347, 348, #[]⟩] 33 43 #[278, 280, 282] #[⟨128, 7, 8, #[]⟩, ⟨128, 26, 23, #[]⟩, ⟨128, 22, 23, #[]⟩, ⟨26, 284, 23, #[]⟩, ⟨26, 286, 287, #[]⟩])
  fields := #[⟨"elements", (.array (.object "java/lang/Object")), 128, 0, 0⟩, ⟨"head", .int, 128, 1, 0⟩, ⟨"tail", .int, 128, 2, 0⟩, ⟨"MAX_ARRAY_SIZE", .int, 26, 0, 0⟩, ⟨"serialVersionUID", .long, 26, 1, 0⟩]
  methods := #[k40m0, k40m1, k40m2, k40m3, k40m4, k40m5, k40m6, k40m7, k40m8]
  instanceTypes := #[(.array (.object "java/lang/Object")), .int, .int]
  staticTypes := #[.int, .long]
  resolved := Array.replicate 438 none
}

def pool41 : Array CpInfo := pool [(2, .class_ 4), (1, u "java/lang/Object"), (0, u "<init>"), (0, u "()V"), (1, .class_ 10), (1, u "java/lang/Number"), (2, .class_ 14), (0, u "java/io/Serializable"), (0, u "serialVersionUID"), (0, u "J")] 20

def k41m0 : Method := ⟨"<init>", "()V", ⟨[], none⟩, 1, none⟩
def k41 : Class := { plain "java/lang/Number" (some 0) with
  accessFlags := 1057
  interfaces := #[3]
  cf := some (fileOf pool41 8 #[] #[⟨1, 5, 6, #[]⟩] 1057 2 #[13] #[⟨26, 15, 16, #[]⟩])
  fields := #[⟨"serialVersionUID", .long, 26, 0, 0⟩]
  methods := #[k41m0]
  staticTypes := #[.long]
  resolved := Array.replicate 37 none
}

def pool42 : Array CpInfo := pool [(1, .class_ 2), (0, u "java/lang/Integer"), (16, u "digits"), (0, u "[C"), (64, u "DigitOnes"), (0, u "[B"), (2, u "DigitTens"), (31, u "()I"), (65, u "valueOf"), (0, u "(I)Ljava/lang/Integer;"), (0, .class_ 190), (0, u "java/lang/Integer$IntegerCache"), (0, .fieldref 189 192), (0, .nameAndType 193 194), (0, u "high"), (0, u "I"), (0, .fieldref 189 196), (0, .nameAndType 197 198), (0, u "cache"), (0, u "[Ljava/lang/Integer;"), (4, .class_ 204), (0, u "java/lang/Number"), (0, .fieldref 1 206), (0, .nameAndType 207 194), (0, u "value"), (5, u "intValue"), (88, u "TYPE"), (0, u "Ljava/lang/Class;"), (0, .class_ 305), (0, u "java/lang/Comparable"), (0, .class_ 307), (0, u "java/lang/constant/Constable"), (0, .class_ 309), (0, u "java/lang/constant/ConstantDesc"), (0, u "MIN_VALUE"), (1, u "MAX_VALUE"), (3, u "SIZE"), (1, u "BYTES"), (1, u "serialVersionUID"), (0, u "J")] 131

def k42c0 : Code := ⟨3, 1, jdk_33_method_22_code, #[], #[]⟩
def k42m0 : Method := ⟨"valueOf", "(I)Ljava/lang/Integer;", ⟨[.int], some (.object "java/lang/Integer")⟩, 9, some k42c0⟩
def k42c1 : Code := ⟨1, 1, jdk_33_method_27_code, #[], #[]⟩
def k42m1 : Method := ⟨"intValue", "()I", ⟨[], some .int⟩, 1, some k42c1⟩
def k42 : Class := { plain "java/lang/Integer" (some 41) with
  accessFlags := 49
  interfaces := #[4, 6, 7]
  cf := some (fileOf pool42 1 #[.nestMembers #[189]] #[⟨9, 187, 188, #[]⟩, ⟨1, 213, 121, #[]⟩] 49 203 #[304, 306, 308] #[⟨25, 310, 194, #[]⟩, ⟨25, 312, 194, #[]⟩, ⟨25, 302, 303, #[]⟩, ⟨24, 19, 20, #[]⟩, ⟨24, 89, 86, #[]⟩, ⟨24, 85, 86, #[]⟩, ⟨18, 207, 194, #[]⟩, ⟨25, 316, 194, #[]⟩, ⟨25, 318, 194, #[]⟩, ⟨26, 320, 321, #[]⟩])
  fields := #[⟨"MIN_VALUE", .int, 25, 0, 0⟩, ⟨"MAX_VALUE", .int, 25, 1, 0⟩, ⟨"TYPE", (.object "java/lang/Class"), 25, 2, 0⟩, ⟨"digits", (.array .char), 24, 3, 0⟩, ⟨"DigitTens", (.array .byte), 24, 4, 0⟩, ⟨"DigitOnes", (.array .byte), 24, 5, 0⟩, ⟨"value", .int, 18, 0, 0⟩, ⟨"SIZE", .int, 25, 6, 0⟩, ⟨"BYTES", .int, 25, 7, 0⟩, ⟨"serialVersionUID", .long, 26, 8, 0⟩]
  methods := #[k42m0, k42m1]
  instanceTypes := #[.int]
  staticTypes := #[.int, .int, (.object "java/lang/Class"), (.array .char), (.array .byte), (.array .byte), .int, .int, .long]
  resolved := Array.replicate 453 none
}

def pool43 : Array CpInfo := pool [(2, .class_ 4), (1, u "java/lang/Object"), (0, u "<init>"), (0, u "()V"), (0, .class_ 8), (0, u "java/lang/Integer"), (7, .class_ 18), (1, u "java/lang/Integer$IntegerCache"), (0, u "$assertionsDisabled"), (0, u "Z"), (26, u "high"), (0, u "I"), (8, u "archivedCache"), (0, u "[Ljava/lang/Integer;"), (12, u "cache"), (0, u "low")] 27

def k43m0 : Method := ⟨"<init>", "()V", ⟨[], none⟩, 2, none⟩
def k43 : Class := { plain "java/lang/Integer$IntegerCache" (some 0) with
  accessFlags := 48
  cf := some (fileOf pool43 16 #[.nestHost 7] #[⟨2, 5, 6, #[]⟩] 48 2 #[] #[⟨24, 72, 48, #[]⟩, ⟨24, 47, 48, #[]⟩, ⟨24, 71, 58, #[]⟩, ⟨8, 57, 58, #[]⟩, ⟨4120, 19, 20, #[]⟩])
  fields := #[⟨"low", .int, 24, 0, 0⟩, ⟨"high", .int, 24, 1, 0⟩, ⟨"cache", (.array (.object "java/lang/Integer")), 24, 2, 0⟩, ⟨"archivedCache", (.array (.object "java/lang/Integer")), 8, 3, 0⟩, ⟨"$assertionsDisabled", .boolean, 4120, 4, 0⟩]
  methods := #[k43m0]
  staticTypes := #[.int, .int, (.array (.object "java/lang/Integer")), (.array (.object "java/lang/Integer")), .boolean]
  resolved := Array.replicate 100 none
  statics := some 2 }

def pool44 : Array CpInfo := pool [(1, u "java/lang/Class"), (0, .class_ 1), (0, u "java/lang/Object"), (0, .class_ 3)] 3

def k44 : Class := { plain "java/lang/Class" (some 0) with
  accessFlags := 49
  cf := some (fileOf pool44 2 #[] #[] 49 4 #[] #[])
  resolved := Array.replicate 8 none
}

def k45 : Class := { plain "boolean" none with kind := .primitive 'Z', accessFlags := 0x411 }
def k46 : Class := { plain "[Z" (some 0) with kind := .array 45 .boolean, interfaces := #[16, 3], accessFlags := 1041 }

def k47 : Class := { plain "byte" none with kind := .primitive 'B', accessFlags := 0x411 }
def k48 : Class := { plain "[B" (some 0) with kind := .array 47 .byte, interfaces := #[16, 3], accessFlags := 1041 }

def k49 : Class := { plain "int" none with kind := .primitive 'I', accessFlags := 0x411 }
def k50 : Class := { plain "[I" (some 0) with kind := .array 49 .int, interfaces := #[16, 3], accessFlags := 1041 }

def k51 : Class := { plain "long" none with kind := .primitive 'J', accessFlags := 0x411 }
def k52 : Class := { plain "[J" (some 0) with kind := .array 51 .long, interfaces := #[16, 3], accessFlags := 1041 }

def k53 : Class := { plain "[Lcom/example/rewrought/rewrought/Atom;" (some 0) with kind := .array 18 (.object "com/example/rewrought/rewrought/Atom"), interfaces := #[16, 3], accessFlags := 1041 }

def k54 : Class := { plain "[Ljava/lang/Integer;" (some 0) with kind := .array 42 (.object "java/lang/Integer"), interfaces := #[16, 3], accessFlags := 1041 }

def k55 : Class := { plain "[Ljava/lang/Object;" (some 0) with kind := .array 0 (.object "java/lang/Object"), interfaces := #[16, 3], accessFlags := 1041, mirror := some 3 }

def cI (k : ClassId) (z : Int32) : Cell := { cls := k, slots := #[.int z], vm := .none }
def heap : Heap := #[{ cls := 17, slots := #[.long 0, .int 0, .ref 5, .ref 6], vm := .statics 17 },
  { cls := 21, slots := #[.long 0, .int 0, .null, .null, .ref 264, .null, .null, .null, .int 0, .int 0], vm := .statics 21 },
  { cls := 43, slots := #[.int 0, .int 127, .ref 4, .null, .int 0], vm := .statics 43 },
  { cls := 44, slots := #[], vm := .mirror 55 },
  { cls := 54, slots := #[.ref 8, .ref 9, .ref 10, .ref 11, .ref 12, .ref 13, .ref 14, .ref 15, .ref 16, .ref 17, .ref 18, .ref 19, .ref 20, .ref 21, .ref 22, .ref 23, .ref 24, .ref 25, .ref 26, .ref 27, .ref 28, .ref 29, .ref 30, .ref 31, .ref 32, .ref 33, .ref 34, .ref 35, .ref 36, .ref 37, .ref 38, .ref 39, .ref 40, .ref 41, .ref 42, .ref 43, .ref 44, .ref 45, .ref 46, .ref 47, .ref 48, .ref 49, .ref 50, .ref 51, .ref 52, .ref 53, .ref 54, .ref 55, .ref 56, .ref 57, .ref 58, .ref 59, .ref 60, .ref 61, .ref 62, .ref 63, .ref 64, .ref 65, .ref 66, .ref 67, .ref 68, .ref 69, .ref 70, .ref 71, .ref 72, .ref 73, .ref 74, .ref 75, .ref 76, .ref 77, .ref 78, .ref 79, .ref 80, .ref 81, .ref 82, .ref 83, .ref 84, .ref 85, .ref 86, .ref 87, .ref 88, .ref 89, .ref 90, .ref 91, .ref 92, .ref 93, .ref 94, .ref 95, .ref 96, .ref 97, .ref 98, .ref 99, .ref 100, .ref 101, .ref 102, .ref 103, .ref 104, .ref 105, .ref 106, .ref 107, .ref 108, .ref 109, .ref 110, .ref 111, .ref 112, .ref 113, .ref 114, .ref 115, .ref 116, .ref 117, .ref 118, .ref 119, .ref 120, .ref 121, .ref 122, .ref 123, .ref 124, .ref 125, .ref 126, .ref 127, .ref 128, .ref 129, .ref 130, .ref 131, .ref 132, .ref 133, .ref 134, .ref 135, .ref 136, .ref 137, .ref 138, .ref 139, .ref 140, .ref 141, .ref 142, .ref 143, .ref 144, .ref 145, .ref 146, .ref 147, .ref 148, .ref 149, .ref 150, .ref 151, .ref 152, .ref 153, .ref 154, .ref 155, .ref 156, .ref 157, .ref 158, .ref 159, .ref 160, .ref 161, .ref 162, .ref 163, .ref 164, .ref 165, .ref 166, .ref 167, .ref 168, .ref 169, .ref 170, .ref 171, .ref 172, .ref 173, .ref 174, .ref 175, .ref 176, .ref 177, .ref 178, .ref 179, .ref 180, .ref 181, .ref 182, .ref 183, .ref 184, .ref 185, .ref 186, .ref 187, .ref 188, .ref 189, .ref 190, .ref 191, .ref 192, .ref 193, .ref 194, .ref 195, .ref 196, .ref 197, .ref 198, .ref 199, .ref 200, .ref 201, .ref 202, .ref 203, .ref 204, .ref 205, .ref 206, .ref 207, .ref 208, .ref 209, .ref 210, .ref 211, .ref 212, .ref 213, .ref 214, .ref 215, .ref 216, .ref 217, .ref 218, .ref 219, .ref 220, .ref 221, .ref 222, .ref 223, .ref 224, .ref 225, .ref 226, .ref 227, .ref 228, .ref 229, .ref 230, .ref 231, .ref 232, .ref 233, .ref 234, .ref 235, .ref 236, .ref 237, .ref 238, .ref 239, .ref 240, .ref 241, .ref 242, .ref 243, .ref 244, .ref 245, .ref 246, .ref 247, .ref 248, .ref 249, .ref 250, .ref 251, .ref 252, .ref 253, .ref 254, .ref 255, .ref 256, .ref 257, .ref 258, .ref 259, .ref 260, .ref 261, .ref 262, .ref 263], vm := .none },
  { cls := 55, slots := #[], vm := .none },
  { cls := 55, slots := #[], vm := .none },
  { cls := 55, slots := #[], vm := .none },
cI 42 (-128),
cI 42 (-127),
cI 42 (-126),
cI 42 (-125),
cI 42 (-124),
cI 42 (-123),
cI 42 (-122),
cI 42 (-121),
cI 42 (-120),
cI 42 (-119),
cI 42 (-118),
cI 42 (-117),
cI 42 (-116),
cI 42 (-115),
cI 42 (-114),
cI 42 (-113),
cI 42 (-112),
cI 42 (-111),
cI 42 (-110),
cI 42 (-109),
cI 42 (-108),
cI 42 (-107),
cI 42 (-106),
cI 42 (-105),
cI 42 (-104),
cI 42 (-103),
cI 42 (-102),
cI 42 (-101),
cI 42 (-100),
cI 42 (-99),
cI 42 (-98),
cI 42 (-97),
cI 42 (-96),
cI 42 (-95),
cI 42 (-94),
cI 42 (-93),
cI 42 (-92),
cI 42 (-91),
cI 42 (-90),
cI 42 (-89),
cI 42 (-88),
cI 42 (-87),
cI 42 (-86),
cI 42 (-85),
cI 42 (-84),
cI 42 (-83),
cI 42 (-82),
cI 42 (-81),
cI 42 (-80),
cI 42 (-79),
cI 42 (-78),
cI 42 (-77),
cI 42 (-76),
cI 42 (-75),
cI 42 (-74),
cI 42 (-73),
cI 42 (-72),
cI 42 (-71),
cI 42 (-70),
cI 42 (-69),
cI 42 (-68),
cI 42 (-67),
cI 42 (-66),
cI 42 (-65),
cI 42 (-64),
cI 42 (-63),
cI 42 (-62),
cI 42 (-61),
cI 42 (-60),
cI 42 (-59),
cI 42 (-58),
cI 42 (-57),
cI 42 (-56),
cI 42 (-55),
cI 42 (-54),
cI 42 (-53),
cI 42 (-52),
cI 42 (-51),
cI 42 (-50),
cI 42 (-49),
cI 42 (-48),
cI 42 (-47),
cI 42 (-46),
cI 42 (-45),
cI 42 (-44),
cI 42 (-43),
cI 42 (-42),
cI 42 (-41),
cI 42 (-40),
cI 42 (-39),
cI 42 (-38),
cI 42 (-37),
cI 42 (-36),
cI 42 (-35),
cI 42 (-34),
cI 42 (-33),
cI 42 (-32),
cI 42 (-31),
cI 42 (-30),
cI 42 (-29),
cI 42 (-28),
cI 42 (-27),
cI 42 (-26),
cI 42 (-25),
cI 42 (-24),
cI 42 (-23),
cI 42 (-22),
cI 42 (-21),
cI 42 (-20),
cI 42 (-19),
cI 42 (-18),
cI 42 (-17),
cI 42 (-16),
cI 42 (-15),
cI 42 (-14),
cI 42 (-13),
cI 42 (-12),
cI 42 (-11),
cI 42 (-10),
cI 42 (-9),
cI 42 (-8),
cI 42 (-7),
cI 42 (-6),
cI 42 (-5),
cI 42 (-4),
cI 42 (-3),
cI 42 (-2),
cI 42 (-1),
cI 42 (0),
cI 42 (1),
cI 42 (2),
cI 42 (3),
cI 42 (4),
cI 42 (5),
cI 42 (6),
cI 42 (7),
cI 42 (8),
cI 42 (9),
cI 42 (10),
cI 42 (11),
cI 42 (12),
cI 42 (13),
cI 42 (14),
cI 42 (15),
cI 42 (16),
cI 42 (17),
cI 42 (18),
cI 42 (19),
cI 42 (20),
cI 42 (21),
cI 42 (22),
cI 42 (23),
cI 42 (24),
cI 42 (25),
cI 42 (26),
cI 42 (27),
cI 42 (28),
cI 42 (29),
cI 42 (30),
cI 42 (31),
cI 42 (32),
cI 42 (33),
cI 42 (34),
cI 42 (35),
cI 42 (36),
cI 42 (37),
cI 42 (38),
cI 42 (39),
cI 42 (40),
cI 42 (41),
cI 42 (42),
cI 42 (43),
cI 42 (44),
cI 42 (45),
cI 42 (46),
cI 42 (47),
cI 42 (48),
cI 42 (49),
cI 42 (50),
cI 42 (51),
cI 42 (52),
cI 42 (53),
cI 42 (54),
cI 42 (55),
cI 42 (56),
cI 42 (57),
cI 42 (58),
cI 42 (59),
cI 42 (60),
cI 42 (61),
cI 42 (62),
cI 42 (63),
cI 42 (64),
cI 42 (65),
cI 42 (66),
cI 42 (67),
cI 42 (68),
cI 42 (69),
cI 42 (70),
cI 42 (71),
cI 42 (72),
cI 42 (73),
cI 42 (74),
cI 42 (75),
cI 42 (76),
cI 42 (77),
cI 42 (78),
cI 42 (79),
cI 42 (80),
cI 42 (81),
cI 42 (82),
cI 42 (83),
cI 42 (84),
cI 42 (85),
cI 42 (86),
cI 42 (87),
cI 42 (88),
cI 42 (89),
cI 42 (90),
cI 42 (91),
cI 42 (92),
cI 42 (93),
cI 42 (94),
cI 42 (95),
cI 42 (96),
cI 42 (97),
cI 42 (98),
cI 42 (99),
cI 42 (100),
cI 42 (101),
cI 42 (102),
cI 42 (103),
cI 42 (104),
cI 42 (105),
cI 42 (106),
cI 42 (107),
cI 42 (108),
cI 42 (109),
cI 42 (110),
cI 42 (111),
cI 42 (112),
cI 42 (113),
cI 42 (114),
cI 42 (115),
cI 42 (116),
cI 42 (117),
cI 42 (118),
cI 42 (119),
cI 42 (120),
cI 42 (121),
cI 42 (122),
cI 42 (123),
cI 42 (124),
cI 42 (125),
cI 42 (126),
cI 42 (127),
  { cls := 24, slots := #[.ref 7, .int 0], vm := .none }]
def classes : Array Class := #[k0, k1, k2, k3, k4, k5, k6, k7, k8, k9, k10, k11, k12, k13, k14, k15, k16, k17, k18, k19, k20, k21, k22, k23, k24, k25, k26, k27, k28, k29, k30, k31, k32, k33, k34, k35, k36, k37, k38, k39, k40, k41, k42, k43, k44, k45, k46, k47, k48, k49, k50, k51, k52, k53, k54, k55]
def interned : List (Array UInt16 × Addr) := []
def slotsUsed : Nat := 533
def theMethod : MethodId := ⟨1, 1⟩
def args0 : Array Value := #[.int 5, .int 6, .int 7]
def aboutOver (below : List Frame) : State where
  vm := { classes := classes, interned := interned.toArray }
  heap := heap
  slotsUsed := slotsUsed
  threads := #[{ frames := .invoking theMethod args0 :: below }]
def below0 : List Frame := [.native { method := ⟨0, 0⟩, args := #[] }]
def about1 : State := aboutOver below0
def p0 : Program := .bare "" "" ""
def e0 : Env := launch0.env 0 0 0
theorem w_frames : about1.frames = Frame.invoking theMethod args0 :: below0 := rfl
set_option maxRecDepth 65536 in
theorem w_args : argsFit about1.vm theMethod args0 = true := by decide +kernel
set_option maxRecDepth 65536 in
theorem w_heap : heapFits about1 = true := by decide +kernel
set_option maxRecDepth 65536 in
theorem w_runnable : about1.curStatus? = some .runnable := by decide +kernel
set_option maxRecDepth 65536 in
theorem w_alone : about1.alone = true := by decide +kernel
set_option maxRecDepth 65536 in
theorem w_named : about1.methodNamed? x = some theMethod := by decide +kernel
set_option maxRecDepth 65536 in
theorem w_hears : about1.hears theMethod below0 = true := by decide +kernel
set_option maxRecDepth 65536 in
theorem w_ripe : about1.ripe theMethod args0 below0 = true := by decide +kernel
theorem w_running : about1.status = .running := rfl
set_option maxRecDepth 65536 in
theorem w_room : about1.hasRoom e0.platform room_1 = true :=
  launch0.hasRoom_least _ room_1 (by decide +kernel) (by decide +kernel) (by decide +kernel) (by decide +kernel) (by decide +kernel) (by decide +kernel)
theorem allAtoms_all (ts : List Jvm.Cond) (a : Array Jvm.Value) (st : Jvm.State) : (allAtoms ts).before a st = ts.all (fun c => c.before a st) := by
  induction ts with
  | nil => rfl
  | cons c t ih =>
    show (Jvm.Cond.and c (allAtoms t)).before a st = _
    rw [Jvm.Cond.before_and, ih, List.all_cons]
def words1 : List Jvm.Cond := Jvm.Cond.code x code maxLocals ret :: tables_1
/-- a 'code' word, met by the world's own term for the bytes: nothing is compared byte by byte -/
theorem code_word {y : MethodName} {bytes : ByteArray} {mx : Nat} {rt : Option FieldType} {a : Array Value} {s : State} {m : MethodId} {meth : Method} {c : Code} (h1 : s.methodNamed? y = some m) (h2 : s.vm.method? m = some meth) (h3 : meth.code = some c) (h4 : c.code = bytes)
    (h5 : (c.maxLocals == mx && c.exceptionTable.isEmpty && decide (c.maxStack ≤ mostOperands) && decide (meth.sig.returnType = rt) && !meth.locks && decide (parseMethodDescriptor y.desc = some meth.sig)) = true) : (Jvm.Cond.code y bytes mx rt).before a s = true := by
  simp only [Bool.and_eq_true, beq_iff_eq, Bool.not_eq_true', decide_eq_true_eq] at h5
  obtain ⟨⟨⟨⟨⟨g1, g2⟩, g3⟩, g4⟩, g5⟩, g6⟩ := h5
  simp [Cond.before, Cond.holds, Cond.value, h1, h2, h3, h4, g1, g2, g3, g4, g5, g6]
def isCode : Jvm.Cond → Bool
  | .code _ _ _ _ => true
  | _ => false
theorem all_split {L : List Jvm.Cond} {P : Jvm.Cond → Bool} (h1 : L.all (fun c => isCode c || P c) = true) (h2 : ∀ c ∈ L.filter isCode, P c = true) : L.all P = true := by
  refine List.all_eq_true.mpr fun c hc => ?_
  have h := List.all_eq_true.mp h1 c hc
  rcases Bool.eq_false_or_eq_true (isCode c) with hi | hi
  · exact h2 c (List.mem_filter.mpr ⟨hc, hi⟩)
  · simpa [hi] using h
def c0 : Jvm.Cond := Jvm.Cond.code x code maxLocals ret
set_option maxRecDepth 65536 in
theorem w_c0 : c0.before args0 about1 = true := code_word (m := ⟨1, 1⟩) (meth := k1m1) (c := k1c1) (by decide +kernel) rfl rfl rfl (by decide +kernel)
def c1 : Jvm.Cond := Jvm.Cond.code ⟨"java/util/ArrayList", "<init>", "()V"⟩ jdk_38_method_2_code (1 : Nat) (Option.none : Option Jvm.ClassFile.FieldType)
set_option maxRecDepth 65536 in
theorem w_c1 : c1.before args0 about1 = true := code_word (m := ⟨17, 0⟩) (meth := k17m0) (c := k17c0) (by decide +kernel) rfl rfl rfl (by decide +kernel)
def c2 : Jvm.Cond := Jvm.Cond.code ⟨"java/util/AbstractList", "<init>", "()V"⟩ jdk_39_method_1_code (1 : Nat) (Option.none : Option Jvm.ClassFile.FieldType)
set_option maxRecDepth 65536 in
theorem w_c2 : c2.before args0 about1 = true := code_word (m := ⟨14, 0⟩) (meth := k14m0) (c := k14c0) (by decide +kernel) rfl rfl rfl (by decide +kernel)
def c3 : Jvm.Cond := Jvm.Cond.code ⟨"java/util/AbstractCollection", "<init>", "()V"⟩ jdk_22_method_1_code (1 : Nat) (Option.none : Option Jvm.ClassFile.FieldType)
set_option maxRecDepth 65536 in
theorem w_c3 : c3.before args0 about1 = true := code_word (m := ⟨11, 0⟩) (meth := k11m0) (c := k11c0) (by decide +kernel) rfl rfl rfl (by decide +kernel)
def c4 : Jvm.Cond := Jvm.Cond.code ⟨"java/lang/Object", "<init>", "()V"⟩ object_method_1_code (1 : Nat) (Option.none : Option Jvm.ClassFile.FieldType)
set_option maxRecDepth 65536 in
theorem w_c4 : c4.before args0 about1 = true := code_word (m := ⟨0, 0⟩) (meth := k0m0) (c := k0c0) (by decide +kernel) rfl rfl rfl (by decide +kernel)
def c5 : Jvm.Cond := Jvm.Cond.code ⟨"com/example/rewrought/rewrought/ConjunctiveQuery", "<init>", "(Ljava/lang/String;[ILjava/util/List;Lcom/example/rewrought/rewrought/TermNames;)V"⟩ prog_6_method_1_code (5 : Nat) (Option.none : Option Jvm.ClassFile.FieldType)
set_option maxRecDepth 65536 in
theorem w_c5 : c5.before args0 about1 = true := code_word (m := ⟨2, 0⟩) (meth := k2m0) (c := k2c0) (by decide +kernel) rfl rfl rfl (by decide +kernel)
def c6 : Jvm.Cond := Jvm.Cond.code ⟨"com/example/rewrought/rewrought/ConjunctiveQuery", "<init>", "(Ljava/lang/String;[ILjava/util/List;Lcom/example/rewrought/rewrought/TermNames;Z)V"⟩ prog_6_method_2_code (10 : Nat) (Option.none : Option Jvm.ClassFile.FieldType)
set_option maxRecDepth 65536 in
theorem w_c6 : c6.before args0 about1 = true := code_word (m := ⟨2, 1⟩) (meth := k2m1) (c := k2c1) (by decide +kernel) rfl rfl rfl (by decide +kernel)
def c7 : Jvm.Cond := Jvm.Cond.code ⟨"com/example/rewrought/rewrought/ConjunctiveQuery", "distinct", "(Ljava/util/List;)Ljava/util/List;"⟩ prog_6_method_32_code (5 : Nat) (Option.some (Jvm.ClassFile.FieldType.object "java/util/List"))
set_option maxRecDepth 65536 in
theorem w_c7 : c7.before args0 about1 = true := code_word (m := ⟨2, 3⟩) (meth := k2m3) (c := k2c3) (by decide +kernel) rfl rfl rfl (by decide +kernel)
def c8 : Jvm.Cond := Jvm.Cond.code ⟨"java/util/ArrayList", "size", "()I"⟩ jdk_38_method_8_code (1 : Nat) (Option.some Jvm.ClassFile.FieldType.int)
set_option maxRecDepth 65536 in
theorem w_c8 : c8.before args0 about1 = true := code_word (m := ⟨17, 3⟩) (meth := k17m3) (c := k17c3) (by decide +kernel) rfl rfl rfl (by decide +kernel)
def c9 : Jvm.Cond := Jvm.Cond.code ⟨"java/util/ArrayList", "iterator", "()Ljava/util/Iterator;"⟩ jdk_38_method_55_code (1 : Nat) (Option.some (Jvm.ClassFile.FieldType.object "java/util/Iterator"))
set_option maxRecDepth 65536 in
theorem w_c9 : c9.before args0 about1 = true := code_word (m := ⟨17, 6⟩) (meth := k17m6) (c := k17c6) (by decide +kernel) rfl rfl rfl (by decide +kernel)
def c10 : Jvm.Cond := Jvm.Cond.code ⟨"java/util/ArrayList$Itr", "<init>", "(Ljava/util/ArrayList;)V"⟩ jdk_49_method_1_code (2 : Nat) (Option.none : Option Jvm.ClassFile.FieldType)
set_option maxRecDepth 65536 in
theorem w_c10 : c10.before args0 about1 = true := code_word (m := ⟨20, 0⟩) (meth := k20m0) (c := k20c0) (by decide +kernel) rfl rfl rfl (by decide +kernel)
def c11 : Jvm.Cond := Jvm.Cond.code ⟨"java/util/ArrayList$Itr", "hasNext", "()Z"⟩ jdk_49_method_2_code (1 : Nat) (Option.some Jvm.ClassFile.FieldType.boolean)
set_option maxRecDepth 65536 in
theorem w_c11 : c11.before args0 about1 = true := code_word (m := ⟨20, 1⟩) (meth := k20m1) (c := k20c1) (by decide +kernel) rfl rfl rfl (by decide +kernel)
def c12 : Jvm.Cond := Jvm.Cond.code ⟨"java/util/List", "of", "([Ljava/lang/Object;)Ljava/util/List;"⟩ jdk_40_method_47_code (2 : Nat) (Option.some (Jvm.ClassFile.FieldType.object "java/util/List"))
set_option maxRecDepth 65536 in
theorem w_c12 : c12.before args0 about1 = true := code_word (m := ⟨13, 4⟩) (meth := k13m4) (c := k13c4) (by decide +kernel) rfl rfl rfl (by decide +kernel)
def c13 : Jvm.Cond := Jvm.Cond.code ⟨"java/util/ImmutableCollections$AbstractImmutableList", "iterator", "()Ljava/util/Iterator;"⟩ jdk_46_method_10_code (1 : Nat) (Option.some (Jvm.ClassFile.FieldType.object "java/util/Iterator"))
set_option maxRecDepth 65536 in
theorem w_c13 : c13.before args0 about1 = true := code_word (m := ⟨23, 1⟩) (meth := k23m1) (c := k23c1) (by decide +kernel) rfl rfl rfl (by decide +kernel)
def c14 : Jvm.Cond := Jvm.Cond.code ⟨"java/util/ImmutableCollections$ListN", "size", "()I"⟩ jdk_45_method_3_code (1 : Nat) (Option.some Jvm.ClassFile.FieldType.int)
set_option maxRecDepth 65536 in
theorem w_c14 : c14.before args0 about1 = true := code_word (m := ⟨24, 0⟩) (meth := k24m0) (c := k24c0) (by decide +kernel) rfl rfl rfl (by decide +kernel)
def c15 : Jvm.Cond := Jvm.Cond.code ⟨"java/util/ImmutableCollections$ListItr", "<init>", "(Ljava/util/List;I)V"⟩ jdk_53_method_1_code (3 : Nat) (Option.none : Option Jvm.ClassFile.FieldType)
set_option maxRecDepth 65536 in
theorem w_c15 : c15.before args0 about1 = true := code_word (m := ⟨26, 0⟩) (meth := k26m0) (c := k26c0) (by decide +kernel) rfl rfl rfl (by decide +kernel)
def c16 : Jvm.Cond := Jvm.Cond.code ⟨"java/util/ImmutableCollections$ListItr", "hasNext", "()Z"⟩ jdk_53_method_3_code (1 : Nat) (Option.some Jvm.ClassFile.FieldType.boolean)
set_option maxRecDepth 65536 in
theorem w_c16 : c16.before args0 about1 = true := code_word (m := ⟨26, 1⟩) (meth := k26m1) (c := k26c1) (by decide +kernel) rfl rfl rfl (by decide +kernel)
def c17 : Jvm.Cond := Jvm.Cond.code ⟨"com/example/rewrought/rewrought/Descendant", "<init>", "(Lcom/example/rewrought/rewrought/ConjunctiveQuery;[I)V"⟩ prog_14_method_3_code (3 : Nat) (Option.none : Option Jvm.ClassFile.FieldType)
set_option maxRecDepth 65536 in
theorem w_c17 : c17.before args0 about1 = true := code_word (m := ⟨27, 0⟩) (meth := k27m0) (c := k27c0) (by decide +kernel) rfl rfl rfl (by decide +kernel)
def c18 : Jvm.Cond := Jvm.Cond.code ⟨"com/example/rewrought/rewrought/Derivations", "<init>", "(ZZ)V"⟩ prog_12_method_1_code (3 : Nat) (Option.none : Option Jvm.ClassFile.FieldType)
set_option maxRecDepth 65536 in
theorem w_c18 : c18.before args0 about1 = true := code_word (m := ⟨28, 0⟩) (meth := k28m0) (c := k28c0) (by decide +kernel) rfl rfl rfl (by decide +kernel)
def c19 : Jvm.Cond := Jvm.Cond.code ⟨"com/example/rewrought/rewrought/MinimalUnion", "<init>", "()V"⟩ prog_25_method_1_code (1 : Nat) (Option.none : Option Jvm.ClassFile.FieldType)
set_option maxRecDepth 65536 in
theorem w_c19 : c19.before args0 about1 = true := code_word (m := ⟨29, 0⟩) (meth := k29m0) (c := k29c0) (by decide +kernel) rfl rfl rfl (by decide +kernel)
def c20 : Jvm.Cond := Jvm.Cond.code ⟨"com/example/rewrought/rewrought/PredicateIndex", "<init>", "()V"⟩ prog_27_method_1_code (2 : Nat) (Option.none : Option Jvm.ClassFile.FieldType)
set_option maxRecDepth 65536 in
theorem w_c20 : c20.before args0 about1 = true := code_word (m := ⟨30, 0⟩) (meth := k30m0) (c := k30c0) (by decide +kernel) rfl rfl rfl (by decide +kernel)
def c21 : Jvm.Cond := Jvm.Cond.code ⟨"java/util/HashMap", "<init>", "()V"⟩ jdk_69_method_7_code (1 : Nat) (Option.none : Option Jvm.ClassFile.FieldType)
set_option maxRecDepth 65536 in
theorem w_c21 : c21.before args0 about1 = true := code_word (m := ⟨33, 0⟩) (meth := k33m0) (c := k33c0) (by decide +kernel) rfl rfl rfl (by decide +kernel)
def c22 : Jvm.Cond := Jvm.Cond.code ⟨"java/util/AbstractMap", "<init>", "()V"⟩ jdk_71_method_1_code (1 : Nat) (Option.none : Option Jvm.ClassFile.FieldType)
set_option maxRecDepth 65536 in
theorem w_c22 : c22.before args0 about1 = true := code_word (m := ⟨32, 0⟩) (meth := k32m0) (c := k32c0) (by decide +kernel) rfl rfl rfl (by decide +kernel)
def c23 : Jvm.Cond := Jvm.Cond.code ⟨"java/util/ArrayList", "add", "(Ljava/lang/Object;)Z"⟩ jdk_38_method_25_code (2 : Nat) (Option.some Jvm.ClassFile.FieldType.boolean)
set_option maxRecDepth 65536 in
theorem w_c23 : c23.before args0 about1 = true := code_word (m := ⟨17, 5⟩) (meth := k17m5) (c := k17c5) (by decide +kernel) rfl rfl rfl (by decide +kernel)
def c24 : Jvm.Cond := Jvm.Cond.code ⟨"java/util/ArrayList", "add", "(Ljava/lang/Object;[Ljava/lang/Object;I)V"⟩ jdk_38_method_24_code (4 : Nat) (Option.none : Option Jvm.ClassFile.FieldType)
set_option maxRecDepth 65536 in
theorem w_c24 : c24.before args0 about1 = true := code_word (m := ⟨17, 4⟩) (meth := k17m4) (c := k17c4) (by decide +kernel) rfl rfl rfl (by decide +kernel)
def c25 : Jvm.Cond := Jvm.Cond.code ⟨"java/util/ArrayList", "grow", "()[Ljava/lang/Object;"⟩ jdk_38_method_7_code (1 : Nat) (Option.some (Jvm.ClassFile.FieldType.array (Jvm.ClassFile.FieldType.object "java/lang/Object")))
set_option maxRecDepth 65536 in
theorem w_c25 : c25.before args0 about1 = true := code_word (m := ⟨17, 2⟩) (meth := k17m2) (c := k17c2) (by decide +kernel) rfl rfl rfl (by decide +kernel)
def c26 : Jvm.Cond := Jvm.Cond.code ⟨"java/util/ArrayList", "grow", "(I)[Ljava/lang/Object;"⟩ jdk_38_method_6_code (4 : Nat) (Option.some (Jvm.ClassFile.FieldType.array (Jvm.ClassFile.FieldType.object "java/lang/Object")))
set_option maxRecDepth 65536 in
theorem w_c26 : c26.before args0 about1 = true := code_word (m := ⟨17, 1⟩) (meth := k17m1) (c := k17c1) (by decide +kernel) rfl rfl rfl (by decide +kernel)
def c27 : Jvm.Cond := Jvm.Cond.code ⟨"java/lang/Math", "max", "(II)I"⟩ jdk_29_method_65_code (2 : Nat) (Option.some Jvm.ClassFile.FieldType.int)
set_option maxRecDepth 65536 in
theorem w_c27 : c27.before args0 about1 = true := code_word (m := ⟨34, 1⟩) (meth := k34m1) (c := k34c1) (by decide +kernel) rfl rfl rfl (by decide +kernel)
def c28 : Jvm.Cond := Jvm.Cond.code ⟨"jdk/internal/util/ArraysSupport", "newLength", "(III)I"⟩ jdk_48_method_27_code (4 : Nat) (Option.some Jvm.ClassFile.FieldType.int)
set_option maxRecDepth 65536 in
theorem w_c28 : c28.before args0 about1 = true := code_word (m := ⟨35, 1⟩) (meth := k35m1) (c := k35c1) (by decide +kernel) rfl rfl rfl (by decide +kernel)
def c29 : Jvm.Cond := Jvm.Cond.code ⟨"java/util/Arrays", "copyOf", "([Ljava/lang/Object;I)[Ljava/lang/Object;"⟩ jdk_65_method_119_code (2 : Nat) (Option.some (Jvm.ClassFile.FieldType.array (Jvm.ClassFile.FieldType.object "java/lang/Object")))
set_option maxRecDepth 65536 in
theorem w_c29 : c29.before args0 about1 = true := code_word (m := ⟨36, 1⟩) (meth := k36m1) (c := k36c1) (by decide +kernel) rfl rfl rfl (by decide +kernel)
def c30 : Jvm.Cond := Jvm.Cond.code ⟨"java/util/Arrays", "copyOf", "([Ljava/lang/Object;ILjava/lang/Class;)[Ljava/lang/Object;"⟩ jdk_65_method_120_code (4 : Nat) (Option.some (Jvm.ClassFile.FieldType.array (Jvm.ClassFile.FieldType.object "java/lang/Object")))
set_option maxRecDepth 65536 in
theorem w_c30 : c30.before args0 about1 = true := code_word (m := ⟨36, 2⟩) (meth := k36m2) (c := k36c2) (by decide +kernel) rfl rfl rfl (by decide +kernel)
def c31 : Jvm.Cond := Jvm.Cond.code ⟨"java/lang/Math", "min", "(II)I"⟩ jdk_29_method_69_code (2 : Nat) (Option.some Jvm.ClassFile.FieldType.int)
set_option maxRecDepth 65536 in
theorem w_c31 : c31.before args0 about1 = true := code_word (m := ⟨34, 2⟩) (meth := k34m2) (c := k34c2) (by decide +kernel) rfl rfl rfl (by decide +kernel)
def c32 : Jvm.Cond := Jvm.Cond.code ⟨"java/util/ArrayDeque", "<init>", "()V"⟩ jdk_21_method_3_code (1 : Nat) (Option.none : Option Jvm.ClassFile.FieldType)
set_option maxRecDepth 65536 in
theorem w_c32 : c32.before args0 about1 = true := code_word (m := ⟨40, 0⟩) (meth := k40m0) (c := k40c0) (by decide +kernel) rfl rfl rfl (by decide +kernel)
def c33 : Jvm.Cond := Jvm.Cond.code ⟨"com/example/rewrought/rewrought/Derivations", "addRecorded", "(Lcom/example/rewrought/rewrought/Descendant;IZZ)I"⟩ prog_12_method_4_code (6 : Nat) (Option.some Jvm.ClassFile.FieldType.int)
set_option maxRecDepth 65536 in
theorem w_c33 : c33.before args0 about1 = true := code_word (m := ⟨28, 1⟩) (meth := k28m1) (c := k28c1) (by decide +kernel) rfl rfl rfl (by decide +kernel)
def c34 : Jvm.Cond := Jvm.Cond.code ⟨"com/example/rewrought/rewrought/MinimalUnion", "admitApart", "(Lcom/example/rewrought/rewrought/Descendant;)I"⟩ prog_25_method_8_code (2 : Nat) (Option.some Jvm.ClassFile.FieldType.int)
set_option maxRecDepth 65536 in
theorem w_c34 : c34.before args0 about1 = true := code_word (m := ⟨29, 1⟩) (meth := k29m1) (c := k29c1) (by decide +kernel) rfl rfl rfl (by decide +kernel)
def c35 : Jvm.Cond := Jvm.Cond.code ⟨"com/example/rewrought/rewrought/MinimalUnion", "append", "(Lcom/example/rewrought/rewrought/Descendant;Z)I"⟩ prog_25_method_10_code (3 : Nat) (Option.some Jvm.ClassFile.FieldType.int)
set_option maxRecDepth 65536 in
theorem w_c35 : c35.before args0 about1 = true := code_word (m := ⟨29, 2⟩) (meth := k29m2) (c := k29c2) (by decide +kernel) rfl rfl rfl (by decide +kernel)
def c36 : Jvm.Cond := Jvm.Cond.code ⟨"com/example/rewrought/rewrought/Descendant", "cq", "()Lcom/example/rewrought/rewrought/ConjunctiveQuery;"⟩ prog_14_method_4_code (1 : Nat) (Option.some (Jvm.ClassFile.FieldType.object "com/example/rewrought/rewrought/ConjunctiveQuery"))
set_option maxRecDepth 65536 in
theorem w_c36 : c36.before args0 about1 = true := code_word (m := ⟨27, 1⟩) (meth := k27m1) (c := k27c1) (by decide +kernel) rfl rfl rfl (by decide +kernel)
def c37 : Jvm.Cond := Jvm.Cond.code ⟨"com/example/rewrought/rewrought/ConjunctiveQuery", "predicateMask", "()J"⟩ prog_6_method_27_code (1 : Nat) (Option.some Jvm.ClassFile.FieldType.long)
set_option maxRecDepth 65536 in
theorem w_c37 : c37.before args0 about1 = true := code_word (m := ⟨2, 2⟩) (meth := k2m2) (c := k2c2) (by decide +kernel) rfl rfl rfl (by decide +kernel)
def c38 : Jvm.Cond := Jvm.Cond.code ⟨"com/example/rewrought/rewrought/Derivations", "admitted", "(IZ)I"⟩ prog_12_method_5_code (3 : Nat) (Option.some Jvm.ClassFile.FieldType.int)
set_option maxRecDepth 65536 in
theorem w_c38 : c38.before args0 about1 = true := code_word (m := ⟨28, 2⟩) (meth := k28m2) (c := k28c2) (by decide +kernel) rfl rfl rfl (by decide +kernel)
def c39 : Jvm.Cond := Jvm.Cond.code ⟨"java/lang/Integer", "valueOf", "(I)Ljava/lang/Integer;"⟩ jdk_33_method_22_code (1 : Nat) (Option.some (Jvm.ClassFile.FieldType.object "java/lang/Integer"))
set_option maxRecDepth 65536 in
theorem w_c39 : c39.before args0 about1 = true := code_word (m := ⟨42, 0⟩) (meth := k42m0) (c := k42c0) (by decide +kernel) rfl rfl rfl (by decide +kernel)
def c40 : Jvm.Cond := Jvm.Cond.code ⟨"java/util/ArrayDeque", "add", "(Ljava/lang/Object;)Z"⟩ jdk_21_method_28_code (2 : Nat) (Option.some Jvm.ClassFile.FieldType.boolean)
set_option maxRecDepth 65536 in
theorem w_c40 : c40.before args0 about1 = true := code_word (m := ⟨40, 6⟩) (meth := k40m6) (c := k40c6) (by decide +kernel) rfl rfl rfl (by decide +kernel)
def c41 : Jvm.Cond := Jvm.Cond.code ⟨"java/util/ArrayDeque", "addLast", "(Ljava/lang/Object;)V"⟩ jdk_21_method_13_code (3 : Nat) (Option.none : Option Jvm.ClassFile.FieldType)
set_option maxRecDepth 65536 in
theorem w_c41 : c41.before args0 about1 = true := code_word (m := ⟨40, 3⟩) (meth := k40m3) (c := k40c3) (by decide +kernel) rfl rfl rfl (by decide +kernel)
def c42 : Jvm.Cond := Jvm.Cond.code ⟨"java/util/ArrayDeque", "inc", "(II)I"⟩ jdk_21_method_6_code (2 : Nat) (Option.some Jvm.ClassFile.FieldType.int)
set_option maxRecDepth 65536 in
theorem w_c42 : c42.before args0 about1 = true := code_word (m := ⟨40, 1⟩) (meth := k40m1) (c := k40c1) (by decide +kernel) rfl rfl rfl (by decide +kernel)
def c43 : Jvm.Cond := Jvm.Cond.code ⟨"com/example/rewrought/rewrought/Derivations", "finish", "(IZ)V"⟩ prog_12_method_10_code (3 : Nat) (Option.none : Option Jvm.ClassFile.FieldType)
set_option maxRecDepth 65536 in
theorem w_c43 : c43.before args0 about1 = true := code_word (m := ⟨28, 4⟩) (meth := k28m4) (c := k28c4) (by decide +kernel) rfl rfl rfl (by decide +kernel)
def c44 : Jvm.Cond := Jvm.Cond.code ⟨"com/example/rewrought/rewrought/Derivations", "expanded", "(I)Z"⟩ prog_12_method_18_code (2 : Nat) (Option.some Jvm.ClassFile.FieldType.boolean)
set_option maxRecDepth 65536 in
theorem w_c44 : c44.before args0 about1 = true := code_word (m := ⟨28, 6⟩) (meth := k28m6) (c := k28c6) (by decide +kernel) rfl rfl rfl (by decide +kernel)
def c45 : Jvm.Cond := Jvm.Cond.code ⟨"com/example/rewrought/rewrought/Derivations", "complete", "(I)Z"⟩ prog_12_method_19_code (2 : Nat) (Option.some Jvm.ClassFile.FieldType.boolean)
set_option maxRecDepth 65536 in
theorem w_c45 : c45.before args0 about1 = true := code_word (m := ⟨28, 7⟩) (meth := k28m7) (c := k28c7) (by decide +kernel) rfl rfl rfl (by decide +kernel)
def c46 : Jvm.Cond := Jvm.Cond.code ⟨"com/example/rewrought/rewrought/Derivations", "next", "()I"⟩ prog_12_method_11_code (2 : Nat) (Option.some Jvm.ClassFile.FieldType.int)
set_option maxRecDepth 65536 in
theorem w_c46 : c46.before args0 about1 = true := code_word (m := ⟨28, 5⟩) (meth := k28m5) (c := k28c5) (by decide +kernel) rfl rfl rfl (by decide +kernel)
def c47 : Jvm.Cond := Jvm.Cond.code ⟨"java/util/ArrayDeque", "isEmpty", "()Z"⟩ jdk_21_method_38_code (1 : Nat) (Option.some Jvm.ClassFile.FieldType.boolean)
set_option maxRecDepth 65536 in
theorem w_c47 : c47.before args0 about1 = true := code_word (m := ⟨40, 8⟩) (meth := k40m8) (c := k40c8) (by decide +kernel) rfl rfl rfl (by decide +kernel)
def c48 : Jvm.Cond := Jvm.Cond.code ⟨"java/util/ArrayDeque", "remove", "()Ljava/lang/Object;"⟩ jdk_21_method_30_code (1 : Nat) (Option.some (Jvm.ClassFile.FieldType.object "java/lang/Object"))
set_option maxRecDepth 65536 in
theorem w_c48 : c48.before args0 about1 = true := code_word (m := ⟨40, 7⟩) (meth := k40m7) (c := k40c7) (by decide +kernel) rfl rfl rfl (by decide +kernel)
def c49 : Jvm.Cond := Jvm.Cond.code ⟨"java/util/ArrayDeque", "removeFirst", "()Ljava/lang/Object;"⟩ jdk_21_method_18_code (2 : Nat) (Option.some (Jvm.ClassFile.FieldType.object "java/lang/Object"))
set_option maxRecDepth 65536 in
theorem w_c49 : c49.before args0 about1 = true := code_word (m := ⟨40, 4⟩) (meth := k40m4) (c := k40c4) (by decide +kernel) rfl rfl rfl (by decide +kernel)
def c50 : Jvm.Cond := Jvm.Cond.code ⟨"java/util/ArrayDeque", "pollFirst", "()Ljava/lang/Object;"⟩ jdk_21_method_20_code (4 : Nat) (Option.some (Jvm.ClassFile.FieldType.object "java/lang/Object"))
set_option maxRecDepth 65536 in
theorem w_c50 : c50.before args0 about1 = true := code_word (m := ⟨40, 5⟩) (meth := k40m5) (c := k40c5) (by decide +kernel) rfl rfl rfl (by decide +kernel)
def c51 : Jvm.Cond := Jvm.Cond.code ⟨"java/util/ArrayDeque", "elementAt", "([Ljava/lang/Object;I)Ljava/lang/Object;"⟩ jdk_21_method_10_code (2 : Nat) (Option.some (Jvm.ClassFile.FieldType.object "java/lang/Object"))
set_option maxRecDepth 65536 in
theorem w_c51 : c51.before args0 about1 = true := code_word (m := ⟨40, 2⟩) (meth := k40m2) (c := k40c2) (by decide +kernel) rfl rfl rfl (by decide +kernel)
def c52 : Jvm.Cond := Jvm.Cond.code ⟨"java/lang/Integer", "intValue", "()I"⟩ jdk_33_method_27_code (1 : Nat) (Option.some Jvm.ClassFile.FieldType.int)
set_option maxRecDepth 65536 in
theorem w_c52 : c52.before args0 about1 = true := code_word (m := ⟨42, 1⟩) (meth := k42m1) (c := k42c1) (by decide +kernel) rfl rfl rfl (by decide +kernel)
def c53 : Jvm.Cond := Jvm.Cond.code ⟨"com/example/rewrought/rewrought/MinimalUnion", "holds", "(I)Z"⟩ prog_25_method_18_code (2 : Nat) (Option.some Jvm.ClassFile.FieldType.boolean)
set_option maxRecDepth 65536 in
theorem w_c53 : c53.before args0 about1 = true := code_word (m := ⟨29, 3⟩) (meth := k29m3) (c := k29c3) (by decide +kernel) rfl rfl rfl (by decide +kernel)
def c54 : Jvm.Cond := Jvm.Cond.code ⟨"java/util/List", "of", "()Ljava/util/List;"⟩ jdk_40_method_36_code (0 : Nat) (Option.some (Jvm.ClassFile.FieldType.object "java/util/List"))
set_option maxRecDepth 65536 in
theorem w_c54 : c54.before args0 about1 = true := code_word (m := ⟨13, 3⟩) (meth := k13m3) (c := k13c3) (by decide +kernel) rfl rfl rfl (by decide +kernel)
def c55 : Jvm.Cond := Jvm.Cond.code ⟨"com/example/rewrought/rewrought/Derivations", "link", "(II[I)V"⟩ prog_12_method_7_code (4 : Nat) (Option.none : Option Jvm.ClassFile.FieldType)
set_option maxRecDepth 65536 in
theorem w_c55 : c55.before args0 about1 = true := code_word (m := ⟨28, 3⟩) (meth := k28m3) (c := k28c3) (by decide +kernel) rfl rfl rfl (by decide +kernel)
def codes1 : List Jvm.Cond := [c0, c1, c2, c3, c4, c5, c6, c7, c8, c9, c10, c11, c12, c13, c14, c15, c16, c17, c18, c19, c20, c21, c22, c23, c24, c25, c26, c27, c28, c29, c30, c31, c32, c33, c34, c35, c36, c37, c38, c39, c40, c41, c42, c43, c44, c45, c46, c47, c48, c49, c50, c51, c52, c53, c54, c55]
set_option maxRecDepth 65536 in
theorem codes_eq : words1.filter isCode = codes1 := rfl
theorem w_codes : ∀ c ∈ words1.filter isCode, c.before args0 about1 = true := by
  rw [codes_eq]
  intro c hc
  simp only [codes1, List.mem_cons, List.not_mem_nil, or_false] at hc
  rcases hc with rfl | rfl | rfl | rfl | rfl | rfl | rfl | rfl | rfl | rfl | rfl | rfl | rfl | rfl | rfl | rfl | rfl | rfl | rfl | rfl | rfl | rfl | rfl | rfl | rfl | rfl | rfl | rfl | rfl | rfl | rfl | rfl | rfl | rfl | rfl | rfl | rfl | rfl | rfl | rfl | rfl | rfl | rfl | rfl | rfl | rfl | rfl | rfl | rfl | rfl | rfl | rfl | rfl | rfl | rfl | rfl
  · exact w_c0
  · exact w_c1
  · exact w_c2
  · exact w_c3
  · exact w_c4
  · exact w_c5
  · exact w_c6
  · exact w_c7
  · exact w_c8
  · exact w_c9
  · exact w_c10
  · exact w_c11
  · exact w_c12
  · exact w_c13
  · exact w_c14
  · exact w_c15
  · exact w_c16
  · exact w_c17
  · exact w_c18
  · exact w_c19
  · exact w_c20
  · exact w_c21
  · exact w_c22
  · exact w_c23
  · exact w_c24
  · exact w_c25
  · exact w_c26
  · exact w_c27
  · exact w_c28
  · exact w_c29
  · exact w_c30
  · exact w_c31
  · exact w_c32
  · exact w_c33
  · exact w_c34
  · exact w_c35
  · exact w_c36
  · exact w_c37
  · exact w_c38
  · exact w_c39
  · exact w_c40
  · exact w_c41
  · exact w_c42
  · exact w_c43
  · exact w_c44
  · exact w_c45
  · exact w_c46
  · exact w_c47
  · exact w_c48
  · exact w_c49
  · exact w_c50
  · exact w_c51
  · exact w_c52
  · exact w_c53
  · exact w_c54
  · exact w_c55
set_option maxRecDepth 65536 in
theorem w_t1 : (words1.take 24).all (fun c => isCode c || c.before args0 about1) = true := by decide +kernel
set_option maxRecDepth 65536 in
theorem w_t2 : ((words1.drop 24).take 24).all (fun c => isCode c || c.before args0 about1) = true := by decide +kernel
set_option maxRecDepth 65536 in
theorem w_t3 : (((words1.drop 24).drop 24).take 24).all (fun c => isCode c || c.before args0 about1) = true := by decide +kernel
set_option maxRecDepth 65536 in
theorem w_t4 : ((((words1.drop 24).drop 24).drop 24).take 24).all (fun c => isCode c || c.before args0 about1) = true := by decide +kernel
set_option maxRecDepth 65536 in
theorem w_t5 : (((((words1.drop 24).drop 24).drop 24).drop 24).take 24).all (fun c => isCode c || c.before args0 about1) = true := by decide +kernel
set_option maxRecDepth 65536 in
theorem w_t6 : ((((((words1.drop 24).drop 24).drop 24).drop 24).drop 24).take 24).all (fun c => isCode c || c.before args0 about1) = true := by decide +kernel
set_option maxRecDepth 65536 in
theorem w_t7 : (((((((words1.drop 24).drop 24).drop 24).drop 24).drop 24).drop 24).take 24).all (fun c => isCode c || c.before args0 about1) = true := by decide +kernel
set_option maxRecDepth 65536 in
theorem w_t8 : ((((((((words1.drop 24).drop 24).drop 24).drop 24).drop 24).drop 24).drop 24).take 24).all (fun c => isCode c || c.before args0 about1) = true := by decide +kernel
set_option maxRecDepth 65536 in
theorem w_t9 : (((((((((words1.drop 24).drop 24).drop 24).drop 24).drop 24).drop 24).drop 24).drop 24).take 24).all (fun c => isCode c || c.before args0 about1) = true := by decide +kernel
set_option maxRecDepth 65536 in
theorem w_t10 : ((((((((((words1.drop 24).drop 24).drop 24).drop 24).drop 24).drop 24).drop 24).drop 24).drop 24).take 24).all (fun c => isCode c || c.before args0 about1) = true := by decide +kernel
set_option maxRecDepth 65536 in
theorem w_t11 : (((((((((((words1.drop 24).drop 24).drop 24).drop 24).drop 24).drop 24).drop 24).drop 24).drop 24).drop 24).take 24).all (fun c => isCode c || c.before args0 about1) = true := by decide +kernel
set_option maxRecDepth 65536 in
theorem w_t12 : ((((((((((((words1.drop 24).drop 24).drop 24).drop 24).drop 24).drop 24).drop 24).drop 24).drop 24).drop 24).drop 24).take 24).all (fun c => isCode c || c.before args0 about1) = true := by decide +kernel
set_option maxRecDepth 65536 in
theorem w_t13 : (((((((((((((words1.drop 24).drop 24).drop 24).drop 24).drop 24).drop 24).drop 24).drop 24).drop 24).drop 24).drop 24).drop 24).take 24).all (fun c => isCode c || c.before args0 about1) = true := by decide +kernel
set_option maxRecDepth 65536 in
theorem w_t14 : ((((((((((((((words1.drop 24).drop 24).drop 24).drop 24).drop 24).drop 24).drop 24).drop 24).drop 24).drop 24).drop 24).drop 24).drop 24).take 24).all (fun c => isCode c || c.before args0 about1) = true := by decide +kernel
set_option maxRecDepth 65536 in
theorem w_t15 : (((((((((((((((words1.drop 24).drop 24).drop 24).drop 24).drop 24).drop 24).drop 24).drop 24).drop 24).drop 24).drop 24).drop 24).drop 24).drop 24).take 24).all (fun c => isCode c || c.before args0 about1) = true := by decide +kernel
set_option maxRecDepth 65536 in
theorem w_t16 : ((((((((((((((((words1.drop 24).drop 24).drop 24).drop 24).drop 24).drop 24).drop 24).drop 24).drop 24).drop 24).drop 24).drop 24).drop 24).drop 24).drop 24).take 24).all (fun c => isCode c || c.before args0 about1) = true := by decide +kernel
set_option maxRecDepth 65536 in
theorem w_t17 : (((((((((((((((((words1.drop 24).drop 24).drop 24).drop 24).drop 24).drop 24).drop 24).drop 24).drop 24).drop 24).drop 24).drop 24).drop 24).drop 24).drop 24).drop 24).take 24).all (fun c => isCode c || c.before args0 about1) = true := by decide +kernel
set_option maxRecDepth 65536 in
theorem w_t18 : ((((((((((((((((((words1.drop 24).drop 24).drop 24).drop 24).drop 24).drop 24).drop 24).drop 24).drop 24).drop 24).drop 24).drop 24).drop 24).drop 24).drop 24).drop 24).drop 24).take 24).all (fun c => isCode c || c.before args0 about1) = true := by decide +kernel
set_option maxRecDepth 65536 in
theorem w_t19 : (((((((((((((((((((words1.drop 24).drop 24).drop 24).drop 24).drop 24).drop 24).drop 24).drop 24).drop 24).drop 24).drop 24).drop 24).drop 24).drop 24).drop 24).drop 24).drop 24).drop 24).take 24).all (fun c => isCode c || c.before args0 about1) = true := by decide +kernel
set_option maxRecDepth 65536 in
theorem w_t20 : (((((((((((((((((((words1.drop 24).drop 24).drop 24).drop 24).drop 24).drop 24).drop 24).drop 24).drop 24).drop 24).drop 24).drop 24).drop 24).drop 24).drop 24).drop 24).drop 24).drop 24).drop 24).all (fun c => isCode c || c.before args0 about1) = true := by decide +kernel
theorem w_tables : (allAtoms (Jvm.Cond.code x code maxLocals ret :: tables_1)).before args0 about1 = true := by
  rw [allAtoms_all]
  show words1.all (fun c => c.before args0 about1) = true
  refine all_split ?_ w_codes
  rw [← List.take_append_drop 24 words1, List.all_append, w_t1, ← List.take_append_drop 24 (words1.drop 24), List.all_append, w_t2, ← List.take_append_drop 24 ((words1.drop 24).drop 24), List.all_append, w_t3, ← List.take_append_drop 24 (((words1.drop 24).drop 24).drop 24), List.all_append, w_t4, ← List.take_append_drop 24 ((((words1.drop 24).drop 24).drop 24).drop 24), List.all_append, w_t5, ← List.take_append_drop 24 (((((words1.drop 24).drop 24).drop 24).drop 24).drop 24), List.all_append, w_t6, ← List.take_append_drop 24 ((((((words1.drop 24).drop 24).drop 24).drop 24).drop 24).drop 24), List.all_append, w_t7, ← List.take_append_drop 24 (((((((words1.drop 24).drop 24).drop 24).drop 24).drop 24).drop 24).drop 24), List.all_append, w_t8, ← List.take_append_drop 24 ((((((((words1.drop 24).drop 24).drop 24).drop 24).drop 24).drop 24).drop 24).drop 24), List.all_append, w_t9, ← List.take_append_drop 24 (((((((((words1.drop 24).drop 24).drop 24).drop 24).drop 24).drop 24).drop 24).drop 24).drop 24), List.all_append, w_t10, ← List.take_append_drop 24 ((((((((((words1.drop 24).drop 24).drop 24).drop 24).drop 24).drop 24).drop 24).drop 24).drop 24).drop 24), List.all_append, w_t11, ← List.take_append_drop 24 (((((((((((words1.drop 24).drop 24).drop 24).drop 24).drop 24).drop 24).drop 24).drop 24).drop 24).drop 24).drop 24), List.all_append, w_t12, ← List.take_append_drop 24 ((((((((((((words1.drop 24).drop 24).drop 24).drop 24).drop 24).drop 24).drop 24).drop 24).drop 24).drop 24).drop 24).drop 24), List.all_append, w_t13, ← List.take_append_drop 24 (((((((((((((words1.drop 24).drop 24).drop 24).drop 24).drop 24).drop 24).drop 24).drop 24).drop 24).drop 24).drop 24).drop 24).drop 24), List.all_append, w_t14, ← List.take_append_drop 24 ((((((((((((((words1.drop 24).drop 24).drop 24).drop 24).drop 24).drop 24).drop 24).drop 24).drop 24).drop 24).drop 24).drop 24).drop 24).drop 24), List.all_append, w_t15, ← List.take_append_drop 24 (((((((((((((((words1.drop 24).drop 24).drop 24).drop 24).drop 24).drop 24).drop 24).drop 24).drop 24).drop 24).drop 24).drop 24).drop 24).drop 24).drop 24), List.all_append, w_t16, ← List.take_append_drop 24 ((((((((((((((((words1.drop 24).drop 24).drop 24).drop 24).drop 24).drop 24).drop 24).drop 24).drop 24).drop 24).drop 24).drop 24).drop 24).drop 24).drop 24).drop 24), List.all_append, w_t17, ← List.take_append_drop 24 (((((((((((((((((words1.drop 24).drop 24).drop 24).drop 24).drop 24).drop 24).drop 24).drop 24).drop 24).drop 24).drop 24).drop 24).drop 24).drop 24).drop 24).drop 24).drop 24), List.all_append, w_t18, ← List.take_append_drop 24 ((((((((((((((((((words1.drop 24).drop 24).drop 24).drop 24).drop 24).drop 24).drop 24).drop 24).drop 24).drop 24).drop 24).drop 24).drop 24).drop 24).drop 24).drop 24).drop 24).drop 24), List.all_append, w_t19, w_t20]
  rfl
set_option maxRecDepth 65536 in
theorem w_rest : rest_1_c.before args0 about1 = true := by decide +kernel
set_option maxRecDepth 65536 in
theorem w_case : (Jvm.Cond.and given_1 narrow_1).before args0 about1 = true := by decide +kernel
theorem w_applies : (headSpec (Jvm.Cond.code x code maxLocals ret :: tables_1) room_1).applies x e0.platform about1 = true :=
  (Spec.applies_iff w_frames).mpr ⟨w_running, w_runnable, w_alone, w_named, w_hears, w_ripe, w_room, w_tables⟩
set_option maxRecDepth 65536 in
theorem atStart : AtStart classFile x code maxLocals ret World_1 tables_1 room_1 Calls_1 rest_1 Pre_1 launch0 p0 e0 about1 theMethod args0 below0 :=
  ⟨lists_1, trivial, launch0.admits_env _ _ _, launch0.least_env, fairChoices_fair.cas, fairChoices_fair.clock, w_frames, w_args, w_heap, w_applies, ⟨⟨55, k55, 3, by decide +kernel, rfl, rfl, _, rfl, rfl⟩, trivial⟩, w_rest, w_case⟩
end start1
theorem witness_1 : WitnessClaimed_1 := ⟨start1.p0, start1.e0, start1.about1, start1.theMethod, start1.args0, start1.below0, start1.atStart⟩
end Jvm.Pilot.@@N@@
