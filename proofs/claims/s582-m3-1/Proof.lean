import JvmDerived
import JvmDerived.Pilot.@@N@@Statement
import JvmDerived.Pilot.@@N@@Code
set_option linter.unusedVariables false
set_option linter.unusedSimpArgs false
namespace Jvm.RoadKit
open Sem ClassFile Op Lib Jvm.Stand Jvm.Free Jvm.LawKit
section New
variable {p : Program} {l : Launch} {e : Env} {R : Room} {s : State} {m : MethodId} {args : Array Value} {below : List Frame} {meth : Method} {c : Code} {T : State} {locs : List Loc} {cells slots : Nat}
theorem retI (X : Stand p l e R s m args below meth c T locs cells slots) (hx : p.tables.exec = Jvm.exec) {pc : Nat} {Ls : Array Slot} {z : Int32} {rest : List Value} (hret : meth.sig.returnType = some .int) (hd : decode c.code pc = .ok (.ireturn, 1)) {fs : List Frame}
    (hl : ∀ (f : JFrame) (acts : List Action), f.method = m → f.locked = none → f.entered = [] → (doReturn e (T.setTop f) acts (some (.int z))).1 = T.setFrames fs) : Steps p.tables e below (T.setTop (mkF m pc Ls (.int z :: rest))) (T.setFrames fs) :=
  retOut X hx hret rfl (Or.inl ⟨rfl, Or.inl rfl, _, rfl⟩) hd hl
end New
end Jvm.RoadKit
namespace Jvm.Pilot.@@N@@
open Jvm Jvm.ClassFile Sem Op Lib Jvm.Free Jvm.Stand Jvm.LawKit Jvm.RoadKit Bundle Jvm.Pilot.@@N@@.Jvm.D
/-- the run goes on from A and comes to an end of which R holds -/
def own_Go (p : Program) (e : Env) (below : List Frame) (A : State) (R : State → Outcome → Prop) : Prop := ∃ s₂ o, Steps p.tables e below A s₂ ∧ s₂.status = .running ∧ Ended s₂ below o ∧ R s₂ o
theorem ob_ {p : Program} {e : Env} {below : List Frame} {A B : State} {R : State → Outcome → Prop} (k : ∀ t, Steps p.tables e below B t → Steps p.tables e below A t) (h : own_Go p e below B R) : own_Go p e below A R := by
  obtain ⟨s₂, o, h1, h2⟩ := h
  exact ⟨s₂, o, k _ h1, h2⟩
theorem own_ne {x y : Nat} (h : x ≠ y) : x ≠ y := h
theorem own_cat {v : Value} (h : v.isRef = true) : v.category = 1 := by rcases ref_cases h with rfl | ⟨_, rfl⟩ <;> rfl
theorem own_w {Z : State} {a0 : Array Value} (hw : ∀ d ∈ tables_1, d.before a0 Z = true) {d : Jvm.Cond} (i : Nat) (h : tables_1[i]? = some d) : d.before a0 Z = true := hw _ (List.mem_of_getElem? h)
theorem own_Ins_keep {Z : State} {h h' : Heap} {a : Addr} {C : String} {bo : Bool} {ws : List Addr} (F : Ins Z h a C bo) (K : Keep h h' ws) : Ins Z h' a C bo := by
  obtain ⟨cell, cT, h1, h2, h3⟩ := F
  obtain ⟨c', q, r1, r2, -⟩ := K.2.2 a cell h1
  exact ⟨c', cT, q, h2, by rw [r1, r2]; exact h3⟩
theorem own_narrow_ref {t : FieldType} {v : Value} (ht : t.isReference = true) (hv : v.isRef = true) : narrow t v = v := by
  cases t <;> first | (cases ht; done) | (cases v <;> first | rfl | (cases hv; done))
theorem own_fits_ref {t : FieldType} {v : Value} (hv : v.isRef = true) (ht : t.isReference = true := by rfl) : fits t v = true := by
  cases t <;> first | (cases ht; done) | (cases v <;> first | rfl | (cases hv; done))
abbrev s1_ : String := "com/example/living_lease/livinglease/redis/RespCommandPinLaw"
abbrev s2_ : String := "com/example/living_lease/livinglease/redis/Resp"
abbrev s3_ : String := "java/lang/System"
abbrev s4_ : String := "(Ljava/lang/Object;ILjava/lang/Object;II)V"
def own_NE (x y : Nat) : Prop := x ≠ y
theorem own_mkNE {x y : Nat} (h : x ≠ y) : own_NE x y := h
theorem own_unNE {x y : Nat} (h : own_NE x y) : x ≠ y := h
def own_LE (x y : Nat) : Prop := x ≤ y
theorem own_mkLE {x y : Nat} (h : x ≤ y) : own_LE x y := h
theorem own_unLE {x y : Nat} (h : own_LE x y) : x ≤ y := h
theorem mw {Z s : State} {a0 args : Array Value} (hZ : Z.Warmed39 s.vm) (hw : ∀ d ∈ tables_1, d.before a0 Z = true) {d : Jvm.Cond} (i : Nat) (h : tables_1[i]? = some d) (hd : (d.onTables && d.keepsFace) = true := by first | rfl | simp [Cond.onTables, Cond.keepsFace, Cond.keeps, Cond.steady]) : d.before args s = true := mvT hZ (hw _ (List.mem_of_getElem? h)) hd
theorem own_z {a W : Nat} (h : a = W := by rfl) : 2 * 0 + a ≤ W := by omega
section OwnL
variable {p : Program} {l : Launch} {e : Env} {Rm : Room} {s : State} {m : MethodId} {args : Array Value} {below : List Frame} {meth : Method} {c : Code} {T : State} {locs : List Loc} {cells slots : Nat} {code : ByteArray} {Q : State → Outcome → Prop} {pc : Nat} {Ls : Array Slot} {S : List Value} {i : Int} {z : Int32}
theorem oIc (X : Stand p l e Rm s m args below meth c T locs cells slots) (hx : p.tables.exec = Jvm.exec) (hby : c.code = code) (hd : decode code pc = .ok (.iconst i, 1)) (hz : Int32.ofInt i = z) (k : own_Go p e below (T.setTop (mkF m (pc + 1) Ls (.int z :: S))) Q) : own_Go p e below (T.setTop (mkF m pc Ls S)) Q := by
  subst hz; exact ob_ (fun _ k => XS.iconst X.here hx rfl (hb hby hd) k) k
theorem oBi (X : Stand p l e Rm s m args below meth c T locs cells slots) (hx : p.tables.exec = Jvm.exec) (hby : c.code = code) (hd : decode code pc = .ok (.bipush i, 2)) (hz : (Int8.ofInt i).toInt32 = z) (k : own_Go p e below (T.setTop (mkF m (pc + 2) Ls (.int z :: S))) Q) : own_Go p e below (T.setTop (mkF m pc Ls S)) Q := by
  subst hz; exact ob_ (fun _ k => XS.bipush X.here hx rfl (hb hby hd) k) k
theorem oSi (X : Stand p l e Rm s m args below meth c T locs cells slots) (hx : p.tables.exec = Jvm.exec) (hby : c.code = code) (hd : decode code pc = .ok (.sipush i, 3)) (hz : (Int16.ofInt i).toInt32 = z) (k : own_Go p e below (T.setTop (mkF m (pc + 3) Ls (.int z :: S))) Q) : own_Go p e below (T.setTop (mkF m pc Ls S)) Q := by
  subst hz; exact ob_ (fun _ k => XS.sipush X.here hx rfl (hb hby hd) k) k
theorem n_iload (X : Stand p l e Rm s m args below meth c T locs cells slots) (hx : p.tables.exec = Jvm.exec) (hby : c.code = code) {k0 : Nat} {v : Int32} (hd : decode code pc = .ok (.iload k0, 2)) (hl : Ls[k0]? = some (.val (.int v))) (k : own_Go p e below (T.setTop (mkF m (pc + 2) Ls (.int v :: S))) Q) : own_Go p e below (T.setTop (mkF m pc Ls S)) Q := ob_ (fun _ k => XS.iload X.here hx rfl (hb hby hd) hl k) k
theorem n_iloadN (X : Stand p l e Rm s m args below meth c T locs cells slots) (hx : p.tables.exec = Jvm.exec) (hby : c.code = code) {k0 : Fin 4} {v : Int32} (hd : decode code pc = .ok (.iload_n k0, 1)) (hl : Ls[k0.1]? = some (.val (.int v))) (k : own_Go p e below (T.setTop (mkF m (pc + 1) Ls (.int v :: S))) Q) : own_Go p e below (T.setTop (mkF m pc Ls S)) Q := ob_ (fun _ k => XS.iloadN X.here hx rfl (hb hby hd) hl k) k
theorem n_lload (X : Stand p l e Rm s m args below meth c T locs cells slots) (hx : p.tables.exec = Jvm.exec) (hby : c.code = code) {k0 : Nat} {v : Int64} (hd : decode code pc = .ok (.lload k0, 2)) (hl : Ls[k0]? = some (.val (.long v))) (k : own_Go p e below (T.setTop (mkF m (pc + 2) Ls (.long v :: S))) Q) : own_Go p e below (T.setTop (mkF m pc Ls S)) Q := ob_ (fun _ k => XS.lload X.here hx rfl (hb hby hd) hl k) k
theorem n_lloadN (X : Stand p l e Rm s m args below meth c T locs cells slots) (hx : p.tables.exec = Jvm.exec) (hby : c.code = code) {k0 : Fin 4} {v : Int64} (hd : decode code pc = .ok (.lload_n k0, 1)) (hl : Ls[k0.1]? = some (.val (.long v))) (k : own_Go p e below (T.setTop (mkF m (pc + 1) Ls (.long v :: S))) Q) : own_Go p e below (T.setTop (mkF m pc Ls S)) Q := ob_ (fun _ k => XS.lloadN X.here hx rfl (hb hby hd) hl k) k
theorem n_aload (X : Stand p l e Rm s m args below meth c T locs cells slots) (hx : p.tables.exec = Jvm.exec) (hby : c.code = code) {k0 : Nat} {v : Value} (hd : decode code pc = .ok (.aload k0, 2)) (hl : Ls[k0]? = some (.val v)) (hv : v.isRef = true) (k : own_Go p e below (T.setTop (mkF m (pc + 2) Ls (v :: S))) Q) : own_Go p e below (T.setTop (mkF m pc Ls S)) Q := ob_ (fun _ k => XS.aload X.here hx rfl (hb hby hd) hl hv k) k
theorem n_aloadN (X : Stand p l e Rm s m args below meth c T locs cells slots) (hx : p.tables.exec = Jvm.exec) (hby : c.code = code) {k0 : Fin 4} {v : Value} (hd : decode code pc = .ok (.aload_n k0, 1)) (hl : Ls[k0.1]? = some (.val v)) (hv : v.isRef = true) (k : own_Go p e below (T.setTop (mkF m (pc + 1) Ls (v :: S))) Q) : own_Go p e below (T.setTop (mkF m pc Ls S)) Q := ob_ (fun _ k => XS.aloadN X.here hx rfl (hb hby hd) hl hv k) k
theorem n_istore (X : Stand p l e Rm s m args below meth c T locs cells slots) (hx : p.tables.exec = Jvm.exec) (hby : c.code = code) {k0 : Nat} {x : Int32} {l' : Array Slot} (hd : decode code pc = .ok (.istore k0, 2)) (hl : storeLocals Ls k0 (.int x) = some l') (k : own_Go p e below (T.setTop (mkF m (pc + 2) l' S)) Q) : own_Go p e below (T.setTop (mkF m pc Ls (.int x :: S))) Q := ob_ (fun _ k => XS.istore X.here hx rfl (hb hby hd) rfl hl k) k
theorem n_istoreN (X : Stand p l e Rm s m args below meth c T locs cells slots) (hx : p.tables.exec = Jvm.exec) (hby : c.code = code) {k0 : Fin 4} {x : Int32} {l' : Array Slot} (hd : decode code pc = .ok (.istore_n k0, 1)) (hl : storeLocals Ls k0.1 (.int x) = some l') (k : own_Go p e below (T.setTop (mkF m (pc + 1) l' S)) Q) : own_Go p e below (T.setTop (mkF m pc Ls (.int x :: S))) Q := ob_ (fun _ k => XS.istoreN X.here hx rfl (hb hby hd) rfl hl k) k
theorem n_astore (X : Stand p l e Rm s m args below meth c T locs cells slots) (hx : p.tables.exec = Jvm.exec) (hby : c.code = code) {k0 : Nat} {x : Value} {l' : Array Slot} (hd : decode code pc = .ok (.astore k0, 2)) (hv : x.isRef = true) (hl : storeLocals Ls k0 x = some l') (k : own_Go p e below (T.setTop (mkF m (pc + 2) l' S)) Q) : own_Go p e below (T.setTop (mkF m pc Ls (x :: S))) Q := ob_ (fun _ k => XS.astore X.here hx rfl (hb hby hd) rfl hv hl k) k
theorem n_astoreN (X : Stand p l e Rm s m args below meth c T locs cells slots) (hx : p.tables.exec = Jvm.exec) (hby : c.code = code) {k0 : Fin 4} {x : Value} {l' : Array Slot} (hd : decode code pc = .ok (.astore_n k0, 1)) (hv : x.isRef = true) (hl : storeLocals Ls k0.1 x = some l') (k : own_Go p e below (T.setTop (mkF m (pc + 1) l' S)) Q) : own_Go p e below (T.setTop (mkF m pc Ls (x :: S))) Q := ob_ (fun _ k => XS.astoreN X.here hx rfl (hb hby hd) rfl hv hl k) k
theorem n_iadd (X : Stand p l e Rm s m args below meth c T locs cells slots) (hx : p.tables.exec = Jvm.exec) (hby : c.code = code) {x y : Int32} (hd : decode code pc = .ok (.iadd, 1)) (k : own_Go p e below (T.setTop (mkF m (pc + 1) Ls (.int (x + y) :: S))) Q) : own_Go p e below (T.setTop (mkF m pc Ls (.int y :: .int x :: S))) Q := ob_ (fun _ k => XS.iadd X.here hx rfl (hb hby hd) rfl k) k
theorem n_i2b (X : Stand p l e Rm s m args below meth c T locs cells slots) (hx : p.tables.exec = Jvm.exec) (hby : c.code = code) {x : Int32} (hd : decode code pc = .ok (.i2b, 1)) (k : own_Go p e below (T.setTop (mkF m (pc + 1) Ls (.int (x.toInt8.toInt32) :: S))) Q) : own_Go p e below (T.setTop (mkF m pc Ls (.int x :: S))) Q := ob_ (fun _ k => XS.i2b X.here hx rfl (hb hby hd) rfl k) k
theorem n_icmpNo (X : Stand p l e Rm s m args below meth c T locs cells slots) (hx : p.tables.exec = Jvm.exec) (hby : c.code = code) {cd : ClassFile.Cond} {o : Int} {x y : Int32} (hd : decode code pc = .ok (.if_icmp cd o, 3)) (hc : if_icmp.holds cd x y = false) (k : own_Go p e below (T.setTop (mkF m (pc + 3) Ls S)) Q) : own_Go p e below (T.setTop (mkF m pc Ls (.int y :: .int x :: S))) Q := ob_ (fun _ k => XS.icmpNo X.here hx rfl (hb hby hd) rfl hc k) k
theorem n_ifNo (X : Stand p l e Rm s m args below meth c T locs cells slots) (hx : p.tables.exec = Jvm.exec) (hby : c.code = code) {cd : ClassFile.Cond} {o : Int} {x : Int32} (hd : decode code pc = .ok (.ifCond cd o, 3)) (hc : ifCond.holds cd x = false) (k : own_Go p e below (T.setTop (mkF m (pc + 3) Ls S)) Q) : own_Go p e below (T.setTop (mkF m pc Ls (.int x :: S))) Q := ob_ (fun _ k => XS.ifNo X.here hx rfl (hb hby hd) rfl hc k) k
theorem n_icmpYes (X : Stand p l e Rm s m args below meth c T locs cells slots) (hx : p.tables.exec = Jvm.exec) (hby : c.code = code) {cd : ClassFile.Cond} {o : Int} {x y : Int32} {pc0 pc' : Nat} (hd : decode code pc = .ok (.if_icmp cd o, 3)) (hpc : pc = pc0) (hc : if_icmp.holds cd x y = true) (ho : 0 ≤ (pc0 : Int) + o) (hp : ((pc0 : Int) + o).toNat = pc') (k : own_Go p e below (T.setTop (mkF m pc' Ls S)) Q) : own_Go p e below (T.setTop (mkF m pc Ls (.int y :: .int x :: S))) Q := ob_ (fun _ k => XS.icmpYes X.here hx rfl hpc (hb hby hd) rfl hc ho hp k) k
theorem n_ifYes (X : Stand p l e Rm s m args below meth c T locs cells slots) (hx : p.tables.exec = Jvm.exec) (hby : c.code = code) {cd : ClassFile.Cond} {o : Int} {x : Int32} {pc0 pc' : Nat} (hd : decode code pc = .ok (.ifCond cd o, 3)) (hpc : pc = pc0) (hc : ifCond.holds cd x = true) (ho : 0 ≤ (pc0 : Int) + o) (hp : ((pc0 : Int) + o).toNat = pc') (k : own_Go p e below (T.setTop (mkF m pc' Ls S)) Q) : own_Go p e below (T.setTop (mkF m pc Ls (.int x :: S))) Q := ob_ (fun _ k => XS.ifYes X.here hx rfl hpc (hb hby hd) rfl hc ho hp k) k
theorem n_goto (X : Stand p l e Rm s m args below meth c T locs cells slots) (hx : p.tables.exec = Jvm.exec) (hby : c.code = code) {o : Int} {pc0 pc' : Nat} (hd : decode code pc = .ok (.goto o, 3)) (hpc : pc = pc0) (ho : 0 ≤ (pc0 : Int) + o) (hp : ((pc0 : Int) + o).toNat = pc') (k : own_Go p e below (T.setTop (mkF m pc' Ls S)) Q) : own_Go p e below (T.setTop (mkF m pc Ls S)) Q := ob_ (fun _ k => XS.goto X.here hx rfl hpc (hb hby hd) ho hp k) k
theorem n_iinc (X : Stand p l e Rm s m args below meth c T locs cells slots) (hx : p.tables.exec = Jvm.exec) (hby : c.code = code) {k0 : Nat} {cst : Int} {x : Int32} {l' : Array Slot} (hd : decode code pc = .ok (.iinc k0 cst, 3)) (hl : Ls[k0]? = some (.val (.int x))) (hl' : storeLocals Ls k0 (.int (x + Int32.ofInt cst)) = some l') (k : own_Go p e below (T.setTop (mkF m (pc + 3) l' S)) Q) : own_Go p e below (T.setTop (mkF m pc Ls S)) Q := ob_ (fun _ k => XS.iinc X.here hx rfl (hb hby hd) hl hl' k) k
end OwnL
section OwnK
variable {p : Program} {l : Launch} {e : Env} {Rm : Room} {s : State} {m : MethodId} {args : Array Value} {below : List Frame} {meth : Method} {c : Code} {T : State} {locs : List Loc} {cells slots : Nat} {code : ByteArray} {Q : State → Outcome → Prop} {pc : Nat} {Ls : Array Slot} {S : List Value}
theorem o_k {Qc : Option Value → Heap → List Loc → Prop} {kc ks : Nat} {rest : List Value} (n : Nat) (call : ∃ (v : Option Value) (vm₁ : Vm) (B : Pt), s.WarmedH vm₁ ∧ Stand p l e Rm s m args below meth c B.U B.locs B.cells B.slots ∧ (∃ L, Qc v B.U.heap L ∧ B.locs = locs ++ L ∧ B.cells = cells + kc ∧ B.slots = slots + ks) ∧ Steps p.tables e below (T.setTop (mkF m pc Ls S)) (B.U.setTop (mkF m (pc + n) Ls (v.toList ++ rest))))
    (k : ∀ (T' : State) (L : List Loc) (v : Option Value), Stand p l e Rm s m args below meth c T' (locs ++ L) (cells + kc) (slots + ks) → Qc v T'.heap L → own_Go p e below (T'.setTop (mkF m (pc + n) Ls (v.toList ++ rest))) Q) : own_Go p e below (T.setTop (mkF m pc Ls S)) Q := by
  obtain ⟨v, _, ⟨T', L', c', s'⟩, -, X, ⟨L, hQ, h1, h2, h3⟩, st⟩ := call
  dsimp only [Pt.U, Pt.locs, Pt.cells, Pt.slots] at X hQ h1 h2 h3 st
  subst h1 h2 h3
  exact ob_ (fun _ k => st.trans k) (k T' L v X hQ)
theorem o_ks {Qc : Option Value → Heap → List Loc → Prop} {kc ks : Nat} {rest : List Value} (n : Nat) (call : ∃ (v : Option Value) (vm₁ : Vm) (B : Pt), s.WarmedH vm₁ ∧ Stand p l e Rm s m args below meth c B.U B.locs B.cells B.slots ∧ (∃ L, Qc v B.U.heap L ∧ B.locs = locs ++ L ∧ B.cells = cells + kc ∧ B.slots = slots + ks) ∧ ∀ target, Steps p.tables e below (B.U.setTop (mkF m (pc + n) Ls (v.toList ++ rest))) target → Steps p.tables e below (T.setTop (mkF m pc Ls S)) target)
    (k : ∀ (T' : State) (L : List Loc) (v : Option Value), Stand p l e Rm s m args below meth c T' (locs ++ L) (cells + kc) (slots + ks) → Qc v T'.heap L → own_Go p e below (T'.setTop (mkF m (pc + n) Ls (v.toList ++ rest))) Q) : own_Go p e below (T.setTop (mkF m pc Ls S)) Q := by
  obtain ⟨v, _, ⟨T', L', c', s'⟩, -, X, ⟨L, hQ, h1, h2, h3⟩, st⟩ := call
  dsimp only [Pt.U, Pt.locs, Pt.cells, Pt.slots] at X hQ h1 h2 h3 st
  subst h1 h2 h3
  exact ob_ st (k T' L v X hQ)
theorem own_lc {n0 : Nat} (X : Stand p l e Rm s m args below meth c T locs cells slots) (N : Fr n0 locs) : ∃ lc, Stand p l e Rm s m args below meth c T lc cells slots ∧ Fr n0 lc := ⟨_, X, N⟩
theorem o_kc {Qc : Option Value → Heap → List Loc → Prop} {kc ks : Nat} {rest : List Value} (n cc sc : Nat) (call : ∃ (v : Option Value) (vm₁ : Vm) (B : Pt), s.WarmedH vm₁ ∧ Stand p l e Rm s m args below meth c B.U B.locs B.cells B.slots ∧ (∃ L, Qc v B.U.heap L ∧ B.locs = locs ++ L ∧ B.cells = cells + kc ∧ B.slots = slots + ks) ∧ Steps p.tables e below (T.setTop (mkF m pc Ls S)) (B.U.setTop (mkF m (pc + n) Ls (v.toList ++ rest))))
    (k : ∀ (T' : State) (L : List Loc) (v : Option Value), Stand p l e Rm s m args below meth c T' (locs ++ L) cc sc → Qc v T'.heap L → own_Go p e below (T'.setTop (mkF m (pc + n) Ls (v.toList ++ rest))) Q) (hc : cells + kc = cc := by decide) (hs : slots + ks = sc := by decide) : own_Go p e below (T.setTop (mkF m pc Ls S)) Q := by
  subst hc hs; exact o_k n call k
theorem o_ksc {Qc : Option Value → Heap → List Loc → Prop} {kc ks : Nat} {rest : List Value} (n cc sc : Nat) (call : ∃ (v : Option Value) (vm₁ : Vm) (B : Pt), s.WarmedH vm₁ ∧ Stand p l e Rm s m args below meth c B.U B.locs B.cells B.slots ∧ (∃ L, Qc v B.U.heap L ∧ B.locs = locs ++ L ∧ B.cells = cells + kc ∧ B.slots = slots + ks) ∧ ∀ target, Steps p.tables e below (B.U.setTop (mkF m (pc + n) Ls (v.toList ++ rest))) target → Steps p.tables e below (T.setTop (mkF m pc Ls S)) target)
    (k : ∀ (T' : State) (L : List Loc) (v : Option Value), Stand p l e Rm s m args below meth c T' (locs ++ L) cc sc → Qc v T'.heap L → own_Go p e below (T'.setTop (mkF m (pc + n) Ls (v.toList ++ rest))) Q) (hc : cells + kc = cc := by decide) (hs : slots + ks = sc := by decide) : own_Go p e below (T.setTop (mkF m pc Ls S)) Q := by
  subst hc hs; exact o_ks n call k
end OwnK
abbrev own_cnt (z : Int32) : Prop := z = 0 ∨ z = 1 ∨ z = 2 ∨ z = 10
theorem own_ia {x y : Int32} (h : -2147483648 ≤ x.toInt + y.toInt ∧ x.toInt + y.toInt < 2147483648) : (x + y).toInt = x.toInt + y.toInt := by
  rw [Int32.toInt_add]; exact Int.bmod_eq_of_le (by omega) (by omega)
theorem own_dec1 {x : Int32} : (x + 1) + (-1) = x := by rw [Int32.add_assoc]; exact Int32.add_zero x
theorem own_dec2 {x : Int32} : (x + 2) + (-1) = x + 1 := by rw [Int32.add_assoc]; rfl
theorem own_nlt {x y : Int32} (h : y.toInt ≤ x.toInt) : ¬ x < y := by rw [Int32.lt_iff_toInt_lt]; omega
theorem own_cap {x : Int32} {n : Nat} (h : x.toInt ≤ n) : x.toNatClampNeg ≤ n := by simp only [Int32.toNatClampNeg]; omega
theorem own_nat {x : Int32} {n : Nat} (h : x.toInt = n) : x.toNatClampNeg = n := by simp only [Int32.toNatClampNeg]; omega
theorem own_inb {j z : Int32} {c : Cell} (S : c.slots.size = z.toNatClampNeg) (h0 : 0 ≤ j.toInt) (h1 : j.toInt < z.toInt) : ¬ (j < 0 ∨ c.slots.size ≤ j.toNatClampNeg) :=
  inb_of S ⟨own_nlt h0, Int32.lt_iff_toInt_lt.mpr h1⟩
def own_rg (x : Int32) : Prop := 0 ≤ x.toInt ∧ x.toInt ≤ 1000
def own_is (j x : Int32) (i : Nat) : Prop := j.toInt = x.toInt + (i : Int)
theorem own_isV {j x : Int32} {i : Nat} (P : own_is j x i) : j.toInt = x.toInt + (i : Int) := P
theorem own_is0 {x : Int32} : own_is x x 0 := by show x.toInt = x.toInt + ((0 : Nat) : Int); omega
theorem own_isS {j x y : Int32} {i k n : Nat} (P : own_is j x i) (R : own_rg x) (hy : y.toInt = (k : Int)) (hn : i + k = n ∧ n ≤ 100) : own_is (j + y) x n := by
  have P' := own_isV P; obtain ⟨r1, r2⟩ := R
  have q := own_ia (x := j) (y := y) (by omega)
  show (j + y).toInt = x.toInt + (n : Int); omega
theorem own_inbK {j x z : Int32} {c : Cell} {i M L : Nat} (S : c.slots.size = z.toNatClampNeg) (P : own_is j x i) (hb : x.toInt = (L : Int)) (hM : (L : Int) + (M : Int) ≤ z.toInt) (hi : i < M) : ¬ (j < 0 ∨ c.slots.size ≤ j.toNatClampNeg) := by
  have P' := own_isV P; exact own_inb S (by omega) (by omega)
theorem own_jj {j x : Int32} {i L : Nat} (P : own_is j x i) (hb : x.toInt = (L : Int)) : j.toInt = (L : Int) + (i : Int) := by have P' := own_isV P; omega
theorem own_lenA {a b : List Value} {d : Int} (h : (b.length : Int) = d) : ((a ++ b).length : Int) = (a.length : Int) + d := by rw [List.length_append]; omega
theorem own_k0 {P n D R : Int} (he : n = P + (D + R)) (hR : 0 ≤ R) : P + D ≤ n := by omega
theorem own_k1 {P n H L R : Int} (he : n = P + ((H + L + 2) + R)) (hL : 0 ≤ L ∧ L ≤ 10) (hR : 0 ≤ R) : P + H ≤ n := by omega
theorem own_k2 {P P1 n H L R : Int} (he : n = P + ((H + L + 2) + R)) (h1 : P1 = P + H) (hR : 0 ≤ R) : P1 + L ≤ n := by omega
theorem own_k3 {a y : Int32} {P1 : Nat} {Q n : Int} (r1 : a.toInt = (P1 : Int)) (hq : Q = (P1 : Int) + y.toInt) (hL : 0 ≤ y.toInt ∧ y.toInt ≤ 10) (hb : (P1 : Int) + y.toInt ≤ n) (hn : n ≤ 1000) : (a + y).toInt = Q := by
  have q := own_ia (x := a) (y := y) (by omega)
  omega
theorem own_k4 {P P1 Q n H L R : Int} (he : n = P + ((H + L + 2) + R)) (h1 : P1 = P + H) (hq : Q = P1 + L) (hR : 0 ≤ R) : Q + 2 ≤ n := by omega
theorem own_k5 {P P1 Q P2 n H L R : Int} (he : n = P + ((H + L + 2) + R)) (h1 : P1 = P + H) (hq : Q = P1 + L) (h2 : P2 = Q + 2) : n = P2 + R := by omega
theorem own_ha {a a1 q q1 d : Int} (r : a1 = a + d) (ha : a = q) (hl : q1 = q + d) : a1 = q1 := by omega
theorem own_he {n q q1 d r : Int} (he : n = q + (d + r)) (hl : q1 = q + d) : n = q1 + r := by omega
theorem own_hend {a n q : Int} (ha : a = q) (he : n = q + 0) : a = n := by omega
theorem own_nn {H L R : Int} {p q : Prop} (h : p ∧ q ∧ 4 ≤ H ∧ H ≤ 5) (hL : 0 ≤ L ∧ L ≤ 10) (hR : 0 ≤ R) : 0 ≤ (H + L + 2) + R := by omega
theorem own_rg0 : 0 ≤ (0 : Int32).toInt ∧ (0 : Int32).toInt ≤ 10 := by decide
theorem own_wset {Z : State} {h h' : Heap} {a : Addr} {k : ClassId} {ty : FieldType} {z j : Int32} {vs us : List Value} {v dv : Value} (F : Arv Z h a k ty z (vs ++ us) dv) (W : Wr h h' a j.toNatClampNeg v) (hv : fits ty v = true) (i : Nat) (hj : j.toInt = (vs.length : Int) + (i : Int)) (hi : i < us.length) : Arv Z h' a k ty z (vs ++ us.set i v) dv := by
  obtain ⟨c, A, q1, S, q3, H, G⟩ := F
  have q := Arv.set A q1 S q3 H G hv W (vs.length + i) (own_nat (by omega)) (by rw [List.length_append]; omega)
  rw [List.set_append_right _ _ (Nat.le_add_right _ _), Nat.add_sub_cancel_left] at q
  exact q
theorem own_wpad {Z : State} {h : Heap} {a : Addr} {k : ClassId} {ty : FieldType} {z : Int32} {vs us ts : List Value} {dv : Value} {n : Nat} (F : Arv Z h a k ty z (vs ++ us) dv) (e : us ++ List.replicate n dv = ts) : Arv Z h a k ty z (vs ++ ts) dv := by
  subst e; have q := F.pad (pad_rep (vs ++ us) dv n); rw [List.append_assoc] at q; exact q
theorem own_wpad0 {Z : State} {h : Heap} {a : Addr} {k : ClassId} {ty : FieldType} {z : Int32} {vs us : List Value} {dv : Value} {n : Nat} (F : Arv Z h a k ty z vs dv) (e : List.replicate n dv = us) : Arv Z h a k ty z (vs ++ us) dv := by
  subst e; exact F.pad (pad_rep vs dv n)
theorem own_rd {vs us ws : List Value} {d v : Value} {j : Int32} (i : Nat) (hj : j.toInt = (vs.length : Int) + (i : Int)) (hi : i < us.length) (hv : us.getD i d = v) : (vs ++ (us ++ ws)).getD j.toNatClampNeg d = v := by
  rw [own_nat (n := vs.length + i) (by omega)]
  simp only [List.getD_eq_getElem?_getD] at hv ⊢
  rw [List.getElem?_append_right (Nat.le_add_right _ _), Nat.add_sub_cancel_left, List.getElem?_append_left hi]; exact hv
theorem own_cpA {p : Program} {l : Launch} {e : Env} {R : Room} {s : State} {m : MethodId} {args : Array Value} {below : List Frame} {meth : Method} {c : Code} {T : State} {locs : List Loc} {cells slots : Nat} {Z : State} {h : Heap} {a b : Addr} {k : ClassId} {z : Int32} {va : List Value} {dv : Value}
    (X : Stand p l e R s m args below meth c T locs cells slots) (hx : p.tables.exec = Jvm.exec) (hZ : Z.Warmed39 s.vm) {a0 : Array Value} {own : String} {index : Nat} (hown : s.vm.findClass own = some m.cls)
    (w1 : (Cond.methodLink own index Jvm.Stand.acN).before a0 Z = true) (w2 : (Cond.native Jvm.Stand.acN).before a0 Z = true) (w3 : (Cond.static Jvm.Stand.acN).before a0 Z = true) (w4 : (Cond.initialized "java/lang/System").before a0 Z = true) (eT : T.heap = h)
    {k' : ClassId} {z' dp : Int32} {vd : List Value} {dd : Value} (A : Arv Z h a k .byte z va dv) (B : Arv Z h b k' .byte z' vd dd) (hA : (va.length : Int) = z.toInt) (hdp : dp.toInt = (vd.length : Int)) (hle : (vd.length : Int) + z.toInt ≤ z'.toInt) {n0 : Nat} (N : Fr n0 locs) (ge : n0 ≤ b)
    {g : JFrame} (hg : g.method = m) (hsize : g.locals.size = c.maxLocals) {rest : List Value} (hs : g.stack = .int z :: .int dp :: .ref b :: .int (0 : Int32) :: .ref a :: rest) (hd : decode c.code g.pc = .ok (.invokestatic index, 3))
    (hf : 1 ≤ R.frames) {W : Nat} (hW : 2 * g.monitorRoom + (rest.map fun v => v.category).sum ≤ W) (hlo : W + (nativeFrameWords "java/lang/System" "arraycopy" 5 + 11) ≤ R.locals) :
    ∃ T' h' L, Stand p l e R s m args below meth c T' L cells slots ∧ T'.heap = h' ∧ Fr n0 L ∧ Keep h h' [b] ∧ Arv Z h' b k' .byte z' (vd ++ va) dd ∧
      ∀ target, Steps p.tables e below (T'.setTop { g with pc := g.pc + 3, stack := rest }) target → Steps p.tables e below (T.setTop g) target := by
  have hz : z.toNatClampNeg = va.length := own_nat hA.symm
  have hd' : dp.toNatClampNeg = vd.length := own_nat hdp
  have hz' : vd.length + va.length ≤ z'.toNatClampNeg := by simp only [Int32.toNatClampNeg]; omega
  have h00 : (0 : Int32).toInt = 0 := rfl
  have B' := B.pad (pad_rep vd dd va.length)
  obtain ⟨T', h', L, X', e', N', K, V, st⟩ := cpA X hx hZ hown w1 w2 w3 w4 eT A B' (Or.inl ⟨rfl, rfl⟩) (sp := 0) (dp := dp) (nn := z) (us := va) (by decide) (own_nlt (by omega)) (own_nlt (by omega)) (by show 0 + _ ≤ _; omega) (by rw [hz, hd']; exact hz')
    (by
      rw [hz]
      refine List.ext_getElem (by simp) fun i h1 h2 => ?_
      have e0 : (0 : Int32).toNatClampNeg = 0 := rfl
      simp [e0, List.getD_eq_getElem?_getD, h1]) (by rw [hz, hd', List.length_append, List.length_replicate]; exact Nat.le_refl _) N ge hg hsize hs hd hf hW hlo
  refine ⟨T', h', L, X', e', N', K, ?_, st⟩
  rw [hz, hd', List.take_left' rfl, List.drop_eq_nil_of_le (by rw [List.length_append, List.length_replicate]; exact Nat.le_refl _), List.append_nil] at V
  exact V
def own_bt (p : Int64) (i : Int32) : Int32 := nar .byte (((p.toUInt64 >>> (((6 : Int32) * i) &&& 0x3f).toInt64.toUInt64).toInt64).toInt32.toInt8.toInt32)
theorem own_nar_nar (x : Int32) : nar .byte (nar .byte x) = nar .byte x := by
  show (x.toInt8.toInt32).toInt8.toInt32 = x.toInt8.toInt32
  simp
theorem own_bt_fits (p : Int64) (i : Int32) : fits .byte (.int (own_bt p i)) = true := fits_nar_byte _
theorem own_bt_nar (p : Int64) (i : Int32) : nar .byte (own_bt p i) = own_bt p i := own_nar_nar _
def own_dl (z : Int32) : Int32 := if z = 10 then 2 else 1
theorem own_dl_0 : own_dl 0 = 1 := if_neg (by decide)
theorem own_dl_1 : own_dl 1 = 1 := if_neg (by decide)
theorem own_dl_2 : own_dl 2 = 1 := if_neg (by decide)
theorem own_dl_10 : own_dl 10 = 2 := if_pos rfl
def own_hn (z : Int32) : Int := if z = 10 then 5 else 4
theorem own_hn_0 : own_hn 0 = 4 := if_neg (by decide)
theorem own_hn_1 : own_hn 1 = 4 := if_neg (by decide)
theorem own_hn_2 : own_hn 2 = 4 := if_neg (by decide)
theorem own_hn_10 : own_hn 10 = 5 := if_pos rfl
theorem own_hz {j x z : Int32} {i : Nat} (P : own_is j x i) (hn : own_hn z = (i : Int)) : j.toInt = x.toInt + own_hn z := by rw [hn]; exact own_isV P
def own_hd (ty z : Int32) : List Value := if z = 10 then [.int ty, .int 49, .int 48, .int 13, .int 10] else [.int ty, .int (48 + z), .int 13, .int 10]
theorem own_hd_0 {ty : Int32} : own_hd ty 0 = [.int ty, .int 48, .int 13, .int 10] := if_neg (by decide)
theorem own_hd_1 {ty : Int32} : own_hd ty 1 = [.int ty, .int 49, .int 13, .int 10] := if_neg (by decide)
theorem own_hd_2 {ty : Int32} : own_hd ty 2 = [.int ty, .int 50, .int 13, .int 10] := if_neg (by decide)
theorem own_hd_10 {ty : Int32} : own_hd ty 10 = [.int ty, .int 49, .int 48, .int 13, .int 10] := if_pos rfl
theorem own_hd_len (ty : Int32) {z : Int32} (h : own_cnt z) : ((own_hd ty z).length : Int) = own_hn z := by
  rcases h with rfl | rfl | rfl | rfl
  · rw [own_hd_0, own_hn_0]; rfl
  · rw [own_hd_1, own_hn_1]; rfl
  · rw [own_hd_2, own_hn_2]; rfl
  · rw [own_hd_10, own_hn_10]; rfl
theorem own_cnt_rng {z : Int32} (h : own_cnt z) : 0 ≤ z.toInt ∧ z.toInt ≤ 10 ∧ 4 ≤ own_hn z ∧ own_hn z ≤ 5 := by
  rcases h with rfl | rfl | rfl | rfl
  · rw [own_hn_0]; decide
  · rw [own_hn_1]; decide
  · rw [own_hn_2]; decide
  · rw [own_hn_10]; decide
theorem own_dl_hn {z : Int32} (h : own_cnt z) : (own_dl z).toInt + 3 = own_hn z := by
  rcases h with rfl | rfl | rfl | rfl
  · rw [own_hn_0, own_dl_0]; rfl
  · rw [own_hn_1, own_dl_1]; rfl
  · rw [own_hn_2, own_dl_2]; rfl
  · rw [own_hn_10, own_dl_10]; rfl
def own_fl (n : Int32) (p : Int64) : List Value := if n = 0 then [] else if n = 1 then [.int (own_bt p 0)] else if n = 2 then [.int (own_bt p 0), .int (own_bt p 1)] else [.int (own_bt p 0), .int (own_bt p 1), .int (own_bt p 2), .int (own_bt p 3), .int (own_bt p 4), .int (own_bt p 5), .int (own_bt p 6), .int (own_bt p 7), .int (own_bt p 8), .int (own_bt p 9)]
theorem own_fl_0 {p : Int64} : own_fl 0 p = [] := by rw [own_fl, if_pos rfl]
theorem own_fl_1 {p : Int64} : own_fl 1 p = [.int (own_bt p 0)] := by rw [own_fl, if_neg (by decide), if_pos rfl]
theorem own_fl_2 {p : Int64} : own_fl 2 p = [.int (own_bt p 0), .int (own_bt p 1)] := by rw [own_fl, if_neg (by decide), if_neg (by decide), if_pos rfl]
theorem own_fl_10 {p : Int64} : own_fl 10 p = [.int (own_bt p 0), .int (own_bt p 1), .int (own_bt p 2), .int (own_bt p 3), .int (own_bt p 4), .int (own_bt p 5), .int (own_bt p 6), .int (own_bt p 7), .int (own_bt p 8), .int (own_bt p 9)] := by rw [own_fl, if_neg (by decide), if_neg (by decide), if_neg (by decide)]
theorem own_fl_len {n : Int32} {pp : Int64} (h : own_cnt n) : ((own_fl n pp).length : Int) = n.toInt := by
  rcases h with rfl | rfl | rfl | rfl
  · rw [own_fl_0]; rfl
  · rw [own_fl_1]; rfl
  · rw [own_fl_2]; rfl
  · rw [own_fl_10]; rfl
def own_bd (n : Int32) (va : List Value) : List Value := own_hd 36 n ++ (va ++ [.int 13, .int 10])
theorem own_bd_len {n : Int32} {va : List Value} (h : own_cnt n) (hv : (va.length : Int) = n.toInt) : ((own_bd n va).length : Int) = own_hn n + n.toInt + 2 := by
  have q := own_hd_len 36 h
  rw [own_bd, List.length_append, List.length_append]
  have q2 : ([Value.int 13, Value.int 10]).length = 2 := rfl
  omega
theorem own_bd_eq {n : Int32} {va pr po : List Value} : pr ++ (own_bd n va ++ po) = (pr ++ own_hd 36 n) ++ ((va ++ [.int 13, .int 10]) ++ po) := by simp only [own_bd, List.append_assoc]
theorem own_and3_all : ∀ i : Fin 4, Int32.ofNat i.1 = 0 ∨ Int32.ofNat i.1 = 1 ∨ Int32.ofNat i.1 = 2 ∨ Int32.ofNat i.1 = 3 := by decide +kernel
theorem own_and3 {x r : Int32} (e : r = x &&& 3) : r = 0 ∨ r = 1 ∨ r = 2 ∨ r = 3 := by
  have h : (x &&& 3).toBitVec.toNat < 4 := by
    show (x.toBitVec &&& 3#32).toNat < 4
    rw [BitVec.toNat_and]
    exact Nat.lt_of_le_of_lt Nat.and_le_right (by decide)
  have q : x &&& 3 = Int32.ofNat (x &&& 3).toBitVec.toNat := by
    apply Int32.toBitVec_inj.mp
    show _ = BitVec.ofNat 32 _
    simp
  rw [e, q]; exact own_and3_all ⟨_, h⟩
theorem own_pn_com_example_living_lease_livinglease_redis_RespCommandPinLaw : plainName "com/example/living_lease/livinglease/redis/RespCommandPinLaw" = true := by first | (simp [plainName, overriddenIn]; done) | decide +kernel
theorem own_pn_com_example_living_lease_livinglease_redis_Resp : plainName "com/example/living_lease/livinglease/redis/Resp" = true := by first | (simp [plainName, overriddenIn]; done) | decide +kernel
theorem own_pd__28JI_29B : parseMethodDescriptor "(JI)B" = some ⟨[.long, .int], some .byte⟩ := by decide +kernel
theorem own_pd__28I_29I : parseMethodDescriptor "(I)I" = some ⟨[.int], some .int⟩ := by decide +kernel
theorem own_pd__28_5bBI_29I : parseMethodDescriptor "([BI)I" = some ⟨[(.array .byte), .int], some .int⟩ := by decide +kernel
theorem own_pd__28_5bBICI_29I : parseMethodDescriptor "([BICI)I" = some ⟨[(.array .byte), .int, .char, .int], some .int⟩ := by decide +kernel
theorem own_pd__28IJ_29_5bB : parseMethodDescriptor "(IJ)[B" = some ⟨[.int, .long], some (.array .byte)⟩ := by decide +kernel
theorem own_pd__28_5b_5bB_29_5bB : parseMethodDescriptor "([[B)[B" = some ⟨[(.array (.array .byte))], some (.array .byte)⟩ := by decide +kernel
theorem own_pd__28_5bBIIJ_29I : parseMethodDescriptor "([BIIJ)I" = some ⟨[(.array .byte), .int, .int, .long], some .int⟩ := by decide +kernel
theorem D8_0 : decode method_4_code 0 = .ok (.lload_n 0, 1) := by decide +kernel
theorem D8_1 : decode method_4_code 1 = .ok (.bipush 6, 2) := by decide +kernel
theorem D8_3 : decode method_4_code 3 = .ok (.iload_n 2, 1) := by decide +kernel
theorem D8_4 : decode method_4_code 4 = .ok (.imul, 1) := by decide +kernel
theorem D8_5 : decode method_4_code 5 = .ok (.lushr, 1) := by decide +kernel
theorem D8_6 : decode method_4_code 6 = .ok (.l2i, 1) := by decide +kernel
theorem D8_7 : decode method_4_code 7 = .ok (.i2b, 1) := by decide +kernel
theorem D8_8 : decode method_4_code 8 = .ok (.ireturn, 1) := by decide +kernel
def Q_rm_byte (Z : State) (pp : Int64) (ii : Int32) (h0 : Heap) (n0 : Nat) (v : Option Value) (h : Heap) (L : List Loc) : Prop := v = some (.int (own_bt pp ii)) ∧ Fr n0 L ∧ h = h0
theorem ef_rm_byte (m : MethodId) (pp : Int64) (ii : Int32) : entryFrame m #[(.long pp), (.int ii)] 3 = mkF m 0 #[.val (.long pp), .second, .val (.int ii)] [] := by first | (simp [entryFrame, mkF, argsToLocals, Value.category]; done) | rfl
set_option maxRecDepth 65536 in
set_option maxHeartbeats 40000000 in
theorem rm_byte (l : Launch) (Z : State) (a0 : Array Value) (hw : ∀ d ∈ tables_1, d.before a0 Z = true) (ws : List Jvm.Cond) (pp : Int64) (ii : Int32) (h0 : Heap) (n0 : Nat) (O0 : Old Z n0 h0) :
    MetFree l (⟨s1_, "byteAt", "(JI)B"⟩ : MethodName) (head1 (Jvm.Cond.code (⟨s1_, "byteAt", "(JI)B"⟩ : MethodName) method_4_code 3 (some .byte) :: ws) ({ frames := 0, cells := 0, slots := 0, locals := 0 } : Room)) (fun a U => a = #[(.long pp), (.int ii)] ∧ Z.Warmed39 U.vm ∧ U.heap = h0) (fun _ _ _ _ _ => True) (fun _ U o U' => ∃ v L, o = .returned v ∧ Q_rm_byte Z pp ii h0 n0 v U'.heap L ∧ FrameEnd U o U' L ({ frames := 0, cells := 0, slots := 0, locals := 0 } : Room).cells ({ frames := 0, cells := 0, slots := 0, locals := 0 } : Room).slots) := by
  refine MetFree.of_bodySF (plainFor_of_name own_pn_com_example_living_lease_livinglease_redis_RespCommandPinLaw) hisR ?_
  intro p e s m args below meth c s₁ Bd hml0 hP hK
  obtain ⟨rfl, hZ, hh⟩ := hP
  have hx := Bd.exec
  have hby := Bd.bytes
  have hml : c.maxLocals = 3 := hml0
  have hown : s.vm.findClass s1_ = some m.cls := findClass_of_methodNamed Bd.named
  have hnm := (name_of_methodNamed Bd.named Bd.method).1
  have X0 : Stand p l e ({ frames := 0, cells := 0, slots := 0, locals := 0 } : Room) s m #[(.long pp), (.int ii)] below meth c s₁ [] 0 0 := Stand.of_body Bd
  have e0 : s₁.heap = h0 := by rw [← hh, Bd.state]; rfl
  have N0 := Fr.nil n0
  have Z0 : n0 ≤ h0.size := by rw [← O0.1]; exact O0.2.1
  show own_Go p e below (s₁.setTop (entryFrame m #[(.long pp), (.int ii)] 3)) (fun t o => ∃ v L, o = .returned v ∧ Q_rm_byte Z pp ii h0 n0 v t.heap L ∧ FrameEnd s o t L ({ frames := 0, cells := 0, slots := 0, locals := 0 } : Room).cells ({ frames := 0, cells := 0, slots := 0, locals := 0 } : Room).slots)
  rw [ef_rm_byte m pp ii]
  refine n_lloadN X0 hx hby D8_0 rfl ?_
  refine oBi X0 hx hby D8_1 (z := (6 : Int32)) rfl ?_
  refine n_iloadN X0 hx hby D8_3 rfl ?_
  refine ob_ (fun _ k => XS.imul X0.here hx rfl (hb hby D8_4) rfl k) ?_
  show own_Go p e below (s₁.setTop (mkF m 5 #[.val (.long pp), .second, .val (.int ii)] [(.int ((6 : Int32) * ii)), (.long pp)])) _
  refine ob_ (fun _ k => XS.lushr X0.here hx rfl (hb hby D8_5) rfl k) ?_
  show own_Go p e below (s₁.setTop (mkF m 6 #[.val (.long pp), .second, .val (.int ii)] [(.long ((pp.toUInt64 >>> (((6 : Int32) * ii) &&& 0x3f).toInt64.toUInt64).toInt64))])) _
  refine ob_ (fun _ k => XS.l2i X0.here hx rfl (hb hby D8_6) rfl k) ?_
  show own_Go p e below (s₁.setTop (mkF m 7 #[.val (.long pp), .second, .val (.int ii)] [(.int (((pp.toUInt64 >>> (((6 : Int32) * ii) &&& 0x3f).toInt64.toUInt64).toInt64).toInt32))])) _
  refine n_i2b X0 hx hby D8_7 ?_
  obtain ⟨fs, hr, hrun, hended, hW, hsame⟩ := X0.leave (v := some (.int (nar .byte ((((pp.toUInt64 >>> (((6 : Int32) * ii) &&& 0x3f).toInt64.toUInt64).toInt64).toInt32).toInt8.toInt32)))) (fun h => by rw [Bd.returns] at h; cases h)
  refine ⟨_, _, retN X0 hx (t := .byte) Bd.returns (by simp) (hb hby D8_8) hr, hrun, hended, _, _, rfl, ?_, ⟨_, rfl⟩, hW, hsame.mono (by decide) (by decide)⟩
  show Q_rm_byte Z pp ii h0 n0 _ s₁.heap _
  rw [e0]
  exact ⟨rfl, N0, rfl⟩
theorem D1_0 : decode method_3_code 0 = .ok (.iload_n 0, 1) := by decide +kernel
theorem D1_1 : decode method_3_code 1 = .ok (.iconst 3, 1) := by decide +kernel
theorem D1_2 : decode method_3_code 2 = .ok (.if_icmp .ne 8, 3) := by decide +kernel
theorem D1_5 : decode method_3_code 5 = .ok (.bipush 10, 2) := by decide +kernel
theorem D1_7 : decode method_3_code 7 = .ok (.goto 4, 3) := by decide +kernel
theorem D1_10 : decode method_3_code 10 = .ok (.iload_n 0, 1) := by decide +kernel
theorem D1_11 : decode method_3_code 11 = .ok (.ireturn, 1) := by decide +kernel
def Q_rm_len (Z : State) (zz : Int32) (h0 : Heap) (n0 : Nat) (v : Option Value) (h : Heap) (L : List Loc) : Prop := ∃ (ln : Int32), v = some (.int ln) ∧ Fr n0 L ∧ h = h0 ∧ own_cnt ln
theorem ef_rm_len (m : MethodId) (zz : Int32) : entryFrame m #[(.int zz)] 1 = mkF m 0 #[.val (.int zz)] [] := by first | (simp [entryFrame, mkF, argsToLocals, Value.category]; done) | rfl
set_option maxRecDepth 65536 in
set_option maxHeartbeats 40000000 in
theorem rm_len (l : Launch) (Z : State) (a0 : Array Value) (hw : ∀ d ∈ tables_1, d.before a0 Z = true) (ws : List Jvm.Cond) (zz : Int32) (h0 : Heap) (n0 : Nat) (O0 : Old Z n0 h0) (hzz : zz = 0 ∨ zz = 1 ∨ zz = 2 ∨ zz = 3) :
    MetFree l (⟨s1_, "lengthOf", "(I)I"⟩ : MethodName) (head1 (Jvm.Cond.code (⟨s1_, "lengthOf", "(I)I"⟩ : MethodName) method_3_code 1 (some .int) :: ws) ({ frames := 0, cells := 0, slots := 0, locals := 0 } : Room)) (fun a U => a = #[(.int zz)] ∧ Z.Warmed39 U.vm ∧ U.heap = h0) (fun _ _ _ _ _ => True) (fun _ U o U' => ∃ v L, o = .returned v ∧ Q_rm_len Z zz h0 n0 v U'.heap L ∧ FrameEnd U o U' L ({ frames := 0, cells := 0, slots := 0, locals := 0 } : Room).cells ({ frames := 0, cells := 0, slots := 0, locals := 0 } : Room).slots) := by
  refine MetFree.of_bodySF (plainFor_of_name own_pn_com_example_living_lease_livinglease_redis_RespCommandPinLaw) hisR ?_
  intro p e s m args below meth c s₁ Bd hml0 hP hK
  obtain ⟨rfl, hZ, hh⟩ := hP
  have hx := Bd.exec
  have hby := Bd.bytes
  have hml : c.maxLocals = 1 := hml0
  have hown : s.vm.findClass s1_ = some m.cls := findClass_of_methodNamed Bd.named
  have hnm := (name_of_methodNamed Bd.named Bd.method).1
  have X0 : Stand p l e ({ frames := 0, cells := 0, slots := 0, locals := 0 } : Room) s m #[(.int zz)] below meth c s₁ [] 0 0 := Stand.of_body Bd
  have e0 : s₁.heap = h0 := by rw [← hh, Bd.state]; rfl
  have N0 := Fr.nil n0
  have Z0 : n0 ≤ h0.size := by rw [← O0.1]; exact O0.2.1
  show own_Go p e below (s₁.setTop (entryFrame m #[(.int zz)] 1)) (fun t o => ∃ v L, o = .returned v ∧ Q_rm_len Z zz h0 n0 v t.heap L ∧ FrameEnd s o t L ({ frames := 0, cells := 0, slots := 0, locals := 0 } : Room).cells ({ frames := 0, cells := 0, slots := 0, locals := 0 } : Room).slots)
  rw [ef_rm_len m zz]
  rcases hzz with rfl | rfl | rfl | rfl
  · skip
    show own_Go p e below (s₁.setTop (mkF m 0 #[.val (.int (0 : Int32))] [])) _
    refine n_iloadN X0 hx hby D1_0 rfl ?_
    refine oIc X0 hx hby D1_1 (z := (3 : Int32)) rfl ?_
    refine n_icmpYes X0 hx hby D1_2 (pc0 := 2) (pc' := 10) rfl (feq (by decide : ¬ ((0 : Int32) = (3 : Int32)))).2 (by decide) (by decide) ?_
    refine n_iloadN X0 hx hby D1_10 rfl ?_
    obtain ⟨fs, hr, hrun, hended, hW, hsame⟩ := X0.leave (v := some (.int (0 : Int32))) (fun h => by rw [Bd.returns] at h; cases h)
    refine ⟨_, _, retI X0 hx Bd.returns (hb hby D1_11) hr, hrun, hended, _, _, rfl, ?_, ⟨_, rfl⟩, hW, hsame.mono (by decide) (by decide)⟩
    show Q_rm_len Z (0 : Int32) h0 n0 _ s₁.heap _
    rw [e0]
    exact ⟨(0 : Int32), rfl, N0, rfl, (by decide)⟩
  · skip
    show own_Go p e below (s₁.setTop (mkF m 0 #[.val (.int (1 : Int32))] [])) _
    refine n_iloadN X0 hx hby D1_0 rfl ?_
    refine oIc X0 hx hby D1_1 (z := (3 : Int32)) rfl ?_
    refine n_icmpYes X0 hx hby D1_2 (pc0 := 2) (pc' := 10) rfl (feq (by decide : ¬ ((1 : Int32) = (3 : Int32)))).2 (by decide) (by decide) ?_
    refine n_iloadN X0 hx hby D1_10 rfl ?_
    obtain ⟨fs, hr, hrun, hended, hW, hsame⟩ := X0.leave (v := some (.int (1 : Int32))) (fun h => by rw [Bd.returns] at h; cases h)
    refine ⟨_, _, retI X0 hx Bd.returns (hb hby D1_11) hr, hrun, hended, _, _, rfl, ?_, ⟨_, rfl⟩, hW, hsame.mono (by decide) (by decide)⟩
    show Q_rm_len Z (1 : Int32) h0 n0 _ s₁.heap _
    rw [e0]
    exact ⟨(1 : Int32), rfl, N0, rfl, (by decide)⟩
  · skip
    show own_Go p e below (s₁.setTop (mkF m 0 #[.val (.int (2 : Int32))] [])) _
    refine n_iloadN X0 hx hby D1_0 rfl ?_
    refine oIc X0 hx hby D1_1 (z := (3 : Int32)) rfl ?_
    refine n_icmpYes X0 hx hby D1_2 (pc0 := 2) (pc' := 10) rfl (feq (by decide : ¬ ((2 : Int32) = (3 : Int32)))).2 (by decide) (by decide) ?_
    refine n_iloadN X0 hx hby D1_10 rfl ?_
    obtain ⟨fs, hr, hrun, hended, hW, hsame⟩ := X0.leave (v := some (.int (2 : Int32))) (fun h => by rw [Bd.returns] at h; cases h)
    refine ⟨_, _, retI X0 hx Bd.returns (hb hby D1_11) hr, hrun, hended, _, _, rfl, ?_, ⟨_, rfl⟩, hW, hsame.mono (by decide) (by decide)⟩
    show Q_rm_len Z (2 : Int32) h0 n0 _ s₁.heap _
    rw [e0]
    exact ⟨(2 : Int32), rfl, N0, rfl, (by decide)⟩
  · skip
    show own_Go p e below (s₁.setTop (mkF m 0 #[.val (.int (3 : Int32))] [])) _
    refine n_iloadN X0 hx hby D1_0 rfl ?_
    refine oIc X0 hx hby D1_1 (z := (3 : Int32)) rfl ?_
    refine n_icmpNo X0 hx hby D1_2 (teq (by decide : (3 : Int32) = (3 : Int32))).2 ?_
    refine oBi X0 hx hby D1_5 (z := (10 : Int32)) rfl ?_
    refine n_goto X0 hx hby D1_7 (pc0 := 7) (pc' := 11) rfl (by decide) (by decide) ?_
    obtain ⟨fs, hr, hrun, hended, hW, hsame⟩ := X0.leave (v := some (.int (10 : Int32))) (fun h => by rw [Bd.returns] at h; cases h)
    refine ⟨_, _, retI X0 hx Bd.returns (hb hby D1_11) hr, hrun, hended, _, _, rfl, ?_, ⟨_, rfl⟩, hW, hsame.mono (by decide) (by decide)⟩
    show Q_rm_len Z (3 : Int32) h0 n0 _ s₁.heap _
    rw [e0]
    exact ⟨(10 : Int32), rfl, N0, rfl, (by decide)⟩
theorem D2_0 : decode method_5_code 0 = .ok (.iload_n 0, 1) := by decide +kernel
theorem D2_1 : decode method_5_code 1 = .ok (.newarray .byte, 2) := by decide +kernel
theorem D2_3 : decode method_5_code 3 = .ok (.astore_n 3, 1) := by decide +kernel
theorem D2_4 : decode method_5_code 4 = .ok (.iload_n 0, 1) := by decide +kernel
theorem D2_5 : decode method_5_code 5 = .ok (.ifCond .le 11, 3) := by decide +kernel
theorem D2_8 : decode method_5_code 8 = .ok (.aload_n 3, 1) := by decide +kernel
theorem D2_9 : decode method_5_code 9 = .ok (.iconst 0, 1) := by decide +kernel
theorem D2_10 : decode method_5_code 10 = .ok (.lload_n 1, 1) := by decide +kernel
theorem D2_11 : decode method_5_code 11 = .ok (.iconst 0, 1) := by decide +kernel
theorem D2_12 : decode method_5_code 12 = .ok (.invokestatic 33, 3) := by decide +kernel
theorem D2_15 : decode method_5_code 15 = .ok (.bastore, 1) := by decide +kernel
theorem D2_16 : decode method_5_code 16 = .ok (.iload_n 0, 1) := by decide +kernel
theorem D2_17 : decode method_5_code 17 = .ok (.iconst 1, 1) := by decide +kernel
theorem D2_18 : decode method_5_code 18 = .ok (.if_icmp .le 11, 3) := by decide +kernel
theorem D2_21 : decode method_5_code 21 = .ok (.aload_n 3, 1) := by decide +kernel
theorem D2_22 : decode method_5_code 22 = .ok (.iconst 1, 1) := by decide +kernel
theorem D2_23 : decode method_5_code 23 = .ok (.lload_n 1, 1) := by decide +kernel
theorem D2_24 : decode method_5_code 24 = .ok (.iconst 1, 1) := by decide +kernel
theorem D2_25 : decode method_5_code 25 = .ok (.invokestatic 33, 3) := by decide +kernel
theorem D2_28 : decode method_5_code 28 = .ok (.bastore, 1) := by decide +kernel
theorem D2_29 : decode method_5_code 29 = .ok (.iload_n 0, 1) := by decide +kernel
theorem D2_30 : decode method_5_code 30 = .ok (.iconst 2, 1) := by decide +kernel
theorem D2_31 : decode method_5_code 31 = .ok (.if_icmp .le 11, 3) := by decide +kernel
theorem D2_34 : decode method_5_code 34 = .ok (.aload_n 3, 1) := by decide +kernel
theorem D2_35 : decode method_5_code 35 = .ok (.iconst 2, 1) := by decide +kernel
theorem D2_36 : decode method_5_code 36 = .ok (.lload_n 1, 1) := by decide +kernel
theorem D2_37 : decode method_5_code 37 = .ok (.iconst 2, 1) := by decide +kernel
theorem D2_38 : decode method_5_code 38 = .ok (.invokestatic 33, 3) := by decide +kernel
theorem D2_41 : decode method_5_code 41 = .ok (.bastore, 1) := by decide +kernel
theorem D2_42 : decode method_5_code 42 = .ok (.iload_n 0, 1) := by decide +kernel
theorem D2_43 : decode method_5_code 43 = .ok (.iconst 3, 1) := by decide +kernel
theorem D2_44 : decode method_5_code 44 = .ok (.if_icmp .le 11, 3) := by decide +kernel
theorem D2_47 : decode method_5_code 47 = .ok (.aload_n 3, 1) := by decide +kernel
theorem D2_48 : decode method_5_code 48 = .ok (.iconst 3, 1) := by decide +kernel
theorem D2_49 : decode method_5_code 49 = .ok (.lload_n 1, 1) := by decide +kernel
theorem D2_50 : decode method_5_code 50 = .ok (.iconst 3, 1) := by decide +kernel
theorem D2_51 : decode method_5_code 51 = .ok (.invokestatic 33, 3) := by decide +kernel
theorem D2_54 : decode method_5_code 54 = .ok (.bastore, 1) := by decide +kernel
theorem D2_55 : decode method_5_code 55 = .ok (.iload_n 0, 1) := by decide +kernel
theorem D2_56 : decode method_5_code 56 = .ok (.iconst 4, 1) := by decide +kernel
theorem D2_57 : decode method_5_code 57 = .ok (.if_icmp .le 11, 3) := by decide +kernel
theorem D2_60 : decode method_5_code 60 = .ok (.aload_n 3, 1) := by decide +kernel
theorem D2_61 : decode method_5_code 61 = .ok (.iconst 4, 1) := by decide +kernel
theorem D2_62 : decode method_5_code 62 = .ok (.lload_n 1, 1) := by decide +kernel
theorem D2_63 : decode method_5_code 63 = .ok (.iconst 4, 1) := by decide +kernel
theorem D2_64 : decode method_5_code 64 = .ok (.invokestatic 33, 3) := by decide +kernel
theorem D2_67 : decode method_5_code 67 = .ok (.bastore, 1) := by decide +kernel
theorem D2_68 : decode method_5_code 68 = .ok (.iload_n 0, 1) := by decide +kernel
theorem D2_69 : decode method_5_code 69 = .ok (.iconst 5, 1) := by decide +kernel
theorem D2_70 : decode method_5_code 70 = .ok (.if_icmp .le 11, 3) := by decide +kernel
theorem D2_73 : decode method_5_code 73 = .ok (.aload_n 3, 1) := by decide +kernel
theorem D2_74 : decode method_5_code 74 = .ok (.iconst 5, 1) := by decide +kernel
theorem D2_75 : decode method_5_code 75 = .ok (.lload_n 1, 1) := by decide +kernel
theorem D2_76 : decode method_5_code 76 = .ok (.iconst 5, 1) := by decide +kernel
theorem D2_77 : decode method_5_code 77 = .ok (.invokestatic 33, 3) := by decide +kernel
theorem D2_80 : decode method_5_code 80 = .ok (.bastore, 1) := by decide +kernel
theorem D2_81 : decode method_5_code 81 = .ok (.iload_n 0, 1) := by decide +kernel
theorem D2_82 : decode method_5_code 82 = .ok (.bipush 6, 2) := by decide +kernel
theorem D2_84 : decode method_5_code 84 = .ok (.if_icmp .le 13, 3) := by decide +kernel
theorem D2_87 : decode method_5_code 87 = .ok (.aload_n 3, 1) := by decide +kernel
theorem D2_88 : decode method_5_code 88 = .ok (.bipush 6, 2) := by decide +kernel
theorem D2_90 : decode method_5_code 90 = .ok (.lload_n 1, 1) := by decide +kernel
theorem D2_91 : decode method_5_code 91 = .ok (.bipush 6, 2) := by decide +kernel
theorem D2_93 : decode method_5_code 93 = .ok (.invokestatic 33, 3) := by decide +kernel
theorem D2_96 : decode method_5_code 96 = .ok (.bastore, 1) := by decide +kernel
theorem D2_97 : decode method_5_code 97 = .ok (.iload_n 0, 1) := by decide +kernel
theorem D2_98 : decode method_5_code 98 = .ok (.bipush 7, 2) := by decide +kernel
theorem D2_100 : decode method_5_code 100 = .ok (.if_icmp .le 13, 3) := by decide +kernel
theorem D2_103 : decode method_5_code 103 = .ok (.aload_n 3, 1) := by decide +kernel
theorem D2_104 : decode method_5_code 104 = .ok (.bipush 7, 2) := by decide +kernel
theorem D2_106 : decode method_5_code 106 = .ok (.lload_n 1, 1) := by decide +kernel
theorem D2_107 : decode method_5_code 107 = .ok (.bipush 7, 2) := by decide +kernel
theorem D2_109 : decode method_5_code 109 = .ok (.invokestatic 33, 3) := by decide +kernel
theorem D2_112 : decode method_5_code 112 = .ok (.bastore, 1) := by decide +kernel
theorem D2_113 : decode method_5_code 113 = .ok (.iload_n 0, 1) := by decide +kernel
theorem D2_114 : decode method_5_code 114 = .ok (.bipush 8, 2) := by decide +kernel
theorem D2_116 : decode method_5_code 116 = .ok (.if_icmp .le 13, 3) := by decide +kernel
theorem D2_119 : decode method_5_code 119 = .ok (.aload_n 3, 1) := by decide +kernel
theorem D2_120 : decode method_5_code 120 = .ok (.bipush 8, 2) := by decide +kernel
theorem D2_122 : decode method_5_code 122 = .ok (.lload_n 1, 1) := by decide +kernel
theorem D2_123 : decode method_5_code 123 = .ok (.bipush 8, 2) := by decide +kernel
theorem D2_125 : decode method_5_code 125 = .ok (.invokestatic 33, 3) := by decide +kernel
theorem D2_128 : decode method_5_code 128 = .ok (.bastore, 1) := by decide +kernel
theorem D2_129 : decode method_5_code 129 = .ok (.iload_n 0, 1) := by decide +kernel
theorem D2_130 : decode method_5_code 130 = .ok (.bipush 9, 2) := by decide +kernel
theorem D2_132 : decode method_5_code 132 = .ok (.if_icmp .le 13, 3) := by decide +kernel
theorem D2_135 : decode method_5_code 135 = .ok (.aload_n 3, 1) := by decide +kernel
theorem D2_136 : decode method_5_code 136 = .ok (.bipush 9, 2) := by decide +kernel
theorem D2_138 : decode method_5_code 138 = .ok (.lload_n 1, 1) := by decide +kernel
theorem D2_139 : decode method_5_code 139 = .ok (.bipush 9, 2) := by decide +kernel
theorem D2_141 : decode method_5_code 141 = .ok (.invokestatic 33, 3) := by decide +kernel
theorem D2_144 : decode method_5_code 144 = .ok (.bastore, 1) := by decide +kernel
theorem D2_145 : decode method_5_code 145 = .ok (.aload_n 3, 1) := by decide +kernel
theorem D2_146 : decode method_5_code 146 = .ok (.areturn, 1) := by decide +kernel
def Q_rm_fill (Z : State) (ln : Int32) (pp : Int64) (h0 : Heap) (n0 : Nat) (v : Option Value) (h : Heap) (L : List Loc) : Prop := ∃ (ob : Addr), ∃ (kb : ClassId), v = some (.ref ob) ∧ Fr n0 L ∧ Keep h0 h [] ∧ Exa Z h ob "[B" ∧ Arv Z h ob kb .byte ln (own_fl ln pp) (.int (0 : Int32)) ∧ h0.size ≤ ob
theorem ef_rm_fill (m : MethodId) (ln : Int32) (pp : Int64) : entryFrame m #[(.int ln), (.long pp)] 4 = mkF m 0 #[.val (.int ln), .val (.long pp), .second, .unset] [] := by first | (simp [entryFrame, mkF, argsToLocals, Value.category]; done) | rfl
set_option maxRecDepth 65536 in
set_option maxHeartbeats 40000000 in
theorem rm_fill (l : Launch) (Z : State) (a0 : Array Value) (hw : ∀ d ∈ tables_1, d.before a0 Z = true) (ws : List Jvm.Cond) (ln : Int32) (pp : Int64) (h0 : Heap) (n0 : Nat) (O0 : Old Z n0 h0) (hln : own_cnt ln) :
    MetFree l (⟨s1_, "fill", "(IJ)[B"⟩ : MethodName) (head1 (Jvm.Cond.code (⟨s1_, "fill", "(IJ)[B"⟩ : MethodName) method_5_code 4 (some (.array .byte)) :: ws) ({ frames := 1, cells := 1, slots := 10, locals := 16 } : Room)) (fun a U => a = #[(.int ln), (.long pp)] ∧ Z.Warmed39 U.vm ∧ U.heap = h0) (fun _ _ _ _ _ => True) (fun _ U o U' => ∃ v L, o = .returned v ∧ Q_rm_fill Z ln pp h0 n0 v U'.heap L ∧ FrameEnd U o U' L ({ frames := 1, cells := 1, slots := 10, locals := 16 } : Room).cells ({ frames := 1, cells := 1, slots := 10, locals := 16 } : Room).slots) := by
  refine MetFree.of_bodySF (plainFor_of_name own_pn_com_example_living_lease_livinglease_redis_RespCommandPinLaw) hisR ?_
  intro p e s m args below meth c s₁ Bd hml0 hP hK
  obtain ⟨rfl, hZ, hh⟩ := hP
  have hx := Bd.exec
  have hby := Bd.bytes
  have hml : c.maxLocals = 4 := hml0
  have hown : s.vm.findClass s1_ = some m.cls := findClass_of_methodNamed Bd.named
  have hnm := (name_of_methodNamed Bd.named Bd.method).1
  have X0 : Stand p l e ({ frames := 1, cells := 1, slots := 10, locals := 16 } : Room) s m #[(.int ln), (.long pp)] below meth c s₁ [] 0 0 := Stand.of_body Bd
  have e0 : s₁.heap = h0 := by rw [← hh, Bd.state]; rfl
  have N0 := Fr.nil n0
  have Z0 : n0 ≤ h0.size := by rw [← O0.1]; exact O0.2.1
  show own_Go p e below (s₁.setTop (entryFrame m #[(.int ln), (.long pp)] 4)) (fun t o => ∃ v L, o = .returned v ∧ Q_rm_fill Z ln pp h0 n0 v t.heap L ∧ FrameEnd s o t L ({ frames := 1, cells := 1, slots := 10, locals := 16 } : Room).cells ({ frames := 1, cells := 1, slots := 10, locals := 16 } : Room).slots)
  rw [ef_rm_fill m ln pp]
  rcases hln with rfl | rfl | rfl | rfl
  · skip
    show own_Go p e below (s₁.setTop (mkF m 0 #[.val (.int (0 : Int32)), .val (.long pp), .second, .unset] [])) _
    refine n_iloadN X0 hx hby D2_0 rfl ?_
    obtain ⟨T1, h1, k1, X1, e1, E1, A1, Ex1, st1⟩ := newPE X0 hx hZ (own_w hw 7 rfl) e0 (g := (mkF m 1 #[.val (.int (0 : Int32)), .val (.long pp), .second, .unset] [(.int (0 : Int32))])) rfl (hb hby D2_1) rfl (by decide) (cap := 0) (by decide) (by decide) (by decide) (by decide) (ad := "[B") rfl
    obtain ⟨ob1, g1⟩ : ∃ z, z = h0.size := ⟨_, rfl⟩
    rw [← g1] at A1 st1 Ex1
    refine ob_ st1 ?_
    have z1 := E1.1
    have Vw1 : Arv Z h1 ob1 k1 .byte (0 : Int32) [] (.int (0 : Int32)) := Arv.new A1 (by decide)
    have lt1 : h1.size > ob1 := Vw1.lt
    refine n_astoreN X1 hx hby D2_3 rfl (l' := #[.val (.int (0 : Int32)), .val (.long pp), .second, .val (.ref ob1)]) rfl ?_
    refine n_iloadN X1 hx hby D2_4 rfl ?_
    refine n_ifYes X1 hx hby D2_5 (pc0 := 5) (pc' := 16) rfl ((if0 _ _).trans (flt (by decide : ¬ ((0 : Int32) < (0 : Int32)))).2.2.2) (by decide) (by decide) ?_
    refine n_iloadN X1 hx hby D2_16 rfl ?_
    refine oIc X1 hx hby D2_17 (z := (1 : Int32)) rfl ?_
    refine n_icmpYes X1 hx hby D2_18 (pc0 := 18) (pc' := 29) rfl (flt (by decide : ¬ ((1 : Int32) < (0 : Int32)))).2.2.2 (by decide) (by decide) ?_
    refine n_iloadN X1 hx hby D2_29 rfl ?_
    refine oIc X1 hx hby D2_30 (z := (2 : Int32)) rfl ?_
    refine n_icmpYes X1 hx hby D2_31 (pc0 := 31) (pc' := 42) rfl (flt (by decide : ¬ ((2 : Int32) < (0 : Int32)))).2.2.2 (by decide) (by decide) ?_
    refine n_iloadN X1 hx hby D2_42 rfl ?_
    refine oIc X1 hx hby D2_43 (z := (3 : Int32)) rfl ?_
    refine n_icmpYes X1 hx hby D2_44 (pc0 := 44) (pc' := 55) rfl (flt (by decide : ¬ ((3 : Int32) < (0 : Int32)))).2.2.2 (by decide) (by decide) ?_
    refine n_iloadN X1 hx hby D2_55 rfl ?_
    refine oIc X1 hx hby D2_56 (z := (4 : Int32)) rfl ?_
    refine n_icmpYes X1 hx hby D2_57 (pc0 := 57) (pc' := 68) rfl (flt (by decide : ¬ ((4 : Int32) < (0 : Int32)))).2.2.2 (by decide) (by decide) ?_
    refine n_iloadN X1 hx hby D2_68 rfl ?_
    refine oIc X1 hx hby D2_69 (z := (5 : Int32)) rfl ?_
    refine n_icmpYes X1 hx hby D2_70 (pc0 := 70) (pc' := 81) rfl (flt (by decide : ¬ ((5 : Int32) < (0 : Int32)))).2.2.2 (by decide) (by decide) ?_
    refine n_iloadN X1 hx hby D2_81 rfl ?_
    refine oBi X1 hx hby D2_82 (z := (6 : Int32)) rfl ?_
    refine n_icmpYes X1 hx hby D2_84 (pc0 := 84) (pc' := 97) rfl (flt (by decide : ¬ ((6 : Int32) < (0 : Int32)))).2.2.2 (by decide) (by decide) ?_
    refine n_iloadN X1 hx hby D2_97 rfl ?_
    refine oBi X1 hx hby D2_98 (z := (7 : Int32)) rfl ?_
    refine n_icmpYes X1 hx hby D2_100 (pc0 := 100) (pc' := 113) rfl (flt (by decide : ¬ ((7 : Int32) < (0 : Int32)))).2.2.2 (by decide) (by decide) ?_
    refine n_iloadN X1 hx hby D2_113 rfl ?_
    refine oBi X1 hx hby D2_114 (z := (8 : Int32)) rfl ?_
    refine n_icmpYes X1 hx hby D2_116 (pc0 := 116) (pc' := 129) rfl (flt (by decide : ¬ ((8 : Int32) < (0 : Int32)))).2.2.2 (by decide) (by decide) ?_
    refine n_iloadN X1 hx hby D2_129 rfl ?_
    refine oBi X1 hx hby D2_130 (z := (9 : Int32)) rfl ?_
    refine n_icmpYes X1 hx hby D2_132 (pc0 := 132) (pc' := 145) rfl (flt (by decide : ¬ ((9 : Int32) < (0 : Int32)))).2.2.2 (by decide) (by decide) ?_
    show own_Go p e below (T1.setTop (mkF m 145 #[.val (.int (0 : Int32)), .val (.long pp), .second, .val (.ref ob1)] [])) _
    have Vx2 : Arv Z h1 ob1 k1 .byte (0 : Int32) (own_fl (0 : Int32) pp) (.int (0 : Int32)) := by rw [own_fl_0]; exact Vw1
    refine n_aloadN X1 hx hby D2_145 rfl rfl ?_
    have K3 : Keep h0 h1 [] := ((Keep.refl h0 []).ext E1)
    obtain ⟨fs, hr, hrun, hended, hW, hsame⟩ := X1.leave (v := some (.ref ob1)) (fun h => by rw [Bd.returns] at h; cases h)
    refine ⟨_, _, retOut X1 hx Bd.returns (own_narrow_ref (by decide) rfl) (Or.inr (Or.inr (Or.inr (Or.inr ⟨rfl, by decide, rfl⟩)))) (hb hby D2_146) hr, hrun, hended, _, _, rfl, ?_, ⟨_, rfl⟩, hW, hsame.mono (by decide) (by decide)⟩
    show Q_rm_fill Z (0 : Int32) pp h0 n0 _ T1.heap _
    rw [e1]
    exact ⟨ob1, k1, rfl, N0, K3, Ex1, Vx2, (by first | assumption | omega)⟩
  · skip
    show own_Go p e below (s₁.setTop (mkF m 0 #[.val (.int (1 : Int32)), .val (.long pp), .second, .unset] [])) _
    refine n_iloadN X0 hx hby D2_0 rfl ?_
    obtain ⟨T4, h4, k4, X4, e4, E4, A4, Ex4, st4⟩ := newPE X0 hx hZ (own_w hw 7 rfl) e0 (g := (mkF m 1 #[.val (.int (1 : Int32)), .val (.long pp), .second, .unset] [(.int (1 : Int32))])) rfl (hb hby D2_1) rfl (by decide) (cap := 1) (by decide) (by decide) (by decide) (by decide) (ad := "[B") rfl
    obtain ⟨ob4, g4⟩ : ∃ z, z = h0.size := ⟨_, rfl⟩
    rw [← g4] at A4 st4 Ex4
    refine ob_ st4 ?_
    have z4 := E4.1
    have Vw4 : Arv Z h4 ob4 k4 .byte (1 : Int32) [] (.int (0 : Int32)) := Arv.new A4 (by decide)
    have lt4 : h4.size > ob4 := Vw4.lt
    refine n_astoreN X4 hx hby D2_3 rfl (l' := #[.val (.int (1 : Int32)), .val (.long pp), .second, .val (.ref ob4)]) rfl ?_
    refine n_iloadN X4 hx hby D2_4 rfl ?_
    refine n_ifNo X4 hx hby D2_5 ((if0 _ _).trans (tlt (by decide : (0 : Int32) < (1 : Int32))).2.2.2) ?_
    refine n_aloadN X4 hx hby D2_8 rfl rfl ?_
    refine oIc X4 hx hby D2_9 (z := (0 : Int32)) rfl ?_
    refine n_lloadN X4 hx hby D2_10 rfl ?_
    refine oIc X4 hx hby D2_11 (z := (0 : Int32)) rfl ?_
    have O5 : Old Z n0 h4 := (O0.ext E4)
    refine o_ksc 3 1 1 (Jvm.LawKit.callS X4 hx (y := (⟨s1_, "byteAt", "(JI)B"⟩ : MethodName)) hown (mw hZ hw 26 rfl) (mw hZ hw 27 rfl) (mw hZ hw 2 rfl) (mw hZ hw 28 rfl) (by decide) (backOf (W := 2) (rm_byte l Z a0 hw [] pp (0 : Int32) h4 n0 O5) hZ (own_w hw 28 rfl) (own_w hw 2 rfl) (by decide) (by decide)) (g := (mkF m 12 #[.val (.int (1 : Int32)), .val (.long pp), .second, .val (.ref ob4)] [(.int (0 : Int32)), (.long pp), (.int (0 : Int32)), (.ref ob4)])) rfl (by rw [hml]; rfl) (argsL := [(.long pp), (.int (0 : Int32))]) (rest := [(.int (0 : Int32)), (.ref ob4)]) (lenOf own_pd__28JI_29B rfl) rfl own_z (hb hby D2_12) (fun _ _ => ⟨rfl, e4, (by decide : 1 + 0 ≤ _), (by decide : 1 + 0 ≤ _)⟩)) fun T6 Lc6 _ X6 hQ6 => ?_
    obtain ⟨rfl, M6, K6⟩ := hQ6
    have N6 := Fr.app N0 M6
    obtain ⟨lc6, X6, N6⟩ := own_lc X6 N6
    have Vw7 : Arv Z h4 ob4 k4 .byte (1 : Int32) [(.int (0 : Int32))] (.int (0 : Int32)) := Vw4.pad (pad_rep [] (.int (0 : Int32)) 1)
    obtain ⟨cl8, Ar8, q8, S8, M8, H8, G8⟩ := (id Vw7)
    have hin8 : ¬ ((0 : Int32) < 0 ∨ cl8.slots.size ≤ ((0 : Int32)).toNatClampNeg) := inb_of S8 ⟨by decide, by decide⟩
    obtain ⟨T8, h8, X8, e8, W8, st8⟩ := stB X6 hx hZ K6 Ar8 (j := (0 : Int32)) hin8 (g := (mkF m 15 #[.val (.int (1 : Int32)), .val (.long pp), .second, .val (.ref ob4)] [(.int (own_bt pp (0 : Int32))), (.int (0 : Int32)), (.ref ob4)])) rfl rfl (hb hby D2_15)
    refine ob_ st8 ?_
    rw [own_bt_nar] at W8
    have z8 := W8.size
    have lx9 : own_LE n0 ob4 := own_mkLE (by omega)
    have N8 := Fr.snoc X8 N6 (own_unLE lx9)
    obtain ⟨lc8, X8, N8⟩ := own_lc X8 N8
    have Vw8 : Arv Z h8 ob4 k4 .byte (1 : Int32) [(.int (own_bt pp (0 : Int32)))] (.int (0 : Int32)) := Arv.set Ar8 q8 S8 M8 H8 G8 (own_bt_fits _ _) W8 0 rfl (Nat.le_of_ble_eq_true rfl)
    refine n_iloadN X8 hx hby D2_16 rfl ?_
    refine oIc X8 hx hby D2_17 (z := (1 : Int32)) rfl ?_
    refine n_icmpYes X8 hx hby D2_18 (pc0 := 18) (pc' := 29) rfl (flt (by decide : ¬ ((1 : Int32) < (1 : Int32)))).2.2.2 (by decide) (by decide) ?_
    refine n_iloadN X8 hx hby D2_29 rfl ?_
    refine oIc X8 hx hby D2_30 (z := (2 : Int32)) rfl ?_
    refine n_icmpYes X8 hx hby D2_31 (pc0 := 31) (pc' := 42) rfl (flt (by decide : ¬ ((2 : Int32) < (1 : Int32)))).2.2.2 (by decide) (by decide) ?_
    refine n_iloadN X8 hx hby D2_42 rfl ?_
    refine oIc X8 hx hby D2_43 (z := (3 : Int32)) rfl ?_
    refine n_icmpYes X8 hx hby D2_44 (pc0 := 44) (pc' := 55) rfl (flt (by decide : ¬ ((3 : Int32) < (1 : Int32)))).2.2.2 (by decide) (by decide) ?_
    refine n_iloadN X8 hx hby D2_55 rfl ?_
    refine oIc X8 hx hby D2_56 (z := (4 : Int32)) rfl ?_
    refine n_icmpYes X8 hx hby D2_57 (pc0 := 57) (pc' := 68) rfl (flt (by decide : ¬ ((4 : Int32) < (1 : Int32)))).2.2.2 (by decide) (by decide) ?_
    refine n_iloadN X8 hx hby D2_68 rfl ?_
    refine oIc X8 hx hby D2_69 (z := (5 : Int32)) rfl ?_
    refine n_icmpYes X8 hx hby D2_70 (pc0 := 70) (pc' := 81) rfl (flt (by decide : ¬ ((5 : Int32) < (1 : Int32)))).2.2.2 (by decide) (by decide) ?_
    refine n_iloadN X8 hx hby D2_81 rfl ?_
    refine oBi X8 hx hby D2_82 (z := (6 : Int32)) rfl ?_
    refine n_icmpYes X8 hx hby D2_84 (pc0 := 84) (pc' := 97) rfl (flt (by decide : ¬ ((6 : Int32) < (1 : Int32)))).2.2.2 (by decide) (by decide) ?_
    refine n_iloadN X8 hx hby D2_97 rfl ?_
    refine oBi X8 hx hby D2_98 (z := (7 : Int32)) rfl ?_
    refine n_icmpYes X8 hx hby D2_100 (pc0 := 100) (pc' := 113) rfl (flt (by decide : ¬ ((7 : Int32) < (1 : Int32)))).2.2.2 (by decide) (by decide) ?_
    refine n_iloadN X8 hx hby D2_113 rfl ?_
    refine oBi X8 hx hby D2_114 (z := (8 : Int32)) rfl ?_
    refine n_icmpYes X8 hx hby D2_116 (pc0 := 116) (pc' := 129) rfl (flt (by decide : ¬ ((8 : Int32) < (1 : Int32)))).2.2.2 (by decide) (by decide) ?_
    refine n_iloadN X8 hx hby D2_129 rfl ?_
    refine oBi X8 hx hby D2_130 (z := (9 : Int32)) rfl ?_
    refine n_icmpYes X8 hx hby D2_132 (pc0 := 132) (pc' := 145) rfl (flt (by decide : ¬ ((9 : Int32) < (1 : Int32)))).2.2.2 (by decide) (by decide) ?_
    show own_Go p e below (T8.setTop (mkF m 145 #[.val (.int (1 : Int32)), .val (.long pp), .second, .val (.ref ob4)] [])) _
    have Vx10 : Arv Z h8 ob4 k4 .byte (1 : Int32) (own_fl (1 : Int32) pp) (.int (0 : Int32)) := by rw [own_fl_1]; exact Vw8
    refine n_aloadN X8 hx hby D2_145 rfl rfl ?_
    have fc11 : Exa Z h8 ob4 "[B" := (Ex4.wr W8)
    have lx13 : own_LE h0.size ob4 := own_mkLE (by omega)
    have K12 : Keep h0 h8 [] := (((Keep.refl h0 []).ext E4).wr W8 (Or.inr (own_unLE lx13)))
    obtain ⟨fs, hr, hrun, hended, hW, hsame⟩ := X8.leave (v := some (.ref ob4)) (fun h => by rw [Bd.returns] at h; cases h)
    refine ⟨_, _, retOut X8 hx Bd.returns (own_narrow_ref (by decide) rfl) (Or.inr (Or.inr (Or.inr (Or.inr ⟨rfl, by decide, rfl⟩)))) (hb hby D2_146) hr, hrun, hended, _, _, rfl, ?_, ⟨_, rfl⟩, hW, hsame.mono (by decide) (by decide)⟩
    show Q_rm_fill Z (1 : Int32) pp h0 n0 _ T8.heap _
    rw [e8]
    exact ⟨ob4, k4, rfl, N8, K12, fc11, Vx10, (by first | assumption | omega)⟩
  · skip
    show own_Go p e below (s₁.setTop (mkF m 0 #[.val (.int (2 : Int32)), .val (.long pp), .second, .unset] [])) _
    refine n_iloadN X0 hx hby D2_0 rfl ?_
    obtain ⟨T14, h14, k14, X14, e14, E14, A14, Ex14, st14⟩ := newPE X0 hx hZ (own_w hw 7 rfl) e0 (g := (mkF m 1 #[.val (.int (2 : Int32)), .val (.long pp), .second, .unset] [(.int (2 : Int32))])) rfl (hb hby D2_1) rfl (by decide) (cap := 2) (by decide) (by decide) (by decide) (by decide) (ad := "[B") rfl
    obtain ⟨ob14, g14⟩ : ∃ z, z = h0.size := ⟨_, rfl⟩
    rw [← g14] at A14 st14 Ex14
    refine ob_ st14 ?_
    have z14 := E14.1
    have Vw14 : Arv Z h14 ob14 k14 .byte (2 : Int32) [] (.int (0 : Int32)) := Arv.new A14 (by decide)
    have lt14 : h14.size > ob14 := Vw14.lt
    refine n_astoreN X14 hx hby D2_3 rfl (l' := #[.val (.int (2 : Int32)), .val (.long pp), .second, .val (.ref ob14)]) rfl ?_
    refine n_iloadN X14 hx hby D2_4 rfl ?_
    refine n_ifNo X14 hx hby D2_5 ((if0 _ _).trans (tlt (by decide : (0 : Int32) < (2 : Int32))).2.2.2) ?_
    refine n_aloadN X14 hx hby D2_8 rfl rfl ?_
    refine oIc X14 hx hby D2_9 (z := (0 : Int32)) rfl ?_
    refine n_lloadN X14 hx hby D2_10 rfl ?_
    refine oIc X14 hx hby D2_11 (z := (0 : Int32)) rfl ?_
    have O15 : Old Z n0 h14 := (O0.ext E14)
    refine o_ksc 3 1 2 (Jvm.LawKit.callS X14 hx (y := (⟨s1_, "byteAt", "(JI)B"⟩ : MethodName)) hown (mw hZ hw 26 rfl) (mw hZ hw 27 rfl) (mw hZ hw 2 rfl) (mw hZ hw 28 rfl) (by decide) (backOf (W := 2) (rm_byte l Z a0 hw [] pp (0 : Int32) h14 n0 O15) hZ (own_w hw 28 rfl) (own_w hw 2 rfl) (by decide) (by decide)) (g := (mkF m 12 #[.val (.int (2 : Int32)), .val (.long pp), .second, .val (.ref ob14)] [(.int (0 : Int32)), (.long pp), (.int (0 : Int32)), (.ref ob14)])) rfl (by rw [hml]; rfl) (argsL := [(.long pp), (.int (0 : Int32))]) (rest := [(.int (0 : Int32)), (.ref ob14)]) (lenOf own_pd__28JI_29B rfl) rfl own_z (hb hby D2_12) (fun _ _ => ⟨rfl, e14, (by decide : 1 + 0 ≤ _), (by decide : 2 + 0 ≤ _)⟩)) fun T16 Lc16 _ X16 hQ16 => ?_
    obtain ⟨rfl, M16, K16⟩ := hQ16
    have N16 := Fr.app N0 M16
    obtain ⟨lc16, X16, N16⟩ := own_lc X16 N16
    have Vw17 : Arv Z h14 ob14 k14 .byte (2 : Int32) [(.int (0 : Int32))] (.int (0 : Int32)) := Vw14.pad (pad_rep [] (.int (0 : Int32)) 1)
    obtain ⟨cl18, Ar18, q18, S18, M18, H18, G18⟩ := (id Vw17)
    have hin18 : ¬ ((0 : Int32) < 0 ∨ cl18.slots.size ≤ ((0 : Int32)).toNatClampNeg) := inb_of S18 ⟨by decide, by decide⟩
    obtain ⟨T18, h18, X18, e18, W18, st18⟩ := stB X16 hx hZ K16 Ar18 (j := (0 : Int32)) hin18 (g := (mkF m 15 #[.val (.int (2 : Int32)), .val (.long pp), .second, .val (.ref ob14)] [(.int (own_bt pp (0 : Int32))), (.int (0 : Int32)), (.ref ob14)])) rfl rfl (hb hby D2_15)
    refine ob_ st18 ?_
    rw [own_bt_nar] at W18
    have z18 := W18.size
    have lx19 : own_LE n0 ob14 := own_mkLE (by omega)
    have N18 := Fr.snoc X18 N16 (own_unLE lx19)
    obtain ⟨lc18, X18, N18⟩ := own_lc X18 N18
    have Vw18 : Arv Z h18 ob14 k14 .byte (2 : Int32) [(.int (own_bt pp (0 : Int32)))] (.int (0 : Int32)) := Arv.set Ar18 q18 S18 M18 H18 G18 (own_bt_fits _ _) W18 0 rfl (Nat.le_of_ble_eq_true rfl)
    refine n_iloadN X18 hx hby D2_16 rfl ?_
    refine oIc X18 hx hby D2_17 (z := (1 : Int32)) rfl ?_
    refine n_icmpNo X18 hx hby D2_18 (tlt (by decide : (1 : Int32) < (2 : Int32))).2.2.2 ?_
    refine n_aloadN X18 hx hby D2_21 rfl rfl ?_
    refine oIc X18 hx hby D2_22 (z := (1 : Int32)) rfl ?_
    refine n_lloadN X18 hx hby D2_23 rfl ?_
    refine oIc X18 hx hby D2_24 (z := (1 : Int32)) rfl ?_
    have O20 : Old Z n0 h18 := (O15.wr W18 (own_unLE lx19))
    refine o_ksc 3 1 2 (Jvm.LawKit.callS X18 hx (y := (⟨s1_, "byteAt", "(JI)B"⟩ : MethodName)) hown (mw hZ hw 26 rfl) (mw hZ hw 27 rfl) (mw hZ hw 2 rfl) (mw hZ hw 28 rfl) (by decide) (backOf (W := 2) (rm_byte l Z a0 hw [] pp (1 : Int32) h18 n0 O20) hZ (own_w hw 28 rfl) (own_w hw 2 rfl) (by decide) (by decide)) (g := (mkF m 25 #[.val (.int (2 : Int32)), .val (.long pp), .second, .val (.ref ob14)] [(.int (1 : Int32)), (.long pp), (.int (1 : Int32)), (.ref ob14)])) rfl (by rw [hml]; rfl) (argsL := [(.long pp), (.int (1 : Int32))]) (rest := [(.int (1 : Int32)), (.ref ob14)]) (lenOf own_pd__28JI_29B rfl) rfl own_z (hb hby D2_25) (fun _ _ => ⟨rfl, e18, (by decide : 1 + 0 ≤ _), (by decide : 2 + 0 ≤ _)⟩)) fun T21 Lc21 _ X21 hQ21 => ?_
    obtain ⟨rfl, M21, K21⟩ := hQ21
    have N21 := Fr.app N18 M21
    obtain ⟨lc21, X21, N21⟩ := own_lc X21 N21
    have Vw22 : Arv Z h18 ob14 k14 .byte (2 : Int32) [(.int (own_bt pp (0 : Int32))), (.int (0 : Int32))] (.int (0 : Int32)) := Vw18.pad (pad_rep [(.int (own_bt pp (0 : Int32)))] (.int (0 : Int32)) 1)
    obtain ⟨cl23, Ar23, q23, S23, M23, H23, G23⟩ := (id Vw22)
    have hin23 : ¬ ((1 : Int32) < 0 ∨ cl23.slots.size ≤ ((1 : Int32)).toNatClampNeg) := inb_of S23 ⟨by decide, by decide⟩
    obtain ⟨T23, h23, X23, e23, W23, st23⟩ := stB X21 hx hZ K21 Ar23 (j := (1 : Int32)) hin23 (g := (mkF m 28 #[.val (.int (2 : Int32)), .val (.long pp), .second, .val (.ref ob14)] [(.int (own_bt pp (1 : Int32))), (.int (1 : Int32)), (.ref ob14)])) rfl rfl (hb hby D2_28)
    refine ob_ st23 ?_
    rw [own_bt_nar] at W23
    have z23 := W23.size
    have N23 := Fr.snoc X23 N21 (own_unLE lx19)
    obtain ⟨lc23, X23, N23⟩ := own_lc X23 N23
    have Vw23 : Arv Z h23 ob14 k14 .byte (2 : Int32) [(.int (own_bt pp (0 : Int32))), (.int (own_bt pp (1 : Int32)))] (.int (0 : Int32)) := Arv.set Ar23 q23 S23 M23 H23 G23 (own_bt_fits _ _) W23 1 rfl (Nat.le_of_ble_eq_true rfl)
    refine n_iloadN X23 hx hby D2_29 rfl ?_
    refine oIc X23 hx hby D2_30 (z := (2 : Int32)) rfl ?_
    refine n_icmpYes X23 hx hby D2_31 (pc0 := 31) (pc' := 42) rfl (flt (by decide : ¬ ((2 : Int32) < (2 : Int32)))).2.2.2 (by decide) (by decide) ?_
    refine n_iloadN X23 hx hby D2_42 rfl ?_
    refine oIc X23 hx hby D2_43 (z := (3 : Int32)) rfl ?_
    refine n_icmpYes X23 hx hby D2_44 (pc0 := 44) (pc' := 55) rfl (flt (by decide : ¬ ((3 : Int32) < (2 : Int32)))).2.2.2 (by decide) (by decide) ?_
    refine n_iloadN X23 hx hby D2_55 rfl ?_
    refine oIc X23 hx hby D2_56 (z := (4 : Int32)) rfl ?_
    refine n_icmpYes X23 hx hby D2_57 (pc0 := 57) (pc' := 68) rfl (flt (by decide : ¬ ((4 : Int32) < (2 : Int32)))).2.2.2 (by decide) (by decide) ?_
    refine n_iloadN X23 hx hby D2_68 rfl ?_
    refine oIc X23 hx hby D2_69 (z := (5 : Int32)) rfl ?_
    refine n_icmpYes X23 hx hby D2_70 (pc0 := 70) (pc' := 81) rfl (flt (by decide : ¬ ((5 : Int32) < (2 : Int32)))).2.2.2 (by decide) (by decide) ?_
    refine n_iloadN X23 hx hby D2_81 rfl ?_
    refine oBi X23 hx hby D2_82 (z := (6 : Int32)) rfl ?_
    refine n_icmpYes X23 hx hby D2_84 (pc0 := 84) (pc' := 97) rfl (flt (by decide : ¬ ((6 : Int32) < (2 : Int32)))).2.2.2 (by decide) (by decide) ?_
    refine n_iloadN X23 hx hby D2_97 rfl ?_
    refine oBi X23 hx hby D2_98 (z := (7 : Int32)) rfl ?_
    refine n_icmpYes X23 hx hby D2_100 (pc0 := 100) (pc' := 113) rfl (flt (by decide : ¬ ((7 : Int32) < (2 : Int32)))).2.2.2 (by decide) (by decide) ?_
    refine n_iloadN X23 hx hby D2_113 rfl ?_
    refine oBi X23 hx hby D2_114 (z := (8 : Int32)) rfl ?_
    refine n_icmpYes X23 hx hby D2_116 (pc0 := 116) (pc' := 129) rfl (flt (by decide : ¬ ((8 : Int32) < (2 : Int32)))).2.2.2 (by decide) (by decide) ?_
    refine n_iloadN X23 hx hby D2_129 rfl ?_
    refine oBi X23 hx hby D2_130 (z := (9 : Int32)) rfl ?_
    refine n_icmpYes X23 hx hby D2_132 (pc0 := 132) (pc' := 145) rfl (flt (by decide : ¬ ((9 : Int32) < (2 : Int32)))).2.2.2 (by decide) (by decide) ?_
    show own_Go p e below (T23.setTop (mkF m 145 #[.val (.int (2 : Int32)), .val (.long pp), .second, .val (.ref ob14)] [])) _
    have Vx24 : Arv Z h23 ob14 k14 .byte (2 : Int32) (own_fl (2 : Int32) pp) (.int (0 : Int32)) := by rw [own_fl_2]; exact Vw23
    refine n_aloadN X23 hx hby D2_145 rfl rfl ?_
    have fc25 : Exa Z h23 ob14 "[B" := ((Ex14.wr W18).wr W23)
    have lx27 : own_LE h0.size ob14 := own_mkLE (by omega)
    have K26 : Keep h0 h23 [] := ((((Keep.refl h0 []).ext E14).wr W18 (Or.inr (own_unLE lx27))).wr W23 (Or.inr (own_unLE lx27)))
    obtain ⟨fs, hr, hrun, hended, hW, hsame⟩ := X23.leave (v := some (.ref ob14)) (fun h => by rw [Bd.returns] at h; cases h)
    refine ⟨_, _, retOut X23 hx Bd.returns (own_narrow_ref (by decide) rfl) (Or.inr (Or.inr (Or.inr (Or.inr ⟨rfl, by decide, rfl⟩)))) (hb hby D2_146) hr, hrun, hended, _, _, rfl, ?_, ⟨_, rfl⟩, hW, hsame.mono (by decide) (by decide)⟩
    show Q_rm_fill Z (2 : Int32) pp h0 n0 _ T23.heap _
    rw [e23]
    exact ⟨ob14, k14, rfl, N23, K26, fc25, Vx24, (by first | assumption | omega)⟩
  · skip
    show own_Go p e below (s₁.setTop (mkF m 0 #[.val (.int (10 : Int32)), .val (.long pp), .second, .unset] [])) _
    refine n_iloadN X0 hx hby D2_0 rfl ?_
    obtain ⟨T28, h28, k28, X28, e28, E28, A28, Ex28, st28⟩ := newPE X0 hx hZ (own_w hw 7 rfl) e0 (g := (mkF m 1 #[.val (.int (10 : Int32)), .val (.long pp), .second, .unset] [(.int (10 : Int32))])) rfl (hb hby D2_1) rfl (by decide) (cap := 10) (by decide) (by decide) (by decide) (by decide) (ad := "[B") rfl
    obtain ⟨ob28, g28⟩ : ∃ z, z = h0.size := ⟨_, rfl⟩
    rw [← g28] at A28 st28 Ex28
    refine ob_ st28 ?_
    have z28 := E28.1
    have Vw28 : Arv Z h28 ob28 k28 .byte (10 : Int32) [] (.int (0 : Int32)) := Arv.new A28 (by decide)
    have lt28 : h28.size > ob28 := Vw28.lt
    refine n_astoreN X28 hx hby D2_3 rfl (l' := #[.val (.int (10 : Int32)), .val (.long pp), .second, .val (.ref ob28)]) rfl ?_
    refine n_iloadN X28 hx hby D2_4 rfl ?_
    refine n_ifNo X28 hx hby D2_5 ((if0 _ _).trans (tlt (by decide : (0 : Int32) < (10 : Int32))).2.2.2) ?_
    refine n_aloadN X28 hx hby D2_8 rfl rfl ?_
    refine oIc X28 hx hby D2_9 (z := (0 : Int32)) rfl ?_
    refine n_lloadN X28 hx hby D2_10 rfl ?_
    refine oIc X28 hx hby D2_11 (z := (0 : Int32)) rfl ?_
    have O29 : Old Z n0 h28 := (O0.ext E28)
    refine o_ksc 3 1 10 (Jvm.LawKit.callS X28 hx (y := (⟨s1_, "byteAt", "(JI)B"⟩ : MethodName)) hown (mw hZ hw 26 rfl) (mw hZ hw 27 rfl) (mw hZ hw 2 rfl) (mw hZ hw 28 rfl) (by decide) (backOf (W := 2) (rm_byte l Z a0 hw [] pp (0 : Int32) h28 n0 O29) hZ (own_w hw 28 rfl) (own_w hw 2 rfl) (by decide) (by decide)) (g := (mkF m 12 #[.val (.int (10 : Int32)), .val (.long pp), .second, .val (.ref ob28)] [(.int (0 : Int32)), (.long pp), (.int (0 : Int32)), (.ref ob28)])) rfl (by rw [hml]; rfl) (argsL := [(.long pp), (.int (0 : Int32))]) (rest := [(.int (0 : Int32)), (.ref ob28)]) (lenOf own_pd__28JI_29B rfl) rfl own_z (hb hby D2_12) (fun _ _ => ⟨rfl, e28, (by decide : 1 + 0 ≤ _), (by decide : 10 + 0 ≤ _)⟩)) fun T30 Lc30 _ X30 hQ30 => ?_
    obtain ⟨rfl, M30, K30⟩ := hQ30
    have N30 := Fr.app N0 M30
    obtain ⟨lc30, X30, N30⟩ := own_lc X30 N30
    have Vw31 : Arv Z h28 ob28 k28 .byte (10 : Int32) [(.int (0 : Int32))] (.int (0 : Int32)) := Vw28.pad (pad_rep [] (.int (0 : Int32)) 1)
    obtain ⟨cl32, Ar32, q32, S32, M32, H32, G32⟩ := (id Vw31)
    have hin32 : ¬ ((0 : Int32) < 0 ∨ cl32.slots.size ≤ ((0 : Int32)).toNatClampNeg) := inb_of S32 ⟨by decide, by decide⟩
    obtain ⟨T32, h32, X32, e32, W32, st32⟩ := stB X30 hx hZ K30 Ar32 (j := (0 : Int32)) hin32 (g := (mkF m 15 #[.val (.int (10 : Int32)), .val (.long pp), .second, .val (.ref ob28)] [(.int (own_bt pp (0 : Int32))), (.int (0 : Int32)), (.ref ob28)])) rfl rfl (hb hby D2_15)
    refine ob_ st32 ?_
    rw [own_bt_nar] at W32
    have z32 := W32.size
    have lx33 : own_LE n0 ob28 := own_mkLE (by omega)
    have N32 := Fr.snoc X32 N30 (own_unLE lx33)
    obtain ⟨lc32, X32, N32⟩ := own_lc X32 N32
    have Vw32 : Arv Z h32 ob28 k28 .byte (10 : Int32) [(.int (own_bt pp (0 : Int32)))] (.int (0 : Int32)) := Arv.set Ar32 q32 S32 M32 H32 G32 (own_bt_fits _ _) W32 0 rfl (Nat.le_of_ble_eq_true rfl)
    refine n_iloadN X32 hx hby D2_16 rfl ?_
    refine oIc X32 hx hby D2_17 (z := (1 : Int32)) rfl ?_
    refine n_icmpNo X32 hx hby D2_18 (tlt (by decide : (1 : Int32) < (10 : Int32))).2.2.2 ?_
    refine n_aloadN X32 hx hby D2_21 rfl rfl ?_
    refine oIc X32 hx hby D2_22 (z := (1 : Int32)) rfl ?_
    refine n_lloadN X32 hx hby D2_23 rfl ?_
    refine oIc X32 hx hby D2_24 (z := (1 : Int32)) rfl ?_
    have O34 : Old Z n0 h32 := (O29.wr W32 (own_unLE lx33))
    refine o_ksc 3 1 10 (Jvm.LawKit.callS X32 hx (y := (⟨s1_, "byteAt", "(JI)B"⟩ : MethodName)) hown (mw hZ hw 26 rfl) (mw hZ hw 27 rfl) (mw hZ hw 2 rfl) (mw hZ hw 28 rfl) (by decide) (backOf (W := 2) (rm_byte l Z a0 hw [] pp (1 : Int32) h32 n0 O34) hZ (own_w hw 28 rfl) (own_w hw 2 rfl) (by decide) (by decide)) (g := (mkF m 25 #[.val (.int (10 : Int32)), .val (.long pp), .second, .val (.ref ob28)] [(.int (1 : Int32)), (.long pp), (.int (1 : Int32)), (.ref ob28)])) rfl (by rw [hml]; rfl) (argsL := [(.long pp), (.int (1 : Int32))]) (rest := [(.int (1 : Int32)), (.ref ob28)]) (lenOf own_pd__28JI_29B rfl) rfl own_z (hb hby D2_25) (fun _ _ => ⟨rfl, e32, (by decide : 1 + 0 ≤ _), (by decide : 10 + 0 ≤ _)⟩)) fun T35 Lc35 _ X35 hQ35 => ?_
    obtain ⟨rfl, M35, K35⟩ := hQ35
    have N35 := Fr.app N32 M35
    obtain ⟨lc35, X35, N35⟩ := own_lc X35 N35
    have Vw36 : Arv Z h32 ob28 k28 .byte (10 : Int32) [(.int (own_bt pp (0 : Int32))), (.int (0 : Int32))] (.int (0 : Int32)) := Vw32.pad (pad_rep [(.int (own_bt pp (0 : Int32)))] (.int (0 : Int32)) 1)
    obtain ⟨cl37, Ar37, q37, S37, M37, H37, G37⟩ := (id Vw36)
    have hin37 : ¬ ((1 : Int32) < 0 ∨ cl37.slots.size ≤ ((1 : Int32)).toNatClampNeg) := inb_of S37 ⟨by decide, by decide⟩
    obtain ⟨T37, h37, X37, e37, W37, st37⟩ := stB X35 hx hZ K35 Ar37 (j := (1 : Int32)) hin37 (g := (mkF m 28 #[.val (.int (10 : Int32)), .val (.long pp), .second, .val (.ref ob28)] [(.int (own_bt pp (1 : Int32))), (.int (1 : Int32)), (.ref ob28)])) rfl rfl (hb hby D2_28)
    refine ob_ st37 ?_
    rw [own_bt_nar] at W37
    have z37 := W37.size
    have N37 := Fr.snoc X37 N35 (own_unLE lx33)
    obtain ⟨lc37, X37, N37⟩ := own_lc X37 N37
    have Vw37 : Arv Z h37 ob28 k28 .byte (10 : Int32) [(.int (own_bt pp (0 : Int32))), (.int (own_bt pp (1 : Int32)))] (.int (0 : Int32)) := Arv.set Ar37 q37 S37 M37 H37 G37 (own_bt_fits _ _) W37 1 rfl (Nat.le_of_ble_eq_true rfl)
    refine n_iloadN X37 hx hby D2_29 rfl ?_
    refine oIc X37 hx hby D2_30 (z := (2 : Int32)) rfl ?_
    refine n_icmpNo X37 hx hby D2_31 (tlt (by decide : (2 : Int32) < (10 : Int32))).2.2.2 ?_
    refine n_aloadN X37 hx hby D2_34 rfl rfl ?_
    refine oIc X37 hx hby D2_35 (z := (2 : Int32)) rfl ?_
    refine n_lloadN X37 hx hby D2_36 rfl ?_
    refine oIc X37 hx hby D2_37 (z := (2 : Int32)) rfl ?_
    have O38 : Old Z n0 h37 := (O34.wr W37 (own_unLE lx33))
    refine o_ksc 3 1 10 (Jvm.LawKit.callS X37 hx (y := (⟨s1_, "byteAt", "(JI)B"⟩ : MethodName)) hown (mw hZ hw 26 rfl) (mw hZ hw 27 rfl) (mw hZ hw 2 rfl) (mw hZ hw 28 rfl) (by decide) (backOf (W := 2) (rm_byte l Z a0 hw [] pp (2 : Int32) h37 n0 O38) hZ (own_w hw 28 rfl) (own_w hw 2 rfl) (by decide) (by decide)) (g := (mkF m 38 #[.val (.int (10 : Int32)), .val (.long pp), .second, .val (.ref ob28)] [(.int (2 : Int32)), (.long pp), (.int (2 : Int32)), (.ref ob28)])) rfl (by rw [hml]; rfl) (argsL := [(.long pp), (.int (2 : Int32))]) (rest := [(.int (2 : Int32)), (.ref ob28)]) (lenOf own_pd__28JI_29B rfl) rfl own_z (hb hby D2_38) (fun _ _ => ⟨rfl, e37, (by decide : 1 + 0 ≤ _), (by decide : 10 + 0 ≤ _)⟩)) fun T39 Lc39 _ X39 hQ39 => ?_
    obtain ⟨rfl, M39, K39⟩ := hQ39
    have N39 := Fr.app N37 M39
    obtain ⟨lc39, X39, N39⟩ := own_lc X39 N39
    have Vw40 : Arv Z h37 ob28 k28 .byte (10 : Int32) [(.int (own_bt pp (0 : Int32))), (.int (own_bt pp (1 : Int32))), (.int (0 : Int32))] (.int (0 : Int32)) := Vw37.pad (pad_rep [(.int (own_bt pp (0 : Int32))), (.int (own_bt pp (1 : Int32)))] (.int (0 : Int32)) 1)
    obtain ⟨cl41, Ar41, q41, S41, M41, H41, G41⟩ := (id Vw40)
    have hin41 : ¬ ((2 : Int32) < 0 ∨ cl41.slots.size ≤ ((2 : Int32)).toNatClampNeg) := inb_of S41 ⟨by decide, by decide⟩
    obtain ⟨T41, h41, X41, e41, W41, st41⟩ := stB X39 hx hZ K39 Ar41 (j := (2 : Int32)) hin41 (g := (mkF m 41 #[.val (.int (10 : Int32)), .val (.long pp), .second, .val (.ref ob28)] [(.int (own_bt pp (2 : Int32))), (.int (2 : Int32)), (.ref ob28)])) rfl rfl (hb hby D2_41)
    refine ob_ st41 ?_
    rw [own_bt_nar] at W41
    have z41 := W41.size
    have N41 := Fr.snoc X41 N39 (own_unLE lx33)
    obtain ⟨lc41, X41, N41⟩ := own_lc X41 N41
    have Vw41 : Arv Z h41 ob28 k28 .byte (10 : Int32) [(.int (own_bt pp (0 : Int32))), (.int (own_bt pp (1 : Int32))), (.int (own_bt pp (2 : Int32)))] (.int (0 : Int32)) := Arv.set Ar41 q41 S41 M41 H41 G41 (own_bt_fits _ _) W41 2 rfl (Nat.le_of_ble_eq_true rfl)
    refine n_iloadN X41 hx hby D2_42 rfl ?_
    refine oIc X41 hx hby D2_43 (z := (3 : Int32)) rfl ?_
    refine n_icmpNo X41 hx hby D2_44 (tlt (by decide : (3 : Int32) < (10 : Int32))).2.2.2 ?_
    refine n_aloadN X41 hx hby D2_47 rfl rfl ?_
    refine oIc X41 hx hby D2_48 (z := (3 : Int32)) rfl ?_
    refine n_lloadN X41 hx hby D2_49 rfl ?_
    refine oIc X41 hx hby D2_50 (z := (3 : Int32)) rfl ?_
    have O42 : Old Z n0 h41 := (O38.wr W41 (own_unLE lx33))
    refine o_ksc 3 1 10 (Jvm.LawKit.callS X41 hx (y := (⟨s1_, "byteAt", "(JI)B"⟩ : MethodName)) hown (mw hZ hw 26 rfl) (mw hZ hw 27 rfl) (mw hZ hw 2 rfl) (mw hZ hw 28 rfl) (by decide) (backOf (W := 2) (rm_byte l Z a0 hw [] pp (3 : Int32) h41 n0 O42) hZ (own_w hw 28 rfl) (own_w hw 2 rfl) (by decide) (by decide)) (g := (mkF m 51 #[.val (.int (10 : Int32)), .val (.long pp), .second, .val (.ref ob28)] [(.int (3 : Int32)), (.long pp), (.int (3 : Int32)), (.ref ob28)])) rfl (by rw [hml]; rfl) (argsL := [(.long pp), (.int (3 : Int32))]) (rest := [(.int (3 : Int32)), (.ref ob28)]) (lenOf own_pd__28JI_29B rfl) rfl own_z (hb hby D2_51) (fun _ _ => ⟨rfl, e41, (by decide : 1 + 0 ≤ _), (by decide : 10 + 0 ≤ _)⟩)) fun T43 Lc43 _ X43 hQ43 => ?_
    obtain ⟨rfl, M43, K43⟩ := hQ43
    have N43 := Fr.app N41 M43
    obtain ⟨lc43, X43, N43⟩ := own_lc X43 N43
    have Vw44 : Arv Z h41 ob28 k28 .byte (10 : Int32) [(.int (own_bt pp (0 : Int32))), (.int (own_bt pp (1 : Int32))), (.int (own_bt pp (2 : Int32))), (.int (0 : Int32))] (.int (0 : Int32)) := Vw41.pad (pad_rep [(.int (own_bt pp (0 : Int32))), (.int (own_bt pp (1 : Int32))), (.int (own_bt pp (2 : Int32)))] (.int (0 : Int32)) 1)
    obtain ⟨cl45, Ar45, q45, S45, M45, H45, G45⟩ := (id Vw44)
    have hin45 : ¬ ((3 : Int32) < 0 ∨ cl45.slots.size ≤ ((3 : Int32)).toNatClampNeg) := inb_of S45 ⟨by decide, by decide⟩
    obtain ⟨T45, h45, X45, e45, W45, st45⟩ := stB X43 hx hZ K43 Ar45 (j := (3 : Int32)) hin45 (g := (mkF m 54 #[.val (.int (10 : Int32)), .val (.long pp), .second, .val (.ref ob28)] [(.int (own_bt pp (3 : Int32))), (.int (3 : Int32)), (.ref ob28)])) rfl rfl (hb hby D2_54)
    refine ob_ st45 ?_
    rw [own_bt_nar] at W45
    have z45 := W45.size
    have N45 := Fr.snoc X45 N43 (own_unLE lx33)
    obtain ⟨lc45, X45, N45⟩ := own_lc X45 N45
    have Vw45 : Arv Z h45 ob28 k28 .byte (10 : Int32) [(.int (own_bt pp (0 : Int32))), (.int (own_bt pp (1 : Int32))), (.int (own_bt pp (2 : Int32))), (.int (own_bt pp (3 : Int32)))] (.int (0 : Int32)) := Arv.set Ar45 q45 S45 M45 H45 G45 (own_bt_fits _ _) W45 3 rfl (Nat.le_of_ble_eq_true rfl)
    refine n_iloadN X45 hx hby D2_55 rfl ?_
    refine oIc X45 hx hby D2_56 (z := (4 : Int32)) rfl ?_
    refine n_icmpNo X45 hx hby D2_57 (tlt (by decide : (4 : Int32) < (10 : Int32))).2.2.2 ?_
    refine n_aloadN X45 hx hby D2_60 rfl rfl ?_
    refine oIc X45 hx hby D2_61 (z := (4 : Int32)) rfl ?_
    refine n_lloadN X45 hx hby D2_62 rfl ?_
    refine oIc X45 hx hby D2_63 (z := (4 : Int32)) rfl ?_
    have O46 : Old Z n0 h45 := (O42.wr W45 (own_unLE lx33))
    refine o_ksc 3 1 10 (Jvm.LawKit.callS X45 hx (y := (⟨s1_, "byteAt", "(JI)B"⟩ : MethodName)) hown (mw hZ hw 26 rfl) (mw hZ hw 27 rfl) (mw hZ hw 2 rfl) (mw hZ hw 28 rfl) (by decide) (backOf (W := 2) (rm_byte l Z a0 hw [] pp (4 : Int32) h45 n0 O46) hZ (own_w hw 28 rfl) (own_w hw 2 rfl) (by decide) (by decide)) (g := (mkF m 64 #[.val (.int (10 : Int32)), .val (.long pp), .second, .val (.ref ob28)] [(.int (4 : Int32)), (.long pp), (.int (4 : Int32)), (.ref ob28)])) rfl (by rw [hml]; rfl) (argsL := [(.long pp), (.int (4 : Int32))]) (rest := [(.int (4 : Int32)), (.ref ob28)]) (lenOf own_pd__28JI_29B rfl) rfl own_z (hb hby D2_64) (fun _ _ => ⟨rfl, e45, (by decide : 1 + 0 ≤ _), (by decide : 10 + 0 ≤ _)⟩)) fun T47 Lc47 _ X47 hQ47 => ?_
    obtain ⟨rfl, M47, K47⟩ := hQ47
    have N47 := Fr.app N45 M47
    obtain ⟨lc47, X47, N47⟩ := own_lc X47 N47
    have Vw48 : Arv Z h45 ob28 k28 .byte (10 : Int32) [(.int (own_bt pp (0 : Int32))), (.int (own_bt pp (1 : Int32))), (.int (own_bt pp (2 : Int32))), (.int (own_bt pp (3 : Int32))), (.int (0 : Int32))] (.int (0 : Int32)) := Vw45.pad (pad_rep [(.int (own_bt pp (0 : Int32))), (.int (own_bt pp (1 : Int32))), (.int (own_bt pp (2 : Int32))), (.int (own_bt pp (3 : Int32)))] (.int (0 : Int32)) 1)
    obtain ⟨cl49, Ar49, q49, S49, M49, H49, G49⟩ := (id Vw48)
    have hin49 : ¬ ((4 : Int32) < 0 ∨ cl49.slots.size ≤ ((4 : Int32)).toNatClampNeg) := inb_of S49 ⟨by decide, by decide⟩
    obtain ⟨T49, h49, X49, e49, W49, st49⟩ := stB X47 hx hZ K47 Ar49 (j := (4 : Int32)) hin49 (g := (mkF m 67 #[.val (.int (10 : Int32)), .val (.long pp), .second, .val (.ref ob28)] [(.int (own_bt pp (4 : Int32))), (.int (4 : Int32)), (.ref ob28)])) rfl rfl (hb hby D2_67)
    refine ob_ st49 ?_
    rw [own_bt_nar] at W49
    have z49 := W49.size
    have N49 := Fr.snoc X49 N47 (own_unLE lx33)
    obtain ⟨lc49, X49, N49⟩ := own_lc X49 N49
    have Vw49 : Arv Z h49 ob28 k28 .byte (10 : Int32) [(.int (own_bt pp (0 : Int32))), (.int (own_bt pp (1 : Int32))), (.int (own_bt pp (2 : Int32))), (.int (own_bt pp (3 : Int32))), (.int (own_bt pp (4 : Int32)))] (.int (0 : Int32)) := Arv.set Ar49 q49 S49 M49 H49 G49 (own_bt_fits _ _) W49 4 rfl (Nat.le_of_ble_eq_true rfl)
    refine n_iloadN X49 hx hby D2_68 rfl ?_
    refine oIc X49 hx hby D2_69 (z := (5 : Int32)) rfl ?_
    refine n_icmpNo X49 hx hby D2_70 (tlt (by decide : (5 : Int32) < (10 : Int32))).2.2.2 ?_
    refine n_aloadN X49 hx hby D2_73 rfl rfl ?_
    refine oIc X49 hx hby D2_74 (z := (5 : Int32)) rfl ?_
    refine n_lloadN X49 hx hby D2_75 rfl ?_
    refine oIc X49 hx hby D2_76 (z := (5 : Int32)) rfl ?_
    have O50 : Old Z n0 h49 := (O46.wr W49 (own_unLE lx33))
    refine o_ksc 3 1 10 (Jvm.LawKit.callS X49 hx (y := (⟨s1_, "byteAt", "(JI)B"⟩ : MethodName)) hown (mw hZ hw 26 rfl) (mw hZ hw 27 rfl) (mw hZ hw 2 rfl) (mw hZ hw 28 rfl) (by decide) (backOf (W := 2) (rm_byte l Z a0 hw [] pp (5 : Int32) h49 n0 O50) hZ (own_w hw 28 rfl) (own_w hw 2 rfl) (by decide) (by decide)) (g := (mkF m 77 #[.val (.int (10 : Int32)), .val (.long pp), .second, .val (.ref ob28)] [(.int (5 : Int32)), (.long pp), (.int (5 : Int32)), (.ref ob28)])) rfl (by rw [hml]; rfl) (argsL := [(.long pp), (.int (5 : Int32))]) (rest := [(.int (5 : Int32)), (.ref ob28)]) (lenOf own_pd__28JI_29B rfl) rfl own_z (hb hby D2_77) (fun _ _ => ⟨rfl, e49, (by decide : 1 + 0 ≤ _), (by decide : 10 + 0 ≤ _)⟩)) fun T51 Lc51 _ X51 hQ51 => ?_
    obtain ⟨rfl, M51, K51⟩ := hQ51
    have N51 := Fr.app N49 M51
    obtain ⟨lc51, X51, N51⟩ := own_lc X51 N51
    have Vw52 : Arv Z h49 ob28 k28 .byte (10 : Int32) [(.int (own_bt pp (0 : Int32))), (.int (own_bt pp (1 : Int32))), (.int (own_bt pp (2 : Int32))), (.int (own_bt pp (3 : Int32))), (.int (own_bt pp (4 : Int32))), (.int (0 : Int32))] (.int (0 : Int32)) := Vw49.pad (pad_rep [(.int (own_bt pp (0 : Int32))), (.int (own_bt pp (1 : Int32))), (.int (own_bt pp (2 : Int32))), (.int (own_bt pp (3 : Int32))), (.int (own_bt pp (4 : Int32)))] (.int (0 : Int32)) 1)
    obtain ⟨cl53, Ar53, q53, S53, M53, H53, G53⟩ := (id Vw52)
    have hin53 : ¬ ((5 : Int32) < 0 ∨ cl53.slots.size ≤ ((5 : Int32)).toNatClampNeg) := inb_of S53 ⟨by decide, by decide⟩
    obtain ⟨T53, h53, X53, e53, W53, st53⟩ := stB X51 hx hZ K51 Ar53 (j := (5 : Int32)) hin53 (g := (mkF m 80 #[.val (.int (10 : Int32)), .val (.long pp), .second, .val (.ref ob28)] [(.int (own_bt pp (5 : Int32))), (.int (5 : Int32)), (.ref ob28)])) rfl rfl (hb hby D2_80)
    refine ob_ st53 ?_
    rw [own_bt_nar] at W53
    have z53 := W53.size
    have N53 := Fr.snoc X53 N51 (own_unLE lx33)
    obtain ⟨lc53, X53, N53⟩ := own_lc X53 N53
    have Vw53 : Arv Z h53 ob28 k28 .byte (10 : Int32) [(.int (own_bt pp (0 : Int32))), (.int (own_bt pp (1 : Int32))), (.int (own_bt pp (2 : Int32))), (.int (own_bt pp (3 : Int32))), (.int (own_bt pp (4 : Int32))), (.int (own_bt pp (5 : Int32)))] (.int (0 : Int32)) := Arv.set Ar53 q53 S53 M53 H53 G53 (own_bt_fits _ _) W53 5 rfl (Nat.le_of_ble_eq_true rfl)
    refine n_iloadN X53 hx hby D2_81 rfl ?_
    refine oBi X53 hx hby D2_82 (z := (6 : Int32)) rfl ?_
    refine n_icmpNo X53 hx hby D2_84 (tlt (by decide : (6 : Int32) < (10 : Int32))).2.2.2 ?_
    refine n_aloadN X53 hx hby D2_87 rfl rfl ?_
    refine oBi X53 hx hby D2_88 (z := (6 : Int32)) rfl ?_
    refine n_lloadN X53 hx hby D2_90 rfl ?_
    refine oBi X53 hx hby D2_91 (z := (6 : Int32)) rfl ?_
    have O54 : Old Z n0 h53 := (O50.wr W53 (own_unLE lx33))
    refine o_ksc 3 1 10 (Jvm.LawKit.callS X53 hx (y := (⟨s1_, "byteAt", "(JI)B"⟩ : MethodName)) hown (mw hZ hw 26 rfl) (mw hZ hw 27 rfl) (mw hZ hw 2 rfl) (mw hZ hw 28 rfl) (by decide) (backOf (W := 2) (rm_byte l Z a0 hw [] pp (6 : Int32) h53 n0 O54) hZ (own_w hw 28 rfl) (own_w hw 2 rfl) (by decide) (by decide)) (g := (mkF m 93 #[.val (.int (10 : Int32)), .val (.long pp), .second, .val (.ref ob28)] [(.int (6 : Int32)), (.long pp), (.int (6 : Int32)), (.ref ob28)])) rfl (by rw [hml]; rfl) (argsL := [(.long pp), (.int (6 : Int32))]) (rest := [(.int (6 : Int32)), (.ref ob28)]) (lenOf own_pd__28JI_29B rfl) rfl own_z (hb hby D2_93) (fun _ _ => ⟨rfl, e53, (by decide : 1 + 0 ≤ _), (by decide : 10 + 0 ≤ _)⟩)) fun T55 Lc55 _ X55 hQ55 => ?_
    obtain ⟨rfl, M55, K55⟩ := hQ55
    have N55 := Fr.app N53 M55
    obtain ⟨lc55, X55, N55⟩ := own_lc X55 N55
    have Vw56 : Arv Z h53 ob28 k28 .byte (10 : Int32) [(.int (own_bt pp (0 : Int32))), (.int (own_bt pp (1 : Int32))), (.int (own_bt pp (2 : Int32))), (.int (own_bt pp (3 : Int32))), (.int (own_bt pp (4 : Int32))), (.int (own_bt pp (5 : Int32))), (.int (0 : Int32))] (.int (0 : Int32)) := Vw53.pad (pad_rep [(.int (own_bt pp (0 : Int32))), (.int (own_bt pp (1 : Int32))), (.int (own_bt pp (2 : Int32))), (.int (own_bt pp (3 : Int32))), (.int (own_bt pp (4 : Int32))), (.int (own_bt pp (5 : Int32)))] (.int (0 : Int32)) 1)
    obtain ⟨cl57, Ar57, q57, S57, M57, H57, G57⟩ := (id Vw56)
    have hin57 : ¬ ((6 : Int32) < 0 ∨ cl57.slots.size ≤ ((6 : Int32)).toNatClampNeg) := inb_of S57 ⟨by decide, by decide⟩
    obtain ⟨T57, h57, X57, e57, W57, st57⟩ := stB X55 hx hZ K55 Ar57 (j := (6 : Int32)) hin57 (g := (mkF m 96 #[.val (.int (10 : Int32)), .val (.long pp), .second, .val (.ref ob28)] [(.int (own_bt pp (6 : Int32))), (.int (6 : Int32)), (.ref ob28)])) rfl rfl (hb hby D2_96)
    refine ob_ st57 ?_
    rw [own_bt_nar] at W57
    have z57 := W57.size
    have N57 := Fr.snoc X57 N55 (own_unLE lx33)
    obtain ⟨lc57, X57, N57⟩ := own_lc X57 N57
    have Vw57 : Arv Z h57 ob28 k28 .byte (10 : Int32) [(.int (own_bt pp (0 : Int32))), (.int (own_bt pp (1 : Int32))), (.int (own_bt pp (2 : Int32))), (.int (own_bt pp (3 : Int32))), (.int (own_bt pp (4 : Int32))), (.int (own_bt pp (5 : Int32))), (.int (own_bt pp (6 : Int32)))] (.int (0 : Int32)) := Arv.set Ar57 q57 S57 M57 H57 G57 (own_bt_fits _ _) W57 6 rfl (Nat.le_of_ble_eq_true rfl)
    refine n_iloadN X57 hx hby D2_97 rfl ?_
    refine oBi X57 hx hby D2_98 (z := (7 : Int32)) rfl ?_
    refine n_icmpNo X57 hx hby D2_100 (tlt (by decide : (7 : Int32) < (10 : Int32))).2.2.2 ?_
    refine n_aloadN X57 hx hby D2_103 rfl rfl ?_
    refine oBi X57 hx hby D2_104 (z := (7 : Int32)) rfl ?_
    refine n_lloadN X57 hx hby D2_106 rfl ?_
    refine oBi X57 hx hby D2_107 (z := (7 : Int32)) rfl ?_
    have O58 : Old Z n0 h57 := (O54.wr W57 (own_unLE lx33))
    refine o_ksc 3 1 10 (Jvm.LawKit.callS X57 hx (y := (⟨s1_, "byteAt", "(JI)B"⟩ : MethodName)) hown (mw hZ hw 26 rfl) (mw hZ hw 27 rfl) (mw hZ hw 2 rfl) (mw hZ hw 28 rfl) (by decide) (backOf (W := 2) (rm_byte l Z a0 hw [] pp (7 : Int32) h57 n0 O58) hZ (own_w hw 28 rfl) (own_w hw 2 rfl) (by decide) (by decide)) (g := (mkF m 109 #[.val (.int (10 : Int32)), .val (.long pp), .second, .val (.ref ob28)] [(.int (7 : Int32)), (.long pp), (.int (7 : Int32)), (.ref ob28)])) rfl (by rw [hml]; rfl) (argsL := [(.long pp), (.int (7 : Int32))]) (rest := [(.int (7 : Int32)), (.ref ob28)]) (lenOf own_pd__28JI_29B rfl) rfl own_z (hb hby D2_109) (fun _ _ => ⟨rfl, e57, (by decide : 1 + 0 ≤ _), (by decide : 10 + 0 ≤ _)⟩)) fun T59 Lc59 _ X59 hQ59 => ?_
    obtain ⟨rfl, M59, K59⟩ := hQ59
    have N59 := Fr.app N57 M59
    obtain ⟨lc59, X59, N59⟩ := own_lc X59 N59
    have Vw60 : Arv Z h57 ob28 k28 .byte (10 : Int32) [(.int (own_bt pp (0 : Int32))), (.int (own_bt pp (1 : Int32))), (.int (own_bt pp (2 : Int32))), (.int (own_bt pp (3 : Int32))), (.int (own_bt pp (4 : Int32))), (.int (own_bt pp (5 : Int32))), (.int (own_bt pp (6 : Int32))), (.int (0 : Int32))] (.int (0 : Int32)) := Vw57.pad (pad_rep [(.int (own_bt pp (0 : Int32))), (.int (own_bt pp (1 : Int32))), (.int (own_bt pp (2 : Int32))), (.int (own_bt pp (3 : Int32))), (.int (own_bt pp (4 : Int32))), (.int (own_bt pp (5 : Int32))), (.int (own_bt pp (6 : Int32)))] (.int (0 : Int32)) 1)
    obtain ⟨cl61, Ar61, q61, S61, M61, H61, G61⟩ := (id Vw60)
    have hin61 : ¬ ((7 : Int32) < 0 ∨ cl61.slots.size ≤ ((7 : Int32)).toNatClampNeg) := inb_of S61 ⟨by decide, by decide⟩
    obtain ⟨T61, h61, X61, e61, W61, st61⟩ := stB X59 hx hZ K59 Ar61 (j := (7 : Int32)) hin61 (g := (mkF m 112 #[.val (.int (10 : Int32)), .val (.long pp), .second, .val (.ref ob28)] [(.int (own_bt pp (7 : Int32))), (.int (7 : Int32)), (.ref ob28)])) rfl rfl (hb hby D2_112)
    refine ob_ st61 ?_
    rw [own_bt_nar] at W61
    have z61 := W61.size
    have N61 := Fr.snoc X61 N59 (own_unLE lx33)
    obtain ⟨lc61, X61, N61⟩ := own_lc X61 N61
    have Vw61 : Arv Z h61 ob28 k28 .byte (10 : Int32) [(.int (own_bt pp (0 : Int32))), (.int (own_bt pp (1 : Int32))), (.int (own_bt pp (2 : Int32))), (.int (own_bt pp (3 : Int32))), (.int (own_bt pp (4 : Int32))), (.int (own_bt pp (5 : Int32))), (.int (own_bt pp (6 : Int32))), (.int (own_bt pp (7 : Int32)))] (.int (0 : Int32)) := Arv.set Ar61 q61 S61 M61 H61 G61 (own_bt_fits _ _) W61 7 rfl (Nat.le_of_ble_eq_true rfl)
    refine n_iloadN X61 hx hby D2_113 rfl ?_
    refine oBi X61 hx hby D2_114 (z := (8 : Int32)) rfl ?_
    refine n_icmpNo X61 hx hby D2_116 (tlt (by decide : (8 : Int32) < (10 : Int32))).2.2.2 ?_
    refine n_aloadN X61 hx hby D2_119 rfl rfl ?_
    refine oBi X61 hx hby D2_120 (z := (8 : Int32)) rfl ?_
    refine n_lloadN X61 hx hby D2_122 rfl ?_
    refine oBi X61 hx hby D2_123 (z := (8 : Int32)) rfl ?_
    have O62 : Old Z n0 h61 := (O58.wr W61 (own_unLE lx33))
    refine o_ksc 3 1 10 (Jvm.LawKit.callS X61 hx (y := (⟨s1_, "byteAt", "(JI)B"⟩ : MethodName)) hown (mw hZ hw 26 rfl) (mw hZ hw 27 rfl) (mw hZ hw 2 rfl) (mw hZ hw 28 rfl) (by decide) (backOf (W := 2) (rm_byte l Z a0 hw [] pp (8 : Int32) h61 n0 O62) hZ (own_w hw 28 rfl) (own_w hw 2 rfl) (by decide) (by decide)) (g := (mkF m 125 #[.val (.int (10 : Int32)), .val (.long pp), .second, .val (.ref ob28)] [(.int (8 : Int32)), (.long pp), (.int (8 : Int32)), (.ref ob28)])) rfl (by rw [hml]; rfl) (argsL := [(.long pp), (.int (8 : Int32))]) (rest := [(.int (8 : Int32)), (.ref ob28)]) (lenOf own_pd__28JI_29B rfl) rfl own_z (hb hby D2_125) (fun _ _ => ⟨rfl, e61, (by decide : 1 + 0 ≤ _), (by decide : 10 + 0 ≤ _)⟩)) fun T63 Lc63 _ X63 hQ63 => ?_
    obtain ⟨rfl, M63, K63⟩ := hQ63
    have N63 := Fr.app N61 M63
    obtain ⟨lc63, X63, N63⟩ := own_lc X63 N63
    have Vw64 : Arv Z h61 ob28 k28 .byte (10 : Int32) [(.int (own_bt pp (0 : Int32))), (.int (own_bt pp (1 : Int32))), (.int (own_bt pp (2 : Int32))), (.int (own_bt pp (3 : Int32))), (.int (own_bt pp (4 : Int32))), (.int (own_bt pp (5 : Int32))), (.int (own_bt pp (6 : Int32))), (.int (own_bt pp (7 : Int32))), (.int (0 : Int32))] (.int (0 : Int32)) := Vw61.pad (pad_rep [(.int (own_bt pp (0 : Int32))), (.int (own_bt pp (1 : Int32))), (.int (own_bt pp (2 : Int32))), (.int (own_bt pp (3 : Int32))), (.int (own_bt pp (4 : Int32))), (.int (own_bt pp (5 : Int32))), (.int (own_bt pp (6 : Int32))), (.int (own_bt pp (7 : Int32)))] (.int (0 : Int32)) 1)
    obtain ⟨cl65, Ar65, q65, S65, M65, H65, G65⟩ := (id Vw64)
    have hin65 : ¬ ((8 : Int32) < 0 ∨ cl65.slots.size ≤ ((8 : Int32)).toNatClampNeg) := inb_of S65 ⟨by decide, by decide⟩
    obtain ⟨T65, h65, X65, e65, W65, st65⟩ := stB X63 hx hZ K63 Ar65 (j := (8 : Int32)) hin65 (g := (mkF m 128 #[.val (.int (10 : Int32)), .val (.long pp), .second, .val (.ref ob28)] [(.int (own_bt pp (8 : Int32))), (.int (8 : Int32)), (.ref ob28)])) rfl rfl (hb hby D2_128)
    refine ob_ st65 ?_
    rw [own_bt_nar] at W65
    have z65 := W65.size
    have N65 := Fr.snoc X65 N63 (own_unLE lx33)
    obtain ⟨lc65, X65, N65⟩ := own_lc X65 N65
    have Vw65 : Arv Z h65 ob28 k28 .byte (10 : Int32) [(.int (own_bt pp (0 : Int32))), (.int (own_bt pp (1 : Int32))), (.int (own_bt pp (2 : Int32))), (.int (own_bt pp (3 : Int32))), (.int (own_bt pp (4 : Int32))), (.int (own_bt pp (5 : Int32))), (.int (own_bt pp (6 : Int32))), (.int (own_bt pp (7 : Int32))), (.int (own_bt pp (8 : Int32)))] (.int (0 : Int32)) := Arv.set Ar65 q65 S65 M65 H65 G65 (own_bt_fits _ _) W65 8 rfl (Nat.le_of_ble_eq_true rfl)
    refine n_iloadN X65 hx hby D2_129 rfl ?_
    refine oBi X65 hx hby D2_130 (z := (9 : Int32)) rfl ?_
    refine n_icmpNo X65 hx hby D2_132 (tlt (by decide : (9 : Int32) < (10 : Int32))).2.2.2 ?_
    refine n_aloadN X65 hx hby D2_135 rfl rfl ?_
    refine oBi X65 hx hby D2_136 (z := (9 : Int32)) rfl ?_
    refine n_lloadN X65 hx hby D2_138 rfl ?_
    refine oBi X65 hx hby D2_139 (z := (9 : Int32)) rfl ?_
    have O66 : Old Z n0 h65 := (O62.wr W65 (own_unLE lx33))
    refine o_ksc 3 1 10 (Jvm.LawKit.callS X65 hx (y := (⟨s1_, "byteAt", "(JI)B"⟩ : MethodName)) hown (mw hZ hw 26 rfl) (mw hZ hw 27 rfl) (mw hZ hw 2 rfl) (mw hZ hw 28 rfl) (by decide) (backOf (W := 2) (rm_byte l Z a0 hw [] pp (9 : Int32) h65 n0 O66) hZ (own_w hw 28 rfl) (own_w hw 2 rfl) (by decide) (by decide)) (g := (mkF m 141 #[.val (.int (10 : Int32)), .val (.long pp), .second, .val (.ref ob28)] [(.int (9 : Int32)), (.long pp), (.int (9 : Int32)), (.ref ob28)])) rfl (by rw [hml]; rfl) (argsL := [(.long pp), (.int (9 : Int32))]) (rest := [(.int (9 : Int32)), (.ref ob28)]) (lenOf own_pd__28JI_29B rfl) rfl own_z (hb hby D2_141) (fun _ _ => ⟨rfl, e65, (by decide : 1 + 0 ≤ _), (by decide : 10 + 0 ≤ _)⟩)) fun T67 Lc67 _ X67 hQ67 => ?_
    obtain ⟨rfl, M67, K67⟩ := hQ67
    have N67 := Fr.app N65 M67
    obtain ⟨lc67, X67, N67⟩ := own_lc X67 N67
    have Vw68 : Arv Z h65 ob28 k28 .byte (10 : Int32) [(.int (own_bt pp (0 : Int32))), (.int (own_bt pp (1 : Int32))), (.int (own_bt pp (2 : Int32))), (.int (own_bt pp (3 : Int32))), (.int (own_bt pp (4 : Int32))), (.int (own_bt pp (5 : Int32))), (.int (own_bt pp (6 : Int32))), (.int (own_bt pp (7 : Int32))), (.int (own_bt pp (8 : Int32))), (.int (0 : Int32))] (.int (0 : Int32)) := Vw65.pad (pad_rep [(.int (own_bt pp (0 : Int32))), (.int (own_bt pp (1 : Int32))), (.int (own_bt pp (2 : Int32))), (.int (own_bt pp (3 : Int32))), (.int (own_bt pp (4 : Int32))), (.int (own_bt pp (5 : Int32))), (.int (own_bt pp (6 : Int32))), (.int (own_bt pp (7 : Int32))), (.int (own_bt pp (8 : Int32)))] (.int (0 : Int32)) 1)
    obtain ⟨cl69, Ar69, q69, S69, M69, H69, G69⟩ := (id Vw68)
    have hin69 : ¬ ((9 : Int32) < 0 ∨ cl69.slots.size ≤ ((9 : Int32)).toNatClampNeg) := inb_of S69 ⟨by decide, by decide⟩
    obtain ⟨T69, h69, X69, e69, W69, st69⟩ := stB X67 hx hZ K67 Ar69 (j := (9 : Int32)) hin69 (g := (mkF m 144 #[.val (.int (10 : Int32)), .val (.long pp), .second, .val (.ref ob28)] [(.int (own_bt pp (9 : Int32))), (.int (9 : Int32)), (.ref ob28)])) rfl rfl (hb hby D2_144)
    refine ob_ st69 ?_
    rw [own_bt_nar] at W69
    have z69 := W69.size
    have N69 := Fr.snoc X69 N67 (own_unLE lx33)
    obtain ⟨lc69, X69, N69⟩ := own_lc X69 N69
    have Vw69 : Arv Z h69 ob28 k28 .byte (10 : Int32) [(.int (own_bt pp (0 : Int32))), (.int (own_bt pp (1 : Int32))), (.int (own_bt pp (2 : Int32))), (.int (own_bt pp (3 : Int32))), (.int (own_bt pp (4 : Int32))), (.int (own_bt pp (5 : Int32))), (.int (own_bt pp (6 : Int32))), (.int (own_bt pp (7 : Int32))), (.int (own_bt pp (8 : Int32))), (.int (own_bt pp (9 : Int32)))] (.int (0 : Int32)) := Arv.set Ar69 q69 S69 M69 H69 G69 (own_bt_fits _ _) W69 9 rfl (Nat.le_of_ble_eq_true rfl)
    show own_Go p e below (T69.setTop (mkF m 145 #[.val (.int (10 : Int32)), .val (.long pp), .second, .val (.ref ob28)] [])) _
    have Vx70 : Arv Z h69 ob28 k28 .byte (10 : Int32) (own_fl (10 : Int32) pp) (.int (0 : Int32)) := by rw [own_fl_10]; exact Vw69
    refine n_aloadN X69 hx hby D2_145 rfl rfl ?_
    have fc71 : Exa Z h69 ob28 "[B" := ((((((((((Ex28.wr W32).wr W37).wr W41).wr W45).wr W49).wr W53).wr W57).wr W61).wr W65).wr W69)
    have lx73 : own_LE h0.size ob28 := own_mkLE (by omega)
    have K72 : Keep h0 h69 [] := ((((((((((((Keep.refl h0 []).ext E28).wr W32 (Or.inr (own_unLE lx73))).wr W37 (Or.inr (own_unLE lx73))).wr W41 (Or.inr (own_unLE lx73))).wr W45 (Or.inr (own_unLE lx73))).wr W49 (Or.inr (own_unLE lx73))).wr W53 (Or.inr (own_unLE lx73))).wr W57 (Or.inr (own_unLE lx73))).wr W61 (Or.inr (own_unLE lx73))).wr W65 (Or.inr (own_unLE lx73))).wr W69 (Or.inr (own_unLE lx73)))
    obtain ⟨fs, hr, hrun, hended, hW, hsame⟩ := X69.leave (v := some (.ref ob28)) (fun h => by rw [Bd.returns] at h; cases h)
    refine ⟨_, _, retOut X69 hx Bd.returns (own_narrow_ref (by decide) rfl) (Or.inr (Or.inr (Or.inr (Or.inr ⟨rfl, by decide, rfl⟩)))) (hb hby D2_146) hr, hrun, hended, _, _, rfl, ?_, ⟨_, rfl⟩, hW, hsame.mono (by decide) (by decide)⟩
    show Q_rm_fill Z (10 : Int32) pp h0 n0 _ T69.heap _
    rw [e69]
    exact ⟨ob28, k28, rfl, N69, K72, fc71, Vx70, (by first | assumption | omega)⟩
theorem D4_0 : decode prog_9_method_7_code 0 = .ok (.iconst 1, 1) := by decide +kernel
theorem D4_1 : decode prog_9_method_7_code 1 = .ok (.istore_n 1, 1) := by decide +kernel
theorem D4_2 : decode prog_9_method_7_code 2 = .ok (.iload_n 0, 1) := by decide +kernel
theorem D4_3 : decode prog_9_method_7_code 3 = .ok (.bipush 10, 2) := by decide +kernel
theorem D4_5 : decode prog_9_method_7_code 5 = .ok (.idiv, 1) := by decide +kernel
theorem D4_6 : decode prog_9_method_7_code 6 = .ok (.istore_n 2, 1) := by decide +kernel
theorem D4_7 : decode prog_9_method_7_code 7 = .ok (.iload_n 2, 1) := by decide +kernel
theorem D4_8 : decode prog_9_method_7_code 8 = .ok (.ifCond .le 14, 3) := by decide +kernel
theorem D4_22 : decode prog_9_method_7_code 22 = .ok (.iload_n 1, 1) := by decide +kernel
theorem D4_23 : decode prog_9_method_7_code 23 = .ok (.ireturn, 1) := by decide +kernel
def Q_rm_dl0 (Z : State) (h0 : Heap) (n0 : Nat) (v : Option Value) (h : Heap) (L : List Loc) : Prop := v = some (.int (1 : Int32)) ∧ Fr n0 L ∧ h = h0
theorem ef_rm_dl0 (m : MethodId) : entryFrame m #[(.int (0 : Int32))] 3 = mkF m 0 #[.val (.int (0 : Int32)), .unset, .unset] [] := by first | (simp [entryFrame, mkF, argsToLocals, Value.category]; done) | rfl
set_option maxRecDepth 65536 in
set_option maxHeartbeats 40000000 in
theorem rm_dl0 (l : Launch) (Z : State) (a0 : Array Value) (hw : ∀ d ∈ tables_1, d.before a0 Z = true) (ws : List Jvm.Cond) (h0 : Heap) (n0 : Nat) (O0 : Old Z n0 h0) :
    MetFree l (⟨s2_, "decimalLength", "(I)I"⟩ : MethodName) (head1 (Jvm.Cond.code (⟨s2_, "decimalLength", "(I)I"⟩ : MethodName) prog_9_method_7_code 3 (some .int) :: ws) ({ frames := 0, cells := 0, slots := 0, locals := 0 } : Room)) (fun a U => a = #[(.int (0 : Int32))] ∧ Z.Warmed39 U.vm ∧ U.heap = h0) (fun _ _ _ _ _ => True) (fun _ U o U' => ∃ v L, o = .returned v ∧ Q_rm_dl0 Z h0 n0 v U'.heap L ∧ FrameEnd U o U' L ({ frames := 0, cells := 0, slots := 0, locals := 0 } : Room).cells ({ frames := 0, cells := 0, slots := 0, locals := 0 } : Room).slots) := by
  refine MetFree.of_bodySF (plainFor_of_name own_pn_com_example_living_lease_livinglease_redis_Resp) hisR ?_
  intro p e s m args below meth c s₁ Bd hml0 hP hK
  obtain ⟨rfl, hZ, hh⟩ := hP
  have hx := Bd.exec
  have hby := Bd.bytes
  have hml : c.maxLocals = 3 := hml0
  have hown : s.vm.findClass s2_ = some m.cls := findClass_of_methodNamed Bd.named
  have hnm := (name_of_methodNamed Bd.named Bd.method).1
  have X0 : Stand p l e ({ frames := 0, cells := 0, slots := 0, locals := 0 } : Room) s m #[(.int (0 : Int32))] below meth c s₁ [] 0 0 := Stand.of_body Bd
  have e0 : s₁.heap = h0 := by rw [← hh, Bd.state]; rfl
  have N0 := Fr.nil n0
  have Z0 : n0 ≤ h0.size := by rw [← O0.1]; exact O0.2.1
  show own_Go p e below (s₁.setTop (entryFrame m #[(.int (0 : Int32))] 3)) (fun t o => ∃ v L, o = .returned v ∧ Q_rm_dl0 Z h0 n0 v t.heap L ∧ FrameEnd s o t L ({ frames := 0, cells := 0, slots := 0, locals := 0 } : Room).cells ({ frames := 0, cells := 0, slots := 0, locals := 0 } : Room).slots)
  rw [ef_rm_dl0 m]
  refine oIc X0 hx hby D4_0 (z := (1 : Int32)) rfl ?_
  refine n_istoreN X0 hx hby D4_1 (l' := #[.val (.int (0 : Int32)), .val (.int (1 : Int32)), .unset]) rfl ?_
  refine n_iloadN X0 hx hby D4_2 rfl ?_
  refine oBi X0 hx hby D4_3 (z := (10 : Int32)) rfl ?_
  refine ob_ (fun _ k => XS.idiv X0.here hx rfl (hb hby D4_5) rfl (by decide : ¬ ((10 : Int32) = (0 : Int32))) k) ?_
  show own_Go p e below (s₁.setTop (mkF m 6 #[.val (.int (0 : Int32)), .val (.int (1 : Int32)), .unset] [(.int ((0 : Int32) / (10 : Int32)))])) _
  show own_Go p e below (s₁.setTop (mkF m 6 #[.val (.int (0 : Int32)), .val (.int (1 : Int32)), .unset] [(.int ((0 : Int32) / (10 : Int32)))])) _
  show own_Go p e below (s₁.setTop (mkF m 6 #[.val (.int (0 : Int32)), .val (.int (1 : Int32)), .unset] [(.int ((0 : Int32) / (10 : Int32)))])) _
  rw [show (((0 : Int32) / (10 : Int32)) : Int32) = (0 : Int32) from by decide]
  show own_Go p e below (s₁.setTop (mkF m 6 #[.val (.int (0 : Int32)), .val (.int (1 : Int32)), .unset] [(.int (0 : Int32))])) _
  refine n_istoreN X0 hx hby D4_6 (l' := #[.val (.int (0 : Int32)), .val (.int (1 : Int32)), .val (.int (0 : Int32))]) rfl ?_
  refine n_iloadN X0 hx hby D4_7 rfl ?_
  refine n_ifYes X0 hx hby D4_8 (pc0 := 8) (pc' := 22) rfl ((if0 _ _).trans (flt (by decide : ¬ ((0 : Int32) < (0 : Int32)))).2.2.2) (by decide) (by decide) ?_
  refine n_iloadN X0 hx hby D4_22 rfl ?_
  obtain ⟨fs, hr, hrun, hended, hW, hsame⟩ := X0.leave (v := some (.int (1 : Int32))) (fun h => by rw [Bd.returns] at h; cases h)
  refine ⟨_, _, retI X0 hx Bd.returns (hb hby D4_23) hr, hrun, hended, _, _, rfl, ?_, ⟨_, rfl⟩, hW, hsame.mono (by decide) (by decide)⟩
  show Q_rm_dl0 Z h0 n0 _ s₁.heap _
  rw [e0]
  exact ⟨rfl, N0, rfl⟩
def Q_rm_dl1 (Z : State) (h0 : Heap) (n0 : Nat) (v : Option Value) (h : Heap) (L : List Loc) : Prop := v = some (.int (1 : Int32)) ∧ Fr n0 L ∧ h = h0
theorem ef_rm_dl1 (m : MethodId) : entryFrame m #[(.int (1 : Int32))] 3 = mkF m 0 #[.val (.int (1 : Int32)), .unset, .unset] [] := by first | (simp [entryFrame, mkF, argsToLocals, Value.category]; done) | rfl
set_option maxRecDepth 65536 in
set_option maxHeartbeats 40000000 in
theorem rm_dl1 (l : Launch) (Z : State) (a0 : Array Value) (hw : ∀ d ∈ tables_1, d.before a0 Z = true) (ws : List Jvm.Cond) (h0 : Heap) (n0 : Nat) (O0 : Old Z n0 h0) :
    MetFree l (⟨s2_, "decimalLength", "(I)I"⟩ : MethodName) (head1 (Jvm.Cond.code (⟨s2_, "decimalLength", "(I)I"⟩ : MethodName) prog_9_method_7_code 3 (some .int) :: ws) ({ frames := 0, cells := 0, slots := 0, locals := 0 } : Room)) (fun a U => a = #[(.int (1 : Int32))] ∧ Z.Warmed39 U.vm ∧ U.heap = h0) (fun _ _ _ _ _ => True) (fun _ U o U' => ∃ v L, o = .returned v ∧ Q_rm_dl1 Z h0 n0 v U'.heap L ∧ FrameEnd U o U' L ({ frames := 0, cells := 0, slots := 0, locals := 0 } : Room).cells ({ frames := 0, cells := 0, slots := 0, locals := 0 } : Room).slots) := by
  refine MetFree.of_bodySF (plainFor_of_name own_pn_com_example_living_lease_livinglease_redis_Resp) hisR ?_
  intro p e s m args below meth c s₁ Bd hml0 hP hK
  obtain ⟨rfl, hZ, hh⟩ := hP
  have hx := Bd.exec
  have hby := Bd.bytes
  have hml : c.maxLocals = 3 := hml0
  have hown : s.vm.findClass s2_ = some m.cls := findClass_of_methodNamed Bd.named
  have hnm := (name_of_methodNamed Bd.named Bd.method).1
  have X0 : Stand p l e ({ frames := 0, cells := 0, slots := 0, locals := 0 } : Room) s m #[(.int (1 : Int32))] below meth c s₁ [] 0 0 := Stand.of_body Bd
  have e0 : s₁.heap = h0 := by rw [← hh, Bd.state]; rfl
  have N0 := Fr.nil n0
  have Z0 : n0 ≤ h0.size := by rw [← O0.1]; exact O0.2.1
  show own_Go p e below (s₁.setTop (entryFrame m #[(.int (1 : Int32))] 3)) (fun t o => ∃ v L, o = .returned v ∧ Q_rm_dl1 Z h0 n0 v t.heap L ∧ FrameEnd s o t L ({ frames := 0, cells := 0, slots := 0, locals := 0 } : Room).cells ({ frames := 0, cells := 0, slots := 0, locals := 0 } : Room).slots)
  rw [ef_rm_dl1 m]
  refine oIc X0 hx hby D4_0 (z := (1 : Int32)) rfl ?_
  refine n_istoreN X0 hx hby D4_1 (l' := #[.val (.int (1 : Int32)), .val (.int (1 : Int32)), .unset]) rfl ?_
  refine n_iloadN X0 hx hby D4_2 rfl ?_
  refine oBi X0 hx hby D4_3 (z := (10 : Int32)) rfl ?_
  refine ob_ (fun _ k => XS.idiv X0.here hx rfl (hb hby D4_5) rfl (by decide : ¬ ((10 : Int32) = (0 : Int32))) k) ?_
  show own_Go p e below (s₁.setTop (mkF m 6 #[.val (.int (1 : Int32)), .val (.int (1 : Int32)), .unset] [(.int ((1 : Int32) / (10 : Int32)))])) _
  show own_Go p e below (s₁.setTop (mkF m 6 #[.val (.int (1 : Int32)), .val (.int (1 : Int32)), .unset] [(.int ((1 : Int32) / (10 : Int32)))])) _
  show own_Go p e below (s₁.setTop (mkF m 6 #[.val (.int (1 : Int32)), .val (.int (1 : Int32)), .unset] [(.int ((1 : Int32) / (10 : Int32)))])) _
  rw [show (((1 : Int32) / (10 : Int32)) : Int32) = (0 : Int32) from by decide]
  show own_Go p e below (s₁.setTop (mkF m 6 #[.val (.int (1 : Int32)), .val (.int (1 : Int32)), .unset] [(.int (0 : Int32))])) _
  refine n_istoreN X0 hx hby D4_6 (l' := #[.val (.int (1 : Int32)), .val (.int (1 : Int32)), .val (.int (0 : Int32))]) rfl ?_
  refine n_iloadN X0 hx hby D4_7 rfl ?_
  refine n_ifYes X0 hx hby D4_8 (pc0 := 8) (pc' := 22) rfl ((if0 _ _).trans (flt (by decide : ¬ ((0 : Int32) < (0 : Int32)))).2.2.2) (by decide) (by decide) ?_
  refine n_iloadN X0 hx hby D4_22 rfl ?_
  obtain ⟨fs, hr, hrun, hended, hW, hsame⟩ := X0.leave (v := some (.int (1 : Int32))) (fun h => by rw [Bd.returns] at h; cases h)
  refine ⟨_, _, retI X0 hx Bd.returns (hb hby D4_23) hr, hrun, hended, _, _, rfl, ?_, ⟨_, rfl⟩, hW, hsame.mono (by decide) (by decide)⟩
  show Q_rm_dl1 Z h0 n0 _ s₁.heap _
  rw [e0]
  exact ⟨rfl, N0, rfl⟩
def Q_rm_dl2 (Z : State) (h0 : Heap) (n0 : Nat) (v : Option Value) (h : Heap) (L : List Loc) : Prop := v = some (.int (1 : Int32)) ∧ Fr n0 L ∧ h = h0
theorem ef_rm_dl2 (m : MethodId) : entryFrame m #[(.int (2 : Int32))] 3 = mkF m 0 #[.val (.int (2 : Int32)), .unset, .unset] [] := by first | (simp [entryFrame, mkF, argsToLocals, Value.category]; done) | rfl
set_option maxRecDepth 65536 in
set_option maxHeartbeats 40000000 in
theorem rm_dl2 (l : Launch) (Z : State) (a0 : Array Value) (hw : ∀ d ∈ tables_1, d.before a0 Z = true) (ws : List Jvm.Cond) (h0 : Heap) (n0 : Nat) (O0 : Old Z n0 h0) :
    MetFree l (⟨s2_, "decimalLength", "(I)I"⟩ : MethodName) (head1 (Jvm.Cond.code (⟨s2_, "decimalLength", "(I)I"⟩ : MethodName) prog_9_method_7_code 3 (some .int) :: ws) ({ frames := 0, cells := 0, slots := 0, locals := 0 } : Room)) (fun a U => a = #[(.int (2 : Int32))] ∧ Z.Warmed39 U.vm ∧ U.heap = h0) (fun _ _ _ _ _ => True) (fun _ U o U' => ∃ v L, o = .returned v ∧ Q_rm_dl2 Z h0 n0 v U'.heap L ∧ FrameEnd U o U' L ({ frames := 0, cells := 0, slots := 0, locals := 0 } : Room).cells ({ frames := 0, cells := 0, slots := 0, locals := 0 } : Room).slots) := by
  refine MetFree.of_bodySF (plainFor_of_name own_pn_com_example_living_lease_livinglease_redis_Resp) hisR ?_
  intro p e s m args below meth c s₁ Bd hml0 hP hK
  obtain ⟨rfl, hZ, hh⟩ := hP
  have hx := Bd.exec
  have hby := Bd.bytes
  have hml : c.maxLocals = 3 := hml0
  have hown : s.vm.findClass s2_ = some m.cls := findClass_of_methodNamed Bd.named
  have hnm := (name_of_methodNamed Bd.named Bd.method).1
  have X0 : Stand p l e ({ frames := 0, cells := 0, slots := 0, locals := 0 } : Room) s m #[(.int (2 : Int32))] below meth c s₁ [] 0 0 := Stand.of_body Bd
  have e0 : s₁.heap = h0 := by rw [← hh, Bd.state]; rfl
  have N0 := Fr.nil n0
  have Z0 : n0 ≤ h0.size := by rw [← O0.1]; exact O0.2.1
  show own_Go p e below (s₁.setTop (entryFrame m #[(.int (2 : Int32))] 3)) (fun t o => ∃ v L, o = .returned v ∧ Q_rm_dl2 Z h0 n0 v t.heap L ∧ FrameEnd s o t L ({ frames := 0, cells := 0, slots := 0, locals := 0 } : Room).cells ({ frames := 0, cells := 0, slots := 0, locals := 0 } : Room).slots)
  rw [ef_rm_dl2 m]
  refine oIc X0 hx hby D4_0 (z := (1 : Int32)) rfl ?_
  refine n_istoreN X0 hx hby D4_1 (l' := #[.val (.int (2 : Int32)), .val (.int (1 : Int32)), .unset]) rfl ?_
  refine n_iloadN X0 hx hby D4_2 rfl ?_
  refine oBi X0 hx hby D4_3 (z := (10 : Int32)) rfl ?_
  refine ob_ (fun _ k => XS.idiv X0.here hx rfl (hb hby D4_5) rfl (by decide : ¬ ((10 : Int32) = (0 : Int32))) k) ?_
  show own_Go p e below (s₁.setTop (mkF m 6 #[.val (.int (2 : Int32)), .val (.int (1 : Int32)), .unset] [(.int ((2 : Int32) / (10 : Int32)))])) _
  show own_Go p e below (s₁.setTop (mkF m 6 #[.val (.int (2 : Int32)), .val (.int (1 : Int32)), .unset] [(.int ((2 : Int32) / (10 : Int32)))])) _
  show own_Go p e below (s₁.setTop (mkF m 6 #[.val (.int (2 : Int32)), .val (.int (1 : Int32)), .unset] [(.int ((2 : Int32) / (10 : Int32)))])) _
  rw [show (((2 : Int32) / (10 : Int32)) : Int32) = (0 : Int32) from by decide]
  show own_Go p e below (s₁.setTop (mkF m 6 #[.val (.int (2 : Int32)), .val (.int (1 : Int32)), .unset] [(.int (0 : Int32))])) _
  refine n_istoreN X0 hx hby D4_6 (l' := #[.val (.int (2 : Int32)), .val (.int (1 : Int32)), .val (.int (0 : Int32))]) rfl ?_
  refine n_iloadN X0 hx hby D4_7 rfl ?_
  refine n_ifYes X0 hx hby D4_8 (pc0 := 8) (pc' := 22) rfl ((if0 _ _).trans (flt (by decide : ¬ ((0 : Int32) < (0 : Int32)))).2.2.2) (by decide) (by decide) ?_
  refine n_iloadN X0 hx hby D4_22 rfl ?_
  obtain ⟨fs, hr, hrun, hended, hW, hsame⟩ := X0.leave (v := some (.int (1 : Int32))) (fun h => by rw [Bd.returns] at h; cases h)
  refine ⟨_, _, retI X0 hx Bd.returns (hb hby D4_23) hr, hrun, hended, _, _, rfl, ?_, ⟨_, rfl⟩, hW, hsame.mono (by decide) (by decide)⟩
  show Q_rm_dl2 Z h0 n0 _ s₁.heap _
  rw [e0]
  exact ⟨rfl, N0, rfl⟩
theorem D4_11 : decode prog_9_method_7_code 11 = .ok (.iinc 1 1, 3) := by decide +kernel
theorem D4_14 : decode prog_9_method_7_code 14 = .ok (.iload_n 2, 1) := by decide +kernel
theorem D4_15 : decode prog_9_method_7_code 15 = .ok (.bipush 10, 2) := by decide +kernel
theorem D4_17 : decode prog_9_method_7_code 17 = .ok (.idiv, 1) := by decide +kernel
theorem D4_18 : decode prog_9_method_7_code 18 = .ok (.istore_n 2, 1) := by decide +kernel
theorem D4_19 : decode prog_9_method_7_code 19 = .ok (.goto (-12), 3) := by decide +kernel
def Q_rm_dl10 (Z : State) (h0 : Heap) (n0 : Nat) (v : Option Value) (h : Heap) (L : List Loc) : Prop := v = some (.int (2 : Int32)) ∧ Fr n0 L ∧ h = h0
theorem ef_rm_dl10 (m : MethodId) : entryFrame m #[(.int (10 : Int32))] 3 = mkF m 0 #[.val (.int (10 : Int32)), .unset, .unset] [] := by first | (simp [entryFrame, mkF, argsToLocals, Value.category]; done) | rfl
set_option maxRecDepth 65536 in
set_option maxHeartbeats 40000000 in
theorem rm_dl10 (l : Launch) (Z : State) (a0 : Array Value) (hw : ∀ d ∈ tables_1, d.before a0 Z = true) (ws : List Jvm.Cond) (h0 : Heap) (n0 : Nat) (O0 : Old Z n0 h0) :
    MetFree l (⟨s2_, "decimalLength", "(I)I"⟩ : MethodName) (head1 (Jvm.Cond.code (⟨s2_, "decimalLength", "(I)I"⟩ : MethodName) prog_9_method_7_code 3 (some .int) :: ws) ({ frames := 0, cells := 0, slots := 0, locals := 0 } : Room)) (fun a U => a = #[(.int (10 : Int32))] ∧ Z.Warmed39 U.vm ∧ U.heap = h0) (fun _ _ _ _ _ => True) (fun _ U o U' => ∃ v L, o = .returned v ∧ Q_rm_dl10 Z h0 n0 v U'.heap L ∧ FrameEnd U o U' L ({ frames := 0, cells := 0, slots := 0, locals := 0 } : Room).cells ({ frames := 0, cells := 0, slots := 0, locals := 0 } : Room).slots) := by
  refine MetFree.of_bodySF (plainFor_of_name own_pn_com_example_living_lease_livinglease_redis_Resp) hisR ?_
  intro p e s m args below meth c s₁ Bd hml0 hP hK
  obtain ⟨rfl, hZ, hh⟩ := hP
  have hx := Bd.exec
  have hby := Bd.bytes
  have hml : c.maxLocals = 3 := hml0
  have hown : s.vm.findClass s2_ = some m.cls := findClass_of_methodNamed Bd.named
  have hnm := (name_of_methodNamed Bd.named Bd.method).1
  have X0 : Stand p l e ({ frames := 0, cells := 0, slots := 0, locals := 0 } : Room) s m #[(.int (10 : Int32))] below meth c s₁ [] 0 0 := Stand.of_body Bd
  have e0 : s₁.heap = h0 := by rw [← hh, Bd.state]; rfl
  have N0 := Fr.nil n0
  have Z0 : n0 ≤ h0.size := by rw [← O0.1]; exact O0.2.1
  show own_Go p e below (s₁.setTop (entryFrame m #[(.int (10 : Int32))] 3)) (fun t o => ∃ v L, o = .returned v ∧ Q_rm_dl10 Z h0 n0 v t.heap L ∧ FrameEnd s o t L ({ frames := 0, cells := 0, slots := 0, locals := 0 } : Room).cells ({ frames := 0, cells := 0, slots := 0, locals := 0 } : Room).slots)
  rw [ef_rm_dl10 m]
  refine oIc X0 hx hby D4_0 (z := (1 : Int32)) rfl ?_
  refine n_istoreN X0 hx hby D4_1 (l' := #[.val (.int (10 : Int32)), .val (.int (1 : Int32)), .unset]) rfl ?_
  refine n_iloadN X0 hx hby D4_2 rfl ?_
  refine oBi X0 hx hby D4_3 (z := (10 : Int32)) rfl ?_
  refine ob_ (fun _ k => XS.idiv X0.here hx rfl (hb hby D4_5) rfl (by decide : ¬ ((10 : Int32) = (0 : Int32))) k) ?_
  show own_Go p e below (s₁.setTop (mkF m 6 #[.val (.int (10 : Int32)), .val (.int (1 : Int32)), .unset] [(.int ((10 : Int32) / (10 : Int32)))])) _
  show own_Go p e below (s₁.setTop (mkF m 6 #[.val (.int (10 : Int32)), .val (.int (1 : Int32)), .unset] [(.int ((10 : Int32) / (10 : Int32)))])) _
  show own_Go p e below (s₁.setTop (mkF m 6 #[.val (.int (10 : Int32)), .val (.int (1 : Int32)), .unset] [(.int ((10 : Int32) / (10 : Int32)))])) _
  rw [show (((10 : Int32) / (10 : Int32)) : Int32) = (1 : Int32) from by decide]
  show own_Go p e below (s₁.setTop (mkF m 6 #[.val (.int (10 : Int32)), .val (.int (1 : Int32)), .unset] [(.int (1 : Int32))])) _
  refine n_istoreN X0 hx hby D4_6 (l' := #[.val (.int (10 : Int32)), .val (.int (1 : Int32)), .val (.int (1 : Int32))]) rfl ?_
  refine n_iloadN X0 hx hby D4_7 rfl ?_
  refine n_ifNo X0 hx hby D4_8 ((if0 _ _).trans (tlt (by decide : (0 : Int32) < (1 : Int32))).2.2.2) ?_
  refine n_iinc X0 hx hby D4_11 rfl (l' := #[.val (.int (10 : Int32)), .val (.int (2 : Int32)), .val (.int (1 : Int32))]) rfl ?_
  refine n_iloadN X0 hx hby D4_14 rfl ?_
  refine oBi X0 hx hby D4_15 (z := (10 : Int32)) rfl ?_
  refine ob_ (fun _ k => XS.idiv X0.here hx rfl (hb hby D4_17) rfl (by decide : ¬ ((10 : Int32) = (0 : Int32))) k) ?_
  show own_Go p e below (s₁.setTop (mkF m 18 #[.val (.int (10 : Int32)), .val (.int (2 : Int32)), .val (.int (1 : Int32))] [(.int ((1 : Int32) / (10 : Int32)))])) _
  show own_Go p e below (s₁.setTop (mkF m 18 #[.val (.int (10 : Int32)), .val (.int (2 : Int32)), .val (.int (1 : Int32))] [(.int ((1 : Int32) / (10 : Int32)))])) _
  show own_Go p e below (s₁.setTop (mkF m 18 #[.val (.int (10 : Int32)), .val (.int (2 : Int32)), .val (.int (1 : Int32))] [(.int ((1 : Int32) / (10 : Int32)))])) _
  rw [show (((1 : Int32) / (10 : Int32)) : Int32) = (0 : Int32) from by decide]
  show own_Go p e below (s₁.setTop (mkF m 18 #[.val (.int (10 : Int32)), .val (.int (2 : Int32)), .val (.int (1 : Int32))] [(.int (0 : Int32))])) _
  refine n_istoreN X0 hx hby D4_18 (l' := #[.val (.int (10 : Int32)), .val (.int (2 : Int32)), .val (.int (0 : Int32))]) rfl ?_
  refine n_goto X0 hx hby D4_19 (pc0 := 19) (pc' := 7) rfl (by decide) (by decide) ?_
  refine n_iloadN X0 hx hby D4_7 rfl ?_
  refine n_ifYes X0 hx hby D4_8 (pc0 := 8) (pc' := 22) rfl ((if0 _ _).trans (flt (by decide : ¬ ((0 : Int32) < (0 : Int32)))).2.2.2) (by decide) (by decide) ?_
  refine n_iloadN X0 hx hby D4_22 rfl ?_
  obtain ⟨fs, hr, hrun, hended, hW, hsame⟩ := X0.leave (v := some (.int (2 : Int32))) (fun h => by rw [Bd.returns] at h; cases h)
  refine ⟨_, _, retI X0 hx Bd.returns (hb hby D4_23) hr, hrun, hended, _, _, rfl, ?_, ⟨_, rfl⟩, hW, hsame.mono (by decide) (by decide)⟩
  show Q_rm_dl10 Z h0 n0 _ s₁.heap _
  rw [e0]
  exact ⟨rfl, N0, rfl⟩
def Q_rm_dl (Z : State) (cn : Int32) (h0 : Heap) (n0 : Nat) (v : Option Value) (h : Heap) (L : List Loc) : Prop := v = some (.int (own_dl cn)) ∧ Fr n0 L ∧ h = h0
theorem ef_rm_dl (m : MethodId) (cn : Int32) : entryFrame m #[(.int cn)] 3 = mkF m 0 #[.val (.int cn), .unset, .unset] [] := by first | (simp [entryFrame, mkF, argsToLocals, Value.category]; done) | rfl
set_option maxRecDepth 65536 in
set_option maxHeartbeats 40000000 in
theorem rm_dl (l : Launch) (Z : State) (a0 : Array Value) (hw : ∀ d ∈ tables_1, d.before a0 Z = true) (ws : List Jvm.Cond) (cn : Int32) (h0 : Heap) (n0 : Nat) (O0 : Old Z n0 h0) (hcn : own_cnt cn) :
    MetFree l (⟨s2_, "decimalLength", "(I)I"⟩ : MethodName) (head1 (Jvm.Cond.code (⟨s2_, "decimalLength", "(I)I"⟩ : MethodName) prog_9_method_7_code 3 (some .int) :: ws) ({ frames := 0, cells := 0, slots := 0, locals := 0 } : Room)) (fun a U => a = #[(.int cn)] ∧ Z.Warmed39 U.vm ∧ U.heap = h0) (fun _ _ _ _ _ => True) (fun _ U o U' => ∃ v L, o = .returned v ∧ Q_rm_dl Z cn h0 n0 v U'.heap L ∧ FrameEnd U o U' L ({ frames := 0, cells := 0, slots := 0, locals := 0 } : Room).cells ({ frames := 0, cells := 0, slots := 0, locals := 0 } : Room).slots) := by
  refine MetFree.of_bodySF (plainFor_of_name own_pn_com_example_living_lease_livinglease_redis_Resp) hisR ?_
  intro p e s m args below meth c s₁ Bd hml0 hP hK
  obtain ⟨rfl, hZ, hh⟩ := hP
  have hx := Bd.exec
  have hby := Bd.bytes
  have hml : c.maxLocals = 3 := hml0
  have hown : s.vm.findClass s2_ = some m.cls := findClass_of_methodNamed Bd.named
  have hnm := (name_of_methodNamed Bd.named Bd.method).1
  have X0 : Stand p l e ({ frames := 0, cells := 0, slots := 0, locals := 0 } : Room) s m #[(.int cn)] below meth c s₁ [] 0 0 := Stand.of_body Bd
  have e0 : s₁.heap = h0 := by rw [← hh, Bd.state]; rfl
  have N0 := Fr.nil n0
  have Z0 : n0 ≤ h0.size := by rw [← O0.1]; exact O0.2.1
  show own_Go p e below (s₁.setTop (entryFrame m #[(.int cn)] 3)) (fun t o => ∃ v L, o = .returned v ∧ Q_rm_dl Z cn h0 n0 v t.heap L ∧ FrameEnd s o t L ({ frames := 0, cells := 0, slots := 0, locals := 0 } : Room).cells ({ frames := 0, cells := 0, slots := 0, locals := 0 } : Room).slots)
  rw [ef_rm_dl m cn]
  rcases hcn with rfl | rfl | rfl | rfl
  · skip
    show own_Go p e below (s₁.setTop (mkF m 0 #[.val (.int (0 : Int32)), .unset, .unset] [])) _
    refine oIc X0 hx hby D4_0 (z := (1 : Int32)) rfl ?_
    refine n_istoreN X0 hx hby D4_1 (l' := #[.val (.int (0 : Int32)), .val (.int (1 : Int32)), .unset]) rfl ?_
    refine n_iloadN X0 hx hby D4_2 rfl ?_
    refine oBi X0 hx hby D4_3 (z := (10 : Int32)) rfl ?_
    refine ob_ (fun _ k => XS.idiv X0.here hx rfl (hb hby D4_5) rfl (by decide : ¬ ((10 : Int32) = (0 : Int32))) k) ?_
    show own_Go p e below (s₁.setTop (mkF m 6 #[.val (.int (0 : Int32)), .val (.int (1 : Int32)), .unset] [(.int ((0 : Int32) / (10 : Int32)))])) _
    show own_Go p e below (s₁.setTop (mkF m 6 #[.val (.int (0 : Int32)), .val (.int (1 : Int32)), .unset] [(.int ((0 : Int32) / (10 : Int32)))])) _
    show own_Go p e below (s₁.setTop (mkF m 6 #[.val (.int (0 : Int32)), .val (.int (1 : Int32)), .unset] [(.int ((0 : Int32) / (10 : Int32)))])) _
    rw [show (((0 : Int32) / (10 : Int32)) : Int32) = (0 : Int32) from by decide]
    show own_Go p e below (s₁.setTop (mkF m 6 #[.val (.int (0 : Int32)), .val (.int (1 : Int32)), .unset] [(.int (0 : Int32))])) _
    refine n_istoreN X0 hx hby D4_6 (l' := #[.val (.int (0 : Int32)), .val (.int (1 : Int32)), .val (.int (0 : Int32))]) rfl ?_
    refine n_iloadN X0 hx hby D4_7 rfl ?_
    refine n_ifYes X0 hx hby D4_8 (pc0 := 8) (pc' := 22) rfl ((if0 _ _).trans (flt (by decide : ¬ ((0 : Int32) < (0 : Int32)))).2.2.2) (by decide) (by decide) ?_
    refine n_iloadN X0 hx hby D4_22 rfl ?_
    obtain ⟨fs, hr, hrun, hended, hW, hsame⟩ := X0.leave (v := some (.int (1 : Int32))) (fun h => by rw [Bd.returns] at h; cases h)
    refine ⟨_, _, retI X0 hx Bd.returns (hb hby D4_23) hr, hrun, hended, _, _, rfl, ?_, ⟨_, rfl⟩, hW, hsame.mono (by decide) (by decide)⟩
    show Q_rm_dl Z (0 : Int32) h0 n0 _ s₁.heap _
    rw [e0]
    exact ⟨(by rw [own_dl_0]), N0, rfl⟩
  · skip
    show own_Go p e below (s₁.setTop (mkF m 0 #[.val (.int (1 : Int32)), .unset, .unset] [])) _
    refine oIc X0 hx hby D4_0 (z := (1 : Int32)) rfl ?_
    refine n_istoreN X0 hx hby D4_1 (l' := #[.val (.int (1 : Int32)), .val (.int (1 : Int32)), .unset]) rfl ?_
    refine n_iloadN X0 hx hby D4_2 rfl ?_
    refine oBi X0 hx hby D4_3 (z := (10 : Int32)) rfl ?_
    refine ob_ (fun _ k => XS.idiv X0.here hx rfl (hb hby D4_5) rfl (by decide : ¬ ((10 : Int32) = (0 : Int32))) k) ?_
    show own_Go p e below (s₁.setTop (mkF m 6 #[.val (.int (1 : Int32)), .val (.int (1 : Int32)), .unset] [(.int ((1 : Int32) / (10 : Int32)))])) _
    show own_Go p e below (s₁.setTop (mkF m 6 #[.val (.int (1 : Int32)), .val (.int (1 : Int32)), .unset] [(.int ((1 : Int32) / (10 : Int32)))])) _
    show own_Go p e below (s₁.setTop (mkF m 6 #[.val (.int (1 : Int32)), .val (.int (1 : Int32)), .unset] [(.int ((1 : Int32) / (10 : Int32)))])) _
    rw [show (((1 : Int32) / (10 : Int32)) : Int32) = (0 : Int32) from by decide]
    show own_Go p e below (s₁.setTop (mkF m 6 #[.val (.int (1 : Int32)), .val (.int (1 : Int32)), .unset] [(.int (0 : Int32))])) _
    refine n_istoreN X0 hx hby D4_6 (l' := #[.val (.int (1 : Int32)), .val (.int (1 : Int32)), .val (.int (0 : Int32))]) rfl ?_
    refine n_iloadN X0 hx hby D4_7 rfl ?_
    refine n_ifYes X0 hx hby D4_8 (pc0 := 8) (pc' := 22) rfl ((if0 _ _).trans (flt (by decide : ¬ ((0 : Int32) < (0 : Int32)))).2.2.2) (by decide) (by decide) ?_
    refine n_iloadN X0 hx hby D4_22 rfl ?_
    obtain ⟨fs, hr, hrun, hended, hW, hsame⟩ := X0.leave (v := some (.int (1 : Int32))) (fun h => by rw [Bd.returns] at h; cases h)
    refine ⟨_, _, retI X0 hx Bd.returns (hb hby D4_23) hr, hrun, hended, _, _, rfl, ?_, ⟨_, rfl⟩, hW, hsame.mono (by decide) (by decide)⟩
    show Q_rm_dl Z (1 : Int32) h0 n0 _ s₁.heap _
    rw [e0]
    exact ⟨(by rw [own_dl_1]), N0, rfl⟩
  · skip
    show own_Go p e below (s₁.setTop (mkF m 0 #[.val (.int (2 : Int32)), .unset, .unset] [])) _
    refine oIc X0 hx hby D4_0 (z := (1 : Int32)) rfl ?_
    refine n_istoreN X0 hx hby D4_1 (l' := #[.val (.int (2 : Int32)), .val (.int (1 : Int32)), .unset]) rfl ?_
    refine n_iloadN X0 hx hby D4_2 rfl ?_
    refine oBi X0 hx hby D4_3 (z := (10 : Int32)) rfl ?_
    refine ob_ (fun _ k => XS.idiv X0.here hx rfl (hb hby D4_5) rfl (by decide : ¬ ((10 : Int32) = (0 : Int32))) k) ?_
    show own_Go p e below (s₁.setTop (mkF m 6 #[.val (.int (2 : Int32)), .val (.int (1 : Int32)), .unset] [(.int ((2 : Int32) / (10 : Int32)))])) _
    show own_Go p e below (s₁.setTop (mkF m 6 #[.val (.int (2 : Int32)), .val (.int (1 : Int32)), .unset] [(.int ((2 : Int32) / (10 : Int32)))])) _
    show own_Go p e below (s₁.setTop (mkF m 6 #[.val (.int (2 : Int32)), .val (.int (1 : Int32)), .unset] [(.int ((2 : Int32) / (10 : Int32)))])) _
    rw [show (((2 : Int32) / (10 : Int32)) : Int32) = (0 : Int32) from by decide]
    show own_Go p e below (s₁.setTop (mkF m 6 #[.val (.int (2 : Int32)), .val (.int (1 : Int32)), .unset] [(.int (0 : Int32))])) _
    refine n_istoreN X0 hx hby D4_6 (l' := #[.val (.int (2 : Int32)), .val (.int (1 : Int32)), .val (.int (0 : Int32))]) rfl ?_
    refine n_iloadN X0 hx hby D4_7 rfl ?_
    refine n_ifYes X0 hx hby D4_8 (pc0 := 8) (pc' := 22) rfl ((if0 _ _).trans (flt (by decide : ¬ ((0 : Int32) < (0 : Int32)))).2.2.2) (by decide) (by decide) ?_
    refine n_iloadN X0 hx hby D4_22 rfl ?_
    obtain ⟨fs, hr, hrun, hended, hW, hsame⟩ := X0.leave (v := some (.int (1 : Int32))) (fun h => by rw [Bd.returns] at h; cases h)
    refine ⟨_, _, retI X0 hx Bd.returns (hb hby D4_23) hr, hrun, hended, _, _, rfl, ?_, ⟨_, rfl⟩, hW, hsame.mono (by decide) (by decide)⟩
    show Q_rm_dl Z (2 : Int32) h0 n0 _ s₁.heap _
    rw [e0]
    exact ⟨(by rw [own_dl_2]), N0, rfl⟩
  · skip
    show own_Go p e below (s₁.setTop (mkF m 0 #[.val (.int (10 : Int32)), .unset, .unset] [])) _
    refine oIc X0 hx hby D4_0 (z := (1 : Int32)) rfl ?_
    refine n_istoreN X0 hx hby D4_1 (l' := #[.val (.int (10 : Int32)), .val (.int (1 : Int32)), .unset]) rfl ?_
    refine n_iloadN X0 hx hby D4_2 rfl ?_
    refine oBi X0 hx hby D4_3 (z := (10 : Int32)) rfl ?_
    refine ob_ (fun _ k => XS.idiv X0.here hx rfl (hb hby D4_5) rfl (by decide : ¬ ((10 : Int32) = (0 : Int32))) k) ?_
    show own_Go p e below (s₁.setTop (mkF m 6 #[.val (.int (10 : Int32)), .val (.int (1 : Int32)), .unset] [(.int ((10 : Int32) / (10 : Int32)))])) _
    show own_Go p e below (s₁.setTop (mkF m 6 #[.val (.int (10 : Int32)), .val (.int (1 : Int32)), .unset] [(.int ((10 : Int32) / (10 : Int32)))])) _
    show own_Go p e below (s₁.setTop (mkF m 6 #[.val (.int (10 : Int32)), .val (.int (1 : Int32)), .unset] [(.int ((10 : Int32) / (10 : Int32)))])) _
    rw [show (((10 : Int32) / (10 : Int32)) : Int32) = (1 : Int32) from by decide]
    show own_Go p e below (s₁.setTop (mkF m 6 #[.val (.int (10 : Int32)), .val (.int (1 : Int32)), .unset] [(.int (1 : Int32))])) _
    refine n_istoreN X0 hx hby D4_6 (l' := #[.val (.int (10 : Int32)), .val (.int (1 : Int32)), .val (.int (1 : Int32))]) rfl ?_
    refine n_iloadN X0 hx hby D4_7 rfl ?_
    refine n_ifNo X0 hx hby D4_8 ((if0 _ _).trans (tlt (by decide : (0 : Int32) < (1 : Int32))).2.2.2) ?_
    refine n_iinc X0 hx hby D4_11 rfl (l' := #[.val (.int (10 : Int32)), .val (.int (2 : Int32)), .val (.int (1 : Int32))]) rfl ?_
    refine n_iloadN X0 hx hby D4_14 rfl ?_
    refine oBi X0 hx hby D4_15 (z := (10 : Int32)) rfl ?_
    refine ob_ (fun _ k => XS.idiv X0.here hx rfl (hb hby D4_17) rfl (by decide : ¬ ((10 : Int32) = (0 : Int32))) k) ?_
    show own_Go p e below (s₁.setTop (mkF m 18 #[.val (.int (10 : Int32)), .val (.int (2 : Int32)), .val (.int (1 : Int32))] [(.int ((1 : Int32) / (10 : Int32)))])) _
    show own_Go p e below (s₁.setTop (mkF m 18 #[.val (.int (10 : Int32)), .val (.int (2 : Int32)), .val (.int (1 : Int32))] [(.int ((1 : Int32) / (10 : Int32)))])) _
    show own_Go p e below (s₁.setTop (mkF m 18 #[.val (.int (10 : Int32)), .val (.int (2 : Int32)), .val (.int (1 : Int32))] [(.int ((1 : Int32) / (10 : Int32)))])) _
    rw [show (((1 : Int32) / (10 : Int32)) : Int32) = (0 : Int32) from by decide]
    show own_Go p e below (s₁.setTop (mkF m 18 #[.val (.int (10 : Int32)), .val (.int (2 : Int32)), .val (.int (1 : Int32))] [(.int (0 : Int32))])) _
    refine n_istoreN X0 hx hby D4_18 (l' := #[.val (.int (10 : Int32)), .val (.int (2 : Int32)), .val (.int (0 : Int32))]) rfl ?_
    refine n_goto X0 hx hby D4_19 (pc0 := 19) (pc' := 7) rfl (by decide) (by decide) ?_
    refine n_iloadN X0 hx hby D4_7 rfl ?_
    refine n_ifYes X0 hx hby D4_8 (pc0 := 8) (pc' := 22) rfl ((if0 _ _).trans (flt (by decide : ¬ ((0 : Int32) < (0 : Int32)))).2.2.2) (by decide) (by decide) ?_
    refine n_iloadN X0 hx hby D4_22 rfl ?_
    obtain ⟨fs, hr, hrun, hended, hW, hsame⟩ := X0.leave (v := some (.int (2 : Int32))) (fun h => by rw [Bd.returns] at h; cases h)
    refine ⟨_, _, retI X0 hx Bd.returns (hb hby D4_23) hr, hrun, hended, _, _, rfl, ?_, ⟨_, rfl⟩, hW, hsame.mono (by decide) (by decide)⟩
    show Q_rm_dl Z (10 : Int32) h0 n0 _ s₁.heap _
    rw [e0]
    exact ⟨(by rw [own_dl_10]), N0, rfl⟩
theorem D6_0 : decode prog_9_method_6_code 0 = .ok (.aload_n 0, 1) := by decide +kernel
theorem D6_1 : decode prog_9_method_6_code 1 = .ok (.iload_n 1, 1) := by decide +kernel
theorem D6_2 : decode prog_9_method_6_code 2 = .ok (.bipush 13, 2) := by decide +kernel
theorem D6_4 : decode prog_9_method_6_code 4 = .ok (.bastore, 1) := by decide +kernel
theorem D6_5 : decode prog_9_method_6_code 5 = .ok (.aload_n 0, 1) := by decide +kernel
theorem D6_6 : decode prog_9_method_6_code 6 = .ok (.iload_n 1, 1) := by decide +kernel
theorem D6_7 : decode prog_9_method_6_code 7 = .ok (.iconst 1, 1) := by decide +kernel
theorem D6_8 : decode prog_9_method_6_code 8 = .ok (.iadd, 1) := by decide +kernel
theorem D6_9 : decode prog_9_method_6_code 9 = .ok (.bipush 10, 2) := by decide +kernel
theorem D6_11 : decode prog_9_method_6_code 11 = .ok (.bastore, 1) := by decide +kernel
theorem D6_12 : decode prog_9_method_6_code 12 = .ok (.iload_n 1, 1) := by decide +kernel
theorem D6_13 : decode prog_9_method_6_code 13 = .ok (.iconst 2, 1) := by decide +kernel
theorem D6_14 : decode prog_9_method_6_code 14 = .ok (.iadd, 1) := by decide +kernel
theorem D6_15 : decode prog_9_method_6_code 15 = .ok (.ireturn, 1) := by decide +kernel
def Q_rm_wc (Z : State) (ot : Addr) (kk : ClassId) (nn : Int32) (pr : List Value) (aa : Int32) (h0 : Heap) (n0 : Nat) (v : Option Value) (h : Heap) (L : List Loc) : Prop := ∃ (po : List Value), ∃ (az : Int32), v = some (.int az) ∧ Fr n0 L ∧ Keep h0 h [ot] ∧ Arv Z h ot kk .byte nn po (.int (0 : Int32)) ∧ po = pr ++ [.int 13, .int 10] ∧ az.toInt = (po.length : Int) ∧ (po.length : Int) = (pr.length : Int) + 2
theorem ef_rm_wc (m : MethodId) (ot : Addr) (kk : ClassId) (nn : Int32) (pr : List Value) (aa : Int32) : entryFrame m #[(.ref ot), (.int aa)] 2 = mkF m 0 #[.val (.ref ot), .val (.int aa)] [] := by first | (simp [entryFrame, mkF, argsToLocals, Value.category]; done) | rfl
set_option maxRecDepth 65536 in
set_option maxHeartbeats 40000000 in
theorem rm_wc (l : Launch) (Z : State) (a0 : Array Value) (hw : ∀ d ∈ tables_1, d.before a0 Z = true) (ws : List Jvm.Cond) (ot : Addr) (kk : ClassId) (nn : Int32) (pr : List Value) (aa : Int32) (h0 : Heap) (n0 : Nat) (O0 : Old Z n0 h0) (Fo : Arv Z h0 ot kk .byte nn pr (.int (0 : Int32))) (gt : n0 ≤ ot) (haa : aa.toInt = (pr.length : Int)) (hle : (pr.length : Int) + 2 ≤ nn.toInt) (hns : nn.toInt ≤ 1000) :
    MetFree l (⟨s2_, "writeCrLf", "([BI)I"⟩ : MethodName) (head1 (Jvm.Cond.code (⟨s2_, "writeCrLf", "([BI)I"⟩ : MethodName) prog_9_method_6_code 2 (some .int) :: ws) ({ frames := 0, cells := 0, slots := 0, locals := 0 } : Room)) (fun a U => a = #[(.ref ot), (.int aa)] ∧ Z.Warmed39 U.vm ∧ U.heap = h0) (fun _ _ _ _ _ => True) (fun _ U o U' => ∃ v L, o = .returned v ∧ Q_rm_wc Z ot kk nn pr aa h0 n0 v U'.heap L ∧ FrameEnd U o U' L ({ frames := 0, cells := 0, slots := 0, locals := 0 } : Room).cells ({ frames := 0, cells := 0, slots := 0, locals := 0 } : Room).slots) := by
  refine MetFree.of_bodySF (plainFor_of_name own_pn_com_example_living_lease_livinglease_redis_Resp) hisR ?_
  intro p e s m args below meth c s₁ Bd hml0 hP hK
  obtain ⟨rfl, hZ, hh⟩ := hP
  have hx := Bd.exec
  have hby := Bd.bytes
  have hml : c.maxLocals = 2 := hml0
  have hown : s.vm.findClass s2_ = some m.cls := findClass_of_methodNamed Bd.named
  have hnm := (name_of_methodNamed Bd.named Bd.method).1
  have X0 : Stand p l e ({ frames := 0, cells := 0, slots := 0, locals := 0 } : Room) s m #[(.ref ot), (.int aa)] below meth c s₁ [] 0 0 := Stand.of_body Bd
  have e0 : s₁.heap = h0 := by rw [← hh, Bd.state]; rfl
  have N0 := Fr.nil n0
  have Z0 : n0 ≤ h0.size := by rw [← O0.1]; exact O0.2.1
  show own_Go p e below (s₁.setTop (entryFrame m #[(.ref ot), (.int aa)] 2)) (fun t o => ∃ v L, o = .returned v ∧ Q_rm_wc Z ot kk nn pr aa h0 n0 v t.heap L ∧ FrameEnd s o t L ({ frames := 0, cells := 0, slots := 0, locals := 0 } : Room).cells ({ frames := 0, cells := 0, slots := 0, locals := 0 } : Room).slots)
  rw [ef_rm_wc m ot kk nn pr aa]
  have lt_Fo : h0.size > ot := Fo.lt
  refine n_aloadN X0 hx hby D6_0 rfl rfl ?_
  refine n_iloadN X0 hx hby D6_1 rfl ?_
  refine oBi X0 hx hby D6_2 (z := (13 : Int32)) rfl ?_
  have hb1 : aa.toInt = (pr.length : Int) := by omega
  have hM1 : (pr.length : Int) + ((2 : Nat) : Int) ≤ nn.toInt := by omega
  have ik2 : own_is aa aa 0 := own_is0
  have Vp3 : Arv Z h0 ot kk .byte nn (pr ++ [(.int (0 : Int32))]) (.int (0 : Int32)) := own_wpad0 Fo (n := 1) (us := [(.int (0 : Int32))]) rfl
  obtain ⟨cl4, Ar4, q4, S4, M4, H4, G4⟩ := (id Vp3)
  have hin4 : ¬ (aa < 0 ∨ cl4.slots.size ≤ (aa).toNatClampNeg) := own_inbK S4 ik2 hb1 hM1 (by decide)
  obtain ⟨T4, h4, X4, e4, W4, st4⟩ := stB X0 hx hZ e0 Ar4 (j := aa) hin4 (g := (mkF m 4 #[.val (.ref ot), .val (.int aa)] [(.int (13 : Int32)), (.int aa), (.ref ot)])) rfl rfl (hb hby D6_4)
  refine ob_ st4 ?_
  have z4 := W4.size
  have N4 := Fr.snoc X4 N0 gt
  obtain ⟨lc4, X4, N4⟩ := own_lc X4 N4
  have Vw4 : Arv Z h4 ot kk .byte nn (pr ++ [(.int (13 : Int32))]) (.int (0 : Int32)) := own_wset Vp3 W4 rfl 0 (own_jj ik2 hb1) (Nat.le_of_ble_eq_true rfl)
  refine n_aloadN X4 hx hby D6_5 rfl rfl ?_
  refine n_iloadN X4 hx hby D6_6 rfl ?_
  refine oIc X4 hx hby D6_7 (z := (1 : Int32)) rfl ?_
  refine n_iadd X4 hx hby D6_8 ?_
  refine oBi X4 hx hby D6_9 (z := (10 : Int32)) rfl ?_
  have rg5 : own_rg aa := ⟨by omega, by omega⟩
  have ik6 : own_is (aa + (1 : Int32)) aa 1 := own_isS (k := 1) ik2 rg5 (by decide) (by decide)
  have Vp7 : Arv Z h4 ot kk .byte nn (pr ++ [(.int (13 : Int32)), (.int (0 : Int32))]) (.int (0 : Int32)) := own_wpad Vw4 (n := 1) (ts := [(.int (13 : Int32)), (.int (0 : Int32))]) rfl
  obtain ⟨cl8, Ar8, q8, S8, M8, H8, G8⟩ := (id Vp7)
  have hin8 : ¬ ((aa + (1 : Int32)) < 0 ∨ cl8.slots.size ≤ ((aa + (1 : Int32))).toNatClampNeg) := own_inbK S8 ik6 hb1 hM1 (by decide)
  obtain ⟨T8, h8, X8, e8, W8, st8⟩ := stB X4 hx hZ e4 Ar8 (j := (aa + (1 : Int32))) hin8 (g := (mkF m 11 #[.val (.ref ot), .val (.int aa)] [(.int (10 : Int32)), (.int (aa + (1 : Int32))), (.ref ot)])) rfl rfl (hb hby D6_11)
  refine ob_ st8 ?_
  have z8 := W8.size
  have N8 := Fr.snoc X8 N4 gt
  obtain ⟨lc8, X8, N8⟩ := own_lc X8 N8
  have Vw8 : Arv Z h8 ot kk .byte nn (pr ++ [(.int (13 : Int32)), (.int (10 : Int32))]) (.int (0 : Int32)) := own_wset Vp7 W8 rfl 1 (own_jj ik6 hb1) (Nat.le_of_ble_eq_true rfl)
  refine n_iloadN X8 hx hby D6_12 rfl ?_
  refine oIc X8 hx hby D6_13 (z := (2 : Int32)) rfl ?_
  refine n_iadd X8 hx hby D6_14 ?_
  show own_Go p e below (T8.setTop (mkF m 15 #[.val (.ref ot), .val (.int aa)] [(.int (aa + (2 : Int32)))])) _
  have ik9 : own_is (aa + (2 : Int32)) aa 2 := own_isS (k := 2) ik2 rg5 (by decide) (by decide)
  obtain ⟨pz, e_pz⟩ : ∃ z, z = (pr ++ [(.int (13 : Int32)), (.int (10 : Int32))]) := ⟨_, rfl⟩
  have hl_pz : (pz.length : Int) = (pr.length : Int) + 2 := by rw [e_pz, List.length_append]; rfl
  have Vz : Arv Z h8 ot kk .byte nn pz (.int (0 : Int32)) := by rw [e_pz]; exact Vw8
  have K10 : Keep h0 h8 [ot] := (((Keep.refl h0 [ot]).wr W4 (Or.inl (List.mem_of_getElem? (i := 0) rfl))).wr W8 (Or.inl (List.mem_of_getElem? (i := 0) rfl)))
  obtain ⟨fs, hr, hrun, hended, hW, hsame⟩ := X8.leave (v := some (.int (aa + (2 : Int32)))) (fun h => by rw [Bd.returns] at h; cases h)
  refine ⟨_, _, retI X8 hx Bd.returns (hb hby D6_15) hr, hrun, hended, _, _, rfl, ?_, ⟨_, rfl⟩, hW, hsame.mono (by decide) (by decide)⟩
  show Q_rm_wc Z ot kk nn pr aa h0 n0 _ T8.heap _
  rw [e8]
  exact ⟨pz, (aa + (2 : Int32)), rfl, N8, K10, Vz, e_pz, (by have q := own_jj ik9 hb1; omega), hl_pz⟩
theorem D5_0 : decode prog_9_method_5_code 0 = .ok (.aload_n 0, 1) := by decide +kernel
theorem D5_1 : decode prog_9_method_5_code 1 = .ok (.iload_n 1, 1) := by decide +kernel
theorem D5_2 : decode prog_9_method_5_code 2 = .ok (.iload_n 2, 1) := by decide +kernel
theorem D5_3 : decode prog_9_method_5_code 3 = .ok (.i2b, 1) := by decide +kernel
theorem D5_4 : decode prog_9_method_5_code 4 = .ok (.bastore, 1) := by decide +kernel
theorem D5_5 : decode prog_9_method_5_code 5 = .ok (.iload_n 1, 1) := by decide +kernel
theorem D5_6 : decode prog_9_method_5_code 6 = .ok (.iconst 1, 1) := by decide +kernel
theorem D5_7 : decode prog_9_method_5_code 7 = .ok (.iadd, 1) := by decide +kernel
theorem D5_8 : decode prog_9_method_5_code 8 = .ok (.iload_n 3, 1) := by decide +kernel
theorem D5_9 : decode prog_9_method_5_code 9 = .ok (.invokestatic 7, 3) := by decide +kernel
theorem D5_12 : decode prog_9_method_5_code 12 = .ok (.iadd, 1) := by decide +kernel
theorem D5_13 : decode prog_9_method_5_code 13 = .ok (.istore 4, 2) := by decide +kernel
theorem D5_15 : decode prog_9_method_5_code 15 = .ok (.iload 4, 2) := by decide +kernel
theorem D5_17 : decode prog_9_method_5_code 17 = .ok (.istore 5, 2) := by decide +kernel
theorem D5_19 : decode prog_9_method_5_code 19 = .ok (.iload_n 3, 1) := by decide +kernel
theorem D5_20 : decode prog_9_method_5_code 20 = .ok (.istore 6, 2) := by decide +kernel
theorem D5_22 : decode prog_9_method_5_code 22 = .ok (.iinc 5 (-1), 3) := by decide +kernel
theorem D5_25 : decode prog_9_method_5_code 25 = .ok (.aload_n 0, 1) := by decide +kernel
theorem D5_26 : decode prog_9_method_5_code 26 = .ok (.iload 5, 2) := by decide +kernel
theorem D5_28 : decode prog_9_method_5_code 28 = .ok (.bipush 48, 2) := by decide +kernel
theorem D5_30 : decode prog_9_method_5_code 30 = .ok (.iload 6, 2) := by decide +kernel
theorem D5_32 : decode prog_9_method_5_code 32 = .ok (.bipush 10, 2) := by decide +kernel
theorem D5_34 : decode prog_9_method_5_code 34 = .ok (.irem, 1) := by decide +kernel
theorem D5_35 : decode prog_9_method_5_code 35 = .ok (.iadd, 1) := by decide +kernel
theorem D5_36 : decode prog_9_method_5_code 36 = .ok (.i2b, 1) := by decide +kernel
theorem D5_37 : decode prog_9_method_5_code 37 = .ok (.bastore, 1) := by decide +kernel
theorem D5_38 : decode prog_9_method_5_code 38 = .ok (.iload 6, 2) := by decide +kernel
theorem D5_40 : decode prog_9_method_5_code 40 = .ok (.bipush 10, 2) := by decide +kernel
theorem D5_42 : decode prog_9_method_5_code 42 = .ok (.idiv, 1) := by decide +kernel
theorem D5_43 : decode prog_9_method_5_code 43 = .ok (.istore 6, 2) := by decide +kernel
theorem D5_45 : decode prog_9_method_5_code 45 = .ok (.iload 6, 2) := by decide +kernel
theorem D5_47 : decode prog_9_method_5_code 47 = .ok (.ifCond .gt (-25), 3) := by decide +kernel
theorem D5_50 : decode prog_9_method_5_code 50 = .ok (.aload_n 0, 1) := by decide +kernel
theorem D5_51 : decode prog_9_method_5_code 51 = .ok (.iload 4, 2) := by decide +kernel
theorem D5_53 : decode prog_9_method_5_code 53 = .ok (.invokestatic 23, 3) := by decide +kernel
theorem D5_56 : decode prog_9_method_5_code 56 = .ok (.ireturn, 1) := by decide +kernel
def Q_rm_wh42 (Z : State) (ot : Addr) (kk : ClassId) (nn : Int32) (pr : List Value) (aa : Int32) (cn : Int32) (h0 : Heap) (n0 : Nat) (v : Option Value) (h : Heap) (L : List Loc) : Prop := ∃ (po : List Value), ∃ (az : Int32), v = some (.int az) ∧ Fr n0 L ∧ Keep h0 h [ot] ∧ Arv Z h ot kk .byte nn po (.int (0 : Int32)) ∧ po = pr ++ own_hd (42 : Int32) cn ∧ az.toInt = (po.length : Int) ∧ (po.length : Int) = (pr.length : Int) + own_hn cn
theorem ef_rm_wh42 (m : MethodId) (ot : Addr) (kk : ClassId) (nn : Int32) (pr : List Value) (aa : Int32) (cn : Int32) : entryFrame m #[(.ref ot), (.int aa), (.int (42 : Int32)), (.int cn)] 7 = mkF m 0 #[.val (.ref ot), .val (.int aa), .val (.int (42 : Int32)), .val (.int cn), .unset, .unset, .unset] [] := by first | (simp [entryFrame, mkF, argsToLocals, Value.category]; done) | rfl
set_option maxRecDepth 65536 in
set_option maxHeartbeats 40000000 in
theorem rm_wh42 (l : Launch) (Z : State) (a0 : Array Value) (hw : ∀ d ∈ tables_1, d.before a0 Z = true) (ws : List Jvm.Cond) (ot : Addr) (kk : ClassId) (nn : Int32) (pr : List Value) (aa : Int32) (cn : Int32) (h0 : Heap) (n0 : Nat) (O0 : Old Z n0 h0) (Fo : Arv Z h0 ot kk .byte nn pr (.int (0 : Int32))) (gt : n0 ≤ ot) (hcn : own_cnt cn) (haa : aa.toInt = (pr.length : Int)) (hle : (pr.length : Int) + own_hn cn ≤ nn.toInt) (hns : nn.toInt ≤ 1000) :
    MetFree l (⟨s2_, "writeHeader", "([BICI)I"⟩ : MethodName) (head1 (Jvm.Cond.code (⟨s2_, "writeHeader", "([BICI)I"⟩ : MethodName) prog_9_method_5_code 7 (some .int) :: ws) ({ frames := 1, cells := 0, slots := 0, locals := 15 } : Room)) (fun a U => a = #[(.ref ot), (.int aa), (.int (42 : Int32)), (.int cn)] ∧ Z.Warmed39 U.vm ∧ U.heap = h0) (fun _ _ _ _ _ => True) (fun _ U o U' => ∃ v L, o = .returned v ∧ Q_rm_wh42 Z ot kk nn pr aa cn h0 n0 v U'.heap L ∧ FrameEnd U o U' L ({ frames := 1, cells := 0, slots := 0, locals := 15 } : Room).cells ({ frames := 1, cells := 0, slots := 0, locals := 15 } : Room).slots) := by
  refine MetFree.of_bodySF (plainFor_of_name own_pn_com_example_living_lease_livinglease_redis_Resp) hisR ?_
  intro p e s m args below meth c s₁ Bd hml0 hP hK
  obtain ⟨rfl, hZ, hh⟩ := hP
  have hx := Bd.exec
  have hby := Bd.bytes
  have hml : c.maxLocals = 7 := hml0
  have hown : s.vm.findClass s2_ = some m.cls := findClass_of_methodNamed Bd.named
  have hnm := (name_of_methodNamed Bd.named Bd.method).1
  have X0 : Stand p l e ({ frames := 1, cells := 0, slots := 0, locals := 15 } : Room) s m #[(.ref ot), (.int aa), (.int (42 : Int32)), (.int cn)] below meth c s₁ [] 0 0 := Stand.of_body Bd
  have e0 : s₁.heap = h0 := by rw [← hh, Bd.state]; rfl
  have N0 := Fr.nil n0
  have Z0 : n0 ≤ h0.size := by rw [← O0.1]; exact O0.2.1
  show own_Go p e below (s₁.setTop (entryFrame m #[(.ref ot), (.int aa), (.int (42 : Int32)), (.int cn)] 7)) (fun t o => ∃ v L, o = .returned v ∧ Q_rm_wh42 Z ot kk nn pr aa cn h0 n0 v t.heap L ∧ FrameEnd s o t L ({ frames := 1, cells := 0, slots := 0, locals := 15 } : Room).cells ({ frames := 1, cells := 0, slots := 0, locals := 15 } : Room).slots)
  rw [ef_rm_wh42 m ot kk nn pr aa cn]
  have lt_Fo : h0.size > ot := Fo.lt
  rcases hcn with rfl | rfl | rfl | rfl
  · skip
    show own_Go p e below (s₁.setTop (mkF m 0 #[.val (.ref ot), .val (.int aa), .val (.int (42 : Int32)), .val (.int (0 : Int32)), .unset, .unset, .unset] [])) _
    have hn_0 := own_hn_0
    refine n_aloadN X0 hx hby D5_0 rfl rfl ?_
    refine n_iloadN X0 hx hby D5_1 rfl ?_
    refine n_iloadN X0 hx hby D5_2 rfl ?_
    refine n_i2b X0 hx hby D5_3 ?_
    show own_Go p e below (s₁.setTop (mkF m 4 #[.val (.ref ot), .val (.int aa), .val (.int (42 : Int32)), .val (.int (0 : Int32)), .unset, .unset, .unset] [(.int ((42 : Int32).toInt8.toInt32)), (.int aa), (.ref ot)])) _
    rw [show (((42 : Int32).toInt8.toInt32) : Int32) = (42 : Int32) from by decide]
    show own_Go p e below (s₁.setTop (mkF m 4 #[.val (.ref ot), .val (.int aa), .val (.int (42 : Int32)), .val (.int (0 : Int32)), .unset, .unset, .unset] [(.int (42 : Int32)), (.int aa), (.ref ot)])) _
    have hb1 : aa.toInt = (pr.length : Int) := by omega
    have hM1 : (pr.length : Int) + ((4 : Nat) : Int) ≤ nn.toInt := by omega
    have ik2 : own_is aa aa 0 := own_is0
    have Vp3 : Arv Z h0 ot kk .byte nn (pr ++ [(.int (0 : Int32))]) (.int (0 : Int32)) := own_wpad0 Fo (n := 1) (us := [(.int (0 : Int32))]) rfl
    obtain ⟨cl4, Ar4, q4, S4, M4, H4, G4⟩ := (id Vp3)
    have hin4 : ¬ (aa < 0 ∨ cl4.slots.size ≤ (aa).toNatClampNeg) := own_inbK S4 ik2 hb1 hM1 (by decide)
    obtain ⟨T4, h4, X4, e4, W4, st4⟩ := stB X0 hx hZ e0 Ar4 (j := aa) hin4 (g := (mkF m 4 #[.val (.ref ot), .val (.int aa), .val (.int (42 : Int32)), .val (.int (0 : Int32)), .unset, .unset, .unset] [(.int (42 : Int32)), (.int aa), (.ref ot)])) rfl rfl (hb hby D5_4)
    refine ob_ st4 ?_
    have z4 := W4.size
    have N4 := Fr.snoc X4 N0 gt
    obtain ⟨lc4, X4, N4⟩ := own_lc X4 N4
    have Vw4 : Arv Z h4 ot kk .byte nn (pr ++ [(.int (42 : Int32))]) (.int (0 : Int32)) := own_wset Vp3 W4 rfl 0 (own_jj ik2 hb1) (Nat.le_of_ble_eq_true rfl)
    refine n_iloadN X4 hx hby D5_5 rfl ?_
    refine oIc X4 hx hby D5_6 (z := (1 : Int32)) rfl ?_
    refine n_iadd X4 hx hby D5_7 ?_
    refine n_iloadN X4 hx hby D5_8 rfl ?_
    have O5 : Old Z n0 h4 := (O0.wr W4 gt)
    refine o_ksc 3 0 0 (Jvm.LawKit.callS X4 hx (y := (⟨s2_, "decimalLength", "(I)I"⟩ : MethodName)) hown (mw hZ hw 14 rfl) (mw hZ hw 15 rfl) (mw hZ hw 12 rfl) (mw hZ hw 16 rfl) (by decide) (backOf (W := 1) (rm_dl0 l Z a0 hw [] h4 n0 O5) hZ (own_w hw 16 rfl) (own_w hw 12 rfl) (by decide) (by decide)) (g := (mkF m 9 #[.val (.ref ot), .val (.int aa), .val (.int (42 : Int32)), .val (.int (0 : Int32)), .unset, .unset, .unset] [(.int (0 : Int32)), (.int (aa + (1 : Int32)))])) rfl (by rw [hml]; rfl) (argsL := [(.int (0 : Int32))]) (rest := [(.int (aa + (1 : Int32)))]) (lenOf own_pd__28I_29I rfl) rfl own_z (hb hby D5_9) (fun _ _ => ⟨rfl, e4, (by decide : 0 + 0 ≤ _), (by decide : 0 + 0 ≤ _)⟩)) fun T6 Lc6 _ X6 hQ6 => ?_
    obtain ⟨rfl, M6, K6⟩ := hQ6
    have N6 := Fr.app N4 M6
    obtain ⟨lc6, X6, N6⟩ := own_lc X6 N6
    refine n_iadd X6 hx hby D5_12 ?_
    refine n_istore X6 hx hby D5_13 (l' := #[.val (.ref ot), .val (.int aa), .val (.int (42 : Int32)), .val (.int (0 : Int32)), .val (.int ((aa + (1 : Int32)) + (1 : Int32))), .unset, .unset]) rfl ?_
    refine n_iload X6 hx hby D5_15 rfl ?_
    refine n_istore X6 hx hby D5_17 (l' := #[.val (.ref ot), .val (.int aa), .val (.int (42 : Int32)), .val (.int (0 : Int32)), .val (.int ((aa + (1 : Int32)) + (1 : Int32))), .val (.int ((aa + (1 : Int32)) + (1 : Int32))), .unset]) rfl ?_
    refine n_iloadN X6 hx hby D5_19 rfl ?_
    refine n_istore X6 hx hby D5_20 (l' := #[.val (.ref ot), .val (.int aa), .val (.int (42 : Int32)), .val (.int (0 : Int32)), .val (.int ((aa + (1 : Int32)) + (1 : Int32))), .val (.int ((aa + (1 : Int32)) + (1 : Int32))), .val (.int (0 : Int32))]) rfl ?_
    refine n_iinc X6 hx hby D5_22 rfl (l' := #[.val (.ref ot), .val (.int aa), .val (.int (42 : Int32)), .val (.int (0 : Int32)), .val (.int ((aa + (1 : Int32)) + (1 : Int32))), .val (.int (((aa + (1 : Int32)) + (1 : Int32)) + (-1 : Int32))), .val (.int (0 : Int32))]) rfl ?_
    show own_Go p e below (T6.setTop (mkF m 25 #[.val (.ref ot), .val (.int aa), .val (.int (42 : Int32)), .val (.int (0 : Int32)), .val (.int ((aa + (1 : Int32)) + (1 : Int32))), .val (.int (((aa + (1 : Int32)) + (1 : Int32)) + (-1 : Int32))), .val (.int (0 : Int32))] [])) _
    rw [show ((((aa + (1 : Int32)) + (1 : Int32)) + (-1 : Int32)) : Int32) = (aa + (1 : Int32)) from own_dec1]
    show own_Go p e below (T6.setTop (mkF m 25 #[.val (.ref ot), .val (.int aa), .val (.int (42 : Int32)), .val (.int (0 : Int32)), .val (.int ((aa + (1 : Int32)) + (1 : Int32))), .val (.int (aa + (1 : Int32))), .val (.int (0 : Int32))] [])) _
    refine n_aloadN X6 hx hby D5_25 rfl rfl ?_
    refine n_iload X6 hx hby D5_26 rfl ?_
    refine oBi X6 hx hby D5_28 (z := (48 : Int32)) rfl ?_
    refine n_iload X6 hx hby D5_30 rfl ?_
    refine oBi X6 hx hby D5_32 (z := (10 : Int32)) rfl ?_
    refine ob_ (fun _ k => iremM (g := (mkF m 34 #[.val (.ref ot), .val (.int aa), .val (.int (42 : Int32)), .val (.int (0 : Int32)), .val (.int ((aa + (1 : Int32)) + (1 : Int32))), .val (.int (aa + (1 : Int32))), .val (.int (0 : Int32))] [(.int (10 : Int32)), (.int (0 : Int32)), (.int (48 : Int32)), (.int (aa + (1 : Int32))), (.ref ot)])) X6 hx rfl (hb hby D5_34) rfl (by decide : ¬ ((10 : Int32) = (0 : Int32))) k) ?_
    show own_Go p e below (T6.setTop (mkF m 35 #[.val (.ref ot), .val (.int aa), .val (.int (42 : Int32)), .val (.int (0 : Int32)), .val (.int ((aa + (1 : Int32)) + (1 : Int32))), .val (.int (aa + (1 : Int32))), .val (.int (0 : Int32))] [(.int ((0 : Int32) % (10 : Int32))), (.int (48 : Int32)), (.int (aa + (1 : Int32))), (.ref ot)])) _
    show own_Go p e below (T6.setTop (mkF m 35 #[.val (.ref ot), .val (.int aa), .val (.int (42 : Int32)), .val (.int (0 : Int32)), .val (.int ((aa + (1 : Int32)) + (1 : Int32))), .val (.int (aa + (1 : Int32))), .val (.int (0 : Int32))] [(.int ((0 : Int32) % (10 : Int32))), (.int (48 : Int32)), (.int (aa + (1 : Int32))), (.ref ot)])) _
    show own_Go p e below (T6.setTop (mkF m 35 #[.val (.ref ot), .val (.int aa), .val (.int (42 : Int32)), .val (.int (0 : Int32)), .val (.int ((aa + (1 : Int32)) + (1 : Int32))), .val (.int (aa + (1 : Int32))), .val (.int (0 : Int32))] [(.int ((0 : Int32) % (10 : Int32))), (.int (48 : Int32)), (.int (aa + (1 : Int32))), (.ref ot)])) _
    rw [show (((0 : Int32) % (10 : Int32)) : Int32) = (0 : Int32) from by decide]
    show own_Go p e below (T6.setTop (mkF m 35 #[.val (.ref ot), .val (.int aa), .val (.int (42 : Int32)), .val (.int (0 : Int32)), .val (.int ((aa + (1 : Int32)) + (1 : Int32))), .val (.int (aa + (1 : Int32))), .val (.int (0 : Int32))] [(.int (0 : Int32)), (.int (48 : Int32)), (.int (aa + (1 : Int32))), (.ref ot)])) _
    refine n_iadd X6 hx hby D5_35 ?_
    show own_Go p e below (T6.setTop (mkF m 36 #[.val (.ref ot), .val (.int aa), .val (.int (42 : Int32)), .val (.int (0 : Int32)), .val (.int ((aa + (1 : Int32)) + (1 : Int32))), .val (.int (aa + (1 : Int32))), .val (.int (0 : Int32))] [(.int ((48 : Int32) + (0 : Int32))), (.int (aa + (1 : Int32))), (.ref ot)])) _
    rw [show (((48 : Int32) + (0 : Int32)) : Int32) = (48 : Int32) from by decide]
    show own_Go p e below (T6.setTop (mkF m 36 #[.val (.ref ot), .val (.int aa), .val (.int (42 : Int32)), .val (.int (0 : Int32)), .val (.int ((aa + (1 : Int32)) + (1 : Int32))), .val (.int (aa + (1 : Int32))), .val (.int (0 : Int32))] [(.int (48 : Int32)), (.int (aa + (1 : Int32))), (.ref ot)])) _
    refine n_i2b X6 hx hby D5_36 ?_
    show own_Go p e below (T6.setTop (mkF m 37 #[.val (.ref ot), .val (.int aa), .val (.int (42 : Int32)), .val (.int (0 : Int32)), .val (.int ((aa + (1 : Int32)) + (1 : Int32))), .val (.int (aa + (1 : Int32))), .val (.int (0 : Int32))] [(.int ((48 : Int32).toInt8.toInt32)), (.int (aa + (1 : Int32))), (.ref ot)])) _
    rw [show (((48 : Int32).toInt8.toInt32) : Int32) = (48 : Int32) from by decide]
    show own_Go p e below (T6.setTop (mkF m 37 #[.val (.ref ot), .val (.int aa), .val (.int (42 : Int32)), .val (.int (0 : Int32)), .val (.int ((aa + (1 : Int32)) + (1 : Int32))), .val (.int (aa + (1 : Int32))), .val (.int (0 : Int32))] [(.int (48 : Int32)), (.int (aa + (1 : Int32))), (.ref ot)])) _
    have rg7 : own_rg aa := ⟨by omega, by omega⟩
    have ik8 : own_is (aa + (1 : Int32)) aa 1 := own_isS (k := 1) ik2 rg7 (by decide) (by decide)
    have Vp9 : Arv Z h4 ot kk .byte nn (pr ++ [(.int (42 : Int32)), (.int (0 : Int32))]) (.int (0 : Int32)) := own_wpad Vw4 (n := 1) (ts := [(.int (42 : Int32)), (.int (0 : Int32))]) rfl
    obtain ⟨cl10, Ar10, q10, S10, M10, H10, G10⟩ := (id Vp9)
    have hin10 : ¬ ((aa + (1 : Int32)) < 0 ∨ cl10.slots.size ≤ ((aa + (1 : Int32))).toNatClampNeg) := own_inbK S10 ik8 hb1 hM1 (by decide)
    obtain ⟨T10, h10, X10, e10, W10, st10⟩ := stB X6 hx hZ K6 Ar10 (j := (aa + (1 : Int32))) hin10 (g := (mkF m 37 #[.val (.ref ot), .val (.int aa), .val (.int (42 : Int32)), .val (.int (0 : Int32)), .val (.int ((aa + (1 : Int32)) + (1 : Int32))), .val (.int (aa + (1 : Int32))), .val (.int (0 : Int32))] [(.int (48 : Int32)), (.int (aa + (1 : Int32))), (.ref ot)])) rfl rfl (hb hby D5_37)
    refine ob_ st10 ?_
    have z10 := W10.size
    have N10 := Fr.snoc X10 N6 gt
    obtain ⟨lc10, X10, N10⟩ := own_lc X10 N10
    have Vw10 : Arv Z h10 ot kk .byte nn (pr ++ [(.int (42 : Int32)), (.int (48 : Int32))]) (.int (0 : Int32)) := own_wset Vp9 W10 rfl 1 (own_jj ik8 hb1) (Nat.le_of_ble_eq_true rfl)
    refine n_iload X10 hx hby D5_38 rfl ?_
    refine oBi X10 hx hby D5_40 (z := (10 : Int32)) rfl ?_
    refine ob_ (fun _ k => XS.idiv X10.here hx rfl (hb hby D5_42) rfl (by decide : ¬ ((10 : Int32) = (0 : Int32))) k) ?_
    show own_Go p e below (T10.setTop (mkF m 43 #[.val (.ref ot), .val (.int aa), .val (.int (42 : Int32)), .val (.int (0 : Int32)), .val (.int ((aa + (1 : Int32)) + (1 : Int32))), .val (.int (aa + (1 : Int32))), .val (.int (0 : Int32))] [(.int ((0 : Int32) / (10 : Int32)))])) _
    show own_Go p e below (T10.setTop (mkF m 43 #[.val (.ref ot), .val (.int aa), .val (.int (42 : Int32)), .val (.int (0 : Int32)), .val (.int ((aa + (1 : Int32)) + (1 : Int32))), .val (.int (aa + (1 : Int32))), .val (.int (0 : Int32))] [(.int ((0 : Int32) / (10 : Int32)))])) _
    show own_Go p e below (T10.setTop (mkF m 43 #[.val (.ref ot), .val (.int aa), .val (.int (42 : Int32)), .val (.int (0 : Int32)), .val (.int ((aa + (1 : Int32)) + (1 : Int32))), .val (.int (aa + (1 : Int32))), .val (.int (0 : Int32))] [(.int ((0 : Int32) / (10 : Int32)))])) _
    rw [show (((0 : Int32) / (10 : Int32)) : Int32) = (0 : Int32) from by decide]
    show own_Go p e below (T10.setTop (mkF m 43 #[.val (.ref ot), .val (.int aa), .val (.int (42 : Int32)), .val (.int (0 : Int32)), .val (.int ((aa + (1 : Int32)) + (1 : Int32))), .val (.int (aa + (1 : Int32))), .val (.int (0 : Int32))] [(.int (0 : Int32))])) _
    refine n_istore X10 hx hby D5_43 (l' := #[.val (.ref ot), .val (.int aa), .val (.int (42 : Int32)), .val (.int (0 : Int32)), .val (.int ((aa + (1 : Int32)) + (1 : Int32))), .val (.int (aa + (1 : Int32))), .val (.int (0 : Int32))]) rfl ?_
    refine n_iload X10 hx hby D5_45 rfl ?_
    refine n_ifNo X10 hx hby D5_47 ((if0 _ _).trans (flt (by decide : ¬ ((0 : Int32) < (0 : Int32)))).2.2.1) ?_
    refine n_aloadN X10 hx hby D5_50 rfl rfl ?_
    refine n_iload X10 hx hby D5_51 rfl ?_
    have ik11 : own_is ((aa + (1 : Int32)) + (1 : Int32)) aa 2 := own_isS (k := 1) ik8 rg7 (by decide) (by decide)
    obtain ⟨pm, e_pm⟩ : ∃ z, z = (pr ++ [(.int (42 : Int32)), (.int (48 : Int32))]) := ⟨_, rfl⟩
    have hl_pm : (pm.length : Int) = (pr.length : Int) + 2 := by rw [e_pm, List.length_append]; rfl
    have Vm : Arv Z h10 ot kk .byte nn pm (.int (0 : Int32)) := by rw [e_pm]; exact Vw10
    have O12 : Old Z n0 h10 := (O5.wr W10 gt)
    refine o_ksc 3 0 0 (Jvm.LawKit.callS X10 hx (y := (⟨s2_, "writeCrLf", "([BI)I"⟩ : MethodName)) hown (mw hZ hw 20 rfl) (mw hZ hw 21 rfl) (mw hZ hw 12 rfl) (mw hZ hw 22 rfl) (by decide) (backOf (W := 0) (rm_wc l Z a0 hw [] ot kk nn pm ((aa + (1 : Int32)) + (1 : Int32)) h10 n0 O12 Vm gt (by have q := own_jj ik11 hb1; omega) (by omega) hns) hZ (own_w hw 22 rfl) (own_w hw 12 rfl) (by decide) (by decide)) (g := (mkF m 53 #[.val (.ref ot), .val (.int aa), .val (.int (42 : Int32)), .val (.int (0 : Int32)), .val (.int ((aa + (1 : Int32)) + (1 : Int32))), .val (.int (aa + (1 : Int32))), .val (.int (0 : Int32))] [(.int ((aa + (1 : Int32)) + (1 : Int32))), (.ref ot)])) rfl (by rw [hml]; rfl) (argsL := [(.ref ot), (.int ((aa + (1 : Int32)) + (1 : Int32)))]) (rest := []) (lenOf own_pd__28_5bBI_29I rfl) rfl own_z (hb hby D5_53) (fun _ _ => ⟨rfl, e10, (by decide : 0 + 0 ≤ _), (by decide : 0 + 0 ≤ _)⟩)) fun T13 Lc13 _ X13 hQ13 => ?_
    obtain ⟨po_13, az_13, rfl, M13, K13, g13_0, r13_0, r13_1, r13_2⟩ := hQ13
    have N13 := Fr.app N10 M13
    obtain ⟨lc13, X13, N13⟩ := own_lc X13 N13
    have z13 := K13.1
    have lt_g13_0 : T13.heap.size > ot := g13_0.lt
    have K14 : Keep h0 T13.heap [ot] := ((((Keep.refl h0 [ot]).wr W4 (Or.inl (List.mem_of_getElem? (i := 0) rfl))).wr W10 (Or.inl (List.mem_of_getElem? (i := 0) rfl))).trans K13 (allS (P := fun x => x ∈ [ot] ∨ h0.size ≤ x) (Or.inl (List.mem_of_getElem? (i := 0) rfl)) all0))
    obtain ⟨fs, hr, hrun, hended, hW, hsame⟩ := X13.leave (v := some (.int az_13)) (fun h => by rw [Bd.returns] at h; cases h)
    refine ⟨_, _, retI X13 hx Bd.returns (hb hby D5_56) hr, hrun, hended, _, _, rfl, ?_, ⟨_, rfl⟩, hW, hsame.mono (by decide) (by decide)⟩
    show Q_rm_wh42 Z ot kk nn pr aa (0 : Int32) h0 n0 _ T13.heap _
    exact ⟨po_13, az_13, rfl, N13, K14, g13_0, (by rw [r13_0, e_pm, own_hd_0, List.append_assoc]; rfl), r13_1, (by omega)⟩
  · skip
    show own_Go p e below (s₁.setTop (mkF m 0 #[.val (.ref ot), .val (.int aa), .val (.int (42 : Int32)), .val (.int (1 : Int32)), .unset, .unset, .unset] [])) _
    have hn_1 := own_hn_1
    refine n_aloadN X0 hx hby D5_0 rfl rfl ?_
    refine n_iloadN X0 hx hby D5_1 rfl ?_
    refine n_iloadN X0 hx hby D5_2 rfl ?_
    refine n_i2b X0 hx hby D5_3 ?_
    show own_Go p e below (s₁.setTop (mkF m 4 #[.val (.ref ot), .val (.int aa), .val (.int (42 : Int32)), .val (.int (1 : Int32)), .unset, .unset, .unset] [(.int ((42 : Int32).toInt8.toInt32)), (.int aa), (.ref ot)])) _
    rw [show (((42 : Int32).toInt8.toInt32) : Int32) = (42 : Int32) from by decide]
    show own_Go p e below (s₁.setTop (mkF m 4 #[.val (.ref ot), .val (.int aa), .val (.int (42 : Int32)), .val (.int (1 : Int32)), .unset, .unset, .unset] [(.int (42 : Int32)), (.int aa), (.ref ot)])) _
    have hb15 : aa.toInt = (pr.length : Int) := by omega
    have hM15 : (pr.length : Int) + ((4 : Nat) : Int) ≤ nn.toInt := by omega
    have ik16 : own_is aa aa 0 := own_is0
    have Vp17 : Arv Z h0 ot kk .byte nn (pr ++ [(.int (0 : Int32))]) (.int (0 : Int32)) := own_wpad0 Fo (n := 1) (us := [(.int (0 : Int32))]) rfl
    obtain ⟨cl18, Ar18, q18, S18, M18, H18, G18⟩ := (id Vp17)
    have hin18 : ¬ (aa < 0 ∨ cl18.slots.size ≤ (aa).toNatClampNeg) := own_inbK S18 ik16 hb15 hM15 (by decide)
    obtain ⟨T18, h18, X18, e18, W18, st18⟩ := stB X0 hx hZ e0 Ar18 (j := aa) hin18 (g := (mkF m 4 #[.val (.ref ot), .val (.int aa), .val (.int (42 : Int32)), .val (.int (1 : Int32)), .unset, .unset, .unset] [(.int (42 : Int32)), (.int aa), (.ref ot)])) rfl rfl (hb hby D5_4)
    refine ob_ st18 ?_
    have z18 := W18.size
    have N18 := Fr.snoc X18 N0 gt
    obtain ⟨lc18, X18, N18⟩ := own_lc X18 N18
    have Vw18 : Arv Z h18 ot kk .byte nn (pr ++ [(.int (42 : Int32))]) (.int (0 : Int32)) := own_wset Vp17 W18 rfl 0 (own_jj ik16 hb15) (Nat.le_of_ble_eq_true rfl)
    refine n_iloadN X18 hx hby D5_5 rfl ?_
    refine oIc X18 hx hby D5_6 (z := (1 : Int32)) rfl ?_
    refine n_iadd X18 hx hby D5_7 ?_
    refine n_iloadN X18 hx hby D5_8 rfl ?_
    have O19 : Old Z n0 h18 := (O0.wr W18 gt)
    refine o_ksc 3 0 0 (Jvm.LawKit.callS X18 hx (y := (⟨s2_, "decimalLength", "(I)I"⟩ : MethodName)) hown (mw hZ hw 14 rfl) (mw hZ hw 15 rfl) (mw hZ hw 12 rfl) (mw hZ hw 16 rfl) (by decide) (backOf (W := 1) (rm_dl1 l Z a0 hw [] h18 n0 O19) hZ (own_w hw 16 rfl) (own_w hw 12 rfl) (by decide) (by decide)) (g := (mkF m 9 #[.val (.ref ot), .val (.int aa), .val (.int (42 : Int32)), .val (.int (1 : Int32)), .unset, .unset, .unset] [(.int (1 : Int32)), (.int (aa + (1 : Int32)))])) rfl (by rw [hml]; rfl) (argsL := [(.int (1 : Int32))]) (rest := [(.int (aa + (1 : Int32)))]) (lenOf own_pd__28I_29I rfl) rfl own_z (hb hby D5_9) (fun _ _ => ⟨rfl, e18, (by decide : 0 + 0 ≤ _), (by decide : 0 + 0 ≤ _)⟩)) fun T20 Lc20 _ X20 hQ20 => ?_
    obtain ⟨rfl, M20, K20⟩ := hQ20
    have N20 := Fr.app N18 M20
    obtain ⟨lc20, X20, N20⟩ := own_lc X20 N20
    refine n_iadd X20 hx hby D5_12 ?_
    refine n_istore X20 hx hby D5_13 (l' := #[.val (.ref ot), .val (.int aa), .val (.int (42 : Int32)), .val (.int (1 : Int32)), .val (.int ((aa + (1 : Int32)) + (1 : Int32))), .unset, .unset]) rfl ?_
    refine n_iload X20 hx hby D5_15 rfl ?_
    refine n_istore X20 hx hby D5_17 (l' := #[.val (.ref ot), .val (.int aa), .val (.int (42 : Int32)), .val (.int (1 : Int32)), .val (.int ((aa + (1 : Int32)) + (1 : Int32))), .val (.int ((aa + (1 : Int32)) + (1 : Int32))), .unset]) rfl ?_
    refine n_iloadN X20 hx hby D5_19 rfl ?_
    refine n_istore X20 hx hby D5_20 (l' := #[.val (.ref ot), .val (.int aa), .val (.int (42 : Int32)), .val (.int (1 : Int32)), .val (.int ((aa + (1 : Int32)) + (1 : Int32))), .val (.int ((aa + (1 : Int32)) + (1 : Int32))), .val (.int (1 : Int32))]) rfl ?_
    refine n_iinc X20 hx hby D5_22 rfl (l' := #[.val (.ref ot), .val (.int aa), .val (.int (42 : Int32)), .val (.int (1 : Int32)), .val (.int ((aa + (1 : Int32)) + (1 : Int32))), .val (.int (((aa + (1 : Int32)) + (1 : Int32)) + (-1 : Int32))), .val (.int (1 : Int32))]) rfl ?_
    show own_Go p e below (T20.setTop (mkF m 25 #[.val (.ref ot), .val (.int aa), .val (.int (42 : Int32)), .val (.int (1 : Int32)), .val (.int ((aa + (1 : Int32)) + (1 : Int32))), .val (.int (((aa + (1 : Int32)) + (1 : Int32)) + (-1 : Int32))), .val (.int (1 : Int32))] [])) _
    rw [show ((((aa + (1 : Int32)) + (1 : Int32)) + (-1 : Int32)) : Int32) = (aa + (1 : Int32)) from own_dec1]
    show own_Go p e below (T20.setTop (mkF m 25 #[.val (.ref ot), .val (.int aa), .val (.int (42 : Int32)), .val (.int (1 : Int32)), .val (.int ((aa + (1 : Int32)) + (1 : Int32))), .val (.int (aa + (1 : Int32))), .val (.int (1 : Int32))] [])) _
    refine n_aloadN X20 hx hby D5_25 rfl rfl ?_
    refine n_iload X20 hx hby D5_26 rfl ?_
    refine oBi X20 hx hby D5_28 (z := (48 : Int32)) rfl ?_
    refine n_iload X20 hx hby D5_30 rfl ?_
    refine oBi X20 hx hby D5_32 (z := (10 : Int32)) rfl ?_
    refine ob_ (fun _ k => iremM (g := (mkF m 34 #[.val (.ref ot), .val (.int aa), .val (.int (42 : Int32)), .val (.int (1 : Int32)), .val (.int ((aa + (1 : Int32)) + (1 : Int32))), .val (.int (aa + (1 : Int32))), .val (.int (1 : Int32))] [(.int (10 : Int32)), (.int (1 : Int32)), (.int (48 : Int32)), (.int (aa + (1 : Int32))), (.ref ot)])) X20 hx rfl (hb hby D5_34) rfl (by decide : ¬ ((10 : Int32) = (0 : Int32))) k) ?_
    show own_Go p e below (T20.setTop (mkF m 35 #[.val (.ref ot), .val (.int aa), .val (.int (42 : Int32)), .val (.int (1 : Int32)), .val (.int ((aa + (1 : Int32)) + (1 : Int32))), .val (.int (aa + (1 : Int32))), .val (.int (1 : Int32))] [(.int ((1 : Int32) % (10 : Int32))), (.int (48 : Int32)), (.int (aa + (1 : Int32))), (.ref ot)])) _
    show own_Go p e below (T20.setTop (mkF m 35 #[.val (.ref ot), .val (.int aa), .val (.int (42 : Int32)), .val (.int (1 : Int32)), .val (.int ((aa + (1 : Int32)) + (1 : Int32))), .val (.int (aa + (1 : Int32))), .val (.int (1 : Int32))] [(.int ((1 : Int32) % (10 : Int32))), (.int (48 : Int32)), (.int (aa + (1 : Int32))), (.ref ot)])) _
    show own_Go p e below (T20.setTop (mkF m 35 #[.val (.ref ot), .val (.int aa), .val (.int (42 : Int32)), .val (.int (1 : Int32)), .val (.int ((aa + (1 : Int32)) + (1 : Int32))), .val (.int (aa + (1 : Int32))), .val (.int (1 : Int32))] [(.int ((1 : Int32) % (10 : Int32))), (.int (48 : Int32)), (.int (aa + (1 : Int32))), (.ref ot)])) _
    rw [show (((1 : Int32) % (10 : Int32)) : Int32) = (1 : Int32) from by decide]
    show own_Go p e below (T20.setTop (mkF m 35 #[.val (.ref ot), .val (.int aa), .val (.int (42 : Int32)), .val (.int (1 : Int32)), .val (.int ((aa + (1 : Int32)) + (1 : Int32))), .val (.int (aa + (1 : Int32))), .val (.int (1 : Int32))] [(.int (1 : Int32)), (.int (48 : Int32)), (.int (aa + (1 : Int32))), (.ref ot)])) _
    refine n_iadd X20 hx hby D5_35 ?_
    show own_Go p e below (T20.setTop (mkF m 36 #[.val (.ref ot), .val (.int aa), .val (.int (42 : Int32)), .val (.int (1 : Int32)), .val (.int ((aa + (1 : Int32)) + (1 : Int32))), .val (.int (aa + (1 : Int32))), .val (.int (1 : Int32))] [(.int ((48 : Int32) + (1 : Int32))), (.int (aa + (1 : Int32))), (.ref ot)])) _
    rw [show (((48 : Int32) + (1 : Int32)) : Int32) = (49 : Int32) from by decide]
    show own_Go p e below (T20.setTop (mkF m 36 #[.val (.ref ot), .val (.int aa), .val (.int (42 : Int32)), .val (.int (1 : Int32)), .val (.int ((aa + (1 : Int32)) + (1 : Int32))), .val (.int (aa + (1 : Int32))), .val (.int (1 : Int32))] [(.int (49 : Int32)), (.int (aa + (1 : Int32))), (.ref ot)])) _
    refine n_i2b X20 hx hby D5_36 ?_
    show own_Go p e below (T20.setTop (mkF m 37 #[.val (.ref ot), .val (.int aa), .val (.int (42 : Int32)), .val (.int (1 : Int32)), .val (.int ((aa + (1 : Int32)) + (1 : Int32))), .val (.int (aa + (1 : Int32))), .val (.int (1 : Int32))] [(.int ((49 : Int32).toInt8.toInt32)), (.int (aa + (1 : Int32))), (.ref ot)])) _
    rw [show (((49 : Int32).toInt8.toInt32) : Int32) = (49 : Int32) from by decide]
    show own_Go p e below (T20.setTop (mkF m 37 #[.val (.ref ot), .val (.int aa), .val (.int (42 : Int32)), .val (.int (1 : Int32)), .val (.int ((aa + (1 : Int32)) + (1 : Int32))), .val (.int (aa + (1 : Int32))), .val (.int (1 : Int32))] [(.int (49 : Int32)), (.int (aa + (1 : Int32))), (.ref ot)])) _
    have rg21 : own_rg aa := ⟨by omega, by omega⟩
    have ik22 : own_is (aa + (1 : Int32)) aa 1 := own_isS (k := 1) ik16 rg21 (by decide) (by decide)
    have Vp23 : Arv Z h18 ot kk .byte nn (pr ++ [(.int (42 : Int32)), (.int (0 : Int32))]) (.int (0 : Int32)) := own_wpad Vw18 (n := 1) (ts := [(.int (42 : Int32)), (.int (0 : Int32))]) rfl
    obtain ⟨cl24, Ar24, q24, S24, M24, H24, G24⟩ := (id Vp23)
    have hin24 : ¬ ((aa + (1 : Int32)) < 0 ∨ cl24.slots.size ≤ ((aa + (1 : Int32))).toNatClampNeg) := own_inbK S24 ik22 hb15 hM15 (by decide)
    obtain ⟨T24, h24, X24, e24, W24, st24⟩ := stB X20 hx hZ K20 Ar24 (j := (aa + (1 : Int32))) hin24 (g := (mkF m 37 #[.val (.ref ot), .val (.int aa), .val (.int (42 : Int32)), .val (.int (1 : Int32)), .val (.int ((aa + (1 : Int32)) + (1 : Int32))), .val (.int (aa + (1 : Int32))), .val (.int (1 : Int32))] [(.int (49 : Int32)), (.int (aa + (1 : Int32))), (.ref ot)])) rfl rfl (hb hby D5_37)
    refine ob_ st24 ?_
    have z24 := W24.size
    have N24 := Fr.snoc X24 N20 gt
    obtain ⟨lc24, X24, N24⟩ := own_lc X24 N24
    have Vw24 : Arv Z h24 ot kk .byte nn (pr ++ [(.int (42 : Int32)), (.int (49 : Int32))]) (.int (0 : Int32)) := own_wset Vp23 W24 rfl 1 (own_jj ik22 hb15) (Nat.le_of_ble_eq_true rfl)
    refine n_iload X24 hx hby D5_38 rfl ?_
    refine oBi X24 hx hby D5_40 (z := (10 : Int32)) rfl ?_
    refine ob_ (fun _ k => XS.idiv X24.here hx rfl (hb hby D5_42) rfl (by decide : ¬ ((10 : Int32) = (0 : Int32))) k) ?_
    show own_Go p e below (T24.setTop (mkF m 43 #[.val (.ref ot), .val (.int aa), .val (.int (42 : Int32)), .val (.int (1 : Int32)), .val (.int ((aa + (1 : Int32)) + (1 : Int32))), .val (.int (aa + (1 : Int32))), .val (.int (1 : Int32))] [(.int ((1 : Int32) / (10 : Int32)))])) _
    show own_Go p e below (T24.setTop (mkF m 43 #[.val (.ref ot), .val (.int aa), .val (.int (42 : Int32)), .val (.int (1 : Int32)), .val (.int ((aa + (1 : Int32)) + (1 : Int32))), .val (.int (aa + (1 : Int32))), .val (.int (1 : Int32))] [(.int ((1 : Int32) / (10 : Int32)))])) _
    show own_Go p e below (T24.setTop (mkF m 43 #[.val (.ref ot), .val (.int aa), .val (.int (42 : Int32)), .val (.int (1 : Int32)), .val (.int ((aa + (1 : Int32)) + (1 : Int32))), .val (.int (aa + (1 : Int32))), .val (.int (1 : Int32))] [(.int ((1 : Int32) / (10 : Int32)))])) _
    rw [show (((1 : Int32) / (10 : Int32)) : Int32) = (0 : Int32) from by decide]
    show own_Go p e below (T24.setTop (mkF m 43 #[.val (.ref ot), .val (.int aa), .val (.int (42 : Int32)), .val (.int (1 : Int32)), .val (.int ((aa + (1 : Int32)) + (1 : Int32))), .val (.int (aa + (1 : Int32))), .val (.int (1 : Int32))] [(.int (0 : Int32))])) _
    refine n_istore X24 hx hby D5_43 (l' := #[.val (.ref ot), .val (.int aa), .val (.int (42 : Int32)), .val (.int (1 : Int32)), .val (.int ((aa + (1 : Int32)) + (1 : Int32))), .val (.int (aa + (1 : Int32))), .val (.int (0 : Int32))]) rfl ?_
    refine n_iload X24 hx hby D5_45 rfl ?_
    refine n_ifNo X24 hx hby D5_47 ((if0 _ _).trans (flt (by decide : ¬ ((0 : Int32) < (0 : Int32)))).2.2.1) ?_
    refine n_aloadN X24 hx hby D5_50 rfl rfl ?_
    refine n_iload X24 hx hby D5_51 rfl ?_
    have ik25 : own_is ((aa + (1 : Int32)) + (1 : Int32)) aa 2 := own_isS (k := 1) ik22 rg21 (by decide) (by decide)
    obtain ⟨pm, e_pm⟩ : ∃ z, z = (pr ++ [(.int (42 : Int32)), (.int (49 : Int32))]) := ⟨_, rfl⟩
    have hl_pm : (pm.length : Int) = (pr.length : Int) + 2 := by rw [e_pm, List.length_append]; rfl
    have Vm : Arv Z h24 ot kk .byte nn pm (.int (0 : Int32)) := by rw [e_pm]; exact Vw24
    have O26 : Old Z n0 h24 := (O19.wr W24 gt)
    refine o_ksc 3 0 0 (Jvm.LawKit.callS X24 hx (y := (⟨s2_, "writeCrLf", "([BI)I"⟩ : MethodName)) hown (mw hZ hw 20 rfl) (mw hZ hw 21 rfl) (mw hZ hw 12 rfl) (mw hZ hw 22 rfl) (by decide) (backOf (W := 0) (rm_wc l Z a0 hw [] ot kk nn pm ((aa + (1 : Int32)) + (1 : Int32)) h24 n0 O26 Vm gt (by have q := own_jj ik25 hb15; omega) (by omega) hns) hZ (own_w hw 22 rfl) (own_w hw 12 rfl) (by decide) (by decide)) (g := (mkF m 53 #[.val (.ref ot), .val (.int aa), .val (.int (42 : Int32)), .val (.int (1 : Int32)), .val (.int ((aa + (1 : Int32)) + (1 : Int32))), .val (.int (aa + (1 : Int32))), .val (.int (0 : Int32))] [(.int ((aa + (1 : Int32)) + (1 : Int32))), (.ref ot)])) rfl (by rw [hml]; rfl) (argsL := [(.ref ot), (.int ((aa + (1 : Int32)) + (1 : Int32)))]) (rest := []) (lenOf own_pd__28_5bBI_29I rfl) rfl own_z (hb hby D5_53) (fun _ _ => ⟨rfl, e24, (by decide : 0 + 0 ≤ _), (by decide : 0 + 0 ≤ _)⟩)) fun T27 Lc27 _ X27 hQ27 => ?_
    obtain ⟨po_27, az_27, rfl, M27, K27, g27_0, r27_0, r27_1, r27_2⟩ := hQ27
    have N27 := Fr.app N24 M27
    obtain ⟨lc27, X27, N27⟩ := own_lc X27 N27
    have z27 := K27.1
    have lt_g27_0 : T27.heap.size > ot := g27_0.lt
    have K28 : Keep h0 T27.heap [ot] := ((((Keep.refl h0 [ot]).wr W18 (Or.inl (List.mem_of_getElem? (i := 0) rfl))).wr W24 (Or.inl (List.mem_of_getElem? (i := 0) rfl))).trans K27 (allS (P := fun x => x ∈ [ot] ∨ h0.size ≤ x) (Or.inl (List.mem_of_getElem? (i := 0) rfl)) all0))
    obtain ⟨fs, hr, hrun, hended, hW, hsame⟩ := X27.leave (v := some (.int az_27)) (fun h => by rw [Bd.returns] at h; cases h)
    refine ⟨_, _, retI X27 hx Bd.returns (hb hby D5_56) hr, hrun, hended, _, _, rfl, ?_, ⟨_, rfl⟩, hW, hsame.mono (by decide) (by decide)⟩
    show Q_rm_wh42 Z ot kk nn pr aa (1 : Int32) h0 n0 _ T27.heap _
    exact ⟨po_27, az_27, rfl, N27, K28, g27_0, (by rw [r27_0, e_pm, own_hd_1, List.append_assoc]; rfl), r27_1, (by omega)⟩
  · skip
    show own_Go p e below (s₁.setTop (mkF m 0 #[.val (.ref ot), .val (.int aa), .val (.int (42 : Int32)), .val (.int (2 : Int32)), .unset, .unset, .unset] [])) _
    have hn_2 := own_hn_2
    refine n_aloadN X0 hx hby D5_0 rfl rfl ?_
    refine n_iloadN X0 hx hby D5_1 rfl ?_
    refine n_iloadN X0 hx hby D5_2 rfl ?_
    refine n_i2b X0 hx hby D5_3 ?_
    show own_Go p e below (s₁.setTop (mkF m 4 #[.val (.ref ot), .val (.int aa), .val (.int (42 : Int32)), .val (.int (2 : Int32)), .unset, .unset, .unset] [(.int ((42 : Int32).toInt8.toInt32)), (.int aa), (.ref ot)])) _
    rw [show (((42 : Int32).toInt8.toInt32) : Int32) = (42 : Int32) from by decide]
    show own_Go p e below (s₁.setTop (mkF m 4 #[.val (.ref ot), .val (.int aa), .val (.int (42 : Int32)), .val (.int (2 : Int32)), .unset, .unset, .unset] [(.int (42 : Int32)), (.int aa), (.ref ot)])) _
    have hb29 : aa.toInt = (pr.length : Int) := by omega
    have hM29 : (pr.length : Int) + ((4 : Nat) : Int) ≤ nn.toInt := by omega
    have ik30 : own_is aa aa 0 := own_is0
    have Vp31 : Arv Z h0 ot kk .byte nn (pr ++ [(.int (0 : Int32))]) (.int (0 : Int32)) := own_wpad0 Fo (n := 1) (us := [(.int (0 : Int32))]) rfl
    obtain ⟨cl32, Ar32, q32, S32, M32, H32, G32⟩ := (id Vp31)
    have hin32 : ¬ (aa < 0 ∨ cl32.slots.size ≤ (aa).toNatClampNeg) := own_inbK S32 ik30 hb29 hM29 (by decide)
    obtain ⟨T32, h32, X32, e32, W32, st32⟩ := stB X0 hx hZ e0 Ar32 (j := aa) hin32 (g := (mkF m 4 #[.val (.ref ot), .val (.int aa), .val (.int (42 : Int32)), .val (.int (2 : Int32)), .unset, .unset, .unset] [(.int (42 : Int32)), (.int aa), (.ref ot)])) rfl rfl (hb hby D5_4)
    refine ob_ st32 ?_
    have z32 := W32.size
    have N32 := Fr.snoc X32 N0 gt
    obtain ⟨lc32, X32, N32⟩ := own_lc X32 N32
    have Vw32 : Arv Z h32 ot kk .byte nn (pr ++ [(.int (42 : Int32))]) (.int (0 : Int32)) := own_wset Vp31 W32 rfl 0 (own_jj ik30 hb29) (Nat.le_of_ble_eq_true rfl)
    refine n_iloadN X32 hx hby D5_5 rfl ?_
    refine oIc X32 hx hby D5_6 (z := (1 : Int32)) rfl ?_
    refine n_iadd X32 hx hby D5_7 ?_
    refine n_iloadN X32 hx hby D5_8 rfl ?_
    have O33 : Old Z n0 h32 := (O0.wr W32 gt)
    refine o_ksc 3 0 0 (Jvm.LawKit.callS X32 hx (y := (⟨s2_, "decimalLength", "(I)I"⟩ : MethodName)) hown (mw hZ hw 14 rfl) (mw hZ hw 15 rfl) (mw hZ hw 12 rfl) (mw hZ hw 16 rfl) (by decide) (backOf (W := 1) (rm_dl2 l Z a0 hw [] h32 n0 O33) hZ (own_w hw 16 rfl) (own_w hw 12 rfl) (by decide) (by decide)) (g := (mkF m 9 #[.val (.ref ot), .val (.int aa), .val (.int (42 : Int32)), .val (.int (2 : Int32)), .unset, .unset, .unset] [(.int (2 : Int32)), (.int (aa + (1 : Int32)))])) rfl (by rw [hml]; rfl) (argsL := [(.int (2 : Int32))]) (rest := [(.int (aa + (1 : Int32)))]) (lenOf own_pd__28I_29I rfl) rfl own_z (hb hby D5_9) (fun _ _ => ⟨rfl, e32, (by decide : 0 + 0 ≤ _), (by decide : 0 + 0 ≤ _)⟩)) fun T34 Lc34 _ X34 hQ34 => ?_
    obtain ⟨rfl, M34, K34⟩ := hQ34
    have N34 := Fr.app N32 M34
    obtain ⟨lc34, X34, N34⟩ := own_lc X34 N34
    refine n_iadd X34 hx hby D5_12 ?_
    refine n_istore X34 hx hby D5_13 (l' := #[.val (.ref ot), .val (.int aa), .val (.int (42 : Int32)), .val (.int (2 : Int32)), .val (.int ((aa + (1 : Int32)) + (1 : Int32))), .unset, .unset]) rfl ?_
    refine n_iload X34 hx hby D5_15 rfl ?_
    refine n_istore X34 hx hby D5_17 (l' := #[.val (.ref ot), .val (.int aa), .val (.int (42 : Int32)), .val (.int (2 : Int32)), .val (.int ((aa + (1 : Int32)) + (1 : Int32))), .val (.int ((aa + (1 : Int32)) + (1 : Int32))), .unset]) rfl ?_
    refine n_iloadN X34 hx hby D5_19 rfl ?_
    refine n_istore X34 hx hby D5_20 (l' := #[.val (.ref ot), .val (.int aa), .val (.int (42 : Int32)), .val (.int (2 : Int32)), .val (.int ((aa + (1 : Int32)) + (1 : Int32))), .val (.int ((aa + (1 : Int32)) + (1 : Int32))), .val (.int (2 : Int32))]) rfl ?_
    refine n_iinc X34 hx hby D5_22 rfl (l' := #[.val (.ref ot), .val (.int aa), .val (.int (42 : Int32)), .val (.int (2 : Int32)), .val (.int ((aa + (1 : Int32)) + (1 : Int32))), .val (.int (((aa + (1 : Int32)) + (1 : Int32)) + (-1 : Int32))), .val (.int (2 : Int32))]) rfl ?_
    show own_Go p e below (T34.setTop (mkF m 25 #[.val (.ref ot), .val (.int aa), .val (.int (42 : Int32)), .val (.int (2 : Int32)), .val (.int ((aa + (1 : Int32)) + (1 : Int32))), .val (.int (((aa + (1 : Int32)) + (1 : Int32)) + (-1 : Int32))), .val (.int (2 : Int32))] [])) _
    rw [show ((((aa + (1 : Int32)) + (1 : Int32)) + (-1 : Int32)) : Int32) = (aa + (1 : Int32)) from own_dec1]
    show own_Go p e below (T34.setTop (mkF m 25 #[.val (.ref ot), .val (.int aa), .val (.int (42 : Int32)), .val (.int (2 : Int32)), .val (.int ((aa + (1 : Int32)) + (1 : Int32))), .val (.int (aa + (1 : Int32))), .val (.int (2 : Int32))] [])) _
    refine n_aloadN X34 hx hby D5_25 rfl rfl ?_
    refine n_iload X34 hx hby D5_26 rfl ?_
    refine oBi X34 hx hby D5_28 (z := (48 : Int32)) rfl ?_
    refine n_iload X34 hx hby D5_30 rfl ?_
    refine oBi X34 hx hby D5_32 (z := (10 : Int32)) rfl ?_
    refine ob_ (fun _ k => iremM (g := (mkF m 34 #[.val (.ref ot), .val (.int aa), .val (.int (42 : Int32)), .val (.int (2 : Int32)), .val (.int ((aa + (1 : Int32)) + (1 : Int32))), .val (.int (aa + (1 : Int32))), .val (.int (2 : Int32))] [(.int (10 : Int32)), (.int (2 : Int32)), (.int (48 : Int32)), (.int (aa + (1 : Int32))), (.ref ot)])) X34 hx rfl (hb hby D5_34) rfl (by decide : ¬ ((10 : Int32) = (0 : Int32))) k) ?_
    show own_Go p e below (T34.setTop (mkF m 35 #[.val (.ref ot), .val (.int aa), .val (.int (42 : Int32)), .val (.int (2 : Int32)), .val (.int ((aa + (1 : Int32)) + (1 : Int32))), .val (.int (aa + (1 : Int32))), .val (.int (2 : Int32))] [(.int ((2 : Int32) % (10 : Int32))), (.int (48 : Int32)), (.int (aa + (1 : Int32))), (.ref ot)])) _
    show own_Go p e below (T34.setTop (mkF m 35 #[.val (.ref ot), .val (.int aa), .val (.int (42 : Int32)), .val (.int (2 : Int32)), .val (.int ((aa + (1 : Int32)) + (1 : Int32))), .val (.int (aa + (1 : Int32))), .val (.int (2 : Int32))] [(.int ((2 : Int32) % (10 : Int32))), (.int (48 : Int32)), (.int (aa + (1 : Int32))), (.ref ot)])) _
    show own_Go p e below (T34.setTop (mkF m 35 #[.val (.ref ot), .val (.int aa), .val (.int (42 : Int32)), .val (.int (2 : Int32)), .val (.int ((aa + (1 : Int32)) + (1 : Int32))), .val (.int (aa + (1 : Int32))), .val (.int (2 : Int32))] [(.int ((2 : Int32) % (10 : Int32))), (.int (48 : Int32)), (.int (aa + (1 : Int32))), (.ref ot)])) _
    rw [show (((2 : Int32) % (10 : Int32)) : Int32) = (2 : Int32) from by decide]
    show own_Go p e below (T34.setTop (mkF m 35 #[.val (.ref ot), .val (.int aa), .val (.int (42 : Int32)), .val (.int (2 : Int32)), .val (.int ((aa + (1 : Int32)) + (1 : Int32))), .val (.int (aa + (1 : Int32))), .val (.int (2 : Int32))] [(.int (2 : Int32)), (.int (48 : Int32)), (.int (aa + (1 : Int32))), (.ref ot)])) _
    refine n_iadd X34 hx hby D5_35 ?_
    show own_Go p e below (T34.setTop (mkF m 36 #[.val (.ref ot), .val (.int aa), .val (.int (42 : Int32)), .val (.int (2 : Int32)), .val (.int ((aa + (1 : Int32)) + (1 : Int32))), .val (.int (aa + (1 : Int32))), .val (.int (2 : Int32))] [(.int ((48 : Int32) + (2 : Int32))), (.int (aa + (1 : Int32))), (.ref ot)])) _
    rw [show (((48 : Int32) + (2 : Int32)) : Int32) = (50 : Int32) from by decide]
    show own_Go p e below (T34.setTop (mkF m 36 #[.val (.ref ot), .val (.int aa), .val (.int (42 : Int32)), .val (.int (2 : Int32)), .val (.int ((aa + (1 : Int32)) + (1 : Int32))), .val (.int (aa + (1 : Int32))), .val (.int (2 : Int32))] [(.int (50 : Int32)), (.int (aa + (1 : Int32))), (.ref ot)])) _
    refine n_i2b X34 hx hby D5_36 ?_
    show own_Go p e below (T34.setTop (mkF m 37 #[.val (.ref ot), .val (.int aa), .val (.int (42 : Int32)), .val (.int (2 : Int32)), .val (.int ((aa + (1 : Int32)) + (1 : Int32))), .val (.int (aa + (1 : Int32))), .val (.int (2 : Int32))] [(.int ((50 : Int32).toInt8.toInt32)), (.int (aa + (1 : Int32))), (.ref ot)])) _
    rw [show (((50 : Int32).toInt8.toInt32) : Int32) = (50 : Int32) from by decide]
    show own_Go p e below (T34.setTop (mkF m 37 #[.val (.ref ot), .val (.int aa), .val (.int (42 : Int32)), .val (.int (2 : Int32)), .val (.int ((aa + (1 : Int32)) + (1 : Int32))), .val (.int (aa + (1 : Int32))), .val (.int (2 : Int32))] [(.int (50 : Int32)), (.int (aa + (1 : Int32))), (.ref ot)])) _
    have rg35 : own_rg aa := ⟨by omega, by omega⟩
    have ik36 : own_is (aa + (1 : Int32)) aa 1 := own_isS (k := 1) ik30 rg35 (by decide) (by decide)
    have Vp37 : Arv Z h32 ot kk .byte nn (pr ++ [(.int (42 : Int32)), (.int (0 : Int32))]) (.int (0 : Int32)) := own_wpad Vw32 (n := 1) (ts := [(.int (42 : Int32)), (.int (0 : Int32))]) rfl
    obtain ⟨cl38, Ar38, q38, S38, M38, H38, G38⟩ := (id Vp37)
    have hin38 : ¬ ((aa + (1 : Int32)) < 0 ∨ cl38.slots.size ≤ ((aa + (1 : Int32))).toNatClampNeg) := own_inbK S38 ik36 hb29 hM29 (by decide)
    obtain ⟨T38, h38, X38, e38, W38, st38⟩ := stB X34 hx hZ K34 Ar38 (j := (aa + (1 : Int32))) hin38 (g := (mkF m 37 #[.val (.ref ot), .val (.int aa), .val (.int (42 : Int32)), .val (.int (2 : Int32)), .val (.int ((aa + (1 : Int32)) + (1 : Int32))), .val (.int (aa + (1 : Int32))), .val (.int (2 : Int32))] [(.int (50 : Int32)), (.int (aa + (1 : Int32))), (.ref ot)])) rfl rfl (hb hby D5_37)
    refine ob_ st38 ?_
    have z38 := W38.size
    have N38 := Fr.snoc X38 N34 gt
    obtain ⟨lc38, X38, N38⟩ := own_lc X38 N38
    have Vw38 : Arv Z h38 ot kk .byte nn (pr ++ [(.int (42 : Int32)), (.int (50 : Int32))]) (.int (0 : Int32)) := own_wset Vp37 W38 rfl 1 (own_jj ik36 hb29) (Nat.le_of_ble_eq_true rfl)
    refine n_iload X38 hx hby D5_38 rfl ?_
    refine oBi X38 hx hby D5_40 (z := (10 : Int32)) rfl ?_
    refine ob_ (fun _ k => XS.idiv X38.here hx rfl (hb hby D5_42) rfl (by decide : ¬ ((10 : Int32) = (0 : Int32))) k) ?_
    show own_Go p e below (T38.setTop (mkF m 43 #[.val (.ref ot), .val (.int aa), .val (.int (42 : Int32)), .val (.int (2 : Int32)), .val (.int ((aa + (1 : Int32)) + (1 : Int32))), .val (.int (aa + (1 : Int32))), .val (.int (2 : Int32))] [(.int ((2 : Int32) / (10 : Int32)))])) _
    show own_Go p e below (T38.setTop (mkF m 43 #[.val (.ref ot), .val (.int aa), .val (.int (42 : Int32)), .val (.int (2 : Int32)), .val (.int ((aa + (1 : Int32)) + (1 : Int32))), .val (.int (aa + (1 : Int32))), .val (.int (2 : Int32))] [(.int ((2 : Int32) / (10 : Int32)))])) _
    show own_Go p e below (T38.setTop (mkF m 43 #[.val (.ref ot), .val (.int aa), .val (.int (42 : Int32)), .val (.int (2 : Int32)), .val (.int ((aa + (1 : Int32)) + (1 : Int32))), .val (.int (aa + (1 : Int32))), .val (.int (2 : Int32))] [(.int ((2 : Int32) / (10 : Int32)))])) _
    rw [show (((2 : Int32) / (10 : Int32)) : Int32) = (0 : Int32) from by decide]
    show own_Go p e below (T38.setTop (mkF m 43 #[.val (.ref ot), .val (.int aa), .val (.int (42 : Int32)), .val (.int (2 : Int32)), .val (.int ((aa + (1 : Int32)) + (1 : Int32))), .val (.int (aa + (1 : Int32))), .val (.int (2 : Int32))] [(.int (0 : Int32))])) _
    refine n_istore X38 hx hby D5_43 (l' := #[.val (.ref ot), .val (.int aa), .val (.int (42 : Int32)), .val (.int (2 : Int32)), .val (.int ((aa + (1 : Int32)) + (1 : Int32))), .val (.int (aa + (1 : Int32))), .val (.int (0 : Int32))]) rfl ?_
    refine n_iload X38 hx hby D5_45 rfl ?_
    refine n_ifNo X38 hx hby D5_47 ((if0 _ _).trans (flt (by decide : ¬ ((0 : Int32) < (0 : Int32)))).2.2.1) ?_
    refine n_aloadN X38 hx hby D5_50 rfl rfl ?_
    refine n_iload X38 hx hby D5_51 rfl ?_
    have ik39 : own_is ((aa + (1 : Int32)) + (1 : Int32)) aa 2 := own_isS (k := 1) ik36 rg35 (by decide) (by decide)
    obtain ⟨pm, e_pm⟩ : ∃ z, z = (pr ++ [(.int (42 : Int32)), (.int (50 : Int32))]) := ⟨_, rfl⟩
    have hl_pm : (pm.length : Int) = (pr.length : Int) + 2 := by rw [e_pm, List.length_append]; rfl
    have Vm : Arv Z h38 ot kk .byte nn pm (.int (0 : Int32)) := by rw [e_pm]; exact Vw38
    have O40 : Old Z n0 h38 := (O33.wr W38 gt)
    refine o_ksc 3 0 0 (Jvm.LawKit.callS X38 hx (y := (⟨s2_, "writeCrLf", "([BI)I"⟩ : MethodName)) hown (mw hZ hw 20 rfl) (mw hZ hw 21 rfl) (mw hZ hw 12 rfl) (mw hZ hw 22 rfl) (by decide) (backOf (W := 0) (rm_wc l Z a0 hw [] ot kk nn pm ((aa + (1 : Int32)) + (1 : Int32)) h38 n0 O40 Vm gt (by have q := own_jj ik39 hb29; omega) (by omega) hns) hZ (own_w hw 22 rfl) (own_w hw 12 rfl) (by decide) (by decide)) (g := (mkF m 53 #[.val (.ref ot), .val (.int aa), .val (.int (42 : Int32)), .val (.int (2 : Int32)), .val (.int ((aa + (1 : Int32)) + (1 : Int32))), .val (.int (aa + (1 : Int32))), .val (.int (0 : Int32))] [(.int ((aa + (1 : Int32)) + (1 : Int32))), (.ref ot)])) rfl (by rw [hml]; rfl) (argsL := [(.ref ot), (.int ((aa + (1 : Int32)) + (1 : Int32)))]) (rest := []) (lenOf own_pd__28_5bBI_29I rfl) rfl own_z (hb hby D5_53) (fun _ _ => ⟨rfl, e38, (by decide : 0 + 0 ≤ _), (by decide : 0 + 0 ≤ _)⟩)) fun T41 Lc41 _ X41 hQ41 => ?_
    obtain ⟨po_41, az_41, rfl, M41, K41, g41_0, r41_0, r41_1, r41_2⟩ := hQ41
    have N41 := Fr.app N38 M41
    obtain ⟨lc41, X41, N41⟩ := own_lc X41 N41
    have z41 := K41.1
    have lt_g41_0 : T41.heap.size > ot := g41_0.lt
    have K42 : Keep h0 T41.heap [ot] := ((((Keep.refl h0 [ot]).wr W32 (Or.inl (List.mem_of_getElem? (i := 0) rfl))).wr W38 (Or.inl (List.mem_of_getElem? (i := 0) rfl))).trans K41 (allS (P := fun x => x ∈ [ot] ∨ h0.size ≤ x) (Or.inl (List.mem_of_getElem? (i := 0) rfl)) all0))
    obtain ⟨fs, hr, hrun, hended, hW, hsame⟩ := X41.leave (v := some (.int az_41)) (fun h => by rw [Bd.returns] at h; cases h)
    refine ⟨_, _, retI X41 hx Bd.returns (hb hby D5_56) hr, hrun, hended, _, _, rfl, ?_, ⟨_, rfl⟩, hW, hsame.mono (by decide) (by decide)⟩
    show Q_rm_wh42 Z ot kk nn pr aa (2 : Int32) h0 n0 _ T41.heap _
    exact ⟨po_41, az_41, rfl, N41, K42, g41_0, (by rw [r41_0, e_pm, own_hd_2, List.append_assoc]; rfl), r41_1, (by omega)⟩
  · skip
    show own_Go p e below (s₁.setTop (mkF m 0 #[.val (.ref ot), .val (.int aa), .val (.int (42 : Int32)), .val (.int (10 : Int32)), .unset, .unset, .unset] [])) _
    have hn_10 := own_hn_10
    refine n_aloadN X0 hx hby D5_0 rfl rfl ?_
    refine n_iloadN X0 hx hby D5_1 rfl ?_
    refine n_iloadN X0 hx hby D5_2 rfl ?_
    refine n_i2b X0 hx hby D5_3 ?_
    show own_Go p e below (s₁.setTop (mkF m 4 #[.val (.ref ot), .val (.int aa), .val (.int (42 : Int32)), .val (.int (10 : Int32)), .unset, .unset, .unset] [(.int ((42 : Int32).toInt8.toInt32)), (.int aa), (.ref ot)])) _
    rw [show (((42 : Int32).toInt8.toInt32) : Int32) = (42 : Int32) from by decide]
    show own_Go p e below (s₁.setTop (mkF m 4 #[.val (.ref ot), .val (.int aa), .val (.int (42 : Int32)), .val (.int (10 : Int32)), .unset, .unset, .unset] [(.int (42 : Int32)), (.int aa), (.ref ot)])) _
    have hb43 : aa.toInt = (pr.length : Int) := by omega
    have hM43 : (pr.length : Int) + ((5 : Nat) : Int) ≤ nn.toInt := by omega
    have ik44 : own_is aa aa 0 := own_is0
    have Vp45 : Arv Z h0 ot kk .byte nn (pr ++ [(.int (0 : Int32))]) (.int (0 : Int32)) := own_wpad0 Fo (n := 1) (us := [(.int (0 : Int32))]) rfl
    obtain ⟨cl46, Ar46, q46, S46, M46, H46, G46⟩ := (id Vp45)
    have hin46 : ¬ (aa < 0 ∨ cl46.slots.size ≤ (aa).toNatClampNeg) := own_inbK S46 ik44 hb43 hM43 (by decide)
    obtain ⟨T46, h46, X46, e46, W46, st46⟩ := stB X0 hx hZ e0 Ar46 (j := aa) hin46 (g := (mkF m 4 #[.val (.ref ot), .val (.int aa), .val (.int (42 : Int32)), .val (.int (10 : Int32)), .unset, .unset, .unset] [(.int (42 : Int32)), (.int aa), (.ref ot)])) rfl rfl (hb hby D5_4)
    refine ob_ st46 ?_
    have z46 := W46.size
    have N46 := Fr.snoc X46 N0 gt
    obtain ⟨lc46, X46, N46⟩ := own_lc X46 N46
    have Vw46 : Arv Z h46 ot kk .byte nn (pr ++ [(.int (42 : Int32))]) (.int (0 : Int32)) := own_wset Vp45 W46 rfl 0 (own_jj ik44 hb43) (Nat.le_of_ble_eq_true rfl)
    refine n_iloadN X46 hx hby D5_5 rfl ?_
    refine oIc X46 hx hby D5_6 (z := (1 : Int32)) rfl ?_
    refine n_iadd X46 hx hby D5_7 ?_
    refine n_iloadN X46 hx hby D5_8 rfl ?_
    have O47 : Old Z n0 h46 := (O0.wr W46 gt)
    refine o_ksc 3 0 0 (Jvm.LawKit.callS X46 hx (y := (⟨s2_, "decimalLength", "(I)I"⟩ : MethodName)) hown (mw hZ hw 14 rfl) (mw hZ hw 15 rfl) (mw hZ hw 12 rfl) (mw hZ hw 16 rfl) (by decide) (backOf (W := 1) (rm_dl10 l Z a0 hw [] h46 n0 O47) hZ (own_w hw 16 rfl) (own_w hw 12 rfl) (by decide) (by decide)) (g := (mkF m 9 #[.val (.ref ot), .val (.int aa), .val (.int (42 : Int32)), .val (.int (10 : Int32)), .unset, .unset, .unset] [(.int (10 : Int32)), (.int (aa + (1 : Int32)))])) rfl (by rw [hml]; rfl) (argsL := [(.int (10 : Int32))]) (rest := [(.int (aa + (1 : Int32)))]) (lenOf own_pd__28I_29I rfl) rfl own_z (hb hby D5_9) (fun _ _ => ⟨rfl, e46, (by decide : 0 + 0 ≤ _), (by decide : 0 + 0 ≤ _)⟩)) fun T48 Lc48 _ X48 hQ48 => ?_
    obtain ⟨rfl, M48, K48⟩ := hQ48
    have N48 := Fr.app N46 M48
    obtain ⟨lc48, X48, N48⟩ := own_lc X48 N48
    refine n_iadd X48 hx hby D5_12 ?_
    refine n_istore X48 hx hby D5_13 (l' := #[.val (.ref ot), .val (.int aa), .val (.int (42 : Int32)), .val (.int (10 : Int32)), .val (.int ((aa + (1 : Int32)) + (2 : Int32))), .unset, .unset]) rfl ?_
    refine n_iload X48 hx hby D5_15 rfl ?_
    refine n_istore X48 hx hby D5_17 (l' := #[.val (.ref ot), .val (.int aa), .val (.int (42 : Int32)), .val (.int (10 : Int32)), .val (.int ((aa + (1 : Int32)) + (2 : Int32))), .val (.int ((aa + (1 : Int32)) + (2 : Int32))), .unset]) rfl ?_
    refine n_iloadN X48 hx hby D5_19 rfl ?_
    refine n_istore X48 hx hby D5_20 (l' := #[.val (.ref ot), .val (.int aa), .val (.int (42 : Int32)), .val (.int (10 : Int32)), .val (.int ((aa + (1 : Int32)) + (2 : Int32))), .val (.int ((aa + (1 : Int32)) + (2 : Int32))), .val (.int (10 : Int32))]) rfl ?_
    refine n_iinc X48 hx hby D5_22 rfl (l' := #[.val (.ref ot), .val (.int aa), .val (.int (42 : Int32)), .val (.int (10 : Int32)), .val (.int ((aa + (1 : Int32)) + (2 : Int32))), .val (.int (((aa + (1 : Int32)) + (2 : Int32)) + (-1 : Int32))), .val (.int (10 : Int32))]) rfl ?_
    show own_Go p e below (T48.setTop (mkF m 25 #[.val (.ref ot), .val (.int aa), .val (.int (42 : Int32)), .val (.int (10 : Int32)), .val (.int ((aa + (1 : Int32)) + (2 : Int32))), .val (.int (((aa + (1 : Int32)) + (2 : Int32)) + (-1 : Int32))), .val (.int (10 : Int32))] [])) _
    rw [show ((((aa + (1 : Int32)) + (2 : Int32)) + (-1 : Int32)) : Int32) = ((aa + (1 : Int32)) + (1 : Int32)) from own_dec2]
    show own_Go p e below (T48.setTop (mkF m 25 #[.val (.ref ot), .val (.int aa), .val (.int (42 : Int32)), .val (.int (10 : Int32)), .val (.int ((aa + (1 : Int32)) + (2 : Int32))), .val (.int ((aa + (1 : Int32)) + (1 : Int32))), .val (.int (10 : Int32))] [])) _
    refine n_aloadN X48 hx hby D5_25 rfl rfl ?_
    refine n_iload X48 hx hby D5_26 rfl ?_
    refine oBi X48 hx hby D5_28 (z := (48 : Int32)) rfl ?_
    refine n_iload X48 hx hby D5_30 rfl ?_
    refine oBi X48 hx hby D5_32 (z := (10 : Int32)) rfl ?_
    refine ob_ (fun _ k => iremM (g := (mkF m 34 #[.val (.ref ot), .val (.int aa), .val (.int (42 : Int32)), .val (.int (10 : Int32)), .val (.int ((aa + (1 : Int32)) + (2 : Int32))), .val (.int ((aa + (1 : Int32)) + (1 : Int32))), .val (.int (10 : Int32))] [(.int (10 : Int32)), (.int (10 : Int32)), (.int (48 : Int32)), (.int ((aa + (1 : Int32)) + (1 : Int32))), (.ref ot)])) X48 hx rfl (hb hby D5_34) rfl (by decide : ¬ ((10 : Int32) = (0 : Int32))) k) ?_
    show own_Go p e below (T48.setTop (mkF m 35 #[.val (.ref ot), .val (.int aa), .val (.int (42 : Int32)), .val (.int (10 : Int32)), .val (.int ((aa + (1 : Int32)) + (2 : Int32))), .val (.int ((aa + (1 : Int32)) + (1 : Int32))), .val (.int (10 : Int32))] [(.int ((10 : Int32) % (10 : Int32))), (.int (48 : Int32)), (.int ((aa + (1 : Int32)) + (1 : Int32))), (.ref ot)])) _
    show own_Go p e below (T48.setTop (mkF m 35 #[.val (.ref ot), .val (.int aa), .val (.int (42 : Int32)), .val (.int (10 : Int32)), .val (.int ((aa + (1 : Int32)) + (2 : Int32))), .val (.int ((aa + (1 : Int32)) + (1 : Int32))), .val (.int (10 : Int32))] [(.int ((10 : Int32) % (10 : Int32))), (.int (48 : Int32)), (.int ((aa + (1 : Int32)) + (1 : Int32))), (.ref ot)])) _
    show own_Go p e below (T48.setTop (mkF m 35 #[.val (.ref ot), .val (.int aa), .val (.int (42 : Int32)), .val (.int (10 : Int32)), .val (.int ((aa + (1 : Int32)) + (2 : Int32))), .val (.int ((aa + (1 : Int32)) + (1 : Int32))), .val (.int (10 : Int32))] [(.int ((10 : Int32) % (10 : Int32))), (.int (48 : Int32)), (.int ((aa + (1 : Int32)) + (1 : Int32))), (.ref ot)])) _
    rw [show (((10 : Int32) % (10 : Int32)) : Int32) = (0 : Int32) from by decide]
    show own_Go p e below (T48.setTop (mkF m 35 #[.val (.ref ot), .val (.int aa), .val (.int (42 : Int32)), .val (.int (10 : Int32)), .val (.int ((aa + (1 : Int32)) + (2 : Int32))), .val (.int ((aa + (1 : Int32)) + (1 : Int32))), .val (.int (10 : Int32))] [(.int (0 : Int32)), (.int (48 : Int32)), (.int ((aa + (1 : Int32)) + (1 : Int32))), (.ref ot)])) _
    refine n_iadd X48 hx hby D5_35 ?_
    show own_Go p e below (T48.setTop (mkF m 36 #[.val (.ref ot), .val (.int aa), .val (.int (42 : Int32)), .val (.int (10 : Int32)), .val (.int ((aa + (1 : Int32)) + (2 : Int32))), .val (.int ((aa + (1 : Int32)) + (1 : Int32))), .val (.int (10 : Int32))] [(.int ((48 : Int32) + (0 : Int32))), (.int ((aa + (1 : Int32)) + (1 : Int32))), (.ref ot)])) _
    rw [show (((48 : Int32) + (0 : Int32)) : Int32) = (48 : Int32) from by decide]
    show own_Go p e below (T48.setTop (mkF m 36 #[.val (.ref ot), .val (.int aa), .val (.int (42 : Int32)), .val (.int (10 : Int32)), .val (.int ((aa + (1 : Int32)) + (2 : Int32))), .val (.int ((aa + (1 : Int32)) + (1 : Int32))), .val (.int (10 : Int32))] [(.int (48 : Int32)), (.int ((aa + (1 : Int32)) + (1 : Int32))), (.ref ot)])) _
    refine n_i2b X48 hx hby D5_36 ?_
    show own_Go p e below (T48.setTop (mkF m 37 #[.val (.ref ot), .val (.int aa), .val (.int (42 : Int32)), .val (.int (10 : Int32)), .val (.int ((aa + (1 : Int32)) + (2 : Int32))), .val (.int ((aa + (1 : Int32)) + (1 : Int32))), .val (.int (10 : Int32))] [(.int ((48 : Int32).toInt8.toInt32)), (.int ((aa + (1 : Int32)) + (1 : Int32))), (.ref ot)])) _
    rw [show (((48 : Int32).toInt8.toInt32) : Int32) = (48 : Int32) from by decide]
    show own_Go p e below (T48.setTop (mkF m 37 #[.val (.ref ot), .val (.int aa), .val (.int (42 : Int32)), .val (.int (10 : Int32)), .val (.int ((aa + (1 : Int32)) + (2 : Int32))), .val (.int ((aa + (1 : Int32)) + (1 : Int32))), .val (.int (10 : Int32))] [(.int (48 : Int32)), (.int ((aa + (1 : Int32)) + (1 : Int32))), (.ref ot)])) _
    have rg49 : own_rg aa := ⟨by omega, by omega⟩
    have ik50 : own_is (aa + (1 : Int32)) aa 1 := own_isS (k := 1) ik44 rg49 (by decide) (by decide)
    have ik51 : own_is ((aa + (1 : Int32)) + (1 : Int32)) aa 2 := own_isS (k := 1) ik50 rg49 (by decide) (by decide)
    have Vp52 : Arv Z h46 ot kk .byte nn (pr ++ [(.int (42 : Int32)), (.int (0 : Int32)), (.int (0 : Int32))]) (.int (0 : Int32)) := own_wpad Vw46 (n := 2) (ts := [(.int (42 : Int32)), (.int (0 : Int32)), (.int (0 : Int32))]) rfl
    obtain ⟨cl53, Ar53, q53, S53, M53, H53, G53⟩ := (id Vp52)
    have hin53 : ¬ (((aa + (1 : Int32)) + (1 : Int32)) < 0 ∨ cl53.slots.size ≤ (((aa + (1 : Int32)) + (1 : Int32))).toNatClampNeg) := own_inbK S53 ik51 hb43 hM43 (by decide)
    obtain ⟨T53, h53, X53, e53, W53, st53⟩ := stB X48 hx hZ K48 Ar53 (j := ((aa + (1 : Int32)) + (1 : Int32))) hin53 (g := (mkF m 37 #[.val (.ref ot), .val (.int aa), .val (.int (42 : Int32)), .val (.int (10 : Int32)), .val (.int ((aa + (1 : Int32)) + (2 : Int32))), .val (.int ((aa + (1 : Int32)) + (1 : Int32))), .val (.int (10 : Int32))] [(.int (48 : Int32)), (.int ((aa + (1 : Int32)) + (1 : Int32))), (.ref ot)])) rfl rfl (hb hby D5_37)
    refine ob_ st53 ?_
    have z53 := W53.size
    have N53 := Fr.snoc X53 N48 gt
    obtain ⟨lc53, X53, N53⟩ := own_lc X53 N53
    have Vw53 : Arv Z h53 ot kk .byte nn (pr ++ [(.int (42 : Int32)), (.int (0 : Int32)), (.int (48 : Int32))]) (.int (0 : Int32)) := own_wset Vp52 W53 rfl 2 (own_jj ik51 hb43) (Nat.le_of_ble_eq_true rfl)
    refine n_iload X53 hx hby D5_38 rfl ?_
    refine oBi X53 hx hby D5_40 (z := (10 : Int32)) rfl ?_
    refine ob_ (fun _ k => XS.idiv X53.here hx rfl (hb hby D5_42) rfl (by decide : ¬ ((10 : Int32) = (0 : Int32))) k) ?_
    show own_Go p e below (T53.setTop (mkF m 43 #[.val (.ref ot), .val (.int aa), .val (.int (42 : Int32)), .val (.int (10 : Int32)), .val (.int ((aa + (1 : Int32)) + (2 : Int32))), .val (.int ((aa + (1 : Int32)) + (1 : Int32))), .val (.int (10 : Int32))] [(.int ((10 : Int32) / (10 : Int32)))])) _
    show own_Go p e below (T53.setTop (mkF m 43 #[.val (.ref ot), .val (.int aa), .val (.int (42 : Int32)), .val (.int (10 : Int32)), .val (.int ((aa + (1 : Int32)) + (2 : Int32))), .val (.int ((aa + (1 : Int32)) + (1 : Int32))), .val (.int (10 : Int32))] [(.int ((10 : Int32) / (10 : Int32)))])) _
    show own_Go p e below (T53.setTop (mkF m 43 #[.val (.ref ot), .val (.int aa), .val (.int (42 : Int32)), .val (.int (10 : Int32)), .val (.int ((aa + (1 : Int32)) + (2 : Int32))), .val (.int ((aa + (1 : Int32)) + (1 : Int32))), .val (.int (10 : Int32))] [(.int ((10 : Int32) / (10 : Int32)))])) _
    rw [show (((10 : Int32) / (10 : Int32)) : Int32) = (1 : Int32) from by decide]
    show own_Go p e below (T53.setTop (mkF m 43 #[.val (.ref ot), .val (.int aa), .val (.int (42 : Int32)), .val (.int (10 : Int32)), .val (.int ((aa + (1 : Int32)) + (2 : Int32))), .val (.int ((aa + (1 : Int32)) + (1 : Int32))), .val (.int (10 : Int32))] [(.int (1 : Int32))])) _
    refine n_istore X53 hx hby D5_43 (l' := #[.val (.ref ot), .val (.int aa), .val (.int (42 : Int32)), .val (.int (10 : Int32)), .val (.int ((aa + (1 : Int32)) + (2 : Int32))), .val (.int ((aa + (1 : Int32)) + (1 : Int32))), .val (.int (1 : Int32))]) rfl ?_
    refine n_iload X53 hx hby D5_45 rfl ?_
    refine n_ifYes X53 hx hby D5_47 (pc0 := 47) (pc' := 22) rfl ((if0 _ _).trans (tlt (by decide : (0 : Int32) < (1 : Int32))).2.2.1) (by decide) (by decide) ?_
    refine n_iinc X53 hx hby D5_22 rfl (l' := #[.val (.ref ot), .val (.int aa), .val (.int (42 : Int32)), .val (.int (10 : Int32)), .val (.int ((aa + (1 : Int32)) + (2 : Int32))), .val (.int (((aa + (1 : Int32)) + (1 : Int32)) + (-1 : Int32))), .val (.int (1 : Int32))]) rfl ?_
    show own_Go p e below (T53.setTop (mkF m 25 #[.val (.ref ot), .val (.int aa), .val (.int (42 : Int32)), .val (.int (10 : Int32)), .val (.int ((aa + (1 : Int32)) + (2 : Int32))), .val (.int (((aa + (1 : Int32)) + (1 : Int32)) + (-1 : Int32))), .val (.int (1 : Int32))] [])) _
    rw [show ((((aa + (1 : Int32)) + (1 : Int32)) + (-1 : Int32)) : Int32) = (aa + (1 : Int32)) from own_dec1]
    show own_Go p e below (T53.setTop (mkF m 25 #[.val (.ref ot), .val (.int aa), .val (.int (42 : Int32)), .val (.int (10 : Int32)), .val (.int ((aa + (1 : Int32)) + (2 : Int32))), .val (.int (aa + (1 : Int32))), .val (.int (1 : Int32))] [])) _
    refine n_aloadN X53 hx hby D5_25 rfl rfl ?_
    refine n_iload X53 hx hby D5_26 rfl ?_
    refine oBi X53 hx hby D5_28 (z := (48 : Int32)) rfl ?_
    refine n_iload X53 hx hby D5_30 rfl ?_
    refine oBi X53 hx hby D5_32 (z := (10 : Int32)) rfl ?_
    refine ob_ (fun _ k => iremM (g := (mkF m 34 #[.val (.ref ot), .val (.int aa), .val (.int (42 : Int32)), .val (.int (10 : Int32)), .val (.int ((aa + (1 : Int32)) + (2 : Int32))), .val (.int (aa + (1 : Int32))), .val (.int (1 : Int32))] [(.int (10 : Int32)), (.int (1 : Int32)), (.int (48 : Int32)), (.int (aa + (1 : Int32))), (.ref ot)])) X53 hx rfl (hb hby D5_34) rfl (by decide : ¬ ((10 : Int32) = (0 : Int32))) k) ?_
    show own_Go p e below (T53.setTop (mkF m 35 #[.val (.ref ot), .val (.int aa), .val (.int (42 : Int32)), .val (.int (10 : Int32)), .val (.int ((aa + (1 : Int32)) + (2 : Int32))), .val (.int (aa + (1 : Int32))), .val (.int (1 : Int32))] [(.int ((1 : Int32) % (10 : Int32))), (.int (48 : Int32)), (.int (aa + (1 : Int32))), (.ref ot)])) _
    show own_Go p e below (T53.setTop (mkF m 35 #[.val (.ref ot), .val (.int aa), .val (.int (42 : Int32)), .val (.int (10 : Int32)), .val (.int ((aa + (1 : Int32)) + (2 : Int32))), .val (.int (aa + (1 : Int32))), .val (.int (1 : Int32))] [(.int ((1 : Int32) % (10 : Int32))), (.int (48 : Int32)), (.int (aa + (1 : Int32))), (.ref ot)])) _
    show own_Go p e below (T53.setTop (mkF m 35 #[.val (.ref ot), .val (.int aa), .val (.int (42 : Int32)), .val (.int (10 : Int32)), .val (.int ((aa + (1 : Int32)) + (2 : Int32))), .val (.int (aa + (1 : Int32))), .val (.int (1 : Int32))] [(.int ((1 : Int32) % (10 : Int32))), (.int (48 : Int32)), (.int (aa + (1 : Int32))), (.ref ot)])) _
    rw [show (((1 : Int32) % (10 : Int32)) : Int32) = (1 : Int32) from by decide]
    show own_Go p e below (T53.setTop (mkF m 35 #[.val (.ref ot), .val (.int aa), .val (.int (42 : Int32)), .val (.int (10 : Int32)), .val (.int ((aa + (1 : Int32)) + (2 : Int32))), .val (.int (aa + (1 : Int32))), .val (.int (1 : Int32))] [(.int (1 : Int32)), (.int (48 : Int32)), (.int (aa + (1 : Int32))), (.ref ot)])) _
    refine n_iadd X53 hx hby D5_35 ?_
    show own_Go p e below (T53.setTop (mkF m 36 #[.val (.ref ot), .val (.int aa), .val (.int (42 : Int32)), .val (.int (10 : Int32)), .val (.int ((aa + (1 : Int32)) + (2 : Int32))), .val (.int (aa + (1 : Int32))), .val (.int (1 : Int32))] [(.int ((48 : Int32) + (1 : Int32))), (.int (aa + (1 : Int32))), (.ref ot)])) _
    rw [show (((48 : Int32) + (1 : Int32)) : Int32) = (49 : Int32) from by decide]
    show own_Go p e below (T53.setTop (mkF m 36 #[.val (.ref ot), .val (.int aa), .val (.int (42 : Int32)), .val (.int (10 : Int32)), .val (.int ((aa + (1 : Int32)) + (2 : Int32))), .val (.int (aa + (1 : Int32))), .val (.int (1 : Int32))] [(.int (49 : Int32)), (.int (aa + (1 : Int32))), (.ref ot)])) _
    refine n_i2b X53 hx hby D5_36 ?_
    show own_Go p e below (T53.setTop (mkF m 37 #[.val (.ref ot), .val (.int aa), .val (.int (42 : Int32)), .val (.int (10 : Int32)), .val (.int ((aa + (1 : Int32)) + (2 : Int32))), .val (.int (aa + (1 : Int32))), .val (.int (1 : Int32))] [(.int ((49 : Int32).toInt8.toInt32)), (.int (aa + (1 : Int32))), (.ref ot)])) _
    rw [show (((49 : Int32).toInt8.toInt32) : Int32) = (49 : Int32) from by decide]
    show own_Go p e below (T53.setTop (mkF m 37 #[.val (.ref ot), .val (.int aa), .val (.int (42 : Int32)), .val (.int (10 : Int32)), .val (.int ((aa + (1 : Int32)) + (2 : Int32))), .val (.int (aa + (1 : Int32))), .val (.int (1 : Int32))] [(.int (49 : Int32)), (.int (aa + (1 : Int32))), (.ref ot)])) _
    obtain ⟨cl54, Ar54, q54, S54, M54, H54, G54⟩ := (id Vw53)
    have hin54 : ¬ ((aa + (1 : Int32)) < 0 ∨ cl54.slots.size ≤ ((aa + (1 : Int32))).toNatClampNeg) := own_inbK S54 ik50 hb43 hM43 (by decide)
    obtain ⟨T54, h54, X54, e54, W54, st54⟩ := stB X53 hx hZ e53 Ar54 (j := (aa + (1 : Int32))) hin54 (g := (mkF m 37 #[.val (.ref ot), .val (.int aa), .val (.int (42 : Int32)), .val (.int (10 : Int32)), .val (.int ((aa + (1 : Int32)) + (2 : Int32))), .val (.int (aa + (1 : Int32))), .val (.int (1 : Int32))] [(.int (49 : Int32)), (.int (aa + (1 : Int32))), (.ref ot)])) rfl rfl (hb hby D5_37)
    refine ob_ st54 ?_
    have z54 := W54.size
    have N54 := Fr.snoc X54 N53 gt
    obtain ⟨lc54, X54, N54⟩ := own_lc X54 N54
    have Vw54 : Arv Z h54 ot kk .byte nn (pr ++ [(.int (42 : Int32)), (.int (49 : Int32)), (.int (48 : Int32))]) (.int (0 : Int32)) := own_wset Vw53 W54 rfl 1 (own_jj ik50 hb43) (Nat.le_of_ble_eq_true rfl)
    refine n_iload X54 hx hby D5_38 rfl ?_
    refine oBi X54 hx hby D5_40 (z := (10 : Int32)) rfl ?_
    refine ob_ (fun _ k => XS.idiv X54.here hx rfl (hb hby D5_42) rfl (by decide : ¬ ((10 : Int32) = (0 : Int32))) k) ?_
    show own_Go p e below (T54.setTop (mkF m 43 #[.val (.ref ot), .val (.int aa), .val (.int (42 : Int32)), .val (.int (10 : Int32)), .val (.int ((aa + (1 : Int32)) + (2 : Int32))), .val (.int (aa + (1 : Int32))), .val (.int (1 : Int32))] [(.int ((1 : Int32) / (10 : Int32)))])) _
    show own_Go p e below (T54.setTop (mkF m 43 #[.val (.ref ot), .val (.int aa), .val (.int (42 : Int32)), .val (.int (10 : Int32)), .val (.int ((aa + (1 : Int32)) + (2 : Int32))), .val (.int (aa + (1 : Int32))), .val (.int (1 : Int32))] [(.int ((1 : Int32) / (10 : Int32)))])) _
    show own_Go p e below (T54.setTop (mkF m 43 #[.val (.ref ot), .val (.int aa), .val (.int (42 : Int32)), .val (.int (10 : Int32)), .val (.int ((aa + (1 : Int32)) + (2 : Int32))), .val (.int (aa + (1 : Int32))), .val (.int (1 : Int32))] [(.int ((1 : Int32) / (10 : Int32)))])) _
    rw [show (((1 : Int32) / (10 : Int32)) : Int32) = (0 : Int32) from by decide]
    show own_Go p e below (T54.setTop (mkF m 43 #[.val (.ref ot), .val (.int aa), .val (.int (42 : Int32)), .val (.int (10 : Int32)), .val (.int ((aa + (1 : Int32)) + (2 : Int32))), .val (.int (aa + (1 : Int32))), .val (.int (1 : Int32))] [(.int (0 : Int32))])) _
    refine n_istore X54 hx hby D5_43 (l' := #[.val (.ref ot), .val (.int aa), .val (.int (42 : Int32)), .val (.int (10 : Int32)), .val (.int ((aa + (1 : Int32)) + (2 : Int32))), .val (.int (aa + (1 : Int32))), .val (.int (0 : Int32))]) rfl ?_
    refine n_iload X54 hx hby D5_45 rfl ?_
    refine n_ifNo X54 hx hby D5_47 ((if0 _ _).trans (flt (by decide : ¬ ((0 : Int32) < (0 : Int32)))).2.2.1) ?_
    refine n_aloadN X54 hx hby D5_50 rfl rfl ?_
    refine n_iload X54 hx hby D5_51 rfl ?_
    have ik55 : own_is ((aa + (1 : Int32)) + (2 : Int32)) aa 3 := own_isS (k := 2) ik50 rg49 (by decide) (by decide)
    obtain ⟨pm, e_pm⟩ : ∃ z, z = (pr ++ [(.int (42 : Int32)), (.int (49 : Int32)), (.int (48 : Int32))]) := ⟨_, rfl⟩
    have hl_pm : (pm.length : Int) = (pr.length : Int) + 3 := by rw [e_pm, List.length_append]; rfl
    have Vm : Arv Z h54 ot kk .byte nn pm (.int (0 : Int32)) := by rw [e_pm]; exact Vw54
    have O56 : Old Z n0 h54 := ((O47.wr W53 gt).wr W54 gt)
    refine o_ksc 3 0 0 (Jvm.LawKit.callS X54 hx (y := (⟨s2_, "writeCrLf", "([BI)I"⟩ : MethodName)) hown (mw hZ hw 20 rfl) (mw hZ hw 21 rfl) (mw hZ hw 12 rfl) (mw hZ hw 22 rfl) (by decide) (backOf (W := 0) (rm_wc l Z a0 hw [] ot kk nn pm ((aa + (1 : Int32)) + (2 : Int32)) h54 n0 O56 Vm gt (by have q := own_jj ik55 hb43; omega) (by omega) hns) hZ (own_w hw 22 rfl) (own_w hw 12 rfl) (by decide) (by decide)) (g := (mkF m 53 #[.val (.ref ot), .val (.int aa), .val (.int (42 : Int32)), .val (.int (10 : Int32)), .val (.int ((aa + (1 : Int32)) + (2 : Int32))), .val (.int (aa + (1 : Int32))), .val (.int (0 : Int32))] [(.int ((aa + (1 : Int32)) + (2 : Int32))), (.ref ot)])) rfl (by rw [hml]; rfl) (argsL := [(.ref ot), (.int ((aa + (1 : Int32)) + (2 : Int32)))]) (rest := []) (lenOf own_pd__28_5bBI_29I rfl) rfl own_z (hb hby D5_53) (fun _ _ => ⟨rfl, e54, (by decide : 0 + 0 ≤ _), (by decide : 0 + 0 ≤ _)⟩)) fun T57 Lc57 _ X57 hQ57 => ?_
    obtain ⟨po_57, az_57, rfl, M57, K57, g57_0, r57_0, r57_1, r57_2⟩ := hQ57
    have N57 := Fr.app N54 M57
    obtain ⟨lc57, X57, N57⟩ := own_lc X57 N57
    have z57 := K57.1
    have lt_g57_0 : T57.heap.size > ot := g57_0.lt
    have K58 : Keep h0 T57.heap [ot] := (((((Keep.refl h0 [ot]).wr W46 (Or.inl (List.mem_of_getElem? (i := 0) rfl))).wr W53 (Or.inl (List.mem_of_getElem? (i := 0) rfl))).wr W54 (Or.inl (List.mem_of_getElem? (i := 0) rfl))).trans K57 (allS (P := fun x => x ∈ [ot] ∨ h0.size ≤ x) (Or.inl (List.mem_of_getElem? (i := 0) rfl)) all0))
    obtain ⟨fs, hr, hrun, hended, hW, hsame⟩ := X57.leave (v := some (.int az_57)) (fun h => by rw [Bd.returns] at h; cases h)
    refine ⟨_, _, retI X57 hx Bd.returns (hb hby D5_56) hr, hrun, hended, _, _, rfl, ?_, ⟨_, rfl⟩, hW, hsame.mono (by decide) (by decide)⟩
    show Q_rm_wh42 Z ot kk nn pr aa (10 : Int32) h0 n0 _ T57.heap _
    exact ⟨po_57, az_57, rfl, N57, K58, g57_0, (by rw [r57_0, e_pm, own_hd_10, List.append_assoc]; rfl), r57_1, (by omega)⟩
def Q_rm_wh36 (Z : State) (ot : Addr) (kk : ClassId) (nn : Int32) (pr : List Value) (aa : Int32) (cn : Int32) (h0 : Heap) (n0 : Nat) (v : Option Value) (h : Heap) (L : List Loc) : Prop := ∃ (po : List Value), ∃ (az : Int32), v = some (.int az) ∧ Fr n0 L ∧ Keep h0 h [ot] ∧ Arv Z h ot kk .byte nn po (.int (0 : Int32)) ∧ po = pr ++ own_hd (36 : Int32) cn ∧ az.toInt = (po.length : Int) ∧ (po.length : Int) = (pr.length : Int) + own_hn cn
theorem ef_rm_wh36 (m : MethodId) (ot : Addr) (kk : ClassId) (nn : Int32) (pr : List Value) (aa : Int32) (cn : Int32) : entryFrame m #[(.ref ot), (.int aa), (.int (36 : Int32)), (.int cn)] 7 = mkF m 0 #[.val (.ref ot), .val (.int aa), .val (.int (36 : Int32)), .val (.int cn), .unset, .unset, .unset] [] := by first | (simp [entryFrame, mkF, argsToLocals, Value.category]; done) | rfl
set_option maxRecDepth 65536 in
set_option maxHeartbeats 40000000 in
theorem rm_wh36 (l : Launch) (Z : State) (a0 : Array Value) (hw : ∀ d ∈ tables_1, d.before a0 Z = true) (ws : List Jvm.Cond) (ot : Addr) (kk : ClassId) (nn : Int32) (pr : List Value) (aa : Int32) (cn : Int32) (h0 : Heap) (n0 : Nat) (O0 : Old Z n0 h0) (Fo : Arv Z h0 ot kk .byte nn pr (.int (0 : Int32))) (gt : n0 ≤ ot) (hcn : own_cnt cn) (haa : aa.toInt = (pr.length : Int)) (hle : (pr.length : Int) + own_hn cn ≤ nn.toInt) (hns : nn.toInt ≤ 1000) :
    MetFree l (⟨s2_, "writeHeader", "([BICI)I"⟩ : MethodName) (head1 (Jvm.Cond.code (⟨s2_, "writeHeader", "([BICI)I"⟩ : MethodName) prog_9_method_5_code 7 (some .int) :: ws) ({ frames := 1, cells := 0, slots := 0, locals := 15 } : Room)) (fun a U => a = #[(.ref ot), (.int aa), (.int (36 : Int32)), (.int cn)] ∧ Z.Warmed39 U.vm ∧ U.heap = h0) (fun _ _ _ _ _ => True) (fun _ U o U' => ∃ v L, o = .returned v ∧ Q_rm_wh36 Z ot kk nn pr aa cn h0 n0 v U'.heap L ∧ FrameEnd U o U' L ({ frames := 1, cells := 0, slots := 0, locals := 15 } : Room).cells ({ frames := 1, cells := 0, slots := 0, locals := 15 } : Room).slots) := by
  refine MetFree.of_bodySF (plainFor_of_name own_pn_com_example_living_lease_livinglease_redis_Resp) hisR ?_
  intro p e s m args below meth c s₁ Bd hml0 hP hK
  obtain ⟨rfl, hZ, hh⟩ := hP
  have hx := Bd.exec
  have hby := Bd.bytes
  have hml : c.maxLocals = 7 := hml0
  have hown : s.vm.findClass s2_ = some m.cls := findClass_of_methodNamed Bd.named
  have hnm := (name_of_methodNamed Bd.named Bd.method).1
  have X0 : Stand p l e ({ frames := 1, cells := 0, slots := 0, locals := 15 } : Room) s m #[(.ref ot), (.int aa), (.int (36 : Int32)), (.int cn)] below meth c s₁ [] 0 0 := Stand.of_body Bd
  have e0 : s₁.heap = h0 := by rw [← hh, Bd.state]; rfl
  have N0 := Fr.nil n0
  have Z0 : n0 ≤ h0.size := by rw [← O0.1]; exact O0.2.1
  show own_Go p e below (s₁.setTop (entryFrame m #[(.ref ot), (.int aa), (.int (36 : Int32)), (.int cn)] 7)) (fun t o => ∃ v L, o = .returned v ∧ Q_rm_wh36 Z ot kk nn pr aa cn h0 n0 v t.heap L ∧ FrameEnd s o t L ({ frames := 1, cells := 0, slots := 0, locals := 15 } : Room).cells ({ frames := 1, cells := 0, slots := 0, locals := 15 } : Room).slots)
  rw [ef_rm_wh36 m ot kk nn pr aa cn]
  have lt_Fo : h0.size > ot := Fo.lt
  rcases hcn with rfl | rfl | rfl | rfl
  · skip
    show own_Go p e below (s₁.setTop (mkF m 0 #[.val (.ref ot), .val (.int aa), .val (.int (36 : Int32)), .val (.int (0 : Int32)), .unset, .unset, .unset] [])) _
    have hn_0 := own_hn_0
    refine n_aloadN X0 hx hby D5_0 rfl rfl ?_
    refine n_iloadN X0 hx hby D5_1 rfl ?_
    refine n_iloadN X0 hx hby D5_2 rfl ?_
    refine n_i2b X0 hx hby D5_3 ?_
    show own_Go p e below (s₁.setTop (mkF m 4 #[.val (.ref ot), .val (.int aa), .val (.int (36 : Int32)), .val (.int (0 : Int32)), .unset, .unset, .unset] [(.int ((36 : Int32).toInt8.toInt32)), (.int aa), (.ref ot)])) _
    rw [show (((36 : Int32).toInt8.toInt32) : Int32) = (36 : Int32) from by decide]
    show own_Go p e below (s₁.setTop (mkF m 4 #[.val (.ref ot), .val (.int aa), .val (.int (36 : Int32)), .val (.int (0 : Int32)), .unset, .unset, .unset] [(.int (36 : Int32)), (.int aa), (.ref ot)])) _
    have hb1 : aa.toInt = (pr.length : Int) := by omega
    have hM1 : (pr.length : Int) + ((4 : Nat) : Int) ≤ nn.toInt := by omega
    have ik2 : own_is aa aa 0 := own_is0
    have Vp3 : Arv Z h0 ot kk .byte nn (pr ++ [(.int (0 : Int32))]) (.int (0 : Int32)) := own_wpad0 Fo (n := 1) (us := [(.int (0 : Int32))]) rfl
    obtain ⟨cl4, Ar4, q4, S4, M4, H4, G4⟩ := (id Vp3)
    have hin4 : ¬ (aa < 0 ∨ cl4.slots.size ≤ (aa).toNatClampNeg) := own_inbK S4 ik2 hb1 hM1 (by decide)
    obtain ⟨T4, h4, X4, e4, W4, st4⟩ := stB X0 hx hZ e0 Ar4 (j := aa) hin4 (g := (mkF m 4 #[.val (.ref ot), .val (.int aa), .val (.int (36 : Int32)), .val (.int (0 : Int32)), .unset, .unset, .unset] [(.int (36 : Int32)), (.int aa), (.ref ot)])) rfl rfl (hb hby D5_4)
    refine ob_ st4 ?_
    have z4 := W4.size
    have N4 := Fr.snoc X4 N0 gt
    obtain ⟨lc4, X4, N4⟩ := own_lc X4 N4
    have Vw4 : Arv Z h4 ot kk .byte nn (pr ++ [(.int (36 : Int32))]) (.int (0 : Int32)) := own_wset Vp3 W4 rfl 0 (own_jj ik2 hb1) (Nat.le_of_ble_eq_true rfl)
    refine n_iloadN X4 hx hby D5_5 rfl ?_
    refine oIc X4 hx hby D5_6 (z := (1 : Int32)) rfl ?_
    refine n_iadd X4 hx hby D5_7 ?_
    refine n_iloadN X4 hx hby D5_8 rfl ?_
    have O5 : Old Z n0 h4 := (O0.wr W4 gt)
    refine o_ksc 3 0 0 (Jvm.LawKit.callS X4 hx (y := (⟨s2_, "decimalLength", "(I)I"⟩ : MethodName)) hown (mw hZ hw 14 rfl) (mw hZ hw 15 rfl) (mw hZ hw 12 rfl) (mw hZ hw 16 rfl) (by decide) (backOf (W := 1) (rm_dl0 l Z a0 hw [] h4 n0 O5) hZ (own_w hw 16 rfl) (own_w hw 12 rfl) (by decide) (by decide)) (g := (mkF m 9 #[.val (.ref ot), .val (.int aa), .val (.int (36 : Int32)), .val (.int (0 : Int32)), .unset, .unset, .unset] [(.int (0 : Int32)), (.int (aa + (1 : Int32)))])) rfl (by rw [hml]; rfl) (argsL := [(.int (0 : Int32))]) (rest := [(.int (aa + (1 : Int32)))]) (lenOf own_pd__28I_29I rfl) rfl own_z (hb hby D5_9) (fun _ _ => ⟨rfl, e4, (by decide : 0 + 0 ≤ _), (by decide : 0 + 0 ≤ _)⟩)) fun T6 Lc6 _ X6 hQ6 => ?_
    obtain ⟨rfl, M6, K6⟩ := hQ6
    have N6 := Fr.app N4 M6
    obtain ⟨lc6, X6, N6⟩ := own_lc X6 N6
    refine n_iadd X6 hx hby D5_12 ?_
    refine n_istore X6 hx hby D5_13 (l' := #[.val (.ref ot), .val (.int aa), .val (.int (36 : Int32)), .val (.int (0 : Int32)), .val (.int ((aa + (1 : Int32)) + (1 : Int32))), .unset, .unset]) rfl ?_
    refine n_iload X6 hx hby D5_15 rfl ?_
    refine n_istore X6 hx hby D5_17 (l' := #[.val (.ref ot), .val (.int aa), .val (.int (36 : Int32)), .val (.int (0 : Int32)), .val (.int ((aa + (1 : Int32)) + (1 : Int32))), .val (.int ((aa + (1 : Int32)) + (1 : Int32))), .unset]) rfl ?_
    refine n_iloadN X6 hx hby D5_19 rfl ?_
    refine n_istore X6 hx hby D5_20 (l' := #[.val (.ref ot), .val (.int aa), .val (.int (36 : Int32)), .val (.int (0 : Int32)), .val (.int ((aa + (1 : Int32)) + (1 : Int32))), .val (.int ((aa + (1 : Int32)) + (1 : Int32))), .val (.int (0 : Int32))]) rfl ?_
    refine n_iinc X6 hx hby D5_22 rfl (l' := #[.val (.ref ot), .val (.int aa), .val (.int (36 : Int32)), .val (.int (0 : Int32)), .val (.int ((aa + (1 : Int32)) + (1 : Int32))), .val (.int (((aa + (1 : Int32)) + (1 : Int32)) + (-1 : Int32))), .val (.int (0 : Int32))]) rfl ?_
    show own_Go p e below (T6.setTop (mkF m 25 #[.val (.ref ot), .val (.int aa), .val (.int (36 : Int32)), .val (.int (0 : Int32)), .val (.int ((aa + (1 : Int32)) + (1 : Int32))), .val (.int (((aa + (1 : Int32)) + (1 : Int32)) + (-1 : Int32))), .val (.int (0 : Int32))] [])) _
    rw [show ((((aa + (1 : Int32)) + (1 : Int32)) + (-1 : Int32)) : Int32) = (aa + (1 : Int32)) from own_dec1]
    show own_Go p e below (T6.setTop (mkF m 25 #[.val (.ref ot), .val (.int aa), .val (.int (36 : Int32)), .val (.int (0 : Int32)), .val (.int ((aa + (1 : Int32)) + (1 : Int32))), .val (.int (aa + (1 : Int32))), .val (.int (0 : Int32))] [])) _
    refine n_aloadN X6 hx hby D5_25 rfl rfl ?_
    refine n_iload X6 hx hby D5_26 rfl ?_
    refine oBi X6 hx hby D5_28 (z := (48 : Int32)) rfl ?_
    refine n_iload X6 hx hby D5_30 rfl ?_
    refine oBi X6 hx hby D5_32 (z := (10 : Int32)) rfl ?_
    refine ob_ (fun _ k => iremM (g := (mkF m 34 #[.val (.ref ot), .val (.int aa), .val (.int (36 : Int32)), .val (.int (0 : Int32)), .val (.int ((aa + (1 : Int32)) + (1 : Int32))), .val (.int (aa + (1 : Int32))), .val (.int (0 : Int32))] [(.int (10 : Int32)), (.int (0 : Int32)), (.int (48 : Int32)), (.int (aa + (1 : Int32))), (.ref ot)])) X6 hx rfl (hb hby D5_34) rfl (by decide : ¬ ((10 : Int32) = (0 : Int32))) k) ?_
    show own_Go p e below (T6.setTop (mkF m 35 #[.val (.ref ot), .val (.int aa), .val (.int (36 : Int32)), .val (.int (0 : Int32)), .val (.int ((aa + (1 : Int32)) + (1 : Int32))), .val (.int (aa + (1 : Int32))), .val (.int (0 : Int32))] [(.int ((0 : Int32) % (10 : Int32))), (.int (48 : Int32)), (.int (aa + (1 : Int32))), (.ref ot)])) _
    show own_Go p e below (T6.setTop (mkF m 35 #[.val (.ref ot), .val (.int aa), .val (.int (36 : Int32)), .val (.int (0 : Int32)), .val (.int ((aa + (1 : Int32)) + (1 : Int32))), .val (.int (aa + (1 : Int32))), .val (.int (0 : Int32))] [(.int ((0 : Int32) % (10 : Int32))), (.int (48 : Int32)), (.int (aa + (1 : Int32))), (.ref ot)])) _
    show own_Go p e below (T6.setTop (mkF m 35 #[.val (.ref ot), .val (.int aa), .val (.int (36 : Int32)), .val (.int (0 : Int32)), .val (.int ((aa + (1 : Int32)) + (1 : Int32))), .val (.int (aa + (1 : Int32))), .val (.int (0 : Int32))] [(.int ((0 : Int32) % (10 : Int32))), (.int (48 : Int32)), (.int (aa + (1 : Int32))), (.ref ot)])) _
    rw [show (((0 : Int32) % (10 : Int32)) : Int32) = (0 : Int32) from by decide]
    show own_Go p e below (T6.setTop (mkF m 35 #[.val (.ref ot), .val (.int aa), .val (.int (36 : Int32)), .val (.int (0 : Int32)), .val (.int ((aa + (1 : Int32)) + (1 : Int32))), .val (.int (aa + (1 : Int32))), .val (.int (0 : Int32))] [(.int (0 : Int32)), (.int (48 : Int32)), (.int (aa + (1 : Int32))), (.ref ot)])) _
    refine n_iadd X6 hx hby D5_35 ?_
    show own_Go p e below (T6.setTop (mkF m 36 #[.val (.ref ot), .val (.int aa), .val (.int (36 : Int32)), .val (.int (0 : Int32)), .val (.int ((aa + (1 : Int32)) + (1 : Int32))), .val (.int (aa + (1 : Int32))), .val (.int (0 : Int32))] [(.int ((48 : Int32) + (0 : Int32))), (.int (aa + (1 : Int32))), (.ref ot)])) _
    rw [show (((48 : Int32) + (0 : Int32)) : Int32) = (48 : Int32) from by decide]
    show own_Go p e below (T6.setTop (mkF m 36 #[.val (.ref ot), .val (.int aa), .val (.int (36 : Int32)), .val (.int (0 : Int32)), .val (.int ((aa + (1 : Int32)) + (1 : Int32))), .val (.int (aa + (1 : Int32))), .val (.int (0 : Int32))] [(.int (48 : Int32)), (.int (aa + (1 : Int32))), (.ref ot)])) _
    refine n_i2b X6 hx hby D5_36 ?_
    show own_Go p e below (T6.setTop (mkF m 37 #[.val (.ref ot), .val (.int aa), .val (.int (36 : Int32)), .val (.int (0 : Int32)), .val (.int ((aa + (1 : Int32)) + (1 : Int32))), .val (.int (aa + (1 : Int32))), .val (.int (0 : Int32))] [(.int ((48 : Int32).toInt8.toInt32)), (.int (aa + (1 : Int32))), (.ref ot)])) _
    rw [show (((48 : Int32).toInt8.toInt32) : Int32) = (48 : Int32) from by decide]
    show own_Go p e below (T6.setTop (mkF m 37 #[.val (.ref ot), .val (.int aa), .val (.int (36 : Int32)), .val (.int (0 : Int32)), .val (.int ((aa + (1 : Int32)) + (1 : Int32))), .val (.int (aa + (1 : Int32))), .val (.int (0 : Int32))] [(.int (48 : Int32)), (.int (aa + (1 : Int32))), (.ref ot)])) _
    have rg7 : own_rg aa := ⟨by omega, by omega⟩
    have ik8 : own_is (aa + (1 : Int32)) aa 1 := own_isS (k := 1) ik2 rg7 (by decide) (by decide)
    have Vp9 : Arv Z h4 ot kk .byte nn (pr ++ [(.int (36 : Int32)), (.int (0 : Int32))]) (.int (0 : Int32)) := own_wpad Vw4 (n := 1) (ts := [(.int (36 : Int32)), (.int (0 : Int32))]) rfl
    obtain ⟨cl10, Ar10, q10, S10, M10, H10, G10⟩ := (id Vp9)
    have hin10 : ¬ ((aa + (1 : Int32)) < 0 ∨ cl10.slots.size ≤ ((aa + (1 : Int32))).toNatClampNeg) := own_inbK S10 ik8 hb1 hM1 (by decide)
    obtain ⟨T10, h10, X10, e10, W10, st10⟩ := stB X6 hx hZ K6 Ar10 (j := (aa + (1 : Int32))) hin10 (g := (mkF m 37 #[.val (.ref ot), .val (.int aa), .val (.int (36 : Int32)), .val (.int (0 : Int32)), .val (.int ((aa + (1 : Int32)) + (1 : Int32))), .val (.int (aa + (1 : Int32))), .val (.int (0 : Int32))] [(.int (48 : Int32)), (.int (aa + (1 : Int32))), (.ref ot)])) rfl rfl (hb hby D5_37)
    refine ob_ st10 ?_
    have z10 := W10.size
    have N10 := Fr.snoc X10 N6 gt
    obtain ⟨lc10, X10, N10⟩ := own_lc X10 N10
    have Vw10 : Arv Z h10 ot kk .byte nn (pr ++ [(.int (36 : Int32)), (.int (48 : Int32))]) (.int (0 : Int32)) := own_wset Vp9 W10 rfl 1 (own_jj ik8 hb1) (Nat.le_of_ble_eq_true rfl)
    refine n_iload X10 hx hby D5_38 rfl ?_
    refine oBi X10 hx hby D5_40 (z := (10 : Int32)) rfl ?_
    refine ob_ (fun _ k => XS.idiv X10.here hx rfl (hb hby D5_42) rfl (by decide : ¬ ((10 : Int32) = (0 : Int32))) k) ?_
    show own_Go p e below (T10.setTop (mkF m 43 #[.val (.ref ot), .val (.int aa), .val (.int (36 : Int32)), .val (.int (0 : Int32)), .val (.int ((aa + (1 : Int32)) + (1 : Int32))), .val (.int (aa + (1 : Int32))), .val (.int (0 : Int32))] [(.int ((0 : Int32) / (10 : Int32)))])) _
    show own_Go p e below (T10.setTop (mkF m 43 #[.val (.ref ot), .val (.int aa), .val (.int (36 : Int32)), .val (.int (0 : Int32)), .val (.int ((aa + (1 : Int32)) + (1 : Int32))), .val (.int (aa + (1 : Int32))), .val (.int (0 : Int32))] [(.int ((0 : Int32) / (10 : Int32)))])) _
    show own_Go p e below (T10.setTop (mkF m 43 #[.val (.ref ot), .val (.int aa), .val (.int (36 : Int32)), .val (.int (0 : Int32)), .val (.int ((aa + (1 : Int32)) + (1 : Int32))), .val (.int (aa + (1 : Int32))), .val (.int (0 : Int32))] [(.int ((0 : Int32) / (10 : Int32)))])) _
    rw [show (((0 : Int32) / (10 : Int32)) : Int32) = (0 : Int32) from by decide]
    show own_Go p e below (T10.setTop (mkF m 43 #[.val (.ref ot), .val (.int aa), .val (.int (36 : Int32)), .val (.int (0 : Int32)), .val (.int ((aa + (1 : Int32)) + (1 : Int32))), .val (.int (aa + (1 : Int32))), .val (.int (0 : Int32))] [(.int (0 : Int32))])) _
    refine n_istore X10 hx hby D5_43 (l' := #[.val (.ref ot), .val (.int aa), .val (.int (36 : Int32)), .val (.int (0 : Int32)), .val (.int ((aa + (1 : Int32)) + (1 : Int32))), .val (.int (aa + (1 : Int32))), .val (.int (0 : Int32))]) rfl ?_
    refine n_iload X10 hx hby D5_45 rfl ?_
    refine n_ifNo X10 hx hby D5_47 ((if0 _ _).trans (flt (by decide : ¬ ((0 : Int32) < (0 : Int32)))).2.2.1) ?_
    refine n_aloadN X10 hx hby D5_50 rfl rfl ?_
    refine n_iload X10 hx hby D5_51 rfl ?_
    have ik11 : own_is ((aa + (1 : Int32)) + (1 : Int32)) aa 2 := own_isS (k := 1) ik8 rg7 (by decide) (by decide)
    obtain ⟨pm, e_pm⟩ : ∃ z, z = (pr ++ [(.int (36 : Int32)), (.int (48 : Int32))]) := ⟨_, rfl⟩
    have hl_pm : (pm.length : Int) = (pr.length : Int) + 2 := by rw [e_pm, List.length_append]; rfl
    have Vm : Arv Z h10 ot kk .byte nn pm (.int (0 : Int32)) := by rw [e_pm]; exact Vw10
    have O12 : Old Z n0 h10 := (O5.wr W10 gt)
    refine o_ksc 3 0 0 (Jvm.LawKit.callS X10 hx (y := (⟨s2_, "writeCrLf", "([BI)I"⟩ : MethodName)) hown (mw hZ hw 20 rfl) (mw hZ hw 21 rfl) (mw hZ hw 12 rfl) (mw hZ hw 22 rfl) (by decide) (backOf (W := 0) (rm_wc l Z a0 hw [] ot kk nn pm ((aa + (1 : Int32)) + (1 : Int32)) h10 n0 O12 Vm gt (by have q := own_jj ik11 hb1; omega) (by omega) hns) hZ (own_w hw 22 rfl) (own_w hw 12 rfl) (by decide) (by decide)) (g := (mkF m 53 #[.val (.ref ot), .val (.int aa), .val (.int (36 : Int32)), .val (.int (0 : Int32)), .val (.int ((aa + (1 : Int32)) + (1 : Int32))), .val (.int (aa + (1 : Int32))), .val (.int (0 : Int32))] [(.int ((aa + (1 : Int32)) + (1 : Int32))), (.ref ot)])) rfl (by rw [hml]; rfl) (argsL := [(.ref ot), (.int ((aa + (1 : Int32)) + (1 : Int32)))]) (rest := []) (lenOf own_pd__28_5bBI_29I rfl) rfl own_z (hb hby D5_53) (fun _ _ => ⟨rfl, e10, (by decide : 0 + 0 ≤ _), (by decide : 0 + 0 ≤ _)⟩)) fun T13 Lc13 _ X13 hQ13 => ?_
    obtain ⟨po_13, az_13, rfl, M13, K13, g13_0, r13_0, r13_1, r13_2⟩ := hQ13
    have N13 := Fr.app N10 M13
    obtain ⟨lc13, X13, N13⟩ := own_lc X13 N13
    have z13 := K13.1
    have lt_g13_0 : T13.heap.size > ot := g13_0.lt
    have K14 : Keep h0 T13.heap [ot] := ((((Keep.refl h0 [ot]).wr W4 (Or.inl (List.mem_of_getElem? (i := 0) rfl))).wr W10 (Or.inl (List.mem_of_getElem? (i := 0) rfl))).trans K13 (allS (P := fun x => x ∈ [ot] ∨ h0.size ≤ x) (Or.inl (List.mem_of_getElem? (i := 0) rfl)) all0))
    obtain ⟨fs, hr, hrun, hended, hW, hsame⟩ := X13.leave (v := some (.int az_13)) (fun h => by rw [Bd.returns] at h; cases h)
    refine ⟨_, _, retI X13 hx Bd.returns (hb hby D5_56) hr, hrun, hended, _, _, rfl, ?_, ⟨_, rfl⟩, hW, hsame.mono (by decide) (by decide)⟩
    show Q_rm_wh36 Z ot kk nn pr aa (0 : Int32) h0 n0 _ T13.heap _
    exact ⟨po_13, az_13, rfl, N13, K14, g13_0, (by rw [r13_0, e_pm, own_hd_0, List.append_assoc]; rfl), r13_1, (by omega)⟩
  · skip
    show own_Go p e below (s₁.setTop (mkF m 0 #[.val (.ref ot), .val (.int aa), .val (.int (36 : Int32)), .val (.int (1 : Int32)), .unset, .unset, .unset] [])) _
    have hn_1 := own_hn_1
    refine n_aloadN X0 hx hby D5_0 rfl rfl ?_
    refine n_iloadN X0 hx hby D5_1 rfl ?_
    refine n_iloadN X0 hx hby D5_2 rfl ?_
    refine n_i2b X0 hx hby D5_3 ?_
    show own_Go p e below (s₁.setTop (mkF m 4 #[.val (.ref ot), .val (.int aa), .val (.int (36 : Int32)), .val (.int (1 : Int32)), .unset, .unset, .unset] [(.int ((36 : Int32).toInt8.toInt32)), (.int aa), (.ref ot)])) _
    rw [show (((36 : Int32).toInt8.toInt32) : Int32) = (36 : Int32) from by decide]
    show own_Go p e below (s₁.setTop (mkF m 4 #[.val (.ref ot), .val (.int aa), .val (.int (36 : Int32)), .val (.int (1 : Int32)), .unset, .unset, .unset] [(.int (36 : Int32)), (.int aa), (.ref ot)])) _
    have hb15 : aa.toInt = (pr.length : Int) := by omega
    have hM15 : (pr.length : Int) + ((4 : Nat) : Int) ≤ nn.toInt := by omega
    have ik16 : own_is aa aa 0 := own_is0
    have Vp17 : Arv Z h0 ot kk .byte nn (pr ++ [(.int (0 : Int32))]) (.int (0 : Int32)) := own_wpad0 Fo (n := 1) (us := [(.int (0 : Int32))]) rfl
    obtain ⟨cl18, Ar18, q18, S18, M18, H18, G18⟩ := (id Vp17)
    have hin18 : ¬ (aa < 0 ∨ cl18.slots.size ≤ (aa).toNatClampNeg) := own_inbK S18 ik16 hb15 hM15 (by decide)
    obtain ⟨T18, h18, X18, e18, W18, st18⟩ := stB X0 hx hZ e0 Ar18 (j := aa) hin18 (g := (mkF m 4 #[.val (.ref ot), .val (.int aa), .val (.int (36 : Int32)), .val (.int (1 : Int32)), .unset, .unset, .unset] [(.int (36 : Int32)), (.int aa), (.ref ot)])) rfl rfl (hb hby D5_4)
    refine ob_ st18 ?_
    have z18 := W18.size
    have N18 := Fr.snoc X18 N0 gt
    obtain ⟨lc18, X18, N18⟩ := own_lc X18 N18
    have Vw18 : Arv Z h18 ot kk .byte nn (pr ++ [(.int (36 : Int32))]) (.int (0 : Int32)) := own_wset Vp17 W18 rfl 0 (own_jj ik16 hb15) (Nat.le_of_ble_eq_true rfl)
    refine n_iloadN X18 hx hby D5_5 rfl ?_
    refine oIc X18 hx hby D5_6 (z := (1 : Int32)) rfl ?_
    refine n_iadd X18 hx hby D5_7 ?_
    refine n_iloadN X18 hx hby D5_8 rfl ?_
    have O19 : Old Z n0 h18 := (O0.wr W18 gt)
    refine o_ksc 3 0 0 (Jvm.LawKit.callS X18 hx (y := (⟨s2_, "decimalLength", "(I)I"⟩ : MethodName)) hown (mw hZ hw 14 rfl) (mw hZ hw 15 rfl) (mw hZ hw 12 rfl) (mw hZ hw 16 rfl) (by decide) (backOf (W := 1) (rm_dl1 l Z a0 hw [] h18 n0 O19) hZ (own_w hw 16 rfl) (own_w hw 12 rfl) (by decide) (by decide)) (g := (mkF m 9 #[.val (.ref ot), .val (.int aa), .val (.int (36 : Int32)), .val (.int (1 : Int32)), .unset, .unset, .unset] [(.int (1 : Int32)), (.int (aa + (1 : Int32)))])) rfl (by rw [hml]; rfl) (argsL := [(.int (1 : Int32))]) (rest := [(.int (aa + (1 : Int32)))]) (lenOf own_pd__28I_29I rfl) rfl own_z (hb hby D5_9) (fun _ _ => ⟨rfl, e18, (by decide : 0 + 0 ≤ _), (by decide : 0 + 0 ≤ _)⟩)) fun T20 Lc20 _ X20 hQ20 => ?_
    obtain ⟨rfl, M20, K20⟩ := hQ20
    have N20 := Fr.app N18 M20
    obtain ⟨lc20, X20, N20⟩ := own_lc X20 N20
    refine n_iadd X20 hx hby D5_12 ?_
    refine n_istore X20 hx hby D5_13 (l' := #[.val (.ref ot), .val (.int aa), .val (.int (36 : Int32)), .val (.int (1 : Int32)), .val (.int ((aa + (1 : Int32)) + (1 : Int32))), .unset, .unset]) rfl ?_
    refine n_iload X20 hx hby D5_15 rfl ?_
    refine n_istore X20 hx hby D5_17 (l' := #[.val (.ref ot), .val (.int aa), .val (.int (36 : Int32)), .val (.int (1 : Int32)), .val (.int ((aa + (1 : Int32)) + (1 : Int32))), .val (.int ((aa + (1 : Int32)) + (1 : Int32))), .unset]) rfl ?_
    refine n_iloadN X20 hx hby D5_19 rfl ?_
    refine n_istore X20 hx hby D5_20 (l' := #[.val (.ref ot), .val (.int aa), .val (.int (36 : Int32)), .val (.int (1 : Int32)), .val (.int ((aa + (1 : Int32)) + (1 : Int32))), .val (.int ((aa + (1 : Int32)) + (1 : Int32))), .val (.int (1 : Int32))]) rfl ?_
    refine n_iinc X20 hx hby D5_22 rfl (l' := #[.val (.ref ot), .val (.int aa), .val (.int (36 : Int32)), .val (.int (1 : Int32)), .val (.int ((aa + (1 : Int32)) + (1 : Int32))), .val (.int (((aa + (1 : Int32)) + (1 : Int32)) + (-1 : Int32))), .val (.int (1 : Int32))]) rfl ?_
    show own_Go p e below (T20.setTop (mkF m 25 #[.val (.ref ot), .val (.int aa), .val (.int (36 : Int32)), .val (.int (1 : Int32)), .val (.int ((aa + (1 : Int32)) + (1 : Int32))), .val (.int (((aa + (1 : Int32)) + (1 : Int32)) + (-1 : Int32))), .val (.int (1 : Int32))] [])) _
    rw [show ((((aa + (1 : Int32)) + (1 : Int32)) + (-1 : Int32)) : Int32) = (aa + (1 : Int32)) from own_dec1]
    show own_Go p e below (T20.setTop (mkF m 25 #[.val (.ref ot), .val (.int aa), .val (.int (36 : Int32)), .val (.int (1 : Int32)), .val (.int ((aa + (1 : Int32)) + (1 : Int32))), .val (.int (aa + (1 : Int32))), .val (.int (1 : Int32))] [])) _
    refine n_aloadN X20 hx hby D5_25 rfl rfl ?_
    refine n_iload X20 hx hby D5_26 rfl ?_
    refine oBi X20 hx hby D5_28 (z := (48 : Int32)) rfl ?_
    refine n_iload X20 hx hby D5_30 rfl ?_
    refine oBi X20 hx hby D5_32 (z := (10 : Int32)) rfl ?_
    refine ob_ (fun _ k => iremM (g := (mkF m 34 #[.val (.ref ot), .val (.int aa), .val (.int (36 : Int32)), .val (.int (1 : Int32)), .val (.int ((aa + (1 : Int32)) + (1 : Int32))), .val (.int (aa + (1 : Int32))), .val (.int (1 : Int32))] [(.int (10 : Int32)), (.int (1 : Int32)), (.int (48 : Int32)), (.int (aa + (1 : Int32))), (.ref ot)])) X20 hx rfl (hb hby D5_34) rfl (by decide : ¬ ((10 : Int32) = (0 : Int32))) k) ?_
    show own_Go p e below (T20.setTop (mkF m 35 #[.val (.ref ot), .val (.int aa), .val (.int (36 : Int32)), .val (.int (1 : Int32)), .val (.int ((aa + (1 : Int32)) + (1 : Int32))), .val (.int (aa + (1 : Int32))), .val (.int (1 : Int32))] [(.int ((1 : Int32) % (10 : Int32))), (.int (48 : Int32)), (.int (aa + (1 : Int32))), (.ref ot)])) _
    show own_Go p e below (T20.setTop (mkF m 35 #[.val (.ref ot), .val (.int aa), .val (.int (36 : Int32)), .val (.int (1 : Int32)), .val (.int ((aa + (1 : Int32)) + (1 : Int32))), .val (.int (aa + (1 : Int32))), .val (.int (1 : Int32))] [(.int ((1 : Int32) % (10 : Int32))), (.int (48 : Int32)), (.int (aa + (1 : Int32))), (.ref ot)])) _
    show own_Go p e below (T20.setTop (mkF m 35 #[.val (.ref ot), .val (.int aa), .val (.int (36 : Int32)), .val (.int (1 : Int32)), .val (.int ((aa + (1 : Int32)) + (1 : Int32))), .val (.int (aa + (1 : Int32))), .val (.int (1 : Int32))] [(.int ((1 : Int32) % (10 : Int32))), (.int (48 : Int32)), (.int (aa + (1 : Int32))), (.ref ot)])) _
    rw [show (((1 : Int32) % (10 : Int32)) : Int32) = (1 : Int32) from by decide]
    show own_Go p e below (T20.setTop (mkF m 35 #[.val (.ref ot), .val (.int aa), .val (.int (36 : Int32)), .val (.int (1 : Int32)), .val (.int ((aa + (1 : Int32)) + (1 : Int32))), .val (.int (aa + (1 : Int32))), .val (.int (1 : Int32))] [(.int (1 : Int32)), (.int (48 : Int32)), (.int (aa + (1 : Int32))), (.ref ot)])) _
    refine n_iadd X20 hx hby D5_35 ?_
    show own_Go p e below (T20.setTop (mkF m 36 #[.val (.ref ot), .val (.int aa), .val (.int (36 : Int32)), .val (.int (1 : Int32)), .val (.int ((aa + (1 : Int32)) + (1 : Int32))), .val (.int (aa + (1 : Int32))), .val (.int (1 : Int32))] [(.int ((48 : Int32) + (1 : Int32))), (.int (aa + (1 : Int32))), (.ref ot)])) _
    rw [show (((48 : Int32) + (1 : Int32)) : Int32) = (49 : Int32) from by decide]
    show own_Go p e below (T20.setTop (mkF m 36 #[.val (.ref ot), .val (.int aa), .val (.int (36 : Int32)), .val (.int (1 : Int32)), .val (.int ((aa + (1 : Int32)) + (1 : Int32))), .val (.int (aa + (1 : Int32))), .val (.int (1 : Int32))] [(.int (49 : Int32)), (.int (aa + (1 : Int32))), (.ref ot)])) _
    refine n_i2b X20 hx hby D5_36 ?_
    show own_Go p e below (T20.setTop (mkF m 37 #[.val (.ref ot), .val (.int aa), .val (.int (36 : Int32)), .val (.int (1 : Int32)), .val (.int ((aa + (1 : Int32)) + (1 : Int32))), .val (.int (aa + (1 : Int32))), .val (.int (1 : Int32))] [(.int ((49 : Int32).toInt8.toInt32)), (.int (aa + (1 : Int32))), (.ref ot)])) _
    rw [show (((49 : Int32).toInt8.toInt32) : Int32) = (49 : Int32) from by decide]
    show own_Go p e below (T20.setTop (mkF m 37 #[.val (.ref ot), .val (.int aa), .val (.int (36 : Int32)), .val (.int (1 : Int32)), .val (.int ((aa + (1 : Int32)) + (1 : Int32))), .val (.int (aa + (1 : Int32))), .val (.int (1 : Int32))] [(.int (49 : Int32)), (.int (aa + (1 : Int32))), (.ref ot)])) _
    have rg21 : own_rg aa := ⟨by omega, by omega⟩
    have ik22 : own_is (aa + (1 : Int32)) aa 1 := own_isS (k := 1) ik16 rg21 (by decide) (by decide)
    have Vp23 : Arv Z h18 ot kk .byte nn (pr ++ [(.int (36 : Int32)), (.int (0 : Int32))]) (.int (0 : Int32)) := own_wpad Vw18 (n := 1) (ts := [(.int (36 : Int32)), (.int (0 : Int32))]) rfl
    obtain ⟨cl24, Ar24, q24, S24, M24, H24, G24⟩ := (id Vp23)
    have hin24 : ¬ ((aa + (1 : Int32)) < 0 ∨ cl24.slots.size ≤ ((aa + (1 : Int32))).toNatClampNeg) := own_inbK S24 ik22 hb15 hM15 (by decide)
    obtain ⟨T24, h24, X24, e24, W24, st24⟩ := stB X20 hx hZ K20 Ar24 (j := (aa + (1 : Int32))) hin24 (g := (mkF m 37 #[.val (.ref ot), .val (.int aa), .val (.int (36 : Int32)), .val (.int (1 : Int32)), .val (.int ((aa + (1 : Int32)) + (1 : Int32))), .val (.int (aa + (1 : Int32))), .val (.int (1 : Int32))] [(.int (49 : Int32)), (.int (aa + (1 : Int32))), (.ref ot)])) rfl rfl (hb hby D5_37)
    refine ob_ st24 ?_
    have z24 := W24.size
    have N24 := Fr.snoc X24 N20 gt
    obtain ⟨lc24, X24, N24⟩ := own_lc X24 N24
    have Vw24 : Arv Z h24 ot kk .byte nn (pr ++ [(.int (36 : Int32)), (.int (49 : Int32))]) (.int (0 : Int32)) := own_wset Vp23 W24 rfl 1 (own_jj ik22 hb15) (Nat.le_of_ble_eq_true rfl)
    refine n_iload X24 hx hby D5_38 rfl ?_
    refine oBi X24 hx hby D5_40 (z := (10 : Int32)) rfl ?_
    refine ob_ (fun _ k => XS.idiv X24.here hx rfl (hb hby D5_42) rfl (by decide : ¬ ((10 : Int32) = (0 : Int32))) k) ?_
    show own_Go p e below (T24.setTop (mkF m 43 #[.val (.ref ot), .val (.int aa), .val (.int (36 : Int32)), .val (.int (1 : Int32)), .val (.int ((aa + (1 : Int32)) + (1 : Int32))), .val (.int (aa + (1 : Int32))), .val (.int (1 : Int32))] [(.int ((1 : Int32) / (10 : Int32)))])) _
    show own_Go p e below (T24.setTop (mkF m 43 #[.val (.ref ot), .val (.int aa), .val (.int (36 : Int32)), .val (.int (1 : Int32)), .val (.int ((aa + (1 : Int32)) + (1 : Int32))), .val (.int (aa + (1 : Int32))), .val (.int (1 : Int32))] [(.int ((1 : Int32) / (10 : Int32)))])) _
    show own_Go p e below (T24.setTop (mkF m 43 #[.val (.ref ot), .val (.int aa), .val (.int (36 : Int32)), .val (.int (1 : Int32)), .val (.int ((aa + (1 : Int32)) + (1 : Int32))), .val (.int (aa + (1 : Int32))), .val (.int (1 : Int32))] [(.int ((1 : Int32) / (10 : Int32)))])) _
    rw [show (((1 : Int32) / (10 : Int32)) : Int32) = (0 : Int32) from by decide]
    show own_Go p e below (T24.setTop (mkF m 43 #[.val (.ref ot), .val (.int aa), .val (.int (36 : Int32)), .val (.int (1 : Int32)), .val (.int ((aa + (1 : Int32)) + (1 : Int32))), .val (.int (aa + (1 : Int32))), .val (.int (1 : Int32))] [(.int (0 : Int32))])) _
    refine n_istore X24 hx hby D5_43 (l' := #[.val (.ref ot), .val (.int aa), .val (.int (36 : Int32)), .val (.int (1 : Int32)), .val (.int ((aa + (1 : Int32)) + (1 : Int32))), .val (.int (aa + (1 : Int32))), .val (.int (0 : Int32))]) rfl ?_
    refine n_iload X24 hx hby D5_45 rfl ?_
    refine n_ifNo X24 hx hby D5_47 ((if0 _ _).trans (flt (by decide : ¬ ((0 : Int32) < (0 : Int32)))).2.2.1) ?_
    refine n_aloadN X24 hx hby D5_50 rfl rfl ?_
    refine n_iload X24 hx hby D5_51 rfl ?_
    have ik25 : own_is ((aa + (1 : Int32)) + (1 : Int32)) aa 2 := own_isS (k := 1) ik22 rg21 (by decide) (by decide)
    obtain ⟨pm, e_pm⟩ : ∃ z, z = (pr ++ [(.int (36 : Int32)), (.int (49 : Int32))]) := ⟨_, rfl⟩
    have hl_pm : (pm.length : Int) = (pr.length : Int) + 2 := by rw [e_pm, List.length_append]; rfl
    have Vm : Arv Z h24 ot kk .byte nn pm (.int (0 : Int32)) := by rw [e_pm]; exact Vw24
    have O26 : Old Z n0 h24 := (O19.wr W24 gt)
    refine o_ksc 3 0 0 (Jvm.LawKit.callS X24 hx (y := (⟨s2_, "writeCrLf", "([BI)I"⟩ : MethodName)) hown (mw hZ hw 20 rfl) (mw hZ hw 21 rfl) (mw hZ hw 12 rfl) (mw hZ hw 22 rfl) (by decide) (backOf (W := 0) (rm_wc l Z a0 hw [] ot kk nn pm ((aa + (1 : Int32)) + (1 : Int32)) h24 n0 O26 Vm gt (by have q := own_jj ik25 hb15; omega) (by omega) hns) hZ (own_w hw 22 rfl) (own_w hw 12 rfl) (by decide) (by decide)) (g := (mkF m 53 #[.val (.ref ot), .val (.int aa), .val (.int (36 : Int32)), .val (.int (1 : Int32)), .val (.int ((aa + (1 : Int32)) + (1 : Int32))), .val (.int (aa + (1 : Int32))), .val (.int (0 : Int32))] [(.int ((aa + (1 : Int32)) + (1 : Int32))), (.ref ot)])) rfl (by rw [hml]; rfl) (argsL := [(.ref ot), (.int ((aa + (1 : Int32)) + (1 : Int32)))]) (rest := []) (lenOf own_pd__28_5bBI_29I rfl) rfl own_z (hb hby D5_53) (fun _ _ => ⟨rfl, e24, (by decide : 0 + 0 ≤ _), (by decide : 0 + 0 ≤ _)⟩)) fun T27 Lc27 _ X27 hQ27 => ?_
    obtain ⟨po_27, az_27, rfl, M27, K27, g27_0, r27_0, r27_1, r27_2⟩ := hQ27
    have N27 := Fr.app N24 M27
    obtain ⟨lc27, X27, N27⟩ := own_lc X27 N27
    have z27 := K27.1
    have lt_g27_0 : T27.heap.size > ot := g27_0.lt
    have K28 : Keep h0 T27.heap [ot] := ((((Keep.refl h0 [ot]).wr W18 (Or.inl (List.mem_of_getElem? (i := 0) rfl))).wr W24 (Or.inl (List.mem_of_getElem? (i := 0) rfl))).trans K27 (allS (P := fun x => x ∈ [ot] ∨ h0.size ≤ x) (Or.inl (List.mem_of_getElem? (i := 0) rfl)) all0))
    obtain ⟨fs, hr, hrun, hended, hW, hsame⟩ := X27.leave (v := some (.int az_27)) (fun h => by rw [Bd.returns] at h; cases h)
    refine ⟨_, _, retI X27 hx Bd.returns (hb hby D5_56) hr, hrun, hended, _, _, rfl, ?_, ⟨_, rfl⟩, hW, hsame.mono (by decide) (by decide)⟩
    show Q_rm_wh36 Z ot kk nn pr aa (1 : Int32) h0 n0 _ T27.heap _
    exact ⟨po_27, az_27, rfl, N27, K28, g27_0, (by rw [r27_0, e_pm, own_hd_1, List.append_assoc]; rfl), r27_1, (by omega)⟩
  · skip
    show own_Go p e below (s₁.setTop (mkF m 0 #[.val (.ref ot), .val (.int aa), .val (.int (36 : Int32)), .val (.int (2 : Int32)), .unset, .unset, .unset] [])) _
    have hn_2 := own_hn_2
    refine n_aloadN X0 hx hby D5_0 rfl rfl ?_
    refine n_iloadN X0 hx hby D5_1 rfl ?_
    refine n_iloadN X0 hx hby D5_2 rfl ?_
    refine n_i2b X0 hx hby D5_3 ?_
    show own_Go p e below (s₁.setTop (mkF m 4 #[.val (.ref ot), .val (.int aa), .val (.int (36 : Int32)), .val (.int (2 : Int32)), .unset, .unset, .unset] [(.int ((36 : Int32).toInt8.toInt32)), (.int aa), (.ref ot)])) _
    rw [show (((36 : Int32).toInt8.toInt32) : Int32) = (36 : Int32) from by decide]
    show own_Go p e below (s₁.setTop (mkF m 4 #[.val (.ref ot), .val (.int aa), .val (.int (36 : Int32)), .val (.int (2 : Int32)), .unset, .unset, .unset] [(.int (36 : Int32)), (.int aa), (.ref ot)])) _
    have hb29 : aa.toInt = (pr.length : Int) := by omega
    have hM29 : (pr.length : Int) + ((4 : Nat) : Int) ≤ nn.toInt := by omega
    have ik30 : own_is aa aa 0 := own_is0
    have Vp31 : Arv Z h0 ot kk .byte nn (pr ++ [(.int (0 : Int32))]) (.int (0 : Int32)) := own_wpad0 Fo (n := 1) (us := [(.int (0 : Int32))]) rfl
    obtain ⟨cl32, Ar32, q32, S32, M32, H32, G32⟩ := (id Vp31)
    have hin32 : ¬ (aa < 0 ∨ cl32.slots.size ≤ (aa).toNatClampNeg) := own_inbK S32 ik30 hb29 hM29 (by decide)
    obtain ⟨T32, h32, X32, e32, W32, st32⟩ := stB X0 hx hZ e0 Ar32 (j := aa) hin32 (g := (mkF m 4 #[.val (.ref ot), .val (.int aa), .val (.int (36 : Int32)), .val (.int (2 : Int32)), .unset, .unset, .unset] [(.int (36 : Int32)), (.int aa), (.ref ot)])) rfl rfl (hb hby D5_4)
    refine ob_ st32 ?_
    have z32 := W32.size
    have N32 := Fr.snoc X32 N0 gt
    obtain ⟨lc32, X32, N32⟩ := own_lc X32 N32
    have Vw32 : Arv Z h32 ot kk .byte nn (pr ++ [(.int (36 : Int32))]) (.int (0 : Int32)) := own_wset Vp31 W32 rfl 0 (own_jj ik30 hb29) (Nat.le_of_ble_eq_true rfl)
    refine n_iloadN X32 hx hby D5_5 rfl ?_
    refine oIc X32 hx hby D5_6 (z := (1 : Int32)) rfl ?_
    refine n_iadd X32 hx hby D5_7 ?_
    refine n_iloadN X32 hx hby D5_8 rfl ?_
    have O33 : Old Z n0 h32 := (O0.wr W32 gt)
    refine o_ksc 3 0 0 (Jvm.LawKit.callS X32 hx (y := (⟨s2_, "decimalLength", "(I)I"⟩ : MethodName)) hown (mw hZ hw 14 rfl) (mw hZ hw 15 rfl) (mw hZ hw 12 rfl) (mw hZ hw 16 rfl) (by decide) (backOf (W := 1) (rm_dl2 l Z a0 hw [] h32 n0 O33) hZ (own_w hw 16 rfl) (own_w hw 12 rfl) (by decide) (by decide)) (g := (mkF m 9 #[.val (.ref ot), .val (.int aa), .val (.int (36 : Int32)), .val (.int (2 : Int32)), .unset, .unset, .unset] [(.int (2 : Int32)), (.int (aa + (1 : Int32)))])) rfl (by rw [hml]; rfl) (argsL := [(.int (2 : Int32))]) (rest := [(.int (aa + (1 : Int32)))]) (lenOf own_pd__28I_29I rfl) rfl own_z (hb hby D5_9) (fun _ _ => ⟨rfl, e32, (by decide : 0 + 0 ≤ _), (by decide : 0 + 0 ≤ _)⟩)) fun T34 Lc34 _ X34 hQ34 => ?_
    obtain ⟨rfl, M34, K34⟩ := hQ34
    have N34 := Fr.app N32 M34
    obtain ⟨lc34, X34, N34⟩ := own_lc X34 N34
    refine n_iadd X34 hx hby D5_12 ?_
    refine n_istore X34 hx hby D5_13 (l' := #[.val (.ref ot), .val (.int aa), .val (.int (36 : Int32)), .val (.int (2 : Int32)), .val (.int ((aa + (1 : Int32)) + (1 : Int32))), .unset, .unset]) rfl ?_
    refine n_iload X34 hx hby D5_15 rfl ?_
    refine n_istore X34 hx hby D5_17 (l' := #[.val (.ref ot), .val (.int aa), .val (.int (36 : Int32)), .val (.int (2 : Int32)), .val (.int ((aa + (1 : Int32)) + (1 : Int32))), .val (.int ((aa + (1 : Int32)) + (1 : Int32))), .unset]) rfl ?_
    refine n_iloadN X34 hx hby D5_19 rfl ?_
    refine n_istore X34 hx hby D5_20 (l' := #[.val (.ref ot), .val (.int aa), .val (.int (36 : Int32)), .val (.int (2 : Int32)), .val (.int ((aa + (1 : Int32)) + (1 : Int32))), .val (.int ((aa + (1 : Int32)) + (1 : Int32))), .val (.int (2 : Int32))]) rfl ?_
    refine n_iinc X34 hx hby D5_22 rfl (l' := #[.val (.ref ot), .val (.int aa), .val (.int (36 : Int32)), .val (.int (2 : Int32)), .val (.int ((aa + (1 : Int32)) + (1 : Int32))), .val (.int (((aa + (1 : Int32)) + (1 : Int32)) + (-1 : Int32))), .val (.int (2 : Int32))]) rfl ?_
    show own_Go p e below (T34.setTop (mkF m 25 #[.val (.ref ot), .val (.int aa), .val (.int (36 : Int32)), .val (.int (2 : Int32)), .val (.int ((aa + (1 : Int32)) + (1 : Int32))), .val (.int (((aa + (1 : Int32)) + (1 : Int32)) + (-1 : Int32))), .val (.int (2 : Int32))] [])) _
    rw [show ((((aa + (1 : Int32)) + (1 : Int32)) + (-1 : Int32)) : Int32) = (aa + (1 : Int32)) from own_dec1]
    show own_Go p e below (T34.setTop (mkF m 25 #[.val (.ref ot), .val (.int aa), .val (.int (36 : Int32)), .val (.int (2 : Int32)), .val (.int ((aa + (1 : Int32)) + (1 : Int32))), .val (.int (aa + (1 : Int32))), .val (.int (2 : Int32))] [])) _
    refine n_aloadN X34 hx hby D5_25 rfl rfl ?_
    refine n_iload X34 hx hby D5_26 rfl ?_
    refine oBi X34 hx hby D5_28 (z := (48 : Int32)) rfl ?_
    refine n_iload X34 hx hby D5_30 rfl ?_
    refine oBi X34 hx hby D5_32 (z := (10 : Int32)) rfl ?_
    refine ob_ (fun _ k => iremM (g := (mkF m 34 #[.val (.ref ot), .val (.int aa), .val (.int (36 : Int32)), .val (.int (2 : Int32)), .val (.int ((aa + (1 : Int32)) + (1 : Int32))), .val (.int (aa + (1 : Int32))), .val (.int (2 : Int32))] [(.int (10 : Int32)), (.int (2 : Int32)), (.int (48 : Int32)), (.int (aa + (1 : Int32))), (.ref ot)])) X34 hx rfl (hb hby D5_34) rfl (by decide : ¬ ((10 : Int32) = (0 : Int32))) k) ?_
    show own_Go p e below (T34.setTop (mkF m 35 #[.val (.ref ot), .val (.int aa), .val (.int (36 : Int32)), .val (.int (2 : Int32)), .val (.int ((aa + (1 : Int32)) + (1 : Int32))), .val (.int (aa + (1 : Int32))), .val (.int (2 : Int32))] [(.int ((2 : Int32) % (10 : Int32))), (.int (48 : Int32)), (.int (aa + (1 : Int32))), (.ref ot)])) _
    show own_Go p e below (T34.setTop (mkF m 35 #[.val (.ref ot), .val (.int aa), .val (.int (36 : Int32)), .val (.int (2 : Int32)), .val (.int ((aa + (1 : Int32)) + (1 : Int32))), .val (.int (aa + (1 : Int32))), .val (.int (2 : Int32))] [(.int ((2 : Int32) % (10 : Int32))), (.int (48 : Int32)), (.int (aa + (1 : Int32))), (.ref ot)])) _
    show own_Go p e below (T34.setTop (mkF m 35 #[.val (.ref ot), .val (.int aa), .val (.int (36 : Int32)), .val (.int (2 : Int32)), .val (.int ((aa + (1 : Int32)) + (1 : Int32))), .val (.int (aa + (1 : Int32))), .val (.int (2 : Int32))] [(.int ((2 : Int32) % (10 : Int32))), (.int (48 : Int32)), (.int (aa + (1 : Int32))), (.ref ot)])) _
    rw [show (((2 : Int32) % (10 : Int32)) : Int32) = (2 : Int32) from by decide]
    show own_Go p e below (T34.setTop (mkF m 35 #[.val (.ref ot), .val (.int aa), .val (.int (36 : Int32)), .val (.int (2 : Int32)), .val (.int ((aa + (1 : Int32)) + (1 : Int32))), .val (.int (aa + (1 : Int32))), .val (.int (2 : Int32))] [(.int (2 : Int32)), (.int (48 : Int32)), (.int (aa + (1 : Int32))), (.ref ot)])) _
    refine n_iadd X34 hx hby D5_35 ?_
    show own_Go p e below (T34.setTop (mkF m 36 #[.val (.ref ot), .val (.int aa), .val (.int (36 : Int32)), .val (.int (2 : Int32)), .val (.int ((aa + (1 : Int32)) + (1 : Int32))), .val (.int (aa + (1 : Int32))), .val (.int (2 : Int32))] [(.int ((48 : Int32) + (2 : Int32))), (.int (aa + (1 : Int32))), (.ref ot)])) _
    rw [show (((48 : Int32) + (2 : Int32)) : Int32) = (50 : Int32) from by decide]
    show own_Go p e below (T34.setTop (mkF m 36 #[.val (.ref ot), .val (.int aa), .val (.int (36 : Int32)), .val (.int (2 : Int32)), .val (.int ((aa + (1 : Int32)) + (1 : Int32))), .val (.int (aa + (1 : Int32))), .val (.int (2 : Int32))] [(.int (50 : Int32)), (.int (aa + (1 : Int32))), (.ref ot)])) _
    refine n_i2b X34 hx hby D5_36 ?_
    show own_Go p e below (T34.setTop (mkF m 37 #[.val (.ref ot), .val (.int aa), .val (.int (36 : Int32)), .val (.int (2 : Int32)), .val (.int ((aa + (1 : Int32)) + (1 : Int32))), .val (.int (aa + (1 : Int32))), .val (.int (2 : Int32))] [(.int ((50 : Int32).toInt8.toInt32)), (.int (aa + (1 : Int32))), (.ref ot)])) _
    rw [show (((50 : Int32).toInt8.toInt32) : Int32) = (50 : Int32) from by decide]
    show own_Go p e below (T34.setTop (mkF m 37 #[.val (.ref ot), .val (.int aa), .val (.int (36 : Int32)), .val (.int (2 : Int32)), .val (.int ((aa + (1 : Int32)) + (1 : Int32))), .val (.int (aa + (1 : Int32))), .val (.int (2 : Int32))] [(.int (50 : Int32)), (.int (aa + (1 : Int32))), (.ref ot)])) _
    have rg35 : own_rg aa := ⟨by omega, by omega⟩
    have ik36 : own_is (aa + (1 : Int32)) aa 1 := own_isS (k := 1) ik30 rg35 (by decide) (by decide)
    have Vp37 : Arv Z h32 ot kk .byte nn (pr ++ [(.int (36 : Int32)), (.int (0 : Int32))]) (.int (0 : Int32)) := own_wpad Vw32 (n := 1) (ts := [(.int (36 : Int32)), (.int (0 : Int32))]) rfl
    obtain ⟨cl38, Ar38, q38, S38, M38, H38, G38⟩ := (id Vp37)
    have hin38 : ¬ ((aa + (1 : Int32)) < 0 ∨ cl38.slots.size ≤ ((aa + (1 : Int32))).toNatClampNeg) := own_inbK S38 ik36 hb29 hM29 (by decide)
    obtain ⟨T38, h38, X38, e38, W38, st38⟩ := stB X34 hx hZ K34 Ar38 (j := (aa + (1 : Int32))) hin38 (g := (mkF m 37 #[.val (.ref ot), .val (.int aa), .val (.int (36 : Int32)), .val (.int (2 : Int32)), .val (.int ((aa + (1 : Int32)) + (1 : Int32))), .val (.int (aa + (1 : Int32))), .val (.int (2 : Int32))] [(.int (50 : Int32)), (.int (aa + (1 : Int32))), (.ref ot)])) rfl rfl (hb hby D5_37)
    refine ob_ st38 ?_
    have z38 := W38.size
    have N38 := Fr.snoc X38 N34 gt
    obtain ⟨lc38, X38, N38⟩ := own_lc X38 N38
    have Vw38 : Arv Z h38 ot kk .byte nn (pr ++ [(.int (36 : Int32)), (.int (50 : Int32))]) (.int (0 : Int32)) := own_wset Vp37 W38 rfl 1 (own_jj ik36 hb29) (Nat.le_of_ble_eq_true rfl)
    refine n_iload X38 hx hby D5_38 rfl ?_
    refine oBi X38 hx hby D5_40 (z := (10 : Int32)) rfl ?_
    refine ob_ (fun _ k => XS.idiv X38.here hx rfl (hb hby D5_42) rfl (by decide : ¬ ((10 : Int32) = (0 : Int32))) k) ?_
    show own_Go p e below (T38.setTop (mkF m 43 #[.val (.ref ot), .val (.int aa), .val (.int (36 : Int32)), .val (.int (2 : Int32)), .val (.int ((aa + (1 : Int32)) + (1 : Int32))), .val (.int (aa + (1 : Int32))), .val (.int (2 : Int32))] [(.int ((2 : Int32) / (10 : Int32)))])) _
    show own_Go p e below (T38.setTop (mkF m 43 #[.val (.ref ot), .val (.int aa), .val (.int (36 : Int32)), .val (.int (2 : Int32)), .val (.int ((aa + (1 : Int32)) + (1 : Int32))), .val (.int (aa + (1 : Int32))), .val (.int (2 : Int32))] [(.int ((2 : Int32) / (10 : Int32)))])) _
    show own_Go p e below (T38.setTop (mkF m 43 #[.val (.ref ot), .val (.int aa), .val (.int (36 : Int32)), .val (.int (2 : Int32)), .val (.int ((aa + (1 : Int32)) + (1 : Int32))), .val (.int (aa + (1 : Int32))), .val (.int (2 : Int32))] [(.int ((2 : Int32) / (10 : Int32)))])) _
    rw [show (((2 : Int32) / (10 : Int32)) : Int32) = (0 : Int32) from by decide]
    show own_Go p e below (T38.setTop (mkF m 43 #[.val (.ref ot), .val (.int aa), .val (.int (36 : Int32)), .val (.int (2 : Int32)), .val (.int ((aa + (1 : Int32)) + (1 : Int32))), .val (.int (aa + (1 : Int32))), .val (.int (2 : Int32))] [(.int (0 : Int32))])) _
    refine n_istore X38 hx hby D5_43 (l' := #[.val (.ref ot), .val (.int aa), .val (.int (36 : Int32)), .val (.int (2 : Int32)), .val (.int ((aa + (1 : Int32)) + (1 : Int32))), .val (.int (aa + (1 : Int32))), .val (.int (0 : Int32))]) rfl ?_
    refine n_iload X38 hx hby D5_45 rfl ?_
    refine n_ifNo X38 hx hby D5_47 ((if0 _ _).trans (flt (by decide : ¬ ((0 : Int32) < (0 : Int32)))).2.2.1) ?_
    refine n_aloadN X38 hx hby D5_50 rfl rfl ?_
    refine n_iload X38 hx hby D5_51 rfl ?_
    have ik39 : own_is ((aa + (1 : Int32)) + (1 : Int32)) aa 2 := own_isS (k := 1) ik36 rg35 (by decide) (by decide)
    obtain ⟨pm, e_pm⟩ : ∃ z, z = (pr ++ [(.int (36 : Int32)), (.int (50 : Int32))]) := ⟨_, rfl⟩
    have hl_pm : (pm.length : Int) = (pr.length : Int) + 2 := by rw [e_pm, List.length_append]; rfl
    have Vm : Arv Z h38 ot kk .byte nn pm (.int (0 : Int32)) := by rw [e_pm]; exact Vw38
    have O40 : Old Z n0 h38 := (O33.wr W38 gt)
    refine o_ksc 3 0 0 (Jvm.LawKit.callS X38 hx (y := (⟨s2_, "writeCrLf", "([BI)I"⟩ : MethodName)) hown (mw hZ hw 20 rfl) (mw hZ hw 21 rfl) (mw hZ hw 12 rfl) (mw hZ hw 22 rfl) (by decide) (backOf (W := 0) (rm_wc l Z a0 hw [] ot kk nn pm ((aa + (1 : Int32)) + (1 : Int32)) h38 n0 O40 Vm gt (by have q := own_jj ik39 hb29; omega) (by omega) hns) hZ (own_w hw 22 rfl) (own_w hw 12 rfl) (by decide) (by decide)) (g := (mkF m 53 #[.val (.ref ot), .val (.int aa), .val (.int (36 : Int32)), .val (.int (2 : Int32)), .val (.int ((aa + (1 : Int32)) + (1 : Int32))), .val (.int (aa + (1 : Int32))), .val (.int (0 : Int32))] [(.int ((aa + (1 : Int32)) + (1 : Int32))), (.ref ot)])) rfl (by rw [hml]; rfl) (argsL := [(.ref ot), (.int ((aa + (1 : Int32)) + (1 : Int32)))]) (rest := []) (lenOf own_pd__28_5bBI_29I rfl) rfl own_z (hb hby D5_53) (fun _ _ => ⟨rfl, e38, (by decide : 0 + 0 ≤ _), (by decide : 0 + 0 ≤ _)⟩)) fun T41 Lc41 _ X41 hQ41 => ?_
    obtain ⟨po_41, az_41, rfl, M41, K41, g41_0, r41_0, r41_1, r41_2⟩ := hQ41
    have N41 := Fr.app N38 M41
    obtain ⟨lc41, X41, N41⟩ := own_lc X41 N41
    have z41 := K41.1
    have lt_g41_0 : T41.heap.size > ot := g41_0.lt
    have K42 : Keep h0 T41.heap [ot] := ((((Keep.refl h0 [ot]).wr W32 (Or.inl (List.mem_of_getElem? (i := 0) rfl))).wr W38 (Or.inl (List.mem_of_getElem? (i := 0) rfl))).trans K41 (allS (P := fun x => x ∈ [ot] ∨ h0.size ≤ x) (Or.inl (List.mem_of_getElem? (i := 0) rfl)) all0))
    obtain ⟨fs, hr, hrun, hended, hW, hsame⟩ := X41.leave (v := some (.int az_41)) (fun h => by rw [Bd.returns] at h; cases h)
    refine ⟨_, _, retI X41 hx Bd.returns (hb hby D5_56) hr, hrun, hended, _, _, rfl, ?_, ⟨_, rfl⟩, hW, hsame.mono (by decide) (by decide)⟩
    show Q_rm_wh36 Z ot kk nn pr aa (2 : Int32) h0 n0 _ T41.heap _
    exact ⟨po_41, az_41, rfl, N41, K42, g41_0, (by rw [r41_0, e_pm, own_hd_2, List.append_assoc]; rfl), r41_1, (by omega)⟩
  · skip
    show own_Go p e below (s₁.setTop (mkF m 0 #[.val (.ref ot), .val (.int aa), .val (.int (36 : Int32)), .val (.int (10 : Int32)), .unset, .unset, .unset] [])) _
    have hn_10 := own_hn_10
    refine n_aloadN X0 hx hby D5_0 rfl rfl ?_
    refine n_iloadN X0 hx hby D5_1 rfl ?_
    refine n_iloadN X0 hx hby D5_2 rfl ?_
    refine n_i2b X0 hx hby D5_3 ?_
    show own_Go p e below (s₁.setTop (mkF m 4 #[.val (.ref ot), .val (.int aa), .val (.int (36 : Int32)), .val (.int (10 : Int32)), .unset, .unset, .unset] [(.int ((36 : Int32).toInt8.toInt32)), (.int aa), (.ref ot)])) _
    rw [show (((36 : Int32).toInt8.toInt32) : Int32) = (36 : Int32) from by decide]
    show own_Go p e below (s₁.setTop (mkF m 4 #[.val (.ref ot), .val (.int aa), .val (.int (36 : Int32)), .val (.int (10 : Int32)), .unset, .unset, .unset] [(.int (36 : Int32)), (.int aa), (.ref ot)])) _
    have hb43 : aa.toInt = (pr.length : Int) := by omega
    have hM43 : (pr.length : Int) + ((5 : Nat) : Int) ≤ nn.toInt := by omega
    have ik44 : own_is aa aa 0 := own_is0
    have Vp45 : Arv Z h0 ot kk .byte nn (pr ++ [(.int (0 : Int32))]) (.int (0 : Int32)) := own_wpad0 Fo (n := 1) (us := [(.int (0 : Int32))]) rfl
    obtain ⟨cl46, Ar46, q46, S46, M46, H46, G46⟩ := (id Vp45)
    have hin46 : ¬ (aa < 0 ∨ cl46.slots.size ≤ (aa).toNatClampNeg) := own_inbK S46 ik44 hb43 hM43 (by decide)
    obtain ⟨T46, h46, X46, e46, W46, st46⟩ := stB X0 hx hZ e0 Ar46 (j := aa) hin46 (g := (mkF m 4 #[.val (.ref ot), .val (.int aa), .val (.int (36 : Int32)), .val (.int (10 : Int32)), .unset, .unset, .unset] [(.int (36 : Int32)), (.int aa), (.ref ot)])) rfl rfl (hb hby D5_4)
    refine ob_ st46 ?_
    have z46 := W46.size
    have N46 := Fr.snoc X46 N0 gt
    obtain ⟨lc46, X46, N46⟩ := own_lc X46 N46
    have Vw46 : Arv Z h46 ot kk .byte nn (pr ++ [(.int (36 : Int32))]) (.int (0 : Int32)) := own_wset Vp45 W46 rfl 0 (own_jj ik44 hb43) (Nat.le_of_ble_eq_true rfl)
    refine n_iloadN X46 hx hby D5_5 rfl ?_
    refine oIc X46 hx hby D5_6 (z := (1 : Int32)) rfl ?_
    refine n_iadd X46 hx hby D5_7 ?_
    refine n_iloadN X46 hx hby D5_8 rfl ?_
    have O47 : Old Z n0 h46 := (O0.wr W46 gt)
    refine o_ksc 3 0 0 (Jvm.LawKit.callS X46 hx (y := (⟨s2_, "decimalLength", "(I)I"⟩ : MethodName)) hown (mw hZ hw 14 rfl) (mw hZ hw 15 rfl) (mw hZ hw 12 rfl) (mw hZ hw 16 rfl) (by decide) (backOf (W := 1) (rm_dl10 l Z a0 hw [] h46 n0 O47) hZ (own_w hw 16 rfl) (own_w hw 12 rfl) (by decide) (by decide)) (g := (mkF m 9 #[.val (.ref ot), .val (.int aa), .val (.int (36 : Int32)), .val (.int (10 : Int32)), .unset, .unset, .unset] [(.int (10 : Int32)), (.int (aa + (1 : Int32)))])) rfl (by rw [hml]; rfl) (argsL := [(.int (10 : Int32))]) (rest := [(.int (aa + (1 : Int32)))]) (lenOf own_pd__28I_29I rfl) rfl own_z (hb hby D5_9) (fun _ _ => ⟨rfl, e46, (by decide : 0 + 0 ≤ _), (by decide : 0 + 0 ≤ _)⟩)) fun T48 Lc48 _ X48 hQ48 => ?_
    obtain ⟨rfl, M48, K48⟩ := hQ48
    have N48 := Fr.app N46 M48
    obtain ⟨lc48, X48, N48⟩ := own_lc X48 N48
    refine n_iadd X48 hx hby D5_12 ?_
    refine n_istore X48 hx hby D5_13 (l' := #[.val (.ref ot), .val (.int aa), .val (.int (36 : Int32)), .val (.int (10 : Int32)), .val (.int ((aa + (1 : Int32)) + (2 : Int32))), .unset, .unset]) rfl ?_
    refine n_iload X48 hx hby D5_15 rfl ?_
    refine n_istore X48 hx hby D5_17 (l' := #[.val (.ref ot), .val (.int aa), .val (.int (36 : Int32)), .val (.int (10 : Int32)), .val (.int ((aa + (1 : Int32)) + (2 : Int32))), .val (.int ((aa + (1 : Int32)) + (2 : Int32))), .unset]) rfl ?_
    refine n_iloadN X48 hx hby D5_19 rfl ?_
    refine n_istore X48 hx hby D5_20 (l' := #[.val (.ref ot), .val (.int aa), .val (.int (36 : Int32)), .val (.int (10 : Int32)), .val (.int ((aa + (1 : Int32)) + (2 : Int32))), .val (.int ((aa + (1 : Int32)) + (2 : Int32))), .val (.int (10 : Int32))]) rfl ?_
    refine n_iinc X48 hx hby D5_22 rfl (l' := #[.val (.ref ot), .val (.int aa), .val (.int (36 : Int32)), .val (.int (10 : Int32)), .val (.int ((aa + (1 : Int32)) + (2 : Int32))), .val (.int (((aa + (1 : Int32)) + (2 : Int32)) + (-1 : Int32))), .val (.int (10 : Int32))]) rfl ?_
    show own_Go p e below (T48.setTop (mkF m 25 #[.val (.ref ot), .val (.int aa), .val (.int (36 : Int32)), .val (.int (10 : Int32)), .val (.int ((aa + (1 : Int32)) + (2 : Int32))), .val (.int (((aa + (1 : Int32)) + (2 : Int32)) + (-1 : Int32))), .val (.int (10 : Int32))] [])) _
    rw [show ((((aa + (1 : Int32)) + (2 : Int32)) + (-1 : Int32)) : Int32) = ((aa + (1 : Int32)) + (1 : Int32)) from own_dec2]
    show own_Go p e below (T48.setTop (mkF m 25 #[.val (.ref ot), .val (.int aa), .val (.int (36 : Int32)), .val (.int (10 : Int32)), .val (.int ((aa + (1 : Int32)) + (2 : Int32))), .val (.int ((aa + (1 : Int32)) + (1 : Int32))), .val (.int (10 : Int32))] [])) _
    refine n_aloadN X48 hx hby D5_25 rfl rfl ?_
    refine n_iload X48 hx hby D5_26 rfl ?_
    refine oBi X48 hx hby D5_28 (z := (48 : Int32)) rfl ?_
    refine n_iload X48 hx hby D5_30 rfl ?_
    refine oBi X48 hx hby D5_32 (z := (10 : Int32)) rfl ?_
    refine ob_ (fun _ k => iremM (g := (mkF m 34 #[.val (.ref ot), .val (.int aa), .val (.int (36 : Int32)), .val (.int (10 : Int32)), .val (.int ((aa + (1 : Int32)) + (2 : Int32))), .val (.int ((aa + (1 : Int32)) + (1 : Int32))), .val (.int (10 : Int32))] [(.int (10 : Int32)), (.int (10 : Int32)), (.int (48 : Int32)), (.int ((aa + (1 : Int32)) + (1 : Int32))), (.ref ot)])) X48 hx rfl (hb hby D5_34) rfl (by decide : ¬ ((10 : Int32) = (0 : Int32))) k) ?_
    show own_Go p e below (T48.setTop (mkF m 35 #[.val (.ref ot), .val (.int aa), .val (.int (36 : Int32)), .val (.int (10 : Int32)), .val (.int ((aa + (1 : Int32)) + (2 : Int32))), .val (.int ((aa + (1 : Int32)) + (1 : Int32))), .val (.int (10 : Int32))] [(.int ((10 : Int32) % (10 : Int32))), (.int (48 : Int32)), (.int ((aa + (1 : Int32)) + (1 : Int32))), (.ref ot)])) _
    show own_Go p e below (T48.setTop (mkF m 35 #[.val (.ref ot), .val (.int aa), .val (.int (36 : Int32)), .val (.int (10 : Int32)), .val (.int ((aa + (1 : Int32)) + (2 : Int32))), .val (.int ((aa + (1 : Int32)) + (1 : Int32))), .val (.int (10 : Int32))] [(.int ((10 : Int32) % (10 : Int32))), (.int (48 : Int32)), (.int ((aa + (1 : Int32)) + (1 : Int32))), (.ref ot)])) _
    show own_Go p e below (T48.setTop (mkF m 35 #[.val (.ref ot), .val (.int aa), .val (.int (36 : Int32)), .val (.int (10 : Int32)), .val (.int ((aa + (1 : Int32)) + (2 : Int32))), .val (.int ((aa + (1 : Int32)) + (1 : Int32))), .val (.int (10 : Int32))] [(.int ((10 : Int32) % (10 : Int32))), (.int (48 : Int32)), (.int ((aa + (1 : Int32)) + (1 : Int32))), (.ref ot)])) _
    rw [show (((10 : Int32) % (10 : Int32)) : Int32) = (0 : Int32) from by decide]
    show own_Go p e below (T48.setTop (mkF m 35 #[.val (.ref ot), .val (.int aa), .val (.int (36 : Int32)), .val (.int (10 : Int32)), .val (.int ((aa + (1 : Int32)) + (2 : Int32))), .val (.int ((aa + (1 : Int32)) + (1 : Int32))), .val (.int (10 : Int32))] [(.int (0 : Int32)), (.int (48 : Int32)), (.int ((aa + (1 : Int32)) + (1 : Int32))), (.ref ot)])) _
    refine n_iadd X48 hx hby D5_35 ?_
    show own_Go p e below (T48.setTop (mkF m 36 #[.val (.ref ot), .val (.int aa), .val (.int (36 : Int32)), .val (.int (10 : Int32)), .val (.int ((aa + (1 : Int32)) + (2 : Int32))), .val (.int ((aa + (1 : Int32)) + (1 : Int32))), .val (.int (10 : Int32))] [(.int ((48 : Int32) + (0 : Int32))), (.int ((aa + (1 : Int32)) + (1 : Int32))), (.ref ot)])) _
    rw [show (((48 : Int32) + (0 : Int32)) : Int32) = (48 : Int32) from by decide]
    show own_Go p e below (T48.setTop (mkF m 36 #[.val (.ref ot), .val (.int aa), .val (.int (36 : Int32)), .val (.int (10 : Int32)), .val (.int ((aa + (1 : Int32)) + (2 : Int32))), .val (.int ((aa + (1 : Int32)) + (1 : Int32))), .val (.int (10 : Int32))] [(.int (48 : Int32)), (.int ((aa + (1 : Int32)) + (1 : Int32))), (.ref ot)])) _
    refine n_i2b X48 hx hby D5_36 ?_
    show own_Go p e below (T48.setTop (mkF m 37 #[.val (.ref ot), .val (.int aa), .val (.int (36 : Int32)), .val (.int (10 : Int32)), .val (.int ((aa + (1 : Int32)) + (2 : Int32))), .val (.int ((aa + (1 : Int32)) + (1 : Int32))), .val (.int (10 : Int32))] [(.int ((48 : Int32).toInt8.toInt32)), (.int ((aa + (1 : Int32)) + (1 : Int32))), (.ref ot)])) _
    rw [show (((48 : Int32).toInt8.toInt32) : Int32) = (48 : Int32) from by decide]
    show own_Go p e below (T48.setTop (mkF m 37 #[.val (.ref ot), .val (.int aa), .val (.int (36 : Int32)), .val (.int (10 : Int32)), .val (.int ((aa + (1 : Int32)) + (2 : Int32))), .val (.int ((aa + (1 : Int32)) + (1 : Int32))), .val (.int (10 : Int32))] [(.int (48 : Int32)), (.int ((aa + (1 : Int32)) + (1 : Int32))), (.ref ot)])) _
    have rg49 : own_rg aa := ⟨by omega, by omega⟩
    have ik50 : own_is (aa + (1 : Int32)) aa 1 := own_isS (k := 1) ik44 rg49 (by decide) (by decide)
    have ik51 : own_is ((aa + (1 : Int32)) + (1 : Int32)) aa 2 := own_isS (k := 1) ik50 rg49 (by decide) (by decide)
    have Vp52 : Arv Z h46 ot kk .byte nn (pr ++ [(.int (36 : Int32)), (.int (0 : Int32)), (.int (0 : Int32))]) (.int (0 : Int32)) := own_wpad Vw46 (n := 2) (ts := [(.int (36 : Int32)), (.int (0 : Int32)), (.int (0 : Int32))]) rfl
    obtain ⟨cl53, Ar53, q53, S53, M53, H53, G53⟩ := (id Vp52)
    have hin53 : ¬ (((aa + (1 : Int32)) + (1 : Int32)) < 0 ∨ cl53.slots.size ≤ (((aa + (1 : Int32)) + (1 : Int32))).toNatClampNeg) := own_inbK S53 ik51 hb43 hM43 (by decide)
    obtain ⟨T53, h53, X53, e53, W53, st53⟩ := stB X48 hx hZ K48 Ar53 (j := ((aa + (1 : Int32)) + (1 : Int32))) hin53 (g := (mkF m 37 #[.val (.ref ot), .val (.int aa), .val (.int (36 : Int32)), .val (.int (10 : Int32)), .val (.int ((aa + (1 : Int32)) + (2 : Int32))), .val (.int ((aa + (1 : Int32)) + (1 : Int32))), .val (.int (10 : Int32))] [(.int (48 : Int32)), (.int ((aa + (1 : Int32)) + (1 : Int32))), (.ref ot)])) rfl rfl (hb hby D5_37)
    refine ob_ st53 ?_
    have z53 := W53.size
    have N53 := Fr.snoc X53 N48 gt
    obtain ⟨lc53, X53, N53⟩ := own_lc X53 N53
    have Vw53 : Arv Z h53 ot kk .byte nn (pr ++ [(.int (36 : Int32)), (.int (0 : Int32)), (.int (48 : Int32))]) (.int (0 : Int32)) := own_wset Vp52 W53 rfl 2 (own_jj ik51 hb43) (Nat.le_of_ble_eq_true rfl)
    refine n_iload X53 hx hby D5_38 rfl ?_
    refine oBi X53 hx hby D5_40 (z := (10 : Int32)) rfl ?_
    refine ob_ (fun _ k => XS.idiv X53.here hx rfl (hb hby D5_42) rfl (by decide : ¬ ((10 : Int32) = (0 : Int32))) k) ?_
    show own_Go p e below (T53.setTop (mkF m 43 #[.val (.ref ot), .val (.int aa), .val (.int (36 : Int32)), .val (.int (10 : Int32)), .val (.int ((aa + (1 : Int32)) + (2 : Int32))), .val (.int ((aa + (1 : Int32)) + (1 : Int32))), .val (.int (10 : Int32))] [(.int ((10 : Int32) / (10 : Int32)))])) _
    show own_Go p e below (T53.setTop (mkF m 43 #[.val (.ref ot), .val (.int aa), .val (.int (36 : Int32)), .val (.int (10 : Int32)), .val (.int ((aa + (1 : Int32)) + (2 : Int32))), .val (.int ((aa + (1 : Int32)) + (1 : Int32))), .val (.int (10 : Int32))] [(.int ((10 : Int32) / (10 : Int32)))])) _
    show own_Go p e below (T53.setTop (mkF m 43 #[.val (.ref ot), .val (.int aa), .val (.int (36 : Int32)), .val (.int (10 : Int32)), .val (.int ((aa + (1 : Int32)) + (2 : Int32))), .val (.int ((aa + (1 : Int32)) + (1 : Int32))), .val (.int (10 : Int32))] [(.int ((10 : Int32) / (10 : Int32)))])) _
    rw [show (((10 : Int32) / (10 : Int32)) : Int32) = (1 : Int32) from by decide]
    show own_Go p e below (T53.setTop (mkF m 43 #[.val (.ref ot), .val (.int aa), .val (.int (36 : Int32)), .val (.int (10 : Int32)), .val (.int ((aa + (1 : Int32)) + (2 : Int32))), .val (.int ((aa + (1 : Int32)) + (1 : Int32))), .val (.int (10 : Int32))] [(.int (1 : Int32))])) _
    refine n_istore X53 hx hby D5_43 (l' := #[.val (.ref ot), .val (.int aa), .val (.int (36 : Int32)), .val (.int (10 : Int32)), .val (.int ((aa + (1 : Int32)) + (2 : Int32))), .val (.int ((aa + (1 : Int32)) + (1 : Int32))), .val (.int (1 : Int32))]) rfl ?_
    refine n_iload X53 hx hby D5_45 rfl ?_
    refine n_ifYes X53 hx hby D5_47 (pc0 := 47) (pc' := 22) rfl ((if0 _ _).trans (tlt (by decide : (0 : Int32) < (1 : Int32))).2.2.1) (by decide) (by decide) ?_
    refine n_iinc X53 hx hby D5_22 rfl (l' := #[.val (.ref ot), .val (.int aa), .val (.int (36 : Int32)), .val (.int (10 : Int32)), .val (.int ((aa + (1 : Int32)) + (2 : Int32))), .val (.int (((aa + (1 : Int32)) + (1 : Int32)) + (-1 : Int32))), .val (.int (1 : Int32))]) rfl ?_
    show own_Go p e below (T53.setTop (mkF m 25 #[.val (.ref ot), .val (.int aa), .val (.int (36 : Int32)), .val (.int (10 : Int32)), .val (.int ((aa + (1 : Int32)) + (2 : Int32))), .val (.int (((aa + (1 : Int32)) + (1 : Int32)) + (-1 : Int32))), .val (.int (1 : Int32))] [])) _
    rw [show ((((aa + (1 : Int32)) + (1 : Int32)) + (-1 : Int32)) : Int32) = (aa + (1 : Int32)) from own_dec1]
    show own_Go p e below (T53.setTop (mkF m 25 #[.val (.ref ot), .val (.int aa), .val (.int (36 : Int32)), .val (.int (10 : Int32)), .val (.int ((aa + (1 : Int32)) + (2 : Int32))), .val (.int (aa + (1 : Int32))), .val (.int (1 : Int32))] [])) _
    refine n_aloadN X53 hx hby D5_25 rfl rfl ?_
    refine n_iload X53 hx hby D5_26 rfl ?_
    refine oBi X53 hx hby D5_28 (z := (48 : Int32)) rfl ?_
    refine n_iload X53 hx hby D5_30 rfl ?_
    refine oBi X53 hx hby D5_32 (z := (10 : Int32)) rfl ?_
    refine ob_ (fun _ k => iremM (g := (mkF m 34 #[.val (.ref ot), .val (.int aa), .val (.int (36 : Int32)), .val (.int (10 : Int32)), .val (.int ((aa + (1 : Int32)) + (2 : Int32))), .val (.int (aa + (1 : Int32))), .val (.int (1 : Int32))] [(.int (10 : Int32)), (.int (1 : Int32)), (.int (48 : Int32)), (.int (aa + (1 : Int32))), (.ref ot)])) X53 hx rfl (hb hby D5_34) rfl (by decide : ¬ ((10 : Int32) = (0 : Int32))) k) ?_
    show own_Go p e below (T53.setTop (mkF m 35 #[.val (.ref ot), .val (.int aa), .val (.int (36 : Int32)), .val (.int (10 : Int32)), .val (.int ((aa + (1 : Int32)) + (2 : Int32))), .val (.int (aa + (1 : Int32))), .val (.int (1 : Int32))] [(.int ((1 : Int32) % (10 : Int32))), (.int (48 : Int32)), (.int (aa + (1 : Int32))), (.ref ot)])) _
    show own_Go p e below (T53.setTop (mkF m 35 #[.val (.ref ot), .val (.int aa), .val (.int (36 : Int32)), .val (.int (10 : Int32)), .val (.int ((aa + (1 : Int32)) + (2 : Int32))), .val (.int (aa + (1 : Int32))), .val (.int (1 : Int32))] [(.int ((1 : Int32) % (10 : Int32))), (.int (48 : Int32)), (.int (aa + (1 : Int32))), (.ref ot)])) _
    show own_Go p e below (T53.setTop (mkF m 35 #[.val (.ref ot), .val (.int aa), .val (.int (36 : Int32)), .val (.int (10 : Int32)), .val (.int ((aa + (1 : Int32)) + (2 : Int32))), .val (.int (aa + (1 : Int32))), .val (.int (1 : Int32))] [(.int ((1 : Int32) % (10 : Int32))), (.int (48 : Int32)), (.int (aa + (1 : Int32))), (.ref ot)])) _
    rw [show (((1 : Int32) % (10 : Int32)) : Int32) = (1 : Int32) from by decide]
    show own_Go p e below (T53.setTop (mkF m 35 #[.val (.ref ot), .val (.int aa), .val (.int (36 : Int32)), .val (.int (10 : Int32)), .val (.int ((aa + (1 : Int32)) + (2 : Int32))), .val (.int (aa + (1 : Int32))), .val (.int (1 : Int32))] [(.int (1 : Int32)), (.int (48 : Int32)), (.int (aa + (1 : Int32))), (.ref ot)])) _
    refine n_iadd X53 hx hby D5_35 ?_
    show own_Go p e below (T53.setTop (mkF m 36 #[.val (.ref ot), .val (.int aa), .val (.int (36 : Int32)), .val (.int (10 : Int32)), .val (.int ((aa + (1 : Int32)) + (2 : Int32))), .val (.int (aa + (1 : Int32))), .val (.int (1 : Int32))] [(.int ((48 : Int32) + (1 : Int32))), (.int (aa + (1 : Int32))), (.ref ot)])) _
    rw [show (((48 : Int32) + (1 : Int32)) : Int32) = (49 : Int32) from by decide]
    show own_Go p e below (T53.setTop (mkF m 36 #[.val (.ref ot), .val (.int aa), .val (.int (36 : Int32)), .val (.int (10 : Int32)), .val (.int ((aa + (1 : Int32)) + (2 : Int32))), .val (.int (aa + (1 : Int32))), .val (.int (1 : Int32))] [(.int (49 : Int32)), (.int (aa + (1 : Int32))), (.ref ot)])) _
    refine n_i2b X53 hx hby D5_36 ?_
    show own_Go p e below (T53.setTop (mkF m 37 #[.val (.ref ot), .val (.int aa), .val (.int (36 : Int32)), .val (.int (10 : Int32)), .val (.int ((aa + (1 : Int32)) + (2 : Int32))), .val (.int (aa + (1 : Int32))), .val (.int (1 : Int32))] [(.int ((49 : Int32).toInt8.toInt32)), (.int (aa + (1 : Int32))), (.ref ot)])) _
    rw [show (((49 : Int32).toInt8.toInt32) : Int32) = (49 : Int32) from by decide]
    show own_Go p e below (T53.setTop (mkF m 37 #[.val (.ref ot), .val (.int aa), .val (.int (36 : Int32)), .val (.int (10 : Int32)), .val (.int ((aa + (1 : Int32)) + (2 : Int32))), .val (.int (aa + (1 : Int32))), .val (.int (1 : Int32))] [(.int (49 : Int32)), (.int (aa + (1 : Int32))), (.ref ot)])) _
    obtain ⟨cl54, Ar54, q54, S54, M54, H54, G54⟩ := (id Vw53)
    have hin54 : ¬ ((aa + (1 : Int32)) < 0 ∨ cl54.slots.size ≤ ((aa + (1 : Int32))).toNatClampNeg) := own_inbK S54 ik50 hb43 hM43 (by decide)
    obtain ⟨T54, h54, X54, e54, W54, st54⟩ := stB X53 hx hZ e53 Ar54 (j := (aa + (1 : Int32))) hin54 (g := (mkF m 37 #[.val (.ref ot), .val (.int aa), .val (.int (36 : Int32)), .val (.int (10 : Int32)), .val (.int ((aa + (1 : Int32)) + (2 : Int32))), .val (.int (aa + (1 : Int32))), .val (.int (1 : Int32))] [(.int (49 : Int32)), (.int (aa + (1 : Int32))), (.ref ot)])) rfl rfl (hb hby D5_37)
    refine ob_ st54 ?_
    have z54 := W54.size
    have N54 := Fr.snoc X54 N53 gt
    obtain ⟨lc54, X54, N54⟩ := own_lc X54 N54
    have Vw54 : Arv Z h54 ot kk .byte nn (pr ++ [(.int (36 : Int32)), (.int (49 : Int32)), (.int (48 : Int32))]) (.int (0 : Int32)) := own_wset Vw53 W54 rfl 1 (own_jj ik50 hb43) (Nat.le_of_ble_eq_true rfl)
    refine n_iload X54 hx hby D5_38 rfl ?_
    refine oBi X54 hx hby D5_40 (z := (10 : Int32)) rfl ?_
    refine ob_ (fun _ k => XS.idiv X54.here hx rfl (hb hby D5_42) rfl (by decide : ¬ ((10 : Int32) = (0 : Int32))) k) ?_
    show own_Go p e below (T54.setTop (mkF m 43 #[.val (.ref ot), .val (.int aa), .val (.int (36 : Int32)), .val (.int (10 : Int32)), .val (.int ((aa + (1 : Int32)) + (2 : Int32))), .val (.int (aa + (1 : Int32))), .val (.int (1 : Int32))] [(.int ((1 : Int32) / (10 : Int32)))])) _
    show own_Go p e below (T54.setTop (mkF m 43 #[.val (.ref ot), .val (.int aa), .val (.int (36 : Int32)), .val (.int (10 : Int32)), .val (.int ((aa + (1 : Int32)) + (2 : Int32))), .val (.int (aa + (1 : Int32))), .val (.int (1 : Int32))] [(.int ((1 : Int32) / (10 : Int32)))])) _
    show own_Go p e below (T54.setTop (mkF m 43 #[.val (.ref ot), .val (.int aa), .val (.int (36 : Int32)), .val (.int (10 : Int32)), .val (.int ((aa + (1 : Int32)) + (2 : Int32))), .val (.int (aa + (1 : Int32))), .val (.int (1 : Int32))] [(.int ((1 : Int32) / (10 : Int32)))])) _
    rw [show (((1 : Int32) / (10 : Int32)) : Int32) = (0 : Int32) from by decide]
    show own_Go p e below (T54.setTop (mkF m 43 #[.val (.ref ot), .val (.int aa), .val (.int (36 : Int32)), .val (.int (10 : Int32)), .val (.int ((aa + (1 : Int32)) + (2 : Int32))), .val (.int (aa + (1 : Int32))), .val (.int (1 : Int32))] [(.int (0 : Int32))])) _
    refine n_istore X54 hx hby D5_43 (l' := #[.val (.ref ot), .val (.int aa), .val (.int (36 : Int32)), .val (.int (10 : Int32)), .val (.int ((aa + (1 : Int32)) + (2 : Int32))), .val (.int (aa + (1 : Int32))), .val (.int (0 : Int32))]) rfl ?_
    refine n_iload X54 hx hby D5_45 rfl ?_
    refine n_ifNo X54 hx hby D5_47 ((if0 _ _).trans (flt (by decide : ¬ ((0 : Int32) < (0 : Int32)))).2.2.1) ?_
    refine n_aloadN X54 hx hby D5_50 rfl rfl ?_
    refine n_iload X54 hx hby D5_51 rfl ?_
    have ik55 : own_is ((aa + (1 : Int32)) + (2 : Int32)) aa 3 := own_isS (k := 2) ik50 rg49 (by decide) (by decide)
    obtain ⟨pm, e_pm⟩ : ∃ z, z = (pr ++ [(.int (36 : Int32)), (.int (49 : Int32)), (.int (48 : Int32))]) := ⟨_, rfl⟩
    have hl_pm : (pm.length : Int) = (pr.length : Int) + 3 := by rw [e_pm, List.length_append]; rfl
    have Vm : Arv Z h54 ot kk .byte nn pm (.int (0 : Int32)) := by rw [e_pm]; exact Vw54
    have O56 : Old Z n0 h54 := ((O47.wr W53 gt).wr W54 gt)
    refine o_ksc 3 0 0 (Jvm.LawKit.callS X54 hx (y := (⟨s2_, "writeCrLf", "([BI)I"⟩ : MethodName)) hown (mw hZ hw 20 rfl) (mw hZ hw 21 rfl) (mw hZ hw 12 rfl) (mw hZ hw 22 rfl) (by decide) (backOf (W := 0) (rm_wc l Z a0 hw [] ot kk nn pm ((aa + (1 : Int32)) + (2 : Int32)) h54 n0 O56 Vm gt (by have q := own_jj ik55 hb43; omega) (by omega) hns) hZ (own_w hw 22 rfl) (own_w hw 12 rfl) (by decide) (by decide)) (g := (mkF m 53 #[.val (.ref ot), .val (.int aa), .val (.int (36 : Int32)), .val (.int (10 : Int32)), .val (.int ((aa + (1 : Int32)) + (2 : Int32))), .val (.int (aa + (1 : Int32))), .val (.int (0 : Int32))] [(.int ((aa + (1 : Int32)) + (2 : Int32))), (.ref ot)])) rfl (by rw [hml]; rfl) (argsL := [(.ref ot), (.int ((aa + (1 : Int32)) + (2 : Int32)))]) (rest := []) (lenOf own_pd__28_5bBI_29I rfl) rfl own_z (hb hby D5_53) (fun _ _ => ⟨rfl, e54, (by decide : 0 + 0 ≤ _), (by decide : 0 + 0 ≤ _)⟩)) fun T57 Lc57 _ X57 hQ57 => ?_
    obtain ⟨po_57, az_57, rfl, M57, K57, g57_0, r57_0, r57_1, r57_2⟩ := hQ57
    have N57 := Fr.app N54 M57
    obtain ⟨lc57, X57, N57⟩ := own_lc X57 N57
    have z57 := K57.1
    have lt_g57_0 : T57.heap.size > ot := g57_0.lt
    have K58 : Keep h0 T57.heap [ot] := (((((Keep.refl h0 [ot]).wr W46 (Or.inl (List.mem_of_getElem? (i := 0) rfl))).wr W53 (Or.inl (List.mem_of_getElem? (i := 0) rfl))).wr W54 (Or.inl (List.mem_of_getElem? (i := 0) rfl))).trans K57 (allS (P := fun x => x ∈ [ot] ∨ h0.size ≤ x) (Or.inl (List.mem_of_getElem? (i := 0) rfl)) all0))
    obtain ⟨fs, hr, hrun, hended, hW, hsame⟩ := X57.leave (v := some (.int az_57)) (fun h => by rw [Bd.returns] at h; cases h)
    refine ⟨_, _, retI X57 hx Bd.returns (hb hby D5_56) hr, hrun, hended, _, _, rfl, ?_, ⟨_, rfl⟩, hW, hsame.mono (by decide) (by decide)⟩
    show Q_rm_wh36 Z ot kk nn pr aa (10 : Int32) h0 n0 _ T57.heap _
    exact ⟨po_57, az_57, rfl, N57, K58, g57_0, (by rw [r57_0, e_pm, own_hd_10, List.append_assoc]; rfl), r57_1, (by omega)⟩
theorem D3_0 : decode prog_9_method_2_code 0 = .ok (.iconst 1, 1) := by decide +kernel
theorem D3_1 : decode prog_9_method_2_code 1 = .ok (.aload_n 0, 1) := by decide +kernel
theorem D3_2 : decode prog_9_method_2_code 2 = .ok (.arraylength, 1) := by decide +kernel
theorem D3_3 : decode prog_9_method_2_code 3 = .ok (.invokestatic 7, 3) := by decide +kernel
theorem D3_6 : decode prog_9_method_2_code 6 = .ok (.iadd, 1) := by decide +kernel
theorem D3_7 : decode prog_9_method_2_code 7 = .ok (.iconst 2, 1) := by decide +kernel
theorem D3_8 : decode prog_9_method_2_code 8 = .ok (.iadd, 1) := by decide +kernel
theorem D3_9 : decode prog_9_method_2_code 9 = .ok (.istore_n 1, 1) := by decide +kernel
theorem D3_10 : decode prog_9_method_2_code 10 = .ok (.aload_n 0, 1) := by decide +kernel
theorem D3_11 : decode prog_9_method_2_code 11 = .ok (.astore_n 2, 1) := by decide +kernel
theorem D3_12 : decode prog_9_method_2_code 12 = .ok (.aload_n 2, 1) := by decide +kernel
theorem D3_13 : decode prog_9_method_2_code 13 = .ok (.arraylength, 1) := by decide +kernel
theorem D3_14 : decode prog_9_method_2_code 14 = .ok (.istore_n 3, 1) := by decide +kernel
theorem D3_15 : decode prog_9_method_2_code 15 = .ok (.iconst 0, 1) := by decide +kernel
theorem D3_16 : decode prog_9_method_2_code 16 = .ok (.istore 4, 2) := by decide +kernel
theorem D3_18 : decode prog_9_method_2_code 18 = .ok (.iload 4, 2) := by decide +kernel
theorem D3_20 : decode prog_9_method_2_code 20 = .ok (.iload_n 3, 1) := by decide +kernel
theorem D3_21 : decode prog_9_method_2_code 21 = .ok (.if_icmp .ge 34, 3) := by decide +kernel
theorem D3_55 : decode prog_9_method_2_code 55 = .ok (.iload_n 1, 1) := by decide +kernel
theorem D3_56 : decode prog_9_method_2_code 56 = .ok (.newarray .byte, 2) := by decide +kernel
theorem D3_58 : decode prog_9_method_2_code 58 = .ok (.astore_n 2, 1) := by decide +kernel
theorem D3_59 : decode prog_9_method_2_code 59 = .ok (.aload_n 2, 1) := by decide +kernel
theorem D3_60 : decode prog_9_method_2_code 60 = .ok (.iconst 0, 1) := by decide +kernel
theorem D3_61 : decode prog_9_method_2_code 61 = .ok (.bipush 42, 2) := by decide +kernel
theorem D3_63 : decode prog_9_method_2_code 63 = .ok (.aload_n 0, 1) := by decide +kernel
theorem D3_64 : decode prog_9_method_2_code 64 = .ok (.arraylength, 1) := by decide +kernel
theorem D3_65 : decode prog_9_method_2_code 65 = .ok (.invokestatic 13, 3) := by decide +kernel
theorem D3_68 : decode prog_9_method_2_code 68 = .ok (.istore_n 3, 1) := by decide +kernel
theorem D3_69 : decode prog_9_method_2_code 69 = .ok (.aload_n 0, 1) := by decide +kernel
theorem D3_70 : decode prog_9_method_2_code 70 = .ok (.astore 4, 2) := by decide +kernel
theorem D3_72 : decode prog_9_method_2_code 72 = .ok (.aload 4, 2) := by decide +kernel
theorem D3_74 : decode prog_9_method_2_code 74 = .ok (.arraylength, 1) := by decide +kernel
theorem D3_75 : decode prog_9_method_2_code 75 = .ok (.istore 5, 2) := by decide +kernel
theorem D3_77 : decode prog_9_method_2_code 77 = .ok (.iconst 0, 1) := by decide +kernel
theorem D3_78 : decode prog_9_method_2_code 78 = .ok (.istore 6, 2) := by decide +kernel
theorem D3_80 : decode prog_9_method_2_code 80 = .ok (.iload 6, 2) := by decide +kernel
theorem D3_82 : decode prog_9_method_2_code 82 = .ok (.iload 5, 2) := by decide +kernel
theorem D3_84 : decode prog_9_method_2_code 84 = .ok (.if_icmp .ge 48, 3) := by decide +kernel
theorem D3_132 : decode prog_9_method_2_code 132 = .ok (.aload_n 2, 1) := by decide +kernel
theorem D3_133 : decode prog_9_method_2_code 133 = .ok (.areturn, 1) := by decide +kernel
def Q_rm_cmd0 (Z : State) (ar : Addr) (ka : ClassId) (h0 : Heap) (n0 : Nat) (v : Option Value) (h : Heap) (L : List Loc) : Prop := ∃ (ot : Addr), ∃ (kk : ClassId), ∃ (nn : Int32), ∃ (cc : List Value), v = some (.ref ot) ∧ Fr n0 L ∧ Keep h0 h [] ∧ Arv Z h ot kk .byte nn cc (.int (0 : Int32)) ∧ cc = own_hd (42 : Int32) (0 : Int32) ∧ nn.toInt = own_hn (0 : Int32) ∧ h0.size ≤ ot
theorem ef_rm_cmd0 (m : MethodId) (ar : Addr) (ka : ClassId) : entryFrame m #[(.ref ar)] 8 = mkF m 0 #[.val (.ref ar), .unset, .unset, .unset, .unset, .unset, .unset, .unset] [] := by first | (simp [entryFrame, mkF, argsToLocals, Value.category]; done) | rfl
set_option maxRecDepth 65536 in
set_option maxHeartbeats 40000000 in
theorem rm_cmd0 (l : Launch) (Z : State) (a0 : Array Value) (hw : ∀ d ∈ tables_1, d.before a0 Z = true) (ws : List Jvm.Cond) (ar : Addr) (ka : ClassId) (h0 : Heap) (n0 : Nat) (O0 : Old Z n0 h0) (Fa : Arv Z h0 ar ka (.array .byte) (0 : Int32) [] .null) :
    MetFree l (⟨s2_, "command", "([[B)[B"⟩ : MethodName) (head1 (Jvm.Cond.code (⟨s2_, "command", "([[B)[B"⟩ : MethodName) prog_9_method_2_code 8 (some (.array .byte)) :: ws) ({ frames := 2, cells := 1, slots := 90, locals := 33 } : Room)) (fun a U => a = #[(.ref ar)] ∧ Z.Warmed39 U.vm ∧ U.heap = h0) (fun _ _ _ _ _ => True) (fun _ U o U' => ∃ v L, o = .returned v ∧ Q_rm_cmd0 Z ar ka h0 n0 v U'.heap L ∧ FrameEnd U o U' L ({ frames := 2, cells := 1, slots := 90, locals := 33 } : Room).cells ({ frames := 2, cells := 1, slots := 90, locals := 33 } : Room).slots) := by
  refine MetFree.of_bodySF (plainFor_of_name own_pn_com_example_living_lease_livinglease_redis_Resp) hisR ?_
  intro p e s m args below meth c s₁ Bd hml0 hP hK
  obtain ⟨rfl, hZ, hh⟩ := hP
  have hx := Bd.exec
  have hby := Bd.bytes
  have hml : c.maxLocals = 8 := hml0
  have hown : s.vm.findClass s2_ = some m.cls := findClass_of_methodNamed Bd.named
  have hnm := (name_of_methodNamed Bd.named Bd.method).1
  have X0 : Stand p l e ({ frames := 2, cells := 1, slots := 90, locals := 33 } : Room) s m #[(.ref ar)] below meth c s₁ [] 0 0 := Stand.of_body Bd
  have e0 : s₁.heap = h0 := by rw [← hh, Bd.state]; rfl
  have N0 := Fr.nil n0
  have Z0 : n0 ≤ h0.size := by rw [← O0.1]; exact O0.2.1
  show own_Go p e below (s₁.setTop (entryFrame m #[(.ref ar)] 8)) (fun t o => ∃ v L, o = .returned v ∧ Q_rm_cmd0 Z ar ka h0 n0 v t.heap L ∧ FrameEnd s o t L ({ frames := 2, cells := 1, slots := 90, locals := 33 } : Room).cells ({ frames := 2, cells := 1, slots := 90, locals := 33 } : Room).slots)
  rw [ef_rm_cmd0 m ar ka]
  have lt_Fa : h0.size > ar := Fa.lt
  have hn_N := own_hn_0
  have hn_0 := own_hn_0
  refine oIc X0 hx hby D3_0 (z := (1 : Int32)) rfl ?_
  refine n_aloadN X0 hx hby D3_1 rfl rfl ?_
  obtain ⟨cl1, Ar1, q1, S1, M1, H1, G1⟩ := (id Fa)
  refine ob_ (X0.arraylength hx (by rw [e0]; exact Ar1.1) (State.isArrayOf_alike hZ.alike Ar1.2.1) (g := (mkF m 2 #[.val (.ref ar), .unset, .unset, .unset, .unset, .unset, .unset, .unset] [(.ref ar), (.int (1 : Int32))])) rfl rfl (hb hby D3_2)) ?_
  rw [len_of S1 M1]
  refine o_ksc 3 0 0 (Jvm.LawKit.callS X0 hx (y := (⟨s2_, "decimalLength", "(I)I"⟩ : MethodName)) hown (mw hZ hw 14 rfl) (mw hZ hw 15 rfl) (mw hZ hw 12 rfl) (mw hZ hw 16 rfl) (by decide) (backOf (W := 1) (rm_dl0 l Z a0 hw [] h0 n0 O0) hZ (own_w hw 16 rfl) (own_w hw 12 rfl) (by decide) (by decide)) (g := (mkF m 3 #[.val (.ref ar), .unset, .unset, .unset, .unset, .unset, .unset, .unset] [(.int (0 : Int32)), (.int (1 : Int32))])) rfl (by rw [hml]; rfl) (argsL := [(.int (0 : Int32))]) (rest := [(.int (1 : Int32))]) (lenOf own_pd__28I_29I rfl) rfl own_z (hb hby D3_3) (fun _ _ => ⟨rfl, e0, (by decide : 0 + 0 ≤ _), (by decide : 0 + 0 ≤ _)⟩)) fun T2 Lc2 _ X2 hQ2 => ?_
  obtain ⟨rfl, M2, K2⟩ := hQ2
  have N2 := Fr.app N0 M2
  obtain ⟨lc2, X2, N2⟩ := own_lc X2 N2
  refine n_iadd X2 hx hby D3_6 ?_
  show own_Go p e below (T2.setTop (mkF m 7 #[.val (.ref ar), .unset, .unset, .unset, .unset, .unset, .unset, .unset] [(.int ((1 : Int32) + (1 : Int32)))])) _
  rw [show (((1 : Int32) + (1 : Int32)) : Int32) = (2 : Int32) from by decide]
  show own_Go p e below (T2.setTop (mkF m 7 #[.val (.ref ar), .unset, .unset, .unset, .unset, .unset, .unset, .unset] [(.int (2 : Int32))])) _
  refine oIc X2 hx hby D3_7 (z := (2 : Int32)) rfl ?_
  refine n_iadd X2 hx hby D3_8 ?_
  show own_Go p e below (T2.setTop (mkF m 9 #[.val (.ref ar), .unset, .unset, .unset, .unset, .unset, .unset, .unset] [(.int ((2 : Int32) + (2 : Int32)))])) _
  rw [show (((2 : Int32) + (2 : Int32)) : Int32) = (4 : Int32) from by decide]
  show own_Go p e below (T2.setTop (mkF m 9 #[.val (.ref ar), .unset, .unset, .unset, .unset, .unset, .unset, .unset] [(.int (4 : Int32))])) _
  refine n_istoreN X2 hx hby D3_9 (l' := #[.val (.ref ar), .val (.int (4 : Int32)), .unset, .unset, .unset, .unset, .unset, .unset]) rfl ?_
  refine n_aloadN X2 hx hby D3_10 rfl rfl ?_
  refine n_astoreN X2 hx hby D3_11 rfl (l' := #[.val (.ref ar), .val (.int (4 : Int32)), .val (.ref ar), .unset, .unset, .unset, .unset, .unset]) rfl ?_
  refine n_aloadN X2 hx hby D3_12 rfl rfl ?_
  obtain ⟨cl3, Ar3, q3, S3, M3, H3, G3⟩ := (id Fa)
  refine ob_ (X2.arraylength hx (by rw [K2]; exact Ar3.1) (State.isArrayOf_alike hZ.alike Ar3.2.1) (g := (mkF m 13 #[.val (.ref ar), .val (.int (4 : Int32)), .val (.ref ar), .unset, .unset, .unset, .unset, .unset] [(.ref ar)])) rfl rfl (hb hby D3_13)) ?_
  rw [len_of S3 M3]
  refine n_istoreN X2 hx hby D3_14 (l' := #[.val (.ref ar), .val (.int (4 : Int32)), .val (.ref ar), .val (.int (0 : Int32)), .unset, .unset, .unset, .unset]) rfl ?_
  refine oIc X2 hx hby D3_15 (z := (0 : Int32)) rfl ?_
  refine n_istore X2 hx hby D3_16 (l' := #[.val (.ref ar), .val (.int (4 : Int32)), .val (.ref ar), .val (.int (0 : Int32)), .val (.int (0 : Int32)), .unset, .unset, .unset]) rfl ?_
  refine n_iload X2 hx hby D3_18 rfl ?_
  refine n_iloadN X2 hx hby D3_20 rfl ?_
  refine n_icmpYes X2 hx hby D3_21 (pc0 := 21) (pc' := 55) rfl (flt (by decide : ¬ ((0 : Int32) < (0 : Int32)))).2.1 (by decide) (by decide) ?_
  refine n_iloadN X2 hx hby D3_55 rfl ?_
  show own_Go p e below (T2.setTop (mkF m 56 #[.val (.ref ar), .val (.int (4 : Int32)), .val (.ref ar), .val (.int (0 : Int32)), .val (.int (0 : Int32)), .unset, .unset, .unset] [(.int (4 : Int32))])) _
  have iv4 : ((4 : Int32) : Int32).toInt = 4 := rfl
  obtain ⟨sz, e_sz⟩ : ∃ z, z = (4 : Int32) := ⟨_, rfl⟩
  rw [← e_sz]
  have hsz : sz.toInt = own_hn (0 : Int32) := by rw [e_sz]; omega
  obtain ⟨T5, h5, k5, X5, e5, E5, A5, Ex5, st5⟩ := newPE X2 hx hZ (own_w hw 7 rfl) K2 (g := (mkF m 56 #[.val (.ref ar), .val (.int sz), .val (.ref ar), .val (.int (0 : Int32)), .val (.int (0 : Int32)), .unset, .unset, .unset] [(.int sz)])) rfl (hb hby D3_56) rfl (own_nlt (show (0 : Int) ≤ (sz : Int32).toInt by omega)) (cap := 90) (own_cap (by omega)) (by decide) (by decide) (by decide) (ad := "[B") rfl
  obtain ⟨ob5, g5⟩ : ∃ z, z = h0.size := ⟨_, rfl⟩
  rw [← g5] at A5 st5 Ex5
  refine ob_ st5 ?_
  have z5 := E5.1
  have Vw5 : Arv Z h5 ob5 k5 .byte sz [] (.int (0 : Int32)) := Arv.new A5 (own_nlt (show (0 : Int) ≤ (sz : Int32).toInt by omega))
  have lt5 : h5.size > ob5 := Vw5.lt
  refine n_astoreN X5 hx hby D3_58 rfl (l' := #[.val (.ref ar), .val (.int sz), .val (.ref ob5), .val (.int (0 : Int32)), .val (.int (0 : Int32)), .unset, .unset, .unset]) rfl ?_
  show own_Go p e below (T5.setTop (mkF m 59 #[.val (.ref ar), .val (.int sz), .val (.ref ob5), .val (.int (0 : Int32)), .val (.int (0 : Int32)), .unset, .unset, .unset] [])) _
  refine n_aloadN X5 hx hby D3_59 rfl rfl ?_
  refine oIc X5 hx hby D3_60 (z := (0 : Int32)) rfl ?_
  refine oBi X5 hx hby D3_61 (z := (42 : Int32)) rfl ?_
  refine n_aloadN X5 hx hby D3_63 rfl rfl ?_
  have fc6 : Arv Z h5 ar ka (.array .byte) (0 : Int32) [] .null := (Fa.ext E5)
  obtain ⟨cl7, Ar7, q7, S7, M7, H7, G7⟩ := (id fc6)
  refine ob_ (X5.arraylength hx (by rw [e5]; exact Ar7.1) (State.isArrayOf_alike hZ.alike Ar7.2.1) (g := (mkF m 64 #[.val (.ref ar), .val (.int sz), .val (.ref ob5), .val (.int (0 : Int32)), .val (.int (0 : Int32)), .unset, .unset, .unset] [(.ref ar), (.int (42 : Int32)), (.int (0 : Int32)), (.ref ob5)])) rfl rfl (hb hby D3_64)) ?_
  rw [len_of S7 M7]
  have iv8 : ((0 : Int32) : Int32).toInt = 0 := rfl
  have lx9 : own_LE n0 ob5 := own_mkLE (by omega)
  have O10 : Old Z n0 h5 := (O0.ext E5)
  refine o_ksc 3 1 90 (Jvm.LawKit.callS X5 hx (y := (⟨s2_, "writeHeader", "([BICI)I"⟩ : MethodName)) hown (mw hZ hw 17 rfl) (mw hZ hw 18 rfl) (mw hZ hw 12 rfl) (mw hZ hw 19 rfl) (by decide) (backOf (W := 0) (rm_wh42 l Z a0 hw [] ob5 k5 sz ([] : List Value) (0 : Int32) (0 : Int32) h5 n0 O10 Vw5 (own_unLE lx9) (by decide) (by first | omega | rfl) (by first | omega | (have q : ((([] : List Value)).length : Int) = 0 := rfl; omega)) (by omega)) hZ (own_w hw 19 rfl) (own_w hw 12 rfl) (by decide) (by decide)) (g := (mkF m 65 #[.val (.ref ar), .val (.int sz), .val (.ref ob5), .val (.int (0 : Int32)), .val (.int (0 : Int32)), .unset, .unset, .unset] [(.int (0 : Int32)), (.int (42 : Int32)), (.int (0 : Int32)), (.ref ob5)])) rfl (by rw [hml]; rfl) (argsL := [(.ref ob5), (.int (0 : Int32)), (.int (42 : Int32)), (.int (0 : Int32))]) (rest := []) (lenOf own_pd__28_5bBICI_29I rfl) rfl own_z (hb hby D3_65) (fun _ _ => ⟨rfl, e5, (by decide : 1 + 0 ≤ _), (by decide : 90 + 0 ≤ _)⟩)) fun T11 Lc11 _ X11 hQ11 => ?_
  obtain ⟨po_11, az_11, rfl, M11, K11, g11_0, r11_0, r11_1, r11_2⟩ := hQ11
  have N11 := Fr.app N2 M11
  obtain ⟨lc11, X11, N11⟩ := own_lc X11 N11
  have z11 := K11.1
  have lt_g11_0 : T11.heap.size > ob5 := g11_0.lt
  have q011 : ((([] : List Value)).length : Int) = 0 := rfl
  have hns0 : sz.toInt ≤ 1000 := by omega
  have he0 : sz.toInt = (po_11.length : Int) + (0 : Int) := by omega
  have hz0 : (0 : Int) ≤ 0 := by decide
  refine n_istoreN X11 hx hby D3_68 (l' := #[.val (.ref ar), .val (.int sz), .val (.ref ob5), .val (.int az_11), .val (.int (0 : Int32)), .unset, .unset, .unset]) rfl ?_
  refine n_aloadN X11 hx hby D3_69 rfl rfl ?_
  refine n_astore X11 hx hby D3_70 rfl (l' := #[.val (.ref ar), .val (.int sz), .val (.ref ob5), .val (.int az_11), .val (.ref ar), .unset, .unset, .unset]) rfl ?_
  refine n_aload X11 hx hby D3_72 rfl rfl ?_
  have nx12 : own_NE ar ob5 := own_mkNE (by omega)
  have fc13 : Arv Z T11.heap ar ka (.array .byte) (0 : Int32) [] .null := (fc6.keep K11 (ninS (own_unNE nx12) nin0))
  obtain ⟨cl14, Ar14, q14, S14, M14, H14, G14⟩ := (id fc13)
  refine ob_ (X11.arraylength hx Ar14.1 (State.isArrayOf_alike hZ.alike Ar14.2.1) (g := (mkF m 74 #[.val (.ref ar), .val (.int sz), .val (.ref ob5), .val (.int az_11), .val (.ref ar), .unset, .unset, .unset] [(.ref ar)])) rfl rfl (hb hby D3_74)) ?_
  rw [len_of S14 M14]
  refine n_istore X11 hx hby D3_75 (l' := #[.val (.ref ar), .val (.int sz), .val (.ref ob5), .val (.int az_11), .val (.ref ar), .val (.int (0 : Int32)), .unset, .unset]) rfl ?_
  refine oIc X11 hx hby D3_77 (z := (0 : Int32)) rfl ?_
  refine n_istore X11 hx hby D3_78 (l' := #[.val (.ref ar), .val (.int sz), .val (.ref ob5), .val (.int az_11), .val (.ref ar), .val (.int (0 : Int32)), .val (.int (0 : Int32)), .unset]) rfl ?_
  refine n_iload X11 hx hby D3_80 rfl ?_
  refine n_iload X11 hx hby D3_82 rfl ?_
  refine n_icmpYes X11 hx hby D3_84 (pc0 := 84) (pc' := 132) rfl (flt (by decide : ¬ ((0 : Int32) < (0 : Int32)))).2.1 (by decide) (by decide) ?_
  show own_Go p e below (T11.setTop (mkF m 132 #[.val (.ref ar), .val (.int sz), .val (.ref ob5), .val (.int az_11), .val (.ref ar), .val (.int (0 : Int32)), .val (.int (0 : Int32)), .unset] [])) _
  have hfin : po_11 = own_hd (42 : Int32) (0 : Int32) := by simp only [r11_0, own_bd, List.append_assoc, List.nil_append, List.append_nil]
  refine n_aloadN X11 hx hby D3_132 rfl rfl ?_
  have lx16 : own_LE h0.size ob5 := own_mkLE (by omega)
  have K15 : Keep h0 T11.heap [] := (((Keep.refl h0 []).ext E5).trans K11 (allS (P := fun x => x ∈ [] ∨ h0.size ≤ x) (Or.inr (own_unLE lx16)) all0))
  obtain ⟨fs, hr, hrun, hended, hW, hsame⟩ := X11.leave (v := some (.ref ob5)) (fun h => by rw [Bd.returns] at h; cases h)
  refine ⟨_, _, retOut X11 hx Bd.returns (own_narrow_ref (by decide) rfl) (Or.inr (Or.inr (Or.inr (Or.inr ⟨rfl, by decide, rfl⟩)))) (hb hby D3_133) hr, hrun, hended, _, _, rfl, ?_, ⟨_, rfl⟩, hW, hsame.mono (by decide) (by decide)⟩
  show Q_rm_cmd0 Z ar ka h0 n0 _ T11.heap _
  exact ⟨ob5, k5, sz, po_11, rfl, N11, K15, g11_0, hfin, hsz, (by omega)⟩
theorem D3_24 : decode prog_9_method_2_code 24 = .ok (.aload_n 2, 1) := by decide +kernel
theorem D3_25 : decode prog_9_method_2_code 25 = .ok (.iload 4, 2) := by decide +kernel
theorem D3_27 : decode prog_9_method_2_code 27 = .ok (.aaload, 1) := by decide +kernel
theorem D3_28 : decode prog_9_method_2_code 28 = .ok (.astore 5, 2) := by decide +kernel
theorem D3_30 : decode prog_9_method_2_code 30 = .ok (.iload_n 1, 1) := by decide +kernel
theorem D3_31 : decode prog_9_method_2_code 31 = .ok (.iconst 1, 1) := by decide +kernel
theorem D3_32 : decode prog_9_method_2_code 32 = .ok (.aload 5, 2) := by decide +kernel
theorem D3_34 : decode prog_9_method_2_code 34 = .ok (.arraylength, 1) := by decide +kernel
theorem D3_35 : decode prog_9_method_2_code 35 = .ok (.invokestatic 7, 3) := by decide +kernel
theorem D3_38 : decode prog_9_method_2_code 38 = .ok (.iadd, 1) := by decide +kernel
theorem D3_39 : decode prog_9_method_2_code 39 = .ok (.iconst 2, 1) := by decide +kernel
theorem D3_40 : decode prog_9_method_2_code 40 = .ok (.iadd, 1) := by decide +kernel
theorem D3_41 : decode prog_9_method_2_code 41 = .ok (.aload 5, 2) := by decide +kernel
theorem D3_43 : decode prog_9_method_2_code 43 = .ok (.arraylength, 1) := by decide +kernel
theorem D3_44 : decode prog_9_method_2_code 44 = .ok (.iadd, 1) := by decide +kernel
theorem D3_45 : decode prog_9_method_2_code 45 = .ok (.iconst 2, 1) := by decide +kernel
theorem D3_46 : decode prog_9_method_2_code 46 = .ok (.iadd, 1) := by decide +kernel
theorem D3_47 : decode prog_9_method_2_code 47 = .ok (.iadd, 1) := by decide +kernel
theorem D3_48 : decode prog_9_method_2_code 48 = .ok (.istore_n 1, 1) := by decide +kernel
theorem D3_49 : decode prog_9_method_2_code 49 = .ok (.iinc 4 1, 3) := by decide +kernel
theorem D3_52 : decode prog_9_method_2_code 52 = .ok (.goto (-34), 3) := by decide +kernel
theorem D3_87 : decode prog_9_method_2_code 87 = .ok (.aload 4, 2) := by decide +kernel
theorem D3_89 : decode prog_9_method_2_code 89 = .ok (.iload 6, 2) := by decide +kernel
theorem D3_91 : decode prog_9_method_2_code 91 = .ok (.aaload, 1) := by decide +kernel
theorem D3_92 : decode prog_9_method_2_code 92 = .ok (.astore 7, 2) := by decide +kernel
theorem D3_94 : decode prog_9_method_2_code 94 = .ok (.aload_n 2, 1) := by decide +kernel
theorem D3_95 : decode prog_9_method_2_code 95 = .ok (.iload_n 3, 1) := by decide +kernel
theorem D3_96 : decode prog_9_method_2_code 96 = .ok (.bipush 36, 2) := by decide +kernel
theorem D3_98 : decode prog_9_method_2_code 98 = .ok (.aload 7, 2) := by decide +kernel
theorem D3_100 : decode prog_9_method_2_code 100 = .ok (.arraylength, 1) := by decide +kernel
theorem D3_101 : decode prog_9_method_2_code 101 = .ok (.invokestatic 13, 3) := by decide +kernel
theorem D3_104 : decode prog_9_method_2_code 104 = .ok (.istore_n 3, 1) := by decide +kernel
theorem D3_105 : decode prog_9_method_2_code 105 = .ok (.aload 7, 2) := by decide +kernel
theorem D3_107 : decode prog_9_method_2_code 107 = .ok (.iconst 0, 1) := by decide +kernel
theorem D3_108 : decode prog_9_method_2_code 108 = .ok (.aload_n 2, 1) := by decide +kernel
theorem D3_109 : decode prog_9_method_2_code 109 = .ok (.iload_n 3, 1) := by decide +kernel
theorem D3_110 : decode prog_9_method_2_code 110 = .ok (.aload 7, 2) := by decide +kernel
theorem D3_112 : decode prog_9_method_2_code 112 = .ok (.arraylength, 1) := by decide +kernel
theorem D3_113 : decode prog_9_method_2_code 113 = .ok (.invokestatic 17, 3) := by decide +kernel
theorem D3_116 : decode prog_9_method_2_code 116 = .ok (.aload_n 2, 1) := by decide +kernel
theorem D3_117 : decode prog_9_method_2_code 117 = .ok (.iload_n 3, 1) := by decide +kernel
theorem D3_118 : decode prog_9_method_2_code 118 = .ok (.aload 7, 2) := by decide +kernel
theorem D3_120 : decode prog_9_method_2_code 120 = .ok (.arraylength, 1) := by decide +kernel
theorem D3_121 : decode prog_9_method_2_code 121 = .ok (.iadd, 1) := by decide +kernel
theorem D3_122 : decode prog_9_method_2_code 122 = .ok (.invokestatic 23, 3) := by decide +kernel
theorem D3_125 : decode prog_9_method_2_code 125 = .ok (.istore_n 3, 1) := by decide +kernel
theorem D3_126 : decode prog_9_method_2_code 126 = .ok (.iinc 6 1, 3) := by decide +kernel
theorem D3_129 : decode prog_9_method_2_code 129 = .ok (.goto (-49), 3) := by decide +kernel
def Q_rm_cmd1 (Z : State) (ar : Addr) (ka : ClassId) (eaa : Addr) (eka : ClassId) (la : Int32) (va : List Value) (h0 : Heap) (n0 : Nat) (v : Option Value) (h : Heap) (L : List Loc) : Prop := ∃ (ot : Addr), ∃ (kk : ClassId), ∃ (nn : Int32), ∃ (cc : List Value), v = some (.ref ot) ∧ Fr n0 L ∧ Keep h0 h [] ∧ Arv Z h ot kk .byte nn cc (.int (0 : Int32)) ∧ cc = own_hd (42 : Int32) (1 : Int32) ++ (own_bd la va) ∧ nn.toInt = own_hn (1 : Int32) + (own_hn la + la.toInt + 2) ∧ h0.size ≤ ot
theorem ef_rm_cmd1 (m : MethodId) (ar : Addr) (ka : ClassId) (eaa : Addr) (eka : ClassId) (la : Int32) (va : List Value) : entryFrame m #[(.ref ar)] 8 = mkF m 0 #[.val (.ref ar), .unset, .unset, .unset, .unset, .unset, .unset, .unset] [] := by first | (simp [entryFrame, mkF, argsToLocals, Value.category]; done) | rfl
set_option maxRecDepth 65536 in
set_option maxHeartbeats 40000000 in
theorem rm_cmd1 (l : Launch) (Z : State) (a0 : Array Value) (hw : ∀ d ∈ tables_1, d.before a0 Z = true) (ws : List Jvm.Cond) (ar : Addr) (ka : ClassId) (eaa : Addr) (eka : ClassId) (la : Int32) (va : List Value) (h0 : Heap) (n0 : Nat) (O0 : Old Z n0 h0) (Fa : Arv Z h0 ar ka (.array .byte) (1 : Int32) [(.ref eaa)] .null) (Fe0 : Arv Z h0 eaa eka .byte la va (.int (0 : Int32))) (hcla : own_cnt la) (hvva : (va.length : Int) = la.toInt) :
    MetFree l (⟨s2_, "command", "([[B)[B"⟩ : MethodName) (head1 (Jvm.Cond.code (⟨s2_, "command", "([[B)[B"⟩ : MethodName) prog_9_method_2_code 8 (some (.array .byte)) :: ws) ({ frames := 2, cells := 1, slots := 90, locals := 33 } : Room)) (fun a U => a = #[(.ref ar)] ∧ Z.Warmed39 U.vm ∧ U.heap = h0) (fun _ _ _ _ _ => True) (fun _ U o U' => ∃ v L, o = .returned v ∧ Q_rm_cmd1 Z ar ka eaa eka la va h0 n0 v U'.heap L ∧ FrameEnd U o U' L ({ frames := 2, cells := 1, slots := 90, locals := 33 } : Room).cells ({ frames := 2, cells := 1, slots := 90, locals := 33 } : Room).slots) := by
  refine MetFree.of_bodySF (plainFor_of_name own_pn_com_example_living_lease_livinglease_redis_Resp) hisR ?_
  intro p e s m args below meth c s₁ Bd hml0 hP hK
  obtain ⟨rfl, hZ, hh⟩ := hP
  have hx := Bd.exec
  have hby := Bd.bytes
  have hml : c.maxLocals = 8 := hml0
  have hown : s.vm.findClass s2_ = some m.cls := findClass_of_methodNamed Bd.named
  have hnm := (name_of_methodNamed Bd.named Bd.method).1
  have X0 : Stand p l e ({ frames := 2, cells := 1, slots := 90, locals := 33 } : Room) s m #[(.ref ar)] below meth c s₁ [] 0 0 := Stand.of_body Bd
  have e0 : s₁.heap = h0 := by rw [← hh, Bd.state]; rfl
  have N0 := Fr.nil n0
  have Z0 : n0 ≤ h0.size := by rw [← O0.1]; exact O0.2.1
  show own_Go p e below (s₁.setTop (entryFrame m #[(.ref ar)] 8)) (fun t o => ∃ v L, o = .returned v ∧ Q_rm_cmd1 Z ar ka eaa eka la va h0 n0 v t.heap L ∧ FrameEnd s o t L ({ frames := 2, cells := 1, slots := 90, locals := 33 } : Room).cells ({ frames := 2, cells := 1, slots := 90, locals := 33 } : Room).slots)
  rw [ef_rm_cmd1 m ar ka eaa eka la va]
  have lt_Fa : h0.size > ar := Fa.lt
  have lt_Fe0 : h0.size > eaa := Fe0.lt
  have hn_N := own_hn_1
  have hn_0 := own_hn_0
  have hr_la := own_cnt_rng hcla
  have hd_la := own_dl_hn hcla
  refine oIc X0 hx hby D3_0 (z := (1 : Int32)) rfl ?_
  refine n_aloadN X0 hx hby D3_1 rfl rfl ?_
  obtain ⟨cl1, Ar1, q1, S1, M1, H1, G1⟩ := (id Fa)
  refine ob_ (X0.arraylength hx (by rw [e0]; exact Ar1.1) (State.isArrayOf_alike hZ.alike Ar1.2.1) (g := (mkF m 2 #[.val (.ref ar), .unset, .unset, .unset, .unset, .unset, .unset, .unset] [(.ref ar), (.int (1 : Int32))])) rfl rfl (hb hby D3_2)) ?_
  rw [len_of S1 M1]
  refine o_ksc 3 0 0 (Jvm.LawKit.callS X0 hx (y := (⟨s2_, "decimalLength", "(I)I"⟩ : MethodName)) hown (mw hZ hw 14 rfl) (mw hZ hw 15 rfl) (mw hZ hw 12 rfl) (mw hZ hw 16 rfl) (by decide) (backOf (W := 1) (rm_dl1 l Z a0 hw [] h0 n0 O0) hZ (own_w hw 16 rfl) (own_w hw 12 rfl) (by decide) (by decide)) (g := (mkF m 3 #[.val (.ref ar), .unset, .unset, .unset, .unset, .unset, .unset, .unset] [(.int (1 : Int32)), (.int (1 : Int32))])) rfl (by rw [hml]; rfl) (argsL := [(.int (1 : Int32))]) (rest := [(.int (1 : Int32))]) (lenOf own_pd__28I_29I rfl) rfl own_z (hb hby D3_3) (fun _ _ => ⟨rfl, e0, (by decide : 0 + 0 ≤ _), (by decide : 0 + 0 ≤ _)⟩)) fun T2 Lc2 _ X2 hQ2 => ?_
  obtain ⟨rfl, M2, K2⟩ := hQ2
  have N2 := Fr.app N0 M2
  obtain ⟨lc2, X2, N2⟩ := own_lc X2 N2
  refine n_iadd X2 hx hby D3_6 ?_
  show own_Go p e below (T2.setTop (mkF m 7 #[.val (.ref ar), .unset, .unset, .unset, .unset, .unset, .unset, .unset] [(.int ((1 : Int32) + (1 : Int32)))])) _
  rw [show (((1 : Int32) + (1 : Int32)) : Int32) = (2 : Int32) from by decide]
  show own_Go p e below (T2.setTop (mkF m 7 #[.val (.ref ar), .unset, .unset, .unset, .unset, .unset, .unset, .unset] [(.int (2 : Int32))])) _
  refine oIc X2 hx hby D3_7 (z := (2 : Int32)) rfl ?_
  refine n_iadd X2 hx hby D3_8 ?_
  show own_Go p e below (T2.setTop (mkF m 9 #[.val (.ref ar), .unset, .unset, .unset, .unset, .unset, .unset, .unset] [(.int ((2 : Int32) + (2 : Int32)))])) _
  rw [show (((2 : Int32) + (2 : Int32)) : Int32) = (4 : Int32) from by decide]
  show own_Go p e below (T2.setTop (mkF m 9 #[.val (.ref ar), .unset, .unset, .unset, .unset, .unset, .unset, .unset] [(.int (4 : Int32))])) _
  refine n_istoreN X2 hx hby D3_9 (l' := #[.val (.ref ar), .val (.int (4 : Int32)), .unset, .unset, .unset, .unset, .unset, .unset]) rfl ?_
  refine n_aloadN X2 hx hby D3_10 rfl rfl ?_
  refine n_astoreN X2 hx hby D3_11 rfl (l' := #[.val (.ref ar), .val (.int (4 : Int32)), .val (.ref ar), .unset, .unset, .unset, .unset, .unset]) rfl ?_
  refine n_aloadN X2 hx hby D3_12 rfl rfl ?_
  obtain ⟨cl3, Ar3, q3, S3, M3, H3, G3⟩ := (id Fa)
  refine ob_ (X2.arraylength hx (by rw [K2]; exact Ar3.1) (State.isArrayOf_alike hZ.alike Ar3.2.1) (g := (mkF m 13 #[.val (.ref ar), .val (.int (4 : Int32)), .val (.ref ar), .unset, .unset, .unset, .unset, .unset] [(.ref ar)])) rfl rfl (hb hby D3_13)) ?_
  rw [len_of S3 M3]
  refine n_istoreN X2 hx hby D3_14 (l' := #[.val (.ref ar), .val (.int (4 : Int32)), .val (.ref ar), .val (.int (1 : Int32)), .unset, .unset, .unset, .unset]) rfl ?_
  refine oIc X2 hx hby D3_15 (z := (0 : Int32)) rfl ?_
  refine n_istore X2 hx hby D3_16 (l' := #[.val (.ref ar), .val (.int (4 : Int32)), .val (.ref ar), .val (.int (1 : Int32)), .val (.int (0 : Int32)), .unset, .unset, .unset]) rfl ?_
  refine n_iload X2 hx hby D3_18 rfl ?_
  refine n_iloadN X2 hx hby D3_20 rfl ?_
  refine n_icmpNo X2 hx hby D3_21 (tlt (by decide : (0 : Int32) < (1 : Int32))).2.1 ?_
  refine n_aloadN X2 hx hby D3_24 rfl rfl ?_
  refine n_iload X2 hx hby D3_25 rfl ?_
  obtain ⟨cl4, Ar4, q4, S4, M4, H4, G4⟩ := (id Fa)
  have hin4 : ¬ ((0 : Int32) < 0 ∨ cl4.slots.size ≤ ((0 : Int32)).toNatClampNeg) := inb_of S4 ⟨by decide, by decide⟩
  refine ob_ (X2.aaload hx (j := (0 : Int32)) (v := (.ref eaa)) (by rw [K2]; exact Ar4.1) (State.isArrayOf_alike hZ.alike Ar4.2.1) rfl Ar4.2.2 hin4 (H4.at hin4 rfl) (g := (mkF m 27 #[.val (.ref ar), .val (.int (4 : Int32)), .val (.ref ar), .val (.int (1 : Int32)), .val (.int (0 : Int32)), .unset, .unset, .unset] [(.int (0 : Int32)), (.ref ar)])) rfl rfl (hb hby D3_27)) ?_
  refine n_astore X2 hx hby D3_28 rfl (l' := #[.val (.ref ar), .val (.int (4 : Int32)), .val (.ref ar), .val (.int (1 : Int32)), .val (.int (0 : Int32)), .val (.ref eaa), .unset, .unset]) rfl ?_
  refine n_iloadN X2 hx hby D3_30 rfl ?_
  refine oIc X2 hx hby D3_31 (z := (1 : Int32)) rfl ?_
  refine n_aload X2 hx hby D3_32 rfl rfl ?_
  obtain ⟨cl5, Ar5, q5, S5, M5, H5, G5⟩ := (id Fe0)
  refine ob_ (X2.arraylength hx (by rw [K2]; exact Ar5.1) (State.isArrayOf_alike hZ.alike Ar5.2.1) (g := (mkF m 34 #[.val (.ref ar), .val (.int (4 : Int32)), .val (.ref ar), .val (.int (1 : Int32)), .val (.int (0 : Int32)), .val (.ref eaa), .unset, .unset] [(.ref eaa), (.int (1 : Int32)), (.int (4 : Int32))])) rfl rfl (hb hby D3_34)) ?_
  rw [len_of S5 M5]
  refine o_ksc 3 0 0 (Jvm.LawKit.callS X2 hx (y := (⟨s2_, "decimalLength", "(I)I"⟩ : MethodName)) hown (mw hZ hw 14 rfl) (mw hZ hw 15 rfl) (mw hZ hw 12 rfl) (mw hZ hw 16 rfl) (by decide) (backOf (W := 2) (rm_dl l Z a0 hw [] la h0 n0 O0 hcla) hZ (own_w hw 16 rfl) (own_w hw 12 rfl) (by decide) (by decide)) (g := (mkF m 35 #[.val (.ref ar), .val (.int (4 : Int32)), .val (.ref ar), .val (.int (1 : Int32)), .val (.int (0 : Int32)), .val (.ref eaa), .unset, .unset] [(.int la), (.int (1 : Int32)), (.int (4 : Int32))])) rfl (by rw [hml]; rfl) (argsL := [(.int la)]) (rest := [(.int (1 : Int32)), (.int (4 : Int32))]) (lenOf own_pd__28I_29I rfl) rfl own_z (hb hby D3_35) (fun _ _ => ⟨rfl, K2, (by decide : 0 + 0 ≤ _), (by decide : 0 + 0 ≤ _)⟩)) fun T6 Lc6 _ X6 hQ6 => ?_
  obtain ⟨rfl, M6, K6⟩ := hQ6
  have N6 := Fr.app N2 M6
  obtain ⟨lc6, X6, N6⟩ := own_lc X6 N6
  refine n_iadd X6 hx hby D3_38 ?_
  refine oIc X6 hx hby D3_39 (z := (2 : Int32)) rfl ?_
  refine n_iadd X6 hx hby D3_40 ?_
  refine n_aload X6 hx hby D3_41 rfl rfl ?_
  obtain ⟨cl7, Ar7, q7, S7, M7, H7, G7⟩ := (id Fe0)
  refine ob_ (X6.arraylength hx (by rw [K6]; exact Ar7.1) (State.isArrayOf_alike hZ.alike Ar7.2.1) (g := (mkF m 43 #[.val (.ref ar), .val (.int (4 : Int32)), .val (.ref ar), .val (.int (1 : Int32)), .val (.int (0 : Int32)), .val (.ref eaa), .unset, .unset] [(.ref eaa), (.int (((1 : Int32) + (own_dl la)) + (2 : Int32))), (.int (4 : Int32))])) rfl rfl (hb hby D3_43)) ?_
  rw [len_of S7 M7]
  refine n_iadd X6 hx hby D3_44 ?_
  refine oIc X6 hx hby D3_45 (z := (2 : Int32)) rfl ?_
  refine n_iadd X6 hx hby D3_46 ?_
  refine n_iadd X6 hx hby D3_47 ?_
  refine n_istoreN X6 hx hby D3_48 (l' := #[.val (.ref ar), .val (.int ((4 : Int32) + (((((1 : Int32) + (own_dl la)) + (2 : Int32)) + la) + (2 : Int32)))), .val (.ref ar), .val (.int (1 : Int32)), .val (.int (0 : Int32)), .val (.ref eaa), .unset, .unset]) rfl ?_
  show own_Go p e below (T6.setTop (mkF m 49 #[.val (.ref ar), .val (.int ((4 : Int32) + (((((1 : Int32) + (own_dl la)) + (2 : Int32)) + la) + (2 : Int32)))), .val (.ref ar), .val (.int (1 : Int32)), .val (.int (0 : Int32)), .val (.ref eaa), .unset, .unset] [])) _
  show own_Go p e below (T6.setTop (mkF m 49 #[.val (.ref ar), .val (.int ((4 : Int32) + (((((1 : Int32) + (own_dl la)) + (2 : Int32)) + la) + (2 : Int32)))), .val (.ref ar), .val (.int (1 : Int32)), .val (.int (0 : Int32)), .val (.ref eaa), .unset, .unset] [])) _
  obtain ⟨sz8, e_sz8⟩ : ∃ z, z = ((4 : Int32) + (((((1 : Int32) + (own_dl la)) + (2 : Int32)) + la) + (2 : Int32))) := ⟨_, rfl⟩
  rw [← e_sz8]
  have hi_sz8 : sz8.toInt = own_hn (1 : Int32) + (own_hn la + la.toInt + 2) := by
    have iv9 : ((4 : Int32) : Int32).toInt = 4 := rfl
    have iv10 : ((1 : Int32) : Int32).toInt = 1 := rfl
    have iv11 : (((1 : Int32) + (own_dl la)) : Int32).toInt = ((1 : Int32) : Int32).toInt + ((own_dl la) : Int32).toInt := own_ia (by omega)
    have iv12 : ((2 : Int32) : Int32).toInt = 2 := rfl
    have iv13 : ((((1 : Int32) + (own_dl la)) + (2 : Int32)) : Int32).toInt = (((1 : Int32) + (own_dl la)) : Int32).toInt + ((2 : Int32) : Int32).toInt := own_ia (by omega)
    have iv14 : (((((1 : Int32) + (own_dl la)) + (2 : Int32)) + la) : Int32).toInt = ((((1 : Int32) + (own_dl la)) + (2 : Int32)) : Int32).toInt + (la : Int32).toInt := own_ia (by omega)
    have iv15 : ((((((1 : Int32) + (own_dl la)) + (2 : Int32)) + la) + (2 : Int32)) : Int32).toInt = (((((1 : Int32) + (own_dl la)) + (2 : Int32)) + la) : Int32).toInt + ((2 : Int32) : Int32).toInt := own_ia (by omega)
    have iv16 : (((4 : Int32) + (((((1 : Int32) + (own_dl la)) + (2 : Int32)) + la) + (2 : Int32))) : Int32).toInt = ((4 : Int32) : Int32).toInt + ((((((1 : Int32) + (own_dl la)) + (2 : Int32)) + la) + (2 : Int32)) : Int32).toInt := own_ia (by omega)
    rw [e_sz8]
    omega
  clear e_sz8
  show own_Go p e below (T6.setTop (mkF m 49 #[.val (.ref ar), .val (.int sz8), .val (.ref ar), .val (.int (1 : Int32)), .val (.int (0 : Int32)), .val (.ref eaa), .unset, .unset] [])) _
  refine n_iinc X6 hx hby D3_49 rfl (l' := #[.val (.ref ar), .val (.int sz8), .val (.ref ar), .val (.int (1 : Int32)), .val (.int (1 : Int32)), .val (.ref eaa), .unset, .unset]) rfl ?_
  refine n_goto X6 hx hby D3_52 (pc0 := 52) (pc' := 18) rfl (by decide) (by decide) ?_
  refine n_iload X6 hx hby D3_18 rfl ?_
  refine n_iloadN X6 hx hby D3_20 rfl ?_
  refine n_icmpYes X6 hx hby D3_21 (pc0 := 21) (pc' := 55) rfl (flt (by decide : ¬ ((1 : Int32) < (1 : Int32)))).2.1 (by decide) (by decide) ?_
  refine n_iloadN X6 hx hby D3_55 rfl ?_
  show own_Go p e below (T6.setTop (mkF m 56 #[.val (.ref ar), .val (.int sz8), .val (.ref ar), .val (.int (1 : Int32)), .val (.int (1 : Int32)), .val (.ref eaa), .unset, .unset] [(.int sz8)])) _
  obtain ⟨sz, e_sz⟩ : ∃ z, z = sz8 := ⟨_, rfl⟩
  rw [← e_sz]
  have hsz : sz.toInt = own_hn (1 : Int32) + (own_hn la + la.toInt + 2) := by rw [e_sz]; omega
  obtain ⟨T17, h17, k17, X17, e17, E17, A17, Ex17, st17⟩ := newPE X6 hx hZ (own_w hw 7 rfl) K6 (g := (mkF m 56 #[.val (.ref ar), .val (.int sz), .val (.ref ar), .val (.int (1 : Int32)), .val (.int (1 : Int32)), .val (.ref eaa), .unset, .unset] [(.int sz)])) rfl (hb hby D3_56) rfl (own_nlt (show (0 : Int) ≤ (sz : Int32).toInt by omega)) (cap := 90) (own_cap (by omega)) (by decide) (by decide) (by decide) (ad := "[B") rfl
  obtain ⟨ob17, g17⟩ : ∃ z, z = h0.size := ⟨_, rfl⟩
  rw [← g17] at A17 st17 Ex17
  refine ob_ st17 ?_
  have z17 := E17.1
  have Vw17 : Arv Z h17 ob17 k17 .byte sz [] (.int (0 : Int32)) := Arv.new A17 (own_nlt (show (0 : Int) ≤ (sz : Int32).toInt by omega))
  have lt17 : h17.size > ob17 := Vw17.lt
  refine n_astoreN X17 hx hby D3_58 rfl (l' := #[.val (.ref ar), .val (.int sz), .val (.ref ob17), .val (.int (1 : Int32)), .val (.int (1 : Int32)), .val (.ref eaa), .unset, .unset]) rfl ?_
  show own_Go p e below (T17.setTop (mkF m 59 #[.val (.ref ar), .val (.int sz), .val (.ref ob17), .val (.int (1 : Int32)), .val (.int (1 : Int32)), .val (.ref eaa), .unset, .unset] [])) _
  refine n_aloadN X17 hx hby D3_59 rfl rfl ?_
  refine oIc X17 hx hby D3_60 (z := (0 : Int32)) rfl ?_
  refine oBi X17 hx hby D3_61 (z := (42 : Int32)) rfl ?_
  refine n_aloadN X17 hx hby D3_63 rfl rfl ?_
  have fc18 : Arv Z h17 ar ka (.array .byte) (1 : Int32) [(.ref eaa)] .null := (Fa.ext E17)
  obtain ⟨cl19, Ar19, q19, S19, M19, H19, G19⟩ := (id fc18)
  refine ob_ (X17.arraylength hx (by rw [e17]; exact Ar19.1) (State.isArrayOf_alike hZ.alike Ar19.2.1) (g := (mkF m 64 #[.val (.ref ar), .val (.int sz), .val (.ref ob17), .val (.int (1 : Int32)), .val (.int (1 : Int32)), .val (.ref eaa), .unset, .unset] [(.ref ar), (.int (42 : Int32)), (.int (0 : Int32)), (.ref ob17)])) rfl rfl (hb hby D3_64)) ?_
  rw [len_of S19 M19]
  have iv20 : ((0 : Int32) : Int32).toInt = 0 := rfl
  have iv21 : ((1 : Int32) : Int32).toInt = 1 := rfl
  have lx22 : own_LE n0 ob17 := own_mkLE (by omega)
  have O23 : Old Z n0 h17 := (O0.ext E17)
  refine o_ksc 3 1 90 (Jvm.LawKit.callS X17 hx (y := (⟨s2_, "writeHeader", "([BICI)I"⟩ : MethodName)) hown (mw hZ hw 17 rfl) (mw hZ hw 18 rfl) (mw hZ hw 12 rfl) (mw hZ hw 19 rfl) (by decide) (backOf (W := 0) (rm_wh42 l Z a0 hw [] ob17 k17 sz ([] : List Value) (0 : Int32) (1 : Int32) h17 n0 O23 Vw17 (own_unLE lx22) (by decide) (by first | omega | rfl) (by first | omega | (have q : ((([] : List Value)).length : Int) = 0 := rfl; omega)) (by omega)) hZ (own_w hw 19 rfl) (own_w hw 12 rfl) (by decide) (by decide)) (g := (mkF m 65 #[.val (.ref ar), .val (.int sz), .val (.ref ob17), .val (.int (1 : Int32)), .val (.int (1 : Int32)), .val (.ref eaa), .unset, .unset] [(.int (1 : Int32)), (.int (42 : Int32)), (.int (0 : Int32)), (.ref ob17)])) rfl (by rw [hml]; rfl) (argsL := [(.ref ob17), (.int (0 : Int32)), (.int (42 : Int32)), (.int (1 : Int32))]) (rest := []) (lenOf own_pd__28_5bBICI_29I rfl) rfl own_z (hb hby D3_65) (fun _ _ => ⟨rfl, e17, (by decide : 1 + 0 ≤ _), (by decide : 90 + 0 ≤ _)⟩)) fun T24 Lc24 _ X24 hQ24 => ?_
  obtain ⟨po_24, az_24, rfl, M24, K24, g24_0, r24_0, r24_1, r24_2⟩ := hQ24
  have N24 := Fr.app N6 M24
  obtain ⟨lc24, X24, N24⟩ := own_lc X24 N24
  have z24 := K24.1
  have lt_g24_0 : T24.heap.size > ob17 := g24_0.lt
  have q024 : ((([] : List Value)).length : Int) = 0 := rfl
  have hr2_la : 0 ≤ la.toInt ∧ la.toInt ≤ 10 := ⟨hr_la.1, hr_la.2.1⟩
  have hns0 : sz.toInt ≤ 1000 := by omega
  have he0 : sz.toInt = (po_24.length : Int) + ((own_hn la + (la : Int32).toInt + 2) + (0 : Int)) := by omega
  have hz1 : (0 : Int) ≤ 0 := by decide
  have hz0 : 0 ≤ ((own_hn la + (la : Int32).toInt + 2) + (0 : Int)) := own_nn hr_la hr2_la hz1
  refine n_istoreN X24 hx hby D3_68 (l' := #[.val (.ref ar), .val (.int sz), .val (.ref ob17), .val (.int az_24), .val (.int (1 : Int32)), .val (.ref eaa), .unset, .unset]) rfl ?_
  refine n_aloadN X24 hx hby D3_69 rfl rfl ?_
  refine n_astore X24 hx hby D3_70 rfl (l' := #[.val (.ref ar), .val (.int sz), .val (.ref ob17), .val (.int az_24), .val (.ref ar), .val (.ref eaa), .unset, .unset]) rfl ?_
  refine n_aload X24 hx hby D3_72 rfl rfl ?_
  have nx25 : own_NE ar ob17 := own_mkNE (by omega)
  have fc26 : Arv Z T24.heap ar ka (.array .byte) (1 : Int32) [(.ref eaa)] .null := (fc18.keep K24 (ninS (own_unNE nx25) nin0))
  obtain ⟨cl27, Ar27, q27, S27, M27, H27, G27⟩ := (id fc26)
  refine ob_ (X24.arraylength hx Ar27.1 (State.isArrayOf_alike hZ.alike Ar27.2.1) (g := (mkF m 74 #[.val (.ref ar), .val (.int sz), .val (.ref ob17), .val (.int az_24), .val (.ref ar), .val (.ref eaa), .unset, .unset] [(.ref ar)])) rfl rfl (hb hby D3_74)) ?_
  rw [len_of S27 M27]
  refine n_istore X24 hx hby D3_75 (l' := #[.val (.ref ar), .val (.int sz), .val (.ref ob17), .val (.int az_24), .val (.ref ar), .val (.int (1 : Int32)), .unset, .unset]) rfl ?_
  refine oIc X24 hx hby D3_77 (z := (0 : Int32)) rfl ?_
  refine n_istore X24 hx hby D3_78 (l' := #[.val (.ref ar), .val (.int sz), .val (.ref ob17), .val (.int az_24), .val (.ref ar), .val (.int (1 : Int32)), .val (.int (0 : Int32)), .unset]) rfl ?_
  refine n_iload X24 hx hby D3_80 rfl ?_
  refine n_iload X24 hx hby D3_82 rfl ?_
  refine n_icmpNo X24 hx hby D3_84 (tlt (by decide : (0 : Int32) < (1 : Int32))).2.1 ?_
  refine n_aload X24 hx hby D3_87 rfl rfl ?_
  refine n_iload X24 hx hby D3_89 rfl ?_
  obtain ⟨cl28, Ar28, q28, S28, M28, H28, G28⟩ := (id fc26)
  have hin28 : ¬ ((0 : Int32) < 0 ∨ cl28.slots.size ≤ ((0 : Int32)).toNatClampNeg) := inb_of S28 ⟨by decide, by decide⟩
  refine ob_ (X24.aaload hx (j := (0 : Int32)) (v := (.ref eaa)) Ar28.1 (State.isArrayOf_alike hZ.alike Ar28.2.1) rfl Ar28.2.2 hin28 (H28.at hin28 rfl) (g := (mkF m 91 #[.val (.ref ar), .val (.int sz), .val (.ref ob17), .val (.int az_24), .val (.ref ar), .val (.int (1 : Int32)), .val (.int (0 : Int32)), .unset] [(.int (0 : Int32)), (.ref ar)])) rfl rfl (hb hby D3_91)) ?_
  refine n_astore X24 hx hby D3_92 rfl (l' := #[.val (.ref ar), .val (.int sz), .val (.ref ob17), .val (.int az_24), .val (.ref ar), .val (.int (1 : Int32)), .val (.int (0 : Int32)), .val (.ref eaa)]) rfl ?_
  refine n_aloadN X24 hx hby D3_94 rfl rfl ?_
  refine n_iloadN X24 hx hby D3_95 rfl ?_
  refine oBi X24 hx hby D3_96 (z := (36 : Int32)) rfl ?_
  refine n_aload X24 hx hby D3_98 rfl rfl ?_
  have lx30 : own_LE h0.size ob17 := own_mkLE (by omega)
  have RK29 : Keep h0 T24.heap [] := (((Keep.refl h0 []).ext E17).trans K24 (allS (P := fun x => x ∈ [] ∨ h0.size ≤ x) (Or.inr (own_unLE lx30)) all0))
  have fc31 : Arv Z T24.heap eaa eka .byte la va (.int (0 : Int32)) := Fe0.keep RK29 nin0
  obtain ⟨cl32, Ar32, q32, S32, M32, H32, G32⟩ := (id fc31)
  refine ob_ (X24.arraylength hx Ar32.1 (State.isArrayOf_alike hZ.alike Ar32.2.1) (g := (mkF m 100 #[.val (.ref ar), .val (.int sz), .val (.ref ob17), .val (.int az_24), .val (.ref ar), .val (.int (1 : Int32)), .val (.int (0 : Int32)), .val (.ref eaa)] [(.ref eaa), (.int (36 : Int32)), (.int az_24), (.ref ob17)])) rfl rfl (hb hby D3_100)) ?_
  rw [len_of S32 M32]
  have O33 : Old Z n0 T24.heap := (O23.keep K24 (allS (own_unLE lx22) all0))
  refine o_ksc 3 1 90 (Jvm.LawKit.callS X24 hx (y := (⟨s2_, "writeHeader", "([BICI)I"⟩ : MethodName)) hown (mw hZ hw 17 rfl) (mw hZ hw 18 rfl) (mw hZ hw 12 rfl) (mw hZ hw 19 rfl) (by decide) (backOf (W := 0) (rm_wh36 l Z a0 hw [] ob17 k17 sz po_24 az_24 la T24.heap n0 O33 g24_0 (own_unLE lx22) hcla r24_1 (own_k1 he0 hr2_la hz1) hns0) hZ (own_w hw 19 rfl) (own_w hw 12 rfl) (by decide) (by decide)) (g := (mkF m 101 #[.val (.ref ar), .val (.int sz), .val (.ref ob17), .val (.int az_24), .val (.ref ar), .val (.int (1 : Int32)), .val (.int (0 : Int32)), .val (.ref eaa)] [(.int la), (.int (36 : Int32)), (.int az_24), (.ref ob17)])) rfl (by rw [hml]; rfl) (argsL := [(.ref ob17), (.int az_24), (.int (36 : Int32)), (.int la)]) (rest := []) (lenOf own_pd__28_5bBICI_29I rfl) rfl own_z (hb hby D3_101) (fun _ _ => ⟨rfl, rfl, (by decide : 1 + 0 ≤ _), (by decide : 90 + 0 ≤ _)⟩)) fun T34 Lc34 _ X34 hQ34 => ?_
  obtain ⟨po_34, az_34, rfl, M34, K34, g34_0, r34_0, r34_1, r34_2⟩ := hQ34
  have N34 := Fr.app N24 M34
  obtain ⟨lc34, X34, N34⟩ := own_lc X34 N34
  have z34 := K34.1
  have lt_g34_0 : T34.heap.size > ob17 := g34_0.lt
  refine n_istoreN X34 hx hby D3_104 (l' := #[.val (.ref ar), .val (.int sz), .val (.ref ob17), .val (.int az_34), .val (.ref ar), .val (.int (1 : Int32)), .val (.int (0 : Int32)), .val (.ref eaa)]) rfl ?_
  refine n_aload X34 hx hby D3_105 rfl rfl ?_
  refine oIc X34 hx hby D3_107 (z := (0 : Int32)) rfl ?_
  refine n_aloadN X34 hx hby D3_108 rfl rfl ?_
  refine n_iloadN X34 hx hby D3_109 rfl ?_
  refine n_aload X34 hx hby D3_110 rfl rfl ?_
  have RK35 : Keep h0 T34.heap [] := (RK29.trans K34 (allS (P := fun x => x ∈ [] ∨ h0.size ≤ x) (Or.inr (own_unLE lx30)) all0))
  have fc36 : Arv Z T34.heap eaa eka .byte la va (.int (0 : Int32)) := Fe0.keep RK35 nin0
  obtain ⟨cl37, Ar37, q37, S37, M37, H37, G37⟩ := (id fc36)
  refine ob_ (X34.arraylength hx Ar37.1 (State.isArrayOf_alike hZ.alike Ar37.2.1) (g := (mkF m 112 #[.val (.ref ar), .val (.int sz), .val (.ref ob17), .val (.int az_34), .val (.ref ar), .val (.int (1 : Int32)), .val (.int (0 : Int32)), .val (.ref eaa)] [(.ref eaa), (.int az_34), (.ref ob17), (.int (0 : Int32)), (.ref eaa)])) rfl rfl (hb hby D3_112)) ?_
  rw [len_of S37 M37]
  obtain ⟨T38, h38, L38, X38, e38, N38, K38, Vr38, st38⟩ := own_cpA X34 hx hZ hown (own_w hw 30 rfl) (own_w hw 33 rfl) (own_w hw 31 rfl) (own_w hw 32 rfl) rfl fc36 g34_0 hvva (dp := az_34) r34_1 (own_k2 he0 r34_2 hz1) N34 (own_unLE lx22) (g := (mkF m 113 #[.val (.ref ar), .val (.int sz), .val (.ref ob17), .val (.int az_34), .val (.ref ar), .val (.int (1 : Int32)), .val (.int (0 : Int32)), .val (.ref eaa)] [(.int la), (.int az_34), (.ref ob17), (.int (0 : Int32)), (.ref eaa)])) rfl (by rw [hml]; rfl) rfl (hb hby D3_113) (by decide) (W := 0) own_z (by decide)
  refine ob_ st38 ?_
  have z38 := K38.1
  obtain ⟨pq38, e_pq38⟩ : ∃ z, z = po_34 ++ va := ⟨_, rfl⟩
  rw [← e_pq38] at Vr38
  have hl_pq38 : (pq38.length : Int) = (po_34.length : Int) + (la : Int32).toInt := by rw [e_pq38]; exact own_lenA hvva
  refine n_aloadN X38 hx hby D3_116 rfl rfl ?_
  refine n_iloadN X38 hx hby D3_117 rfl ?_
  refine n_aload X38 hx hby D3_118 rfl rfl ?_
  have RK39 : Keep h0 h38 [] := (RK35.trans K38 (allS (P := fun x => x ∈ [] ∨ h0.size ≤ x) (Or.inr (own_unLE lx30)) all0))
  have fc40 : Arv Z h38 eaa eka .byte la va (.int (0 : Int32)) := Fe0.keep RK39 nin0
  obtain ⟨cl41, Ar41, q41, S41, M41, H41, G41⟩ := (id fc40)
  refine ob_ (X38.arraylength hx (by rw [e38]; exact Ar41.1) (State.isArrayOf_alike hZ.alike Ar41.2.1) (g := (mkF m 120 #[.val (.ref ar), .val (.int sz), .val (.ref ob17), .val (.int az_34), .val (.ref ar), .val (.int (1 : Int32)), .val (.int (0 : Int32)), .val (.ref eaa)] [(.ref eaa), (.int az_34), (.ref ob17)])) rfl rfl (hb hby D3_120)) ?_
  rw [len_of S41 M41]
  refine n_iadd X38 hx hby D3_121 ?_
  have O42 : Old Z n0 h38 := ((O33.keep K34 (allS (own_unLE lx22) all0)).keep K38 (allS (own_unLE lx22) all0))
  refine o_ksc 3 1 90 (Jvm.LawKit.callS X38 hx (y := (⟨s2_, "writeCrLf", "([BI)I"⟩ : MethodName)) hown (mw hZ hw 20 rfl) (mw hZ hw 21 rfl) (mw hZ hw 12 rfl) (mw hZ hw 22 rfl) (by decide) (backOf (W := 0) (rm_wc l Z a0 hw [] ob17 k17 sz pq38 (az_34 + la) h38 n0 O42 Vr38 (own_unLE lx22) (own_k3 r34_1 hl_pq38 hr2_la (own_k2 he0 r34_2 hz1) hns0) (own_k4 he0 r34_2 hl_pq38 hz1) hns0) hZ (own_w hw 22 rfl) (own_w hw 12 rfl) (by decide) (by decide)) (g := (mkF m 122 #[.val (.ref ar), .val (.int sz), .val (.ref ob17), .val (.int az_34), .val (.ref ar), .val (.int (1 : Int32)), .val (.int (0 : Int32)), .val (.ref eaa)] [(.int (az_34 + la)), (.ref ob17)])) rfl (by rw [hml]; rfl) (argsL := [(.ref ob17), (.int (az_34 + la))]) (rest := []) (lenOf own_pd__28_5bBI_29I rfl) rfl own_z (hb hby D3_122) (fun _ _ => ⟨rfl, e38, (by decide : 1 + 0 ≤ _), (by decide : 90 + 0 ≤ _)⟩)) fun T43 Lc43 _ X43 hQ43 => ?_
  obtain ⟨po_43, az_43, rfl, M43, K43, g43_0, r43_0, r43_1, r43_2⟩ := hQ43
  have N43 := Fr.app N38 M43
  obtain ⟨lc43, X43, N43⟩ := own_lc X43 N43
  have z43 := K43.1
  have lt_g43_0 : T43.heap.size > ob17 := g43_0.lt
  have he1 : sz.toInt = (po_43.length : Int) + (0 : Int) := own_k5 he0 r34_2 hl_pq38 r43_2
  refine n_istoreN X43 hx hby D3_125 (l' := #[.val (.ref ar), .val (.int sz), .val (.ref ob17), .val (.int az_43), .val (.ref ar), .val (.int (1 : Int32)), .val (.int (0 : Int32)), .val (.ref eaa)]) rfl ?_
  refine n_iinc X43 hx hby D3_126 rfl (l' := #[.val (.ref ar), .val (.int sz), .val (.ref ob17), .val (.int az_43), .val (.ref ar), .val (.int (1 : Int32)), .val (.int (1 : Int32)), .val (.ref eaa)]) rfl ?_
  refine n_goto X43 hx hby D3_129 (pc0 := 129) (pc' := 80) rfl (by decide) (by decide) ?_
  refine n_iload X43 hx hby D3_80 rfl ?_
  refine n_iload X43 hx hby D3_82 rfl ?_
  refine n_icmpYes X43 hx hby D3_84 (pc0 := 84) (pc' := 132) rfl (flt (by decide : ¬ ((1 : Int32) < (1 : Int32)))).2.1 (by decide) (by decide) ?_
  show own_Go p e below (T43.setTop (mkF m 132 #[.val (.ref ar), .val (.int sz), .val (.ref ob17), .val (.int az_43), .val (.ref ar), .val (.int (1 : Int32)), .val (.int (1 : Int32)), .val (.ref eaa)] [])) _
  have hfin : po_43 = own_hd (42 : Int32) (1 : Int32) ++ (own_bd la va) := by simp only [r24_0, r34_0, e_pq38, r43_0, own_bd, List.append_assoc, List.nil_append, List.append_nil]
  refine n_aloadN X43 hx hby D3_132 rfl rfl ?_
  have K44 : Keep h0 T43.heap [] := ((((((Keep.refl h0 []).ext E17).trans K24 (allS (P := fun x => x ∈ [] ∨ h0.size ≤ x) (Or.inr (own_unLE lx30)) all0)).trans K34 (allS (P := fun x => x ∈ [] ∨ h0.size ≤ x) (Or.inr (own_unLE lx30)) all0)).trans K38 (allS (P := fun x => x ∈ [] ∨ h0.size ≤ x) (Or.inr (own_unLE lx30)) all0)).trans K43 (allS (P := fun x => x ∈ [] ∨ h0.size ≤ x) (Or.inr (own_unLE lx30)) all0))
  obtain ⟨fs, hr, hrun, hended, hW, hsame⟩ := X43.leave (v := some (.ref ob17)) (fun h => by rw [Bd.returns] at h; cases h)
  refine ⟨_, _, retOut X43 hx Bd.returns (own_narrow_ref (by decide) rfl) (Or.inr (Or.inr (Or.inr (Or.inr ⟨rfl, by decide, rfl⟩)))) (hb hby D3_133) hr, hrun, hended, _, _, rfl, ?_, ⟨_, rfl⟩, hW, hsame.mono (by decide) (by decide)⟩
  show Q_rm_cmd1 Z ar ka eaa eka la va h0 n0 _ T43.heap _
  exact ⟨ob17, k17, sz, po_43, rfl, N43, K44, g43_0, hfin, hsz, (by omega)⟩
def Q_rm_cmd2 (Z : State) (ar : Addr) (ka : ClassId) (eaa : Addr) (eka : ClassId) (la : Int32) (va : List Value) (eab : Addr) (ekb : ClassId) (lb : Int32) (vb : List Value) (h0 : Heap) (n0 : Nat) (v : Option Value) (h : Heap) (L : List Loc) : Prop := ∃ (ot : Addr), ∃ (kk : ClassId), ∃ (nn : Int32), ∃ (cc : List Value), v = some (.ref ot) ∧ Fr n0 L ∧ Keep h0 h [] ∧ Arv Z h ot kk .byte nn cc (.int (0 : Int32)) ∧ cc = own_hd (42 : Int32) (2 : Int32) ++ (own_bd la va ++ (own_bd lb vb)) ∧ nn.toInt = own_hn (2 : Int32) + (own_hn la + la.toInt + 2) + (own_hn lb + lb.toInt + 2) ∧ h0.size ≤ ot
theorem ef_rm_cmd2 (m : MethodId) (ar : Addr) (ka : ClassId) (eaa : Addr) (eka : ClassId) (la : Int32) (va : List Value) (eab : Addr) (ekb : ClassId) (lb : Int32) (vb : List Value) : entryFrame m #[(.ref ar)] 8 = mkF m 0 #[.val (.ref ar), .unset, .unset, .unset, .unset, .unset, .unset, .unset] [] := by first | (simp [entryFrame, mkF, argsToLocals, Value.category]; done) | rfl
set_option maxRecDepth 65536 in
set_option maxHeartbeats 40000000 in
theorem rm_cmd2 (l : Launch) (Z : State) (a0 : Array Value) (hw : ∀ d ∈ tables_1, d.before a0 Z = true) (ws : List Jvm.Cond) (ar : Addr) (ka : ClassId) (eaa : Addr) (eka : ClassId) (la : Int32) (va : List Value) (eab : Addr) (ekb : ClassId) (lb : Int32) (vb : List Value) (h0 : Heap) (n0 : Nat) (O0 : Old Z n0 h0) (Fa : Arv Z h0 ar ka (.array .byte) (2 : Int32) [(.ref eaa), (.ref eab)] .null) (Fe0 : Arv Z h0 eaa eka .byte la va (.int (0 : Int32))) (Fe1 : Arv Z h0 eab ekb .byte lb vb (.int (0 : Int32))) (hcla : own_cnt la) (hvva : (va.length : Int) = la.toInt) (hclb : own_cnt lb) (hvvb : (vb.length : Int) = lb.toInt) :
    MetFree l (⟨s2_, "command", "([[B)[B"⟩ : MethodName) (head1 (Jvm.Cond.code (⟨s2_, "command", "([[B)[B"⟩ : MethodName) prog_9_method_2_code 8 (some (.array .byte)) :: ws) ({ frames := 2, cells := 1, slots := 90, locals := 33 } : Room)) (fun a U => a = #[(.ref ar)] ∧ Z.Warmed39 U.vm ∧ U.heap = h0) (fun _ _ _ _ _ => True) (fun _ U o U' => ∃ v L, o = .returned v ∧ Q_rm_cmd2 Z ar ka eaa eka la va eab ekb lb vb h0 n0 v U'.heap L ∧ FrameEnd U o U' L ({ frames := 2, cells := 1, slots := 90, locals := 33 } : Room).cells ({ frames := 2, cells := 1, slots := 90, locals := 33 } : Room).slots) := by
  refine MetFree.of_bodySF (plainFor_of_name own_pn_com_example_living_lease_livinglease_redis_Resp) hisR ?_
  intro p e s m args below meth c s₁ Bd hml0 hP hK
  obtain ⟨rfl, hZ, hh⟩ := hP
  have hx := Bd.exec
  have hby := Bd.bytes
  have hml : c.maxLocals = 8 := hml0
  have hown : s.vm.findClass s2_ = some m.cls := findClass_of_methodNamed Bd.named
  have hnm := (name_of_methodNamed Bd.named Bd.method).1
  have X0 : Stand p l e ({ frames := 2, cells := 1, slots := 90, locals := 33 } : Room) s m #[(.ref ar)] below meth c s₁ [] 0 0 := Stand.of_body Bd
  have e0 : s₁.heap = h0 := by rw [← hh, Bd.state]; rfl
  have N0 := Fr.nil n0
  have Z0 : n0 ≤ h0.size := by rw [← O0.1]; exact O0.2.1
  show own_Go p e below (s₁.setTop (entryFrame m #[(.ref ar)] 8)) (fun t o => ∃ v L, o = .returned v ∧ Q_rm_cmd2 Z ar ka eaa eka la va eab ekb lb vb h0 n0 v t.heap L ∧ FrameEnd s o t L ({ frames := 2, cells := 1, slots := 90, locals := 33 } : Room).cells ({ frames := 2, cells := 1, slots := 90, locals := 33 } : Room).slots)
  rw [ef_rm_cmd2 m ar ka eaa eka la va eab ekb lb vb]
  have lt_Fa : h0.size > ar := Fa.lt
  have lt_Fe0 : h0.size > eaa := Fe0.lt
  have lt_Fe1 : h0.size > eab := Fe1.lt
  have hn_N := own_hn_2
  have hn_0 := own_hn_0
  have hr_la := own_cnt_rng hcla
  have hd_la := own_dl_hn hcla
  have hr_lb := own_cnt_rng hclb
  have hd_lb := own_dl_hn hclb
  refine oIc X0 hx hby D3_0 (z := (1 : Int32)) rfl ?_
  refine n_aloadN X0 hx hby D3_1 rfl rfl ?_
  obtain ⟨cl1, Ar1, q1, S1, M1, H1, G1⟩ := (id Fa)
  refine ob_ (X0.arraylength hx (by rw [e0]; exact Ar1.1) (State.isArrayOf_alike hZ.alike Ar1.2.1) (g := (mkF m 2 #[.val (.ref ar), .unset, .unset, .unset, .unset, .unset, .unset, .unset] [(.ref ar), (.int (1 : Int32))])) rfl rfl (hb hby D3_2)) ?_
  rw [len_of S1 M1]
  refine o_ksc 3 0 0 (Jvm.LawKit.callS X0 hx (y := (⟨s2_, "decimalLength", "(I)I"⟩ : MethodName)) hown (mw hZ hw 14 rfl) (mw hZ hw 15 rfl) (mw hZ hw 12 rfl) (mw hZ hw 16 rfl) (by decide) (backOf (W := 1) (rm_dl2 l Z a0 hw [] h0 n0 O0) hZ (own_w hw 16 rfl) (own_w hw 12 rfl) (by decide) (by decide)) (g := (mkF m 3 #[.val (.ref ar), .unset, .unset, .unset, .unset, .unset, .unset, .unset] [(.int (2 : Int32)), (.int (1 : Int32))])) rfl (by rw [hml]; rfl) (argsL := [(.int (2 : Int32))]) (rest := [(.int (1 : Int32))]) (lenOf own_pd__28I_29I rfl) rfl own_z (hb hby D3_3) (fun _ _ => ⟨rfl, e0, (by decide : 0 + 0 ≤ _), (by decide : 0 + 0 ≤ _)⟩)) fun T2 Lc2 _ X2 hQ2 => ?_
  obtain ⟨rfl, M2, K2⟩ := hQ2
  have N2 := Fr.app N0 M2
  obtain ⟨lc2, X2, N2⟩ := own_lc X2 N2
  refine n_iadd X2 hx hby D3_6 ?_
  show own_Go p e below (T2.setTop (mkF m 7 #[.val (.ref ar), .unset, .unset, .unset, .unset, .unset, .unset, .unset] [(.int ((1 : Int32) + (1 : Int32)))])) _
  rw [show (((1 : Int32) + (1 : Int32)) : Int32) = (2 : Int32) from by decide]
  show own_Go p e below (T2.setTop (mkF m 7 #[.val (.ref ar), .unset, .unset, .unset, .unset, .unset, .unset, .unset] [(.int (2 : Int32))])) _
  refine oIc X2 hx hby D3_7 (z := (2 : Int32)) rfl ?_
  refine n_iadd X2 hx hby D3_8 ?_
  show own_Go p e below (T2.setTop (mkF m 9 #[.val (.ref ar), .unset, .unset, .unset, .unset, .unset, .unset, .unset] [(.int ((2 : Int32) + (2 : Int32)))])) _
  rw [show (((2 : Int32) + (2 : Int32)) : Int32) = (4 : Int32) from by decide]
  show own_Go p e below (T2.setTop (mkF m 9 #[.val (.ref ar), .unset, .unset, .unset, .unset, .unset, .unset, .unset] [(.int (4 : Int32))])) _
  refine n_istoreN X2 hx hby D3_9 (l' := #[.val (.ref ar), .val (.int (4 : Int32)), .unset, .unset, .unset, .unset, .unset, .unset]) rfl ?_
  refine n_aloadN X2 hx hby D3_10 rfl rfl ?_
  refine n_astoreN X2 hx hby D3_11 rfl (l' := #[.val (.ref ar), .val (.int (4 : Int32)), .val (.ref ar), .unset, .unset, .unset, .unset, .unset]) rfl ?_
  refine n_aloadN X2 hx hby D3_12 rfl rfl ?_
  obtain ⟨cl3, Ar3, q3, S3, M3, H3, G3⟩ := (id Fa)
  refine ob_ (X2.arraylength hx (by rw [K2]; exact Ar3.1) (State.isArrayOf_alike hZ.alike Ar3.2.1) (g := (mkF m 13 #[.val (.ref ar), .val (.int (4 : Int32)), .val (.ref ar), .unset, .unset, .unset, .unset, .unset] [(.ref ar)])) rfl rfl (hb hby D3_13)) ?_
  rw [len_of S3 M3]
  refine n_istoreN X2 hx hby D3_14 (l' := #[.val (.ref ar), .val (.int (4 : Int32)), .val (.ref ar), .val (.int (2 : Int32)), .unset, .unset, .unset, .unset]) rfl ?_
  refine oIc X2 hx hby D3_15 (z := (0 : Int32)) rfl ?_
  refine n_istore X2 hx hby D3_16 (l' := #[.val (.ref ar), .val (.int (4 : Int32)), .val (.ref ar), .val (.int (2 : Int32)), .val (.int (0 : Int32)), .unset, .unset, .unset]) rfl ?_
  refine n_iload X2 hx hby D3_18 rfl ?_
  refine n_iloadN X2 hx hby D3_20 rfl ?_
  refine n_icmpNo X2 hx hby D3_21 (tlt (by decide : (0 : Int32) < (2 : Int32))).2.1 ?_
  refine n_aloadN X2 hx hby D3_24 rfl rfl ?_
  refine n_iload X2 hx hby D3_25 rfl ?_
  obtain ⟨cl4, Ar4, q4, S4, M4, H4, G4⟩ := (id Fa)
  have hin4 : ¬ ((0 : Int32) < 0 ∨ cl4.slots.size ≤ ((0 : Int32)).toNatClampNeg) := inb_of S4 ⟨by decide, by decide⟩
  refine ob_ (X2.aaload hx (j := (0 : Int32)) (v := (.ref eaa)) (by rw [K2]; exact Ar4.1) (State.isArrayOf_alike hZ.alike Ar4.2.1) rfl Ar4.2.2 hin4 (H4.at hin4 rfl) (g := (mkF m 27 #[.val (.ref ar), .val (.int (4 : Int32)), .val (.ref ar), .val (.int (2 : Int32)), .val (.int (0 : Int32)), .unset, .unset, .unset] [(.int (0 : Int32)), (.ref ar)])) rfl rfl (hb hby D3_27)) ?_
  refine n_astore X2 hx hby D3_28 rfl (l' := #[.val (.ref ar), .val (.int (4 : Int32)), .val (.ref ar), .val (.int (2 : Int32)), .val (.int (0 : Int32)), .val (.ref eaa), .unset, .unset]) rfl ?_
  refine n_iloadN X2 hx hby D3_30 rfl ?_
  refine oIc X2 hx hby D3_31 (z := (1 : Int32)) rfl ?_
  refine n_aload X2 hx hby D3_32 rfl rfl ?_
  obtain ⟨cl5, Ar5, q5, S5, M5, H5, G5⟩ := (id Fe0)
  refine ob_ (X2.arraylength hx (by rw [K2]; exact Ar5.1) (State.isArrayOf_alike hZ.alike Ar5.2.1) (g := (mkF m 34 #[.val (.ref ar), .val (.int (4 : Int32)), .val (.ref ar), .val (.int (2 : Int32)), .val (.int (0 : Int32)), .val (.ref eaa), .unset, .unset] [(.ref eaa), (.int (1 : Int32)), (.int (4 : Int32))])) rfl rfl (hb hby D3_34)) ?_
  rw [len_of S5 M5]
  refine o_ksc 3 0 0 (Jvm.LawKit.callS X2 hx (y := (⟨s2_, "decimalLength", "(I)I"⟩ : MethodName)) hown (mw hZ hw 14 rfl) (mw hZ hw 15 rfl) (mw hZ hw 12 rfl) (mw hZ hw 16 rfl) (by decide) (backOf (W := 2) (rm_dl l Z a0 hw [] la h0 n0 O0 hcla) hZ (own_w hw 16 rfl) (own_w hw 12 rfl) (by decide) (by decide)) (g := (mkF m 35 #[.val (.ref ar), .val (.int (4 : Int32)), .val (.ref ar), .val (.int (2 : Int32)), .val (.int (0 : Int32)), .val (.ref eaa), .unset, .unset] [(.int la), (.int (1 : Int32)), (.int (4 : Int32))])) rfl (by rw [hml]; rfl) (argsL := [(.int la)]) (rest := [(.int (1 : Int32)), (.int (4 : Int32))]) (lenOf own_pd__28I_29I rfl) rfl own_z (hb hby D3_35) (fun _ _ => ⟨rfl, K2, (by decide : 0 + 0 ≤ _), (by decide : 0 + 0 ≤ _)⟩)) fun T6 Lc6 _ X6 hQ6 => ?_
  obtain ⟨rfl, M6, K6⟩ := hQ6
  have N6 := Fr.app N2 M6
  obtain ⟨lc6, X6, N6⟩ := own_lc X6 N6
  refine n_iadd X6 hx hby D3_38 ?_
  refine oIc X6 hx hby D3_39 (z := (2 : Int32)) rfl ?_
  refine n_iadd X6 hx hby D3_40 ?_
  refine n_aload X6 hx hby D3_41 rfl rfl ?_
  obtain ⟨cl7, Ar7, q7, S7, M7, H7, G7⟩ := (id Fe0)
  refine ob_ (X6.arraylength hx (by rw [K6]; exact Ar7.1) (State.isArrayOf_alike hZ.alike Ar7.2.1) (g := (mkF m 43 #[.val (.ref ar), .val (.int (4 : Int32)), .val (.ref ar), .val (.int (2 : Int32)), .val (.int (0 : Int32)), .val (.ref eaa), .unset, .unset] [(.ref eaa), (.int (((1 : Int32) + (own_dl la)) + (2 : Int32))), (.int (4 : Int32))])) rfl rfl (hb hby D3_43)) ?_
  rw [len_of S7 M7]
  refine n_iadd X6 hx hby D3_44 ?_
  refine oIc X6 hx hby D3_45 (z := (2 : Int32)) rfl ?_
  refine n_iadd X6 hx hby D3_46 ?_
  refine n_iadd X6 hx hby D3_47 ?_
  refine n_istoreN X6 hx hby D3_48 (l' := #[.val (.ref ar), .val (.int ((4 : Int32) + (((((1 : Int32) + (own_dl la)) + (2 : Int32)) + la) + (2 : Int32)))), .val (.ref ar), .val (.int (2 : Int32)), .val (.int (0 : Int32)), .val (.ref eaa), .unset, .unset]) rfl ?_
  show own_Go p e below (T6.setTop (mkF m 49 #[.val (.ref ar), .val (.int ((4 : Int32) + (((((1 : Int32) + (own_dl la)) + (2 : Int32)) + la) + (2 : Int32)))), .val (.ref ar), .val (.int (2 : Int32)), .val (.int (0 : Int32)), .val (.ref eaa), .unset, .unset] [])) _
  show own_Go p e below (T6.setTop (mkF m 49 #[.val (.ref ar), .val (.int ((4 : Int32) + (((((1 : Int32) + (own_dl la)) + (2 : Int32)) + la) + (2 : Int32)))), .val (.ref ar), .val (.int (2 : Int32)), .val (.int (0 : Int32)), .val (.ref eaa), .unset, .unset] [])) _
  obtain ⟨sz8, e_sz8⟩ : ∃ z, z = ((4 : Int32) + (((((1 : Int32) + (own_dl la)) + (2 : Int32)) + la) + (2 : Int32))) := ⟨_, rfl⟩
  rw [← e_sz8]
  have hi_sz8 : sz8.toInt = own_hn (2 : Int32) + (own_hn la + la.toInt + 2) := by
    have iv9 : ((4 : Int32) : Int32).toInt = 4 := rfl
    have iv10 : ((1 : Int32) : Int32).toInt = 1 := rfl
    have iv11 : (((1 : Int32) + (own_dl la)) : Int32).toInt = ((1 : Int32) : Int32).toInt + ((own_dl la) : Int32).toInt := own_ia (by omega)
    have iv12 : ((2 : Int32) : Int32).toInt = 2 := rfl
    have iv13 : ((((1 : Int32) + (own_dl la)) + (2 : Int32)) : Int32).toInt = (((1 : Int32) + (own_dl la)) : Int32).toInt + ((2 : Int32) : Int32).toInt := own_ia (by omega)
    have iv14 : (((((1 : Int32) + (own_dl la)) + (2 : Int32)) + la) : Int32).toInt = ((((1 : Int32) + (own_dl la)) + (2 : Int32)) : Int32).toInt + (la : Int32).toInt := own_ia (by omega)
    have iv15 : ((((((1 : Int32) + (own_dl la)) + (2 : Int32)) + la) + (2 : Int32)) : Int32).toInt = (((((1 : Int32) + (own_dl la)) + (2 : Int32)) + la) : Int32).toInt + ((2 : Int32) : Int32).toInt := own_ia (by omega)
    have iv16 : (((4 : Int32) + (((((1 : Int32) + (own_dl la)) + (2 : Int32)) + la) + (2 : Int32))) : Int32).toInt = ((4 : Int32) : Int32).toInt + ((((((1 : Int32) + (own_dl la)) + (2 : Int32)) + la) + (2 : Int32)) : Int32).toInt := own_ia (by omega)
    rw [e_sz8]
    omega
  clear e_sz8
  show own_Go p e below (T6.setTop (mkF m 49 #[.val (.ref ar), .val (.int sz8), .val (.ref ar), .val (.int (2 : Int32)), .val (.int (0 : Int32)), .val (.ref eaa), .unset, .unset] [])) _
  refine n_iinc X6 hx hby D3_49 rfl (l' := #[.val (.ref ar), .val (.int sz8), .val (.ref ar), .val (.int (2 : Int32)), .val (.int (1 : Int32)), .val (.ref eaa), .unset, .unset]) rfl ?_
  refine n_goto X6 hx hby D3_52 (pc0 := 52) (pc' := 18) rfl (by decide) (by decide) ?_
  refine n_iload X6 hx hby D3_18 rfl ?_
  refine n_iloadN X6 hx hby D3_20 rfl ?_
  refine n_icmpNo X6 hx hby D3_21 (tlt (by decide : (1 : Int32) < (2 : Int32))).2.1 ?_
  refine n_aloadN X6 hx hby D3_24 rfl rfl ?_
  refine n_iload X6 hx hby D3_25 rfl ?_
  obtain ⟨cl17, Ar17, q17, S17, M17, H17, G17⟩ := (id Fa)
  have hin17 : ¬ ((1 : Int32) < 0 ∨ cl17.slots.size ≤ ((1 : Int32)).toNatClampNeg) := inb_of S17 ⟨by decide, by decide⟩
  refine ob_ (X6.aaload hx (j := (1 : Int32)) (v := (.ref eab)) (by rw [K6]; exact Ar17.1) (State.isArrayOf_alike hZ.alike Ar17.2.1) rfl Ar17.2.2 hin17 (H17.at hin17 rfl) (g := (mkF m 27 #[.val (.ref ar), .val (.int sz8), .val (.ref ar), .val (.int (2 : Int32)), .val (.int (1 : Int32)), .val (.ref eaa), .unset, .unset] [(.int (1 : Int32)), (.ref ar)])) rfl rfl (hb hby D3_27)) ?_
  refine n_astore X6 hx hby D3_28 rfl (l' := #[.val (.ref ar), .val (.int sz8), .val (.ref ar), .val (.int (2 : Int32)), .val (.int (1 : Int32)), .val (.ref eab), .unset, .unset]) rfl ?_
  refine n_iloadN X6 hx hby D3_30 rfl ?_
  refine oIc X6 hx hby D3_31 (z := (1 : Int32)) rfl ?_
  refine n_aload X6 hx hby D3_32 rfl rfl ?_
  obtain ⟨cl18, Ar18, q18, S18, M18, H18, G18⟩ := (id Fe1)
  refine ob_ (X6.arraylength hx (by rw [K6]; exact Ar18.1) (State.isArrayOf_alike hZ.alike Ar18.2.1) (g := (mkF m 34 #[.val (.ref ar), .val (.int sz8), .val (.ref ar), .val (.int (2 : Int32)), .val (.int (1 : Int32)), .val (.ref eab), .unset, .unset] [(.ref eab), (.int (1 : Int32)), (.int sz8)])) rfl rfl (hb hby D3_34)) ?_
  rw [len_of S18 M18]
  refine o_ksc 3 0 0 (Jvm.LawKit.callS X6 hx (y := (⟨s2_, "decimalLength", "(I)I"⟩ : MethodName)) hown (mw hZ hw 14 rfl) (mw hZ hw 15 rfl) (mw hZ hw 12 rfl) (mw hZ hw 16 rfl) (by decide) (backOf (W := 2) (rm_dl l Z a0 hw [] lb h0 n0 O0 hclb) hZ (own_w hw 16 rfl) (own_w hw 12 rfl) (by decide) (by decide)) (g := (mkF m 35 #[.val (.ref ar), .val (.int sz8), .val (.ref ar), .val (.int (2 : Int32)), .val (.int (1 : Int32)), .val (.ref eab), .unset, .unset] [(.int lb), (.int (1 : Int32)), (.int sz8)])) rfl (by rw [hml]; rfl) (argsL := [(.int lb)]) (rest := [(.int (1 : Int32)), (.int sz8)]) (lenOf own_pd__28I_29I rfl) rfl own_z (hb hby D3_35) (fun _ _ => ⟨rfl, K6, (by decide : 0 + 0 ≤ _), (by decide : 0 + 0 ≤ _)⟩)) fun T19 Lc19 _ X19 hQ19 => ?_
  obtain ⟨rfl, M19, K19⟩ := hQ19
  have N19 := Fr.app N6 M19
  obtain ⟨lc19, X19, N19⟩ := own_lc X19 N19
  refine n_iadd X19 hx hby D3_38 ?_
  refine oIc X19 hx hby D3_39 (z := (2 : Int32)) rfl ?_
  refine n_iadd X19 hx hby D3_40 ?_
  refine n_aload X19 hx hby D3_41 rfl rfl ?_
  obtain ⟨cl20, Ar20, q20, S20, M20, H20, G20⟩ := (id Fe1)
  refine ob_ (X19.arraylength hx (by rw [K19]; exact Ar20.1) (State.isArrayOf_alike hZ.alike Ar20.2.1) (g := (mkF m 43 #[.val (.ref ar), .val (.int sz8), .val (.ref ar), .val (.int (2 : Int32)), .val (.int (1 : Int32)), .val (.ref eab), .unset, .unset] [(.ref eab), (.int (((1 : Int32) + (own_dl lb)) + (2 : Int32))), (.int sz8)])) rfl rfl (hb hby D3_43)) ?_
  rw [len_of S20 M20]
  refine n_iadd X19 hx hby D3_44 ?_
  refine oIc X19 hx hby D3_45 (z := (2 : Int32)) rfl ?_
  refine n_iadd X19 hx hby D3_46 ?_
  refine n_iadd X19 hx hby D3_47 ?_
  refine n_istoreN X19 hx hby D3_48 (l' := #[.val (.ref ar), .val (.int (sz8 + (((((1 : Int32) + (own_dl lb)) + (2 : Int32)) + lb) + (2 : Int32)))), .val (.ref ar), .val (.int (2 : Int32)), .val (.int (1 : Int32)), .val (.ref eab), .unset, .unset]) rfl ?_
  show own_Go p e below (T19.setTop (mkF m 49 #[.val (.ref ar), .val (.int (sz8 + (((((1 : Int32) + (own_dl lb)) + (2 : Int32)) + lb) + (2 : Int32)))), .val (.ref ar), .val (.int (2 : Int32)), .val (.int (1 : Int32)), .val (.ref eab), .unset, .unset] [])) _
  show own_Go p e below (T19.setTop (mkF m 49 #[.val (.ref ar), .val (.int (sz8 + (((((1 : Int32) + (own_dl lb)) + (2 : Int32)) + lb) + (2 : Int32)))), .val (.ref ar), .val (.int (2 : Int32)), .val (.int (1 : Int32)), .val (.ref eab), .unset, .unset] [])) _
  obtain ⟨sz21, e_sz21⟩ : ∃ z, z = (sz8 + (((((1 : Int32) + (own_dl lb)) + (2 : Int32)) + lb) + (2 : Int32))) := ⟨_, rfl⟩
  rw [← e_sz21]
  have hi_sz21 : sz21.toInt = sz8.toInt + (own_hn lb + lb.toInt + 2) := by
    have iv22 : ((1 : Int32) : Int32).toInt = 1 := rfl
    have iv23 : (((1 : Int32) + (own_dl lb)) : Int32).toInt = ((1 : Int32) : Int32).toInt + ((own_dl lb) : Int32).toInt := own_ia (by omega)
    have iv24 : ((2 : Int32) : Int32).toInt = 2 := rfl
    have iv25 : ((((1 : Int32) + (own_dl lb)) + (2 : Int32)) : Int32).toInt = (((1 : Int32) + (own_dl lb)) : Int32).toInt + ((2 : Int32) : Int32).toInt := own_ia (by omega)
    have iv26 : (((((1 : Int32) + (own_dl lb)) + (2 : Int32)) + lb) : Int32).toInt = ((((1 : Int32) + (own_dl lb)) + (2 : Int32)) : Int32).toInt + (lb : Int32).toInt := own_ia (by omega)
    have iv27 : ((((((1 : Int32) + (own_dl lb)) + (2 : Int32)) + lb) + (2 : Int32)) : Int32).toInt = (((((1 : Int32) + (own_dl lb)) + (2 : Int32)) + lb) : Int32).toInt + ((2 : Int32) : Int32).toInt := own_ia (by omega)
    have iv28 : ((sz8 + (((((1 : Int32) + (own_dl lb)) + (2 : Int32)) + lb) + (2 : Int32))) : Int32).toInt = (sz8 : Int32).toInt + ((((((1 : Int32) + (own_dl lb)) + (2 : Int32)) + lb) + (2 : Int32)) : Int32).toInt := own_ia (by omega)
    rw [e_sz21]
    omega
  clear e_sz21
  show own_Go p e below (T19.setTop (mkF m 49 #[.val (.ref ar), .val (.int sz21), .val (.ref ar), .val (.int (2 : Int32)), .val (.int (1 : Int32)), .val (.ref eab), .unset, .unset] [])) _
  refine n_iinc X19 hx hby D3_49 rfl (l' := #[.val (.ref ar), .val (.int sz21), .val (.ref ar), .val (.int (2 : Int32)), .val (.int (2 : Int32)), .val (.ref eab), .unset, .unset]) rfl ?_
  refine n_goto X19 hx hby D3_52 (pc0 := 52) (pc' := 18) rfl (by decide) (by decide) ?_
  refine n_iload X19 hx hby D3_18 rfl ?_
  refine n_iloadN X19 hx hby D3_20 rfl ?_
  refine n_icmpYes X19 hx hby D3_21 (pc0 := 21) (pc' := 55) rfl (flt (by decide : ¬ ((2 : Int32) < (2 : Int32)))).2.1 (by decide) (by decide) ?_
  refine n_iloadN X19 hx hby D3_55 rfl ?_
  show own_Go p e below (T19.setTop (mkF m 56 #[.val (.ref ar), .val (.int sz21), .val (.ref ar), .val (.int (2 : Int32)), .val (.int (2 : Int32)), .val (.ref eab), .unset, .unset] [(.int sz21)])) _
  obtain ⟨sz, e_sz⟩ : ∃ z, z = sz21 := ⟨_, rfl⟩
  rw [← e_sz]
  have hsz : sz.toInt = own_hn (2 : Int32) + (own_hn la + la.toInt + 2) + (own_hn lb + lb.toInt + 2) := by rw [e_sz]; omega
  obtain ⟨T29, h29, k29, X29, e29, E29, A29, Ex29, st29⟩ := newPE X19 hx hZ (own_w hw 7 rfl) K19 (g := (mkF m 56 #[.val (.ref ar), .val (.int sz), .val (.ref ar), .val (.int (2 : Int32)), .val (.int (2 : Int32)), .val (.ref eab), .unset, .unset] [(.int sz)])) rfl (hb hby D3_56) rfl (own_nlt (show (0 : Int) ≤ (sz : Int32).toInt by omega)) (cap := 90) (own_cap (by omega)) (by decide) (by decide) (by decide) (ad := "[B") rfl
  obtain ⟨ob29, g29⟩ : ∃ z, z = h0.size := ⟨_, rfl⟩
  rw [← g29] at A29 st29 Ex29
  refine ob_ st29 ?_
  have z29 := E29.1
  have Vw29 : Arv Z h29 ob29 k29 .byte sz [] (.int (0 : Int32)) := Arv.new A29 (own_nlt (show (0 : Int) ≤ (sz : Int32).toInt by omega))
  have lt29 : h29.size > ob29 := Vw29.lt
  refine n_astoreN X29 hx hby D3_58 rfl (l' := #[.val (.ref ar), .val (.int sz), .val (.ref ob29), .val (.int (2 : Int32)), .val (.int (2 : Int32)), .val (.ref eab), .unset, .unset]) rfl ?_
  show own_Go p e below (T29.setTop (mkF m 59 #[.val (.ref ar), .val (.int sz), .val (.ref ob29), .val (.int (2 : Int32)), .val (.int (2 : Int32)), .val (.ref eab), .unset, .unset] [])) _
  refine n_aloadN X29 hx hby D3_59 rfl rfl ?_
  refine oIc X29 hx hby D3_60 (z := (0 : Int32)) rfl ?_
  refine oBi X29 hx hby D3_61 (z := (42 : Int32)) rfl ?_
  refine n_aloadN X29 hx hby D3_63 rfl rfl ?_
  have fc30 : Arv Z h29 ar ka (.array .byte) (2 : Int32) [(.ref eaa), (.ref eab)] .null := (Fa.ext E29)
  obtain ⟨cl31, Ar31, q31, S31, M31, H31, G31⟩ := (id fc30)
  refine ob_ (X29.arraylength hx (by rw [e29]; exact Ar31.1) (State.isArrayOf_alike hZ.alike Ar31.2.1) (g := (mkF m 64 #[.val (.ref ar), .val (.int sz), .val (.ref ob29), .val (.int (2 : Int32)), .val (.int (2 : Int32)), .val (.ref eab), .unset, .unset] [(.ref ar), (.int (42 : Int32)), (.int (0 : Int32)), (.ref ob29)])) rfl rfl (hb hby D3_64)) ?_
  rw [len_of S31 M31]
  have iv32 : ((0 : Int32) : Int32).toInt = 0 := rfl
  have iv33 : ((2 : Int32) : Int32).toInt = 2 := rfl
  have lx34 : own_LE n0 ob29 := own_mkLE (by omega)
  have O35 : Old Z n0 h29 := (O0.ext E29)
  refine o_ksc 3 1 90 (Jvm.LawKit.callS X29 hx (y := (⟨s2_, "writeHeader", "([BICI)I"⟩ : MethodName)) hown (mw hZ hw 17 rfl) (mw hZ hw 18 rfl) (mw hZ hw 12 rfl) (mw hZ hw 19 rfl) (by decide) (backOf (W := 0) (rm_wh42 l Z a0 hw [] ob29 k29 sz ([] : List Value) (0 : Int32) (2 : Int32) h29 n0 O35 Vw29 (own_unLE lx34) (by decide) (by first | omega | rfl) (by first | omega | (have q : ((([] : List Value)).length : Int) = 0 := rfl; omega)) (by omega)) hZ (own_w hw 19 rfl) (own_w hw 12 rfl) (by decide) (by decide)) (g := (mkF m 65 #[.val (.ref ar), .val (.int sz), .val (.ref ob29), .val (.int (2 : Int32)), .val (.int (2 : Int32)), .val (.ref eab), .unset, .unset] [(.int (2 : Int32)), (.int (42 : Int32)), (.int (0 : Int32)), (.ref ob29)])) rfl (by rw [hml]; rfl) (argsL := [(.ref ob29), (.int (0 : Int32)), (.int (42 : Int32)), (.int (2 : Int32))]) (rest := []) (lenOf own_pd__28_5bBICI_29I rfl) rfl own_z (hb hby D3_65) (fun _ _ => ⟨rfl, e29, (by decide : 1 + 0 ≤ _), (by decide : 90 + 0 ≤ _)⟩)) fun T36 Lc36 _ X36 hQ36 => ?_
  obtain ⟨po_36, az_36, rfl, M36, K36, g36_0, r36_0, r36_1, r36_2⟩ := hQ36
  have N36 := Fr.app N19 M36
  obtain ⟨lc36, X36, N36⟩ := own_lc X36 N36
  have z36 := K36.1
  have lt_g36_0 : T36.heap.size > ob29 := g36_0.lt
  have q036 : ((([] : List Value)).length : Int) = 0 := rfl
  have hr2_la : 0 ≤ la.toInt ∧ la.toInt ≤ 10 := ⟨hr_la.1, hr_la.2.1⟩
  have hr2_lb : 0 ≤ lb.toInt ∧ lb.toInt ≤ 10 := ⟨hr_lb.1, hr_lb.2.1⟩
  have hns0 : sz.toInt ≤ 1000 := by omega
  have he0 : sz.toInt = (po_36.length : Int) + ((own_hn la + (la : Int32).toInt + 2) + ((own_hn lb + (lb : Int32).toInt + 2) + (0 : Int))) := by omega
  have hz2 : (0 : Int) ≤ 0 := by decide
  have hz1 : 0 ≤ ((own_hn lb + (lb : Int32).toInt + 2) + (0 : Int)) := own_nn hr_lb hr2_lb hz2
  have hz0 : 0 ≤ ((own_hn la + (la : Int32).toInt + 2) + ((own_hn lb + (lb : Int32).toInt + 2) + (0 : Int))) := own_nn hr_la hr2_la hz1
  refine n_istoreN X36 hx hby D3_68 (l' := #[.val (.ref ar), .val (.int sz), .val (.ref ob29), .val (.int az_36), .val (.int (2 : Int32)), .val (.ref eab), .unset, .unset]) rfl ?_
  refine n_aloadN X36 hx hby D3_69 rfl rfl ?_
  refine n_astore X36 hx hby D3_70 rfl (l' := #[.val (.ref ar), .val (.int sz), .val (.ref ob29), .val (.int az_36), .val (.ref ar), .val (.ref eab), .unset, .unset]) rfl ?_
  refine n_aload X36 hx hby D3_72 rfl rfl ?_
  have nx37 : own_NE ar ob29 := own_mkNE (by omega)
  have fc38 : Arv Z T36.heap ar ka (.array .byte) (2 : Int32) [(.ref eaa), (.ref eab)] .null := (fc30.keep K36 (ninS (own_unNE nx37) nin0))
  obtain ⟨cl39, Ar39, q39, S39, M39, H39, G39⟩ := (id fc38)
  refine ob_ (X36.arraylength hx Ar39.1 (State.isArrayOf_alike hZ.alike Ar39.2.1) (g := (mkF m 74 #[.val (.ref ar), .val (.int sz), .val (.ref ob29), .val (.int az_36), .val (.ref ar), .val (.ref eab), .unset, .unset] [(.ref ar)])) rfl rfl (hb hby D3_74)) ?_
  rw [len_of S39 M39]
  refine n_istore X36 hx hby D3_75 (l' := #[.val (.ref ar), .val (.int sz), .val (.ref ob29), .val (.int az_36), .val (.ref ar), .val (.int (2 : Int32)), .unset, .unset]) rfl ?_
  refine oIc X36 hx hby D3_77 (z := (0 : Int32)) rfl ?_
  refine n_istore X36 hx hby D3_78 (l' := #[.val (.ref ar), .val (.int sz), .val (.ref ob29), .val (.int az_36), .val (.ref ar), .val (.int (2 : Int32)), .val (.int (0 : Int32)), .unset]) rfl ?_
  refine n_iload X36 hx hby D3_80 rfl ?_
  refine n_iload X36 hx hby D3_82 rfl ?_
  refine n_icmpNo X36 hx hby D3_84 (tlt (by decide : (0 : Int32) < (2 : Int32))).2.1 ?_
  refine n_aload X36 hx hby D3_87 rfl rfl ?_
  refine n_iload X36 hx hby D3_89 rfl ?_
  obtain ⟨cl40, Ar40, q40, S40, M40, H40, G40⟩ := (id fc38)
  have hin40 : ¬ ((0 : Int32) < 0 ∨ cl40.slots.size ≤ ((0 : Int32)).toNatClampNeg) := inb_of S40 ⟨by decide, by decide⟩
  refine ob_ (X36.aaload hx (j := (0 : Int32)) (v := (.ref eaa)) Ar40.1 (State.isArrayOf_alike hZ.alike Ar40.2.1) rfl Ar40.2.2 hin40 (H40.at hin40 rfl) (g := (mkF m 91 #[.val (.ref ar), .val (.int sz), .val (.ref ob29), .val (.int az_36), .val (.ref ar), .val (.int (2 : Int32)), .val (.int (0 : Int32)), .unset] [(.int (0 : Int32)), (.ref ar)])) rfl rfl (hb hby D3_91)) ?_
  refine n_astore X36 hx hby D3_92 rfl (l' := #[.val (.ref ar), .val (.int sz), .val (.ref ob29), .val (.int az_36), .val (.ref ar), .val (.int (2 : Int32)), .val (.int (0 : Int32)), .val (.ref eaa)]) rfl ?_
  refine n_aloadN X36 hx hby D3_94 rfl rfl ?_
  refine n_iloadN X36 hx hby D3_95 rfl ?_
  refine oBi X36 hx hby D3_96 (z := (36 : Int32)) rfl ?_
  refine n_aload X36 hx hby D3_98 rfl rfl ?_
  have lx42 : own_LE h0.size ob29 := own_mkLE (by omega)
  have RK41 : Keep h0 T36.heap [] := (((Keep.refl h0 []).ext E29).trans K36 (allS (P := fun x => x ∈ [] ∨ h0.size ≤ x) (Or.inr (own_unLE lx42)) all0))
  have fc43 : Arv Z T36.heap eaa eka .byte la va (.int (0 : Int32)) := Fe0.keep RK41 nin0
  obtain ⟨cl44, Ar44, q44, S44, M44, H44, G44⟩ := (id fc43)
  refine ob_ (X36.arraylength hx Ar44.1 (State.isArrayOf_alike hZ.alike Ar44.2.1) (g := (mkF m 100 #[.val (.ref ar), .val (.int sz), .val (.ref ob29), .val (.int az_36), .val (.ref ar), .val (.int (2 : Int32)), .val (.int (0 : Int32)), .val (.ref eaa)] [(.ref eaa), (.int (36 : Int32)), (.int az_36), (.ref ob29)])) rfl rfl (hb hby D3_100)) ?_
  rw [len_of S44 M44]
  have O45 : Old Z n0 T36.heap := (O35.keep K36 (allS (own_unLE lx34) all0))
  refine o_ksc 3 1 90 (Jvm.LawKit.callS X36 hx (y := (⟨s2_, "writeHeader", "([BICI)I"⟩ : MethodName)) hown (mw hZ hw 17 rfl) (mw hZ hw 18 rfl) (mw hZ hw 12 rfl) (mw hZ hw 19 rfl) (by decide) (backOf (W := 0) (rm_wh36 l Z a0 hw [] ob29 k29 sz po_36 az_36 la T36.heap n0 O45 g36_0 (own_unLE lx34) hcla r36_1 (own_k1 he0 hr2_la hz1) hns0) hZ (own_w hw 19 rfl) (own_w hw 12 rfl) (by decide) (by decide)) (g := (mkF m 101 #[.val (.ref ar), .val (.int sz), .val (.ref ob29), .val (.int az_36), .val (.ref ar), .val (.int (2 : Int32)), .val (.int (0 : Int32)), .val (.ref eaa)] [(.int la), (.int (36 : Int32)), (.int az_36), (.ref ob29)])) rfl (by rw [hml]; rfl) (argsL := [(.ref ob29), (.int az_36), (.int (36 : Int32)), (.int la)]) (rest := []) (lenOf own_pd__28_5bBICI_29I rfl) rfl own_z (hb hby D3_101) (fun _ _ => ⟨rfl, rfl, (by decide : 1 + 0 ≤ _), (by decide : 90 + 0 ≤ _)⟩)) fun T46 Lc46 _ X46 hQ46 => ?_
  obtain ⟨po_46, az_46, rfl, M46, K46, g46_0, r46_0, r46_1, r46_2⟩ := hQ46
  have N46 := Fr.app N36 M46
  obtain ⟨lc46, X46, N46⟩ := own_lc X46 N46
  have z46 := K46.1
  have lt_g46_0 : T46.heap.size > ob29 := g46_0.lt
  refine n_istoreN X46 hx hby D3_104 (l' := #[.val (.ref ar), .val (.int sz), .val (.ref ob29), .val (.int az_46), .val (.ref ar), .val (.int (2 : Int32)), .val (.int (0 : Int32)), .val (.ref eaa)]) rfl ?_
  refine n_aload X46 hx hby D3_105 rfl rfl ?_
  refine oIc X46 hx hby D3_107 (z := (0 : Int32)) rfl ?_
  refine n_aloadN X46 hx hby D3_108 rfl rfl ?_
  refine n_iloadN X46 hx hby D3_109 rfl ?_
  refine n_aload X46 hx hby D3_110 rfl rfl ?_
  have RK47 : Keep h0 T46.heap [] := (RK41.trans K46 (allS (P := fun x => x ∈ [] ∨ h0.size ≤ x) (Or.inr (own_unLE lx42)) all0))
  have fc48 : Arv Z T46.heap eaa eka .byte la va (.int (0 : Int32)) := Fe0.keep RK47 nin0
  obtain ⟨cl49, Ar49, q49, S49, M49, H49, G49⟩ := (id fc48)
  refine ob_ (X46.arraylength hx Ar49.1 (State.isArrayOf_alike hZ.alike Ar49.2.1) (g := (mkF m 112 #[.val (.ref ar), .val (.int sz), .val (.ref ob29), .val (.int az_46), .val (.ref ar), .val (.int (2 : Int32)), .val (.int (0 : Int32)), .val (.ref eaa)] [(.ref eaa), (.int az_46), (.ref ob29), (.int (0 : Int32)), (.ref eaa)])) rfl rfl (hb hby D3_112)) ?_
  rw [len_of S49 M49]
  obtain ⟨T50, h50, L50, X50, e50, N50, K50, Vr50, st50⟩ := own_cpA X46 hx hZ hown (own_w hw 30 rfl) (own_w hw 33 rfl) (own_w hw 31 rfl) (own_w hw 32 rfl) rfl fc48 g46_0 hvva (dp := az_46) r46_1 (own_k2 he0 r46_2 hz1) N46 (own_unLE lx34) (g := (mkF m 113 #[.val (.ref ar), .val (.int sz), .val (.ref ob29), .val (.int az_46), .val (.ref ar), .val (.int (2 : Int32)), .val (.int (0 : Int32)), .val (.ref eaa)] [(.int la), (.int az_46), (.ref ob29), (.int (0 : Int32)), (.ref eaa)])) rfl (by rw [hml]; rfl) rfl (hb hby D3_113) (by decide) (W := 0) own_z (by decide)
  refine ob_ st50 ?_
  have z50 := K50.1
  obtain ⟨pq50, e_pq50⟩ : ∃ z, z = po_46 ++ va := ⟨_, rfl⟩
  rw [← e_pq50] at Vr50
  have hl_pq50 : (pq50.length : Int) = (po_46.length : Int) + (la : Int32).toInt := by rw [e_pq50]; exact own_lenA hvva
  refine n_aloadN X50 hx hby D3_116 rfl rfl ?_
  refine n_iloadN X50 hx hby D3_117 rfl ?_
  refine n_aload X50 hx hby D3_118 rfl rfl ?_
  have RK51 : Keep h0 h50 [] := (RK47.trans K50 (allS (P := fun x => x ∈ [] ∨ h0.size ≤ x) (Or.inr (own_unLE lx42)) all0))
  have fc52 : Arv Z h50 eaa eka .byte la va (.int (0 : Int32)) := Fe0.keep RK51 nin0
  obtain ⟨cl53, Ar53, q53, S53, M53, H53, G53⟩ := (id fc52)
  refine ob_ (X50.arraylength hx (by rw [e50]; exact Ar53.1) (State.isArrayOf_alike hZ.alike Ar53.2.1) (g := (mkF m 120 #[.val (.ref ar), .val (.int sz), .val (.ref ob29), .val (.int az_46), .val (.ref ar), .val (.int (2 : Int32)), .val (.int (0 : Int32)), .val (.ref eaa)] [(.ref eaa), (.int az_46), (.ref ob29)])) rfl rfl (hb hby D3_120)) ?_
  rw [len_of S53 M53]
  refine n_iadd X50 hx hby D3_121 ?_
  have O54 : Old Z n0 h50 := ((O45.keep K46 (allS (own_unLE lx34) all0)).keep K50 (allS (own_unLE lx34) all0))
  refine o_ksc 3 1 90 (Jvm.LawKit.callS X50 hx (y := (⟨s2_, "writeCrLf", "([BI)I"⟩ : MethodName)) hown (mw hZ hw 20 rfl) (mw hZ hw 21 rfl) (mw hZ hw 12 rfl) (mw hZ hw 22 rfl) (by decide) (backOf (W := 0) (rm_wc l Z a0 hw [] ob29 k29 sz pq50 (az_46 + la) h50 n0 O54 Vr50 (own_unLE lx34) (own_k3 r46_1 hl_pq50 hr2_la (own_k2 he0 r46_2 hz1) hns0) (own_k4 he0 r46_2 hl_pq50 hz1) hns0) hZ (own_w hw 22 rfl) (own_w hw 12 rfl) (by decide) (by decide)) (g := (mkF m 122 #[.val (.ref ar), .val (.int sz), .val (.ref ob29), .val (.int az_46), .val (.ref ar), .val (.int (2 : Int32)), .val (.int (0 : Int32)), .val (.ref eaa)] [(.int (az_46 + la)), (.ref ob29)])) rfl (by rw [hml]; rfl) (argsL := [(.ref ob29), (.int (az_46 + la))]) (rest := []) (lenOf own_pd__28_5bBI_29I rfl) rfl own_z (hb hby D3_122) (fun _ _ => ⟨rfl, e50, (by decide : 1 + 0 ≤ _), (by decide : 90 + 0 ≤ _)⟩)) fun T55 Lc55 _ X55 hQ55 => ?_
  obtain ⟨po_55, az_55, rfl, M55, K55, g55_0, r55_0, r55_1, r55_2⟩ := hQ55
  have N55 := Fr.app N50 M55
  obtain ⟨lc55, X55, N55⟩ := own_lc X55 N55
  have z55 := K55.1
  have lt_g55_0 : T55.heap.size > ob29 := g55_0.lt
  have he1 : sz.toInt = (po_55.length : Int) + ((own_hn lb + (lb : Int32).toInt + 2) + (0 : Int)) := own_k5 he0 r46_2 hl_pq50 r55_2
  refine n_istoreN X55 hx hby D3_125 (l' := #[.val (.ref ar), .val (.int sz), .val (.ref ob29), .val (.int az_55), .val (.ref ar), .val (.int (2 : Int32)), .val (.int (0 : Int32)), .val (.ref eaa)]) rfl ?_
  refine n_iinc X55 hx hby D3_126 rfl (l' := #[.val (.ref ar), .val (.int sz), .val (.ref ob29), .val (.int az_55), .val (.ref ar), .val (.int (2 : Int32)), .val (.int (1 : Int32)), .val (.ref eaa)]) rfl ?_
  refine n_goto X55 hx hby D3_129 (pc0 := 129) (pc' := 80) rfl (by decide) (by decide) ?_
  refine n_iload X55 hx hby D3_80 rfl ?_
  refine n_iload X55 hx hby D3_82 rfl ?_
  refine n_icmpNo X55 hx hby D3_84 (tlt (by decide : (1 : Int32) < (2 : Int32))).2.1 ?_
  refine n_aload X55 hx hby D3_87 rfl rfl ?_
  refine n_iload X55 hx hby D3_89 rfl ?_
  have fc56 : Arv Z T55.heap ar ka (.array .byte) (2 : Int32) [(.ref eaa), (.ref eab)] .null := (((fc38.keep K46 (ninS (own_unNE nx37) nin0)).keep K50 (ninS (own_unNE nx37) nin0)).keep K55 (ninS (own_unNE nx37) nin0))
  obtain ⟨cl57, Ar57, q57, S57, M57, H57, G57⟩ := (id fc56)
  have hin57 : ¬ ((1 : Int32) < 0 ∨ cl57.slots.size ≤ ((1 : Int32)).toNatClampNeg) := inb_of S57 ⟨by decide, by decide⟩
  refine ob_ (X55.aaload hx (j := (1 : Int32)) (v := (.ref eab)) Ar57.1 (State.isArrayOf_alike hZ.alike Ar57.2.1) rfl Ar57.2.2 hin57 (H57.at hin57 rfl) (g := (mkF m 91 #[.val (.ref ar), .val (.int sz), .val (.ref ob29), .val (.int az_55), .val (.ref ar), .val (.int (2 : Int32)), .val (.int (1 : Int32)), .val (.ref eaa)] [(.int (1 : Int32)), (.ref ar)])) rfl rfl (hb hby D3_91)) ?_
  refine n_astore X55 hx hby D3_92 rfl (l' := #[.val (.ref ar), .val (.int sz), .val (.ref ob29), .val (.int az_55), .val (.ref ar), .val (.int (2 : Int32)), .val (.int (1 : Int32)), .val (.ref eab)]) rfl ?_
  refine n_aloadN X55 hx hby D3_94 rfl rfl ?_
  refine n_iloadN X55 hx hby D3_95 rfl ?_
  refine oBi X55 hx hby D3_96 (z := (36 : Int32)) rfl ?_
  refine n_aload X55 hx hby D3_98 rfl rfl ?_
  have RK58 : Keep h0 T55.heap [] := (RK51.trans K55 (allS (P := fun x => x ∈ [] ∨ h0.size ≤ x) (Or.inr (own_unLE lx42)) all0))
  have fc59 : Arv Z T55.heap eab ekb .byte lb vb (.int (0 : Int32)) := Fe1.keep RK58 nin0
  obtain ⟨cl60, Ar60, q60, S60, M60, H60, G60⟩ := (id fc59)
  refine ob_ (X55.arraylength hx Ar60.1 (State.isArrayOf_alike hZ.alike Ar60.2.1) (g := (mkF m 100 #[.val (.ref ar), .val (.int sz), .val (.ref ob29), .val (.int az_55), .val (.ref ar), .val (.int (2 : Int32)), .val (.int (1 : Int32)), .val (.ref eab)] [(.ref eab), (.int (36 : Int32)), (.int az_55), (.ref ob29)])) rfl rfl (hb hby D3_100)) ?_
  rw [len_of S60 M60]
  have O61 : Old Z n0 T55.heap := (O54.keep K55 (allS (own_unLE lx34) all0))
  refine o_ksc 3 1 90 (Jvm.LawKit.callS X55 hx (y := (⟨s2_, "writeHeader", "([BICI)I"⟩ : MethodName)) hown (mw hZ hw 17 rfl) (mw hZ hw 18 rfl) (mw hZ hw 12 rfl) (mw hZ hw 19 rfl) (by decide) (backOf (W := 0) (rm_wh36 l Z a0 hw [] ob29 k29 sz po_55 az_55 lb T55.heap n0 O61 g55_0 (own_unLE lx34) hclb r55_1 (own_k1 he1 hr2_lb hz2) hns0) hZ (own_w hw 19 rfl) (own_w hw 12 rfl) (by decide) (by decide)) (g := (mkF m 101 #[.val (.ref ar), .val (.int sz), .val (.ref ob29), .val (.int az_55), .val (.ref ar), .val (.int (2 : Int32)), .val (.int (1 : Int32)), .val (.ref eab)] [(.int lb), (.int (36 : Int32)), (.int az_55), (.ref ob29)])) rfl (by rw [hml]; rfl) (argsL := [(.ref ob29), (.int az_55), (.int (36 : Int32)), (.int lb)]) (rest := []) (lenOf own_pd__28_5bBICI_29I rfl) rfl own_z (hb hby D3_101) (fun _ _ => ⟨rfl, rfl, (by decide : 1 + 0 ≤ _), (by decide : 90 + 0 ≤ _)⟩)) fun T62 Lc62 _ X62 hQ62 => ?_
  obtain ⟨po_62, az_62, rfl, M62, K62, g62_0, r62_0, r62_1, r62_2⟩ := hQ62
  have N62 := Fr.app N55 M62
  obtain ⟨lc62, X62, N62⟩ := own_lc X62 N62
  have z62 := K62.1
  have lt_g62_0 : T62.heap.size > ob29 := g62_0.lt
  refine n_istoreN X62 hx hby D3_104 (l' := #[.val (.ref ar), .val (.int sz), .val (.ref ob29), .val (.int az_62), .val (.ref ar), .val (.int (2 : Int32)), .val (.int (1 : Int32)), .val (.ref eab)]) rfl ?_
  refine n_aload X62 hx hby D3_105 rfl rfl ?_
  refine oIc X62 hx hby D3_107 (z := (0 : Int32)) rfl ?_
  refine n_aloadN X62 hx hby D3_108 rfl rfl ?_
  refine n_iloadN X62 hx hby D3_109 rfl ?_
  refine n_aload X62 hx hby D3_110 rfl rfl ?_
  have RK63 : Keep h0 T62.heap [] := (RK58.trans K62 (allS (P := fun x => x ∈ [] ∨ h0.size ≤ x) (Or.inr (own_unLE lx42)) all0))
  have fc64 : Arv Z T62.heap eab ekb .byte lb vb (.int (0 : Int32)) := Fe1.keep RK63 nin0
  obtain ⟨cl65, Ar65, q65, S65, M65, H65, G65⟩ := (id fc64)
  refine ob_ (X62.arraylength hx Ar65.1 (State.isArrayOf_alike hZ.alike Ar65.2.1) (g := (mkF m 112 #[.val (.ref ar), .val (.int sz), .val (.ref ob29), .val (.int az_62), .val (.ref ar), .val (.int (2 : Int32)), .val (.int (1 : Int32)), .val (.ref eab)] [(.ref eab), (.int az_62), (.ref ob29), (.int (0 : Int32)), (.ref eab)])) rfl rfl (hb hby D3_112)) ?_
  rw [len_of S65 M65]
  obtain ⟨T66, h66, L66, X66, e66, N66, K66, Vr66, st66⟩ := own_cpA X62 hx hZ hown (own_w hw 30 rfl) (own_w hw 33 rfl) (own_w hw 31 rfl) (own_w hw 32 rfl) rfl fc64 g62_0 hvvb (dp := az_62) r62_1 (own_k2 he1 r62_2 hz2) N62 (own_unLE lx34) (g := (mkF m 113 #[.val (.ref ar), .val (.int sz), .val (.ref ob29), .val (.int az_62), .val (.ref ar), .val (.int (2 : Int32)), .val (.int (1 : Int32)), .val (.ref eab)] [(.int lb), (.int az_62), (.ref ob29), (.int (0 : Int32)), (.ref eab)])) rfl (by rw [hml]; rfl) rfl (hb hby D3_113) (by decide) (W := 0) own_z (by decide)
  refine ob_ st66 ?_
  have z66 := K66.1
  obtain ⟨pq66, e_pq66⟩ : ∃ z, z = po_62 ++ vb := ⟨_, rfl⟩
  rw [← e_pq66] at Vr66
  have hl_pq66 : (pq66.length : Int) = (po_62.length : Int) + (lb : Int32).toInt := by rw [e_pq66]; exact own_lenA hvvb
  refine n_aloadN X66 hx hby D3_116 rfl rfl ?_
  refine n_iloadN X66 hx hby D3_117 rfl ?_
  refine n_aload X66 hx hby D3_118 rfl rfl ?_
  have RK67 : Keep h0 h66 [] := (RK63.trans K66 (allS (P := fun x => x ∈ [] ∨ h0.size ≤ x) (Or.inr (own_unLE lx42)) all0))
  have fc68 : Arv Z h66 eab ekb .byte lb vb (.int (0 : Int32)) := Fe1.keep RK67 nin0
  obtain ⟨cl69, Ar69, q69, S69, M69, H69, G69⟩ := (id fc68)
  refine ob_ (X66.arraylength hx (by rw [e66]; exact Ar69.1) (State.isArrayOf_alike hZ.alike Ar69.2.1) (g := (mkF m 120 #[.val (.ref ar), .val (.int sz), .val (.ref ob29), .val (.int az_62), .val (.ref ar), .val (.int (2 : Int32)), .val (.int (1 : Int32)), .val (.ref eab)] [(.ref eab), (.int az_62), (.ref ob29)])) rfl rfl (hb hby D3_120)) ?_
  rw [len_of S69 M69]
  refine n_iadd X66 hx hby D3_121 ?_
  have O70 : Old Z n0 h66 := ((O61.keep K62 (allS (own_unLE lx34) all0)).keep K66 (allS (own_unLE lx34) all0))
  refine o_ksc 3 1 90 (Jvm.LawKit.callS X66 hx (y := (⟨s2_, "writeCrLf", "([BI)I"⟩ : MethodName)) hown (mw hZ hw 20 rfl) (mw hZ hw 21 rfl) (mw hZ hw 12 rfl) (mw hZ hw 22 rfl) (by decide) (backOf (W := 0) (rm_wc l Z a0 hw [] ob29 k29 sz pq66 (az_62 + lb) h66 n0 O70 Vr66 (own_unLE lx34) (own_k3 r62_1 hl_pq66 hr2_lb (own_k2 he1 r62_2 hz2) hns0) (own_k4 he1 r62_2 hl_pq66 hz2) hns0) hZ (own_w hw 22 rfl) (own_w hw 12 rfl) (by decide) (by decide)) (g := (mkF m 122 #[.val (.ref ar), .val (.int sz), .val (.ref ob29), .val (.int az_62), .val (.ref ar), .val (.int (2 : Int32)), .val (.int (1 : Int32)), .val (.ref eab)] [(.int (az_62 + lb)), (.ref ob29)])) rfl (by rw [hml]; rfl) (argsL := [(.ref ob29), (.int (az_62 + lb))]) (rest := []) (lenOf own_pd__28_5bBI_29I rfl) rfl own_z (hb hby D3_122) (fun _ _ => ⟨rfl, e66, (by decide : 1 + 0 ≤ _), (by decide : 90 + 0 ≤ _)⟩)) fun T71 Lc71 _ X71 hQ71 => ?_
  obtain ⟨po_71, az_71, rfl, M71, K71, g71_0, r71_0, r71_1, r71_2⟩ := hQ71
  have N71 := Fr.app N66 M71
  obtain ⟨lc71, X71, N71⟩ := own_lc X71 N71
  have z71 := K71.1
  have lt_g71_0 : T71.heap.size > ob29 := g71_0.lt
  have he2 : sz.toInt = (po_71.length : Int) + (0 : Int) := own_k5 he1 r62_2 hl_pq66 r71_2
  clear he1
  refine n_istoreN X71 hx hby D3_125 (l' := #[.val (.ref ar), .val (.int sz), .val (.ref ob29), .val (.int az_71), .val (.ref ar), .val (.int (2 : Int32)), .val (.int (1 : Int32)), .val (.ref eab)]) rfl ?_
  refine n_iinc X71 hx hby D3_126 rfl (l' := #[.val (.ref ar), .val (.int sz), .val (.ref ob29), .val (.int az_71), .val (.ref ar), .val (.int (2 : Int32)), .val (.int (2 : Int32)), .val (.ref eab)]) rfl ?_
  refine n_goto X71 hx hby D3_129 (pc0 := 129) (pc' := 80) rfl (by decide) (by decide) ?_
  refine n_iload X71 hx hby D3_80 rfl ?_
  refine n_iload X71 hx hby D3_82 rfl ?_
  refine n_icmpYes X71 hx hby D3_84 (pc0 := 84) (pc' := 132) rfl (flt (by decide : ¬ ((2 : Int32) < (2 : Int32)))).2.1 (by decide) (by decide) ?_
  show own_Go p e below (T71.setTop (mkF m 132 #[.val (.ref ar), .val (.int sz), .val (.ref ob29), .val (.int az_71), .val (.ref ar), .val (.int (2 : Int32)), .val (.int (2 : Int32)), .val (.ref eab)] [])) _
  have hfin : po_71 = own_hd (42 : Int32) (2 : Int32) ++ (own_bd la va ++ (own_bd lb vb)) := by simp only [r36_0, r46_0, e_pq50, r55_0, r62_0, e_pq66, r71_0, own_bd, List.append_assoc, List.nil_append, List.append_nil]
  refine n_aloadN X71 hx hby D3_132 rfl rfl ?_
  have K72 : Keep h0 T71.heap [] := (((((((((Keep.refl h0 []).ext E29).trans K36 (allS (P := fun x => x ∈ [] ∨ h0.size ≤ x) (Or.inr (own_unLE lx42)) all0)).trans K46 (allS (P := fun x => x ∈ [] ∨ h0.size ≤ x) (Or.inr (own_unLE lx42)) all0)).trans K50 (allS (P := fun x => x ∈ [] ∨ h0.size ≤ x) (Or.inr (own_unLE lx42)) all0)).trans K55 (allS (P := fun x => x ∈ [] ∨ h0.size ≤ x) (Or.inr (own_unLE lx42)) all0)).trans K62 (allS (P := fun x => x ∈ [] ∨ h0.size ≤ x) (Or.inr (own_unLE lx42)) all0)).trans K66 (allS (P := fun x => x ∈ [] ∨ h0.size ≤ x) (Or.inr (own_unLE lx42)) all0)).trans K71 (allS (P := fun x => x ∈ [] ∨ h0.size ≤ x) (Or.inr (own_unLE lx42)) all0))
  obtain ⟨fs, hr, hrun, hended, hW, hsame⟩ := X71.leave (v := some (.ref ob29)) (fun h => by rw [Bd.returns] at h; cases h)
  refine ⟨_, _, retOut X71 hx Bd.returns (own_narrow_ref (by decide) rfl) (Or.inr (Or.inr (Or.inr (Or.inr ⟨rfl, by decide, rfl⟩)))) (hb hby D3_133) hr, hrun, hended, _, _, rfl, ?_, ⟨_, rfl⟩, hW, hsame.mono (by decide) (by decide)⟩
  show Q_rm_cmd2 Z ar ka eaa eka la va eab ekb lb vb h0 n0 _ T71.heap _
  exact ⟨ob29, k29, sz, po_71, rfl, N71, K72, g71_0, hfin, hsz, (by omega)⟩
def Q_rm_cmd10 (Z : State) (ar : Addr) (ka : ClassId) (eaa : Addr) (eka : ClassId) (la : Int32) (va : List Value) (eab : Addr) (ekb : ClassId) (lb : Int32) (vb : List Value) (eac : Addr) (ekc : ClassId) (ead : Addr) (ekd : ClassId) (eae : Addr) (eke : ClassId) (eaf : Addr) (ekf : ClassId) (eag : Addr) (ekg : ClassId) (eah : Addr) (ekh : ClassId) (eai : Addr) (eki : ClassId) (eaj : Addr) (ekj : ClassId) (h0 : Heap) (n0 : Nat) (v : Option Value) (h : Heap) (L : List Loc) : Prop := ∃ (ot : Addr), ∃ (kk : ClassId), ∃ (nn : Int32), ∃ (cc : List Value), v = some (.ref ot) ∧ Fr n0 L ∧ Keep h0 h [] ∧ Arv Z h ot kk .byte nn cc (.int (0 : Int32)) ∧ cc = own_hd (42 : Int32) (10 : Int32) ++ (own_bd la va ++ (own_bd lb vb ++ (own_bd (0 : Int32) [] ++ (own_bd (0 : Int32) [] ++ (own_bd (0 : Int32) [] ++ (own_bd (0 : Int32) [] ++ (own_bd (0 : Int32) [] ++ (own_bd (0 : Int32) [] ++ (own_bd (0 : Int32) [] ++ (own_bd (0 : Int32) [])))))))))) ∧ nn.toInt = own_hn (10 : Int32) + (own_hn la + la.toInt + 2) + (own_hn lb + lb.toInt + 2) + 6 + 6 + 6 + 6 + 6 + 6 + 6 + 6 ∧ h0.size ≤ ot
theorem ef_rm_cmd10 (m : MethodId) (ar : Addr) (ka : ClassId) (eaa : Addr) (eka : ClassId) (la : Int32) (va : List Value) (eab : Addr) (ekb : ClassId) (lb : Int32) (vb : List Value) (eac : Addr) (ekc : ClassId) (ead : Addr) (ekd : ClassId) (eae : Addr) (eke : ClassId) (eaf : Addr) (ekf : ClassId) (eag : Addr) (ekg : ClassId) (eah : Addr) (ekh : ClassId) (eai : Addr) (eki : ClassId) (eaj : Addr) (ekj : ClassId) : entryFrame m #[(.ref ar)] 8 = mkF m 0 #[.val (.ref ar), .unset, .unset, .unset, .unset, .unset, .unset, .unset] [] := by first | (simp [entryFrame, mkF, argsToLocals, Value.category]; done) | rfl
set_option maxRecDepth 65536 in
set_option maxHeartbeats 40000000 in
theorem rm_cmd10 (l : Launch) (Z : State) (a0 : Array Value) (hw : ∀ d ∈ tables_1, d.before a0 Z = true) (ws : List Jvm.Cond) (ar : Addr) (ka : ClassId) (eaa : Addr) (eka : ClassId) (la : Int32) (va : List Value) (eab : Addr) (ekb : ClassId) (lb : Int32) (vb : List Value) (eac : Addr) (ekc : ClassId) (ead : Addr) (ekd : ClassId) (eae : Addr) (eke : ClassId) (eaf : Addr) (ekf : ClassId) (eag : Addr) (ekg : ClassId) (eah : Addr) (ekh : ClassId) (eai : Addr) (eki : ClassId) (eaj : Addr) (ekj : ClassId) (h0 : Heap) (n0 : Nat) (O0 : Old Z n0 h0) (Fa : Arv Z h0 ar ka (.array .byte) (10 : Int32) [(.ref eaa), (.ref eab), (.ref eac), (.ref ead), (.ref eae), (.ref eaf), (.ref eag), (.ref eah), (.ref eai), (.ref eaj)] .null) (Fe0 : Arv Z h0 eaa eka .byte la va (.int (0 : Int32))) (Fe1 : Arv Z h0 eab ekb .byte lb vb (.int (0 : Int32))) (Fe2 : Arv Z h0 eac ekc .byte (0 : Int32) [] (.int (0 : Int32))) (Fe3 : Arv Z h0 ead ekd .byte (0 : Int32) [] (.int (0 : Int32))) (Fe4 : Arv Z h0 eae eke .byte (0 : Int32) [] (.int (0 : Int32))) (Fe5 : Arv Z h0 eaf ekf .byte (0 : Int32) [] (.int (0 : Int32))) (Fe6 : Arv Z h0 eag ekg .byte (0 : Int32) [] (.int (0 : Int32))) (Fe7 : Arv Z h0 eah ekh .byte (0 : Int32) [] (.int (0 : Int32))) (Fe8 : Arv Z h0 eai eki .byte (0 : Int32) [] (.int (0 : Int32))) (Fe9 : Arv Z h0 eaj ekj .byte (0 : Int32) [] (.int (0 : Int32))) (hcla : own_cnt la) (hvva : (va.length : Int) = la.toInt) (hclb : own_cnt lb) (hvvb : (vb.length : Int) = lb.toInt) :
    MetFree l (⟨s2_, "command", "([[B)[B"⟩ : MethodName) (head1 (Jvm.Cond.code (⟨s2_, "command", "([[B)[B"⟩ : MethodName) prog_9_method_2_code 8 (some (.array .byte)) :: ws) ({ frames := 2, cells := 1, slots := 90, locals := 33 } : Room)) (fun a U => a = #[(.ref ar)] ∧ Z.Warmed39 U.vm ∧ U.heap = h0) (fun _ _ _ _ _ => True) (fun _ U o U' => ∃ v L, o = .returned v ∧ Q_rm_cmd10 Z ar ka eaa eka la va eab ekb lb vb eac ekc ead ekd eae eke eaf ekf eag ekg eah ekh eai eki eaj ekj h0 n0 v U'.heap L ∧ FrameEnd U o U' L ({ frames := 2, cells := 1, slots := 90, locals := 33 } : Room).cells ({ frames := 2, cells := 1, slots := 90, locals := 33 } : Room).slots) := by
  refine MetFree.of_bodySF (plainFor_of_name own_pn_com_example_living_lease_livinglease_redis_Resp) hisR ?_
  intro p e s m args below meth c s₁ Bd hml0 hP hK
  obtain ⟨rfl, hZ, hh⟩ := hP
  have hx := Bd.exec
  have hby := Bd.bytes
  have hml : c.maxLocals = 8 := hml0
  have hown : s.vm.findClass s2_ = some m.cls := findClass_of_methodNamed Bd.named
  have hnm := (name_of_methodNamed Bd.named Bd.method).1
  have X0 : Stand p l e ({ frames := 2, cells := 1, slots := 90, locals := 33 } : Room) s m #[(.ref ar)] below meth c s₁ [] 0 0 := Stand.of_body Bd
  have e0 : s₁.heap = h0 := by rw [← hh, Bd.state]; rfl
  have N0 := Fr.nil n0
  have Z0 : n0 ≤ h0.size := by rw [← O0.1]; exact O0.2.1
  show own_Go p e below (s₁.setTop (entryFrame m #[(.ref ar)] 8)) (fun t o => ∃ v L, o = .returned v ∧ Q_rm_cmd10 Z ar ka eaa eka la va eab ekb lb vb eac ekc ead ekd eae eke eaf ekf eag ekg eah ekh eai eki eaj ekj h0 n0 v t.heap L ∧ FrameEnd s o t L ({ frames := 2, cells := 1, slots := 90, locals := 33 } : Room).cells ({ frames := 2, cells := 1, slots := 90, locals := 33 } : Room).slots)
  rw [ef_rm_cmd10 m ar ka eaa eka la va eab ekb lb vb eac ekc ead ekd eae eke eaf ekf eag ekg eah ekh eai eki eaj ekj]
  have lt_Fa : h0.size > ar := Fa.lt
  have lt_Fe0 : h0.size > eaa := Fe0.lt
  have lt_Fe1 : h0.size > eab := Fe1.lt
  have lt_Fe2 : h0.size > eac := Fe2.lt
  have lt_Fe3 : h0.size > ead := Fe3.lt
  have lt_Fe4 : h0.size > eae := Fe4.lt
  have lt_Fe5 : h0.size > eaf := Fe5.lt
  have lt_Fe6 : h0.size > eag := Fe6.lt
  have lt_Fe7 : h0.size > eah := Fe7.lt
  have lt_Fe8 : h0.size > eai := Fe8.lt
  have lt_Fe9 : h0.size > eaj := Fe9.lt
  have hn_N := own_hn_10
  have hn_0 := own_hn_0
  have hr_la := own_cnt_rng hcla
  have hd_la := own_dl_hn hcla
  have hr_lb := own_cnt_rng hclb
  have hd_lb := own_dl_hn hclb
  refine oIc X0 hx hby D3_0 (z := (1 : Int32)) rfl ?_
  refine n_aloadN X0 hx hby D3_1 rfl rfl ?_
  obtain ⟨cl1, Ar1, q1, S1, M1, H1, G1⟩ := (id Fa)
  refine ob_ (X0.arraylength hx (by rw [e0]; exact Ar1.1) (State.isArrayOf_alike hZ.alike Ar1.2.1) (g := (mkF m 2 #[.val (.ref ar), .unset, .unset, .unset, .unset, .unset, .unset, .unset] [(.ref ar), (.int (1 : Int32))])) rfl rfl (hb hby D3_2)) ?_
  rw [len_of S1 M1]
  refine o_ksc 3 0 0 (Jvm.LawKit.callS X0 hx (y := (⟨s2_, "decimalLength", "(I)I"⟩ : MethodName)) hown (mw hZ hw 14 rfl) (mw hZ hw 15 rfl) (mw hZ hw 12 rfl) (mw hZ hw 16 rfl) (by decide) (backOf (W := 1) (rm_dl10 l Z a0 hw [] h0 n0 O0) hZ (own_w hw 16 rfl) (own_w hw 12 rfl) (by decide) (by decide)) (g := (mkF m 3 #[.val (.ref ar), .unset, .unset, .unset, .unset, .unset, .unset, .unset] [(.int (10 : Int32)), (.int (1 : Int32))])) rfl (by rw [hml]; rfl) (argsL := [(.int (10 : Int32))]) (rest := [(.int (1 : Int32))]) (lenOf own_pd__28I_29I rfl) rfl own_z (hb hby D3_3) (fun _ _ => ⟨rfl, e0, (by decide : 0 + 0 ≤ _), (by decide : 0 + 0 ≤ _)⟩)) fun T2 Lc2 _ X2 hQ2 => ?_
  obtain ⟨rfl, M2, K2⟩ := hQ2
  have N2 := Fr.app N0 M2
  obtain ⟨lc2, X2, N2⟩ := own_lc X2 N2
  refine n_iadd X2 hx hby D3_6 ?_
  show own_Go p e below (T2.setTop (mkF m 7 #[.val (.ref ar), .unset, .unset, .unset, .unset, .unset, .unset, .unset] [(.int ((1 : Int32) + (2 : Int32)))])) _
  rw [show (((1 : Int32) + (2 : Int32)) : Int32) = (3 : Int32) from by decide]
  show own_Go p e below (T2.setTop (mkF m 7 #[.val (.ref ar), .unset, .unset, .unset, .unset, .unset, .unset, .unset] [(.int (3 : Int32))])) _
  refine oIc X2 hx hby D3_7 (z := (2 : Int32)) rfl ?_
  refine n_iadd X2 hx hby D3_8 ?_
  show own_Go p e below (T2.setTop (mkF m 9 #[.val (.ref ar), .unset, .unset, .unset, .unset, .unset, .unset, .unset] [(.int ((3 : Int32) + (2 : Int32)))])) _
  rw [show (((3 : Int32) + (2 : Int32)) : Int32) = (5 : Int32) from by decide]
  show own_Go p e below (T2.setTop (mkF m 9 #[.val (.ref ar), .unset, .unset, .unset, .unset, .unset, .unset, .unset] [(.int (5 : Int32))])) _
  refine n_istoreN X2 hx hby D3_9 (l' := #[.val (.ref ar), .val (.int (5 : Int32)), .unset, .unset, .unset, .unset, .unset, .unset]) rfl ?_
  refine n_aloadN X2 hx hby D3_10 rfl rfl ?_
  refine n_astoreN X2 hx hby D3_11 rfl (l' := #[.val (.ref ar), .val (.int (5 : Int32)), .val (.ref ar), .unset, .unset, .unset, .unset, .unset]) rfl ?_
  refine n_aloadN X2 hx hby D3_12 rfl rfl ?_
  obtain ⟨cl3, Ar3, q3, S3, M3, H3, G3⟩ := (id Fa)
  refine ob_ (X2.arraylength hx (by rw [K2]; exact Ar3.1) (State.isArrayOf_alike hZ.alike Ar3.2.1) (g := (mkF m 13 #[.val (.ref ar), .val (.int (5 : Int32)), .val (.ref ar), .unset, .unset, .unset, .unset, .unset] [(.ref ar)])) rfl rfl (hb hby D3_13)) ?_
  rw [len_of S3 M3]
  refine n_istoreN X2 hx hby D3_14 (l' := #[.val (.ref ar), .val (.int (5 : Int32)), .val (.ref ar), .val (.int (10 : Int32)), .unset, .unset, .unset, .unset]) rfl ?_
  refine oIc X2 hx hby D3_15 (z := (0 : Int32)) rfl ?_
  refine n_istore X2 hx hby D3_16 (l' := #[.val (.ref ar), .val (.int (5 : Int32)), .val (.ref ar), .val (.int (10 : Int32)), .val (.int (0 : Int32)), .unset, .unset, .unset]) rfl ?_
  refine n_iload X2 hx hby D3_18 rfl ?_
  refine n_iloadN X2 hx hby D3_20 rfl ?_
  refine n_icmpNo X2 hx hby D3_21 (tlt (by decide : (0 : Int32) < (10 : Int32))).2.1 ?_
  refine n_aloadN X2 hx hby D3_24 rfl rfl ?_
  refine n_iload X2 hx hby D3_25 rfl ?_
  obtain ⟨cl4, Ar4, q4, S4, M4, H4, G4⟩ := (id Fa)
  have hin4 : ¬ ((0 : Int32) < 0 ∨ cl4.slots.size ≤ ((0 : Int32)).toNatClampNeg) := inb_of S4 ⟨by decide, by decide⟩
  refine ob_ (X2.aaload hx (j := (0 : Int32)) (v := (.ref eaa)) (by rw [K2]; exact Ar4.1) (State.isArrayOf_alike hZ.alike Ar4.2.1) rfl Ar4.2.2 hin4 (H4.at hin4 rfl) (g := (mkF m 27 #[.val (.ref ar), .val (.int (5 : Int32)), .val (.ref ar), .val (.int (10 : Int32)), .val (.int (0 : Int32)), .unset, .unset, .unset] [(.int (0 : Int32)), (.ref ar)])) rfl rfl (hb hby D3_27)) ?_
  refine n_astore X2 hx hby D3_28 rfl (l' := #[.val (.ref ar), .val (.int (5 : Int32)), .val (.ref ar), .val (.int (10 : Int32)), .val (.int (0 : Int32)), .val (.ref eaa), .unset, .unset]) rfl ?_
  refine n_iloadN X2 hx hby D3_30 rfl ?_
  refine oIc X2 hx hby D3_31 (z := (1 : Int32)) rfl ?_
  refine n_aload X2 hx hby D3_32 rfl rfl ?_
  obtain ⟨cl5, Ar5, q5, S5, M5, H5, G5⟩ := (id Fe0)
  refine ob_ (X2.arraylength hx (by rw [K2]; exact Ar5.1) (State.isArrayOf_alike hZ.alike Ar5.2.1) (g := (mkF m 34 #[.val (.ref ar), .val (.int (5 : Int32)), .val (.ref ar), .val (.int (10 : Int32)), .val (.int (0 : Int32)), .val (.ref eaa), .unset, .unset] [(.ref eaa), (.int (1 : Int32)), (.int (5 : Int32))])) rfl rfl (hb hby D3_34)) ?_
  rw [len_of S5 M5]
  refine o_ksc 3 0 0 (Jvm.LawKit.callS X2 hx (y := (⟨s2_, "decimalLength", "(I)I"⟩ : MethodName)) hown (mw hZ hw 14 rfl) (mw hZ hw 15 rfl) (mw hZ hw 12 rfl) (mw hZ hw 16 rfl) (by decide) (backOf (W := 2) (rm_dl l Z a0 hw [] la h0 n0 O0 hcla) hZ (own_w hw 16 rfl) (own_w hw 12 rfl) (by decide) (by decide)) (g := (mkF m 35 #[.val (.ref ar), .val (.int (5 : Int32)), .val (.ref ar), .val (.int (10 : Int32)), .val (.int (0 : Int32)), .val (.ref eaa), .unset, .unset] [(.int la), (.int (1 : Int32)), (.int (5 : Int32))])) rfl (by rw [hml]; rfl) (argsL := [(.int la)]) (rest := [(.int (1 : Int32)), (.int (5 : Int32))]) (lenOf own_pd__28I_29I rfl) rfl own_z (hb hby D3_35) (fun _ _ => ⟨rfl, K2, (by decide : 0 + 0 ≤ _), (by decide : 0 + 0 ≤ _)⟩)) fun T6 Lc6 _ X6 hQ6 => ?_
  obtain ⟨rfl, M6, K6⟩ := hQ6
  have N6 := Fr.app N2 M6
  obtain ⟨lc6, X6, N6⟩ := own_lc X6 N6
  refine n_iadd X6 hx hby D3_38 ?_
  refine oIc X6 hx hby D3_39 (z := (2 : Int32)) rfl ?_
  refine n_iadd X6 hx hby D3_40 ?_
  refine n_aload X6 hx hby D3_41 rfl rfl ?_
  obtain ⟨cl7, Ar7, q7, S7, M7, H7, G7⟩ := (id Fe0)
  refine ob_ (X6.arraylength hx (by rw [K6]; exact Ar7.1) (State.isArrayOf_alike hZ.alike Ar7.2.1) (g := (mkF m 43 #[.val (.ref ar), .val (.int (5 : Int32)), .val (.ref ar), .val (.int (10 : Int32)), .val (.int (0 : Int32)), .val (.ref eaa), .unset, .unset] [(.ref eaa), (.int (((1 : Int32) + (own_dl la)) + (2 : Int32))), (.int (5 : Int32))])) rfl rfl (hb hby D3_43)) ?_
  rw [len_of S7 M7]
  refine n_iadd X6 hx hby D3_44 ?_
  refine oIc X6 hx hby D3_45 (z := (2 : Int32)) rfl ?_
  refine n_iadd X6 hx hby D3_46 ?_
  refine n_iadd X6 hx hby D3_47 ?_
  refine n_istoreN X6 hx hby D3_48 (l' := #[.val (.ref ar), .val (.int ((5 : Int32) + (((((1 : Int32) + (own_dl la)) + (2 : Int32)) + la) + (2 : Int32)))), .val (.ref ar), .val (.int (10 : Int32)), .val (.int (0 : Int32)), .val (.ref eaa), .unset, .unset]) rfl ?_
  show own_Go p e below (T6.setTop (mkF m 49 #[.val (.ref ar), .val (.int ((5 : Int32) + (((((1 : Int32) + (own_dl la)) + (2 : Int32)) + la) + (2 : Int32)))), .val (.ref ar), .val (.int (10 : Int32)), .val (.int (0 : Int32)), .val (.ref eaa), .unset, .unset] [])) _
  show own_Go p e below (T6.setTop (mkF m 49 #[.val (.ref ar), .val (.int ((5 : Int32) + (((((1 : Int32) + (own_dl la)) + (2 : Int32)) + la) + (2 : Int32)))), .val (.ref ar), .val (.int (10 : Int32)), .val (.int (0 : Int32)), .val (.ref eaa), .unset, .unset] [])) _
  obtain ⟨sz8, e_sz8⟩ : ∃ z, z = ((5 : Int32) + (((((1 : Int32) + (own_dl la)) + (2 : Int32)) + la) + (2 : Int32))) := ⟨_, rfl⟩
  rw [← e_sz8]
  have hi_sz8 : sz8.toInt = own_hn (10 : Int32) + (own_hn la + la.toInt + 2) := by
    have iv9 : ((5 : Int32) : Int32).toInt = 5 := rfl
    have iv10 : ((1 : Int32) : Int32).toInt = 1 := rfl
    have iv11 : (((1 : Int32) + (own_dl la)) : Int32).toInt = ((1 : Int32) : Int32).toInt + ((own_dl la) : Int32).toInt := own_ia (by omega)
    have iv12 : ((2 : Int32) : Int32).toInt = 2 := rfl
    have iv13 : ((((1 : Int32) + (own_dl la)) + (2 : Int32)) : Int32).toInt = (((1 : Int32) + (own_dl la)) : Int32).toInt + ((2 : Int32) : Int32).toInt := own_ia (by omega)
    have iv14 : (((((1 : Int32) + (own_dl la)) + (2 : Int32)) + la) : Int32).toInt = ((((1 : Int32) + (own_dl la)) + (2 : Int32)) : Int32).toInt + (la : Int32).toInt := own_ia (by omega)
    have iv15 : ((((((1 : Int32) + (own_dl la)) + (2 : Int32)) + la) + (2 : Int32)) : Int32).toInt = (((((1 : Int32) + (own_dl la)) + (2 : Int32)) + la) : Int32).toInt + ((2 : Int32) : Int32).toInt := own_ia (by omega)
    have iv16 : (((5 : Int32) + (((((1 : Int32) + (own_dl la)) + (2 : Int32)) + la) + (2 : Int32))) : Int32).toInt = ((5 : Int32) : Int32).toInt + ((((((1 : Int32) + (own_dl la)) + (2 : Int32)) + la) + (2 : Int32)) : Int32).toInt := own_ia (by omega)
    rw [e_sz8]
    omega
  clear e_sz8
  show own_Go p e below (T6.setTop (mkF m 49 #[.val (.ref ar), .val (.int sz8), .val (.ref ar), .val (.int (10 : Int32)), .val (.int (0 : Int32)), .val (.ref eaa), .unset, .unset] [])) _
  refine n_iinc X6 hx hby D3_49 rfl (l' := #[.val (.ref ar), .val (.int sz8), .val (.ref ar), .val (.int (10 : Int32)), .val (.int (1 : Int32)), .val (.ref eaa), .unset, .unset]) rfl ?_
  refine n_goto X6 hx hby D3_52 (pc0 := 52) (pc' := 18) rfl (by decide) (by decide) ?_
  refine n_iload X6 hx hby D3_18 rfl ?_
  refine n_iloadN X6 hx hby D3_20 rfl ?_
  refine n_icmpNo X6 hx hby D3_21 (tlt (by decide : (1 : Int32) < (10 : Int32))).2.1 ?_
  refine n_aloadN X6 hx hby D3_24 rfl rfl ?_
  refine n_iload X6 hx hby D3_25 rfl ?_
  obtain ⟨cl17, Ar17, q17, S17, M17, H17, G17⟩ := (id Fa)
  have hin17 : ¬ ((1 : Int32) < 0 ∨ cl17.slots.size ≤ ((1 : Int32)).toNatClampNeg) := inb_of S17 ⟨by decide, by decide⟩
  refine ob_ (X6.aaload hx (j := (1 : Int32)) (v := (.ref eab)) (by rw [K6]; exact Ar17.1) (State.isArrayOf_alike hZ.alike Ar17.2.1) rfl Ar17.2.2 hin17 (H17.at hin17 rfl) (g := (mkF m 27 #[.val (.ref ar), .val (.int sz8), .val (.ref ar), .val (.int (10 : Int32)), .val (.int (1 : Int32)), .val (.ref eaa), .unset, .unset] [(.int (1 : Int32)), (.ref ar)])) rfl rfl (hb hby D3_27)) ?_
  refine n_astore X6 hx hby D3_28 rfl (l' := #[.val (.ref ar), .val (.int sz8), .val (.ref ar), .val (.int (10 : Int32)), .val (.int (1 : Int32)), .val (.ref eab), .unset, .unset]) rfl ?_
  refine n_iloadN X6 hx hby D3_30 rfl ?_
  refine oIc X6 hx hby D3_31 (z := (1 : Int32)) rfl ?_
  refine n_aload X6 hx hby D3_32 rfl rfl ?_
  obtain ⟨cl18, Ar18, q18, S18, M18, H18, G18⟩ := (id Fe1)
  refine ob_ (X6.arraylength hx (by rw [K6]; exact Ar18.1) (State.isArrayOf_alike hZ.alike Ar18.2.1) (g := (mkF m 34 #[.val (.ref ar), .val (.int sz8), .val (.ref ar), .val (.int (10 : Int32)), .val (.int (1 : Int32)), .val (.ref eab), .unset, .unset] [(.ref eab), (.int (1 : Int32)), (.int sz8)])) rfl rfl (hb hby D3_34)) ?_
  rw [len_of S18 M18]
  refine o_ksc 3 0 0 (Jvm.LawKit.callS X6 hx (y := (⟨s2_, "decimalLength", "(I)I"⟩ : MethodName)) hown (mw hZ hw 14 rfl) (mw hZ hw 15 rfl) (mw hZ hw 12 rfl) (mw hZ hw 16 rfl) (by decide) (backOf (W := 2) (rm_dl l Z a0 hw [] lb h0 n0 O0 hclb) hZ (own_w hw 16 rfl) (own_w hw 12 rfl) (by decide) (by decide)) (g := (mkF m 35 #[.val (.ref ar), .val (.int sz8), .val (.ref ar), .val (.int (10 : Int32)), .val (.int (1 : Int32)), .val (.ref eab), .unset, .unset] [(.int lb), (.int (1 : Int32)), (.int sz8)])) rfl (by rw [hml]; rfl) (argsL := [(.int lb)]) (rest := [(.int (1 : Int32)), (.int sz8)]) (lenOf own_pd__28I_29I rfl) rfl own_z (hb hby D3_35) (fun _ _ => ⟨rfl, K6, (by decide : 0 + 0 ≤ _), (by decide : 0 + 0 ≤ _)⟩)) fun T19 Lc19 _ X19 hQ19 => ?_
  obtain ⟨rfl, M19, K19⟩ := hQ19
  have N19 := Fr.app N6 M19
  obtain ⟨lc19, X19, N19⟩ := own_lc X19 N19
  refine n_iadd X19 hx hby D3_38 ?_
  refine oIc X19 hx hby D3_39 (z := (2 : Int32)) rfl ?_
  refine n_iadd X19 hx hby D3_40 ?_
  refine n_aload X19 hx hby D3_41 rfl rfl ?_
  obtain ⟨cl20, Ar20, q20, S20, M20, H20, G20⟩ := (id Fe1)
  refine ob_ (X19.arraylength hx (by rw [K19]; exact Ar20.1) (State.isArrayOf_alike hZ.alike Ar20.2.1) (g := (mkF m 43 #[.val (.ref ar), .val (.int sz8), .val (.ref ar), .val (.int (10 : Int32)), .val (.int (1 : Int32)), .val (.ref eab), .unset, .unset] [(.ref eab), (.int (((1 : Int32) + (own_dl lb)) + (2 : Int32))), (.int sz8)])) rfl rfl (hb hby D3_43)) ?_
  rw [len_of S20 M20]
  refine n_iadd X19 hx hby D3_44 ?_
  refine oIc X19 hx hby D3_45 (z := (2 : Int32)) rfl ?_
  refine n_iadd X19 hx hby D3_46 ?_
  refine n_iadd X19 hx hby D3_47 ?_
  refine n_istoreN X19 hx hby D3_48 (l' := #[.val (.ref ar), .val (.int (sz8 + (((((1 : Int32) + (own_dl lb)) + (2 : Int32)) + lb) + (2 : Int32)))), .val (.ref ar), .val (.int (10 : Int32)), .val (.int (1 : Int32)), .val (.ref eab), .unset, .unset]) rfl ?_
  show own_Go p e below (T19.setTop (mkF m 49 #[.val (.ref ar), .val (.int (sz8 + (((((1 : Int32) + (own_dl lb)) + (2 : Int32)) + lb) + (2 : Int32)))), .val (.ref ar), .val (.int (10 : Int32)), .val (.int (1 : Int32)), .val (.ref eab), .unset, .unset] [])) _
  show own_Go p e below (T19.setTop (mkF m 49 #[.val (.ref ar), .val (.int (sz8 + (((((1 : Int32) + (own_dl lb)) + (2 : Int32)) + lb) + (2 : Int32)))), .val (.ref ar), .val (.int (10 : Int32)), .val (.int (1 : Int32)), .val (.ref eab), .unset, .unset] [])) _
  obtain ⟨sz21, e_sz21⟩ : ∃ z, z = (sz8 + (((((1 : Int32) + (own_dl lb)) + (2 : Int32)) + lb) + (2 : Int32))) := ⟨_, rfl⟩
  rw [← e_sz21]
  have hi_sz21 : sz21.toInt = sz8.toInt + (own_hn lb + lb.toInt + 2) := by
    have iv22 : ((1 : Int32) : Int32).toInt = 1 := rfl
    have iv23 : (((1 : Int32) + (own_dl lb)) : Int32).toInt = ((1 : Int32) : Int32).toInt + ((own_dl lb) : Int32).toInt := own_ia (by omega)
    have iv24 : ((2 : Int32) : Int32).toInt = 2 := rfl
    have iv25 : ((((1 : Int32) + (own_dl lb)) + (2 : Int32)) : Int32).toInt = (((1 : Int32) + (own_dl lb)) : Int32).toInt + ((2 : Int32) : Int32).toInt := own_ia (by omega)
    have iv26 : (((((1 : Int32) + (own_dl lb)) + (2 : Int32)) + lb) : Int32).toInt = ((((1 : Int32) + (own_dl lb)) + (2 : Int32)) : Int32).toInt + (lb : Int32).toInt := own_ia (by omega)
    have iv27 : ((((((1 : Int32) + (own_dl lb)) + (2 : Int32)) + lb) + (2 : Int32)) : Int32).toInt = (((((1 : Int32) + (own_dl lb)) + (2 : Int32)) + lb) : Int32).toInt + ((2 : Int32) : Int32).toInt := own_ia (by omega)
    have iv28 : ((sz8 + (((((1 : Int32) + (own_dl lb)) + (2 : Int32)) + lb) + (2 : Int32))) : Int32).toInt = (sz8 : Int32).toInt + ((((((1 : Int32) + (own_dl lb)) + (2 : Int32)) + lb) + (2 : Int32)) : Int32).toInt := own_ia (by omega)
    rw [e_sz21]
    omega
  clear e_sz21
  show own_Go p e below (T19.setTop (mkF m 49 #[.val (.ref ar), .val (.int sz21), .val (.ref ar), .val (.int (10 : Int32)), .val (.int (1 : Int32)), .val (.ref eab), .unset, .unset] [])) _
  refine n_iinc X19 hx hby D3_49 rfl (l' := #[.val (.ref ar), .val (.int sz21), .val (.ref ar), .val (.int (10 : Int32)), .val (.int (2 : Int32)), .val (.ref eab), .unset, .unset]) rfl ?_
  refine n_goto X19 hx hby D3_52 (pc0 := 52) (pc' := 18) rfl (by decide) (by decide) ?_
  refine n_iload X19 hx hby D3_18 rfl ?_
  refine n_iloadN X19 hx hby D3_20 rfl ?_
  refine n_icmpNo X19 hx hby D3_21 (tlt (by decide : (2 : Int32) < (10 : Int32))).2.1 ?_
  refine n_aloadN X19 hx hby D3_24 rfl rfl ?_
  refine n_iload X19 hx hby D3_25 rfl ?_
  obtain ⟨cl29, Ar29, q29, S29, M29, H29, G29⟩ := (id Fa)
  have hin29 : ¬ ((2 : Int32) < 0 ∨ cl29.slots.size ≤ ((2 : Int32)).toNatClampNeg) := inb_of S29 ⟨by decide, by decide⟩
  refine ob_ (X19.aaload hx (j := (2 : Int32)) (v := (.ref eac)) (by rw [K19]; exact Ar29.1) (State.isArrayOf_alike hZ.alike Ar29.2.1) rfl Ar29.2.2 hin29 (H29.at hin29 rfl) (g := (mkF m 27 #[.val (.ref ar), .val (.int sz21), .val (.ref ar), .val (.int (10 : Int32)), .val (.int (2 : Int32)), .val (.ref eab), .unset, .unset] [(.int (2 : Int32)), (.ref ar)])) rfl rfl (hb hby D3_27)) ?_
  refine n_astore X19 hx hby D3_28 rfl (l' := #[.val (.ref ar), .val (.int sz21), .val (.ref ar), .val (.int (10 : Int32)), .val (.int (2 : Int32)), .val (.ref eac), .unset, .unset]) rfl ?_
  refine n_iloadN X19 hx hby D3_30 rfl ?_
  refine oIc X19 hx hby D3_31 (z := (1 : Int32)) rfl ?_
  refine n_aload X19 hx hby D3_32 rfl rfl ?_
  obtain ⟨cl30, Ar30, q30, S30, M30, H30, G30⟩ := (id Fe2)
  refine ob_ (X19.arraylength hx (by rw [K19]; exact Ar30.1) (State.isArrayOf_alike hZ.alike Ar30.2.1) (g := (mkF m 34 #[.val (.ref ar), .val (.int sz21), .val (.ref ar), .val (.int (10 : Int32)), .val (.int (2 : Int32)), .val (.ref eac), .unset, .unset] [(.ref eac), (.int (1 : Int32)), (.int sz21)])) rfl rfl (hb hby D3_34)) ?_
  rw [len_of S30 M30]
  refine o_ksc 3 0 0 (Jvm.LawKit.callS X19 hx (y := (⟨s2_, "decimalLength", "(I)I"⟩ : MethodName)) hown (mw hZ hw 14 rfl) (mw hZ hw 15 rfl) (mw hZ hw 12 rfl) (mw hZ hw 16 rfl) (by decide) (backOf (W := 2) (rm_dl0 l Z a0 hw [] h0 n0 O0) hZ (own_w hw 16 rfl) (own_w hw 12 rfl) (by decide) (by decide)) (g := (mkF m 35 #[.val (.ref ar), .val (.int sz21), .val (.ref ar), .val (.int (10 : Int32)), .val (.int (2 : Int32)), .val (.ref eac), .unset, .unset] [(.int (0 : Int32)), (.int (1 : Int32)), (.int sz21)])) rfl (by rw [hml]; rfl) (argsL := [(.int (0 : Int32))]) (rest := [(.int (1 : Int32)), (.int sz21)]) (lenOf own_pd__28I_29I rfl) rfl own_z (hb hby D3_35) (fun _ _ => ⟨rfl, K19, (by decide : 0 + 0 ≤ _), (by decide : 0 + 0 ≤ _)⟩)) fun T31 Lc31 _ X31 hQ31 => ?_
  obtain ⟨rfl, M31, K31⟩ := hQ31
  have N31 := Fr.app N19 M31
  obtain ⟨lc31, X31, N31⟩ := own_lc X31 N31
  refine n_iadd X31 hx hby D3_38 ?_
  show own_Go p e below (T31.setTop (mkF m 39 #[.val (.ref ar), .val (.int sz21), .val (.ref ar), .val (.int (10 : Int32)), .val (.int (2 : Int32)), .val (.ref eac), .unset, .unset] [(.int ((1 : Int32) + (1 : Int32))), (.int sz21)])) _
  rw [show (((1 : Int32) + (1 : Int32)) : Int32) = (2 : Int32) from by decide]
  show own_Go p e below (T31.setTop (mkF m 39 #[.val (.ref ar), .val (.int sz21), .val (.ref ar), .val (.int (10 : Int32)), .val (.int (2 : Int32)), .val (.ref eac), .unset, .unset] [(.int (2 : Int32)), (.int sz21)])) _
  refine oIc X31 hx hby D3_39 (z := (2 : Int32)) rfl ?_
  refine n_iadd X31 hx hby D3_40 ?_
  show own_Go p e below (T31.setTop (mkF m 41 #[.val (.ref ar), .val (.int sz21), .val (.ref ar), .val (.int (10 : Int32)), .val (.int (2 : Int32)), .val (.ref eac), .unset, .unset] [(.int ((2 : Int32) + (2 : Int32))), (.int sz21)])) _
  rw [show (((2 : Int32) + (2 : Int32)) : Int32) = (4 : Int32) from by decide]
  show own_Go p e below (T31.setTop (mkF m 41 #[.val (.ref ar), .val (.int sz21), .val (.ref ar), .val (.int (10 : Int32)), .val (.int (2 : Int32)), .val (.ref eac), .unset, .unset] [(.int (4 : Int32)), (.int sz21)])) _
  refine n_aload X31 hx hby D3_41 rfl rfl ?_
  obtain ⟨cl32, Ar32, q32, S32, M32, H32, G32⟩ := (id Fe2)
  refine ob_ (X31.arraylength hx (by rw [K31]; exact Ar32.1) (State.isArrayOf_alike hZ.alike Ar32.2.1) (g := (mkF m 43 #[.val (.ref ar), .val (.int sz21), .val (.ref ar), .val (.int (10 : Int32)), .val (.int (2 : Int32)), .val (.ref eac), .unset, .unset] [(.ref eac), (.int (4 : Int32)), (.int sz21)])) rfl rfl (hb hby D3_43)) ?_
  rw [len_of S32 M32]
  refine n_iadd X31 hx hby D3_44 ?_
  show own_Go p e below (T31.setTop (mkF m 45 #[.val (.ref ar), .val (.int sz21), .val (.ref ar), .val (.int (10 : Int32)), .val (.int (2 : Int32)), .val (.ref eac), .unset, .unset] [(.int ((4 : Int32) + (0 : Int32))), (.int sz21)])) _
  rw [show (((4 : Int32) + (0 : Int32)) : Int32) = (4 : Int32) from by decide]
  show own_Go p e below (T31.setTop (mkF m 45 #[.val (.ref ar), .val (.int sz21), .val (.ref ar), .val (.int (10 : Int32)), .val (.int (2 : Int32)), .val (.ref eac), .unset, .unset] [(.int (4 : Int32)), (.int sz21)])) _
  refine oIc X31 hx hby D3_45 (z := (2 : Int32)) rfl ?_
  refine n_iadd X31 hx hby D3_46 ?_
  show own_Go p e below (T31.setTop (mkF m 47 #[.val (.ref ar), .val (.int sz21), .val (.ref ar), .val (.int (10 : Int32)), .val (.int (2 : Int32)), .val (.ref eac), .unset, .unset] [(.int ((4 : Int32) + (2 : Int32))), (.int sz21)])) _
  rw [show (((4 : Int32) + (2 : Int32)) : Int32) = (6 : Int32) from by decide]
  show own_Go p e below (T31.setTop (mkF m 47 #[.val (.ref ar), .val (.int sz21), .val (.ref ar), .val (.int (10 : Int32)), .val (.int (2 : Int32)), .val (.ref eac), .unset, .unset] [(.int (6 : Int32)), (.int sz21)])) _
  refine n_iadd X31 hx hby D3_47 ?_
  refine n_istoreN X31 hx hby D3_48 (l' := #[.val (.ref ar), .val (.int (sz21 + (6 : Int32))), .val (.ref ar), .val (.int (10 : Int32)), .val (.int (2 : Int32)), .val (.ref eac), .unset, .unset]) rfl ?_
  show own_Go p e below (T31.setTop (mkF m 49 #[.val (.ref ar), .val (.int (sz21 + (6 : Int32))), .val (.ref ar), .val (.int (10 : Int32)), .val (.int (2 : Int32)), .val (.ref eac), .unset, .unset] [])) _
  show own_Go p e below (T31.setTop (mkF m 49 #[.val (.ref ar), .val (.int (sz21 + (6 : Int32))), .val (.ref ar), .val (.int (10 : Int32)), .val (.int (2 : Int32)), .val (.ref eac), .unset, .unset] [])) _
  obtain ⟨sz33, e_sz33⟩ : ∃ z, z = (sz21 + (6 : Int32)) := ⟨_, rfl⟩
  rw [← e_sz33]
  have hi_sz33 : sz33.toInt = sz21.toInt + 6 := by
    have iv34 : ((6 : Int32) : Int32).toInt = 6 := rfl
    have iv35 : ((sz21 + (6 : Int32)) : Int32).toInt = (sz21 : Int32).toInt + ((6 : Int32) : Int32).toInt := own_ia (by omega)
    rw [e_sz33]
    omega
  clear e_sz33
  show own_Go p e below (T31.setTop (mkF m 49 #[.val (.ref ar), .val (.int sz33), .val (.ref ar), .val (.int (10 : Int32)), .val (.int (2 : Int32)), .val (.ref eac), .unset, .unset] [])) _
  refine n_iinc X31 hx hby D3_49 rfl (l' := #[.val (.ref ar), .val (.int sz33), .val (.ref ar), .val (.int (10 : Int32)), .val (.int (3 : Int32)), .val (.ref eac), .unset, .unset]) rfl ?_
  refine n_goto X31 hx hby D3_52 (pc0 := 52) (pc' := 18) rfl (by decide) (by decide) ?_
  refine n_iload X31 hx hby D3_18 rfl ?_
  refine n_iloadN X31 hx hby D3_20 rfl ?_
  refine n_icmpNo X31 hx hby D3_21 (tlt (by decide : (3 : Int32) < (10 : Int32))).2.1 ?_
  refine n_aloadN X31 hx hby D3_24 rfl rfl ?_
  refine n_iload X31 hx hby D3_25 rfl ?_
  obtain ⟨cl36, Ar36, q36, S36, M36, H36, G36⟩ := (id Fa)
  have hin36 : ¬ ((3 : Int32) < 0 ∨ cl36.slots.size ≤ ((3 : Int32)).toNatClampNeg) := inb_of S36 ⟨by decide, by decide⟩
  refine ob_ (X31.aaload hx (j := (3 : Int32)) (v := (.ref ead)) (by rw [K31]; exact Ar36.1) (State.isArrayOf_alike hZ.alike Ar36.2.1) rfl Ar36.2.2 hin36 (H36.at hin36 rfl) (g := (mkF m 27 #[.val (.ref ar), .val (.int sz33), .val (.ref ar), .val (.int (10 : Int32)), .val (.int (3 : Int32)), .val (.ref eac), .unset, .unset] [(.int (3 : Int32)), (.ref ar)])) rfl rfl (hb hby D3_27)) ?_
  refine n_astore X31 hx hby D3_28 rfl (l' := #[.val (.ref ar), .val (.int sz33), .val (.ref ar), .val (.int (10 : Int32)), .val (.int (3 : Int32)), .val (.ref ead), .unset, .unset]) rfl ?_
  refine n_iloadN X31 hx hby D3_30 rfl ?_
  refine oIc X31 hx hby D3_31 (z := (1 : Int32)) rfl ?_
  refine n_aload X31 hx hby D3_32 rfl rfl ?_
  obtain ⟨cl37, Ar37, q37, S37, M37, H37, G37⟩ := (id Fe3)
  refine ob_ (X31.arraylength hx (by rw [K31]; exact Ar37.1) (State.isArrayOf_alike hZ.alike Ar37.2.1) (g := (mkF m 34 #[.val (.ref ar), .val (.int sz33), .val (.ref ar), .val (.int (10 : Int32)), .val (.int (3 : Int32)), .val (.ref ead), .unset, .unset] [(.ref ead), (.int (1 : Int32)), (.int sz33)])) rfl rfl (hb hby D3_34)) ?_
  rw [len_of S37 M37]
  refine o_ksc 3 0 0 (Jvm.LawKit.callS X31 hx (y := (⟨s2_, "decimalLength", "(I)I"⟩ : MethodName)) hown (mw hZ hw 14 rfl) (mw hZ hw 15 rfl) (mw hZ hw 12 rfl) (mw hZ hw 16 rfl) (by decide) (backOf (W := 2) (rm_dl0 l Z a0 hw [] h0 n0 O0) hZ (own_w hw 16 rfl) (own_w hw 12 rfl) (by decide) (by decide)) (g := (mkF m 35 #[.val (.ref ar), .val (.int sz33), .val (.ref ar), .val (.int (10 : Int32)), .val (.int (3 : Int32)), .val (.ref ead), .unset, .unset] [(.int (0 : Int32)), (.int (1 : Int32)), (.int sz33)])) rfl (by rw [hml]; rfl) (argsL := [(.int (0 : Int32))]) (rest := [(.int (1 : Int32)), (.int sz33)]) (lenOf own_pd__28I_29I rfl) rfl own_z (hb hby D3_35) (fun _ _ => ⟨rfl, K31, (by decide : 0 + 0 ≤ _), (by decide : 0 + 0 ≤ _)⟩)) fun T38 Lc38 _ X38 hQ38 => ?_
  obtain ⟨rfl, M38, K38⟩ := hQ38
  have N38 := Fr.app N31 M38
  obtain ⟨lc38, X38, N38⟩ := own_lc X38 N38
  refine n_iadd X38 hx hby D3_38 ?_
  show own_Go p e below (T38.setTop (mkF m 39 #[.val (.ref ar), .val (.int sz33), .val (.ref ar), .val (.int (10 : Int32)), .val (.int (3 : Int32)), .val (.ref ead), .unset, .unset] [(.int ((1 : Int32) + (1 : Int32))), (.int sz33)])) _
  rw [show (((1 : Int32) + (1 : Int32)) : Int32) = (2 : Int32) from by decide]
  show own_Go p e below (T38.setTop (mkF m 39 #[.val (.ref ar), .val (.int sz33), .val (.ref ar), .val (.int (10 : Int32)), .val (.int (3 : Int32)), .val (.ref ead), .unset, .unset] [(.int (2 : Int32)), (.int sz33)])) _
  refine oIc X38 hx hby D3_39 (z := (2 : Int32)) rfl ?_
  refine n_iadd X38 hx hby D3_40 ?_
  show own_Go p e below (T38.setTop (mkF m 41 #[.val (.ref ar), .val (.int sz33), .val (.ref ar), .val (.int (10 : Int32)), .val (.int (3 : Int32)), .val (.ref ead), .unset, .unset] [(.int ((2 : Int32) + (2 : Int32))), (.int sz33)])) _
  rw [show (((2 : Int32) + (2 : Int32)) : Int32) = (4 : Int32) from by decide]
  show own_Go p e below (T38.setTop (mkF m 41 #[.val (.ref ar), .val (.int sz33), .val (.ref ar), .val (.int (10 : Int32)), .val (.int (3 : Int32)), .val (.ref ead), .unset, .unset] [(.int (4 : Int32)), (.int sz33)])) _
  refine n_aload X38 hx hby D3_41 rfl rfl ?_
  obtain ⟨cl39, Ar39, q39, S39, M39, H39, G39⟩ := (id Fe3)
  refine ob_ (X38.arraylength hx (by rw [K38]; exact Ar39.1) (State.isArrayOf_alike hZ.alike Ar39.2.1) (g := (mkF m 43 #[.val (.ref ar), .val (.int sz33), .val (.ref ar), .val (.int (10 : Int32)), .val (.int (3 : Int32)), .val (.ref ead), .unset, .unset] [(.ref ead), (.int (4 : Int32)), (.int sz33)])) rfl rfl (hb hby D3_43)) ?_
  rw [len_of S39 M39]
  refine n_iadd X38 hx hby D3_44 ?_
  show own_Go p e below (T38.setTop (mkF m 45 #[.val (.ref ar), .val (.int sz33), .val (.ref ar), .val (.int (10 : Int32)), .val (.int (3 : Int32)), .val (.ref ead), .unset, .unset] [(.int ((4 : Int32) + (0 : Int32))), (.int sz33)])) _
  rw [show (((4 : Int32) + (0 : Int32)) : Int32) = (4 : Int32) from by decide]
  show own_Go p e below (T38.setTop (mkF m 45 #[.val (.ref ar), .val (.int sz33), .val (.ref ar), .val (.int (10 : Int32)), .val (.int (3 : Int32)), .val (.ref ead), .unset, .unset] [(.int (4 : Int32)), (.int sz33)])) _
  refine oIc X38 hx hby D3_45 (z := (2 : Int32)) rfl ?_
  refine n_iadd X38 hx hby D3_46 ?_
  show own_Go p e below (T38.setTop (mkF m 47 #[.val (.ref ar), .val (.int sz33), .val (.ref ar), .val (.int (10 : Int32)), .val (.int (3 : Int32)), .val (.ref ead), .unset, .unset] [(.int ((4 : Int32) + (2 : Int32))), (.int sz33)])) _
  rw [show (((4 : Int32) + (2 : Int32)) : Int32) = (6 : Int32) from by decide]
  show own_Go p e below (T38.setTop (mkF m 47 #[.val (.ref ar), .val (.int sz33), .val (.ref ar), .val (.int (10 : Int32)), .val (.int (3 : Int32)), .val (.ref ead), .unset, .unset] [(.int (6 : Int32)), (.int sz33)])) _
  refine n_iadd X38 hx hby D3_47 ?_
  refine n_istoreN X38 hx hby D3_48 (l' := #[.val (.ref ar), .val (.int (sz33 + (6 : Int32))), .val (.ref ar), .val (.int (10 : Int32)), .val (.int (3 : Int32)), .val (.ref ead), .unset, .unset]) rfl ?_
  show own_Go p e below (T38.setTop (mkF m 49 #[.val (.ref ar), .val (.int (sz33 + (6 : Int32))), .val (.ref ar), .val (.int (10 : Int32)), .val (.int (3 : Int32)), .val (.ref ead), .unset, .unset] [])) _
  show own_Go p e below (T38.setTop (mkF m 49 #[.val (.ref ar), .val (.int (sz33 + (6 : Int32))), .val (.ref ar), .val (.int (10 : Int32)), .val (.int (3 : Int32)), .val (.ref ead), .unset, .unset] [])) _
  obtain ⟨sz40, e_sz40⟩ : ∃ z, z = (sz33 + (6 : Int32)) := ⟨_, rfl⟩
  rw [← e_sz40]
  have hi_sz40 : sz40.toInt = sz33.toInt + 6 := by
    have iv41 : ((6 : Int32) : Int32).toInt = 6 := rfl
    have iv42 : ((sz33 + (6 : Int32)) : Int32).toInt = (sz33 : Int32).toInt + ((6 : Int32) : Int32).toInt := own_ia (by omega)
    rw [e_sz40]
    omega
  clear e_sz40
  show own_Go p e below (T38.setTop (mkF m 49 #[.val (.ref ar), .val (.int sz40), .val (.ref ar), .val (.int (10 : Int32)), .val (.int (3 : Int32)), .val (.ref ead), .unset, .unset] [])) _
  refine n_iinc X38 hx hby D3_49 rfl (l' := #[.val (.ref ar), .val (.int sz40), .val (.ref ar), .val (.int (10 : Int32)), .val (.int (4 : Int32)), .val (.ref ead), .unset, .unset]) rfl ?_
  refine n_goto X38 hx hby D3_52 (pc0 := 52) (pc' := 18) rfl (by decide) (by decide) ?_
  refine n_iload X38 hx hby D3_18 rfl ?_
  refine n_iloadN X38 hx hby D3_20 rfl ?_
  refine n_icmpNo X38 hx hby D3_21 (tlt (by decide : (4 : Int32) < (10 : Int32))).2.1 ?_
  refine n_aloadN X38 hx hby D3_24 rfl rfl ?_
  refine n_iload X38 hx hby D3_25 rfl ?_
  obtain ⟨cl43, Ar43, q43, S43, M43, H43, G43⟩ := (id Fa)
  have hin43 : ¬ ((4 : Int32) < 0 ∨ cl43.slots.size ≤ ((4 : Int32)).toNatClampNeg) := inb_of S43 ⟨by decide, by decide⟩
  refine ob_ (X38.aaload hx (j := (4 : Int32)) (v := (.ref eae)) (by rw [K38]; exact Ar43.1) (State.isArrayOf_alike hZ.alike Ar43.2.1) rfl Ar43.2.2 hin43 (H43.at hin43 rfl) (g := (mkF m 27 #[.val (.ref ar), .val (.int sz40), .val (.ref ar), .val (.int (10 : Int32)), .val (.int (4 : Int32)), .val (.ref ead), .unset, .unset] [(.int (4 : Int32)), (.ref ar)])) rfl rfl (hb hby D3_27)) ?_
  refine n_astore X38 hx hby D3_28 rfl (l' := #[.val (.ref ar), .val (.int sz40), .val (.ref ar), .val (.int (10 : Int32)), .val (.int (4 : Int32)), .val (.ref eae), .unset, .unset]) rfl ?_
  refine n_iloadN X38 hx hby D3_30 rfl ?_
  refine oIc X38 hx hby D3_31 (z := (1 : Int32)) rfl ?_
  refine n_aload X38 hx hby D3_32 rfl rfl ?_
  obtain ⟨cl44, Ar44, q44, S44, M44, H44, G44⟩ := (id Fe4)
  refine ob_ (X38.arraylength hx (by rw [K38]; exact Ar44.1) (State.isArrayOf_alike hZ.alike Ar44.2.1) (g := (mkF m 34 #[.val (.ref ar), .val (.int sz40), .val (.ref ar), .val (.int (10 : Int32)), .val (.int (4 : Int32)), .val (.ref eae), .unset, .unset] [(.ref eae), (.int (1 : Int32)), (.int sz40)])) rfl rfl (hb hby D3_34)) ?_
  rw [len_of S44 M44]
  refine o_ksc 3 0 0 (Jvm.LawKit.callS X38 hx (y := (⟨s2_, "decimalLength", "(I)I"⟩ : MethodName)) hown (mw hZ hw 14 rfl) (mw hZ hw 15 rfl) (mw hZ hw 12 rfl) (mw hZ hw 16 rfl) (by decide) (backOf (W := 2) (rm_dl0 l Z a0 hw [] h0 n0 O0) hZ (own_w hw 16 rfl) (own_w hw 12 rfl) (by decide) (by decide)) (g := (mkF m 35 #[.val (.ref ar), .val (.int sz40), .val (.ref ar), .val (.int (10 : Int32)), .val (.int (4 : Int32)), .val (.ref eae), .unset, .unset] [(.int (0 : Int32)), (.int (1 : Int32)), (.int sz40)])) rfl (by rw [hml]; rfl) (argsL := [(.int (0 : Int32))]) (rest := [(.int (1 : Int32)), (.int sz40)]) (lenOf own_pd__28I_29I rfl) rfl own_z (hb hby D3_35) (fun _ _ => ⟨rfl, K38, (by decide : 0 + 0 ≤ _), (by decide : 0 + 0 ≤ _)⟩)) fun T45 Lc45 _ X45 hQ45 => ?_
  obtain ⟨rfl, M45, K45⟩ := hQ45
  have N45 := Fr.app N38 M45
  obtain ⟨lc45, X45, N45⟩ := own_lc X45 N45
  refine n_iadd X45 hx hby D3_38 ?_
  show own_Go p e below (T45.setTop (mkF m 39 #[.val (.ref ar), .val (.int sz40), .val (.ref ar), .val (.int (10 : Int32)), .val (.int (4 : Int32)), .val (.ref eae), .unset, .unset] [(.int ((1 : Int32) + (1 : Int32))), (.int sz40)])) _
  rw [show (((1 : Int32) + (1 : Int32)) : Int32) = (2 : Int32) from by decide]
  show own_Go p e below (T45.setTop (mkF m 39 #[.val (.ref ar), .val (.int sz40), .val (.ref ar), .val (.int (10 : Int32)), .val (.int (4 : Int32)), .val (.ref eae), .unset, .unset] [(.int (2 : Int32)), (.int sz40)])) _
  refine oIc X45 hx hby D3_39 (z := (2 : Int32)) rfl ?_
  refine n_iadd X45 hx hby D3_40 ?_
  show own_Go p e below (T45.setTop (mkF m 41 #[.val (.ref ar), .val (.int sz40), .val (.ref ar), .val (.int (10 : Int32)), .val (.int (4 : Int32)), .val (.ref eae), .unset, .unset] [(.int ((2 : Int32) + (2 : Int32))), (.int sz40)])) _
  rw [show (((2 : Int32) + (2 : Int32)) : Int32) = (4 : Int32) from by decide]
  show own_Go p e below (T45.setTop (mkF m 41 #[.val (.ref ar), .val (.int sz40), .val (.ref ar), .val (.int (10 : Int32)), .val (.int (4 : Int32)), .val (.ref eae), .unset, .unset] [(.int (4 : Int32)), (.int sz40)])) _
  refine n_aload X45 hx hby D3_41 rfl rfl ?_
  obtain ⟨cl46, Ar46, q46, S46, M46, H46, G46⟩ := (id Fe4)
  refine ob_ (X45.arraylength hx (by rw [K45]; exact Ar46.1) (State.isArrayOf_alike hZ.alike Ar46.2.1) (g := (mkF m 43 #[.val (.ref ar), .val (.int sz40), .val (.ref ar), .val (.int (10 : Int32)), .val (.int (4 : Int32)), .val (.ref eae), .unset, .unset] [(.ref eae), (.int (4 : Int32)), (.int sz40)])) rfl rfl (hb hby D3_43)) ?_
  rw [len_of S46 M46]
  refine n_iadd X45 hx hby D3_44 ?_
  show own_Go p e below (T45.setTop (mkF m 45 #[.val (.ref ar), .val (.int sz40), .val (.ref ar), .val (.int (10 : Int32)), .val (.int (4 : Int32)), .val (.ref eae), .unset, .unset] [(.int ((4 : Int32) + (0 : Int32))), (.int sz40)])) _
  rw [show (((4 : Int32) + (0 : Int32)) : Int32) = (4 : Int32) from by decide]
  show own_Go p e below (T45.setTop (mkF m 45 #[.val (.ref ar), .val (.int sz40), .val (.ref ar), .val (.int (10 : Int32)), .val (.int (4 : Int32)), .val (.ref eae), .unset, .unset] [(.int (4 : Int32)), (.int sz40)])) _
  refine oIc X45 hx hby D3_45 (z := (2 : Int32)) rfl ?_
  refine n_iadd X45 hx hby D3_46 ?_
  show own_Go p e below (T45.setTop (mkF m 47 #[.val (.ref ar), .val (.int sz40), .val (.ref ar), .val (.int (10 : Int32)), .val (.int (4 : Int32)), .val (.ref eae), .unset, .unset] [(.int ((4 : Int32) + (2 : Int32))), (.int sz40)])) _
  rw [show (((4 : Int32) + (2 : Int32)) : Int32) = (6 : Int32) from by decide]
  show own_Go p e below (T45.setTop (mkF m 47 #[.val (.ref ar), .val (.int sz40), .val (.ref ar), .val (.int (10 : Int32)), .val (.int (4 : Int32)), .val (.ref eae), .unset, .unset] [(.int (6 : Int32)), (.int sz40)])) _
  refine n_iadd X45 hx hby D3_47 ?_
  refine n_istoreN X45 hx hby D3_48 (l' := #[.val (.ref ar), .val (.int (sz40 + (6 : Int32))), .val (.ref ar), .val (.int (10 : Int32)), .val (.int (4 : Int32)), .val (.ref eae), .unset, .unset]) rfl ?_
  show own_Go p e below (T45.setTop (mkF m 49 #[.val (.ref ar), .val (.int (sz40 + (6 : Int32))), .val (.ref ar), .val (.int (10 : Int32)), .val (.int (4 : Int32)), .val (.ref eae), .unset, .unset] [])) _
  show own_Go p e below (T45.setTop (mkF m 49 #[.val (.ref ar), .val (.int (sz40 + (6 : Int32))), .val (.ref ar), .val (.int (10 : Int32)), .val (.int (4 : Int32)), .val (.ref eae), .unset, .unset] [])) _
  obtain ⟨sz47, e_sz47⟩ : ∃ z, z = (sz40 + (6 : Int32)) := ⟨_, rfl⟩
  rw [← e_sz47]
  have hi_sz47 : sz47.toInt = sz40.toInt + 6 := by
    have iv48 : ((6 : Int32) : Int32).toInt = 6 := rfl
    have iv49 : ((sz40 + (6 : Int32)) : Int32).toInt = (sz40 : Int32).toInt + ((6 : Int32) : Int32).toInt := own_ia (by omega)
    rw [e_sz47]
    omega
  clear e_sz47
  show own_Go p e below (T45.setTop (mkF m 49 #[.val (.ref ar), .val (.int sz47), .val (.ref ar), .val (.int (10 : Int32)), .val (.int (4 : Int32)), .val (.ref eae), .unset, .unset] [])) _
  refine n_iinc X45 hx hby D3_49 rfl (l' := #[.val (.ref ar), .val (.int sz47), .val (.ref ar), .val (.int (10 : Int32)), .val (.int (5 : Int32)), .val (.ref eae), .unset, .unset]) rfl ?_
  refine n_goto X45 hx hby D3_52 (pc0 := 52) (pc' := 18) rfl (by decide) (by decide) ?_
  refine n_iload X45 hx hby D3_18 rfl ?_
  refine n_iloadN X45 hx hby D3_20 rfl ?_
  refine n_icmpNo X45 hx hby D3_21 (tlt (by decide : (5 : Int32) < (10 : Int32))).2.1 ?_
  refine n_aloadN X45 hx hby D3_24 rfl rfl ?_
  refine n_iload X45 hx hby D3_25 rfl ?_
  obtain ⟨cl50, Ar50, q50, S50, M50, H50, G50⟩ := (id Fa)
  have hin50 : ¬ ((5 : Int32) < 0 ∨ cl50.slots.size ≤ ((5 : Int32)).toNatClampNeg) := inb_of S50 ⟨by decide, by decide⟩
  refine ob_ (X45.aaload hx (j := (5 : Int32)) (v := (.ref eaf)) (by rw [K45]; exact Ar50.1) (State.isArrayOf_alike hZ.alike Ar50.2.1) rfl Ar50.2.2 hin50 (H50.at hin50 rfl) (g := (mkF m 27 #[.val (.ref ar), .val (.int sz47), .val (.ref ar), .val (.int (10 : Int32)), .val (.int (5 : Int32)), .val (.ref eae), .unset, .unset] [(.int (5 : Int32)), (.ref ar)])) rfl rfl (hb hby D3_27)) ?_
  refine n_astore X45 hx hby D3_28 rfl (l' := #[.val (.ref ar), .val (.int sz47), .val (.ref ar), .val (.int (10 : Int32)), .val (.int (5 : Int32)), .val (.ref eaf), .unset, .unset]) rfl ?_
  refine n_iloadN X45 hx hby D3_30 rfl ?_
  refine oIc X45 hx hby D3_31 (z := (1 : Int32)) rfl ?_
  refine n_aload X45 hx hby D3_32 rfl rfl ?_
  obtain ⟨cl51, Ar51, q51, S51, M51, H51, G51⟩ := (id Fe5)
  refine ob_ (X45.arraylength hx (by rw [K45]; exact Ar51.1) (State.isArrayOf_alike hZ.alike Ar51.2.1) (g := (mkF m 34 #[.val (.ref ar), .val (.int sz47), .val (.ref ar), .val (.int (10 : Int32)), .val (.int (5 : Int32)), .val (.ref eaf), .unset, .unset] [(.ref eaf), (.int (1 : Int32)), (.int sz47)])) rfl rfl (hb hby D3_34)) ?_
  rw [len_of S51 M51]
  refine o_ksc 3 0 0 (Jvm.LawKit.callS X45 hx (y := (⟨s2_, "decimalLength", "(I)I"⟩ : MethodName)) hown (mw hZ hw 14 rfl) (mw hZ hw 15 rfl) (mw hZ hw 12 rfl) (mw hZ hw 16 rfl) (by decide) (backOf (W := 2) (rm_dl0 l Z a0 hw [] h0 n0 O0) hZ (own_w hw 16 rfl) (own_w hw 12 rfl) (by decide) (by decide)) (g := (mkF m 35 #[.val (.ref ar), .val (.int sz47), .val (.ref ar), .val (.int (10 : Int32)), .val (.int (5 : Int32)), .val (.ref eaf), .unset, .unset] [(.int (0 : Int32)), (.int (1 : Int32)), (.int sz47)])) rfl (by rw [hml]; rfl) (argsL := [(.int (0 : Int32))]) (rest := [(.int (1 : Int32)), (.int sz47)]) (lenOf own_pd__28I_29I rfl) rfl own_z (hb hby D3_35) (fun _ _ => ⟨rfl, K45, (by decide : 0 + 0 ≤ _), (by decide : 0 + 0 ≤ _)⟩)) fun T52 Lc52 _ X52 hQ52 => ?_
  obtain ⟨rfl, M52, K52⟩ := hQ52
  have N52 := Fr.app N45 M52
  obtain ⟨lc52, X52, N52⟩ := own_lc X52 N52
  refine n_iadd X52 hx hby D3_38 ?_
  show own_Go p e below (T52.setTop (mkF m 39 #[.val (.ref ar), .val (.int sz47), .val (.ref ar), .val (.int (10 : Int32)), .val (.int (5 : Int32)), .val (.ref eaf), .unset, .unset] [(.int ((1 : Int32) + (1 : Int32))), (.int sz47)])) _
  rw [show (((1 : Int32) + (1 : Int32)) : Int32) = (2 : Int32) from by decide]
  show own_Go p e below (T52.setTop (mkF m 39 #[.val (.ref ar), .val (.int sz47), .val (.ref ar), .val (.int (10 : Int32)), .val (.int (5 : Int32)), .val (.ref eaf), .unset, .unset] [(.int (2 : Int32)), (.int sz47)])) _
  refine oIc X52 hx hby D3_39 (z := (2 : Int32)) rfl ?_
  refine n_iadd X52 hx hby D3_40 ?_
  show own_Go p e below (T52.setTop (mkF m 41 #[.val (.ref ar), .val (.int sz47), .val (.ref ar), .val (.int (10 : Int32)), .val (.int (5 : Int32)), .val (.ref eaf), .unset, .unset] [(.int ((2 : Int32) + (2 : Int32))), (.int sz47)])) _
  rw [show (((2 : Int32) + (2 : Int32)) : Int32) = (4 : Int32) from by decide]
  show own_Go p e below (T52.setTop (mkF m 41 #[.val (.ref ar), .val (.int sz47), .val (.ref ar), .val (.int (10 : Int32)), .val (.int (5 : Int32)), .val (.ref eaf), .unset, .unset] [(.int (4 : Int32)), (.int sz47)])) _
  refine n_aload X52 hx hby D3_41 rfl rfl ?_
  obtain ⟨cl53, Ar53, q53, S53, M53, H53, G53⟩ := (id Fe5)
  refine ob_ (X52.arraylength hx (by rw [K52]; exact Ar53.1) (State.isArrayOf_alike hZ.alike Ar53.2.1) (g := (mkF m 43 #[.val (.ref ar), .val (.int sz47), .val (.ref ar), .val (.int (10 : Int32)), .val (.int (5 : Int32)), .val (.ref eaf), .unset, .unset] [(.ref eaf), (.int (4 : Int32)), (.int sz47)])) rfl rfl (hb hby D3_43)) ?_
  rw [len_of S53 M53]
  refine n_iadd X52 hx hby D3_44 ?_
  show own_Go p e below (T52.setTop (mkF m 45 #[.val (.ref ar), .val (.int sz47), .val (.ref ar), .val (.int (10 : Int32)), .val (.int (5 : Int32)), .val (.ref eaf), .unset, .unset] [(.int ((4 : Int32) + (0 : Int32))), (.int sz47)])) _
  rw [show (((4 : Int32) + (0 : Int32)) : Int32) = (4 : Int32) from by decide]
  show own_Go p e below (T52.setTop (mkF m 45 #[.val (.ref ar), .val (.int sz47), .val (.ref ar), .val (.int (10 : Int32)), .val (.int (5 : Int32)), .val (.ref eaf), .unset, .unset] [(.int (4 : Int32)), (.int sz47)])) _
  refine oIc X52 hx hby D3_45 (z := (2 : Int32)) rfl ?_
  refine n_iadd X52 hx hby D3_46 ?_
  show own_Go p e below (T52.setTop (mkF m 47 #[.val (.ref ar), .val (.int sz47), .val (.ref ar), .val (.int (10 : Int32)), .val (.int (5 : Int32)), .val (.ref eaf), .unset, .unset] [(.int ((4 : Int32) + (2 : Int32))), (.int sz47)])) _
  rw [show (((4 : Int32) + (2 : Int32)) : Int32) = (6 : Int32) from by decide]
  show own_Go p e below (T52.setTop (mkF m 47 #[.val (.ref ar), .val (.int sz47), .val (.ref ar), .val (.int (10 : Int32)), .val (.int (5 : Int32)), .val (.ref eaf), .unset, .unset] [(.int (6 : Int32)), (.int sz47)])) _
  refine n_iadd X52 hx hby D3_47 ?_
  refine n_istoreN X52 hx hby D3_48 (l' := #[.val (.ref ar), .val (.int (sz47 + (6 : Int32))), .val (.ref ar), .val (.int (10 : Int32)), .val (.int (5 : Int32)), .val (.ref eaf), .unset, .unset]) rfl ?_
  show own_Go p e below (T52.setTop (mkF m 49 #[.val (.ref ar), .val (.int (sz47 + (6 : Int32))), .val (.ref ar), .val (.int (10 : Int32)), .val (.int (5 : Int32)), .val (.ref eaf), .unset, .unset] [])) _
  show own_Go p e below (T52.setTop (mkF m 49 #[.val (.ref ar), .val (.int (sz47 + (6 : Int32))), .val (.ref ar), .val (.int (10 : Int32)), .val (.int (5 : Int32)), .val (.ref eaf), .unset, .unset] [])) _
  obtain ⟨sz54, e_sz54⟩ : ∃ z, z = (sz47 + (6 : Int32)) := ⟨_, rfl⟩
  rw [← e_sz54]
  have hi_sz54 : sz54.toInt = sz47.toInt + 6 := by
    have iv55 : ((6 : Int32) : Int32).toInt = 6 := rfl
    have iv56 : ((sz47 + (6 : Int32)) : Int32).toInt = (sz47 : Int32).toInt + ((6 : Int32) : Int32).toInt := own_ia (by omega)
    rw [e_sz54]
    omega
  clear e_sz54
  show own_Go p e below (T52.setTop (mkF m 49 #[.val (.ref ar), .val (.int sz54), .val (.ref ar), .val (.int (10 : Int32)), .val (.int (5 : Int32)), .val (.ref eaf), .unset, .unset] [])) _
  refine n_iinc X52 hx hby D3_49 rfl (l' := #[.val (.ref ar), .val (.int sz54), .val (.ref ar), .val (.int (10 : Int32)), .val (.int (6 : Int32)), .val (.ref eaf), .unset, .unset]) rfl ?_
  refine n_goto X52 hx hby D3_52 (pc0 := 52) (pc' := 18) rfl (by decide) (by decide) ?_
  refine n_iload X52 hx hby D3_18 rfl ?_
  refine n_iloadN X52 hx hby D3_20 rfl ?_
  refine n_icmpNo X52 hx hby D3_21 (tlt (by decide : (6 : Int32) < (10 : Int32))).2.1 ?_
  refine n_aloadN X52 hx hby D3_24 rfl rfl ?_
  refine n_iload X52 hx hby D3_25 rfl ?_
  obtain ⟨cl57, Ar57, q57, S57, M57, H57, G57⟩ := (id Fa)
  have hin57 : ¬ ((6 : Int32) < 0 ∨ cl57.slots.size ≤ ((6 : Int32)).toNatClampNeg) := inb_of S57 ⟨by decide, by decide⟩
  refine ob_ (X52.aaload hx (j := (6 : Int32)) (v := (.ref eag)) (by rw [K52]; exact Ar57.1) (State.isArrayOf_alike hZ.alike Ar57.2.1) rfl Ar57.2.2 hin57 (H57.at hin57 rfl) (g := (mkF m 27 #[.val (.ref ar), .val (.int sz54), .val (.ref ar), .val (.int (10 : Int32)), .val (.int (6 : Int32)), .val (.ref eaf), .unset, .unset] [(.int (6 : Int32)), (.ref ar)])) rfl rfl (hb hby D3_27)) ?_
  refine n_astore X52 hx hby D3_28 rfl (l' := #[.val (.ref ar), .val (.int sz54), .val (.ref ar), .val (.int (10 : Int32)), .val (.int (6 : Int32)), .val (.ref eag), .unset, .unset]) rfl ?_
  refine n_iloadN X52 hx hby D3_30 rfl ?_
  refine oIc X52 hx hby D3_31 (z := (1 : Int32)) rfl ?_
  refine n_aload X52 hx hby D3_32 rfl rfl ?_
  obtain ⟨cl58, Ar58, q58, S58, M58, H58, G58⟩ := (id Fe6)
  refine ob_ (X52.arraylength hx (by rw [K52]; exact Ar58.1) (State.isArrayOf_alike hZ.alike Ar58.2.1) (g := (mkF m 34 #[.val (.ref ar), .val (.int sz54), .val (.ref ar), .val (.int (10 : Int32)), .val (.int (6 : Int32)), .val (.ref eag), .unset, .unset] [(.ref eag), (.int (1 : Int32)), (.int sz54)])) rfl rfl (hb hby D3_34)) ?_
  rw [len_of S58 M58]
  refine o_ksc 3 0 0 (Jvm.LawKit.callS X52 hx (y := (⟨s2_, "decimalLength", "(I)I"⟩ : MethodName)) hown (mw hZ hw 14 rfl) (mw hZ hw 15 rfl) (mw hZ hw 12 rfl) (mw hZ hw 16 rfl) (by decide) (backOf (W := 2) (rm_dl0 l Z a0 hw [] h0 n0 O0) hZ (own_w hw 16 rfl) (own_w hw 12 rfl) (by decide) (by decide)) (g := (mkF m 35 #[.val (.ref ar), .val (.int sz54), .val (.ref ar), .val (.int (10 : Int32)), .val (.int (6 : Int32)), .val (.ref eag), .unset, .unset] [(.int (0 : Int32)), (.int (1 : Int32)), (.int sz54)])) rfl (by rw [hml]; rfl) (argsL := [(.int (0 : Int32))]) (rest := [(.int (1 : Int32)), (.int sz54)]) (lenOf own_pd__28I_29I rfl) rfl own_z (hb hby D3_35) (fun _ _ => ⟨rfl, K52, (by decide : 0 + 0 ≤ _), (by decide : 0 + 0 ≤ _)⟩)) fun T59 Lc59 _ X59 hQ59 => ?_
  obtain ⟨rfl, M59, K59⟩ := hQ59
  have N59 := Fr.app N52 M59
  obtain ⟨lc59, X59, N59⟩ := own_lc X59 N59
  refine n_iadd X59 hx hby D3_38 ?_
  show own_Go p e below (T59.setTop (mkF m 39 #[.val (.ref ar), .val (.int sz54), .val (.ref ar), .val (.int (10 : Int32)), .val (.int (6 : Int32)), .val (.ref eag), .unset, .unset] [(.int ((1 : Int32) + (1 : Int32))), (.int sz54)])) _
  rw [show (((1 : Int32) + (1 : Int32)) : Int32) = (2 : Int32) from by decide]
  show own_Go p e below (T59.setTop (mkF m 39 #[.val (.ref ar), .val (.int sz54), .val (.ref ar), .val (.int (10 : Int32)), .val (.int (6 : Int32)), .val (.ref eag), .unset, .unset] [(.int (2 : Int32)), (.int sz54)])) _
  refine oIc X59 hx hby D3_39 (z := (2 : Int32)) rfl ?_
  refine n_iadd X59 hx hby D3_40 ?_
  show own_Go p e below (T59.setTop (mkF m 41 #[.val (.ref ar), .val (.int sz54), .val (.ref ar), .val (.int (10 : Int32)), .val (.int (6 : Int32)), .val (.ref eag), .unset, .unset] [(.int ((2 : Int32) + (2 : Int32))), (.int sz54)])) _
  rw [show (((2 : Int32) + (2 : Int32)) : Int32) = (4 : Int32) from by decide]
  show own_Go p e below (T59.setTop (mkF m 41 #[.val (.ref ar), .val (.int sz54), .val (.ref ar), .val (.int (10 : Int32)), .val (.int (6 : Int32)), .val (.ref eag), .unset, .unset] [(.int (4 : Int32)), (.int sz54)])) _
  refine n_aload X59 hx hby D3_41 rfl rfl ?_
  obtain ⟨cl60, Ar60, q60, S60, M60, H60, G60⟩ := (id Fe6)
  refine ob_ (X59.arraylength hx (by rw [K59]; exact Ar60.1) (State.isArrayOf_alike hZ.alike Ar60.2.1) (g := (mkF m 43 #[.val (.ref ar), .val (.int sz54), .val (.ref ar), .val (.int (10 : Int32)), .val (.int (6 : Int32)), .val (.ref eag), .unset, .unset] [(.ref eag), (.int (4 : Int32)), (.int sz54)])) rfl rfl (hb hby D3_43)) ?_
  rw [len_of S60 M60]
  refine n_iadd X59 hx hby D3_44 ?_
  show own_Go p e below (T59.setTop (mkF m 45 #[.val (.ref ar), .val (.int sz54), .val (.ref ar), .val (.int (10 : Int32)), .val (.int (6 : Int32)), .val (.ref eag), .unset, .unset] [(.int ((4 : Int32) + (0 : Int32))), (.int sz54)])) _
  rw [show (((4 : Int32) + (0 : Int32)) : Int32) = (4 : Int32) from by decide]
  show own_Go p e below (T59.setTop (mkF m 45 #[.val (.ref ar), .val (.int sz54), .val (.ref ar), .val (.int (10 : Int32)), .val (.int (6 : Int32)), .val (.ref eag), .unset, .unset] [(.int (4 : Int32)), (.int sz54)])) _
  refine oIc X59 hx hby D3_45 (z := (2 : Int32)) rfl ?_
  refine n_iadd X59 hx hby D3_46 ?_
  show own_Go p e below (T59.setTop (mkF m 47 #[.val (.ref ar), .val (.int sz54), .val (.ref ar), .val (.int (10 : Int32)), .val (.int (6 : Int32)), .val (.ref eag), .unset, .unset] [(.int ((4 : Int32) + (2 : Int32))), (.int sz54)])) _
  rw [show (((4 : Int32) + (2 : Int32)) : Int32) = (6 : Int32) from by decide]
  show own_Go p e below (T59.setTop (mkF m 47 #[.val (.ref ar), .val (.int sz54), .val (.ref ar), .val (.int (10 : Int32)), .val (.int (6 : Int32)), .val (.ref eag), .unset, .unset] [(.int (6 : Int32)), (.int sz54)])) _
  refine n_iadd X59 hx hby D3_47 ?_
  refine n_istoreN X59 hx hby D3_48 (l' := #[.val (.ref ar), .val (.int (sz54 + (6 : Int32))), .val (.ref ar), .val (.int (10 : Int32)), .val (.int (6 : Int32)), .val (.ref eag), .unset, .unset]) rfl ?_
  show own_Go p e below (T59.setTop (mkF m 49 #[.val (.ref ar), .val (.int (sz54 + (6 : Int32))), .val (.ref ar), .val (.int (10 : Int32)), .val (.int (6 : Int32)), .val (.ref eag), .unset, .unset] [])) _
  show own_Go p e below (T59.setTop (mkF m 49 #[.val (.ref ar), .val (.int (sz54 + (6 : Int32))), .val (.ref ar), .val (.int (10 : Int32)), .val (.int (6 : Int32)), .val (.ref eag), .unset, .unset] [])) _
  obtain ⟨sz61, e_sz61⟩ : ∃ z, z = (sz54 + (6 : Int32)) := ⟨_, rfl⟩
  rw [← e_sz61]
  have hi_sz61 : sz61.toInt = sz54.toInt + 6 := by
    have iv62 : ((6 : Int32) : Int32).toInt = 6 := rfl
    have iv63 : ((sz54 + (6 : Int32)) : Int32).toInt = (sz54 : Int32).toInt + ((6 : Int32) : Int32).toInt := own_ia (by omega)
    rw [e_sz61]
    omega
  clear e_sz61
  show own_Go p e below (T59.setTop (mkF m 49 #[.val (.ref ar), .val (.int sz61), .val (.ref ar), .val (.int (10 : Int32)), .val (.int (6 : Int32)), .val (.ref eag), .unset, .unset] [])) _
  refine n_iinc X59 hx hby D3_49 rfl (l' := #[.val (.ref ar), .val (.int sz61), .val (.ref ar), .val (.int (10 : Int32)), .val (.int (7 : Int32)), .val (.ref eag), .unset, .unset]) rfl ?_
  refine n_goto X59 hx hby D3_52 (pc0 := 52) (pc' := 18) rfl (by decide) (by decide) ?_
  refine n_iload X59 hx hby D3_18 rfl ?_
  refine n_iloadN X59 hx hby D3_20 rfl ?_
  refine n_icmpNo X59 hx hby D3_21 (tlt (by decide : (7 : Int32) < (10 : Int32))).2.1 ?_
  refine n_aloadN X59 hx hby D3_24 rfl rfl ?_
  refine n_iload X59 hx hby D3_25 rfl ?_
  obtain ⟨cl64, Ar64, q64, S64, M64, H64, G64⟩ := (id Fa)
  have hin64 : ¬ ((7 : Int32) < 0 ∨ cl64.slots.size ≤ ((7 : Int32)).toNatClampNeg) := inb_of S64 ⟨by decide, by decide⟩
  refine ob_ (X59.aaload hx (j := (7 : Int32)) (v := (.ref eah)) (by rw [K59]; exact Ar64.1) (State.isArrayOf_alike hZ.alike Ar64.2.1) rfl Ar64.2.2 hin64 (H64.at hin64 rfl) (g := (mkF m 27 #[.val (.ref ar), .val (.int sz61), .val (.ref ar), .val (.int (10 : Int32)), .val (.int (7 : Int32)), .val (.ref eag), .unset, .unset] [(.int (7 : Int32)), (.ref ar)])) rfl rfl (hb hby D3_27)) ?_
  refine n_astore X59 hx hby D3_28 rfl (l' := #[.val (.ref ar), .val (.int sz61), .val (.ref ar), .val (.int (10 : Int32)), .val (.int (7 : Int32)), .val (.ref eah), .unset, .unset]) rfl ?_
  refine n_iloadN X59 hx hby D3_30 rfl ?_
  refine oIc X59 hx hby D3_31 (z := (1 : Int32)) rfl ?_
  refine n_aload X59 hx hby D3_32 rfl rfl ?_
  obtain ⟨cl65, Ar65, q65, S65, M65, H65, G65⟩ := (id Fe7)
  refine ob_ (X59.arraylength hx (by rw [K59]; exact Ar65.1) (State.isArrayOf_alike hZ.alike Ar65.2.1) (g := (mkF m 34 #[.val (.ref ar), .val (.int sz61), .val (.ref ar), .val (.int (10 : Int32)), .val (.int (7 : Int32)), .val (.ref eah), .unset, .unset] [(.ref eah), (.int (1 : Int32)), (.int sz61)])) rfl rfl (hb hby D3_34)) ?_
  rw [len_of S65 M65]
  refine o_ksc 3 0 0 (Jvm.LawKit.callS X59 hx (y := (⟨s2_, "decimalLength", "(I)I"⟩ : MethodName)) hown (mw hZ hw 14 rfl) (mw hZ hw 15 rfl) (mw hZ hw 12 rfl) (mw hZ hw 16 rfl) (by decide) (backOf (W := 2) (rm_dl0 l Z a0 hw [] h0 n0 O0) hZ (own_w hw 16 rfl) (own_w hw 12 rfl) (by decide) (by decide)) (g := (mkF m 35 #[.val (.ref ar), .val (.int sz61), .val (.ref ar), .val (.int (10 : Int32)), .val (.int (7 : Int32)), .val (.ref eah), .unset, .unset] [(.int (0 : Int32)), (.int (1 : Int32)), (.int sz61)])) rfl (by rw [hml]; rfl) (argsL := [(.int (0 : Int32))]) (rest := [(.int (1 : Int32)), (.int sz61)]) (lenOf own_pd__28I_29I rfl) rfl own_z (hb hby D3_35) (fun _ _ => ⟨rfl, K59, (by decide : 0 + 0 ≤ _), (by decide : 0 + 0 ≤ _)⟩)) fun T66 Lc66 _ X66 hQ66 => ?_
  obtain ⟨rfl, M66, K66⟩ := hQ66
  have N66 := Fr.app N59 M66
  obtain ⟨lc66, X66, N66⟩ := own_lc X66 N66
  refine n_iadd X66 hx hby D3_38 ?_
  show own_Go p e below (T66.setTop (mkF m 39 #[.val (.ref ar), .val (.int sz61), .val (.ref ar), .val (.int (10 : Int32)), .val (.int (7 : Int32)), .val (.ref eah), .unset, .unset] [(.int ((1 : Int32) + (1 : Int32))), (.int sz61)])) _
  rw [show (((1 : Int32) + (1 : Int32)) : Int32) = (2 : Int32) from by decide]
  show own_Go p e below (T66.setTop (mkF m 39 #[.val (.ref ar), .val (.int sz61), .val (.ref ar), .val (.int (10 : Int32)), .val (.int (7 : Int32)), .val (.ref eah), .unset, .unset] [(.int (2 : Int32)), (.int sz61)])) _
  refine oIc X66 hx hby D3_39 (z := (2 : Int32)) rfl ?_
  refine n_iadd X66 hx hby D3_40 ?_
  show own_Go p e below (T66.setTop (mkF m 41 #[.val (.ref ar), .val (.int sz61), .val (.ref ar), .val (.int (10 : Int32)), .val (.int (7 : Int32)), .val (.ref eah), .unset, .unset] [(.int ((2 : Int32) + (2 : Int32))), (.int sz61)])) _
  rw [show (((2 : Int32) + (2 : Int32)) : Int32) = (4 : Int32) from by decide]
  show own_Go p e below (T66.setTop (mkF m 41 #[.val (.ref ar), .val (.int sz61), .val (.ref ar), .val (.int (10 : Int32)), .val (.int (7 : Int32)), .val (.ref eah), .unset, .unset] [(.int (4 : Int32)), (.int sz61)])) _
  refine n_aload X66 hx hby D3_41 rfl rfl ?_
  obtain ⟨cl67, Ar67, q67, S67, M67, H67, G67⟩ := (id Fe7)
  refine ob_ (X66.arraylength hx (by rw [K66]; exact Ar67.1) (State.isArrayOf_alike hZ.alike Ar67.2.1) (g := (mkF m 43 #[.val (.ref ar), .val (.int sz61), .val (.ref ar), .val (.int (10 : Int32)), .val (.int (7 : Int32)), .val (.ref eah), .unset, .unset] [(.ref eah), (.int (4 : Int32)), (.int sz61)])) rfl rfl (hb hby D3_43)) ?_
  rw [len_of S67 M67]
  refine n_iadd X66 hx hby D3_44 ?_
  show own_Go p e below (T66.setTop (mkF m 45 #[.val (.ref ar), .val (.int sz61), .val (.ref ar), .val (.int (10 : Int32)), .val (.int (7 : Int32)), .val (.ref eah), .unset, .unset] [(.int ((4 : Int32) + (0 : Int32))), (.int sz61)])) _
  rw [show (((4 : Int32) + (0 : Int32)) : Int32) = (4 : Int32) from by decide]
  show own_Go p e below (T66.setTop (mkF m 45 #[.val (.ref ar), .val (.int sz61), .val (.ref ar), .val (.int (10 : Int32)), .val (.int (7 : Int32)), .val (.ref eah), .unset, .unset] [(.int (4 : Int32)), (.int sz61)])) _
  refine oIc X66 hx hby D3_45 (z := (2 : Int32)) rfl ?_
  refine n_iadd X66 hx hby D3_46 ?_
  show own_Go p e below (T66.setTop (mkF m 47 #[.val (.ref ar), .val (.int sz61), .val (.ref ar), .val (.int (10 : Int32)), .val (.int (7 : Int32)), .val (.ref eah), .unset, .unset] [(.int ((4 : Int32) + (2 : Int32))), (.int sz61)])) _
  rw [show (((4 : Int32) + (2 : Int32)) : Int32) = (6 : Int32) from by decide]
  show own_Go p e below (T66.setTop (mkF m 47 #[.val (.ref ar), .val (.int sz61), .val (.ref ar), .val (.int (10 : Int32)), .val (.int (7 : Int32)), .val (.ref eah), .unset, .unset] [(.int (6 : Int32)), (.int sz61)])) _
  refine n_iadd X66 hx hby D3_47 ?_
  refine n_istoreN X66 hx hby D3_48 (l' := #[.val (.ref ar), .val (.int (sz61 + (6 : Int32))), .val (.ref ar), .val (.int (10 : Int32)), .val (.int (7 : Int32)), .val (.ref eah), .unset, .unset]) rfl ?_
  show own_Go p e below (T66.setTop (mkF m 49 #[.val (.ref ar), .val (.int (sz61 + (6 : Int32))), .val (.ref ar), .val (.int (10 : Int32)), .val (.int (7 : Int32)), .val (.ref eah), .unset, .unset] [])) _
  show own_Go p e below (T66.setTop (mkF m 49 #[.val (.ref ar), .val (.int (sz61 + (6 : Int32))), .val (.ref ar), .val (.int (10 : Int32)), .val (.int (7 : Int32)), .val (.ref eah), .unset, .unset] [])) _
  obtain ⟨sz68, e_sz68⟩ : ∃ z, z = (sz61 + (6 : Int32)) := ⟨_, rfl⟩
  rw [← e_sz68]
  have hi_sz68 : sz68.toInt = sz61.toInt + 6 := by
    have iv69 : ((6 : Int32) : Int32).toInt = 6 := rfl
    have iv70 : ((sz61 + (6 : Int32)) : Int32).toInt = (sz61 : Int32).toInt + ((6 : Int32) : Int32).toInt := own_ia (by omega)
    rw [e_sz68]
    omega
  clear e_sz68
  show own_Go p e below (T66.setTop (mkF m 49 #[.val (.ref ar), .val (.int sz68), .val (.ref ar), .val (.int (10 : Int32)), .val (.int (7 : Int32)), .val (.ref eah), .unset, .unset] [])) _
  refine n_iinc X66 hx hby D3_49 rfl (l' := #[.val (.ref ar), .val (.int sz68), .val (.ref ar), .val (.int (10 : Int32)), .val (.int (8 : Int32)), .val (.ref eah), .unset, .unset]) rfl ?_
  refine n_goto X66 hx hby D3_52 (pc0 := 52) (pc' := 18) rfl (by decide) (by decide) ?_
  refine n_iload X66 hx hby D3_18 rfl ?_
  refine n_iloadN X66 hx hby D3_20 rfl ?_
  refine n_icmpNo X66 hx hby D3_21 (tlt (by decide : (8 : Int32) < (10 : Int32))).2.1 ?_
  refine n_aloadN X66 hx hby D3_24 rfl rfl ?_
  refine n_iload X66 hx hby D3_25 rfl ?_
  obtain ⟨cl71, Ar71, q71, S71, M71, H71, G71⟩ := (id Fa)
  have hin71 : ¬ ((8 : Int32) < 0 ∨ cl71.slots.size ≤ ((8 : Int32)).toNatClampNeg) := inb_of S71 ⟨by decide, by decide⟩
  refine ob_ (X66.aaload hx (j := (8 : Int32)) (v := (.ref eai)) (by rw [K66]; exact Ar71.1) (State.isArrayOf_alike hZ.alike Ar71.2.1) rfl Ar71.2.2 hin71 (H71.at hin71 rfl) (g := (mkF m 27 #[.val (.ref ar), .val (.int sz68), .val (.ref ar), .val (.int (10 : Int32)), .val (.int (8 : Int32)), .val (.ref eah), .unset, .unset] [(.int (8 : Int32)), (.ref ar)])) rfl rfl (hb hby D3_27)) ?_
  refine n_astore X66 hx hby D3_28 rfl (l' := #[.val (.ref ar), .val (.int sz68), .val (.ref ar), .val (.int (10 : Int32)), .val (.int (8 : Int32)), .val (.ref eai), .unset, .unset]) rfl ?_
  refine n_iloadN X66 hx hby D3_30 rfl ?_
  refine oIc X66 hx hby D3_31 (z := (1 : Int32)) rfl ?_
  refine n_aload X66 hx hby D3_32 rfl rfl ?_
  obtain ⟨cl72, Ar72, q72, S72, M72, H72, G72⟩ := (id Fe8)
  refine ob_ (X66.arraylength hx (by rw [K66]; exact Ar72.1) (State.isArrayOf_alike hZ.alike Ar72.2.1) (g := (mkF m 34 #[.val (.ref ar), .val (.int sz68), .val (.ref ar), .val (.int (10 : Int32)), .val (.int (8 : Int32)), .val (.ref eai), .unset, .unset] [(.ref eai), (.int (1 : Int32)), (.int sz68)])) rfl rfl (hb hby D3_34)) ?_
  rw [len_of S72 M72]
  refine o_ksc 3 0 0 (Jvm.LawKit.callS X66 hx (y := (⟨s2_, "decimalLength", "(I)I"⟩ : MethodName)) hown (mw hZ hw 14 rfl) (mw hZ hw 15 rfl) (mw hZ hw 12 rfl) (mw hZ hw 16 rfl) (by decide) (backOf (W := 2) (rm_dl0 l Z a0 hw [] h0 n0 O0) hZ (own_w hw 16 rfl) (own_w hw 12 rfl) (by decide) (by decide)) (g := (mkF m 35 #[.val (.ref ar), .val (.int sz68), .val (.ref ar), .val (.int (10 : Int32)), .val (.int (8 : Int32)), .val (.ref eai), .unset, .unset] [(.int (0 : Int32)), (.int (1 : Int32)), (.int sz68)])) rfl (by rw [hml]; rfl) (argsL := [(.int (0 : Int32))]) (rest := [(.int (1 : Int32)), (.int sz68)]) (lenOf own_pd__28I_29I rfl) rfl own_z (hb hby D3_35) (fun _ _ => ⟨rfl, K66, (by decide : 0 + 0 ≤ _), (by decide : 0 + 0 ≤ _)⟩)) fun T73 Lc73 _ X73 hQ73 => ?_
  obtain ⟨rfl, M73, K73⟩ := hQ73
  have N73 := Fr.app N66 M73
  obtain ⟨lc73, X73, N73⟩ := own_lc X73 N73
  refine n_iadd X73 hx hby D3_38 ?_
  show own_Go p e below (T73.setTop (mkF m 39 #[.val (.ref ar), .val (.int sz68), .val (.ref ar), .val (.int (10 : Int32)), .val (.int (8 : Int32)), .val (.ref eai), .unset, .unset] [(.int ((1 : Int32) + (1 : Int32))), (.int sz68)])) _
  rw [show (((1 : Int32) + (1 : Int32)) : Int32) = (2 : Int32) from by decide]
  show own_Go p e below (T73.setTop (mkF m 39 #[.val (.ref ar), .val (.int sz68), .val (.ref ar), .val (.int (10 : Int32)), .val (.int (8 : Int32)), .val (.ref eai), .unset, .unset] [(.int (2 : Int32)), (.int sz68)])) _
  refine oIc X73 hx hby D3_39 (z := (2 : Int32)) rfl ?_
  refine n_iadd X73 hx hby D3_40 ?_
  show own_Go p e below (T73.setTop (mkF m 41 #[.val (.ref ar), .val (.int sz68), .val (.ref ar), .val (.int (10 : Int32)), .val (.int (8 : Int32)), .val (.ref eai), .unset, .unset] [(.int ((2 : Int32) + (2 : Int32))), (.int sz68)])) _
  rw [show (((2 : Int32) + (2 : Int32)) : Int32) = (4 : Int32) from by decide]
  show own_Go p e below (T73.setTop (mkF m 41 #[.val (.ref ar), .val (.int sz68), .val (.ref ar), .val (.int (10 : Int32)), .val (.int (8 : Int32)), .val (.ref eai), .unset, .unset] [(.int (4 : Int32)), (.int sz68)])) _
  refine n_aload X73 hx hby D3_41 rfl rfl ?_
  obtain ⟨cl74, Ar74, q74, S74, M74, H74, G74⟩ := (id Fe8)
  refine ob_ (X73.arraylength hx (by rw [K73]; exact Ar74.1) (State.isArrayOf_alike hZ.alike Ar74.2.1) (g := (mkF m 43 #[.val (.ref ar), .val (.int sz68), .val (.ref ar), .val (.int (10 : Int32)), .val (.int (8 : Int32)), .val (.ref eai), .unset, .unset] [(.ref eai), (.int (4 : Int32)), (.int sz68)])) rfl rfl (hb hby D3_43)) ?_
  rw [len_of S74 M74]
  refine n_iadd X73 hx hby D3_44 ?_
  show own_Go p e below (T73.setTop (mkF m 45 #[.val (.ref ar), .val (.int sz68), .val (.ref ar), .val (.int (10 : Int32)), .val (.int (8 : Int32)), .val (.ref eai), .unset, .unset] [(.int ((4 : Int32) + (0 : Int32))), (.int sz68)])) _
  rw [show (((4 : Int32) + (0 : Int32)) : Int32) = (4 : Int32) from by decide]
  show own_Go p e below (T73.setTop (mkF m 45 #[.val (.ref ar), .val (.int sz68), .val (.ref ar), .val (.int (10 : Int32)), .val (.int (8 : Int32)), .val (.ref eai), .unset, .unset] [(.int (4 : Int32)), (.int sz68)])) _
  refine oIc X73 hx hby D3_45 (z := (2 : Int32)) rfl ?_
  refine n_iadd X73 hx hby D3_46 ?_
  show own_Go p e below (T73.setTop (mkF m 47 #[.val (.ref ar), .val (.int sz68), .val (.ref ar), .val (.int (10 : Int32)), .val (.int (8 : Int32)), .val (.ref eai), .unset, .unset] [(.int ((4 : Int32) + (2 : Int32))), (.int sz68)])) _
  rw [show (((4 : Int32) + (2 : Int32)) : Int32) = (6 : Int32) from by decide]
  show own_Go p e below (T73.setTop (mkF m 47 #[.val (.ref ar), .val (.int sz68), .val (.ref ar), .val (.int (10 : Int32)), .val (.int (8 : Int32)), .val (.ref eai), .unset, .unset] [(.int (6 : Int32)), (.int sz68)])) _
  refine n_iadd X73 hx hby D3_47 ?_
  refine n_istoreN X73 hx hby D3_48 (l' := #[.val (.ref ar), .val (.int (sz68 + (6 : Int32))), .val (.ref ar), .val (.int (10 : Int32)), .val (.int (8 : Int32)), .val (.ref eai), .unset, .unset]) rfl ?_
  show own_Go p e below (T73.setTop (mkF m 49 #[.val (.ref ar), .val (.int (sz68 + (6 : Int32))), .val (.ref ar), .val (.int (10 : Int32)), .val (.int (8 : Int32)), .val (.ref eai), .unset, .unset] [])) _
  show own_Go p e below (T73.setTop (mkF m 49 #[.val (.ref ar), .val (.int (sz68 + (6 : Int32))), .val (.ref ar), .val (.int (10 : Int32)), .val (.int (8 : Int32)), .val (.ref eai), .unset, .unset] [])) _
  obtain ⟨sz75, e_sz75⟩ : ∃ z, z = (sz68 + (6 : Int32)) := ⟨_, rfl⟩
  rw [← e_sz75]
  have hi_sz75 : sz75.toInt = sz68.toInt + 6 := by
    have iv76 : ((6 : Int32) : Int32).toInt = 6 := rfl
    have iv77 : ((sz68 + (6 : Int32)) : Int32).toInt = (sz68 : Int32).toInt + ((6 : Int32) : Int32).toInt := own_ia (by omega)
    rw [e_sz75]
    omega
  clear e_sz75
  show own_Go p e below (T73.setTop (mkF m 49 #[.val (.ref ar), .val (.int sz75), .val (.ref ar), .val (.int (10 : Int32)), .val (.int (8 : Int32)), .val (.ref eai), .unset, .unset] [])) _
  refine n_iinc X73 hx hby D3_49 rfl (l' := #[.val (.ref ar), .val (.int sz75), .val (.ref ar), .val (.int (10 : Int32)), .val (.int (9 : Int32)), .val (.ref eai), .unset, .unset]) rfl ?_
  refine n_goto X73 hx hby D3_52 (pc0 := 52) (pc' := 18) rfl (by decide) (by decide) ?_
  refine n_iload X73 hx hby D3_18 rfl ?_
  refine n_iloadN X73 hx hby D3_20 rfl ?_
  refine n_icmpNo X73 hx hby D3_21 (tlt (by decide : (9 : Int32) < (10 : Int32))).2.1 ?_
  refine n_aloadN X73 hx hby D3_24 rfl rfl ?_
  refine n_iload X73 hx hby D3_25 rfl ?_
  obtain ⟨cl78, Ar78, q78, S78, M78, H78, G78⟩ := (id Fa)
  have hin78 : ¬ ((9 : Int32) < 0 ∨ cl78.slots.size ≤ ((9 : Int32)).toNatClampNeg) := inb_of S78 ⟨by decide, by decide⟩
  refine ob_ (X73.aaload hx (j := (9 : Int32)) (v := (.ref eaj)) (by rw [K73]; exact Ar78.1) (State.isArrayOf_alike hZ.alike Ar78.2.1) rfl Ar78.2.2 hin78 (H78.at hin78 rfl) (g := (mkF m 27 #[.val (.ref ar), .val (.int sz75), .val (.ref ar), .val (.int (10 : Int32)), .val (.int (9 : Int32)), .val (.ref eai), .unset, .unset] [(.int (9 : Int32)), (.ref ar)])) rfl rfl (hb hby D3_27)) ?_
  refine n_astore X73 hx hby D3_28 rfl (l' := #[.val (.ref ar), .val (.int sz75), .val (.ref ar), .val (.int (10 : Int32)), .val (.int (9 : Int32)), .val (.ref eaj), .unset, .unset]) rfl ?_
  refine n_iloadN X73 hx hby D3_30 rfl ?_
  refine oIc X73 hx hby D3_31 (z := (1 : Int32)) rfl ?_
  refine n_aload X73 hx hby D3_32 rfl rfl ?_
  obtain ⟨cl79, Ar79, q79, S79, M79, H79, G79⟩ := (id Fe9)
  refine ob_ (X73.arraylength hx (by rw [K73]; exact Ar79.1) (State.isArrayOf_alike hZ.alike Ar79.2.1) (g := (mkF m 34 #[.val (.ref ar), .val (.int sz75), .val (.ref ar), .val (.int (10 : Int32)), .val (.int (9 : Int32)), .val (.ref eaj), .unset, .unset] [(.ref eaj), (.int (1 : Int32)), (.int sz75)])) rfl rfl (hb hby D3_34)) ?_
  rw [len_of S79 M79]
  refine o_ksc 3 0 0 (Jvm.LawKit.callS X73 hx (y := (⟨s2_, "decimalLength", "(I)I"⟩ : MethodName)) hown (mw hZ hw 14 rfl) (mw hZ hw 15 rfl) (mw hZ hw 12 rfl) (mw hZ hw 16 rfl) (by decide) (backOf (W := 2) (rm_dl0 l Z a0 hw [] h0 n0 O0) hZ (own_w hw 16 rfl) (own_w hw 12 rfl) (by decide) (by decide)) (g := (mkF m 35 #[.val (.ref ar), .val (.int sz75), .val (.ref ar), .val (.int (10 : Int32)), .val (.int (9 : Int32)), .val (.ref eaj), .unset, .unset] [(.int (0 : Int32)), (.int (1 : Int32)), (.int sz75)])) rfl (by rw [hml]; rfl) (argsL := [(.int (0 : Int32))]) (rest := [(.int (1 : Int32)), (.int sz75)]) (lenOf own_pd__28I_29I rfl) rfl own_z (hb hby D3_35) (fun _ _ => ⟨rfl, K73, (by decide : 0 + 0 ≤ _), (by decide : 0 + 0 ≤ _)⟩)) fun T80 Lc80 _ X80 hQ80 => ?_
  obtain ⟨rfl, M80, K80⟩ := hQ80
  have N80 := Fr.app N73 M80
  obtain ⟨lc80, X80, N80⟩ := own_lc X80 N80
  refine n_iadd X80 hx hby D3_38 ?_
  show own_Go p e below (T80.setTop (mkF m 39 #[.val (.ref ar), .val (.int sz75), .val (.ref ar), .val (.int (10 : Int32)), .val (.int (9 : Int32)), .val (.ref eaj), .unset, .unset] [(.int ((1 : Int32) + (1 : Int32))), (.int sz75)])) _
  rw [show (((1 : Int32) + (1 : Int32)) : Int32) = (2 : Int32) from by decide]
  show own_Go p e below (T80.setTop (mkF m 39 #[.val (.ref ar), .val (.int sz75), .val (.ref ar), .val (.int (10 : Int32)), .val (.int (9 : Int32)), .val (.ref eaj), .unset, .unset] [(.int (2 : Int32)), (.int sz75)])) _
  refine oIc X80 hx hby D3_39 (z := (2 : Int32)) rfl ?_
  refine n_iadd X80 hx hby D3_40 ?_
  show own_Go p e below (T80.setTop (mkF m 41 #[.val (.ref ar), .val (.int sz75), .val (.ref ar), .val (.int (10 : Int32)), .val (.int (9 : Int32)), .val (.ref eaj), .unset, .unset] [(.int ((2 : Int32) + (2 : Int32))), (.int sz75)])) _
  rw [show (((2 : Int32) + (2 : Int32)) : Int32) = (4 : Int32) from by decide]
  show own_Go p e below (T80.setTop (mkF m 41 #[.val (.ref ar), .val (.int sz75), .val (.ref ar), .val (.int (10 : Int32)), .val (.int (9 : Int32)), .val (.ref eaj), .unset, .unset] [(.int (4 : Int32)), (.int sz75)])) _
  refine n_aload X80 hx hby D3_41 rfl rfl ?_
  obtain ⟨cl81, Ar81, q81, S81, M81, H81, G81⟩ := (id Fe9)
  refine ob_ (X80.arraylength hx (by rw [K80]; exact Ar81.1) (State.isArrayOf_alike hZ.alike Ar81.2.1) (g := (mkF m 43 #[.val (.ref ar), .val (.int sz75), .val (.ref ar), .val (.int (10 : Int32)), .val (.int (9 : Int32)), .val (.ref eaj), .unset, .unset] [(.ref eaj), (.int (4 : Int32)), (.int sz75)])) rfl rfl (hb hby D3_43)) ?_
  rw [len_of S81 M81]
  refine n_iadd X80 hx hby D3_44 ?_
  show own_Go p e below (T80.setTop (mkF m 45 #[.val (.ref ar), .val (.int sz75), .val (.ref ar), .val (.int (10 : Int32)), .val (.int (9 : Int32)), .val (.ref eaj), .unset, .unset] [(.int ((4 : Int32) + (0 : Int32))), (.int sz75)])) _
  rw [show (((4 : Int32) + (0 : Int32)) : Int32) = (4 : Int32) from by decide]
  show own_Go p e below (T80.setTop (mkF m 45 #[.val (.ref ar), .val (.int sz75), .val (.ref ar), .val (.int (10 : Int32)), .val (.int (9 : Int32)), .val (.ref eaj), .unset, .unset] [(.int (4 : Int32)), (.int sz75)])) _
  refine oIc X80 hx hby D3_45 (z := (2 : Int32)) rfl ?_
  refine n_iadd X80 hx hby D3_46 ?_
  show own_Go p e below (T80.setTop (mkF m 47 #[.val (.ref ar), .val (.int sz75), .val (.ref ar), .val (.int (10 : Int32)), .val (.int (9 : Int32)), .val (.ref eaj), .unset, .unset] [(.int ((4 : Int32) + (2 : Int32))), (.int sz75)])) _
  rw [show (((4 : Int32) + (2 : Int32)) : Int32) = (6 : Int32) from by decide]
  show own_Go p e below (T80.setTop (mkF m 47 #[.val (.ref ar), .val (.int sz75), .val (.ref ar), .val (.int (10 : Int32)), .val (.int (9 : Int32)), .val (.ref eaj), .unset, .unset] [(.int (6 : Int32)), (.int sz75)])) _
  refine n_iadd X80 hx hby D3_47 ?_
  refine n_istoreN X80 hx hby D3_48 (l' := #[.val (.ref ar), .val (.int (sz75 + (6 : Int32))), .val (.ref ar), .val (.int (10 : Int32)), .val (.int (9 : Int32)), .val (.ref eaj), .unset, .unset]) rfl ?_
  show own_Go p e below (T80.setTop (mkF m 49 #[.val (.ref ar), .val (.int (sz75 + (6 : Int32))), .val (.ref ar), .val (.int (10 : Int32)), .val (.int (9 : Int32)), .val (.ref eaj), .unset, .unset] [])) _
  show own_Go p e below (T80.setTop (mkF m 49 #[.val (.ref ar), .val (.int (sz75 + (6 : Int32))), .val (.ref ar), .val (.int (10 : Int32)), .val (.int (9 : Int32)), .val (.ref eaj), .unset, .unset] [])) _
  obtain ⟨sz82, e_sz82⟩ : ∃ z, z = (sz75 + (6 : Int32)) := ⟨_, rfl⟩
  rw [← e_sz82]
  have hi_sz82 : sz82.toInt = sz75.toInt + 6 := by
    have iv83 : ((6 : Int32) : Int32).toInt = 6 := rfl
    have iv84 : ((sz75 + (6 : Int32)) : Int32).toInt = (sz75 : Int32).toInt + ((6 : Int32) : Int32).toInt := own_ia (by omega)
    rw [e_sz82]
    omega
  clear e_sz82
  show own_Go p e below (T80.setTop (mkF m 49 #[.val (.ref ar), .val (.int sz82), .val (.ref ar), .val (.int (10 : Int32)), .val (.int (9 : Int32)), .val (.ref eaj), .unset, .unset] [])) _
  refine n_iinc X80 hx hby D3_49 rfl (l' := #[.val (.ref ar), .val (.int sz82), .val (.ref ar), .val (.int (10 : Int32)), .val (.int (10 : Int32)), .val (.ref eaj), .unset, .unset]) rfl ?_
  refine n_goto X80 hx hby D3_52 (pc0 := 52) (pc' := 18) rfl (by decide) (by decide) ?_
  refine n_iload X80 hx hby D3_18 rfl ?_
  refine n_iloadN X80 hx hby D3_20 rfl ?_
  refine n_icmpYes X80 hx hby D3_21 (pc0 := 21) (pc' := 55) rfl (flt (by decide : ¬ ((10 : Int32) < (10 : Int32)))).2.1 (by decide) (by decide) ?_
  refine n_iloadN X80 hx hby D3_55 rfl ?_
  show own_Go p e below (T80.setTop (mkF m 56 #[.val (.ref ar), .val (.int sz82), .val (.ref ar), .val (.int (10 : Int32)), .val (.int (10 : Int32)), .val (.ref eaj), .unset, .unset] [(.int sz82)])) _
  obtain ⟨sz, e_sz⟩ : ∃ z, z = sz82 := ⟨_, rfl⟩
  rw [← e_sz]
  have hsz : sz.toInt = own_hn (10 : Int32) + (own_hn la + la.toInt + 2) + (own_hn lb + lb.toInt + 2) + 6 + 6 + 6 + 6 + 6 + 6 + 6 + 6 := by rw [e_sz]; omega
  obtain ⟨T85, h85, k85, X85, e85, E85, A85, Ex85, st85⟩ := newPE X80 hx hZ (own_w hw 7 rfl) K80 (g := (mkF m 56 #[.val (.ref ar), .val (.int sz), .val (.ref ar), .val (.int (10 : Int32)), .val (.int (10 : Int32)), .val (.ref eaj), .unset, .unset] [(.int sz)])) rfl (hb hby D3_56) rfl (own_nlt (show (0 : Int) ≤ (sz : Int32).toInt by omega)) (cap := 90) (own_cap (by omega)) (by decide) (by decide) (by decide) (ad := "[B") rfl
  obtain ⟨ob85, g85⟩ : ∃ z, z = h0.size := ⟨_, rfl⟩
  rw [← g85] at A85 st85 Ex85
  refine ob_ st85 ?_
  have z85 := E85.1
  have Vw85 : Arv Z h85 ob85 k85 .byte sz [] (.int (0 : Int32)) := Arv.new A85 (own_nlt (show (0 : Int) ≤ (sz : Int32).toInt by omega))
  have lt85 : h85.size > ob85 := Vw85.lt
  refine n_astoreN X85 hx hby D3_58 rfl (l' := #[.val (.ref ar), .val (.int sz), .val (.ref ob85), .val (.int (10 : Int32)), .val (.int (10 : Int32)), .val (.ref eaj), .unset, .unset]) rfl ?_
  show own_Go p e below (T85.setTop (mkF m 59 #[.val (.ref ar), .val (.int sz), .val (.ref ob85), .val (.int (10 : Int32)), .val (.int (10 : Int32)), .val (.ref eaj), .unset, .unset] [])) _
  refine n_aloadN X85 hx hby D3_59 rfl rfl ?_
  refine oIc X85 hx hby D3_60 (z := (0 : Int32)) rfl ?_
  refine oBi X85 hx hby D3_61 (z := (42 : Int32)) rfl ?_
  refine n_aloadN X85 hx hby D3_63 rfl rfl ?_
  have fc86 : Arv Z h85 ar ka (.array .byte) (10 : Int32) [(.ref eaa), (.ref eab), (.ref eac), (.ref ead), (.ref eae), (.ref eaf), (.ref eag), (.ref eah), (.ref eai), (.ref eaj)] .null := (Fa.ext E85)
  obtain ⟨cl87, Ar87, q87, S87, M87, H87, G87⟩ := (id fc86)
  refine ob_ (X85.arraylength hx (by rw [e85]; exact Ar87.1) (State.isArrayOf_alike hZ.alike Ar87.2.1) (g := (mkF m 64 #[.val (.ref ar), .val (.int sz), .val (.ref ob85), .val (.int (10 : Int32)), .val (.int (10 : Int32)), .val (.ref eaj), .unset, .unset] [(.ref ar), (.int (42 : Int32)), (.int (0 : Int32)), (.ref ob85)])) rfl rfl (hb hby D3_64)) ?_
  rw [len_of S87 M87]
  have iv88 : ((0 : Int32) : Int32).toInt = 0 := rfl
  have iv89 : ((10 : Int32) : Int32).toInt = 10 := rfl
  have lx90 : own_LE n0 ob85 := own_mkLE (by omega)
  have O91 : Old Z n0 h85 := (O0.ext E85)
  refine o_ksc 3 1 90 (Jvm.LawKit.callS X85 hx (y := (⟨s2_, "writeHeader", "([BICI)I"⟩ : MethodName)) hown (mw hZ hw 17 rfl) (mw hZ hw 18 rfl) (mw hZ hw 12 rfl) (mw hZ hw 19 rfl) (by decide) (backOf (W := 0) (rm_wh42 l Z a0 hw [] ob85 k85 sz ([] : List Value) (0 : Int32) (10 : Int32) h85 n0 O91 Vw85 (own_unLE lx90) (by decide) (by first | omega | rfl) (by first | omega | (have q : ((([] : List Value)).length : Int) = 0 := rfl; omega)) (by omega)) hZ (own_w hw 19 rfl) (own_w hw 12 rfl) (by decide) (by decide)) (g := (mkF m 65 #[.val (.ref ar), .val (.int sz), .val (.ref ob85), .val (.int (10 : Int32)), .val (.int (10 : Int32)), .val (.ref eaj), .unset, .unset] [(.int (10 : Int32)), (.int (42 : Int32)), (.int (0 : Int32)), (.ref ob85)])) rfl (by rw [hml]; rfl) (argsL := [(.ref ob85), (.int (0 : Int32)), (.int (42 : Int32)), (.int (10 : Int32))]) (rest := []) (lenOf own_pd__28_5bBICI_29I rfl) rfl own_z (hb hby D3_65) (fun _ _ => ⟨rfl, e85, (by decide : 1 + 0 ≤ _), (by decide : 90 + 0 ≤ _)⟩)) fun T92 Lc92 _ X92 hQ92 => ?_
  obtain ⟨po_92, az_92, rfl, M92, K92, g92_0, r92_0, r92_1, r92_2⟩ := hQ92
  have N92 := Fr.app N80 M92
  obtain ⟨lc92, X92, N92⟩ := own_lc X92 N92
  have z92 := K92.1
  have lt_g92_0 : T92.heap.size > ob85 := g92_0.lt
  have q092 : ((([] : List Value)).length : Int) = 0 := rfl
  have hr2_la : 0 ≤ la.toInt ∧ la.toInt ≤ 10 := ⟨hr_la.1, hr_la.2.1⟩
  have hr2_lb : 0 ≤ lb.toInt ∧ lb.toInt ≤ 10 := ⟨hr_lb.1, hr_lb.2.1⟩
  have hns0 : sz.toInt ≤ 1000 := by omega
  have he0 : sz.toInt = (po_92.length : Int) + ((own_hn la + (la : Int32).toInt + 2) + ((own_hn lb + (lb : Int32).toInt + 2) + ((own_hn (0 : Int32) + ((0 : Int32) : Int32).toInt + 2) + ((own_hn (0 : Int32) + ((0 : Int32) : Int32).toInt + 2) + ((own_hn (0 : Int32) + ((0 : Int32) : Int32).toInt + 2) + ((own_hn (0 : Int32) + ((0 : Int32) : Int32).toInt + 2) + ((own_hn (0 : Int32) + ((0 : Int32) : Int32).toInt + 2) + ((own_hn (0 : Int32) + ((0 : Int32) : Int32).toInt + 2) + ((own_hn (0 : Int32) + ((0 : Int32) : Int32).toInt + 2) + ((own_hn (0 : Int32) + ((0 : Int32) : Int32).toInt + 2) + (0 : Int))))))))))) := by omega
  have hz10 : (0 : Int) ≤ 0 := by decide
  have hz9 : 0 ≤ ((own_hn (0 : Int32) + ((0 : Int32) : Int32).toInt + 2) + (0 : Int)) := own_nn (own_cnt_rng (show own_cnt (0 : Int32) by decide)) own_rg0 hz10
  have hz8 : 0 ≤ ((own_hn (0 : Int32) + ((0 : Int32) : Int32).toInt + 2) + ((own_hn (0 : Int32) + ((0 : Int32) : Int32).toInt + 2) + (0 : Int))) := own_nn (own_cnt_rng (show own_cnt (0 : Int32) by decide)) own_rg0 hz9
  have hz7 : 0 ≤ ((own_hn (0 : Int32) + ((0 : Int32) : Int32).toInt + 2) + ((own_hn (0 : Int32) + ((0 : Int32) : Int32).toInt + 2) + ((own_hn (0 : Int32) + ((0 : Int32) : Int32).toInt + 2) + (0 : Int)))) := own_nn (own_cnt_rng (show own_cnt (0 : Int32) by decide)) own_rg0 hz8
  have hz6 : 0 ≤ ((own_hn (0 : Int32) + ((0 : Int32) : Int32).toInt + 2) + ((own_hn (0 : Int32) + ((0 : Int32) : Int32).toInt + 2) + ((own_hn (0 : Int32) + ((0 : Int32) : Int32).toInt + 2) + ((own_hn (0 : Int32) + ((0 : Int32) : Int32).toInt + 2) + (0 : Int))))) := own_nn (own_cnt_rng (show own_cnt (0 : Int32) by decide)) own_rg0 hz7
  have hz5 : 0 ≤ ((own_hn (0 : Int32) + ((0 : Int32) : Int32).toInt + 2) + ((own_hn (0 : Int32) + ((0 : Int32) : Int32).toInt + 2) + ((own_hn (0 : Int32) + ((0 : Int32) : Int32).toInt + 2) + ((own_hn (0 : Int32) + ((0 : Int32) : Int32).toInt + 2) + ((own_hn (0 : Int32) + ((0 : Int32) : Int32).toInt + 2) + (0 : Int)))))) := own_nn (own_cnt_rng (show own_cnt (0 : Int32) by decide)) own_rg0 hz6
  have hz4 : 0 ≤ ((own_hn (0 : Int32) + ((0 : Int32) : Int32).toInt + 2) + ((own_hn (0 : Int32) + ((0 : Int32) : Int32).toInt + 2) + ((own_hn (0 : Int32) + ((0 : Int32) : Int32).toInt + 2) + ((own_hn (0 : Int32) + ((0 : Int32) : Int32).toInt + 2) + ((own_hn (0 : Int32) + ((0 : Int32) : Int32).toInt + 2) + ((own_hn (0 : Int32) + ((0 : Int32) : Int32).toInt + 2) + (0 : Int))))))) := own_nn (own_cnt_rng (show own_cnt (0 : Int32) by decide)) own_rg0 hz5
  have hz3 : 0 ≤ ((own_hn (0 : Int32) + ((0 : Int32) : Int32).toInt + 2) + ((own_hn (0 : Int32) + ((0 : Int32) : Int32).toInt + 2) + ((own_hn (0 : Int32) + ((0 : Int32) : Int32).toInt + 2) + ((own_hn (0 : Int32) + ((0 : Int32) : Int32).toInt + 2) + ((own_hn (0 : Int32) + ((0 : Int32) : Int32).toInt + 2) + ((own_hn (0 : Int32) + ((0 : Int32) : Int32).toInt + 2) + ((own_hn (0 : Int32) + ((0 : Int32) : Int32).toInt + 2) + (0 : Int)))))))) := own_nn (own_cnt_rng (show own_cnt (0 : Int32) by decide)) own_rg0 hz4
  have hz2 : 0 ≤ ((own_hn (0 : Int32) + ((0 : Int32) : Int32).toInt + 2) + ((own_hn (0 : Int32) + ((0 : Int32) : Int32).toInt + 2) + ((own_hn (0 : Int32) + ((0 : Int32) : Int32).toInt + 2) + ((own_hn (0 : Int32) + ((0 : Int32) : Int32).toInt + 2) + ((own_hn (0 : Int32) + ((0 : Int32) : Int32).toInt + 2) + ((own_hn (0 : Int32) + ((0 : Int32) : Int32).toInt + 2) + ((own_hn (0 : Int32) + ((0 : Int32) : Int32).toInt + 2) + ((own_hn (0 : Int32) + ((0 : Int32) : Int32).toInt + 2) + (0 : Int))))))))) := own_nn (own_cnt_rng (show own_cnt (0 : Int32) by decide)) own_rg0 hz3
  have hz1 : 0 ≤ ((own_hn lb + (lb : Int32).toInt + 2) + ((own_hn (0 : Int32) + ((0 : Int32) : Int32).toInt + 2) + ((own_hn (0 : Int32) + ((0 : Int32) : Int32).toInt + 2) + ((own_hn (0 : Int32) + ((0 : Int32) : Int32).toInt + 2) + ((own_hn (0 : Int32) + ((0 : Int32) : Int32).toInt + 2) + ((own_hn (0 : Int32) + ((0 : Int32) : Int32).toInt + 2) + ((own_hn (0 : Int32) + ((0 : Int32) : Int32).toInt + 2) + ((own_hn (0 : Int32) + ((0 : Int32) : Int32).toInt + 2) + ((own_hn (0 : Int32) + ((0 : Int32) : Int32).toInt + 2) + (0 : Int)))))))))) := own_nn hr_lb hr2_lb hz2
  have hz0 : 0 ≤ ((own_hn la + (la : Int32).toInt + 2) + ((own_hn lb + (lb : Int32).toInt + 2) + ((own_hn (0 : Int32) + ((0 : Int32) : Int32).toInt + 2) + ((own_hn (0 : Int32) + ((0 : Int32) : Int32).toInt + 2) + ((own_hn (0 : Int32) + ((0 : Int32) : Int32).toInt + 2) + ((own_hn (0 : Int32) + ((0 : Int32) : Int32).toInt + 2) + ((own_hn (0 : Int32) + ((0 : Int32) : Int32).toInt + 2) + ((own_hn (0 : Int32) + ((0 : Int32) : Int32).toInt + 2) + ((own_hn (0 : Int32) + ((0 : Int32) : Int32).toInt + 2) + ((own_hn (0 : Int32) + ((0 : Int32) : Int32).toInt + 2) + (0 : Int))))))))))) := own_nn hr_la hr2_la hz1
  refine n_istoreN X92 hx hby D3_68 (l' := #[.val (.ref ar), .val (.int sz), .val (.ref ob85), .val (.int az_92), .val (.int (10 : Int32)), .val (.ref eaj), .unset, .unset]) rfl ?_
  refine n_aloadN X92 hx hby D3_69 rfl rfl ?_
  refine n_astore X92 hx hby D3_70 rfl (l' := #[.val (.ref ar), .val (.int sz), .val (.ref ob85), .val (.int az_92), .val (.ref ar), .val (.ref eaj), .unset, .unset]) rfl ?_
  refine n_aload X92 hx hby D3_72 rfl rfl ?_
  have nx93 : own_NE ar ob85 := own_mkNE (by omega)
  have fc94 : Arv Z T92.heap ar ka (.array .byte) (10 : Int32) [(.ref eaa), (.ref eab), (.ref eac), (.ref ead), (.ref eae), (.ref eaf), (.ref eag), (.ref eah), (.ref eai), (.ref eaj)] .null := (fc86.keep K92 (ninS (own_unNE nx93) nin0))
  obtain ⟨cl95, Ar95, q95, S95, M95, H95, G95⟩ := (id fc94)
  refine ob_ (X92.arraylength hx Ar95.1 (State.isArrayOf_alike hZ.alike Ar95.2.1) (g := (mkF m 74 #[.val (.ref ar), .val (.int sz), .val (.ref ob85), .val (.int az_92), .val (.ref ar), .val (.ref eaj), .unset, .unset] [(.ref ar)])) rfl rfl (hb hby D3_74)) ?_
  rw [len_of S95 M95]
  refine n_istore X92 hx hby D3_75 (l' := #[.val (.ref ar), .val (.int sz), .val (.ref ob85), .val (.int az_92), .val (.ref ar), .val (.int (10 : Int32)), .unset, .unset]) rfl ?_
  refine oIc X92 hx hby D3_77 (z := (0 : Int32)) rfl ?_
  refine n_istore X92 hx hby D3_78 (l' := #[.val (.ref ar), .val (.int sz), .val (.ref ob85), .val (.int az_92), .val (.ref ar), .val (.int (10 : Int32)), .val (.int (0 : Int32)), .unset]) rfl ?_
  refine n_iload X92 hx hby D3_80 rfl ?_
  refine n_iload X92 hx hby D3_82 rfl ?_
  refine n_icmpNo X92 hx hby D3_84 (tlt (by decide : (0 : Int32) < (10 : Int32))).2.1 ?_
  refine n_aload X92 hx hby D3_87 rfl rfl ?_
  refine n_iload X92 hx hby D3_89 rfl ?_
  obtain ⟨cl96, Ar96, q96, S96, M96, H96, G96⟩ := (id fc94)
  have hin96 : ¬ ((0 : Int32) < 0 ∨ cl96.slots.size ≤ ((0 : Int32)).toNatClampNeg) := inb_of S96 ⟨by decide, by decide⟩
  refine ob_ (X92.aaload hx (j := (0 : Int32)) (v := (.ref eaa)) Ar96.1 (State.isArrayOf_alike hZ.alike Ar96.2.1) rfl Ar96.2.2 hin96 (H96.at hin96 rfl) (g := (mkF m 91 #[.val (.ref ar), .val (.int sz), .val (.ref ob85), .val (.int az_92), .val (.ref ar), .val (.int (10 : Int32)), .val (.int (0 : Int32)), .unset] [(.int (0 : Int32)), (.ref ar)])) rfl rfl (hb hby D3_91)) ?_
  refine n_astore X92 hx hby D3_92 rfl (l' := #[.val (.ref ar), .val (.int sz), .val (.ref ob85), .val (.int az_92), .val (.ref ar), .val (.int (10 : Int32)), .val (.int (0 : Int32)), .val (.ref eaa)]) rfl ?_
  refine n_aloadN X92 hx hby D3_94 rfl rfl ?_
  refine n_iloadN X92 hx hby D3_95 rfl ?_
  refine oBi X92 hx hby D3_96 (z := (36 : Int32)) rfl ?_
  refine n_aload X92 hx hby D3_98 rfl rfl ?_
  have lx98 : own_LE h0.size ob85 := own_mkLE (by omega)
  have RK97 : Keep h0 T92.heap [] := (((Keep.refl h0 []).ext E85).trans K92 (allS (P := fun x => x ∈ [] ∨ h0.size ≤ x) (Or.inr (own_unLE lx98)) all0))
  have fc99 : Arv Z T92.heap eaa eka .byte la va (.int (0 : Int32)) := Fe0.keep RK97 nin0
  obtain ⟨cl100, Ar100, q100, S100, M100, H100, G100⟩ := (id fc99)
  refine ob_ (X92.arraylength hx Ar100.1 (State.isArrayOf_alike hZ.alike Ar100.2.1) (g := (mkF m 100 #[.val (.ref ar), .val (.int sz), .val (.ref ob85), .val (.int az_92), .val (.ref ar), .val (.int (10 : Int32)), .val (.int (0 : Int32)), .val (.ref eaa)] [(.ref eaa), (.int (36 : Int32)), (.int az_92), (.ref ob85)])) rfl rfl (hb hby D3_100)) ?_
  rw [len_of S100 M100]
  have O101 : Old Z n0 T92.heap := (O91.keep K92 (allS (own_unLE lx90) all0))
  refine o_ksc 3 1 90 (Jvm.LawKit.callS X92 hx (y := (⟨s2_, "writeHeader", "([BICI)I"⟩ : MethodName)) hown (mw hZ hw 17 rfl) (mw hZ hw 18 rfl) (mw hZ hw 12 rfl) (mw hZ hw 19 rfl) (by decide) (backOf (W := 0) (rm_wh36 l Z a0 hw [] ob85 k85 sz po_92 az_92 la T92.heap n0 O101 g92_0 (own_unLE lx90) hcla r92_1 (own_k1 he0 hr2_la hz1) hns0) hZ (own_w hw 19 rfl) (own_w hw 12 rfl) (by decide) (by decide)) (g := (mkF m 101 #[.val (.ref ar), .val (.int sz), .val (.ref ob85), .val (.int az_92), .val (.ref ar), .val (.int (10 : Int32)), .val (.int (0 : Int32)), .val (.ref eaa)] [(.int la), (.int (36 : Int32)), (.int az_92), (.ref ob85)])) rfl (by rw [hml]; rfl) (argsL := [(.ref ob85), (.int az_92), (.int (36 : Int32)), (.int la)]) (rest := []) (lenOf own_pd__28_5bBICI_29I rfl) rfl own_z (hb hby D3_101) (fun _ _ => ⟨rfl, rfl, (by decide : 1 + 0 ≤ _), (by decide : 90 + 0 ≤ _)⟩)) fun T102 Lc102 _ X102 hQ102 => ?_
  obtain ⟨po_102, az_102, rfl, M102, K102, g102_0, r102_0, r102_1, r102_2⟩ := hQ102
  have N102 := Fr.app N92 M102
  obtain ⟨lc102, X102, N102⟩ := own_lc X102 N102
  have z102 := K102.1
  have lt_g102_0 : T102.heap.size > ob85 := g102_0.lt
  refine n_istoreN X102 hx hby D3_104 (l' := #[.val (.ref ar), .val (.int sz), .val (.ref ob85), .val (.int az_102), .val (.ref ar), .val (.int (10 : Int32)), .val (.int (0 : Int32)), .val (.ref eaa)]) rfl ?_
  refine n_aload X102 hx hby D3_105 rfl rfl ?_
  refine oIc X102 hx hby D3_107 (z := (0 : Int32)) rfl ?_
  refine n_aloadN X102 hx hby D3_108 rfl rfl ?_
  refine n_iloadN X102 hx hby D3_109 rfl ?_
  refine n_aload X102 hx hby D3_110 rfl rfl ?_
  have RK103 : Keep h0 T102.heap [] := (RK97.trans K102 (allS (P := fun x => x ∈ [] ∨ h0.size ≤ x) (Or.inr (own_unLE lx98)) all0))
  have fc104 : Arv Z T102.heap eaa eka .byte la va (.int (0 : Int32)) := Fe0.keep RK103 nin0
  obtain ⟨cl105, Ar105, q105, S105, M105, H105, G105⟩ := (id fc104)
  refine ob_ (X102.arraylength hx Ar105.1 (State.isArrayOf_alike hZ.alike Ar105.2.1) (g := (mkF m 112 #[.val (.ref ar), .val (.int sz), .val (.ref ob85), .val (.int az_102), .val (.ref ar), .val (.int (10 : Int32)), .val (.int (0 : Int32)), .val (.ref eaa)] [(.ref eaa), (.int az_102), (.ref ob85), (.int (0 : Int32)), (.ref eaa)])) rfl rfl (hb hby D3_112)) ?_
  rw [len_of S105 M105]
  obtain ⟨T106, h106, L106, X106, e106, N106, K106, Vr106, st106⟩ := own_cpA X102 hx hZ hown (own_w hw 30 rfl) (own_w hw 33 rfl) (own_w hw 31 rfl) (own_w hw 32 rfl) rfl fc104 g102_0 hvva (dp := az_102) r102_1 (own_k2 he0 r102_2 hz1) N102 (own_unLE lx90) (g := (mkF m 113 #[.val (.ref ar), .val (.int sz), .val (.ref ob85), .val (.int az_102), .val (.ref ar), .val (.int (10 : Int32)), .val (.int (0 : Int32)), .val (.ref eaa)] [(.int la), (.int az_102), (.ref ob85), (.int (0 : Int32)), (.ref eaa)])) rfl (by rw [hml]; rfl) rfl (hb hby D3_113) (by decide) (W := 0) own_z (by decide)
  refine ob_ st106 ?_
  have z106 := K106.1
  obtain ⟨pq106, e_pq106⟩ : ∃ z, z = po_102 ++ va := ⟨_, rfl⟩
  rw [← e_pq106] at Vr106
  have hl_pq106 : (pq106.length : Int) = (po_102.length : Int) + (la : Int32).toInt := by rw [e_pq106]; exact own_lenA hvva
  refine n_aloadN X106 hx hby D3_116 rfl rfl ?_
  refine n_iloadN X106 hx hby D3_117 rfl ?_
  refine n_aload X106 hx hby D3_118 rfl rfl ?_
  have RK107 : Keep h0 h106 [] := (RK103.trans K106 (allS (P := fun x => x ∈ [] ∨ h0.size ≤ x) (Or.inr (own_unLE lx98)) all0))
  have fc108 : Arv Z h106 eaa eka .byte la va (.int (0 : Int32)) := Fe0.keep RK107 nin0
  obtain ⟨cl109, Ar109, q109, S109, M109, H109, G109⟩ := (id fc108)
  refine ob_ (X106.arraylength hx (by rw [e106]; exact Ar109.1) (State.isArrayOf_alike hZ.alike Ar109.2.1) (g := (mkF m 120 #[.val (.ref ar), .val (.int sz), .val (.ref ob85), .val (.int az_102), .val (.ref ar), .val (.int (10 : Int32)), .val (.int (0 : Int32)), .val (.ref eaa)] [(.ref eaa), (.int az_102), (.ref ob85)])) rfl rfl (hb hby D3_120)) ?_
  rw [len_of S109 M109]
  refine n_iadd X106 hx hby D3_121 ?_
  have O110 : Old Z n0 h106 := ((O101.keep K102 (allS (own_unLE lx90) all0)).keep K106 (allS (own_unLE lx90) all0))
  refine o_ksc 3 1 90 (Jvm.LawKit.callS X106 hx (y := (⟨s2_, "writeCrLf", "([BI)I"⟩ : MethodName)) hown (mw hZ hw 20 rfl) (mw hZ hw 21 rfl) (mw hZ hw 12 rfl) (mw hZ hw 22 rfl) (by decide) (backOf (W := 0) (rm_wc l Z a0 hw [] ob85 k85 sz pq106 (az_102 + la) h106 n0 O110 Vr106 (own_unLE lx90) (own_k3 r102_1 hl_pq106 hr2_la (own_k2 he0 r102_2 hz1) hns0) (own_k4 he0 r102_2 hl_pq106 hz1) hns0) hZ (own_w hw 22 rfl) (own_w hw 12 rfl) (by decide) (by decide)) (g := (mkF m 122 #[.val (.ref ar), .val (.int sz), .val (.ref ob85), .val (.int az_102), .val (.ref ar), .val (.int (10 : Int32)), .val (.int (0 : Int32)), .val (.ref eaa)] [(.int (az_102 + la)), (.ref ob85)])) rfl (by rw [hml]; rfl) (argsL := [(.ref ob85), (.int (az_102 + la))]) (rest := []) (lenOf own_pd__28_5bBI_29I rfl) rfl own_z (hb hby D3_122) (fun _ _ => ⟨rfl, e106, (by decide : 1 + 0 ≤ _), (by decide : 90 + 0 ≤ _)⟩)) fun T111 Lc111 _ X111 hQ111 => ?_
  obtain ⟨po_111, az_111, rfl, M111, K111, g111_0, r111_0, r111_1, r111_2⟩ := hQ111
  have N111 := Fr.app N106 M111
  obtain ⟨lc111, X111, N111⟩ := own_lc X111 N111
  have z111 := K111.1
  have lt_g111_0 : T111.heap.size > ob85 := g111_0.lt
  have he1 : sz.toInt = (po_111.length : Int) + ((own_hn lb + (lb : Int32).toInt + 2) + ((own_hn (0 : Int32) + ((0 : Int32) : Int32).toInt + 2) + ((own_hn (0 : Int32) + ((0 : Int32) : Int32).toInt + 2) + ((own_hn (0 : Int32) + ((0 : Int32) : Int32).toInt + 2) + ((own_hn (0 : Int32) + ((0 : Int32) : Int32).toInt + 2) + ((own_hn (0 : Int32) + ((0 : Int32) : Int32).toInt + 2) + ((own_hn (0 : Int32) + ((0 : Int32) : Int32).toInt + 2) + ((own_hn (0 : Int32) + ((0 : Int32) : Int32).toInt + 2) + ((own_hn (0 : Int32) + ((0 : Int32) : Int32).toInt + 2) + (0 : Int)))))))))) := own_k5 he0 r102_2 hl_pq106 r111_2
  refine n_istoreN X111 hx hby D3_125 (l' := #[.val (.ref ar), .val (.int sz), .val (.ref ob85), .val (.int az_111), .val (.ref ar), .val (.int (10 : Int32)), .val (.int (0 : Int32)), .val (.ref eaa)]) rfl ?_
  refine n_iinc X111 hx hby D3_126 rfl (l' := #[.val (.ref ar), .val (.int sz), .val (.ref ob85), .val (.int az_111), .val (.ref ar), .val (.int (10 : Int32)), .val (.int (1 : Int32)), .val (.ref eaa)]) rfl ?_
  refine n_goto X111 hx hby D3_129 (pc0 := 129) (pc' := 80) rfl (by decide) (by decide) ?_
  refine n_iload X111 hx hby D3_80 rfl ?_
  refine n_iload X111 hx hby D3_82 rfl ?_
  refine n_icmpNo X111 hx hby D3_84 (tlt (by decide : (1 : Int32) < (10 : Int32))).2.1 ?_
  refine n_aload X111 hx hby D3_87 rfl rfl ?_
  refine n_iload X111 hx hby D3_89 rfl ?_
  have fc112 : Arv Z T111.heap ar ka (.array .byte) (10 : Int32) [(.ref eaa), (.ref eab), (.ref eac), (.ref ead), (.ref eae), (.ref eaf), (.ref eag), (.ref eah), (.ref eai), (.ref eaj)] .null := (((fc94.keep K102 (ninS (own_unNE nx93) nin0)).keep K106 (ninS (own_unNE nx93) nin0)).keep K111 (ninS (own_unNE nx93) nin0))
  obtain ⟨cl113, Ar113, q113, S113, M113, H113, G113⟩ := (id fc112)
  have hin113 : ¬ ((1 : Int32) < 0 ∨ cl113.slots.size ≤ ((1 : Int32)).toNatClampNeg) := inb_of S113 ⟨by decide, by decide⟩
  refine ob_ (X111.aaload hx (j := (1 : Int32)) (v := (.ref eab)) Ar113.1 (State.isArrayOf_alike hZ.alike Ar113.2.1) rfl Ar113.2.2 hin113 (H113.at hin113 rfl) (g := (mkF m 91 #[.val (.ref ar), .val (.int sz), .val (.ref ob85), .val (.int az_111), .val (.ref ar), .val (.int (10 : Int32)), .val (.int (1 : Int32)), .val (.ref eaa)] [(.int (1 : Int32)), (.ref ar)])) rfl rfl (hb hby D3_91)) ?_
  refine n_astore X111 hx hby D3_92 rfl (l' := #[.val (.ref ar), .val (.int sz), .val (.ref ob85), .val (.int az_111), .val (.ref ar), .val (.int (10 : Int32)), .val (.int (1 : Int32)), .val (.ref eab)]) rfl ?_
  refine n_aloadN X111 hx hby D3_94 rfl rfl ?_
  refine n_iloadN X111 hx hby D3_95 rfl ?_
  refine oBi X111 hx hby D3_96 (z := (36 : Int32)) rfl ?_
  refine n_aload X111 hx hby D3_98 rfl rfl ?_
  have RK114 : Keep h0 T111.heap [] := (RK107.trans K111 (allS (P := fun x => x ∈ [] ∨ h0.size ≤ x) (Or.inr (own_unLE lx98)) all0))
  have fc115 : Arv Z T111.heap eab ekb .byte lb vb (.int (0 : Int32)) := Fe1.keep RK114 nin0
  obtain ⟨cl116, Ar116, q116, S116, M116, H116, G116⟩ := (id fc115)
  refine ob_ (X111.arraylength hx Ar116.1 (State.isArrayOf_alike hZ.alike Ar116.2.1) (g := (mkF m 100 #[.val (.ref ar), .val (.int sz), .val (.ref ob85), .val (.int az_111), .val (.ref ar), .val (.int (10 : Int32)), .val (.int (1 : Int32)), .val (.ref eab)] [(.ref eab), (.int (36 : Int32)), (.int az_111), (.ref ob85)])) rfl rfl (hb hby D3_100)) ?_
  rw [len_of S116 M116]
  have O117 : Old Z n0 T111.heap := (O110.keep K111 (allS (own_unLE lx90) all0))
  refine o_ksc 3 1 90 (Jvm.LawKit.callS X111 hx (y := (⟨s2_, "writeHeader", "([BICI)I"⟩ : MethodName)) hown (mw hZ hw 17 rfl) (mw hZ hw 18 rfl) (mw hZ hw 12 rfl) (mw hZ hw 19 rfl) (by decide) (backOf (W := 0) (rm_wh36 l Z a0 hw [] ob85 k85 sz po_111 az_111 lb T111.heap n0 O117 g111_0 (own_unLE lx90) hclb r111_1 (own_k1 he1 hr2_lb hz2) hns0) hZ (own_w hw 19 rfl) (own_w hw 12 rfl) (by decide) (by decide)) (g := (mkF m 101 #[.val (.ref ar), .val (.int sz), .val (.ref ob85), .val (.int az_111), .val (.ref ar), .val (.int (10 : Int32)), .val (.int (1 : Int32)), .val (.ref eab)] [(.int lb), (.int (36 : Int32)), (.int az_111), (.ref ob85)])) rfl (by rw [hml]; rfl) (argsL := [(.ref ob85), (.int az_111), (.int (36 : Int32)), (.int lb)]) (rest := []) (lenOf own_pd__28_5bBICI_29I rfl) rfl own_z (hb hby D3_101) (fun _ _ => ⟨rfl, rfl, (by decide : 1 + 0 ≤ _), (by decide : 90 + 0 ≤ _)⟩)) fun T118 Lc118 _ X118 hQ118 => ?_
  obtain ⟨po_118, az_118, rfl, M118, K118, g118_0, r118_0, r118_1, r118_2⟩ := hQ118
  have N118 := Fr.app N111 M118
  obtain ⟨lc118, X118, N118⟩ := own_lc X118 N118
  have z118 := K118.1
  have lt_g118_0 : T118.heap.size > ob85 := g118_0.lt
  refine n_istoreN X118 hx hby D3_104 (l' := #[.val (.ref ar), .val (.int sz), .val (.ref ob85), .val (.int az_118), .val (.ref ar), .val (.int (10 : Int32)), .val (.int (1 : Int32)), .val (.ref eab)]) rfl ?_
  refine n_aload X118 hx hby D3_105 rfl rfl ?_
  refine oIc X118 hx hby D3_107 (z := (0 : Int32)) rfl ?_
  refine n_aloadN X118 hx hby D3_108 rfl rfl ?_
  refine n_iloadN X118 hx hby D3_109 rfl ?_
  refine n_aload X118 hx hby D3_110 rfl rfl ?_
  have RK119 : Keep h0 T118.heap [] := (RK114.trans K118 (allS (P := fun x => x ∈ [] ∨ h0.size ≤ x) (Or.inr (own_unLE lx98)) all0))
  have fc120 : Arv Z T118.heap eab ekb .byte lb vb (.int (0 : Int32)) := Fe1.keep RK119 nin0
  obtain ⟨cl121, Ar121, q121, S121, M121, H121, G121⟩ := (id fc120)
  refine ob_ (X118.arraylength hx Ar121.1 (State.isArrayOf_alike hZ.alike Ar121.2.1) (g := (mkF m 112 #[.val (.ref ar), .val (.int sz), .val (.ref ob85), .val (.int az_118), .val (.ref ar), .val (.int (10 : Int32)), .val (.int (1 : Int32)), .val (.ref eab)] [(.ref eab), (.int az_118), (.ref ob85), (.int (0 : Int32)), (.ref eab)])) rfl rfl (hb hby D3_112)) ?_
  rw [len_of S121 M121]
  obtain ⟨T122, h122, L122, X122, e122, N122, K122, Vr122, st122⟩ := own_cpA X118 hx hZ hown (own_w hw 30 rfl) (own_w hw 33 rfl) (own_w hw 31 rfl) (own_w hw 32 rfl) rfl fc120 g118_0 hvvb (dp := az_118) r118_1 (own_k2 he1 r118_2 hz2) N118 (own_unLE lx90) (g := (mkF m 113 #[.val (.ref ar), .val (.int sz), .val (.ref ob85), .val (.int az_118), .val (.ref ar), .val (.int (10 : Int32)), .val (.int (1 : Int32)), .val (.ref eab)] [(.int lb), (.int az_118), (.ref ob85), (.int (0 : Int32)), (.ref eab)])) rfl (by rw [hml]; rfl) rfl (hb hby D3_113) (by decide) (W := 0) own_z (by decide)
  refine ob_ st122 ?_
  have z122 := K122.1
  obtain ⟨pq122, e_pq122⟩ : ∃ z, z = po_118 ++ vb := ⟨_, rfl⟩
  rw [← e_pq122] at Vr122
  have hl_pq122 : (pq122.length : Int) = (po_118.length : Int) + (lb : Int32).toInt := by rw [e_pq122]; exact own_lenA hvvb
  refine n_aloadN X122 hx hby D3_116 rfl rfl ?_
  refine n_iloadN X122 hx hby D3_117 rfl ?_
  refine n_aload X122 hx hby D3_118 rfl rfl ?_
  have RK123 : Keep h0 h122 [] := (RK119.trans K122 (allS (P := fun x => x ∈ [] ∨ h0.size ≤ x) (Or.inr (own_unLE lx98)) all0))
  have fc124 : Arv Z h122 eab ekb .byte lb vb (.int (0 : Int32)) := Fe1.keep RK123 nin0
  obtain ⟨cl125, Ar125, q125, S125, M125, H125, G125⟩ := (id fc124)
  refine ob_ (X122.arraylength hx (by rw [e122]; exact Ar125.1) (State.isArrayOf_alike hZ.alike Ar125.2.1) (g := (mkF m 120 #[.val (.ref ar), .val (.int sz), .val (.ref ob85), .val (.int az_118), .val (.ref ar), .val (.int (10 : Int32)), .val (.int (1 : Int32)), .val (.ref eab)] [(.ref eab), (.int az_118), (.ref ob85)])) rfl rfl (hb hby D3_120)) ?_
  rw [len_of S125 M125]
  refine n_iadd X122 hx hby D3_121 ?_
  have O126 : Old Z n0 h122 := ((O117.keep K118 (allS (own_unLE lx90) all0)).keep K122 (allS (own_unLE lx90) all0))
  refine o_ksc 3 1 90 (Jvm.LawKit.callS X122 hx (y := (⟨s2_, "writeCrLf", "([BI)I"⟩ : MethodName)) hown (mw hZ hw 20 rfl) (mw hZ hw 21 rfl) (mw hZ hw 12 rfl) (mw hZ hw 22 rfl) (by decide) (backOf (W := 0) (rm_wc l Z a0 hw [] ob85 k85 sz pq122 (az_118 + lb) h122 n0 O126 Vr122 (own_unLE lx90) (own_k3 r118_1 hl_pq122 hr2_lb (own_k2 he1 r118_2 hz2) hns0) (own_k4 he1 r118_2 hl_pq122 hz2) hns0) hZ (own_w hw 22 rfl) (own_w hw 12 rfl) (by decide) (by decide)) (g := (mkF m 122 #[.val (.ref ar), .val (.int sz), .val (.ref ob85), .val (.int az_118), .val (.ref ar), .val (.int (10 : Int32)), .val (.int (1 : Int32)), .val (.ref eab)] [(.int (az_118 + lb)), (.ref ob85)])) rfl (by rw [hml]; rfl) (argsL := [(.ref ob85), (.int (az_118 + lb))]) (rest := []) (lenOf own_pd__28_5bBI_29I rfl) rfl own_z (hb hby D3_122) (fun _ _ => ⟨rfl, e122, (by decide : 1 + 0 ≤ _), (by decide : 90 + 0 ≤ _)⟩)) fun T127 Lc127 _ X127 hQ127 => ?_
  obtain ⟨po_127, az_127, rfl, M127, K127, g127_0, r127_0, r127_1, r127_2⟩ := hQ127
  have N127 := Fr.app N122 M127
  obtain ⟨lc127, X127, N127⟩ := own_lc X127 N127
  have z127 := K127.1
  have lt_g127_0 : T127.heap.size > ob85 := g127_0.lt
  have he2 : sz.toInt = (po_127.length : Int) + ((own_hn (0 : Int32) + ((0 : Int32) : Int32).toInt + 2) + ((own_hn (0 : Int32) + ((0 : Int32) : Int32).toInt + 2) + ((own_hn (0 : Int32) + ((0 : Int32) : Int32).toInt + 2) + ((own_hn (0 : Int32) + ((0 : Int32) : Int32).toInt + 2) + ((own_hn (0 : Int32) + ((0 : Int32) : Int32).toInt + 2) + ((own_hn (0 : Int32) + ((0 : Int32) : Int32).toInt + 2) + ((own_hn (0 : Int32) + ((0 : Int32) : Int32).toInt + 2) + ((own_hn (0 : Int32) + ((0 : Int32) : Int32).toInt + 2) + (0 : Int))))))))) := own_k5 he1 r118_2 hl_pq122 r127_2
  clear he1
  refine n_istoreN X127 hx hby D3_125 (l' := #[.val (.ref ar), .val (.int sz), .val (.ref ob85), .val (.int az_127), .val (.ref ar), .val (.int (10 : Int32)), .val (.int (1 : Int32)), .val (.ref eab)]) rfl ?_
  refine n_iinc X127 hx hby D3_126 rfl (l' := #[.val (.ref ar), .val (.int sz), .val (.ref ob85), .val (.int az_127), .val (.ref ar), .val (.int (10 : Int32)), .val (.int (2 : Int32)), .val (.ref eab)]) rfl ?_
  refine n_goto X127 hx hby D3_129 (pc0 := 129) (pc' := 80) rfl (by decide) (by decide) ?_
  refine n_iload X127 hx hby D3_80 rfl ?_
  refine n_iload X127 hx hby D3_82 rfl ?_
  refine n_icmpNo X127 hx hby D3_84 (tlt (by decide : (2 : Int32) < (10 : Int32))).2.1 ?_
  refine n_aload X127 hx hby D3_87 rfl rfl ?_
  refine n_iload X127 hx hby D3_89 rfl ?_
  have fc128 : Arv Z T127.heap ar ka (.array .byte) (10 : Int32) [(.ref eaa), (.ref eab), (.ref eac), (.ref ead), (.ref eae), (.ref eaf), (.ref eag), (.ref eah), (.ref eai), (.ref eaj)] .null := (((fc112.keep K118 (ninS (own_unNE nx93) nin0)).keep K122 (ninS (own_unNE nx93) nin0)).keep K127 (ninS (own_unNE nx93) nin0))
  obtain ⟨cl129, Ar129, q129, S129, M129, H129, G129⟩ := (id fc128)
  have hin129 : ¬ ((2 : Int32) < 0 ∨ cl129.slots.size ≤ ((2 : Int32)).toNatClampNeg) := inb_of S129 ⟨by decide, by decide⟩
  refine ob_ (X127.aaload hx (j := (2 : Int32)) (v := (.ref eac)) Ar129.1 (State.isArrayOf_alike hZ.alike Ar129.2.1) rfl Ar129.2.2 hin129 (H129.at hin129 rfl) (g := (mkF m 91 #[.val (.ref ar), .val (.int sz), .val (.ref ob85), .val (.int az_127), .val (.ref ar), .val (.int (10 : Int32)), .val (.int (2 : Int32)), .val (.ref eab)] [(.int (2 : Int32)), (.ref ar)])) rfl rfl (hb hby D3_91)) ?_
  refine n_astore X127 hx hby D3_92 rfl (l' := #[.val (.ref ar), .val (.int sz), .val (.ref ob85), .val (.int az_127), .val (.ref ar), .val (.int (10 : Int32)), .val (.int (2 : Int32)), .val (.ref eac)]) rfl ?_
  refine n_aloadN X127 hx hby D3_94 rfl rfl ?_
  refine n_iloadN X127 hx hby D3_95 rfl ?_
  refine oBi X127 hx hby D3_96 (z := (36 : Int32)) rfl ?_
  refine n_aload X127 hx hby D3_98 rfl rfl ?_
  have RK130 : Keep h0 T127.heap [] := (RK123.trans K127 (allS (P := fun x => x ∈ [] ∨ h0.size ≤ x) (Or.inr (own_unLE lx98)) all0))
  have fc131 : Arv Z T127.heap eac ekc .byte (0 : Int32) [] (.int (0 : Int32)) := Fe2.keep RK130 nin0
  obtain ⟨cl132, Ar132, q132, S132, M132, H132, G132⟩ := (id fc131)
  refine ob_ (X127.arraylength hx Ar132.1 (State.isArrayOf_alike hZ.alike Ar132.2.1) (g := (mkF m 100 #[.val (.ref ar), .val (.int sz), .val (.ref ob85), .val (.int az_127), .val (.ref ar), .val (.int (10 : Int32)), .val (.int (2 : Int32)), .val (.ref eac)] [(.ref eac), (.int (36 : Int32)), (.int az_127), (.ref ob85)])) rfl rfl (hb hby D3_100)) ?_
  rw [len_of S132 M132]
  have O133 : Old Z n0 T127.heap := (O126.keep K127 (allS (own_unLE lx90) all0))
  refine o_ksc 3 1 90 (Jvm.LawKit.callS X127 hx (y := (⟨s2_, "writeHeader", "([BICI)I"⟩ : MethodName)) hown (mw hZ hw 17 rfl) (mw hZ hw 18 rfl) (mw hZ hw 12 rfl) (mw hZ hw 19 rfl) (by decide) (backOf (W := 0) (rm_wh36 l Z a0 hw [] ob85 k85 sz po_127 az_127 (0 : Int32) T127.heap n0 O133 g127_0 (own_unLE lx90) (by decide) r127_1 (own_k1 he2 own_rg0 hz3) hns0) hZ (own_w hw 19 rfl) (own_w hw 12 rfl) (by decide) (by decide)) (g := (mkF m 101 #[.val (.ref ar), .val (.int sz), .val (.ref ob85), .val (.int az_127), .val (.ref ar), .val (.int (10 : Int32)), .val (.int (2 : Int32)), .val (.ref eac)] [(.int (0 : Int32)), (.int (36 : Int32)), (.int az_127), (.ref ob85)])) rfl (by rw [hml]; rfl) (argsL := [(.ref ob85), (.int az_127), (.int (36 : Int32)), (.int (0 : Int32))]) (rest := []) (lenOf own_pd__28_5bBICI_29I rfl) rfl own_z (hb hby D3_101) (fun _ _ => ⟨rfl, rfl, (by decide : 1 + 0 ≤ _), (by decide : 90 + 0 ≤ _)⟩)) fun T134 Lc134 _ X134 hQ134 => ?_
  obtain ⟨po_134, az_134, rfl, M134, K134, g134_0, r134_0, r134_1, r134_2⟩ := hQ134
  have N134 := Fr.app N127 M134
  obtain ⟨lc134, X134, N134⟩ := own_lc X134 N134
  have z134 := K134.1
  have lt_g134_0 : T134.heap.size > ob85 := g134_0.lt
  refine n_istoreN X134 hx hby D3_104 (l' := #[.val (.ref ar), .val (.int sz), .val (.ref ob85), .val (.int az_134), .val (.ref ar), .val (.int (10 : Int32)), .val (.int (2 : Int32)), .val (.ref eac)]) rfl ?_
  refine n_aload X134 hx hby D3_105 rfl rfl ?_
  refine oIc X134 hx hby D3_107 (z := (0 : Int32)) rfl ?_
  refine n_aloadN X134 hx hby D3_108 rfl rfl ?_
  refine n_iloadN X134 hx hby D3_109 rfl ?_
  refine n_aload X134 hx hby D3_110 rfl rfl ?_
  have RK135 : Keep h0 T134.heap [] := (RK130.trans K134 (allS (P := fun x => x ∈ [] ∨ h0.size ≤ x) (Or.inr (own_unLE lx98)) all0))
  have fc136 : Arv Z T134.heap eac ekc .byte (0 : Int32) [] (.int (0 : Int32)) := Fe2.keep RK135 nin0
  obtain ⟨cl137, Ar137, q137, S137, M137, H137, G137⟩ := (id fc136)
  refine ob_ (X134.arraylength hx Ar137.1 (State.isArrayOf_alike hZ.alike Ar137.2.1) (g := (mkF m 112 #[.val (.ref ar), .val (.int sz), .val (.ref ob85), .val (.int az_134), .val (.ref ar), .val (.int (10 : Int32)), .val (.int (2 : Int32)), .val (.ref eac)] [(.ref eac), (.int az_134), (.ref ob85), (.int (0 : Int32)), (.ref eac)])) rfl rfl (hb hby D3_112)) ?_
  rw [len_of S137 M137]
  obtain ⟨T138, h138, L138, X138, e138, N138, K138, Vr138, st138⟩ := own_cpA X134 hx hZ hown (own_w hw 30 rfl) (own_w hw 33 rfl) (own_w hw 31 rfl) (own_w hw 32 rfl) rfl fc136 g134_0 (rfl : ((([] : List Value)).length : Int) = (0 : Int32).toInt) (dp := az_134) r134_1 (own_k2 he2 r134_2 hz3) N134 (own_unLE lx90) (g := (mkF m 113 #[.val (.ref ar), .val (.int sz), .val (.ref ob85), .val (.int az_134), .val (.ref ar), .val (.int (10 : Int32)), .val (.int (2 : Int32)), .val (.ref eac)] [(.int (0 : Int32)), (.int az_134), (.ref ob85), (.int (0 : Int32)), (.ref eac)])) rfl (by rw [hml]; rfl) rfl (hb hby D3_113) (by decide) (W := 0) own_z (by decide)
  refine ob_ st138 ?_
  have z138 := K138.1
  obtain ⟨pq138, e_pq138⟩ : ∃ z, z = po_134 ++ ([] : List Value) := ⟨_, rfl⟩
  rw [← e_pq138] at Vr138
  have hl_pq138 : (pq138.length : Int) = (po_134.length : Int) + ((0 : Int32) : Int32).toInt := by rw [e_pq138]; exact own_lenA (rfl : ((([] : List Value)).length : Int) = (0 : Int32).toInt)
  refine n_aloadN X138 hx hby D3_116 rfl rfl ?_
  refine n_iloadN X138 hx hby D3_117 rfl ?_
  refine n_aload X138 hx hby D3_118 rfl rfl ?_
  have RK139 : Keep h0 h138 [] := (RK135.trans K138 (allS (P := fun x => x ∈ [] ∨ h0.size ≤ x) (Or.inr (own_unLE lx98)) all0))
  have fc140 : Arv Z h138 eac ekc .byte (0 : Int32) [] (.int (0 : Int32)) := Fe2.keep RK139 nin0
  obtain ⟨cl141, Ar141, q141, S141, M141, H141, G141⟩ := (id fc140)
  refine ob_ (X138.arraylength hx (by rw [e138]; exact Ar141.1) (State.isArrayOf_alike hZ.alike Ar141.2.1) (g := (mkF m 120 #[.val (.ref ar), .val (.int sz), .val (.ref ob85), .val (.int az_134), .val (.ref ar), .val (.int (10 : Int32)), .val (.int (2 : Int32)), .val (.ref eac)] [(.ref eac), (.int az_134), (.ref ob85)])) rfl rfl (hb hby D3_120)) ?_
  rw [len_of S141 M141]
  refine n_iadd X138 hx hby D3_121 ?_
  have O142 : Old Z n0 h138 := ((O133.keep K134 (allS (own_unLE lx90) all0)).keep K138 (allS (own_unLE lx90) all0))
  refine o_ksc 3 1 90 (Jvm.LawKit.callS X138 hx (y := (⟨s2_, "writeCrLf", "([BI)I"⟩ : MethodName)) hown (mw hZ hw 20 rfl) (mw hZ hw 21 rfl) (mw hZ hw 12 rfl) (mw hZ hw 22 rfl) (by decide) (backOf (W := 0) (rm_wc l Z a0 hw [] ob85 k85 sz pq138 (az_134 + (0 : Int32)) h138 n0 O142 Vr138 (own_unLE lx90) (own_k3 r134_1 hl_pq138 own_rg0 (own_k2 he2 r134_2 hz3) hns0) (own_k4 he2 r134_2 hl_pq138 hz3) hns0) hZ (own_w hw 22 rfl) (own_w hw 12 rfl) (by decide) (by decide)) (g := (mkF m 122 #[.val (.ref ar), .val (.int sz), .val (.ref ob85), .val (.int az_134), .val (.ref ar), .val (.int (10 : Int32)), .val (.int (2 : Int32)), .val (.ref eac)] [(.int (az_134 + (0 : Int32))), (.ref ob85)])) rfl (by rw [hml]; rfl) (argsL := [(.ref ob85), (.int (az_134 + (0 : Int32)))]) (rest := []) (lenOf own_pd__28_5bBI_29I rfl) rfl own_z (hb hby D3_122) (fun _ _ => ⟨rfl, e138, (by decide : 1 + 0 ≤ _), (by decide : 90 + 0 ≤ _)⟩)) fun T143 Lc143 _ X143 hQ143 => ?_
  obtain ⟨po_143, az_143, rfl, M143, K143, g143_0, r143_0, r143_1, r143_2⟩ := hQ143
  have N143 := Fr.app N138 M143
  obtain ⟨lc143, X143, N143⟩ := own_lc X143 N143
  have z143 := K143.1
  have lt_g143_0 : T143.heap.size > ob85 := g143_0.lt
  have he3 : sz.toInt = (po_143.length : Int) + ((own_hn (0 : Int32) + ((0 : Int32) : Int32).toInt + 2) + ((own_hn (0 : Int32) + ((0 : Int32) : Int32).toInt + 2) + ((own_hn (0 : Int32) + ((0 : Int32) : Int32).toInt + 2) + ((own_hn (0 : Int32) + ((0 : Int32) : Int32).toInt + 2) + ((own_hn (0 : Int32) + ((0 : Int32) : Int32).toInt + 2) + ((own_hn (0 : Int32) + ((0 : Int32) : Int32).toInt + 2) + ((own_hn (0 : Int32) + ((0 : Int32) : Int32).toInt + 2) + (0 : Int)))))))) := own_k5 he2 r134_2 hl_pq138 r143_2
  clear he2
  refine n_istoreN X143 hx hby D3_125 (l' := #[.val (.ref ar), .val (.int sz), .val (.ref ob85), .val (.int az_143), .val (.ref ar), .val (.int (10 : Int32)), .val (.int (2 : Int32)), .val (.ref eac)]) rfl ?_
  refine n_iinc X143 hx hby D3_126 rfl (l' := #[.val (.ref ar), .val (.int sz), .val (.ref ob85), .val (.int az_143), .val (.ref ar), .val (.int (10 : Int32)), .val (.int (3 : Int32)), .val (.ref eac)]) rfl ?_
  refine n_goto X143 hx hby D3_129 (pc0 := 129) (pc' := 80) rfl (by decide) (by decide) ?_
  refine n_iload X143 hx hby D3_80 rfl ?_
  refine n_iload X143 hx hby D3_82 rfl ?_
  refine n_icmpNo X143 hx hby D3_84 (tlt (by decide : (3 : Int32) < (10 : Int32))).2.1 ?_
  refine n_aload X143 hx hby D3_87 rfl rfl ?_
  refine n_iload X143 hx hby D3_89 rfl ?_
  have fc144 : Arv Z T143.heap ar ka (.array .byte) (10 : Int32) [(.ref eaa), (.ref eab), (.ref eac), (.ref ead), (.ref eae), (.ref eaf), (.ref eag), (.ref eah), (.ref eai), (.ref eaj)] .null := (((fc128.keep K134 (ninS (own_unNE nx93) nin0)).keep K138 (ninS (own_unNE nx93) nin0)).keep K143 (ninS (own_unNE nx93) nin0))
  obtain ⟨cl145, Ar145, q145, S145, M145, H145, G145⟩ := (id fc144)
  have hin145 : ¬ ((3 : Int32) < 0 ∨ cl145.slots.size ≤ ((3 : Int32)).toNatClampNeg) := inb_of S145 ⟨by decide, by decide⟩
  refine ob_ (X143.aaload hx (j := (3 : Int32)) (v := (.ref ead)) Ar145.1 (State.isArrayOf_alike hZ.alike Ar145.2.1) rfl Ar145.2.2 hin145 (H145.at hin145 rfl) (g := (mkF m 91 #[.val (.ref ar), .val (.int sz), .val (.ref ob85), .val (.int az_143), .val (.ref ar), .val (.int (10 : Int32)), .val (.int (3 : Int32)), .val (.ref eac)] [(.int (3 : Int32)), (.ref ar)])) rfl rfl (hb hby D3_91)) ?_
  refine n_astore X143 hx hby D3_92 rfl (l' := #[.val (.ref ar), .val (.int sz), .val (.ref ob85), .val (.int az_143), .val (.ref ar), .val (.int (10 : Int32)), .val (.int (3 : Int32)), .val (.ref ead)]) rfl ?_
  refine n_aloadN X143 hx hby D3_94 rfl rfl ?_
  refine n_iloadN X143 hx hby D3_95 rfl ?_
  refine oBi X143 hx hby D3_96 (z := (36 : Int32)) rfl ?_
  refine n_aload X143 hx hby D3_98 rfl rfl ?_
  have RK146 : Keep h0 T143.heap [] := (RK139.trans K143 (allS (P := fun x => x ∈ [] ∨ h0.size ≤ x) (Or.inr (own_unLE lx98)) all0))
  have fc147 : Arv Z T143.heap ead ekd .byte (0 : Int32) [] (.int (0 : Int32)) := Fe3.keep RK146 nin0
  obtain ⟨cl148, Ar148, q148, S148, M148, H148, G148⟩ := (id fc147)
  refine ob_ (X143.arraylength hx Ar148.1 (State.isArrayOf_alike hZ.alike Ar148.2.1) (g := (mkF m 100 #[.val (.ref ar), .val (.int sz), .val (.ref ob85), .val (.int az_143), .val (.ref ar), .val (.int (10 : Int32)), .val (.int (3 : Int32)), .val (.ref ead)] [(.ref ead), (.int (36 : Int32)), (.int az_143), (.ref ob85)])) rfl rfl (hb hby D3_100)) ?_
  rw [len_of S148 M148]
  have O149 : Old Z n0 T143.heap := (O142.keep K143 (allS (own_unLE lx90) all0))
  refine o_ksc 3 1 90 (Jvm.LawKit.callS X143 hx (y := (⟨s2_, "writeHeader", "([BICI)I"⟩ : MethodName)) hown (mw hZ hw 17 rfl) (mw hZ hw 18 rfl) (mw hZ hw 12 rfl) (mw hZ hw 19 rfl) (by decide) (backOf (W := 0) (rm_wh36 l Z a0 hw [] ob85 k85 sz po_143 az_143 (0 : Int32) T143.heap n0 O149 g143_0 (own_unLE lx90) (by decide) r143_1 (own_k1 he3 own_rg0 hz4) hns0) hZ (own_w hw 19 rfl) (own_w hw 12 rfl) (by decide) (by decide)) (g := (mkF m 101 #[.val (.ref ar), .val (.int sz), .val (.ref ob85), .val (.int az_143), .val (.ref ar), .val (.int (10 : Int32)), .val (.int (3 : Int32)), .val (.ref ead)] [(.int (0 : Int32)), (.int (36 : Int32)), (.int az_143), (.ref ob85)])) rfl (by rw [hml]; rfl) (argsL := [(.ref ob85), (.int az_143), (.int (36 : Int32)), (.int (0 : Int32))]) (rest := []) (lenOf own_pd__28_5bBICI_29I rfl) rfl own_z (hb hby D3_101) (fun _ _ => ⟨rfl, rfl, (by decide : 1 + 0 ≤ _), (by decide : 90 + 0 ≤ _)⟩)) fun T150 Lc150 _ X150 hQ150 => ?_
  obtain ⟨po_150, az_150, rfl, M150, K150, g150_0, r150_0, r150_1, r150_2⟩ := hQ150
  have N150 := Fr.app N143 M150
  obtain ⟨lc150, X150, N150⟩ := own_lc X150 N150
  have z150 := K150.1
  have lt_g150_0 : T150.heap.size > ob85 := g150_0.lt
  refine n_istoreN X150 hx hby D3_104 (l' := #[.val (.ref ar), .val (.int sz), .val (.ref ob85), .val (.int az_150), .val (.ref ar), .val (.int (10 : Int32)), .val (.int (3 : Int32)), .val (.ref ead)]) rfl ?_
  refine n_aload X150 hx hby D3_105 rfl rfl ?_
  refine oIc X150 hx hby D3_107 (z := (0 : Int32)) rfl ?_
  refine n_aloadN X150 hx hby D3_108 rfl rfl ?_
  refine n_iloadN X150 hx hby D3_109 rfl ?_
  refine n_aload X150 hx hby D3_110 rfl rfl ?_
  have RK151 : Keep h0 T150.heap [] := (RK146.trans K150 (allS (P := fun x => x ∈ [] ∨ h0.size ≤ x) (Or.inr (own_unLE lx98)) all0))
  have fc152 : Arv Z T150.heap ead ekd .byte (0 : Int32) [] (.int (0 : Int32)) := Fe3.keep RK151 nin0
  obtain ⟨cl153, Ar153, q153, S153, M153, H153, G153⟩ := (id fc152)
  refine ob_ (X150.arraylength hx Ar153.1 (State.isArrayOf_alike hZ.alike Ar153.2.1) (g := (mkF m 112 #[.val (.ref ar), .val (.int sz), .val (.ref ob85), .val (.int az_150), .val (.ref ar), .val (.int (10 : Int32)), .val (.int (3 : Int32)), .val (.ref ead)] [(.ref ead), (.int az_150), (.ref ob85), (.int (0 : Int32)), (.ref ead)])) rfl rfl (hb hby D3_112)) ?_
  rw [len_of S153 M153]
  obtain ⟨T154, h154, L154, X154, e154, N154, K154, Vr154, st154⟩ := own_cpA X150 hx hZ hown (own_w hw 30 rfl) (own_w hw 33 rfl) (own_w hw 31 rfl) (own_w hw 32 rfl) rfl fc152 g150_0 (rfl : ((([] : List Value)).length : Int) = (0 : Int32).toInt) (dp := az_150) r150_1 (own_k2 he3 r150_2 hz4) N150 (own_unLE lx90) (g := (mkF m 113 #[.val (.ref ar), .val (.int sz), .val (.ref ob85), .val (.int az_150), .val (.ref ar), .val (.int (10 : Int32)), .val (.int (3 : Int32)), .val (.ref ead)] [(.int (0 : Int32)), (.int az_150), (.ref ob85), (.int (0 : Int32)), (.ref ead)])) rfl (by rw [hml]; rfl) rfl (hb hby D3_113) (by decide) (W := 0) own_z (by decide)
  refine ob_ st154 ?_
  have z154 := K154.1
  obtain ⟨pq154, e_pq154⟩ : ∃ z, z = po_150 ++ ([] : List Value) := ⟨_, rfl⟩
  rw [← e_pq154] at Vr154
  have hl_pq154 : (pq154.length : Int) = (po_150.length : Int) + ((0 : Int32) : Int32).toInt := by rw [e_pq154]; exact own_lenA (rfl : ((([] : List Value)).length : Int) = (0 : Int32).toInt)
  refine n_aloadN X154 hx hby D3_116 rfl rfl ?_
  refine n_iloadN X154 hx hby D3_117 rfl ?_
  refine n_aload X154 hx hby D3_118 rfl rfl ?_
  have RK155 : Keep h0 h154 [] := (RK151.trans K154 (allS (P := fun x => x ∈ [] ∨ h0.size ≤ x) (Or.inr (own_unLE lx98)) all0))
  have fc156 : Arv Z h154 ead ekd .byte (0 : Int32) [] (.int (0 : Int32)) := Fe3.keep RK155 nin0
  obtain ⟨cl157, Ar157, q157, S157, M157, H157, G157⟩ := (id fc156)
  refine ob_ (X154.arraylength hx (by rw [e154]; exact Ar157.1) (State.isArrayOf_alike hZ.alike Ar157.2.1) (g := (mkF m 120 #[.val (.ref ar), .val (.int sz), .val (.ref ob85), .val (.int az_150), .val (.ref ar), .val (.int (10 : Int32)), .val (.int (3 : Int32)), .val (.ref ead)] [(.ref ead), (.int az_150), (.ref ob85)])) rfl rfl (hb hby D3_120)) ?_
  rw [len_of S157 M157]
  refine n_iadd X154 hx hby D3_121 ?_
  have O158 : Old Z n0 h154 := ((O149.keep K150 (allS (own_unLE lx90) all0)).keep K154 (allS (own_unLE lx90) all0))
  refine o_ksc 3 1 90 (Jvm.LawKit.callS X154 hx (y := (⟨s2_, "writeCrLf", "([BI)I"⟩ : MethodName)) hown (mw hZ hw 20 rfl) (mw hZ hw 21 rfl) (mw hZ hw 12 rfl) (mw hZ hw 22 rfl) (by decide) (backOf (W := 0) (rm_wc l Z a0 hw [] ob85 k85 sz pq154 (az_150 + (0 : Int32)) h154 n0 O158 Vr154 (own_unLE lx90) (own_k3 r150_1 hl_pq154 own_rg0 (own_k2 he3 r150_2 hz4) hns0) (own_k4 he3 r150_2 hl_pq154 hz4) hns0) hZ (own_w hw 22 rfl) (own_w hw 12 rfl) (by decide) (by decide)) (g := (mkF m 122 #[.val (.ref ar), .val (.int sz), .val (.ref ob85), .val (.int az_150), .val (.ref ar), .val (.int (10 : Int32)), .val (.int (3 : Int32)), .val (.ref ead)] [(.int (az_150 + (0 : Int32))), (.ref ob85)])) rfl (by rw [hml]; rfl) (argsL := [(.ref ob85), (.int (az_150 + (0 : Int32)))]) (rest := []) (lenOf own_pd__28_5bBI_29I rfl) rfl own_z (hb hby D3_122) (fun _ _ => ⟨rfl, e154, (by decide : 1 + 0 ≤ _), (by decide : 90 + 0 ≤ _)⟩)) fun T159 Lc159 _ X159 hQ159 => ?_
  obtain ⟨po_159, az_159, rfl, M159, K159, g159_0, r159_0, r159_1, r159_2⟩ := hQ159
  have N159 := Fr.app N154 M159
  obtain ⟨lc159, X159, N159⟩ := own_lc X159 N159
  have z159 := K159.1
  have lt_g159_0 : T159.heap.size > ob85 := g159_0.lt
  have he4 : sz.toInt = (po_159.length : Int) + ((own_hn (0 : Int32) + ((0 : Int32) : Int32).toInt + 2) + ((own_hn (0 : Int32) + ((0 : Int32) : Int32).toInt + 2) + ((own_hn (0 : Int32) + ((0 : Int32) : Int32).toInt + 2) + ((own_hn (0 : Int32) + ((0 : Int32) : Int32).toInt + 2) + ((own_hn (0 : Int32) + ((0 : Int32) : Int32).toInt + 2) + ((own_hn (0 : Int32) + ((0 : Int32) : Int32).toInt + 2) + (0 : Int))))))) := own_k5 he3 r150_2 hl_pq154 r159_2
  clear he3
  refine n_istoreN X159 hx hby D3_125 (l' := #[.val (.ref ar), .val (.int sz), .val (.ref ob85), .val (.int az_159), .val (.ref ar), .val (.int (10 : Int32)), .val (.int (3 : Int32)), .val (.ref ead)]) rfl ?_
  refine n_iinc X159 hx hby D3_126 rfl (l' := #[.val (.ref ar), .val (.int sz), .val (.ref ob85), .val (.int az_159), .val (.ref ar), .val (.int (10 : Int32)), .val (.int (4 : Int32)), .val (.ref ead)]) rfl ?_
  refine n_goto X159 hx hby D3_129 (pc0 := 129) (pc' := 80) rfl (by decide) (by decide) ?_
  refine n_iload X159 hx hby D3_80 rfl ?_
  refine n_iload X159 hx hby D3_82 rfl ?_
  refine n_icmpNo X159 hx hby D3_84 (tlt (by decide : (4 : Int32) < (10 : Int32))).2.1 ?_
  refine n_aload X159 hx hby D3_87 rfl rfl ?_
  refine n_iload X159 hx hby D3_89 rfl ?_
  have fc160 : Arv Z T159.heap ar ka (.array .byte) (10 : Int32) [(.ref eaa), (.ref eab), (.ref eac), (.ref ead), (.ref eae), (.ref eaf), (.ref eag), (.ref eah), (.ref eai), (.ref eaj)] .null := (((fc144.keep K150 (ninS (own_unNE nx93) nin0)).keep K154 (ninS (own_unNE nx93) nin0)).keep K159 (ninS (own_unNE nx93) nin0))
  obtain ⟨cl161, Ar161, q161, S161, M161, H161, G161⟩ := (id fc160)
  have hin161 : ¬ ((4 : Int32) < 0 ∨ cl161.slots.size ≤ ((4 : Int32)).toNatClampNeg) := inb_of S161 ⟨by decide, by decide⟩
  refine ob_ (X159.aaload hx (j := (4 : Int32)) (v := (.ref eae)) Ar161.1 (State.isArrayOf_alike hZ.alike Ar161.2.1) rfl Ar161.2.2 hin161 (H161.at hin161 rfl) (g := (mkF m 91 #[.val (.ref ar), .val (.int sz), .val (.ref ob85), .val (.int az_159), .val (.ref ar), .val (.int (10 : Int32)), .val (.int (4 : Int32)), .val (.ref ead)] [(.int (4 : Int32)), (.ref ar)])) rfl rfl (hb hby D3_91)) ?_
  refine n_astore X159 hx hby D3_92 rfl (l' := #[.val (.ref ar), .val (.int sz), .val (.ref ob85), .val (.int az_159), .val (.ref ar), .val (.int (10 : Int32)), .val (.int (4 : Int32)), .val (.ref eae)]) rfl ?_
  refine n_aloadN X159 hx hby D3_94 rfl rfl ?_
  refine n_iloadN X159 hx hby D3_95 rfl ?_
  refine oBi X159 hx hby D3_96 (z := (36 : Int32)) rfl ?_
  refine n_aload X159 hx hby D3_98 rfl rfl ?_
  have RK162 : Keep h0 T159.heap [] := (RK155.trans K159 (allS (P := fun x => x ∈ [] ∨ h0.size ≤ x) (Or.inr (own_unLE lx98)) all0))
  have fc163 : Arv Z T159.heap eae eke .byte (0 : Int32) [] (.int (0 : Int32)) := Fe4.keep RK162 nin0
  obtain ⟨cl164, Ar164, q164, S164, M164, H164, G164⟩ := (id fc163)
  refine ob_ (X159.arraylength hx Ar164.1 (State.isArrayOf_alike hZ.alike Ar164.2.1) (g := (mkF m 100 #[.val (.ref ar), .val (.int sz), .val (.ref ob85), .val (.int az_159), .val (.ref ar), .val (.int (10 : Int32)), .val (.int (4 : Int32)), .val (.ref eae)] [(.ref eae), (.int (36 : Int32)), (.int az_159), (.ref ob85)])) rfl rfl (hb hby D3_100)) ?_
  rw [len_of S164 M164]
  have O165 : Old Z n0 T159.heap := (O158.keep K159 (allS (own_unLE lx90) all0))
  refine o_ksc 3 1 90 (Jvm.LawKit.callS X159 hx (y := (⟨s2_, "writeHeader", "([BICI)I"⟩ : MethodName)) hown (mw hZ hw 17 rfl) (mw hZ hw 18 rfl) (mw hZ hw 12 rfl) (mw hZ hw 19 rfl) (by decide) (backOf (W := 0) (rm_wh36 l Z a0 hw [] ob85 k85 sz po_159 az_159 (0 : Int32) T159.heap n0 O165 g159_0 (own_unLE lx90) (by decide) r159_1 (own_k1 he4 own_rg0 hz5) hns0) hZ (own_w hw 19 rfl) (own_w hw 12 rfl) (by decide) (by decide)) (g := (mkF m 101 #[.val (.ref ar), .val (.int sz), .val (.ref ob85), .val (.int az_159), .val (.ref ar), .val (.int (10 : Int32)), .val (.int (4 : Int32)), .val (.ref eae)] [(.int (0 : Int32)), (.int (36 : Int32)), (.int az_159), (.ref ob85)])) rfl (by rw [hml]; rfl) (argsL := [(.ref ob85), (.int az_159), (.int (36 : Int32)), (.int (0 : Int32))]) (rest := []) (lenOf own_pd__28_5bBICI_29I rfl) rfl own_z (hb hby D3_101) (fun _ _ => ⟨rfl, rfl, (by decide : 1 + 0 ≤ _), (by decide : 90 + 0 ≤ _)⟩)) fun T166 Lc166 _ X166 hQ166 => ?_
  obtain ⟨po_166, az_166, rfl, M166, K166, g166_0, r166_0, r166_1, r166_2⟩ := hQ166
  have N166 := Fr.app N159 M166
  obtain ⟨lc166, X166, N166⟩ := own_lc X166 N166
  have z166 := K166.1
  have lt_g166_0 : T166.heap.size > ob85 := g166_0.lt
  refine n_istoreN X166 hx hby D3_104 (l' := #[.val (.ref ar), .val (.int sz), .val (.ref ob85), .val (.int az_166), .val (.ref ar), .val (.int (10 : Int32)), .val (.int (4 : Int32)), .val (.ref eae)]) rfl ?_
  refine n_aload X166 hx hby D3_105 rfl rfl ?_
  refine oIc X166 hx hby D3_107 (z := (0 : Int32)) rfl ?_
  refine n_aloadN X166 hx hby D3_108 rfl rfl ?_
  refine n_iloadN X166 hx hby D3_109 rfl ?_
  refine n_aload X166 hx hby D3_110 rfl rfl ?_
  have RK167 : Keep h0 T166.heap [] := (RK162.trans K166 (allS (P := fun x => x ∈ [] ∨ h0.size ≤ x) (Or.inr (own_unLE lx98)) all0))
  have fc168 : Arv Z T166.heap eae eke .byte (0 : Int32) [] (.int (0 : Int32)) := Fe4.keep RK167 nin0
  obtain ⟨cl169, Ar169, q169, S169, M169, H169, G169⟩ := (id fc168)
  refine ob_ (X166.arraylength hx Ar169.1 (State.isArrayOf_alike hZ.alike Ar169.2.1) (g := (mkF m 112 #[.val (.ref ar), .val (.int sz), .val (.ref ob85), .val (.int az_166), .val (.ref ar), .val (.int (10 : Int32)), .val (.int (4 : Int32)), .val (.ref eae)] [(.ref eae), (.int az_166), (.ref ob85), (.int (0 : Int32)), (.ref eae)])) rfl rfl (hb hby D3_112)) ?_
  rw [len_of S169 M169]
  obtain ⟨T170, h170, L170, X170, e170, N170, K170, Vr170, st170⟩ := own_cpA X166 hx hZ hown (own_w hw 30 rfl) (own_w hw 33 rfl) (own_w hw 31 rfl) (own_w hw 32 rfl) rfl fc168 g166_0 (rfl : ((([] : List Value)).length : Int) = (0 : Int32).toInt) (dp := az_166) r166_1 (own_k2 he4 r166_2 hz5) N166 (own_unLE lx90) (g := (mkF m 113 #[.val (.ref ar), .val (.int sz), .val (.ref ob85), .val (.int az_166), .val (.ref ar), .val (.int (10 : Int32)), .val (.int (4 : Int32)), .val (.ref eae)] [(.int (0 : Int32)), (.int az_166), (.ref ob85), (.int (0 : Int32)), (.ref eae)])) rfl (by rw [hml]; rfl) rfl (hb hby D3_113) (by decide) (W := 0) own_z (by decide)
  refine ob_ st170 ?_
  have z170 := K170.1
  obtain ⟨pq170, e_pq170⟩ : ∃ z, z = po_166 ++ ([] : List Value) := ⟨_, rfl⟩
  rw [← e_pq170] at Vr170
  have hl_pq170 : (pq170.length : Int) = (po_166.length : Int) + ((0 : Int32) : Int32).toInt := by rw [e_pq170]; exact own_lenA (rfl : ((([] : List Value)).length : Int) = (0 : Int32).toInt)
  refine n_aloadN X170 hx hby D3_116 rfl rfl ?_
  refine n_iloadN X170 hx hby D3_117 rfl ?_
  refine n_aload X170 hx hby D3_118 rfl rfl ?_
  have RK171 : Keep h0 h170 [] := (RK167.trans K170 (allS (P := fun x => x ∈ [] ∨ h0.size ≤ x) (Or.inr (own_unLE lx98)) all0))
  have fc172 : Arv Z h170 eae eke .byte (0 : Int32) [] (.int (0 : Int32)) := Fe4.keep RK171 nin0
  obtain ⟨cl173, Ar173, q173, S173, M173, H173, G173⟩ := (id fc172)
  refine ob_ (X170.arraylength hx (by rw [e170]; exact Ar173.1) (State.isArrayOf_alike hZ.alike Ar173.2.1) (g := (mkF m 120 #[.val (.ref ar), .val (.int sz), .val (.ref ob85), .val (.int az_166), .val (.ref ar), .val (.int (10 : Int32)), .val (.int (4 : Int32)), .val (.ref eae)] [(.ref eae), (.int az_166), (.ref ob85)])) rfl rfl (hb hby D3_120)) ?_
  rw [len_of S173 M173]
  refine n_iadd X170 hx hby D3_121 ?_
  have O174 : Old Z n0 h170 := ((O165.keep K166 (allS (own_unLE lx90) all0)).keep K170 (allS (own_unLE lx90) all0))
  refine o_ksc 3 1 90 (Jvm.LawKit.callS X170 hx (y := (⟨s2_, "writeCrLf", "([BI)I"⟩ : MethodName)) hown (mw hZ hw 20 rfl) (mw hZ hw 21 rfl) (mw hZ hw 12 rfl) (mw hZ hw 22 rfl) (by decide) (backOf (W := 0) (rm_wc l Z a0 hw [] ob85 k85 sz pq170 (az_166 + (0 : Int32)) h170 n0 O174 Vr170 (own_unLE lx90) (own_k3 r166_1 hl_pq170 own_rg0 (own_k2 he4 r166_2 hz5) hns0) (own_k4 he4 r166_2 hl_pq170 hz5) hns0) hZ (own_w hw 22 rfl) (own_w hw 12 rfl) (by decide) (by decide)) (g := (mkF m 122 #[.val (.ref ar), .val (.int sz), .val (.ref ob85), .val (.int az_166), .val (.ref ar), .val (.int (10 : Int32)), .val (.int (4 : Int32)), .val (.ref eae)] [(.int (az_166 + (0 : Int32))), (.ref ob85)])) rfl (by rw [hml]; rfl) (argsL := [(.ref ob85), (.int (az_166 + (0 : Int32)))]) (rest := []) (lenOf own_pd__28_5bBI_29I rfl) rfl own_z (hb hby D3_122) (fun _ _ => ⟨rfl, e170, (by decide : 1 + 0 ≤ _), (by decide : 90 + 0 ≤ _)⟩)) fun T175 Lc175 _ X175 hQ175 => ?_
  obtain ⟨po_175, az_175, rfl, M175, K175, g175_0, r175_0, r175_1, r175_2⟩ := hQ175
  have N175 := Fr.app N170 M175
  obtain ⟨lc175, X175, N175⟩ := own_lc X175 N175
  have z175 := K175.1
  have lt_g175_0 : T175.heap.size > ob85 := g175_0.lt
  have he5 : sz.toInt = (po_175.length : Int) + ((own_hn (0 : Int32) + ((0 : Int32) : Int32).toInt + 2) + ((own_hn (0 : Int32) + ((0 : Int32) : Int32).toInt + 2) + ((own_hn (0 : Int32) + ((0 : Int32) : Int32).toInt + 2) + ((own_hn (0 : Int32) + ((0 : Int32) : Int32).toInt + 2) + ((own_hn (0 : Int32) + ((0 : Int32) : Int32).toInt + 2) + (0 : Int)))))) := own_k5 he4 r166_2 hl_pq170 r175_2
  clear he4
  refine n_istoreN X175 hx hby D3_125 (l' := #[.val (.ref ar), .val (.int sz), .val (.ref ob85), .val (.int az_175), .val (.ref ar), .val (.int (10 : Int32)), .val (.int (4 : Int32)), .val (.ref eae)]) rfl ?_
  refine n_iinc X175 hx hby D3_126 rfl (l' := #[.val (.ref ar), .val (.int sz), .val (.ref ob85), .val (.int az_175), .val (.ref ar), .val (.int (10 : Int32)), .val (.int (5 : Int32)), .val (.ref eae)]) rfl ?_
  refine n_goto X175 hx hby D3_129 (pc0 := 129) (pc' := 80) rfl (by decide) (by decide) ?_
  refine n_iload X175 hx hby D3_80 rfl ?_
  refine n_iload X175 hx hby D3_82 rfl ?_
  refine n_icmpNo X175 hx hby D3_84 (tlt (by decide : (5 : Int32) < (10 : Int32))).2.1 ?_
  refine n_aload X175 hx hby D3_87 rfl rfl ?_
  refine n_iload X175 hx hby D3_89 rfl ?_
  have fc176 : Arv Z T175.heap ar ka (.array .byte) (10 : Int32) [(.ref eaa), (.ref eab), (.ref eac), (.ref ead), (.ref eae), (.ref eaf), (.ref eag), (.ref eah), (.ref eai), (.ref eaj)] .null := (((fc160.keep K166 (ninS (own_unNE nx93) nin0)).keep K170 (ninS (own_unNE nx93) nin0)).keep K175 (ninS (own_unNE nx93) nin0))
  obtain ⟨cl177, Ar177, q177, S177, M177, H177, G177⟩ := (id fc176)
  have hin177 : ¬ ((5 : Int32) < 0 ∨ cl177.slots.size ≤ ((5 : Int32)).toNatClampNeg) := inb_of S177 ⟨by decide, by decide⟩
  refine ob_ (X175.aaload hx (j := (5 : Int32)) (v := (.ref eaf)) Ar177.1 (State.isArrayOf_alike hZ.alike Ar177.2.1) rfl Ar177.2.2 hin177 (H177.at hin177 rfl) (g := (mkF m 91 #[.val (.ref ar), .val (.int sz), .val (.ref ob85), .val (.int az_175), .val (.ref ar), .val (.int (10 : Int32)), .val (.int (5 : Int32)), .val (.ref eae)] [(.int (5 : Int32)), (.ref ar)])) rfl rfl (hb hby D3_91)) ?_
  refine n_astore X175 hx hby D3_92 rfl (l' := #[.val (.ref ar), .val (.int sz), .val (.ref ob85), .val (.int az_175), .val (.ref ar), .val (.int (10 : Int32)), .val (.int (5 : Int32)), .val (.ref eaf)]) rfl ?_
  refine n_aloadN X175 hx hby D3_94 rfl rfl ?_
  refine n_iloadN X175 hx hby D3_95 rfl ?_
  refine oBi X175 hx hby D3_96 (z := (36 : Int32)) rfl ?_
  refine n_aload X175 hx hby D3_98 rfl rfl ?_
  have RK178 : Keep h0 T175.heap [] := (RK171.trans K175 (allS (P := fun x => x ∈ [] ∨ h0.size ≤ x) (Or.inr (own_unLE lx98)) all0))
  have fc179 : Arv Z T175.heap eaf ekf .byte (0 : Int32) [] (.int (0 : Int32)) := Fe5.keep RK178 nin0
  obtain ⟨cl180, Ar180, q180, S180, M180, H180, G180⟩ := (id fc179)
  refine ob_ (X175.arraylength hx Ar180.1 (State.isArrayOf_alike hZ.alike Ar180.2.1) (g := (mkF m 100 #[.val (.ref ar), .val (.int sz), .val (.ref ob85), .val (.int az_175), .val (.ref ar), .val (.int (10 : Int32)), .val (.int (5 : Int32)), .val (.ref eaf)] [(.ref eaf), (.int (36 : Int32)), (.int az_175), (.ref ob85)])) rfl rfl (hb hby D3_100)) ?_
  rw [len_of S180 M180]
  have O181 : Old Z n0 T175.heap := (O174.keep K175 (allS (own_unLE lx90) all0))
  refine o_ksc 3 1 90 (Jvm.LawKit.callS X175 hx (y := (⟨s2_, "writeHeader", "([BICI)I"⟩ : MethodName)) hown (mw hZ hw 17 rfl) (mw hZ hw 18 rfl) (mw hZ hw 12 rfl) (mw hZ hw 19 rfl) (by decide) (backOf (W := 0) (rm_wh36 l Z a0 hw [] ob85 k85 sz po_175 az_175 (0 : Int32) T175.heap n0 O181 g175_0 (own_unLE lx90) (by decide) r175_1 (own_k1 he5 own_rg0 hz6) hns0) hZ (own_w hw 19 rfl) (own_w hw 12 rfl) (by decide) (by decide)) (g := (mkF m 101 #[.val (.ref ar), .val (.int sz), .val (.ref ob85), .val (.int az_175), .val (.ref ar), .val (.int (10 : Int32)), .val (.int (5 : Int32)), .val (.ref eaf)] [(.int (0 : Int32)), (.int (36 : Int32)), (.int az_175), (.ref ob85)])) rfl (by rw [hml]; rfl) (argsL := [(.ref ob85), (.int az_175), (.int (36 : Int32)), (.int (0 : Int32))]) (rest := []) (lenOf own_pd__28_5bBICI_29I rfl) rfl own_z (hb hby D3_101) (fun _ _ => ⟨rfl, rfl, (by decide : 1 + 0 ≤ _), (by decide : 90 + 0 ≤ _)⟩)) fun T182 Lc182 _ X182 hQ182 => ?_
  obtain ⟨po_182, az_182, rfl, M182, K182, g182_0, r182_0, r182_1, r182_2⟩ := hQ182
  have N182 := Fr.app N175 M182
  obtain ⟨lc182, X182, N182⟩ := own_lc X182 N182
  have z182 := K182.1
  have lt_g182_0 : T182.heap.size > ob85 := g182_0.lt
  refine n_istoreN X182 hx hby D3_104 (l' := #[.val (.ref ar), .val (.int sz), .val (.ref ob85), .val (.int az_182), .val (.ref ar), .val (.int (10 : Int32)), .val (.int (5 : Int32)), .val (.ref eaf)]) rfl ?_
  refine n_aload X182 hx hby D3_105 rfl rfl ?_
  refine oIc X182 hx hby D3_107 (z := (0 : Int32)) rfl ?_
  refine n_aloadN X182 hx hby D3_108 rfl rfl ?_
  refine n_iloadN X182 hx hby D3_109 rfl ?_
  refine n_aload X182 hx hby D3_110 rfl rfl ?_
  have RK183 : Keep h0 T182.heap [] := (RK178.trans K182 (allS (P := fun x => x ∈ [] ∨ h0.size ≤ x) (Or.inr (own_unLE lx98)) all0))
  have fc184 : Arv Z T182.heap eaf ekf .byte (0 : Int32) [] (.int (0 : Int32)) := Fe5.keep RK183 nin0
  obtain ⟨cl185, Ar185, q185, S185, M185, H185, G185⟩ := (id fc184)
  refine ob_ (X182.arraylength hx Ar185.1 (State.isArrayOf_alike hZ.alike Ar185.2.1) (g := (mkF m 112 #[.val (.ref ar), .val (.int sz), .val (.ref ob85), .val (.int az_182), .val (.ref ar), .val (.int (10 : Int32)), .val (.int (5 : Int32)), .val (.ref eaf)] [(.ref eaf), (.int az_182), (.ref ob85), (.int (0 : Int32)), (.ref eaf)])) rfl rfl (hb hby D3_112)) ?_
  rw [len_of S185 M185]
  obtain ⟨T186, h186, L186, X186, e186, N186, K186, Vr186, st186⟩ := own_cpA X182 hx hZ hown (own_w hw 30 rfl) (own_w hw 33 rfl) (own_w hw 31 rfl) (own_w hw 32 rfl) rfl fc184 g182_0 (rfl : ((([] : List Value)).length : Int) = (0 : Int32).toInt) (dp := az_182) r182_1 (own_k2 he5 r182_2 hz6) N182 (own_unLE lx90) (g := (mkF m 113 #[.val (.ref ar), .val (.int sz), .val (.ref ob85), .val (.int az_182), .val (.ref ar), .val (.int (10 : Int32)), .val (.int (5 : Int32)), .val (.ref eaf)] [(.int (0 : Int32)), (.int az_182), (.ref ob85), (.int (0 : Int32)), (.ref eaf)])) rfl (by rw [hml]; rfl) rfl (hb hby D3_113) (by decide) (W := 0) own_z (by decide)
  refine ob_ st186 ?_
  have z186 := K186.1
  obtain ⟨pq186, e_pq186⟩ : ∃ z, z = po_182 ++ ([] : List Value) := ⟨_, rfl⟩
  rw [← e_pq186] at Vr186
  have hl_pq186 : (pq186.length : Int) = (po_182.length : Int) + ((0 : Int32) : Int32).toInt := by rw [e_pq186]; exact own_lenA (rfl : ((([] : List Value)).length : Int) = (0 : Int32).toInt)
  refine n_aloadN X186 hx hby D3_116 rfl rfl ?_
  refine n_iloadN X186 hx hby D3_117 rfl ?_
  refine n_aload X186 hx hby D3_118 rfl rfl ?_
  have RK187 : Keep h0 h186 [] := (RK183.trans K186 (allS (P := fun x => x ∈ [] ∨ h0.size ≤ x) (Or.inr (own_unLE lx98)) all0))
  have fc188 : Arv Z h186 eaf ekf .byte (0 : Int32) [] (.int (0 : Int32)) := Fe5.keep RK187 nin0
  obtain ⟨cl189, Ar189, q189, S189, M189, H189, G189⟩ := (id fc188)
  refine ob_ (X186.arraylength hx (by rw [e186]; exact Ar189.1) (State.isArrayOf_alike hZ.alike Ar189.2.1) (g := (mkF m 120 #[.val (.ref ar), .val (.int sz), .val (.ref ob85), .val (.int az_182), .val (.ref ar), .val (.int (10 : Int32)), .val (.int (5 : Int32)), .val (.ref eaf)] [(.ref eaf), (.int az_182), (.ref ob85)])) rfl rfl (hb hby D3_120)) ?_
  rw [len_of S189 M189]
  refine n_iadd X186 hx hby D3_121 ?_
  have O190 : Old Z n0 h186 := ((O181.keep K182 (allS (own_unLE lx90) all0)).keep K186 (allS (own_unLE lx90) all0))
  refine o_ksc 3 1 90 (Jvm.LawKit.callS X186 hx (y := (⟨s2_, "writeCrLf", "([BI)I"⟩ : MethodName)) hown (mw hZ hw 20 rfl) (mw hZ hw 21 rfl) (mw hZ hw 12 rfl) (mw hZ hw 22 rfl) (by decide) (backOf (W := 0) (rm_wc l Z a0 hw [] ob85 k85 sz pq186 (az_182 + (0 : Int32)) h186 n0 O190 Vr186 (own_unLE lx90) (own_k3 r182_1 hl_pq186 own_rg0 (own_k2 he5 r182_2 hz6) hns0) (own_k4 he5 r182_2 hl_pq186 hz6) hns0) hZ (own_w hw 22 rfl) (own_w hw 12 rfl) (by decide) (by decide)) (g := (mkF m 122 #[.val (.ref ar), .val (.int sz), .val (.ref ob85), .val (.int az_182), .val (.ref ar), .val (.int (10 : Int32)), .val (.int (5 : Int32)), .val (.ref eaf)] [(.int (az_182 + (0 : Int32))), (.ref ob85)])) rfl (by rw [hml]; rfl) (argsL := [(.ref ob85), (.int (az_182 + (0 : Int32)))]) (rest := []) (lenOf own_pd__28_5bBI_29I rfl) rfl own_z (hb hby D3_122) (fun _ _ => ⟨rfl, e186, (by decide : 1 + 0 ≤ _), (by decide : 90 + 0 ≤ _)⟩)) fun T191 Lc191 _ X191 hQ191 => ?_
  obtain ⟨po_191, az_191, rfl, M191, K191, g191_0, r191_0, r191_1, r191_2⟩ := hQ191
  have N191 := Fr.app N186 M191
  obtain ⟨lc191, X191, N191⟩ := own_lc X191 N191
  have z191 := K191.1
  have lt_g191_0 : T191.heap.size > ob85 := g191_0.lt
  have he6 : sz.toInt = (po_191.length : Int) + ((own_hn (0 : Int32) + ((0 : Int32) : Int32).toInt + 2) + ((own_hn (0 : Int32) + ((0 : Int32) : Int32).toInt + 2) + ((own_hn (0 : Int32) + ((0 : Int32) : Int32).toInt + 2) + ((own_hn (0 : Int32) + ((0 : Int32) : Int32).toInt + 2) + (0 : Int))))) := own_k5 he5 r182_2 hl_pq186 r191_2
  clear he5
  refine n_istoreN X191 hx hby D3_125 (l' := #[.val (.ref ar), .val (.int sz), .val (.ref ob85), .val (.int az_191), .val (.ref ar), .val (.int (10 : Int32)), .val (.int (5 : Int32)), .val (.ref eaf)]) rfl ?_
  refine n_iinc X191 hx hby D3_126 rfl (l' := #[.val (.ref ar), .val (.int sz), .val (.ref ob85), .val (.int az_191), .val (.ref ar), .val (.int (10 : Int32)), .val (.int (6 : Int32)), .val (.ref eaf)]) rfl ?_
  refine n_goto X191 hx hby D3_129 (pc0 := 129) (pc' := 80) rfl (by decide) (by decide) ?_
  refine n_iload X191 hx hby D3_80 rfl ?_
  refine n_iload X191 hx hby D3_82 rfl ?_
  refine n_icmpNo X191 hx hby D3_84 (tlt (by decide : (6 : Int32) < (10 : Int32))).2.1 ?_
  refine n_aload X191 hx hby D3_87 rfl rfl ?_
  refine n_iload X191 hx hby D3_89 rfl ?_
  have fc192 : Arv Z T191.heap ar ka (.array .byte) (10 : Int32) [(.ref eaa), (.ref eab), (.ref eac), (.ref ead), (.ref eae), (.ref eaf), (.ref eag), (.ref eah), (.ref eai), (.ref eaj)] .null := (((fc176.keep K182 (ninS (own_unNE nx93) nin0)).keep K186 (ninS (own_unNE nx93) nin0)).keep K191 (ninS (own_unNE nx93) nin0))
  obtain ⟨cl193, Ar193, q193, S193, M193, H193, G193⟩ := (id fc192)
  have hin193 : ¬ ((6 : Int32) < 0 ∨ cl193.slots.size ≤ ((6 : Int32)).toNatClampNeg) := inb_of S193 ⟨by decide, by decide⟩
  refine ob_ (X191.aaload hx (j := (6 : Int32)) (v := (.ref eag)) Ar193.1 (State.isArrayOf_alike hZ.alike Ar193.2.1) rfl Ar193.2.2 hin193 (H193.at hin193 rfl) (g := (mkF m 91 #[.val (.ref ar), .val (.int sz), .val (.ref ob85), .val (.int az_191), .val (.ref ar), .val (.int (10 : Int32)), .val (.int (6 : Int32)), .val (.ref eaf)] [(.int (6 : Int32)), (.ref ar)])) rfl rfl (hb hby D3_91)) ?_
  refine n_astore X191 hx hby D3_92 rfl (l' := #[.val (.ref ar), .val (.int sz), .val (.ref ob85), .val (.int az_191), .val (.ref ar), .val (.int (10 : Int32)), .val (.int (6 : Int32)), .val (.ref eag)]) rfl ?_
  refine n_aloadN X191 hx hby D3_94 rfl rfl ?_
  refine n_iloadN X191 hx hby D3_95 rfl ?_
  refine oBi X191 hx hby D3_96 (z := (36 : Int32)) rfl ?_
  refine n_aload X191 hx hby D3_98 rfl rfl ?_
  have RK194 : Keep h0 T191.heap [] := (RK187.trans K191 (allS (P := fun x => x ∈ [] ∨ h0.size ≤ x) (Or.inr (own_unLE lx98)) all0))
  have fc195 : Arv Z T191.heap eag ekg .byte (0 : Int32) [] (.int (0 : Int32)) := Fe6.keep RK194 nin0
  obtain ⟨cl196, Ar196, q196, S196, M196, H196, G196⟩ := (id fc195)
  refine ob_ (X191.arraylength hx Ar196.1 (State.isArrayOf_alike hZ.alike Ar196.2.1) (g := (mkF m 100 #[.val (.ref ar), .val (.int sz), .val (.ref ob85), .val (.int az_191), .val (.ref ar), .val (.int (10 : Int32)), .val (.int (6 : Int32)), .val (.ref eag)] [(.ref eag), (.int (36 : Int32)), (.int az_191), (.ref ob85)])) rfl rfl (hb hby D3_100)) ?_
  rw [len_of S196 M196]
  have O197 : Old Z n0 T191.heap := (O190.keep K191 (allS (own_unLE lx90) all0))
  refine o_ksc 3 1 90 (Jvm.LawKit.callS X191 hx (y := (⟨s2_, "writeHeader", "([BICI)I"⟩ : MethodName)) hown (mw hZ hw 17 rfl) (mw hZ hw 18 rfl) (mw hZ hw 12 rfl) (mw hZ hw 19 rfl) (by decide) (backOf (W := 0) (rm_wh36 l Z a0 hw [] ob85 k85 sz po_191 az_191 (0 : Int32) T191.heap n0 O197 g191_0 (own_unLE lx90) (by decide) r191_1 (own_k1 he6 own_rg0 hz7) hns0) hZ (own_w hw 19 rfl) (own_w hw 12 rfl) (by decide) (by decide)) (g := (mkF m 101 #[.val (.ref ar), .val (.int sz), .val (.ref ob85), .val (.int az_191), .val (.ref ar), .val (.int (10 : Int32)), .val (.int (6 : Int32)), .val (.ref eag)] [(.int (0 : Int32)), (.int (36 : Int32)), (.int az_191), (.ref ob85)])) rfl (by rw [hml]; rfl) (argsL := [(.ref ob85), (.int az_191), (.int (36 : Int32)), (.int (0 : Int32))]) (rest := []) (lenOf own_pd__28_5bBICI_29I rfl) rfl own_z (hb hby D3_101) (fun _ _ => ⟨rfl, rfl, (by decide : 1 + 0 ≤ _), (by decide : 90 + 0 ≤ _)⟩)) fun T198 Lc198 _ X198 hQ198 => ?_
  obtain ⟨po_198, az_198, rfl, M198, K198, g198_0, r198_0, r198_1, r198_2⟩ := hQ198
  have N198 := Fr.app N191 M198
  obtain ⟨lc198, X198, N198⟩ := own_lc X198 N198
  have z198 := K198.1
  have lt_g198_0 : T198.heap.size > ob85 := g198_0.lt
  refine n_istoreN X198 hx hby D3_104 (l' := #[.val (.ref ar), .val (.int sz), .val (.ref ob85), .val (.int az_198), .val (.ref ar), .val (.int (10 : Int32)), .val (.int (6 : Int32)), .val (.ref eag)]) rfl ?_
  refine n_aload X198 hx hby D3_105 rfl rfl ?_
  refine oIc X198 hx hby D3_107 (z := (0 : Int32)) rfl ?_
  refine n_aloadN X198 hx hby D3_108 rfl rfl ?_
  refine n_iloadN X198 hx hby D3_109 rfl ?_
  refine n_aload X198 hx hby D3_110 rfl rfl ?_
  have RK199 : Keep h0 T198.heap [] := (RK194.trans K198 (allS (P := fun x => x ∈ [] ∨ h0.size ≤ x) (Or.inr (own_unLE lx98)) all0))
  have fc200 : Arv Z T198.heap eag ekg .byte (0 : Int32) [] (.int (0 : Int32)) := Fe6.keep RK199 nin0
  obtain ⟨cl201, Ar201, q201, S201, M201, H201, G201⟩ := (id fc200)
  refine ob_ (X198.arraylength hx Ar201.1 (State.isArrayOf_alike hZ.alike Ar201.2.1) (g := (mkF m 112 #[.val (.ref ar), .val (.int sz), .val (.ref ob85), .val (.int az_198), .val (.ref ar), .val (.int (10 : Int32)), .val (.int (6 : Int32)), .val (.ref eag)] [(.ref eag), (.int az_198), (.ref ob85), (.int (0 : Int32)), (.ref eag)])) rfl rfl (hb hby D3_112)) ?_
  rw [len_of S201 M201]
  obtain ⟨T202, h202, L202, X202, e202, N202, K202, Vr202, st202⟩ := own_cpA X198 hx hZ hown (own_w hw 30 rfl) (own_w hw 33 rfl) (own_w hw 31 rfl) (own_w hw 32 rfl) rfl fc200 g198_0 (rfl : ((([] : List Value)).length : Int) = (0 : Int32).toInt) (dp := az_198) r198_1 (own_k2 he6 r198_2 hz7) N198 (own_unLE lx90) (g := (mkF m 113 #[.val (.ref ar), .val (.int sz), .val (.ref ob85), .val (.int az_198), .val (.ref ar), .val (.int (10 : Int32)), .val (.int (6 : Int32)), .val (.ref eag)] [(.int (0 : Int32)), (.int az_198), (.ref ob85), (.int (0 : Int32)), (.ref eag)])) rfl (by rw [hml]; rfl) rfl (hb hby D3_113) (by decide) (W := 0) own_z (by decide)
  refine ob_ st202 ?_
  have z202 := K202.1
  obtain ⟨pq202, e_pq202⟩ : ∃ z, z = po_198 ++ ([] : List Value) := ⟨_, rfl⟩
  rw [← e_pq202] at Vr202
  have hl_pq202 : (pq202.length : Int) = (po_198.length : Int) + ((0 : Int32) : Int32).toInt := by rw [e_pq202]; exact own_lenA (rfl : ((([] : List Value)).length : Int) = (0 : Int32).toInt)
  refine n_aloadN X202 hx hby D3_116 rfl rfl ?_
  refine n_iloadN X202 hx hby D3_117 rfl ?_
  refine n_aload X202 hx hby D3_118 rfl rfl ?_
  have RK203 : Keep h0 h202 [] := (RK199.trans K202 (allS (P := fun x => x ∈ [] ∨ h0.size ≤ x) (Or.inr (own_unLE lx98)) all0))
  have fc204 : Arv Z h202 eag ekg .byte (0 : Int32) [] (.int (0 : Int32)) := Fe6.keep RK203 nin0
  obtain ⟨cl205, Ar205, q205, S205, M205, H205, G205⟩ := (id fc204)
  refine ob_ (X202.arraylength hx (by rw [e202]; exact Ar205.1) (State.isArrayOf_alike hZ.alike Ar205.2.1) (g := (mkF m 120 #[.val (.ref ar), .val (.int sz), .val (.ref ob85), .val (.int az_198), .val (.ref ar), .val (.int (10 : Int32)), .val (.int (6 : Int32)), .val (.ref eag)] [(.ref eag), (.int az_198), (.ref ob85)])) rfl rfl (hb hby D3_120)) ?_
  rw [len_of S205 M205]
  refine n_iadd X202 hx hby D3_121 ?_
  have O206 : Old Z n0 h202 := ((O197.keep K198 (allS (own_unLE lx90) all0)).keep K202 (allS (own_unLE lx90) all0))
  refine o_ksc 3 1 90 (Jvm.LawKit.callS X202 hx (y := (⟨s2_, "writeCrLf", "([BI)I"⟩ : MethodName)) hown (mw hZ hw 20 rfl) (mw hZ hw 21 rfl) (mw hZ hw 12 rfl) (mw hZ hw 22 rfl) (by decide) (backOf (W := 0) (rm_wc l Z a0 hw [] ob85 k85 sz pq202 (az_198 + (0 : Int32)) h202 n0 O206 Vr202 (own_unLE lx90) (own_k3 r198_1 hl_pq202 own_rg0 (own_k2 he6 r198_2 hz7) hns0) (own_k4 he6 r198_2 hl_pq202 hz7) hns0) hZ (own_w hw 22 rfl) (own_w hw 12 rfl) (by decide) (by decide)) (g := (mkF m 122 #[.val (.ref ar), .val (.int sz), .val (.ref ob85), .val (.int az_198), .val (.ref ar), .val (.int (10 : Int32)), .val (.int (6 : Int32)), .val (.ref eag)] [(.int (az_198 + (0 : Int32))), (.ref ob85)])) rfl (by rw [hml]; rfl) (argsL := [(.ref ob85), (.int (az_198 + (0 : Int32)))]) (rest := []) (lenOf own_pd__28_5bBI_29I rfl) rfl own_z (hb hby D3_122) (fun _ _ => ⟨rfl, e202, (by decide : 1 + 0 ≤ _), (by decide : 90 + 0 ≤ _)⟩)) fun T207 Lc207 _ X207 hQ207 => ?_
  obtain ⟨po_207, az_207, rfl, M207, K207, g207_0, r207_0, r207_1, r207_2⟩ := hQ207
  have N207 := Fr.app N202 M207
  obtain ⟨lc207, X207, N207⟩ := own_lc X207 N207
  have z207 := K207.1
  have lt_g207_0 : T207.heap.size > ob85 := g207_0.lt
  have he7 : sz.toInt = (po_207.length : Int) + ((own_hn (0 : Int32) + ((0 : Int32) : Int32).toInt + 2) + ((own_hn (0 : Int32) + ((0 : Int32) : Int32).toInt + 2) + ((own_hn (0 : Int32) + ((0 : Int32) : Int32).toInt + 2) + (0 : Int)))) := own_k5 he6 r198_2 hl_pq202 r207_2
  clear he6
  refine n_istoreN X207 hx hby D3_125 (l' := #[.val (.ref ar), .val (.int sz), .val (.ref ob85), .val (.int az_207), .val (.ref ar), .val (.int (10 : Int32)), .val (.int (6 : Int32)), .val (.ref eag)]) rfl ?_
  refine n_iinc X207 hx hby D3_126 rfl (l' := #[.val (.ref ar), .val (.int sz), .val (.ref ob85), .val (.int az_207), .val (.ref ar), .val (.int (10 : Int32)), .val (.int (7 : Int32)), .val (.ref eag)]) rfl ?_
  refine n_goto X207 hx hby D3_129 (pc0 := 129) (pc' := 80) rfl (by decide) (by decide) ?_
  refine n_iload X207 hx hby D3_80 rfl ?_
  refine n_iload X207 hx hby D3_82 rfl ?_
  refine n_icmpNo X207 hx hby D3_84 (tlt (by decide : (7 : Int32) < (10 : Int32))).2.1 ?_
  refine n_aload X207 hx hby D3_87 rfl rfl ?_
  refine n_iload X207 hx hby D3_89 rfl ?_
  have fc208 : Arv Z T207.heap ar ka (.array .byte) (10 : Int32) [(.ref eaa), (.ref eab), (.ref eac), (.ref ead), (.ref eae), (.ref eaf), (.ref eag), (.ref eah), (.ref eai), (.ref eaj)] .null := (((fc192.keep K198 (ninS (own_unNE nx93) nin0)).keep K202 (ninS (own_unNE nx93) nin0)).keep K207 (ninS (own_unNE nx93) nin0))
  obtain ⟨cl209, Ar209, q209, S209, M209, H209, G209⟩ := (id fc208)
  have hin209 : ¬ ((7 : Int32) < 0 ∨ cl209.slots.size ≤ ((7 : Int32)).toNatClampNeg) := inb_of S209 ⟨by decide, by decide⟩
  refine ob_ (X207.aaload hx (j := (7 : Int32)) (v := (.ref eah)) Ar209.1 (State.isArrayOf_alike hZ.alike Ar209.2.1) rfl Ar209.2.2 hin209 (H209.at hin209 rfl) (g := (mkF m 91 #[.val (.ref ar), .val (.int sz), .val (.ref ob85), .val (.int az_207), .val (.ref ar), .val (.int (10 : Int32)), .val (.int (7 : Int32)), .val (.ref eag)] [(.int (7 : Int32)), (.ref ar)])) rfl rfl (hb hby D3_91)) ?_
  refine n_astore X207 hx hby D3_92 rfl (l' := #[.val (.ref ar), .val (.int sz), .val (.ref ob85), .val (.int az_207), .val (.ref ar), .val (.int (10 : Int32)), .val (.int (7 : Int32)), .val (.ref eah)]) rfl ?_
  refine n_aloadN X207 hx hby D3_94 rfl rfl ?_
  refine n_iloadN X207 hx hby D3_95 rfl ?_
  refine oBi X207 hx hby D3_96 (z := (36 : Int32)) rfl ?_
  refine n_aload X207 hx hby D3_98 rfl rfl ?_
  have RK210 : Keep h0 T207.heap [] := (RK203.trans K207 (allS (P := fun x => x ∈ [] ∨ h0.size ≤ x) (Or.inr (own_unLE lx98)) all0))
  have fc211 : Arv Z T207.heap eah ekh .byte (0 : Int32) [] (.int (0 : Int32)) := Fe7.keep RK210 nin0
  obtain ⟨cl212, Ar212, q212, S212, M212, H212, G212⟩ := (id fc211)
  refine ob_ (X207.arraylength hx Ar212.1 (State.isArrayOf_alike hZ.alike Ar212.2.1) (g := (mkF m 100 #[.val (.ref ar), .val (.int sz), .val (.ref ob85), .val (.int az_207), .val (.ref ar), .val (.int (10 : Int32)), .val (.int (7 : Int32)), .val (.ref eah)] [(.ref eah), (.int (36 : Int32)), (.int az_207), (.ref ob85)])) rfl rfl (hb hby D3_100)) ?_
  rw [len_of S212 M212]
  have O213 : Old Z n0 T207.heap := (O206.keep K207 (allS (own_unLE lx90) all0))
  refine o_ksc 3 1 90 (Jvm.LawKit.callS X207 hx (y := (⟨s2_, "writeHeader", "([BICI)I"⟩ : MethodName)) hown (mw hZ hw 17 rfl) (mw hZ hw 18 rfl) (mw hZ hw 12 rfl) (mw hZ hw 19 rfl) (by decide) (backOf (W := 0) (rm_wh36 l Z a0 hw [] ob85 k85 sz po_207 az_207 (0 : Int32) T207.heap n0 O213 g207_0 (own_unLE lx90) (by decide) r207_1 (own_k1 he7 own_rg0 hz8) hns0) hZ (own_w hw 19 rfl) (own_w hw 12 rfl) (by decide) (by decide)) (g := (mkF m 101 #[.val (.ref ar), .val (.int sz), .val (.ref ob85), .val (.int az_207), .val (.ref ar), .val (.int (10 : Int32)), .val (.int (7 : Int32)), .val (.ref eah)] [(.int (0 : Int32)), (.int (36 : Int32)), (.int az_207), (.ref ob85)])) rfl (by rw [hml]; rfl) (argsL := [(.ref ob85), (.int az_207), (.int (36 : Int32)), (.int (0 : Int32))]) (rest := []) (lenOf own_pd__28_5bBICI_29I rfl) rfl own_z (hb hby D3_101) (fun _ _ => ⟨rfl, rfl, (by decide : 1 + 0 ≤ _), (by decide : 90 + 0 ≤ _)⟩)) fun T214 Lc214 _ X214 hQ214 => ?_
  obtain ⟨po_214, az_214, rfl, M214, K214, g214_0, r214_0, r214_1, r214_2⟩ := hQ214
  have N214 := Fr.app N207 M214
  obtain ⟨lc214, X214, N214⟩ := own_lc X214 N214
  have z214 := K214.1
  have lt_g214_0 : T214.heap.size > ob85 := g214_0.lt
  refine n_istoreN X214 hx hby D3_104 (l' := #[.val (.ref ar), .val (.int sz), .val (.ref ob85), .val (.int az_214), .val (.ref ar), .val (.int (10 : Int32)), .val (.int (7 : Int32)), .val (.ref eah)]) rfl ?_
  refine n_aload X214 hx hby D3_105 rfl rfl ?_
  refine oIc X214 hx hby D3_107 (z := (0 : Int32)) rfl ?_
  refine n_aloadN X214 hx hby D3_108 rfl rfl ?_
  refine n_iloadN X214 hx hby D3_109 rfl ?_
  refine n_aload X214 hx hby D3_110 rfl rfl ?_
  have RK215 : Keep h0 T214.heap [] := (RK210.trans K214 (allS (P := fun x => x ∈ [] ∨ h0.size ≤ x) (Or.inr (own_unLE lx98)) all0))
  have fc216 : Arv Z T214.heap eah ekh .byte (0 : Int32) [] (.int (0 : Int32)) := Fe7.keep RK215 nin0
  obtain ⟨cl217, Ar217, q217, S217, M217, H217, G217⟩ := (id fc216)
  refine ob_ (X214.arraylength hx Ar217.1 (State.isArrayOf_alike hZ.alike Ar217.2.1) (g := (mkF m 112 #[.val (.ref ar), .val (.int sz), .val (.ref ob85), .val (.int az_214), .val (.ref ar), .val (.int (10 : Int32)), .val (.int (7 : Int32)), .val (.ref eah)] [(.ref eah), (.int az_214), (.ref ob85), (.int (0 : Int32)), (.ref eah)])) rfl rfl (hb hby D3_112)) ?_
  rw [len_of S217 M217]
  obtain ⟨T218, h218, L218, X218, e218, N218, K218, Vr218, st218⟩ := own_cpA X214 hx hZ hown (own_w hw 30 rfl) (own_w hw 33 rfl) (own_w hw 31 rfl) (own_w hw 32 rfl) rfl fc216 g214_0 (rfl : ((([] : List Value)).length : Int) = (0 : Int32).toInt) (dp := az_214) r214_1 (own_k2 he7 r214_2 hz8) N214 (own_unLE lx90) (g := (mkF m 113 #[.val (.ref ar), .val (.int sz), .val (.ref ob85), .val (.int az_214), .val (.ref ar), .val (.int (10 : Int32)), .val (.int (7 : Int32)), .val (.ref eah)] [(.int (0 : Int32)), (.int az_214), (.ref ob85), (.int (0 : Int32)), (.ref eah)])) rfl (by rw [hml]; rfl) rfl (hb hby D3_113) (by decide) (W := 0) own_z (by decide)
  refine ob_ st218 ?_
  have z218 := K218.1
  obtain ⟨pq218, e_pq218⟩ : ∃ z, z = po_214 ++ ([] : List Value) := ⟨_, rfl⟩
  rw [← e_pq218] at Vr218
  have hl_pq218 : (pq218.length : Int) = (po_214.length : Int) + ((0 : Int32) : Int32).toInt := by rw [e_pq218]; exact own_lenA (rfl : ((([] : List Value)).length : Int) = (0 : Int32).toInt)
  refine n_aloadN X218 hx hby D3_116 rfl rfl ?_
  refine n_iloadN X218 hx hby D3_117 rfl ?_
  refine n_aload X218 hx hby D3_118 rfl rfl ?_
  have RK219 : Keep h0 h218 [] := (RK215.trans K218 (allS (P := fun x => x ∈ [] ∨ h0.size ≤ x) (Or.inr (own_unLE lx98)) all0))
  have fc220 : Arv Z h218 eah ekh .byte (0 : Int32) [] (.int (0 : Int32)) := Fe7.keep RK219 nin0
  obtain ⟨cl221, Ar221, q221, S221, M221, H221, G221⟩ := (id fc220)
  refine ob_ (X218.arraylength hx (by rw [e218]; exact Ar221.1) (State.isArrayOf_alike hZ.alike Ar221.2.1) (g := (mkF m 120 #[.val (.ref ar), .val (.int sz), .val (.ref ob85), .val (.int az_214), .val (.ref ar), .val (.int (10 : Int32)), .val (.int (7 : Int32)), .val (.ref eah)] [(.ref eah), (.int az_214), (.ref ob85)])) rfl rfl (hb hby D3_120)) ?_
  rw [len_of S221 M221]
  refine n_iadd X218 hx hby D3_121 ?_
  have O222 : Old Z n0 h218 := ((O213.keep K214 (allS (own_unLE lx90) all0)).keep K218 (allS (own_unLE lx90) all0))
  refine o_ksc 3 1 90 (Jvm.LawKit.callS X218 hx (y := (⟨s2_, "writeCrLf", "([BI)I"⟩ : MethodName)) hown (mw hZ hw 20 rfl) (mw hZ hw 21 rfl) (mw hZ hw 12 rfl) (mw hZ hw 22 rfl) (by decide) (backOf (W := 0) (rm_wc l Z a0 hw [] ob85 k85 sz pq218 (az_214 + (0 : Int32)) h218 n0 O222 Vr218 (own_unLE lx90) (own_k3 r214_1 hl_pq218 own_rg0 (own_k2 he7 r214_2 hz8) hns0) (own_k4 he7 r214_2 hl_pq218 hz8) hns0) hZ (own_w hw 22 rfl) (own_w hw 12 rfl) (by decide) (by decide)) (g := (mkF m 122 #[.val (.ref ar), .val (.int sz), .val (.ref ob85), .val (.int az_214), .val (.ref ar), .val (.int (10 : Int32)), .val (.int (7 : Int32)), .val (.ref eah)] [(.int (az_214 + (0 : Int32))), (.ref ob85)])) rfl (by rw [hml]; rfl) (argsL := [(.ref ob85), (.int (az_214 + (0 : Int32)))]) (rest := []) (lenOf own_pd__28_5bBI_29I rfl) rfl own_z (hb hby D3_122) (fun _ _ => ⟨rfl, e218, (by decide : 1 + 0 ≤ _), (by decide : 90 + 0 ≤ _)⟩)) fun T223 Lc223 _ X223 hQ223 => ?_
  obtain ⟨po_223, az_223, rfl, M223, K223, g223_0, r223_0, r223_1, r223_2⟩ := hQ223
  have N223 := Fr.app N218 M223
  obtain ⟨lc223, X223, N223⟩ := own_lc X223 N223
  have z223 := K223.1
  have lt_g223_0 : T223.heap.size > ob85 := g223_0.lt
  have he8 : sz.toInt = (po_223.length : Int) + ((own_hn (0 : Int32) + ((0 : Int32) : Int32).toInt + 2) + ((own_hn (0 : Int32) + ((0 : Int32) : Int32).toInt + 2) + (0 : Int))) := own_k5 he7 r214_2 hl_pq218 r223_2
  clear he7
  refine n_istoreN X223 hx hby D3_125 (l' := #[.val (.ref ar), .val (.int sz), .val (.ref ob85), .val (.int az_223), .val (.ref ar), .val (.int (10 : Int32)), .val (.int (7 : Int32)), .val (.ref eah)]) rfl ?_
  refine n_iinc X223 hx hby D3_126 rfl (l' := #[.val (.ref ar), .val (.int sz), .val (.ref ob85), .val (.int az_223), .val (.ref ar), .val (.int (10 : Int32)), .val (.int (8 : Int32)), .val (.ref eah)]) rfl ?_
  refine n_goto X223 hx hby D3_129 (pc0 := 129) (pc' := 80) rfl (by decide) (by decide) ?_
  refine n_iload X223 hx hby D3_80 rfl ?_
  refine n_iload X223 hx hby D3_82 rfl ?_
  refine n_icmpNo X223 hx hby D3_84 (tlt (by decide : (8 : Int32) < (10 : Int32))).2.1 ?_
  refine n_aload X223 hx hby D3_87 rfl rfl ?_
  refine n_iload X223 hx hby D3_89 rfl ?_
  have fc224 : Arv Z T223.heap ar ka (.array .byte) (10 : Int32) [(.ref eaa), (.ref eab), (.ref eac), (.ref ead), (.ref eae), (.ref eaf), (.ref eag), (.ref eah), (.ref eai), (.ref eaj)] .null := (((fc208.keep K214 (ninS (own_unNE nx93) nin0)).keep K218 (ninS (own_unNE nx93) nin0)).keep K223 (ninS (own_unNE nx93) nin0))
  obtain ⟨cl225, Ar225, q225, S225, M225, H225, G225⟩ := (id fc224)
  have hin225 : ¬ ((8 : Int32) < 0 ∨ cl225.slots.size ≤ ((8 : Int32)).toNatClampNeg) := inb_of S225 ⟨by decide, by decide⟩
  refine ob_ (X223.aaload hx (j := (8 : Int32)) (v := (.ref eai)) Ar225.1 (State.isArrayOf_alike hZ.alike Ar225.2.1) rfl Ar225.2.2 hin225 (H225.at hin225 rfl) (g := (mkF m 91 #[.val (.ref ar), .val (.int sz), .val (.ref ob85), .val (.int az_223), .val (.ref ar), .val (.int (10 : Int32)), .val (.int (8 : Int32)), .val (.ref eah)] [(.int (8 : Int32)), (.ref ar)])) rfl rfl (hb hby D3_91)) ?_
  refine n_astore X223 hx hby D3_92 rfl (l' := #[.val (.ref ar), .val (.int sz), .val (.ref ob85), .val (.int az_223), .val (.ref ar), .val (.int (10 : Int32)), .val (.int (8 : Int32)), .val (.ref eai)]) rfl ?_
  refine n_aloadN X223 hx hby D3_94 rfl rfl ?_
  refine n_iloadN X223 hx hby D3_95 rfl ?_
  refine oBi X223 hx hby D3_96 (z := (36 : Int32)) rfl ?_
  refine n_aload X223 hx hby D3_98 rfl rfl ?_
  have RK226 : Keep h0 T223.heap [] := (RK219.trans K223 (allS (P := fun x => x ∈ [] ∨ h0.size ≤ x) (Or.inr (own_unLE lx98)) all0))
  have fc227 : Arv Z T223.heap eai eki .byte (0 : Int32) [] (.int (0 : Int32)) := Fe8.keep RK226 nin0
  obtain ⟨cl228, Ar228, q228, S228, M228, H228, G228⟩ := (id fc227)
  refine ob_ (X223.arraylength hx Ar228.1 (State.isArrayOf_alike hZ.alike Ar228.2.1) (g := (mkF m 100 #[.val (.ref ar), .val (.int sz), .val (.ref ob85), .val (.int az_223), .val (.ref ar), .val (.int (10 : Int32)), .val (.int (8 : Int32)), .val (.ref eai)] [(.ref eai), (.int (36 : Int32)), (.int az_223), (.ref ob85)])) rfl rfl (hb hby D3_100)) ?_
  rw [len_of S228 M228]
  have O229 : Old Z n0 T223.heap := (O222.keep K223 (allS (own_unLE lx90) all0))
  refine o_ksc 3 1 90 (Jvm.LawKit.callS X223 hx (y := (⟨s2_, "writeHeader", "([BICI)I"⟩ : MethodName)) hown (mw hZ hw 17 rfl) (mw hZ hw 18 rfl) (mw hZ hw 12 rfl) (mw hZ hw 19 rfl) (by decide) (backOf (W := 0) (rm_wh36 l Z a0 hw [] ob85 k85 sz po_223 az_223 (0 : Int32) T223.heap n0 O229 g223_0 (own_unLE lx90) (by decide) r223_1 (own_k1 he8 own_rg0 hz9) hns0) hZ (own_w hw 19 rfl) (own_w hw 12 rfl) (by decide) (by decide)) (g := (mkF m 101 #[.val (.ref ar), .val (.int sz), .val (.ref ob85), .val (.int az_223), .val (.ref ar), .val (.int (10 : Int32)), .val (.int (8 : Int32)), .val (.ref eai)] [(.int (0 : Int32)), (.int (36 : Int32)), (.int az_223), (.ref ob85)])) rfl (by rw [hml]; rfl) (argsL := [(.ref ob85), (.int az_223), (.int (36 : Int32)), (.int (0 : Int32))]) (rest := []) (lenOf own_pd__28_5bBICI_29I rfl) rfl own_z (hb hby D3_101) (fun _ _ => ⟨rfl, rfl, (by decide : 1 + 0 ≤ _), (by decide : 90 + 0 ≤ _)⟩)) fun T230 Lc230 _ X230 hQ230 => ?_
  obtain ⟨po_230, az_230, rfl, M230, K230, g230_0, r230_0, r230_1, r230_2⟩ := hQ230
  have N230 := Fr.app N223 M230
  obtain ⟨lc230, X230, N230⟩ := own_lc X230 N230
  have z230 := K230.1
  have lt_g230_0 : T230.heap.size > ob85 := g230_0.lt
  refine n_istoreN X230 hx hby D3_104 (l' := #[.val (.ref ar), .val (.int sz), .val (.ref ob85), .val (.int az_230), .val (.ref ar), .val (.int (10 : Int32)), .val (.int (8 : Int32)), .val (.ref eai)]) rfl ?_
  refine n_aload X230 hx hby D3_105 rfl rfl ?_
  refine oIc X230 hx hby D3_107 (z := (0 : Int32)) rfl ?_
  refine n_aloadN X230 hx hby D3_108 rfl rfl ?_
  refine n_iloadN X230 hx hby D3_109 rfl ?_
  refine n_aload X230 hx hby D3_110 rfl rfl ?_
  have RK231 : Keep h0 T230.heap [] := (RK226.trans K230 (allS (P := fun x => x ∈ [] ∨ h0.size ≤ x) (Or.inr (own_unLE lx98)) all0))
  have fc232 : Arv Z T230.heap eai eki .byte (0 : Int32) [] (.int (0 : Int32)) := Fe8.keep RK231 nin0
  obtain ⟨cl233, Ar233, q233, S233, M233, H233, G233⟩ := (id fc232)
  refine ob_ (X230.arraylength hx Ar233.1 (State.isArrayOf_alike hZ.alike Ar233.2.1) (g := (mkF m 112 #[.val (.ref ar), .val (.int sz), .val (.ref ob85), .val (.int az_230), .val (.ref ar), .val (.int (10 : Int32)), .val (.int (8 : Int32)), .val (.ref eai)] [(.ref eai), (.int az_230), (.ref ob85), (.int (0 : Int32)), (.ref eai)])) rfl rfl (hb hby D3_112)) ?_
  rw [len_of S233 M233]
  obtain ⟨T234, h234, L234, X234, e234, N234, K234, Vr234, st234⟩ := own_cpA X230 hx hZ hown (own_w hw 30 rfl) (own_w hw 33 rfl) (own_w hw 31 rfl) (own_w hw 32 rfl) rfl fc232 g230_0 (rfl : ((([] : List Value)).length : Int) = (0 : Int32).toInt) (dp := az_230) r230_1 (own_k2 he8 r230_2 hz9) N230 (own_unLE lx90) (g := (mkF m 113 #[.val (.ref ar), .val (.int sz), .val (.ref ob85), .val (.int az_230), .val (.ref ar), .val (.int (10 : Int32)), .val (.int (8 : Int32)), .val (.ref eai)] [(.int (0 : Int32)), (.int az_230), (.ref ob85), (.int (0 : Int32)), (.ref eai)])) rfl (by rw [hml]; rfl) rfl (hb hby D3_113) (by decide) (W := 0) own_z (by decide)
  refine ob_ st234 ?_
  have z234 := K234.1
  obtain ⟨pq234, e_pq234⟩ : ∃ z, z = po_230 ++ ([] : List Value) := ⟨_, rfl⟩
  rw [← e_pq234] at Vr234
  have hl_pq234 : (pq234.length : Int) = (po_230.length : Int) + ((0 : Int32) : Int32).toInt := by rw [e_pq234]; exact own_lenA (rfl : ((([] : List Value)).length : Int) = (0 : Int32).toInt)
  refine n_aloadN X234 hx hby D3_116 rfl rfl ?_
  refine n_iloadN X234 hx hby D3_117 rfl ?_
  refine n_aload X234 hx hby D3_118 rfl rfl ?_
  have RK235 : Keep h0 h234 [] := (RK231.trans K234 (allS (P := fun x => x ∈ [] ∨ h0.size ≤ x) (Or.inr (own_unLE lx98)) all0))
  have fc236 : Arv Z h234 eai eki .byte (0 : Int32) [] (.int (0 : Int32)) := Fe8.keep RK235 nin0
  obtain ⟨cl237, Ar237, q237, S237, M237, H237, G237⟩ := (id fc236)
  refine ob_ (X234.arraylength hx (by rw [e234]; exact Ar237.1) (State.isArrayOf_alike hZ.alike Ar237.2.1) (g := (mkF m 120 #[.val (.ref ar), .val (.int sz), .val (.ref ob85), .val (.int az_230), .val (.ref ar), .val (.int (10 : Int32)), .val (.int (8 : Int32)), .val (.ref eai)] [(.ref eai), (.int az_230), (.ref ob85)])) rfl rfl (hb hby D3_120)) ?_
  rw [len_of S237 M237]
  refine n_iadd X234 hx hby D3_121 ?_
  have O238 : Old Z n0 h234 := ((O229.keep K230 (allS (own_unLE lx90) all0)).keep K234 (allS (own_unLE lx90) all0))
  refine o_ksc 3 1 90 (Jvm.LawKit.callS X234 hx (y := (⟨s2_, "writeCrLf", "([BI)I"⟩ : MethodName)) hown (mw hZ hw 20 rfl) (mw hZ hw 21 rfl) (mw hZ hw 12 rfl) (mw hZ hw 22 rfl) (by decide) (backOf (W := 0) (rm_wc l Z a0 hw [] ob85 k85 sz pq234 (az_230 + (0 : Int32)) h234 n0 O238 Vr234 (own_unLE lx90) (own_k3 r230_1 hl_pq234 own_rg0 (own_k2 he8 r230_2 hz9) hns0) (own_k4 he8 r230_2 hl_pq234 hz9) hns0) hZ (own_w hw 22 rfl) (own_w hw 12 rfl) (by decide) (by decide)) (g := (mkF m 122 #[.val (.ref ar), .val (.int sz), .val (.ref ob85), .val (.int az_230), .val (.ref ar), .val (.int (10 : Int32)), .val (.int (8 : Int32)), .val (.ref eai)] [(.int (az_230 + (0 : Int32))), (.ref ob85)])) rfl (by rw [hml]; rfl) (argsL := [(.ref ob85), (.int (az_230 + (0 : Int32)))]) (rest := []) (lenOf own_pd__28_5bBI_29I rfl) rfl own_z (hb hby D3_122) (fun _ _ => ⟨rfl, e234, (by decide : 1 + 0 ≤ _), (by decide : 90 + 0 ≤ _)⟩)) fun T239 Lc239 _ X239 hQ239 => ?_
  obtain ⟨po_239, az_239, rfl, M239, K239, g239_0, r239_0, r239_1, r239_2⟩ := hQ239
  have N239 := Fr.app N234 M239
  obtain ⟨lc239, X239, N239⟩ := own_lc X239 N239
  have z239 := K239.1
  have lt_g239_0 : T239.heap.size > ob85 := g239_0.lt
  have he9 : sz.toInt = (po_239.length : Int) + ((own_hn (0 : Int32) + ((0 : Int32) : Int32).toInt + 2) + (0 : Int)) := own_k5 he8 r230_2 hl_pq234 r239_2
  clear he8
  refine n_istoreN X239 hx hby D3_125 (l' := #[.val (.ref ar), .val (.int sz), .val (.ref ob85), .val (.int az_239), .val (.ref ar), .val (.int (10 : Int32)), .val (.int (8 : Int32)), .val (.ref eai)]) rfl ?_
  refine n_iinc X239 hx hby D3_126 rfl (l' := #[.val (.ref ar), .val (.int sz), .val (.ref ob85), .val (.int az_239), .val (.ref ar), .val (.int (10 : Int32)), .val (.int (9 : Int32)), .val (.ref eai)]) rfl ?_
  refine n_goto X239 hx hby D3_129 (pc0 := 129) (pc' := 80) rfl (by decide) (by decide) ?_
  refine n_iload X239 hx hby D3_80 rfl ?_
  refine n_iload X239 hx hby D3_82 rfl ?_
  refine n_icmpNo X239 hx hby D3_84 (tlt (by decide : (9 : Int32) < (10 : Int32))).2.1 ?_
  refine n_aload X239 hx hby D3_87 rfl rfl ?_
  refine n_iload X239 hx hby D3_89 rfl ?_
  have fc240 : Arv Z T239.heap ar ka (.array .byte) (10 : Int32) [(.ref eaa), (.ref eab), (.ref eac), (.ref ead), (.ref eae), (.ref eaf), (.ref eag), (.ref eah), (.ref eai), (.ref eaj)] .null := (((fc224.keep K230 (ninS (own_unNE nx93) nin0)).keep K234 (ninS (own_unNE nx93) nin0)).keep K239 (ninS (own_unNE nx93) nin0))
  obtain ⟨cl241, Ar241, q241, S241, M241, H241, G241⟩ := (id fc240)
  have hin241 : ¬ ((9 : Int32) < 0 ∨ cl241.slots.size ≤ ((9 : Int32)).toNatClampNeg) := inb_of S241 ⟨by decide, by decide⟩
  refine ob_ (X239.aaload hx (j := (9 : Int32)) (v := (.ref eaj)) Ar241.1 (State.isArrayOf_alike hZ.alike Ar241.2.1) rfl Ar241.2.2 hin241 (H241.at hin241 rfl) (g := (mkF m 91 #[.val (.ref ar), .val (.int sz), .val (.ref ob85), .val (.int az_239), .val (.ref ar), .val (.int (10 : Int32)), .val (.int (9 : Int32)), .val (.ref eai)] [(.int (9 : Int32)), (.ref ar)])) rfl rfl (hb hby D3_91)) ?_
  refine n_astore X239 hx hby D3_92 rfl (l' := #[.val (.ref ar), .val (.int sz), .val (.ref ob85), .val (.int az_239), .val (.ref ar), .val (.int (10 : Int32)), .val (.int (9 : Int32)), .val (.ref eaj)]) rfl ?_
  refine n_aloadN X239 hx hby D3_94 rfl rfl ?_
  refine n_iloadN X239 hx hby D3_95 rfl ?_
  refine oBi X239 hx hby D3_96 (z := (36 : Int32)) rfl ?_
  refine n_aload X239 hx hby D3_98 rfl rfl ?_
  have RK242 : Keep h0 T239.heap [] := (RK235.trans K239 (allS (P := fun x => x ∈ [] ∨ h0.size ≤ x) (Or.inr (own_unLE lx98)) all0))
  have fc243 : Arv Z T239.heap eaj ekj .byte (0 : Int32) [] (.int (0 : Int32)) := Fe9.keep RK242 nin0
  obtain ⟨cl244, Ar244, q244, S244, M244, H244, G244⟩ := (id fc243)
  refine ob_ (X239.arraylength hx Ar244.1 (State.isArrayOf_alike hZ.alike Ar244.2.1) (g := (mkF m 100 #[.val (.ref ar), .val (.int sz), .val (.ref ob85), .val (.int az_239), .val (.ref ar), .val (.int (10 : Int32)), .val (.int (9 : Int32)), .val (.ref eaj)] [(.ref eaj), (.int (36 : Int32)), (.int az_239), (.ref ob85)])) rfl rfl (hb hby D3_100)) ?_
  rw [len_of S244 M244]
  have O245 : Old Z n0 T239.heap := (O238.keep K239 (allS (own_unLE lx90) all0))
  refine o_ksc 3 1 90 (Jvm.LawKit.callS X239 hx (y := (⟨s2_, "writeHeader", "([BICI)I"⟩ : MethodName)) hown (mw hZ hw 17 rfl) (mw hZ hw 18 rfl) (mw hZ hw 12 rfl) (mw hZ hw 19 rfl) (by decide) (backOf (W := 0) (rm_wh36 l Z a0 hw [] ob85 k85 sz po_239 az_239 (0 : Int32) T239.heap n0 O245 g239_0 (own_unLE lx90) (by decide) r239_1 (own_k1 he9 own_rg0 hz10) hns0) hZ (own_w hw 19 rfl) (own_w hw 12 rfl) (by decide) (by decide)) (g := (mkF m 101 #[.val (.ref ar), .val (.int sz), .val (.ref ob85), .val (.int az_239), .val (.ref ar), .val (.int (10 : Int32)), .val (.int (9 : Int32)), .val (.ref eaj)] [(.int (0 : Int32)), (.int (36 : Int32)), (.int az_239), (.ref ob85)])) rfl (by rw [hml]; rfl) (argsL := [(.ref ob85), (.int az_239), (.int (36 : Int32)), (.int (0 : Int32))]) (rest := []) (lenOf own_pd__28_5bBICI_29I rfl) rfl own_z (hb hby D3_101) (fun _ _ => ⟨rfl, rfl, (by decide : 1 + 0 ≤ _), (by decide : 90 + 0 ≤ _)⟩)) fun T246 Lc246 _ X246 hQ246 => ?_
  obtain ⟨po_246, az_246, rfl, M246, K246, g246_0, r246_0, r246_1, r246_2⟩ := hQ246
  have N246 := Fr.app N239 M246
  obtain ⟨lc246, X246, N246⟩ := own_lc X246 N246
  have z246 := K246.1
  have lt_g246_0 : T246.heap.size > ob85 := g246_0.lt
  refine n_istoreN X246 hx hby D3_104 (l' := #[.val (.ref ar), .val (.int sz), .val (.ref ob85), .val (.int az_246), .val (.ref ar), .val (.int (10 : Int32)), .val (.int (9 : Int32)), .val (.ref eaj)]) rfl ?_
  refine n_aload X246 hx hby D3_105 rfl rfl ?_
  refine oIc X246 hx hby D3_107 (z := (0 : Int32)) rfl ?_
  refine n_aloadN X246 hx hby D3_108 rfl rfl ?_
  refine n_iloadN X246 hx hby D3_109 rfl ?_
  refine n_aload X246 hx hby D3_110 rfl rfl ?_
  have RK247 : Keep h0 T246.heap [] := (RK242.trans K246 (allS (P := fun x => x ∈ [] ∨ h0.size ≤ x) (Or.inr (own_unLE lx98)) all0))
  have fc248 : Arv Z T246.heap eaj ekj .byte (0 : Int32) [] (.int (0 : Int32)) := Fe9.keep RK247 nin0
  obtain ⟨cl249, Ar249, q249, S249, M249, H249, G249⟩ := (id fc248)
  refine ob_ (X246.arraylength hx Ar249.1 (State.isArrayOf_alike hZ.alike Ar249.2.1) (g := (mkF m 112 #[.val (.ref ar), .val (.int sz), .val (.ref ob85), .val (.int az_246), .val (.ref ar), .val (.int (10 : Int32)), .val (.int (9 : Int32)), .val (.ref eaj)] [(.ref eaj), (.int az_246), (.ref ob85), (.int (0 : Int32)), (.ref eaj)])) rfl rfl (hb hby D3_112)) ?_
  rw [len_of S249 M249]
  obtain ⟨T250, h250, L250, X250, e250, N250, K250, Vr250, st250⟩ := own_cpA X246 hx hZ hown (own_w hw 30 rfl) (own_w hw 33 rfl) (own_w hw 31 rfl) (own_w hw 32 rfl) rfl fc248 g246_0 (rfl : ((([] : List Value)).length : Int) = (0 : Int32).toInt) (dp := az_246) r246_1 (own_k2 he9 r246_2 hz10) N246 (own_unLE lx90) (g := (mkF m 113 #[.val (.ref ar), .val (.int sz), .val (.ref ob85), .val (.int az_246), .val (.ref ar), .val (.int (10 : Int32)), .val (.int (9 : Int32)), .val (.ref eaj)] [(.int (0 : Int32)), (.int az_246), (.ref ob85), (.int (0 : Int32)), (.ref eaj)])) rfl (by rw [hml]; rfl) rfl (hb hby D3_113) (by decide) (W := 0) own_z (by decide)
  refine ob_ st250 ?_
  have z250 := K250.1
  obtain ⟨pq250, e_pq250⟩ : ∃ z, z = po_246 ++ ([] : List Value) := ⟨_, rfl⟩
  rw [← e_pq250] at Vr250
  have hl_pq250 : (pq250.length : Int) = (po_246.length : Int) + ((0 : Int32) : Int32).toInt := by rw [e_pq250]; exact own_lenA (rfl : ((([] : List Value)).length : Int) = (0 : Int32).toInt)
  refine n_aloadN X250 hx hby D3_116 rfl rfl ?_
  refine n_iloadN X250 hx hby D3_117 rfl ?_
  refine n_aload X250 hx hby D3_118 rfl rfl ?_
  have RK251 : Keep h0 h250 [] := (RK247.trans K250 (allS (P := fun x => x ∈ [] ∨ h0.size ≤ x) (Or.inr (own_unLE lx98)) all0))
  have fc252 : Arv Z h250 eaj ekj .byte (0 : Int32) [] (.int (0 : Int32)) := Fe9.keep RK251 nin0
  obtain ⟨cl253, Ar253, q253, S253, M253, H253, G253⟩ := (id fc252)
  refine ob_ (X250.arraylength hx (by rw [e250]; exact Ar253.1) (State.isArrayOf_alike hZ.alike Ar253.2.1) (g := (mkF m 120 #[.val (.ref ar), .val (.int sz), .val (.ref ob85), .val (.int az_246), .val (.ref ar), .val (.int (10 : Int32)), .val (.int (9 : Int32)), .val (.ref eaj)] [(.ref eaj), (.int az_246), (.ref ob85)])) rfl rfl (hb hby D3_120)) ?_
  rw [len_of S253 M253]
  refine n_iadd X250 hx hby D3_121 ?_
  have O254 : Old Z n0 h250 := ((O245.keep K246 (allS (own_unLE lx90) all0)).keep K250 (allS (own_unLE lx90) all0))
  refine o_ksc 3 1 90 (Jvm.LawKit.callS X250 hx (y := (⟨s2_, "writeCrLf", "([BI)I"⟩ : MethodName)) hown (mw hZ hw 20 rfl) (mw hZ hw 21 rfl) (mw hZ hw 12 rfl) (mw hZ hw 22 rfl) (by decide) (backOf (W := 0) (rm_wc l Z a0 hw [] ob85 k85 sz pq250 (az_246 + (0 : Int32)) h250 n0 O254 Vr250 (own_unLE lx90) (own_k3 r246_1 hl_pq250 own_rg0 (own_k2 he9 r246_2 hz10) hns0) (own_k4 he9 r246_2 hl_pq250 hz10) hns0) hZ (own_w hw 22 rfl) (own_w hw 12 rfl) (by decide) (by decide)) (g := (mkF m 122 #[.val (.ref ar), .val (.int sz), .val (.ref ob85), .val (.int az_246), .val (.ref ar), .val (.int (10 : Int32)), .val (.int (9 : Int32)), .val (.ref eaj)] [(.int (az_246 + (0 : Int32))), (.ref ob85)])) rfl (by rw [hml]; rfl) (argsL := [(.ref ob85), (.int (az_246 + (0 : Int32)))]) (rest := []) (lenOf own_pd__28_5bBI_29I rfl) rfl own_z (hb hby D3_122) (fun _ _ => ⟨rfl, e250, (by decide : 1 + 0 ≤ _), (by decide : 90 + 0 ≤ _)⟩)) fun T255 Lc255 _ X255 hQ255 => ?_
  obtain ⟨po_255, az_255, rfl, M255, K255, g255_0, r255_0, r255_1, r255_2⟩ := hQ255
  have N255 := Fr.app N250 M255
  obtain ⟨lc255, X255, N255⟩ := own_lc X255 N255
  have z255 := K255.1
  have lt_g255_0 : T255.heap.size > ob85 := g255_0.lt
  have he10 : sz.toInt = (po_255.length : Int) + (0 : Int) := own_k5 he9 r246_2 hl_pq250 r255_2
  clear he9
  refine n_istoreN X255 hx hby D3_125 (l' := #[.val (.ref ar), .val (.int sz), .val (.ref ob85), .val (.int az_255), .val (.ref ar), .val (.int (10 : Int32)), .val (.int (9 : Int32)), .val (.ref eaj)]) rfl ?_
  refine n_iinc X255 hx hby D3_126 rfl (l' := #[.val (.ref ar), .val (.int sz), .val (.ref ob85), .val (.int az_255), .val (.ref ar), .val (.int (10 : Int32)), .val (.int (10 : Int32)), .val (.ref eaj)]) rfl ?_
  refine n_goto X255 hx hby D3_129 (pc0 := 129) (pc' := 80) rfl (by decide) (by decide) ?_
  refine n_iload X255 hx hby D3_80 rfl ?_
  refine n_iload X255 hx hby D3_82 rfl ?_
  refine n_icmpYes X255 hx hby D3_84 (pc0 := 84) (pc' := 132) rfl (flt (by decide : ¬ ((10 : Int32) < (10 : Int32)))).2.1 (by decide) (by decide) ?_
  show own_Go p e below (T255.setTop (mkF m 132 #[.val (.ref ar), .val (.int sz), .val (.ref ob85), .val (.int az_255), .val (.ref ar), .val (.int (10 : Int32)), .val (.int (10 : Int32)), .val (.ref eaj)] [])) _
  have hfin : po_255 = own_hd (42 : Int32) (10 : Int32) ++ (own_bd la va ++ (own_bd lb vb ++ (own_bd (0 : Int32) [] ++ (own_bd (0 : Int32) [] ++ (own_bd (0 : Int32) [] ++ (own_bd (0 : Int32) [] ++ (own_bd (0 : Int32) [] ++ (own_bd (0 : Int32) [] ++ (own_bd (0 : Int32) [] ++ (own_bd (0 : Int32) [])))))))))) := by simp only [r92_0, r102_0, e_pq106, r111_0, r118_0, e_pq122, r127_0, r134_0, e_pq138, r143_0, r150_0, e_pq154, r159_0, r166_0, e_pq170, r175_0, r182_0, e_pq186, r191_0, r198_0, e_pq202, r207_0, r214_0, e_pq218, r223_0, r230_0, e_pq234, r239_0, r246_0, e_pq250, r255_0, own_bd, List.append_assoc, List.nil_append, List.append_nil]
  refine n_aloadN X255 hx hby D3_132 rfl rfl ?_
  have K256 : Keep h0 T255.heap [] := (((((((((((((((((((((((((((((((((Keep.refl h0 []).ext E85).trans K92 (allS (P := fun x => x ∈ [] ∨ h0.size ≤ x) (Or.inr (own_unLE lx98)) all0)).trans K102 (allS (P := fun x => x ∈ [] ∨ h0.size ≤ x) (Or.inr (own_unLE lx98)) all0)).trans K106 (allS (P := fun x => x ∈ [] ∨ h0.size ≤ x) (Or.inr (own_unLE lx98)) all0)).trans K111 (allS (P := fun x => x ∈ [] ∨ h0.size ≤ x) (Or.inr (own_unLE lx98)) all0)).trans K118 (allS (P := fun x => x ∈ [] ∨ h0.size ≤ x) (Or.inr (own_unLE lx98)) all0)).trans K122 (allS (P := fun x => x ∈ [] ∨ h0.size ≤ x) (Or.inr (own_unLE lx98)) all0)).trans K127 (allS (P := fun x => x ∈ [] ∨ h0.size ≤ x) (Or.inr (own_unLE lx98)) all0)).trans K134 (allS (P := fun x => x ∈ [] ∨ h0.size ≤ x) (Or.inr (own_unLE lx98)) all0)).trans K138 (allS (P := fun x => x ∈ [] ∨ h0.size ≤ x) (Or.inr (own_unLE lx98)) all0)).trans K143 (allS (P := fun x => x ∈ [] ∨ h0.size ≤ x) (Or.inr (own_unLE lx98)) all0)).trans K150 (allS (P := fun x => x ∈ [] ∨ h0.size ≤ x) (Or.inr (own_unLE lx98)) all0)).trans K154 (allS (P := fun x => x ∈ [] ∨ h0.size ≤ x) (Or.inr (own_unLE lx98)) all0)).trans K159 (allS (P := fun x => x ∈ [] ∨ h0.size ≤ x) (Or.inr (own_unLE lx98)) all0)).trans K166 (allS (P := fun x => x ∈ [] ∨ h0.size ≤ x) (Or.inr (own_unLE lx98)) all0)).trans K170 (allS (P := fun x => x ∈ [] ∨ h0.size ≤ x) (Or.inr (own_unLE lx98)) all0)).trans K175 (allS (P := fun x => x ∈ [] ∨ h0.size ≤ x) (Or.inr (own_unLE lx98)) all0)).trans K182 (allS (P := fun x => x ∈ [] ∨ h0.size ≤ x) (Or.inr (own_unLE lx98)) all0)).trans K186 (allS (P := fun x => x ∈ [] ∨ h0.size ≤ x) (Or.inr (own_unLE lx98)) all0)).trans K191 (allS (P := fun x => x ∈ [] ∨ h0.size ≤ x) (Or.inr (own_unLE lx98)) all0)).trans K198 (allS (P := fun x => x ∈ [] ∨ h0.size ≤ x) (Or.inr (own_unLE lx98)) all0)).trans K202 (allS (P := fun x => x ∈ [] ∨ h0.size ≤ x) (Or.inr (own_unLE lx98)) all0)).trans K207 (allS (P := fun x => x ∈ [] ∨ h0.size ≤ x) (Or.inr (own_unLE lx98)) all0)).trans K214 (allS (P := fun x => x ∈ [] ∨ h0.size ≤ x) (Or.inr (own_unLE lx98)) all0)).trans K218 (allS (P := fun x => x ∈ [] ∨ h0.size ≤ x) (Or.inr (own_unLE lx98)) all0)).trans K223 (allS (P := fun x => x ∈ [] ∨ h0.size ≤ x) (Or.inr (own_unLE lx98)) all0)).trans K230 (allS (P := fun x => x ∈ [] ∨ h0.size ≤ x) (Or.inr (own_unLE lx98)) all0)).trans K234 (allS (P := fun x => x ∈ [] ∨ h0.size ≤ x) (Or.inr (own_unLE lx98)) all0)).trans K239 (allS (P := fun x => x ∈ [] ∨ h0.size ≤ x) (Or.inr (own_unLE lx98)) all0)).trans K246 (allS (P := fun x => x ∈ [] ∨ h0.size ≤ x) (Or.inr (own_unLE lx98)) all0)).trans K250 (allS (P := fun x => x ∈ [] ∨ h0.size ≤ x) (Or.inr (own_unLE lx98)) all0)).trans K255 (allS (P := fun x => x ∈ [] ∨ h0.size ≤ x) (Or.inr (own_unLE lx98)) all0))
  obtain ⟨fs, hr, hrun, hended, hW, hsame⟩ := X255.leave (v := some (.ref ob85)) (fun h => by rw [Bd.returns] at h; cases h)
  refine ⟨_, _, retOut X255 hx Bd.returns (own_narrow_ref (by decide) rfl) (Or.inr (Or.inr (Or.inr (Or.inr ⟨rfl, by decide, rfl⟩)))) (hb hby D3_133) hr, hrun, hended, _, _, rfl, ?_, ⟨_, rfl⟩, hW, hsame.mono (by decide) (by decide)⟩
  show Q_rm_cmd10 Z ar ka eaa eka la va eab ekb lb vb eac ekc ead ekd eae eke eaf ekf eag ekg eah ekh eai eki eaj ekj h0 n0 _ T255.heap _
  exact ⟨ob85, k85, sz, po_255, rfl, N255, K256, g255_0, hfin, hsz, (by omega)⟩
theorem D7_0 : decode method_6_code 0 = .ok (.iload_n 1, 1) := by decide +kernel
theorem D7_1 : decode method_6_code 1 = .ok (.ifCond .ge 5, 3) := by decide +kernel
theorem D7_6 : decode method_6_code 6 = .ok (.iload_n 3, 1) := by decide +kernel
theorem D7_7 : decode method_6_code 7 = .ok (.bipush 10, 2) := by decide +kernel
theorem D7_9 : decode method_6_code 9 = .ok (.if_icmp .lt 7, 3) := by decide +kernel
theorem D7_12 : decode method_6_code 12 = .ok (.iconst 2, 1) := by decide +kernel
theorem D7_13 : decode method_6_code 13 = .ok (.goto 4, 3) := by decide +kernel
theorem D7_16 : decode method_6_code 16 = .ok (.iconst 1, 1) := by decide +kernel
theorem D7_17 : decode method_6_code 17 = .ok (.istore 4, 2) := by decide +kernel
theorem D7_19 : decode method_6_code 19 = .ok (.iload_n 1, 1) := by decide +kernel
theorem D7_20 : decode method_6_code 20 = .ok (.iconst 1, 1) := by decide +kernel
theorem D7_21 : decode method_6_code 21 = .ok (.iadd, 1) := by decide +kernel
theorem D7_22 : decode method_6_code 22 = .ok (.iload 4, 2) := by decide +kernel
theorem D7_24 : decode method_6_code 24 = .ok (.iadd, 1) := by decide +kernel
theorem D7_25 : decode method_6_code 25 = .ok (.iconst 2, 1) := by decide +kernel
theorem D7_26 : decode method_6_code 26 = .ok (.iadd, 1) := by decide +kernel
theorem D7_27 : decode method_6_code 27 = .ok (.aload_n 0, 1) := by decide +kernel
theorem D7_28 : decode method_6_code 28 = .ok (.arraylength, 1) := by decide +kernel
theorem D7_29 : decode method_6_code 29 = .ok (.if_icmp .le 5, 3) := by decide +kernel
theorem D7_34 : decode method_6_code 34 = .ok (.aload_n 0, 1) := by decide +kernel
theorem D7_35 : decode method_6_code 35 = .ok (.iload_n 1, 1) := by decide +kernel
theorem D7_36 : decode method_6_code 36 = .ok (.baload, 1) := by decide +kernel
theorem D7_37 : decode method_6_code 37 = .ok (.iload_n 2, 1) := by decide +kernel
theorem D7_38 : decode method_6_code 38 = .ok (.i2b, 1) := by decide +kernel
theorem D7_39 : decode method_6_code 39 = .ok (.if_icmp .eq 5, 3) := by decide +kernel
theorem D7_44 : decode method_6_code 44 = .ok (.iload 4, 2) := by decide +kernel
theorem D7_46 : decode method_6_code 46 = .ok (.iconst 1, 1) := by decide +kernel
theorem D7_47 : decode method_6_code 47 = .ok (.if_icmp .ne 18, 3) := by decide +kernel
theorem D7_50 : decode method_6_code 50 = .ok (.aload_n 0, 1) := by decide +kernel
theorem D7_51 : decode method_6_code 51 = .ok (.iload_n 1, 1) := by decide +kernel
theorem D7_52 : decode method_6_code 52 = .ok (.iconst 1, 1) := by decide +kernel
theorem D7_53 : decode method_6_code 53 = .ok (.iadd, 1) := by decide +kernel
theorem D7_54 : decode method_6_code 54 = .ok (.baload, 1) := by decide +kernel
theorem D7_55 : decode method_6_code 55 = .ok (.bipush 48, 2) := by decide +kernel
theorem D7_57 : decode method_6_code 57 = .ok (.iload_n 3, 1) := by decide +kernel
theorem D7_58 : decode method_6_code 58 = .ok (.iadd, 1) := by decide +kernel
theorem D7_59 : decode method_6_code 59 = .ok (.i2b, 1) := by decide +kernel
theorem D7_60 : decode method_6_code 60 = .ok (.if_icmp .eq 33, 3) := by decide +kernel
theorem D7_65 : decode method_6_code 65 = .ok (.aload_n 0, 1) := by decide +kernel
theorem D7_66 : decode method_6_code 66 = .ok (.iload_n 1, 1) := by decide +kernel
theorem D7_67 : decode method_6_code 67 = .ok (.iconst 1, 1) := by decide +kernel
theorem D7_68 : decode method_6_code 68 = .ok (.iadd, 1) := by decide +kernel
theorem D7_69 : decode method_6_code 69 = .ok (.baload, 1) := by decide +kernel
theorem D7_70 : decode method_6_code 70 = .ok (.bipush 49, 2) := by decide +kernel
theorem D7_72 : decode method_6_code 72 = .ok (.if_icmp .ne 19, 3) := by decide +kernel
theorem D7_75 : decode method_6_code 75 = .ok (.aload_n 0, 1) := by decide +kernel
theorem D7_76 : decode method_6_code 76 = .ok (.iload_n 1, 1) := by decide +kernel
theorem D7_77 : decode method_6_code 77 = .ok (.iconst 2, 1) := by decide +kernel
theorem D7_78 : decode method_6_code 78 = .ok (.iadd, 1) := by decide +kernel
theorem D7_79 : decode method_6_code 79 = .ok (.baload, 1) := by decide +kernel
theorem D7_80 : decode method_6_code 80 = .ok (.bipush 48, 2) := by decide +kernel
theorem D7_82 : decode method_6_code 82 = .ok (.iload_n 3, 1) := by decide +kernel
theorem D7_83 : decode method_6_code 83 = .ok (.bipush 10, 2) := by decide +kernel
theorem D7_85 : decode method_6_code 85 = .ok (.isub, 1) := by decide +kernel
theorem D7_86 : decode method_6_code 86 = .ok (.iadd, 1) := by decide +kernel
theorem D7_87 : decode method_6_code 87 = .ok (.i2b, 1) := by decide +kernel
theorem D7_88 : decode method_6_code 88 = .ok (.if_icmp .eq 5, 3) := by decide +kernel
theorem D7_93 : decode method_6_code 93 = .ok (.iload_n 1, 1) := by decide +kernel
theorem D7_94 : decode method_6_code 94 = .ok (.iconst 1, 1) := by decide +kernel
theorem D7_95 : decode method_6_code 95 = .ok (.iadd, 1) := by decide +kernel
theorem D7_96 : decode method_6_code 96 = .ok (.iload 4, 2) := by decide +kernel
theorem D7_98 : decode method_6_code 98 = .ok (.iadd, 1) := by decide +kernel
theorem D7_99 : decode method_6_code 99 = .ok (.istore 5, 2) := by decide +kernel
theorem D7_101 : decode method_6_code 101 = .ok (.aload_n 0, 1) := by decide +kernel
theorem D7_102 : decode method_6_code 102 = .ok (.iload 5, 2) := by decide +kernel
theorem D7_104 : decode method_6_code 104 = .ok (.baload, 1) := by decide +kernel
theorem D7_105 : decode method_6_code 105 = .ok (.bipush 13, 2) := by decide +kernel
theorem D7_107 : decode method_6_code 107 = .ok (.if_icmp .ne 14, 3) := by decide +kernel
theorem D7_110 : decode method_6_code 110 = .ok (.aload_n 0, 1) := by decide +kernel
theorem D7_111 : decode method_6_code 111 = .ok (.iload 5, 2) := by decide +kernel
theorem D7_113 : decode method_6_code 113 = .ok (.iconst 1, 1) := by decide +kernel
theorem D7_114 : decode method_6_code 114 = .ok (.iadd, 1) := by decide +kernel
theorem D7_115 : decode method_6_code 115 = .ok (.baload, 1) := by decide +kernel
theorem D7_116 : decode method_6_code 116 = .ok (.bipush 10, 2) := by decide +kernel
theorem D7_118 : decode method_6_code 118 = .ok (.if_icmp .eq 5, 3) := by decide +kernel
theorem D7_123 : decode method_6_code 123 = .ok (.iload 5, 2) := by decide +kernel
theorem D7_125 : decode method_6_code 125 = .ok (.iconst 2, 1) := by decide +kernel
theorem D7_126 : decode method_6_code 126 = .ok (.iadd, 1) := by decide +kernel
theorem D7_127 : decode method_6_code 127 = .ok (.ireturn, 1) := by decide +kernel
def Q_rm_hd42 (Z : State) (ot : Addr) (kk : ClassId) (nn : Int32) (cc : List Value) (pr : List Value) (po : List Value) (aa : Int32) (cn : Int32) (h0 : Heap) (n0 : Nat) (v : Option Value) (h : Heap) (L : List Loc) : Prop := ∃ (az : Int32), v = some (.int az) ∧ Fr n0 L ∧ h = h0 ∧ az.toInt = aa.toInt + own_hn cn
theorem ef_rm_hd42 (m : MethodId) (ot : Addr) (kk : ClassId) (nn : Int32) (cc : List Value) (pr : List Value) (po : List Value) (aa : Int32) (cn : Int32) : entryFrame m #[(.ref ot), (.int aa), (.int (42 : Int32)), (.int cn)] 6 = mkF m 0 #[.val (.ref ot), .val (.int aa), .val (.int (42 : Int32)), .val (.int cn), .unset, .unset] [] := by first | (simp [entryFrame, mkF, argsToLocals, Value.category]; done) | rfl
set_option maxRecDepth 65536 in
set_option maxHeartbeats 40000000 in
theorem rm_hd42 (l : Launch) (Z : State) (a0 : Array Value) (hw : ∀ d ∈ tables_1, d.before a0 Z = true) (ws : List Jvm.Cond) (ot : Addr) (kk : ClassId) (nn : Int32) (cc : List Value) (pr : List Value) (po : List Value) (aa : Int32) (cn : Int32) (h0 : Heap) (n0 : Nat) (O0 : Old Z n0 h0) (Fo : Arv Z h0 ot kk .byte nn cc (.int (0 : Int32))) (hcn : own_cnt cn) (hcc : cc = pr ++ (own_hd (42 : Int32) cn ++ po)) (haa : aa.toInt = (pr.length : Int)) (hle : (pr.length : Int) + own_hn cn ≤ nn.toInt) (hns : nn.toInt ≤ 1000) :
    MetFree l (⟨s1_, "header", "([BICI)I"⟩ : MethodName) (head1 (Jvm.Cond.code (⟨s1_, "header", "([BICI)I"⟩ : MethodName) method_6_code 6 (some .int) :: ws) ({ frames := 0, cells := 0, slots := 0, locals := 0 } : Room)) (fun a U => a = #[(.ref ot), (.int aa), (.int (42 : Int32)), (.int cn)] ∧ Z.Warmed39 U.vm ∧ U.heap = h0) (fun _ _ _ _ _ => True) (fun _ U o U' => ∃ v L, o = .returned v ∧ Q_rm_hd42 Z ot kk nn cc pr po aa cn h0 n0 v U'.heap L ∧ FrameEnd U o U' L ({ frames := 0, cells := 0, slots := 0, locals := 0 } : Room).cells ({ frames := 0, cells := 0, slots := 0, locals := 0 } : Room).slots) := by
  refine MetFree.of_bodySF (plainFor_of_name own_pn_com_example_living_lease_livinglease_redis_RespCommandPinLaw) hisR ?_
  intro p e s m args below meth c s₁ Bd hml0 hP hK
  obtain ⟨rfl, hZ, hh⟩ := hP
  have hx := Bd.exec
  have hby := Bd.bytes
  have hml : c.maxLocals = 6 := hml0
  have hown : s.vm.findClass s1_ = some m.cls := findClass_of_methodNamed Bd.named
  have hnm := (name_of_methodNamed Bd.named Bd.method).1
  have X0 : Stand p l e ({ frames := 0, cells := 0, slots := 0, locals := 0 } : Room) s m #[(.ref ot), (.int aa), (.int (42 : Int32)), (.int cn)] below meth c s₁ [] 0 0 := Stand.of_body Bd
  have e0 : s₁.heap = h0 := by rw [← hh, Bd.state]; rfl
  have N0 := Fr.nil n0
  have Z0 : n0 ≤ h0.size := by rw [← O0.1]; exact O0.2.1
  show own_Go p e below (s₁.setTop (entryFrame m #[(.ref ot), (.int aa), (.int (42 : Int32)), (.int cn)] 6)) (fun t o => ∃ v L, o = .returned v ∧ Q_rm_hd42 Z ot kk nn cc pr po aa cn h0 n0 v t.heap L ∧ FrameEnd s o t L ({ frames := 0, cells := 0, slots := 0, locals := 0 } : Room).cells ({ frames := 0, cells := 0, slots := 0, locals := 0 } : Room).slots)
  rw [ef_rm_hd42 m ot kk nn cc pr po aa cn]
  have lt_Fo : h0.size > ot := Fo.lt
  rcases hcn with rfl | rfl | rfl | rfl
  · skip
    show own_Go p e below (s₁.setTop (mkF m 0 #[.val (.ref ot), .val (.int aa), .val (.int (42 : Int32)), .val (.int (0 : Int32)), .unset, .unset] [])) _
    have hn_0 := own_hn_0
    have nl1 : ¬ (aa < (0 : Int32)) := by
      have iv2 : ((0 : Int32) : Int32).toInt = 0 := rfl
      exact own_nlt (by omega)
    have Vo : Arv Z h0 ot kk .byte nn (pr ++ ([(.int (42 : Int32)), (.int (48 : Int32)), (.int (13 : Int32)), (.int (10 : Int32))] ++ po)) (.int (0 : Int32)) := by have q := Fo; rw [hcc, own_hd_0] at q; exact q
    refine n_iloadN X0 hx hby D7_0 rfl ?_
    refine n_ifYes X0 hx hby D7_1 (pc0 := 1) (pc' := 6) rfl ((if0 _ _).trans (flt nl1).2.1) (by decide) (by decide) ?_
    refine n_iloadN X0 hx hby D7_6 rfl ?_
    refine oBi X0 hx hby D7_7 (z := (10 : Int32)) rfl ?_
    refine n_icmpYes X0 hx hby D7_9 (pc0 := 9) (pc' := 16) rfl (tlt (by decide : (0 : Int32) < (10 : Int32))).1 (by decide) (by decide) ?_
    refine oIc X0 hx hby D7_16 (z := (1 : Int32)) rfl ?_
    refine n_istore X0 hx hby D7_17 (l' := #[.val (.ref ot), .val (.int aa), .val (.int (42 : Int32)), .val (.int (0 : Int32)), .val (.int (1 : Int32)), .unset]) rfl ?_
    refine n_iloadN X0 hx hby D7_19 rfl ?_
    refine oIc X0 hx hby D7_20 (z := (1 : Int32)) rfl ?_
    refine n_iadd X0 hx hby D7_21 ?_
    refine n_iload X0 hx hby D7_22 rfl ?_
    refine n_iadd X0 hx hby D7_24 ?_
    refine oIc X0 hx hby D7_25 (z := (2 : Int32)) rfl ?_
    refine n_iadd X0 hx hby D7_26 ?_
    refine n_aloadN X0 hx hby D7_27 rfl rfl ?_
    obtain ⟨cl3, Ar3, q3, S3, M3, H3, G3⟩ := (id Vo)
    refine ob_ (X0.arraylength hx (by rw [e0]; exact Ar3.1) (State.isArrayOf_alike hZ.alike Ar3.2.1) (g := (mkF m 28 #[.val (.ref ot), .val (.int aa), .val (.int (42 : Int32)), .val (.int (0 : Int32)), .val (.int (1 : Int32)), .unset] [(.ref ot), (.int (((aa + (1 : Int32)) + (1 : Int32)) + (2 : Int32)))])) rfl rfl (hb hby D7_28)) ?_
    rw [len_of S3 M3]
    show own_Go p e below (s₁.setTop (mkF m 29 #[.val (.ref ot), .val (.int aa), .val (.int (42 : Int32)), .val (.int (0 : Int32)), .val (.int (1 : Int32)), .unset] [(.int nn), (.int (((aa + (1 : Int32)) + (1 : Int32)) + (2 : Int32)))])) _
    have nl4 : ¬ (nn < (((aa + (1 : Int32)) + (1 : Int32)) + (2 : Int32))) := by
      have iv5 : ((1 : Int32) : Int32).toInt = 1 := rfl
      have iv6 : ((aa + (1 : Int32)) : Int32).toInt = (aa : Int32).toInt + ((1 : Int32) : Int32).toInt := own_ia (by omega)
      have iv7 : (((aa + (1 : Int32)) + (1 : Int32)) : Int32).toInt = ((aa + (1 : Int32)) : Int32).toInt + ((1 : Int32) : Int32).toInt := own_ia (by omega)
      have iv8 : ((2 : Int32) : Int32).toInt = 2 := rfl
      have iv9 : ((((aa + (1 : Int32)) + (1 : Int32)) + (2 : Int32)) : Int32).toInt = (((aa + (1 : Int32)) + (1 : Int32)) : Int32).toInt + ((2 : Int32) : Int32).toInt := own_ia (by omega)
      exact own_nlt (by omega)
    refine n_icmpYes X0 hx hby D7_29 (pc0 := 29) (pc' := 34) rfl (flt nl4).2.2.2 (by decide) (by decide) ?_
    refine n_aloadN X0 hx hby D7_34 rfl rfl ?_
    refine n_iloadN X0 hx hby D7_35 rfl ?_
    have hb10 : aa.toInt = (pr.length : Int) := by omega
    have hM10 : (pr.length : Int) + ((4 : Nat) : Int) ≤ nn.toInt := by omega
    have ik11 : own_is aa aa 0 := own_is0
    obtain ⟨cl12, Ar12, q12, S12, M12, H12, G12⟩ := (id Vo)
    have hin12 : ¬ (aa < 0 ∨ cl12.slots.size ≤ (aa).toNatClampNeg) := own_inbK S12 ik11 hb10 hM10 (by decide)
    refine ob_ (X0.baloadBytes hx (j := aa) (v := (.int (42 : Int32))) (by rw [e0]; exact Ar12.1) (State.isArrayOf_alike hZ.alike Ar12.2.1) Ar12.2.2 hin12 (H12.at hin12 (own_rd 0 (own_jj ik11 hb10) (Nat.le_of_ble_eq_true rfl) rfl)) (g := (mkF m 36 #[.val (.ref ot), .val (.int aa), .val (.int (42 : Int32)), .val (.int (0 : Int32)), .val (.int (1 : Int32)), .unset] [(.int aa), (.ref ot)])) rfl rfl (hb hby D7_36)) ?_
    refine n_iloadN X0 hx hby D7_37 rfl ?_
    refine n_i2b X0 hx hby D7_38 ?_
    show own_Go p e below (s₁.setTop (mkF m 39 #[.val (.ref ot), .val (.int aa), .val (.int (42 : Int32)), .val (.int (0 : Int32)), .val (.int (1 : Int32)), .unset] [(.int ((42 : Int32).toInt8.toInt32)), (.int (42 : Int32))])) _
    rw [show (((42 : Int32).toInt8.toInt32) : Int32) = (42 : Int32) from by decide]
    show own_Go p e below (s₁.setTop (mkF m 39 #[.val (.ref ot), .val (.int aa), .val (.int (42 : Int32)), .val (.int (0 : Int32)), .val (.int (1 : Int32)), .unset] [(.int (42 : Int32)), (.int (42 : Int32))])) _
    refine n_icmpYes X0 hx hby D7_39 (pc0 := 39) (pc' := 44) rfl (teq (by decide : (42 : Int32) = (42 : Int32))).1 (by decide) (by decide) ?_
    refine n_iload X0 hx hby D7_44 rfl ?_
    refine oIc X0 hx hby D7_46 (z := (1 : Int32)) rfl ?_
    refine n_icmpNo X0 hx hby D7_47 (teq (by decide : (1 : Int32) = (1 : Int32))).2 ?_
    refine n_aloadN X0 hx hby D7_50 rfl rfl ?_
    refine n_iloadN X0 hx hby D7_51 rfl ?_
    refine oIc X0 hx hby D7_52 (z := (1 : Int32)) rfl ?_
    refine n_iadd X0 hx hby D7_53 ?_
    have rg13 : own_rg aa := ⟨by omega, by omega⟩
    have ik14 : own_is (aa + (1 : Int32)) aa 1 := own_isS (k := 1) ik11 rg13 (by decide) (by decide)
    obtain ⟨cl15, Ar15, q15, S15, M15, H15, G15⟩ := (id Vo)
    have hin15 : ¬ ((aa + (1 : Int32)) < 0 ∨ cl15.slots.size ≤ ((aa + (1 : Int32))).toNatClampNeg) := own_inbK S15 ik14 hb10 hM10 (by decide)
    refine ob_ (X0.baloadBytes hx (j := (aa + (1 : Int32))) (v := (.int (48 : Int32))) (by rw [e0]; exact Ar15.1) (State.isArrayOf_alike hZ.alike Ar15.2.1) Ar15.2.2 hin15 (H15.at hin15 (own_rd 1 (own_jj ik14 hb10) (Nat.le_of_ble_eq_true rfl) rfl)) (g := (mkF m 54 #[.val (.ref ot), .val (.int aa), .val (.int (42 : Int32)), .val (.int (0 : Int32)), .val (.int (1 : Int32)), .unset] [(.int (aa + (1 : Int32))), (.ref ot)])) rfl rfl (hb hby D7_54)) ?_
    refine oBi X0 hx hby D7_55 (z := (48 : Int32)) rfl ?_
    refine n_iloadN X0 hx hby D7_57 rfl ?_
    refine n_iadd X0 hx hby D7_58 ?_
    show own_Go p e below (s₁.setTop (mkF m 59 #[.val (.ref ot), .val (.int aa), .val (.int (42 : Int32)), .val (.int (0 : Int32)), .val (.int (1 : Int32)), .unset] [(.int ((48 : Int32) + (0 : Int32))), (.int (48 : Int32))])) _
    rw [show (((48 : Int32) + (0 : Int32)) : Int32) = (48 : Int32) from by decide]
    show own_Go p e below (s₁.setTop (mkF m 59 #[.val (.ref ot), .val (.int aa), .val (.int (42 : Int32)), .val (.int (0 : Int32)), .val (.int (1 : Int32)), .unset] [(.int (48 : Int32)), (.int (48 : Int32))])) _
    refine n_i2b X0 hx hby D7_59 ?_
    show own_Go p e below (s₁.setTop (mkF m 60 #[.val (.ref ot), .val (.int aa), .val (.int (42 : Int32)), .val (.int (0 : Int32)), .val (.int (1 : Int32)), .unset] [(.int ((48 : Int32).toInt8.toInt32)), (.int (48 : Int32))])) _
    rw [show (((48 : Int32).toInt8.toInt32) : Int32) = (48 : Int32) from by decide]
    show own_Go p e below (s₁.setTop (mkF m 60 #[.val (.ref ot), .val (.int aa), .val (.int (42 : Int32)), .val (.int (0 : Int32)), .val (.int (1 : Int32)), .unset] [(.int (48 : Int32)), (.int (48 : Int32))])) _
    refine n_icmpYes X0 hx hby D7_60 (pc0 := 60) (pc' := 93) rfl (teq (by decide : (48 : Int32) = (48 : Int32))).1 (by decide) (by decide) ?_
    refine n_iloadN X0 hx hby D7_93 rfl ?_
    refine oIc X0 hx hby D7_94 (z := (1 : Int32)) rfl ?_
    refine n_iadd X0 hx hby D7_95 ?_
    refine n_iload X0 hx hby D7_96 rfl ?_
    refine n_iadd X0 hx hby D7_98 ?_
    refine n_istore X0 hx hby D7_99 (l' := #[.val (.ref ot), .val (.int aa), .val (.int (42 : Int32)), .val (.int (0 : Int32)), .val (.int (1 : Int32)), .val (.int ((aa + (1 : Int32)) + (1 : Int32)))]) rfl ?_
    refine n_aloadN X0 hx hby D7_101 rfl rfl ?_
    refine n_iload X0 hx hby D7_102 rfl ?_
    have ik16 : own_is ((aa + (1 : Int32)) + (1 : Int32)) aa 2 := own_isS (k := 1) ik14 rg13 (by decide) (by decide)
    obtain ⟨cl17, Ar17, q17, S17, M17, H17, G17⟩ := (id Vo)
    have hin17 : ¬ (((aa + (1 : Int32)) + (1 : Int32)) < 0 ∨ cl17.slots.size ≤ (((aa + (1 : Int32)) + (1 : Int32))).toNatClampNeg) := own_inbK S17 ik16 hb10 hM10 (by decide)
    refine ob_ (X0.baloadBytes hx (j := ((aa + (1 : Int32)) + (1 : Int32))) (v := (.int (13 : Int32))) (by rw [e0]; exact Ar17.1) (State.isArrayOf_alike hZ.alike Ar17.2.1) Ar17.2.2 hin17 (H17.at hin17 (own_rd 2 (own_jj ik16 hb10) (Nat.le_of_ble_eq_true rfl) rfl)) (g := (mkF m 104 #[.val (.ref ot), .val (.int aa), .val (.int (42 : Int32)), .val (.int (0 : Int32)), .val (.int (1 : Int32)), .val (.int ((aa + (1 : Int32)) + (1 : Int32)))] [(.int ((aa + (1 : Int32)) + (1 : Int32))), (.ref ot)])) rfl rfl (hb hby D7_104)) ?_
    refine oBi X0 hx hby D7_105 (z := (13 : Int32)) rfl ?_
    refine n_icmpNo X0 hx hby D7_107 (teq (by decide : (13 : Int32) = (13 : Int32))).2 ?_
    refine n_aloadN X0 hx hby D7_110 rfl rfl ?_
    refine n_iload X0 hx hby D7_111 rfl ?_
    refine oIc X0 hx hby D7_113 (z := (1 : Int32)) rfl ?_
    refine n_iadd X0 hx hby D7_114 ?_
    have ik18 : own_is (((aa + (1 : Int32)) + (1 : Int32)) + (1 : Int32)) aa 3 := own_isS (k := 1) ik16 rg13 (by decide) (by decide)
    obtain ⟨cl19, Ar19, q19, S19, M19, H19, G19⟩ := (id Vo)
    have hin19 : ¬ ((((aa + (1 : Int32)) + (1 : Int32)) + (1 : Int32)) < 0 ∨ cl19.slots.size ≤ ((((aa + (1 : Int32)) + (1 : Int32)) + (1 : Int32))).toNatClampNeg) := own_inbK S19 ik18 hb10 hM10 (by decide)
    refine ob_ (X0.baloadBytes hx (j := (((aa + (1 : Int32)) + (1 : Int32)) + (1 : Int32))) (v := (.int (10 : Int32))) (by rw [e0]; exact Ar19.1) (State.isArrayOf_alike hZ.alike Ar19.2.1) Ar19.2.2 hin19 (H19.at hin19 (own_rd 3 (own_jj ik18 hb10) (Nat.le_of_ble_eq_true rfl) rfl)) (g := (mkF m 115 #[.val (.ref ot), .val (.int aa), .val (.int (42 : Int32)), .val (.int (0 : Int32)), .val (.int (1 : Int32)), .val (.int ((aa + (1 : Int32)) + (1 : Int32)))] [(.int (((aa + (1 : Int32)) + (1 : Int32)) + (1 : Int32))), (.ref ot)])) rfl rfl (hb hby D7_115)) ?_
    refine oBi X0 hx hby D7_116 (z := (10 : Int32)) rfl ?_
    refine n_icmpYes X0 hx hby D7_118 (pc0 := 118) (pc' := 123) rfl (teq (by decide : (10 : Int32) = (10 : Int32))).1 (by decide) (by decide) ?_
    refine n_iload X0 hx hby D7_123 rfl ?_
    refine oIc X0 hx hby D7_125 (z := (2 : Int32)) rfl ?_
    refine n_iadd X0 hx hby D7_126 ?_
    show own_Go p e below (s₁.setTop (mkF m 127 #[.val (.ref ot), .val (.int aa), .val (.int (42 : Int32)), .val (.int (0 : Int32)), .val (.int (1 : Int32)), .val (.int ((aa + (1 : Int32)) + (1 : Int32)))] [(.int (((aa + (1 : Int32)) + (1 : Int32)) + (2 : Int32)))])) _
    have ik20 : own_is (((aa + (1 : Int32)) + (1 : Int32)) + (2 : Int32)) aa 4 := own_isS (k := 2) ik16 rg13 (by decide) (by decide)
    obtain ⟨fs, hr, hrun, hended, hW, hsame⟩ := X0.leave (v := some (.int (((aa + (1 : Int32)) + (1 : Int32)) + (2 : Int32)))) (fun h => by rw [Bd.returns] at h; cases h)
    refine ⟨_, _, retI X0 hx Bd.returns (hb hby D7_127) hr, hrun, hended, _, _, rfl, ?_, ⟨_, rfl⟩, hW, hsame.mono (by decide) (by decide)⟩
    show Q_rm_hd42 Z ot kk nn cc pr po aa (0 : Int32) h0 n0 _ s₁.heap _
    rw [e0]
    exact ⟨(((aa + (1 : Int32)) + (1 : Int32)) + (2 : Int32)), rfl, N0, rfl, (own_hz ik20 (by rw [own_hn_0]; rfl))⟩
  · skip
    show own_Go p e below (s₁.setTop (mkF m 0 #[.val (.ref ot), .val (.int aa), .val (.int (42 : Int32)), .val (.int (1 : Int32)), .unset, .unset] [])) _
    have hn_1 := own_hn_1
    have nl21 : ¬ (aa < (0 : Int32)) := by
      have iv22 : ((0 : Int32) : Int32).toInt = 0 := rfl
      exact own_nlt (by omega)
    have Vo : Arv Z h0 ot kk .byte nn (pr ++ ([(.int (42 : Int32)), (.int (49 : Int32)), (.int (13 : Int32)), (.int (10 : Int32))] ++ po)) (.int (0 : Int32)) := by have q := Fo; rw [hcc, own_hd_1] at q; exact q
    refine n_iloadN X0 hx hby D7_0 rfl ?_
    refine n_ifYes X0 hx hby D7_1 (pc0 := 1) (pc' := 6) rfl ((if0 _ _).trans (flt nl21).2.1) (by decide) (by decide) ?_
    refine n_iloadN X0 hx hby D7_6 rfl ?_
    refine oBi X0 hx hby D7_7 (z := (10 : Int32)) rfl ?_
    refine n_icmpYes X0 hx hby D7_9 (pc0 := 9) (pc' := 16) rfl (tlt (by decide : (1 : Int32) < (10 : Int32))).1 (by decide) (by decide) ?_
    refine oIc X0 hx hby D7_16 (z := (1 : Int32)) rfl ?_
    refine n_istore X0 hx hby D7_17 (l' := #[.val (.ref ot), .val (.int aa), .val (.int (42 : Int32)), .val (.int (1 : Int32)), .val (.int (1 : Int32)), .unset]) rfl ?_
    refine n_iloadN X0 hx hby D7_19 rfl ?_
    refine oIc X0 hx hby D7_20 (z := (1 : Int32)) rfl ?_
    refine n_iadd X0 hx hby D7_21 ?_
    refine n_iload X0 hx hby D7_22 rfl ?_
    refine n_iadd X0 hx hby D7_24 ?_
    refine oIc X0 hx hby D7_25 (z := (2 : Int32)) rfl ?_
    refine n_iadd X0 hx hby D7_26 ?_
    refine n_aloadN X0 hx hby D7_27 rfl rfl ?_
    obtain ⟨cl23, Ar23, q23, S23, M23, H23, G23⟩ := (id Vo)
    refine ob_ (X0.arraylength hx (by rw [e0]; exact Ar23.1) (State.isArrayOf_alike hZ.alike Ar23.2.1) (g := (mkF m 28 #[.val (.ref ot), .val (.int aa), .val (.int (42 : Int32)), .val (.int (1 : Int32)), .val (.int (1 : Int32)), .unset] [(.ref ot), (.int (((aa + (1 : Int32)) + (1 : Int32)) + (2 : Int32)))])) rfl rfl (hb hby D7_28)) ?_
    rw [len_of S23 M23]
    show own_Go p e below (s₁.setTop (mkF m 29 #[.val (.ref ot), .val (.int aa), .val (.int (42 : Int32)), .val (.int (1 : Int32)), .val (.int (1 : Int32)), .unset] [(.int nn), (.int (((aa + (1 : Int32)) + (1 : Int32)) + (2 : Int32)))])) _
    have nl24 : ¬ (nn < (((aa + (1 : Int32)) + (1 : Int32)) + (2 : Int32))) := by
      have iv25 : ((1 : Int32) : Int32).toInt = 1 := rfl
      have iv26 : ((aa + (1 : Int32)) : Int32).toInt = (aa : Int32).toInt + ((1 : Int32) : Int32).toInt := own_ia (by omega)
      have iv27 : (((aa + (1 : Int32)) + (1 : Int32)) : Int32).toInt = ((aa + (1 : Int32)) : Int32).toInt + ((1 : Int32) : Int32).toInt := own_ia (by omega)
      have iv28 : ((2 : Int32) : Int32).toInt = 2 := rfl
      have iv29 : ((((aa + (1 : Int32)) + (1 : Int32)) + (2 : Int32)) : Int32).toInt = (((aa + (1 : Int32)) + (1 : Int32)) : Int32).toInt + ((2 : Int32) : Int32).toInt := own_ia (by omega)
      exact own_nlt (by omega)
    refine n_icmpYes X0 hx hby D7_29 (pc0 := 29) (pc' := 34) rfl (flt nl24).2.2.2 (by decide) (by decide) ?_
    refine n_aloadN X0 hx hby D7_34 rfl rfl ?_
    refine n_iloadN X0 hx hby D7_35 rfl ?_
    have hb30 : aa.toInt = (pr.length : Int) := by omega
    have hM30 : (pr.length : Int) + ((4 : Nat) : Int) ≤ nn.toInt := by omega
    have ik31 : own_is aa aa 0 := own_is0
    obtain ⟨cl32, Ar32, q32, S32, M32, H32, G32⟩ := (id Vo)
    have hin32 : ¬ (aa < 0 ∨ cl32.slots.size ≤ (aa).toNatClampNeg) := own_inbK S32 ik31 hb30 hM30 (by decide)
    refine ob_ (X0.baloadBytes hx (j := aa) (v := (.int (42 : Int32))) (by rw [e0]; exact Ar32.1) (State.isArrayOf_alike hZ.alike Ar32.2.1) Ar32.2.2 hin32 (H32.at hin32 (own_rd 0 (own_jj ik31 hb30) (Nat.le_of_ble_eq_true rfl) rfl)) (g := (mkF m 36 #[.val (.ref ot), .val (.int aa), .val (.int (42 : Int32)), .val (.int (1 : Int32)), .val (.int (1 : Int32)), .unset] [(.int aa), (.ref ot)])) rfl rfl (hb hby D7_36)) ?_
    refine n_iloadN X0 hx hby D7_37 rfl ?_
    refine n_i2b X0 hx hby D7_38 ?_
    show own_Go p e below (s₁.setTop (mkF m 39 #[.val (.ref ot), .val (.int aa), .val (.int (42 : Int32)), .val (.int (1 : Int32)), .val (.int (1 : Int32)), .unset] [(.int ((42 : Int32).toInt8.toInt32)), (.int (42 : Int32))])) _
    rw [show (((42 : Int32).toInt8.toInt32) : Int32) = (42 : Int32) from by decide]
    show own_Go p e below (s₁.setTop (mkF m 39 #[.val (.ref ot), .val (.int aa), .val (.int (42 : Int32)), .val (.int (1 : Int32)), .val (.int (1 : Int32)), .unset] [(.int (42 : Int32)), (.int (42 : Int32))])) _
    refine n_icmpYes X0 hx hby D7_39 (pc0 := 39) (pc' := 44) rfl (teq (by decide : (42 : Int32) = (42 : Int32))).1 (by decide) (by decide) ?_
    refine n_iload X0 hx hby D7_44 rfl ?_
    refine oIc X0 hx hby D7_46 (z := (1 : Int32)) rfl ?_
    refine n_icmpNo X0 hx hby D7_47 (teq (by decide : (1 : Int32) = (1 : Int32))).2 ?_
    refine n_aloadN X0 hx hby D7_50 rfl rfl ?_
    refine n_iloadN X0 hx hby D7_51 rfl ?_
    refine oIc X0 hx hby D7_52 (z := (1 : Int32)) rfl ?_
    refine n_iadd X0 hx hby D7_53 ?_
    have rg33 : own_rg aa := ⟨by omega, by omega⟩
    have ik34 : own_is (aa + (1 : Int32)) aa 1 := own_isS (k := 1) ik31 rg33 (by decide) (by decide)
    obtain ⟨cl35, Ar35, q35, S35, M35, H35, G35⟩ := (id Vo)
    have hin35 : ¬ ((aa + (1 : Int32)) < 0 ∨ cl35.slots.size ≤ ((aa + (1 : Int32))).toNatClampNeg) := own_inbK S35 ik34 hb30 hM30 (by decide)
    refine ob_ (X0.baloadBytes hx (j := (aa + (1 : Int32))) (v := (.int (49 : Int32))) (by rw [e0]; exact Ar35.1) (State.isArrayOf_alike hZ.alike Ar35.2.1) Ar35.2.2 hin35 (H35.at hin35 (own_rd 1 (own_jj ik34 hb30) (Nat.le_of_ble_eq_true rfl) rfl)) (g := (mkF m 54 #[.val (.ref ot), .val (.int aa), .val (.int (42 : Int32)), .val (.int (1 : Int32)), .val (.int (1 : Int32)), .unset] [(.int (aa + (1 : Int32))), (.ref ot)])) rfl rfl (hb hby D7_54)) ?_
    refine oBi X0 hx hby D7_55 (z := (48 : Int32)) rfl ?_
    refine n_iloadN X0 hx hby D7_57 rfl ?_
    refine n_iadd X0 hx hby D7_58 ?_
    show own_Go p e below (s₁.setTop (mkF m 59 #[.val (.ref ot), .val (.int aa), .val (.int (42 : Int32)), .val (.int (1 : Int32)), .val (.int (1 : Int32)), .unset] [(.int ((48 : Int32) + (1 : Int32))), (.int (49 : Int32))])) _
    rw [show (((48 : Int32) + (1 : Int32)) : Int32) = (49 : Int32) from by decide]
    show own_Go p e below (s₁.setTop (mkF m 59 #[.val (.ref ot), .val (.int aa), .val (.int (42 : Int32)), .val (.int (1 : Int32)), .val (.int (1 : Int32)), .unset] [(.int (49 : Int32)), (.int (49 : Int32))])) _
    refine n_i2b X0 hx hby D7_59 ?_
    show own_Go p e below (s₁.setTop (mkF m 60 #[.val (.ref ot), .val (.int aa), .val (.int (42 : Int32)), .val (.int (1 : Int32)), .val (.int (1 : Int32)), .unset] [(.int ((49 : Int32).toInt8.toInt32)), (.int (49 : Int32))])) _
    rw [show (((49 : Int32).toInt8.toInt32) : Int32) = (49 : Int32) from by decide]
    show own_Go p e below (s₁.setTop (mkF m 60 #[.val (.ref ot), .val (.int aa), .val (.int (42 : Int32)), .val (.int (1 : Int32)), .val (.int (1 : Int32)), .unset] [(.int (49 : Int32)), (.int (49 : Int32))])) _
    refine n_icmpYes X0 hx hby D7_60 (pc0 := 60) (pc' := 93) rfl (teq (by decide : (49 : Int32) = (49 : Int32))).1 (by decide) (by decide) ?_
    refine n_iloadN X0 hx hby D7_93 rfl ?_
    refine oIc X0 hx hby D7_94 (z := (1 : Int32)) rfl ?_
    refine n_iadd X0 hx hby D7_95 ?_
    refine n_iload X0 hx hby D7_96 rfl ?_
    refine n_iadd X0 hx hby D7_98 ?_
    refine n_istore X0 hx hby D7_99 (l' := #[.val (.ref ot), .val (.int aa), .val (.int (42 : Int32)), .val (.int (1 : Int32)), .val (.int (1 : Int32)), .val (.int ((aa + (1 : Int32)) + (1 : Int32)))]) rfl ?_
    refine n_aloadN X0 hx hby D7_101 rfl rfl ?_
    refine n_iload X0 hx hby D7_102 rfl ?_
    have ik36 : own_is ((aa + (1 : Int32)) + (1 : Int32)) aa 2 := own_isS (k := 1) ik34 rg33 (by decide) (by decide)
    obtain ⟨cl37, Ar37, q37, S37, M37, H37, G37⟩ := (id Vo)
    have hin37 : ¬ (((aa + (1 : Int32)) + (1 : Int32)) < 0 ∨ cl37.slots.size ≤ (((aa + (1 : Int32)) + (1 : Int32))).toNatClampNeg) := own_inbK S37 ik36 hb30 hM30 (by decide)
    refine ob_ (X0.baloadBytes hx (j := ((aa + (1 : Int32)) + (1 : Int32))) (v := (.int (13 : Int32))) (by rw [e0]; exact Ar37.1) (State.isArrayOf_alike hZ.alike Ar37.2.1) Ar37.2.2 hin37 (H37.at hin37 (own_rd 2 (own_jj ik36 hb30) (Nat.le_of_ble_eq_true rfl) rfl)) (g := (mkF m 104 #[.val (.ref ot), .val (.int aa), .val (.int (42 : Int32)), .val (.int (1 : Int32)), .val (.int (1 : Int32)), .val (.int ((aa + (1 : Int32)) + (1 : Int32)))] [(.int ((aa + (1 : Int32)) + (1 : Int32))), (.ref ot)])) rfl rfl (hb hby D7_104)) ?_
    refine oBi X0 hx hby D7_105 (z := (13 : Int32)) rfl ?_
    refine n_icmpNo X0 hx hby D7_107 (teq (by decide : (13 : Int32) = (13 : Int32))).2 ?_
    refine n_aloadN X0 hx hby D7_110 rfl rfl ?_
    refine n_iload X0 hx hby D7_111 rfl ?_
    refine oIc X0 hx hby D7_113 (z := (1 : Int32)) rfl ?_
    refine n_iadd X0 hx hby D7_114 ?_
    have ik38 : own_is (((aa + (1 : Int32)) + (1 : Int32)) + (1 : Int32)) aa 3 := own_isS (k := 1) ik36 rg33 (by decide) (by decide)
    obtain ⟨cl39, Ar39, q39, S39, M39, H39, G39⟩ := (id Vo)
    have hin39 : ¬ ((((aa + (1 : Int32)) + (1 : Int32)) + (1 : Int32)) < 0 ∨ cl39.slots.size ≤ ((((aa + (1 : Int32)) + (1 : Int32)) + (1 : Int32))).toNatClampNeg) := own_inbK S39 ik38 hb30 hM30 (by decide)
    refine ob_ (X0.baloadBytes hx (j := (((aa + (1 : Int32)) + (1 : Int32)) + (1 : Int32))) (v := (.int (10 : Int32))) (by rw [e0]; exact Ar39.1) (State.isArrayOf_alike hZ.alike Ar39.2.1) Ar39.2.2 hin39 (H39.at hin39 (own_rd 3 (own_jj ik38 hb30) (Nat.le_of_ble_eq_true rfl) rfl)) (g := (mkF m 115 #[.val (.ref ot), .val (.int aa), .val (.int (42 : Int32)), .val (.int (1 : Int32)), .val (.int (1 : Int32)), .val (.int ((aa + (1 : Int32)) + (1 : Int32)))] [(.int (((aa + (1 : Int32)) + (1 : Int32)) + (1 : Int32))), (.ref ot)])) rfl rfl (hb hby D7_115)) ?_
    refine oBi X0 hx hby D7_116 (z := (10 : Int32)) rfl ?_
    refine n_icmpYes X0 hx hby D7_118 (pc0 := 118) (pc' := 123) rfl (teq (by decide : (10 : Int32) = (10 : Int32))).1 (by decide) (by decide) ?_
    refine n_iload X0 hx hby D7_123 rfl ?_
    refine oIc X0 hx hby D7_125 (z := (2 : Int32)) rfl ?_
    refine n_iadd X0 hx hby D7_126 ?_
    show own_Go p e below (s₁.setTop (mkF m 127 #[.val (.ref ot), .val (.int aa), .val (.int (42 : Int32)), .val (.int (1 : Int32)), .val (.int (1 : Int32)), .val (.int ((aa + (1 : Int32)) + (1 : Int32)))] [(.int (((aa + (1 : Int32)) + (1 : Int32)) + (2 : Int32)))])) _
    have ik40 : own_is (((aa + (1 : Int32)) + (1 : Int32)) + (2 : Int32)) aa 4 := own_isS (k := 2) ik36 rg33 (by decide) (by decide)
    obtain ⟨fs, hr, hrun, hended, hW, hsame⟩ := X0.leave (v := some (.int (((aa + (1 : Int32)) + (1 : Int32)) + (2 : Int32)))) (fun h => by rw [Bd.returns] at h; cases h)
    refine ⟨_, _, retI X0 hx Bd.returns (hb hby D7_127) hr, hrun, hended, _, _, rfl, ?_, ⟨_, rfl⟩, hW, hsame.mono (by decide) (by decide)⟩
    show Q_rm_hd42 Z ot kk nn cc pr po aa (1 : Int32) h0 n0 _ s₁.heap _
    rw [e0]
    exact ⟨(((aa + (1 : Int32)) + (1 : Int32)) + (2 : Int32)), rfl, N0, rfl, (own_hz ik40 (by rw [own_hn_1]; rfl))⟩
  · skip
    show own_Go p e below (s₁.setTop (mkF m 0 #[.val (.ref ot), .val (.int aa), .val (.int (42 : Int32)), .val (.int (2 : Int32)), .unset, .unset] [])) _
    have hn_2 := own_hn_2
    have nl41 : ¬ (aa < (0 : Int32)) := by
      have iv42 : ((0 : Int32) : Int32).toInt = 0 := rfl
      exact own_nlt (by omega)
    have Vo : Arv Z h0 ot kk .byte nn (pr ++ ([(.int (42 : Int32)), (.int (50 : Int32)), (.int (13 : Int32)), (.int (10 : Int32))] ++ po)) (.int (0 : Int32)) := by have q := Fo; rw [hcc, own_hd_2] at q; exact q
    refine n_iloadN X0 hx hby D7_0 rfl ?_
    refine n_ifYes X0 hx hby D7_1 (pc0 := 1) (pc' := 6) rfl ((if0 _ _).trans (flt nl41).2.1) (by decide) (by decide) ?_
    refine n_iloadN X0 hx hby D7_6 rfl ?_
    refine oBi X0 hx hby D7_7 (z := (10 : Int32)) rfl ?_
    refine n_icmpYes X0 hx hby D7_9 (pc0 := 9) (pc' := 16) rfl (tlt (by decide : (2 : Int32) < (10 : Int32))).1 (by decide) (by decide) ?_
    refine oIc X0 hx hby D7_16 (z := (1 : Int32)) rfl ?_
    refine n_istore X0 hx hby D7_17 (l' := #[.val (.ref ot), .val (.int aa), .val (.int (42 : Int32)), .val (.int (2 : Int32)), .val (.int (1 : Int32)), .unset]) rfl ?_
    refine n_iloadN X0 hx hby D7_19 rfl ?_
    refine oIc X0 hx hby D7_20 (z := (1 : Int32)) rfl ?_
    refine n_iadd X0 hx hby D7_21 ?_
    refine n_iload X0 hx hby D7_22 rfl ?_
    refine n_iadd X0 hx hby D7_24 ?_
    refine oIc X0 hx hby D7_25 (z := (2 : Int32)) rfl ?_
    refine n_iadd X0 hx hby D7_26 ?_
    refine n_aloadN X0 hx hby D7_27 rfl rfl ?_
    obtain ⟨cl43, Ar43, q43, S43, M43, H43, G43⟩ := (id Vo)
    refine ob_ (X0.arraylength hx (by rw [e0]; exact Ar43.1) (State.isArrayOf_alike hZ.alike Ar43.2.1) (g := (mkF m 28 #[.val (.ref ot), .val (.int aa), .val (.int (42 : Int32)), .val (.int (2 : Int32)), .val (.int (1 : Int32)), .unset] [(.ref ot), (.int (((aa + (1 : Int32)) + (1 : Int32)) + (2 : Int32)))])) rfl rfl (hb hby D7_28)) ?_
    rw [len_of S43 M43]
    show own_Go p e below (s₁.setTop (mkF m 29 #[.val (.ref ot), .val (.int aa), .val (.int (42 : Int32)), .val (.int (2 : Int32)), .val (.int (1 : Int32)), .unset] [(.int nn), (.int (((aa + (1 : Int32)) + (1 : Int32)) + (2 : Int32)))])) _
    have nl44 : ¬ (nn < (((aa + (1 : Int32)) + (1 : Int32)) + (2 : Int32))) := by
      have iv45 : ((1 : Int32) : Int32).toInt = 1 := rfl
      have iv46 : ((aa + (1 : Int32)) : Int32).toInt = (aa : Int32).toInt + ((1 : Int32) : Int32).toInt := own_ia (by omega)
      have iv47 : (((aa + (1 : Int32)) + (1 : Int32)) : Int32).toInt = ((aa + (1 : Int32)) : Int32).toInt + ((1 : Int32) : Int32).toInt := own_ia (by omega)
      have iv48 : ((2 : Int32) : Int32).toInt = 2 := rfl
      have iv49 : ((((aa + (1 : Int32)) + (1 : Int32)) + (2 : Int32)) : Int32).toInt = (((aa + (1 : Int32)) + (1 : Int32)) : Int32).toInt + ((2 : Int32) : Int32).toInt := own_ia (by omega)
      exact own_nlt (by omega)
    refine n_icmpYes X0 hx hby D7_29 (pc0 := 29) (pc' := 34) rfl (flt nl44).2.2.2 (by decide) (by decide) ?_
    refine n_aloadN X0 hx hby D7_34 rfl rfl ?_
    refine n_iloadN X0 hx hby D7_35 rfl ?_
    have hb50 : aa.toInt = (pr.length : Int) := by omega
    have hM50 : (pr.length : Int) + ((4 : Nat) : Int) ≤ nn.toInt := by omega
    have ik51 : own_is aa aa 0 := own_is0
    obtain ⟨cl52, Ar52, q52, S52, M52, H52, G52⟩ := (id Vo)
    have hin52 : ¬ (aa < 0 ∨ cl52.slots.size ≤ (aa).toNatClampNeg) := own_inbK S52 ik51 hb50 hM50 (by decide)
    refine ob_ (X0.baloadBytes hx (j := aa) (v := (.int (42 : Int32))) (by rw [e0]; exact Ar52.1) (State.isArrayOf_alike hZ.alike Ar52.2.1) Ar52.2.2 hin52 (H52.at hin52 (own_rd 0 (own_jj ik51 hb50) (Nat.le_of_ble_eq_true rfl) rfl)) (g := (mkF m 36 #[.val (.ref ot), .val (.int aa), .val (.int (42 : Int32)), .val (.int (2 : Int32)), .val (.int (1 : Int32)), .unset] [(.int aa), (.ref ot)])) rfl rfl (hb hby D7_36)) ?_
    refine n_iloadN X0 hx hby D7_37 rfl ?_
    refine n_i2b X0 hx hby D7_38 ?_
    show own_Go p e below (s₁.setTop (mkF m 39 #[.val (.ref ot), .val (.int aa), .val (.int (42 : Int32)), .val (.int (2 : Int32)), .val (.int (1 : Int32)), .unset] [(.int ((42 : Int32).toInt8.toInt32)), (.int (42 : Int32))])) _
    rw [show (((42 : Int32).toInt8.toInt32) : Int32) = (42 : Int32) from by decide]
    show own_Go p e below (s₁.setTop (mkF m 39 #[.val (.ref ot), .val (.int aa), .val (.int (42 : Int32)), .val (.int (2 : Int32)), .val (.int (1 : Int32)), .unset] [(.int (42 : Int32)), (.int (42 : Int32))])) _
    refine n_icmpYes X0 hx hby D7_39 (pc0 := 39) (pc' := 44) rfl (teq (by decide : (42 : Int32) = (42 : Int32))).1 (by decide) (by decide) ?_
    refine n_iload X0 hx hby D7_44 rfl ?_
    refine oIc X0 hx hby D7_46 (z := (1 : Int32)) rfl ?_
    refine n_icmpNo X0 hx hby D7_47 (teq (by decide : (1 : Int32) = (1 : Int32))).2 ?_
    refine n_aloadN X0 hx hby D7_50 rfl rfl ?_
    refine n_iloadN X0 hx hby D7_51 rfl ?_
    refine oIc X0 hx hby D7_52 (z := (1 : Int32)) rfl ?_
    refine n_iadd X0 hx hby D7_53 ?_
    have rg53 : own_rg aa := ⟨by omega, by omega⟩
    have ik54 : own_is (aa + (1 : Int32)) aa 1 := own_isS (k := 1) ik51 rg53 (by decide) (by decide)
    obtain ⟨cl55, Ar55, q55, S55, M55, H55, G55⟩ := (id Vo)
    have hin55 : ¬ ((aa + (1 : Int32)) < 0 ∨ cl55.slots.size ≤ ((aa + (1 : Int32))).toNatClampNeg) := own_inbK S55 ik54 hb50 hM50 (by decide)
    refine ob_ (X0.baloadBytes hx (j := (aa + (1 : Int32))) (v := (.int (50 : Int32))) (by rw [e0]; exact Ar55.1) (State.isArrayOf_alike hZ.alike Ar55.2.1) Ar55.2.2 hin55 (H55.at hin55 (own_rd 1 (own_jj ik54 hb50) (Nat.le_of_ble_eq_true rfl) rfl)) (g := (mkF m 54 #[.val (.ref ot), .val (.int aa), .val (.int (42 : Int32)), .val (.int (2 : Int32)), .val (.int (1 : Int32)), .unset] [(.int (aa + (1 : Int32))), (.ref ot)])) rfl rfl (hb hby D7_54)) ?_
    refine oBi X0 hx hby D7_55 (z := (48 : Int32)) rfl ?_
    refine n_iloadN X0 hx hby D7_57 rfl ?_
    refine n_iadd X0 hx hby D7_58 ?_
    show own_Go p e below (s₁.setTop (mkF m 59 #[.val (.ref ot), .val (.int aa), .val (.int (42 : Int32)), .val (.int (2 : Int32)), .val (.int (1 : Int32)), .unset] [(.int ((48 : Int32) + (2 : Int32))), (.int (50 : Int32))])) _
    rw [show (((48 : Int32) + (2 : Int32)) : Int32) = (50 : Int32) from by decide]
    show own_Go p e below (s₁.setTop (mkF m 59 #[.val (.ref ot), .val (.int aa), .val (.int (42 : Int32)), .val (.int (2 : Int32)), .val (.int (1 : Int32)), .unset] [(.int (50 : Int32)), (.int (50 : Int32))])) _
    refine n_i2b X0 hx hby D7_59 ?_
    show own_Go p e below (s₁.setTop (mkF m 60 #[.val (.ref ot), .val (.int aa), .val (.int (42 : Int32)), .val (.int (2 : Int32)), .val (.int (1 : Int32)), .unset] [(.int ((50 : Int32).toInt8.toInt32)), (.int (50 : Int32))])) _
    rw [show (((50 : Int32).toInt8.toInt32) : Int32) = (50 : Int32) from by decide]
    show own_Go p e below (s₁.setTop (mkF m 60 #[.val (.ref ot), .val (.int aa), .val (.int (42 : Int32)), .val (.int (2 : Int32)), .val (.int (1 : Int32)), .unset] [(.int (50 : Int32)), (.int (50 : Int32))])) _
    refine n_icmpYes X0 hx hby D7_60 (pc0 := 60) (pc' := 93) rfl (teq (by decide : (50 : Int32) = (50 : Int32))).1 (by decide) (by decide) ?_
    refine n_iloadN X0 hx hby D7_93 rfl ?_
    refine oIc X0 hx hby D7_94 (z := (1 : Int32)) rfl ?_
    refine n_iadd X0 hx hby D7_95 ?_
    refine n_iload X0 hx hby D7_96 rfl ?_
    refine n_iadd X0 hx hby D7_98 ?_
    refine n_istore X0 hx hby D7_99 (l' := #[.val (.ref ot), .val (.int aa), .val (.int (42 : Int32)), .val (.int (2 : Int32)), .val (.int (1 : Int32)), .val (.int ((aa + (1 : Int32)) + (1 : Int32)))]) rfl ?_
    refine n_aloadN X0 hx hby D7_101 rfl rfl ?_
    refine n_iload X0 hx hby D7_102 rfl ?_
    have ik56 : own_is ((aa + (1 : Int32)) + (1 : Int32)) aa 2 := own_isS (k := 1) ik54 rg53 (by decide) (by decide)
    obtain ⟨cl57, Ar57, q57, S57, M57, H57, G57⟩ := (id Vo)
    have hin57 : ¬ (((aa + (1 : Int32)) + (1 : Int32)) < 0 ∨ cl57.slots.size ≤ (((aa + (1 : Int32)) + (1 : Int32))).toNatClampNeg) := own_inbK S57 ik56 hb50 hM50 (by decide)
    refine ob_ (X0.baloadBytes hx (j := ((aa + (1 : Int32)) + (1 : Int32))) (v := (.int (13 : Int32))) (by rw [e0]; exact Ar57.1) (State.isArrayOf_alike hZ.alike Ar57.2.1) Ar57.2.2 hin57 (H57.at hin57 (own_rd 2 (own_jj ik56 hb50) (Nat.le_of_ble_eq_true rfl) rfl)) (g := (mkF m 104 #[.val (.ref ot), .val (.int aa), .val (.int (42 : Int32)), .val (.int (2 : Int32)), .val (.int (1 : Int32)), .val (.int ((aa + (1 : Int32)) + (1 : Int32)))] [(.int ((aa + (1 : Int32)) + (1 : Int32))), (.ref ot)])) rfl rfl (hb hby D7_104)) ?_
    refine oBi X0 hx hby D7_105 (z := (13 : Int32)) rfl ?_
    refine n_icmpNo X0 hx hby D7_107 (teq (by decide : (13 : Int32) = (13 : Int32))).2 ?_
    refine n_aloadN X0 hx hby D7_110 rfl rfl ?_
    refine n_iload X0 hx hby D7_111 rfl ?_
    refine oIc X0 hx hby D7_113 (z := (1 : Int32)) rfl ?_
    refine n_iadd X0 hx hby D7_114 ?_
    have ik58 : own_is (((aa + (1 : Int32)) + (1 : Int32)) + (1 : Int32)) aa 3 := own_isS (k := 1) ik56 rg53 (by decide) (by decide)
    obtain ⟨cl59, Ar59, q59, S59, M59, H59, G59⟩ := (id Vo)
    have hin59 : ¬ ((((aa + (1 : Int32)) + (1 : Int32)) + (1 : Int32)) < 0 ∨ cl59.slots.size ≤ ((((aa + (1 : Int32)) + (1 : Int32)) + (1 : Int32))).toNatClampNeg) := own_inbK S59 ik58 hb50 hM50 (by decide)
    refine ob_ (X0.baloadBytes hx (j := (((aa + (1 : Int32)) + (1 : Int32)) + (1 : Int32))) (v := (.int (10 : Int32))) (by rw [e0]; exact Ar59.1) (State.isArrayOf_alike hZ.alike Ar59.2.1) Ar59.2.2 hin59 (H59.at hin59 (own_rd 3 (own_jj ik58 hb50) (Nat.le_of_ble_eq_true rfl) rfl)) (g := (mkF m 115 #[.val (.ref ot), .val (.int aa), .val (.int (42 : Int32)), .val (.int (2 : Int32)), .val (.int (1 : Int32)), .val (.int ((aa + (1 : Int32)) + (1 : Int32)))] [(.int (((aa + (1 : Int32)) + (1 : Int32)) + (1 : Int32))), (.ref ot)])) rfl rfl (hb hby D7_115)) ?_
    refine oBi X0 hx hby D7_116 (z := (10 : Int32)) rfl ?_
    refine n_icmpYes X0 hx hby D7_118 (pc0 := 118) (pc' := 123) rfl (teq (by decide : (10 : Int32) = (10 : Int32))).1 (by decide) (by decide) ?_
    refine n_iload X0 hx hby D7_123 rfl ?_
    refine oIc X0 hx hby D7_125 (z := (2 : Int32)) rfl ?_
    refine n_iadd X0 hx hby D7_126 ?_
    show own_Go p e below (s₁.setTop (mkF m 127 #[.val (.ref ot), .val (.int aa), .val (.int (42 : Int32)), .val (.int (2 : Int32)), .val (.int (1 : Int32)), .val (.int ((aa + (1 : Int32)) + (1 : Int32)))] [(.int (((aa + (1 : Int32)) + (1 : Int32)) + (2 : Int32)))])) _
    have ik60 : own_is (((aa + (1 : Int32)) + (1 : Int32)) + (2 : Int32)) aa 4 := own_isS (k := 2) ik56 rg53 (by decide) (by decide)
    obtain ⟨fs, hr, hrun, hended, hW, hsame⟩ := X0.leave (v := some (.int (((aa + (1 : Int32)) + (1 : Int32)) + (2 : Int32)))) (fun h => by rw [Bd.returns] at h; cases h)
    refine ⟨_, _, retI X0 hx Bd.returns (hb hby D7_127) hr, hrun, hended, _, _, rfl, ?_, ⟨_, rfl⟩, hW, hsame.mono (by decide) (by decide)⟩
    show Q_rm_hd42 Z ot kk nn cc pr po aa (2 : Int32) h0 n0 _ s₁.heap _
    rw [e0]
    exact ⟨(((aa + (1 : Int32)) + (1 : Int32)) + (2 : Int32)), rfl, N0, rfl, (own_hz ik60 (by rw [own_hn_2]; rfl))⟩
  · skip
    show own_Go p e below (s₁.setTop (mkF m 0 #[.val (.ref ot), .val (.int aa), .val (.int (42 : Int32)), .val (.int (10 : Int32)), .unset, .unset] [])) _
    have hn_10 := own_hn_10
    have nl61 : ¬ (aa < (0 : Int32)) := by
      have iv62 : ((0 : Int32) : Int32).toInt = 0 := rfl
      exact own_nlt (by omega)
    have Vo : Arv Z h0 ot kk .byte nn (pr ++ ([(.int (42 : Int32)), (.int (49 : Int32)), (.int (48 : Int32)), (.int (13 : Int32)), (.int (10 : Int32))] ++ po)) (.int (0 : Int32)) := by have q := Fo; rw [hcc, own_hd_10] at q; exact q
    refine n_iloadN X0 hx hby D7_0 rfl ?_
    refine n_ifYes X0 hx hby D7_1 (pc0 := 1) (pc' := 6) rfl ((if0 _ _).trans (flt nl61).2.1) (by decide) (by decide) ?_
    refine n_iloadN X0 hx hby D7_6 rfl ?_
    refine oBi X0 hx hby D7_7 (z := (10 : Int32)) rfl ?_
    refine n_icmpNo X0 hx hby D7_9 (flt (by decide : ¬ ((10 : Int32) < (10 : Int32)))).1 ?_
    refine oIc X0 hx hby D7_12 (z := (2 : Int32)) rfl ?_
    refine n_goto X0 hx hby D7_13 (pc0 := 13) (pc' := 17) rfl (by decide) (by decide) ?_
    refine n_istore X0 hx hby D7_17 (l' := #[.val (.ref ot), .val (.int aa), .val (.int (42 : Int32)), .val (.int (10 : Int32)), .val (.int (2 : Int32)), .unset]) rfl ?_
    refine n_iloadN X0 hx hby D7_19 rfl ?_
    refine oIc X0 hx hby D7_20 (z := (1 : Int32)) rfl ?_
    refine n_iadd X0 hx hby D7_21 ?_
    refine n_iload X0 hx hby D7_22 rfl ?_
    refine n_iadd X0 hx hby D7_24 ?_
    refine oIc X0 hx hby D7_25 (z := (2 : Int32)) rfl ?_
    refine n_iadd X0 hx hby D7_26 ?_
    refine n_aloadN X0 hx hby D7_27 rfl rfl ?_
    obtain ⟨cl63, Ar63, q63, S63, M63, H63, G63⟩ := (id Vo)
    refine ob_ (X0.arraylength hx (by rw [e0]; exact Ar63.1) (State.isArrayOf_alike hZ.alike Ar63.2.1) (g := (mkF m 28 #[.val (.ref ot), .val (.int aa), .val (.int (42 : Int32)), .val (.int (10 : Int32)), .val (.int (2 : Int32)), .unset] [(.ref ot), (.int (((aa + (1 : Int32)) + (2 : Int32)) + (2 : Int32)))])) rfl rfl (hb hby D7_28)) ?_
    rw [len_of S63 M63]
    show own_Go p e below (s₁.setTop (mkF m 29 #[.val (.ref ot), .val (.int aa), .val (.int (42 : Int32)), .val (.int (10 : Int32)), .val (.int (2 : Int32)), .unset] [(.int nn), (.int (((aa + (1 : Int32)) + (2 : Int32)) + (2 : Int32)))])) _
    have nl64 : ¬ (nn < (((aa + (1 : Int32)) + (2 : Int32)) + (2 : Int32))) := by
      have iv65 : ((1 : Int32) : Int32).toInt = 1 := rfl
      have iv66 : ((aa + (1 : Int32)) : Int32).toInt = (aa : Int32).toInt + ((1 : Int32) : Int32).toInt := own_ia (by omega)
      have iv67 : ((2 : Int32) : Int32).toInt = 2 := rfl
      have iv68 : (((aa + (1 : Int32)) + (2 : Int32)) : Int32).toInt = ((aa + (1 : Int32)) : Int32).toInt + ((2 : Int32) : Int32).toInt := own_ia (by omega)
      have iv69 : ((((aa + (1 : Int32)) + (2 : Int32)) + (2 : Int32)) : Int32).toInt = (((aa + (1 : Int32)) + (2 : Int32)) : Int32).toInt + ((2 : Int32) : Int32).toInt := own_ia (by omega)
      exact own_nlt (by omega)
    refine n_icmpYes X0 hx hby D7_29 (pc0 := 29) (pc' := 34) rfl (flt nl64).2.2.2 (by decide) (by decide) ?_
    refine n_aloadN X0 hx hby D7_34 rfl rfl ?_
    refine n_iloadN X0 hx hby D7_35 rfl ?_
    have hb70 : aa.toInt = (pr.length : Int) := by omega
    have hM70 : (pr.length : Int) + ((5 : Nat) : Int) ≤ nn.toInt := by omega
    have ik71 : own_is aa aa 0 := own_is0
    obtain ⟨cl72, Ar72, q72, S72, M72, H72, G72⟩ := (id Vo)
    have hin72 : ¬ (aa < 0 ∨ cl72.slots.size ≤ (aa).toNatClampNeg) := own_inbK S72 ik71 hb70 hM70 (by decide)
    refine ob_ (X0.baloadBytes hx (j := aa) (v := (.int (42 : Int32))) (by rw [e0]; exact Ar72.1) (State.isArrayOf_alike hZ.alike Ar72.2.1) Ar72.2.2 hin72 (H72.at hin72 (own_rd 0 (own_jj ik71 hb70) (Nat.le_of_ble_eq_true rfl) rfl)) (g := (mkF m 36 #[.val (.ref ot), .val (.int aa), .val (.int (42 : Int32)), .val (.int (10 : Int32)), .val (.int (2 : Int32)), .unset] [(.int aa), (.ref ot)])) rfl rfl (hb hby D7_36)) ?_
    refine n_iloadN X0 hx hby D7_37 rfl ?_
    refine n_i2b X0 hx hby D7_38 ?_
    show own_Go p e below (s₁.setTop (mkF m 39 #[.val (.ref ot), .val (.int aa), .val (.int (42 : Int32)), .val (.int (10 : Int32)), .val (.int (2 : Int32)), .unset] [(.int ((42 : Int32).toInt8.toInt32)), (.int (42 : Int32))])) _
    rw [show (((42 : Int32).toInt8.toInt32) : Int32) = (42 : Int32) from by decide]
    show own_Go p e below (s₁.setTop (mkF m 39 #[.val (.ref ot), .val (.int aa), .val (.int (42 : Int32)), .val (.int (10 : Int32)), .val (.int (2 : Int32)), .unset] [(.int (42 : Int32)), (.int (42 : Int32))])) _
    refine n_icmpYes X0 hx hby D7_39 (pc0 := 39) (pc' := 44) rfl (teq (by decide : (42 : Int32) = (42 : Int32))).1 (by decide) (by decide) ?_
    refine n_iload X0 hx hby D7_44 rfl ?_
    refine oIc X0 hx hby D7_46 (z := (1 : Int32)) rfl ?_
    refine n_icmpYes X0 hx hby D7_47 (pc0 := 47) (pc' := 65) rfl (feq (by decide : ¬ ((2 : Int32) = (1 : Int32)))).2 (by decide) (by decide) ?_
    refine n_aloadN X0 hx hby D7_65 rfl rfl ?_
    refine n_iloadN X0 hx hby D7_66 rfl ?_
    refine oIc X0 hx hby D7_67 (z := (1 : Int32)) rfl ?_
    refine n_iadd X0 hx hby D7_68 ?_
    have rg73 : own_rg aa := ⟨by omega, by omega⟩
    have ik74 : own_is (aa + (1 : Int32)) aa 1 := own_isS (k := 1) ik71 rg73 (by decide) (by decide)
    obtain ⟨cl75, Ar75, q75, S75, M75, H75, G75⟩ := (id Vo)
    have hin75 : ¬ ((aa + (1 : Int32)) < 0 ∨ cl75.slots.size ≤ ((aa + (1 : Int32))).toNatClampNeg) := own_inbK S75 ik74 hb70 hM70 (by decide)
    refine ob_ (X0.baloadBytes hx (j := (aa + (1 : Int32))) (v := (.int (49 : Int32))) (by rw [e0]; exact Ar75.1) (State.isArrayOf_alike hZ.alike Ar75.2.1) Ar75.2.2 hin75 (H75.at hin75 (own_rd 1 (own_jj ik74 hb70) (Nat.le_of_ble_eq_true rfl) rfl)) (g := (mkF m 69 #[.val (.ref ot), .val (.int aa), .val (.int (42 : Int32)), .val (.int (10 : Int32)), .val (.int (2 : Int32)), .unset] [(.int (aa + (1 : Int32))), (.ref ot)])) rfl rfl (hb hby D7_69)) ?_
    refine oBi X0 hx hby D7_70 (z := (49 : Int32)) rfl ?_
    refine n_icmpNo X0 hx hby D7_72 (teq (by decide : (49 : Int32) = (49 : Int32))).2 ?_
    refine n_aloadN X0 hx hby D7_75 rfl rfl ?_
    refine n_iloadN X0 hx hby D7_76 rfl ?_
    refine oIc X0 hx hby D7_77 (z := (2 : Int32)) rfl ?_
    refine n_iadd X0 hx hby D7_78 ?_
    have ik76 : own_is (aa + (2 : Int32)) aa 2 := own_isS (k := 2) ik71 rg73 (by decide) (by decide)
    obtain ⟨cl77, Ar77, q77, S77, M77, H77, G77⟩ := (id Vo)
    have hin77 : ¬ ((aa + (2 : Int32)) < 0 ∨ cl77.slots.size ≤ ((aa + (2 : Int32))).toNatClampNeg) := own_inbK S77 ik76 hb70 hM70 (by decide)
    refine ob_ (X0.baloadBytes hx (j := (aa + (2 : Int32))) (v := (.int (48 : Int32))) (by rw [e0]; exact Ar77.1) (State.isArrayOf_alike hZ.alike Ar77.2.1) Ar77.2.2 hin77 (H77.at hin77 (own_rd 2 (own_jj ik76 hb70) (Nat.le_of_ble_eq_true rfl) rfl)) (g := (mkF m 79 #[.val (.ref ot), .val (.int aa), .val (.int (42 : Int32)), .val (.int (10 : Int32)), .val (.int (2 : Int32)), .unset] [(.int (aa + (2 : Int32))), (.ref ot)])) rfl rfl (hb hby D7_79)) ?_
    refine oBi X0 hx hby D7_80 (z := (48 : Int32)) rfl ?_
    refine n_iloadN X0 hx hby D7_82 rfl ?_
    refine oBi X0 hx hby D7_83 (z := (10 : Int32)) rfl ?_
    refine ob_ (fun _ k => XS.isub X0.here hx rfl (hb hby D7_85) rfl k) ?_
    show own_Go p e below (s₁.setTop (mkF m 86 #[.val (.ref ot), .val (.int aa), .val (.int (42 : Int32)), .val (.int (10 : Int32)), .val (.int (2 : Int32)), .unset] [(.int (0 : Int32)), (.int (48 : Int32)), (.int (48 : Int32))])) _
    show own_Go p e below (s₁.setTop (mkF m 86 #[.val (.ref ot), .val (.int aa), .val (.int (42 : Int32)), .val (.int (10 : Int32)), .val (.int (2 : Int32)), .unset] [(.int ((10 : Int32) - (10 : Int32))), (.int (48 : Int32)), (.int (48 : Int32))])) _
    rw [show (((10 : Int32) - (10 : Int32)) : Int32) = (0 : Int32) from by decide]
    show own_Go p e below (s₁.setTop (mkF m 86 #[.val (.ref ot), .val (.int aa), .val (.int (42 : Int32)), .val (.int (10 : Int32)), .val (.int (2 : Int32)), .unset] [(.int (0 : Int32)), (.int (48 : Int32)), (.int (48 : Int32))])) _
    refine n_iadd X0 hx hby D7_86 ?_
    show own_Go p e below (s₁.setTop (mkF m 87 #[.val (.ref ot), .val (.int aa), .val (.int (42 : Int32)), .val (.int (10 : Int32)), .val (.int (2 : Int32)), .unset] [(.int ((48 : Int32) + (0 : Int32))), (.int (48 : Int32))])) _
    rw [show (((48 : Int32) + (0 : Int32)) : Int32) = (48 : Int32) from by decide]
    show own_Go p e below (s₁.setTop (mkF m 87 #[.val (.ref ot), .val (.int aa), .val (.int (42 : Int32)), .val (.int (10 : Int32)), .val (.int (2 : Int32)), .unset] [(.int (48 : Int32)), (.int (48 : Int32))])) _
    refine n_i2b X0 hx hby D7_87 ?_
    show own_Go p e below (s₁.setTop (mkF m 88 #[.val (.ref ot), .val (.int aa), .val (.int (42 : Int32)), .val (.int (10 : Int32)), .val (.int (2 : Int32)), .unset] [(.int ((48 : Int32).toInt8.toInt32)), (.int (48 : Int32))])) _
    rw [show (((48 : Int32).toInt8.toInt32) : Int32) = (48 : Int32) from by decide]
    show own_Go p e below (s₁.setTop (mkF m 88 #[.val (.ref ot), .val (.int aa), .val (.int (42 : Int32)), .val (.int (10 : Int32)), .val (.int (2 : Int32)), .unset] [(.int (48 : Int32)), (.int (48 : Int32))])) _
    refine n_icmpYes X0 hx hby D7_88 (pc0 := 88) (pc' := 93) rfl (teq (by decide : (48 : Int32) = (48 : Int32))).1 (by decide) (by decide) ?_
    refine n_iloadN X0 hx hby D7_93 rfl ?_
    refine oIc X0 hx hby D7_94 (z := (1 : Int32)) rfl ?_
    refine n_iadd X0 hx hby D7_95 ?_
    refine n_iload X0 hx hby D7_96 rfl ?_
    refine n_iadd X0 hx hby D7_98 ?_
    refine n_istore X0 hx hby D7_99 (l' := #[.val (.ref ot), .val (.int aa), .val (.int (42 : Int32)), .val (.int (10 : Int32)), .val (.int (2 : Int32)), .val (.int ((aa + (1 : Int32)) + (2 : Int32)))]) rfl ?_
    refine n_aloadN X0 hx hby D7_101 rfl rfl ?_
    refine n_iload X0 hx hby D7_102 rfl ?_
    have ik78 : own_is ((aa + (1 : Int32)) + (2 : Int32)) aa 3 := own_isS (k := 2) ik74 rg73 (by decide) (by decide)
    obtain ⟨cl79, Ar79, q79, S79, M79, H79, G79⟩ := (id Vo)
    have hin79 : ¬ (((aa + (1 : Int32)) + (2 : Int32)) < 0 ∨ cl79.slots.size ≤ (((aa + (1 : Int32)) + (2 : Int32))).toNatClampNeg) := own_inbK S79 ik78 hb70 hM70 (by decide)
    refine ob_ (X0.baloadBytes hx (j := ((aa + (1 : Int32)) + (2 : Int32))) (v := (.int (13 : Int32))) (by rw [e0]; exact Ar79.1) (State.isArrayOf_alike hZ.alike Ar79.2.1) Ar79.2.2 hin79 (H79.at hin79 (own_rd 3 (own_jj ik78 hb70) (Nat.le_of_ble_eq_true rfl) rfl)) (g := (mkF m 104 #[.val (.ref ot), .val (.int aa), .val (.int (42 : Int32)), .val (.int (10 : Int32)), .val (.int (2 : Int32)), .val (.int ((aa + (1 : Int32)) + (2 : Int32)))] [(.int ((aa + (1 : Int32)) + (2 : Int32))), (.ref ot)])) rfl rfl (hb hby D7_104)) ?_
    refine oBi X0 hx hby D7_105 (z := (13 : Int32)) rfl ?_
    refine n_icmpNo X0 hx hby D7_107 (teq (by decide : (13 : Int32) = (13 : Int32))).2 ?_
    refine n_aloadN X0 hx hby D7_110 rfl rfl ?_
    refine n_iload X0 hx hby D7_111 rfl ?_
    refine oIc X0 hx hby D7_113 (z := (1 : Int32)) rfl ?_
    refine n_iadd X0 hx hby D7_114 ?_
    have ik80 : own_is (((aa + (1 : Int32)) + (2 : Int32)) + (1 : Int32)) aa 4 := own_isS (k := 1) ik78 rg73 (by decide) (by decide)
    obtain ⟨cl81, Ar81, q81, S81, M81, H81, G81⟩ := (id Vo)
    have hin81 : ¬ ((((aa + (1 : Int32)) + (2 : Int32)) + (1 : Int32)) < 0 ∨ cl81.slots.size ≤ ((((aa + (1 : Int32)) + (2 : Int32)) + (1 : Int32))).toNatClampNeg) := own_inbK S81 ik80 hb70 hM70 (by decide)
    refine ob_ (X0.baloadBytes hx (j := (((aa + (1 : Int32)) + (2 : Int32)) + (1 : Int32))) (v := (.int (10 : Int32))) (by rw [e0]; exact Ar81.1) (State.isArrayOf_alike hZ.alike Ar81.2.1) Ar81.2.2 hin81 (H81.at hin81 (own_rd 4 (own_jj ik80 hb70) (Nat.le_of_ble_eq_true rfl) rfl)) (g := (mkF m 115 #[.val (.ref ot), .val (.int aa), .val (.int (42 : Int32)), .val (.int (10 : Int32)), .val (.int (2 : Int32)), .val (.int ((aa + (1 : Int32)) + (2 : Int32)))] [(.int (((aa + (1 : Int32)) + (2 : Int32)) + (1 : Int32))), (.ref ot)])) rfl rfl (hb hby D7_115)) ?_
    refine oBi X0 hx hby D7_116 (z := (10 : Int32)) rfl ?_
    refine n_icmpYes X0 hx hby D7_118 (pc0 := 118) (pc' := 123) rfl (teq (by decide : (10 : Int32) = (10 : Int32))).1 (by decide) (by decide) ?_
    refine n_iload X0 hx hby D7_123 rfl ?_
    refine oIc X0 hx hby D7_125 (z := (2 : Int32)) rfl ?_
    refine n_iadd X0 hx hby D7_126 ?_
    show own_Go p e below (s₁.setTop (mkF m 127 #[.val (.ref ot), .val (.int aa), .val (.int (42 : Int32)), .val (.int (10 : Int32)), .val (.int (2 : Int32)), .val (.int ((aa + (1 : Int32)) + (2 : Int32)))] [(.int (((aa + (1 : Int32)) + (2 : Int32)) + (2 : Int32)))])) _
    have ik82 : own_is (((aa + (1 : Int32)) + (2 : Int32)) + (2 : Int32)) aa 5 := own_isS (k := 2) ik78 rg73 (by decide) (by decide)
    obtain ⟨fs, hr, hrun, hended, hW, hsame⟩ := X0.leave (v := some (.int (((aa + (1 : Int32)) + (2 : Int32)) + (2 : Int32)))) (fun h => by rw [Bd.returns] at h; cases h)
    refine ⟨_, _, retI X0 hx Bd.returns (hb hby D7_127) hr, hrun, hended, _, _, rfl, ?_, ⟨_, rfl⟩, hW, hsame.mono (by decide) (by decide)⟩
    show Q_rm_hd42 Z ot kk nn cc pr po aa (10 : Int32) h0 n0 _ s₁.heap _
    rw [e0]
    exact ⟨(((aa + (1 : Int32)) + (2 : Int32)) + (2 : Int32)), rfl, N0, rfl, (own_hz ik82 (by rw [own_hn_10]; rfl))⟩
def Q_rm_hd36 (Z : State) (ot : Addr) (kk : ClassId) (nn : Int32) (cc : List Value) (pr : List Value) (po : List Value) (aa : Int32) (cn : Int32) (h0 : Heap) (n0 : Nat) (v : Option Value) (h : Heap) (L : List Loc) : Prop := ∃ (az : Int32), v = some (.int az) ∧ Fr n0 L ∧ h = h0 ∧ az.toInt = aa.toInt + own_hn cn
theorem ef_rm_hd36 (m : MethodId) (ot : Addr) (kk : ClassId) (nn : Int32) (cc : List Value) (pr : List Value) (po : List Value) (aa : Int32) (cn : Int32) : entryFrame m #[(.ref ot), (.int aa), (.int (36 : Int32)), (.int cn)] 6 = mkF m 0 #[.val (.ref ot), .val (.int aa), .val (.int (36 : Int32)), .val (.int cn), .unset, .unset] [] := by first | (simp [entryFrame, mkF, argsToLocals, Value.category]; done) | rfl
set_option maxRecDepth 65536 in
set_option maxHeartbeats 40000000 in
theorem rm_hd36 (l : Launch) (Z : State) (a0 : Array Value) (hw : ∀ d ∈ tables_1, d.before a0 Z = true) (ws : List Jvm.Cond) (ot : Addr) (kk : ClassId) (nn : Int32) (cc : List Value) (pr : List Value) (po : List Value) (aa : Int32) (cn : Int32) (h0 : Heap) (n0 : Nat) (O0 : Old Z n0 h0) (Fo : Arv Z h0 ot kk .byte nn cc (.int (0 : Int32))) (hcn : own_cnt cn) (hcc : cc = pr ++ (own_hd (36 : Int32) cn ++ po)) (haa : aa.toInt = (pr.length : Int)) (hle : (pr.length : Int) + own_hn cn ≤ nn.toInt) (hns : nn.toInt ≤ 1000) :
    MetFree l (⟨s1_, "header", "([BICI)I"⟩ : MethodName) (head1 (Jvm.Cond.code (⟨s1_, "header", "([BICI)I"⟩ : MethodName) method_6_code 6 (some .int) :: ws) ({ frames := 0, cells := 0, slots := 0, locals := 0 } : Room)) (fun a U => a = #[(.ref ot), (.int aa), (.int (36 : Int32)), (.int cn)] ∧ Z.Warmed39 U.vm ∧ U.heap = h0) (fun _ _ _ _ _ => True) (fun _ U o U' => ∃ v L, o = .returned v ∧ Q_rm_hd36 Z ot kk nn cc pr po aa cn h0 n0 v U'.heap L ∧ FrameEnd U o U' L ({ frames := 0, cells := 0, slots := 0, locals := 0 } : Room).cells ({ frames := 0, cells := 0, slots := 0, locals := 0 } : Room).slots) := by
  refine MetFree.of_bodySF (plainFor_of_name own_pn_com_example_living_lease_livinglease_redis_RespCommandPinLaw) hisR ?_
  intro p e s m args below meth c s₁ Bd hml0 hP hK
  obtain ⟨rfl, hZ, hh⟩ := hP
  have hx := Bd.exec
  have hby := Bd.bytes
  have hml : c.maxLocals = 6 := hml0
  have hown : s.vm.findClass s1_ = some m.cls := findClass_of_methodNamed Bd.named
  have hnm := (name_of_methodNamed Bd.named Bd.method).1
  have X0 : Stand p l e ({ frames := 0, cells := 0, slots := 0, locals := 0 } : Room) s m #[(.ref ot), (.int aa), (.int (36 : Int32)), (.int cn)] below meth c s₁ [] 0 0 := Stand.of_body Bd
  have e0 : s₁.heap = h0 := by rw [← hh, Bd.state]; rfl
  have N0 := Fr.nil n0
  have Z0 : n0 ≤ h0.size := by rw [← O0.1]; exact O0.2.1
  show own_Go p e below (s₁.setTop (entryFrame m #[(.ref ot), (.int aa), (.int (36 : Int32)), (.int cn)] 6)) (fun t o => ∃ v L, o = .returned v ∧ Q_rm_hd36 Z ot kk nn cc pr po aa cn h0 n0 v t.heap L ∧ FrameEnd s o t L ({ frames := 0, cells := 0, slots := 0, locals := 0 } : Room).cells ({ frames := 0, cells := 0, slots := 0, locals := 0 } : Room).slots)
  rw [ef_rm_hd36 m ot kk nn cc pr po aa cn]
  have lt_Fo : h0.size > ot := Fo.lt
  rcases hcn with rfl | rfl | rfl | rfl
  · skip
    show own_Go p e below (s₁.setTop (mkF m 0 #[.val (.ref ot), .val (.int aa), .val (.int (36 : Int32)), .val (.int (0 : Int32)), .unset, .unset] [])) _
    have hn_0 := own_hn_0
    have nl1 : ¬ (aa < (0 : Int32)) := by
      have iv2 : ((0 : Int32) : Int32).toInt = 0 := rfl
      exact own_nlt (by omega)
    have Vo : Arv Z h0 ot kk .byte nn (pr ++ ([(.int (36 : Int32)), (.int (48 : Int32)), (.int (13 : Int32)), (.int (10 : Int32))] ++ po)) (.int (0 : Int32)) := by have q := Fo; rw [hcc, own_hd_0] at q; exact q
    refine n_iloadN X0 hx hby D7_0 rfl ?_
    refine n_ifYes X0 hx hby D7_1 (pc0 := 1) (pc' := 6) rfl ((if0 _ _).trans (flt nl1).2.1) (by decide) (by decide) ?_
    refine n_iloadN X0 hx hby D7_6 rfl ?_
    refine oBi X0 hx hby D7_7 (z := (10 : Int32)) rfl ?_
    refine n_icmpYes X0 hx hby D7_9 (pc0 := 9) (pc' := 16) rfl (tlt (by decide : (0 : Int32) < (10 : Int32))).1 (by decide) (by decide) ?_
    refine oIc X0 hx hby D7_16 (z := (1 : Int32)) rfl ?_
    refine n_istore X0 hx hby D7_17 (l' := #[.val (.ref ot), .val (.int aa), .val (.int (36 : Int32)), .val (.int (0 : Int32)), .val (.int (1 : Int32)), .unset]) rfl ?_
    refine n_iloadN X0 hx hby D7_19 rfl ?_
    refine oIc X0 hx hby D7_20 (z := (1 : Int32)) rfl ?_
    refine n_iadd X0 hx hby D7_21 ?_
    refine n_iload X0 hx hby D7_22 rfl ?_
    refine n_iadd X0 hx hby D7_24 ?_
    refine oIc X0 hx hby D7_25 (z := (2 : Int32)) rfl ?_
    refine n_iadd X0 hx hby D7_26 ?_
    refine n_aloadN X0 hx hby D7_27 rfl rfl ?_
    obtain ⟨cl3, Ar3, q3, S3, M3, H3, G3⟩ := (id Vo)
    refine ob_ (X0.arraylength hx (by rw [e0]; exact Ar3.1) (State.isArrayOf_alike hZ.alike Ar3.2.1) (g := (mkF m 28 #[.val (.ref ot), .val (.int aa), .val (.int (36 : Int32)), .val (.int (0 : Int32)), .val (.int (1 : Int32)), .unset] [(.ref ot), (.int (((aa + (1 : Int32)) + (1 : Int32)) + (2 : Int32)))])) rfl rfl (hb hby D7_28)) ?_
    rw [len_of S3 M3]
    show own_Go p e below (s₁.setTop (mkF m 29 #[.val (.ref ot), .val (.int aa), .val (.int (36 : Int32)), .val (.int (0 : Int32)), .val (.int (1 : Int32)), .unset] [(.int nn), (.int (((aa + (1 : Int32)) + (1 : Int32)) + (2 : Int32)))])) _
    have nl4 : ¬ (nn < (((aa + (1 : Int32)) + (1 : Int32)) + (2 : Int32))) := by
      have iv5 : ((1 : Int32) : Int32).toInt = 1 := rfl
      have iv6 : ((aa + (1 : Int32)) : Int32).toInt = (aa : Int32).toInt + ((1 : Int32) : Int32).toInt := own_ia (by omega)
      have iv7 : (((aa + (1 : Int32)) + (1 : Int32)) : Int32).toInt = ((aa + (1 : Int32)) : Int32).toInt + ((1 : Int32) : Int32).toInt := own_ia (by omega)
      have iv8 : ((2 : Int32) : Int32).toInt = 2 := rfl
      have iv9 : ((((aa + (1 : Int32)) + (1 : Int32)) + (2 : Int32)) : Int32).toInt = (((aa + (1 : Int32)) + (1 : Int32)) : Int32).toInt + ((2 : Int32) : Int32).toInt := own_ia (by omega)
      exact own_nlt (by omega)
    refine n_icmpYes X0 hx hby D7_29 (pc0 := 29) (pc' := 34) rfl (flt nl4).2.2.2 (by decide) (by decide) ?_
    refine n_aloadN X0 hx hby D7_34 rfl rfl ?_
    refine n_iloadN X0 hx hby D7_35 rfl ?_
    have hb10 : aa.toInt = (pr.length : Int) := by omega
    have hM10 : (pr.length : Int) + ((4 : Nat) : Int) ≤ nn.toInt := by omega
    have ik11 : own_is aa aa 0 := own_is0
    obtain ⟨cl12, Ar12, q12, S12, M12, H12, G12⟩ := (id Vo)
    have hin12 : ¬ (aa < 0 ∨ cl12.slots.size ≤ (aa).toNatClampNeg) := own_inbK S12 ik11 hb10 hM10 (by decide)
    refine ob_ (X0.baloadBytes hx (j := aa) (v := (.int (36 : Int32))) (by rw [e0]; exact Ar12.1) (State.isArrayOf_alike hZ.alike Ar12.2.1) Ar12.2.2 hin12 (H12.at hin12 (own_rd 0 (own_jj ik11 hb10) (Nat.le_of_ble_eq_true rfl) rfl)) (g := (mkF m 36 #[.val (.ref ot), .val (.int aa), .val (.int (36 : Int32)), .val (.int (0 : Int32)), .val (.int (1 : Int32)), .unset] [(.int aa), (.ref ot)])) rfl rfl (hb hby D7_36)) ?_
    refine n_iloadN X0 hx hby D7_37 rfl ?_
    refine n_i2b X0 hx hby D7_38 ?_
    show own_Go p e below (s₁.setTop (mkF m 39 #[.val (.ref ot), .val (.int aa), .val (.int (36 : Int32)), .val (.int (0 : Int32)), .val (.int (1 : Int32)), .unset] [(.int ((36 : Int32).toInt8.toInt32)), (.int (36 : Int32))])) _
    rw [show (((36 : Int32).toInt8.toInt32) : Int32) = (36 : Int32) from by decide]
    show own_Go p e below (s₁.setTop (mkF m 39 #[.val (.ref ot), .val (.int aa), .val (.int (36 : Int32)), .val (.int (0 : Int32)), .val (.int (1 : Int32)), .unset] [(.int (36 : Int32)), (.int (36 : Int32))])) _
    refine n_icmpYes X0 hx hby D7_39 (pc0 := 39) (pc' := 44) rfl (teq (by decide : (36 : Int32) = (36 : Int32))).1 (by decide) (by decide) ?_
    refine n_iload X0 hx hby D7_44 rfl ?_
    refine oIc X0 hx hby D7_46 (z := (1 : Int32)) rfl ?_
    refine n_icmpNo X0 hx hby D7_47 (teq (by decide : (1 : Int32) = (1 : Int32))).2 ?_
    refine n_aloadN X0 hx hby D7_50 rfl rfl ?_
    refine n_iloadN X0 hx hby D7_51 rfl ?_
    refine oIc X0 hx hby D7_52 (z := (1 : Int32)) rfl ?_
    refine n_iadd X0 hx hby D7_53 ?_
    have rg13 : own_rg aa := ⟨by omega, by omega⟩
    have ik14 : own_is (aa + (1 : Int32)) aa 1 := own_isS (k := 1) ik11 rg13 (by decide) (by decide)
    obtain ⟨cl15, Ar15, q15, S15, M15, H15, G15⟩ := (id Vo)
    have hin15 : ¬ ((aa + (1 : Int32)) < 0 ∨ cl15.slots.size ≤ ((aa + (1 : Int32))).toNatClampNeg) := own_inbK S15 ik14 hb10 hM10 (by decide)
    refine ob_ (X0.baloadBytes hx (j := (aa + (1 : Int32))) (v := (.int (48 : Int32))) (by rw [e0]; exact Ar15.1) (State.isArrayOf_alike hZ.alike Ar15.2.1) Ar15.2.2 hin15 (H15.at hin15 (own_rd 1 (own_jj ik14 hb10) (Nat.le_of_ble_eq_true rfl) rfl)) (g := (mkF m 54 #[.val (.ref ot), .val (.int aa), .val (.int (36 : Int32)), .val (.int (0 : Int32)), .val (.int (1 : Int32)), .unset] [(.int (aa + (1 : Int32))), (.ref ot)])) rfl rfl (hb hby D7_54)) ?_
    refine oBi X0 hx hby D7_55 (z := (48 : Int32)) rfl ?_
    refine n_iloadN X0 hx hby D7_57 rfl ?_
    refine n_iadd X0 hx hby D7_58 ?_
    show own_Go p e below (s₁.setTop (mkF m 59 #[.val (.ref ot), .val (.int aa), .val (.int (36 : Int32)), .val (.int (0 : Int32)), .val (.int (1 : Int32)), .unset] [(.int ((48 : Int32) + (0 : Int32))), (.int (48 : Int32))])) _
    rw [show (((48 : Int32) + (0 : Int32)) : Int32) = (48 : Int32) from by decide]
    show own_Go p e below (s₁.setTop (mkF m 59 #[.val (.ref ot), .val (.int aa), .val (.int (36 : Int32)), .val (.int (0 : Int32)), .val (.int (1 : Int32)), .unset] [(.int (48 : Int32)), (.int (48 : Int32))])) _
    refine n_i2b X0 hx hby D7_59 ?_
    show own_Go p e below (s₁.setTop (mkF m 60 #[.val (.ref ot), .val (.int aa), .val (.int (36 : Int32)), .val (.int (0 : Int32)), .val (.int (1 : Int32)), .unset] [(.int ((48 : Int32).toInt8.toInt32)), (.int (48 : Int32))])) _
    rw [show (((48 : Int32).toInt8.toInt32) : Int32) = (48 : Int32) from by decide]
    show own_Go p e below (s₁.setTop (mkF m 60 #[.val (.ref ot), .val (.int aa), .val (.int (36 : Int32)), .val (.int (0 : Int32)), .val (.int (1 : Int32)), .unset] [(.int (48 : Int32)), (.int (48 : Int32))])) _
    refine n_icmpYes X0 hx hby D7_60 (pc0 := 60) (pc' := 93) rfl (teq (by decide : (48 : Int32) = (48 : Int32))).1 (by decide) (by decide) ?_
    refine n_iloadN X0 hx hby D7_93 rfl ?_
    refine oIc X0 hx hby D7_94 (z := (1 : Int32)) rfl ?_
    refine n_iadd X0 hx hby D7_95 ?_
    refine n_iload X0 hx hby D7_96 rfl ?_
    refine n_iadd X0 hx hby D7_98 ?_
    refine n_istore X0 hx hby D7_99 (l' := #[.val (.ref ot), .val (.int aa), .val (.int (36 : Int32)), .val (.int (0 : Int32)), .val (.int (1 : Int32)), .val (.int ((aa + (1 : Int32)) + (1 : Int32)))]) rfl ?_
    refine n_aloadN X0 hx hby D7_101 rfl rfl ?_
    refine n_iload X0 hx hby D7_102 rfl ?_
    have ik16 : own_is ((aa + (1 : Int32)) + (1 : Int32)) aa 2 := own_isS (k := 1) ik14 rg13 (by decide) (by decide)
    obtain ⟨cl17, Ar17, q17, S17, M17, H17, G17⟩ := (id Vo)
    have hin17 : ¬ (((aa + (1 : Int32)) + (1 : Int32)) < 0 ∨ cl17.slots.size ≤ (((aa + (1 : Int32)) + (1 : Int32))).toNatClampNeg) := own_inbK S17 ik16 hb10 hM10 (by decide)
    refine ob_ (X0.baloadBytes hx (j := ((aa + (1 : Int32)) + (1 : Int32))) (v := (.int (13 : Int32))) (by rw [e0]; exact Ar17.1) (State.isArrayOf_alike hZ.alike Ar17.2.1) Ar17.2.2 hin17 (H17.at hin17 (own_rd 2 (own_jj ik16 hb10) (Nat.le_of_ble_eq_true rfl) rfl)) (g := (mkF m 104 #[.val (.ref ot), .val (.int aa), .val (.int (36 : Int32)), .val (.int (0 : Int32)), .val (.int (1 : Int32)), .val (.int ((aa + (1 : Int32)) + (1 : Int32)))] [(.int ((aa + (1 : Int32)) + (1 : Int32))), (.ref ot)])) rfl rfl (hb hby D7_104)) ?_
    refine oBi X0 hx hby D7_105 (z := (13 : Int32)) rfl ?_
    refine n_icmpNo X0 hx hby D7_107 (teq (by decide : (13 : Int32) = (13 : Int32))).2 ?_
    refine n_aloadN X0 hx hby D7_110 rfl rfl ?_
    refine n_iload X0 hx hby D7_111 rfl ?_
    refine oIc X0 hx hby D7_113 (z := (1 : Int32)) rfl ?_
    refine n_iadd X0 hx hby D7_114 ?_
    have ik18 : own_is (((aa + (1 : Int32)) + (1 : Int32)) + (1 : Int32)) aa 3 := own_isS (k := 1) ik16 rg13 (by decide) (by decide)
    obtain ⟨cl19, Ar19, q19, S19, M19, H19, G19⟩ := (id Vo)
    have hin19 : ¬ ((((aa + (1 : Int32)) + (1 : Int32)) + (1 : Int32)) < 0 ∨ cl19.slots.size ≤ ((((aa + (1 : Int32)) + (1 : Int32)) + (1 : Int32))).toNatClampNeg) := own_inbK S19 ik18 hb10 hM10 (by decide)
    refine ob_ (X0.baloadBytes hx (j := (((aa + (1 : Int32)) + (1 : Int32)) + (1 : Int32))) (v := (.int (10 : Int32))) (by rw [e0]; exact Ar19.1) (State.isArrayOf_alike hZ.alike Ar19.2.1) Ar19.2.2 hin19 (H19.at hin19 (own_rd 3 (own_jj ik18 hb10) (Nat.le_of_ble_eq_true rfl) rfl)) (g := (mkF m 115 #[.val (.ref ot), .val (.int aa), .val (.int (36 : Int32)), .val (.int (0 : Int32)), .val (.int (1 : Int32)), .val (.int ((aa + (1 : Int32)) + (1 : Int32)))] [(.int (((aa + (1 : Int32)) + (1 : Int32)) + (1 : Int32))), (.ref ot)])) rfl rfl (hb hby D7_115)) ?_
    refine oBi X0 hx hby D7_116 (z := (10 : Int32)) rfl ?_
    refine n_icmpYes X0 hx hby D7_118 (pc0 := 118) (pc' := 123) rfl (teq (by decide : (10 : Int32) = (10 : Int32))).1 (by decide) (by decide) ?_
    refine n_iload X0 hx hby D7_123 rfl ?_
    refine oIc X0 hx hby D7_125 (z := (2 : Int32)) rfl ?_
    refine n_iadd X0 hx hby D7_126 ?_
    show own_Go p e below (s₁.setTop (mkF m 127 #[.val (.ref ot), .val (.int aa), .val (.int (36 : Int32)), .val (.int (0 : Int32)), .val (.int (1 : Int32)), .val (.int ((aa + (1 : Int32)) + (1 : Int32)))] [(.int (((aa + (1 : Int32)) + (1 : Int32)) + (2 : Int32)))])) _
    have ik20 : own_is (((aa + (1 : Int32)) + (1 : Int32)) + (2 : Int32)) aa 4 := own_isS (k := 2) ik16 rg13 (by decide) (by decide)
    obtain ⟨fs, hr, hrun, hended, hW, hsame⟩ := X0.leave (v := some (.int (((aa + (1 : Int32)) + (1 : Int32)) + (2 : Int32)))) (fun h => by rw [Bd.returns] at h; cases h)
    refine ⟨_, _, retI X0 hx Bd.returns (hb hby D7_127) hr, hrun, hended, _, _, rfl, ?_, ⟨_, rfl⟩, hW, hsame.mono (by decide) (by decide)⟩
    show Q_rm_hd36 Z ot kk nn cc pr po aa (0 : Int32) h0 n0 _ s₁.heap _
    rw [e0]
    exact ⟨(((aa + (1 : Int32)) + (1 : Int32)) + (2 : Int32)), rfl, N0, rfl, (own_hz ik20 (by rw [own_hn_0]; rfl))⟩
  · skip
    show own_Go p e below (s₁.setTop (mkF m 0 #[.val (.ref ot), .val (.int aa), .val (.int (36 : Int32)), .val (.int (1 : Int32)), .unset, .unset] [])) _
    have hn_1 := own_hn_1
    have nl21 : ¬ (aa < (0 : Int32)) := by
      have iv22 : ((0 : Int32) : Int32).toInt = 0 := rfl
      exact own_nlt (by omega)
    have Vo : Arv Z h0 ot kk .byte nn (pr ++ ([(.int (36 : Int32)), (.int (49 : Int32)), (.int (13 : Int32)), (.int (10 : Int32))] ++ po)) (.int (0 : Int32)) := by have q := Fo; rw [hcc, own_hd_1] at q; exact q
    refine n_iloadN X0 hx hby D7_0 rfl ?_
    refine n_ifYes X0 hx hby D7_1 (pc0 := 1) (pc' := 6) rfl ((if0 _ _).trans (flt nl21).2.1) (by decide) (by decide) ?_
    refine n_iloadN X0 hx hby D7_6 rfl ?_
    refine oBi X0 hx hby D7_7 (z := (10 : Int32)) rfl ?_
    refine n_icmpYes X0 hx hby D7_9 (pc0 := 9) (pc' := 16) rfl (tlt (by decide : (1 : Int32) < (10 : Int32))).1 (by decide) (by decide) ?_
    refine oIc X0 hx hby D7_16 (z := (1 : Int32)) rfl ?_
    refine n_istore X0 hx hby D7_17 (l' := #[.val (.ref ot), .val (.int aa), .val (.int (36 : Int32)), .val (.int (1 : Int32)), .val (.int (1 : Int32)), .unset]) rfl ?_
    refine n_iloadN X0 hx hby D7_19 rfl ?_
    refine oIc X0 hx hby D7_20 (z := (1 : Int32)) rfl ?_
    refine n_iadd X0 hx hby D7_21 ?_
    refine n_iload X0 hx hby D7_22 rfl ?_
    refine n_iadd X0 hx hby D7_24 ?_
    refine oIc X0 hx hby D7_25 (z := (2 : Int32)) rfl ?_
    refine n_iadd X0 hx hby D7_26 ?_
    refine n_aloadN X0 hx hby D7_27 rfl rfl ?_
    obtain ⟨cl23, Ar23, q23, S23, M23, H23, G23⟩ := (id Vo)
    refine ob_ (X0.arraylength hx (by rw [e0]; exact Ar23.1) (State.isArrayOf_alike hZ.alike Ar23.2.1) (g := (mkF m 28 #[.val (.ref ot), .val (.int aa), .val (.int (36 : Int32)), .val (.int (1 : Int32)), .val (.int (1 : Int32)), .unset] [(.ref ot), (.int (((aa + (1 : Int32)) + (1 : Int32)) + (2 : Int32)))])) rfl rfl (hb hby D7_28)) ?_
    rw [len_of S23 M23]
    show own_Go p e below (s₁.setTop (mkF m 29 #[.val (.ref ot), .val (.int aa), .val (.int (36 : Int32)), .val (.int (1 : Int32)), .val (.int (1 : Int32)), .unset] [(.int nn), (.int (((aa + (1 : Int32)) + (1 : Int32)) + (2 : Int32)))])) _
    have nl24 : ¬ (nn < (((aa + (1 : Int32)) + (1 : Int32)) + (2 : Int32))) := by
      have iv25 : ((1 : Int32) : Int32).toInt = 1 := rfl
      have iv26 : ((aa + (1 : Int32)) : Int32).toInt = (aa : Int32).toInt + ((1 : Int32) : Int32).toInt := own_ia (by omega)
      have iv27 : (((aa + (1 : Int32)) + (1 : Int32)) : Int32).toInt = ((aa + (1 : Int32)) : Int32).toInt + ((1 : Int32) : Int32).toInt := own_ia (by omega)
      have iv28 : ((2 : Int32) : Int32).toInt = 2 := rfl
      have iv29 : ((((aa + (1 : Int32)) + (1 : Int32)) + (2 : Int32)) : Int32).toInt = (((aa + (1 : Int32)) + (1 : Int32)) : Int32).toInt + ((2 : Int32) : Int32).toInt := own_ia (by omega)
      exact own_nlt (by omega)
    refine n_icmpYes X0 hx hby D7_29 (pc0 := 29) (pc' := 34) rfl (flt nl24).2.2.2 (by decide) (by decide) ?_
    refine n_aloadN X0 hx hby D7_34 rfl rfl ?_
    refine n_iloadN X0 hx hby D7_35 rfl ?_
    have hb30 : aa.toInt = (pr.length : Int) := by omega
    have hM30 : (pr.length : Int) + ((4 : Nat) : Int) ≤ nn.toInt := by omega
    have ik31 : own_is aa aa 0 := own_is0
    obtain ⟨cl32, Ar32, q32, S32, M32, H32, G32⟩ := (id Vo)
    have hin32 : ¬ (aa < 0 ∨ cl32.slots.size ≤ (aa).toNatClampNeg) := own_inbK S32 ik31 hb30 hM30 (by decide)
    refine ob_ (X0.baloadBytes hx (j := aa) (v := (.int (36 : Int32))) (by rw [e0]; exact Ar32.1) (State.isArrayOf_alike hZ.alike Ar32.2.1) Ar32.2.2 hin32 (H32.at hin32 (own_rd 0 (own_jj ik31 hb30) (Nat.le_of_ble_eq_true rfl) rfl)) (g := (mkF m 36 #[.val (.ref ot), .val (.int aa), .val (.int (36 : Int32)), .val (.int (1 : Int32)), .val (.int (1 : Int32)), .unset] [(.int aa), (.ref ot)])) rfl rfl (hb hby D7_36)) ?_
    refine n_iloadN X0 hx hby D7_37 rfl ?_
    refine n_i2b X0 hx hby D7_38 ?_
    show own_Go p e below (s₁.setTop (mkF m 39 #[.val (.ref ot), .val (.int aa), .val (.int (36 : Int32)), .val (.int (1 : Int32)), .val (.int (1 : Int32)), .unset] [(.int ((36 : Int32).toInt8.toInt32)), (.int (36 : Int32))])) _
    rw [show (((36 : Int32).toInt8.toInt32) : Int32) = (36 : Int32) from by decide]
    show own_Go p e below (s₁.setTop (mkF m 39 #[.val (.ref ot), .val (.int aa), .val (.int (36 : Int32)), .val (.int (1 : Int32)), .val (.int (1 : Int32)), .unset] [(.int (36 : Int32)), (.int (36 : Int32))])) _
    refine n_icmpYes X0 hx hby D7_39 (pc0 := 39) (pc' := 44) rfl (teq (by decide : (36 : Int32) = (36 : Int32))).1 (by decide) (by decide) ?_
    refine n_iload X0 hx hby D7_44 rfl ?_
    refine oIc X0 hx hby D7_46 (z := (1 : Int32)) rfl ?_
    refine n_icmpNo X0 hx hby D7_47 (teq (by decide : (1 : Int32) = (1 : Int32))).2 ?_
    refine n_aloadN X0 hx hby D7_50 rfl rfl ?_
    refine n_iloadN X0 hx hby D7_51 rfl ?_
    refine oIc X0 hx hby D7_52 (z := (1 : Int32)) rfl ?_
    refine n_iadd X0 hx hby D7_53 ?_
    have rg33 : own_rg aa := ⟨by omega, by omega⟩
    have ik34 : own_is (aa + (1 : Int32)) aa 1 := own_isS (k := 1) ik31 rg33 (by decide) (by decide)
    obtain ⟨cl35, Ar35, q35, S35, M35, H35, G35⟩ := (id Vo)
    have hin35 : ¬ ((aa + (1 : Int32)) < 0 ∨ cl35.slots.size ≤ ((aa + (1 : Int32))).toNatClampNeg) := own_inbK S35 ik34 hb30 hM30 (by decide)
    refine ob_ (X0.baloadBytes hx (j := (aa + (1 : Int32))) (v := (.int (49 : Int32))) (by rw [e0]; exact Ar35.1) (State.isArrayOf_alike hZ.alike Ar35.2.1) Ar35.2.2 hin35 (H35.at hin35 (own_rd 1 (own_jj ik34 hb30) (Nat.le_of_ble_eq_true rfl) rfl)) (g := (mkF m 54 #[.val (.ref ot), .val (.int aa), .val (.int (36 : Int32)), .val (.int (1 : Int32)), .val (.int (1 : Int32)), .unset] [(.int (aa + (1 : Int32))), (.ref ot)])) rfl rfl (hb hby D7_54)) ?_
    refine oBi X0 hx hby D7_55 (z := (48 : Int32)) rfl ?_
    refine n_iloadN X0 hx hby D7_57 rfl ?_
    refine n_iadd X0 hx hby D7_58 ?_
    show own_Go p e below (s₁.setTop (mkF m 59 #[.val (.ref ot), .val (.int aa), .val (.int (36 : Int32)), .val (.int (1 : Int32)), .val (.int (1 : Int32)), .unset] [(.int ((48 : Int32) + (1 : Int32))), (.int (49 : Int32))])) _
    rw [show (((48 : Int32) + (1 : Int32)) : Int32) = (49 : Int32) from by decide]
    show own_Go p e below (s₁.setTop (mkF m 59 #[.val (.ref ot), .val (.int aa), .val (.int (36 : Int32)), .val (.int (1 : Int32)), .val (.int (1 : Int32)), .unset] [(.int (49 : Int32)), (.int (49 : Int32))])) _
    refine n_i2b X0 hx hby D7_59 ?_
    show own_Go p e below (s₁.setTop (mkF m 60 #[.val (.ref ot), .val (.int aa), .val (.int (36 : Int32)), .val (.int (1 : Int32)), .val (.int (1 : Int32)), .unset] [(.int ((49 : Int32).toInt8.toInt32)), (.int (49 : Int32))])) _
    rw [show (((49 : Int32).toInt8.toInt32) : Int32) = (49 : Int32) from by decide]
    show own_Go p e below (s₁.setTop (mkF m 60 #[.val (.ref ot), .val (.int aa), .val (.int (36 : Int32)), .val (.int (1 : Int32)), .val (.int (1 : Int32)), .unset] [(.int (49 : Int32)), (.int (49 : Int32))])) _
    refine n_icmpYes X0 hx hby D7_60 (pc0 := 60) (pc' := 93) rfl (teq (by decide : (49 : Int32) = (49 : Int32))).1 (by decide) (by decide) ?_
    refine n_iloadN X0 hx hby D7_93 rfl ?_
    refine oIc X0 hx hby D7_94 (z := (1 : Int32)) rfl ?_
    refine n_iadd X0 hx hby D7_95 ?_
    refine n_iload X0 hx hby D7_96 rfl ?_
    refine n_iadd X0 hx hby D7_98 ?_
    refine n_istore X0 hx hby D7_99 (l' := #[.val (.ref ot), .val (.int aa), .val (.int (36 : Int32)), .val (.int (1 : Int32)), .val (.int (1 : Int32)), .val (.int ((aa + (1 : Int32)) + (1 : Int32)))]) rfl ?_
    refine n_aloadN X0 hx hby D7_101 rfl rfl ?_
    refine n_iload X0 hx hby D7_102 rfl ?_
    have ik36 : own_is ((aa + (1 : Int32)) + (1 : Int32)) aa 2 := own_isS (k := 1) ik34 rg33 (by decide) (by decide)
    obtain ⟨cl37, Ar37, q37, S37, M37, H37, G37⟩ := (id Vo)
    have hin37 : ¬ (((aa + (1 : Int32)) + (1 : Int32)) < 0 ∨ cl37.slots.size ≤ (((aa + (1 : Int32)) + (1 : Int32))).toNatClampNeg) := own_inbK S37 ik36 hb30 hM30 (by decide)
    refine ob_ (X0.baloadBytes hx (j := ((aa + (1 : Int32)) + (1 : Int32))) (v := (.int (13 : Int32))) (by rw [e0]; exact Ar37.1) (State.isArrayOf_alike hZ.alike Ar37.2.1) Ar37.2.2 hin37 (H37.at hin37 (own_rd 2 (own_jj ik36 hb30) (Nat.le_of_ble_eq_true rfl) rfl)) (g := (mkF m 104 #[.val (.ref ot), .val (.int aa), .val (.int (36 : Int32)), .val (.int (1 : Int32)), .val (.int (1 : Int32)), .val (.int ((aa + (1 : Int32)) + (1 : Int32)))] [(.int ((aa + (1 : Int32)) + (1 : Int32))), (.ref ot)])) rfl rfl (hb hby D7_104)) ?_
    refine oBi X0 hx hby D7_105 (z := (13 : Int32)) rfl ?_
    refine n_icmpNo X0 hx hby D7_107 (teq (by decide : (13 : Int32) = (13 : Int32))).2 ?_
    refine n_aloadN X0 hx hby D7_110 rfl rfl ?_
    refine n_iload X0 hx hby D7_111 rfl ?_
    refine oIc X0 hx hby D7_113 (z := (1 : Int32)) rfl ?_
    refine n_iadd X0 hx hby D7_114 ?_
    have ik38 : own_is (((aa + (1 : Int32)) + (1 : Int32)) + (1 : Int32)) aa 3 := own_isS (k := 1) ik36 rg33 (by decide) (by decide)
    obtain ⟨cl39, Ar39, q39, S39, M39, H39, G39⟩ := (id Vo)
    have hin39 : ¬ ((((aa + (1 : Int32)) + (1 : Int32)) + (1 : Int32)) < 0 ∨ cl39.slots.size ≤ ((((aa + (1 : Int32)) + (1 : Int32)) + (1 : Int32))).toNatClampNeg) := own_inbK S39 ik38 hb30 hM30 (by decide)
    refine ob_ (X0.baloadBytes hx (j := (((aa + (1 : Int32)) + (1 : Int32)) + (1 : Int32))) (v := (.int (10 : Int32))) (by rw [e0]; exact Ar39.1) (State.isArrayOf_alike hZ.alike Ar39.2.1) Ar39.2.2 hin39 (H39.at hin39 (own_rd 3 (own_jj ik38 hb30) (Nat.le_of_ble_eq_true rfl) rfl)) (g := (mkF m 115 #[.val (.ref ot), .val (.int aa), .val (.int (36 : Int32)), .val (.int (1 : Int32)), .val (.int (1 : Int32)), .val (.int ((aa + (1 : Int32)) + (1 : Int32)))] [(.int (((aa + (1 : Int32)) + (1 : Int32)) + (1 : Int32))), (.ref ot)])) rfl rfl (hb hby D7_115)) ?_
    refine oBi X0 hx hby D7_116 (z := (10 : Int32)) rfl ?_
    refine n_icmpYes X0 hx hby D7_118 (pc0 := 118) (pc' := 123) rfl (teq (by decide : (10 : Int32) = (10 : Int32))).1 (by decide) (by decide) ?_
    refine n_iload X0 hx hby D7_123 rfl ?_
    refine oIc X0 hx hby D7_125 (z := (2 : Int32)) rfl ?_
    refine n_iadd X0 hx hby D7_126 ?_
    show own_Go p e below (s₁.setTop (mkF m 127 #[.val (.ref ot), .val (.int aa), .val (.int (36 : Int32)), .val (.int (1 : Int32)), .val (.int (1 : Int32)), .val (.int ((aa + (1 : Int32)) + (1 : Int32)))] [(.int (((aa + (1 : Int32)) + (1 : Int32)) + (2 : Int32)))])) _
    have ik40 : own_is (((aa + (1 : Int32)) + (1 : Int32)) + (2 : Int32)) aa 4 := own_isS (k := 2) ik36 rg33 (by decide) (by decide)
    obtain ⟨fs, hr, hrun, hended, hW, hsame⟩ := X0.leave (v := some (.int (((aa + (1 : Int32)) + (1 : Int32)) + (2 : Int32)))) (fun h => by rw [Bd.returns] at h; cases h)
    refine ⟨_, _, retI X0 hx Bd.returns (hb hby D7_127) hr, hrun, hended, _, _, rfl, ?_, ⟨_, rfl⟩, hW, hsame.mono (by decide) (by decide)⟩
    show Q_rm_hd36 Z ot kk nn cc pr po aa (1 : Int32) h0 n0 _ s₁.heap _
    rw [e0]
    exact ⟨(((aa + (1 : Int32)) + (1 : Int32)) + (2 : Int32)), rfl, N0, rfl, (own_hz ik40 (by rw [own_hn_1]; rfl))⟩
  · skip
    show own_Go p e below (s₁.setTop (mkF m 0 #[.val (.ref ot), .val (.int aa), .val (.int (36 : Int32)), .val (.int (2 : Int32)), .unset, .unset] [])) _
    have hn_2 := own_hn_2
    have nl41 : ¬ (aa < (0 : Int32)) := by
      have iv42 : ((0 : Int32) : Int32).toInt = 0 := rfl
      exact own_nlt (by omega)
    have Vo : Arv Z h0 ot kk .byte nn (pr ++ ([(.int (36 : Int32)), (.int (50 : Int32)), (.int (13 : Int32)), (.int (10 : Int32))] ++ po)) (.int (0 : Int32)) := by have q := Fo; rw [hcc, own_hd_2] at q; exact q
    refine n_iloadN X0 hx hby D7_0 rfl ?_
    refine n_ifYes X0 hx hby D7_1 (pc0 := 1) (pc' := 6) rfl ((if0 _ _).trans (flt nl41).2.1) (by decide) (by decide) ?_
    refine n_iloadN X0 hx hby D7_6 rfl ?_
    refine oBi X0 hx hby D7_7 (z := (10 : Int32)) rfl ?_
    refine n_icmpYes X0 hx hby D7_9 (pc0 := 9) (pc' := 16) rfl (tlt (by decide : (2 : Int32) < (10 : Int32))).1 (by decide) (by decide) ?_
    refine oIc X0 hx hby D7_16 (z := (1 : Int32)) rfl ?_
    refine n_istore X0 hx hby D7_17 (l' := #[.val (.ref ot), .val (.int aa), .val (.int (36 : Int32)), .val (.int (2 : Int32)), .val (.int (1 : Int32)), .unset]) rfl ?_
    refine n_iloadN X0 hx hby D7_19 rfl ?_
    refine oIc X0 hx hby D7_20 (z := (1 : Int32)) rfl ?_
    refine n_iadd X0 hx hby D7_21 ?_
    refine n_iload X0 hx hby D7_22 rfl ?_
    refine n_iadd X0 hx hby D7_24 ?_
    refine oIc X0 hx hby D7_25 (z := (2 : Int32)) rfl ?_
    refine n_iadd X0 hx hby D7_26 ?_
    refine n_aloadN X0 hx hby D7_27 rfl rfl ?_
    obtain ⟨cl43, Ar43, q43, S43, M43, H43, G43⟩ := (id Vo)
    refine ob_ (X0.arraylength hx (by rw [e0]; exact Ar43.1) (State.isArrayOf_alike hZ.alike Ar43.2.1) (g := (mkF m 28 #[.val (.ref ot), .val (.int aa), .val (.int (36 : Int32)), .val (.int (2 : Int32)), .val (.int (1 : Int32)), .unset] [(.ref ot), (.int (((aa + (1 : Int32)) + (1 : Int32)) + (2 : Int32)))])) rfl rfl (hb hby D7_28)) ?_
    rw [len_of S43 M43]
    show own_Go p e below (s₁.setTop (mkF m 29 #[.val (.ref ot), .val (.int aa), .val (.int (36 : Int32)), .val (.int (2 : Int32)), .val (.int (1 : Int32)), .unset] [(.int nn), (.int (((aa + (1 : Int32)) + (1 : Int32)) + (2 : Int32)))])) _
    have nl44 : ¬ (nn < (((aa + (1 : Int32)) + (1 : Int32)) + (2 : Int32))) := by
      have iv45 : ((1 : Int32) : Int32).toInt = 1 := rfl
      have iv46 : ((aa + (1 : Int32)) : Int32).toInt = (aa : Int32).toInt + ((1 : Int32) : Int32).toInt := own_ia (by omega)
      have iv47 : (((aa + (1 : Int32)) + (1 : Int32)) : Int32).toInt = ((aa + (1 : Int32)) : Int32).toInt + ((1 : Int32) : Int32).toInt := own_ia (by omega)
      have iv48 : ((2 : Int32) : Int32).toInt = 2 := rfl
      have iv49 : ((((aa + (1 : Int32)) + (1 : Int32)) + (2 : Int32)) : Int32).toInt = (((aa + (1 : Int32)) + (1 : Int32)) : Int32).toInt + ((2 : Int32) : Int32).toInt := own_ia (by omega)
      exact own_nlt (by omega)
    refine n_icmpYes X0 hx hby D7_29 (pc0 := 29) (pc' := 34) rfl (flt nl44).2.2.2 (by decide) (by decide) ?_
    refine n_aloadN X0 hx hby D7_34 rfl rfl ?_
    refine n_iloadN X0 hx hby D7_35 rfl ?_
    have hb50 : aa.toInt = (pr.length : Int) := by omega
    have hM50 : (pr.length : Int) + ((4 : Nat) : Int) ≤ nn.toInt := by omega
    have ik51 : own_is aa aa 0 := own_is0
    obtain ⟨cl52, Ar52, q52, S52, M52, H52, G52⟩ := (id Vo)
    have hin52 : ¬ (aa < 0 ∨ cl52.slots.size ≤ (aa).toNatClampNeg) := own_inbK S52 ik51 hb50 hM50 (by decide)
    refine ob_ (X0.baloadBytes hx (j := aa) (v := (.int (36 : Int32))) (by rw [e0]; exact Ar52.1) (State.isArrayOf_alike hZ.alike Ar52.2.1) Ar52.2.2 hin52 (H52.at hin52 (own_rd 0 (own_jj ik51 hb50) (Nat.le_of_ble_eq_true rfl) rfl)) (g := (mkF m 36 #[.val (.ref ot), .val (.int aa), .val (.int (36 : Int32)), .val (.int (2 : Int32)), .val (.int (1 : Int32)), .unset] [(.int aa), (.ref ot)])) rfl rfl (hb hby D7_36)) ?_
    refine n_iloadN X0 hx hby D7_37 rfl ?_
    refine n_i2b X0 hx hby D7_38 ?_
    show own_Go p e below (s₁.setTop (mkF m 39 #[.val (.ref ot), .val (.int aa), .val (.int (36 : Int32)), .val (.int (2 : Int32)), .val (.int (1 : Int32)), .unset] [(.int ((36 : Int32).toInt8.toInt32)), (.int (36 : Int32))])) _
    rw [show (((36 : Int32).toInt8.toInt32) : Int32) = (36 : Int32) from by decide]
    show own_Go p e below (s₁.setTop (mkF m 39 #[.val (.ref ot), .val (.int aa), .val (.int (36 : Int32)), .val (.int (2 : Int32)), .val (.int (1 : Int32)), .unset] [(.int (36 : Int32)), (.int (36 : Int32))])) _
    refine n_icmpYes X0 hx hby D7_39 (pc0 := 39) (pc' := 44) rfl (teq (by decide : (36 : Int32) = (36 : Int32))).1 (by decide) (by decide) ?_
    refine n_iload X0 hx hby D7_44 rfl ?_
    refine oIc X0 hx hby D7_46 (z := (1 : Int32)) rfl ?_
    refine n_icmpNo X0 hx hby D7_47 (teq (by decide : (1 : Int32) = (1 : Int32))).2 ?_
    refine n_aloadN X0 hx hby D7_50 rfl rfl ?_
    refine n_iloadN X0 hx hby D7_51 rfl ?_
    refine oIc X0 hx hby D7_52 (z := (1 : Int32)) rfl ?_
    refine n_iadd X0 hx hby D7_53 ?_
    have rg53 : own_rg aa := ⟨by omega, by omega⟩
    have ik54 : own_is (aa + (1 : Int32)) aa 1 := own_isS (k := 1) ik51 rg53 (by decide) (by decide)
    obtain ⟨cl55, Ar55, q55, S55, M55, H55, G55⟩ := (id Vo)
    have hin55 : ¬ ((aa + (1 : Int32)) < 0 ∨ cl55.slots.size ≤ ((aa + (1 : Int32))).toNatClampNeg) := own_inbK S55 ik54 hb50 hM50 (by decide)
    refine ob_ (X0.baloadBytes hx (j := (aa + (1 : Int32))) (v := (.int (50 : Int32))) (by rw [e0]; exact Ar55.1) (State.isArrayOf_alike hZ.alike Ar55.2.1) Ar55.2.2 hin55 (H55.at hin55 (own_rd 1 (own_jj ik54 hb50) (Nat.le_of_ble_eq_true rfl) rfl)) (g := (mkF m 54 #[.val (.ref ot), .val (.int aa), .val (.int (36 : Int32)), .val (.int (2 : Int32)), .val (.int (1 : Int32)), .unset] [(.int (aa + (1 : Int32))), (.ref ot)])) rfl rfl (hb hby D7_54)) ?_
    refine oBi X0 hx hby D7_55 (z := (48 : Int32)) rfl ?_
    refine n_iloadN X0 hx hby D7_57 rfl ?_
    refine n_iadd X0 hx hby D7_58 ?_
    show own_Go p e below (s₁.setTop (mkF m 59 #[.val (.ref ot), .val (.int aa), .val (.int (36 : Int32)), .val (.int (2 : Int32)), .val (.int (1 : Int32)), .unset] [(.int ((48 : Int32) + (2 : Int32))), (.int (50 : Int32))])) _
    rw [show (((48 : Int32) + (2 : Int32)) : Int32) = (50 : Int32) from by decide]
    show own_Go p e below (s₁.setTop (mkF m 59 #[.val (.ref ot), .val (.int aa), .val (.int (36 : Int32)), .val (.int (2 : Int32)), .val (.int (1 : Int32)), .unset] [(.int (50 : Int32)), (.int (50 : Int32))])) _
    refine n_i2b X0 hx hby D7_59 ?_
    show own_Go p e below (s₁.setTop (mkF m 60 #[.val (.ref ot), .val (.int aa), .val (.int (36 : Int32)), .val (.int (2 : Int32)), .val (.int (1 : Int32)), .unset] [(.int ((50 : Int32).toInt8.toInt32)), (.int (50 : Int32))])) _
    rw [show (((50 : Int32).toInt8.toInt32) : Int32) = (50 : Int32) from by decide]
    show own_Go p e below (s₁.setTop (mkF m 60 #[.val (.ref ot), .val (.int aa), .val (.int (36 : Int32)), .val (.int (2 : Int32)), .val (.int (1 : Int32)), .unset] [(.int (50 : Int32)), (.int (50 : Int32))])) _
    refine n_icmpYes X0 hx hby D7_60 (pc0 := 60) (pc' := 93) rfl (teq (by decide : (50 : Int32) = (50 : Int32))).1 (by decide) (by decide) ?_
    refine n_iloadN X0 hx hby D7_93 rfl ?_
    refine oIc X0 hx hby D7_94 (z := (1 : Int32)) rfl ?_
    refine n_iadd X0 hx hby D7_95 ?_
    refine n_iload X0 hx hby D7_96 rfl ?_
    refine n_iadd X0 hx hby D7_98 ?_
    refine n_istore X0 hx hby D7_99 (l' := #[.val (.ref ot), .val (.int aa), .val (.int (36 : Int32)), .val (.int (2 : Int32)), .val (.int (1 : Int32)), .val (.int ((aa + (1 : Int32)) + (1 : Int32)))]) rfl ?_
    refine n_aloadN X0 hx hby D7_101 rfl rfl ?_
    refine n_iload X0 hx hby D7_102 rfl ?_
    have ik56 : own_is ((aa + (1 : Int32)) + (1 : Int32)) aa 2 := own_isS (k := 1) ik54 rg53 (by decide) (by decide)
    obtain ⟨cl57, Ar57, q57, S57, M57, H57, G57⟩ := (id Vo)
    have hin57 : ¬ (((aa + (1 : Int32)) + (1 : Int32)) < 0 ∨ cl57.slots.size ≤ (((aa + (1 : Int32)) + (1 : Int32))).toNatClampNeg) := own_inbK S57 ik56 hb50 hM50 (by decide)
    refine ob_ (X0.baloadBytes hx (j := ((aa + (1 : Int32)) + (1 : Int32))) (v := (.int (13 : Int32))) (by rw [e0]; exact Ar57.1) (State.isArrayOf_alike hZ.alike Ar57.2.1) Ar57.2.2 hin57 (H57.at hin57 (own_rd 2 (own_jj ik56 hb50) (Nat.le_of_ble_eq_true rfl) rfl)) (g := (mkF m 104 #[.val (.ref ot), .val (.int aa), .val (.int (36 : Int32)), .val (.int (2 : Int32)), .val (.int (1 : Int32)), .val (.int ((aa + (1 : Int32)) + (1 : Int32)))] [(.int ((aa + (1 : Int32)) + (1 : Int32))), (.ref ot)])) rfl rfl (hb hby D7_104)) ?_
    refine oBi X0 hx hby D7_105 (z := (13 : Int32)) rfl ?_
    refine n_icmpNo X0 hx hby D7_107 (teq (by decide : (13 : Int32) = (13 : Int32))).2 ?_
    refine n_aloadN X0 hx hby D7_110 rfl rfl ?_
    refine n_iload X0 hx hby D7_111 rfl ?_
    refine oIc X0 hx hby D7_113 (z := (1 : Int32)) rfl ?_
    refine n_iadd X0 hx hby D7_114 ?_
    have ik58 : own_is (((aa + (1 : Int32)) + (1 : Int32)) + (1 : Int32)) aa 3 := own_isS (k := 1) ik56 rg53 (by decide) (by decide)
    obtain ⟨cl59, Ar59, q59, S59, M59, H59, G59⟩ := (id Vo)
    have hin59 : ¬ ((((aa + (1 : Int32)) + (1 : Int32)) + (1 : Int32)) < 0 ∨ cl59.slots.size ≤ ((((aa + (1 : Int32)) + (1 : Int32)) + (1 : Int32))).toNatClampNeg) := own_inbK S59 ik58 hb50 hM50 (by decide)
    refine ob_ (X0.baloadBytes hx (j := (((aa + (1 : Int32)) + (1 : Int32)) + (1 : Int32))) (v := (.int (10 : Int32))) (by rw [e0]; exact Ar59.1) (State.isArrayOf_alike hZ.alike Ar59.2.1) Ar59.2.2 hin59 (H59.at hin59 (own_rd 3 (own_jj ik58 hb50) (Nat.le_of_ble_eq_true rfl) rfl)) (g := (mkF m 115 #[.val (.ref ot), .val (.int aa), .val (.int (36 : Int32)), .val (.int (2 : Int32)), .val (.int (1 : Int32)), .val (.int ((aa + (1 : Int32)) + (1 : Int32)))] [(.int (((aa + (1 : Int32)) + (1 : Int32)) + (1 : Int32))), (.ref ot)])) rfl rfl (hb hby D7_115)) ?_
    refine oBi X0 hx hby D7_116 (z := (10 : Int32)) rfl ?_
    refine n_icmpYes X0 hx hby D7_118 (pc0 := 118) (pc' := 123) rfl (teq (by decide : (10 : Int32) = (10 : Int32))).1 (by decide) (by decide) ?_
    refine n_iload X0 hx hby D7_123 rfl ?_
    refine oIc X0 hx hby D7_125 (z := (2 : Int32)) rfl ?_
    refine n_iadd X0 hx hby D7_126 ?_
    show own_Go p e below (s₁.setTop (mkF m 127 #[.val (.ref ot), .val (.int aa), .val (.int (36 : Int32)), .val (.int (2 : Int32)), .val (.int (1 : Int32)), .val (.int ((aa + (1 : Int32)) + (1 : Int32)))] [(.int (((aa + (1 : Int32)) + (1 : Int32)) + (2 : Int32)))])) _
    have ik60 : own_is (((aa + (1 : Int32)) + (1 : Int32)) + (2 : Int32)) aa 4 := own_isS (k := 2) ik56 rg53 (by decide) (by decide)
    obtain ⟨fs, hr, hrun, hended, hW, hsame⟩ := X0.leave (v := some (.int (((aa + (1 : Int32)) + (1 : Int32)) + (2 : Int32)))) (fun h => by rw [Bd.returns] at h; cases h)
    refine ⟨_, _, retI X0 hx Bd.returns (hb hby D7_127) hr, hrun, hended, _, _, rfl, ?_, ⟨_, rfl⟩, hW, hsame.mono (by decide) (by decide)⟩
    show Q_rm_hd36 Z ot kk nn cc pr po aa (2 : Int32) h0 n0 _ s₁.heap _
    rw [e0]
    exact ⟨(((aa + (1 : Int32)) + (1 : Int32)) + (2 : Int32)), rfl, N0, rfl, (own_hz ik60 (by rw [own_hn_2]; rfl))⟩
  · skip
    show own_Go p e below (s₁.setTop (mkF m 0 #[.val (.ref ot), .val (.int aa), .val (.int (36 : Int32)), .val (.int (10 : Int32)), .unset, .unset] [])) _
    have hn_10 := own_hn_10
    have nl61 : ¬ (aa < (0 : Int32)) := by
      have iv62 : ((0 : Int32) : Int32).toInt = 0 := rfl
      exact own_nlt (by omega)
    have Vo : Arv Z h0 ot kk .byte nn (pr ++ ([(.int (36 : Int32)), (.int (49 : Int32)), (.int (48 : Int32)), (.int (13 : Int32)), (.int (10 : Int32))] ++ po)) (.int (0 : Int32)) := by have q := Fo; rw [hcc, own_hd_10] at q; exact q
    refine n_iloadN X0 hx hby D7_0 rfl ?_
    refine n_ifYes X0 hx hby D7_1 (pc0 := 1) (pc' := 6) rfl ((if0 _ _).trans (flt nl61).2.1) (by decide) (by decide) ?_
    refine n_iloadN X0 hx hby D7_6 rfl ?_
    refine oBi X0 hx hby D7_7 (z := (10 : Int32)) rfl ?_
    refine n_icmpNo X0 hx hby D7_9 (flt (by decide : ¬ ((10 : Int32) < (10 : Int32)))).1 ?_
    refine oIc X0 hx hby D7_12 (z := (2 : Int32)) rfl ?_
    refine n_goto X0 hx hby D7_13 (pc0 := 13) (pc' := 17) rfl (by decide) (by decide) ?_
    refine n_istore X0 hx hby D7_17 (l' := #[.val (.ref ot), .val (.int aa), .val (.int (36 : Int32)), .val (.int (10 : Int32)), .val (.int (2 : Int32)), .unset]) rfl ?_
    refine n_iloadN X0 hx hby D7_19 rfl ?_
    refine oIc X0 hx hby D7_20 (z := (1 : Int32)) rfl ?_
    refine n_iadd X0 hx hby D7_21 ?_
    refine n_iload X0 hx hby D7_22 rfl ?_
    refine n_iadd X0 hx hby D7_24 ?_
    refine oIc X0 hx hby D7_25 (z := (2 : Int32)) rfl ?_
    refine n_iadd X0 hx hby D7_26 ?_
    refine n_aloadN X0 hx hby D7_27 rfl rfl ?_
    obtain ⟨cl63, Ar63, q63, S63, M63, H63, G63⟩ := (id Vo)
    refine ob_ (X0.arraylength hx (by rw [e0]; exact Ar63.1) (State.isArrayOf_alike hZ.alike Ar63.2.1) (g := (mkF m 28 #[.val (.ref ot), .val (.int aa), .val (.int (36 : Int32)), .val (.int (10 : Int32)), .val (.int (2 : Int32)), .unset] [(.ref ot), (.int (((aa + (1 : Int32)) + (2 : Int32)) + (2 : Int32)))])) rfl rfl (hb hby D7_28)) ?_
    rw [len_of S63 M63]
    show own_Go p e below (s₁.setTop (mkF m 29 #[.val (.ref ot), .val (.int aa), .val (.int (36 : Int32)), .val (.int (10 : Int32)), .val (.int (2 : Int32)), .unset] [(.int nn), (.int (((aa + (1 : Int32)) + (2 : Int32)) + (2 : Int32)))])) _
    have nl64 : ¬ (nn < (((aa + (1 : Int32)) + (2 : Int32)) + (2 : Int32))) := by
      have iv65 : ((1 : Int32) : Int32).toInt = 1 := rfl
      have iv66 : ((aa + (1 : Int32)) : Int32).toInt = (aa : Int32).toInt + ((1 : Int32) : Int32).toInt := own_ia (by omega)
      have iv67 : ((2 : Int32) : Int32).toInt = 2 := rfl
      have iv68 : (((aa + (1 : Int32)) + (2 : Int32)) : Int32).toInt = ((aa + (1 : Int32)) : Int32).toInt + ((2 : Int32) : Int32).toInt := own_ia (by omega)
      have iv69 : ((((aa + (1 : Int32)) + (2 : Int32)) + (2 : Int32)) : Int32).toInt = (((aa + (1 : Int32)) + (2 : Int32)) : Int32).toInt + ((2 : Int32) : Int32).toInt := own_ia (by omega)
      exact own_nlt (by omega)
    refine n_icmpYes X0 hx hby D7_29 (pc0 := 29) (pc' := 34) rfl (flt nl64).2.2.2 (by decide) (by decide) ?_
    refine n_aloadN X0 hx hby D7_34 rfl rfl ?_
    refine n_iloadN X0 hx hby D7_35 rfl ?_
    have hb70 : aa.toInt = (pr.length : Int) := by omega
    have hM70 : (pr.length : Int) + ((5 : Nat) : Int) ≤ nn.toInt := by omega
    have ik71 : own_is aa aa 0 := own_is0
    obtain ⟨cl72, Ar72, q72, S72, M72, H72, G72⟩ := (id Vo)
    have hin72 : ¬ (aa < 0 ∨ cl72.slots.size ≤ (aa).toNatClampNeg) := own_inbK S72 ik71 hb70 hM70 (by decide)
    refine ob_ (X0.baloadBytes hx (j := aa) (v := (.int (36 : Int32))) (by rw [e0]; exact Ar72.1) (State.isArrayOf_alike hZ.alike Ar72.2.1) Ar72.2.2 hin72 (H72.at hin72 (own_rd 0 (own_jj ik71 hb70) (Nat.le_of_ble_eq_true rfl) rfl)) (g := (mkF m 36 #[.val (.ref ot), .val (.int aa), .val (.int (36 : Int32)), .val (.int (10 : Int32)), .val (.int (2 : Int32)), .unset] [(.int aa), (.ref ot)])) rfl rfl (hb hby D7_36)) ?_
    refine n_iloadN X0 hx hby D7_37 rfl ?_
    refine n_i2b X0 hx hby D7_38 ?_
    show own_Go p e below (s₁.setTop (mkF m 39 #[.val (.ref ot), .val (.int aa), .val (.int (36 : Int32)), .val (.int (10 : Int32)), .val (.int (2 : Int32)), .unset] [(.int ((36 : Int32).toInt8.toInt32)), (.int (36 : Int32))])) _
    rw [show (((36 : Int32).toInt8.toInt32) : Int32) = (36 : Int32) from by decide]
    show own_Go p e below (s₁.setTop (mkF m 39 #[.val (.ref ot), .val (.int aa), .val (.int (36 : Int32)), .val (.int (10 : Int32)), .val (.int (2 : Int32)), .unset] [(.int (36 : Int32)), (.int (36 : Int32))])) _
    refine n_icmpYes X0 hx hby D7_39 (pc0 := 39) (pc' := 44) rfl (teq (by decide : (36 : Int32) = (36 : Int32))).1 (by decide) (by decide) ?_
    refine n_iload X0 hx hby D7_44 rfl ?_
    refine oIc X0 hx hby D7_46 (z := (1 : Int32)) rfl ?_
    refine n_icmpYes X0 hx hby D7_47 (pc0 := 47) (pc' := 65) rfl (feq (by decide : ¬ ((2 : Int32) = (1 : Int32)))).2 (by decide) (by decide) ?_
    refine n_aloadN X0 hx hby D7_65 rfl rfl ?_
    refine n_iloadN X0 hx hby D7_66 rfl ?_
    refine oIc X0 hx hby D7_67 (z := (1 : Int32)) rfl ?_
    refine n_iadd X0 hx hby D7_68 ?_
    have rg73 : own_rg aa := ⟨by omega, by omega⟩
    have ik74 : own_is (aa + (1 : Int32)) aa 1 := own_isS (k := 1) ik71 rg73 (by decide) (by decide)
    obtain ⟨cl75, Ar75, q75, S75, M75, H75, G75⟩ := (id Vo)
    have hin75 : ¬ ((aa + (1 : Int32)) < 0 ∨ cl75.slots.size ≤ ((aa + (1 : Int32))).toNatClampNeg) := own_inbK S75 ik74 hb70 hM70 (by decide)
    refine ob_ (X0.baloadBytes hx (j := (aa + (1 : Int32))) (v := (.int (49 : Int32))) (by rw [e0]; exact Ar75.1) (State.isArrayOf_alike hZ.alike Ar75.2.1) Ar75.2.2 hin75 (H75.at hin75 (own_rd 1 (own_jj ik74 hb70) (Nat.le_of_ble_eq_true rfl) rfl)) (g := (mkF m 69 #[.val (.ref ot), .val (.int aa), .val (.int (36 : Int32)), .val (.int (10 : Int32)), .val (.int (2 : Int32)), .unset] [(.int (aa + (1 : Int32))), (.ref ot)])) rfl rfl (hb hby D7_69)) ?_
    refine oBi X0 hx hby D7_70 (z := (49 : Int32)) rfl ?_
    refine n_icmpNo X0 hx hby D7_72 (teq (by decide : (49 : Int32) = (49 : Int32))).2 ?_
    refine n_aloadN X0 hx hby D7_75 rfl rfl ?_
    refine n_iloadN X0 hx hby D7_76 rfl ?_
    refine oIc X0 hx hby D7_77 (z := (2 : Int32)) rfl ?_
    refine n_iadd X0 hx hby D7_78 ?_
    have ik76 : own_is (aa + (2 : Int32)) aa 2 := own_isS (k := 2) ik71 rg73 (by decide) (by decide)
    obtain ⟨cl77, Ar77, q77, S77, M77, H77, G77⟩ := (id Vo)
    have hin77 : ¬ ((aa + (2 : Int32)) < 0 ∨ cl77.slots.size ≤ ((aa + (2 : Int32))).toNatClampNeg) := own_inbK S77 ik76 hb70 hM70 (by decide)
    refine ob_ (X0.baloadBytes hx (j := (aa + (2 : Int32))) (v := (.int (48 : Int32))) (by rw [e0]; exact Ar77.1) (State.isArrayOf_alike hZ.alike Ar77.2.1) Ar77.2.2 hin77 (H77.at hin77 (own_rd 2 (own_jj ik76 hb70) (Nat.le_of_ble_eq_true rfl) rfl)) (g := (mkF m 79 #[.val (.ref ot), .val (.int aa), .val (.int (36 : Int32)), .val (.int (10 : Int32)), .val (.int (2 : Int32)), .unset] [(.int (aa + (2 : Int32))), (.ref ot)])) rfl rfl (hb hby D7_79)) ?_
    refine oBi X0 hx hby D7_80 (z := (48 : Int32)) rfl ?_
    refine n_iloadN X0 hx hby D7_82 rfl ?_
    refine oBi X0 hx hby D7_83 (z := (10 : Int32)) rfl ?_
    refine ob_ (fun _ k => XS.isub X0.here hx rfl (hb hby D7_85) rfl k) ?_
    show own_Go p e below (s₁.setTop (mkF m 86 #[.val (.ref ot), .val (.int aa), .val (.int (36 : Int32)), .val (.int (10 : Int32)), .val (.int (2 : Int32)), .unset] [(.int (0 : Int32)), (.int (48 : Int32)), (.int (48 : Int32))])) _
    show own_Go p e below (s₁.setTop (mkF m 86 #[.val (.ref ot), .val (.int aa), .val (.int (36 : Int32)), .val (.int (10 : Int32)), .val (.int (2 : Int32)), .unset] [(.int ((10 : Int32) - (10 : Int32))), (.int (48 : Int32)), (.int (48 : Int32))])) _
    rw [show (((10 : Int32) - (10 : Int32)) : Int32) = (0 : Int32) from by decide]
    show own_Go p e below (s₁.setTop (mkF m 86 #[.val (.ref ot), .val (.int aa), .val (.int (36 : Int32)), .val (.int (10 : Int32)), .val (.int (2 : Int32)), .unset] [(.int (0 : Int32)), (.int (48 : Int32)), (.int (48 : Int32))])) _
    refine n_iadd X0 hx hby D7_86 ?_
    show own_Go p e below (s₁.setTop (mkF m 87 #[.val (.ref ot), .val (.int aa), .val (.int (36 : Int32)), .val (.int (10 : Int32)), .val (.int (2 : Int32)), .unset] [(.int ((48 : Int32) + (0 : Int32))), (.int (48 : Int32))])) _
    rw [show (((48 : Int32) + (0 : Int32)) : Int32) = (48 : Int32) from by decide]
    show own_Go p e below (s₁.setTop (mkF m 87 #[.val (.ref ot), .val (.int aa), .val (.int (36 : Int32)), .val (.int (10 : Int32)), .val (.int (2 : Int32)), .unset] [(.int (48 : Int32)), (.int (48 : Int32))])) _
    refine n_i2b X0 hx hby D7_87 ?_
    show own_Go p e below (s₁.setTop (mkF m 88 #[.val (.ref ot), .val (.int aa), .val (.int (36 : Int32)), .val (.int (10 : Int32)), .val (.int (2 : Int32)), .unset] [(.int ((48 : Int32).toInt8.toInt32)), (.int (48 : Int32))])) _
    rw [show (((48 : Int32).toInt8.toInt32) : Int32) = (48 : Int32) from by decide]
    show own_Go p e below (s₁.setTop (mkF m 88 #[.val (.ref ot), .val (.int aa), .val (.int (36 : Int32)), .val (.int (10 : Int32)), .val (.int (2 : Int32)), .unset] [(.int (48 : Int32)), (.int (48 : Int32))])) _
    refine n_icmpYes X0 hx hby D7_88 (pc0 := 88) (pc' := 93) rfl (teq (by decide : (48 : Int32) = (48 : Int32))).1 (by decide) (by decide) ?_
    refine n_iloadN X0 hx hby D7_93 rfl ?_
    refine oIc X0 hx hby D7_94 (z := (1 : Int32)) rfl ?_
    refine n_iadd X0 hx hby D7_95 ?_
    refine n_iload X0 hx hby D7_96 rfl ?_
    refine n_iadd X0 hx hby D7_98 ?_
    refine n_istore X0 hx hby D7_99 (l' := #[.val (.ref ot), .val (.int aa), .val (.int (36 : Int32)), .val (.int (10 : Int32)), .val (.int (2 : Int32)), .val (.int ((aa + (1 : Int32)) + (2 : Int32)))]) rfl ?_
    refine n_aloadN X0 hx hby D7_101 rfl rfl ?_
    refine n_iload X0 hx hby D7_102 rfl ?_
    have ik78 : own_is ((aa + (1 : Int32)) + (2 : Int32)) aa 3 := own_isS (k := 2) ik74 rg73 (by decide) (by decide)
    obtain ⟨cl79, Ar79, q79, S79, M79, H79, G79⟩ := (id Vo)
    have hin79 : ¬ (((aa + (1 : Int32)) + (2 : Int32)) < 0 ∨ cl79.slots.size ≤ (((aa + (1 : Int32)) + (2 : Int32))).toNatClampNeg) := own_inbK S79 ik78 hb70 hM70 (by decide)
    refine ob_ (X0.baloadBytes hx (j := ((aa + (1 : Int32)) + (2 : Int32))) (v := (.int (13 : Int32))) (by rw [e0]; exact Ar79.1) (State.isArrayOf_alike hZ.alike Ar79.2.1) Ar79.2.2 hin79 (H79.at hin79 (own_rd 3 (own_jj ik78 hb70) (Nat.le_of_ble_eq_true rfl) rfl)) (g := (mkF m 104 #[.val (.ref ot), .val (.int aa), .val (.int (36 : Int32)), .val (.int (10 : Int32)), .val (.int (2 : Int32)), .val (.int ((aa + (1 : Int32)) + (2 : Int32)))] [(.int ((aa + (1 : Int32)) + (2 : Int32))), (.ref ot)])) rfl rfl (hb hby D7_104)) ?_
    refine oBi X0 hx hby D7_105 (z := (13 : Int32)) rfl ?_
    refine n_icmpNo X0 hx hby D7_107 (teq (by decide : (13 : Int32) = (13 : Int32))).2 ?_
    refine n_aloadN X0 hx hby D7_110 rfl rfl ?_
    refine n_iload X0 hx hby D7_111 rfl ?_
    refine oIc X0 hx hby D7_113 (z := (1 : Int32)) rfl ?_
    refine n_iadd X0 hx hby D7_114 ?_
    have ik80 : own_is (((aa + (1 : Int32)) + (2 : Int32)) + (1 : Int32)) aa 4 := own_isS (k := 1) ik78 rg73 (by decide) (by decide)
    obtain ⟨cl81, Ar81, q81, S81, M81, H81, G81⟩ := (id Vo)
    have hin81 : ¬ ((((aa + (1 : Int32)) + (2 : Int32)) + (1 : Int32)) < 0 ∨ cl81.slots.size ≤ ((((aa + (1 : Int32)) + (2 : Int32)) + (1 : Int32))).toNatClampNeg) := own_inbK S81 ik80 hb70 hM70 (by decide)
    refine ob_ (X0.baloadBytes hx (j := (((aa + (1 : Int32)) + (2 : Int32)) + (1 : Int32))) (v := (.int (10 : Int32))) (by rw [e0]; exact Ar81.1) (State.isArrayOf_alike hZ.alike Ar81.2.1) Ar81.2.2 hin81 (H81.at hin81 (own_rd 4 (own_jj ik80 hb70) (Nat.le_of_ble_eq_true rfl) rfl)) (g := (mkF m 115 #[.val (.ref ot), .val (.int aa), .val (.int (36 : Int32)), .val (.int (10 : Int32)), .val (.int (2 : Int32)), .val (.int ((aa + (1 : Int32)) + (2 : Int32)))] [(.int (((aa + (1 : Int32)) + (2 : Int32)) + (1 : Int32))), (.ref ot)])) rfl rfl (hb hby D7_115)) ?_
    refine oBi X0 hx hby D7_116 (z := (10 : Int32)) rfl ?_
    refine n_icmpYes X0 hx hby D7_118 (pc0 := 118) (pc' := 123) rfl (teq (by decide : (10 : Int32) = (10 : Int32))).1 (by decide) (by decide) ?_
    refine n_iload X0 hx hby D7_123 rfl ?_
    refine oIc X0 hx hby D7_125 (z := (2 : Int32)) rfl ?_
    refine n_iadd X0 hx hby D7_126 ?_
    show own_Go p e below (s₁.setTop (mkF m 127 #[.val (.ref ot), .val (.int aa), .val (.int (36 : Int32)), .val (.int (10 : Int32)), .val (.int (2 : Int32)), .val (.int ((aa + (1 : Int32)) + (2 : Int32)))] [(.int (((aa + (1 : Int32)) + (2 : Int32)) + (2 : Int32)))])) _
    have ik82 : own_is (((aa + (1 : Int32)) + (2 : Int32)) + (2 : Int32)) aa 5 := own_isS (k := 2) ik78 rg73 (by decide) (by decide)
    obtain ⟨fs, hr, hrun, hended, hW, hsame⟩ := X0.leave (v := some (.int (((aa + (1 : Int32)) + (2 : Int32)) + (2 : Int32)))) (fun h => by rw [Bd.returns] at h; cases h)
    refine ⟨_, _, retI X0 hx Bd.returns (hb hby D7_127) hr, hrun, hended, _, _, rfl, ?_, ⟨_, rfl⟩, hW, hsame.mono (by decide) (by decide)⟩
    show Q_rm_hd36 Z ot kk nn cc pr po aa (10 : Int32) h0 n0 _ s₁.heap _
    rw [e0]
    exact ⟨(((aa + (1 : Int32)) + (2 : Int32)) + (2 : Int32)), rfl, N0, rfl, (own_hz ik82 (by rw [own_hn_10]; rfl))⟩
theorem D9_0 : decode method_7_code 0 = .ok (.aload_n 0, 1) := by decide +kernel
theorem D9_1 : decode method_7_code 1 = .ok (.iload_n 1, 1) := by decide +kernel
theorem D9_2 : decode method_7_code 2 = .ok (.bipush 36, 2) := by decide +kernel
theorem D9_4 : decode method_7_code 4 = .ok (.iload_n 2, 1) := by decide +kernel
theorem D9_5 : decode method_7_code 5 = .ok (.invokestatic 25, 3) := by decide +kernel
theorem D9_8 : decode method_7_code 8 = .ok (.istore 5, 2) := by decide +kernel
theorem D9_10 : decode method_7_code 10 = .ok (.iload 5, 2) := by decide +kernel
theorem D9_12 : decode method_7_code 12 = .ok (.ifCond .ge 5, 3) := by decide +kernel
theorem D9_17 : decode method_7_code 17 = .ok (.iload 5, 2) := by decide +kernel
theorem D9_19 : decode method_7_code 19 = .ok (.iload_n 2, 1) := by decide +kernel
theorem D9_20 : decode method_7_code 20 = .ok (.iadd, 1) := by decide +kernel
theorem D9_21 : decode method_7_code 21 = .ok (.iconst 2, 1) := by decide +kernel
theorem D9_22 : decode method_7_code 22 = .ok (.iadd, 1) := by decide +kernel
theorem D9_23 : decode method_7_code 23 = .ok (.aload_n 0, 1) := by decide +kernel
theorem D9_24 : decode method_7_code 24 = .ok (.arraylength, 1) := by decide +kernel
theorem D9_25 : decode method_7_code 25 = .ok (.if_icmp .le 5, 3) := by decide +kernel
theorem D9_30 : decode method_7_code 30 = .ok (.iload_n 2, 1) := by decide +kernel
theorem D9_31 : decode method_7_code 31 = .ok (.ifCond .le 17, 3) := by decide +kernel
theorem D9_34 : decode method_7_code 34 = .ok (.aload_n 0, 1) := by decide +kernel
theorem D9_35 : decode method_7_code 35 = .ok (.iload 5, 2) := by decide +kernel
theorem D9_37 : decode method_7_code 37 = .ok (.baload, 1) := by decide +kernel
theorem D9_38 : decode method_7_code 38 = .ok (.lload_n 3, 1) := by decide +kernel
theorem D9_39 : decode method_7_code 39 = .ok (.iconst 0, 1) := by decide +kernel
theorem D9_40 : decode method_7_code 40 = .ok (.invokestatic 33, 3) := by decide +kernel
theorem D9_43 : decode method_7_code 43 = .ok (.if_icmp .eq 5, 3) := by decide +kernel
theorem D9_48 : decode method_7_code 48 = .ok (.iload_n 2, 1) := by decide +kernel
theorem D9_49 : decode method_7_code 49 = .ok (.iconst 1, 1) := by decide +kernel
theorem D9_50 : decode method_7_code 50 = .ok (.if_icmp .le 19, 3) := by decide +kernel
theorem D9_53 : decode method_7_code 53 = .ok (.aload_n 0, 1) := by decide +kernel
theorem D9_54 : decode method_7_code 54 = .ok (.iload 5, 2) := by decide +kernel
theorem D9_56 : decode method_7_code 56 = .ok (.iconst 1, 1) := by decide +kernel
theorem D9_57 : decode method_7_code 57 = .ok (.iadd, 1) := by decide +kernel
theorem D9_58 : decode method_7_code 58 = .ok (.baload, 1) := by decide +kernel
theorem D9_59 : decode method_7_code 59 = .ok (.lload_n 3, 1) := by decide +kernel
theorem D9_60 : decode method_7_code 60 = .ok (.iconst 1, 1) := by decide +kernel
theorem D9_61 : decode method_7_code 61 = .ok (.invokestatic 33, 3) := by decide +kernel
theorem D9_64 : decode method_7_code 64 = .ok (.if_icmp .eq 5, 3) := by decide +kernel
theorem D9_69 : decode method_7_code 69 = .ok (.iload_n 2, 1) := by decide +kernel
theorem D9_70 : decode method_7_code 70 = .ok (.iconst 2, 1) := by decide +kernel
theorem D9_71 : decode method_7_code 71 = .ok (.if_icmp .le 19, 3) := by decide +kernel
theorem D9_74 : decode method_7_code 74 = .ok (.aload_n 0, 1) := by decide +kernel
theorem D9_75 : decode method_7_code 75 = .ok (.iload 5, 2) := by decide +kernel
theorem D9_77 : decode method_7_code 77 = .ok (.iconst 2, 1) := by decide +kernel
theorem D9_78 : decode method_7_code 78 = .ok (.iadd, 1) := by decide +kernel
theorem D9_79 : decode method_7_code 79 = .ok (.baload, 1) := by decide +kernel
theorem D9_80 : decode method_7_code 80 = .ok (.lload_n 3, 1) := by decide +kernel
theorem D9_81 : decode method_7_code 81 = .ok (.iconst 2, 1) := by decide +kernel
theorem D9_82 : decode method_7_code 82 = .ok (.invokestatic 33, 3) := by decide +kernel
theorem D9_85 : decode method_7_code 85 = .ok (.if_icmp .eq 5, 3) := by decide +kernel
theorem D9_90 : decode method_7_code 90 = .ok (.iload_n 2, 1) := by decide +kernel
theorem D9_91 : decode method_7_code 91 = .ok (.iconst 3, 1) := by decide +kernel
theorem D9_92 : decode method_7_code 92 = .ok (.if_icmp .le 19, 3) := by decide +kernel
theorem D9_95 : decode method_7_code 95 = .ok (.aload_n 0, 1) := by decide +kernel
theorem D9_96 : decode method_7_code 96 = .ok (.iload 5, 2) := by decide +kernel
theorem D9_98 : decode method_7_code 98 = .ok (.iconst 3, 1) := by decide +kernel
theorem D9_99 : decode method_7_code 99 = .ok (.iadd, 1) := by decide +kernel
theorem D9_100 : decode method_7_code 100 = .ok (.baload, 1) := by decide +kernel
theorem D9_101 : decode method_7_code 101 = .ok (.lload_n 3, 1) := by decide +kernel
theorem D9_102 : decode method_7_code 102 = .ok (.iconst 3, 1) := by decide +kernel
theorem D9_103 : decode method_7_code 103 = .ok (.invokestatic 33, 3) := by decide +kernel
theorem D9_106 : decode method_7_code 106 = .ok (.if_icmp .eq 5, 3) := by decide +kernel
theorem D9_111 : decode method_7_code 111 = .ok (.iload_n 2, 1) := by decide +kernel
theorem D9_112 : decode method_7_code 112 = .ok (.iconst 4, 1) := by decide +kernel
theorem D9_113 : decode method_7_code 113 = .ok (.if_icmp .le 19, 3) := by decide +kernel
theorem D9_116 : decode method_7_code 116 = .ok (.aload_n 0, 1) := by decide +kernel
theorem D9_117 : decode method_7_code 117 = .ok (.iload 5, 2) := by decide +kernel
theorem D9_119 : decode method_7_code 119 = .ok (.iconst 4, 1) := by decide +kernel
theorem D9_120 : decode method_7_code 120 = .ok (.iadd, 1) := by decide +kernel
theorem D9_121 : decode method_7_code 121 = .ok (.baload, 1) := by decide +kernel
theorem D9_122 : decode method_7_code 122 = .ok (.lload_n 3, 1) := by decide +kernel
theorem D9_123 : decode method_7_code 123 = .ok (.iconst 4, 1) := by decide +kernel
theorem D9_124 : decode method_7_code 124 = .ok (.invokestatic 33, 3) := by decide +kernel
theorem D9_127 : decode method_7_code 127 = .ok (.if_icmp .eq 5, 3) := by decide +kernel
theorem D9_132 : decode method_7_code 132 = .ok (.iload_n 2, 1) := by decide +kernel
theorem D9_133 : decode method_7_code 133 = .ok (.iconst 5, 1) := by decide +kernel
theorem D9_134 : decode method_7_code 134 = .ok (.if_icmp .le 19, 3) := by decide +kernel
theorem D9_137 : decode method_7_code 137 = .ok (.aload_n 0, 1) := by decide +kernel
theorem D9_138 : decode method_7_code 138 = .ok (.iload 5, 2) := by decide +kernel
theorem D9_140 : decode method_7_code 140 = .ok (.iconst 5, 1) := by decide +kernel
theorem D9_141 : decode method_7_code 141 = .ok (.iadd, 1) := by decide +kernel
theorem D9_142 : decode method_7_code 142 = .ok (.baload, 1) := by decide +kernel
theorem D9_143 : decode method_7_code 143 = .ok (.lload_n 3, 1) := by decide +kernel
theorem D9_144 : decode method_7_code 144 = .ok (.iconst 5, 1) := by decide +kernel
theorem D9_145 : decode method_7_code 145 = .ok (.invokestatic 33, 3) := by decide +kernel
theorem D9_148 : decode method_7_code 148 = .ok (.if_icmp .eq 5, 3) := by decide +kernel
theorem D9_153 : decode method_7_code 153 = .ok (.iload_n 2, 1) := by decide +kernel
theorem D9_154 : decode method_7_code 154 = .ok (.bipush 6, 2) := by decide +kernel
theorem D9_156 : decode method_7_code 156 = .ok (.if_icmp .le 21, 3) := by decide +kernel
theorem D9_159 : decode method_7_code 159 = .ok (.aload_n 0, 1) := by decide +kernel
theorem D9_160 : decode method_7_code 160 = .ok (.iload 5, 2) := by decide +kernel
theorem D9_162 : decode method_7_code 162 = .ok (.bipush 6, 2) := by decide +kernel
theorem D9_164 : decode method_7_code 164 = .ok (.iadd, 1) := by decide +kernel
theorem D9_165 : decode method_7_code 165 = .ok (.baload, 1) := by decide +kernel
theorem D9_166 : decode method_7_code 166 = .ok (.lload_n 3, 1) := by decide +kernel
theorem D9_167 : decode method_7_code 167 = .ok (.bipush 6, 2) := by decide +kernel
theorem D9_169 : decode method_7_code 169 = .ok (.invokestatic 33, 3) := by decide +kernel
theorem D9_172 : decode method_7_code 172 = .ok (.if_icmp .eq 5, 3) := by decide +kernel
theorem D9_177 : decode method_7_code 177 = .ok (.iload_n 2, 1) := by decide +kernel
theorem D9_178 : decode method_7_code 178 = .ok (.bipush 7, 2) := by decide +kernel
theorem D9_180 : decode method_7_code 180 = .ok (.if_icmp .le 21, 3) := by decide +kernel
theorem D9_183 : decode method_7_code 183 = .ok (.aload_n 0, 1) := by decide +kernel
theorem D9_184 : decode method_7_code 184 = .ok (.iload 5, 2) := by decide +kernel
theorem D9_186 : decode method_7_code 186 = .ok (.bipush 7, 2) := by decide +kernel
theorem D9_188 : decode method_7_code 188 = .ok (.iadd, 1) := by decide +kernel
theorem D9_189 : decode method_7_code 189 = .ok (.baload, 1) := by decide +kernel
theorem D9_190 : decode method_7_code 190 = .ok (.lload_n 3, 1) := by decide +kernel
theorem D9_191 : decode method_7_code 191 = .ok (.bipush 7, 2) := by decide +kernel
theorem D9_193 : decode method_7_code 193 = .ok (.invokestatic 33, 3) := by decide +kernel
theorem D9_196 : decode method_7_code 196 = .ok (.if_icmp .eq 5, 3) := by decide +kernel
theorem D9_201 : decode method_7_code 201 = .ok (.iload_n 2, 1) := by decide +kernel
theorem D9_202 : decode method_7_code 202 = .ok (.bipush 8, 2) := by decide +kernel
theorem D9_204 : decode method_7_code 204 = .ok (.if_icmp .le 21, 3) := by decide +kernel
theorem D9_207 : decode method_7_code 207 = .ok (.aload_n 0, 1) := by decide +kernel
theorem D9_208 : decode method_7_code 208 = .ok (.iload 5, 2) := by decide +kernel
theorem D9_210 : decode method_7_code 210 = .ok (.bipush 8, 2) := by decide +kernel
theorem D9_212 : decode method_7_code 212 = .ok (.iadd, 1) := by decide +kernel
theorem D9_213 : decode method_7_code 213 = .ok (.baload, 1) := by decide +kernel
theorem D9_214 : decode method_7_code 214 = .ok (.lload_n 3, 1) := by decide +kernel
theorem D9_215 : decode method_7_code 215 = .ok (.bipush 8, 2) := by decide +kernel
theorem D9_217 : decode method_7_code 217 = .ok (.invokestatic 33, 3) := by decide +kernel
theorem D9_220 : decode method_7_code 220 = .ok (.if_icmp .eq 5, 3) := by decide +kernel
theorem D9_225 : decode method_7_code 225 = .ok (.iload_n 2, 1) := by decide +kernel
theorem D9_226 : decode method_7_code 226 = .ok (.bipush 9, 2) := by decide +kernel
theorem D9_228 : decode method_7_code 228 = .ok (.if_icmp .le 21, 3) := by decide +kernel
theorem D9_231 : decode method_7_code 231 = .ok (.aload_n 0, 1) := by decide +kernel
theorem D9_232 : decode method_7_code 232 = .ok (.iload 5, 2) := by decide +kernel
theorem D9_234 : decode method_7_code 234 = .ok (.bipush 9, 2) := by decide +kernel
theorem D9_236 : decode method_7_code 236 = .ok (.iadd, 1) := by decide +kernel
theorem D9_237 : decode method_7_code 237 = .ok (.baload, 1) := by decide +kernel
theorem D9_238 : decode method_7_code 238 = .ok (.lload_n 3, 1) := by decide +kernel
theorem D9_239 : decode method_7_code 239 = .ok (.bipush 9, 2) := by decide +kernel
theorem D9_241 : decode method_7_code 241 = .ok (.invokestatic 33, 3) := by decide +kernel
theorem D9_244 : decode method_7_code 244 = .ok (.if_icmp .eq 5, 3) := by decide +kernel
theorem D9_249 : decode method_7_code 249 = .ok (.iload 5, 2) := by decide +kernel
theorem D9_251 : decode method_7_code 251 = .ok (.iload_n 2, 1) := by decide +kernel
theorem D9_252 : decode method_7_code 252 = .ok (.iadd, 1) := by decide +kernel
theorem D9_253 : decode method_7_code 253 = .ok (.istore 6, 2) := by decide +kernel
theorem D9_255 : decode method_7_code 255 = .ok (.aload_n 0, 1) := by decide +kernel
theorem D9_256 : decode method_7_code 256 = .ok (.iload 6, 2) := by decide +kernel
theorem D9_258 : decode method_7_code 258 = .ok (.baload, 1) := by decide +kernel
theorem D9_259 : decode method_7_code 259 = .ok (.bipush 13, 2) := by decide +kernel
theorem D9_261 : decode method_7_code 261 = .ok (.if_icmp .ne 14, 3) := by decide +kernel
theorem D9_264 : decode method_7_code 264 = .ok (.aload_n 0, 1) := by decide +kernel
theorem D9_265 : decode method_7_code 265 = .ok (.iload 6, 2) := by decide +kernel
theorem D9_267 : decode method_7_code 267 = .ok (.iconst 1, 1) := by decide +kernel
theorem D9_268 : decode method_7_code 268 = .ok (.iadd, 1) := by decide +kernel
theorem D9_269 : decode method_7_code 269 = .ok (.baload, 1) := by decide +kernel
theorem D9_270 : decode method_7_code 270 = .ok (.bipush 10, 2) := by decide +kernel
theorem D9_272 : decode method_7_code 272 = .ok (.if_icmp .eq 5, 3) := by decide +kernel
theorem D9_277 : decode method_7_code 277 = .ok (.iload 6, 2) := by decide +kernel
theorem D9_279 : decode method_7_code 279 = .ok (.iconst 2, 1) := by decide +kernel
theorem D9_280 : decode method_7_code 280 = .ok (.iadd, 1) := by decide +kernel
theorem D9_281 : decode method_7_code 281 = .ok (.ireturn, 1) := by decide +kernel
def Q_rm_body (Z : State) (ot : Addr) (kk : ClassId) (nn : Int32) (cc : List Value) (pr : List Value) (po : List Value) (aa : Int32) (ln : Int32) (pp : Int64) (h0 : Heap) (n0 : Nat) (v : Option Value) (h : Heap) (L : List Loc) : Prop := ∃ (az : Int32), v = some (.int az) ∧ Fr n0 L ∧ h = h0 ∧ az.toInt = aa.toInt + (own_hn ln + ln.toInt + 2)
theorem ef_rm_body (m : MethodId) (ot : Addr) (kk : ClassId) (nn : Int32) (cc : List Value) (pr : List Value) (po : List Value) (aa : Int32) (ln : Int32) (pp : Int64) : entryFrame m #[(.ref ot), (.int aa), (.int ln), (.long pp)] 7 = mkF m 0 #[.val (.ref ot), .val (.int aa), .val (.int ln), .val (.long pp), .second, .unset, .unset] [] := by first | (simp [entryFrame, mkF, argsToLocals, Value.category]; done) | rfl
set_option maxRecDepth 65536 in
set_option maxHeartbeats 40000000 in
theorem rm_body (l : Launch) (Z : State) (a0 : Array Value) (hw : ∀ d ∈ tables_1, d.before a0 Z = true) (ws : List Jvm.Cond) (ot : Addr) (kk : ClassId) (nn : Int32) (cc : List Value) (pr : List Value) (po : List Value) (aa : Int32) (ln : Int32) (pp : Int64) (h0 : Heap) (n0 : Nat) (O0 : Old Z n0 h0) (Fo : Arv Z h0 ot kk .byte nn cc (.int (0 : Int32))) (hln : own_cnt ln) (hcc : cc = pr ++ (own_bd ln (own_fl ln pp) ++ po)) (haa : aa.toInt = (pr.length : Int)) (hle : (pr.length : Int) + (own_hn ln + ln.toInt + 2) ≤ nn.toInt) (hns : nn.toInt ≤ 1000) :
    MetFree l (⟨s1_, "body", "([BIIJ)I"⟩ : MethodName) (head1 (Jvm.Cond.code (⟨s1_, "body", "([BIIJ)I"⟩ : MethodName) method_7_code 7 (some .int) :: ws) ({ frames := 1, cells := 0, slots := 0, locals := 17 } : Room)) (fun a U => a = #[(.ref ot), (.int aa), (.int ln), (.long pp)] ∧ Z.Warmed39 U.vm ∧ U.heap = h0) (fun _ _ _ _ _ => True) (fun _ U o U' => ∃ v L, o = .returned v ∧ Q_rm_body Z ot kk nn cc pr po aa ln pp h0 n0 v U'.heap L ∧ FrameEnd U o U' L ({ frames := 1, cells := 0, slots := 0, locals := 17 } : Room).cells ({ frames := 1, cells := 0, slots := 0, locals := 17 } : Room).slots) := by
  refine MetFree.of_bodySF (plainFor_of_name own_pn_com_example_living_lease_livinglease_redis_RespCommandPinLaw) hisR ?_
  intro p e s m args below meth c s₁ Bd hml0 hP hK
  obtain ⟨rfl, hZ, hh⟩ := hP
  have hx := Bd.exec
  have hby := Bd.bytes
  have hml : c.maxLocals = 7 := hml0
  have hown : s.vm.findClass s1_ = some m.cls := findClass_of_methodNamed Bd.named
  have hnm := (name_of_methodNamed Bd.named Bd.method).1
  have X0 : Stand p l e ({ frames := 1, cells := 0, slots := 0, locals := 17 } : Room) s m #[(.ref ot), (.int aa), (.int ln), (.long pp)] below meth c s₁ [] 0 0 := Stand.of_body Bd
  have e0 : s₁.heap = h0 := by rw [← hh, Bd.state]; rfl
  have N0 := Fr.nil n0
  have Z0 : n0 ≤ h0.size := by rw [← O0.1]; exact O0.2.1
  show own_Go p e below (s₁.setTop (entryFrame m #[(.ref ot), (.int aa), (.int ln), (.long pp)] 7)) (fun t o => ∃ v L, o = .returned v ∧ Q_rm_body Z ot kk nn cc pr po aa ln pp h0 n0 v t.heap L ∧ FrameEnd s o t L ({ frames := 1, cells := 0, slots := 0, locals := 17 } : Room).cells ({ frames := 1, cells := 0, slots := 0, locals := 17 } : Room).slots)
  rw [ef_rm_body m ot kk nn cc pr po aa ln pp]
  have lt_Fo : h0.size > ot := Fo.lt
  have hr_ln := own_cnt_rng hln
  refine n_aloadN X0 hx hby D9_0 rfl rfl ?_
  refine n_iloadN X0 hx hby D9_1 rfl ?_
  refine oBi X0 hx hby D9_2 (z := (36 : Int32)) rfl ?_
  refine n_iloadN X0 hx hby D9_4 rfl ?_
  refine o_ksc 3 0 0 (Jvm.LawKit.callS X0 hx (y := (⟨s1_, "header", "([BICI)I"⟩ : MethodName)) hown (mw hZ hw 23 rfl) (mw hZ hw 24 rfl) (mw hZ hw 2 rfl) (mw hZ hw 25 rfl) (by decide) (backOf (W := 0) (rm_hd36 l Z a0 hw [] ot kk nn cc pr ((own_fl ln pp ++ [.int 13, .int 10]) ++ po) aa ln h0 n0 O0 Fo hln (by rw [hcc, own_bd, List.append_assoc]) haa (by omega) hns) hZ (own_w hw 25 rfl) (own_w hw 2 rfl) (by decide) (by decide)) (g := (mkF m 5 #[.val (.ref ot), .val (.int aa), .val (.int ln), .val (.long pp), .second, .unset, .unset] [(.int ln), (.int (36 : Int32)), (.int aa), (.ref ot)])) rfl (by rw [hml]; rfl) (argsL := [(.ref ot), (.int aa), (.int (36 : Int32)), (.int ln)]) (rest := []) (lenOf own_pd__28_5bBICI_29I rfl) rfl own_z (hb hby D9_5) (fun _ _ => ⟨rfl, e0, (by decide : 0 + 0 ≤ _), (by decide : 0 + 0 ≤ _)⟩)) fun T1 Lc1 _ X1 hQ1 => ?_
  obtain ⟨az_1, rfl, M1, K1, r1_0⟩ := hQ1
  have N1 := Fr.app N0 M1
  obtain ⟨lc1, X1, N1⟩ := own_lc X1 N1
  refine n_istore X1 hx hby D9_8 (l' := #[.val (.ref ot), .val (.int aa), .val (.int ln), .val (.long pp), .second, .val (.int az_1), .unset]) rfl ?_
  show own_Go p e below (T1.setTop (mkF m 10 #[.val (.ref ot), .val (.int aa), .val (.int ln), .val (.long pp), .second, .val (.int az_1), .unset] [])) _
  have nl2 : ¬ (az_1 < (0 : Int32)) := by
    have iv3 : ((0 : Int32) : Int32).toInt = 0 := rfl
    exact own_nlt (by omega)
  refine n_iload X1 hx hby D9_10 rfl ?_
  refine n_ifYes X1 hx hby D9_12 (pc0 := 12) (pc' := 17) rfl ((if0 _ _).trans (flt nl2).2.1) (by decide) (by decide) ?_
  refine n_iload X1 hx hby D9_17 rfl ?_
  refine n_iloadN X1 hx hby D9_19 rfl ?_
  refine n_iadd X1 hx hby D9_20 ?_
  refine oIc X1 hx hby D9_21 (z := (2 : Int32)) rfl ?_
  refine n_iadd X1 hx hby D9_22 ?_
  refine n_aloadN X1 hx hby D9_23 rfl rfl ?_
  obtain ⟨cl4, Ar4, q4, S4, M4, H4, G4⟩ := (id Fo)
  refine ob_ (X1.arraylength hx (by rw [K1]; exact Ar4.1) (State.isArrayOf_alike hZ.alike Ar4.2.1) (g := (mkF m 24 #[.val (.ref ot), .val (.int aa), .val (.int ln), .val (.long pp), .second, .val (.int az_1), .unset] [(.ref ot), (.int ((az_1 + ln) + (2 : Int32)))])) rfl rfl (hb hby D9_24)) ?_
  rw [len_of S4 M4]
  show own_Go p e below (T1.setTop (mkF m 25 #[.val (.ref ot), .val (.int aa), .val (.int ln), .val (.long pp), .second, .val (.int az_1), .unset] [(.int nn), (.int ((az_1 + ln) + (2 : Int32)))])) _
  have nl5 : ¬ (nn < ((az_1 + ln) + (2 : Int32))) := by
    have iv6 : ((az_1 + ln) : Int32).toInt = (az_1 : Int32).toInt + (ln : Int32).toInt := own_ia (by omega)
    have iv7 : ((2 : Int32) : Int32).toInt = 2 := rfl
    have iv8 : (((az_1 + ln) + (2 : Int32)) : Int32).toInt = ((az_1 + ln) : Int32).toInt + ((2 : Int32) : Int32).toInt := own_ia (by omega)
    exact own_nlt (by omega)
  refine n_icmpYes X1 hx hby D9_25 (pc0 := 25) (pc' := 30) rfl (flt nl5).2.2.2 (by decide) (by decide) ?_
  show own_Go p e below (T1.setTop (mkF m 30 #[.val (.ref ot), .val (.int aa), .val (.int ln), .val (.long pp), .second, .val (.int az_1), .unset] [])) _
  rcases hln with rfl | rfl | rfl | rfl
  · skip
    show own_Go p e below (T1.setTop (mkF m 30 #[.val (.ref ot), .val (.int aa), .val (.int (0 : Int32)), .val (.long pp), .second, .val (.int az_1), .unset] [])) _
    have hn_0 := own_hn_0
    have iv9 : ((0 : Int32) : Int32).toInt = 0 := rfl
    have hlb : ((pr ++ own_hd (36 : Int32) (0 : Int32)).length : Int) = az_1.toInt := by rw [List.length_append]; have q := own_hd_len (36 : Int32) (show own_cnt (0 : Int32) by decide); omega
    have Vo : Arv Z h0 ot kk .byte nn ((pr ++ own_hd (36 : Int32) (0 : Int32)) ++ ([(.int (13 : Int32)), (.int (10 : Int32))] ++ po)) (.int (0 : Int32)) := by have q := Fo; rw [hcc, own_bd_eq, own_fl_0] at q; exact q
    refine n_iloadN X1 hx hby D9_30 rfl ?_
    refine n_ifYes X1 hx hby D9_31 (pc0 := 31) (pc' := 48) rfl ((if0 _ _).trans (flt (by decide : ¬ ((0 : Int32) < (0 : Int32)))).2.2.2) (by decide) (by decide) ?_
    refine n_iloadN X1 hx hby D9_48 rfl ?_
    refine oIc X1 hx hby D9_49 (z := (1 : Int32)) rfl ?_
    refine n_icmpYes X1 hx hby D9_50 (pc0 := 50) (pc' := 69) rfl (flt (by decide : ¬ ((1 : Int32) < (0 : Int32)))).2.2.2 (by decide) (by decide) ?_
    refine n_iloadN X1 hx hby D9_69 rfl ?_
    refine oIc X1 hx hby D9_70 (z := (2 : Int32)) rfl ?_
    refine n_icmpYes X1 hx hby D9_71 (pc0 := 71) (pc' := 90) rfl (flt (by decide : ¬ ((2 : Int32) < (0 : Int32)))).2.2.2 (by decide) (by decide) ?_
    refine n_iloadN X1 hx hby D9_90 rfl ?_
    refine oIc X1 hx hby D9_91 (z := (3 : Int32)) rfl ?_
    refine n_icmpYes X1 hx hby D9_92 (pc0 := 92) (pc' := 111) rfl (flt (by decide : ¬ ((3 : Int32) < (0 : Int32)))).2.2.2 (by decide) (by decide) ?_
    refine n_iloadN X1 hx hby D9_111 rfl ?_
    refine oIc X1 hx hby D9_112 (z := (4 : Int32)) rfl ?_
    refine n_icmpYes X1 hx hby D9_113 (pc0 := 113) (pc' := 132) rfl (flt (by decide : ¬ ((4 : Int32) < (0 : Int32)))).2.2.2 (by decide) (by decide) ?_
    refine n_iloadN X1 hx hby D9_132 rfl ?_
    refine oIc X1 hx hby D9_133 (z := (5 : Int32)) rfl ?_
    refine n_icmpYes X1 hx hby D9_134 (pc0 := 134) (pc' := 153) rfl (flt (by decide : ¬ ((5 : Int32) < (0 : Int32)))).2.2.2 (by decide) (by decide) ?_
    refine n_iloadN X1 hx hby D9_153 rfl ?_
    refine oBi X1 hx hby D9_154 (z := (6 : Int32)) rfl ?_
    refine n_icmpYes X1 hx hby D9_156 (pc0 := 156) (pc' := 177) rfl (flt (by decide : ¬ ((6 : Int32) < (0 : Int32)))).2.2.2 (by decide) (by decide) ?_
    refine n_iloadN X1 hx hby D9_177 rfl ?_
    refine oBi X1 hx hby D9_178 (z := (7 : Int32)) rfl ?_
    refine n_icmpYes X1 hx hby D9_180 (pc0 := 180) (pc' := 201) rfl (flt (by decide : ¬ ((7 : Int32) < (0 : Int32)))).2.2.2 (by decide) (by decide) ?_
    refine n_iloadN X1 hx hby D9_201 rfl ?_
    refine oBi X1 hx hby D9_202 (z := (8 : Int32)) rfl ?_
    refine n_icmpYes X1 hx hby D9_204 (pc0 := 204) (pc' := 225) rfl (flt (by decide : ¬ ((8 : Int32) < (0 : Int32)))).2.2.2 (by decide) (by decide) ?_
    refine n_iloadN X1 hx hby D9_225 rfl ?_
    refine oBi X1 hx hby D9_226 (z := (9 : Int32)) rfl ?_
    refine n_icmpYes X1 hx hby D9_228 (pc0 := 228) (pc' := 249) rfl (flt (by decide : ¬ ((9 : Int32) < (0 : Int32)))).2.2.2 (by decide) (by decide) ?_
    refine n_iload X1 hx hby D9_249 rfl ?_
    refine n_iloadN X1 hx hby D9_251 rfl ?_
    refine n_iadd X1 hx hby D9_252 ?_
    refine n_istore X1 hx hby D9_253 (l' := #[.val (.ref ot), .val (.int aa), .val (.int (0 : Int32)), .val (.long pp), .second, .val (.int az_1), .val (.int (az_1 + (0 : Int32)))]) rfl ?_
    refine n_aloadN X1 hx hby D9_255 rfl rfl ?_
    refine n_iload X1 hx hby D9_256 rfl ?_
    have hb10 : az_1.toInt = ((pr ++ own_hd (36 : Int32) (0 : Int32)).length : Int) := by omega
    have hM10 : ((pr ++ own_hd (36 : Int32) (0 : Int32)).length : Int) + ((2 : Nat) : Int) ≤ nn.toInt := by omega
    have ik11 : own_is az_1 az_1 0 := own_is0
    have rg12 : own_rg az_1 := ⟨by omega, by omega⟩
    have ik13 : own_is (az_1 + (0 : Int32)) az_1 0 := own_isS (k := 0) ik11 rg12 (by decide) (by decide)
    obtain ⟨cl14, Ar14, q14, S14, M14, H14, G14⟩ := (id Vo)
    have hin14 : ¬ ((az_1 + (0 : Int32)) < 0 ∨ cl14.slots.size ≤ ((az_1 + (0 : Int32))).toNatClampNeg) := own_inbK S14 ik13 hb10 hM10 (by decide)
    refine ob_ (X1.baloadBytes hx (j := (az_1 + (0 : Int32))) (v := (.int (13 : Int32))) (by rw [K1]; exact Ar14.1) (State.isArrayOf_alike hZ.alike Ar14.2.1) Ar14.2.2 hin14 (H14.at hin14 (own_rd 0 (own_jj ik13 hb10) (Nat.le_of_ble_eq_true rfl) rfl)) (g := (mkF m 258 #[.val (.ref ot), .val (.int aa), .val (.int (0 : Int32)), .val (.long pp), .second, .val (.int az_1), .val (.int (az_1 + (0 : Int32)))] [(.int (az_1 + (0 : Int32))), (.ref ot)])) rfl rfl (hb hby D9_258)) ?_
    refine oBi X1 hx hby D9_259 (z := (13 : Int32)) rfl ?_
    refine n_icmpNo X1 hx hby D9_261 (teq (by decide : (13 : Int32) = (13 : Int32))).2 ?_
    refine n_aloadN X1 hx hby D9_264 rfl rfl ?_
    refine n_iload X1 hx hby D9_265 rfl ?_
    refine oIc X1 hx hby D9_267 (z := (1 : Int32)) rfl ?_
    refine n_iadd X1 hx hby D9_268 ?_
    have ik15 : own_is ((az_1 + (0 : Int32)) + (1 : Int32)) az_1 1 := own_isS (k := 1) ik13 rg12 (by decide) (by decide)
    obtain ⟨cl16, Ar16, q16, S16, M16, H16, G16⟩ := (id Vo)
    have hin16 : ¬ (((az_1 + (0 : Int32)) + (1 : Int32)) < 0 ∨ cl16.slots.size ≤ (((az_1 + (0 : Int32)) + (1 : Int32))).toNatClampNeg) := own_inbK S16 ik15 hb10 hM10 (by decide)
    refine ob_ (X1.baloadBytes hx (j := ((az_1 + (0 : Int32)) + (1 : Int32))) (v := (.int (10 : Int32))) (by rw [K1]; exact Ar16.1) (State.isArrayOf_alike hZ.alike Ar16.2.1) Ar16.2.2 hin16 (H16.at hin16 (own_rd 1 (own_jj ik15 hb10) (Nat.le_of_ble_eq_true rfl) rfl)) (g := (mkF m 269 #[.val (.ref ot), .val (.int aa), .val (.int (0 : Int32)), .val (.long pp), .second, .val (.int az_1), .val (.int (az_1 + (0 : Int32)))] [(.int ((az_1 + (0 : Int32)) + (1 : Int32))), (.ref ot)])) rfl rfl (hb hby D9_269)) ?_
    refine oBi X1 hx hby D9_270 (z := (10 : Int32)) rfl ?_
    refine n_icmpYes X1 hx hby D9_272 (pc0 := 272) (pc' := 277) rfl (teq (by decide : (10 : Int32) = (10 : Int32))).1 (by decide) (by decide) ?_
    refine n_iload X1 hx hby D9_277 rfl ?_
    refine oIc X1 hx hby D9_279 (z := (2 : Int32)) rfl ?_
    refine n_iadd X1 hx hby D9_280 ?_
    show own_Go p e below (T1.setTop (mkF m 281 #[.val (.ref ot), .val (.int aa), .val (.int (0 : Int32)), .val (.long pp), .second, .val (.int az_1), .val (.int (az_1 + (0 : Int32)))] [(.int ((az_1 + (0 : Int32)) + (2 : Int32)))])) _
    have ik17 : own_is ((az_1 + (0 : Int32)) + (2 : Int32)) az_1 2 := own_isS (k := 2) ik13 rg12 (by decide) (by decide)
    obtain ⟨fs, hr, hrun, hended, hW, hsame⟩ := X1.leave (v := some (.int ((az_1 + (0 : Int32)) + (2 : Int32)))) (fun h => by rw [Bd.returns] at h; cases h)
    refine ⟨_, _, retI X1 hx Bd.returns (hb hby D9_281) hr, hrun, hended, _, _, rfl, ?_, ⟨_, rfl⟩, hW, hsame.mono (by decide) (by decide)⟩
    show Q_rm_body Z ot kk nn cc pr po aa (0 : Int32) pp h0 n0 _ T1.heap _
    rw [K1]
    exact ⟨((az_1 + (0 : Int32)) + (2 : Int32)), rfl, N1, rfl, (by have q := own_isV ik17; omega)⟩
  · skip
    show own_Go p e below (T1.setTop (mkF m 30 #[.val (.ref ot), .val (.int aa), .val (.int (1 : Int32)), .val (.long pp), .second, .val (.int az_1), .unset] [])) _
    have hn_1 := own_hn_1
    have iv18 : ((1 : Int32) : Int32).toInt = 1 := rfl
    have hlb : ((pr ++ own_hd (36 : Int32) (1 : Int32)).length : Int) = az_1.toInt := by rw [List.length_append]; have q := own_hd_len (36 : Int32) (show own_cnt (1 : Int32) by decide); omega
    have Vo : Arv Z h0 ot kk .byte nn ((pr ++ own_hd (36 : Int32) (1 : Int32)) ++ ([(.int (own_bt pp (0 : Int32))), (.int (13 : Int32)), (.int (10 : Int32))] ++ po)) (.int (0 : Int32)) := by have q := Fo; rw [hcc, own_bd_eq, own_fl_1] at q; exact q
    refine n_iloadN X1 hx hby D9_30 rfl ?_
    refine n_ifNo X1 hx hby D9_31 ((if0 _ _).trans (tlt (by decide : (0 : Int32) < (1 : Int32))).2.2.2) ?_
    refine n_aloadN X1 hx hby D9_34 rfl rfl ?_
    refine n_iload X1 hx hby D9_35 rfl ?_
    have hb19 : az_1.toInt = ((pr ++ own_hd (36 : Int32) (1 : Int32)).length : Int) := by omega
    have hM19 : ((pr ++ own_hd (36 : Int32) (1 : Int32)).length : Int) + ((3 : Nat) : Int) ≤ nn.toInt := by omega
    have ik20 : own_is az_1 az_1 0 := own_is0
    obtain ⟨cl21, Ar21, q21, S21, M21, H21, G21⟩ := (id Vo)
    have hin21 : ¬ (az_1 < 0 ∨ cl21.slots.size ≤ (az_1).toNatClampNeg) := own_inbK S21 ik20 hb19 hM19 (by decide)
    refine ob_ (X1.baloadBytes hx (j := az_1) (v := (.int (own_bt pp (0 : Int32)))) (by rw [K1]; exact Ar21.1) (State.isArrayOf_alike hZ.alike Ar21.2.1) Ar21.2.2 hin21 (H21.at hin21 (own_rd 0 (own_jj ik20 hb19) (Nat.le_of_ble_eq_true rfl) rfl)) (g := (mkF m 37 #[.val (.ref ot), .val (.int aa), .val (.int (1 : Int32)), .val (.long pp), .second, .val (.int az_1), .unset] [(.int az_1), (.ref ot)])) rfl rfl (hb hby D9_37)) ?_
    refine n_lloadN X1 hx hby D9_38 rfl ?_
    refine oIc X1 hx hby D9_39 (z := (0 : Int32)) rfl ?_
    refine o_ksc 3 0 0 (Jvm.LawKit.callS X1 hx (y := (⟨s1_, "byteAt", "(JI)B"⟩ : MethodName)) hown (mw hZ hw 26 rfl) (mw hZ hw 27 rfl) (mw hZ hw 2 rfl) (mw hZ hw 28 rfl) (by decide) (backOf (W := 1) (rm_byte l Z a0 hw [] pp (0 : Int32) h0 n0 O0) hZ (own_w hw 28 rfl) (own_w hw 2 rfl) (by decide) (by decide)) (g := (mkF m 40 #[.val (.ref ot), .val (.int aa), .val (.int (1 : Int32)), .val (.long pp), .second, .val (.int az_1), .unset] [(.int (0 : Int32)), (.long pp), (.int (own_bt pp (0 : Int32)))])) rfl (by rw [hml]; rfl) (argsL := [(.long pp), (.int (0 : Int32))]) (rest := [(.int (own_bt pp (0 : Int32)))]) (lenOf own_pd__28JI_29B rfl) rfl own_z (hb hby D9_40) (fun _ _ => ⟨rfl, K1, (by decide : 0 + 0 ≤ _), (by decide : 0 + 0 ≤ _)⟩)) fun T22 Lc22 _ X22 hQ22 => ?_
    obtain ⟨rfl, M22, K22⟩ := hQ22
    have N22 := Fr.app N1 M22
    obtain ⟨lc22, X22, N22⟩ := own_lc X22 N22
    refine n_icmpYes X22 hx hby D9_43 (pc0 := 43) (pc' := 48) rfl (teq (rfl : (own_bt pp (0 : Int32)) = (own_bt pp (0 : Int32)))).1 (by decide) (by decide) ?_
    refine n_iloadN X22 hx hby D9_48 rfl ?_
    refine oIc X22 hx hby D9_49 (z := (1 : Int32)) rfl ?_
    refine n_icmpYes X22 hx hby D9_50 (pc0 := 50) (pc' := 69) rfl (flt (by decide : ¬ ((1 : Int32) < (1 : Int32)))).2.2.2 (by decide) (by decide) ?_
    refine n_iloadN X22 hx hby D9_69 rfl ?_
    refine oIc X22 hx hby D9_70 (z := (2 : Int32)) rfl ?_
    refine n_icmpYes X22 hx hby D9_71 (pc0 := 71) (pc' := 90) rfl (flt (by decide : ¬ ((2 : Int32) < (1 : Int32)))).2.2.2 (by decide) (by decide) ?_
    refine n_iloadN X22 hx hby D9_90 rfl ?_
    refine oIc X22 hx hby D9_91 (z := (3 : Int32)) rfl ?_
    refine n_icmpYes X22 hx hby D9_92 (pc0 := 92) (pc' := 111) rfl (flt (by decide : ¬ ((3 : Int32) < (1 : Int32)))).2.2.2 (by decide) (by decide) ?_
    refine n_iloadN X22 hx hby D9_111 rfl ?_
    refine oIc X22 hx hby D9_112 (z := (4 : Int32)) rfl ?_
    refine n_icmpYes X22 hx hby D9_113 (pc0 := 113) (pc' := 132) rfl (flt (by decide : ¬ ((4 : Int32) < (1 : Int32)))).2.2.2 (by decide) (by decide) ?_
    refine n_iloadN X22 hx hby D9_132 rfl ?_
    refine oIc X22 hx hby D9_133 (z := (5 : Int32)) rfl ?_
    refine n_icmpYes X22 hx hby D9_134 (pc0 := 134) (pc' := 153) rfl (flt (by decide : ¬ ((5 : Int32) < (1 : Int32)))).2.2.2 (by decide) (by decide) ?_
    refine n_iloadN X22 hx hby D9_153 rfl ?_
    refine oBi X22 hx hby D9_154 (z := (6 : Int32)) rfl ?_
    refine n_icmpYes X22 hx hby D9_156 (pc0 := 156) (pc' := 177) rfl (flt (by decide : ¬ ((6 : Int32) < (1 : Int32)))).2.2.2 (by decide) (by decide) ?_
    refine n_iloadN X22 hx hby D9_177 rfl ?_
    refine oBi X22 hx hby D9_178 (z := (7 : Int32)) rfl ?_
    refine n_icmpYes X22 hx hby D9_180 (pc0 := 180) (pc' := 201) rfl (flt (by decide : ¬ ((7 : Int32) < (1 : Int32)))).2.2.2 (by decide) (by decide) ?_
    refine n_iloadN X22 hx hby D9_201 rfl ?_
    refine oBi X22 hx hby D9_202 (z := (8 : Int32)) rfl ?_
    refine n_icmpYes X22 hx hby D9_204 (pc0 := 204) (pc' := 225) rfl (flt (by decide : ¬ ((8 : Int32) < (1 : Int32)))).2.2.2 (by decide) (by decide) ?_
    refine n_iloadN X22 hx hby D9_225 rfl ?_
    refine oBi X22 hx hby D9_226 (z := (9 : Int32)) rfl ?_
    refine n_icmpYes X22 hx hby D9_228 (pc0 := 228) (pc' := 249) rfl (flt (by decide : ¬ ((9 : Int32) < (1 : Int32)))).2.2.2 (by decide) (by decide) ?_
    refine n_iload X22 hx hby D9_249 rfl ?_
    refine n_iloadN X22 hx hby D9_251 rfl ?_
    refine n_iadd X22 hx hby D9_252 ?_
    refine n_istore X22 hx hby D9_253 (l' := #[.val (.ref ot), .val (.int aa), .val (.int (1 : Int32)), .val (.long pp), .second, .val (.int az_1), .val (.int (az_1 + (1 : Int32)))]) rfl ?_
    refine n_aloadN X22 hx hby D9_255 rfl rfl ?_
    refine n_iload X22 hx hby D9_256 rfl ?_
    have rg23 : own_rg az_1 := ⟨by omega, by omega⟩
    have ik24 : own_is (az_1 + (1 : Int32)) az_1 1 := own_isS (k := 1) ik20 rg23 (by decide) (by decide)
    obtain ⟨cl25, Ar25, q25, S25, M25, H25, G25⟩ := (id Vo)
    have hin25 : ¬ ((az_1 + (1 : Int32)) < 0 ∨ cl25.slots.size ≤ ((az_1 + (1 : Int32))).toNatClampNeg) := own_inbK S25 ik24 hb19 hM19 (by decide)
    refine ob_ (X22.baloadBytes hx (j := (az_1 + (1 : Int32))) (v := (.int (13 : Int32))) (by rw [K22]; exact Ar25.1) (State.isArrayOf_alike hZ.alike Ar25.2.1) Ar25.2.2 hin25 (H25.at hin25 (own_rd 1 (own_jj ik24 hb19) (Nat.le_of_ble_eq_true rfl) rfl)) (g := (mkF m 258 #[.val (.ref ot), .val (.int aa), .val (.int (1 : Int32)), .val (.long pp), .second, .val (.int az_1), .val (.int (az_1 + (1 : Int32)))] [(.int (az_1 + (1 : Int32))), (.ref ot)])) rfl rfl (hb hby D9_258)) ?_
    refine oBi X22 hx hby D9_259 (z := (13 : Int32)) rfl ?_
    refine n_icmpNo X22 hx hby D9_261 (teq (by decide : (13 : Int32) = (13 : Int32))).2 ?_
    refine n_aloadN X22 hx hby D9_264 rfl rfl ?_
    refine n_iload X22 hx hby D9_265 rfl ?_
    refine oIc X22 hx hby D9_267 (z := (1 : Int32)) rfl ?_
    refine n_iadd X22 hx hby D9_268 ?_
    have ik26 : own_is ((az_1 + (1 : Int32)) + (1 : Int32)) az_1 2 := own_isS (k := 1) ik24 rg23 (by decide) (by decide)
    obtain ⟨cl27, Ar27, q27, S27, M27, H27, G27⟩ := (id Vo)
    have hin27 : ¬ (((az_1 + (1 : Int32)) + (1 : Int32)) < 0 ∨ cl27.slots.size ≤ (((az_1 + (1 : Int32)) + (1 : Int32))).toNatClampNeg) := own_inbK S27 ik26 hb19 hM19 (by decide)
    refine ob_ (X22.baloadBytes hx (j := ((az_1 + (1 : Int32)) + (1 : Int32))) (v := (.int (10 : Int32))) (by rw [K22]; exact Ar27.1) (State.isArrayOf_alike hZ.alike Ar27.2.1) Ar27.2.2 hin27 (H27.at hin27 (own_rd 2 (own_jj ik26 hb19) (Nat.le_of_ble_eq_true rfl) rfl)) (g := (mkF m 269 #[.val (.ref ot), .val (.int aa), .val (.int (1 : Int32)), .val (.long pp), .second, .val (.int az_1), .val (.int (az_1 + (1 : Int32)))] [(.int ((az_1 + (1 : Int32)) + (1 : Int32))), (.ref ot)])) rfl rfl (hb hby D9_269)) ?_
    refine oBi X22 hx hby D9_270 (z := (10 : Int32)) rfl ?_
    refine n_icmpYes X22 hx hby D9_272 (pc0 := 272) (pc' := 277) rfl (teq (by decide : (10 : Int32) = (10 : Int32))).1 (by decide) (by decide) ?_
    refine n_iload X22 hx hby D9_277 rfl ?_
    refine oIc X22 hx hby D9_279 (z := (2 : Int32)) rfl ?_
    refine n_iadd X22 hx hby D9_280 ?_
    show own_Go p e below (T22.setTop (mkF m 281 #[.val (.ref ot), .val (.int aa), .val (.int (1 : Int32)), .val (.long pp), .second, .val (.int az_1), .val (.int (az_1 + (1 : Int32)))] [(.int ((az_1 + (1 : Int32)) + (2 : Int32)))])) _
    have ik28 : own_is ((az_1 + (1 : Int32)) + (2 : Int32)) az_1 3 := own_isS (k := 2) ik24 rg23 (by decide) (by decide)
    obtain ⟨fs, hr, hrun, hended, hW, hsame⟩ := X22.leave (v := some (.int ((az_1 + (1 : Int32)) + (2 : Int32)))) (fun h => by rw [Bd.returns] at h; cases h)
    refine ⟨_, _, retI X22 hx Bd.returns (hb hby D9_281) hr, hrun, hended, _, _, rfl, ?_, ⟨_, rfl⟩, hW, hsame.mono (by decide) (by decide)⟩
    show Q_rm_body Z ot kk nn cc pr po aa (1 : Int32) pp h0 n0 _ T22.heap _
    rw [K22]
    exact ⟨((az_1 + (1 : Int32)) + (2 : Int32)), rfl, N22, rfl, (by have q := own_isV ik28; omega)⟩
  · skip
    show own_Go p e below (T1.setTop (mkF m 30 #[.val (.ref ot), .val (.int aa), .val (.int (2 : Int32)), .val (.long pp), .second, .val (.int az_1), .unset] [])) _
    have hn_2 := own_hn_2
    have iv29 : ((2 : Int32) : Int32).toInt = 2 := rfl
    have hlb : ((pr ++ own_hd (36 : Int32) (2 : Int32)).length : Int) = az_1.toInt := by rw [List.length_append]; have q := own_hd_len (36 : Int32) (show own_cnt (2 : Int32) by decide); omega
    have Vo : Arv Z h0 ot kk .byte nn ((pr ++ own_hd (36 : Int32) (2 : Int32)) ++ ([(.int (own_bt pp (0 : Int32))), (.int (own_bt pp (1 : Int32))), (.int (13 : Int32)), (.int (10 : Int32))] ++ po)) (.int (0 : Int32)) := by have q := Fo; rw [hcc, own_bd_eq, own_fl_2] at q; exact q
    refine n_iloadN X1 hx hby D9_30 rfl ?_
    refine n_ifNo X1 hx hby D9_31 ((if0 _ _).trans (tlt (by decide : (0 : Int32) < (2 : Int32))).2.2.2) ?_
    refine n_aloadN X1 hx hby D9_34 rfl rfl ?_
    refine n_iload X1 hx hby D9_35 rfl ?_
    have hb30 : az_1.toInt = ((pr ++ own_hd (36 : Int32) (2 : Int32)).length : Int) := by omega
    have hM30 : ((pr ++ own_hd (36 : Int32) (2 : Int32)).length : Int) + ((4 : Nat) : Int) ≤ nn.toInt := by omega
    have ik31 : own_is az_1 az_1 0 := own_is0
    obtain ⟨cl32, Ar32, q32, S32, M32, H32, G32⟩ := (id Vo)
    have hin32 : ¬ (az_1 < 0 ∨ cl32.slots.size ≤ (az_1).toNatClampNeg) := own_inbK S32 ik31 hb30 hM30 (by decide)
    refine ob_ (X1.baloadBytes hx (j := az_1) (v := (.int (own_bt pp (0 : Int32)))) (by rw [K1]; exact Ar32.1) (State.isArrayOf_alike hZ.alike Ar32.2.1) Ar32.2.2 hin32 (H32.at hin32 (own_rd 0 (own_jj ik31 hb30) (Nat.le_of_ble_eq_true rfl) rfl)) (g := (mkF m 37 #[.val (.ref ot), .val (.int aa), .val (.int (2 : Int32)), .val (.long pp), .second, .val (.int az_1), .unset] [(.int az_1), (.ref ot)])) rfl rfl (hb hby D9_37)) ?_
    refine n_lloadN X1 hx hby D9_38 rfl ?_
    refine oIc X1 hx hby D9_39 (z := (0 : Int32)) rfl ?_
    refine o_ksc 3 0 0 (Jvm.LawKit.callS X1 hx (y := (⟨s1_, "byteAt", "(JI)B"⟩ : MethodName)) hown (mw hZ hw 26 rfl) (mw hZ hw 27 rfl) (mw hZ hw 2 rfl) (mw hZ hw 28 rfl) (by decide) (backOf (W := 1) (rm_byte l Z a0 hw [] pp (0 : Int32) h0 n0 O0) hZ (own_w hw 28 rfl) (own_w hw 2 rfl) (by decide) (by decide)) (g := (mkF m 40 #[.val (.ref ot), .val (.int aa), .val (.int (2 : Int32)), .val (.long pp), .second, .val (.int az_1), .unset] [(.int (0 : Int32)), (.long pp), (.int (own_bt pp (0 : Int32)))])) rfl (by rw [hml]; rfl) (argsL := [(.long pp), (.int (0 : Int32))]) (rest := [(.int (own_bt pp (0 : Int32)))]) (lenOf own_pd__28JI_29B rfl) rfl own_z (hb hby D9_40) (fun _ _ => ⟨rfl, K1, (by decide : 0 + 0 ≤ _), (by decide : 0 + 0 ≤ _)⟩)) fun T33 Lc33 _ X33 hQ33 => ?_
    obtain ⟨rfl, M33, K33⟩ := hQ33
    have N33 := Fr.app N1 M33
    obtain ⟨lc33, X33, N33⟩ := own_lc X33 N33
    refine n_icmpYes X33 hx hby D9_43 (pc0 := 43) (pc' := 48) rfl (teq (rfl : (own_bt pp (0 : Int32)) = (own_bt pp (0 : Int32)))).1 (by decide) (by decide) ?_
    refine n_iloadN X33 hx hby D9_48 rfl ?_
    refine oIc X33 hx hby D9_49 (z := (1 : Int32)) rfl ?_
    refine n_icmpNo X33 hx hby D9_50 (tlt (by decide : (1 : Int32) < (2 : Int32))).2.2.2 ?_
    refine n_aloadN X33 hx hby D9_53 rfl rfl ?_
    refine n_iload X33 hx hby D9_54 rfl ?_
    refine oIc X33 hx hby D9_56 (z := (1 : Int32)) rfl ?_
    refine n_iadd X33 hx hby D9_57 ?_
    have rg34 : own_rg az_1 := ⟨by omega, by omega⟩
    have ik35 : own_is (az_1 + (1 : Int32)) az_1 1 := own_isS (k := 1) ik31 rg34 (by decide) (by decide)
    obtain ⟨cl36, Ar36, q36, S36, M36, H36, G36⟩ := (id Vo)
    have hin36 : ¬ ((az_1 + (1 : Int32)) < 0 ∨ cl36.slots.size ≤ ((az_1 + (1 : Int32))).toNatClampNeg) := own_inbK S36 ik35 hb30 hM30 (by decide)
    refine ob_ (X33.baloadBytes hx (j := (az_1 + (1 : Int32))) (v := (.int (own_bt pp (1 : Int32)))) (by rw [K33]; exact Ar36.1) (State.isArrayOf_alike hZ.alike Ar36.2.1) Ar36.2.2 hin36 (H36.at hin36 (own_rd 1 (own_jj ik35 hb30) (Nat.le_of_ble_eq_true rfl) rfl)) (g := (mkF m 58 #[.val (.ref ot), .val (.int aa), .val (.int (2 : Int32)), .val (.long pp), .second, .val (.int az_1), .unset] [(.int (az_1 + (1 : Int32))), (.ref ot)])) rfl rfl (hb hby D9_58)) ?_
    refine n_lloadN X33 hx hby D9_59 rfl ?_
    refine oIc X33 hx hby D9_60 (z := (1 : Int32)) rfl ?_
    refine o_ksc 3 0 0 (Jvm.LawKit.callS X33 hx (y := (⟨s1_, "byteAt", "(JI)B"⟩ : MethodName)) hown (mw hZ hw 26 rfl) (mw hZ hw 27 rfl) (mw hZ hw 2 rfl) (mw hZ hw 28 rfl) (by decide) (backOf (W := 1) (rm_byte l Z a0 hw [] pp (1 : Int32) h0 n0 O0) hZ (own_w hw 28 rfl) (own_w hw 2 rfl) (by decide) (by decide)) (g := (mkF m 61 #[.val (.ref ot), .val (.int aa), .val (.int (2 : Int32)), .val (.long pp), .second, .val (.int az_1), .unset] [(.int (1 : Int32)), (.long pp), (.int (own_bt pp (1 : Int32)))])) rfl (by rw [hml]; rfl) (argsL := [(.long pp), (.int (1 : Int32))]) (rest := [(.int (own_bt pp (1 : Int32)))]) (lenOf own_pd__28JI_29B rfl) rfl own_z (hb hby D9_61) (fun _ _ => ⟨rfl, K33, (by decide : 0 + 0 ≤ _), (by decide : 0 + 0 ≤ _)⟩)) fun T37 Lc37 _ X37 hQ37 => ?_
    obtain ⟨rfl, M37, K37⟩ := hQ37
    have N37 := Fr.app N33 M37
    obtain ⟨lc37, X37, N37⟩ := own_lc X37 N37
    refine n_icmpYes X37 hx hby D9_64 (pc0 := 64) (pc' := 69) rfl (teq (rfl : (own_bt pp (1 : Int32)) = (own_bt pp (1 : Int32)))).1 (by decide) (by decide) ?_
    refine n_iloadN X37 hx hby D9_69 rfl ?_
    refine oIc X37 hx hby D9_70 (z := (2 : Int32)) rfl ?_
    refine n_icmpYes X37 hx hby D9_71 (pc0 := 71) (pc' := 90) rfl (flt (by decide : ¬ ((2 : Int32) < (2 : Int32)))).2.2.2 (by decide) (by decide) ?_
    refine n_iloadN X37 hx hby D9_90 rfl ?_
    refine oIc X37 hx hby D9_91 (z := (3 : Int32)) rfl ?_
    refine n_icmpYes X37 hx hby D9_92 (pc0 := 92) (pc' := 111) rfl (flt (by decide : ¬ ((3 : Int32) < (2 : Int32)))).2.2.2 (by decide) (by decide) ?_
    refine n_iloadN X37 hx hby D9_111 rfl ?_
    refine oIc X37 hx hby D9_112 (z := (4 : Int32)) rfl ?_
    refine n_icmpYes X37 hx hby D9_113 (pc0 := 113) (pc' := 132) rfl (flt (by decide : ¬ ((4 : Int32) < (2 : Int32)))).2.2.2 (by decide) (by decide) ?_
    refine n_iloadN X37 hx hby D9_132 rfl ?_
    refine oIc X37 hx hby D9_133 (z := (5 : Int32)) rfl ?_
    refine n_icmpYes X37 hx hby D9_134 (pc0 := 134) (pc' := 153) rfl (flt (by decide : ¬ ((5 : Int32) < (2 : Int32)))).2.2.2 (by decide) (by decide) ?_
    refine n_iloadN X37 hx hby D9_153 rfl ?_
    refine oBi X37 hx hby D9_154 (z := (6 : Int32)) rfl ?_
    refine n_icmpYes X37 hx hby D9_156 (pc0 := 156) (pc' := 177) rfl (flt (by decide : ¬ ((6 : Int32) < (2 : Int32)))).2.2.2 (by decide) (by decide) ?_
    refine n_iloadN X37 hx hby D9_177 rfl ?_
    refine oBi X37 hx hby D9_178 (z := (7 : Int32)) rfl ?_
    refine n_icmpYes X37 hx hby D9_180 (pc0 := 180) (pc' := 201) rfl (flt (by decide : ¬ ((7 : Int32) < (2 : Int32)))).2.2.2 (by decide) (by decide) ?_
    refine n_iloadN X37 hx hby D9_201 rfl ?_
    refine oBi X37 hx hby D9_202 (z := (8 : Int32)) rfl ?_
    refine n_icmpYes X37 hx hby D9_204 (pc0 := 204) (pc' := 225) rfl (flt (by decide : ¬ ((8 : Int32) < (2 : Int32)))).2.2.2 (by decide) (by decide) ?_
    refine n_iloadN X37 hx hby D9_225 rfl ?_
    refine oBi X37 hx hby D9_226 (z := (9 : Int32)) rfl ?_
    refine n_icmpYes X37 hx hby D9_228 (pc0 := 228) (pc' := 249) rfl (flt (by decide : ¬ ((9 : Int32) < (2 : Int32)))).2.2.2 (by decide) (by decide) ?_
    refine n_iload X37 hx hby D9_249 rfl ?_
    refine n_iloadN X37 hx hby D9_251 rfl ?_
    refine n_iadd X37 hx hby D9_252 ?_
    refine n_istore X37 hx hby D9_253 (l' := #[.val (.ref ot), .val (.int aa), .val (.int (2 : Int32)), .val (.long pp), .second, .val (.int az_1), .val (.int (az_1 + (2 : Int32)))]) rfl ?_
    refine n_aloadN X37 hx hby D9_255 rfl rfl ?_
    refine n_iload X37 hx hby D9_256 rfl ?_
    have ik38 : own_is (az_1 + (2 : Int32)) az_1 2 := own_isS (k := 2) ik31 rg34 (by decide) (by decide)
    obtain ⟨cl39, Ar39, q39, S39, M39, H39, G39⟩ := (id Vo)
    have hin39 : ¬ ((az_1 + (2 : Int32)) < 0 ∨ cl39.slots.size ≤ ((az_1 + (2 : Int32))).toNatClampNeg) := own_inbK S39 ik38 hb30 hM30 (by decide)
    refine ob_ (X37.baloadBytes hx (j := (az_1 + (2 : Int32))) (v := (.int (13 : Int32))) (by rw [K37]; exact Ar39.1) (State.isArrayOf_alike hZ.alike Ar39.2.1) Ar39.2.2 hin39 (H39.at hin39 (own_rd 2 (own_jj ik38 hb30) (Nat.le_of_ble_eq_true rfl) rfl)) (g := (mkF m 258 #[.val (.ref ot), .val (.int aa), .val (.int (2 : Int32)), .val (.long pp), .second, .val (.int az_1), .val (.int (az_1 + (2 : Int32)))] [(.int (az_1 + (2 : Int32))), (.ref ot)])) rfl rfl (hb hby D9_258)) ?_
    refine oBi X37 hx hby D9_259 (z := (13 : Int32)) rfl ?_
    refine n_icmpNo X37 hx hby D9_261 (teq (by decide : (13 : Int32) = (13 : Int32))).2 ?_
    refine n_aloadN X37 hx hby D9_264 rfl rfl ?_
    refine n_iload X37 hx hby D9_265 rfl ?_
    refine oIc X37 hx hby D9_267 (z := (1 : Int32)) rfl ?_
    refine n_iadd X37 hx hby D9_268 ?_
    have ik40 : own_is ((az_1 + (2 : Int32)) + (1 : Int32)) az_1 3 := own_isS (k := 1) ik38 rg34 (by decide) (by decide)
    obtain ⟨cl41, Ar41, q41, S41, M41, H41, G41⟩ := (id Vo)
    have hin41 : ¬ (((az_1 + (2 : Int32)) + (1 : Int32)) < 0 ∨ cl41.slots.size ≤ (((az_1 + (2 : Int32)) + (1 : Int32))).toNatClampNeg) := own_inbK S41 ik40 hb30 hM30 (by decide)
    refine ob_ (X37.baloadBytes hx (j := ((az_1 + (2 : Int32)) + (1 : Int32))) (v := (.int (10 : Int32))) (by rw [K37]; exact Ar41.1) (State.isArrayOf_alike hZ.alike Ar41.2.1) Ar41.2.2 hin41 (H41.at hin41 (own_rd 3 (own_jj ik40 hb30) (Nat.le_of_ble_eq_true rfl) rfl)) (g := (mkF m 269 #[.val (.ref ot), .val (.int aa), .val (.int (2 : Int32)), .val (.long pp), .second, .val (.int az_1), .val (.int (az_1 + (2 : Int32)))] [(.int ((az_1 + (2 : Int32)) + (1 : Int32))), (.ref ot)])) rfl rfl (hb hby D9_269)) ?_
    refine oBi X37 hx hby D9_270 (z := (10 : Int32)) rfl ?_
    refine n_icmpYes X37 hx hby D9_272 (pc0 := 272) (pc' := 277) rfl (teq (by decide : (10 : Int32) = (10 : Int32))).1 (by decide) (by decide) ?_
    refine n_iload X37 hx hby D9_277 rfl ?_
    refine oIc X37 hx hby D9_279 (z := (2 : Int32)) rfl ?_
    refine n_iadd X37 hx hby D9_280 ?_
    show own_Go p e below (T37.setTop (mkF m 281 #[.val (.ref ot), .val (.int aa), .val (.int (2 : Int32)), .val (.long pp), .second, .val (.int az_1), .val (.int (az_1 + (2 : Int32)))] [(.int ((az_1 + (2 : Int32)) + (2 : Int32)))])) _
    have ik42 : own_is ((az_1 + (2 : Int32)) + (2 : Int32)) az_1 4 := own_isS (k := 2) ik38 rg34 (by decide) (by decide)
    obtain ⟨fs, hr, hrun, hended, hW, hsame⟩ := X37.leave (v := some (.int ((az_1 + (2 : Int32)) + (2 : Int32)))) (fun h => by rw [Bd.returns] at h; cases h)
    refine ⟨_, _, retI X37 hx Bd.returns (hb hby D9_281) hr, hrun, hended, _, _, rfl, ?_, ⟨_, rfl⟩, hW, hsame.mono (by decide) (by decide)⟩
    show Q_rm_body Z ot kk nn cc pr po aa (2 : Int32) pp h0 n0 _ T37.heap _
    rw [K37]
    exact ⟨((az_1 + (2 : Int32)) + (2 : Int32)), rfl, N37, rfl, (by have q := own_isV ik42; omega)⟩
  · skip
    show own_Go p e below (T1.setTop (mkF m 30 #[.val (.ref ot), .val (.int aa), .val (.int (10 : Int32)), .val (.long pp), .second, .val (.int az_1), .unset] [])) _
    have hn_10 := own_hn_10
    have iv43 : ((10 : Int32) : Int32).toInt = 10 := rfl
    have hlb : ((pr ++ own_hd (36 : Int32) (10 : Int32)).length : Int) = az_1.toInt := by rw [List.length_append]; have q := own_hd_len (36 : Int32) (show own_cnt (10 : Int32) by decide); omega
    have Vo : Arv Z h0 ot kk .byte nn ((pr ++ own_hd (36 : Int32) (10 : Int32)) ++ ([(.int (own_bt pp (0 : Int32))), (.int (own_bt pp (1 : Int32))), (.int (own_bt pp (2 : Int32))), (.int (own_bt pp (3 : Int32))), (.int (own_bt pp (4 : Int32))), (.int (own_bt pp (5 : Int32))), (.int (own_bt pp (6 : Int32))), (.int (own_bt pp (7 : Int32))), (.int (own_bt pp (8 : Int32))), (.int (own_bt pp (9 : Int32))), (.int (13 : Int32)), (.int (10 : Int32))] ++ po)) (.int (0 : Int32)) := by have q := Fo; rw [hcc, own_bd_eq, own_fl_10] at q; exact q
    refine n_iloadN X1 hx hby D9_30 rfl ?_
    refine n_ifNo X1 hx hby D9_31 ((if0 _ _).trans (tlt (by decide : (0 : Int32) < (10 : Int32))).2.2.2) ?_
    refine n_aloadN X1 hx hby D9_34 rfl rfl ?_
    refine n_iload X1 hx hby D9_35 rfl ?_
    have hb44 : az_1.toInt = ((pr ++ own_hd (36 : Int32) (10 : Int32)).length : Int) := by omega
    have hM44 : ((pr ++ own_hd (36 : Int32) (10 : Int32)).length : Int) + ((12 : Nat) : Int) ≤ nn.toInt := by omega
    have ik45 : own_is az_1 az_1 0 := own_is0
    obtain ⟨cl46, Ar46, q46, S46, M46, H46, G46⟩ := (id Vo)
    have hin46 : ¬ (az_1 < 0 ∨ cl46.slots.size ≤ (az_1).toNatClampNeg) := own_inbK S46 ik45 hb44 hM44 (by decide)
    refine ob_ (X1.baloadBytes hx (j := az_1) (v := (.int (own_bt pp (0 : Int32)))) (by rw [K1]; exact Ar46.1) (State.isArrayOf_alike hZ.alike Ar46.2.1) Ar46.2.2 hin46 (H46.at hin46 (own_rd 0 (own_jj ik45 hb44) (Nat.le_of_ble_eq_true rfl) rfl)) (g := (mkF m 37 #[.val (.ref ot), .val (.int aa), .val (.int (10 : Int32)), .val (.long pp), .second, .val (.int az_1), .unset] [(.int az_1), (.ref ot)])) rfl rfl (hb hby D9_37)) ?_
    refine n_lloadN X1 hx hby D9_38 rfl ?_
    refine oIc X1 hx hby D9_39 (z := (0 : Int32)) rfl ?_
    refine o_ksc 3 0 0 (Jvm.LawKit.callS X1 hx (y := (⟨s1_, "byteAt", "(JI)B"⟩ : MethodName)) hown (mw hZ hw 26 rfl) (mw hZ hw 27 rfl) (mw hZ hw 2 rfl) (mw hZ hw 28 rfl) (by decide) (backOf (W := 1) (rm_byte l Z a0 hw [] pp (0 : Int32) h0 n0 O0) hZ (own_w hw 28 rfl) (own_w hw 2 rfl) (by decide) (by decide)) (g := (mkF m 40 #[.val (.ref ot), .val (.int aa), .val (.int (10 : Int32)), .val (.long pp), .second, .val (.int az_1), .unset] [(.int (0 : Int32)), (.long pp), (.int (own_bt pp (0 : Int32)))])) rfl (by rw [hml]; rfl) (argsL := [(.long pp), (.int (0 : Int32))]) (rest := [(.int (own_bt pp (0 : Int32)))]) (lenOf own_pd__28JI_29B rfl) rfl own_z (hb hby D9_40) (fun _ _ => ⟨rfl, K1, (by decide : 0 + 0 ≤ _), (by decide : 0 + 0 ≤ _)⟩)) fun T47 Lc47 _ X47 hQ47 => ?_
    obtain ⟨rfl, M47, K47⟩ := hQ47
    have N47 := Fr.app N1 M47
    obtain ⟨lc47, X47, N47⟩ := own_lc X47 N47
    refine n_icmpYes X47 hx hby D9_43 (pc0 := 43) (pc' := 48) rfl (teq (rfl : (own_bt pp (0 : Int32)) = (own_bt pp (0 : Int32)))).1 (by decide) (by decide) ?_
    refine n_iloadN X47 hx hby D9_48 rfl ?_
    refine oIc X47 hx hby D9_49 (z := (1 : Int32)) rfl ?_
    refine n_icmpNo X47 hx hby D9_50 (tlt (by decide : (1 : Int32) < (10 : Int32))).2.2.2 ?_
    refine n_aloadN X47 hx hby D9_53 rfl rfl ?_
    refine n_iload X47 hx hby D9_54 rfl ?_
    refine oIc X47 hx hby D9_56 (z := (1 : Int32)) rfl ?_
    refine n_iadd X47 hx hby D9_57 ?_
    have rg48 : own_rg az_1 := ⟨by omega, by omega⟩
    have ik49 : own_is (az_1 + (1 : Int32)) az_1 1 := own_isS (k := 1) ik45 rg48 (by decide) (by decide)
    obtain ⟨cl50, Ar50, q50, S50, M50, H50, G50⟩ := (id Vo)
    have hin50 : ¬ ((az_1 + (1 : Int32)) < 0 ∨ cl50.slots.size ≤ ((az_1 + (1 : Int32))).toNatClampNeg) := own_inbK S50 ik49 hb44 hM44 (by decide)
    refine ob_ (X47.baloadBytes hx (j := (az_1 + (1 : Int32))) (v := (.int (own_bt pp (1 : Int32)))) (by rw [K47]; exact Ar50.1) (State.isArrayOf_alike hZ.alike Ar50.2.1) Ar50.2.2 hin50 (H50.at hin50 (own_rd 1 (own_jj ik49 hb44) (Nat.le_of_ble_eq_true rfl) rfl)) (g := (mkF m 58 #[.val (.ref ot), .val (.int aa), .val (.int (10 : Int32)), .val (.long pp), .second, .val (.int az_1), .unset] [(.int (az_1 + (1 : Int32))), (.ref ot)])) rfl rfl (hb hby D9_58)) ?_
    refine n_lloadN X47 hx hby D9_59 rfl ?_
    refine oIc X47 hx hby D9_60 (z := (1 : Int32)) rfl ?_
    refine o_ksc 3 0 0 (Jvm.LawKit.callS X47 hx (y := (⟨s1_, "byteAt", "(JI)B"⟩ : MethodName)) hown (mw hZ hw 26 rfl) (mw hZ hw 27 rfl) (mw hZ hw 2 rfl) (mw hZ hw 28 rfl) (by decide) (backOf (W := 1) (rm_byte l Z a0 hw [] pp (1 : Int32) h0 n0 O0) hZ (own_w hw 28 rfl) (own_w hw 2 rfl) (by decide) (by decide)) (g := (mkF m 61 #[.val (.ref ot), .val (.int aa), .val (.int (10 : Int32)), .val (.long pp), .second, .val (.int az_1), .unset] [(.int (1 : Int32)), (.long pp), (.int (own_bt pp (1 : Int32)))])) rfl (by rw [hml]; rfl) (argsL := [(.long pp), (.int (1 : Int32))]) (rest := [(.int (own_bt pp (1 : Int32)))]) (lenOf own_pd__28JI_29B rfl) rfl own_z (hb hby D9_61) (fun _ _ => ⟨rfl, K47, (by decide : 0 + 0 ≤ _), (by decide : 0 + 0 ≤ _)⟩)) fun T51 Lc51 _ X51 hQ51 => ?_
    obtain ⟨rfl, M51, K51⟩ := hQ51
    have N51 := Fr.app N47 M51
    obtain ⟨lc51, X51, N51⟩ := own_lc X51 N51
    refine n_icmpYes X51 hx hby D9_64 (pc0 := 64) (pc' := 69) rfl (teq (rfl : (own_bt pp (1 : Int32)) = (own_bt pp (1 : Int32)))).1 (by decide) (by decide) ?_
    refine n_iloadN X51 hx hby D9_69 rfl ?_
    refine oIc X51 hx hby D9_70 (z := (2 : Int32)) rfl ?_
    refine n_icmpNo X51 hx hby D9_71 (tlt (by decide : (2 : Int32) < (10 : Int32))).2.2.2 ?_
    refine n_aloadN X51 hx hby D9_74 rfl rfl ?_
    refine n_iload X51 hx hby D9_75 rfl ?_
    refine oIc X51 hx hby D9_77 (z := (2 : Int32)) rfl ?_
    refine n_iadd X51 hx hby D9_78 ?_
    have ik52 : own_is (az_1 + (2 : Int32)) az_1 2 := own_isS (k := 2) ik45 rg48 (by decide) (by decide)
    obtain ⟨cl53, Ar53, q53, S53, M53, H53, G53⟩ := (id Vo)
    have hin53 : ¬ ((az_1 + (2 : Int32)) < 0 ∨ cl53.slots.size ≤ ((az_1 + (2 : Int32))).toNatClampNeg) := own_inbK S53 ik52 hb44 hM44 (by decide)
    refine ob_ (X51.baloadBytes hx (j := (az_1 + (2 : Int32))) (v := (.int (own_bt pp (2 : Int32)))) (by rw [K51]; exact Ar53.1) (State.isArrayOf_alike hZ.alike Ar53.2.1) Ar53.2.2 hin53 (H53.at hin53 (own_rd 2 (own_jj ik52 hb44) (Nat.le_of_ble_eq_true rfl) rfl)) (g := (mkF m 79 #[.val (.ref ot), .val (.int aa), .val (.int (10 : Int32)), .val (.long pp), .second, .val (.int az_1), .unset] [(.int (az_1 + (2 : Int32))), (.ref ot)])) rfl rfl (hb hby D9_79)) ?_
    refine n_lloadN X51 hx hby D9_80 rfl ?_
    refine oIc X51 hx hby D9_81 (z := (2 : Int32)) rfl ?_
    refine o_ksc 3 0 0 (Jvm.LawKit.callS X51 hx (y := (⟨s1_, "byteAt", "(JI)B"⟩ : MethodName)) hown (mw hZ hw 26 rfl) (mw hZ hw 27 rfl) (mw hZ hw 2 rfl) (mw hZ hw 28 rfl) (by decide) (backOf (W := 1) (rm_byte l Z a0 hw [] pp (2 : Int32) h0 n0 O0) hZ (own_w hw 28 rfl) (own_w hw 2 rfl) (by decide) (by decide)) (g := (mkF m 82 #[.val (.ref ot), .val (.int aa), .val (.int (10 : Int32)), .val (.long pp), .second, .val (.int az_1), .unset] [(.int (2 : Int32)), (.long pp), (.int (own_bt pp (2 : Int32)))])) rfl (by rw [hml]; rfl) (argsL := [(.long pp), (.int (2 : Int32))]) (rest := [(.int (own_bt pp (2 : Int32)))]) (lenOf own_pd__28JI_29B rfl) rfl own_z (hb hby D9_82) (fun _ _ => ⟨rfl, K51, (by decide : 0 + 0 ≤ _), (by decide : 0 + 0 ≤ _)⟩)) fun T54 Lc54 _ X54 hQ54 => ?_
    obtain ⟨rfl, M54, K54⟩ := hQ54
    have N54 := Fr.app N51 M54
    obtain ⟨lc54, X54, N54⟩ := own_lc X54 N54
    refine n_icmpYes X54 hx hby D9_85 (pc0 := 85) (pc' := 90) rfl (teq (rfl : (own_bt pp (2 : Int32)) = (own_bt pp (2 : Int32)))).1 (by decide) (by decide) ?_
    refine n_iloadN X54 hx hby D9_90 rfl ?_
    refine oIc X54 hx hby D9_91 (z := (3 : Int32)) rfl ?_
    refine n_icmpNo X54 hx hby D9_92 (tlt (by decide : (3 : Int32) < (10 : Int32))).2.2.2 ?_
    refine n_aloadN X54 hx hby D9_95 rfl rfl ?_
    refine n_iload X54 hx hby D9_96 rfl ?_
    refine oIc X54 hx hby D9_98 (z := (3 : Int32)) rfl ?_
    refine n_iadd X54 hx hby D9_99 ?_
    have ik55 : own_is (az_1 + (3 : Int32)) az_1 3 := own_isS (k := 3) ik45 rg48 (by decide) (by decide)
    obtain ⟨cl56, Ar56, q56, S56, M56, H56, G56⟩ := (id Vo)
    have hin56 : ¬ ((az_1 + (3 : Int32)) < 0 ∨ cl56.slots.size ≤ ((az_1 + (3 : Int32))).toNatClampNeg) := own_inbK S56 ik55 hb44 hM44 (by decide)
    refine ob_ (X54.baloadBytes hx (j := (az_1 + (3 : Int32))) (v := (.int (own_bt pp (3 : Int32)))) (by rw [K54]; exact Ar56.1) (State.isArrayOf_alike hZ.alike Ar56.2.1) Ar56.2.2 hin56 (H56.at hin56 (own_rd 3 (own_jj ik55 hb44) (Nat.le_of_ble_eq_true rfl) rfl)) (g := (mkF m 100 #[.val (.ref ot), .val (.int aa), .val (.int (10 : Int32)), .val (.long pp), .second, .val (.int az_1), .unset] [(.int (az_1 + (3 : Int32))), (.ref ot)])) rfl rfl (hb hby D9_100)) ?_
    refine n_lloadN X54 hx hby D9_101 rfl ?_
    refine oIc X54 hx hby D9_102 (z := (3 : Int32)) rfl ?_
    refine o_ksc 3 0 0 (Jvm.LawKit.callS X54 hx (y := (⟨s1_, "byteAt", "(JI)B"⟩ : MethodName)) hown (mw hZ hw 26 rfl) (mw hZ hw 27 rfl) (mw hZ hw 2 rfl) (mw hZ hw 28 rfl) (by decide) (backOf (W := 1) (rm_byte l Z a0 hw [] pp (3 : Int32) h0 n0 O0) hZ (own_w hw 28 rfl) (own_w hw 2 rfl) (by decide) (by decide)) (g := (mkF m 103 #[.val (.ref ot), .val (.int aa), .val (.int (10 : Int32)), .val (.long pp), .second, .val (.int az_1), .unset] [(.int (3 : Int32)), (.long pp), (.int (own_bt pp (3 : Int32)))])) rfl (by rw [hml]; rfl) (argsL := [(.long pp), (.int (3 : Int32))]) (rest := [(.int (own_bt pp (3 : Int32)))]) (lenOf own_pd__28JI_29B rfl) rfl own_z (hb hby D9_103) (fun _ _ => ⟨rfl, K54, (by decide : 0 + 0 ≤ _), (by decide : 0 + 0 ≤ _)⟩)) fun T57 Lc57 _ X57 hQ57 => ?_
    obtain ⟨rfl, M57, K57⟩ := hQ57
    have N57 := Fr.app N54 M57
    obtain ⟨lc57, X57, N57⟩ := own_lc X57 N57
    refine n_icmpYes X57 hx hby D9_106 (pc0 := 106) (pc' := 111) rfl (teq (rfl : (own_bt pp (3 : Int32)) = (own_bt pp (3 : Int32)))).1 (by decide) (by decide) ?_
    refine n_iloadN X57 hx hby D9_111 rfl ?_
    refine oIc X57 hx hby D9_112 (z := (4 : Int32)) rfl ?_
    refine n_icmpNo X57 hx hby D9_113 (tlt (by decide : (4 : Int32) < (10 : Int32))).2.2.2 ?_
    refine n_aloadN X57 hx hby D9_116 rfl rfl ?_
    refine n_iload X57 hx hby D9_117 rfl ?_
    refine oIc X57 hx hby D9_119 (z := (4 : Int32)) rfl ?_
    refine n_iadd X57 hx hby D9_120 ?_
    have ik58 : own_is (az_1 + (4 : Int32)) az_1 4 := own_isS (k := 4) ik45 rg48 (by decide) (by decide)
    obtain ⟨cl59, Ar59, q59, S59, M59, H59, G59⟩ := (id Vo)
    have hin59 : ¬ ((az_1 + (4 : Int32)) < 0 ∨ cl59.slots.size ≤ ((az_1 + (4 : Int32))).toNatClampNeg) := own_inbK S59 ik58 hb44 hM44 (by decide)
    refine ob_ (X57.baloadBytes hx (j := (az_1 + (4 : Int32))) (v := (.int (own_bt pp (4 : Int32)))) (by rw [K57]; exact Ar59.1) (State.isArrayOf_alike hZ.alike Ar59.2.1) Ar59.2.2 hin59 (H59.at hin59 (own_rd 4 (own_jj ik58 hb44) (Nat.le_of_ble_eq_true rfl) rfl)) (g := (mkF m 121 #[.val (.ref ot), .val (.int aa), .val (.int (10 : Int32)), .val (.long pp), .second, .val (.int az_1), .unset] [(.int (az_1 + (4 : Int32))), (.ref ot)])) rfl rfl (hb hby D9_121)) ?_
    refine n_lloadN X57 hx hby D9_122 rfl ?_
    refine oIc X57 hx hby D9_123 (z := (4 : Int32)) rfl ?_
    refine o_ksc 3 0 0 (Jvm.LawKit.callS X57 hx (y := (⟨s1_, "byteAt", "(JI)B"⟩ : MethodName)) hown (mw hZ hw 26 rfl) (mw hZ hw 27 rfl) (mw hZ hw 2 rfl) (mw hZ hw 28 rfl) (by decide) (backOf (W := 1) (rm_byte l Z a0 hw [] pp (4 : Int32) h0 n0 O0) hZ (own_w hw 28 rfl) (own_w hw 2 rfl) (by decide) (by decide)) (g := (mkF m 124 #[.val (.ref ot), .val (.int aa), .val (.int (10 : Int32)), .val (.long pp), .second, .val (.int az_1), .unset] [(.int (4 : Int32)), (.long pp), (.int (own_bt pp (4 : Int32)))])) rfl (by rw [hml]; rfl) (argsL := [(.long pp), (.int (4 : Int32))]) (rest := [(.int (own_bt pp (4 : Int32)))]) (lenOf own_pd__28JI_29B rfl) rfl own_z (hb hby D9_124) (fun _ _ => ⟨rfl, K57, (by decide : 0 + 0 ≤ _), (by decide : 0 + 0 ≤ _)⟩)) fun T60 Lc60 _ X60 hQ60 => ?_
    obtain ⟨rfl, M60, K60⟩ := hQ60
    have N60 := Fr.app N57 M60
    obtain ⟨lc60, X60, N60⟩ := own_lc X60 N60
    refine n_icmpYes X60 hx hby D9_127 (pc0 := 127) (pc' := 132) rfl (teq (rfl : (own_bt pp (4 : Int32)) = (own_bt pp (4 : Int32)))).1 (by decide) (by decide) ?_
    refine n_iloadN X60 hx hby D9_132 rfl ?_
    refine oIc X60 hx hby D9_133 (z := (5 : Int32)) rfl ?_
    refine n_icmpNo X60 hx hby D9_134 (tlt (by decide : (5 : Int32) < (10 : Int32))).2.2.2 ?_
    refine n_aloadN X60 hx hby D9_137 rfl rfl ?_
    refine n_iload X60 hx hby D9_138 rfl ?_
    refine oIc X60 hx hby D9_140 (z := (5 : Int32)) rfl ?_
    refine n_iadd X60 hx hby D9_141 ?_
    have ik61 : own_is (az_1 + (5 : Int32)) az_1 5 := own_isS (k := 5) ik45 rg48 (by decide) (by decide)
    obtain ⟨cl62, Ar62, q62, S62, M62, H62, G62⟩ := (id Vo)
    have hin62 : ¬ ((az_1 + (5 : Int32)) < 0 ∨ cl62.slots.size ≤ ((az_1 + (5 : Int32))).toNatClampNeg) := own_inbK S62 ik61 hb44 hM44 (by decide)
    refine ob_ (X60.baloadBytes hx (j := (az_1 + (5 : Int32))) (v := (.int (own_bt pp (5 : Int32)))) (by rw [K60]; exact Ar62.1) (State.isArrayOf_alike hZ.alike Ar62.2.1) Ar62.2.2 hin62 (H62.at hin62 (own_rd 5 (own_jj ik61 hb44) (Nat.le_of_ble_eq_true rfl) rfl)) (g := (mkF m 142 #[.val (.ref ot), .val (.int aa), .val (.int (10 : Int32)), .val (.long pp), .second, .val (.int az_1), .unset] [(.int (az_1 + (5 : Int32))), (.ref ot)])) rfl rfl (hb hby D9_142)) ?_
    refine n_lloadN X60 hx hby D9_143 rfl ?_
    refine oIc X60 hx hby D9_144 (z := (5 : Int32)) rfl ?_
    refine o_ksc 3 0 0 (Jvm.LawKit.callS X60 hx (y := (⟨s1_, "byteAt", "(JI)B"⟩ : MethodName)) hown (mw hZ hw 26 rfl) (mw hZ hw 27 rfl) (mw hZ hw 2 rfl) (mw hZ hw 28 rfl) (by decide) (backOf (W := 1) (rm_byte l Z a0 hw [] pp (5 : Int32) h0 n0 O0) hZ (own_w hw 28 rfl) (own_w hw 2 rfl) (by decide) (by decide)) (g := (mkF m 145 #[.val (.ref ot), .val (.int aa), .val (.int (10 : Int32)), .val (.long pp), .second, .val (.int az_1), .unset] [(.int (5 : Int32)), (.long pp), (.int (own_bt pp (5 : Int32)))])) rfl (by rw [hml]; rfl) (argsL := [(.long pp), (.int (5 : Int32))]) (rest := [(.int (own_bt pp (5 : Int32)))]) (lenOf own_pd__28JI_29B rfl) rfl own_z (hb hby D9_145) (fun _ _ => ⟨rfl, K60, (by decide : 0 + 0 ≤ _), (by decide : 0 + 0 ≤ _)⟩)) fun T63 Lc63 _ X63 hQ63 => ?_
    obtain ⟨rfl, M63, K63⟩ := hQ63
    have N63 := Fr.app N60 M63
    obtain ⟨lc63, X63, N63⟩ := own_lc X63 N63
    refine n_icmpYes X63 hx hby D9_148 (pc0 := 148) (pc' := 153) rfl (teq (rfl : (own_bt pp (5 : Int32)) = (own_bt pp (5 : Int32)))).1 (by decide) (by decide) ?_
    refine n_iloadN X63 hx hby D9_153 rfl ?_
    refine oBi X63 hx hby D9_154 (z := (6 : Int32)) rfl ?_
    refine n_icmpNo X63 hx hby D9_156 (tlt (by decide : (6 : Int32) < (10 : Int32))).2.2.2 ?_
    refine n_aloadN X63 hx hby D9_159 rfl rfl ?_
    refine n_iload X63 hx hby D9_160 rfl ?_
    refine oBi X63 hx hby D9_162 (z := (6 : Int32)) rfl ?_
    refine n_iadd X63 hx hby D9_164 ?_
    have ik64 : own_is (az_1 + (6 : Int32)) az_1 6 := own_isS (k := 6) ik45 rg48 (by decide) (by decide)
    obtain ⟨cl65, Ar65, q65, S65, M65, H65, G65⟩ := (id Vo)
    have hin65 : ¬ ((az_1 + (6 : Int32)) < 0 ∨ cl65.slots.size ≤ ((az_1 + (6 : Int32))).toNatClampNeg) := own_inbK S65 ik64 hb44 hM44 (by decide)
    refine ob_ (X63.baloadBytes hx (j := (az_1 + (6 : Int32))) (v := (.int (own_bt pp (6 : Int32)))) (by rw [K63]; exact Ar65.1) (State.isArrayOf_alike hZ.alike Ar65.2.1) Ar65.2.2 hin65 (H65.at hin65 (own_rd 6 (own_jj ik64 hb44) (Nat.le_of_ble_eq_true rfl) rfl)) (g := (mkF m 165 #[.val (.ref ot), .val (.int aa), .val (.int (10 : Int32)), .val (.long pp), .second, .val (.int az_1), .unset] [(.int (az_1 + (6 : Int32))), (.ref ot)])) rfl rfl (hb hby D9_165)) ?_
    refine n_lloadN X63 hx hby D9_166 rfl ?_
    refine oBi X63 hx hby D9_167 (z := (6 : Int32)) rfl ?_
    refine o_ksc 3 0 0 (Jvm.LawKit.callS X63 hx (y := (⟨s1_, "byteAt", "(JI)B"⟩ : MethodName)) hown (mw hZ hw 26 rfl) (mw hZ hw 27 rfl) (mw hZ hw 2 rfl) (mw hZ hw 28 rfl) (by decide) (backOf (W := 1) (rm_byte l Z a0 hw [] pp (6 : Int32) h0 n0 O0) hZ (own_w hw 28 rfl) (own_w hw 2 rfl) (by decide) (by decide)) (g := (mkF m 169 #[.val (.ref ot), .val (.int aa), .val (.int (10 : Int32)), .val (.long pp), .second, .val (.int az_1), .unset] [(.int (6 : Int32)), (.long pp), (.int (own_bt pp (6 : Int32)))])) rfl (by rw [hml]; rfl) (argsL := [(.long pp), (.int (6 : Int32))]) (rest := [(.int (own_bt pp (6 : Int32)))]) (lenOf own_pd__28JI_29B rfl) rfl own_z (hb hby D9_169) (fun _ _ => ⟨rfl, K63, (by decide : 0 + 0 ≤ _), (by decide : 0 + 0 ≤ _)⟩)) fun T66 Lc66 _ X66 hQ66 => ?_
    obtain ⟨rfl, M66, K66⟩ := hQ66
    have N66 := Fr.app N63 M66
    obtain ⟨lc66, X66, N66⟩ := own_lc X66 N66
    refine n_icmpYes X66 hx hby D9_172 (pc0 := 172) (pc' := 177) rfl (teq (rfl : (own_bt pp (6 : Int32)) = (own_bt pp (6 : Int32)))).1 (by decide) (by decide) ?_
    refine n_iloadN X66 hx hby D9_177 rfl ?_
    refine oBi X66 hx hby D9_178 (z := (7 : Int32)) rfl ?_
    refine n_icmpNo X66 hx hby D9_180 (tlt (by decide : (7 : Int32) < (10 : Int32))).2.2.2 ?_
    refine n_aloadN X66 hx hby D9_183 rfl rfl ?_
    refine n_iload X66 hx hby D9_184 rfl ?_
    refine oBi X66 hx hby D9_186 (z := (7 : Int32)) rfl ?_
    refine n_iadd X66 hx hby D9_188 ?_
    have ik67 : own_is (az_1 + (7 : Int32)) az_1 7 := own_isS (k := 7) ik45 rg48 (by decide) (by decide)
    obtain ⟨cl68, Ar68, q68, S68, M68, H68, G68⟩ := (id Vo)
    have hin68 : ¬ ((az_1 + (7 : Int32)) < 0 ∨ cl68.slots.size ≤ ((az_1 + (7 : Int32))).toNatClampNeg) := own_inbK S68 ik67 hb44 hM44 (by decide)
    refine ob_ (X66.baloadBytes hx (j := (az_1 + (7 : Int32))) (v := (.int (own_bt pp (7 : Int32)))) (by rw [K66]; exact Ar68.1) (State.isArrayOf_alike hZ.alike Ar68.2.1) Ar68.2.2 hin68 (H68.at hin68 (own_rd 7 (own_jj ik67 hb44) (Nat.le_of_ble_eq_true rfl) rfl)) (g := (mkF m 189 #[.val (.ref ot), .val (.int aa), .val (.int (10 : Int32)), .val (.long pp), .second, .val (.int az_1), .unset] [(.int (az_1 + (7 : Int32))), (.ref ot)])) rfl rfl (hb hby D9_189)) ?_
    refine n_lloadN X66 hx hby D9_190 rfl ?_
    refine oBi X66 hx hby D9_191 (z := (7 : Int32)) rfl ?_
    refine o_ksc 3 0 0 (Jvm.LawKit.callS X66 hx (y := (⟨s1_, "byteAt", "(JI)B"⟩ : MethodName)) hown (mw hZ hw 26 rfl) (mw hZ hw 27 rfl) (mw hZ hw 2 rfl) (mw hZ hw 28 rfl) (by decide) (backOf (W := 1) (rm_byte l Z a0 hw [] pp (7 : Int32) h0 n0 O0) hZ (own_w hw 28 rfl) (own_w hw 2 rfl) (by decide) (by decide)) (g := (mkF m 193 #[.val (.ref ot), .val (.int aa), .val (.int (10 : Int32)), .val (.long pp), .second, .val (.int az_1), .unset] [(.int (7 : Int32)), (.long pp), (.int (own_bt pp (7 : Int32)))])) rfl (by rw [hml]; rfl) (argsL := [(.long pp), (.int (7 : Int32))]) (rest := [(.int (own_bt pp (7 : Int32)))]) (lenOf own_pd__28JI_29B rfl) rfl own_z (hb hby D9_193) (fun _ _ => ⟨rfl, K66, (by decide : 0 + 0 ≤ _), (by decide : 0 + 0 ≤ _)⟩)) fun T69 Lc69 _ X69 hQ69 => ?_
    obtain ⟨rfl, M69, K69⟩ := hQ69
    have N69 := Fr.app N66 M69
    obtain ⟨lc69, X69, N69⟩ := own_lc X69 N69
    refine n_icmpYes X69 hx hby D9_196 (pc0 := 196) (pc' := 201) rfl (teq (rfl : (own_bt pp (7 : Int32)) = (own_bt pp (7 : Int32)))).1 (by decide) (by decide) ?_
    refine n_iloadN X69 hx hby D9_201 rfl ?_
    refine oBi X69 hx hby D9_202 (z := (8 : Int32)) rfl ?_
    refine n_icmpNo X69 hx hby D9_204 (tlt (by decide : (8 : Int32) < (10 : Int32))).2.2.2 ?_
    refine n_aloadN X69 hx hby D9_207 rfl rfl ?_
    refine n_iload X69 hx hby D9_208 rfl ?_
    refine oBi X69 hx hby D9_210 (z := (8 : Int32)) rfl ?_
    refine n_iadd X69 hx hby D9_212 ?_
    have ik70 : own_is (az_1 + (8 : Int32)) az_1 8 := own_isS (k := 8) ik45 rg48 (by decide) (by decide)
    obtain ⟨cl71, Ar71, q71, S71, M71, H71, G71⟩ := (id Vo)
    have hin71 : ¬ ((az_1 + (8 : Int32)) < 0 ∨ cl71.slots.size ≤ ((az_1 + (8 : Int32))).toNatClampNeg) := own_inbK S71 ik70 hb44 hM44 (by decide)
    refine ob_ (X69.baloadBytes hx (j := (az_1 + (8 : Int32))) (v := (.int (own_bt pp (8 : Int32)))) (by rw [K69]; exact Ar71.1) (State.isArrayOf_alike hZ.alike Ar71.2.1) Ar71.2.2 hin71 (H71.at hin71 (own_rd 8 (own_jj ik70 hb44) (Nat.le_of_ble_eq_true rfl) rfl)) (g := (mkF m 213 #[.val (.ref ot), .val (.int aa), .val (.int (10 : Int32)), .val (.long pp), .second, .val (.int az_1), .unset] [(.int (az_1 + (8 : Int32))), (.ref ot)])) rfl rfl (hb hby D9_213)) ?_
    refine n_lloadN X69 hx hby D9_214 rfl ?_
    refine oBi X69 hx hby D9_215 (z := (8 : Int32)) rfl ?_
    refine o_ksc 3 0 0 (Jvm.LawKit.callS X69 hx (y := (⟨s1_, "byteAt", "(JI)B"⟩ : MethodName)) hown (mw hZ hw 26 rfl) (mw hZ hw 27 rfl) (mw hZ hw 2 rfl) (mw hZ hw 28 rfl) (by decide) (backOf (W := 1) (rm_byte l Z a0 hw [] pp (8 : Int32) h0 n0 O0) hZ (own_w hw 28 rfl) (own_w hw 2 rfl) (by decide) (by decide)) (g := (mkF m 217 #[.val (.ref ot), .val (.int aa), .val (.int (10 : Int32)), .val (.long pp), .second, .val (.int az_1), .unset] [(.int (8 : Int32)), (.long pp), (.int (own_bt pp (8 : Int32)))])) rfl (by rw [hml]; rfl) (argsL := [(.long pp), (.int (8 : Int32))]) (rest := [(.int (own_bt pp (8 : Int32)))]) (lenOf own_pd__28JI_29B rfl) rfl own_z (hb hby D9_217) (fun _ _ => ⟨rfl, K69, (by decide : 0 + 0 ≤ _), (by decide : 0 + 0 ≤ _)⟩)) fun T72 Lc72 _ X72 hQ72 => ?_
    obtain ⟨rfl, M72, K72⟩ := hQ72
    have N72 := Fr.app N69 M72
    obtain ⟨lc72, X72, N72⟩ := own_lc X72 N72
    refine n_icmpYes X72 hx hby D9_220 (pc0 := 220) (pc' := 225) rfl (teq (rfl : (own_bt pp (8 : Int32)) = (own_bt pp (8 : Int32)))).1 (by decide) (by decide) ?_
    refine n_iloadN X72 hx hby D9_225 rfl ?_
    refine oBi X72 hx hby D9_226 (z := (9 : Int32)) rfl ?_
    refine n_icmpNo X72 hx hby D9_228 (tlt (by decide : (9 : Int32) < (10 : Int32))).2.2.2 ?_
    refine n_aloadN X72 hx hby D9_231 rfl rfl ?_
    refine n_iload X72 hx hby D9_232 rfl ?_
    refine oBi X72 hx hby D9_234 (z := (9 : Int32)) rfl ?_
    refine n_iadd X72 hx hby D9_236 ?_
    have ik73 : own_is (az_1 + (9 : Int32)) az_1 9 := own_isS (k := 9) ik45 rg48 (by decide) (by decide)
    obtain ⟨cl74, Ar74, q74, S74, M74, H74, G74⟩ := (id Vo)
    have hin74 : ¬ ((az_1 + (9 : Int32)) < 0 ∨ cl74.slots.size ≤ ((az_1 + (9 : Int32))).toNatClampNeg) := own_inbK S74 ik73 hb44 hM44 (by decide)
    refine ob_ (X72.baloadBytes hx (j := (az_1 + (9 : Int32))) (v := (.int (own_bt pp (9 : Int32)))) (by rw [K72]; exact Ar74.1) (State.isArrayOf_alike hZ.alike Ar74.2.1) Ar74.2.2 hin74 (H74.at hin74 (own_rd 9 (own_jj ik73 hb44) (Nat.le_of_ble_eq_true rfl) rfl)) (g := (mkF m 237 #[.val (.ref ot), .val (.int aa), .val (.int (10 : Int32)), .val (.long pp), .second, .val (.int az_1), .unset] [(.int (az_1 + (9 : Int32))), (.ref ot)])) rfl rfl (hb hby D9_237)) ?_
    refine n_lloadN X72 hx hby D9_238 rfl ?_
    refine oBi X72 hx hby D9_239 (z := (9 : Int32)) rfl ?_
    refine o_ksc 3 0 0 (Jvm.LawKit.callS X72 hx (y := (⟨s1_, "byteAt", "(JI)B"⟩ : MethodName)) hown (mw hZ hw 26 rfl) (mw hZ hw 27 rfl) (mw hZ hw 2 rfl) (mw hZ hw 28 rfl) (by decide) (backOf (W := 1) (rm_byte l Z a0 hw [] pp (9 : Int32) h0 n0 O0) hZ (own_w hw 28 rfl) (own_w hw 2 rfl) (by decide) (by decide)) (g := (mkF m 241 #[.val (.ref ot), .val (.int aa), .val (.int (10 : Int32)), .val (.long pp), .second, .val (.int az_1), .unset] [(.int (9 : Int32)), (.long pp), (.int (own_bt pp (9 : Int32)))])) rfl (by rw [hml]; rfl) (argsL := [(.long pp), (.int (9 : Int32))]) (rest := [(.int (own_bt pp (9 : Int32)))]) (lenOf own_pd__28JI_29B rfl) rfl own_z (hb hby D9_241) (fun _ _ => ⟨rfl, K72, (by decide : 0 + 0 ≤ _), (by decide : 0 + 0 ≤ _)⟩)) fun T75 Lc75 _ X75 hQ75 => ?_
    obtain ⟨rfl, M75, K75⟩ := hQ75
    have N75 := Fr.app N72 M75
    obtain ⟨lc75, X75, N75⟩ := own_lc X75 N75
    refine n_icmpYes X75 hx hby D9_244 (pc0 := 244) (pc' := 249) rfl (teq (rfl : (own_bt pp (9 : Int32)) = (own_bt pp (9 : Int32)))).1 (by decide) (by decide) ?_
    refine n_iload X75 hx hby D9_249 rfl ?_
    refine n_iloadN X75 hx hby D9_251 rfl ?_
    refine n_iadd X75 hx hby D9_252 ?_
    refine n_istore X75 hx hby D9_253 (l' := #[.val (.ref ot), .val (.int aa), .val (.int (10 : Int32)), .val (.long pp), .second, .val (.int az_1), .val (.int (az_1 + (10 : Int32)))]) rfl ?_
    refine n_aloadN X75 hx hby D9_255 rfl rfl ?_
    refine n_iload X75 hx hby D9_256 rfl ?_
    have ik76 : own_is (az_1 + (10 : Int32)) az_1 10 := own_isS (k := 10) ik45 rg48 (by decide) (by decide)
    obtain ⟨cl77, Ar77, q77, S77, M77, H77, G77⟩ := (id Vo)
    have hin77 : ¬ ((az_1 + (10 : Int32)) < 0 ∨ cl77.slots.size ≤ ((az_1 + (10 : Int32))).toNatClampNeg) := own_inbK S77 ik76 hb44 hM44 (by decide)
    refine ob_ (X75.baloadBytes hx (j := (az_1 + (10 : Int32))) (v := (.int (13 : Int32))) (by rw [K75]; exact Ar77.1) (State.isArrayOf_alike hZ.alike Ar77.2.1) Ar77.2.2 hin77 (H77.at hin77 (own_rd 10 (own_jj ik76 hb44) (Nat.le_of_ble_eq_true rfl) rfl)) (g := (mkF m 258 #[.val (.ref ot), .val (.int aa), .val (.int (10 : Int32)), .val (.long pp), .second, .val (.int az_1), .val (.int (az_1 + (10 : Int32)))] [(.int (az_1 + (10 : Int32))), (.ref ot)])) rfl rfl (hb hby D9_258)) ?_
    refine oBi X75 hx hby D9_259 (z := (13 : Int32)) rfl ?_
    refine n_icmpNo X75 hx hby D9_261 (teq (by decide : (13 : Int32) = (13 : Int32))).2 ?_
    refine n_aloadN X75 hx hby D9_264 rfl rfl ?_
    refine n_iload X75 hx hby D9_265 rfl ?_
    refine oIc X75 hx hby D9_267 (z := (1 : Int32)) rfl ?_
    refine n_iadd X75 hx hby D9_268 ?_
    have ik78 : own_is ((az_1 + (10 : Int32)) + (1 : Int32)) az_1 11 := own_isS (k := 1) ik76 rg48 (by decide) (by decide)
    obtain ⟨cl79, Ar79, q79, S79, M79, H79, G79⟩ := (id Vo)
    have hin79 : ¬ (((az_1 + (10 : Int32)) + (1 : Int32)) < 0 ∨ cl79.slots.size ≤ (((az_1 + (10 : Int32)) + (1 : Int32))).toNatClampNeg) := own_inbK S79 ik78 hb44 hM44 (by decide)
    refine ob_ (X75.baloadBytes hx (j := ((az_1 + (10 : Int32)) + (1 : Int32))) (v := (.int (10 : Int32))) (by rw [K75]; exact Ar79.1) (State.isArrayOf_alike hZ.alike Ar79.2.1) Ar79.2.2 hin79 (H79.at hin79 (own_rd 11 (own_jj ik78 hb44) (Nat.le_of_ble_eq_true rfl) rfl)) (g := (mkF m 269 #[.val (.ref ot), .val (.int aa), .val (.int (10 : Int32)), .val (.long pp), .second, .val (.int az_1), .val (.int (az_1 + (10 : Int32)))] [(.int ((az_1 + (10 : Int32)) + (1 : Int32))), (.ref ot)])) rfl rfl (hb hby D9_269)) ?_
    refine oBi X75 hx hby D9_270 (z := (10 : Int32)) rfl ?_
    refine n_icmpYes X75 hx hby D9_272 (pc0 := 272) (pc' := 277) rfl (teq (by decide : (10 : Int32) = (10 : Int32))).1 (by decide) (by decide) ?_
    refine n_iload X75 hx hby D9_277 rfl ?_
    refine oIc X75 hx hby D9_279 (z := (2 : Int32)) rfl ?_
    refine n_iadd X75 hx hby D9_280 ?_
    show own_Go p e below (T75.setTop (mkF m 281 #[.val (.ref ot), .val (.int aa), .val (.int (10 : Int32)), .val (.long pp), .second, .val (.int az_1), .val (.int (az_1 + (10 : Int32)))] [(.int ((az_1 + (10 : Int32)) + (2 : Int32)))])) _
    have ik80 : own_is ((az_1 + (10 : Int32)) + (2 : Int32)) az_1 12 := own_isS (k := 2) ik76 rg48 (by decide) (by decide)
    obtain ⟨fs, hr, hrun, hended, hW, hsame⟩ := X75.leave (v := some (.int ((az_1 + (10 : Int32)) + (2 : Int32)))) (fun h => by rw [Bd.returns] at h; cases h)
    refine ⟨_, _, retI X75 hx Bd.returns (hb hby D9_281) hr, hrun, hended, _, _, rfl, ?_, ⟨_, rfl⟩, hW, hsame.mono (by decide) (by decide)⟩
    show Q_rm_body Z ot kk nn cc pr po aa (10 : Int32) pp h0 n0 _ T75.heap _
    rw [K75]
    exact ⟨((az_1 + (10 : Int32)) + (2 : Int32)), rfl, N75, rfl, (by have q := own_isV ik80; omega)⟩
def Q_rm_law (Z : State) (sp : Int32) (pa : Int64) (pb : Int64) (h0 : Heap) (n0 : Nat) (v : Option Value) (h : Heap) (L : List Loc) : Prop := v = some (.int (1 : Int32)) ∧ Fr n0 L ∧ Keep h0 h []
theorem ef_rm_law (m : MethodId) (sp : Int32) (pa : Int64) (pb : Int64) : entryFrame m #[(.int sp), (.long pa), (.long pb)] maxLocals = mkF m 0 #[.val (.int sp), .val (.long pa), .second, .val (.long pb), .second, .unset, .unset, .unset, .unset, .unset, .unset, .unset, .unset, .unset] [] := by first | (simp [entryFrame, mkF, argsToLocals, Value.category, maxLocals]; done) | rfl
set_option maxRecDepth 65536 in
set_option maxHeartbeats 40000000 in
theorem rm_law (l : Launch) (Z : State) (a0 : Array Value) (hw : ∀ d ∈ tables_1, d.before a0 Z = true) (ws : List Jvm.Cond) (sp : Int32) (pa : Int64) (pb : Int64) (h0 : Heap) (n0 : Nat) (O0 : Old Z n0 h0) :
    MetFree l x (head1 (Jvm.Cond.code x code maxLocals ret :: ws) room_1) (fun a U => a = #[(.int sp), (.long pa), (.long pb)] ∧ Z.Warmed39 U.vm ∧ U.heap = h0) (fun _ _ _ _ _ => True) (fun _ U o U' => ∃ v L, o = .returned v ∧ Q_rm_law Z sp pa pb h0 n0 v U'.heap L ∧ FrameEnd U o U' L room_1.cells room_1.slots) := by
  refine MetFree.of_bodySF (plainFor_of_name own_pn_com_example_living_lease_livinglease_redis_RespCommandPinLaw) hisR ?_
  intro p e s m args below meth c s₁ Bd hml0 hP hK
  obtain ⟨rfl, hZ, hh⟩ := hP
  have hx := Bd.exec
  have hby := Bd.bytes
  have hml : c.maxLocals = 14 := hml0
  have hown : s.vm.findClass s1_ = some m.cls := findClass_of_methodNamed Bd.named
  have hnm := (name_of_methodNamed Bd.named Bd.method).1
  have X0 : Stand p l e room_1 s m #[(.int sp), (.long pa), (.long pb)] below meth c s₁ [] 0 0 := Stand.of_body Bd
  have e0 : s₁.heap = h0 := by rw [← hh, Bd.state]; rfl
  have N0 := Fr.nil n0
  have Z0 : n0 ≤ h0.size := by rw [← O0.1]; exact O0.2.1
  show own_Go p e below (s₁.setTop (entryFrame m #[(.int sp), (.long pa), (.long pb)] maxLocals)) (fun t o => ∃ v L, o = .returned v ∧ Q_rm_law Z sp pa pb h0 n0 v t.heap L ∧ FrameEnd s o t L room_1.cells room_1.slots)
  rw [ef_rm_law m sp pa pb]
  refine n_iloadN X0 hx hby at_0 rfl ?_
  refine oIc X0 hx hby at_1 (z := (3 : Int32)) rfl ?_
  refine ob_ (fun _ k => XS.iand X0.here hx rfl (hb hby at_2) rfl k) ?_
  show own_Go p e below (s₁.setTop (mkF m 3 #[.val (.int sp), .val (.long pa), .second, .val (.long pb), .second, .unset, .unset, .unset, .unset, .unset, .unset, .unset, .unset, .unset] [(.int (sp &&& (3 : Int32)))])) _
  refine n_istore X0 hx hby at_3 (l' := #[.val (.int sp), .val (.long pa), .second, .val (.long pb), .second, .val (.int (sp &&& (3 : Int32))), .unset, .unset, .unset, .unset, .unset, .unset, .unset, .unset]) rfl ?_
  show own_Go p e below (s₁.setTop (mkF m 5 #[.val (.int sp), .val (.long pa), .second, .val (.long pb), .second, .val (.int (sp &&& (3 : Int32))), .unset, .unset, .unset, .unset, .unset, .unset, .unset, .unset] [])) _
  obtain ⟨nc, e_nc⟩ : ∃ z, z = (sp &&& (3 : Int32)) := ⟨_, rfl⟩
  rw [← e_nc]
  have h_nc := own_and3 e_nc
  rcases h_nc with rfl | rfl | rfl | rfl
  · skip
    show own_Go p e below (s₁.setTop (mkF m 5 #[.val (.int sp), .val (.long pa), .second, .val (.long pb), .second, .val (.int (0 : Int32)), .unset, .unset, .unset, .unset, .unset, .unset, .unset, .unset] [])) _
    have hn_N := own_hn_0
    have hn_0 := own_hn_0
    have iv1 : ((0 : Int32) : Int32).toInt = 0 := rfl
    refine n_iload X0 hx hby at_5 rfl ?_
    refine oIc X0 hx hby at_7 (z := (3 : Int32)) rfl ?_
    refine n_icmpYes X0 hx hby at_8 (pc0 := 8) (pc' := 16) rfl (feq (by decide : ¬ ((0 : Int32) = (3 : Int32)))).2 (by decide) (by decide) ?_
    refine n_iload X0 hx hby at_16 rfl ?_
    refine n_istore X0 hx hby at_18 (l' := #[.val (.int sp), .val (.long pa), .second, .val (.long pb), .second, .val (.int (0 : Int32)), .val (.int (0 : Int32)), .unset, .unset, .unset, .unset, .unset, .unset, .unset]) rfl ?_
    refine n_iloadN X0 hx hby at_20 rfl ?_
    refine oIc X0 hx hby at_21 (z := (2 : Int32)) rfl ?_
    refine ob_ (fun _ k => XS.iushr X0.here hx rfl (hb hby at_22) rfl k) ?_
    show own_Go p e below (s₁.setTop (mkF m 23 #[.val (.int sp), .val (.long pa), .second, .val (.long pb), .second, .val (.int (0 : Int32)), .val (.int (0 : Int32)), .unset, .unset, .unset, .unset, .unset, .unset, .unset] [(.int ((sp.toUInt32 >>> ((2 : Int32) &&& 31).toUInt32).toInt32))])) _
    refine oIc X0 hx hby at_23 (z := (3 : Int32)) rfl ?_
    refine ob_ (fun _ k => XS.iand X0.here hx rfl (hb hby at_24) rfl k) ?_
    show own_Go p e below (s₁.setTop (mkF m 25 #[.val (.int sp), .val (.long pa), .second, .val (.long pb), .second, .val (.int (0 : Int32)), .val (.int (0 : Int32)), .unset, .unset, .unset, .unset, .unset, .unset, .unset] [(.int (((sp.toUInt32 >>> ((2 : Int32) &&& 31).toUInt32).toInt32) &&& (3 : Int32)))])) _
    refine o_ksc 3 0 0 (Jvm.LawKit.callS X0 hx (y := (⟨s1_, "lengthOf", "(I)I"⟩ : MethodName)) hown (mw hZ hw 0 rfl) (mw hZ hw 1 rfl) (mw hZ hw 2 rfl) (mw hZ hw 3 rfl) (by decide) (backOf (W := 0) (rm_len l Z a0 hw [] (((sp.toUInt32 >>> ((2 : Int32) &&& 31).toUInt32).toInt32) &&& (3 : Int32)) h0 n0 O0 (own_and3 rfl)) hZ (own_w hw 3 rfl) (own_w hw 2 rfl) (by decide) (by decide)) (g := (mkF m 25 #[.val (.int sp), .val (.long pa), .second, .val (.long pb), .second, .val (.int (0 : Int32)), .val (.int (0 : Int32)), .unset, .unset, .unset, .unset, .unset, .unset, .unset] [(.int (((sp.toUInt32 >>> ((2 : Int32) &&& 31).toUInt32).toInt32) &&& (3 : Int32)))])) rfl (by rw [hml]; rfl) (argsL := [(.int (((sp.toUInt32 >>> ((2 : Int32) &&& 31).toUInt32).toInt32) &&& (3 : Int32)))]) (rest := []) (lenOf own_pd__28I_29I rfl) rfl own_z (hb hby at_25) (fun _ _ => ⟨rfl, e0, (by decide : 0 + 0 ≤ _), (by decide : 0 + 0 ≤ _)⟩)) fun T2 Lc2 _ X2 hQ2 => ?_
    obtain ⟨ln_2, rfl, M2, K2, r2_0⟩ := hQ2
    have N2 := Fr.app N0 M2
    obtain ⟨lc2, X2, N2⟩ := own_lc X2 N2
    have hrla := own_cnt_rng r2_0
    refine n_istore X2 hx hby at_28 (l' := #[.val (.int sp), .val (.long pa), .second, .val (.long pb), .second, .val (.int (0 : Int32)), .val (.int (0 : Int32)), .val (.int ln_2), .unset, .unset, .unset, .unset, .unset, .unset]) rfl ?_
    refine n_iloadN X2 hx hby at_30 rfl ?_
    refine oIc X2 hx hby at_31 (z := (4 : Int32)) rfl ?_
    refine ob_ (fun _ k => XS.iushr X2.here hx rfl (hb hby at_32) rfl k) ?_
    show own_Go p e below (T2.setTop (mkF m 33 #[.val (.int sp), .val (.long pa), .second, .val (.long pb), .second, .val (.int (0 : Int32)), .val (.int (0 : Int32)), .val (.int ln_2), .unset, .unset, .unset, .unset, .unset, .unset] [(.int ((sp.toUInt32 >>> ((4 : Int32) &&& 31).toUInt32).toInt32))])) _
    refine oIc X2 hx hby at_33 (z := (3 : Int32)) rfl ?_
    refine ob_ (fun _ k => XS.iand X2.here hx rfl (hb hby at_34) rfl k) ?_
    show own_Go p e below (T2.setTop (mkF m 35 #[.val (.int sp), .val (.long pa), .second, .val (.long pb), .second, .val (.int (0 : Int32)), .val (.int (0 : Int32)), .val (.int ln_2), .unset, .unset, .unset, .unset, .unset, .unset] [(.int (((sp.toUInt32 >>> ((4 : Int32) &&& 31).toUInt32).toInt32) &&& (3 : Int32)))])) _
    refine o_ksc 3 0 0 (Jvm.LawKit.callS X2 hx (y := (⟨s1_, "lengthOf", "(I)I"⟩ : MethodName)) hown (mw hZ hw 0 rfl) (mw hZ hw 1 rfl) (mw hZ hw 2 rfl) (mw hZ hw 3 rfl) (by decide) (backOf (W := 0) (rm_len l Z a0 hw [] (((sp.toUInt32 >>> ((4 : Int32) &&& 31).toUInt32).toInt32) &&& (3 : Int32)) h0 n0 O0 (own_and3 rfl)) hZ (own_w hw 3 rfl) (own_w hw 2 rfl) (by decide) (by decide)) (g := (mkF m 35 #[.val (.int sp), .val (.long pa), .second, .val (.long pb), .second, .val (.int (0 : Int32)), .val (.int (0 : Int32)), .val (.int ln_2), .unset, .unset, .unset, .unset, .unset, .unset] [(.int (((sp.toUInt32 >>> ((4 : Int32) &&& 31).toUInt32).toInt32) &&& (3 : Int32)))])) rfl (by rw [hml]; rfl) (argsL := [(.int (((sp.toUInt32 >>> ((4 : Int32) &&& 31).toUInt32).toInt32) &&& (3 : Int32)))]) (rest := []) (lenOf own_pd__28I_29I rfl) rfl own_z (hb hby at_35) (fun _ _ => ⟨rfl, K2, (by decide : 0 + 0 ≤ _), (by decide : 0 + 0 ≤ _)⟩)) fun T3 Lc3 _ X3 hQ3 => ?_
    obtain ⟨ln_3, rfl, M3, K3, r3_0⟩ := hQ3
    have N3 := Fr.app N2 M3
    obtain ⟨lc3, X3, N3⟩ := own_lc X3 N3
    have hrlb := own_cnt_rng r3_0
    refine n_istore X3 hx hby at_38 (l' := #[.val (.int sp), .val (.long pa), .second, .val (.long pb), .second, .val (.int (0 : Int32)), .val (.int (0 : Int32)), .val (.int ln_2), .val (.int ln_3), .unset, .unset, .unset, .unset, .unset]) rfl ?_
    refine n_iload X3 hx hby at_40 rfl ?_
    refine n_lloadN X3 hx hby at_42 rfl ?_
    refine o_ksc 3 1 10 (Jvm.LawKit.callS X3 hx (y := (⟨s1_, "fill", "(IJ)[B"⟩ : MethodName)) hown (mw hZ hw 4 rfl) (mw hZ hw 5 rfl) (mw hZ hw 2 rfl) (mw hZ hw 6 rfl) (by decide) (backOf (W := 0) (rm_fill l Z a0 hw [] ln_2 pa h0 n0 O0 r2_0) hZ (own_w hw 6 rfl) (own_w hw 2 rfl) (by decide) (by decide)) (g := (mkF m 43 #[.val (.int sp), .val (.long pa), .second, .val (.long pb), .second, .val (.int (0 : Int32)), .val (.int (0 : Int32)), .val (.int ln_2), .val (.int ln_3), .unset, .unset, .unset, .unset, .unset] [(.long pa), (.int ln_2)])) rfl (by rw [hml]; rfl) (argsL := [(.int ln_2), (.long pa)]) (rest := []) (lenOf own_pd__28IJ_29_5bB rfl) rfl own_z (hb hby at_43) (fun _ _ => ⟨rfl, K3, (by decide : 0 + 1 ≤ _), (by decide : 0 + 10 ≤ _)⟩)) fun T4 Lc4 _ X4 hQ4 => ?_
    obtain ⟨ob_4, kb_4, rfl, M4, K4, g4_0, g4_1, r4_0⟩ := hQ4
    have N4 := Fr.app N3 M4
    obtain ⟨lc4, X4, N4⟩ := own_lc X4 N4
    have z4 := K4.1
    have lt_g4_0 : T4.heap.size > ob_4 := g4_0.lt
    have lt_g4_1 : T4.heap.size > ob_4 := g4_1.lt
    refine n_astore X4 hx hby at_46 rfl (l' := #[.val (.int sp), .val (.long pa), .second, .val (.long pb), .second, .val (.int (0 : Int32)), .val (.int (0 : Int32)), .val (.int ln_2), .val (.int ln_3), .val (.ref ob_4), .unset, .unset, .unset, .unset]) rfl ?_
    refine n_iload X4 hx hby at_48 rfl ?_
    refine n_lloadN X4 hx hby at_50 rfl ?_
    have O5 : Old Z n0 T4.heap := (O0.keep K4 all0)
    refine o_ksc 3 2 20 (Jvm.LawKit.callS X4 hx (y := (⟨s1_, "fill", "(IJ)[B"⟩ : MethodName)) hown (mw hZ hw 4 rfl) (mw hZ hw 5 rfl) (mw hZ hw 2 rfl) (mw hZ hw 6 rfl) (by decide) (backOf (W := 0) (rm_fill l Z a0 hw [] ln_3 pb T4.heap n0 O5 r3_0) hZ (own_w hw 6 rfl) (own_w hw 2 rfl) (by decide) (by decide)) (g := (mkF m 51 #[.val (.int sp), .val (.long pa), .second, .val (.long pb), .second, .val (.int (0 : Int32)), .val (.int (0 : Int32)), .val (.int ln_2), .val (.int ln_3), .val (.ref ob_4), .unset, .unset, .unset, .unset] [(.long pb), (.int ln_3)])) rfl (by rw [hml]; rfl) (argsL := [(.int ln_3), (.long pb)]) (rest := []) (lenOf own_pd__28IJ_29_5bB rfl) rfl own_z (hb hby at_51) (fun _ _ => ⟨rfl, rfl, (by decide : 1 + 1 ≤ _), (by decide : 10 + 10 ≤ _)⟩)) fun T6 Lc6 _ X6 hQ6 => ?_
    obtain ⟨ob_6, kb_6, rfl, M6, K6, g6_0, g6_1, r6_0⟩ := hQ6
    have N6 := Fr.app N4 M6
    obtain ⟨lc6, X6, N6⟩ := own_lc X6 N6
    have z6 := K6.1
    have lt_g6_0 : T6.heap.size > ob_6 := g6_0.lt
    have lt_g6_1 : T6.heap.size > ob_6 := g6_1.lt
    refine n_astore X6 hx hby at_54 rfl (l' := #[.val (.int sp), .val (.long pa), .second, .val (.long pb), .second, .val (.int (0 : Int32)), .val (.int (0 : Int32)), .val (.int ln_2), .val (.int ln_3), .val (.ref ob_4), .val (.ref ob_6), .unset, .unset, .unset]) rfl ?_
    refine n_iload X6 hx hby at_56 rfl ?_
    obtain ⟨T7, h7, k7, X7, e7, E7, A7, Ex7, Ov7, st7⟩ := newRA X6 hx hZ hown (ty := .byte) rfl (own_w hw 8 rfl) (own_w hw 9 rfl) rfl (g := (mkF m 58 #[.val (.int sp), .val (.long pa), .second, .val (.long pb), .second, .val (.int (0 : Int32)), .val (.int (0 : Int32)), .val (.int ln_2), .val (.int ln_3), .val (.ref ob_4), .val (.ref ob_6), .unset, .unset, .unset] [(.int (0 : Int32))])) rfl (hb hby at_58) rfl (by decide) (cap := 0) (by decide) (by decide) (by decide) (by decide) rfl
    obtain ⟨ob7, g7⟩ : ∃ z, z = T6.heap.size := ⟨_, rfl⟩
    rw [← g7] at A7 st7 Ex7
    refine ob_ st7 ?_
    have z7 := E7.1
    have Vw7 : Arv Z h7 ob7 k7 (.array .byte) (0 : Int32) [] .null := Arv.new A7 (by decide)
    have lt7 : h7.size > ob7 := Vw7.lt
    refine n_astore X7 hx hby at_61 rfl (l' := #[.val (.int sp), .val (.long pa), .second, .val (.long pb), .second, .val (.int (0 : Int32)), .val (.int (0 : Int32)), .val (.int ln_2), .val (.int ln_3), .val (.ref ob_4), .val (.ref ob_6), .val (.ref ob7), .unset, .unset]) rfl ?_
    refine n_iload X7 hx hby at_63 rfl ?_
    refine n_ifYes X7 hx hby at_65 (pc0 := 65) (pc' := 74) rfl ((if0 _ _).trans (flt (by decide : ¬ ((0 : Int32) < (0 : Int32)))).2.2.2) (by decide) (by decide) ?_
    refine n_iload X7 hx hby at_74 rfl ?_
    refine oIc X7 hx hby at_76 (z := (1 : Int32)) rfl ?_
    refine n_icmpYes X7 hx hby at_77 (pc0 := 77) (pc' := 86) rfl (flt (by decide : ¬ ((1 : Int32) < (0 : Int32)))).2.2.2 (by decide) (by decide) ?_
    refine n_iload X7 hx hby at_86 rfl ?_
    refine oIc X7 hx hby at_88 (z := (2 : Int32)) rfl ?_
    refine n_icmpYes X7 hx hby at_89 (pc0 := 89) (pc' := 152) rfl (flt (by decide : ¬ ((2 : Int32) < (0 : Int32)))).2.2.2 (by decide) (by decide) ?_
    refine n_aload X7 hx hby at_152 rfl rfl ?_
    have O8 : Old Z n0 h7 := ((O5.keep K6 all0).ext E7)
    refine o_ksc 3 4 110 (Jvm.LawKit.callS X7 hx (y := (⟨s2_, "command", "([[B)[B"⟩ : MethodName)) hown (mw hZ hw 10 rfl) (mw hZ hw 11 rfl) (mw hZ hw 12 rfl) (mw hZ hw 13 rfl) (by decide) (backOf (W := 0) (rm_cmd0 l Z a0 hw [] ob7 k7 h7 n0 O8 Vw7) hZ (own_w hw 13 rfl) (own_w hw 12 rfl) (by decide) (by decide)) (g := (mkF m 154 #[.val (.int sp), .val (.long pa), .second, .val (.long pb), .second, .val (.int (0 : Int32)), .val (.int (0 : Int32)), .val (.int ln_2), .val (.int ln_3), .val (.ref ob_4), .val (.ref ob_6), .val (.ref ob7), .unset, .unset] [(.ref ob7)])) rfl (by rw [hml]; rfl) (argsL := [(.ref ob7)]) (rest := []) (lenOf own_pd__28_5b_5bB_29_5bB rfl) rfl own_z (hb hby at_154) (fun _ _ => ⟨rfl, e7, (by decide : 3 + 1 ≤ _), (by decide : 20 + 90 ≤ _)⟩)) fun T9 Lc9 _ X9 hQ9 => ?_
    obtain ⟨ot_9, kk_9, nn_9, cc_9, rfl, M9, K9, g9_0, r9_0, r9_1, r9_2⟩ := hQ9
    have N9 := Fr.app N6 M9
    obtain ⟨lc9, X9, N9⟩ := own_lc X9 N9
    have z9 := K9.1
    have lt_g9_0 : T9.heap.size > ot_9 := g9_0.lt
    have hc0 : cc_9 = own_hd (42 : Int32) (0 : Int32) ++ ([] : List Value) := by rw [r9_0]; simp only [own_fl_0, List.append_assoc, List.append_nil]
    have hns0 : nn_9.toInt ≤ 1000 := by omega
    refine n_astore X9 hx hby at_157 rfl (l' := #[.val (.int sp), .val (.long pa), .second, .val (.long pb), .second, .val (.int (0 : Int32)), .val (.int (0 : Int32)), .val (.int ln_2), .val (.int ln_3), .val (.ref ob_4), .val (.ref ob_6), .val (.ref ob7), .val (.ref ot_9), .unset]) rfl ?_
    refine n_aload X9 hx hby at_159 rfl rfl ?_
    refine oIc X9 hx hby at_161 (z := (0 : Int32)) rfl ?_
    refine oBi X9 hx hby at_162 (z := (42 : Int32)) rfl ?_
    refine n_iload X9 hx hby at_164 rfl ?_
    have O10 : Old Z n0 T9.heap := (O8.keep K9 all0)
    refine o_ksc 3 4 110 (Jvm.LawKit.callS X9 hx (y := (⟨s1_, "header", "([BICI)I"⟩ : MethodName)) hown (mw hZ hw 23 rfl) (mw hZ hw 24 rfl) (mw hZ hw 2 rfl) (mw hZ hw 25 rfl) (by decide) (backOf (W := 0) (rm_hd42 l Z a0 hw [] ot_9 kk_9 nn_9 cc_9 ([] : List Value) ([] : List Value) (0 : Int32) (0 : Int32) T9.heap n0 O10 g9_0 (by decide) (by rw [List.nil_append]; exact hc0) rfl (by have q : ((([] : List Value)).length : Int) = 0 := rfl; omega) (by omega)) hZ (own_w hw 25 rfl) (own_w hw 2 rfl) (by decide) (by decide)) (g := (mkF m 166 #[.val (.int sp), .val (.long pa), .second, .val (.long pb), .second, .val (.int (0 : Int32)), .val (.int (0 : Int32)), .val (.int ln_2), .val (.int ln_3), .val (.ref ob_4), .val (.ref ob_6), .val (.ref ob7), .val (.ref ot_9), .unset] [(.int (0 : Int32)), (.int (42 : Int32)), (.int (0 : Int32)), (.ref ot_9)])) rfl (by rw [hml]; rfl) (argsL := [(.ref ot_9), (.int (0 : Int32)), (.int (42 : Int32)), (.int (0 : Int32))]) (rest := []) (lenOf own_pd__28_5bBICI_29I rfl) rfl own_z (hb hby at_166) (fun _ _ => ⟨rfl, rfl, (by decide : 4 + 0 ≤ _), (by decide : 110 + 0 ≤ _)⟩)) fun T11 Lc11 _ X11 hQ11 => ?_
    obtain ⟨az_11, rfl, M11, K11, r11_0⟩ := hQ11
    have N11 := Fr.app N9 M11
    obtain ⟨lc11, X11, N11⟩ := own_lc X11 N11
    obtain ⟨qa0, e_qa0⟩ : ∃ z, z = own_hd (42 : Int32) (0 : Int32) := ⟨_, rfl⟩
    rw [← e_qa0] at hc0
    have hl_qa0 : (qa0.length : Int) = own_hn (0 : Int32) := by rw [e_qa0]; exact own_hd_len _ (by decide)
    have ha0 : az_11.toInt = (qa0.length : Int) := by omega
    have he0 : nn_9.toInt = (qa0.length : Int) + (0 : Int) := by omega
    have hz0 : (0 : Int) ≤ 0 := by decide
    refine n_istore X11 hx hby at_169 (l' := #[.val (.int sp), .val (.long pa), .second, .val (.long pb), .second, .val (.int (0 : Int32)), .val (.int (0 : Int32)), .val (.int ln_2), .val (.int ln_3), .val (.ref ob_4), .val (.ref ob_6), .val (.ref ob7), .val (.ref ot_9), .val (.int az_11)]) rfl ?_
    refine n_iload X11 hx hby at_171 rfl ?_
    refine n_ifYes X11 hx hby at_173 (pc0 := 173) (pc' := 188) rfl ((if0 _ _).trans (flt (by decide : ¬ ((0 : Int32) < (0 : Int32)))).2.2.2) (by decide) (by decide) ?_
    refine n_iload X11 hx hby at_188 rfl ?_
    refine oIc X11 hx hby at_190 (z := (1 : Int32)) rfl ?_
    refine n_icmpYes X11 hx hby at_191 (pc0 := 191) (pc' := 206) rfl (flt (by decide : ¬ ((1 : Int32) < (0 : Int32)))).2.2.2 (by decide) (by decide) ?_
    refine n_iload X11 hx hby at_206 rfl ?_
    refine oIc X11 hx hby at_208 (z := (2 : Int32)) rfl ?_
    refine n_icmpYes X11 hx hby at_209 (pc0 := 209) (pc' := 300) rfl (flt (by decide : ¬ ((2 : Int32) < (0 : Int32)))).2.2.2 (by decide) (by decide) ?_
    refine n_iload X11 hx hby at_300 rfl ?_
    refine n_aload X11 hx hby at_302 rfl rfl ?_
    obtain ⟨cl12, Ar12, q12, S12, M12, H12, G12⟩ := (id g9_0)
    refine ob_ (X11.arraylength hx (by rw [K11]; exact Ar12.1) (State.isArrayOf_alike hZ.alike Ar12.2.1) (g := (mkF m 304 #[.val (.int sp), .val (.long pa), .second, .val (.long pb), .second, .val (.int (0 : Int32)), .val (.int (0 : Int32)), .val (.int ln_2), .val (.int ln_3), .val (.ref ob_4), .val (.ref ob_6), .val (.ref ob7), .val (.ref ot_9), .val (.int az_11)] [(.ref ot_9), (.int az_11)])) rfl rfl (hb hby at_304)) ?_
    rw [len_of S12 M12]
    show own_Go p e below (T11.setTop (mkF m 305 #[.val (.int sp), .val (.long pa), .second, .val (.long pb), .second, .val (.int (0 : Int32)), .val (.int (0 : Int32)), .val (.int ln_2), .val (.int ln_3), .val (.ref ob_4), .val (.ref ob_6), .val (.ref ob7), .val (.ref ot_9), .val (.int az_11)] [(.int nn_9), (.int az_11)])) _
    have hend : az_11 = nn_9 := Int32.toInt_inj.mp (own_hend ha0 he0)
    refine n_icmpNo X11 hx hby at_305 (teq hend).2 ?_
    refine oIc X11 hx hby at_308 (z := (1 : Int32)) rfl ?_
    refine n_goto X11 hx hby at_309 (pc0 := 309) (pc' := 313) rfl (by decide) (by decide) ?_
    have K13 : Keep h0 T9.heap [] := (((((Keep.refl h0 []).trans K4 all0).trans K6 all0).ext E7).trans K9 all0)
    obtain ⟨fs, hr, hrun, hended, hW, hsame⟩ := X11.leave (v := some (.int (1 : Int32))) (fun h => by rw [Bd.returns] at h; cases h)
    refine ⟨_, _, retN X11 hx (t := .boolean) Bd.returns (by simp) (hb hby at_313) hr, hrun, hended, _, _, rfl, ?_, ⟨_, rfl⟩, hW, hsame.mono (by decide) (by decide)⟩
    show Q_rm_law Z sp pa pb h0 n0 _ T11.heap _
    rw [K11]
    exact ⟨rfl, N11, K13⟩
  · skip
    show own_Go p e below (s₁.setTop (mkF m 5 #[.val (.int sp), .val (.long pa), .second, .val (.long pb), .second, .val (.int (1 : Int32)), .unset, .unset, .unset, .unset, .unset, .unset, .unset, .unset] [])) _
    have hn_N := own_hn_1
    have hn_0 := own_hn_0
    have iv14 : ((0 : Int32) : Int32).toInt = 0 := rfl
    refine n_iload X0 hx hby at_5 rfl ?_
    refine oIc X0 hx hby at_7 (z := (3 : Int32)) rfl ?_
    refine n_icmpYes X0 hx hby at_8 (pc0 := 8) (pc' := 16) rfl (feq (by decide : ¬ ((1 : Int32) = (3 : Int32)))).2 (by decide) (by decide) ?_
    refine n_iload X0 hx hby at_16 rfl ?_
    refine n_istore X0 hx hby at_18 (l' := #[.val (.int sp), .val (.long pa), .second, .val (.long pb), .second, .val (.int (1 : Int32)), .val (.int (1 : Int32)), .unset, .unset, .unset, .unset, .unset, .unset, .unset]) rfl ?_
    refine n_iloadN X0 hx hby at_20 rfl ?_
    refine oIc X0 hx hby at_21 (z := (2 : Int32)) rfl ?_
    refine ob_ (fun _ k => XS.iushr X0.here hx rfl (hb hby at_22) rfl k) ?_
    show own_Go p e below (s₁.setTop (mkF m 23 #[.val (.int sp), .val (.long pa), .second, .val (.long pb), .second, .val (.int (1 : Int32)), .val (.int (1 : Int32)), .unset, .unset, .unset, .unset, .unset, .unset, .unset] [(.int ((sp.toUInt32 >>> ((2 : Int32) &&& 31).toUInt32).toInt32))])) _
    refine oIc X0 hx hby at_23 (z := (3 : Int32)) rfl ?_
    refine ob_ (fun _ k => XS.iand X0.here hx rfl (hb hby at_24) rfl k) ?_
    show own_Go p e below (s₁.setTop (mkF m 25 #[.val (.int sp), .val (.long pa), .second, .val (.long pb), .second, .val (.int (1 : Int32)), .val (.int (1 : Int32)), .unset, .unset, .unset, .unset, .unset, .unset, .unset] [(.int (((sp.toUInt32 >>> ((2 : Int32) &&& 31).toUInt32).toInt32) &&& (3 : Int32)))])) _
    refine o_ksc 3 0 0 (Jvm.LawKit.callS X0 hx (y := (⟨s1_, "lengthOf", "(I)I"⟩ : MethodName)) hown (mw hZ hw 0 rfl) (mw hZ hw 1 rfl) (mw hZ hw 2 rfl) (mw hZ hw 3 rfl) (by decide) (backOf (W := 0) (rm_len l Z a0 hw [] (((sp.toUInt32 >>> ((2 : Int32) &&& 31).toUInt32).toInt32) &&& (3 : Int32)) h0 n0 O0 (own_and3 rfl)) hZ (own_w hw 3 rfl) (own_w hw 2 rfl) (by decide) (by decide)) (g := (mkF m 25 #[.val (.int sp), .val (.long pa), .second, .val (.long pb), .second, .val (.int (1 : Int32)), .val (.int (1 : Int32)), .unset, .unset, .unset, .unset, .unset, .unset, .unset] [(.int (((sp.toUInt32 >>> ((2 : Int32) &&& 31).toUInt32).toInt32) &&& (3 : Int32)))])) rfl (by rw [hml]; rfl) (argsL := [(.int (((sp.toUInt32 >>> ((2 : Int32) &&& 31).toUInt32).toInt32) &&& (3 : Int32)))]) (rest := []) (lenOf own_pd__28I_29I rfl) rfl own_z (hb hby at_25) (fun _ _ => ⟨rfl, e0, (by decide : 0 + 0 ≤ _), (by decide : 0 + 0 ≤ _)⟩)) fun T15 Lc15 _ X15 hQ15 => ?_
    obtain ⟨ln_15, rfl, M15, K15, r15_0⟩ := hQ15
    have N15 := Fr.app N0 M15
    obtain ⟨lc15, X15, N15⟩ := own_lc X15 N15
    have hrla := own_cnt_rng r15_0
    refine n_istore X15 hx hby at_28 (l' := #[.val (.int sp), .val (.long pa), .second, .val (.long pb), .second, .val (.int (1 : Int32)), .val (.int (1 : Int32)), .val (.int ln_15), .unset, .unset, .unset, .unset, .unset, .unset]) rfl ?_
    refine n_iloadN X15 hx hby at_30 rfl ?_
    refine oIc X15 hx hby at_31 (z := (4 : Int32)) rfl ?_
    refine ob_ (fun _ k => XS.iushr X15.here hx rfl (hb hby at_32) rfl k) ?_
    show own_Go p e below (T15.setTop (mkF m 33 #[.val (.int sp), .val (.long pa), .second, .val (.long pb), .second, .val (.int (1 : Int32)), .val (.int (1 : Int32)), .val (.int ln_15), .unset, .unset, .unset, .unset, .unset, .unset] [(.int ((sp.toUInt32 >>> ((4 : Int32) &&& 31).toUInt32).toInt32))])) _
    refine oIc X15 hx hby at_33 (z := (3 : Int32)) rfl ?_
    refine ob_ (fun _ k => XS.iand X15.here hx rfl (hb hby at_34) rfl k) ?_
    show own_Go p e below (T15.setTop (mkF m 35 #[.val (.int sp), .val (.long pa), .second, .val (.long pb), .second, .val (.int (1 : Int32)), .val (.int (1 : Int32)), .val (.int ln_15), .unset, .unset, .unset, .unset, .unset, .unset] [(.int (((sp.toUInt32 >>> ((4 : Int32) &&& 31).toUInt32).toInt32) &&& (3 : Int32)))])) _
    refine o_ksc 3 0 0 (Jvm.LawKit.callS X15 hx (y := (⟨s1_, "lengthOf", "(I)I"⟩ : MethodName)) hown (mw hZ hw 0 rfl) (mw hZ hw 1 rfl) (mw hZ hw 2 rfl) (mw hZ hw 3 rfl) (by decide) (backOf (W := 0) (rm_len l Z a0 hw [] (((sp.toUInt32 >>> ((4 : Int32) &&& 31).toUInt32).toInt32) &&& (3 : Int32)) h0 n0 O0 (own_and3 rfl)) hZ (own_w hw 3 rfl) (own_w hw 2 rfl) (by decide) (by decide)) (g := (mkF m 35 #[.val (.int sp), .val (.long pa), .second, .val (.long pb), .second, .val (.int (1 : Int32)), .val (.int (1 : Int32)), .val (.int ln_15), .unset, .unset, .unset, .unset, .unset, .unset] [(.int (((sp.toUInt32 >>> ((4 : Int32) &&& 31).toUInt32).toInt32) &&& (3 : Int32)))])) rfl (by rw [hml]; rfl) (argsL := [(.int (((sp.toUInt32 >>> ((4 : Int32) &&& 31).toUInt32).toInt32) &&& (3 : Int32)))]) (rest := []) (lenOf own_pd__28I_29I rfl) rfl own_z (hb hby at_35) (fun _ _ => ⟨rfl, K15, (by decide : 0 + 0 ≤ _), (by decide : 0 + 0 ≤ _)⟩)) fun T16 Lc16 _ X16 hQ16 => ?_
    obtain ⟨ln_16, rfl, M16, K16, r16_0⟩ := hQ16
    have N16 := Fr.app N15 M16
    obtain ⟨lc16, X16, N16⟩ := own_lc X16 N16
    have hrlb := own_cnt_rng r16_0
    refine n_istore X16 hx hby at_38 (l' := #[.val (.int sp), .val (.long pa), .second, .val (.long pb), .second, .val (.int (1 : Int32)), .val (.int (1 : Int32)), .val (.int ln_15), .val (.int ln_16), .unset, .unset, .unset, .unset, .unset]) rfl ?_
    refine n_iload X16 hx hby at_40 rfl ?_
    refine n_lloadN X16 hx hby at_42 rfl ?_
    refine o_ksc 3 1 10 (Jvm.LawKit.callS X16 hx (y := (⟨s1_, "fill", "(IJ)[B"⟩ : MethodName)) hown (mw hZ hw 4 rfl) (mw hZ hw 5 rfl) (mw hZ hw 2 rfl) (mw hZ hw 6 rfl) (by decide) (backOf (W := 0) (rm_fill l Z a0 hw [] ln_15 pa h0 n0 O0 r15_0) hZ (own_w hw 6 rfl) (own_w hw 2 rfl) (by decide) (by decide)) (g := (mkF m 43 #[.val (.int sp), .val (.long pa), .second, .val (.long pb), .second, .val (.int (1 : Int32)), .val (.int (1 : Int32)), .val (.int ln_15), .val (.int ln_16), .unset, .unset, .unset, .unset, .unset] [(.long pa), (.int ln_15)])) rfl (by rw [hml]; rfl) (argsL := [(.int ln_15), (.long pa)]) (rest := []) (lenOf own_pd__28IJ_29_5bB rfl) rfl own_z (hb hby at_43) (fun _ _ => ⟨rfl, K16, (by decide : 0 + 1 ≤ _), (by decide : 0 + 10 ≤ _)⟩)) fun T17 Lc17 _ X17 hQ17 => ?_
    obtain ⟨ob_17, kb_17, rfl, M17, K17, g17_0, g17_1, r17_0⟩ := hQ17
    have N17 := Fr.app N16 M17
    obtain ⟨lc17, X17, N17⟩ := own_lc X17 N17
    have z17 := K17.1
    have lt_g17_0 : T17.heap.size > ob_17 := g17_0.lt
    have lt_g17_1 : T17.heap.size > ob_17 := g17_1.lt
    refine n_astore X17 hx hby at_46 rfl (l' := #[.val (.int sp), .val (.long pa), .second, .val (.long pb), .second, .val (.int (1 : Int32)), .val (.int (1 : Int32)), .val (.int ln_15), .val (.int ln_16), .val (.ref ob_17), .unset, .unset, .unset, .unset]) rfl ?_
    refine n_iload X17 hx hby at_48 rfl ?_
    refine n_lloadN X17 hx hby at_50 rfl ?_
    have O18 : Old Z n0 T17.heap := (O0.keep K17 all0)
    refine o_ksc 3 2 20 (Jvm.LawKit.callS X17 hx (y := (⟨s1_, "fill", "(IJ)[B"⟩ : MethodName)) hown (mw hZ hw 4 rfl) (mw hZ hw 5 rfl) (mw hZ hw 2 rfl) (mw hZ hw 6 rfl) (by decide) (backOf (W := 0) (rm_fill l Z a0 hw [] ln_16 pb T17.heap n0 O18 r16_0) hZ (own_w hw 6 rfl) (own_w hw 2 rfl) (by decide) (by decide)) (g := (mkF m 51 #[.val (.int sp), .val (.long pa), .second, .val (.long pb), .second, .val (.int (1 : Int32)), .val (.int (1 : Int32)), .val (.int ln_15), .val (.int ln_16), .val (.ref ob_17), .unset, .unset, .unset, .unset] [(.long pb), (.int ln_16)])) rfl (by rw [hml]; rfl) (argsL := [(.int ln_16), (.long pb)]) (rest := []) (lenOf own_pd__28IJ_29_5bB rfl) rfl own_z (hb hby at_51) (fun _ _ => ⟨rfl, rfl, (by decide : 1 + 1 ≤ _), (by decide : 10 + 10 ≤ _)⟩)) fun T19 Lc19 _ X19 hQ19 => ?_
    obtain ⟨ob_19, kb_19, rfl, M19, K19, g19_0, g19_1, r19_0⟩ := hQ19
    have N19 := Fr.app N17 M19
    obtain ⟨lc19, X19, N19⟩ := own_lc X19 N19
    have z19 := K19.1
    have lt_g19_0 : T19.heap.size > ob_19 := g19_0.lt
    have lt_g19_1 : T19.heap.size > ob_19 := g19_1.lt
    refine n_astore X19 hx hby at_54 rfl (l' := #[.val (.int sp), .val (.long pa), .second, .val (.long pb), .second, .val (.int (1 : Int32)), .val (.int (1 : Int32)), .val (.int ln_15), .val (.int ln_16), .val (.ref ob_17), .val (.ref ob_19), .unset, .unset, .unset]) rfl ?_
    refine n_iload X19 hx hby at_56 rfl ?_
    obtain ⟨T20, h20, k20, X20, e20, E20, A20, Ex20, Ov20, st20⟩ := newRA X19 hx hZ hown (ty := .byte) rfl (own_w hw 8 rfl) (own_w hw 9 rfl) rfl (g := (mkF m 58 #[.val (.int sp), .val (.long pa), .second, .val (.long pb), .second, .val (.int (1 : Int32)), .val (.int (1 : Int32)), .val (.int ln_15), .val (.int ln_16), .val (.ref ob_17), .val (.ref ob_19), .unset, .unset, .unset] [(.int (1 : Int32))])) rfl (hb hby at_58) rfl (by decide) (cap := 1) (by decide) (by decide) (by decide) (by decide) rfl
    obtain ⟨ob20, g20⟩ : ∃ z, z = T19.heap.size := ⟨_, rfl⟩
    rw [← g20] at A20 st20 Ex20
    refine ob_ st20 ?_
    have z20 := E20.1
    have Vw20 : Arv Z h20 ob20 k20 (.array .byte) (1 : Int32) [] .null := Arv.new A20 (by decide)
    have lt20 : h20.size > ob20 := Vw20.lt
    refine n_astore X20 hx hby at_61 rfl (l' := #[.val (.int sp), .val (.long pa), .second, .val (.long pb), .second, .val (.int (1 : Int32)), .val (.int (1 : Int32)), .val (.int ln_15), .val (.int ln_16), .val (.ref ob_17), .val (.ref ob_19), .val (.ref ob20), .unset, .unset]) rfl ?_
    refine n_iload X20 hx hby at_63 rfl ?_
    refine n_ifNo X20 hx hby at_65 ((if0 _ _).trans (tlt (by decide : (0 : Int32) < (1 : Int32))).2.2.2) ?_
    refine n_aload X20 hx hby at_68 rfl rfl ?_
    refine oIc X20 hx hby at_70 (z := (0 : Int32)) rfl ?_
    refine n_aload X20 hx hby at_71 rfl rfl ?_
    have Vw21 : Arv Z h20 ob20 k20 (.array .byte) (1 : Int32) [.null] .null := Vw20.pad (pad_rep [] .null 1)
    obtain ⟨cl22, Ar22, q22, S22, M22, H22, G22⟩ := (id Vw21)
    have hin22 : ¬ ((0 : Int32) < 0 ∨ cl22.slots.size ≤ ((0 : Int32)).toNatClampNeg) := inb_of S22 ⟨by decide, by decide⟩
    have fc23 : Exa Z h20 ob_17 "[B" := ((g17_0.keep K19).ext E20)
    obtain ⟨T22, h22, X22, e22, W22, st22⟩ := stR X20 hx hZ e20 Ar22 (j := (0 : Int32)) hin22 rfl (Sto.ofVA Ar22 q22 Ov20 (Ins.self fc23)) (g := (mkF m 73 #[.val (.int sp), .val (.long pa), .second, .val (.long pb), .second, .val (.int (1 : Int32)), .val (.int (1 : Int32)), .val (.int ln_15), .val (.int ln_16), .val (.ref ob_17), .val (.ref ob_19), .val (.ref ob20), .unset, .unset] [(.ref ob_17), (.int (0 : Int32)), (.ref ob20)])) rfl rfl (hb hby at_73)
    refine ob_ st22 ?_
    have z22 := W22.size
    have lx24 : own_LE n0 ob20 := own_mkLE (by omega)
    have N22 := Fr.snoc X22 N19 (own_unLE lx24)
    obtain ⟨lc22, X22, N22⟩ := own_lc X22 N22
    have Vw22 : Arv Z h22 ob20 k20 (.array .byte) (1 : Int32) [(.ref ob_17)] .null := Arv.set Ar22 q22 S22 M22 H22 G22 rfl W22 0 rfl (Nat.le_of_ble_eq_true rfl)
    refine n_iload X22 hx hby at_74 rfl ?_
    refine oIc X22 hx hby at_76 (z := (1 : Int32)) rfl ?_
    refine n_icmpYes X22 hx hby at_77 (pc0 := 77) (pc' := 86) rfl (flt (by decide : ¬ ((1 : Int32) < (1 : Int32)))).2.2.2 (by decide) (by decide) ?_
    refine n_iload X22 hx hby at_86 rfl ?_
    refine oIc X22 hx hby at_88 (z := (2 : Int32)) rfl ?_
    refine n_icmpYes X22 hx hby at_89 (pc0 := 89) (pc' := 152) rfl (flt (by decide : ¬ ((2 : Int32) < (1 : Int32)))).2.2.2 (by decide) (by decide) ?_
    refine n_aload X22 hx hby at_152 rfl rfl ?_
    have nx25 : own_NE ob_17 ob20 := own_mkNE (by omega)
    have fc26 : Arv Z h22 ob_17 kb_17 .byte ln_15 (own_fl ln_15 pa) (.int (0 : Int32)) := (((g17_1.keep K19 nin0).ext E20).other W22 (own_unNE nx25))
    have O27 : Old Z n0 h22 := (((O18.keep K19 all0).ext E20).wr W22 (own_unLE lx24))
    refine o_ksc 3 4 111 (Jvm.LawKit.callS X22 hx (y := (⟨s2_, "command", "([[B)[B"⟩ : MethodName)) hown (mw hZ hw 10 rfl) (mw hZ hw 11 rfl) (mw hZ hw 12 rfl) (mw hZ hw 13 rfl) (by decide) (backOf (W := 0) (rm_cmd1 l Z a0 hw [] ob20 k20 ob_17 kb_17 ln_15 (own_fl ln_15 pa) h22 n0 O27 Vw22 fc26 r15_0 (own_fl_len r15_0)) hZ (own_w hw 13 rfl) (own_w hw 12 rfl) (by decide) (by decide)) (g := (mkF m 154 #[.val (.int sp), .val (.long pa), .second, .val (.long pb), .second, .val (.int (1 : Int32)), .val (.int (1 : Int32)), .val (.int ln_15), .val (.int ln_16), .val (.ref ob_17), .val (.ref ob_19), .val (.ref ob20), .unset, .unset] [(.ref ob20)])) rfl (by rw [hml]; rfl) (argsL := [(.ref ob20)]) (rest := []) (lenOf own_pd__28_5b_5bB_29_5bB rfl) rfl own_z (hb hby at_154) (fun _ _ => ⟨rfl, e22, (by decide : 3 + 1 ≤ _), (by decide : 21 + 90 ≤ _)⟩)) fun T28 Lc28 _ X28 hQ28 => ?_
    obtain ⟨ot_28, kk_28, nn_28, cc_28, rfl, M28, K28, g28_0, r28_0, r28_1, r28_2⟩ := hQ28
    have N28 := Fr.app N22 M28
    obtain ⟨lc28, X28, N28⟩ := own_lc X28 N28
    have z28 := K28.1
    have lt_g28_0 : T28.heap.size > ot_28 := g28_0.lt
    obtain ⟨rs0, e_rs0⟩ : ∃ z, z = own_bd ln_15 (own_fl ln_15 pa) ++ ([] : List Value) := ⟨_, rfl⟩
    have hc0 : cc_28 = own_hd (42 : Int32) (1 : Int32) ++ rs0 := by rw [r28_0]; simp only [e_rs0, own_fl_0, List.append_assoc, List.append_nil]
    have hns0 : nn_28.toInt ≤ 1000 := by omega
    refine n_astore X28 hx hby at_157 rfl (l' := #[.val (.int sp), .val (.long pa), .second, .val (.long pb), .second, .val (.int (1 : Int32)), .val (.int (1 : Int32)), .val (.int ln_15), .val (.int ln_16), .val (.ref ob_17), .val (.ref ob_19), .val (.ref ob20), .val (.ref ot_28), .unset]) rfl ?_
    refine n_aload X28 hx hby at_159 rfl rfl ?_
    refine oIc X28 hx hby at_161 (z := (0 : Int32)) rfl ?_
    refine oBi X28 hx hby at_162 (z := (42 : Int32)) rfl ?_
    refine n_iload X28 hx hby at_164 rfl ?_
    have O29 : Old Z n0 T28.heap := (O27.keep K28 all0)
    refine o_ksc 3 4 111 (Jvm.LawKit.callS X28 hx (y := (⟨s1_, "header", "([BICI)I"⟩ : MethodName)) hown (mw hZ hw 23 rfl) (mw hZ hw 24 rfl) (mw hZ hw 2 rfl) (mw hZ hw 25 rfl) (by decide) (backOf (W := 0) (rm_hd42 l Z a0 hw [] ot_28 kk_28 nn_28 cc_28 ([] : List Value) rs0 (0 : Int32) (1 : Int32) T28.heap n0 O29 g28_0 (by decide) (by rw [List.nil_append]; exact hc0) rfl (by have q : ((([] : List Value)).length : Int) = 0 := rfl; omega) (by omega)) hZ (own_w hw 25 rfl) (own_w hw 2 rfl) (by decide) (by decide)) (g := (mkF m 166 #[.val (.int sp), .val (.long pa), .second, .val (.long pb), .second, .val (.int (1 : Int32)), .val (.int (1 : Int32)), .val (.int ln_15), .val (.int ln_16), .val (.ref ob_17), .val (.ref ob_19), .val (.ref ob20), .val (.ref ot_28), .unset] [(.int (1 : Int32)), (.int (42 : Int32)), (.int (0 : Int32)), (.ref ot_28)])) rfl (by rw [hml]; rfl) (argsL := [(.ref ot_28), (.int (0 : Int32)), (.int (42 : Int32)), (.int (1 : Int32))]) (rest := []) (lenOf own_pd__28_5bBICI_29I rfl) rfl own_z (hb hby at_166) (fun _ _ => ⟨rfl, rfl, (by decide : 4 + 0 ≤ _), (by decide : 111 + 0 ≤ _)⟩)) fun T30 Lc30 _ X30 hQ30 => ?_
    obtain ⟨az_30, rfl, M30, K30, r30_0⟩ := hQ30
    have N30 := Fr.app N28 M30
    obtain ⟨lc30, X30, N30⟩ := own_lc X30 N30
    obtain ⟨qa0, e_qa0⟩ : ∃ z, z = own_hd (42 : Int32) (1 : Int32) := ⟨_, rfl⟩
    rw [← e_qa0] at hc0
    have hl_qa0 : (qa0.length : Int) = own_hn (1 : Int32) := by rw [e_qa0]; exact own_hd_len _ (by decide)
    rw [e_rs0] at hc0
    have ha0 : az_30.toInt = (qa0.length : Int) := by omega
    have he0 : nn_28.toInt = (qa0.length : Int) + ((own_hn ln_15 + (ln_15 : Int32).toInt + 2) + (0 : Int)) := by omega
    have hz1 : (0 : Int) ≤ 0 := by decide
    refine n_istore X30 hx hby at_169 (l' := #[.val (.int sp), .val (.long pa), .second, .val (.long pb), .second, .val (.int (1 : Int32)), .val (.int (1 : Int32)), .val (.int ln_15), .val (.int ln_16), .val (.ref ob_17), .val (.ref ob_19), .val (.ref ob20), .val (.ref ot_28), .val (.int az_30)]) rfl ?_
    refine n_iload X30 hx hby at_171 rfl ?_
    refine n_ifNo X30 hx hby at_173 ((if0 _ _).trans (tlt (by decide : (0 : Int32) < (1 : Int32))).2.2.2) ?_
    refine n_aload X30 hx hby at_176 rfl rfl ?_
    refine n_iload X30 hx hby at_178 rfl ?_
    refine n_iload X30 hx hby at_180 rfl ?_
    refine n_lloadN X30 hx hby at_182 rfl ?_
    refine o_ksc 3 4 111 (Jvm.LawKit.callS X30 hx (y := (⟨s1_, "body", "([BIIJ)I"⟩ : MethodName)) hown (mw hZ hw 34 rfl) (mw hZ hw 35 rfl) (mw hZ hw 2 rfl) (mw hZ hw 36 rfl) (by decide) (backOf (W := 0) (rm_body l Z a0 hw [] ot_28 kk_28 nn_28 cc_28 qa0 ([] : List Value) az_30 ln_15 pa T28.heap n0 O29 g28_0 r15_0 hc0 ha0 (own_k0 he0 hz1) hns0) hZ (own_w hw 36 rfl) (own_w hw 2 rfl) (by decide) (by decide)) (g := (mkF m 183 #[.val (.int sp), .val (.long pa), .second, .val (.long pb), .second, .val (.int (1 : Int32)), .val (.int (1 : Int32)), .val (.int ln_15), .val (.int ln_16), .val (.ref ob_17), .val (.ref ob_19), .val (.ref ob20), .val (.ref ot_28), .val (.int az_30)] [(.long pa), (.int ln_15), (.int az_30), (.ref ot_28)])) rfl (by rw [hml]; rfl) (argsL := [(.ref ot_28), (.int az_30), (.int ln_15), (.long pa)]) (rest := []) (lenOf own_pd__28_5bBIIJ_29I rfl) rfl own_z (hb hby at_183) (fun _ _ => ⟨rfl, K30, (by decide : 4 + 0 ≤ _), (by decide : 111 + 0 ≤ _)⟩)) fun T31 Lc31 _ X31 hQ31 => ?_
    obtain ⟨az_31, rfl, M31, K31, r31_0⟩ := hQ31
    have N31 := Fr.app N30 M31
    obtain ⟨lc31, X31, N31⟩ := own_lc X31 N31
    obtain ⟨qa1, e_qa1⟩ : ∃ z, z = qa0 ++ own_bd ln_15 (own_fl ln_15 pa) := ⟨_, rfl⟩
    have hl_qa1 : (qa1.length : Int) = (qa0.length : Int) + (own_hn ln_15 + (ln_15 : Int32).toInt + 2) := by rw [e_qa1]; exact own_lenA (own_bd_len r15_0 (own_fl_len (pp := pa) r15_0))
    have ha1 : az_31.toInt = (qa1.length : Int) := own_ha r31_0 ha0 hl_qa1
    have he1 : nn_28.toInt = (qa1.length : Int) + (0 : Int) := own_he he0 hl_qa1
    refine n_istore X31 hx hby at_186 (l' := #[.val (.int sp), .val (.long pa), .second, .val (.long pb), .second, .val (.int (1 : Int32)), .val (.int (1 : Int32)), .val (.int ln_15), .val (.int ln_16), .val (.ref ob_17), .val (.ref ob_19), .val (.ref ob20), .val (.ref ot_28), .val (.int az_31)]) rfl ?_
    refine n_iload X31 hx hby at_188 rfl ?_
    refine oIc X31 hx hby at_190 (z := (1 : Int32)) rfl ?_
    refine n_icmpYes X31 hx hby at_191 (pc0 := 191) (pc' := 206) rfl (flt (by decide : ¬ ((1 : Int32) < (1 : Int32)))).2.2.2 (by decide) (by decide) ?_
    refine n_iload X31 hx hby at_206 rfl ?_
    refine oIc X31 hx hby at_208 (z := (2 : Int32)) rfl ?_
    refine n_icmpYes X31 hx hby at_209 (pc0 := 209) (pc' := 300) rfl (flt (by decide : ¬ ((2 : Int32) < (1 : Int32)))).2.2.2 (by decide) (by decide) ?_
    refine n_iload X31 hx hby at_300 rfl ?_
    refine n_aload X31 hx hby at_302 rfl rfl ?_
    obtain ⟨cl32, Ar32, q32, S32, M32, H32, G32⟩ := (id g28_0)
    refine ob_ (X31.arraylength hx (by rw [K31]; exact Ar32.1) (State.isArrayOf_alike hZ.alike Ar32.2.1) (g := (mkF m 304 #[.val (.int sp), .val (.long pa), .second, .val (.long pb), .second, .val (.int (1 : Int32)), .val (.int (1 : Int32)), .val (.int ln_15), .val (.int ln_16), .val (.ref ob_17), .val (.ref ob_19), .val (.ref ob20), .val (.ref ot_28), .val (.int az_31)] [(.ref ot_28), (.int az_31)])) rfl rfl (hb hby at_304)) ?_
    rw [len_of S32 M32]
    show own_Go p e below (T31.setTop (mkF m 305 #[.val (.int sp), .val (.long pa), .second, .val (.long pb), .second, .val (.int (1 : Int32)), .val (.int (1 : Int32)), .val (.int ln_15), .val (.int ln_16), .val (.ref ob_17), .val (.ref ob_19), .val (.ref ob20), .val (.ref ot_28), .val (.int az_31)] [(.int nn_28), (.int az_31)])) _
    have hend : az_31 = nn_28 := Int32.toInt_inj.mp (own_hend ha1 he1)
    refine n_icmpNo X31 hx hby at_305 (teq hend).2 ?_
    refine oIc X31 hx hby at_308 (z := (1 : Int32)) rfl ?_
    refine n_goto X31 hx hby at_309 (pc0 := 309) (pc' := 313) rfl (by decide) (by decide) ?_
    have lx34 : own_LE h0.size ob20 := own_mkLE (by omega)
    have K33 : Keep h0 T28.heap [] := ((((((Keep.refl h0 []).trans K17 all0).trans K19 all0).ext E20).wr W22 (Or.inr (own_unLE lx34))).trans K28 all0)
    obtain ⟨fs, hr, hrun, hended, hW, hsame⟩ := X31.leave (v := some (.int (1 : Int32))) (fun h => by rw [Bd.returns] at h; cases h)
    refine ⟨_, _, retN X31 hx (t := .boolean) Bd.returns (by simp) (hb hby at_313) hr, hrun, hended, _, _, rfl, ?_, ⟨_, rfl⟩, hW, hsame.mono (by decide) (by decide)⟩
    show Q_rm_law Z sp pa pb h0 n0 _ T31.heap _
    rw [K31]
    exact ⟨rfl, N31, K33⟩
  · skip
    show own_Go p e below (s₁.setTop (mkF m 5 #[.val (.int sp), .val (.long pa), .second, .val (.long pb), .second, .val (.int (2 : Int32)), .unset, .unset, .unset, .unset, .unset, .unset, .unset, .unset] [])) _
    have hn_N := own_hn_2
    have hn_0 := own_hn_0
    have iv35 : ((0 : Int32) : Int32).toInt = 0 := rfl
    refine n_iload X0 hx hby at_5 rfl ?_
    refine oIc X0 hx hby at_7 (z := (3 : Int32)) rfl ?_
    refine n_icmpYes X0 hx hby at_8 (pc0 := 8) (pc' := 16) rfl (feq (by decide : ¬ ((2 : Int32) = (3 : Int32)))).2 (by decide) (by decide) ?_
    refine n_iload X0 hx hby at_16 rfl ?_
    refine n_istore X0 hx hby at_18 (l' := #[.val (.int sp), .val (.long pa), .second, .val (.long pb), .second, .val (.int (2 : Int32)), .val (.int (2 : Int32)), .unset, .unset, .unset, .unset, .unset, .unset, .unset]) rfl ?_
    refine n_iloadN X0 hx hby at_20 rfl ?_
    refine oIc X0 hx hby at_21 (z := (2 : Int32)) rfl ?_
    refine ob_ (fun _ k => XS.iushr X0.here hx rfl (hb hby at_22) rfl k) ?_
    show own_Go p e below (s₁.setTop (mkF m 23 #[.val (.int sp), .val (.long pa), .second, .val (.long pb), .second, .val (.int (2 : Int32)), .val (.int (2 : Int32)), .unset, .unset, .unset, .unset, .unset, .unset, .unset] [(.int ((sp.toUInt32 >>> ((2 : Int32) &&& 31).toUInt32).toInt32))])) _
    refine oIc X0 hx hby at_23 (z := (3 : Int32)) rfl ?_
    refine ob_ (fun _ k => XS.iand X0.here hx rfl (hb hby at_24) rfl k) ?_
    show own_Go p e below (s₁.setTop (mkF m 25 #[.val (.int sp), .val (.long pa), .second, .val (.long pb), .second, .val (.int (2 : Int32)), .val (.int (2 : Int32)), .unset, .unset, .unset, .unset, .unset, .unset, .unset] [(.int (((sp.toUInt32 >>> ((2 : Int32) &&& 31).toUInt32).toInt32) &&& (3 : Int32)))])) _
    refine o_ksc 3 0 0 (Jvm.LawKit.callS X0 hx (y := (⟨s1_, "lengthOf", "(I)I"⟩ : MethodName)) hown (mw hZ hw 0 rfl) (mw hZ hw 1 rfl) (mw hZ hw 2 rfl) (mw hZ hw 3 rfl) (by decide) (backOf (W := 0) (rm_len l Z a0 hw [] (((sp.toUInt32 >>> ((2 : Int32) &&& 31).toUInt32).toInt32) &&& (3 : Int32)) h0 n0 O0 (own_and3 rfl)) hZ (own_w hw 3 rfl) (own_w hw 2 rfl) (by decide) (by decide)) (g := (mkF m 25 #[.val (.int sp), .val (.long pa), .second, .val (.long pb), .second, .val (.int (2 : Int32)), .val (.int (2 : Int32)), .unset, .unset, .unset, .unset, .unset, .unset, .unset] [(.int (((sp.toUInt32 >>> ((2 : Int32) &&& 31).toUInt32).toInt32) &&& (3 : Int32)))])) rfl (by rw [hml]; rfl) (argsL := [(.int (((sp.toUInt32 >>> ((2 : Int32) &&& 31).toUInt32).toInt32) &&& (3 : Int32)))]) (rest := []) (lenOf own_pd__28I_29I rfl) rfl own_z (hb hby at_25) (fun _ _ => ⟨rfl, e0, (by decide : 0 + 0 ≤ _), (by decide : 0 + 0 ≤ _)⟩)) fun T36 Lc36 _ X36 hQ36 => ?_
    obtain ⟨ln_36, rfl, M36, K36, r36_0⟩ := hQ36
    have N36 := Fr.app N0 M36
    obtain ⟨lc36, X36, N36⟩ := own_lc X36 N36
    have hrla := own_cnt_rng r36_0
    refine n_istore X36 hx hby at_28 (l' := #[.val (.int sp), .val (.long pa), .second, .val (.long pb), .second, .val (.int (2 : Int32)), .val (.int (2 : Int32)), .val (.int ln_36), .unset, .unset, .unset, .unset, .unset, .unset]) rfl ?_
    refine n_iloadN X36 hx hby at_30 rfl ?_
    refine oIc X36 hx hby at_31 (z := (4 : Int32)) rfl ?_
    refine ob_ (fun _ k => XS.iushr X36.here hx rfl (hb hby at_32) rfl k) ?_
    show own_Go p e below (T36.setTop (mkF m 33 #[.val (.int sp), .val (.long pa), .second, .val (.long pb), .second, .val (.int (2 : Int32)), .val (.int (2 : Int32)), .val (.int ln_36), .unset, .unset, .unset, .unset, .unset, .unset] [(.int ((sp.toUInt32 >>> ((4 : Int32) &&& 31).toUInt32).toInt32))])) _
    refine oIc X36 hx hby at_33 (z := (3 : Int32)) rfl ?_
    refine ob_ (fun _ k => XS.iand X36.here hx rfl (hb hby at_34) rfl k) ?_
    show own_Go p e below (T36.setTop (mkF m 35 #[.val (.int sp), .val (.long pa), .second, .val (.long pb), .second, .val (.int (2 : Int32)), .val (.int (2 : Int32)), .val (.int ln_36), .unset, .unset, .unset, .unset, .unset, .unset] [(.int (((sp.toUInt32 >>> ((4 : Int32) &&& 31).toUInt32).toInt32) &&& (3 : Int32)))])) _
    refine o_ksc 3 0 0 (Jvm.LawKit.callS X36 hx (y := (⟨s1_, "lengthOf", "(I)I"⟩ : MethodName)) hown (mw hZ hw 0 rfl) (mw hZ hw 1 rfl) (mw hZ hw 2 rfl) (mw hZ hw 3 rfl) (by decide) (backOf (W := 0) (rm_len l Z a0 hw [] (((sp.toUInt32 >>> ((4 : Int32) &&& 31).toUInt32).toInt32) &&& (3 : Int32)) h0 n0 O0 (own_and3 rfl)) hZ (own_w hw 3 rfl) (own_w hw 2 rfl) (by decide) (by decide)) (g := (mkF m 35 #[.val (.int sp), .val (.long pa), .second, .val (.long pb), .second, .val (.int (2 : Int32)), .val (.int (2 : Int32)), .val (.int ln_36), .unset, .unset, .unset, .unset, .unset, .unset] [(.int (((sp.toUInt32 >>> ((4 : Int32) &&& 31).toUInt32).toInt32) &&& (3 : Int32)))])) rfl (by rw [hml]; rfl) (argsL := [(.int (((sp.toUInt32 >>> ((4 : Int32) &&& 31).toUInt32).toInt32) &&& (3 : Int32)))]) (rest := []) (lenOf own_pd__28I_29I rfl) rfl own_z (hb hby at_35) (fun _ _ => ⟨rfl, K36, (by decide : 0 + 0 ≤ _), (by decide : 0 + 0 ≤ _)⟩)) fun T37 Lc37 _ X37 hQ37 => ?_
    obtain ⟨ln_37, rfl, M37, K37, r37_0⟩ := hQ37
    have N37 := Fr.app N36 M37
    obtain ⟨lc37, X37, N37⟩ := own_lc X37 N37
    have hrlb := own_cnt_rng r37_0
    refine n_istore X37 hx hby at_38 (l' := #[.val (.int sp), .val (.long pa), .second, .val (.long pb), .second, .val (.int (2 : Int32)), .val (.int (2 : Int32)), .val (.int ln_36), .val (.int ln_37), .unset, .unset, .unset, .unset, .unset]) rfl ?_
    refine n_iload X37 hx hby at_40 rfl ?_
    refine n_lloadN X37 hx hby at_42 rfl ?_
    refine o_ksc 3 1 10 (Jvm.LawKit.callS X37 hx (y := (⟨s1_, "fill", "(IJ)[B"⟩ : MethodName)) hown (mw hZ hw 4 rfl) (mw hZ hw 5 rfl) (mw hZ hw 2 rfl) (mw hZ hw 6 rfl) (by decide) (backOf (W := 0) (rm_fill l Z a0 hw [] ln_36 pa h0 n0 O0 r36_0) hZ (own_w hw 6 rfl) (own_w hw 2 rfl) (by decide) (by decide)) (g := (mkF m 43 #[.val (.int sp), .val (.long pa), .second, .val (.long pb), .second, .val (.int (2 : Int32)), .val (.int (2 : Int32)), .val (.int ln_36), .val (.int ln_37), .unset, .unset, .unset, .unset, .unset] [(.long pa), (.int ln_36)])) rfl (by rw [hml]; rfl) (argsL := [(.int ln_36), (.long pa)]) (rest := []) (lenOf own_pd__28IJ_29_5bB rfl) rfl own_z (hb hby at_43) (fun _ _ => ⟨rfl, K37, (by decide : 0 + 1 ≤ _), (by decide : 0 + 10 ≤ _)⟩)) fun T38 Lc38 _ X38 hQ38 => ?_
    obtain ⟨ob_38, kb_38, rfl, M38, K38, g38_0, g38_1, r38_0⟩ := hQ38
    have N38 := Fr.app N37 M38
    obtain ⟨lc38, X38, N38⟩ := own_lc X38 N38
    have z38 := K38.1
    have lt_g38_0 : T38.heap.size > ob_38 := g38_0.lt
    have lt_g38_1 : T38.heap.size > ob_38 := g38_1.lt
    refine n_astore X38 hx hby at_46 rfl (l' := #[.val (.int sp), .val (.long pa), .second, .val (.long pb), .second, .val (.int (2 : Int32)), .val (.int (2 : Int32)), .val (.int ln_36), .val (.int ln_37), .val (.ref ob_38), .unset, .unset, .unset, .unset]) rfl ?_
    refine n_iload X38 hx hby at_48 rfl ?_
    refine n_lloadN X38 hx hby at_50 rfl ?_
    have O39 : Old Z n0 T38.heap := (O0.keep K38 all0)
    refine o_ksc 3 2 20 (Jvm.LawKit.callS X38 hx (y := (⟨s1_, "fill", "(IJ)[B"⟩ : MethodName)) hown (mw hZ hw 4 rfl) (mw hZ hw 5 rfl) (mw hZ hw 2 rfl) (mw hZ hw 6 rfl) (by decide) (backOf (W := 0) (rm_fill l Z a0 hw [] ln_37 pb T38.heap n0 O39 r37_0) hZ (own_w hw 6 rfl) (own_w hw 2 rfl) (by decide) (by decide)) (g := (mkF m 51 #[.val (.int sp), .val (.long pa), .second, .val (.long pb), .second, .val (.int (2 : Int32)), .val (.int (2 : Int32)), .val (.int ln_36), .val (.int ln_37), .val (.ref ob_38), .unset, .unset, .unset, .unset] [(.long pb), (.int ln_37)])) rfl (by rw [hml]; rfl) (argsL := [(.int ln_37), (.long pb)]) (rest := []) (lenOf own_pd__28IJ_29_5bB rfl) rfl own_z (hb hby at_51) (fun _ _ => ⟨rfl, rfl, (by decide : 1 + 1 ≤ _), (by decide : 10 + 10 ≤ _)⟩)) fun T40 Lc40 _ X40 hQ40 => ?_
    obtain ⟨ob_40, kb_40, rfl, M40, K40, g40_0, g40_1, r40_0⟩ := hQ40
    have N40 := Fr.app N38 M40
    obtain ⟨lc40, X40, N40⟩ := own_lc X40 N40
    have z40 := K40.1
    have lt_g40_0 : T40.heap.size > ob_40 := g40_0.lt
    have lt_g40_1 : T40.heap.size > ob_40 := g40_1.lt
    refine n_astore X40 hx hby at_54 rfl (l' := #[.val (.int sp), .val (.long pa), .second, .val (.long pb), .second, .val (.int (2 : Int32)), .val (.int (2 : Int32)), .val (.int ln_36), .val (.int ln_37), .val (.ref ob_38), .val (.ref ob_40), .unset, .unset, .unset]) rfl ?_
    refine n_iload X40 hx hby at_56 rfl ?_
    obtain ⟨T41, h41, k41, X41, e41, E41, A41, Ex41, Ov41, st41⟩ := newRA X40 hx hZ hown (ty := .byte) rfl (own_w hw 8 rfl) (own_w hw 9 rfl) rfl (g := (mkF m 58 #[.val (.int sp), .val (.long pa), .second, .val (.long pb), .second, .val (.int (2 : Int32)), .val (.int (2 : Int32)), .val (.int ln_36), .val (.int ln_37), .val (.ref ob_38), .val (.ref ob_40), .unset, .unset, .unset] [(.int (2 : Int32))])) rfl (hb hby at_58) rfl (by decide) (cap := 2) (by decide) (by decide) (by decide) (by decide) rfl
    obtain ⟨ob41, g41⟩ : ∃ z, z = T40.heap.size := ⟨_, rfl⟩
    rw [← g41] at A41 st41 Ex41
    refine ob_ st41 ?_
    have z41 := E41.1
    have Vw41 : Arv Z h41 ob41 k41 (.array .byte) (2 : Int32) [] .null := Arv.new A41 (by decide)
    have lt41 : h41.size > ob41 := Vw41.lt
    refine n_astore X41 hx hby at_61 rfl (l' := #[.val (.int sp), .val (.long pa), .second, .val (.long pb), .second, .val (.int (2 : Int32)), .val (.int (2 : Int32)), .val (.int ln_36), .val (.int ln_37), .val (.ref ob_38), .val (.ref ob_40), .val (.ref ob41), .unset, .unset]) rfl ?_
    refine n_iload X41 hx hby at_63 rfl ?_
    refine n_ifNo X41 hx hby at_65 ((if0 _ _).trans (tlt (by decide : (0 : Int32) < (2 : Int32))).2.2.2) ?_
    refine n_aload X41 hx hby at_68 rfl rfl ?_
    refine oIc X41 hx hby at_70 (z := (0 : Int32)) rfl ?_
    refine n_aload X41 hx hby at_71 rfl rfl ?_
    have Vw42 : Arv Z h41 ob41 k41 (.array .byte) (2 : Int32) [.null] .null := Vw41.pad (pad_rep [] .null 1)
    obtain ⟨cl43, Ar43, q43, S43, M43, H43, G43⟩ := (id Vw42)
    have hin43 : ¬ ((0 : Int32) < 0 ∨ cl43.slots.size ≤ ((0 : Int32)).toNatClampNeg) := inb_of S43 ⟨by decide, by decide⟩
    have fc44 : Exa Z h41 ob_38 "[B" := ((g38_0.keep K40).ext E41)
    obtain ⟨T43, h43, X43, e43, W43, st43⟩ := stR X41 hx hZ e41 Ar43 (j := (0 : Int32)) hin43 rfl (Sto.ofVA Ar43 q43 Ov41 (Ins.self fc44)) (g := (mkF m 73 #[.val (.int sp), .val (.long pa), .second, .val (.long pb), .second, .val (.int (2 : Int32)), .val (.int (2 : Int32)), .val (.int ln_36), .val (.int ln_37), .val (.ref ob_38), .val (.ref ob_40), .val (.ref ob41), .unset, .unset] [(.ref ob_38), (.int (0 : Int32)), (.ref ob41)])) rfl rfl (hb hby at_73)
    refine ob_ st43 ?_
    have z43 := W43.size
    have lx45 : own_LE n0 ob41 := own_mkLE (by omega)
    have N43 := Fr.snoc X43 N40 (own_unLE lx45)
    obtain ⟨lc43, X43, N43⟩ := own_lc X43 N43
    have Vw43 : Arv Z h43 ob41 k41 (.array .byte) (2 : Int32) [(.ref ob_38)] .null := Arv.set Ar43 q43 S43 M43 H43 G43 rfl W43 0 rfl (Nat.le_of_ble_eq_true rfl)
    refine n_iload X43 hx hby at_74 rfl ?_
    refine oIc X43 hx hby at_76 (z := (1 : Int32)) rfl ?_
    refine n_icmpNo X43 hx hby at_77 (tlt (by decide : (1 : Int32) < (2 : Int32))).2.2.2 ?_
    refine n_aload X43 hx hby at_80 rfl rfl ?_
    refine oIc X43 hx hby at_82 (z := (1 : Int32)) rfl ?_
    refine n_aload X43 hx hby at_83 rfl rfl ?_
    have Vw46 : Arv Z h43 ob41 k41 (.array .byte) (2 : Int32) [(.ref ob_38), .null] .null := Vw43.pad (pad_rep [(.ref ob_38)] .null 1)
    obtain ⟨cl47, Ar47, q47, S47, M47, H47, G47⟩ := (id Vw46)
    have hin47 : ¬ ((1 : Int32) < 0 ∨ cl47.slots.size ≤ ((1 : Int32)).toNatClampNeg) := inb_of S47 ⟨by decide, by decide⟩
    have fc48 : Exa Z h43 ob_40 "[B" := ((g40_0.ext E41).wr W43)
    obtain ⟨T47, h47, X47, e47, W47, st47⟩ := stR X43 hx hZ e43 Ar47 (j := (1 : Int32)) hin47 rfl (Sto.ofVA Ar47 q47 Ov41 (Ins.self fc48)) (g := (mkF m 85 #[.val (.int sp), .val (.long pa), .second, .val (.long pb), .second, .val (.int (2 : Int32)), .val (.int (2 : Int32)), .val (.int ln_36), .val (.int ln_37), .val (.ref ob_38), .val (.ref ob_40), .val (.ref ob41), .unset, .unset] [(.ref ob_40), (.int (1 : Int32)), (.ref ob41)])) rfl rfl (hb hby at_85)
    refine ob_ st47 ?_
    have z47 := W47.size
    have N47 := Fr.snoc X47 N43 (own_unLE lx45)
    obtain ⟨lc47, X47, N47⟩ := own_lc X47 N47
    have Vw47 : Arv Z h47 ob41 k41 (.array .byte) (2 : Int32) [(.ref ob_38), (.ref ob_40)] .null := Arv.set Ar47 q47 S47 M47 H47 G47 rfl W47 1 rfl (Nat.le_of_ble_eq_true rfl)
    refine n_iload X47 hx hby at_86 rfl ?_
    refine oIc X47 hx hby at_88 (z := (2 : Int32)) rfl ?_
    refine n_icmpYes X47 hx hby at_89 (pc0 := 89) (pc' := 152) rfl (flt (by decide : ¬ ((2 : Int32) < (2 : Int32)))).2.2.2 (by decide) (by decide) ?_
    refine n_aload X47 hx hby at_152 rfl rfl ?_
    have nx49 : own_NE ob_38 ob41 := own_mkNE (by omega)
    have fc50 : Arv Z h47 ob_38 kb_38 .byte ln_36 (own_fl ln_36 pa) (.int (0 : Int32)) := ((((g38_1.keep K40 nin0).ext E41).other W43 (own_unNE nx49)).other W47 (own_unNE nx49))
    have nx51 : own_NE ob_40 ob41 := own_mkNE (by omega)
    have fc52 : Arv Z h47 ob_40 kb_40 .byte ln_37 (own_fl ln_37 pb) (.int (0 : Int32)) := (((g40_1.ext E41).other W43 (own_unNE nx51)).other W47 (own_unNE nx51))
    have O53 : Old Z n0 h47 := ((((O39.keep K40 all0).ext E41).wr W43 (own_unLE lx45)).wr W47 (own_unLE lx45))
    refine o_ksc 3 4 112 (Jvm.LawKit.callS X47 hx (y := (⟨s2_, "command", "([[B)[B"⟩ : MethodName)) hown (mw hZ hw 10 rfl) (mw hZ hw 11 rfl) (mw hZ hw 12 rfl) (mw hZ hw 13 rfl) (by decide) (backOf (W := 0) (rm_cmd2 l Z a0 hw [] ob41 k41 ob_38 kb_38 ln_36 (own_fl ln_36 pa) ob_40 kb_40 ln_37 (own_fl ln_37 pb) h47 n0 O53 Vw47 fc50 fc52 r36_0 (own_fl_len r36_0) r37_0 (own_fl_len r37_0)) hZ (own_w hw 13 rfl) (own_w hw 12 rfl) (by decide) (by decide)) (g := (mkF m 154 #[.val (.int sp), .val (.long pa), .second, .val (.long pb), .second, .val (.int (2 : Int32)), .val (.int (2 : Int32)), .val (.int ln_36), .val (.int ln_37), .val (.ref ob_38), .val (.ref ob_40), .val (.ref ob41), .unset, .unset] [(.ref ob41)])) rfl (by rw [hml]; rfl) (argsL := [(.ref ob41)]) (rest := []) (lenOf own_pd__28_5b_5bB_29_5bB rfl) rfl own_z (hb hby at_154) (fun _ _ => ⟨rfl, e47, (by decide : 3 + 1 ≤ _), (by decide : 22 + 90 ≤ _)⟩)) fun T54 Lc54 _ X54 hQ54 => ?_
    obtain ⟨ot_54, kk_54, nn_54, cc_54, rfl, M54, K54, g54_0, r54_0, r54_1, r54_2⟩ := hQ54
    have N54 := Fr.app N47 M54
    obtain ⟨lc54, X54, N54⟩ := own_lc X54 N54
    have z54 := K54.1
    have lt_g54_0 : T54.heap.size > ot_54 := g54_0.lt
    obtain ⟨rs1, e_rs1⟩ : ∃ z, z = own_bd ln_37 (own_fl ln_37 pb) ++ ([] : List Value) := ⟨_, rfl⟩
    obtain ⟨rs0, e_rs0⟩ : ∃ z, z = own_bd ln_36 (own_fl ln_36 pa) ++ rs1 := ⟨_, rfl⟩
    have hc0 : cc_54 = own_hd (42 : Int32) (2 : Int32) ++ rs0 := by rw [r54_0]; simp only [e_rs0, e_rs1, own_fl_0, List.append_assoc, List.append_nil]
    have hns0 : nn_54.toInt ≤ 1000 := by omega
    refine n_astore X54 hx hby at_157 rfl (l' := #[.val (.int sp), .val (.long pa), .second, .val (.long pb), .second, .val (.int (2 : Int32)), .val (.int (2 : Int32)), .val (.int ln_36), .val (.int ln_37), .val (.ref ob_38), .val (.ref ob_40), .val (.ref ob41), .val (.ref ot_54), .unset]) rfl ?_
    refine n_aload X54 hx hby at_159 rfl rfl ?_
    refine oIc X54 hx hby at_161 (z := (0 : Int32)) rfl ?_
    refine oBi X54 hx hby at_162 (z := (42 : Int32)) rfl ?_
    refine n_iload X54 hx hby at_164 rfl ?_
    have O55 : Old Z n0 T54.heap := (O53.keep K54 all0)
    refine o_ksc 3 4 112 (Jvm.LawKit.callS X54 hx (y := (⟨s1_, "header", "([BICI)I"⟩ : MethodName)) hown (mw hZ hw 23 rfl) (mw hZ hw 24 rfl) (mw hZ hw 2 rfl) (mw hZ hw 25 rfl) (by decide) (backOf (W := 0) (rm_hd42 l Z a0 hw [] ot_54 kk_54 nn_54 cc_54 ([] : List Value) rs0 (0 : Int32) (2 : Int32) T54.heap n0 O55 g54_0 (by decide) (by rw [List.nil_append]; exact hc0) rfl (by have q : ((([] : List Value)).length : Int) = 0 := rfl; omega) (by omega)) hZ (own_w hw 25 rfl) (own_w hw 2 rfl) (by decide) (by decide)) (g := (mkF m 166 #[.val (.int sp), .val (.long pa), .second, .val (.long pb), .second, .val (.int (2 : Int32)), .val (.int (2 : Int32)), .val (.int ln_36), .val (.int ln_37), .val (.ref ob_38), .val (.ref ob_40), .val (.ref ob41), .val (.ref ot_54), .unset] [(.int (2 : Int32)), (.int (42 : Int32)), (.int (0 : Int32)), (.ref ot_54)])) rfl (by rw [hml]; rfl) (argsL := [(.ref ot_54), (.int (0 : Int32)), (.int (42 : Int32)), (.int (2 : Int32))]) (rest := []) (lenOf own_pd__28_5bBICI_29I rfl) rfl own_z (hb hby at_166) (fun _ _ => ⟨rfl, rfl, (by decide : 4 + 0 ≤ _), (by decide : 112 + 0 ≤ _)⟩)) fun T56 Lc56 _ X56 hQ56 => ?_
    obtain ⟨az_56, rfl, M56, K56, r56_0⟩ := hQ56
    have N56 := Fr.app N54 M56
    obtain ⟨lc56, X56, N56⟩ := own_lc X56 N56
    obtain ⟨qa0, e_qa0⟩ : ∃ z, z = own_hd (42 : Int32) (2 : Int32) := ⟨_, rfl⟩
    rw [← e_qa0] at hc0
    have hl_qa0 : (qa0.length : Int) = own_hn (2 : Int32) := by rw [e_qa0]; exact own_hd_len _ (by decide)
    rw [e_rs0] at hc0
    have ha0 : az_56.toInt = (qa0.length : Int) := by omega
    have he0 : nn_54.toInt = (qa0.length : Int) + ((own_hn ln_36 + (ln_36 : Int32).toInt + 2) + ((own_hn ln_37 + (ln_37 : Int32).toInt + 2) + (0 : Int))) := by omega
    have hz2 : (0 : Int) ≤ 0 := by decide
    have hz1 : 0 ≤ ((own_hn ln_37 + (ln_37 : Int32).toInt + 2) + (0 : Int)) := own_nn hrlb ⟨hrlb.1, hrlb.2.1⟩ hz2
    refine n_istore X56 hx hby at_169 (l' := #[.val (.int sp), .val (.long pa), .second, .val (.long pb), .second, .val (.int (2 : Int32)), .val (.int (2 : Int32)), .val (.int ln_36), .val (.int ln_37), .val (.ref ob_38), .val (.ref ob_40), .val (.ref ob41), .val (.ref ot_54), .val (.int az_56)]) rfl ?_
    refine n_iload X56 hx hby at_171 rfl ?_
    refine n_ifNo X56 hx hby at_173 ((if0 _ _).trans (tlt (by decide : (0 : Int32) < (2 : Int32))).2.2.2) ?_
    refine n_aload X56 hx hby at_176 rfl rfl ?_
    refine n_iload X56 hx hby at_178 rfl ?_
    refine n_iload X56 hx hby at_180 rfl ?_
    refine n_lloadN X56 hx hby at_182 rfl ?_
    refine o_ksc 3 4 112 (Jvm.LawKit.callS X56 hx (y := (⟨s1_, "body", "([BIIJ)I"⟩ : MethodName)) hown (mw hZ hw 34 rfl) (mw hZ hw 35 rfl) (mw hZ hw 2 rfl) (mw hZ hw 36 rfl) (by decide) (backOf (W := 0) (rm_body l Z a0 hw [] ot_54 kk_54 nn_54 cc_54 qa0 rs1 az_56 ln_36 pa T54.heap n0 O55 g54_0 r36_0 hc0 ha0 (own_k0 he0 hz1) hns0) hZ (own_w hw 36 rfl) (own_w hw 2 rfl) (by decide) (by decide)) (g := (mkF m 183 #[.val (.int sp), .val (.long pa), .second, .val (.long pb), .second, .val (.int (2 : Int32)), .val (.int (2 : Int32)), .val (.int ln_36), .val (.int ln_37), .val (.ref ob_38), .val (.ref ob_40), .val (.ref ob41), .val (.ref ot_54), .val (.int az_56)] [(.long pa), (.int ln_36), (.int az_56), (.ref ot_54)])) rfl (by rw [hml]; rfl) (argsL := [(.ref ot_54), (.int az_56), (.int ln_36), (.long pa)]) (rest := []) (lenOf own_pd__28_5bBIIJ_29I rfl) rfl own_z (hb hby at_183) (fun _ _ => ⟨rfl, K56, (by decide : 4 + 0 ≤ _), (by decide : 112 + 0 ≤ _)⟩)) fun T57 Lc57 _ X57 hQ57 => ?_
    obtain ⟨az_57, rfl, M57, K57, r57_0⟩ := hQ57
    have N57 := Fr.app N56 M57
    obtain ⟨lc57, X57, N57⟩ := own_lc X57 N57
    obtain ⟨qa1, e_qa1⟩ : ∃ z, z = qa0 ++ own_bd ln_36 (own_fl ln_36 pa) := ⟨_, rfl⟩
    have hc1 : cc_54 = qa1 ++ (own_bd ln_37 (own_fl ln_37 pb) ++ ([] : List Value)) := by rw [hc0, e_qa1, List.append_assoc, e_rs1]
    have hl_qa1 : (qa1.length : Int) = (qa0.length : Int) + (own_hn ln_36 + (ln_36 : Int32).toInt + 2) := by rw [e_qa1]; exact own_lenA (own_bd_len r36_0 (own_fl_len (pp := pa) r36_0))
    have ha1 : az_57.toInt = (qa1.length : Int) := own_ha r57_0 ha0 hl_qa1
    have he1 : nn_54.toInt = (qa1.length : Int) + ((own_hn ln_37 + (ln_37 : Int32).toInt + 2) + (0 : Int)) := own_he he0 hl_qa1
    refine n_istore X57 hx hby at_186 (l' := #[.val (.int sp), .val (.long pa), .second, .val (.long pb), .second, .val (.int (2 : Int32)), .val (.int (2 : Int32)), .val (.int ln_36), .val (.int ln_37), .val (.ref ob_38), .val (.ref ob_40), .val (.ref ob41), .val (.ref ot_54), .val (.int az_57)]) rfl ?_
    refine n_iload X57 hx hby at_188 rfl ?_
    refine oIc X57 hx hby at_190 (z := (1 : Int32)) rfl ?_
    refine n_icmpNo X57 hx hby at_191 (tlt (by decide : (1 : Int32) < (2 : Int32))).2.2.2 ?_
    refine n_aload X57 hx hby at_194 rfl rfl ?_
    refine n_iload X57 hx hby at_196 rfl ?_
    refine n_iload X57 hx hby at_198 rfl ?_
    refine n_lloadN X57 hx hby at_200 rfl ?_
    refine o_ksc 3 4 112 (Jvm.LawKit.callS X57 hx (y := (⟨s1_, "body", "([BIIJ)I"⟩ : MethodName)) hown (mw hZ hw 34 rfl) (mw hZ hw 35 rfl) (mw hZ hw 2 rfl) (mw hZ hw 36 rfl) (by decide) (backOf (W := 0) (rm_body l Z a0 hw [] ot_54 kk_54 nn_54 cc_54 qa1 ([] : List Value) az_57 ln_37 pb T54.heap n0 O55 g54_0 r37_0 hc1 ha1 (own_k0 he1 hz2) hns0) hZ (own_w hw 36 rfl) (own_w hw 2 rfl) (by decide) (by decide)) (g := (mkF m 201 #[.val (.int sp), .val (.long pa), .second, .val (.long pb), .second, .val (.int (2 : Int32)), .val (.int (2 : Int32)), .val (.int ln_36), .val (.int ln_37), .val (.ref ob_38), .val (.ref ob_40), .val (.ref ob41), .val (.ref ot_54), .val (.int az_57)] [(.long pb), (.int ln_37), (.int az_57), (.ref ot_54)])) rfl (by rw [hml]; rfl) (argsL := [(.ref ot_54), (.int az_57), (.int ln_37), (.long pb)]) (rest := []) (lenOf own_pd__28_5bBIIJ_29I rfl) rfl own_z (hb hby at_201) (fun _ _ => ⟨rfl, K57, (by decide : 4 + 0 ≤ _), (by decide : 112 + 0 ≤ _)⟩)) fun T58 Lc58 _ X58 hQ58 => ?_
    obtain ⟨az_58, rfl, M58, K58, r58_0⟩ := hQ58
    have N58 := Fr.app N57 M58
    obtain ⟨lc58, X58, N58⟩ := own_lc X58 N58
    obtain ⟨qa2, e_qa2⟩ : ∃ z, z = qa1 ++ own_bd ln_37 (own_fl ln_37 pb) := ⟨_, rfl⟩
    have hl_qa2 : (qa2.length : Int) = (qa1.length : Int) + (own_hn ln_37 + (ln_37 : Int32).toInt + 2) := by rw [e_qa2]; exact own_lenA (own_bd_len r37_0 (own_fl_len (pp := pb) r37_0))
    have ha2 : az_58.toInt = (qa2.length : Int) := own_ha r58_0 ha1 hl_qa2
    have he2 : nn_54.toInt = (qa2.length : Int) + (0 : Int) := own_he he1 hl_qa2
    refine n_istore X58 hx hby at_204 (l' := #[.val (.int sp), .val (.long pa), .second, .val (.long pb), .second, .val (.int (2 : Int32)), .val (.int (2 : Int32)), .val (.int ln_36), .val (.int ln_37), .val (.ref ob_38), .val (.ref ob_40), .val (.ref ob41), .val (.ref ot_54), .val (.int az_58)]) rfl ?_
    refine n_iload X58 hx hby at_206 rfl ?_
    refine oIc X58 hx hby at_208 (z := (2 : Int32)) rfl ?_
    refine n_icmpYes X58 hx hby at_209 (pc0 := 209) (pc' := 300) rfl (flt (by decide : ¬ ((2 : Int32) < (2 : Int32)))).2.2.2 (by decide) (by decide) ?_
    refine n_iload X58 hx hby at_300 rfl ?_
    refine n_aload X58 hx hby at_302 rfl rfl ?_
    obtain ⟨cl59, Ar59, q59, S59, M59, H59, G59⟩ := (id g54_0)
    refine ob_ (X58.arraylength hx (by rw [K58]; exact Ar59.1) (State.isArrayOf_alike hZ.alike Ar59.2.1) (g := (mkF m 304 #[.val (.int sp), .val (.long pa), .second, .val (.long pb), .second, .val (.int (2 : Int32)), .val (.int (2 : Int32)), .val (.int ln_36), .val (.int ln_37), .val (.ref ob_38), .val (.ref ob_40), .val (.ref ob41), .val (.ref ot_54), .val (.int az_58)] [(.ref ot_54), (.int az_58)])) rfl rfl (hb hby at_304)) ?_
    rw [len_of S59 M59]
    show own_Go p e below (T58.setTop (mkF m 305 #[.val (.int sp), .val (.long pa), .second, .val (.long pb), .second, .val (.int (2 : Int32)), .val (.int (2 : Int32)), .val (.int ln_36), .val (.int ln_37), .val (.ref ob_38), .val (.ref ob_40), .val (.ref ob41), .val (.ref ot_54), .val (.int az_58)] [(.int nn_54), (.int az_58)])) _
    have hend : az_58 = nn_54 := Int32.toInt_inj.mp (own_hend ha2 he2)
    refine n_icmpNo X58 hx hby at_305 (teq hend).2 ?_
    refine oIc X58 hx hby at_308 (z := (1 : Int32)) rfl ?_
    refine n_goto X58 hx hby at_309 (pc0 := 309) (pc' := 313) rfl (by decide) (by decide) ?_
    have lx61 : own_LE h0.size ob41 := own_mkLE (by omega)
    have K60 : Keep h0 T54.heap [] := (((((((Keep.refl h0 []).trans K38 all0).trans K40 all0).ext E41).wr W43 (Or.inr (own_unLE lx61))).wr W47 (Or.inr (own_unLE lx61))).trans K54 all0)
    obtain ⟨fs, hr, hrun, hended, hW, hsame⟩ := X58.leave (v := some (.int (1 : Int32))) (fun h => by rw [Bd.returns] at h; cases h)
    refine ⟨_, _, retN X58 hx (t := .boolean) Bd.returns (by simp) (hb hby at_313) hr, hrun, hended, _, _, rfl, ?_, ⟨_, rfl⟩, hW, hsame.mono (by decide) (by decide)⟩
    show Q_rm_law Z sp pa pb h0 n0 _ T58.heap _
    rw [K58]
    exact ⟨rfl, N58, K60⟩
  · skip
    show own_Go p e below (s₁.setTop (mkF m 5 #[.val (.int sp), .val (.long pa), .second, .val (.long pb), .second, .val (.int (3 : Int32)), .unset, .unset, .unset, .unset, .unset, .unset, .unset, .unset] [])) _
    have hn_N := own_hn_10
    have hn_0 := own_hn_0
    have iv62 : ((0 : Int32) : Int32).toInt = 0 := rfl
    refine n_iload X0 hx hby at_5 rfl ?_
    refine oIc X0 hx hby at_7 (z := (3 : Int32)) rfl ?_
    refine n_icmpNo X0 hx hby at_8 (teq (by decide : (3 : Int32) = (3 : Int32))).2 ?_
    refine oBi X0 hx hby at_11 (z := (10 : Int32)) rfl ?_
    refine n_goto X0 hx hby at_13 (pc0 := 13) (pc' := 18) rfl (by decide) (by decide) ?_
    refine n_istore X0 hx hby at_18 (l' := #[.val (.int sp), .val (.long pa), .second, .val (.long pb), .second, .val (.int (3 : Int32)), .val (.int (10 : Int32)), .unset, .unset, .unset, .unset, .unset, .unset, .unset]) rfl ?_
    refine n_iloadN X0 hx hby at_20 rfl ?_
    refine oIc X0 hx hby at_21 (z := (2 : Int32)) rfl ?_
    refine ob_ (fun _ k => XS.iushr X0.here hx rfl (hb hby at_22) rfl k) ?_
    show own_Go p e below (s₁.setTop (mkF m 23 #[.val (.int sp), .val (.long pa), .second, .val (.long pb), .second, .val (.int (3 : Int32)), .val (.int (10 : Int32)), .unset, .unset, .unset, .unset, .unset, .unset, .unset] [(.int ((sp.toUInt32 >>> ((2 : Int32) &&& 31).toUInt32).toInt32))])) _
    refine oIc X0 hx hby at_23 (z := (3 : Int32)) rfl ?_
    refine ob_ (fun _ k => XS.iand X0.here hx rfl (hb hby at_24) rfl k) ?_
    show own_Go p e below (s₁.setTop (mkF m 25 #[.val (.int sp), .val (.long pa), .second, .val (.long pb), .second, .val (.int (3 : Int32)), .val (.int (10 : Int32)), .unset, .unset, .unset, .unset, .unset, .unset, .unset] [(.int (((sp.toUInt32 >>> ((2 : Int32) &&& 31).toUInt32).toInt32) &&& (3 : Int32)))])) _
    refine o_ksc 3 0 0 (Jvm.LawKit.callS X0 hx (y := (⟨s1_, "lengthOf", "(I)I"⟩ : MethodName)) hown (mw hZ hw 0 rfl) (mw hZ hw 1 rfl) (mw hZ hw 2 rfl) (mw hZ hw 3 rfl) (by decide) (backOf (W := 0) (rm_len l Z a0 hw [] (((sp.toUInt32 >>> ((2 : Int32) &&& 31).toUInt32).toInt32) &&& (3 : Int32)) h0 n0 O0 (own_and3 rfl)) hZ (own_w hw 3 rfl) (own_w hw 2 rfl) (by decide) (by decide)) (g := (mkF m 25 #[.val (.int sp), .val (.long pa), .second, .val (.long pb), .second, .val (.int (3 : Int32)), .val (.int (10 : Int32)), .unset, .unset, .unset, .unset, .unset, .unset, .unset] [(.int (((sp.toUInt32 >>> ((2 : Int32) &&& 31).toUInt32).toInt32) &&& (3 : Int32)))])) rfl (by rw [hml]; rfl) (argsL := [(.int (((sp.toUInt32 >>> ((2 : Int32) &&& 31).toUInt32).toInt32) &&& (3 : Int32)))]) (rest := []) (lenOf own_pd__28I_29I rfl) rfl own_z (hb hby at_25) (fun _ _ => ⟨rfl, e0, (by decide : 0 + 0 ≤ _), (by decide : 0 + 0 ≤ _)⟩)) fun T63 Lc63 _ X63 hQ63 => ?_
    obtain ⟨ln_63, rfl, M63, K63, r63_0⟩ := hQ63
    have N63 := Fr.app N0 M63
    obtain ⟨lc63, X63, N63⟩ := own_lc X63 N63
    have hrla := own_cnt_rng r63_0
    refine n_istore X63 hx hby at_28 (l' := #[.val (.int sp), .val (.long pa), .second, .val (.long pb), .second, .val (.int (3 : Int32)), .val (.int (10 : Int32)), .val (.int ln_63), .unset, .unset, .unset, .unset, .unset, .unset]) rfl ?_
    refine n_iloadN X63 hx hby at_30 rfl ?_
    refine oIc X63 hx hby at_31 (z := (4 : Int32)) rfl ?_
    refine ob_ (fun _ k => XS.iushr X63.here hx rfl (hb hby at_32) rfl k) ?_
    show own_Go p e below (T63.setTop (mkF m 33 #[.val (.int sp), .val (.long pa), .second, .val (.long pb), .second, .val (.int (3 : Int32)), .val (.int (10 : Int32)), .val (.int ln_63), .unset, .unset, .unset, .unset, .unset, .unset] [(.int ((sp.toUInt32 >>> ((4 : Int32) &&& 31).toUInt32).toInt32))])) _
    refine oIc X63 hx hby at_33 (z := (3 : Int32)) rfl ?_
    refine ob_ (fun _ k => XS.iand X63.here hx rfl (hb hby at_34) rfl k) ?_
    show own_Go p e below (T63.setTop (mkF m 35 #[.val (.int sp), .val (.long pa), .second, .val (.long pb), .second, .val (.int (3 : Int32)), .val (.int (10 : Int32)), .val (.int ln_63), .unset, .unset, .unset, .unset, .unset, .unset] [(.int (((sp.toUInt32 >>> ((4 : Int32) &&& 31).toUInt32).toInt32) &&& (3 : Int32)))])) _
    refine o_ksc 3 0 0 (Jvm.LawKit.callS X63 hx (y := (⟨s1_, "lengthOf", "(I)I"⟩ : MethodName)) hown (mw hZ hw 0 rfl) (mw hZ hw 1 rfl) (mw hZ hw 2 rfl) (mw hZ hw 3 rfl) (by decide) (backOf (W := 0) (rm_len l Z a0 hw [] (((sp.toUInt32 >>> ((4 : Int32) &&& 31).toUInt32).toInt32) &&& (3 : Int32)) h0 n0 O0 (own_and3 rfl)) hZ (own_w hw 3 rfl) (own_w hw 2 rfl) (by decide) (by decide)) (g := (mkF m 35 #[.val (.int sp), .val (.long pa), .second, .val (.long pb), .second, .val (.int (3 : Int32)), .val (.int (10 : Int32)), .val (.int ln_63), .unset, .unset, .unset, .unset, .unset, .unset] [(.int (((sp.toUInt32 >>> ((4 : Int32) &&& 31).toUInt32).toInt32) &&& (3 : Int32)))])) rfl (by rw [hml]; rfl) (argsL := [(.int (((sp.toUInt32 >>> ((4 : Int32) &&& 31).toUInt32).toInt32) &&& (3 : Int32)))]) (rest := []) (lenOf own_pd__28I_29I rfl) rfl own_z (hb hby at_35) (fun _ _ => ⟨rfl, K63, (by decide : 0 + 0 ≤ _), (by decide : 0 + 0 ≤ _)⟩)) fun T64 Lc64 _ X64 hQ64 => ?_
    obtain ⟨ln_64, rfl, M64, K64, r64_0⟩ := hQ64
    have N64 := Fr.app N63 M64
    obtain ⟨lc64, X64, N64⟩ := own_lc X64 N64
    have hrlb := own_cnt_rng r64_0
    refine n_istore X64 hx hby at_38 (l' := #[.val (.int sp), .val (.long pa), .second, .val (.long pb), .second, .val (.int (3 : Int32)), .val (.int (10 : Int32)), .val (.int ln_63), .val (.int ln_64), .unset, .unset, .unset, .unset, .unset]) rfl ?_
    refine n_iload X64 hx hby at_40 rfl ?_
    refine n_lloadN X64 hx hby at_42 rfl ?_
    refine o_ksc 3 1 10 (Jvm.LawKit.callS X64 hx (y := (⟨s1_, "fill", "(IJ)[B"⟩ : MethodName)) hown (mw hZ hw 4 rfl) (mw hZ hw 5 rfl) (mw hZ hw 2 rfl) (mw hZ hw 6 rfl) (by decide) (backOf (W := 0) (rm_fill l Z a0 hw [] ln_63 pa h0 n0 O0 r63_0) hZ (own_w hw 6 rfl) (own_w hw 2 rfl) (by decide) (by decide)) (g := (mkF m 43 #[.val (.int sp), .val (.long pa), .second, .val (.long pb), .second, .val (.int (3 : Int32)), .val (.int (10 : Int32)), .val (.int ln_63), .val (.int ln_64), .unset, .unset, .unset, .unset, .unset] [(.long pa), (.int ln_63)])) rfl (by rw [hml]; rfl) (argsL := [(.int ln_63), (.long pa)]) (rest := []) (lenOf own_pd__28IJ_29_5bB rfl) rfl own_z (hb hby at_43) (fun _ _ => ⟨rfl, K64, (by decide : 0 + 1 ≤ _), (by decide : 0 + 10 ≤ _)⟩)) fun T65 Lc65 _ X65 hQ65 => ?_
    obtain ⟨ob_65, kb_65, rfl, M65, K65, g65_0, g65_1, r65_0⟩ := hQ65
    have N65 := Fr.app N64 M65
    obtain ⟨lc65, X65, N65⟩ := own_lc X65 N65
    have z65 := K65.1
    have lt_g65_0 : T65.heap.size > ob_65 := g65_0.lt
    have lt_g65_1 : T65.heap.size > ob_65 := g65_1.lt
    refine n_astore X65 hx hby at_46 rfl (l' := #[.val (.int sp), .val (.long pa), .second, .val (.long pb), .second, .val (.int (3 : Int32)), .val (.int (10 : Int32)), .val (.int ln_63), .val (.int ln_64), .val (.ref ob_65), .unset, .unset, .unset, .unset]) rfl ?_
    refine n_iload X65 hx hby at_48 rfl ?_
    refine n_lloadN X65 hx hby at_50 rfl ?_
    have O66 : Old Z n0 T65.heap := (O0.keep K65 all0)
    refine o_ksc 3 2 20 (Jvm.LawKit.callS X65 hx (y := (⟨s1_, "fill", "(IJ)[B"⟩ : MethodName)) hown (mw hZ hw 4 rfl) (mw hZ hw 5 rfl) (mw hZ hw 2 rfl) (mw hZ hw 6 rfl) (by decide) (backOf (W := 0) (rm_fill l Z a0 hw [] ln_64 pb T65.heap n0 O66 r64_0) hZ (own_w hw 6 rfl) (own_w hw 2 rfl) (by decide) (by decide)) (g := (mkF m 51 #[.val (.int sp), .val (.long pa), .second, .val (.long pb), .second, .val (.int (3 : Int32)), .val (.int (10 : Int32)), .val (.int ln_63), .val (.int ln_64), .val (.ref ob_65), .unset, .unset, .unset, .unset] [(.long pb), (.int ln_64)])) rfl (by rw [hml]; rfl) (argsL := [(.int ln_64), (.long pb)]) (rest := []) (lenOf own_pd__28IJ_29_5bB rfl) rfl own_z (hb hby at_51) (fun _ _ => ⟨rfl, rfl, (by decide : 1 + 1 ≤ _), (by decide : 10 + 10 ≤ _)⟩)) fun T67 Lc67 _ X67 hQ67 => ?_
    obtain ⟨ob_67, kb_67, rfl, M67, K67, g67_0, g67_1, r67_0⟩ := hQ67
    have N67 := Fr.app N65 M67
    obtain ⟨lc67, X67, N67⟩ := own_lc X67 N67
    have z67 := K67.1
    have lt_g67_0 : T67.heap.size > ob_67 := g67_0.lt
    have lt_g67_1 : T67.heap.size > ob_67 := g67_1.lt
    refine n_astore X67 hx hby at_54 rfl (l' := #[.val (.int sp), .val (.long pa), .second, .val (.long pb), .second, .val (.int (3 : Int32)), .val (.int (10 : Int32)), .val (.int ln_63), .val (.int ln_64), .val (.ref ob_65), .val (.ref ob_67), .unset, .unset, .unset]) rfl ?_
    refine n_iload X67 hx hby at_56 rfl ?_
    obtain ⟨T68, h68, k68, X68, e68, E68, A68, Ex68, Ov68, st68⟩ := newRA X67 hx hZ hown (ty := .byte) rfl (own_w hw 8 rfl) (own_w hw 9 rfl) rfl (g := (mkF m 58 #[.val (.int sp), .val (.long pa), .second, .val (.long pb), .second, .val (.int (3 : Int32)), .val (.int (10 : Int32)), .val (.int ln_63), .val (.int ln_64), .val (.ref ob_65), .val (.ref ob_67), .unset, .unset, .unset] [(.int (10 : Int32))])) rfl (hb hby at_58) rfl (by decide) (cap := 10) (by decide) (by decide) (by decide) (by decide) rfl
    obtain ⟨ob68, g68⟩ : ∃ z, z = T67.heap.size := ⟨_, rfl⟩
    rw [← g68] at A68 st68 Ex68
    refine ob_ st68 ?_
    have z68 := E68.1
    have Vw68 : Arv Z h68 ob68 k68 (.array .byte) (10 : Int32) [] .null := Arv.new A68 (by decide)
    have lt68 : h68.size > ob68 := Vw68.lt
    refine n_astore X68 hx hby at_61 rfl (l' := #[.val (.int sp), .val (.long pa), .second, .val (.long pb), .second, .val (.int (3 : Int32)), .val (.int (10 : Int32)), .val (.int ln_63), .val (.int ln_64), .val (.ref ob_65), .val (.ref ob_67), .val (.ref ob68), .unset, .unset]) rfl ?_
    refine n_iload X68 hx hby at_63 rfl ?_
    refine n_ifNo X68 hx hby at_65 ((if0 _ _).trans (tlt (by decide : (0 : Int32) < (10 : Int32))).2.2.2) ?_
    refine n_aload X68 hx hby at_68 rfl rfl ?_
    refine oIc X68 hx hby at_70 (z := (0 : Int32)) rfl ?_
    refine n_aload X68 hx hby at_71 rfl rfl ?_
    have Vw69 : Arv Z h68 ob68 k68 (.array .byte) (10 : Int32) [.null] .null := Vw68.pad (pad_rep [] .null 1)
    obtain ⟨cl70, Ar70, q70, S70, M70, H70, G70⟩ := (id Vw69)
    have hin70 : ¬ ((0 : Int32) < 0 ∨ cl70.slots.size ≤ ((0 : Int32)).toNatClampNeg) := inb_of S70 ⟨by decide, by decide⟩
    have fc71 : Exa Z h68 ob_65 "[B" := ((g65_0.keep K67).ext E68)
    obtain ⟨T70, h70, X70, e70, W70, st70⟩ := stR X68 hx hZ e68 Ar70 (j := (0 : Int32)) hin70 rfl (Sto.ofVA Ar70 q70 Ov68 (Ins.self fc71)) (g := (mkF m 73 #[.val (.int sp), .val (.long pa), .second, .val (.long pb), .second, .val (.int (3 : Int32)), .val (.int (10 : Int32)), .val (.int ln_63), .val (.int ln_64), .val (.ref ob_65), .val (.ref ob_67), .val (.ref ob68), .unset, .unset] [(.ref ob_65), (.int (0 : Int32)), (.ref ob68)])) rfl rfl (hb hby at_73)
    refine ob_ st70 ?_
    have z70 := W70.size
    have lx72 : own_LE n0 ob68 := own_mkLE (by omega)
    have N70 := Fr.snoc X70 N67 (own_unLE lx72)
    obtain ⟨lc70, X70, N70⟩ := own_lc X70 N70
    have Vw70 : Arv Z h70 ob68 k68 (.array .byte) (10 : Int32) [(.ref ob_65)] .null := Arv.set Ar70 q70 S70 M70 H70 G70 rfl W70 0 rfl (Nat.le_of_ble_eq_true rfl)
    refine n_iload X70 hx hby at_74 rfl ?_
    refine oIc X70 hx hby at_76 (z := (1 : Int32)) rfl ?_
    refine n_icmpNo X70 hx hby at_77 (tlt (by decide : (1 : Int32) < (10 : Int32))).2.2.2 ?_
    refine n_aload X70 hx hby at_80 rfl rfl ?_
    refine oIc X70 hx hby at_82 (z := (1 : Int32)) rfl ?_
    refine n_aload X70 hx hby at_83 rfl rfl ?_
    have Vw73 : Arv Z h70 ob68 k68 (.array .byte) (10 : Int32) [(.ref ob_65), .null] .null := Vw70.pad (pad_rep [(.ref ob_65)] .null 1)
    obtain ⟨cl74, Ar74, q74, S74, M74, H74, G74⟩ := (id Vw73)
    have hin74 : ¬ ((1 : Int32) < 0 ∨ cl74.slots.size ≤ ((1 : Int32)).toNatClampNeg) := inb_of S74 ⟨by decide, by decide⟩
    have fc75 : Exa Z h70 ob_67 "[B" := ((g67_0.ext E68).wr W70)
    obtain ⟨T74, h74, X74, e74, W74, st74⟩ := stR X70 hx hZ e70 Ar74 (j := (1 : Int32)) hin74 rfl (Sto.ofVA Ar74 q74 Ov68 (Ins.self fc75)) (g := (mkF m 85 #[.val (.int sp), .val (.long pa), .second, .val (.long pb), .second, .val (.int (3 : Int32)), .val (.int (10 : Int32)), .val (.int ln_63), .val (.int ln_64), .val (.ref ob_65), .val (.ref ob_67), .val (.ref ob68), .unset, .unset] [(.ref ob_67), (.int (1 : Int32)), (.ref ob68)])) rfl rfl (hb hby at_85)
    refine ob_ st74 ?_
    have z74 := W74.size
    have N74 := Fr.snoc X74 N70 (own_unLE lx72)
    obtain ⟨lc74, X74, N74⟩ := own_lc X74 N74
    have Vw74 : Arv Z h74 ob68 k68 (.array .byte) (10 : Int32) [(.ref ob_65), (.ref ob_67)] .null := Arv.set Ar74 q74 S74 M74 H74 G74 rfl W74 1 rfl (Nat.le_of_ble_eq_true rfl)
    refine n_iload X74 hx hby at_86 rfl ?_
    refine oIc X74 hx hby at_88 (z := (2 : Int32)) rfl ?_
    refine n_icmpNo X74 hx hby at_89 (tlt (by decide : (2 : Int32) < (10 : Int32))).2.2.2 ?_
    refine n_aload X74 hx hby at_92 rfl rfl ?_
    refine oIc X74 hx hby at_94 (z := (2 : Int32)) rfl ?_
    refine oIc X74 hx hby at_95 (z := (0 : Int32)) rfl ?_
    obtain ⟨T76, h76, k76, X76, e76, E76, A76, Ex76, st76⟩ := newPE X74 hx hZ (own_w hw 7 rfl) e74 (g := (mkF m 96 #[.val (.int sp), .val (.long pa), .second, .val (.long pb), .second, .val (.int (3 : Int32)), .val (.int (10 : Int32)), .val (.int ln_63), .val (.int ln_64), .val (.ref ob_65), .val (.ref ob_67), .val (.ref ob68), .unset, .unset] [(.int (0 : Int32)), (.int (2 : Int32)), (.ref ob68)])) rfl (hb hby at_96) rfl (by decide) (cap := 0) (by decide) (by decide) (by decide) (by decide) (ad := "[B") rfl
    obtain ⟨ob76, g76⟩ : ∃ z, z = h74.size := ⟨_, rfl⟩
    rw [← g76] at A76 st76 Ex76
    refine ob_ st76 ?_
    have z76 := E76.1
    have Vw76 : Arv Z h76 ob76 k76 .byte (0 : Int32) [] (.int (0 : Int32)) := Arv.new A76 (by decide)
    have lt76 : h76.size > ob76 := Vw76.lt
    have fc77 : Arv Z h76 ob68 k68 (.array .byte) (10 : Int32) [(.ref ob_65), (.ref ob_67)] .null := (Vw74.ext E76)
    have Vw78 : Arv Z h76 ob68 k68 (.array .byte) (10 : Int32) [(.ref ob_65), (.ref ob_67), .null] .null := fc77.pad (pad_rep [(.ref ob_65), (.ref ob_67)] .null 1)
    obtain ⟨cl79, Ar79, q79, S79, M79, H79, G79⟩ := (id Vw78)
    have hin79 : ¬ ((2 : Int32) < 0 ∨ cl79.slots.size ≤ ((2 : Int32)).toNatClampNeg) := inb_of S79 ⟨by decide, by decide⟩
    obtain ⟨T79, h79, X79, e79, W79, st79⟩ := stR X76 hx hZ e76 Ar79 (j := (2 : Int32)) hin79 rfl (Sto.ofVA Ar79 q79 Ov68 (Ins.self Ex76)) (g := (mkF m 98 #[.val (.int sp), .val (.long pa), .second, .val (.long pb), .second, .val (.int (3 : Int32)), .val (.int (10 : Int32)), .val (.int ln_63), .val (.int ln_64), .val (.ref ob_65), .val (.ref ob_67), .val (.ref ob68), .unset, .unset] [(.ref ob76), (.int (2 : Int32)), (.ref ob68)])) rfl rfl (hb hby at_98)
    refine ob_ st79 ?_
    have z79 := W79.size
    have N79 := Fr.snoc X79 N74 (own_unLE lx72)
    obtain ⟨lc79, X79, N79⟩ := own_lc X79 N79
    have Vw79 : Arv Z h79 ob68 k68 (.array .byte) (10 : Int32) [(.ref ob_65), (.ref ob_67), (.ref ob76)] .null := Arv.set Ar79 q79 S79 M79 H79 G79 rfl W79 2 rfl (Nat.le_of_ble_eq_true rfl)
    refine n_aload X79 hx hby at_99 rfl rfl ?_
    refine oIc X79 hx hby at_101 (z := (3 : Int32)) rfl ?_
    refine oIc X79 hx hby at_102 (z := (0 : Int32)) rfl ?_
    obtain ⟨T80, h80, k80, X80, e80, E80, A80, Ex80, st80⟩ := newPE X79 hx hZ (own_w hw 7 rfl) e79 (g := (mkF m 103 #[.val (.int sp), .val (.long pa), .second, .val (.long pb), .second, .val (.int (3 : Int32)), .val (.int (10 : Int32)), .val (.int ln_63), .val (.int ln_64), .val (.ref ob_65), .val (.ref ob_67), .val (.ref ob68), .unset, .unset] [(.int (0 : Int32)), (.int (3 : Int32)), (.ref ob68)])) rfl (hb hby at_103) rfl (by decide) (cap := 0) (by decide) (by decide) (by decide) (by decide) (ad := "[B") rfl
    obtain ⟨ob80, g80⟩ : ∃ z, z = h79.size := ⟨_, rfl⟩
    rw [← g80] at A80 st80 Ex80
    refine ob_ st80 ?_
    have z80 := E80.1
    have Vw80 : Arv Z h80 ob80 k80 .byte (0 : Int32) [] (.int (0 : Int32)) := Arv.new A80 (by decide)
    have lt80 : h80.size > ob80 := Vw80.lt
    have fc81 : Arv Z h80 ob68 k68 (.array .byte) (10 : Int32) [(.ref ob_65), (.ref ob_67), (.ref ob76)] .null := (Vw79.ext E80)
    have Vw82 : Arv Z h80 ob68 k68 (.array .byte) (10 : Int32) [(.ref ob_65), (.ref ob_67), (.ref ob76), .null] .null := fc81.pad (pad_rep [(.ref ob_65), (.ref ob_67), (.ref ob76)] .null 1)
    obtain ⟨cl83, Ar83, q83, S83, M83, H83, G83⟩ := (id Vw82)
    have hin83 : ¬ ((3 : Int32) < 0 ∨ cl83.slots.size ≤ ((3 : Int32)).toNatClampNeg) := inb_of S83 ⟨by decide, by decide⟩
    obtain ⟨T83, h83, X83, e83, W83, st83⟩ := stR X80 hx hZ e80 Ar83 (j := (3 : Int32)) hin83 rfl (Sto.ofVA Ar83 q83 Ov68 (Ins.self Ex80)) (g := (mkF m 105 #[.val (.int sp), .val (.long pa), .second, .val (.long pb), .second, .val (.int (3 : Int32)), .val (.int (10 : Int32)), .val (.int ln_63), .val (.int ln_64), .val (.ref ob_65), .val (.ref ob_67), .val (.ref ob68), .unset, .unset] [(.ref ob80), (.int (3 : Int32)), (.ref ob68)])) rfl rfl (hb hby at_105)
    refine ob_ st83 ?_
    have z83 := W83.size
    have N83 := Fr.snoc X83 N79 (own_unLE lx72)
    obtain ⟨lc83, X83, N83⟩ := own_lc X83 N83
    have Vw83 : Arv Z h83 ob68 k68 (.array .byte) (10 : Int32) [(.ref ob_65), (.ref ob_67), (.ref ob76), (.ref ob80)] .null := Arv.set Ar83 q83 S83 M83 H83 G83 rfl W83 3 rfl (Nat.le_of_ble_eq_true rfl)
    refine n_aload X83 hx hby at_106 rfl rfl ?_
    refine oIc X83 hx hby at_108 (z := (4 : Int32)) rfl ?_
    refine oIc X83 hx hby at_109 (z := (0 : Int32)) rfl ?_
    obtain ⟨T84, h84, k84, X84, e84, E84, A84, Ex84, st84⟩ := newPE X83 hx hZ (own_w hw 7 rfl) e83 (g := (mkF m 110 #[.val (.int sp), .val (.long pa), .second, .val (.long pb), .second, .val (.int (3 : Int32)), .val (.int (10 : Int32)), .val (.int ln_63), .val (.int ln_64), .val (.ref ob_65), .val (.ref ob_67), .val (.ref ob68), .unset, .unset] [(.int (0 : Int32)), (.int (4 : Int32)), (.ref ob68)])) rfl (hb hby at_110) rfl (by decide) (cap := 0) (by decide) (by decide) (by decide) (by decide) (ad := "[B") rfl
    obtain ⟨ob84, g84⟩ : ∃ z, z = h83.size := ⟨_, rfl⟩
    rw [← g84] at A84 st84 Ex84
    refine ob_ st84 ?_
    have z84 := E84.1
    have Vw84 : Arv Z h84 ob84 k84 .byte (0 : Int32) [] (.int (0 : Int32)) := Arv.new A84 (by decide)
    have lt84 : h84.size > ob84 := Vw84.lt
    have fc85 : Arv Z h84 ob68 k68 (.array .byte) (10 : Int32) [(.ref ob_65), (.ref ob_67), (.ref ob76), (.ref ob80)] .null := (Vw83.ext E84)
    have Vw86 : Arv Z h84 ob68 k68 (.array .byte) (10 : Int32) [(.ref ob_65), (.ref ob_67), (.ref ob76), (.ref ob80), .null] .null := fc85.pad (pad_rep [(.ref ob_65), (.ref ob_67), (.ref ob76), (.ref ob80)] .null 1)
    obtain ⟨cl87, Ar87, q87, S87, M87, H87, G87⟩ := (id Vw86)
    have hin87 : ¬ ((4 : Int32) < 0 ∨ cl87.slots.size ≤ ((4 : Int32)).toNatClampNeg) := inb_of S87 ⟨by decide, by decide⟩
    obtain ⟨T87, h87, X87, e87, W87, st87⟩ := stR X84 hx hZ e84 Ar87 (j := (4 : Int32)) hin87 rfl (Sto.ofVA Ar87 q87 Ov68 (Ins.self Ex84)) (g := (mkF m 112 #[.val (.int sp), .val (.long pa), .second, .val (.long pb), .second, .val (.int (3 : Int32)), .val (.int (10 : Int32)), .val (.int ln_63), .val (.int ln_64), .val (.ref ob_65), .val (.ref ob_67), .val (.ref ob68), .unset, .unset] [(.ref ob84), (.int (4 : Int32)), (.ref ob68)])) rfl rfl (hb hby at_112)
    refine ob_ st87 ?_
    have z87 := W87.size
    have N87 := Fr.snoc X87 N83 (own_unLE lx72)
    obtain ⟨lc87, X87, N87⟩ := own_lc X87 N87
    have Vw87 : Arv Z h87 ob68 k68 (.array .byte) (10 : Int32) [(.ref ob_65), (.ref ob_67), (.ref ob76), (.ref ob80), (.ref ob84)] .null := Arv.set Ar87 q87 S87 M87 H87 G87 rfl W87 4 rfl (Nat.le_of_ble_eq_true rfl)
    refine n_aload X87 hx hby at_113 rfl rfl ?_
    refine oIc X87 hx hby at_115 (z := (5 : Int32)) rfl ?_
    refine oIc X87 hx hby at_116 (z := (0 : Int32)) rfl ?_
    obtain ⟨T88, h88, k88, X88, e88, E88, A88, Ex88, st88⟩ := newPE X87 hx hZ (own_w hw 7 rfl) e87 (g := (mkF m 117 #[.val (.int sp), .val (.long pa), .second, .val (.long pb), .second, .val (.int (3 : Int32)), .val (.int (10 : Int32)), .val (.int ln_63), .val (.int ln_64), .val (.ref ob_65), .val (.ref ob_67), .val (.ref ob68), .unset, .unset] [(.int (0 : Int32)), (.int (5 : Int32)), (.ref ob68)])) rfl (hb hby at_117) rfl (by decide) (cap := 0) (by decide) (by decide) (by decide) (by decide) (ad := "[B") rfl
    obtain ⟨ob88, g88⟩ : ∃ z, z = h87.size := ⟨_, rfl⟩
    rw [← g88] at A88 st88 Ex88
    refine ob_ st88 ?_
    have z88 := E88.1
    have Vw88 : Arv Z h88 ob88 k88 .byte (0 : Int32) [] (.int (0 : Int32)) := Arv.new A88 (by decide)
    have lt88 : h88.size > ob88 := Vw88.lt
    have fc89 : Arv Z h88 ob68 k68 (.array .byte) (10 : Int32) [(.ref ob_65), (.ref ob_67), (.ref ob76), (.ref ob80), (.ref ob84)] .null := (Vw87.ext E88)
    have Vw90 : Arv Z h88 ob68 k68 (.array .byte) (10 : Int32) [(.ref ob_65), (.ref ob_67), (.ref ob76), (.ref ob80), (.ref ob84), .null] .null := fc89.pad (pad_rep [(.ref ob_65), (.ref ob_67), (.ref ob76), (.ref ob80), (.ref ob84)] .null 1)
    obtain ⟨cl91, Ar91, q91, S91, M91, H91, G91⟩ := (id Vw90)
    have hin91 : ¬ ((5 : Int32) < 0 ∨ cl91.slots.size ≤ ((5 : Int32)).toNatClampNeg) := inb_of S91 ⟨by decide, by decide⟩
    obtain ⟨T91, h91, X91, e91, W91, st91⟩ := stR X88 hx hZ e88 Ar91 (j := (5 : Int32)) hin91 rfl (Sto.ofVA Ar91 q91 Ov68 (Ins.self Ex88)) (g := (mkF m 119 #[.val (.int sp), .val (.long pa), .second, .val (.long pb), .second, .val (.int (3 : Int32)), .val (.int (10 : Int32)), .val (.int ln_63), .val (.int ln_64), .val (.ref ob_65), .val (.ref ob_67), .val (.ref ob68), .unset, .unset] [(.ref ob88), (.int (5 : Int32)), (.ref ob68)])) rfl rfl (hb hby at_119)
    refine ob_ st91 ?_
    have z91 := W91.size
    have N91 := Fr.snoc X91 N87 (own_unLE lx72)
    obtain ⟨lc91, X91, N91⟩ := own_lc X91 N91
    have Vw91 : Arv Z h91 ob68 k68 (.array .byte) (10 : Int32) [(.ref ob_65), (.ref ob_67), (.ref ob76), (.ref ob80), (.ref ob84), (.ref ob88)] .null := Arv.set Ar91 q91 S91 M91 H91 G91 rfl W91 5 rfl (Nat.le_of_ble_eq_true rfl)
    refine n_aload X91 hx hby at_120 rfl rfl ?_
    refine oBi X91 hx hby at_122 (z := (6 : Int32)) rfl ?_
    refine oIc X91 hx hby at_124 (z := (0 : Int32)) rfl ?_
    obtain ⟨T92, h92, k92, X92, e92, E92, A92, Ex92, st92⟩ := newPE X91 hx hZ (own_w hw 7 rfl) e91 (g := (mkF m 125 #[.val (.int sp), .val (.long pa), .second, .val (.long pb), .second, .val (.int (3 : Int32)), .val (.int (10 : Int32)), .val (.int ln_63), .val (.int ln_64), .val (.ref ob_65), .val (.ref ob_67), .val (.ref ob68), .unset, .unset] [(.int (0 : Int32)), (.int (6 : Int32)), (.ref ob68)])) rfl (hb hby at_125) rfl (by decide) (cap := 0) (by decide) (by decide) (by decide) (by decide) (ad := "[B") rfl
    obtain ⟨ob92, g92⟩ : ∃ z, z = h91.size := ⟨_, rfl⟩
    rw [← g92] at A92 st92 Ex92
    refine ob_ st92 ?_
    have z92 := E92.1
    have Vw92 : Arv Z h92 ob92 k92 .byte (0 : Int32) [] (.int (0 : Int32)) := Arv.new A92 (by decide)
    have lt92 : h92.size > ob92 := Vw92.lt
    have fc93 : Arv Z h92 ob68 k68 (.array .byte) (10 : Int32) [(.ref ob_65), (.ref ob_67), (.ref ob76), (.ref ob80), (.ref ob84), (.ref ob88)] .null := (Vw91.ext E92)
    have Vw94 : Arv Z h92 ob68 k68 (.array .byte) (10 : Int32) [(.ref ob_65), (.ref ob_67), (.ref ob76), (.ref ob80), (.ref ob84), (.ref ob88), .null] .null := fc93.pad (pad_rep [(.ref ob_65), (.ref ob_67), (.ref ob76), (.ref ob80), (.ref ob84), (.ref ob88)] .null 1)
    obtain ⟨cl95, Ar95, q95, S95, M95, H95, G95⟩ := (id Vw94)
    have hin95 : ¬ ((6 : Int32) < 0 ∨ cl95.slots.size ≤ ((6 : Int32)).toNatClampNeg) := inb_of S95 ⟨by decide, by decide⟩
    obtain ⟨T95, h95, X95, e95, W95, st95⟩ := stR X92 hx hZ e92 Ar95 (j := (6 : Int32)) hin95 rfl (Sto.ofVA Ar95 q95 Ov68 (Ins.self Ex92)) (g := (mkF m 127 #[.val (.int sp), .val (.long pa), .second, .val (.long pb), .second, .val (.int (3 : Int32)), .val (.int (10 : Int32)), .val (.int ln_63), .val (.int ln_64), .val (.ref ob_65), .val (.ref ob_67), .val (.ref ob68), .unset, .unset] [(.ref ob92), (.int (6 : Int32)), (.ref ob68)])) rfl rfl (hb hby at_127)
    refine ob_ st95 ?_
    have z95 := W95.size
    have N95 := Fr.snoc X95 N91 (own_unLE lx72)
    obtain ⟨lc95, X95, N95⟩ := own_lc X95 N95
    have Vw95 : Arv Z h95 ob68 k68 (.array .byte) (10 : Int32) [(.ref ob_65), (.ref ob_67), (.ref ob76), (.ref ob80), (.ref ob84), (.ref ob88), (.ref ob92)] .null := Arv.set Ar95 q95 S95 M95 H95 G95 rfl W95 6 rfl (Nat.le_of_ble_eq_true rfl)
    refine n_aload X95 hx hby at_128 rfl rfl ?_
    refine oBi X95 hx hby at_130 (z := (7 : Int32)) rfl ?_
    refine oIc X95 hx hby at_132 (z := (0 : Int32)) rfl ?_
    obtain ⟨T96, h96, k96, X96, e96, E96, A96, Ex96, st96⟩ := newPE X95 hx hZ (own_w hw 7 rfl) e95 (g := (mkF m 133 #[.val (.int sp), .val (.long pa), .second, .val (.long pb), .second, .val (.int (3 : Int32)), .val (.int (10 : Int32)), .val (.int ln_63), .val (.int ln_64), .val (.ref ob_65), .val (.ref ob_67), .val (.ref ob68), .unset, .unset] [(.int (0 : Int32)), (.int (7 : Int32)), (.ref ob68)])) rfl (hb hby at_133) rfl (by decide) (cap := 0) (by decide) (by decide) (by decide) (by decide) (ad := "[B") rfl
    obtain ⟨ob96, g96⟩ : ∃ z, z = h95.size := ⟨_, rfl⟩
    rw [← g96] at A96 st96 Ex96
    refine ob_ st96 ?_
    have z96 := E96.1
    have Vw96 : Arv Z h96 ob96 k96 .byte (0 : Int32) [] (.int (0 : Int32)) := Arv.new A96 (by decide)
    have lt96 : h96.size > ob96 := Vw96.lt
    have fc97 : Arv Z h96 ob68 k68 (.array .byte) (10 : Int32) [(.ref ob_65), (.ref ob_67), (.ref ob76), (.ref ob80), (.ref ob84), (.ref ob88), (.ref ob92)] .null := (Vw95.ext E96)
    have Vw98 : Arv Z h96 ob68 k68 (.array .byte) (10 : Int32) [(.ref ob_65), (.ref ob_67), (.ref ob76), (.ref ob80), (.ref ob84), (.ref ob88), (.ref ob92), .null] .null := fc97.pad (pad_rep [(.ref ob_65), (.ref ob_67), (.ref ob76), (.ref ob80), (.ref ob84), (.ref ob88), (.ref ob92)] .null 1)
    obtain ⟨cl99, Ar99, q99, S99, M99, H99, G99⟩ := (id Vw98)
    have hin99 : ¬ ((7 : Int32) < 0 ∨ cl99.slots.size ≤ ((7 : Int32)).toNatClampNeg) := inb_of S99 ⟨by decide, by decide⟩
    obtain ⟨T99, h99, X99, e99, W99, st99⟩ := stR X96 hx hZ e96 Ar99 (j := (7 : Int32)) hin99 rfl (Sto.ofVA Ar99 q99 Ov68 (Ins.self Ex96)) (g := (mkF m 135 #[.val (.int sp), .val (.long pa), .second, .val (.long pb), .second, .val (.int (3 : Int32)), .val (.int (10 : Int32)), .val (.int ln_63), .val (.int ln_64), .val (.ref ob_65), .val (.ref ob_67), .val (.ref ob68), .unset, .unset] [(.ref ob96), (.int (7 : Int32)), (.ref ob68)])) rfl rfl (hb hby at_135)
    refine ob_ st99 ?_
    have z99 := W99.size
    have N99 := Fr.snoc X99 N95 (own_unLE lx72)
    obtain ⟨lc99, X99, N99⟩ := own_lc X99 N99
    have Vw99 : Arv Z h99 ob68 k68 (.array .byte) (10 : Int32) [(.ref ob_65), (.ref ob_67), (.ref ob76), (.ref ob80), (.ref ob84), (.ref ob88), (.ref ob92), (.ref ob96)] .null := Arv.set Ar99 q99 S99 M99 H99 G99 rfl W99 7 rfl (Nat.le_of_ble_eq_true rfl)
    refine n_aload X99 hx hby at_136 rfl rfl ?_
    refine oBi X99 hx hby at_138 (z := (8 : Int32)) rfl ?_
    refine oIc X99 hx hby at_140 (z := (0 : Int32)) rfl ?_
    obtain ⟨T100, h100, k100, X100, e100, E100, A100, Ex100, st100⟩ := newPE X99 hx hZ (own_w hw 7 rfl) e99 (g := (mkF m 141 #[.val (.int sp), .val (.long pa), .second, .val (.long pb), .second, .val (.int (3 : Int32)), .val (.int (10 : Int32)), .val (.int ln_63), .val (.int ln_64), .val (.ref ob_65), .val (.ref ob_67), .val (.ref ob68), .unset, .unset] [(.int (0 : Int32)), (.int (8 : Int32)), (.ref ob68)])) rfl (hb hby at_141) rfl (by decide) (cap := 0) (by decide) (by decide) (by decide) (by decide) (ad := "[B") rfl
    obtain ⟨ob100, g100⟩ : ∃ z, z = h99.size := ⟨_, rfl⟩
    rw [← g100] at A100 st100 Ex100
    refine ob_ st100 ?_
    have z100 := E100.1
    have Vw100 : Arv Z h100 ob100 k100 .byte (0 : Int32) [] (.int (0 : Int32)) := Arv.new A100 (by decide)
    have lt100 : h100.size > ob100 := Vw100.lt
    have fc101 : Arv Z h100 ob68 k68 (.array .byte) (10 : Int32) [(.ref ob_65), (.ref ob_67), (.ref ob76), (.ref ob80), (.ref ob84), (.ref ob88), (.ref ob92), (.ref ob96)] .null := (Vw99.ext E100)
    have Vw102 : Arv Z h100 ob68 k68 (.array .byte) (10 : Int32) [(.ref ob_65), (.ref ob_67), (.ref ob76), (.ref ob80), (.ref ob84), (.ref ob88), (.ref ob92), (.ref ob96), .null] .null := fc101.pad (pad_rep [(.ref ob_65), (.ref ob_67), (.ref ob76), (.ref ob80), (.ref ob84), (.ref ob88), (.ref ob92), (.ref ob96)] .null 1)
    obtain ⟨cl103, Ar103, q103, S103, M103, H103, G103⟩ := (id Vw102)
    have hin103 : ¬ ((8 : Int32) < 0 ∨ cl103.slots.size ≤ ((8 : Int32)).toNatClampNeg) := inb_of S103 ⟨by decide, by decide⟩
    obtain ⟨T103, h103, X103, e103, W103, st103⟩ := stR X100 hx hZ e100 Ar103 (j := (8 : Int32)) hin103 rfl (Sto.ofVA Ar103 q103 Ov68 (Ins.self Ex100)) (g := (mkF m 143 #[.val (.int sp), .val (.long pa), .second, .val (.long pb), .second, .val (.int (3 : Int32)), .val (.int (10 : Int32)), .val (.int ln_63), .val (.int ln_64), .val (.ref ob_65), .val (.ref ob_67), .val (.ref ob68), .unset, .unset] [(.ref ob100), (.int (8 : Int32)), (.ref ob68)])) rfl rfl (hb hby at_143)
    refine ob_ st103 ?_
    have z103 := W103.size
    have N103 := Fr.snoc X103 N99 (own_unLE lx72)
    obtain ⟨lc103, X103, N103⟩ := own_lc X103 N103
    have Vw103 : Arv Z h103 ob68 k68 (.array .byte) (10 : Int32) [(.ref ob_65), (.ref ob_67), (.ref ob76), (.ref ob80), (.ref ob84), (.ref ob88), (.ref ob92), (.ref ob96), (.ref ob100)] .null := Arv.set Ar103 q103 S103 M103 H103 G103 rfl W103 8 rfl (Nat.le_of_ble_eq_true rfl)
    refine n_aload X103 hx hby at_144 rfl rfl ?_
    refine oBi X103 hx hby at_146 (z := (9 : Int32)) rfl ?_
    refine oIc X103 hx hby at_148 (z := (0 : Int32)) rfl ?_
    obtain ⟨T104, h104, k104, X104, e104, E104, A104, Ex104, st104⟩ := newPE X103 hx hZ (own_w hw 7 rfl) e103 (g := (mkF m 149 #[.val (.int sp), .val (.long pa), .second, .val (.long pb), .second, .val (.int (3 : Int32)), .val (.int (10 : Int32)), .val (.int ln_63), .val (.int ln_64), .val (.ref ob_65), .val (.ref ob_67), .val (.ref ob68), .unset, .unset] [(.int (0 : Int32)), (.int (9 : Int32)), (.ref ob68)])) rfl (hb hby at_149) rfl (by decide) (cap := 0) (by decide) (by decide) (by decide) (by decide) (ad := "[B") rfl
    obtain ⟨ob104, g104⟩ : ∃ z, z = h103.size := ⟨_, rfl⟩
    rw [← g104] at A104 st104 Ex104
    refine ob_ st104 ?_
    have z104 := E104.1
    have Vw104 : Arv Z h104 ob104 k104 .byte (0 : Int32) [] (.int (0 : Int32)) := Arv.new A104 (by decide)
    have lt104 : h104.size > ob104 := Vw104.lt
    have fc105 : Arv Z h104 ob68 k68 (.array .byte) (10 : Int32) [(.ref ob_65), (.ref ob_67), (.ref ob76), (.ref ob80), (.ref ob84), (.ref ob88), (.ref ob92), (.ref ob96), (.ref ob100)] .null := (Vw103.ext E104)
    have Vw106 : Arv Z h104 ob68 k68 (.array .byte) (10 : Int32) [(.ref ob_65), (.ref ob_67), (.ref ob76), (.ref ob80), (.ref ob84), (.ref ob88), (.ref ob92), (.ref ob96), (.ref ob100), .null] .null := fc105.pad (pad_rep [(.ref ob_65), (.ref ob_67), (.ref ob76), (.ref ob80), (.ref ob84), (.ref ob88), (.ref ob92), (.ref ob96), (.ref ob100)] .null 1)
    obtain ⟨cl107, Ar107, q107, S107, M107, H107, G107⟩ := (id Vw106)
    have hin107 : ¬ ((9 : Int32) < 0 ∨ cl107.slots.size ≤ ((9 : Int32)).toNatClampNeg) := inb_of S107 ⟨by decide, by decide⟩
    obtain ⟨T107, h107, X107, e107, W107, st107⟩ := stR X104 hx hZ e104 Ar107 (j := (9 : Int32)) hin107 rfl (Sto.ofVA Ar107 q107 Ov68 (Ins.self Ex104)) (g := (mkF m 151 #[.val (.int sp), .val (.long pa), .second, .val (.long pb), .second, .val (.int (3 : Int32)), .val (.int (10 : Int32)), .val (.int ln_63), .val (.int ln_64), .val (.ref ob_65), .val (.ref ob_67), .val (.ref ob68), .unset, .unset] [(.ref ob104), (.int (9 : Int32)), (.ref ob68)])) rfl rfl (hb hby at_151)
    refine ob_ st107 ?_
    have z107 := W107.size
    have N107 := Fr.snoc X107 N103 (own_unLE lx72)
    obtain ⟨lc107, X107, N107⟩ := own_lc X107 N107
    have Vw107 : Arv Z h107 ob68 k68 (.array .byte) (10 : Int32) [(.ref ob_65), (.ref ob_67), (.ref ob76), (.ref ob80), (.ref ob84), (.ref ob88), (.ref ob92), (.ref ob96), (.ref ob100), (.ref ob104)] .null := Arv.set Ar107 q107 S107 M107 H107 G107 rfl W107 9 rfl (Nat.le_of_ble_eq_true rfl)
    refine n_aload X107 hx hby at_152 rfl rfl ?_
    have nx108 : own_NE ob_65 ob68 := own_mkNE (by omega)
    have fc109 : Arv Z h107 ob_65 kb_65 .byte ln_63 (own_fl ln_63 pa) (.int (0 : Int32)) := ((((((((((((((((((((g65_1.keep K67 nin0).ext E68).other W70 (own_unNE nx108)).other W74 (own_unNE nx108)).ext E76).other W79 (own_unNE nx108)).ext E80).other W83 (own_unNE nx108)).ext E84).other W87 (own_unNE nx108)).ext E88).other W91 (own_unNE nx108)).ext E92).other W95 (own_unNE nx108)).ext E96).other W99 (own_unNE nx108)).ext E100).other W103 (own_unNE nx108)).ext E104).other W107 (own_unNE nx108))
    have nx110 : own_NE ob_67 ob68 := own_mkNE (by omega)
    have fc111 : Arv Z h107 ob_67 kb_67 .byte ln_64 (own_fl ln_64 pb) (.int (0 : Int32)) := (((((((((((((((((((g67_1.ext E68).other W70 (own_unNE nx110)).other W74 (own_unNE nx110)).ext E76).other W79 (own_unNE nx110)).ext E80).other W83 (own_unNE nx110)).ext E84).other W87 (own_unNE nx110)).ext E88).other W91 (own_unNE nx110)).ext E92).other W95 (own_unNE nx110)).ext E96).other W99 (own_unNE nx110)).ext E100).other W103 (own_unNE nx110)).ext E104).other W107 (own_unNE nx110))
    have nx112 : own_NE ob76 ob68 := own_mkNE (by omega)
    have fc113 : Arv Z h107 ob76 k76 .byte (0 : Int32) [] (.int (0 : Int32)) := (((((((((((((((Vw76.other W79 (own_unNE nx112)).ext E80).other W83 (own_unNE nx112)).ext E84).other W87 (own_unNE nx112)).ext E88).other W91 (own_unNE nx112)).ext E92).other W95 (own_unNE nx112)).ext E96).other W99 (own_unNE nx112)).ext E100).other W103 (own_unNE nx112)).ext E104).other W107 (own_unNE nx112))
    have nx114 : own_NE ob80 ob68 := own_mkNE (by omega)
    have fc115 : Arv Z h107 ob80 k80 .byte (0 : Int32) [] (.int (0 : Int32)) := (((((((((((((Vw80.other W83 (own_unNE nx114)).ext E84).other W87 (own_unNE nx114)).ext E88).other W91 (own_unNE nx114)).ext E92).other W95 (own_unNE nx114)).ext E96).other W99 (own_unNE nx114)).ext E100).other W103 (own_unNE nx114)).ext E104).other W107 (own_unNE nx114))
    have nx116 : own_NE ob84 ob68 := own_mkNE (by omega)
    have fc117 : Arv Z h107 ob84 k84 .byte (0 : Int32) [] (.int (0 : Int32)) := (((((((((((Vw84.other W87 (own_unNE nx116)).ext E88).other W91 (own_unNE nx116)).ext E92).other W95 (own_unNE nx116)).ext E96).other W99 (own_unNE nx116)).ext E100).other W103 (own_unNE nx116)).ext E104).other W107 (own_unNE nx116))
    have nx118 : own_NE ob88 ob68 := own_mkNE (by omega)
    have fc119 : Arv Z h107 ob88 k88 .byte (0 : Int32) [] (.int (0 : Int32)) := (((((((((Vw88.other W91 (own_unNE nx118)).ext E92).other W95 (own_unNE nx118)).ext E96).other W99 (own_unNE nx118)).ext E100).other W103 (own_unNE nx118)).ext E104).other W107 (own_unNE nx118))
    have nx120 : own_NE ob92 ob68 := own_mkNE (by omega)
    have fc121 : Arv Z h107 ob92 k92 .byte (0 : Int32) [] (.int (0 : Int32)) := (((((((Vw92.other W95 (own_unNE nx120)).ext E96).other W99 (own_unNE nx120)).ext E100).other W103 (own_unNE nx120)).ext E104).other W107 (own_unNE nx120))
    have nx122 : own_NE ob96 ob68 := own_mkNE (by omega)
    have fc123 : Arv Z h107 ob96 k96 .byte (0 : Int32) [] (.int (0 : Int32)) := (((((Vw96.other W99 (own_unNE nx122)).ext E100).other W103 (own_unNE nx122)).ext E104).other W107 (own_unNE nx122))
    have nx124 : own_NE ob100 ob68 := own_mkNE (by omega)
    have fc125 : Arv Z h107 ob100 k100 .byte (0 : Int32) [] (.int (0 : Int32)) := (((Vw100.other W103 (own_unNE nx124)).ext E104).other W107 (own_unNE nx124))
    have nx126 : own_NE ob104 ob68 := own_mkNE (by omega)
    have fc127 : Arv Z h107 ob104 k104 .byte (0 : Int32) [] (.int (0 : Int32)) := (Vw104.other W107 (own_unNE nx126))
    have O128 : Old Z n0 h107 := ((((((((((((((((((((O66.keep K67 all0).ext E68).wr W70 (own_unLE lx72)).wr W74 (own_unLE lx72)).ext E76).wr W79 (own_unLE lx72)).ext E80).wr W83 (own_unLE lx72)).ext E84).wr W87 (own_unLE lx72)).ext E88).wr W91 (own_unLE lx72)).ext E92).wr W95 (own_unLE lx72)).ext E96).wr W99 (own_unLE lx72)).ext E100).wr W103 (own_unLE lx72)).ext E104).wr W107 (own_unLE lx72))
    refine o_ksc 3 12 120 (Jvm.LawKit.callS X107 hx (y := (⟨s2_, "command", "([[B)[B"⟩ : MethodName)) hown (mw hZ hw 10 rfl) (mw hZ hw 11 rfl) (mw hZ hw 12 rfl) (mw hZ hw 13 rfl) (by decide) (backOf (W := 0) (rm_cmd10 l Z a0 hw [] ob68 k68 ob_65 kb_65 ln_63 (own_fl ln_63 pa) ob_67 kb_67 ln_64 (own_fl ln_64 pb) ob76 k76 ob80 k80 ob84 k84 ob88 k88 ob92 k92 ob96 k96 ob100 k100 ob104 k104 h107 n0 O128 Vw107 fc109 fc111 fc113 fc115 fc117 fc119 fc121 fc123 fc125 fc127 r63_0 (own_fl_len r63_0) r64_0 (own_fl_len r64_0)) hZ (own_w hw 13 rfl) (own_w hw 12 rfl) (by decide) (by decide)) (g := (mkF m 154 #[.val (.int sp), .val (.long pa), .second, .val (.long pb), .second, .val (.int (3 : Int32)), .val (.int (10 : Int32)), .val (.int ln_63), .val (.int ln_64), .val (.ref ob_65), .val (.ref ob_67), .val (.ref ob68), .unset, .unset] [(.ref ob68)])) rfl (by rw [hml]; rfl) (argsL := [(.ref ob68)]) (rest := []) (lenOf own_pd__28_5b_5bB_29_5bB rfl) rfl own_z (hb hby at_154) (fun _ _ => ⟨rfl, e107, (by decide : 11 + 1 ≤ _), (by decide : 30 + 90 ≤ _)⟩)) fun T129 Lc129 _ X129 hQ129 => ?_
    obtain ⟨ot_129, kk_129, nn_129, cc_129, rfl, M129, K129, g129_0, r129_0, r129_1, r129_2⟩ := hQ129
    have N129 := Fr.app N107 M129
    obtain ⟨lc129, X129, N129⟩ := own_lc X129 N129
    have z129 := K129.1
    have lt_g129_0 : T129.heap.size > ot_129 := g129_0.lt
    obtain ⟨rs9, e_rs9⟩ : ∃ z, z = own_bd (0 : Int32) (own_fl (0 : Int32) (0 : Int64)) ++ ([] : List Value) := ⟨_, rfl⟩
    obtain ⟨rs8, e_rs8⟩ : ∃ z, z = own_bd (0 : Int32) (own_fl (0 : Int32) (0 : Int64)) ++ rs9 := ⟨_, rfl⟩
    obtain ⟨rs7, e_rs7⟩ : ∃ z, z = own_bd (0 : Int32) (own_fl (0 : Int32) (0 : Int64)) ++ rs8 := ⟨_, rfl⟩
    obtain ⟨rs6, e_rs6⟩ : ∃ z, z = own_bd (0 : Int32) (own_fl (0 : Int32) (0 : Int64)) ++ rs7 := ⟨_, rfl⟩
    obtain ⟨rs5, e_rs5⟩ : ∃ z, z = own_bd (0 : Int32) (own_fl (0 : Int32) (0 : Int64)) ++ rs6 := ⟨_, rfl⟩
    obtain ⟨rs4, e_rs4⟩ : ∃ z, z = own_bd (0 : Int32) (own_fl (0 : Int32) (0 : Int64)) ++ rs5 := ⟨_, rfl⟩
    obtain ⟨rs3, e_rs3⟩ : ∃ z, z = own_bd (0 : Int32) (own_fl (0 : Int32) (0 : Int64)) ++ rs4 := ⟨_, rfl⟩
    obtain ⟨rs2, e_rs2⟩ : ∃ z, z = own_bd (0 : Int32) (own_fl (0 : Int32) (0 : Int64)) ++ rs3 := ⟨_, rfl⟩
    obtain ⟨rs1, e_rs1⟩ : ∃ z, z = own_bd ln_64 (own_fl ln_64 pb) ++ rs2 := ⟨_, rfl⟩
    obtain ⟨rs0, e_rs0⟩ : ∃ z, z = own_bd ln_63 (own_fl ln_63 pa) ++ rs1 := ⟨_, rfl⟩
    have hc0 : cc_129 = own_hd (42 : Int32) (10 : Int32) ++ rs0 := by rw [r129_0]; simp only [e_rs0, e_rs1, e_rs2, e_rs3, e_rs4, e_rs5, e_rs6, e_rs7, e_rs8, e_rs9, own_fl_0, List.append_assoc, List.append_nil]
    have hns0 : nn_129.toInt ≤ 1000 := by omega
    refine n_astore X129 hx hby at_157 rfl (l' := #[.val (.int sp), .val (.long pa), .second, .val (.long pb), .second, .val (.int (3 : Int32)), .val (.int (10 : Int32)), .val (.int ln_63), .val (.int ln_64), .val (.ref ob_65), .val (.ref ob_67), .val (.ref ob68), .val (.ref ot_129), .unset]) rfl ?_
    refine n_aload X129 hx hby at_159 rfl rfl ?_
    refine oIc X129 hx hby at_161 (z := (0 : Int32)) rfl ?_
    refine oBi X129 hx hby at_162 (z := (42 : Int32)) rfl ?_
    refine n_iload X129 hx hby at_164 rfl ?_
    have O130 : Old Z n0 T129.heap := (O128.keep K129 all0)
    refine o_ksc 3 12 120 (Jvm.LawKit.callS X129 hx (y := (⟨s1_, "header", "([BICI)I"⟩ : MethodName)) hown (mw hZ hw 23 rfl) (mw hZ hw 24 rfl) (mw hZ hw 2 rfl) (mw hZ hw 25 rfl) (by decide) (backOf (W := 0) (rm_hd42 l Z a0 hw [] ot_129 kk_129 nn_129 cc_129 ([] : List Value) rs0 (0 : Int32) (10 : Int32) T129.heap n0 O130 g129_0 (by decide) (by rw [List.nil_append]; exact hc0) rfl (by have q : ((([] : List Value)).length : Int) = 0 := rfl; omega) (by omega)) hZ (own_w hw 25 rfl) (own_w hw 2 rfl) (by decide) (by decide)) (g := (mkF m 166 #[.val (.int sp), .val (.long pa), .second, .val (.long pb), .second, .val (.int (3 : Int32)), .val (.int (10 : Int32)), .val (.int ln_63), .val (.int ln_64), .val (.ref ob_65), .val (.ref ob_67), .val (.ref ob68), .val (.ref ot_129), .unset] [(.int (10 : Int32)), (.int (42 : Int32)), (.int (0 : Int32)), (.ref ot_129)])) rfl (by rw [hml]; rfl) (argsL := [(.ref ot_129), (.int (0 : Int32)), (.int (42 : Int32)), (.int (10 : Int32))]) (rest := []) (lenOf own_pd__28_5bBICI_29I rfl) rfl own_z (hb hby at_166) (fun _ _ => ⟨rfl, rfl, (by decide : 12 + 0 ≤ _), (by decide : 120 + 0 ≤ _)⟩)) fun T131 Lc131 _ X131 hQ131 => ?_
    obtain ⟨az_131, rfl, M131, K131, r131_0⟩ := hQ131
    have N131 := Fr.app N129 M131
    obtain ⟨lc131, X131, N131⟩ := own_lc X131 N131
    obtain ⟨qa0, e_qa0⟩ : ∃ z, z = own_hd (42 : Int32) (10 : Int32) := ⟨_, rfl⟩
    rw [← e_qa0] at hc0
    have hl_qa0 : (qa0.length : Int) = own_hn (10 : Int32) := by rw [e_qa0]; exact own_hd_len _ (by decide)
    rw [e_rs0] at hc0
    have ha0 : az_131.toInt = (qa0.length : Int) := by omega
    have he0 : nn_129.toInt = (qa0.length : Int) + ((own_hn ln_63 + (ln_63 : Int32).toInt + 2) + ((own_hn ln_64 + (ln_64 : Int32).toInt + 2) + ((own_hn (0 : Int32) + ((0 : Int32) : Int32).toInt + 2) + ((own_hn (0 : Int32) + ((0 : Int32) : Int32).toInt + 2) + ((own_hn (0 : Int32) + ((0 : Int32) : Int32).toInt + 2) + ((own_hn (0 : Int32) + ((0 : Int32) : Int32).toInt + 2) + ((own_hn (0 : Int32) + ((0 : Int32) : Int32).toInt + 2) + ((own_hn (0 : Int32) + ((0 : Int32) : Int32).toInt + 2) + ((own_hn (0 : Int32) + ((0 : Int32) : Int32).toInt + 2) + ((own_hn (0 : Int32) + ((0 : Int32) : Int32).toInt + 2) + (0 : Int))))))))))) := by omega
    have hz10 : (0 : Int) ≤ 0 := by decide
    have hz9 : 0 ≤ ((own_hn (0 : Int32) + ((0 : Int32) : Int32).toInt + 2) + (0 : Int)) := own_nn (own_cnt_rng (show own_cnt (0 : Int32) by decide)) own_rg0 hz10
    have hz8 : 0 ≤ ((own_hn (0 : Int32) + ((0 : Int32) : Int32).toInt + 2) + ((own_hn (0 : Int32) + ((0 : Int32) : Int32).toInt + 2) + (0 : Int))) := own_nn (own_cnt_rng (show own_cnt (0 : Int32) by decide)) own_rg0 hz9
    have hz7 : 0 ≤ ((own_hn (0 : Int32) + ((0 : Int32) : Int32).toInt + 2) + ((own_hn (0 : Int32) + ((0 : Int32) : Int32).toInt + 2) + ((own_hn (0 : Int32) + ((0 : Int32) : Int32).toInt + 2) + (0 : Int)))) := own_nn (own_cnt_rng (show own_cnt (0 : Int32) by decide)) own_rg0 hz8
    have hz6 : 0 ≤ ((own_hn (0 : Int32) + ((0 : Int32) : Int32).toInt + 2) + ((own_hn (0 : Int32) + ((0 : Int32) : Int32).toInt + 2) + ((own_hn (0 : Int32) + ((0 : Int32) : Int32).toInt + 2) + ((own_hn (0 : Int32) + ((0 : Int32) : Int32).toInt + 2) + (0 : Int))))) := own_nn (own_cnt_rng (show own_cnt (0 : Int32) by decide)) own_rg0 hz7
    have hz5 : 0 ≤ ((own_hn (0 : Int32) + ((0 : Int32) : Int32).toInt + 2) + ((own_hn (0 : Int32) + ((0 : Int32) : Int32).toInt + 2) + ((own_hn (0 : Int32) + ((0 : Int32) : Int32).toInt + 2) + ((own_hn (0 : Int32) + ((0 : Int32) : Int32).toInt + 2) + ((own_hn (0 : Int32) + ((0 : Int32) : Int32).toInt + 2) + (0 : Int)))))) := own_nn (own_cnt_rng (show own_cnt (0 : Int32) by decide)) own_rg0 hz6
    have hz4 : 0 ≤ ((own_hn (0 : Int32) + ((0 : Int32) : Int32).toInt + 2) + ((own_hn (0 : Int32) + ((0 : Int32) : Int32).toInt + 2) + ((own_hn (0 : Int32) + ((0 : Int32) : Int32).toInt + 2) + ((own_hn (0 : Int32) + ((0 : Int32) : Int32).toInt + 2) + ((own_hn (0 : Int32) + ((0 : Int32) : Int32).toInt + 2) + ((own_hn (0 : Int32) + ((0 : Int32) : Int32).toInt + 2) + (0 : Int))))))) := own_nn (own_cnt_rng (show own_cnt (0 : Int32) by decide)) own_rg0 hz5
    have hz3 : 0 ≤ ((own_hn (0 : Int32) + ((0 : Int32) : Int32).toInt + 2) + ((own_hn (0 : Int32) + ((0 : Int32) : Int32).toInt + 2) + ((own_hn (0 : Int32) + ((0 : Int32) : Int32).toInt + 2) + ((own_hn (0 : Int32) + ((0 : Int32) : Int32).toInt + 2) + ((own_hn (0 : Int32) + ((0 : Int32) : Int32).toInt + 2) + ((own_hn (0 : Int32) + ((0 : Int32) : Int32).toInt + 2) + ((own_hn (0 : Int32) + ((0 : Int32) : Int32).toInt + 2) + (0 : Int)))))))) := own_nn (own_cnt_rng (show own_cnt (0 : Int32) by decide)) own_rg0 hz4
    have hz2 : 0 ≤ ((own_hn (0 : Int32) + ((0 : Int32) : Int32).toInt + 2) + ((own_hn (0 : Int32) + ((0 : Int32) : Int32).toInt + 2) + ((own_hn (0 : Int32) + ((0 : Int32) : Int32).toInt + 2) + ((own_hn (0 : Int32) + ((0 : Int32) : Int32).toInt + 2) + ((own_hn (0 : Int32) + ((0 : Int32) : Int32).toInt + 2) + ((own_hn (0 : Int32) + ((0 : Int32) : Int32).toInt + 2) + ((own_hn (0 : Int32) + ((0 : Int32) : Int32).toInt + 2) + ((own_hn (0 : Int32) + ((0 : Int32) : Int32).toInt + 2) + (0 : Int))))))))) := own_nn (own_cnt_rng (show own_cnt (0 : Int32) by decide)) own_rg0 hz3
    have hz1 : 0 ≤ ((own_hn ln_64 + (ln_64 : Int32).toInt + 2) + ((own_hn (0 : Int32) + ((0 : Int32) : Int32).toInt + 2) + ((own_hn (0 : Int32) + ((0 : Int32) : Int32).toInt + 2) + ((own_hn (0 : Int32) + ((0 : Int32) : Int32).toInt + 2) + ((own_hn (0 : Int32) + ((0 : Int32) : Int32).toInt + 2) + ((own_hn (0 : Int32) + ((0 : Int32) : Int32).toInt + 2) + ((own_hn (0 : Int32) + ((0 : Int32) : Int32).toInt + 2) + ((own_hn (0 : Int32) + ((0 : Int32) : Int32).toInt + 2) + ((own_hn (0 : Int32) + ((0 : Int32) : Int32).toInt + 2) + (0 : Int)))))))))) := own_nn hrlb ⟨hrlb.1, hrlb.2.1⟩ hz2
    refine n_istore X131 hx hby at_169 (l' := #[.val (.int sp), .val (.long pa), .second, .val (.long pb), .second, .val (.int (3 : Int32)), .val (.int (10 : Int32)), .val (.int ln_63), .val (.int ln_64), .val (.ref ob_65), .val (.ref ob_67), .val (.ref ob68), .val (.ref ot_129), .val (.int az_131)]) rfl ?_
    refine n_iload X131 hx hby at_171 rfl ?_
    refine n_ifNo X131 hx hby at_173 ((if0 _ _).trans (tlt (by decide : (0 : Int32) < (10 : Int32))).2.2.2) ?_
    refine n_aload X131 hx hby at_176 rfl rfl ?_
    refine n_iload X131 hx hby at_178 rfl ?_
    refine n_iload X131 hx hby at_180 rfl ?_
    refine n_lloadN X131 hx hby at_182 rfl ?_
    refine o_ksc 3 12 120 (Jvm.LawKit.callS X131 hx (y := (⟨s1_, "body", "([BIIJ)I"⟩ : MethodName)) hown (mw hZ hw 34 rfl) (mw hZ hw 35 rfl) (mw hZ hw 2 rfl) (mw hZ hw 36 rfl) (by decide) (backOf (W := 0) (rm_body l Z a0 hw [] ot_129 kk_129 nn_129 cc_129 qa0 rs1 az_131 ln_63 pa T129.heap n0 O130 g129_0 r63_0 hc0 ha0 (own_k0 he0 hz1) hns0) hZ (own_w hw 36 rfl) (own_w hw 2 rfl) (by decide) (by decide)) (g := (mkF m 183 #[.val (.int sp), .val (.long pa), .second, .val (.long pb), .second, .val (.int (3 : Int32)), .val (.int (10 : Int32)), .val (.int ln_63), .val (.int ln_64), .val (.ref ob_65), .val (.ref ob_67), .val (.ref ob68), .val (.ref ot_129), .val (.int az_131)] [(.long pa), (.int ln_63), (.int az_131), (.ref ot_129)])) rfl (by rw [hml]; rfl) (argsL := [(.ref ot_129), (.int az_131), (.int ln_63), (.long pa)]) (rest := []) (lenOf own_pd__28_5bBIIJ_29I rfl) rfl own_z (hb hby at_183) (fun _ _ => ⟨rfl, K131, (by decide : 12 + 0 ≤ _), (by decide : 120 + 0 ≤ _)⟩)) fun T132 Lc132 _ X132 hQ132 => ?_
    obtain ⟨az_132, rfl, M132, K132, r132_0⟩ := hQ132
    have N132 := Fr.app N131 M132
    obtain ⟨lc132, X132, N132⟩ := own_lc X132 N132
    obtain ⟨qa1, e_qa1⟩ : ∃ z, z = qa0 ++ own_bd ln_63 (own_fl ln_63 pa) := ⟨_, rfl⟩
    have hc1 : cc_129 = qa1 ++ (own_bd ln_64 (own_fl ln_64 pb) ++ rs2) := by rw [hc0, e_qa1, List.append_assoc, e_rs1]
    have hl_qa1 : (qa1.length : Int) = (qa0.length : Int) + (own_hn ln_63 + (ln_63 : Int32).toInt + 2) := by rw [e_qa1]; exact own_lenA (own_bd_len r63_0 (own_fl_len (pp := pa) r63_0))
    have ha1 : az_132.toInt = (qa1.length : Int) := own_ha r132_0 ha0 hl_qa1
    have he1 : nn_129.toInt = (qa1.length : Int) + ((own_hn ln_64 + (ln_64 : Int32).toInt + 2) + ((own_hn (0 : Int32) + ((0 : Int32) : Int32).toInt + 2) + ((own_hn (0 : Int32) + ((0 : Int32) : Int32).toInt + 2) + ((own_hn (0 : Int32) + ((0 : Int32) : Int32).toInt + 2) + ((own_hn (0 : Int32) + ((0 : Int32) : Int32).toInt + 2) + ((own_hn (0 : Int32) + ((0 : Int32) : Int32).toInt + 2) + ((own_hn (0 : Int32) + ((0 : Int32) : Int32).toInt + 2) + ((own_hn (0 : Int32) + ((0 : Int32) : Int32).toInt + 2) + ((own_hn (0 : Int32) + ((0 : Int32) : Int32).toInt + 2) + (0 : Int)))))))))) := own_he he0 hl_qa1
    refine n_istore X132 hx hby at_186 (l' := #[.val (.int sp), .val (.long pa), .second, .val (.long pb), .second, .val (.int (3 : Int32)), .val (.int (10 : Int32)), .val (.int ln_63), .val (.int ln_64), .val (.ref ob_65), .val (.ref ob_67), .val (.ref ob68), .val (.ref ot_129), .val (.int az_132)]) rfl ?_
    refine n_iload X132 hx hby at_188 rfl ?_
    refine oIc X132 hx hby at_190 (z := (1 : Int32)) rfl ?_
    refine n_icmpNo X132 hx hby at_191 (tlt (by decide : (1 : Int32) < (10 : Int32))).2.2.2 ?_
    refine n_aload X132 hx hby at_194 rfl rfl ?_
    refine n_iload X132 hx hby at_196 rfl ?_
    refine n_iload X132 hx hby at_198 rfl ?_
    refine n_lloadN X132 hx hby at_200 rfl ?_
    refine o_ksc 3 12 120 (Jvm.LawKit.callS X132 hx (y := (⟨s1_, "body", "([BIIJ)I"⟩ : MethodName)) hown (mw hZ hw 34 rfl) (mw hZ hw 35 rfl) (mw hZ hw 2 rfl) (mw hZ hw 36 rfl) (by decide) (backOf (W := 0) (rm_body l Z a0 hw [] ot_129 kk_129 nn_129 cc_129 qa1 rs2 az_132 ln_64 pb T129.heap n0 O130 g129_0 r64_0 hc1 ha1 (own_k0 he1 hz2) hns0) hZ (own_w hw 36 rfl) (own_w hw 2 rfl) (by decide) (by decide)) (g := (mkF m 201 #[.val (.int sp), .val (.long pa), .second, .val (.long pb), .second, .val (.int (3 : Int32)), .val (.int (10 : Int32)), .val (.int ln_63), .val (.int ln_64), .val (.ref ob_65), .val (.ref ob_67), .val (.ref ob68), .val (.ref ot_129), .val (.int az_132)] [(.long pb), (.int ln_64), (.int az_132), (.ref ot_129)])) rfl (by rw [hml]; rfl) (argsL := [(.ref ot_129), (.int az_132), (.int ln_64), (.long pb)]) (rest := []) (lenOf own_pd__28_5bBIIJ_29I rfl) rfl own_z (hb hby at_201) (fun _ _ => ⟨rfl, K132, (by decide : 12 + 0 ≤ _), (by decide : 120 + 0 ≤ _)⟩)) fun T133 Lc133 _ X133 hQ133 => ?_
    obtain ⟨az_133, rfl, M133, K133, r133_0⟩ := hQ133
    have N133 := Fr.app N132 M133
    obtain ⟨lc133, X133, N133⟩ := own_lc X133 N133
    obtain ⟨qa2, e_qa2⟩ : ∃ z, z = qa1 ++ own_bd ln_64 (own_fl ln_64 pb) := ⟨_, rfl⟩
    have hc2 : cc_129 = qa2 ++ (own_bd (0 : Int32) (own_fl (0 : Int32) (0 : Int64)) ++ rs3) := by rw [hc1, e_qa2, List.append_assoc, e_rs2]
    have hl_qa2 : (qa2.length : Int) = (qa1.length : Int) + (own_hn ln_64 + (ln_64 : Int32).toInt + 2) := by rw [e_qa2]; exact own_lenA (own_bd_len r64_0 (own_fl_len (pp := pb) r64_0))
    have ha2 : az_133.toInt = (qa2.length : Int) := own_ha r133_0 ha1 hl_qa2
    have he2 : nn_129.toInt = (qa2.length : Int) + ((own_hn (0 : Int32) + ((0 : Int32) : Int32).toInt + 2) + ((own_hn (0 : Int32) + ((0 : Int32) : Int32).toInt + 2) + ((own_hn (0 : Int32) + ((0 : Int32) : Int32).toInt + 2) + ((own_hn (0 : Int32) + ((0 : Int32) : Int32).toInt + 2) + ((own_hn (0 : Int32) + ((0 : Int32) : Int32).toInt + 2) + ((own_hn (0 : Int32) + ((0 : Int32) : Int32).toInt + 2) + ((own_hn (0 : Int32) + ((0 : Int32) : Int32).toInt + 2) + ((own_hn (0 : Int32) + ((0 : Int32) : Int32).toInt + 2) + (0 : Int))))))))) := own_he he1 hl_qa2
    refine n_istore X133 hx hby at_204 (l' := #[.val (.int sp), .val (.long pa), .second, .val (.long pb), .second, .val (.int (3 : Int32)), .val (.int (10 : Int32)), .val (.int ln_63), .val (.int ln_64), .val (.ref ob_65), .val (.ref ob_67), .val (.ref ob68), .val (.ref ot_129), .val (.int az_133)]) rfl ?_
    refine n_iload X133 hx hby at_206 rfl ?_
    refine oIc X133 hx hby at_208 (z := (2 : Int32)) rfl ?_
    refine n_icmpNo X133 hx hby at_209 (tlt (by decide : (2 : Int32) < (10 : Int32))).2.2.2 ?_
    refine n_aload X133 hx hby at_212 rfl rfl ?_
    refine n_iload X133 hx hby at_214 rfl ?_
    refine oIc X133 hx hby at_216 (z := (0 : Int32)) rfl ?_
    refine ob_ (fun _ k => XS.lconst X133.here hx rfl (hb hby at_217) k) ?_
    show own_Go p e below (T133.setTop (mkF m 218 #[.val (.int sp), .val (.long pa), .second, .val (.long pb), .second, .val (.int (3 : Int32)), .val (.int (10 : Int32)), .val (.int ln_63), .val (.int ln_64), .val (.ref ob_65), .val (.ref ob_67), .val (.ref ob68), .val (.ref ot_129), .val (.int az_133)] [(.long (0 : Int64)), (.int (0 : Int32)), (.int az_133), (.ref ot_129)])) _
    refine o_ksc 3 12 120 (Jvm.LawKit.callS X133 hx (y := (⟨s1_, "body", "([BIIJ)I"⟩ : MethodName)) hown (mw hZ hw 34 rfl) (mw hZ hw 35 rfl) (mw hZ hw 2 rfl) (mw hZ hw 36 rfl) (by decide) (backOf (W := 0) (rm_body l Z a0 hw [] ot_129 kk_129 nn_129 cc_129 qa2 rs3 az_133 (0 : Int32) (0 : Int64) T129.heap n0 O130 g129_0 (by decide) hc2 ha2 (own_k0 he2 hz3) hns0) hZ (own_w hw 36 rfl) (own_w hw 2 rfl) (by decide) (by decide)) (g := (mkF m 218 #[.val (.int sp), .val (.long pa), .second, .val (.long pb), .second, .val (.int (3 : Int32)), .val (.int (10 : Int32)), .val (.int ln_63), .val (.int ln_64), .val (.ref ob_65), .val (.ref ob_67), .val (.ref ob68), .val (.ref ot_129), .val (.int az_133)] [(.long (0 : Int64)), (.int (0 : Int32)), (.int az_133), (.ref ot_129)])) rfl (by rw [hml]; rfl) (argsL := [(.ref ot_129), (.int az_133), (.int (0 : Int32)), (.long (0 : Int64))]) (rest := []) (lenOf own_pd__28_5bBIIJ_29I rfl) rfl own_z (hb hby at_218) (fun _ _ => ⟨rfl, K133, (by decide : 12 + 0 ≤ _), (by decide : 120 + 0 ≤ _)⟩)) fun T134 Lc134 _ X134 hQ134 => ?_
    obtain ⟨az_134, rfl, M134, K134, r134_0⟩ := hQ134
    have N134 := Fr.app N133 M134
    obtain ⟨lc134, X134, N134⟩ := own_lc X134 N134
    obtain ⟨qa3, e_qa3⟩ : ∃ z, z = qa2 ++ own_bd (0 : Int32) (own_fl (0 : Int32) (0 : Int64)) := ⟨_, rfl⟩
    have hc3 : cc_129 = qa3 ++ (own_bd (0 : Int32) (own_fl (0 : Int32) (0 : Int64)) ++ rs4) := by rw [hc2, e_qa3, List.append_assoc, e_rs3]
    have hl_qa3 : (qa3.length : Int) = (qa2.length : Int) + (own_hn (0 : Int32) + ((0 : Int32) : Int32).toInt + 2) := by rw [e_qa3]; exact own_lenA (own_bd_len (show own_cnt (0 : Int32) by decide) (own_fl_len (pp := (0 : Int64)) (show own_cnt (0 : Int32) by decide)))
    have ha3 : az_134.toInt = (qa3.length : Int) := own_ha r134_0 ha2 hl_qa3
    have he3 : nn_129.toInt = (qa3.length : Int) + ((own_hn (0 : Int32) + ((0 : Int32) : Int32).toInt + 2) + ((own_hn (0 : Int32) + ((0 : Int32) : Int32).toInt + 2) + ((own_hn (0 : Int32) + ((0 : Int32) : Int32).toInt + 2) + ((own_hn (0 : Int32) + ((0 : Int32) : Int32).toInt + 2) + ((own_hn (0 : Int32) + ((0 : Int32) : Int32).toInt + 2) + ((own_hn (0 : Int32) + ((0 : Int32) : Int32).toInt + 2) + ((own_hn (0 : Int32) + ((0 : Int32) : Int32).toInt + 2) + (0 : Int)))))))) := own_he he2 hl_qa3
    refine n_istore X134 hx hby at_221 (l' := #[.val (.int sp), .val (.long pa), .second, .val (.long pb), .second, .val (.int (3 : Int32)), .val (.int (10 : Int32)), .val (.int ln_63), .val (.int ln_64), .val (.ref ob_65), .val (.ref ob_67), .val (.ref ob68), .val (.ref ot_129), .val (.int az_134)]) rfl ?_
    refine n_aload X134 hx hby at_223 rfl rfl ?_
    refine n_iload X134 hx hby at_225 rfl ?_
    refine oIc X134 hx hby at_227 (z := (0 : Int32)) rfl ?_
    refine ob_ (fun _ k => XS.lconst X134.here hx rfl (hb hby at_228) k) ?_
    show own_Go p e below (T134.setTop (mkF m 229 #[.val (.int sp), .val (.long pa), .second, .val (.long pb), .second, .val (.int (3 : Int32)), .val (.int (10 : Int32)), .val (.int ln_63), .val (.int ln_64), .val (.ref ob_65), .val (.ref ob_67), .val (.ref ob68), .val (.ref ot_129), .val (.int az_134)] [(.long (0 : Int64)), (.int (0 : Int32)), (.int az_134), (.ref ot_129)])) _
    refine o_ksc 3 12 120 (Jvm.LawKit.callS X134 hx (y := (⟨s1_, "body", "([BIIJ)I"⟩ : MethodName)) hown (mw hZ hw 34 rfl) (mw hZ hw 35 rfl) (mw hZ hw 2 rfl) (mw hZ hw 36 rfl) (by decide) (backOf (W := 0) (rm_body l Z a0 hw [] ot_129 kk_129 nn_129 cc_129 qa3 rs4 az_134 (0 : Int32) (0 : Int64) T129.heap n0 O130 g129_0 (by decide) hc3 ha3 (own_k0 he3 hz4) hns0) hZ (own_w hw 36 rfl) (own_w hw 2 rfl) (by decide) (by decide)) (g := (mkF m 229 #[.val (.int sp), .val (.long pa), .second, .val (.long pb), .second, .val (.int (3 : Int32)), .val (.int (10 : Int32)), .val (.int ln_63), .val (.int ln_64), .val (.ref ob_65), .val (.ref ob_67), .val (.ref ob68), .val (.ref ot_129), .val (.int az_134)] [(.long (0 : Int64)), (.int (0 : Int32)), (.int az_134), (.ref ot_129)])) rfl (by rw [hml]; rfl) (argsL := [(.ref ot_129), (.int az_134), (.int (0 : Int32)), (.long (0 : Int64))]) (rest := []) (lenOf own_pd__28_5bBIIJ_29I rfl) rfl own_z (hb hby at_229) (fun _ _ => ⟨rfl, K134, (by decide : 12 + 0 ≤ _), (by decide : 120 + 0 ≤ _)⟩)) fun T135 Lc135 _ X135 hQ135 => ?_
    obtain ⟨az_135, rfl, M135, K135, r135_0⟩ := hQ135
    have N135 := Fr.app N134 M135
    obtain ⟨lc135, X135, N135⟩ := own_lc X135 N135
    obtain ⟨qa4, e_qa4⟩ : ∃ z, z = qa3 ++ own_bd (0 : Int32) (own_fl (0 : Int32) (0 : Int64)) := ⟨_, rfl⟩
    have hc4 : cc_129 = qa4 ++ (own_bd (0 : Int32) (own_fl (0 : Int32) (0 : Int64)) ++ rs5) := by rw [hc3, e_qa4, List.append_assoc, e_rs4]
    have hl_qa4 : (qa4.length : Int) = (qa3.length : Int) + (own_hn (0 : Int32) + ((0 : Int32) : Int32).toInt + 2) := by rw [e_qa4]; exact own_lenA (own_bd_len (show own_cnt (0 : Int32) by decide) (own_fl_len (pp := (0 : Int64)) (show own_cnt (0 : Int32) by decide)))
    have ha4 : az_135.toInt = (qa4.length : Int) := own_ha r135_0 ha3 hl_qa4
    have he4 : nn_129.toInt = (qa4.length : Int) + ((own_hn (0 : Int32) + ((0 : Int32) : Int32).toInt + 2) + ((own_hn (0 : Int32) + ((0 : Int32) : Int32).toInt + 2) + ((own_hn (0 : Int32) + ((0 : Int32) : Int32).toInt + 2) + ((own_hn (0 : Int32) + ((0 : Int32) : Int32).toInt + 2) + ((own_hn (0 : Int32) + ((0 : Int32) : Int32).toInt + 2) + ((own_hn (0 : Int32) + ((0 : Int32) : Int32).toInt + 2) + (0 : Int))))))) := own_he he3 hl_qa4
    refine n_istore X135 hx hby at_232 (l' := #[.val (.int sp), .val (.long pa), .second, .val (.long pb), .second, .val (.int (3 : Int32)), .val (.int (10 : Int32)), .val (.int ln_63), .val (.int ln_64), .val (.ref ob_65), .val (.ref ob_67), .val (.ref ob68), .val (.ref ot_129), .val (.int az_135)]) rfl ?_
    refine n_aload X135 hx hby at_234 rfl rfl ?_
    refine n_iload X135 hx hby at_236 rfl ?_
    refine oIc X135 hx hby at_238 (z := (0 : Int32)) rfl ?_
    refine ob_ (fun _ k => XS.lconst X135.here hx rfl (hb hby at_239) k) ?_
    show own_Go p e below (T135.setTop (mkF m 240 #[.val (.int sp), .val (.long pa), .second, .val (.long pb), .second, .val (.int (3 : Int32)), .val (.int (10 : Int32)), .val (.int ln_63), .val (.int ln_64), .val (.ref ob_65), .val (.ref ob_67), .val (.ref ob68), .val (.ref ot_129), .val (.int az_135)] [(.long (0 : Int64)), (.int (0 : Int32)), (.int az_135), (.ref ot_129)])) _
    refine o_ksc 3 12 120 (Jvm.LawKit.callS X135 hx (y := (⟨s1_, "body", "([BIIJ)I"⟩ : MethodName)) hown (mw hZ hw 34 rfl) (mw hZ hw 35 rfl) (mw hZ hw 2 rfl) (mw hZ hw 36 rfl) (by decide) (backOf (W := 0) (rm_body l Z a0 hw [] ot_129 kk_129 nn_129 cc_129 qa4 rs5 az_135 (0 : Int32) (0 : Int64) T129.heap n0 O130 g129_0 (by decide) hc4 ha4 (own_k0 he4 hz5) hns0) hZ (own_w hw 36 rfl) (own_w hw 2 rfl) (by decide) (by decide)) (g := (mkF m 240 #[.val (.int sp), .val (.long pa), .second, .val (.long pb), .second, .val (.int (3 : Int32)), .val (.int (10 : Int32)), .val (.int ln_63), .val (.int ln_64), .val (.ref ob_65), .val (.ref ob_67), .val (.ref ob68), .val (.ref ot_129), .val (.int az_135)] [(.long (0 : Int64)), (.int (0 : Int32)), (.int az_135), (.ref ot_129)])) rfl (by rw [hml]; rfl) (argsL := [(.ref ot_129), (.int az_135), (.int (0 : Int32)), (.long (0 : Int64))]) (rest := []) (lenOf own_pd__28_5bBIIJ_29I rfl) rfl own_z (hb hby at_240) (fun _ _ => ⟨rfl, K135, (by decide : 12 + 0 ≤ _), (by decide : 120 + 0 ≤ _)⟩)) fun T136 Lc136 _ X136 hQ136 => ?_
    obtain ⟨az_136, rfl, M136, K136, r136_0⟩ := hQ136
    have N136 := Fr.app N135 M136
    obtain ⟨lc136, X136, N136⟩ := own_lc X136 N136
    obtain ⟨qa5, e_qa5⟩ : ∃ z, z = qa4 ++ own_bd (0 : Int32) (own_fl (0 : Int32) (0 : Int64)) := ⟨_, rfl⟩
    have hc5 : cc_129 = qa5 ++ (own_bd (0 : Int32) (own_fl (0 : Int32) (0 : Int64)) ++ rs6) := by rw [hc4, e_qa5, List.append_assoc, e_rs5]
    have hl_qa5 : (qa5.length : Int) = (qa4.length : Int) + (own_hn (0 : Int32) + ((0 : Int32) : Int32).toInt + 2) := by rw [e_qa5]; exact own_lenA (own_bd_len (show own_cnt (0 : Int32) by decide) (own_fl_len (pp := (0 : Int64)) (show own_cnt (0 : Int32) by decide)))
    have ha5 : az_136.toInt = (qa5.length : Int) := own_ha r136_0 ha4 hl_qa5
    have he5 : nn_129.toInt = (qa5.length : Int) + ((own_hn (0 : Int32) + ((0 : Int32) : Int32).toInt + 2) + ((own_hn (0 : Int32) + ((0 : Int32) : Int32).toInt + 2) + ((own_hn (0 : Int32) + ((0 : Int32) : Int32).toInt + 2) + ((own_hn (0 : Int32) + ((0 : Int32) : Int32).toInt + 2) + ((own_hn (0 : Int32) + ((0 : Int32) : Int32).toInt + 2) + (0 : Int)))))) := own_he he4 hl_qa5
    refine n_istore X136 hx hby at_243 (l' := #[.val (.int sp), .val (.long pa), .second, .val (.long pb), .second, .val (.int (3 : Int32)), .val (.int (10 : Int32)), .val (.int ln_63), .val (.int ln_64), .val (.ref ob_65), .val (.ref ob_67), .val (.ref ob68), .val (.ref ot_129), .val (.int az_136)]) rfl ?_
    refine n_aload X136 hx hby at_245 rfl rfl ?_
    refine n_iload X136 hx hby at_247 rfl ?_
    refine oIc X136 hx hby at_249 (z := (0 : Int32)) rfl ?_
    refine ob_ (fun _ k => XS.lconst X136.here hx rfl (hb hby at_250) k) ?_
    show own_Go p e below (T136.setTop (mkF m 251 #[.val (.int sp), .val (.long pa), .second, .val (.long pb), .second, .val (.int (3 : Int32)), .val (.int (10 : Int32)), .val (.int ln_63), .val (.int ln_64), .val (.ref ob_65), .val (.ref ob_67), .val (.ref ob68), .val (.ref ot_129), .val (.int az_136)] [(.long (0 : Int64)), (.int (0 : Int32)), (.int az_136), (.ref ot_129)])) _
    refine o_ksc 3 12 120 (Jvm.LawKit.callS X136 hx (y := (⟨s1_, "body", "([BIIJ)I"⟩ : MethodName)) hown (mw hZ hw 34 rfl) (mw hZ hw 35 rfl) (mw hZ hw 2 rfl) (mw hZ hw 36 rfl) (by decide) (backOf (W := 0) (rm_body l Z a0 hw [] ot_129 kk_129 nn_129 cc_129 qa5 rs6 az_136 (0 : Int32) (0 : Int64) T129.heap n0 O130 g129_0 (by decide) hc5 ha5 (own_k0 he5 hz6) hns0) hZ (own_w hw 36 rfl) (own_w hw 2 rfl) (by decide) (by decide)) (g := (mkF m 251 #[.val (.int sp), .val (.long pa), .second, .val (.long pb), .second, .val (.int (3 : Int32)), .val (.int (10 : Int32)), .val (.int ln_63), .val (.int ln_64), .val (.ref ob_65), .val (.ref ob_67), .val (.ref ob68), .val (.ref ot_129), .val (.int az_136)] [(.long (0 : Int64)), (.int (0 : Int32)), (.int az_136), (.ref ot_129)])) rfl (by rw [hml]; rfl) (argsL := [(.ref ot_129), (.int az_136), (.int (0 : Int32)), (.long (0 : Int64))]) (rest := []) (lenOf own_pd__28_5bBIIJ_29I rfl) rfl own_z (hb hby at_251) (fun _ _ => ⟨rfl, K136, (by decide : 12 + 0 ≤ _), (by decide : 120 + 0 ≤ _)⟩)) fun T137 Lc137 _ X137 hQ137 => ?_
    obtain ⟨az_137, rfl, M137, K137, r137_0⟩ := hQ137
    have N137 := Fr.app N136 M137
    obtain ⟨lc137, X137, N137⟩ := own_lc X137 N137
    obtain ⟨qa6, e_qa6⟩ : ∃ z, z = qa5 ++ own_bd (0 : Int32) (own_fl (0 : Int32) (0 : Int64)) := ⟨_, rfl⟩
    have hc6 : cc_129 = qa6 ++ (own_bd (0 : Int32) (own_fl (0 : Int32) (0 : Int64)) ++ rs7) := by rw [hc5, e_qa6, List.append_assoc, e_rs6]
    have hl_qa6 : (qa6.length : Int) = (qa5.length : Int) + (own_hn (0 : Int32) + ((0 : Int32) : Int32).toInt + 2) := by rw [e_qa6]; exact own_lenA (own_bd_len (show own_cnt (0 : Int32) by decide) (own_fl_len (pp := (0 : Int64)) (show own_cnt (0 : Int32) by decide)))
    have ha6 : az_137.toInt = (qa6.length : Int) := own_ha r137_0 ha5 hl_qa6
    have he6 : nn_129.toInt = (qa6.length : Int) + ((own_hn (0 : Int32) + ((0 : Int32) : Int32).toInt + 2) + ((own_hn (0 : Int32) + ((0 : Int32) : Int32).toInt + 2) + ((own_hn (0 : Int32) + ((0 : Int32) : Int32).toInt + 2) + ((own_hn (0 : Int32) + ((0 : Int32) : Int32).toInt + 2) + (0 : Int))))) := own_he he5 hl_qa6
    refine n_istore X137 hx hby at_254 (l' := #[.val (.int sp), .val (.long pa), .second, .val (.long pb), .second, .val (.int (3 : Int32)), .val (.int (10 : Int32)), .val (.int ln_63), .val (.int ln_64), .val (.ref ob_65), .val (.ref ob_67), .val (.ref ob68), .val (.ref ot_129), .val (.int az_137)]) rfl ?_
    refine n_aload X137 hx hby at_256 rfl rfl ?_
    refine n_iload X137 hx hby at_258 rfl ?_
    refine oIc X137 hx hby at_260 (z := (0 : Int32)) rfl ?_
    refine ob_ (fun _ k => XS.lconst X137.here hx rfl (hb hby at_261) k) ?_
    show own_Go p e below (T137.setTop (mkF m 262 #[.val (.int sp), .val (.long pa), .second, .val (.long pb), .second, .val (.int (3 : Int32)), .val (.int (10 : Int32)), .val (.int ln_63), .val (.int ln_64), .val (.ref ob_65), .val (.ref ob_67), .val (.ref ob68), .val (.ref ot_129), .val (.int az_137)] [(.long (0 : Int64)), (.int (0 : Int32)), (.int az_137), (.ref ot_129)])) _
    refine o_ksc 3 12 120 (Jvm.LawKit.callS X137 hx (y := (⟨s1_, "body", "([BIIJ)I"⟩ : MethodName)) hown (mw hZ hw 34 rfl) (mw hZ hw 35 rfl) (mw hZ hw 2 rfl) (mw hZ hw 36 rfl) (by decide) (backOf (W := 0) (rm_body l Z a0 hw [] ot_129 kk_129 nn_129 cc_129 qa6 rs7 az_137 (0 : Int32) (0 : Int64) T129.heap n0 O130 g129_0 (by decide) hc6 ha6 (own_k0 he6 hz7) hns0) hZ (own_w hw 36 rfl) (own_w hw 2 rfl) (by decide) (by decide)) (g := (mkF m 262 #[.val (.int sp), .val (.long pa), .second, .val (.long pb), .second, .val (.int (3 : Int32)), .val (.int (10 : Int32)), .val (.int ln_63), .val (.int ln_64), .val (.ref ob_65), .val (.ref ob_67), .val (.ref ob68), .val (.ref ot_129), .val (.int az_137)] [(.long (0 : Int64)), (.int (0 : Int32)), (.int az_137), (.ref ot_129)])) rfl (by rw [hml]; rfl) (argsL := [(.ref ot_129), (.int az_137), (.int (0 : Int32)), (.long (0 : Int64))]) (rest := []) (lenOf own_pd__28_5bBIIJ_29I rfl) rfl own_z (hb hby at_262) (fun _ _ => ⟨rfl, K137, (by decide : 12 + 0 ≤ _), (by decide : 120 + 0 ≤ _)⟩)) fun T138 Lc138 _ X138 hQ138 => ?_
    obtain ⟨az_138, rfl, M138, K138, r138_0⟩ := hQ138
    have N138 := Fr.app N137 M138
    obtain ⟨lc138, X138, N138⟩ := own_lc X138 N138
    obtain ⟨qa7, e_qa7⟩ : ∃ z, z = qa6 ++ own_bd (0 : Int32) (own_fl (0 : Int32) (0 : Int64)) := ⟨_, rfl⟩
    have hc7 : cc_129 = qa7 ++ (own_bd (0 : Int32) (own_fl (0 : Int32) (0 : Int64)) ++ rs8) := by rw [hc6, e_qa7, List.append_assoc, e_rs7]
    have hl_qa7 : (qa7.length : Int) = (qa6.length : Int) + (own_hn (0 : Int32) + ((0 : Int32) : Int32).toInt + 2) := by rw [e_qa7]; exact own_lenA (own_bd_len (show own_cnt (0 : Int32) by decide) (own_fl_len (pp := (0 : Int64)) (show own_cnt (0 : Int32) by decide)))
    have ha7 : az_138.toInt = (qa7.length : Int) := own_ha r138_0 ha6 hl_qa7
    have he7 : nn_129.toInt = (qa7.length : Int) + ((own_hn (0 : Int32) + ((0 : Int32) : Int32).toInt + 2) + ((own_hn (0 : Int32) + ((0 : Int32) : Int32).toInt + 2) + ((own_hn (0 : Int32) + ((0 : Int32) : Int32).toInt + 2) + (0 : Int)))) := own_he he6 hl_qa7
    refine n_istore X138 hx hby at_265 (l' := #[.val (.int sp), .val (.long pa), .second, .val (.long pb), .second, .val (.int (3 : Int32)), .val (.int (10 : Int32)), .val (.int ln_63), .val (.int ln_64), .val (.ref ob_65), .val (.ref ob_67), .val (.ref ob68), .val (.ref ot_129), .val (.int az_138)]) rfl ?_
    refine n_aload X138 hx hby at_267 rfl rfl ?_
    refine n_iload X138 hx hby at_269 rfl ?_
    refine oIc X138 hx hby at_271 (z := (0 : Int32)) rfl ?_
    refine ob_ (fun _ k => XS.lconst X138.here hx rfl (hb hby at_272) k) ?_
    show own_Go p e below (T138.setTop (mkF m 273 #[.val (.int sp), .val (.long pa), .second, .val (.long pb), .second, .val (.int (3 : Int32)), .val (.int (10 : Int32)), .val (.int ln_63), .val (.int ln_64), .val (.ref ob_65), .val (.ref ob_67), .val (.ref ob68), .val (.ref ot_129), .val (.int az_138)] [(.long (0 : Int64)), (.int (0 : Int32)), (.int az_138), (.ref ot_129)])) _
    refine o_ksc 3 12 120 (Jvm.LawKit.callS X138 hx (y := (⟨s1_, "body", "([BIIJ)I"⟩ : MethodName)) hown (mw hZ hw 34 rfl) (mw hZ hw 35 rfl) (mw hZ hw 2 rfl) (mw hZ hw 36 rfl) (by decide) (backOf (W := 0) (rm_body l Z a0 hw [] ot_129 kk_129 nn_129 cc_129 qa7 rs8 az_138 (0 : Int32) (0 : Int64) T129.heap n0 O130 g129_0 (by decide) hc7 ha7 (own_k0 he7 hz8) hns0) hZ (own_w hw 36 rfl) (own_w hw 2 rfl) (by decide) (by decide)) (g := (mkF m 273 #[.val (.int sp), .val (.long pa), .second, .val (.long pb), .second, .val (.int (3 : Int32)), .val (.int (10 : Int32)), .val (.int ln_63), .val (.int ln_64), .val (.ref ob_65), .val (.ref ob_67), .val (.ref ob68), .val (.ref ot_129), .val (.int az_138)] [(.long (0 : Int64)), (.int (0 : Int32)), (.int az_138), (.ref ot_129)])) rfl (by rw [hml]; rfl) (argsL := [(.ref ot_129), (.int az_138), (.int (0 : Int32)), (.long (0 : Int64))]) (rest := []) (lenOf own_pd__28_5bBIIJ_29I rfl) rfl own_z (hb hby at_273) (fun _ _ => ⟨rfl, K138, (by decide : 12 + 0 ≤ _), (by decide : 120 + 0 ≤ _)⟩)) fun T139 Lc139 _ X139 hQ139 => ?_
    obtain ⟨az_139, rfl, M139, K139, r139_0⟩ := hQ139
    have N139 := Fr.app N138 M139
    obtain ⟨lc139, X139, N139⟩ := own_lc X139 N139
    obtain ⟨qa8, e_qa8⟩ : ∃ z, z = qa7 ++ own_bd (0 : Int32) (own_fl (0 : Int32) (0 : Int64)) := ⟨_, rfl⟩
    have hc8 : cc_129 = qa8 ++ (own_bd (0 : Int32) (own_fl (0 : Int32) (0 : Int64)) ++ rs9) := by rw [hc7, e_qa8, List.append_assoc, e_rs8]
    have hl_qa8 : (qa8.length : Int) = (qa7.length : Int) + (own_hn (0 : Int32) + ((0 : Int32) : Int32).toInt + 2) := by rw [e_qa8]; exact own_lenA (own_bd_len (show own_cnt (0 : Int32) by decide) (own_fl_len (pp := (0 : Int64)) (show own_cnt (0 : Int32) by decide)))
    have ha8 : az_139.toInt = (qa8.length : Int) := own_ha r139_0 ha7 hl_qa8
    have he8 : nn_129.toInt = (qa8.length : Int) + ((own_hn (0 : Int32) + ((0 : Int32) : Int32).toInt + 2) + ((own_hn (0 : Int32) + ((0 : Int32) : Int32).toInt + 2) + (0 : Int))) := own_he he7 hl_qa8
    refine n_istore X139 hx hby at_276 (l' := #[.val (.int sp), .val (.long pa), .second, .val (.long pb), .second, .val (.int (3 : Int32)), .val (.int (10 : Int32)), .val (.int ln_63), .val (.int ln_64), .val (.ref ob_65), .val (.ref ob_67), .val (.ref ob68), .val (.ref ot_129), .val (.int az_139)]) rfl ?_
    refine n_aload X139 hx hby at_278 rfl rfl ?_
    refine n_iload X139 hx hby at_280 rfl ?_
    refine oIc X139 hx hby at_282 (z := (0 : Int32)) rfl ?_
    refine ob_ (fun _ k => XS.lconst X139.here hx rfl (hb hby at_283) k) ?_
    show own_Go p e below (T139.setTop (mkF m 284 #[.val (.int sp), .val (.long pa), .second, .val (.long pb), .second, .val (.int (3 : Int32)), .val (.int (10 : Int32)), .val (.int ln_63), .val (.int ln_64), .val (.ref ob_65), .val (.ref ob_67), .val (.ref ob68), .val (.ref ot_129), .val (.int az_139)] [(.long (0 : Int64)), (.int (0 : Int32)), (.int az_139), (.ref ot_129)])) _
    refine o_ksc 3 12 120 (Jvm.LawKit.callS X139 hx (y := (⟨s1_, "body", "([BIIJ)I"⟩ : MethodName)) hown (mw hZ hw 34 rfl) (mw hZ hw 35 rfl) (mw hZ hw 2 rfl) (mw hZ hw 36 rfl) (by decide) (backOf (W := 0) (rm_body l Z a0 hw [] ot_129 kk_129 nn_129 cc_129 qa8 rs9 az_139 (0 : Int32) (0 : Int64) T129.heap n0 O130 g129_0 (by decide) hc8 ha8 (own_k0 he8 hz9) hns0) hZ (own_w hw 36 rfl) (own_w hw 2 rfl) (by decide) (by decide)) (g := (mkF m 284 #[.val (.int sp), .val (.long pa), .second, .val (.long pb), .second, .val (.int (3 : Int32)), .val (.int (10 : Int32)), .val (.int ln_63), .val (.int ln_64), .val (.ref ob_65), .val (.ref ob_67), .val (.ref ob68), .val (.ref ot_129), .val (.int az_139)] [(.long (0 : Int64)), (.int (0 : Int32)), (.int az_139), (.ref ot_129)])) rfl (by rw [hml]; rfl) (argsL := [(.ref ot_129), (.int az_139), (.int (0 : Int32)), (.long (0 : Int64))]) (rest := []) (lenOf own_pd__28_5bBIIJ_29I rfl) rfl own_z (hb hby at_284) (fun _ _ => ⟨rfl, K139, (by decide : 12 + 0 ≤ _), (by decide : 120 + 0 ≤ _)⟩)) fun T140 Lc140 _ X140 hQ140 => ?_
    obtain ⟨az_140, rfl, M140, K140, r140_0⟩ := hQ140
    have N140 := Fr.app N139 M140
    obtain ⟨lc140, X140, N140⟩ := own_lc X140 N140
    obtain ⟨qa9, e_qa9⟩ : ∃ z, z = qa8 ++ own_bd (0 : Int32) (own_fl (0 : Int32) (0 : Int64)) := ⟨_, rfl⟩
    have hc9 : cc_129 = qa9 ++ (own_bd (0 : Int32) (own_fl (0 : Int32) (0 : Int64)) ++ ([] : List Value)) := by rw [hc8, e_qa9, List.append_assoc, e_rs9]
    have hl_qa9 : (qa9.length : Int) = (qa8.length : Int) + (own_hn (0 : Int32) + ((0 : Int32) : Int32).toInt + 2) := by rw [e_qa9]; exact own_lenA (own_bd_len (show own_cnt (0 : Int32) by decide) (own_fl_len (pp := (0 : Int64)) (show own_cnt (0 : Int32) by decide)))
    have ha9 : az_140.toInt = (qa9.length : Int) := own_ha r140_0 ha8 hl_qa9
    have he9 : nn_129.toInt = (qa9.length : Int) + ((own_hn (0 : Int32) + ((0 : Int32) : Int32).toInt + 2) + (0 : Int)) := own_he he8 hl_qa9
    refine n_istore X140 hx hby at_287 (l' := #[.val (.int sp), .val (.long pa), .second, .val (.long pb), .second, .val (.int (3 : Int32)), .val (.int (10 : Int32)), .val (.int ln_63), .val (.int ln_64), .val (.ref ob_65), .val (.ref ob_67), .val (.ref ob68), .val (.ref ot_129), .val (.int az_140)]) rfl ?_
    refine n_aload X140 hx hby at_289 rfl rfl ?_
    refine n_iload X140 hx hby at_291 rfl ?_
    refine oIc X140 hx hby at_293 (z := (0 : Int32)) rfl ?_
    refine ob_ (fun _ k => XS.lconst X140.here hx rfl (hb hby at_294) k) ?_
    show own_Go p e below (T140.setTop (mkF m 295 #[.val (.int sp), .val (.long pa), .second, .val (.long pb), .second, .val (.int (3 : Int32)), .val (.int (10 : Int32)), .val (.int ln_63), .val (.int ln_64), .val (.ref ob_65), .val (.ref ob_67), .val (.ref ob68), .val (.ref ot_129), .val (.int az_140)] [(.long (0 : Int64)), (.int (0 : Int32)), (.int az_140), (.ref ot_129)])) _
    refine o_ksc 3 12 120 (Jvm.LawKit.callS X140 hx (y := (⟨s1_, "body", "([BIIJ)I"⟩ : MethodName)) hown (mw hZ hw 34 rfl) (mw hZ hw 35 rfl) (mw hZ hw 2 rfl) (mw hZ hw 36 rfl) (by decide) (backOf (W := 0) (rm_body l Z a0 hw [] ot_129 kk_129 nn_129 cc_129 qa9 ([] : List Value) az_140 (0 : Int32) (0 : Int64) T129.heap n0 O130 g129_0 (by decide) hc9 ha9 (own_k0 he9 hz10) hns0) hZ (own_w hw 36 rfl) (own_w hw 2 rfl) (by decide) (by decide)) (g := (mkF m 295 #[.val (.int sp), .val (.long pa), .second, .val (.long pb), .second, .val (.int (3 : Int32)), .val (.int (10 : Int32)), .val (.int ln_63), .val (.int ln_64), .val (.ref ob_65), .val (.ref ob_67), .val (.ref ob68), .val (.ref ot_129), .val (.int az_140)] [(.long (0 : Int64)), (.int (0 : Int32)), (.int az_140), (.ref ot_129)])) rfl (by rw [hml]; rfl) (argsL := [(.ref ot_129), (.int az_140), (.int (0 : Int32)), (.long (0 : Int64))]) (rest := []) (lenOf own_pd__28_5bBIIJ_29I rfl) rfl own_z (hb hby at_295) (fun _ _ => ⟨rfl, K140, (by decide : 12 + 0 ≤ _), (by decide : 120 + 0 ≤ _)⟩)) fun T141 Lc141 _ X141 hQ141 => ?_
    obtain ⟨az_141, rfl, M141, K141, r141_0⟩ := hQ141
    have N141 := Fr.app N140 M141
    obtain ⟨lc141, X141, N141⟩ := own_lc X141 N141
    obtain ⟨qa10, e_qa10⟩ : ∃ z, z = qa9 ++ own_bd (0 : Int32) (own_fl (0 : Int32) (0 : Int64)) := ⟨_, rfl⟩
    have hl_qa10 : (qa10.length : Int) = (qa9.length : Int) + (own_hn (0 : Int32) + ((0 : Int32) : Int32).toInt + 2) := by rw [e_qa10]; exact own_lenA (own_bd_len (show own_cnt (0 : Int32) by decide) (own_fl_len (pp := (0 : Int64)) (show own_cnt (0 : Int32) by decide)))
    have ha10 : az_141.toInt = (qa10.length : Int) := own_ha r141_0 ha9 hl_qa10
    have he10 : nn_129.toInt = (qa10.length : Int) + (0 : Int) := own_he he9 hl_qa10
    refine n_istore X141 hx hby at_298 (l' := #[.val (.int sp), .val (.long pa), .second, .val (.long pb), .second, .val (.int (3 : Int32)), .val (.int (10 : Int32)), .val (.int ln_63), .val (.int ln_64), .val (.ref ob_65), .val (.ref ob_67), .val (.ref ob68), .val (.ref ot_129), .val (.int az_141)]) rfl ?_
    refine n_iload X141 hx hby at_300 rfl ?_
    refine n_aload X141 hx hby at_302 rfl rfl ?_
    obtain ⟨cl142, Ar142, q142, S142, M142, H142, G142⟩ := (id g129_0)
    refine ob_ (X141.arraylength hx (by rw [K141]; exact Ar142.1) (State.isArrayOf_alike hZ.alike Ar142.2.1) (g := (mkF m 304 #[.val (.int sp), .val (.long pa), .second, .val (.long pb), .second, .val (.int (3 : Int32)), .val (.int (10 : Int32)), .val (.int ln_63), .val (.int ln_64), .val (.ref ob_65), .val (.ref ob_67), .val (.ref ob68), .val (.ref ot_129), .val (.int az_141)] [(.ref ot_129), (.int az_141)])) rfl rfl (hb hby at_304)) ?_
    rw [len_of S142 M142]
    show own_Go p e below (T141.setTop (mkF m 305 #[.val (.int sp), .val (.long pa), .second, .val (.long pb), .second, .val (.int (3 : Int32)), .val (.int (10 : Int32)), .val (.int ln_63), .val (.int ln_64), .val (.ref ob_65), .val (.ref ob_67), .val (.ref ob68), .val (.ref ot_129), .val (.int az_141)] [(.int nn_129), (.int az_141)])) _
    have hend : az_141 = nn_129 := Int32.toInt_inj.mp (own_hend ha10 he10)
    refine n_icmpNo X141 hx hby at_305 (teq hend).2 ?_
    refine oIc X141 hx hby at_308 (z := (1 : Int32)) rfl ?_
    refine n_goto X141 hx hby at_309 (pc0 := 309) (pc' := 313) rfl (by decide) (by decide) ?_
    have lx144 : own_LE h0.size ob68 := own_mkLE (by omega)
    have K143 : Keep h0 T129.heap [] := (((((((((((((((((((((((Keep.refl h0 []).trans K65 all0).trans K67 all0).ext E68).wr W70 (Or.inr (own_unLE lx144))).wr W74 (Or.inr (own_unLE lx144))).ext E76).wr W79 (Or.inr (own_unLE lx144))).ext E80).wr W83 (Or.inr (own_unLE lx144))).ext E84).wr W87 (Or.inr (own_unLE lx144))).ext E88).wr W91 (Or.inr (own_unLE lx144))).ext E92).wr W95 (Or.inr (own_unLE lx144))).ext E96).wr W99 (Or.inr (own_unLE lx144))).ext E100).wr W103 (Or.inr (own_unLE lx144))).ext E104).wr W107 (Or.inr (own_unLE lx144))).trans K129 all0)
    obtain ⟨fs, hr, hrun, hended, hW, hsame⟩ := X141.leave (v := some (.int (1 : Int32))) (fun h => by rw [Bd.returns] at h; cases h)
    refine ⟨_, _, retN X141 hx (t := .boolean) Bd.returns (by simp) (hb hby at_313) hr, hrun, hended, _, _, rfl, ?_, ⟨_, rfl⟩, hW, hsame.mono (by decide) (by decide)⟩
    show Q_rm_law Z sp pa pb h0 n0 _ T141.heap _
    rw [K141]
    exact ⟨rfl, N141, K143⟩
set_option maxRecDepth 65536 in
set_option maxHeartbeats 40000000 in
theorem comes_1 {Post : Tables → Env → Array Value → State → Outcome → State → Prop} (hpost : ∀ tb e args s v u, (limb_1_1.after args s (.returned v) u = true ∧ limb_1_2.after args s (.returned v) u = true ∧ True) → FrameEnd s (.returned v) u (Jvm.fieldLocs frame_1_writes args s ++ Jvm.arrayLocs frame_1_arrays args s ++ Jvm.staticLocs frame_1_statics s) 32 320 → Post tb e args s (.returned v) u) :
    ArmFor flags0 classFile x code maxLocals ret World_1 tables_1 room_1 Calls_1 rest_1 Pre_1 Post := by
  intro l hfl _ _ p e ha hc hk s m args below hf hA hF happ hP
  obtain ⟨hcalls, hrest, hpre⟩ := hP
  obtain ⟨-, -, -, hnamed, -, -, -, hat⟩ := (Spec.applies_iff hf).mp happ
  obtain ⟨hg, hn⟩ := and_e (Cond.before_iff.mp (show (Jvm.Cond.and given_1 narrow_1).before args s = true from hpre))
  obtain ⟨hh0, hg0⟩ := and_e hg
  obtain ⟨hh1, hg1⟩ := and_e hg0
  obtain ⟨hh2, hg2⟩ := and_e hg1
  obtain ⟨w0, w1, w2, rfl⟩ : ∃ w0 w1 w2 : Value, args = #[w0, w1, w2] := by
    have hs : args.size = 3 := by simpa [Cond.value, given_1] using hh0
    obtain ⟨L⟩ := args
    match L, hs with
    | [w0, w1, w2], _ => exact ⟨w0, w1, w2, rfl⟩
  have hw := fun d (hd : d ∈ tables_1) => atoms_spec (ws := Jvm.Cond.code x code maxLocals ret :: tables_1) hat d (List.mem_cons_of_mem _ hd)
  have hfit : Fit s := fun {y c} hc i hi => by
    obtain ⟨ha, rfl⟩ := Array.getElem?_eq_some_iff.mp hc
    have q := List.all_eq_true.mp ((Array.all_eq_true_iff_forall_mem.mp hF) _ (Array.getElem_mem ha)) i (List.mem_range.mpr hi)
    simpa [Array.getElem?_eq_getElem hi] using q
  obtain ⟨i0, ea0⟩ := is_v hh1
  obtain rfl : w0 = (.int i0) := Option.some.inj ea0
  obtain ⟨i1, ea1⟩ := isL_v hh2
  obtain rfl : w1 = (.long i1) := Option.some.inj ea1
  obtain ⟨i2, ea2⟩ := isL_v hg2
  obtain rfl : w2 = (.long i2) := Option.some.inj ea2
  obtain ⟨n, o, h1, h2, h3, _, L, rfl, ⟨rfl, N, -⟩, hq⟩ := rm_law l s _ hw tables_1 i0 i1 i2  s.heap s.heap.size (Old.start s)  p e ha hc hk s m _ below hf ((Spec.applies_iff_loose hf).mp happ).1 ⟨rfl, State.Warmed39.refl s, rfl⟩ trivial
  refine ⟨n, _, h1, h2, h3, hpost _ _ _ _ _ _ ⟨Cond.after_iff.mpr rfl, Cond.after_iff.mpr (eq_i res_at (Term.int_eval (1)) rfl), trivial⟩ ⟨hq.1, hq.2.1, (hq.2.2.sift fun y hy => Or.inr (N y hy)).mono (by decide) (by decide)⟩⟩
theorem main_1_1 : Claimed_1_1 := comes_1 fun _ _ _ _ _ _ h hF => ⟨h.1, hF⟩
theorem main_1_2 : Claimed_1_2 := comes_1 fun _ _ _ _ _ _ h hF => ⟨h.2.1, hF⟩
end Jvm.Pilot.@@N@@
namespace Jvm.Pilot.@@N@@
open Jvm Jvm.ClassFile Sem Op Lib Jvm.Free Jvm.Stand Jvm.Pilot.@@N@@.Jvm.D
/-! MADE BY PROGRAM (witnessworld.py) out of the Statement's table words and the real class files: 10 classes; the members and pool entries that the words name. The judged class is class 1, her method 1. -/
namespace start1
open Jvm.ClassFile
def u (s : String) : CpInfo := .utf8 (stringToUtf16 s)
/-- a pool by its gaps: so many unusable entries, then the entry; so many at the end -/
def gap : Nat → List CpInfo → List CpInfo
  | 0, r => r
  | n + 1, r => .unusable :: gap n r
def poolList (es : List (Nat × CpInfo)) (last : Nat) : List CpInfo := es.foldr (fun e r => gap e.1 (e.2 :: r)) (gap last [])
def pool (es : List (Nat × CpInfo)) (last : Nat) : Array CpInfo := ⟨poolList es last⟩
def fileOf (pool : Array CpInfo) (this : Nat) (attrs : Array Attribute := #[]) (ms : Array MethodInfo := #[]) (fl : Nat := 33) (sup : Nat := 0) (ifs : Array Nat := #[]) (fds : Array FieldInfo := #[]) : ClassFile where
  minorVersion := 0
  majorVersion := 65
  constantPool := pool
  accessFlags := fl
  thisClass := this
  superClass := sup
  interfaces := ifs
  fields := fds
  methods := ms
  attributes := attrs
def plain (name : String) (sup : Option ClassId) : Class where
  name := name
  kind := .ordinary
  loader := none
  accessFlags := 33
  super := sup
  interfaces := #[]
  cf := none
  fields := #[]
  methods := #[]
  instanceTypes := #[]
  staticTypes := #[]
  resolved := #[]
  callSites := []
  init := .initialized
  statics := none
  mirror := none

def pool0 : Array CpInfo := pool [(5, u "<init>"), (0, u "()V"), (1, .class_ 10), (1, u "java/lang/Object")] 113

def k0m0 : Method := { name := "<init>", desc := "()V", sig := { parameters := [], returnType := none }, accessFlags := 1, code := none }
/-- java/lang/Object -/
def k0 : Class := { plain "java/lang/Object" none with
  accessFlags := 33
  interfaces := #[]
  cf := some (fileOf pool0 8 #[] #[{ accessFlags := 1, nameIndex := 5, descriptorIndex := 6, attributes := #[] }] 33 0 #[] #[])
  fields := #[]
  methods := #[k0m0]
  instanceTypes := #[]
  staticTypes := #[]
  resolved := Array.replicate 124 none
  statics := none }

def pool1 : Array CpInfo := pool [(2, .class_ 4), (1, u "java/lang/Object"), (0, u "<init>"), (0, u "()V"), (0, .methodref 8 9), (0, .class_ 10), (0, .nameAndType 11 12), (0, u "com/example/living_lease/livinglease/redis/RespCommandPinLaw"), (0, u "lengthOf"), (0, u "(I)I"), (0, .methodref 8 14), (0, .nameAndType 15 16), (0, u "fill"), (0, u "(IJ)[B"), (0, .class_ 18), (0, u "[B"), (0, .methodref 20 21), (0, .class_ 22), (0, .nameAndType 23 24), (0, u "com/example/living_lease/livinglease/redis/Resp"), (0, u "command"), (0, u "([[B)[B"), (0, .methodref 8 26), (0, .nameAndType 27 28), (0, u "header"), (0, u "([BICI)I"), (0, .methodref 8 30), (0, .nameAndType 31 32), (0, u "body"), (0, u "([BIIJ)I"), (0, .methodref 8 34), (0, .nameAndType 35 36), (0, u "byteAt"), (0, u "(JI)B"), (2, u "law"), (0, u "(IJJ)Z")] 5

def k1m0 : Method := { name := "<init>", desc := "()V", sig := { parameters := [], returnType := none }, accessFlags := 1, code := none }
def k1c1 : Code := { maxStack := 5, maxLocals := 14, code := code, exceptionTable := #[], attributes := #[] }
def k1m1 : Method := { name := "law", desc := "(IJJ)Z", sig := { parameters := [.int, .long, .long], returnType := some .boolean }, accessFlags := 9, code := some k1c1 }
def k1c2 : Code := { maxStack := 2, maxLocals := 1, code := method_3_code, exceptionTable := #[], attributes := #[] }
def k1m2 : Method := { name := "lengthOf", desc := "(I)I", sig := { parameters := [.int], returnType := some .int }, accessFlags := 10, code := some k1c2 }
def k1c3 : Code := { maxStack := 4, maxLocals := 3, code := method_4_code, exceptionTable := #[], attributes := #[] }
def k1m3 : Method := { name := "byteAt", desc := "(JI)B", sig := { parameters := [.long, .int], returnType := some .byte }, accessFlags := 10, code := some k1c3 }
def k1c4 : Code := { maxStack := 5, maxLocals := 4, code := method_5_code, exceptionTable := #[], attributes := #[] }
def k1m4 : Method := { name := "fill", desc := "(IJ)[B", sig := { parameters := [.int, .long], returnType := some (.array .byte) }, accessFlags := 10, code := some k1c4 }
def k1c5 : Code := { maxStack := 4, maxLocals := 6, code := method_6_code, exceptionTable := #[], attributes := #[] }
def k1m5 : Method := { name := "header", desc := "([BICI)I", sig := { parameters := [(.array .byte), .int, .char, .int], returnType := some .int }, accessFlags := 10, code := some k1c5 }
def k1c6 : Code := { maxStack := 4, maxLocals := 7, code := method_7_code, exceptionTable := #[], attributes := #[] }
def k1m6 : Method := { name := "body", desc := "([BIIJ)I", sig := { parameters := [(.array .byte), .int, .int, .long], returnType := some .int }, accessFlags := 10, code := some k1c6 }
/-- com/example/living_lease/livinglease/redis/RespCommandPinLaw -/
def k1 : Class := { plain "com/example/living_lease/livinglease/redis/RespCommandPinLaw" (some 0) with
  accessFlags := 49
  interfaces := #[]
  cf := some (fileOf pool1 8 #[] #[{ accessFlags := 1, nameIndex := 5, descriptorIndex := 6, attributes := #[] }, { accessFlags := 9, nameIndex := 39, descriptorIndex := 40, attributes := #[] }, { accessFlags := 10, nameIndex := 11, descriptorIndex := 12, attributes := #[] }, { accessFlags := 10, nameIndex := 35, descriptorIndex := 36, attributes := #[] }, { accessFlags := 10, nameIndex := 15, descriptorIndex := 16, attributes := #[] }, { accessFlags := 10, nameIndex := 27, descriptorIndex := 28, attributes := #[] }, { accessFlags := 10, nameIndex := 31, descriptorIndex := 32, attributes := #[] }] 49 2 #[] #[])
  fields := #[]
  methods := #[k1m0, k1m1, k1m2, k1m3, k1m4, k1m5, k1m6]
  instanceTypes := #[]
  staticTypes := #[]
  resolved := Array.replicate 46 none
  statics := none }

def pool2 : Array CpInfo := pool [(2, .class_ 4), (1, u "java/lang/Object"), (0, u "<init>"), (0, u "()V"), (0, .methodref 8 9), (0, .class_ 10), (0, .nameAndType 11 12), (0, u "com/example/living_lease/livinglease/redis/Resp"), (0, u "decimalLength"), (0, u "(I)I"), (0, .methodref 8 14), (0, .nameAndType 15 16), (0, u "writeHeader"), (0, u "([BICI)I"), (0, .methodref 18 19), (0, .class_ 20), (0, .nameAndType 21 22), (0, u "java/lang/System"), (0, u "arraycopy"), (0, u "(Ljava/lang/Object;ILjava/lang/Object;II)V"), (0, .methodref 8 24), (0, .nameAndType 25 26), (0, u "writeCrLf"), (0, u "([BI)I"), (16, u "command"), (0, u "([[B)[B"), (0, .class_ 46), (0, u "com/example/living_lease/livinglease/redis/Resp$Parse"), (9, u "INCOMPLETE"), (0, u "Ljava/lang/Object;"), (3, u "I"), (6, u "CR_LF_BYTES"), (2, u "LONGEST_LINE_BYTES"), (1, u "LONGEST_BULK_BYTES"), (0, u "J"), (17, .class_ 93), (0, u "com/example/living_lease/livinglease/redis/Resp$Error")] 3

def k2m0 : Method := { name := "<init>", desc := "()V", sig := { parameters := [], returnType := none }, accessFlags := 2, code := none }
def k2c1 : Code := { maxStack := 5, maxLocals := 8, code := prog_9_method_2_code, exceptionTable := #[], attributes := #[] }
def k2m1 : Method := { name := "command", desc := "([[B)[B", sig := { parameters := [(.array (.array .byte))], returnType := some (.array .byte) }, accessFlags := 136, code := some k2c1 }
def k2c2 : Code := { maxStack := 5, maxLocals := 7, code := prog_9_method_5_code, exceptionTable := #[], attributes := #[] }
def k2m2 : Method := { name := "writeHeader", desc := "([BICI)I", sig := { parameters := [(.array .byte), .int, .char, .int], returnType := some .int }, accessFlags := 10, code := some k2c2 }
def k2c3 : Code := { maxStack := 3, maxLocals := 2, code := prog_9_method_6_code, exceptionTable := #[], attributes := #[] }
def k2m3 : Method := { name := "writeCrLf", desc := "([BI)I", sig := { parameters := [(.array .byte), .int], returnType := some .int }, accessFlags := 10, code := some k2c3 }
def k2c4 : Code := { maxStack := 2, maxLocals := 3, code := prog_9_method_7_code, exceptionTable := #[], attributes := #[] }
def k2m4 : Method := { name := "decimalLength", desc := "(I)I", sig := { parameters := [.int], returnType := some .int }, accessFlags := 10, code := some k2c4 }
/-- com/example/living_lease/livinglease/redis/Resp -/
def k2 : Class := { plain "com/example/living_lease/livinglease/redis/Resp" (some 0) with
  accessFlags := 48
  interfaces := #[]
  cf := some (fileOf pool2 8 #[.nestMembers #[45, 92]] #[{ accessFlags := 2, nameIndex := 5, descriptorIndex := 6, attributes := #[] }, { accessFlags := 136, nameIndex := 43, descriptorIndex := 44, attributes := #[] }, { accessFlags := 10, nameIndex := 15, descriptorIndex := 16, attributes := #[] }, { accessFlags := 10, nameIndex := 25, descriptorIndex := 26, attributes := #[] }, { accessFlags := 10, nameIndex := 11, descriptorIndex := 12, attributes := #[] }] 48 2 #[] #[{ accessFlags := 24, nameIndex := 56, descriptorIndex := 57, attributes := #[] }, { accessFlags := 26, nameIndex := 68, descriptorIndex := 61, attributes := #[] }, { accessFlags := 26, nameIndex := 71, descriptorIndex := 61, attributes := #[] }, { accessFlags := 26, nameIndex := 73, descriptorIndex := 74, attributes := #[] }])
  fields := #[{ name := "INCOMPLETE", type := (.object "java/lang/Object"), accessFlags := 24, slot := 0, constantValue := 0 }, { name := "CR_LF_BYTES", type := .int, accessFlags := 26, slot := 1, constantValue := 0 }, { name := "LONGEST_LINE_BYTES", type := .int, accessFlags := 26, slot := 2, constantValue := 0 }, { name := "LONGEST_BULK_BYTES", type := .long, accessFlags := 26, slot := 3, constantValue := 0 }]
  methods := #[k2m0, k2m1, k2m2, k2m3, k2m4]
  instanceTypes := #[]
  staticTypes := #[(.object "java/lang/Object"), .int, .int, .long]
  resolved := Array.replicate 97 none
  statics := none }

def pool3 : Array CpInfo := pool [(2, .class_ 4), (1, u "java/lang/Object"), (0, u "<init>"), (0, u "()V"), (1, .class_ 10), (1, u "java/lang/System"), (0, u "allowSecurityManager"), (0, u "I"), (16, u "cons"), (0, u "Ljava/io/Console;"), (77, .class_ 110), (1, u "java/lang/System$CallersHolder"), (43, u "initialErrStream"), (0, u "Ljava/io/PrintStream;"), (19, u "security"), (0, u "Ljava/lang/SecurityManager;"), (31, .class_ 209), (0, u "java/lang/System$1"), (7, u "props"), (0, u "Ljava/util/Properties;"), (2, u "lineSeparator"), (0, u "Ljava/lang/String;"), (96, .class_ 321), (1, u "java/lang/System$LoggerFinder"), (5, .class_ 328), (0, u "java/lang/System$Logger"), (67, u "err"), (2, u "out"), (91, u "notSupportedJnuEncoding"), (15, u "in"), (17, u "initialIn"), (0, u "Ljava/io/InputStream;"), (35, u "bootLayer"), (0, u "Ljava/lang/ModuleLayer;"), (99, .class_ 664), (0, u "java/lang/System$2"), (9, u "NEVER"), (2, u "MAYBE"), (49, u "arraycopy"), (0, u "(Ljava/lang/Object;ILjava/lang/Object;II)V"), (72, .class_ 802), (0, u "java/lang/System$Logger$Level")] 31

def k3m0 : Method := { name := "<init>", desc := "()V", sig := { parameters := [], returnType := none }, accessFlags := 2, code := none }
def k3m1 : Method := { name := "arraycopy", desc := "(Ljava/lang/Object;ILjava/lang/Object;II)V", sig := { parameters := [(.object "java/lang/Object"), .int, (.object "java/lang/Object"), .int, .int], returnType := none }, accessFlags := 265, code := none }
/-- java/lang/System -/
def k3 : Class := { plain "java/lang/System" (some 0) with
  accessFlags := 49
  interfaces := #[]
  cf := some (fileOf pool3 8 #[.nestMembers #[319, 327, 801, 108, 663, 208]] #[{ accessFlags := 2, nameIndex := 5, descriptorIndex := 6, attributes := #[] }, { accessFlags := 265, nameIndex := 727, descriptorIndex := 728, attributes := #[] }] 49 2 #[] #[{ accessFlags := 25, nameIndex := 507, descriptorIndex := 526, attributes := #[] }, { accessFlags := 25, nameIndex := 399, descriptorIndex := 155, attributes := #[] }, { accessFlags := 25, nameIndex := 396, descriptorIndex := 155, attributes := #[] }, { accessFlags := 10, nameIndex := 525, descriptorIndex := 526, attributes := #[] }, { accessFlags := 26, nameIndex := 674, descriptorIndex := 12, attributes := #[] }, { accessFlags := 26, nameIndex := 677, descriptorIndex := 12, attributes := #[] }, { accessFlags := 10, nameIndex := 11, descriptorIndex := 12, attributes := #[] }, { accessFlags := 74, nameIndex := 175, descriptorIndex := 176, attributes := #[] }, { accessFlags := 10, nameIndex := 491, descriptorIndex := 222, attributes := #[] }, { accessFlags := 74, nameIndex := 29, descriptorIndex := 30, attributes := #[] }, { accessFlags := 74, nameIndex := 154, descriptorIndex := 155, attributes := #[] }, { accessFlags := 10, nameIndex := 217, descriptorIndex := 218, attributes := #[] }, { accessFlags := 10, nameIndex := 221, descriptorIndex := 222, attributes := #[] }, { accessFlags := 8, nameIndex := 562, descriptorIndex := 563, attributes := #[] }])
  fields := #[{ name := "in", type := (.object "java/io/InputStream"), accessFlags := 25, slot := 0, constantValue := 0 }, { name := "out", type := (.object "java/io/PrintStream"), accessFlags := 25, slot := 1, constantValue := 0 }, { name := "err", type := (.object "java/io/PrintStream"), accessFlags := 25, slot := 2, constantValue := 0 }, { name := "initialIn", type := (.object "java/io/InputStream"), accessFlags := 10, slot := 3, constantValue := 0 }, { name := "NEVER", type := .int, accessFlags := 26, slot := 4, constantValue := 0 }, { name := "MAYBE", type := .int, accessFlags := 26, slot := 5, constantValue := 0 }, { name := "allowSecurityManager", type := .int, accessFlags := 10, slot := 6, constantValue := 0 }, { name := "security", type := (.object "java/lang/SecurityManager"), accessFlags := 74, slot := 7, constantValue := 0 }, { name := "notSupportedJnuEncoding", type := (.object "java/lang/String"), accessFlags := 10, slot := 8, constantValue := 0 }, { name := "cons", type := (.object "java/io/Console"), accessFlags := 74, slot := 9, constantValue := 0 }, { name := "initialErrStream", type := (.object "java/io/PrintStream"), accessFlags := 74, slot := 10, constantValue := 0 }, { name := "props", type := (.object "java/util/Properties"), accessFlags := 10, slot := 11, constantValue := 0 }, { name := "lineSeparator", type := (.object "java/lang/String"), accessFlags := 10, slot := 12, constantValue := 0 }, { name := "bootLayer", type := (.object "java/lang/ModuleLayer"), accessFlags := 8, slot := 13, constantValue := 0 }]
  methods := #[k3m0, k3m1]
  instanceTypes := #[]
  staticTypes := #[(.object "java/io/InputStream"), (.object "java/io/PrintStream"), (.object "java/io/PrintStream"), (.object "java/io/InputStream"), .int, .int, .int, (.object "java/lang/SecurityManager"), (.object "java/lang/String"), (.object "java/io/Console"), (.object "java/io/PrintStream"), (.object "java/util/Properties"), (.object "java/lang/String"), (.object "java/lang/ModuleLayer")]
  resolved := Array.replicate 834 none
  statics := none }

def pool4 : Array CpInfo := pool [(1, u "java/lang/Cloneable"), (0, .class_ 1), (0, u "java/lang/Object"), (0, .class_ 3)] 3

/-- java/lang/Cloneable -/
def k4 : Class := { plain "java/lang/Cloneable" (some 0) with
  accessFlags := 1537
  interfaces := #[]
  cf := some (fileOf pool4 2 #[] #[] 1537 4 #[] #[])
  fields := #[]
  methods := #[]
  instanceTypes := #[]
  staticTypes := #[]
  resolved := Array.replicate 8 none
  statics := none }

def pool5 : Array CpInfo := pool [(1, u "java/io/Serializable"), (0, .class_ 1), (0, u "java/lang/Object"), (0, .class_ 3)] 3

/-- java/io/Serializable -/
def k5 : Class := { plain "java/io/Serializable" (some 0) with
  accessFlags := 1537
  interfaces := #[]
  cf := some (fileOf pool5 2 #[] #[] 1537 4 #[] #[])
  fields := #[]
  methods := #[]
  instanceTypes := #[]
  staticTypes := #[]
  resolved := Array.replicate 8 none
  statics := none }

/-- the primitive byte -/
def k6 : Class := { plain "byte" none with kind := .primitive 'B', accessFlags := 0x411 }
/-- [B -/
def k7 : Class := { plain "[B" (some 0) with kind := .array 6 .byte, interfaces := #[4, 5], accessFlags := 1041 }

/-- the primitive int -/
def k8 : Class := { plain "int" none with kind := .primitive 'I', accessFlags := 0x411 }
/-- [I -/
def k9 : Class := { plain "[I" (some 0) with kind := .array 8 .int, interfaces := #[4, 5], accessFlags := 1041 }

def k10 : Class := { plain "[[B" (some 0) with kind := .array 7 (.array .byte), interfaces := #[4, 5], accessFlags := 1041 }
def heap : Heap := #[]
def classes : Array Class := #[k0, k1, k2, k3, k4, k5, k6, k7, k8, k9, k10]
def interned : List (Array UInt16 × Addr) := []
def slotsUsed : Nat := 0
def theMethod : MethodId := ⟨1, 1⟩
def args0 : Array Value := #[.int 5, .long 7, .long 9]
def aboutOver (below : List Frame) : State where
  vm := { classes := classes, interned := interned.toArray }
  heap := heap
  slotsUsed := slotsUsed
  threads := #[{ frames := .invoking theMethod args0 :: below }]
def below0 : List Frame := [.native { method := ⟨0, 0⟩, args := #[] }]
def about1 : State := aboutOver below0
def p0 : Program := .bare "" "" ""
def e0 : Env := launch0.env 0 0 0
theorem w_frames : about1.frames = Frame.invoking theMethod args0 :: below0 := rfl
set_option maxRecDepth 65536 in
theorem w_args : argsFit about1.vm theMethod args0 = true := by decide +kernel
set_option maxRecDepth 65536 in
theorem w_heap : heapFits about1 = true := by decide +kernel
set_option maxRecDepth 65536 in
theorem w_runnable : about1.curStatus? = some .runnable := by decide +kernel
set_option maxRecDepth 65536 in
theorem w_alone : about1.alone = true := by decide +kernel
set_option maxRecDepth 65536 in
theorem w_named : about1.methodNamed? x = some theMethod := by decide +kernel
set_option maxRecDepth 65536 in
theorem w_hears : about1.hears theMethod below0 = true := by decide +kernel
set_option maxRecDepth 65536 in
theorem w_ripe : about1.ripe theMethod args0 below0 = true := by decide +kernel
theorem w_running : about1.status = .running := rfl
set_option maxRecDepth 65536 in
theorem w_room : about1.hasRoom e0.platform room_1 = true :=
  launch0.hasRoom_least _ room_1 (by decide +kernel) (by decide +kernel) (by decide +kernel) (by decide +kernel) (by decide +kernel) (by decide +kernel)
theorem allAtoms_all (ts : List Jvm.Cond) (a : Array Jvm.Value) (st : Jvm.State) : (allAtoms ts).before a st = ts.all (fun c => c.before a st) := by
  induction ts with
  | nil => rfl
  | cons c t ih =>
    show (Jvm.Cond.and c (allAtoms t)).before a st = _
    rw [Jvm.Cond.before_and, ih, List.all_cons]
def words1 : List Jvm.Cond := Jvm.Cond.code x code maxLocals ret :: tables_1
/-- a 'code' word, met by the world's own term for the bytes: nothing is compared byte by byte -/
theorem code_word {y : MethodName} {bytes : ByteArray} {mx : Nat} {rt : Option FieldType} {a : Array Value} {s : State} {m : MethodId} {meth : Method} {c : Code} (h1 : s.methodNamed? y = some m) (h2 : s.vm.method? m = some meth) (h3 : meth.code = some c) (h4 : c.code = bytes)
    (h5 : (c.maxLocals == mx && c.exceptionTable.isEmpty && decide (c.maxStack ≤ mostOperands) && decide (meth.sig.returnType = rt) && !meth.locks && decide (parseMethodDescriptor y.desc = some meth.sig)) = true) : (Jvm.Cond.code y bytes mx rt).before a s = true := by
  simp only [Bool.and_eq_true, beq_iff_eq, Bool.not_eq_true', decide_eq_true_eq] at h5
  obtain ⟨⟨⟨⟨⟨g1, g2⟩, g3⟩, g4⟩, g5⟩, g6⟩ := h5
  simp [Cond.before, Cond.holds, Cond.value, h1, h2, h3, h4, g1, g2, g3, g4, g5, g6]
def isCode : Jvm.Cond → Bool
  | .code _ _ _ _ => true
  | _ => false
theorem all_split {L : List Jvm.Cond} {P : Jvm.Cond → Bool} (h1 : L.all (fun c => isCode c || P c) = true) (h2 : ∀ c ∈ L.filter isCode, P c = true) : L.all P = true := by
  refine List.all_eq_true.mpr fun c hc => ?_
  have h := List.all_eq_true.mp h1 c hc
  rcases Bool.eq_false_or_eq_true (isCode c) with hi | hi
  · exact h2 c (List.mem_filter.mpr ⟨hc, hi⟩)
  · simpa [hi] using h
set_option maxRecDepth 65536 in
theorem w_c0 : (Jvm.Cond.code x code maxLocals ret).before args0 about1 = true := code_word (m := ⟨1, 1⟩) (meth := k1m1) (c := k1c1) (by decide +kernel) rfl rfl rfl (by decide +kernel)
set_option maxRecDepth 65536 in
theorem w_c1 : (Jvm.Cond.code ({ cls := "com/example/living_lease/livinglease/redis/RespCommandPinLaw", name := "lengthOf", desc := "(I)I" } : Jvm.MethodName) method_3_code (1 : Nat) (Option.some Jvm.ClassFile.FieldType.int)).before args0 about1 = true := code_word (m := ⟨1, 2⟩) (meth := k1m2) (c := k1c2) (by decide +kernel) rfl rfl rfl (by decide +kernel)
set_option maxRecDepth 65536 in
theorem w_c2 : (Jvm.Cond.code ({ cls := "com/example/living_lease/livinglease/redis/RespCommandPinLaw", name := "fill", desc := "(IJ)[B" } : Jvm.MethodName) method_5_code (4 : Nat) (Option.some (Jvm.ClassFile.FieldType.array Jvm.ClassFile.FieldType.byte))).before args0 about1 = true := code_word (m := ⟨1, 4⟩) (meth := k1m4) (c := k1c4) (by decide +kernel) rfl rfl rfl (by decide +kernel)
set_option maxRecDepth 65536 in
theorem w_c3 : (Jvm.Cond.code ({ cls := "com/example/living_lease/livinglease/redis/Resp", name := "command", desc := "([[B)[B" } : Jvm.MethodName) prog_9_method_2_code (8 : Nat) (Option.some (Jvm.ClassFile.FieldType.array Jvm.ClassFile.FieldType.byte))).before args0 about1 = true := code_word (m := ⟨2, 1⟩) (meth := k2m1) (c := k2c1) (by decide +kernel) rfl rfl rfl (by decide +kernel)
set_option maxRecDepth 65536 in
theorem w_c4 : (Jvm.Cond.code ({ cls := "com/example/living_lease/livinglease/redis/Resp", name := "decimalLength", desc := "(I)I" } : Jvm.MethodName) prog_9_method_7_code (3 : Nat) (Option.some Jvm.ClassFile.FieldType.int)).before args0 about1 = true := code_word (m := ⟨2, 4⟩) (meth := k2m4) (c := k2c4) (by decide +kernel) rfl rfl rfl (by decide +kernel)
set_option maxRecDepth 65536 in
theorem w_c5 : (Jvm.Cond.code ({ cls := "com/example/living_lease/livinglease/redis/Resp", name := "writeHeader", desc := "([BICI)I" } : Jvm.MethodName) prog_9_method_5_code (7 : Nat) (Option.some Jvm.ClassFile.FieldType.int)).before args0 about1 = true := code_word (m := ⟨2, 2⟩) (meth := k2m2) (c := k2c2) (by decide +kernel) rfl rfl rfl (by decide +kernel)
set_option maxRecDepth 65536 in
theorem w_c6 : (Jvm.Cond.code ({ cls := "com/example/living_lease/livinglease/redis/Resp", name := "writeCrLf", desc := "([BI)I" } : Jvm.MethodName) prog_9_method_6_code (2 : Nat) (Option.some Jvm.ClassFile.FieldType.int)).before args0 about1 = true := code_word (m := ⟨2, 3⟩) (meth := k2m3) (c := k2c3) (by decide +kernel) rfl rfl rfl (by decide +kernel)
set_option maxRecDepth 65536 in
theorem w_c7 : (Jvm.Cond.code ({ cls := "com/example/living_lease/livinglease/redis/RespCommandPinLaw", name := "header", desc := "([BICI)I" } : Jvm.MethodName) method_6_code (6 : Nat) (Option.some Jvm.ClassFile.FieldType.int)).before args0 about1 = true := code_word (m := ⟨1, 5⟩) (meth := k1m5) (c := k1c5) (by decide +kernel) rfl rfl rfl (by decide +kernel)
set_option maxRecDepth 65536 in
theorem w_c8 : (Jvm.Cond.code ({ cls := "com/example/living_lease/livinglease/redis/RespCommandPinLaw", name := "byteAt", desc := "(JI)B" } : Jvm.MethodName) method_4_code (3 : Nat) (Option.some Jvm.ClassFile.FieldType.byte)).before args0 about1 = true := code_word (m := ⟨1, 3⟩) (meth := k1m3) (c := k1c3) (by decide +kernel) rfl rfl rfl (by decide +kernel)
set_option maxRecDepth 65536 in
theorem w_c9 : (Jvm.Cond.code ({ cls := "com/example/living_lease/livinglease/redis/RespCommandPinLaw", name := "body", desc := "([BIIJ)I" } : Jvm.MethodName) method_7_code (7 : Nat) (Option.some Jvm.ClassFile.FieldType.int)).before args0 about1 = true := code_word (m := ⟨1, 6⟩) (meth := k1m6) (c := k1c6) (by decide +kernel) rfl rfl rfl (by decide +kernel)
def codes1 : List Jvm.Cond := [Jvm.Cond.code x code maxLocals ret, Jvm.Cond.code ({ cls := "com/example/living_lease/livinglease/redis/RespCommandPinLaw", name := "lengthOf", desc := "(I)I" } : Jvm.MethodName) method_3_code (1 : Nat) (Option.some Jvm.ClassFile.FieldType.int), Jvm.Cond.code ({ cls := "com/example/living_lease/livinglease/redis/RespCommandPinLaw", name := "fill", desc := "(IJ)[B" } : Jvm.MethodName) method_5_code (4 : Nat) (Option.some (Jvm.ClassFile.FieldType.array Jvm.ClassFile.FieldType.byte)), Jvm.Cond.code ({ cls := "com/example/living_lease/livinglease/redis/Resp", name := "command", desc := "([[B)[B" } : Jvm.MethodName) prog_9_method_2_code (8 : Nat) (Option.some (Jvm.ClassFile.FieldType.array Jvm.ClassFile.FieldType.byte)), Jvm.Cond.code ({ cls := "com/example/living_lease/livinglease/redis/Resp", name := "decimalLength", desc := "(I)I" } : Jvm.MethodName) prog_9_method_7_code (3 : Nat) (Option.some Jvm.ClassFile.FieldType.int), Jvm.Cond.code ({ cls := "com/example/living_lease/livinglease/redis/Resp", name := "writeHeader", desc := "([BICI)I" } : Jvm.MethodName) prog_9_method_5_code (7 : Nat) (Option.some Jvm.ClassFile.FieldType.int), Jvm.Cond.code ({ cls := "com/example/living_lease/livinglease/redis/Resp", name := "writeCrLf", desc := "([BI)I" } : Jvm.MethodName) prog_9_method_6_code (2 : Nat) (Option.some Jvm.ClassFile.FieldType.int), Jvm.Cond.code ({ cls := "com/example/living_lease/livinglease/redis/RespCommandPinLaw", name := "header", desc := "([BICI)I" } : Jvm.MethodName) method_6_code (6 : Nat) (Option.some Jvm.ClassFile.FieldType.int), Jvm.Cond.code ({ cls := "com/example/living_lease/livinglease/redis/RespCommandPinLaw", name := "byteAt", desc := "(JI)B" } : Jvm.MethodName) method_4_code (3 : Nat) (Option.some Jvm.ClassFile.FieldType.byte), Jvm.Cond.code ({ cls := "com/example/living_lease/livinglease/redis/RespCommandPinLaw", name := "body", desc := "([BIIJ)I" } : Jvm.MethodName) method_7_code (7 : Nat) (Option.some Jvm.ClassFile.FieldType.int)]
set_option maxRecDepth 65536 in
theorem codes_eq : words1.filter isCode = codes1 := rfl
theorem w_codes : ∀ c ∈ words1.filter isCode, c.before args0 about1 = true := by
  rw [codes_eq]
  intro c hc
  simp only [codes1, List.mem_cons, List.not_mem_nil, or_false] at hc
  rcases hc with rfl | rfl | rfl | rfl | rfl | rfl | rfl | rfl | rfl | rfl
  · exact w_c0
  · exact w_c1
  · exact w_c2
  · exact w_c3
  · exact w_c4
  · exact w_c5
  · exact w_c6
  · exact w_c7
  · exact w_c8
  · exact w_c9
set_option maxRecDepth 65536 in
theorem w_t1 : (words1.take 24).all (fun c => isCode c || c.before args0 about1) = true := by decide +kernel
set_option maxRecDepth 65536 in
theorem w_t2 : (words1.drop 24).all (fun c => isCode c || c.before args0 about1) = true := by decide +kernel
theorem w_tables : (allAtoms (Jvm.Cond.code x code maxLocals ret :: tables_1)).before args0 about1 = true := by
  rw [allAtoms_all]
  show words1.all (fun c => c.before args0 about1) = true
  refine all_split ?_ w_codes
  rw [← List.take_append_drop 24 words1, List.all_append, w_t1, w_t2]
  rfl
set_option maxRecDepth 65536 in
theorem w_case : (Jvm.Cond.and given_1 narrow_1).before args0 about1 = true := by decide +kernel
theorem w_applies : (headSpec (Jvm.Cond.code x code maxLocals ret :: tables_1) room_1).applies x e0.platform about1 = true :=
  (Spec.applies_iff w_frames).mpr ⟨w_running, w_runnable, w_alone, w_named, w_hears, w_ripe, w_room, w_tables⟩
theorem atStart : AtStart classFile x code maxLocals ret World_1 tables_1 room_1 Calls_1 rest_1 Pre_1 launch0 p0 e0 about1 theMethod args0 below0 :=
  ⟨lists_1, trivial, launch0.admits_env _ _ _, launch0.least_env, fairChoices_fair.cas, fairChoices_fair.clock, w_frames, w_args, w_heap, w_applies, trivial, trivial, w_case⟩
end start1
theorem witness_1 : WitnessClaimed_1 := ⟨start1.p0, start1.e0, start1.about1, start1.theMethod, start1.args0, start1.below0, start1.atStart⟩
end Jvm.Pilot.@@N@@
