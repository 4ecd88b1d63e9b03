import JvmDerived
import JvmDerived.Pilot.@@N@@Statement
import JvmDerived.Pilot.@@N@@Code
set_option linter.unusedVariables false
set_option linter.unusedSimpArgs false
namespace Jvm.Pilot.@@N@@
open Jvm Jvm.ClassFile Sem Op Lib Jvm.Free Jvm.Stand Jvm.LawKit Jvm.RoadKit Bundle Jvm.Pilot.@@N@@.Jvm.D
section OwnKit
variable {p : Program} {l : Launch} {e : Env} {R : Room} {s : State} {m : MethodId} {args : Array Value} {below : List Frame} {meth : Method} {c : Code} {T : State} {locs : List Loc} {cells slots : Nat}
theorem retI (X : Stand p l e R s m args below meth c T locs cells slots) (hx : p.tables.exec = Jvm.exec) {pc : Nat} {Ls : Array Slot} {z : Int32} {rest : List Value} (hret : meth.sig.returnType = some .int) (hd : decode c.code pc = .ok (.ireturn, 1)) {fs : List Frame}
    (hl : ∀ (f : JFrame) (acts : List Action), f.method = m → f.locked = none → f.entered = [] → (doReturn e (T.setTop f) acts (some (.int z))).1 = T.setFrames fs) : Steps p.tables e below (T.setTop (mkF m pc Ls (.int z :: rest))) (T.setFrames fs) :=
  retOut X hx hret rfl (Or.inl ⟨rfl, Or.inl rfl, z, rfl⟩) hd hl
theorem oretJ (X : Stand p l e R s m args below meth c T locs cells slots) (hx : p.tables.exec = Jvm.exec) {pc : Nat} {Ls : Array Slot} {z : Int64} {rest : List Value} (hret : meth.sig.returnType = some .long) (hd : decode c.code pc = .ok (.lreturn, 1)) {fs : List Frame}
    (hl : ∀ (f : JFrame) (acts : List Action), f.method = m → f.locked = none → f.entered = [] → (doReturn e (T.setTop f) acts (some (.long z))).1 = T.setFrames fs) : Steps p.tables e below (T.setTop (mkF m pc Ls (.long z :: rest))) (T.setFrames fs) :=
  retOut X hx hret rfl (Or.inr (Or.inl ⟨rfl, rfl, z, rfl⟩)) hd hl
theorem oretA (X : Stand p l e R s m args below meth c T locs cells slots) (hx : p.tables.exec = Jvm.exec) {pc : Nat} {Ls : Array Slot} {w : Value} {t : FieldType} {rest : List Value} (hret : meth.sig.returnType = some t) (ht : t.isReference = true) (hw : w.isRef = true) (hd : decode c.code pc = .ok (.areturn, 1)) {fs : List Frame}
    (hl : ∀ (f : JFrame) (acts : List Action), f.method = m → f.locked = none → f.entered = [] → (doReturn e (T.setTop f) acts (some w)).1 = T.setFrames fs) : Steps p.tables e below (T.setTop (mkF m pc Ls (w :: rest))) (T.setFrames fs) :=
  retOut X hx hret (by rcases ref_cases hw with rfl | ⟨a, rfl⟩ <;> cases t <;> rfl) (Or.inr (Or.inr (Or.inr (Or.inr ⟨rfl, ht, hw⟩)))) hd hl
end OwnKit
/-- the run that stands at A comes to an end of which P holds -/
def OGot (tb : Tables) (e : Env) (below : List Frame) (A : State) (P : State → Outcome → Prop) : Prop := ∃ U o, Steps tb e below A U ∧ P U o
theorem OGot.go {tb : Tables} {e : Env} {below : List Frame} {A B : State} {P : State → Outcome → Prop} (st : ∀ t, Steps tb e below B t → Steps tb e below A t) (h : OGot tb e below B P) : OGot tb e below A P := by
  obtain ⟨U, o, h1, h2⟩ := h
  exact ⟨U, o, st U h1, h2⟩
theorem OGot.on {tb : Tables} {e : Env} {below : List Frame} {A B : State} {P : State → Outcome → Prop} (st : Steps tb e below A B) (h : OGot tb e below B P) : OGot tb e below A P := by
  obtain ⟨U, o, h1, h2⟩ := h
  exact ⟨U, o, st.trans h1, h2⟩
section OwnFacts
variable {Z : State} {h h' h0 : Heap} {a b : Addr} {C n d : String} {v : Value} {sl : Nat} {n0 : Nat} {ws ws' : List (Addr × Nat)} {k : ClassId} {ty : FieldType} {z : Int32} {vs : List Value} {dv : Value}
theorem osz (X : Old Z n0 h) : n0 ≤ h.size := X.1 ▸ X.2.1
theorem oheap {U : State} {P : Heap → Prop} (q : U.heap = h) (x : P h) : P U.heap := q ▸ x
/-- what stood in h0 stands in h, but for the places at ws -/
def OKeep (h0 h : Heap) (ws : List (Addr × Nat)) : Prop := h0.size ≤ h.size ∧ ∀ (x : Addr) (c : Cell), h0[x]? = some c → ∃ c' : Cell, h[x]? = some c' ∧ c'.cls = c.cls ∧ c'.vm = c.vm ∧ c'.slots.size = c.slots.size ∧ (∀ i, (x, i) ∉ ws → c'.slots[i]? = c.slots[i]?) ∧ ((∀ i, (x, i) ∉ ws) → c' = c)
theorem OKeep.refl (h : Heap) (ws : List (Addr × Nat)) : OKeep h h ws := ⟨Nat.le_refl _, fun _ c q => ⟨c, q, rfl, rfl, rfl, fun _ _ => rfl, fun _ => rfl⟩⟩
theorem OKeep.ext (K : OKeep h0 h ws) (E : Ext h h') : OKeep h0 h' ws := ⟨Nat.le_trans K.1 E.1, fun x c q => by
  obtain ⟨c', q', r⟩ := K.2 x c q
  exact ⟨c', E.2 x c' q', r⟩⟩
theorem OKeep.trans (K : OKeep h0 h ws) (K' : OKeep h h' ws') (q : ∀ x ∈ ws', x ∈ ws ∨ h0.size ≤ x.1) : OKeep h0 h' ws := by
  refine ⟨Nat.le_trans K.1 K'.1, fun x c hx => ?_⟩
  have lt : x < h0.size := (Array.getElem?_eq_some_iff.mp hx).1
  have out : ∀ i, (x, i) ∉ ws → (x, i) ∉ ws' := fun i r z => (q _ z).elim r fun y => Nat.not_lt.mpr y lt
  obtain ⟨c1, q1, r1, r2, r3, r4, r5⟩ := K.2 x c hx
  obtain ⟨c2, q2, t1, t2, t3, t4, t5⟩ := K'.2 x c1 q1
  exact ⟨c2, q2, t1.trans r1, t2.trans r2, t3.trans r3, fun i r => (t4 i (out i r)).trans (r4 i r), fun r => (t5 fun i => out i (r i)).trans (r5 r)⟩
theorem OKeep.of_wr (W : Wr h h' a sl v) : OKeep h h' [(a, sl)] := by
  refine ⟨Nat.le_of_eq W.size.symm, fun x c q => ?_⟩
  obtain ⟨c', e1, e2, e3, e4, e5, e6, -⟩ := wr_at W q
  refine ⟨c', e1, e2, e3, e4, fun i r => ?_, fun r => e5 fun z => r sl (by simp [z])⟩
  by_cases z : x = a
  · subst z
    exact e6 i fun y => r (by simp [y])
  · rw [e5 z]
theorem OKeep.wr (K : OKeep h0 h ws) (W : Wr h h' a sl v) (q : (a, sl) ∈ ws ∨ h0.size ≤ a) : OKeep h0 h' ws := K.trans (OKeep.of_wr W) fun x hx => by cases List.mem_singleton.mp hx; exact q
theorem oslot {x : ClassId × Class × Nat × Field} (h2 : Z.fieldFound? C n d = some x) : Jvm.RoadKit.slotOf Z C n d = x.2.2.2.slot := by
  show ((Z.fieldFound? C n d).map (·.2.2.2.slot)).getD 0 = _
  rw [h2]; rfl
theorem OKeep.fld (F : Fld Z h a C n d v) (K : OKeep h h' ws) (q : (a, Jvm.RoadKit.slotOf Z C n d) ∉ ws) : Fld Z h' a C n d v := by
  obtain ⟨cell, cf, k, i, f, h1, h2, h3, h4, h5, h6, h7⟩ := F
  obtain ⟨c', r, r1, r2, -, r4, -⟩ := K.2 a cell h1
  exact ⟨c', cf, k, i, f, r, h2, h3, by rw [r2]; exact h4, by rw [r2]; exact h5, by rw [r1]; exact h6, by rw [r4 f.slot (fun y => q (by rw [oslot h2]; exact y))]; exact h7⟩
theorem OKeep.exa (F : Exa Z h a C) (K : OKeep h h' ws) : Exa Z h' a C := by
  obtain ⟨cell, k, h1, h2, h3, h4, h5⟩ := F
  obtain ⟨c', q, r1, r2, r3, -, -⟩ := K.2 a cell h1
  exact ⟨c', k, q, r1 ▸ h2, r1 ▸ h3, r2 ▸ h4, r3 ▸ h5⟩
theorem OKeep.arv (F : Arv Z h a k ty z vs dv) (K : OKeep h h' ws) (q : ∀ x ∈ ws, a ≠ x.1) : Arv Z h' a k ty z vs dv := by
  obtain ⟨c, A, r⟩ := F
  obtain ⟨c', e1, -, -, -, -, e5⟩ := K.2 a c A.1
  cases e5 fun i y => q _ y rfl
  exact ⟨c, ⟨e1, A.2⟩, r⟩
theorem OKeep.old (X : Old Z n0 h) (K : OKeep h h' ws) (q : ∀ x ∈ ws, n0 ≤ x.1) : Old Z n0 h' := ⟨X.1, Nat.le_trans X.2.1 K.1, fun x c r => by
  obtain ⟨c', e1, -, -, -, -, e5⟩ := K.2 x c (X.2.2 x c r)
  cases e5 fun i y => absurd (X.1 ▸ (Array.getElem?_eq_some_iff.mp r).1) (Nat.not_lt.mpr (q _ y))
  exact e1⟩
theorem onin0 {x : Addr × Nat} : x ∉ ([] : List (Addr × Nat)) := fun q => nomatch q
theorem oninA {t : Nat} {L : List (Addr × Nat)} (q : a ≠ b) (r : (a, sl) ∉ L) : (a, sl) ∉ (b, t) :: L := fun y => (List.mem_cons.mp y).elim (fun u => q (congrArg Prod.fst u)) r
theorem oninS {t : Nat} {L : List (Addr × Nat)} (q : sl ≠ t) (r : (a, sl) ∉ L) : (a, sl) ∉ (b, t) :: L := fun y => (List.mem_cons.mp y).elim (fun u => q (congrArg Prod.snd u)) r
theorem oall0 : ∀ x ∈ ([] : List (Addr × Nat)), a ≠ x.1 := fun _ q => nomatch q
theorem oallS {t : Nat} {L : List (Addr × Nat)} (q : a ≠ b) (r : ∀ x ∈ L, a ≠ x.1) : ∀ x ∈ (b, t) :: L, a ≠ x.1 := fun x y => (List.mem_cons.mp y).elim (fun u => by subst u; exact q) (r x)
theorem oge0 : ∀ x ∈ ([] : List (Addr × Nat)), n0 ≤ x.1 := fun _ q => nomatch q
theorem ogeS {t : Nat} {L : List (Addr × Nat)} (q : n0 ≤ b) (r : ∀ x ∈ L, n0 ≤ x.1) : ∀ x ∈ (b, t) :: L, n0 ≤ x.1 := fun x y => (List.mem_cons.mp y).elim (fun u => by subst u; exact q) (r x)
theorem oin0 {P : Addr × Nat → Prop} : ∀ x ∈ ([] : List (Addr × Nat)), P x := fun _ q => nomatch q
theorem oinS {P : Addr × Nat → Prop} {y : Addr × Nat} {L : List (Addr × Nat)} (q : P y) (r : ∀ x ∈ L, P x) : ∀ x ∈ y :: L, P x := fun x u => (List.mem_cons.mp u).elim (fun w => w ▸ q) (r x)
theorem oeq_int {args : Array Value} {first s : State} {o : Option Outcome} {idx : List Nat} {t : Term} {w : Int32} (q : (Jvm.Cond.eq t (.int w)).value args first o s idx = some true) : t.eval args first o idx s = some (.int w) := by
  simp only [Jvm.Cond.value, Term.eval] at q
  cases ht : t.eval args first o idx s with
  | none => simp [ht] at q
  | some x => cases x <;> simp [ht] at q ⊢; exact q
theorem oeq_ref {args : Array Value} {first s : State} {o : Option Outcome} {idx : List Nat} {t u : Term} {w : Addr} (q : (Jvm.Cond.eq t u).value args first o s idx = some true) (r : u.eval args first o idx s = some (.ref w)) : t.eval args first o idx s = some (.ref w) := by
  obtain ⟨x, y, e1, e2, k1, k2⟩ := cmp_v (Or.inl q)
  cases r.symm.trans e2
  rcases ref_cases k2.2 with rfl | ⟨z, rfl⟩
  · have := eq_R e1 e2 rfl rfl
    rw [q] at this
    simp at this
  · have := gotT (eq_R e1 e2 rfl rfl) q
    rw [e1, this]
theorem one_int {args : Array Value} {first s : State} {o : Option Outcome} {idx : List Nat} {t : Term} {w : Int32} (r : t.eval args first o idx s = some (.int w)) (q : (Jvm.Cond.not (.eq t (.int 0))).value args first o s idx = some true) : ¬ (w = (0 : Int32)) := by
  have := not_v q
  exact gotF (Cond.eq_ints r rfl) this
theorem olen {args : Array Value} {first s : State} {o : Option Outcome} {idx : List Nat} {t : Term} {cl : Cell} {w : Int32} (q : (Term.length t).eval args first o idx s = some (.int w)) (ht : t.eval args first o idx s = some (.ref a)) (ha : s.arrayAt? a = some cl) : cl.slots.size < 2 ^ 31 ∧ cl.slots.size.toInt32 = w := by
  simp only [Term.eval, ht, ha, Option.bind_eq_bind, Option.bind_some] at q
  by_cases y : cl.slots.size < 2 ^ 31
  · exact ⟨y, by simpa [y] using q⟩
  · simp [y] at q
theorem osub128 {args : Array Value} {j : Int32} (hj : ¬ j < 0) : (Term.sub (.index 0) (.int 128)).eval args Z none [j.toNatClampNeg] Z = some (.int (j - 128)) := by
  have e := idx_at (args := args) (first := Z) (s := Z) (o := none) hj
  simp only [Term.eval] at e ⊢
  simp [e]
  exact (back32 hj).1
def obox (c : Cell) (j : Int32) : Addr := match c.slots[j.toNatClampNeg]? with
  | some (.ref b) => b
  | _ => 0
theorem obox_at {cl : Cell} {K dd : String} {w : Int32} {val : Int32 → Value} (B : Bxs Z a cl K dd w val) {j : Int32} (hj : ¬ (j < 0 ∨ cl.slots.size ≤ j.toNatClampNeg)) : cl.slots[j.toNatClampNeg]? = some (.ref (obox cl j)) ∧ Exa Z Z.heap (obox cl j) K ∧ Fld Z Z.heap (obox cl j) K "value" dd (val j) := by
  obtain ⟨b, h1, h2, h3⟩ := B.2.2.2 j hj
  have e : obox cl j = b := by unfold obox; rw [h1]
  rw [e]; exact ⟨h1, h2, h3⟩
theorem oNS.root {a0 : Array Value} {O K : String} {i : Nat} (w : (Cond.noSuperclass O).before a0 Z = true) (wk : (Cond.instantiable K i).before a0 Z = true) (hn : O ≠ K) : NS Z O K := by
  obtain ⟨c, k, h1, h2, h3, -, -⟩ := Cond.noSuperclass_spec w
  obtain ⟨t, kt, g1, -⟩ := Cond.instantiable_spec wk
  have ne := ids_ne h1 g1 hn
  refine ⟨c, t, h1, g1, fun fuel => ?_⟩
  cases fuel with
  | zero => rfl
  | succ f => simp [Vm.isSubclassAux, ne, h2, h3]
theorem oNS.no {a0 : Array Value} {C S K : String} {i : Nat} (w : (Cond.superclass C S).before a0 Z = true) (wk : (Cond.instantiable K i).before a0 Z = true) (q : NS Z C K) (hn : C ≠ K) : ∃ c t, Z.vm.findClass C = some c ∧ Z.vm.findClass K = some t ∧ Z.vm.assignable c t = false := by
  obtain ⟨c, t, h0, g0, n3⟩ := q
  obtain ⟨p, k, kp, h1, h2, h3, h4, h5, -, h7⟩ := Cond.superclass_spec h0 w
  obtain ⟨t', k', g1, g2, g3, g4, -⟩ := Cond.instantiable_spec wk
  cases g0.symm.trans g1
  have ne := ids_ne h0 g0 hn
  have g7 : k'.isInterface = false := (Bool.or_eq_false_iff.mp g4).1
  refine ⟨c, t, h0, g0, ?_⟩
  show Z.vm.assignableAux (255 + 1) c t = false
  simp [Vm.assignableAux, ne, h2, g2, h5, g3, g7, Vm.isSubclass, n3]
theorem osel {s : State} {a0 aa : Array Value} {y : MethodName} {i : Nat} (hZ : Z.Warmed39 s.vm) (wi : (Cond.instantiable y.cls i).before a0 Z = true) (wm : (Cond.instanceMethod y).before a0 Z = true) (wp : (Cond.privateMethod y).before a0 Z = true) (hy : y.cls ≠ "java/lang/invoke/MethodHandle" ∧ y.cls ≠ "java/lang/invoke/VarHandle") : (Cond.selects y.cls y y).before aa s = true := by
  have w2 : (Cond.instantiable y.cls i).before aa s = true := mvT hZ wi
  obtain ⟨c, k, h1, h2, h3, h4, -⟩ := Cond.instantiable_spec w2
  exact Jvm.Stand.selects_self_of_private h1 h2 (Bool.or_eq_false_iff.mp h4).1 (Cond.privateMethod_at (mvP hZ wp (args := #[]))) (mvT hZ wm) hy
end OwnFacts
theorem ow {Z : State} {a0 : Array Value} (hw : ∀ d ∈ tables_1, d.before a0 Z = true) (i : Nat) {d : Jvm.Cond} (h : tables_1[i]? = some d) : d.before a0 Z = true := hw _ (List.mem_of_getElem? h)
section OwnMir
variable {p : Program} {l : Launch} {e : Env} {R : Room} {s : State} {m : MethodId} {args : Array Value} {below : List Frame} {meth : Method} {c : Code} {T : State} {locs : List Loc} {cells slots : Nat} {Z : State} {a0 : Array Value} {h h' h0 : Heap} {a b : Addr} {ws : List (Addr × Nat)}
/-- C has its mirror -/
def OMir (Z : State) (C : String) (mr : Addr) : Prop := ∃ (c : ClassId) (k : Class), Z.vm.findClass C = some c ∧ Z.vm.classes[c]? = some k ∧ k.mirror = some mr
theorem ogcls (X : Stand p l e R s m args below meth c T locs cells slots) (hx : p.tables.exec = Jvm.exec) (hZ : Z.Warmed39 s.vm) {own C : String} {index : Nat} (hown : s.vm.findClass own = some m.cls)
    (w1 : (Cond.methodLink own index ⟨"java/lang/Object", "getClass", "()Ljava/lang/Class;"⟩).before a0 Z = true) (w2 : (Cond.declares ⟨"java/lang/Object", "getClass", "()Ljava/lang/Class;"⟩).before a0 Z = true) (w3 : (Cond.noSuperclass "java/lang/Object").before a0 Z = true) (w4 : (Cond.selects C ⟨"java/lang/Object", "getClass", "()Ljava/lang/Class;"⟩ ⟨"java/lang/Object", "getClass", "()Ljava/lang/Class;"⟩).before a0 Z = true)
    (w5 : (Cond.instanceMethod ⟨"java/lang/Object", "getClass", "()Ljava/lang/Class;"⟩).before a0 Z = true) (w6 : (Cond.native ⟨"java/lang/Object", "getClass", "()Ljava/lang/Class;"⟩).before a0 Z = true) (eT : T.heap = h) (E : Exa Z h a C) {mr : Addr} (M : OMir Z C mr)
    {g : JFrame} (hg : g.method = m) (hsize : g.locals.size = c.maxLocals) {rest : List Value} (hs : g.stack = .ref a :: rest) (hd : decode c.code g.pc = .ok (.invokevirtual index, 3)) (hf : 1 ≤ R.frames) {W : Nat} (hW : 2 * g.monitorRoom + (rest.map fun v => v.category).sum ≤ W) (hl : W + (nativeFrameWords "java/lang/Object" "getClass" 1 + 11) ≤ R.locals) :
    ∃ T', Stand p l e R s m args below meth c T' locs cells slots ∧ T'.heap = h ∧ ∀ target, Steps p.tables e below (T'.setTop { g with pc := g.pc + 3, stack := .ref mr :: rest }) target → Steps p.tables e below (T.setTop g) target := by
  obtain ⟨cB, kB, i1, i2, i3⟩ := isOf hZ eT E
  obtain ⟨cc, kc, m1, m2, m3⟩ := M
  have f1 : s.vm.findClass C = some cc := by rw [hZ.alike.findClass]; exact m1
  cases i1.symm.trans f1
  obtain ⟨k', q, ek⟩ := hZ.alike.2.2 _ _ m2
  obtain ⟨vm', X', st⟩ := X.getClassOf hx hown (mvT hZ w1) (mvT hZ w2) (nf_top (args := #[]) (mvT hZ w3)) (mvT hZ w4) (mvT hZ w5) (mvT hZ w6) f1 i3 q (by rw [ek]; exact m3) hg hsize hs hd hf (by omega)
  exact ⟨_, X', eT, st⟩
theorem oldcM (X : Stand p l e R s m args below meth c T locs cells slots) (hx : p.tables.exec = Jvm.exec) (hZ : Z.Warmed39 s.vm) {own C : String} {index : Nat} (hown : s.vm.findClass own = some m.cls) (w : (Cond.classLink own index C).before a0 Z = true) (eT : T.heap = h) {mr : Addr} (M : OMir Z C mr)
    {g : JFrame} (hg : g.method = m) (hd : decode c.code g.pc = .ok (.ldc index, 2)) :
    ∃ T', Stand p l e R s m args below meth c T' locs cells slots ∧ T'.heap = h ∧ ∀ target, Steps p.tables e below (T'.setTop { g with pc := g.pc + 2, stack := .ref mr :: g.stack }) target → Steps p.tables e below (T.setTop g) target := by
  obtain ⟨cc, kc, m1, m2, m3⟩ := M
  obtain ⟨k', q, ek⟩ := hZ.alike.2.2 _ _ m2
  have f1 : s.vm.findClass C = some cc := by rw [hZ.alike.findClass]; exact m1
  have ev : (Term.mirror C).eval args s none [] s = some (.ref mr) := by
    simp only [Term.eval, Option.bind_eq_bind, f1, Option.bind_some, q]
    rw [ek]
    simp [m3]
  obtain ⟨vm', X', st⟩ := X.ldcMirror hx hown (mvT hZ w) ev hg hd
  exact ⟨_, X', eT, st⟩
theorem OKeep.keepf (K : OKeep h0 h ws) (L : Keep h h' [b]) (q : h0.size ≤ b) : OKeep h0 h' ws := by
  refine ⟨Nat.le_trans K.1 L.1, fun x c hx => ?_⟩
  have lt : x < h0.size := (Array.getElem?_eq_some_iff.mp hx).1
  obtain ⟨c', q', r⟩ := K.2 x c hx
  exact ⟨c', L.2.1 x c' q' (fun z => by cases List.mem_singleton.mp z; exact Nat.not_lt.mpr q lt), r⟩
theorem omvN {y : MethodName} {own host : String} {index : Nat} (hZ : Z.Warmed39 s.vm) (w : (Cond.methodLinkNest own index y host).before a0 Z = true) : (Cond.methodLinkNest own index y host).before args s = true := (Cond.methodLinkNest_wide hZ w :)
theorem pNS.cls {x y : MethodName} (w : (Cond.selects y.cls x y).before a0 Z = true) : ∃ (t : ClassId) (k : Class), Z.vm.findClass y.cls = some t ∧ Z.vm.classes[t]? = some k ∧ k.isInterface = false := by
  obtain ⟨c, r, m, h1, h2, h3, h4, mk, h5, h6⟩ := Cond.selects_spec w
  exact ⟨m.cls, mk, findClass_of_methodNamed h3, h5, h6⟩
theorem pNS.root {O : String} {x y : MethodName} (w : (Cond.noSuperclass O).before a0 Z = true) (wk : (Cond.selects y.cls x y).before a0 Z = true) (hn : O ≠ y.cls) : NS Z O y.cls := by
  obtain ⟨c, k, h1, h2, h3, -, -⟩ := Cond.noSuperclass_spec w
  obtain ⟨t, kt, g1, -⟩ := pNS.cls wk
  have ne := ids_ne h1 g1 hn
  refine ⟨c, t, h1, g1, fun fuel => ?_⟩
  cases fuel with
  | zero => rfl
  | succ f => simp [Vm.isSubclassAux, ne, h2, h3]
theorem pNS.no {C S : String} {x y : MethodName} (w : (Cond.superclass C S).before a0 Z = true) (wk : (Cond.selects y.cls x y).before a0 Z = true) (q : NS Z C y.cls) (hn : C ≠ y.cls) : ∃ c t, Z.vm.findClass C = some c ∧ Z.vm.findClass y.cls = some t ∧ Z.vm.assignable c t = false := by
  obtain ⟨c, t, h0, g0, n3⟩ := q
  obtain ⟨p, k, kp, h1, h2, h3, h4, h5, -, h7⟩ := Cond.superclass_spec h0 w
  obtain ⟨t', k', g1, g2, g3⟩ := pNS.cls wk
  cases g0.symm.trans g1
  have ne := ids_ne h0 g0 hn
  refine ⟨c, t, h0, g0, ?_⟩
  show Z.vm.assignableAux (255 + 1) c t = false
  cases hk : k'.kind <;> simp [Vm.assignableAux, ne, h2, g2, h5, hk, g3, Vm.isSubclass, n3]
end OwnMir
theorem own_rem3 (x : Int32) : ((x &&& (2147483647 : Int32)) % (3 : Int32)) = (0 : Int32) ∨ ((x &&& (2147483647 : Int32)) % (3 : Int32)) = (1 : Int32) ∨ ((x &&& (2147483647 : Int32)) % (3 : Int32)) = (2 : Int32) := by
  have e1 : (x &&& (2147483647 : Int32)).toInt = x.toInt % ((2 ^ 31 : Nat) : Int) := c_mask x 2147483647 31 (by decide) (by decide)
  have p : ((2 ^ 31 : Nat) : Int) = 2147483648 := rfl
  rw [p] at e1
  have e : ((x &&& (2147483647 : Int32)) % (3 : Int32)).toInt = (x &&& (2147483647 : Int32)).toInt % 3 := (c_irem (x &&& (2147483647 : Int32)) (3 : Int32) 3 (by decide)).1 (by omega)
  simp only [← Int32.toInt_inj, e]
  have : (0 : Int32).toInt = 0 ∧ (1 : Int32).toInt = 1 ∧ (2 : Int32).toInt = 2 := by decide
  omega
def Glob (Z : State) (m_OA : Addr) (w_REJECTED : Addr) (w_EMPTY_ELEMENTDATA : Addr) (w_DEFAULTCAPACITY_EMPTY_ELEMENTDATA : Addr) (w_EMPTY_LIST : Addr) (w_EMPTY_LIST_elements : Addr) (w_EMPTY : Addr) (k_w_EMPTY_ELEMENTDATA : ClassId) (k_w_DEFAULTCAPACITY_EMPTY_ELEMENTDATA : ClassId) (k_w_EMPTY_LIST_elements : ClassId) : Prop := OMir Z "[Ljava/lang/Object;" m_OA ∧ Sta Z Z.heap "com/example/curtail/curtail/Placement" "REJECTED" "Lcom/example/curtail/curtail/Placement;" (.ref w_REJECTED) ∧ Exa Z Z.heap w_REJECTED "com/example/curtail/curtail/Placement" ∧ Sta Z Z.heap "java/util/ArrayList" "EMPTY_ELEMENTDATA" "[Ljava/lang/Object;" (.ref w_EMPTY_ELEMENTDATA) ∧ Exa Z Z.heap w_EMPTY_ELEMENTDATA "[Ljava/lang/Object;" ∧ Sta Z Z.heap "java/util/ArrayList" "DEFAULTCAPACITY_EMPTY_ELEMENTDATA" "[Ljava/lang/Object;" (.ref w_DEFAULTCAPACITY_EMPTY_ELEMENTDATA) ∧ Exa Z Z.heap w_DEFAULTCAPACITY_EMPTY_ELEMENTDATA "[Ljava/lang/Object;" ∧ Sta Z Z.heap "java/util/ImmutableCollections" "EMPTY_LIST" "Ljava/util/ImmutableCollections$ListN;" (.ref w_EMPTY_LIST) ∧ Exa Z Z.heap w_EMPTY_LIST "java/util/ImmutableCollections$ListN" ∧ Fld Z Z.heap w_EMPTY_LIST "java/util/ImmutableCollections$ListN" "elements" "[Ljava/lang/Object;" (.ref w_EMPTY_LIST_elements) ∧ Exa Z Z.heap w_EMPTY_LIST_elements "[Ljava/lang/Object;" ∧ Sta Z Z.heap "java/util/ImmutableCollections" "EMPTY" "Ljava/lang/Object;" (.ref w_EMPTY) ∧ Exa Z Z.heap w_EMPTY "java/lang/Object" ∧ Fld Z Z.heap w_REJECTED "com/example/curtail/curtail/Placement" "aCells" "Ljava/util/List;" (.ref w_EMPTY_LIST) ∧ Arv Z Z.heap w_EMPTY_ELEMENTDATA k_w_EMPTY_ELEMENTDATA (.object "java/lang/Object") (0 : Int32) [] .null ∧ Arv Z Z.heap w_DEFAULTCAPACITY_EMPTY_ELEMENTDATA k_w_DEFAULTCAPACITY_EMPTY_ELEMENTDATA (.object "java/lang/Object") (0 : Int32) [] .null ∧ Arv Z Z.heap w_EMPTY_LIST_elements k_w_EMPTY_LIST_elements (.object "java/lang/Object") (0 : Int32) [] .null ∧ Fld Z Z.heap w_EMPTY_LIST "java/util/ImmutableCollections$ListN" "allowNulls" "Z" (.int (0 : Int32)) ∧ Sta Z Z.heap "java/util/ImmutableCollections" "$assertionsDisabled" "Z" (.int (1 : Int32))
theorem d1_0 : decode jdk_29_method_69_code 0 = .ok (.iload_n 0, 1) := by decide +kernel
theorem d1_1 : decode jdk_29_method_69_code 1 = .ok (.iload_n 1, 1) := by decide +kernel
theorem d1_2 : decode jdk_29_method_69_code 2 = .ok (.if_icmp .gt 7, 3) := by decide +kernel
theorem d1_9 : decode jdk_29_method_69_code 9 = .ok (.iload_n 1, 1) := by decide +kernel
theorem d1_10 : decode jdk_29_method_69_code 10 = .ok (.ireturn, 1) := by decide +kernel
theorem d1_5 : decode jdk_29_method_69_code 5 = .ok (.iload_n 0, 1) := by decide +kernel
theorem d1_6 : decode jdk_29_method_69_code 6 = .ok (.goto 4, 3) := by decide +kernel
def f1 (p1 : Int32) (p2 : Int32) : Int32 := (if p2 < p1 then p2 else p1)
def Q1 (Z : State) (m_OA : Addr) (w_REJECTED : Addr) (w_EMPTY_ELEMENTDATA : Addr) (w_DEFAULTCAPACITY_EMPTY_ELEMENTDATA : Addr) (w_EMPTY_LIST : Addr) (w_EMPTY_LIST_elements : Addr) (w_EMPTY : Addr) (k_w_EMPTY_ELEMENTDATA : ClassId) (k_w_DEFAULTCAPACITY_EMPTY_ELEMENTDATA : ClassId) (k_w_EMPTY_LIST_elements : ClassId) (p1 : Int32) (p2 : Int32) (h0 : Heap) (n0 : Nat) (v : Option Value) (h : Heap) (L : List Loc) : Prop := v = some (.int (f1 p1 p2)) ∧ Fr n0 L ∧ h = h0
theorem ef1 (m : MethodId) (x0 : Int32) (x1 : Int32) : entryFrame m #[(.int x0), (.int x1)] 2 = mkF m 0 #[.val (.int x0), .val (.int x1)] [] := by first | (simp [entryFrame, mkF, argsToLocals, Value.category]; done) | rfl
set_option maxRecDepth 65536 in
set_option maxHeartbeats 40000000 in
theorem rm1 (l : Launch) (Z : State) (a0 : Array Value) (hw : ∀ d ∈ tables_1, d.before a0 Z = true) (ws : List Jvm.Cond) {m_OA : Addr} {w_REJECTED : Addr} {w_EMPTY_ELEMENTDATA : Addr} {w_DEFAULTCAPACITY_EMPTY_ELEMENTDATA : Addr} {w_EMPTY_LIST : Addr} {w_EMPTY_LIST_elements : Addr} {w_EMPTY : Addr} {k_w_EMPTY_ELEMENTDATA : ClassId} {k_w_DEFAULTCAPACITY_EMPTY_ELEMENTDATA : ClassId} {k_w_EMPTY_LIST_elements : ClassId} (G : Glob Z m_OA w_REJECTED w_EMPTY_ELEMENTDATA w_DEFAULTCAPACITY_EMPTY_ELEMENTDATA w_EMPTY_LIST w_EMPTY_LIST_elements w_EMPTY k_w_EMPTY_ELEMENTDATA k_w_DEFAULTCAPACITY_EMPTY_ELEMENTDATA k_w_EMPTY_LIST_elements) (p1 : Int32) (p2 : Int32) (h0 : Heap) (n0 : Nat) (O0 : Old Z n0 h0) :
    MetFree l (⟨"java/lang/Math", "min", "(II)I"⟩ : MethodName) (head1 (Jvm.Cond.code (⟨"java/lang/Math", "min", "(II)I"⟩ : MethodName) jdk_29_method_69_code 2 (some .int) :: ws) ({ frames := 0, cells := 0, slots := 0, locals := 0 } : Room)) (fun a U => a = #[(.int p1), (.int p2)] ∧ Z.Warmed39 U.vm ∧ U.heap = h0) (fun _ _ _ _ _ => True) (fun _ U o U' => ∃ v L, o = .returned v ∧ Q1 Z m_OA w_REJECTED w_EMPTY_ELEMENTDATA w_DEFAULTCAPACITY_EMPTY_ELEMENTDATA w_EMPTY_LIST w_EMPTY_LIST_elements w_EMPTY k_w_EMPTY_ELEMENTDATA k_w_DEFAULTCAPACITY_EMPTY_ELEMENTDATA k_w_EMPTY_LIST_elements p1 p2 h0 n0 v U'.heap L ∧ FrameEnd U o U' L ({ frames := 0, cells := 0, slots := 0, locals := 0 } : Room).cells ({ frames := 0, cells := 0, slots := 0, locals := 0 } : Room).slots) := by
  refine MetFree.of_bodySF (Jvm.Free.JP.mathPlain rfl (by decide +kernel)) hisR ?_
  intro p e s m args below meth c s₁ Bd hml0 hP hK
  obtain ⟨rfl, hZ, hh⟩ := hP
  have hx := Bd.exec
  have hby := Bd.bytes
  have hml : c.maxLocals = 2 := hml0
  have hown : s.vm.findClass "java/lang/Math" = some m.cls := findClass_of_methodNamed Bd.named
  have hnm := (name_of_methodNamed Bd.named Bd.method).1
  have X0 : Stand p l e ({ frames := 0, cells := 0, slots := 0, locals := 0 } : Room) s m #[(.int p1), (.int p2)] below meth c s₁ [] 0 0 := Stand.of_body Bd
  have e0 : s₁.heap = h0 := by rw [← hh, Bd.state]; rfl
  have N0 := Fr.nil n0
  show OGot p.tables e below (s₁.setTop (entryFrame m #[(.int p1), (.int p2)] 2)) _
  refine OGot.go (fun t k => castTop (ef1 m p1 p2) k) ?_
  show OGot p.tables e below (s₁.setTop (mkF m 0 #[.val (.int p1), .val (.int p2)] [])) _
  refine OGot.go (fun t k => XS.iloadN X0.here hx rfl (hb hby d1_0) rfl k) ?_
  show OGot p.tables e below (s₁.setTop (mkF m 1 #[.val (.int p1), .val (.int p2)] [(.int p1)])) _
  refine OGot.go (fun t k => XS.iloadN X0.here hx rfl (hb hby d1_1) rfl k) ?_
  show OGot p.tables e below (s₁.setTop (mkF m 2 #[.val (.int p1), .val (.int p2)] [(.int p2), (.int p1)])) _
  by_cases hs3 : p2 < p1
  · refine OGot.go (fun t k => XS.icmpYes X0.here hx rfl (pc0 := 2) (pc' := 9) rfl (hb hby d1_2) rfl (tlt hs3).2.2.1 (by decide) (by decide) k) ?_
    show OGot p.tables e below (s₁.setTop (mkF m 9 #[.val (.int p1), .val (.int p2)] [])) _
    refine OGot.go (fun t k => XS.iloadN X0.here hx rfl (hb hby d1_9) rfl k) ?_
    show OGot p.tables e below (s₁.setTop (mkF m 10 #[.val (.int p1), .val (.int p2)] [(.int p2)])) _
    obtain ⟨fs, hr, hrun, hended, hW, hsame⟩ := X0.leave (v := some (.int p2)) (fun h => by rw [Bd.returns] at h; cases h)
    refine ⟨_, _, retI X0 hx Bd.returns (hb hby d1_10) hr, hrun, hended, _, _, rfl, ?_, ⟨_, rfl⟩, hW, hsame.mono (by decide) (by decide)⟩
    exact (⟨(by unfold f1; rw [if_pos hs3]), N0, e0⟩ : Q1 Z m_OA w_REJECTED w_EMPTY_ELEMENTDATA w_DEFAULTCAPACITY_EMPTY_ELEMENTDATA w_EMPTY_LIST w_EMPTY_LIST_elements w_EMPTY k_w_EMPTY_ELEMENTDATA k_w_DEFAULTCAPACITY_EMPTY_ELEMENTDATA k_w_EMPTY_LIST_elements p1 p2 h0 n0 _ s₁.heap _)
  · refine OGot.go (fun t k => XS.icmpNo X0.here hx rfl (hb hby d1_2) rfl (flt hs3).2.2.1 k) ?_
    show OGot p.tables e below (s₁.setTop (mkF m 5 #[.val (.int p1), .val (.int p2)] [])) _
    refine OGot.go (fun t k => XS.iloadN X0.here hx rfl (hb hby d1_5) rfl k) ?_
    show OGot p.tables e below (s₁.setTop (mkF m 6 #[.val (.int p1), .val (.int p2)] [(.int p1)])) _
    refine OGot.go (fun t k => XS.goto X0.here hx rfl (pc0 := 6) (pc' := 10) rfl (hb hby d1_6) (by decide) (by decide) k) ?_
    show OGot p.tables e below (s₁.setTop (mkF m 10 #[.val (.int p1), .val (.int p2)] [(.int p1)])) _
    obtain ⟨fs, hr, hrun, hended, hW, hsame⟩ := X0.leave (v := some (.int p1)) (fun h => by rw [Bd.returns] at h; cases h)
    refine ⟨_, _, retI X0 hx Bd.returns (hb hby d1_10) hr, hrun, hended, _, _, rfl, ?_, ⟨_, rfl⟩, hW, hsame.mono (by decide) (by decide)⟩
    exact (⟨(by unfold f1; rw [if_neg hs3]), N0, e0⟩ : Q1 Z m_OA w_REJECTED w_EMPTY_ELEMENTDATA w_DEFAULTCAPACITY_EMPTY_ELEMENTDATA w_EMPTY_LIST w_EMPTY_LIST_elements w_EMPTY k_w_EMPTY_ELEMENTDATA k_w_DEFAULTCAPACITY_EMPTY_ELEMENTDATA k_w_EMPTY_LIST_elements p1 p2 h0 n0 _ s₁.heap _)
theorem pd_0 : parseMethodDescriptor "(II)I" = some ⟨[.int, .int], some .int⟩ := by decide +kernel
theorem d2_0 : decode jdk_29_method_65_code 0 = .ok (.iload_n 0, 1) := by decide +kernel
theorem d2_1 : decode jdk_29_method_65_code 1 = .ok (.iload_n 1, 1) := by decide +kernel
theorem d2_2 : decode jdk_29_method_65_code 2 = .ok (.if_icmp .lt 7, 3) := by decide +kernel
theorem d2_9 : decode jdk_29_method_65_code 9 = .ok (.iload_n 1, 1) := by decide +kernel
theorem d2_10 : decode jdk_29_method_65_code 10 = .ok (.ireturn, 1) := by decide +kernel
theorem d2_5 : decode jdk_29_method_65_code 5 = .ok (.iload_n 0, 1) := by decide +kernel
theorem d2_6 : decode jdk_29_method_65_code 6 = .ok (.goto 4, 3) := by decide +kernel
def f2 (p1 : Int32) (p2 : Int32) : Int32 := (if p1 < p2 then p2 else p1)
def Q2 (Z : State) (m_OA : Addr) (w_REJECTED : Addr) (w_EMPTY_ELEMENTDATA : Addr) (w_DEFAULTCAPACITY_EMPTY_ELEMENTDATA : Addr) (w_EMPTY_LIST : Addr) (w_EMPTY_LIST_elements : Addr) (w_EMPTY : Addr) (k_w_EMPTY_ELEMENTDATA : ClassId) (k_w_DEFAULTCAPACITY_EMPTY_ELEMENTDATA : ClassId) (k_w_EMPTY_LIST_elements : ClassId) (p1 : Int32) (p2 : Int32) (h0 : Heap) (n0 : Nat) (v : Option Value) (h : Heap) (L : List Loc) : Prop := v = some (.int (f2 p1 p2)) ∧ Fr n0 L ∧ h = h0
theorem ef2 (m : MethodId) (x0 : Int32) (x1 : Int32) : entryFrame m #[(.int x0), (.int x1)] 2 = mkF m 0 #[.val (.int x0), .val (.int x1)] [] := by first | (simp [entryFrame, mkF, argsToLocals, Value.category]; done) | rfl
set_option maxRecDepth 65536 in
set_option maxHeartbeats 40000000 in
theorem rm2 (l : Launch) (Z : State) (a0 : Array Value) (hw : ∀ d ∈ tables_1, d.before a0 Z = true) (ws : List Jvm.Cond) {m_OA : Addr} {w_REJECTED : Addr} {w_EMPTY_ELEMENTDATA : Addr} {w_DEFAULTCAPACITY_EMPTY_ELEMENTDATA : Addr} {w_EMPTY_LIST : Addr} {w_EMPTY_LIST_elements : Addr} {w_EMPTY : Addr} {k_w_EMPTY_ELEMENTDATA : ClassId} {k_w_DEFAULTCAPACITY_EMPTY_ELEMENTDATA : ClassId} {k_w_EMPTY_LIST_elements : ClassId} (G : Glob Z m_OA w_REJECTED w_EMPTY_ELEMENTDATA w_DEFAULTCAPACITY_EMPTY_ELEMENTDATA w_EMPTY_LIST w_EMPTY_LIST_elements w_EMPTY k_w_EMPTY_ELEMENTDATA k_w_DEFAULTCAPACITY_EMPTY_ELEMENTDATA k_w_EMPTY_LIST_elements) (p1 : Int32) (p2 : Int32) (h0 : Heap) (n0 : Nat) (O0 : Old Z n0 h0) :
    MetFree l (⟨"java/lang/Math", "max", "(II)I"⟩ : MethodName) (head1 (Jvm.Cond.code (⟨"java/lang/Math", "max", "(II)I"⟩ : MethodName) jdk_29_method_65_code 2 (some .int) :: ws) ({ frames := 0, cells := 0, slots := 0, locals := 0 } : Room)) (fun a U => a = #[(.int p1), (.int p2)] ∧ Z.Warmed39 U.vm ∧ U.heap = h0) (fun _ _ _ _ _ => True) (fun _ U o U' => ∃ v L, o = .returned v ∧ Q2 Z m_OA w_REJECTED w_EMPTY_ELEMENTDATA w_DEFAULTCAPACITY_EMPTY_ELEMENTDATA w_EMPTY_LIST w_EMPTY_LIST_elements w_EMPTY k_w_EMPTY_ELEMENTDATA k_w_DEFAULTCAPACITY_EMPTY_ELEMENTDATA k_w_EMPTY_LIST_elements p1 p2 h0 n0 v U'.heap L ∧ FrameEnd U o U' L ({ frames := 0, cells := 0, slots := 0, locals := 0 } : Room).cells ({ frames := 0, cells := 0, slots := 0, locals := 0 } : Room).slots) := by
  refine MetFree.of_bodySF (Jvm.Free.JP.mathPlain rfl (by decide +kernel)) hisR ?_
  intro p e s m args below meth c s₁ Bd hml0 hP hK
  obtain ⟨rfl, hZ, hh⟩ := hP
  have hx := Bd.exec
  have hby := Bd.bytes
  have hml : c.maxLocals = 2 := hml0
  have hown : s.vm.findClass "java/lang/Math" = some m.cls := findClass_of_methodNamed Bd.named
  have hnm := (name_of_methodNamed Bd.named Bd.method).1
  have X0 : Stand p l e ({ frames := 0, cells := 0, slots := 0, locals := 0 } : Room) s m #[(.int p1), (.int p2)] below meth c s₁ [] 0 0 := Stand.of_body Bd
  have e0 : s₁.heap = h0 := by rw [← hh, Bd.state]; rfl
  have N0 := Fr.nil n0
  show OGot p.tables e below (s₁.setTop (entryFrame m #[(.int p1), (.int p2)] 2)) _
  refine OGot.go (fun t k => castTop (ef2 m p1 p2) k) ?_
  show OGot p.tables e below (s₁.setTop (mkF m 0 #[.val (.int p1), .val (.int p2)] [])) _
  refine OGot.go (fun t k => XS.iloadN X0.here hx rfl (hb hby d2_0) rfl k) ?_
  show OGot p.tables e below (s₁.setTop (mkF m 1 #[.val (.int p1), .val (.int p2)] [(.int p1)])) _
  refine OGot.go (fun t k => XS.iloadN X0.here hx rfl (hb hby d2_1) rfl k) ?_
  show OGot p.tables e below (s₁.setTop (mkF m 2 #[.val (.int p1), .val (.int p2)] [(.int p2), (.int p1)])) _
  by_cases hs3 : p1 < p2
  · refine OGot.go (fun t k => XS.icmpYes X0.here hx rfl (pc0 := 2) (pc' := 9) rfl (hb hby d2_2) rfl (tlt hs3).1 (by decide) (by decide) k) ?_
    show OGot p.tables e below (s₁.setTop (mkF m 9 #[.val (.int p1), .val (.int p2)] [])) _
    refine OGot.go (fun t k => XS.iloadN X0.here hx rfl (hb hby d2_9) rfl k) ?_
    show OGot p.tables e below (s₁.setTop (mkF m 10 #[.val (.int p1), .val (.int p2)] [(.int p2)])) _
    obtain ⟨fs, hr, hrun, hended, hW, hsame⟩ := X0.leave (v := some (.int p2)) (fun h => by rw [Bd.returns] at h; cases h)
    refine ⟨_, _, retI X0 hx Bd.returns (hb hby d2_10) hr, hrun, hended, _, _, rfl, ?_, ⟨_, rfl⟩, hW, hsame.mono (by decide) (by decide)⟩
    exact (⟨(by unfold f2; rw [if_pos hs3]), N0, e0⟩ : Q2 Z m_OA w_REJECTED w_EMPTY_ELEMENTDATA w_DEFAULTCAPACITY_EMPTY_ELEMENTDATA w_EMPTY_LIST w_EMPTY_LIST_elements w_EMPTY k_w_EMPTY_ELEMENTDATA k_w_DEFAULTCAPACITY_EMPTY_ELEMENTDATA k_w_EMPTY_LIST_elements p1 p2 h0 n0 _ s₁.heap _)
  · refine OGot.go (fun t k => XS.icmpNo X0.here hx rfl (hb hby d2_2) rfl (flt hs3).1 k) ?_
    show OGot p.tables e below (s₁.setTop (mkF m 5 #[.val (.int p1), .val (.int p2)] [])) _
    refine OGot.go (fun t k => XS.iloadN X0.here hx rfl (hb hby d2_5) rfl k) ?_
    show OGot p.tables e below (s₁.setTop (mkF m 6 #[.val (.int p1), .val (.int p2)] [(.int p1)])) _
    refine OGot.go (fun t k => XS.goto X0.here hx rfl (pc0 := 6) (pc' := 10) rfl (hb hby d2_6) (by decide) (by decide) k) ?_
    show OGot p.tables e below (s₁.setTop (mkF m 10 #[.val (.int p1), .val (.int p2)] [(.int p1)])) _
    obtain ⟨fs, hr, hrun, hended, hW, hsame⟩ := X0.leave (v := some (.int p1)) (fun h => by rw [Bd.returns] at h; cases h)
    refine ⟨_, _, retI X0 hx Bd.returns (hb hby d2_10) hr, hrun, hended, _, _, rfl, ?_, ⟨_, rfl⟩, hW, hsame.mono (by decide) (by decide)⟩
    exact (⟨(by unfold f2; rw [if_neg hs3]), N0, e0⟩ : Q2 Z m_OA w_REJECTED w_EMPTY_ELEMENTDATA w_DEFAULTCAPACITY_EMPTY_ELEMENTDATA w_EMPTY_LIST w_EMPTY_LIST_elements w_EMPTY k_w_EMPTY_ELEMENTDATA k_w_DEFAULTCAPACITY_EMPTY_ELEMENTDATA k_w_EMPTY_LIST_elements p1 p2 h0 n0 _ s₁.heap _)
theorem d3_0 : decode jdk_38_method_2_code 0 = .ok (.aload_n 0, 1) := by decide +kernel
theorem d3_1 : decode jdk_38_method_2_code 1 = .ok (.invokespecial 1, 3) := by decide +kernel
theorem d4_0 : decode jdk_39_method_1_code 0 = .ok (.aload_n 0, 1) := by decide +kernel
theorem d4_1 : decode jdk_39_method_1_code 1 = .ok (.invokespecial 1, 3) := by decide +kernel
theorem d5_0 : decode jdk_22_method_1_code 0 = .ok (.aload_n 0, 1) := by decide +kernel
theorem d5_1 : decode jdk_22_method_1_code 1 = .ok (.invokespecial 1, 3) := by decide +kernel
theorem d5_4 : decode jdk_22_method_1_code 4 = .ok (.return_, 1) := by decide +kernel
theorem pn_java_util_AbstractCollection : plainName "java/util/AbstractCollection" = true := by first | (simp [plainName, overriddenIn]; done) | decide +kernel
def Q5 (Z : State) (m_OA : Addr) (w_REJECTED : Addr) (w_EMPTY_ELEMENTDATA : Addr) (w_DEFAULTCAPACITY_EMPTY_ELEMENTDATA : Addr) (w_EMPTY_LIST : Addr) (w_EMPTY_LIST_elements : Addr) (w_EMPTY : Addr) (k_w_EMPTY_ELEMENTDATA : ClassId) (k_w_DEFAULTCAPACITY_EMPTY_ELEMENTDATA : ClassId) (k_w_EMPTY_LIST_elements : ClassId) (a1 : Addr) (h0 : Heap) (n0 : Nat) (v : Option Value) (h : Heap) (L : List Loc) : Prop := v = none ∧ Fr n0 L ∧ h = h0
theorem ef5 (m : MethodId) (x0 : Addr) : entryFrame m #[(.ref x0)] 1 = mkF m 0 #[.val (.ref x0)] [] := by first | (simp [entryFrame, mkF, argsToLocals, Value.category]; done) | rfl
set_option maxRecDepth 65536 in
set_option maxHeartbeats 40000000 in
theorem rm5 (l : Launch) (Z : State) (a0 : Array Value) (hw : ∀ d ∈ tables_1, d.before a0 Z = true) (ws : List Jvm.Cond) {m_OA : Addr} {w_REJECTED : Addr} {w_EMPTY_ELEMENTDATA : Addr} {w_DEFAULTCAPACITY_EMPTY_ELEMENTDATA : Addr} {w_EMPTY_LIST : Addr} {w_EMPTY_LIST_elements : Addr} {w_EMPTY : Addr} {k_w_EMPTY_ELEMENTDATA : ClassId} {k_w_DEFAULTCAPACITY_EMPTY_ELEMENTDATA : ClassId} {k_w_EMPTY_LIST_elements : ClassId} (G : Glob Z m_OA w_REJECTED w_EMPTY_ELEMENTDATA w_DEFAULTCAPACITY_EMPTY_ELEMENTDATA w_EMPTY_LIST w_EMPTY_LIST_elements w_EMPTY k_w_EMPTY_ELEMENTDATA k_w_DEFAULTCAPACITY_EMPTY_ELEMENTDATA k_w_EMPTY_LIST_elements) (a1 : Addr) (h0 : Heap) (n0 : Nat) (O0 : Old Z n0 h0) :
    MetFree l (⟨"java/util/AbstractCollection", "<init>", "()V"⟩ : MethodName) (head1 (Jvm.Cond.code (⟨"java/util/AbstractCollection", "<init>", "()V"⟩ : MethodName) jdk_22_method_1_code 1 none :: ws) ({ frames := 1, cells := 0, slots := 0, locals := 12 } : Room)) (fun a U => a = #[(.ref a1)] ∧ Z.Warmed39 U.vm ∧ U.heap = h0) (fun _ _ _ _ _ => True) (fun _ U o U' => ∃ v L, o = .returned v ∧ Q5 Z m_OA w_REJECTED w_EMPTY_ELEMENTDATA w_DEFAULTCAPACITY_EMPTY_ELEMENTDATA w_EMPTY_LIST w_EMPTY_LIST_elements w_EMPTY k_w_EMPTY_ELEMENTDATA k_w_DEFAULTCAPACITY_EMPTY_ELEMENTDATA k_w_EMPTY_LIST_elements a1 h0 n0 v U'.heap L ∧ FrameEnd U o U' L ({ frames := 1, cells := 0, slots := 0, locals := 12 } : Room).cells ({ frames := 1, cells := 0, slots := 0, locals := 12 } : Room).slots) := by
  refine MetFree.of_bodySF (plainFor_of_name pn_java_util_AbstractCollection) hisR ?_
  intro p e s m args below meth c s₁ Bd hml0 hP hK
  obtain ⟨rfl, hZ, hh⟩ := hP
  have hx := Bd.exec
  have hby := Bd.bytes
  have hml : c.maxLocals = 1 := hml0
  have hown : s.vm.findClass "java/util/AbstractCollection" = some m.cls := findClass_of_methodNamed Bd.named
  have hnm := (name_of_methodNamed Bd.named Bd.method).1
  have X0 : Stand p l e ({ frames := 1, cells := 0, slots := 0, locals := 12 } : Room) s m #[(.ref a1)] below meth c s₁ [] 0 0 := Stand.of_body Bd
  have e0 : s₁.heap = h0 := by rw [← hh, Bd.state]; rfl
  have N0 := Fr.nil n0
  show OGot p.tables e below (s₁.setTop (entryFrame m #[(.ref a1)] 1)) _
  refine OGot.go (fun t k => castTop (ef5 m a1) k) ?_
  show OGot p.tables e below (s₁.setTop (mkF m 0 #[.val (.ref a1)] [])) _
  refine OGot.go (fun t k => XS.aloadN X0.here hx rfl (hb hby d5_0) rfl rfl k) ?_
  show OGot p.tables e below (s₁.setTop (mkF m 1 #[.val (.ref a1)] [(.ref a1)])) _
  obtain ⟨T2, X2, e2, st2⟩ := initO X0 hx hZ hown (ow hw 26 rfl) (ow hw 27 rfl) (ow hw 28 rfl) e0 (g := (mkF m 1 #[.val (.ref a1)] [(.ref a1)])) rfl (by rw [hml]; rfl) rfl (hb hby d5_1) (by decide) (W := 0) (by show 2 * 0 + _ ≤ _; exact Nat.le_of_eq rfl) (by decide)
  refine OGot.go st2 ?_
  show OGot p.tables e below (T2.setTop (mkF m 4 #[.val (.ref a1)] [])) _
  obtain ⟨fs, hr, hrun, hended, hW, hsame⟩ := X2.leave (v := none) (fun _ => rfl)
  refine ⟨_, _, X2.returnOut hx Bd.returns (hb hby d5_4) hr, hrun, hended, _, _, rfl, ?_, ⟨_, rfl⟩, hW, hsame.mono (by decide) (by decide)⟩
  exact (⟨rfl, N0, e2⟩ : Q5 Z m_OA w_REJECTED w_EMPTY_ELEMENTDATA w_DEFAULTCAPACITY_EMPTY_ELEMENTDATA w_EMPTY_LIST w_EMPTY_LIST_elements w_EMPTY k_w_EMPTY_ELEMENTDATA k_w_DEFAULTCAPACITY_EMPTY_ELEMENTDATA k_w_EMPTY_LIST_elements a1 h0 n0 _ T2.heap _)
theorem pd_1 : parseMethodDescriptor "()V" = some ⟨[], none⟩ := by decide +kernel
theorem d4_4 : decode jdk_39_method_1_code 4 = .ok (.aload_n 0, 1) := by decide +kernel
theorem d4_5 : decode jdk_39_method_1_code 5 = .ok (.iconst 0, 1) := by decide +kernel
theorem d4_6 : decode jdk_39_method_1_code 6 = .ok (.putfield 7, 3) := by decide +kernel
theorem d4_9 : decode jdk_39_method_1_code 9 = .ok (.return_, 1) := by decide +kernel
theorem pn_java_util_AbstractList : plainName "java/util/AbstractList" = true := by first | (simp [plainName, overriddenIn]; done) | decide +kernel
def Q4 (Z : State) (m_OA : Addr) (w_REJECTED : Addr) (w_EMPTY_ELEMENTDATA : Addr) (w_DEFAULTCAPACITY_EMPTY_ELEMENTDATA : Addr) (w_EMPTY_LIST : Addr) (w_EMPTY_LIST_elements : Addr) (w_EMPTY : Addr) (k_w_EMPTY_ELEMENTDATA : ClassId) (k_w_DEFAULTCAPACITY_EMPTY_ELEMENTDATA : ClassId) (k_w_EMPTY_LIST_elements : ClassId) (a1 : Addr) (h0 : Heap) (n0 : Nat) (v : Option Value) (h : Heap) (L : List Loc) : Prop := Fr n0 L ∧ v = none ∧ OKeep h0 h [(a1, Jvm.RoadKit.slotOf Z "java/util/AbstractList" "modCount" "I")] ∧ Fld Z h a1 "java/util/AbstractList" "modCount" "I" (.int (0 : Int32))
theorem ef4 (m : MethodId) (x0 : Addr) : entryFrame m #[(.ref x0)] 1 = mkF m 0 #[.val (.ref x0)] [] := by first | (simp [entryFrame, mkF, argsToLocals, Value.category]; done) | rfl
set_option maxRecDepth 65536 in
set_option maxHeartbeats 40000000 in
theorem rm4 (l : Launch) (Z : State) (a0 : Array Value) (hw : ∀ d ∈ tables_1, d.before a0 Z = true) (ws : List Jvm.Cond) {m_OA : Addr} {w_REJECTED : Addr} {w_EMPTY_ELEMENTDATA : Addr} {w_DEFAULTCAPACITY_EMPTY_ELEMENTDATA : Addr} {w_EMPTY_LIST : Addr} {w_EMPTY_LIST_elements : Addr} {w_EMPTY : Addr} {k_w_EMPTY_ELEMENTDATA : ClassId} {k_w_DEFAULTCAPACITY_EMPTY_ELEMENTDATA : ClassId} {k_w_EMPTY_LIST_elements : ClassId} (G : Glob Z m_OA w_REJECTED w_EMPTY_ELEMENTDATA w_DEFAULTCAPACITY_EMPTY_ELEMENTDATA w_EMPTY_LIST w_EMPTY_LIST_elements w_EMPTY k_w_EMPTY_ELEMENTDATA k_w_DEFAULTCAPACITY_EMPTY_ELEMENTDATA k_w_EMPTY_LIST_elements) (a1 : Addr) (h0 : Heap) (n0 : Nat) (O0 : Old Z n0 h0) (E_a1 : Exa Z h0 a1 "java/util/ArrayList") (F_modCount_a1 : Fld Z h0 a1 "java/util/AbstractList" "modCount" "I" (.int (0 : Int32))) (g_a1 : n0 ≤ a1) :
    MetFree l (⟨"java/util/AbstractList", "<init>", "()V"⟩ : MethodName) (head1 (Jvm.Cond.code (⟨"java/util/AbstractList", "<init>", "()V"⟩ : MethodName) jdk_39_method_1_code 1 none :: ws) ({ frames := 2, cells := 0, slots := 0, locals := 24 } : Room)) (fun a U => a = #[(.ref a1)] ∧ Z.Warmed39 U.vm ∧ U.heap = h0) (fun _ _ _ _ _ => True) (fun _ U o U' => ∃ v L, o = .returned v ∧ Q4 Z m_OA w_REJECTED w_EMPTY_ELEMENTDATA w_DEFAULTCAPACITY_EMPTY_ELEMENTDATA w_EMPTY_LIST w_EMPTY_LIST_elements w_EMPTY k_w_EMPTY_ELEMENTDATA k_w_DEFAULTCAPACITY_EMPTY_ELEMENTDATA k_w_EMPTY_LIST_elements a1 h0 n0 v U'.heap L ∧ FrameEnd U o U' L ({ frames := 2, cells := 0, slots := 0, locals := 24 } : Room).cells ({ frames := 2, cells := 0, slots := 0, locals := 24 } : Room).slots) := by
  refine MetFree.of_bodySF (plainFor_of_name pn_java_util_AbstractList) hisR ?_
  intro p e s m args below meth c s₁ Bd hml0 hP hK
  obtain ⟨rfl, hZ, hh⟩ := hP
  have hx := Bd.exec
  have hby := Bd.bytes
  have hml : c.maxLocals = 1 := hml0
  have hown : s.vm.findClass "java/util/AbstractList" = some m.cls := findClass_of_methodNamed Bd.named
  have hnm := (name_of_methodNamed Bd.named Bd.method).1
  have X0 : Stand p l e ({ frames := 2, cells := 0, slots := 0, locals := 24 } : Room) s m #[(.ref a1)] below meth c s₁ [] 0 0 := Stand.of_body Bd
  have e0 : s₁.heap = h0 := by rw [← hh, Bd.state]; rfl
  have N0 := Fr.nil n0
  show OGot p.tables e below (s₁.setTop (entryFrame m #[(.ref a1)] 1)) _
  refine OGot.go (fun t k => castTop (ef4 m a1) k) ?_
  show OGot p.tables e below (s₁.setTop (mkF m 0 #[.val (.ref a1)] [])) _
  refine OGot.go (fun t k => XS.aloadN X0.here hx rfl (hb hby d4_0) rfl rfl k) ?_
  show OGot p.tables e below (s₁.setTop (mkF m 1 #[.val (.ref a1)] [(.ref a1)])) _
  obtain ⟨_, _, ⟨T2, L2, k2, n2⟩, -, X2, ⟨Lc2, hQ2, l2, y2, z2⟩, st2⟩ := X0.specialBack hx (y := (⟨"java/util/AbstractCollection", "<init>", "()V"⟩ : MethodName)) rfl hown (mvT hZ (ow hw 20 rfl)) (mvT hZ (ow hw 21 rfl)) (mvT hZ (ow hw 25 rfl)) (by decide) (backOf (W := 0) (rm5 l Z a0 hw [] G a1 h0 n0 O0 ) hZ (ow hw 25 rfl) (ow hw 24 rfl) (by decide) (by decide)) (g := (mkF m 1 #[.val (.ref a1)] [(.ref a1)])) rfl (by rw [hml]; rfl) (Steps.refl _) (a := a1) (argsL := []) (rest := []) (lenOf pd_1 rfl) rfl (by show 2 * 0 + _ ≤ _; exact Nat.le_of_eq rfl) (hb hby d4_1) (fun _ _ => ⟨rfl, e0, (by decide : 0 + 0 ≤ _), (by decide : 0 + 0 ≤ _)⟩)
  dsimp only [Pt.U, Pt.locs, Pt.cells, Pt.slots] at X2 l2 y2 z2 st2 hQ2
  subst l2 y2 z2
  obtain ⟨rfl, N2q, e2⟩ := hQ2
  have N2 := Fr.app N0 N2q
  refine OGot.on st2 ?_
  show OGot p.tables e below (T2.setTop (mkF m 4 #[.val (.ref a1)] [])) _
  refine OGot.go (fun t k => XS.aloadN X2.here hx rfl (hb hby d4_4) rfl rfl k) ?_
  show OGot p.tables e below (T2.setTop (mkF m 5 #[.val (.ref a1)] [(.ref a1)])) _
  refine OGot.go (fun t k => XS.iconst X2.here hx rfl (hb hby d4_5) k) ?_
  show OGot p.tables e below (T2.setTop (mkF m 6 #[.val (.ref a1)] [(.int (0 : Int32)), (.ref a1)])) _
  obtain ⟨T3, h3, X3, e3, W3, st3⟩ := putF X2 hx hZ hown (host := "") (Or.inl (ow hw 29 rfl)) Via.refl e2 F_modCount_a1 E_a1 (Or.inl (ow hw 30 rfl)) (ow hw 9 rfl) (ty := .int) (by decide) rfl rfl (g := (mkF m 6 #[.val (.ref a1)] [(.int (0 : Int32)), (.ref a1)])) rfl rfl (hb hby d4_6)
  refine OGot.go st3 ?_
  have N3 := Fr.snoc X3 N2 g_a1
  have O3 := O0.wr W3 g_a1
  have K3 := (OKeep.refl h0 [(a1, Jvm.RoadKit.slotOf Z "java/util/AbstractList" "modCount" "I")]).wr W3 (Or.inl (List.mem_of_getElem? (i := 0) rfl))
  have Fw3 : Fld Z h3 a1 "java/util/AbstractList" "modCount" "I" (.int (0 : Int32)) := F_modCount_a1.same W3
  show OGot p.tables e below (T3.setTop (mkF m 9 #[.val (.ref a1)] [])) _
  obtain ⟨fs, hr, hrun, hended, hW, hsame⟩ := X3.leave (v := none) (fun _ => rfl)
  refine ⟨_, _, X3.returnOut hx Bd.returns (hb hby d4_9) hr, hrun, hended, _, _, rfl, ?_, ⟨_, rfl⟩, hW, hsame.mono (by decide) (by decide)⟩
  show Q4 Z m_OA w_REJECTED w_EMPTY_ELEMENTDATA w_DEFAULTCAPACITY_EMPTY_ELEMENTDATA w_EMPTY_LIST w_EMPTY_LIST_elements w_EMPTY k_w_EMPTY_ELEMENTDATA k_w_DEFAULTCAPACITY_EMPTY_ELEMENTDATA k_w_EMPTY_LIST_elements a1 h0 n0 _ T3.heap _
  rw [e3]
  exact ⟨N3, rfl, K3, Fw3⟩
theorem d3_4 : decode jdk_38_method_2_code 4 = .ok (.aload_n 0, 1) := by decide +kernel
theorem d3_5 : decode jdk_38_method_2_code 5 = .ok (.getstatic 39, 3) := by decide +kernel
theorem d3_8 : decode jdk_38_method_2_code 8 = .ok (.putfield 9, 3) := by decide +kernel
theorem d3_11 : decode jdk_38_method_2_code 11 = .ok (.return_, 1) := by decide +kernel
theorem pn_java_util_ArrayList : plainName "java/util/ArrayList" = true := by first | (simp [plainName, overriddenIn]; done) | decide +kernel
def Q3 (Z : State) (m_OA : Addr) (w_REJECTED : Addr) (w_EMPTY_ELEMENTDATA : Addr) (w_DEFAULTCAPACITY_EMPTY_ELEMENTDATA : Addr) (w_EMPTY_LIST : Addr) (w_EMPTY_LIST_elements : Addr) (w_EMPTY : Addr) (k_w_EMPTY_ELEMENTDATA : ClassId) (k_w_DEFAULTCAPACITY_EMPTY_ELEMENTDATA : ClassId) (k_w_EMPTY_LIST_elements : ClassId) (a1 : Addr) (h0 : Heap) (n0 : Nat) (v : Option Value) (h : Heap) (L : List Loc) : Prop := Fr n0 L ∧ v = none ∧ OKeep h0 h [(a1, Jvm.RoadKit.slotOf Z "java/util/AbstractList" "modCount" "I"), (a1, Jvm.RoadKit.slotOf Z "java/util/ArrayList" "elementData" "[Ljava/lang/Object;")] ∧ Fld Z h a1 "java/util/AbstractList" "modCount" "I" (.int (0 : Int32)) ∧ Fld Z h a1 "java/util/ArrayList" "elementData" "[Ljava/lang/Object;" (.ref w_DEFAULTCAPACITY_EMPTY_ELEMENTDATA)
theorem ef3 (m : MethodId) (x0 : Addr) : entryFrame m #[(.ref x0)] 1 = mkF m 0 #[.val (.ref x0)] [] := by first | (simp [entryFrame, mkF, argsToLocals, Value.category]; done) | rfl
set_option maxRecDepth 65536 in
set_option maxHeartbeats 40000000 in
theorem rm3 (l : Launch) (Z : State) (a0 : Array Value) (hw : ∀ d ∈ tables_1, d.before a0 Z = true) (ws : List Jvm.Cond) {m_OA : Addr} {w_REJECTED : Addr} {w_EMPTY_ELEMENTDATA : Addr} {w_DEFAULTCAPACITY_EMPTY_ELEMENTDATA : Addr} {w_EMPTY_LIST : Addr} {w_EMPTY_LIST_elements : Addr} {w_EMPTY : Addr} {k_w_EMPTY_ELEMENTDATA : ClassId} {k_w_DEFAULTCAPACITY_EMPTY_ELEMENTDATA : ClassId} {k_w_EMPTY_LIST_elements : ClassId} (G : Glob Z m_OA w_REJECTED w_EMPTY_ELEMENTDATA w_DEFAULTCAPACITY_EMPTY_ELEMENTDATA w_EMPTY_LIST w_EMPTY_LIST_elements w_EMPTY k_w_EMPTY_ELEMENTDATA k_w_DEFAULTCAPACITY_EMPTY_ELEMENTDATA k_w_EMPTY_LIST_elements) (a1 : Addr) (h0 : Heap) (n0 : Nat) (O0 : Old Z n0 h0) (E_a1 : Exa Z h0 a1 "java/util/ArrayList") (F_modCount_a1 : Fld Z h0 a1 "java/util/AbstractList" "modCount" "I" (.int (0 : Int32))) (g_a1 : n0 ≤ a1) (F_elementData_a1 : Fld Z h0 a1 "java/util/ArrayList" "elementData" "[Ljava/lang/Object;" .null) :
    MetFree l (⟨"java/util/ArrayList", "<init>", "()V"⟩ : MethodName) (head1 (Jvm.Cond.code (⟨"java/util/ArrayList", "<init>", "()V"⟩ : MethodName) jdk_38_method_2_code 1 none :: ws) ({ frames := 3, cells := 0, slots := 0, locals := 36 } : Room)) (fun a U => a = #[(.ref a1)] ∧ Z.Warmed39 U.vm ∧ U.heap = h0) (fun _ _ _ _ _ => True) (fun _ U o U' => ∃ v L, o = .returned v ∧ Q3 Z m_OA w_REJECTED w_EMPTY_ELEMENTDATA w_DEFAULTCAPACITY_EMPTY_ELEMENTDATA w_EMPTY_LIST w_EMPTY_LIST_elements w_EMPTY k_w_EMPTY_ELEMENTDATA k_w_DEFAULTCAPACITY_EMPTY_ELEMENTDATA k_w_EMPTY_LIST_elements a1 h0 n0 v U'.heap L ∧ FrameEnd U o U' L ({ frames := 3, cells := 0, slots := 0, locals := 36 } : Room).cells ({ frames := 3, cells := 0, slots := 0, locals := 36 } : Room).slots) := by
  refine MetFree.of_bodySF (plainFor_of_name pn_java_util_ArrayList) hisR ?_
  intro p e s m args below meth c s₁ Bd hml0 hP hK
  obtain ⟨rfl, hZ, hh⟩ := hP
  have hx := Bd.exec
  have hby := Bd.bytes
  have hml : c.maxLocals = 1 := hml0
  have hown : s.vm.findClass "java/util/ArrayList" = some m.cls := findClass_of_methodNamed Bd.named
  have hnm := (name_of_methodNamed Bd.named Bd.method).1
  have X0 : Stand p l e ({ frames := 3, cells := 0, slots := 0, locals := 36 } : Room) s m #[(.ref a1)] below meth c s₁ [] 0 0 := Stand.of_body Bd
  have e0 : s₁.heap = h0 := by rw [← hh, Bd.state]; rfl
  have N0 := Fr.nil n0
  show OGot p.tables e below (s₁.setTop (entryFrame m #[(.ref a1)] 1)) _
  refine OGot.go (fun t k => castTop (ef3 m a1) k) ?_
  show OGot p.tables e below (s₁.setTop (mkF m 0 #[.val (.ref a1)] [])) _
  refine OGot.go (fun t k => XS.aloadN X0.here hx rfl (hb hby d3_0) rfl rfl k) ?_
  show OGot p.tables e below (s₁.setTop (mkF m 1 #[.val (.ref a1)] [(.ref a1)])) _
  obtain ⟨_, _, ⟨T2, L2, k2, n2⟩, -, X2, ⟨Lc2, hQ2, l2, y2, z2⟩, st2⟩ := X0.specialBack hx (y := (⟨"java/util/AbstractList", "<init>", "()V"⟩ : MethodName)) rfl hown (mvT hZ (ow hw 14 rfl)) (mvT hZ (ow hw 15 rfl)) (mvT hZ (ow hw 19 rfl)) (by decide) (backOf (W := 0) (rm4 l Z a0 hw [] G a1 h0 n0 O0 E_a1 F_modCount_a1 g_a1) hZ (ow hw 19 rfl) (ow hw 18 rfl) (by decide) (by decide)) (g := (mkF m 1 #[.val (.ref a1)] [(.ref a1)])) rfl (by rw [hml]; rfl) (Steps.refl _) (a := a1) (argsL := []) (rest := []) (lenOf pd_1 rfl) rfl (by show 2 * 0 + _ ≤ _; exact Nat.le_of_eq rfl) (hb hby d3_1) (fun _ _ => ⟨rfl, e0, (by decide : 0 + 0 ≤ _), (by decide : 0 + 0 ≤ _)⟩)
  dsimp only [Pt.U, Pt.locs, Pt.cells, Pt.slots] at X2 l2 y2 z2 st2 hQ2
  subst l2 y2 z2
  obtain ⟨N2q, rfl, K2, Fo2_0⟩ := hQ2
  have Kc2 := (OKeep.refl h0 [(a1, Jvm.RoadKit.slotOf Z "java/util/AbstractList" "modCount" "I"), (a1, Jvm.RoadKit.slotOf Z "java/util/ArrayList" "elementData" "[Ljava/lang/Object;")]).trans K2 (oinS (Or.inl (List.mem_of_getElem? (i := 0) rfl)) oin0)
  have O2 := OKeep.old O0 K2 (ogeS g_a1 oge0)
  have N2 := Fr.app N0 N2q
  refine OGot.on st2 ?_
  show OGot p.tables e below (T2.setTop (mkF m 4 #[.val (.ref a1)] [])) _
  refine OGot.go (fun t k => XS.aloadN X2.here hx rfl (hb hby d3_4) rfl rfl k) ?_
  show OGot p.tables e below (T2.setTop (mkF m 5 #[.val (.ref a1)] [(.ref a1)])) _
  obtain ⟨T3, X3, e3, st3⟩ := getS2 X2 hx hZ hown (host := "") (Or.inl (ow hw 31 rfl)) Via.refl rfl (G.2.2.2.2.2.1.ext O2.2) (g := (mkF m 5 #[.val (.ref a1)] [(.ref a1)])) rfl (hb hby d3_5)
  refine OGot.go st3 ?_
  show OGot p.tables e below (T3.setTop (mkF m 8 #[.val (.ref a1)] [(.ref w_DEFAULTCAPACITY_EMPTY_ELEMENTDATA), (.ref a1)])) _
  have F4 : Fld Z T2.heap a1 "java/util/ArrayList" "elementData" "[Ljava/lang/Object;" .null := (OKeep.fld F_elementData_a1 K2 (oninS (slot_ne (Or.inl (ow hw 33 rfl)) (Or.inl (ow hw 30 rfl)) (by decide) (t := (.array (.object "java/lang/Object"))) (t' := .int) (by decide) (by decide)) onin0))
  obtain ⟨T5, h5, X5, e5, W5, st5⟩ := putF X3 hx hZ hown (host := "") (Or.inl (ow hw 32 rfl)) Via.refl e3 F4 (OKeep.exa E_a1 K2) (Or.inl (ow hw 33 rfl)) (ow hw 9 rfl) (ty := (.array (.object "java/lang/Object"))) (by decide) rfl rfl (g := (mkF m 8 #[.val (.ref a1)] [(.ref w_DEFAULTCAPACITY_EMPTY_ELEMENTDATA), (.ref a1)])) rfl rfl (hb hby d3_8)
  refine OGot.go st5 ?_
  have N5 := Fr.snoc X5 N2 g_a1
  have O5 := O2.wr W5 g_a1
  have K5 := Kc2.wr W5 (Or.inl (List.mem_of_getElem? (i := 1) rfl))
  have Fw5 : Fld Z h5 a1 "java/util/ArrayList" "elementData" "[Ljava/lang/Object;" (.ref w_DEFAULTCAPACITY_EMPTY_ELEMENTDATA) := F4.same W5
  show OGot p.tables e below (T5.setTop (mkF m 11 #[.val (.ref a1)] [])) _
  obtain ⟨fs, hr, hrun, hended, hW, hsame⟩ := X5.leave (v := none) (fun _ => rfl)
  refine ⟨_, _, X5.returnOut hx Bd.returns (hb hby d3_11) hr, hrun, hended, _, _, rfl, ?_, ⟨_, rfl⟩, hW, hsame.mono (by decide) (by decide)⟩
  have F6 : Fld Z h5 a1 "java/util/AbstractList" "modCount" "I" (.int (0 : Int32)) := (Fo2_0.other W5 (Or.inr (slot_ne (Or.inl (ow hw 30 rfl)) (Or.inl (ow hw 33 rfl)) (by decide) (t := .int) (t' := (.array (.object "java/lang/Object"))) (by decide) (by decide))))
  show Q3 Z m_OA w_REJECTED w_EMPTY_ELEMENTDATA w_DEFAULTCAPACITY_EMPTY_ELEMENTDATA w_EMPTY_LIST w_EMPTY_LIST_elements w_EMPTY k_w_EMPTY_ELEMENTDATA k_w_DEFAULTCAPACITY_EMPTY_ELEMENTDATA k_w_EMPTY_LIST_elements a1 h0 n0 _ T5.heap _
  rw [e5]
  exact ⟨N5, rfl, K5, F6, Fw5⟩
theorem d7_0 : decode prog_14_method_1_code 0 = .ok (.aload_n 0, 1) := by decide +kernel
theorem d7_1 : decode prog_14_method_1_code 1 = .ok (.invokespecial 1, 3) := by decide +kernel
theorem d8_0 : decode jdk_30_method_1_code 0 = .ok (.aload_n 0, 1) := by decide +kernel
theorem d8_1 : decode jdk_30_method_1_code 1 = .ok (.invokespecial 1, 3) := by decide +kernel
theorem d8_4 : decode jdk_30_method_1_code 4 = .ok (.return_, 1) := by decide +kernel
theorem pn_java_lang_Record : plainName "java/lang/Record" = true := by first | (simp [plainName, overriddenIn]; done) | decide +kernel
def Q8 (Z : State) (m_OA : Addr) (w_REJECTED : Addr) (w_EMPTY_ELEMENTDATA : Addr) (w_DEFAULTCAPACITY_EMPTY_ELEMENTDATA : Addr) (w_EMPTY_LIST : Addr) (w_EMPTY_LIST_elements : Addr) (w_EMPTY : Addr) (k_w_EMPTY_ELEMENTDATA : ClassId) (k_w_DEFAULTCAPACITY_EMPTY_ELEMENTDATA : ClassId) (k_w_EMPTY_LIST_elements : ClassId) (a1 : Addr) (h0 : Heap) (n0 : Nat) (v : Option Value) (h : Heap) (L : List Loc) : Prop := v = none ∧ Fr n0 L ∧ h = h0
theorem ef8 (m : MethodId) (x0 : Addr) : entryFrame m #[(.ref x0)] 1 = mkF m 0 #[.val (.ref x0)] [] := by first | (simp [entryFrame, mkF, argsToLocals, Value.category]; done) | rfl
set_option maxRecDepth 65536 in
set_option maxHeartbeats 40000000 in
theorem rm8 (l : Launch) (Z : State) (a0 : Array Value) (hw : ∀ d ∈ tables_1, d.before a0 Z = true) (ws : List Jvm.Cond) {m_OA : Addr} {w_REJECTED : Addr} {w_EMPTY_ELEMENTDATA : Addr} {w_DEFAULTCAPACITY_EMPTY_ELEMENTDATA : Addr} {w_EMPTY_LIST : Addr} {w_EMPTY_LIST_elements : Addr} {w_EMPTY : Addr} {k_w_EMPTY_ELEMENTDATA : ClassId} {k_w_DEFAULTCAPACITY_EMPTY_ELEMENTDATA : ClassId} {k_w_EMPTY_LIST_elements : ClassId} (G : Glob Z m_OA w_REJECTED w_EMPTY_ELEMENTDATA w_DEFAULTCAPACITY_EMPTY_ELEMENTDATA w_EMPTY_LIST w_EMPTY_LIST_elements w_EMPTY k_w_EMPTY_ELEMENTDATA k_w_DEFAULTCAPACITY_EMPTY_ELEMENTDATA k_w_EMPTY_LIST_elements) (a1 : Addr) (h0 : Heap) (n0 : Nat) (O0 : Old Z n0 h0) :
    MetFree l (⟨"java/lang/Record", "<init>", "()V"⟩ : MethodName) (head1 (Jvm.Cond.code (⟨"java/lang/Record", "<init>", "()V"⟩ : MethodName) jdk_30_method_1_code 1 none :: ws) ({ frames := 1, cells := 0, slots := 0, locals := 12 } : Room)) (fun a U => a = #[(.ref a1)] ∧ Z.Warmed39 U.vm ∧ U.heap = h0) (fun _ _ _ _ _ => True) (fun _ U o U' => ∃ v L, o = .returned v ∧ Q8 Z m_OA w_REJECTED w_EMPTY_ELEMENTDATA w_DEFAULTCAPACITY_EMPTY_ELEMENTDATA w_EMPTY_LIST w_EMPTY_LIST_elements w_EMPTY k_w_EMPTY_ELEMENTDATA k_w_DEFAULTCAPACITY_EMPTY_ELEMENTDATA k_w_EMPTY_LIST_elements a1 h0 n0 v U'.heap L ∧ FrameEnd U o U' L ({ frames := 1, cells := 0, slots := 0, locals := 12 } : Room).cells ({ frames := 1, cells := 0, slots := 0, locals := 12 } : Room).slots) := by
  refine MetFree.of_bodySF (plainFor_of_name pn_java_lang_Record) hisR ?_
  intro p e s m args below meth c s₁ Bd hml0 hP hK
  obtain ⟨rfl, hZ, hh⟩ := hP
  have hx := Bd.exec
  have hby := Bd.bytes
  have hml : c.maxLocals = 1 := hml0
  have hown : s.vm.findClass "java/lang/Record" = some m.cls := findClass_of_methodNamed Bd.named
  have hnm := (name_of_methodNamed Bd.named Bd.method).1
  have X0 : Stand p l e ({ frames := 1, cells := 0, slots := 0, locals := 12 } : Room) s m #[(.ref a1)] below meth c s₁ [] 0 0 := Stand.of_body Bd
  have e0 : s₁.heap = h0 := by rw [← hh, Bd.state]; rfl
  have N0 := Fr.nil n0
  show OGot p.tables e below (s₁.setTop (entryFrame m #[(.ref a1)] 1)) _
  refine OGot.go (fun t k => castTop (ef8 m a1) k) ?_
  show OGot p.tables e below (s₁.setTop (mkF m 0 #[.val (.ref a1)] [])) _
  refine OGot.go (fun t k => XS.aloadN X0.here hx rfl (hb hby d8_0) rfl rfl k) ?_
  show OGot p.tables e below (s₁.setTop (mkF m 1 #[.val (.ref a1)] [(.ref a1)])) _
  obtain ⟨T2, X2, e2, st2⟩ := initO X0 hx hZ hown (ow hw 45 rfl) (ow hw 27 rfl) (ow hw 28 rfl) e0 (g := (mkF m 1 #[.val (.ref a1)] [(.ref a1)])) rfl (by rw [hml]; rfl) rfl (hb hby d8_1) (by decide) (W := 0) (by show 2 * 0 + _ ≤ _; exact Nat.le_of_eq rfl) (by decide)
  refine OGot.go st2 ?_
  show OGot p.tables e below (T2.setTop (mkF m 4 #[.val (.ref a1)] [])) _
  obtain ⟨fs, hr, hrun, hended, hW, hsame⟩ := X2.leave (v := none) (fun _ => rfl)
  refine ⟨_, _, X2.returnOut hx Bd.returns (hb hby d8_4) hr, hrun, hended, _, _, rfl, ?_, ⟨_, rfl⟩, hW, hsame.mono (by decide) (by decide)⟩
  exact (⟨rfl, N0, e2⟩ : Q8 Z m_OA w_REJECTED w_EMPTY_ELEMENTDATA w_DEFAULTCAPACITY_EMPTY_ELEMENTDATA w_EMPTY_LIST w_EMPTY_LIST_elements w_EMPTY k_w_EMPTY_ELEMENTDATA k_w_DEFAULTCAPACITY_EMPTY_ELEMENTDATA k_w_EMPTY_LIST_elements a1 h0 n0 _ T2.heap _)
theorem d7_4 : decode prog_14_method_1_code 4 = .ok (.aload_n 1, 1) := by decide +kernel
theorem d7_5 : decode prog_14_method_1_code 5 = .ok (.invokestatic 7, 3) := by decide +kernel
theorem d9_0 : decode jdk_40_method_48_code 0 = .ok (.aload_n 0, 1) := by decide +kernel
theorem d9_1 : decode jdk_40_method_48_code 1 = .ok (.invokestatic 112, 3) := by decide +kernel
theorem d10_0 : decode jdk_56_method_3_code 0 = .ok (.aload_n 0, 1) := by decide +kernel
theorem d10_1 : decode jdk_56_method_3_code 1 = .ok (.instanceof 10, 3) := by decide +kernel
theorem d10_4 : decode jdk_56_method_3_code 4 = .ok (.ifCond .ne 22, 3) := by decide +kernel
theorem d10_7 : decode jdk_56_method_3_code 7 = .ok (.aload_n 0, 1) := by decide +kernel
theorem d10_8 : decode jdk_56_method_3_code 8 = .ok (.instanceof 12, 3) := by decide +kernel
theorem d10_11 : decode jdk_56_method_3_code 11 = .ok (.ifCond .eq 20, 3) := by decide +kernel
theorem d10_31 : decode jdk_56_method_3_code 31 = .ok (.aload_n 0, 1) := by decide +kernel
theorem d10_32 : decode jdk_56_method_3_code 32 = .ok (.invokeinterface 20 1, 5) := by decide +kernel
theorem d11_0 : decode jdk_38_method_9_code 0 = .ok (.aload_n 0, 1) := by decide +kernel
theorem d11_1 : decode jdk_38_method_9_code 1 = .ok (.getfield 48, 3) := by decide +kernel
theorem d11_4 : decode jdk_38_method_9_code 4 = .ok (.ifCond .ne 7, 3) := by decide +kernel
theorem d11_7 : decode jdk_38_method_9_code 7 = .ok (.iconst 1, 1) := by decide +kernel
theorem d11_8 : decode jdk_38_method_9_code 8 = .ok (.goto 4, 3) := by decide +kernel
theorem d11_12 : decode jdk_38_method_9_code 12 = .ok (.ireturn, 1) := by decide +kernel
def Q11 (Z : State) (m_OA : Addr) (w_REJECTED : Addr) (w_EMPTY_ELEMENTDATA : Addr) (w_DEFAULTCAPACITY_EMPTY_ELEMENTDATA : Addr) (w_EMPTY_LIST : Addr) (w_EMPTY_LIST_elements : Addr) (w_EMPTY : Addr) (k_w_EMPTY_ELEMENTDATA : ClassId) (k_w_DEFAULTCAPACITY_EMPTY_ELEMENTDATA : ClassId) (k_w_EMPTY_LIST_elements : ClassId) (a1 : Addr) (h0 : Heap) (n0 : Nat) (v : Option Value) (h : Heap) (L : List Loc) : Prop := v = some (.int (1 : Int32)) ∧ Fr n0 L ∧ h = h0
theorem ef11 (m : MethodId) (x0 : Addr) : entryFrame m #[(.ref x0)] 1 = mkF m 0 #[.val (.ref x0)] [] := by first | (simp [entryFrame, mkF, argsToLocals, Value.category]; done) | rfl
set_option maxRecDepth 65536 in
set_option maxHeartbeats 40000000 in
theorem rm11 (l : Launch) (Z : State) (a0 : Array Value) (hw : ∀ d ∈ tables_1, d.before a0 Z = true) (ws : List Jvm.Cond) {m_OA : Addr} {w_REJECTED : Addr} {w_EMPTY_ELEMENTDATA : Addr} {w_DEFAULTCAPACITY_EMPTY_ELEMENTDATA : Addr} {w_EMPTY_LIST : Addr} {w_EMPTY_LIST_elements : Addr} {w_EMPTY : Addr} {k_w_EMPTY_ELEMENTDATA : ClassId} {k_w_DEFAULTCAPACITY_EMPTY_ELEMENTDATA : ClassId} {k_w_EMPTY_LIST_elements : ClassId} (G : Glob Z m_OA w_REJECTED w_EMPTY_ELEMENTDATA w_DEFAULTCAPACITY_EMPTY_ELEMENTDATA w_EMPTY_LIST w_EMPTY_LIST_elements w_EMPTY k_w_EMPTY_ELEMENTDATA k_w_DEFAULTCAPACITY_EMPTY_ELEMENTDATA k_w_EMPTY_LIST_elements) (a1 : Addr) (h0 : Heap) (n0 : Nat) (O0 : Old Z n0 h0) (F_size_a1 : Fld Z h0 a1 "java/util/ArrayList" "size" "I" (.int (0 : Int32))) :
    MetFree l (⟨"java/util/ArrayList", "isEmpty", "()Z"⟩ : MethodName) (head1 (Jvm.Cond.code (⟨"java/util/ArrayList", "isEmpty", "()Z"⟩ : MethodName) jdk_38_method_9_code 1 (some .boolean) :: ws) ({ frames := 0, cells := 0, slots := 0, locals := 0 } : Room)) (fun a U => a = #[(.ref a1)] ∧ Z.Warmed39 U.vm ∧ U.heap = h0) (fun _ _ _ _ _ => True) (fun _ U o U' => ∃ v L, o = .returned v ∧ Q11 Z m_OA w_REJECTED w_EMPTY_ELEMENTDATA w_DEFAULTCAPACITY_EMPTY_ELEMENTDATA w_EMPTY_LIST w_EMPTY_LIST_elements w_EMPTY k_w_EMPTY_ELEMENTDATA k_w_DEFAULTCAPACITY_EMPTY_ELEMENTDATA k_w_EMPTY_LIST_elements a1 h0 n0 v U'.heap L ∧ FrameEnd U o U' L ({ frames := 0, cells := 0, slots := 0, locals := 0 } : Room).cells ({ frames := 0, cells := 0, slots := 0, locals := 0 } : Room).slots) := by
  refine MetFree.of_bodySF (plainFor_of_name pn_java_util_ArrayList) hisR ?_
  intro p e s m args below meth c s₁ Bd hml0 hP hK
  obtain ⟨rfl, hZ, hh⟩ := hP
  have hx := Bd.exec
  have hby := Bd.bytes
  have hml : c.maxLocals = 1 := hml0
  have hown : s.vm.findClass "java/util/ArrayList" = some m.cls := findClass_of_methodNamed Bd.named
  have hnm := (name_of_methodNamed Bd.named Bd.method).1
  have X0 : Stand p l e ({ frames := 0, cells := 0, slots := 0, locals := 0 } : Room) s m #[(.ref a1)] below meth c s₁ [] 0 0 := Stand.of_body Bd
  have e0 : s₁.heap = h0 := by rw [← hh, Bd.state]; rfl
  have N0 := Fr.nil n0
  show OGot p.tables e below (s₁.setTop (entryFrame m #[(.ref a1)] 1)) _
  refine OGot.go (fun t k => castTop (ef11 m a1) k) ?_
  show OGot p.tables e below (s₁.setTop (mkF m 0 #[.val (.ref a1)] [])) _
  refine OGot.go (fun t k => XS.aloadN X0.here hx rfl (hb hby d11_0) rfl rfl k) ?_
  show OGot p.tables e below (s₁.setTop (mkF m 1 #[.val (.ref a1)] [(.ref a1)])) _
  obtain ⟨T2, X2, e2, st2⟩ := getF X0 hx hZ hown (host := "") (Or.inl (ow hw 69 rfl)) Via.refl e0 F_size_a1 (g := (mkF m 1 #[.val (.ref a1)] [(.ref a1)])) rfl rfl (hb hby d11_1)
  refine OGot.go st2 ?_
  show OGot p.tables e below (T2.setTop (mkF m 4 #[.val (.ref a1)] [(.int (0 : Int32))])) _
  refine OGot.go (fun t k => XS.ifNo X2.here hx rfl (hb hby d11_4) rfl (by decide) k) ?_
  show OGot p.tables e below (T2.setTop (mkF m 7 #[.val (.ref a1)] [])) _
  refine OGot.go (fun t k => XS.iconst X2.here hx rfl (hb hby d11_7) k) ?_
  show OGot p.tables e below (T2.setTop (mkF m 8 #[.val (.ref a1)] [(.int (1 : Int32))])) _
  refine OGot.go (fun t k => XS.goto X2.here hx rfl (pc0 := 8) (pc' := 12) rfl (hb hby d11_8) (by decide) (by decide) k) ?_
  show OGot p.tables e below (T2.setTop (mkF m 12 #[.val (.ref a1)] [(.int (1 : Int32))])) _
  obtain ⟨fs, hr, hrun, hended, hW, hsame⟩ := X2.leave (v := some (.int (1 : Int32))) (fun h => by rw [Bd.returns] at h; cases h)
  refine ⟨_, _, retN X2 hx (t := .boolean) Bd.returns (by simp) (hb hby d11_12) hr, hrun, hended, _, _, rfl, ?_, ⟨_, rfl⟩, hW, hsame.mono (by decide) (by decide)⟩
  exact (⟨rfl, N0, e2⟩ : Q11 Z m_OA w_REJECTED w_EMPTY_ELEMENTDATA w_DEFAULTCAPACITY_EMPTY_ELEMENTDATA w_EMPTY_LIST w_EMPTY_LIST_elements w_EMPTY k_w_EMPTY_ELEMENTDATA k_w_DEFAULTCAPACITY_EMPTY_ELEMENTDATA k_w_EMPTY_LIST_elements a1 h0 n0 _ T2.heap _)
theorem pd_2 : parseMethodDescriptor "()Z" = some ⟨[], some .boolean⟩ := by decide +kernel
theorem d10_37 : decode jdk_56_method_3_code 37 = .ok (.ifCond .eq 7, 3) := by decide +kernel
theorem d10_40 : decode jdk_56_method_3_code 40 = .ok (.invokestatic 26, 3) := by decide +kernel
theorem d12_0 : decode jdk_40_method_36_code 0 = .ok (.getstatic 90, 3) := by decide +kernel
theorem d12_3 : decode jdk_40_method_36_code 3 = .ok (.areturn, 1) := by decide +kernel
theorem pn_java_util_List : plainName "java/util/List" = true := by first | (simp [plainName, overriddenIn]; done) | decide +kernel
def Q12 (Z : State) (m_OA : Addr) (w_REJECTED : Addr) (w_EMPTY_ELEMENTDATA : Addr) (w_DEFAULTCAPACITY_EMPTY_ELEMENTDATA : Addr) (w_EMPTY_LIST : Addr) (w_EMPTY_LIST_elements : Addr) (w_EMPTY : Addr) (k_w_EMPTY_ELEMENTDATA : ClassId) (k_w_DEFAULTCAPACITY_EMPTY_ELEMENTDATA : ClassId) (k_w_EMPTY_LIST_elements : ClassId)  (h0 : Heap) (n0 : Nat) (v : Option Value) (h : Heap) (L : List Loc) : Prop := v = some (.ref w_EMPTY_LIST) ∧ Fr n0 L ∧ h = h0
theorem ef12 (m : MethodId)  : entryFrame m #[] 0 = mkF m 0 #[] [] := by first | (simp [entryFrame, mkF, argsToLocals, Value.category]; done) | rfl
set_option maxRecDepth 65536 in
set_option maxHeartbeats 40000000 in
theorem rm12 (l : Launch) (Z : State) (a0 : Array Value) (hw : ∀ d ∈ tables_1, d.before a0 Z = true) (ws : List Jvm.Cond) {m_OA : Addr} {w_REJECTED : Addr} {w_EMPTY_ELEMENTDATA : Addr} {w_DEFAULTCAPACITY_EMPTY_ELEMENTDATA : Addr} {w_EMPTY_LIST : Addr} {w_EMPTY_LIST_elements : Addr} {w_EMPTY : Addr} {k_w_EMPTY_ELEMENTDATA : ClassId} {k_w_DEFAULTCAPACITY_EMPTY_ELEMENTDATA : ClassId} {k_w_EMPTY_LIST_elements : ClassId} (G : Glob Z m_OA w_REJECTED w_EMPTY_ELEMENTDATA w_DEFAULTCAPACITY_EMPTY_ELEMENTDATA w_EMPTY_LIST w_EMPTY_LIST_elements w_EMPTY k_w_EMPTY_ELEMENTDATA k_w_DEFAULTCAPACITY_EMPTY_ELEMENTDATA k_w_EMPTY_LIST_elements)  (h0 : Heap) (n0 : Nat) (O0 : Old Z n0 h0) :
    MetFree l (⟨"java/util/List", "of", "()Ljava/util/List;"⟩ : MethodName) (head1 (Jvm.Cond.code (⟨"java/util/List", "of", "()Ljava/util/List;"⟩ : MethodName) jdk_40_method_36_code 0 (some (.object "java/util/List")) :: ws) ({ frames := 0, cells := 0, slots := 0, locals := 0 } : Room)) (fun a U => a = #[] ∧ Z.Warmed39 U.vm ∧ U.heap = h0) (fun _ _ _ _ _ => True) (fun _ U o U' => ∃ v L, o = .returned v ∧ Q12 Z m_OA w_REJECTED w_EMPTY_ELEMENTDATA w_DEFAULTCAPACITY_EMPTY_ELEMENTDATA w_EMPTY_LIST w_EMPTY_LIST_elements w_EMPTY k_w_EMPTY_ELEMENTDATA k_w_DEFAULTCAPACITY_EMPTY_ELEMENTDATA k_w_EMPTY_LIST_elements  h0 n0 v U'.heap L ∧ FrameEnd U o U' L ({ frames := 0, cells := 0, slots := 0, locals := 0 } : Room).cells ({ frames := 0, cells := 0, slots := 0, locals := 0 } : Room).slots) := by
  refine MetFree.of_bodySF (plainFor_of_name pn_java_util_List) hisR ?_
  intro p e s m args below meth c s₁ Bd hml0 hP hK
  obtain ⟨rfl, hZ, hh⟩ := hP
  have hx := Bd.exec
  have hby := Bd.bytes
  have hml : c.maxLocals = 0 := hml0
  have hown : s.vm.findClass "java/util/List" = some m.cls := findClass_of_methodNamed Bd.named
  have hnm := (name_of_methodNamed Bd.named Bd.method).1
  have X0 : Stand p l e ({ frames := 0, cells := 0, slots := 0, locals := 0 } : Room) s m #[] below meth c s₁ [] 0 0 := Stand.of_body Bd
  have e0 : s₁.heap = h0 := by rw [← hh, Bd.state]; rfl
  have N0 := Fr.nil n0
  show OGot p.tables e below (s₁.setTop (entryFrame m #[] 0)) _
  refine OGot.go (fun t k => castTop (ef12 m ) k) ?_
  show OGot p.tables e below (s₁.setTop (mkF m 0 #[] [])) _
  obtain ⟨T1, X1, e1, st1⟩ := getS2 X0 hx hZ hown (host := "") (Or.inl (ow hw 74 rfl)) Via.refl e0 (G.2.2.2.2.2.2.2.1.ext O0.2) (g := (mkF m 0 #[] [])) rfl (hb hby d12_0)
  refine OGot.go st1 ?_
  show OGot p.tables e below (T1.setTop (mkF m 3 #[] [(.ref w_EMPTY_LIST)])) _
  obtain ⟨fs, hr, hrun, hended, hW, hsame⟩ := X1.leave (v := some (.ref w_EMPTY_LIST)) (fun h => by rw [Bd.returns] at h; cases h)
  refine ⟨_, _, oretA X1 hx Bd.returns rfl rfl (hb hby d12_3) hr, hrun, hended, _, _, rfl, ?_, ⟨_, rfl⟩, hW, hsame.mono (by decide) (by decide)⟩
  exact (⟨rfl, N0, e1⟩ : Q12 Z m_OA w_REJECTED w_EMPTY_ELEMENTDATA w_DEFAULTCAPACITY_EMPTY_ELEMENTDATA w_EMPTY_LIST w_EMPTY_LIST_elements w_EMPTY k_w_EMPTY_ELEMENTDATA k_w_DEFAULTCAPACITY_EMPTY_ELEMENTDATA k_w_EMPTY_LIST_elements  h0 n0 _ T1.heap _)
theorem pd_3 : parseMethodDescriptor "()Ljava/util/List;" = some ⟨[], some (.object "java/util/List")⟩ := by decide +kernel
theorem d10_43 : decode jdk_56_method_3_code 43 = .ok (.areturn, 1) := by decide +kernel
theorem pn_java_util_ImmutableCollections : plainName "java/util/ImmutableCollections" = true := by first | (simp [plainName, overriddenIn]; done) | decide +kernel
def Q10 (Z : State) (m_OA : Addr) (w_REJECTED : Addr) (w_EMPTY_ELEMENTDATA : Addr) (w_DEFAULTCAPACITY_EMPTY_ELEMENTDATA : Addr) (w_EMPTY_LIST : Addr) (w_EMPTY_LIST_elements : Addr) (w_EMPTY : Addr) (k_w_EMPTY_ELEMENTDATA : ClassId) (k_w_DEFAULTCAPACITY_EMPTY_ELEMENTDATA : ClassId) (k_w_EMPTY_LIST_elements : ClassId) (a1 : Addr) (h0 : Heap) (n0 : Nat) (v : Option Value) (h : Heap) (L : List Loc) : Prop := v = some (.ref w_EMPTY_LIST) ∧ Fr n0 L ∧ h = h0
theorem ef10 (m : MethodId) (x0 : Addr) : entryFrame m #[(.ref x0)] 2 = mkF m 0 #[.val (.ref x0), .unset] [] := by first | (simp [entryFrame, mkF, argsToLocals, Value.category]; done) | rfl
set_option maxRecDepth 65536 in
set_option maxHeartbeats 40000000 in
theorem rm10 (l : Launch) (Z : State) (a0 : Array Value) (hw : ∀ d ∈ tables_1, d.before a0 Z = true) (ws : List Jvm.Cond) {m_OA : Addr} {w_REJECTED : Addr} {w_EMPTY_ELEMENTDATA : Addr} {w_DEFAULTCAPACITY_EMPTY_ELEMENTDATA : Addr} {w_EMPTY_LIST : Addr} {w_EMPTY_LIST_elements : Addr} {w_EMPTY : Addr} {k_w_EMPTY_ELEMENTDATA : ClassId} {k_w_DEFAULTCAPACITY_EMPTY_ELEMENTDATA : ClassId} {k_w_EMPTY_LIST_elements : ClassId} (G : Glob Z m_OA w_REJECTED w_EMPTY_ELEMENTDATA w_DEFAULTCAPACITY_EMPTY_ELEMENTDATA w_EMPTY_LIST w_EMPTY_LIST_elements w_EMPTY k_w_EMPTY_ELEMENTDATA k_w_DEFAULTCAPACITY_EMPTY_ELEMENTDATA k_w_EMPTY_LIST_elements) (a1 : Addr) (h0 : Heap) (n0 : Nat) (O0 : Old Z n0 h0) (E_a1 : Exa Z h0 a1 "java/util/ArrayList") (F_size_a1 : Fld Z h0 a1 "java/util/ArrayList" "size" "I" (.int (0 : Int32))) :
    MetFree l (⟨"java/util/ImmutableCollections", "listCopy", "(Ljava/util/Collection;)Ljava/util/List;"⟩ : MethodName) (head1 (Jvm.Cond.code (⟨"java/util/ImmutableCollections", "listCopy", "(Ljava/util/Collection;)Ljava/util/List;"⟩ : MethodName) jdk_56_method_3_code 2 (some (.object "java/util/List")) :: ws) ({ frames := 1, cells := 0, slots := 0, locals := 12 } : Room)) (fun a U => a = #[(.ref a1)] ∧ Z.Warmed39 U.vm ∧ U.heap = h0) (fun _ _ _ _ _ => True) (fun _ U o U' => ∃ v L, o = .returned v ∧ Q10 Z m_OA w_REJECTED w_EMPTY_ELEMENTDATA w_DEFAULTCAPACITY_EMPTY_ELEMENTDATA w_EMPTY_LIST w_EMPTY_LIST_elements w_EMPTY k_w_EMPTY_ELEMENTDATA k_w_DEFAULTCAPACITY_EMPTY_ELEMENTDATA k_w_EMPTY_LIST_elements a1 h0 n0 v U'.heap L ∧ FrameEnd U o U' L ({ frames := 1, cells := 0, slots := 0, locals := 12 } : Room).cells ({ frames := 1, cells := 0, slots := 0, locals := 12 } : Room).slots) := by
  refine MetFree.of_bodySF (plainFor_of_name pn_java_util_ImmutableCollections) hisR ?_
  intro p e s m args below meth c s₁ Bd hml0 hP hK
  obtain ⟨rfl, hZ, hh⟩ := hP
  have hx := Bd.exec
  have hby := Bd.bytes
  have hml : c.maxLocals = 2 := hml0
  have hown : s.vm.findClass "java/util/ImmutableCollections" = some m.cls := findClass_of_methodNamed Bd.named
  have hnm := (name_of_methodNamed Bd.named Bd.method).1
  have X0 : Stand p l e ({ frames := 1, cells := 0, slots := 0, locals := 12 } : Room) s m #[(.ref a1)] below meth c s₁ [] 0 0 := Stand.of_body Bd
  have e0 : s₁.heap = h0 := by rw [← hh, Bd.state]; rfl
  have N0 := Fr.nil n0
  show OGot p.tables e below (s₁.setTop (entryFrame m #[(.ref a1)] 2)) _
  refine OGot.go (fun t k => castTop (ef10 m a1) k) ?_
  show OGot p.tables e below (s₁.setTop (mkF m 0 #[.val (.ref a1), .unset] [])) _
  refine OGot.go (fun t k => XS.aloadN X0.here hx rfl (hb hby d10_0) rfl rfl k) ?_
  show OGot p.tables e below (s₁.setTop (mkF m 1 #[.val (.ref a1), .unset] [(.ref a1)])) _
  obtain ⟨T2, X2, e2, st2⟩ := instNo X0 hx hZ hown (ow hw 54 rfl) e0 E_a1 (oNS.no (ow hw 55 rfl) (ow hw 173 rfl) (NS.step (ow hw 55 rfl) (NS.step (ow hw 56 rfl) (NS.step (ow hw 57 rfl) (oNS.root (ow hw 58 rfl) (ow hw 173 rfl) (by decide)) (by decide)) (by decide)) (by decide)) (by decide)) (g := (mkF m 1 #[.val (.ref a1), .unset] [(.ref a1)])) rfl rfl (hb hby d10_1)
  refine OGot.go st2 ?_
  show OGot p.tables e below (T2.setTop (mkF m 4 #[.val (.ref a1), .unset] [(.int (0 : Int32))])) _
  refine OGot.go (fun t k => XS.ifNo X2.here hx rfl (hb hby d10_4) rfl (by decide) k) ?_
  show OGot p.tables e below (T2.setTop (mkF m 7 #[.val (.ref a1), .unset] [])) _
  refine OGot.go (fun t k => XS.aloadN X2.here hx rfl (hb hby d10_7) rfl rfl k) ?_
  show OGot p.tables e below (T2.setTop (mkF m 8 #[.val (.ref a1), .unset] [(.ref a1)])) _
  obtain ⟨T3, X3, e3, st3⟩ := instNo X2 hx hZ hown (ow hw 59 rfl) e2 E_a1 (pNS.no (ow hw 55 rfl) (y := ({ cls := "java/util/ImmutableCollections$ListN", name := "size", desc := "()I" } : Jvm.MethodName)) (ow hw 78 rfl) (NS.step (ow hw 55 rfl) (NS.step (ow hw 56 rfl) (NS.step (ow hw 57 rfl) (pNS.root (ow hw 58 rfl) (y := ({ cls := "java/util/ImmutableCollections$ListN", name := "size", desc := "()I" } : Jvm.MethodName)) (ow hw 78 rfl) (by decide)) (by decide)) (by decide)) (by decide)) (by decide)) (g := (mkF m 8 #[.val (.ref a1), .unset] [(.ref a1)])) rfl rfl (hb hby d10_8)
  refine OGot.go st3 ?_
  show OGot p.tables e below (T3.setTop (mkF m 11 #[.val (.ref a1), .unset] [(.int (0 : Int32))])) _
  refine OGot.go (fun t k => XS.ifYes X3.here hx rfl (pc0 := 11) (pc' := 31) rfl (hb hby d10_11) rfl (by decide) (by decide) (by decide) k) ?_
  show OGot p.tables e below (T3.setTop (mkF m 31 #[.val (.ref a1), .unset] [])) _
  refine OGot.go (fun t k => XS.aloadN X3.here hx rfl (hb hby d10_31) rfl rfl k) ?_
  show OGot p.tables e below (T3.setTop (mkF m 32 #[.val (.ref a1), .unset] [(.ref a1)])) _
  obtain ⟨cq4, kq4, q4a, q4b, q4c⟩ := isOf hZ e3 E_a1
  obtain ⟨_, _, ⟨T4, L4, k4, n4⟩, -, X4, ⟨Lc4, hQ4, l4, y4, z4⟩, st4⟩ := X3.interfaceBack hx (xi := (⟨"java/util/Collection", "isEmpty", "()Z"⟩ : MethodName)) (y := (⟨"java/util/ArrayList", "isEmpty", "()Z"⟩ : MethodName)) hown (mvT hZ (ow hw 60 rfl)) (mvT hZ (ow hw 61 rfl)) (mvT hZ (ow hw 62 rfl)) (mvT hZ (ow hw 63 rfl)) (mvT hZ (ow hw 64 rfl)) (mvT hZ (ow hw 65 rfl)) (mvT hZ (ow hw 66 rfl)) (mvT hZ (ow hw 67 rfl)) (by decide) (backOf (W := 0) (rm11 l Z a0 hw [] G a1 h0 n0 O0 F_size_a1) hZ (ow hw 68 rfl) (ow hw 10 rfl) (by decide) (by decide)) q4a q4b q4c (g := (mkF m 32 #[.val (.ref a1), .unset] [(.ref a1)])) rfl (by rw [hml]; rfl) (Steps.refl _) (argsL := []) (rest := []) (lenOf pd_2 rfl) rfl (by show 2 * 0 + _ ≤ _; exact Nat.le_of_eq rfl) (hb hby d10_32) (fun _ _ => ⟨rfl, e3, (by decide : 0 + 0 ≤ _), (by decide : 0 + 0 ≤ _)⟩)
  dsimp only [Pt.U, Pt.locs, Pt.cells, Pt.slots] at X4 l4 y4 z4 st4 hQ4
  subst l4 y4 z4
  obtain ⟨rfl, N4q, e4⟩ := hQ4
  have N4 := Fr.app N0 N4q
  refine OGot.on st4 ?_
  show OGot p.tables e below (T4.setTop (mkF m 37 #[.val (.ref a1), .unset] [(.int (1 : Int32))])) _
  refine OGot.go (fun t k => XS.ifNo X4.here hx rfl (hb hby d10_37) rfl (by decide) k) ?_
  show OGot p.tables e below (T4.setTop (mkF m 40 #[.val (.ref a1), .unset] [])) _
  obtain ⟨_, _, ⟨T5, L5, k5, n5⟩, -, X5, ⟨Lc5, hQ5, l5, y5, z5⟩, st5⟩ := Jvm.LawKit.callS X4 hx (y := (⟨"java/util/List", "of", "()Ljava/util/List;"⟩ : MethodName)) hown (mvT hZ (ow hw 71 rfl)) (mvT hZ (ow hw 72 rfl)) (mvT hZ (ow hw 48 rfl)) (mvT hZ (ow hw 73 rfl)) (by decide) (backOf (W := 0) (rm12 l Z a0 hw [] G  h0 n0 O0 ) hZ (ow hw 73 rfl) (ow hw 48 rfl) (by decide) (by decide)) (g := (mkF m 40 #[.val (.ref a1), .unset] [])) rfl (by rw [hml]; rfl) (argsL := []) (rest := []) (lenOf pd_3 rfl) rfl (by show 2 * 0 + _ ≤ _; exact Nat.le_of_eq rfl) (hb hby d10_40) (fun _ _ => ⟨rfl, e4, (by decide : 0 + 0 ≤ _), (by decide : 0 + 0 ≤ _)⟩)
  dsimp only [Pt.U, Pt.locs, Pt.cells, Pt.slots] at X5 l5 y5 z5 st5 hQ5
  subst l5 y5 z5
  obtain ⟨rfl, N5q, e5⟩ := hQ5
  have N5 := Fr.app N4 N5q
  refine OGot.go st5 ?_
  show OGot p.tables e below (T5.setTop (mkF m 43 #[.val (.ref a1), .unset] [(.ref w_EMPTY_LIST)])) _
  obtain ⟨fs, hr, hrun, hended, hW, hsame⟩ := X5.leave (v := some (.ref w_EMPTY_LIST)) (fun h => by rw [Bd.returns] at h; cases h)
  refine ⟨_, _, oretA X5 hx Bd.returns rfl rfl (hb hby d10_43) hr, hrun, hended, _, _, rfl, ?_, ⟨_, rfl⟩, hW, hsame.mono (by decide) (by decide)⟩
  exact (⟨rfl, N5, e5⟩ : Q10 Z m_OA w_REJECTED w_EMPTY_ELEMENTDATA w_DEFAULTCAPACITY_EMPTY_ELEMENTDATA w_EMPTY_LIST w_EMPTY_LIST_elements w_EMPTY k_w_EMPTY_ELEMENTDATA k_w_DEFAULTCAPACITY_EMPTY_ELEMENTDATA k_w_EMPTY_LIST_elements a1 h0 n0 _ T5.heap _)
theorem pd_4 : parseMethodDescriptor "(Ljava/util/Collection;)Ljava/util/List;" = some ⟨[(.object "java/util/Collection")], some (.object "java/util/List")⟩ := by decide +kernel
theorem d9_4 : decode jdk_40_method_48_code 4 = .ok (.areturn, 1) := by decide +kernel
def Q9 (Z : State) (m_OA : Addr) (w_REJECTED : Addr) (w_EMPTY_ELEMENTDATA : Addr) (w_DEFAULTCAPACITY_EMPTY_ELEMENTDATA : Addr) (w_EMPTY_LIST : Addr) (w_EMPTY_LIST_elements : Addr) (w_EMPTY : Addr) (k_w_EMPTY_ELEMENTDATA : ClassId) (k_w_DEFAULTCAPACITY_EMPTY_ELEMENTDATA : ClassId) (k_w_EMPTY_LIST_elements : ClassId) (a1 : Addr) (h0 : Heap) (n0 : Nat) (v : Option Value) (h : Heap) (L : List Loc) : Prop := v = some (.ref w_EMPTY_LIST) ∧ Fr n0 L ∧ h = h0
theorem ef9 (m : MethodId) (x0 : Addr) : entryFrame m #[(.ref x0)] 1 = mkF m 0 #[.val (.ref x0)] [] := by first | (simp [entryFrame, mkF, argsToLocals, Value.category]; done) | rfl
set_option maxRecDepth 65536 in
set_option maxHeartbeats 40000000 in
theorem rm9 (l : Launch) (Z : State) (a0 : Array Value) (hw : ∀ d ∈ tables_1, d.before a0 Z = true) (ws : List Jvm.Cond) {m_OA : Addr} {w_REJECTED : Addr} {w_EMPTY_ELEMENTDATA : Addr} {w_DEFAULTCAPACITY_EMPTY_ELEMENTDATA : Addr} {w_EMPTY_LIST : Addr} {w_EMPTY_LIST_elements : Addr} {w_EMPTY : Addr} {k_w_EMPTY_ELEMENTDATA : ClassId} {k_w_DEFAULTCAPACITY_EMPTY_ELEMENTDATA : ClassId} {k_w_EMPTY_LIST_elements : ClassId} (G : Glob Z m_OA w_REJECTED w_EMPTY_ELEMENTDATA w_DEFAULTCAPACITY_EMPTY_ELEMENTDATA w_EMPTY_LIST w_EMPTY_LIST_elements w_EMPTY k_w_EMPTY_ELEMENTDATA k_w_DEFAULTCAPACITY_EMPTY_ELEMENTDATA k_w_EMPTY_LIST_elements) (a1 : Addr) (h0 : Heap) (n0 : Nat) (O0 : Old Z n0 h0) (E_a1 : Exa Z h0 a1 "java/util/ArrayList") (F_size_a1 : Fld Z h0 a1 "java/util/ArrayList" "size" "I" (.int (0 : Int32))) :
    MetFree l (⟨"java/util/List", "copyOf", "(Ljava/util/Collection;)Ljava/util/List;"⟩ : MethodName) (head1 (Jvm.Cond.code (⟨"java/util/List", "copyOf", "(Ljava/util/Collection;)Ljava/util/List;"⟩ : MethodName) jdk_40_method_48_code 1 (some (.object "java/util/List")) :: ws) ({ frames := 2, cells := 0, slots := 0, locals := 25 } : Room)) (fun a U => a = #[(.ref a1)] ∧ Z.Warmed39 U.vm ∧ U.heap = h0) (fun _ _ _ _ _ => True) (fun _ U o U' => ∃ v L, o = .returned v ∧ Q9 Z m_OA w_REJECTED w_EMPTY_ELEMENTDATA w_DEFAULTCAPACITY_EMPTY_ELEMENTDATA w_EMPTY_LIST w_EMPTY_LIST_elements w_EMPTY k_w_EMPTY_ELEMENTDATA k_w_DEFAULTCAPACITY_EMPTY_ELEMENTDATA k_w_EMPTY_LIST_elements a1 h0 n0 v U'.heap L ∧ FrameEnd U o U' L ({ frames := 2, cells := 0, slots := 0, locals := 25 } : Room).cells ({ frames := 2, cells := 0, slots := 0, locals := 25 } : Room).slots) := by
  refine MetFree.of_bodySF (plainFor_of_name pn_java_util_List) hisR ?_
  intro p e s m args below meth c s₁ Bd hml0 hP hK
  obtain ⟨rfl, hZ, hh⟩ := hP
  have hx := Bd.exec
  have hby := Bd.bytes
  have hml : c.maxLocals = 1 := hml0
  have hown : s.vm.findClass "java/util/List" = some m.cls := findClass_of_methodNamed Bd.named
  have hnm := (name_of_methodNamed Bd.named Bd.method).1
  have X0 : Stand p l e ({ frames := 2, cells := 0, slots := 0, locals := 25 } : Room) s m #[(.ref a1)] below meth c s₁ [] 0 0 := Stand.of_body Bd
  have e0 : s₁.heap = h0 := by rw [← hh, Bd.state]; rfl
  have N0 := Fr.nil n0
  show OGot p.tables e below (s₁.setTop (entryFrame m #[(.ref a1)] 1)) _
  refine OGot.go (fun t k => castTop (ef9 m a1) k) ?_
  show OGot p.tables e below (s₁.setTop (mkF m 0 #[.val (.ref a1)] [])) _
  refine OGot.go (fun t k => XS.aloadN X0.here hx rfl (hb hby d9_0) rfl rfl k) ?_
  show OGot p.tables e below (s₁.setTop (mkF m 1 #[.val (.ref a1)] [(.ref a1)])) _
  obtain ⟨_, _, ⟨T2, L2, k2, n2⟩, -, X2, ⟨Lc2, hQ2, l2, y2, z2⟩, st2⟩ := Jvm.LawKit.callS X0 hx (y := (⟨"java/util/ImmutableCollections", "listCopy", "(Ljava/util/Collection;)Ljava/util/List;"⟩ : MethodName)) hown (mvT hZ (ow hw 50 rfl)) (mvT hZ (ow hw 51 rfl)) (mvT hZ (ow hw 52 rfl)) (mvT hZ (ow hw 53 rfl)) (by decide) (backOf (W := 0) (rm10 l Z a0 hw [] G a1 h0 n0 O0 E_a1 F_size_a1) hZ (ow hw 53 rfl) (ow hw 52 rfl) (by decide) (by decide)) (g := (mkF m 1 #[.val (.ref a1)] [(.ref a1)])) rfl (by rw [hml]; rfl) (argsL := [(.ref a1)]) (rest := []) (lenOf pd_4 rfl) rfl (by show 2 * 0 + _ ≤ _; exact Nat.le_of_eq rfl) (hb hby d9_1) (fun _ _ => ⟨rfl, e0, (by decide : 0 + 0 ≤ _), (by decide : 0 + 0 ≤ _)⟩)
  dsimp only [Pt.U, Pt.locs, Pt.cells, Pt.slots] at X2 l2 y2 z2 st2 hQ2
  subst l2 y2 z2
  obtain ⟨rfl, N2q, e2⟩ := hQ2
  have N2 := Fr.app N0 N2q
  refine OGot.go st2 ?_
  show OGot p.tables e below (T2.setTop (mkF m 4 #[.val (.ref a1)] [(.ref w_EMPTY_LIST)])) _
  obtain ⟨fs, hr, hrun, hended, hW, hsame⟩ := X2.leave (v := some (.ref w_EMPTY_LIST)) (fun h => by rw [Bd.returns] at h; cases h)
  refine ⟨_, _, oretA X2 hx Bd.returns rfl rfl (hb hby d9_4) hr, hrun, hended, _, _, rfl, ?_, ⟨_, rfl⟩, hW, hsame.mono (by decide) (by decide)⟩
  exact (⟨rfl, N2, e2⟩ : Q9 Z m_OA w_REJECTED w_EMPTY_ELEMENTDATA w_DEFAULTCAPACITY_EMPTY_ELEMENTDATA w_EMPTY_LIST w_EMPTY_LIST_elements w_EMPTY k_w_EMPTY_ELEMENTDATA k_w_DEFAULTCAPACITY_EMPTY_ELEMENTDATA k_w_EMPTY_LIST_elements a1 h0 n0 _ T2.heap _)
theorem d7_8 : decode prog_14_method_1_code 8 = .ok (.astore_n 1, 1) := by decide +kernel
theorem d7_9 : decode prog_14_method_1_code 9 = .ok (.iconst 1, 1) := by decide +kernel
theorem d7_10 : decode prog_14_method_1_code 10 = .ok (.istore_n 2, 1) := by decide +kernel
theorem d7_11 : decode prog_14_method_1_code 11 = .ok (.iload_n 2, 1) := by decide +kernel
theorem d7_12 : decode prog_14_method_1_code 12 = .ok (.aload_n 1, 1) := by decide +kernel
theorem d7_13 : decode prog_14_method_1_code 13 = .ok (.invokeinterface 13 1, 5) := by decide +kernel
theorem d13_0 : decode jdk_45_method_3_code 0 = .ok (.aload_n 0, 1) := by decide +kernel
theorem d13_1 : decode jdk_45_method_3_code 1 = .ok (.getfield 7, 3) := by decide +kernel
theorem d13_4 : decode jdk_45_method_3_code 4 = .ok (.arraylength, 1) := by decide +kernel
theorem d13_5 : decode jdk_45_method_3_code 5 = .ok (.ireturn, 1) := by decide +kernel
theorem pn_java_util_ImmutableCollections_ListN : plainName "java/util/ImmutableCollections$ListN" = true := by first | (simp [plainName, overriddenIn]; done) | decide +kernel
def Q13 (Z : State) (m_OA : Addr) (w_REJECTED : Addr) (w_EMPTY_ELEMENTDATA : Addr) (w_DEFAULTCAPACITY_EMPTY_ELEMENTDATA : Addr) (w_EMPTY_LIST : Addr) (w_EMPTY_LIST_elements : Addr) (w_EMPTY : Addr) (k_w_EMPTY_ELEMENTDATA : ClassId) (k_w_DEFAULTCAPACITY_EMPTY_ELEMENTDATA : ClassId) (k_w_EMPTY_LIST_elements : ClassId)  (h0 : Heap) (n0 : Nat) (v : Option Value) (h : Heap) (L : List Loc) : Prop := v = some (.int (0 : Int32)) ∧ Fr n0 L ∧ h = h0
theorem ef13 (m : MethodId) (x0 : Addr) : entryFrame m #[(.ref x0)] 1 = mkF m 0 #[.val (.ref x0)] [] := by first | (simp [entryFrame, mkF, argsToLocals, Value.category]; done) | rfl
set_option maxRecDepth 65536 in
set_option maxHeartbeats 40000000 in
theorem rm13 (l : Launch) (Z : State) (a0 : Array Value) (hw : ∀ d ∈ tables_1, d.before a0 Z = true) (ws : List Jvm.Cond) {m_OA : Addr} {w_REJECTED : Addr} {w_EMPTY_ELEMENTDATA : Addr} {w_DEFAULTCAPACITY_EMPTY_ELEMENTDATA : Addr} {w_EMPTY_LIST : Addr} {w_EMPTY_LIST_elements : Addr} {w_EMPTY : Addr} {k_w_EMPTY_ELEMENTDATA : ClassId} {k_w_DEFAULTCAPACITY_EMPTY_ELEMENTDATA : ClassId} {k_w_EMPTY_LIST_elements : ClassId} (G : Glob Z m_OA w_REJECTED w_EMPTY_ELEMENTDATA w_DEFAULTCAPACITY_EMPTY_ELEMENTDATA w_EMPTY_LIST w_EMPTY_LIST_elements w_EMPTY k_w_EMPTY_ELEMENTDATA k_w_DEFAULTCAPACITY_EMPTY_ELEMENTDATA k_w_EMPTY_LIST_elements)  (h0 : Heap) (n0 : Nat) (O0 : Old Z n0 h0) :
    MetFree l (⟨"java/util/ImmutableCollections$ListN", "size", "()I"⟩ : MethodName) (head1 (Jvm.Cond.code (⟨"java/util/ImmutableCollections$ListN", "size", "()I"⟩ : MethodName) jdk_45_method_3_code 1 (some .int) :: ws) ({ frames := 0, cells := 0, slots := 0, locals := 0 } : Room)) (fun a U => a = #[(.ref w_EMPTY_LIST)] ∧ Z.Warmed39 U.vm ∧ U.heap = h0) (fun _ _ _ _ _ => True) (fun _ U o U' => ∃ v L, o = .returned v ∧ Q13 Z m_OA w_REJECTED w_EMPTY_ELEMENTDATA w_DEFAULTCAPACITY_EMPTY_ELEMENTDATA w_EMPTY_LIST w_EMPTY_LIST_elements w_EMPTY k_w_EMPTY_ELEMENTDATA k_w_DEFAULTCAPACITY_EMPTY_ELEMENTDATA k_w_EMPTY_LIST_elements  h0 n0 v U'.heap L ∧ FrameEnd U o U' L ({ frames := 0, cells := 0, slots := 0, locals := 0 } : Room).cells ({ frames := 0, cells := 0, slots := 0, locals := 0 } : Room).slots) := by
  refine MetFree.of_bodySF (plainFor_of_name pn_java_util_ImmutableCollections_ListN) hisR ?_
  intro p e s m args below meth c s₁ Bd hml0 hP hK
  obtain ⟨rfl, hZ, hh⟩ := hP
  have hx := Bd.exec
  have hby := Bd.bytes
  have hml : c.maxLocals = 1 := hml0
  have hown : s.vm.findClass "java/util/ImmutableCollections$ListN" = some m.cls := findClass_of_methodNamed Bd.named
  have hnm := (name_of_methodNamed Bd.named Bd.method).1
  have X0 : Stand p l e ({ frames := 0, cells := 0, slots := 0, locals := 0 } : Room) s m #[(.ref w_EMPTY_LIST)] below meth c s₁ [] 0 0 := Stand.of_body Bd
  have e0 : s₁.heap = h0 := by rw [← hh, Bd.state]; rfl
  have N0 := Fr.nil n0
  show OGot p.tables e below (s₁.setTop (entryFrame m #[(.ref w_EMPTY_LIST)] 1)) _
  refine OGot.go (fun t k => castTop (ef13 m w_EMPTY_LIST) k) ?_
  show OGot p.tables e below (s₁.setTop (mkF m 0 #[.val (.ref w_EMPTY_LIST)] [])) _
  refine OGot.go (fun t k => XS.aloadN X0.here hx rfl (hb hby d13_0) rfl rfl k) ?_
  show OGot p.tables e below (s₁.setTop (mkF m 1 #[.val (.ref w_EMPTY_LIST)] [(.ref w_EMPTY_LIST)])) _
  obtain ⟨T2, X2, e2, st2⟩ := getF X0 hx hZ hown (host := "") (Or.inl (ow hw 85 rfl)) Via.refl e0 (G.2.2.2.2.2.2.2.2.2.1.ext O0.2) (g := (mkF m 1 #[.val (.ref w_EMPTY_LIST)] [(.ref w_EMPTY_LIST)])) rfl rfl (hb hby d13_1)
  refine OGot.go st2 ?_
  show OGot p.tables e below (T2.setTop (mkF m 4 #[.val (.ref w_EMPTY_LIST)] [(.ref w_EMPTY_LIST_elements)])) _
  obtain ⟨cl3, Ar3, -, Sz3, Ng3, -, -⟩ := id ((G.2.2.2.2.2.2.2.2.2.2.2.2.2.2.2.2.1.ext O0.2))
  refine OGot.go (fun t k => X2.arraylength hx (by rw [e2]; exact Ar3.1) (State.isArrayOf_alike hZ.alike Ar3.2.1) (g := (mkF m 4 #[.val (.ref w_EMPTY_LIST)] [(.ref w_EMPTY_LIST_elements)])) rfl rfl (hb hby d13_4) _ k) ?_
  rw [len_of Sz3 Ng3]
  show OGot p.tables e below (T2.setTop (mkF m 5 #[.val (.ref w_EMPTY_LIST)] [(.int (0 : Int32))])) _
  obtain ⟨fs, hr, hrun, hended, hW, hsame⟩ := X2.leave (v := some (.int (0 : Int32))) (fun h => by rw [Bd.returns] at h; cases h)
  refine ⟨_, _, retI X2 hx Bd.returns (hb hby d13_5) hr, hrun, hended, _, _, rfl, ?_, ⟨_, rfl⟩, hW, hsame.mono (by decide) (by decide)⟩
  exact (⟨rfl, N0, e2⟩ : Q13 Z m_OA w_REJECTED w_EMPTY_ELEMENTDATA w_DEFAULTCAPACITY_EMPTY_ELEMENTDATA w_EMPTY_LIST w_EMPTY_LIST_elements w_EMPTY k_w_EMPTY_ELEMENTDATA k_w_DEFAULTCAPACITY_EMPTY_ELEMENTDATA k_w_EMPTY_LIST_elements  h0 n0 _ T2.heap _)
theorem pd_5 : parseMethodDescriptor "()I" = some ⟨[], some .int⟩ := by decide +kernel
theorem d7_18 : decode prog_14_method_1_code 18 = .ok (.if_icmp .ge 57, 3) := by decide +kernel
theorem d7_75 : decode prog_14_method_1_code 75 = .ok (.aload_n 0, 1) := by decide +kernel
theorem d7_76 : decode prog_14_method_1_code 76 = .ok (.aload_n 1, 1) := by decide +kernel
theorem d7_77 : decode prog_14_method_1_code 77 = .ok (.putfield 41, 3) := by decide +kernel
theorem d7_80 : decode prog_14_method_1_code 80 = .ok (.return_, 1) := by decide +kernel
theorem pn_com_example_curtail_curtail_Placement : plainName "com/example/curtail/curtail/Placement" = true := by first | (simp [plainName, overriddenIn]; done) | decide +kernel
def Q7 (Z : State) (m_OA : Addr) (w_REJECTED : Addr) (w_EMPTY_ELEMENTDATA : Addr) (w_DEFAULTCAPACITY_EMPTY_ELEMENTDATA : Addr) (w_EMPTY_LIST : Addr) (w_EMPTY_LIST_elements : Addr) (w_EMPTY : Addr) (k_w_EMPTY_ELEMENTDATA : ClassId) (k_w_DEFAULTCAPACITY_EMPTY_ELEMENTDATA : ClassId) (k_w_EMPTY_LIST_elements : ClassId) (a1 : Addr) (a2 : Addr) (h0 : Heap) (n0 : Nat) (v : Option Value) (h : Heap) (L : List Loc) : Prop := Fr n0 L ∧ v = none ∧ OKeep h0 h [(a1, Jvm.RoadKit.slotOf Z "com/example/curtail/curtail/Placement" "aCells" "Ljava/util/List;")] ∧ Fld Z h a1 "com/example/curtail/curtail/Placement" "aCells" "Ljava/util/List;" (.ref w_EMPTY_LIST)
theorem ef7 (m : MethodId) (x0 : Addr) (x1 : Addr) : entryFrame m #[(.ref x0), (.ref x1)] 3 = mkF m 0 #[.val (.ref x0), .val (.ref x1), .unset] [] := by first | (simp [entryFrame, mkF, argsToLocals, Value.category]; done) | rfl
set_option maxRecDepth 65536 in
set_option maxHeartbeats 40000000 in
theorem rm7 (l : Launch) (Z : State) (a0 : Array Value) (hw : ∀ d ∈ tables_1, d.before a0 Z = true) (ws : List Jvm.Cond) {m_OA : Addr} {w_REJECTED : Addr} {w_EMPTY_ELEMENTDATA : Addr} {w_DEFAULTCAPACITY_EMPTY_ELEMENTDATA : Addr} {w_EMPTY_LIST : Addr} {w_EMPTY_LIST_elements : Addr} {w_EMPTY : Addr} {k_w_EMPTY_ELEMENTDATA : ClassId} {k_w_DEFAULTCAPACITY_EMPTY_ELEMENTDATA : ClassId} {k_w_EMPTY_LIST_elements : ClassId} (G : Glob Z m_OA w_REJECTED w_EMPTY_ELEMENTDATA w_DEFAULTCAPACITY_EMPTY_ELEMENTDATA w_EMPTY_LIST w_EMPTY_LIST_elements w_EMPTY k_w_EMPTY_ELEMENTDATA k_w_DEFAULTCAPACITY_EMPTY_ELEMENTDATA k_w_EMPTY_LIST_elements) (a1 : Addr) (a2 : Addr) (h0 : Heap) (n0 : Nat) (O0 : Old Z n0 h0) (E_a2 : Exa Z h0 a2 "java/util/ArrayList") (F_size_a2 : Fld Z h0 a2 "java/util/ArrayList" "size" "I" (.int (0 : Int32))) (E_a1 : Exa Z h0 a1 "com/example/curtail/curtail/Placement") (F_aCells_a1 : Fld Z h0 a1 "com/example/curtail/curtail/Placement" "aCells" "Ljava/util/List;" .null) (g_a1 : n0 ≤ a1) :
    MetFree l (⟨"com/example/curtail/curtail/Placement", "<init>", "(Ljava/util/List;)V"⟩ : MethodName) (head1 (Jvm.Cond.code (⟨"com/example/curtail/curtail/Placement", "<init>", "(Ljava/util/List;)V"⟩ : MethodName) prog_14_method_1_code 3 none :: ws) ({ frames := 3, cells := 0, slots := 0, locals := 37 } : Room)) (fun a U => a = #[(.ref a1), (.ref a2)] ∧ Z.Warmed39 U.vm ∧ U.heap = h0) (fun _ _ _ _ _ => True) (fun _ U o U' => ∃ v L, o = .returned v ∧ Q7 Z m_OA w_REJECTED w_EMPTY_ELEMENTDATA w_DEFAULTCAPACITY_EMPTY_ELEMENTDATA w_EMPTY_LIST w_EMPTY_LIST_elements w_EMPTY k_w_EMPTY_ELEMENTDATA k_w_DEFAULTCAPACITY_EMPTY_ELEMENTDATA k_w_EMPTY_LIST_elements a1 a2 h0 n0 v U'.heap L ∧ FrameEnd U o U' L ({ frames := 3, cells := 0, slots := 0, locals := 37 } : Room).cells ({ frames := 3, cells := 0, slots := 0, locals := 37 } : Room).slots) := by
  refine MetFree.of_bodySF (plainFor_of_name pn_com_example_curtail_curtail_Placement) hisR ?_
  intro p e s m args below meth c s₁ Bd hml0 hP hK
  obtain ⟨rfl, hZ, hh⟩ := hP
  have hx := Bd.exec
  have hby := Bd.bytes
  have hml : c.maxLocals = 3 := hml0
  have hown : s.vm.findClass "com/example/curtail/curtail/Placement" = some m.cls := findClass_of_methodNamed Bd.named
  have hnm := (name_of_methodNamed Bd.named Bd.method).1
  have X0 : Stand p l e ({ frames := 3, cells := 0, slots := 0, locals := 37 } : Room) s m #[(.ref a1), (.ref a2)] below meth c s₁ [] 0 0 := Stand.of_body Bd
  have e0 : s₁.heap = h0 := by rw [← hh, Bd.state]; rfl
  have N0 := Fr.nil n0
  show OGot p.tables e below (s₁.setTop (entryFrame m #[(.ref a1), (.ref a2)] 3)) _
  refine OGot.go (fun t k => castTop (ef7 m a1 a2) k) ?_
  show OGot p.tables e below (s₁.setTop (mkF m 0 #[.val (.ref a1), .val (.ref a2), .unset] [])) _
  refine OGot.go (fun t k => XS.aloadN X0.here hx rfl (hb hby d7_0) rfl rfl k) ?_
  show OGot p.tables e below (s₁.setTop (mkF m 1 #[.val (.ref a1), .val (.ref a2), .unset] [(.ref a1)])) _
  obtain ⟨_, _, ⟨T3, L3, k3, n3⟩, -, X3, ⟨Lc3, hQ3, l3, y3, z3⟩, st3⟩ := X0.specialBack hx (y := (⟨"java/lang/Record", "<init>", "()V"⟩ : MethodName)) rfl hown (mvT hZ (ow hw 40 rfl)) (mvT hZ (ow hw 41 rfl)) (mvT hZ (ow hw 44 rfl)) (by decide) (backOf (W := 0) (rm8 l Z a0 hw [] G a1 h0 n0 O0 ) hZ (ow hw 44 rfl) (ow hw 43 rfl) (by decide) (by decide)) (g := (mkF m 1 #[.val (.ref a1), .val (.ref a2), .unset] [(.ref a1)])) rfl (by rw [hml]; rfl) (Steps.refl _) (a := a1) (argsL := []) (rest := []) (lenOf pd_1 rfl) rfl (by show 2 * 0 + _ ≤ _; exact Nat.le_of_eq rfl) (hb hby d7_1) (fun _ _ => ⟨rfl, e0, (by decide : 0 + 0 ≤ _), (by decide : 0 + 0 ≤ _)⟩)
  dsimp only [Pt.U, Pt.locs, Pt.cells, Pt.slots] at X3 l3 y3 z3 st3 hQ3
  subst l3 y3 z3
  obtain ⟨rfl, N3q, e3⟩ := hQ3
  have N3 := Fr.app N0 N3q
  refine OGot.on st3 ?_
  show OGot p.tables e below (T3.setTop (mkF m 4 #[.val (.ref a1), .val (.ref a2), .unset] [])) _
  refine OGot.go (fun t k => XS.aloadN X3.here hx rfl (hb hby d7_4) rfl rfl k) ?_
  show OGot p.tables e below (T3.setTop (mkF m 5 #[.val (.ref a1), .val (.ref a2), .unset] [(.ref a2)])) _
  obtain ⟨_, _, ⟨T4, L4, k4, n4⟩, -, X4, ⟨Lc4, hQ4, l4, y4, z4⟩, st4⟩ := Jvm.LawKit.callS X3 hx (y := (⟨"java/util/List", "copyOf", "(Ljava/util/Collection;)Ljava/util/List;"⟩ : MethodName)) hown (mvT hZ (ow hw 46 rfl)) (mvT hZ (ow hw 47 rfl)) (mvT hZ (ow hw 48 rfl)) (mvT hZ (ow hw 49 rfl)) (by decide) (backOf (W := 0) (rm9 l Z a0 hw [] G a2 h0 n0 O0 E_a2 F_size_a2) hZ (ow hw 49 rfl) (ow hw 48 rfl) (by decide) (by decide)) (g := (mkF m 5 #[.val (.ref a1), .val (.ref a2), .unset] [(.ref a2)])) rfl (by rw [hml]; rfl) (argsL := [(.ref a2)]) (rest := []) (lenOf pd_4 rfl) rfl (by show 2 * 0 + _ ≤ _; exact Nat.le_of_eq rfl) (hb hby d7_5) (fun _ _ => ⟨rfl, e3, (by decide : 0 + 0 ≤ _), (by decide : 0 + 0 ≤ _)⟩)
  dsimp only [Pt.U, Pt.locs, Pt.cells, Pt.slots] at X4 l4 y4 z4 st4 hQ4
  subst l4 y4 z4
  obtain ⟨rfl, N4q, e4⟩ := hQ4
  have N4 := Fr.app N3 N4q
  refine OGot.go st4 ?_
  show OGot p.tables e below (T4.setTop (mkF m 8 #[.val (.ref a1), .val (.ref a2), .unset] [(.ref w_EMPTY_LIST)])) _
  refine OGot.go (fun t k => XS.astoreN X4.here hx rfl (hb hby d7_8) rfl rfl (l' := #[.val (.ref a1), .val (.ref w_EMPTY_LIST), .unset]) rfl k) ?_
  show OGot p.tables e below (T4.setTop (mkF m 9 #[.val (.ref a1), .val (.ref w_EMPTY_LIST), .unset] [])) _
  refine OGot.go (fun t k => XS.iconst X4.here hx rfl (hb hby d7_9) k) ?_
  show OGot p.tables e below (T4.setTop (mkF m 10 #[.val (.ref a1), .val (.ref w_EMPTY_LIST), .unset] [(.int (1 : Int32))])) _
  refine OGot.go (fun t k => XS.istoreN X4.here hx rfl (hb hby d7_10) rfl (l' := #[.val (.ref a1), .val (.ref w_EMPTY_LIST), .val (.int (1 : Int32))]) rfl k) ?_
  show OGot p.tables e below (T4.setTop (mkF m 11 #[.val (.ref a1), .val (.ref w_EMPTY_LIST), .val (.int (1 : Int32))] [])) _
  refine OGot.go (fun t k => XS.iloadN X4.here hx rfl (hb hby d7_11) rfl k) ?_
  show OGot p.tables e below (T4.setTop (mkF m 12 #[.val (.ref a1), .val (.ref w_EMPTY_LIST), .val (.int (1 : Int32))] [(.int (1 : Int32))])) _
  refine OGot.go (fun t k => XS.aloadN X4.here hx rfl (hb hby d7_12) rfl rfl k) ?_
  show OGot p.tables e below (T4.setTop (mkF m 13 #[.val (.ref a1), .val (.ref w_EMPTY_LIST), .val (.int (1 : Int32))] [(.ref w_EMPTY_LIST), (.int (1 : Int32))])) _
  obtain ⟨cq5, kq5, q5a, q5b, q5c⟩ := isOf hZ e4 (G.2.2.2.2.2.2.2.2.1.ext O0.2)
  obtain ⟨_, _, ⟨T5, L5, k5, n5⟩, -, X5, ⟨Lc5, hQ5, l5, y5, z5⟩, st5⟩ := X4.interfaceBack hx (xi := (⟨"java/util/List", "size", "()I"⟩ : MethodName)) (y := (⟨"java/util/ImmutableCollections$ListN", "size", "()I"⟩ : MethodName)) hown (mvT hZ (ow hw 75 rfl)) (mvT hZ (ow hw 76 rfl)) (mvT hZ (ow hw 77 rfl)) (mvT hZ (ow hw 78 rfl)) (mvT hZ (ow hw 79 rfl)) (mvT hZ (ow hw 80 rfl)) (mvT hZ (ow hw 81 rfl)) (mvT hZ (ow hw 82 rfl)) (by decide) (backOf (W := 1) (rm13 l Z a0 hw [] G  h0 n0 O0 ) hZ (ow hw 84 rfl) (ow hw 83 rfl) (by decide) (by decide)) q5a q5b q5c (g := (mkF m 13 #[.val (.ref a1), .val (.ref w_EMPTY_LIST), .val (.int (1 : Int32))] [(.ref w_EMPTY_LIST), (.int (1 : Int32))])) rfl (by rw [hml]; rfl) (Steps.refl _) (argsL := []) (rest := [(.int (1 : Int32))]) (lenOf pd_5 rfl) rfl (by show 2 * 0 + _ ≤ _; exact Nat.le_of_eq rfl) (hb hby d7_13) (fun _ _ => ⟨rfl, e4, (by decide : 0 + 0 ≤ _), (by decide : 0 + 0 ≤ _)⟩)
  dsimp only [Pt.U, Pt.locs, Pt.cells, Pt.slots] at X5 l5 y5 z5 st5 hQ5
  subst l5 y5 z5
  obtain ⟨rfl, N5q, e5⟩ := hQ5
  have N5 := Fr.app N4 N5q
  refine OGot.on st5 ?_
  show OGot p.tables e below (T5.setTop (mkF m 18 #[.val (.ref a1), .val (.ref w_EMPTY_LIST), .val (.int (1 : Int32))] [(.int (0 : Int32)), (.int (1 : Int32))])) _
  refine OGot.go (fun t k => XS.icmpYes X5.here hx rfl (pc0 := 18) (pc' := 75) rfl (hb hby d7_18) rfl (by decide) (by decide) (by decide) k) ?_
  show OGot p.tables e below (T5.setTop (mkF m 75 #[.val (.ref a1), .val (.ref w_EMPTY_LIST), .val (.int (1 : Int32))] [])) _
  refine OGot.go (fun t k => XS.aloadN X5.here hx rfl (hb hby d7_75) rfl rfl k) ?_
  show OGot p.tables e below (T5.setTop (mkF m 76 #[.val (.ref a1), .val (.ref w_EMPTY_LIST), .val (.int (1 : Int32))] [(.ref a1)])) _
  refine OGot.go (fun t k => XS.aloadN X5.here hx rfl (hb hby d7_76) rfl rfl k) ?_
  show OGot p.tables e below (T5.setTop (mkF m 77 #[.val (.ref a1), .val (.ref w_EMPTY_LIST), .val (.int (1 : Int32))] [(.ref w_EMPTY_LIST), (.ref a1)])) _
  obtain ⟨T6, h6, X6, e6, W6, st6⟩ := putF X5 hx hZ hown (host := "") (Or.inl (ow hw 87 rfl)) Via.refl e5 F_aCells_a1 E_a1 (Or.inr ⟨(ow hw 88 rfl), rfl, hnm⟩) (ow hw 35 rfl) (ty := (.object "java/util/List")) (by decide) rfl rfl (g := (mkF m 77 #[.val (.ref a1), .val (.ref w_EMPTY_LIST), .val (.int (1 : Int32))] [(.ref w_EMPTY_LIST), (.ref a1)])) rfl rfl (hb hby d7_77)
  refine OGot.go st6 ?_
  have N6 := Fr.snoc X6 N5 g_a1
  have O6 := O0.wr W6 g_a1
  have K6 := (OKeep.refl h0 [(a1, Jvm.RoadKit.slotOf Z "com/example/curtail/curtail/Placement" "aCells" "Ljava/util/List;")]).wr W6 (Or.inl (List.mem_of_getElem? (i := 0) rfl))
  have Fw6 : Fld Z h6 a1 "com/example/curtail/curtail/Placement" "aCells" "Ljava/util/List;" (.ref w_EMPTY_LIST) := F_aCells_a1.same W6
  show OGot p.tables e below (T6.setTop (mkF m 80 #[.val (.ref a1), .val (.ref w_EMPTY_LIST), .val (.int (1 : Int32))] [])) _
  obtain ⟨fs, hr, hrun, hended, hW, hsame⟩ := X6.leave (v := none) (fun _ => rfl)
  refine ⟨_, _, X6.returnOut hx Bd.returns (hb hby d7_80) hr, hrun, hended, _, _, rfl, ?_, ⟨_, rfl⟩, hW, hsame.mono (by decide) (by decide)⟩
  show Q7 Z m_OA w_REJECTED w_EMPTY_ELEMENTDATA w_DEFAULTCAPACITY_EMPTY_ELEMENTDATA w_EMPTY_LIST w_EMPTY_LIST_elements w_EMPTY k_w_EMPTY_ELEMENTDATA k_w_DEFAULTCAPACITY_EMPTY_ELEMENTDATA k_w_EMPTY_LIST_elements a1 a2 h0 n0 _ T6.heap _
  rw [e6]
  exact ⟨N6, rfl, K6, Fw6⟩
theorem pd_6 : parseMethodDescriptor "(Ljava/util/List;)V" = some ⟨[(.object "java/util/List")], none⟩ := by decide +kernel
theorem d14_0 : decode prog_14_method_2_code 0 = .ok (.aload_n 0, 1) := by decide +kernel
theorem d14_1 : decode prog_14_method_2_code 1 = .ok (.getfield 41, 3) := by decide +kernel
theorem d14_4 : decode prog_14_method_2_code 4 = .ok (.invokeinterface 47 1, 5) := by decide +kernel
theorem d15_0 : decode jdk_45_method_2_code 0 = .ok (.aload_n 0, 1) := by decide +kernel
theorem d15_1 : decode jdk_45_method_2_code 1 = .ok (.getfield 7, 3) := by decide +kernel
theorem d15_4 : decode jdk_45_method_2_code 4 = .ok (.arraylength, 1) := by decide +kernel
theorem d15_5 : decode jdk_45_method_2_code 5 = .ok (.ifCond .ne 7, 3) := by decide +kernel
theorem d15_8 : decode jdk_45_method_2_code 8 = .ok (.iconst 1, 1) := by decide +kernel
theorem d15_9 : decode jdk_45_method_2_code 9 = .ok (.goto 4, 3) := by decide +kernel
theorem d15_13 : decode jdk_45_method_2_code 13 = .ok (.ireturn, 1) := by decide +kernel
def Q15 (Z : State) (m_OA : Addr) (w_REJECTED : Addr) (w_EMPTY_ELEMENTDATA : Addr) (w_DEFAULTCAPACITY_EMPTY_ELEMENTDATA : Addr) (w_EMPTY_LIST : Addr) (w_EMPTY_LIST_elements : Addr) (w_EMPTY : Addr) (k_w_EMPTY_ELEMENTDATA : ClassId) (k_w_DEFAULTCAPACITY_EMPTY_ELEMENTDATA : ClassId) (k_w_EMPTY_LIST_elements : ClassId) (a1 : Addr) (a2 : Addr) (k4 : ClassId) (h0 : Heap) (n0 : Nat) (v : Option Value) (h : Heap) (L : List Loc) : Prop := v = some (.int (1 : Int32)) ∧ Fr n0 L ∧ h = h0
theorem ef15 (m : MethodId) (x0 : Addr) : entryFrame m #[(.ref x0)] 1 = mkF m 0 #[.val (.ref x0)] [] := by first | (simp [entryFrame, mkF, argsToLocals, Value.category]; done) | rfl
set_option maxRecDepth 65536 in
set_option maxHeartbeats 40000000 in
theorem rm15 (l : Launch) (Z : State) (a0 : Array Value) (hw : ∀ d ∈ tables_1, d.before a0 Z = true) (ws : List Jvm.Cond) {m_OA : Addr} {w_REJECTED : Addr} {w_EMPTY_ELEMENTDATA : Addr} {w_DEFAULTCAPACITY_EMPTY_ELEMENTDATA : Addr} {w_EMPTY_LIST : Addr} {w_EMPTY_LIST_elements : Addr} {w_EMPTY : Addr} {k_w_EMPTY_ELEMENTDATA : ClassId} {k_w_DEFAULTCAPACITY_EMPTY_ELEMENTDATA : ClassId} {k_w_EMPTY_LIST_elements : ClassId} (G : Glob Z m_OA w_REJECTED w_EMPTY_ELEMENTDATA w_DEFAULTCAPACITY_EMPTY_ELEMENTDATA w_EMPTY_LIST w_EMPTY_LIST_elements w_EMPTY k_w_EMPTY_ELEMENTDATA k_w_DEFAULTCAPACITY_EMPTY_ELEMENTDATA k_w_EMPTY_LIST_elements) (a1 : Addr) (a2 : Addr) (k4 : ClassId) (h0 : Heap) (n0 : Nat) (O0 : Old Z n0 h0) (F_elements_a1 : Fld Z h0 a1 "java/util/ImmutableCollections$ListN" "elements" "[Ljava/lang/Object;" (.ref a2)) (V_a2 : Arv Z h0 a2 k4 (.object "java/lang/Object") (0 : Int32) [] .null) :
    MetFree l (⟨"java/util/ImmutableCollections$ListN", "isEmpty", "()Z"⟩ : MethodName) (head1 (Jvm.Cond.code (⟨"java/util/ImmutableCollections$ListN", "isEmpty", "()Z"⟩ : MethodName) jdk_45_method_2_code 1 (some .boolean) :: ws) ({ frames := 0, cells := 0, slots := 0, locals := 0 } : Room)) (fun a U => a = #[(.ref a1)] ∧ Z.Warmed39 U.vm ∧ U.heap = h0) (fun _ _ _ _ _ => True) (fun _ U o U' => ∃ v L, o = .returned v ∧ Q15 Z m_OA w_REJECTED w_EMPTY_ELEMENTDATA w_DEFAULTCAPACITY_EMPTY_ELEMENTDATA w_EMPTY_LIST w_EMPTY_LIST_elements w_EMPTY k_w_EMPTY_ELEMENTDATA k_w_DEFAULTCAPACITY_EMPTY_ELEMENTDATA k_w_EMPTY_LIST_elements a1 a2 k4 h0 n0 v U'.heap L ∧ FrameEnd U o U' L ({ frames := 0, cells := 0, slots := 0, locals := 0 } : Room).cells ({ frames := 0, cells := 0, slots := 0, locals := 0 } : Room).slots) := by
  refine MetFree.of_bodySF (plainFor_of_name pn_java_util_ImmutableCollections_ListN) hisR ?_
  intro p e s m args below meth c s₁ Bd hml0 hP hK
  obtain ⟨rfl, hZ, hh⟩ := hP
  have hx := Bd.exec
  have hby := Bd.bytes
  have hml : c.maxLocals = 1 := hml0
  have hown : s.vm.findClass "java/util/ImmutableCollections$ListN" = some m.cls := findClass_of_methodNamed Bd.named
  have hnm := (name_of_methodNamed Bd.named Bd.method).1
  have X0 : Stand p l e ({ frames := 0, cells := 0, slots := 0, locals := 0 } : Room) s m #[(.ref a1)] below meth c s₁ [] 0 0 := Stand.of_body Bd
  have e0 : s₁.heap = h0 := by rw [← hh, Bd.state]; rfl
  have N0 := Fr.nil n0
  show OGot p.tables e below (s₁.setTop (entryFrame m #[(.ref a1)] 1)) _
  refine OGot.go (fun t k => castTop (ef15 m a1) k) ?_
  show OGot p.tables e below (s₁.setTop (mkF m 0 #[.val (.ref a1)] [])) _
  refine OGot.go (fun t k => XS.aloadN X0.here hx rfl (hb hby d15_0) rfl rfl k) ?_
  show OGot p.tables e below (s₁.setTop (mkF m 1 #[.val (.ref a1)] [(.ref a1)])) _
  obtain ⟨T3, X3, e3, st3⟩ := getF X0 hx hZ hown (host := "") (Or.inl (ow hw 85 rfl)) Via.refl e0 F_elements_a1 (g := (mkF m 1 #[.val (.ref a1)] [(.ref a1)])) rfl rfl (hb hby d15_1)
  refine OGot.go st3 ?_
  show OGot p.tables e below (T3.setTop (mkF m 4 #[.val (.ref a1)] [(.ref a2)])) _
  obtain ⟨cl5, Ar5, -, Sz5, Ng5, -, -⟩ := id (V_a2)
  refine OGot.go (fun t k => X3.arraylength hx (by rw [e3]; exact Ar5.1) (State.isArrayOf_alike hZ.alike Ar5.2.1) (g := (mkF m 4 #[.val (.ref a1)] [(.ref a2)])) rfl rfl (hb hby d15_4) _ k) ?_
  rw [len_of Sz5 Ng5]
  show OGot p.tables e below (T3.setTop (mkF m 5 #[.val (.ref a1)] [(.int (0 : Int32))])) _
  refine OGot.go (fun t k => XS.ifNo X3.here hx rfl (hb hby d15_5) rfl (by decide) k) ?_
  show OGot p.tables e below (T3.setTop (mkF m 8 #[.val (.ref a1)] [])) _
  refine OGot.go (fun t k => XS.iconst X3.here hx rfl (hb hby d15_8) k) ?_
  show OGot p.tables e below (T3.setTop (mkF m 9 #[.val (.ref a1)] [(.int (1 : Int32))])) _
  refine OGot.go (fun t k => XS.goto X3.here hx rfl (pc0 := 9) (pc' := 13) rfl (hb hby d15_9) (by decide) (by decide) k) ?_
  show OGot p.tables e below (T3.setTop (mkF m 13 #[.val (.ref a1)] [(.int (1 : Int32))])) _
  obtain ⟨fs, hr, hrun, hended, hW, hsame⟩ := X3.leave (v := some (.int (1 : Int32))) (fun h => by rw [Bd.returns] at h; cases h)
  refine ⟨_, _, retN X3 hx (t := .boolean) Bd.returns (by simp) (hb hby d15_13) hr, hrun, hended, _, _, rfl, ?_, ⟨_, rfl⟩, hW, hsame.mono (by decide) (by decide)⟩
  exact (⟨rfl, N0, e3⟩ : Q15 Z m_OA w_REJECTED w_EMPTY_ELEMENTDATA w_DEFAULTCAPACITY_EMPTY_ELEMENTDATA w_EMPTY_LIST w_EMPTY_LIST_elements w_EMPTY k_w_EMPTY_ELEMENTDATA k_w_DEFAULTCAPACITY_EMPTY_ELEMENTDATA k_w_EMPTY_LIST_elements a1 a2 k4 h0 n0 _ T3.heap _)
theorem d14_9 : decode prog_14_method_2_code 9 = .ok (.ifCond .ne 7, 3) := by decide +kernel
theorem d14_16 : decode prog_14_method_2_code 16 = .ok (.iconst 0, 1) := by decide +kernel
theorem d14_17 : decode prog_14_method_2_code 17 = .ok (.ireturn, 1) := by decide +kernel
def Q14 (Z : State) (m_OA : Addr) (w_REJECTED : Addr) (w_EMPTY_ELEMENTDATA : Addr) (w_DEFAULTCAPACITY_EMPTY_ELEMENTDATA : Addr) (w_EMPTY_LIST : Addr) (w_EMPTY_LIST_elements : Addr) (w_EMPTY : Addr) (k_w_EMPTY_ELEMENTDATA : ClassId) (k_w_DEFAULTCAPACITY_EMPTY_ELEMENTDATA : ClassId) (k_w_EMPTY_LIST_elements : ClassId) (a1 : Addr) (a2 : Addr) (a4 : Addr) (k5 : ClassId) (h0 : Heap) (n0 : Nat) (v : Option Value) (h : Heap) (L : List Loc) : Prop := v = some (.int (0 : Int32)) ∧ Fr n0 L ∧ h = h0
theorem ef14 (m : MethodId) (x0 : Addr) : entryFrame m #[(.ref x0)] 1 = mkF m 0 #[.val (.ref x0)] [] := by first | (simp [entryFrame, mkF, argsToLocals, Value.category]; done) | rfl
set_option maxRecDepth 65536 in
set_option maxHeartbeats 40000000 in
theorem rm14 (l : Launch) (Z : State) (a0 : Array Value) (hw : ∀ d ∈ tables_1, d.before a0 Z = true) (ws : List Jvm.Cond) {m_OA : Addr} {w_REJECTED : Addr} {w_EMPTY_ELEMENTDATA : Addr} {w_DEFAULTCAPACITY_EMPTY_ELEMENTDATA : Addr} {w_EMPTY_LIST : Addr} {w_EMPTY_LIST_elements : Addr} {w_EMPTY : Addr} {k_w_EMPTY_ELEMENTDATA : ClassId} {k_w_DEFAULTCAPACITY_EMPTY_ELEMENTDATA : ClassId} {k_w_EMPTY_LIST_elements : ClassId} (G : Glob Z m_OA w_REJECTED w_EMPTY_ELEMENTDATA w_DEFAULTCAPACITY_EMPTY_ELEMENTDATA w_EMPTY_LIST w_EMPTY_LIST_elements w_EMPTY k_w_EMPTY_ELEMENTDATA k_w_DEFAULTCAPACITY_EMPTY_ELEMENTDATA k_w_EMPTY_LIST_elements) (a1 : Addr) (a2 : Addr) (a4 : Addr) (k5 : ClassId) (h0 : Heap) (n0 : Nat) (O0 : Old Z n0 h0) (F_aCells_a1 : Fld Z h0 a1 "com/example/curtail/curtail/Placement" "aCells" "Ljava/util/List;" (.ref a2)) (E_a2 : Exa Z h0 a2 "java/util/ImmutableCollections$ListN") (F_elements_a2 : Fld Z h0 a2 "java/util/ImmutableCollections$ListN" "elements" "[Ljava/lang/Object;" (.ref a4)) (V_a4 : Arv Z h0 a4 k5 (.object "java/lang/Object") (0 : Int32) [] .null) :
    MetFree l (⟨"com/example/curtail/curtail/Placement", "isAccepted", "()Z"⟩ : MethodName) (head1 (Jvm.Cond.code (⟨"com/example/curtail/curtail/Placement", "isAccepted", "()Z"⟩ : MethodName) prog_14_method_2_code 1 (some .boolean) :: ws) ({ frames := 1, cells := 0, slots := 0, locals := 12 } : Room)) (fun a U => a = #[(.ref a1)] ∧ Z.Warmed39 U.vm ∧ U.heap = h0) (fun _ _ _ _ _ => True) (fun _ U o U' => ∃ v L, o = .returned v ∧ Q14 Z m_OA w_REJECTED w_EMPTY_ELEMENTDATA w_DEFAULTCAPACITY_EMPTY_ELEMENTDATA w_EMPTY_LIST w_EMPTY_LIST_elements w_EMPTY k_w_EMPTY_ELEMENTDATA k_w_DEFAULTCAPACITY_EMPTY_ELEMENTDATA k_w_EMPTY_LIST_elements a1 a2 a4 k5 h0 n0 v U'.heap L ∧ FrameEnd U o U' L ({ frames := 1, cells := 0, slots := 0, locals := 12 } : Room).cells ({ frames := 1, cells := 0, slots := 0, locals := 12 } : Room).slots) := by
  refine MetFree.of_bodySF (plainFor_of_name pn_com_example_curtail_curtail_Placement) hisR ?_
  intro p e s m args below meth c s₁ Bd hml0 hP hK
  obtain ⟨rfl, hZ, hh⟩ := hP
  have hx := Bd.exec
  have hby := Bd.bytes
  have hml : c.maxLocals = 1 := hml0
  have hown : s.vm.findClass "com/example/curtail/curtail/Placement" = some m.cls := findClass_of_methodNamed Bd.named
  have hnm := (name_of_methodNamed Bd.named Bd.method).1
  have X0 : Stand p l e ({ frames := 1, cells := 0, slots := 0, locals := 12 } : Room) s m #[(.ref a1)] below meth c s₁ [] 0 0 := Stand.of_body Bd
  have e0 : s₁.heap = h0 := by rw [← hh, Bd.state]; rfl
  have N0 := Fr.nil n0
  show OGot p.tables e below (s₁.setTop (entryFrame m #[(.ref a1)] 1)) _
  refine OGot.go (fun t k => castTop (ef14 m a1) k) ?_
  show OGot p.tables e below (s₁.setTop (mkF m 0 #[.val (.ref a1)] [])) _
  refine OGot.go (fun t k => XS.aloadN X0.here hx rfl (hb hby d14_0) rfl rfl k) ?_
  show OGot p.tables e below (s₁.setTop (mkF m 1 #[.val (.ref a1)] [(.ref a1)])) _
  obtain ⟨T3, X3, e3, st3⟩ := getF X0 hx hZ hown (host := "") (Or.inl (ow hw 87 rfl)) Via.refl e0 F_aCells_a1 (g := (mkF m 1 #[.val (.ref a1)] [(.ref a1)])) rfl rfl (hb hby d14_1)
  refine OGot.go st3 ?_
  show OGot p.tables e below (T3.setTop (mkF m 4 #[.val (.ref a1)] [(.ref a2)])) _
  obtain ⟨cq6, kq6, q6a, q6b, q6c⟩ := isOf hZ e3 E_a2
  obtain ⟨_, _, ⟨T6, L6, k6, n6⟩, -, X6, ⟨Lc6, hQ6, l6, y6, z6⟩, st6⟩ := X3.interfaceBack hx (xi := (⟨"java/util/List", "isEmpty", "()Z"⟩ : MethodName)) (y := (⟨"java/util/ImmutableCollections$ListN", "isEmpty", "()Z"⟩ : MethodName)) hown (mvT hZ (ow hw 94 rfl)) (mvT hZ (ow hw 95 rfl)) (mvT hZ (ow hw 96 rfl)) (mvT hZ (ow hw 97 rfl)) (mvT hZ (ow hw 98 rfl)) (mvT hZ (ow hw 99 rfl)) (mvT hZ (ow hw 100 rfl)) (mvT hZ (ow hw 82 rfl)) (by decide) (backOf (W := 0) (rm15 l Z a0 hw [] G a2 a4 k5 h0 n0 O0 F_elements_a2 V_a4) hZ (ow hw 101 rfl) (ow hw 83 rfl) (by decide) (by decide)) q6a q6b q6c (g := (mkF m 4 #[.val (.ref a1)] [(.ref a2)])) rfl (by rw [hml]; rfl) (Steps.refl _) (argsL := []) (rest := []) (lenOf pd_2 rfl) rfl (by show 2 * 0 + _ ≤ _; exact Nat.le_of_eq rfl) (hb hby d14_4) (fun _ _ => ⟨rfl, e3, (by decide : 0 + 0 ≤ _), (by decide : 0 + 0 ≤ _)⟩)
  dsimp only [Pt.U, Pt.locs, Pt.cells, Pt.slots] at X6 l6 y6 z6 st6 hQ6
  subst l6 y6 z6
  obtain ⟨rfl, N6q, e6⟩ := hQ6
  have N6 := Fr.app N0 N6q
  refine OGot.on st6 ?_
  show OGot p.tables e below (T6.setTop (mkF m 9 #[.val (.ref a1)] [(.int (1 : Int32))])) _
  refine OGot.go (fun t k => XS.ifYes X6.here hx rfl (pc0 := 9) (pc' := 16) rfl (hb hby d14_9) rfl (by decide) (by decide) (by decide) k) ?_
  show OGot p.tables e below (T6.setTop (mkF m 16 #[.val (.ref a1)] [])) _
  refine OGot.go (fun t k => XS.iconst X6.here hx rfl (hb hby d14_16) k) ?_
  show OGot p.tables e below (T6.setTop (mkF m 17 #[.val (.ref a1)] [(.int (0 : Int32))])) _
  obtain ⟨fs, hr, hrun, hended, hW, hsame⟩ := X6.leave (v := some (.int (0 : Int32))) (fun h => by rw [Bd.returns] at h; cases h)
  refine ⟨_, _, retN X6 hx (t := .boolean) Bd.returns (by simp) (hb hby d14_17) hr, hrun, hended, _, _, rfl, ?_, ⟨_, rfl⟩, hW, hsame.mono (by decide) (by decide)⟩
  exact (⟨rfl, N6, e6⟩ : Q14 Z m_OA w_REJECTED w_EMPTY_ELEMENTDATA w_DEFAULTCAPACITY_EMPTY_ELEMENTDATA w_EMPTY_LIST w_EMPTY_LIST_elements w_EMPTY k_w_EMPTY_ELEMENTDATA k_w_DEFAULTCAPACITY_EMPTY_ELEMENTDATA k_w_EMPTY_LIST_elements a1 a2 a4 k5 h0 n0 _ T6.heap _)
def Q15_1 (Z : State) (m_OA : Addr) (w_REJECTED : Addr) (w_EMPTY_ELEMENTDATA : Addr) (w_DEFAULTCAPACITY_EMPTY_ELEMENTDATA : Addr) (w_EMPTY_LIST : Addr) (w_EMPTY_LIST_elements : Addr) (w_EMPTY : Addr) (k_w_EMPTY_ELEMENTDATA : ClassId) (k_w_DEFAULTCAPACITY_EMPTY_ELEMENTDATA : ClassId) (k_w_EMPTY_LIST_elements : ClassId)  (h0 : Heap) (n0 : Nat) (v : Option Value) (h : Heap) (L : List Loc) : Prop := v = some (.int (1 : Int32)) ∧ Fr n0 L ∧ h = h0
theorem ef15_1 (m : MethodId) (x0 : Addr) : entryFrame m #[(.ref x0)] 1 = mkF m 0 #[.val (.ref x0)] [] := by first | (simp [entryFrame, mkF, argsToLocals, Value.category]; done) | rfl
set_option maxRecDepth 65536 in
set_option maxHeartbeats 40000000 in
theorem rm15_1 (l : Launch) (Z : State) (a0 : Array Value) (hw : ∀ d ∈ tables_1, d.before a0 Z = true) (ws : List Jvm.Cond) {m_OA : Addr} {w_REJECTED : Addr} {w_EMPTY_ELEMENTDATA : Addr} {w_DEFAULTCAPACITY_EMPTY_ELEMENTDATA : Addr} {w_EMPTY_LIST : Addr} {w_EMPTY_LIST_elements : Addr} {w_EMPTY : Addr} {k_w_EMPTY_ELEMENTDATA : ClassId} {k_w_DEFAULTCAPACITY_EMPTY_ELEMENTDATA : ClassId} {k_w_EMPTY_LIST_elements : ClassId} (G : Glob Z m_OA w_REJECTED w_EMPTY_ELEMENTDATA w_DEFAULTCAPACITY_EMPTY_ELEMENTDATA w_EMPTY_LIST w_EMPTY_LIST_elements w_EMPTY k_w_EMPTY_ELEMENTDATA k_w_DEFAULTCAPACITY_EMPTY_ELEMENTDATA k_w_EMPTY_LIST_elements)  (h0 : Heap) (n0 : Nat) (O0 : Old Z n0 h0) :
    MetFree l (⟨"java/util/ImmutableCollections$ListN", "isEmpty", "()Z"⟩ : MethodName) (head1 (Jvm.Cond.code (⟨"java/util/ImmutableCollections$ListN", "isEmpty", "()Z"⟩ : MethodName) jdk_45_method_2_code 1 (some .boolean) :: ws) ({ frames := 0, cells := 0, slots := 0, locals := 0 } : Room)) (fun a U => a = #[(.ref w_EMPTY_LIST)] ∧ Z.Warmed39 U.vm ∧ U.heap = h0) (fun _ _ _ _ _ => True) (fun _ U o U' => ∃ v L, o = .returned v ∧ Q15_1 Z m_OA w_REJECTED w_EMPTY_ELEMENTDATA w_DEFAULTCAPACITY_EMPTY_ELEMENTDATA w_EMPTY_LIST w_EMPTY_LIST_elements w_EMPTY k_w_EMPTY_ELEMENTDATA k_w_DEFAULTCAPACITY_EMPTY_ELEMENTDATA k_w_EMPTY_LIST_elements  h0 n0 v U'.heap L ∧ FrameEnd U o U' L ({ frames := 0, cells := 0, slots := 0, locals := 0 } : Room).cells ({ frames := 0, cells := 0, slots := 0, locals := 0 } : Room).slots) := by
  refine MetFree.of_bodySF (plainFor_of_name pn_java_util_ImmutableCollections_ListN) hisR ?_
  intro p e s m args below meth c s₁ Bd hml0 hP hK
  obtain ⟨rfl, hZ, hh⟩ := hP
  have hx := Bd.exec
  have hby := Bd.bytes
  have hml : c.maxLocals = 1 := hml0
  have hown : s.vm.findClass "java/util/ImmutableCollections$ListN" = some m.cls := findClass_of_methodNamed Bd.named
  have hnm := (name_of_methodNamed Bd.named Bd.method).1
  have X0 : Stand p l e ({ frames := 0, cells := 0, slots := 0, locals := 0 } : Room) s m #[(.ref w_EMPTY_LIST)] below meth c s₁ [] 0 0 := Stand.of_body Bd
  have e0 : s₁.heap = h0 := by rw [← hh, Bd.state]; rfl
  have N0 := Fr.nil n0
  show OGot p.tables e below (s₁.setTop (entryFrame m #[(.ref w_EMPTY_LIST)] 1)) _
  refine OGot.go (fun t k => castTop (ef15_1 m w_EMPTY_LIST) k) ?_
  show OGot p.tables e below (s₁.setTop (mkF m 0 #[.val (.ref w_EMPTY_LIST)] [])) _
  refine OGot.go (fun t k => XS.aloadN X0.here hx rfl (hb hby d15_0) rfl rfl k) ?_
  show OGot p.tables e below (s₁.setTop (mkF m 1 #[.val (.ref w_EMPTY_LIST)] [(.ref w_EMPTY_LIST)])) _
  obtain ⟨T2, X2, e2, st2⟩ := getF X0 hx hZ hown (host := "") (Or.inl (ow hw 85 rfl)) Via.refl e0 (G.2.2.2.2.2.2.2.2.2.1.ext O0.2) (g := (mkF m 1 #[.val (.ref w_EMPTY_LIST)] [(.ref w_EMPTY_LIST)])) rfl rfl (hb hby d15_1)
  refine OGot.go st2 ?_
  show OGot p.tables e below (T2.setTop (mkF m 4 #[.val (.ref w_EMPTY_LIST)] [(.ref w_EMPTY_LIST_elements)])) _
  obtain ⟨cl3, Ar3, -, Sz3, Ng3, -, -⟩ := id ((G.2.2.2.2.2.2.2.2.2.2.2.2.2.2.2.2.1.ext O0.2))
  refine OGot.go (fun t k => X2.arraylength hx (by rw [e2]; exact Ar3.1) (State.isArrayOf_alike hZ.alike Ar3.2.1) (g := (mkF m 4 #[.val (.ref w_EMPTY_LIST)] [(.ref w_EMPTY_LIST_elements)])) rfl rfl (hb hby d15_4) _ k) ?_
  rw [len_of Sz3 Ng3]
  show OGot p.tables e below (T2.setTop (mkF m 5 #[.val (.ref w_EMPTY_LIST)] [(.int (0 : Int32))])) _
  refine OGot.go (fun t k => XS.ifNo X2.here hx rfl (hb hby d15_5) rfl (by decide) k) ?_
  show OGot p.tables e below (T2.setTop (mkF m 8 #[.val (.ref w_EMPTY_LIST)] [])) _
  refine OGot.go (fun t k => XS.iconst X2.here hx rfl (hb hby d15_8) k) ?_
  show OGot p.tables e below (T2.setTop (mkF m 9 #[.val (.ref w_EMPTY_LIST)] [(.int (1 : Int32))])) _
  refine OGot.go (fun t k => XS.goto X2.here hx rfl (pc0 := 9) (pc' := 13) rfl (hb hby d15_9) (by decide) (by decide) k) ?_
  show OGot p.tables e below (T2.setTop (mkF m 13 #[.val (.ref w_EMPTY_LIST)] [(.int (1 : Int32))])) _
  obtain ⟨fs, hr, hrun, hended, hW, hsame⟩ := X2.leave (v := some (.int (1 : Int32))) (fun h => by rw [Bd.returns] at h; cases h)
  refine ⟨_, _, retN X2 hx (t := .boolean) Bd.returns (by simp) (hb hby d15_13) hr, hrun, hended, _, _, rfl, ?_, ⟨_, rfl⟩, hW, hsame.mono (by decide) (by decide)⟩
  exact (⟨rfl, N0, e2⟩ : Q15_1 Z m_OA w_REJECTED w_EMPTY_ELEMENTDATA w_DEFAULTCAPACITY_EMPTY_ELEMENTDATA w_EMPTY_LIST w_EMPTY_LIST_elements w_EMPTY k_w_EMPTY_ELEMENTDATA k_w_DEFAULTCAPACITY_EMPTY_ELEMENTDATA k_w_EMPTY_LIST_elements  h0 n0 _ T2.heap _)
def Q14_1 (Z : State) (m_OA : Addr) (w_REJECTED : Addr) (w_EMPTY_ELEMENTDATA : Addr) (w_DEFAULTCAPACITY_EMPTY_ELEMENTDATA : Addr) (w_EMPTY_LIST : Addr) (w_EMPTY_LIST_elements : Addr) (w_EMPTY : Addr) (k_w_EMPTY_ELEMENTDATA : ClassId) (k_w_DEFAULTCAPACITY_EMPTY_ELEMENTDATA : ClassId) (k_w_EMPTY_LIST_elements : ClassId)  (h0 : Heap) (n0 : Nat) (v : Option Value) (h : Heap) (L : List Loc) : Prop := v = some (.int (0 : Int32)) ∧ Fr n0 L ∧ h = h0
theorem ef14_1 (m : MethodId) (x0 : Addr) : entryFrame m #[(.ref x0)] 1 = mkF m 0 #[.val (.ref x0)] [] := by first | (simp [entryFrame, mkF, argsToLocals, Value.category]; done) | rfl
set_option maxRecDepth 65536 in
set_option maxHeartbeats 40000000 in
theorem rm14_1 (l : Launch) (Z : State) (a0 : Array Value) (hw : ∀ d ∈ tables_1, d.before a0 Z = true) (ws : List Jvm.Cond) {m_OA : Addr} {w_REJECTED : Addr} {w_EMPTY_ELEMENTDATA : Addr} {w_DEFAULTCAPACITY_EMPTY_ELEMENTDATA : Addr} {w_EMPTY_LIST : Addr} {w_EMPTY_LIST_elements : Addr} {w_EMPTY : Addr} {k_w_EMPTY_ELEMENTDATA : ClassId} {k_w_DEFAULTCAPACITY_EMPTY_ELEMENTDATA : ClassId} {k_w_EMPTY_LIST_elements : ClassId} (G : Glob Z m_OA w_REJECTED w_EMPTY_ELEMENTDATA w_DEFAULTCAPACITY_EMPTY_ELEMENTDATA w_EMPTY_LIST w_EMPTY_LIST_elements w_EMPTY k_w_EMPTY_ELEMENTDATA k_w_DEFAULTCAPACITY_EMPTY_ELEMENTDATA k_w_EMPTY_LIST_elements)  (h0 : Heap) (n0 : Nat) (O0 : Old Z n0 h0) :
    MetFree l (⟨"com/example/curtail/curtail/Placement", "isAccepted", "()Z"⟩ : MethodName) (head1 (Jvm.Cond.code (⟨"com/example/curtail/curtail/Placement", "isAccepted", "()Z"⟩ : MethodName) prog_14_method_2_code 1 (some .boolean) :: ws) ({ frames := 1, cells := 0, slots := 0, locals := 12 } : Room)) (fun a U => a = #[(.ref w_REJECTED)] ∧ Z.Warmed39 U.vm ∧ U.heap = h0) (fun _ _ _ _ _ => True) (fun _ U o U' => ∃ v L, o = .returned v ∧ Q14_1 Z m_OA w_REJECTED w_EMPTY_ELEMENTDATA w_DEFAULTCAPACITY_EMPTY_ELEMENTDATA w_EMPTY_LIST w_EMPTY_LIST_elements w_EMPTY k_w_EMPTY_ELEMENTDATA k_w_DEFAULTCAPACITY_EMPTY_ELEMENTDATA k_w_EMPTY_LIST_elements  h0 n0 v U'.heap L ∧ FrameEnd U o U' L ({ frames := 1, cells := 0, slots := 0, locals := 12 } : Room).cells ({ frames := 1, cells := 0, slots := 0, locals := 12 } : Room).slots) := by
  refine MetFree.of_bodySF (plainFor_of_name pn_com_example_curtail_curtail_Placement) hisR ?_
  intro p e s m args below meth c s₁ Bd hml0 hP hK
  obtain ⟨rfl, hZ, hh⟩ := hP
  have hx := Bd.exec
  have hby := Bd.bytes
  have hml : c.maxLocals = 1 := hml0
  have hown : s.vm.findClass "com/example/curtail/curtail/Placement" = some m.cls := findClass_of_methodNamed Bd.named
  have hnm := (name_of_methodNamed Bd.named Bd.method).1
  have X0 : Stand p l e ({ frames := 1, cells := 0, slots := 0, locals := 12 } : Room) s m #[(.ref w_REJECTED)] below meth c s₁ [] 0 0 := Stand.of_body Bd
  have e0 : s₁.heap = h0 := by rw [← hh, Bd.state]; rfl
  have N0 := Fr.nil n0
  show OGot p.tables e below (s₁.setTop (entryFrame m #[(.ref w_REJECTED)] 1)) _
  refine OGot.go (fun t k => castTop (ef14_1 m w_REJECTED) k) ?_
  show OGot p.tables e below (s₁.setTop (mkF m 0 #[.val (.ref w_REJECTED)] [])) _
  refine OGot.go (fun t k => XS.aloadN X0.here hx rfl (hb hby d14_0) rfl rfl k) ?_
  show OGot p.tables e below (s₁.setTop (mkF m 1 #[.val (.ref w_REJECTED)] [(.ref w_REJECTED)])) _
  obtain ⟨T2, X2, e2, st2⟩ := getF X0 hx hZ hown (host := "") (Or.inl (ow hw 87 rfl)) Via.refl e0 (G.2.2.2.2.2.2.2.2.2.2.2.2.2.1.ext O0.2) (g := (mkF m 1 #[.val (.ref w_REJECTED)] [(.ref w_REJECTED)])) rfl rfl (hb hby d14_1)
  refine OGot.go st2 ?_
  show OGot p.tables e below (T2.setTop (mkF m 4 #[.val (.ref w_REJECTED)] [(.ref w_EMPTY_LIST)])) _
  obtain ⟨cq3, kq3, q3a, q3b, q3c⟩ := isOf hZ e2 (G.2.2.2.2.2.2.2.2.1.ext O0.2)
  obtain ⟨_, _, ⟨T3, L3, k3, n3⟩, -, X3, ⟨Lc3, hQ3, l3, y3, z3⟩, st3⟩ := X2.interfaceBack hx (xi := (⟨"java/util/List", "isEmpty", "()Z"⟩ : MethodName)) (y := (⟨"java/util/ImmutableCollections$ListN", "isEmpty", "()Z"⟩ : MethodName)) hown (mvT hZ (ow hw 94 rfl)) (mvT hZ (ow hw 95 rfl)) (mvT hZ (ow hw 96 rfl)) (mvT hZ (ow hw 97 rfl)) (mvT hZ (ow hw 98 rfl)) (mvT hZ (ow hw 99 rfl)) (mvT hZ (ow hw 100 rfl)) (mvT hZ (ow hw 82 rfl)) (by decide) (backOf (W := 0) (rm15_1 l Z a0 hw [] G  h0 n0 O0 ) hZ (ow hw 101 rfl) (ow hw 83 rfl) (by decide) (by decide)) q3a q3b q3c (g := (mkF m 4 #[.val (.ref w_REJECTED)] [(.ref w_EMPTY_LIST)])) rfl (by rw [hml]; rfl) (Steps.refl _) (argsL := []) (rest := []) (lenOf pd_2 rfl) rfl (by show 2 * 0 + _ ≤ _; exact Nat.le_of_eq rfl) (hb hby d14_4) (fun _ _ => ⟨rfl, e2, (by decide : 0 + 0 ≤ _), (by decide : 0 + 0 ≤ _)⟩)
  dsimp only [Pt.U, Pt.locs, Pt.cells, Pt.slots] at X3 l3 y3 z3 st3 hQ3
  subst l3 y3 z3
  obtain ⟨rfl, N3q, e3⟩ := hQ3
  have N3 := Fr.app N0 N3q
  refine OGot.on st3 ?_
  show OGot p.tables e below (T3.setTop (mkF m 9 #[.val (.ref w_REJECTED)] [(.int (1 : Int32))])) _
  refine OGot.go (fun t k => XS.ifYes X3.here hx rfl (pc0 := 9) (pc' := 16) rfl (hb hby d14_9) rfl (by decide) (by decide) (by decide) k) ?_
  show OGot p.tables e below (T3.setTop (mkF m 16 #[.val (.ref w_REJECTED)] [])) _
  refine OGot.go (fun t k => XS.iconst X3.here hx rfl (hb hby d14_16) k) ?_
  show OGot p.tables e below (T3.setTop (mkF m 17 #[.val (.ref w_REJECTED)] [(.int (0 : Int32))])) _
  obtain ⟨fs, hr, hrun, hended, hW, hsame⟩ := X3.leave (v := some (.int (0 : Int32))) (fun h => by rw [Bd.returns] at h; cases h)
  refine ⟨_, _, retN X3 hx (t := .boolean) Bd.returns (by simp) (hb hby d14_17) hr, hrun, hended, _, _, rfl, ?_, ⟨_, rfl⟩, hW, hsame.mono (by decide) (by decide)⟩
  exact (⟨rfl, N3, e3⟩ : Q14_1 Z m_OA w_REJECTED w_EMPTY_ELEMENTDATA w_DEFAULTCAPACITY_EMPTY_ELEMENTDATA w_EMPTY_LIST w_EMPTY_LIST_elements w_EMPTY k_w_EMPTY_ELEMENTDATA k_w_DEFAULTCAPACITY_EMPTY_ELEMENTDATA k_w_EMPTY_LIST_elements  h0 n0 _ T3.heap _)
theorem d16_0 : decode prog_15_method_1_code 0 = .ok (.aload_n 0, 1) := by decide +kernel
theorem d16_1 : decode prog_15_method_1_code 1 = .ok (.invokespecial 1, 3) := by decide +kernel
theorem d16_4 : decode prog_15_method_1_code 4 = .ok (.aload_n 0, 1) := by decide +kernel
theorem d16_5 : decode prog_15_method_1_code 5 = .ok (.iload_n 1, 1) := by decide +kernel
theorem d16_6 : decode prog_15_method_1_code 6 = .ok (.putfield 7, 3) := by decide +kernel
theorem d16_9 : decode prog_15_method_1_code 9 = .ok (.aload_n 0, 1) := by decide +kernel
theorem d16_10 : decode prog_15_method_1_code 10 = .ok (.iload_n 2, 1) := by decide +kernel
theorem d16_11 : decode prog_15_method_1_code 11 = .ok (.putfield 13, 3) := by decide +kernel
theorem d16_14 : decode prog_15_method_1_code 14 = .ok (.return_, 1) := by decide +kernel
theorem pn_com_example_curtail_curtail_Placement_Cell : plainName "com/example/curtail/curtail/Placement$Cell" = true := by first | (simp [plainName, overriddenIn]; done) | decide +kernel
def Q16 (Z : State) (m_OA : Addr) (w_REJECTED : Addr) (w_EMPTY_ELEMENTDATA : Addr) (w_DEFAULTCAPACITY_EMPTY_ELEMENTDATA : Addr) (w_EMPTY_LIST : Addr) (w_EMPTY_LIST_elements : Addr) (w_EMPTY : Addr) (k_w_EMPTY_ELEMENTDATA : ClassId) (k_w_DEFAULTCAPACITY_EMPTY_ELEMENTDATA : ClassId) (k_w_EMPTY_LIST_elements : ClassId) (a1 : Addr) (p2 : Int32) (p3 : Int32) (h0 : Heap) (n0 : Nat) (v : Option Value) (h : Heap) (L : List Loc) : Prop := Fr n0 L ∧ v = none ∧ OKeep h0 h [(a1, Jvm.RoadKit.slotOf Z "com/example/curtail/curtail/Placement$Cell" "nSlot" "I"), (a1, Jvm.RoadKit.slotOf Z "com/example/curtail/curtail/Placement$Cell" "nCloudlet" "I")] ∧ Fld Z h a1 "com/example/curtail/curtail/Placement$Cell" "nSlot" "I" (.int p2) ∧ Fld Z h a1 "com/example/curtail/curtail/Placement$Cell" "nCloudlet" "I" (.int p3)
theorem ef16 (m : MethodId) (x0 : Addr) (x1 : Int32) (x2 : Int32) : entryFrame m #[(.ref x0), (.int x1), (.int x2)] 3 = mkF m 0 #[.val (.ref x0), .val (.int x1), .val (.int x2)] [] := by first | (simp [entryFrame, mkF, argsToLocals, Value.category]; done) | rfl
set_option maxRecDepth 65536 in
set_option maxHeartbeats 40000000 in
theorem rm16 (l : Launch) (Z : State) (a0 : Array Value) (hw : ∀ d ∈ tables_1, d.before a0 Z = true) (ws : List Jvm.Cond) {m_OA : Addr} {w_REJECTED : Addr} {w_EMPTY_ELEMENTDATA : Addr} {w_DEFAULTCAPACITY_EMPTY_ELEMENTDATA : Addr} {w_EMPTY_LIST : Addr} {w_EMPTY_LIST_elements : Addr} {w_EMPTY : Addr} {k_w_EMPTY_ELEMENTDATA : ClassId} {k_w_DEFAULTCAPACITY_EMPTY_ELEMENTDATA : ClassId} {k_w_EMPTY_LIST_elements : ClassId} (G : Glob Z m_OA w_REJECTED w_EMPTY_ELEMENTDATA w_DEFAULTCAPACITY_EMPTY_ELEMENTDATA w_EMPTY_LIST w_EMPTY_LIST_elements w_EMPTY k_w_EMPTY_ELEMENTDATA k_w_DEFAULTCAPACITY_EMPTY_ELEMENTDATA k_w_EMPTY_LIST_elements) (a1 : Addr) (p2 : Int32) (p3 : Int32) (h0 : Heap) (n0 : Nat) (O0 : Old Z n0 h0) (E_a1 : Exa Z h0 a1 "com/example/curtail/curtail/Placement$Cell") (F_nSlot_a1 : Fld Z h0 a1 "com/example/curtail/curtail/Placement$Cell" "nSlot" "I" (.int (0 : Int32))) (g_a1 : n0 ≤ a1) (F_nCloudlet_a1 : Fld Z h0 a1 "com/example/curtail/curtail/Placement$Cell" "nCloudlet" "I" (.int (0 : Int32))) :
    MetFree l (⟨"com/example/curtail/curtail/Placement$Cell", "<init>", "(II)V"⟩ : MethodName) (head1 (Jvm.Cond.code (⟨"com/example/curtail/curtail/Placement$Cell", "<init>", "(II)V"⟩ : MethodName) prog_15_method_1_code 3 none :: ws) ({ frames := 2, cells := 0, slots := 0, locals := 24 } : Room)) (fun a U => a = #[(.ref a1), (.int p2), (.int p3)] ∧ Z.Warmed39 U.vm ∧ U.heap = h0) (fun _ _ _ _ _ => True) (fun _ U o U' => ∃ v L, o = .returned v ∧ Q16 Z m_OA w_REJECTED w_EMPTY_ELEMENTDATA w_DEFAULTCAPACITY_EMPTY_ELEMENTDATA w_EMPTY_LIST w_EMPTY_LIST_elements w_EMPTY k_w_EMPTY_ELEMENTDATA k_w_DEFAULTCAPACITY_EMPTY_ELEMENTDATA k_w_EMPTY_LIST_elements a1 p2 p3 h0 n0 v U'.heap L ∧ FrameEnd U o U' L ({ frames := 2, cells := 0, slots := 0, locals := 24 } : Room).cells ({ frames := 2, cells := 0, slots := 0, locals := 24 } : Room).slots) := by
  refine MetFree.of_bodySF (plainFor_of_name pn_com_example_curtail_curtail_Placement_Cell) hisR ?_
  intro p e s m args below meth c s₁ Bd hml0 hP hK
  obtain ⟨rfl, hZ, hh⟩ := hP
  have hx := Bd.exec
  have hby := Bd.bytes
  have hml : c.maxLocals = 3 := hml0
  have hown : s.vm.findClass "com/example/curtail/curtail/Placement$Cell" = some m.cls := findClass_of_methodNamed Bd.named
  have hnm := (name_of_methodNamed Bd.named Bd.method).1
  have X0 : Stand p l e ({ frames := 2, cells := 0, slots := 0, locals := 24 } : Room) s m #[(.ref a1), (.int p2), (.int p3)] below meth c s₁ [] 0 0 := Stand.of_body Bd
  have e0 : s₁.heap = h0 := by rw [← hh, Bd.state]; rfl
  have N0 := Fr.nil n0
  show OGot p.tables e below (s₁.setTop (entryFrame m #[(.ref a1), (.int p2), (.int p3)] 3)) _
  refine OGot.go (fun t k => castTop (ef16 m a1 p2 p3) k) ?_
  show OGot p.tables e below (s₁.setTop (mkF m 0 #[.val (.ref a1), .val (.int p2), .val (.int p3)] [])) _
  refine OGot.go (fun t k => XS.aloadN X0.here hx rfl (hb hby d16_0) rfl rfl k) ?_
  show OGot p.tables e below (s₁.setTop (mkF m 1 #[.val (.ref a1), .val (.int p2), .val (.int p3)] [(.ref a1)])) _
  obtain ⟨_, _, ⟨T4, L4, k4, n4⟩, -, X4, ⟨Lc4, hQ4, l4, y4, z4⟩, st4⟩ := X0.specialBack hx (y := (⟨"java/lang/Record", "<init>", "()V"⟩ : MethodName)) rfl hown (mvT hZ (ow hw 110 rfl)) (mvT hZ (ow hw 41 rfl)) (mvT hZ (ow hw 44 rfl)) (by decide) (backOf (W := 0) (rm8 l Z a0 hw [] G a1 h0 n0 O0 ) hZ (ow hw 44 rfl) (ow hw 43 rfl) (by decide) (by decide)) (g := (mkF m 1 #[.val (.ref a1), .val (.int p2), .val (.int p3)] [(.ref a1)])) rfl (by rw [hml]; rfl) (Steps.refl _) (a := a1) (argsL := []) (rest := []) (lenOf pd_1 rfl) rfl (by show 2 * 0 + _ ≤ _; exact Nat.le_of_eq rfl) (hb hby d16_1) (fun _ _ => ⟨rfl, e0, (by decide : 0 + 0 ≤ _), (by decide : 0 + 0 ≤ _)⟩)
  dsimp only [Pt.U, Pt.locs, Pt.cells, Pt.slots] at X4 l4 y4 z4 st4 hQ4
  subst l4 y4 z4
  obtain ⟨rfl, N4q, e4⟩ := hQ4
  have N4 := Fr.app N0 N4q
  refine OGot.on st4 ?_
  show OGot p.tables e below (T4.setTop (mkF m 4 #[.val (.ref a1), .val (.int p2), .val (.int p3)] [])) _
  refine OGot.go (fun t k => XS.aloadN X4.here hx rfl (hb hby d16_4) rfl rfl k) ?_
  show OGot p.tables e below (T4.setTop (mkF m 5 #[.val (.ref a1), .val (.int p2), .val (.int p3)] [(.ref a1)])) _
  refine OGot.go (fun t k => XS.iloadN X4.here hx rfl (hb hby d16_5) rfl k) ?_
  show OGot p.tables e below (T4.setTop (mkF m 6 #[.val (.ref a1), .val (.int p2), .val (.int p3)] [(.int p2), (.ref a1)])) _
  obtain ⟨T5, h5, X5, e5, W5, st5⟩ := putF X4 hx hZ hown (host := "") (Or.inl (ow hw 111 rfl)) Via.refl e4 F_nSlot_a1 E_a1 (Or.inr ⟨(ow hw 112 rfl), rfl, hnm⟩) (ow hw 105 rfl) (ty := .int) (by decide) rfl rfl (g := (mkF m 6 #[.val (.ref a1), .val (.int p2), .val (.int p3)] [(.int p2), (.ref a1)])) rfl rfl (hb hby d16_6)
  refine OGot.go st5 ?_
  have N5 := Fr.snoc X5 N4 g_a1
  have O5 := O0.wr W5 g_a1
  have K5 := (OKeep.refl h0 [(a1, Jvm.RoadKit.slotOf Z "com/example/curtail/curtail/Placement$Cell" "nSlot" "I"), (a1, Jvm.RoadKit.slotOf Z "com/example/curtail/curtail/Placement$Cell" "nCloudlet" "I")]).wr W5 (Or.inl (List.mem_of_getElem? (i := 0) rfl))
  have Fw5 : Fld Z h5 a1 "com/example/curtail/curtail/Placement$Cell" "nSlot" "I" (.int p2) := F_nSlot_a1.same W5
  show OGot p.tables e below (T5.setTop (mkF m 9 #[.val (.ref a1), .val (.int p2), .val (.int p3)] [])) _
  refine OGot.go (fun t k => XS.aloadN X5.here hx rfl (hb hby d16_9) rfl rfl k) ?_
  show OGot p.tables e below (T5.setTop (mkF m 10 #[.val (.ref a1), .val (.int p2), .val (.int p3)] [(.ref a1)])) _
  refine OGot.go (fun t k => XS.iloadN X5.here hx rfl (hb hby d16_10) rfl k) ?_
  show OGot p.tables e below (T5.setTop (mkF m 11 #[.val (.ref a1), .val (.int p2), .val (.int p3)] [(.int p3), (.ref a1)])) _
  have F6 : Fld Z h5 a1 "com/example/curtail/curtail/Placement$Cell" "nCloudlet" "I" (.int (0 : Int32)) := (F_nCloudlet_a1.other W5 (Or.inr (slot_ne (Or.inr (ow hw 114 rfl)) (Or.inr (ow hw 112 rfl)) (by decide) (t := .int) (t' := .int) (by decide) (by decide))))
  obtain ⟨T7, h7, X7, e7, W7, st7⟩ := putF X5 hx hZ hown (host := "") (Or.inl (ow hw 113 rfl)) Via.refl e5 F6 (E_a1.wr W5) (Or.inr ⟨(ow hw 114 rfl), rfl, hnm⟩) (ow hw 105 rfl) (ty := .int) (by decide) rfl rfl (g := (mkF m 11 #[.val (.ref a1), .val (.int p2), .val (.int p3)] [(.int p3), (.ref a1)])) rfl rfl (hb hby d16_11)
  refine OGot.go st7 ?_
  have N7 := Fr.snoc X7 N5 g_a1
  have O7 := O5.wr W7 g_a1
  have K7 := K5.wr W7 (Or.inl (List.mem_of_getElem? (i := 1) rfl))
  have Fw7 : Fld Z h7 a1 "com/example/curtail/curtail/Placement$Cell" "nCloudlet" "I" (.int p3) := F6.same W7
  show OGot p.tables e below (T7.setTop (mkF m 14 #[.val (.ref a1), .val (.int p2), .val (.int p3)] [])) _
  obtain ⟨fs, hr, hrun, hended, hW, hsame⟩ := X7.leave (v := none) (fun _ => rfl)
  refine ⟨_, _, X7.returnOut hx Bd.returns (hb hby d16_14) hr, hrun, hended, _, _, rfl, ?_, ⟨_, rfl⟩, hW, hsame.mono (by decide) (by decide)⟩
  have F8 : Fld Z h7 a1 "com/example/curtail/curtail/Placement$Cell" "nSlot" "I" (.int p2) := (Fw5.other W7 (Or.inr (slot_ne (Or.inr (ow hw 112 rfl)) (Or.inr (ow hw 114 rfl)) (by decide) (t := .int) (t' := .int) (by decide) (by decide))))
  show Q16 Z m_OA w_REJECTED w_EMPTY_ELEMENTDATA w_DEFAULTCAPACITY_EMPTY_ELEMENTDATA w_EMPTY_LIST w_EMPTY_LIST_elements w_EMPTY k_w_EMPTY_ELEMENTDATA k_w_DEFAULTCAPACITY_EMPTY_ELEMENTDATA k_w_EMPTY_LIST_elements a1 p2 p3 h0 n0 _ T7.heap _
  rw [e7]
  exact ⟨N7, rfl, K7, F8, Fw7⟩
theorem pd_7 : parseMethodDescriptor "(II)V" = some ⟨[.int, .int], none⟩ := by decide +kernel
theorem d17_0 : decode jdk_38_method_25_code 0 = .ok (.aload_n 0, 1) := by decide +kernel
theorem d17_1 : decode jdk_38_method_25_code 1 = .ok (.dup, 1) := by decide +kernel
theorem d17_2 : decode jdk_38_method_25_code 2 = .ok (.getfield 63, 3) := by decide +kernel
theorem d17_5 : decode jdk_38_method_25_code 5 = .ok (.iconst 1, 1) := by decide +kernel
theorem d17_6 : decode jdk_38_method_25_code 6 = .ok (.iadd, 1) := by decide +kernel
theorem d17_7 : decode jdk_38_method_25_code 7 = .ok (.putfield 63, 3) := by decide +kernel
theorem d17_10 : decode jdk_38_method_25_code 10 = .ok (.aload_n 0, 1) := by decide +kernel
theorem d17_11 : decode jdk_38_method_25_code 11 = .ok (.aload_n 1, 1) := by decide +kernel
theorem d17_12 : decode jdk_38_method_25_code 12 = .ok (.aload_n 0, 1) := by decide +kernel
theorem d17_13 : decode jdk_38_method_25_code 13 = .ok (.getfield 9, 3) := by decide +kernel
theorem d17_16 : decode jdk_38_method_25_code 16 = .ok (.aload_n 0, 1) := by decide +kernel
theorem d17_17 : decode jdk_38_method_25_code 17 = .ok (.getfield 48, 3) := by decide +kernel
theorem d17_20 : decode jdk_38_method_25_code 20 = .ok (.invokevirtual 131, 3) := by decide +kernel
theorem d18_0 : decode jdk_38_method_24_code 0 = .ok (.iload_n 3, 1) := by decide +kernel
theorem d18_1 : decode jdk_38_method_24_code 1 = .ok (.aload_n 2, 1) := by decide +kernel
theorem d18_2 : decode jdk_38_method_24_code 2 = .ok (.arraylength, 1) := by decide +kernel
theorem d18_3 : decode jdk_38_method_24_code 3 = .ok (.if_icmp .ne 8, 3) := by decide +kernel
theorem d18_6 : decode jdk_38_method_24_code 6 = .ok (.aload_n 0, 1) := by decide +kernel
theorem d18_7 : decode jdk_38_method_24_code 7 = .ok (.invokevirtual 129, 3) := by decide +kernel
theorem d19_0 : decode jdk_38_method_7_code 0 = .ok (.aload_n 0, 1) := by decide +kernel
theorem d19_1 : decode jdk_38_method_7_code 1 = .ok (.aload_n 0, 1) := by decide +kernel
theorem d19_2 : decode jdk_38_method_7_code 2 = .ok (.getfield 48, 3) := by decide +kernel
theorem d19_5 : decode jdk_38_method_7_code 5 = .ok (.iconst 1, 1) := by decide +kernel
theorem d19_6 : decode jdk_38_method_7_code 6 = .ok (.iadd, 1) := by decide +kernel
theorem d19_7 : decode jdk_38_method_7_code 7 = .ok (.invokevirtual 69, 3) := by decide +kernel
theorem d20_0 : decode jdk_38_method_6_code 0 = .ok (.aload_n 0, 1) := by decide +kernel
theorem d20_1 : decode jdk_38_method_6_code 1 = .ok (.getfield 9, 3) := by decide +kernel
theorem d20_4 : decode jdk_38_method_6_code 4 = .ok (.arraylength, 1) := by decide +kernel
theorem d20_5 : decode jdk_38_method_6_code 5 = .ok (.istore_n 2, 1) := by decide +kernel
theorem d20_6 : decode jdk_38_method_6_code 6 = .ok (.iload_n 2, 1) := by decide +kernel
theorem d20_7 : decode jdk_38_method_6_code 7 = .ok (.ifCond .gt 13, 3) := by decide +kernel
theorem d20_10 : decode jdk_38_method_6_code 10 = .ok (.aload_n 0, 1) := by decide +kernel
theorem d20_11 : decode jdk_38_method_6_code 11 = .ok (.getfield 9, 3) := by decide +kernel
theorem d20_14 : decode jdk_38_method_6_code 14 = .ok (.getstatic 39, 3) := by decide +kernel
theorem d20_17 : decode jdk_38_method_6_code 17 = .ok (.if_acmp .eq 28, 3) := by decide +kernel
theorem d20_45 : decode jdk_38_method_6_code 45 = .ok (.aload_n 0, 1) := by decide +kernel
theorem d20_46 : decode jdk_38_method_6_code 46 = .ok (.bipush 10, 2) := by decide +kernel
theorem d20_48 : decode jdk_38_method_6_code 48 = .ok (.iload_n 1, 1) := by decide +kernel
theorem d20_49 : decode jdk_38_method_6_code 49 = .ok (.invokestatic 79, 3) := by decide +kernel
def Q2_1 (Z : State) (m_OA : Addr) (w_REJECTED : Addr) (w_EMPTY_ELEMENTDATA : Addr) (w_DEFAULTCAPACITY_EMPTY_ELEMENTDATA : Addr) (w_EMPTY_LIST : Addr) (w_EMPTY_LIST_elements : Addr) (w_EMPTY : Addr) (k_w_EMPTY_ELEMENTDATA : ClassId) (k_w_DEFAULTCAPACITY_EMPTY_ELEMENTDATA : ClassId) (k_w_EMPTY_LIST_elements : ClassId)  (h0 : Heap) (n0 : Nat) (v : Option Value) (h : Heap) (L : List Loc) : Prop := v = some (.int (10 : Int32)) ∧ Fr n0 L ∧ h = h0
theorem ef2_1 (m : MethodId)  : entryFrame m #[(.int (10 : Int32)), (.int (1 : Int32))] 2 = mkF m 0 #[.val (.int (10 : Int32)), .val (.int (1 : Int32))] [] := by first | (simp [entryFrame, mkF, argsToLocals, Value.category]; done) | rfl
set_option maxRecDepth 65536 in
set_option maxHeartbeats 40000000 in
theorem rm2_1 (l : Launch) (Z : State) (a0 : Array Value) (hw : ∀ d ∈ tables_1, d.before a0 Z = true) (ws : List Jvm.Cond) {m_OA : Addr} {w_REJECTED : Addr} {w_EMPTY_ELEMENTDATA : Addr} {w_DEFAULTCAPACITY_EMPTY_ELEMENTDATA : Addr} {w_EMPTY_LIST : Addr} {w_EMPTY_LIST_elements : Addr} {w_EMPTY : Addr} {k_w_EMPTY_ELEMENTDATA : ClassId} {k_w_DEFAULTCAPACITY_EMPTY_ELEMENTDATA : ClassId} {k_w_EMPTY_LIST_elements : ClassId} (G : Glob Z m_OA w_REJECTED w_EMPTY_ELEMENTDATA w_DEFAULTCAPACITY_EMPTY_ELEMENTDATA w_EMPTY_LIST w_EMPTY_LIST_elements w_EMPTY k_w_EMPTY_ELEMENTDATA k_w_DEFAULTCAPACITY_EMPTY_ELEMENTDATA k_w_EMPTY_LIST_elements)  (h0 : Heap) (n0 : Nat) (O0 : Old Z n0 h0) :
    MetFree l (⟨"java/lang/Math", "max", "(II)I"⟩ : MethodName) (head1 (Jvm.Cond.code (⟨"java/lang/Math", "max", "(II)I"⟩ : MethodName) jdk_29_method_65_code 2 (some .int) :: ws) ({ frames := 0, cells := 0, slots := 0, locals := 0 } : Room)) (fun a U => a = #[(.int (10 : Int32)), (.int (1 : Int32))] ∧ Z.Warmed39 U.vm ∧ U.heap = h0) (fun _ _ _ _ _ => True) (fun _ U o U' => ∃ v L, o = .returned v ∧ Q2_1 Z m_OA w_REJECTED w_EMPTY_ELEMENTDATA w_DEFAULTCAPACITY_EMPTY_ELEMENTDATA w_EMPTY_LIST w_EMPTY_LIST_elements w_EMPTY k_w_EMPTY_ELEMENTDATA k_w_DEFAULTCAPACITY_EMPTY_ELEMENTDATA k_w_EMPTY_LIST_elements  h0 n0 v U'.heap L ∧ FrameEnd U o U' L ({ frames := 0, cells := 0, slots := 0, locals := 0 } : Room).cells ({ frames := 0, cells := 0, slots := 0, locals := 0 } : Room).slots) := by
  refine MetFree.of_bodySF (Jvm.Free.JP.mathPlain rfl (by decide +kernel)) hisR ?_
  intro p e s m args below meth c s₁ Bd hml0 hP hK
  obtain ⟨rfl, hZ, hh⟩ := hP
  have hx := Bd.exec
  have hby := Bd.bytes
  have hml : c.maxLocals = 2 := hml0
  have hown : s.vm.findClass "java/lang/Math" = some m.cls := findClass_of_methodNamed Bd.named
  have hnm := (name_of_methodNamed Bd.named Bd.method).1
  have X0 : Stand p l e ({ frames := 0, cells := 0, slots := 0, locals := 0 } : Room) s m #[(.int (10 : Int32)), (.int (1 : Int32))] below meth c s₁ [] 0 0 := Stand.of_body Bd
  have e0 : s₁.heap = h0 := by rw [← hh, Bd.state]; rfl
  have N0 := Fr.nil n0
  show OGot p.tables e below (s₁.setTop (entryFrame m #[(.int (10 : Int32)), (.int (1 : Int32))] 2)) _
  refine OGot.go (fun t k => castTop (ef2_1 m ) k) ?_
  show OGot p.tables e below (s₁.setTop (mkF m 0 #[.val (.int (10 : Int32)), .val (.int (1 : Int32))] [])) _
  refine OGot.go (fun t k => XS.iloadN X0.here hx rfl (hb hby d2_0) rfl k) ?_
  show OGot p.tables e below (s₁.setTop (mkF m 1 #[.val (.int (10 : Int32)), .val (.int (1 : Int32))] [(.int (10 : Int32))])) _
  refine OGot.go (fun t k => XS.iloadN X0.here hx rfl (hb hby d2_1) rfl k) ?_
  show OGot p.tables e below (s₁.setTop (mkF m 2 #[.val (.int (10 : Int32)), .val (.int (1 : Int32))] [(.int (1 : Int32)), (.int (10 : Int32))])) _
  refine OGot.go (fun t k => XS.icmpNo X0.here hx rfl (hb hby d2_2) rfl (by decide) k) ?_
  show OGot p.tables e below (s₁.setTop (mkF m 5 #[.val (.int (10 : Int32)), .val (.int (1 : Int32))] [])) _
  refine OGot.go (fun t k => XS.iloadN X0.here hx rfl (hb hby d2_5) rfl k) ?_
  show OGot p.tables e below (s₁.setTop (mkF m 6 #[.val (.int (10 : Int32)), .val (.int (1 : Int32))] [(.int (10 : Int32))])) _
  refine OGot.go (fun t k => XS.goto X0.here hx rfl (pc0 := 6) (pc' := 10) rfl (hb hby d2_6) (by decide) (by decide) k) ?_
  show OGot p.tables e below (s₁.setTop (mkF m 10 #[.val (.int (10 : Int32)), .val (.int (1 : Int32))] [(.int (10 : Int32))])) _
  obtain ⟨fs, hr, hrun, hended, hW, hsame⟩ := X0.leave (v := some (.int (10 : Int32))) (fun h => by rw [Bd.returns] at h; cases h)
  refine ⟨_, _, retI X0 hx Bd.returns (hb hby d2_10) hr, hrun, hended, _, _, rfl, ?_, ⟨_, rfl⟩, hW, hsame.mono (by decide) (by decide)⟩
  exact (⟨rfl, N0, e0⟩ : Q2_1 Z m_OA w_REJECTED w_EMPTY_ELEMENTDATA w_DEFAULTCAPACITY_EMPTY_ELEMENTDATA w_EMPTY_LIST w_EMPTY_LIST_elements w_EMPTY k_w_EMPTY_ELEMENTDATA k_w_DEFAULTCAPACITY_EMPTY_ELEMENTDATA k_w_EMPTY_LIST_elements  h0 n0 _ s₁.heap _)
theorem d20_52 : decode jdk_38_method_6_code 52 = .ok (.anewarray 7, 3) := by decide +kernel
theorem d20_55 : decode jdk_38_method_6_code 55 = .ok (.dup_x1, 1) := by decide +kernel
theorem d20_56 : decode jdk_38_method_6_code 56 = .ok (.putfield 9, 3) := by decide +kernel
theorem d20_59 : decode jdk_38_method_6_code 59 = .ok (.areturn, 1) := by decide +kernel
def Q20 (Z : State) (m_OA : Addr) (w_REJECTED : Addr) (w_EMPTY_ELEMENTDATA : Addr) (w_DEFAULTCAPACITY_EMPTY_ELEMENTDATA : Addr) (w_EMPTY_LIST : Addr) (w_EMPTY_LIST_elements : Addr) (w_EMPTY : Addr) (k_w_EMPTY_ELEMENTDATA : ClassId) (k_w_DEFAULTCAPACITY_EMPTY_ELEMENTDATA : ClassId) (k_w_EMPTY_LIST_elements : ClassId) (a1 : Addr) (a2 : Addr) (k4 : ClassId) (h0 : Heap) (n0 : Nat) (v : Option Value) (h : Heap) (L : List Loc) : Prop := Fr n0 L ∧ ∃ b9 : Addr, ∃ k9 : ClassId, v = some (.ref b9) ∧ h0.size ≤ b9 ∧ OKeep h0 h [(a1, Jvm.RoadKit.slotOf Z "java/util/ArrayList" "elementData" "[Ljava/lang/Object;")] ∧ Fld Z h a1 "java/util/ArrayList" "elementData" "[Ljava/lang/Object;" (.ref b9) ∧ Exa Z h b9 "[Ljava/lang/Object;" ∧ Arv Z h b9 k9 (.object "java/lang/Object") (10 : Int32) [.null, .null, .null, .null, .null, .null, .null, .null, .null, .null] .null ∧ Ovr Z k9 "java/lang/Object"
theorem ef20 (m : MethodId) (x0 : Addr) : entryFrame m #[(.ref x0), (.int (1 : Int32))] 4 = mkF m 0 #[.val (.ref x0), .val (.int (1 : Int32)), .unset, .unset] [] := by first | (simp [entryFrame, mkF, argsToLocals, Value.category]; done) | rfl
set_option maxRecDepth 65536 in
set_option maxHeartbeats 40000000 in
theorem rm20 (l : Launch) (Z : State) (a0 : Array Value) (hw : ∀ d ∈ tables_1, d.before a0 Z = true) (ws : List Jvm.Cond) {m_OA : Addr} {w_REJECTED : Addr} {w_EMPTY_ELEMENTDATA : Addr} {w_DEFAULTCAPACITY_EMPTY_ELEMENTDATA : Addr} {w_EMPTY_LIST : Addr} {w_EMPTY_LIST_elements : Addr} {w_EMPTY : Addr} {k_w_EMPTY_ELEMENTDATA : ClassId} {k_w_DEFAULTCAPACITY_EMPTY_ELEMENTDATA : ClassId} {k_w_EMPTY_LIST_elements : ClassId} (G : Glob Z m_OA w_REJECTED w_EMPTY_ELEMENTDATA w_DEFAULTCAPACITY_EMPTY_ELEMENTDATA w_EMPTY_LIST w_EMPTY_LIST_elements w_EMPTY k_w_EMPTY_ELEMENTDATA k_w_DEFAULTCAPACITY_EMPTY_ELEMENTDATA k_w_EMPTY_LIST_elements) (a1 : Addr) (a2 : Addr) (k4 : ClassId) (h0 : Heap) (n0 : Nat) (O0 : Old Z n0 h0) (F_elementData_a1 : Fld Z h0 a1 "java/util/ArrayList" "elementData" "[Ljava/lang/Object;" (.ref a2)) (V_a2 : Arv Z h0 a2 k4 (.object "java/lang/Object") (0 : Int32) [] .null) (E_a2 : Exa Z h0 a2 "[Ljava/lang/Object;") (hc_1 : a2 = w_DEFAULTCAPACITY_EMPTY_ELEMENTDATA) (E_a1 : Exa Z h0 a1 "java/util/ArrayList") (g_a1 : n0 ≤ a1) :
    MetFree l (⟨"java/util/ArrayList", "grow", "(I)[Ljava/lang/Object;"⟩ : MethodName) (head1 (Jvm.Cond.code (⟨"java/util/ArrayList", "grow", "(I)[Ljava/lang/Object;"⟩ : MethodName) jdk_38_method_6_code 4 (some (.array (.object "java/lang/Object"))) :: ws) ({ frames := 1, cells := 1, slots := 10, locals := 14 } : Room)) (fun a U => a = #[(.ref a1), (.int (1 : Int32))] ∧ Z.Warmed39 U.vm ∧ U.heap = h0) (fun _ _ _ _ _ => True) (fun _ U o U' => ∃ v L, o = .returned v ∧ Q20 Z m_OA w_REJECTED w_EMPTY_ELEMENTDATA w_DEFAULTCAPACITY_EMPTY_ELEMENTDATA w_EMPTY_LIST w_EMPTY_LIST_elements w_EMPTY k_w_EMPTY_ELEMENTDATA k_w_DEFAULTCAPACITY_EMPTY_ELEMENTDATA k_w_EMPTY_LIST_elements a1 a2 k4 h0 n0 v U'.heap L ∧ FrameEnd U o U' L ({ frames := 1, cells := 1, slots := 10, locals := 14 } : Room).cells ({ frames := 1, cells := 1, slots := 10, locals := 14 } : Room).slots) := by
  refine MetFree.of_bodySF (plainFor_of_name pn_java_util_ArrayList) hisR ?_
  intro p e s m args below meth c s₁ Bd hml0 hP hK
  obtain ⟨rfl, hZ, hh⟩ := hP
  have hx := Bd.exec
  have hby := Bd.bytes
  have hml : c.maxLocals = 4 := hml0
  have hown : s.vm.findClass "java/util/ArrayList" = some m.cls := findClass_of_methodNamed Bd.named
  have hnm := (name_of_methodNamed Bd.named Bd.method).1
  have X0 : Stand p l e ({ frames := 1, cells := 1, slots := 10, locals := 14 } : Room) s m #[(.ref a1), (.int (1 : Int32))] below meth c s₁ [] 0 0 := Stand.of_body Bd
  have e0 : s₁.heap = h0 := by rw [← hh, Bd.state]; rfl
  have N0 := Fr.nil n0
  show OGot p.tables e below (s₁.setTop (entryFrame m #[(.ref a1), (.int (1 : Int32))] 4)) _
  refine OGot.go (fun t k => castTop (ef20 m a1) k) ?_
  show OGot p.tables e below (s₁.setTop (mkF m 0 #[.val (.ref a1), .val (.int (1 : Int32)), .unset, .unset] [])) _
  refine OGot.go (fun t k => XS.aloadN X0.here hx rfl (hb hby d20_0) rfl rfl k) ?_
  show OGot p.tables e below (s₁.setTop (mkF m 1 #[.val (.ref a1), .val (.int (1 : Int32)), .unset, .unset] [(.ref a1)])) _
  obtain ⟨T3, X3, e3, st3⟩ := getF X0 hx hZ hown (host := "") (Or.inl (ow hw 32 rfl)) Via.refl e0 F_elementData_a1 (g := (mkF m 1 #[.val (.ref a1), .val (.int (1 : Int32)), .unset, .unset] [(.ref a1)])) rfl rfl (hb hby d20_1)
  refine OGot.go st3 ?_
  show OGot p.tables e below (T3.setTop (mkF m 4 #[.val (.ref a1), .val (.int (1 : Int32)), .unset, .unset] [(.ref a2)])) _
  obtain ⟨cl5, Ar5, -, Sz5, Ng5, -, -⟩ := id (V_a2)
  refine OGot.go (fun t k => X3.arraylength hx (by rw [e3]; exact Ar5.1) (State.isArrayOf_alike hZ.alike Ar5.2.1) (g := (mkF m 4 #[.val (.ref a1), .val (.int (1 : Int32)), .unset, .unset] [(.ref a2)])) rfl rfl (hb hby d20_4) _ k) ?_
  rw [len_of Sz5 Ng5]
  show OGot p.tables e below (T3.setTop (mkF m 5 #[.val (.ref a1), .val (.int (1 : Int32)), .unset, .unset] [(.int (0 : Int32))])) _
  refine OGot.go (fun t k => XS.istoreN X3.here hx rfl (hb hby d20_5) rfl (l' := #[.val (.ref a1), .val (.int (1 : Int32)), .val (.int (0 : Int32)), .unset]) rfl k) ?_
  show OGot p.tables e below (T3.setTop (mkF m 6 #[.val (.ref a1), .val (.int (1 : Int32)), .val (.int (0 : Int32)), .unset] [])) _
  refine OGot.go (fun t k => XS.iloadN X3.here hx rfl (hb hby d20_6) rfl k) ?_
  show OGot p.tables e below (T3.setTop (mkF m 7 #[.val (.ref a1), .val (.int (1 : Int32)), .val (.int (0 : Int32)), .unset] [(.int (0 : Int32))])) _
  refine OGot.go (fun t k => XS.ifNo X3.here hx rfl (hb hby d20_7) rfl (by decide) k) ?_
  show OGot p.tables e below (T3.setTop (mkF m 10 #[.val (.ref a1), .val (.int (1 : Int32)), .val (.int (0 : Int32)), .unset] [])) _
  refine OGot.go (fun t k => XS.aloadN X3.here hx rfl (hb hby d20_10) rfl rfl k) ?_
  show OGot p.tables e below (T3.setTop (mkF m 11 #[.val (.ref a1), .val (.int (1 : Int32)), .val (.int (0 : Int32)), .unset] [(.ref a1)])) _
  obtain ⟨T6, X6, e6, st6⟩ := getF X3 hx hZ hown (host := "") (Or.inl (ow hw 32 rfl)) Via.refl e3 F_elementData_a1 (g := (mkF m 11 #[.val (.ref a1), .val (.int (1 : Int32)), .val (.int (0 : Int32)), .unset] [(.ref a1)])) rfl rfl (hb hby d20_11)
  refine OGot.go st6 ?_
  show OGot p.tables e below (T6.setTop (mkF m 14 #[.val (.ref a1), .val (.int (1 : Int32)), .val (.int (0 : Int32)), .unset] [(.ref a2)])) _
  obtain ⟨T7, X7, e7, st7⟩ := getS2 X6 hx hZ hown (host := "") (Or.inl (ow hw 31 rfl)) Via.refl e6 (G.2.2.2.2.2.1.ext O0.2) (g := (mkF m 14 #[.val (.ref a1), .val (.int (1 : Int32)), .val (.int (0 : Int32)), .unset] [(.ref a2)])) rfl (hb hby d20_14)
  refine OGot.go st7 ?_
  show OGot p.tables e below (T7.setTop (mkF m 17 #[.val (.ref a1), .val (.int (1 : Int32)), .val (.int (0 : Int32)), .unset] [(.ref w_DEFAULTCAPACITY_EMPTY_ELEMENTDATA), (.ref a2)])) _
  refine OGot.go (fun t k => Jvm.RoadKit.acmp (g := (mkF m 17 #[.val (.ref a1), .val (.int (1 : Int32)), .val (.int (0 : Int32)), .unset] [(.ref w_DEFAULTCAPACITY_EMPTY_ELEMENTDATA), (.ref a2)])) X7 hx rfl rfl rfl (pc0 := 17) (pc' := 45) (same := true) rfl (hb hby d20_17) rfl (decide_eq_true (congrArg Value.ref hc_1)) (by decide) (by decide) k) ?_
  show OGot p.tables e below (T7.setTop (mkF m 45 #[.val (.ref a1), .val (.int (1 : Int32)), .val (.int (0 : Int32)), .unset] [])) _
  refine OGot.go (fun t k => XS.aloadN X7.here hx rfl (hb hby d20_45) rfl rfl k) ?_
  show OGot p.tables e below (T7.setTop (mkF m 46 #[.val (.ref a1), .val (.int (1 : Int32)), .val (.int (0 : Int32)), .unset] [(.ref a1)])) _
  refine OGot.go (fun t k => XS.bipush X7.here hx rfl (hb hby d20_46) k) ?_
  show OGot p.tables e below (T7.setTop (mkF m 48 #[.val (.ref a1), .val (.int (1 : Int32)), .val (.int (0 : Int32)), .unset] [(.int (10 : Int32)), (.ref a1)])) _
  refine OGot.go (fun t k => XS.iloadN X7.here hx rfl (hb hby d20_48) rfl k) ?_
  show OGot p.tables e below (T7.setTop (mkF m 49 #[.val (.ref a1), .val (.int (1 : Int32)), .val (.int (0 : Int32)), .unset] [(.int (1 : Int32)), (.int (10 : Int32)), (.ref a1)])) _
  obtain ⟨_, _, ⟨T8, L8, k8, n8⟩, -, X8, ⟨Lc8, hQ8, l8, y8, z8⟩, st8⟩ := Jvm.LawKit.callS X7 hx (y := (⟨"java/lang/Math", "max", "(II)I"⟩ : MethodName)) hown (mvT hZ (ow hw 137 rfl)) (mvT hZ (ow hw 6 rfl)) (mvT hZ (ow hw 3 rfl)) (mvT hZ (ow hw 7 rfl)) (by decide) (backOf (W := 1) (rm2_1 l Z a0 hw [] G  h0 n0 O0 ) hZ (ow hw 7 rfl) (ow hw 3 rfl) (by decide) (by decide)) (g := (mkF m 49 #[.val (.ref a1), .val (.int (1 : Int32)), .val (.int (0 : Int32)), .unset] [(.int (1 : Int32)), (.int (10 : Int32)), (.ref a1)])) rfl (by rw [hml]; rfl) (argsL := [(.int (10 : Int32)), (.int (1 : Int32))]) (rest := [(.ref a1)]) (lenOf pd_0 rfl) rfl (by show 2 * 0 + _ ≤ _; exact Nat.le_of_eq rfl) (hb hby d20_49) (fun _ _ => ⟨rfl, e7, (by decide : 0 + 0 ≤ _), (by decide : 0 + 0 ≤ _)⟩)
  dsimp only [Pt.U, Pt.locs, Pt.cells, Pt.slots] at X8 l8 y8 z8 st8 hQ8
  subst l8 y8 z8
  obtain ⟨rfl, N8q, e8⟩ := hQ8
  have N8 := Fr.app N0 N8q
  refine OGot.go st8 ?_
  show OGot p.tables e below (T8.setTop (mkF m 52 #[.val (.ref a1), .val (.int (1 : Int32)), .val (.int (0 : Int32)), .unset] [(.int (10 : Int32)), (.ref a1)])) _
  obtain ⟨T9, h9, k9, X9, e9, E9, A9, Ea9, V9, st9⟩ := newRE X8 hx hZ hown (ow hw 138 rfl) (ow hw 139 rfl) e8 (g := (mkF m 52 #[.val (.ref a1), .val (.int (1 : Int32)), .val (.int (0 : Int32)), .unset] [(.int (10 : Int32)), (.ref a1)])) rfl (hb hby d20_52) rfl (by decide) (cap := 10) (by decide) (by decide) (by decide) (by decide) (ad := "[Ljava/lang/Object;") (by decide)
  obtain ⟨b9, g9⟩ : ∃ z, z = h0.size := ⟨_, rfl⟩
  rw [← g9] at A9 Ea9 st9
  refine OGot.go st9 ?_
  have g_b9 : n0 ≤ b9 := Nat.le_trans (osz O0) (Nat.le_of_eq g9.symm)
  have sy_b9 : h0.size ≤ b9 := Nat.le_of_eq g9.symm
  have sz_b9 : h0.size ≤ b9 := Nat.le_trans (OKeep.refl h0 [(a1, Jvm.RoadKit.slotOf Z "java/util/ArrayList" "elementData" "[Ljava/lang/Object;")]).1 sy_b9
  have K9 := (OKeep.refl h0 [(a1, Jvm.RoadKit.slotOf Z "java/util/ArrayList" "elementData" "[Ljava/lang/Object;")]).ext E9
  have O9 := O0.ext E9
  have Va9 : Arv Z h9 b9 k9 (.object "java/lang/Object") (10 : Int32) [.null, .null, .null, .null, .null, .null, .null, .null, .null, .null] .null := (Arv.new A9 (by decide)).pad (pad_rep [] .null 10)
  show OGot p.tables e below (T9.setTop (mkF m 55 #[.val (.ref a1), .val (.int (1 : Int32)), .val (.int (0 : Int32)), .unset] [(.ref b9), (.ref a1)])) _
  refine OGot.go (fun t k => XS.dupX1 X9.here hx rfl (hb hby d20_55) rfl rfl rfl k) ?_
  show OGot p.tables e below (T9.setTop (mkF m 56 #[.val (.ref a1), .val (.int (1 : Int32)), .val (.int (0 : Int32)), .unset] [(.ref b9), (.ref a1), (.ref b9)])) _
  have F10 : Fld Z h9 a1 "java/util/ArrayList" "elementData" "[Ljava/lang/Object;" (.ref a2) := (F_elementData_a1.ext E9)
  obtain ⟨T11, h11, X11, e11, W11, st11⟩ := putF X9 hx hZ hown (host := "") (Or.inl (ow hw 32 rfl)) Via.refl e9 F10 (E_a1.ext E9) (Or.inl (ow hw 33 rfl)) (ow hw 9 rfl) (ty := (.array (.object "java/lang/Object"))) (by decide) rfl rfl (g := (mkF m 56 #[.val (.ref a1), .val (.int (1 : Int32)), .val (.int (0 : Int32)), .unset] [(.ref b9), (.ref a1), (.ref b9)])) rfl rfl (hb hby d20_56)
  refine OGot.go st11 ?_
  have N11 := Fr.snoc X11 N8 g_a1
  have O11 := O9.wr W11 g_a1
  have K11 := K9.wr W11 (Or.inl (List.mem_of_getElem? (i := 0) rfl))
  have Fw11 : Fld Z h11 a1 "java/util/ArrayList" "elementData" "[Ljava/lang/Object;" (.ref b9) := F10.same W11
  show OGot p.tables e below (T11.setTop (mkF m 59 #[.val (.ref a1), .val (.int (1 : Int32)), .val (.int (0 : Int32)), .unset] [(.ref b9)])) _
  obtain ⟨fs, hr, hrun, hended, hW, hsame⟩ := X11.leave (v := some (.ref b9)) (fun h => by rw [Bd.returns] at h; cases h)
  refine ⟨_, _, oretA X11 hx Bd.returns rfl rfl (hb hby d20_59) hr, hrun, hended, _, _, rfl, ?_, ⟨_, rfl⟩, hW, hsame.mono (by decide) (by decide)⟩
  have ne12 : a1 ≠ b9 := (Nat.ne_of_lt (Nat.lt_of_lt_of_le E_a1.lt sy_b9))
  have F13 : Arv Z h11 b9 k9 (.object "java/lang/Object") (10 : Int32) [.null, .null, .null, .null, .null, .null, .null, .null, .null, .null] .null := (Va9.other W11 (Ne.symm ne12))
  show Q20 Z m_OA w_REJECTED w_EMPTY_ELEMENTDATA w_DEFAULTCAPACITY_EMPTY_ELEMENTDATA w_EMPTY_LIST w_EMPTY_LIST_elements w_EMPTY k_w_EMPTY_ELEMENTDATA k_w_DEFAULTCAPACITY_EMPTY_ELEMENTDATA k_w_EMPTY_LIST_elements a1 a2 k4 h0 n0 _ T11.heap _
  rw [e11]
  exact ⟨N11, b9, k9, rfl, sz_b9, K11, Fw11, (Ea9.wr W11), F13, V9⟩
theorem pd_8 : parseMethodDescriptor "(I)[Ljava/lang/Object;" = some ⟨[.int], some (.array (.object "java/lang/Object"))⟩ := by decide +kernel
theorem d19_10 : decode jdk_38_method_7_code 10 = .ok (.areturn, 1) := by decide +kernel
def Q19 (Z : State) (m_OA : Addr) (w_REJECTED : Addr) (w_EMPTY_ELEMENTDATA : Addr) (w_DEFAULTCAPACITY_EMPTY_ELEMENTDATA : Addr) (w_EMPTY_LIST : Addr) (w_EMPTY_LIST_elements : Addr) (w_EMPTY : Addr) (k_w_EMPTY_ELEMENTDATA : ClassId) (k_w_DEFAULTCAPACITY_EMPTY_ELEMENTDATA : ClassId) (k_w_EMPTY_LIST_elements : ClassId) (a1 : Addr) (a3 : Addr) (k4 : ClassId) (h0 : Heap) (n0 : Nat) (v : Option Value) (h : Heap) (L : List Loc) : Prop := Fr n0 L ∧ ∃ b9_5 : Addr, ∃ k9_5 : ClassId, v = some (.ref b9_5) ∧ h0.size ≤ b9_5 ∧ OKeep h0 h [(a1, Jvm.RoadKit.slotOf Z "java/util/ArrayList" "elementData" "[Ljava/lang/Object;")] ∧ Fld Z h a1 "java/util/ArrayList" "elementData" "[Ljava/lang/Object;" (.ref b9_5) ∧ Exa Z h b9_5 "[Ljava/lang/Object;" ∧ Arv Z h b9_5 k9_5 (.object "java/lang/Object") (10 : Int32) [.null, .null, .null, .null, .null, .null, .null, .null, .null, .null] .null ∧ Ovr Z k9_5 "java/lang/Object"
theorem ef19 (m : MethodId) (x0 : Addr) : entryFrame m #[(.ref x0)] 1 = mkF m 0 #[.val (.ref x0)] [] := by first | (simp [entryFrame, mkF, argsToLocals, Value.category]; done) | rfl
set_option maxRecDepth 65536 in
set_option maxHeartbeats 40000000 in
theorem rm19 (l : Launch) (Z : State) (a0 : Array Value) (hw : ∀ d ∈ tables_1, d.before a0 Z = true) (ws : List Jvm.Cond) {m_OA : Addr} {w_REJECTED : Addr} {w_EMPTY_ELEMENTDATA : Addr} {w_DEFAULTCAPACITY_EMPTY_ELEMENTDATA : Addr} {w_EMPTY_LIST : Addr} {w_EMPTY_LIST_elements : Addr} {w_EMPTY : Addr} {k_w_EMPTY_ELEMENTDATA : ClassId} {k_w_DEFAULTCAPACITY_EMPTY_ELEMENTDATA : ClassId} {k_w_EMPTY_LIST_elements : ClassId} (G : Glob Z m_OA w_REJECTED w_EMPTY_ELEMENTDATA w_DEFAULTCAPACITY_EMPTY_ELEMENTDATA w_EMPTY_LIST w_EMPTY_LIST_elements w_EMPTY k_w_EMPTY_ELEMENTDATA k_w_DEFAULTCAPACITY_EMPTY_ELEMENTDATA k_w_EMPTY_LIST_elements) (a1 : Addr) (a3 : Addr) (k4 : ClassId) (h0 : Heap) (n0 : Nat) (O0 : Old Z n0 h0) (F_size_a1 : Fld Z h0 a1 "java/util/ArrayList" "size" "I" (.int (0 : Int32))) (E_a1 : Exa Z h0 a1 "java/util/ArrayList") (F_elementData_a1 : Fld Z h0 a1 "java/util/ArrayList" "elementData" "[Ljava/lang/Object;" (.ref a3)) (V_a3 : Arv Z h0 a3 k4 (.object "java/lang/Object") (0 : Int32) [] .null) (E_a3 : Exa Z h0 a3 "[Ljava/lang/Object;") (hc_1 : a3 = w_DEFAULTCAPACITY_EMPTY_ELEMENTDATA) (g_a1 : n0 ≤ a1) :
    MetFree l (⟨"java/util/ArrayList", "grow", "()[Ljava/lang/Object;"⟩ : MethodName) (head1 (Jvm.Cond.code (⟨"java/util/ArrayList", "grow", "()[Ljava/lang/Object;"⟩ : MethodName) jdk_38_method_7_code 1 (some (.array (.object "java/lang/Object"))) :: ws) ({ frames := 2, cells := 1, slots := 10, locals := 29 } : Room)) (fun a U => a = #[(.ref a1)] ∧ Z.Warmed39 U.vm ∧ U.heap = h0) (fun _ _ _ _ _ => True) (fun _ U o U' => ∃ v L, o = .returned v ∧ Q19 Z m_OA w_REJECTED w_EMPTY_ELEMENTDATA w_DEFAULTCAPACITY_EMPTY_ELEMENTDATA w_EMPTY_LIST w_EMPTY_LIST_elements w_EMPTY k_w_EMPTY_ELEMENTDATA k_w_DEFAULTCAPACITY_EMPTY_ELEMENTDATA k_w_EMPTY_LIST_elements a1 a3 k4 h0 n0 v U'.heap L ∧ FrameEnd U o U' L ({ frames := 2, cells := 1, slots := 10, locals := 29 } : Room).cells ({ frames := 2, cells := 1, slots := 10, locals := 29 } : Room).slots) := by
  refine MetFree.of_bodySF (plainFor_of_name pn_java_util_ArrayList) hisR ?_
  intro p e s m args below meth c s₁ Bd hml0 hP hK
  obtain ⟨rfl, hZ, hh⟩ := hP
  have hx := Bd.exec
  have hby := Bd.bytes
  have hml : c.maxLocals = 1 := hml0
  have hown : s.vm.findClass "java/util/ArrayList" = some m.cls := findClass_of_methodNamed Bd.named
  have hnm := (name_of_methodNamed Bd.named Bd.method).1
  have X0 : Stand p l e ({ frames := 2, cells := 1, slots := 10, locals := 29 } : Room) s m #[(.ref a1)] below meth c s₁ [] 0 0 := Stand.of_body Bd
  have e0 : s₁.heap = h0 := by rw [← hh, Bd.state]; rfl
  have N0 := Fr.nil n0
  show OGot p.tables e below (s₁.setTop (entryFrame m #[(.ref a1)] 1)) _
  refine OGot.go (fun t k => castTop (ef19 m a1) k) ?_
  show OGot p.tables e below (s₁.setTop (mkF m 0 #[.val (.ref a1)] [])) _
  refine OGot.go (fun t k => XS.aloadN X0.here hx rfl (hb hby d19_0) rfl rfl k) ?_
  show OGot p.tables e below (s₁.setTop (mkF m 1 #[.val (.ref a1)] [(.ref a1)])) _
  refine OGot.go (fun t k => XS.aloadN X0.here hx rfl (hb hby d19_1) rfl rfl k) ?_
  show OGot p.tables e below (s₁.setTop (mkF m 2 #[.val (.ref a1)] [(.ref a1), (.ref a1)])) _
  obtain ⟨T2, X2, e2, st2⟩ := getF X0 hx hZ hown (host := "") (Or.inl (ow hw 69 rfl)) Via.refl e0 F_size_a1 (g := (mkF m 2 #[.val (.ref a1)] [(.ref a1), (.ref a1)])) rfl rfl (hb hby d19_2)
  refine OGot.go st2 ?_
  show OGot p.tables e below (T2.setTop (mkF m 5 #[.val (.ref a1)] [(.int (0 : Int32)), (.ref a1)])) _
  refine OGot.go (fun t k => XS.iconst X2.here hx rfl (hb hby d19_5) k) ?_
  show OGot p.tables e below (T2.setTop (mkF m 6 #[.val (.ref a1)] [(.int (1 : Int32)), (.int (0 : Int32)), (.ref a1)])) _
  refine OGot.go (fun t k => XS.iadd X2.here hx rfl (hb hby d19_6) rfl k) ?_
  show OGot p.tables e below (T2.setTop (mkF m 7 #[.val (.ref a1)] [(.int ((0 : Int32) + (1 : Int32))), (.ref a1)])) _
  rw [show ((0 : Int32) + (1 : Int32)) = (1 : Int32) from by decide]
  show OGot p.tables e below (T2.setTop (mkF m 7 #[.val (.ref a1)] [(.int (1 : Int32)), (.ref a1)])) _
  obtain ⟨cq5, q5, q5'⟩ := E_a1.cell
  obtain ⟨_, _, ⟨T5, L5, k5, n5⟩, -, X5, ⟨Lc5, hQ5, l5, y5, z5⟩, st5⟩ := X2.privateBack hx (y := (⟨"java/util/ArrayList", "grow", "(I)[Ljava/lang/Object;"⟩ : MethodName)) hown (mvT hZ (ow hw 132 rfl)) (mvT hZ (ow hw 133 rfl)) (mvT hZ (ow hw 135 rfl)) (Cond.privateMethod_at (mvP hZ (ow hw 134 rfl) (args := #[]))) (mvT hZ (ow hw 136 rfl)) (by decide) (backOf (W := 0) (rm20 l Z a0 hw [] G a1 a3 k4 h0 n0 O0 F_elementData_a1 V_a3 E_a3 hc_1 E_a1 g_a1) hZ (ow hw 136 rfl) (ow hw 10 rfl) (by decide) (by decide)) (g := (mkF m 7 #[.val (.ref a1)] [(.int (1 : Int32)), (.ref a1)])) rfl (by rw [hml]; rfl) (Steps.refl _) (a := a1) (by rw [e2]; exact q5) q5' (argsL := [(.int (1 : Int32))]) (rest := []) (lenOf pd_8 rfl) rfl (by show 2 * 0 + _ ≤ _; exact Nat.le_of_eq rfl) (hb hby d19_7) (fun _ _ => ⟨rfl, e2, (by decide : 0 + 1 ≤ _), (by decide : 0 + 10 ≤ _)⟩)
  dsimp only [Pt.U, Pt.locs, Pt.cells, Pt.slots] at X5 l5 y5 z5 st5 hQ5
  subst l5 y5 z5
  obtain ⟨N5q, b9_5, k9_5, rfl, szb9_5_5, K5, Fo5_0, Fo5_1, Fo5_2, Fo5_3⟩ := hQ5
  have g_b9_5 : n0 ≤ b9_5 := Nat.le_trans (osz O0) szb9_5_5
  have sz_b9_5 : h0.size ≤ b9_5 := Nat.le_trans (OKeep.refl h0 [(a1, Jvm.RoadKit.slotOf Z "java/util/ArrayList" "elementData" "[Ljava/lang/Object;")]).1 szb9_5_5
  have Kc5 := (OKeep.refl h0 [(a1, Jvm.RoadKit.slotOf Z "java/util/ArrayList" "elementData" "[Ljava/lang/Object;")]).trans K5 (oinS (Or.inl (List.mem_of_getElem? (i := 0) rfl)) oin0)
  have O5 := OKeep.old O0 K5 (ogeS g_a1 oge0)
  have N5 := Fr.app N0 N5q
  refine OGot.on st5 ?_
  show OGot p.tables e below (T5.setTop (mkF m 10 #[.val (.ref a1)] [(.ref b9_5)])) _
  obtain ⟨fs, hr, hrun, hended, hW, hsame⟩ := X5.leave (v := some (.ref b9_5)) (fun h => by rw [Bd.returns] at h; cases h)
  refine ⟨_, _, oretA X5 hx Bd.returns rfl rfl (hb hby d19_10) hr, hrun, hended, _, _, rfl, ?_, ⟨_, rfl⟩, hW, hsame.mono (by decide) (by decide)⟩
  show Q19 Z m_OA w_REJECTED w_EMPTY_ELEMENTDATA w_DEFAULTCAPACITY_EMPTY_ELEMENTDATA w_EMPTY_LIST w_EMPTY_LIST_elements w_EMPTY k_w_EMPTY_ELEMENTDATA k_w_DEFAULTCAPACITY_EMPTY_ELEMENTDATA k_w_EMPTY_LIST_elements a1 a3 k4 h0 n0 _ T5.heap _
  exact ⟨N5, b9_5, k9_5, rfl, sz_b9_5, Kc5, Fo5_0, Fo5_1, Fo5_2, Fo5_3⟩
theorem pd_9 : parseMethodDescriptor "()[Ljava/lang/Object;" = some ⟨[], some (.array (.object "java/lang/Object"))⟩ := by decide +kernel
theorem d18_10 : decode jdk_38_method_24_code 10 = .ok (.astore_n 2, 1) := by decide +kernel
theorem d18_11 : decode jdk_38_method_24_code 11 = .ok (.aload_n 2, 1) := by decide +kernel
theorem d18_12 : decode jdk_38_method_24_code 12 = .ok (.iload_n 3, 1) := by decide +kernel
theorem d18_13 : decode jdk_38_method_24_code 13 = .ok (.aload_n 1, 1) := by decide +kernel
theorem d18_14 : decode jdk_38_method_24_code 14 = .ok (.aastore, 1) := by decide +kernel
theorem d18_15 : decode jdk_38_method_24_code 15 = .ok (.aload_n 0, 1) := by decide +kernel
theorem d18_16 : decode jdk_38_method_24_code 16 = .ok (.iload_n 3, 1) := by decide +kernel
theorem d18_17 : decode jdk_38_method_24_code 17 = .ok (.iconst 1, 1) := by decide +kernel
theorem d18_18 : decode jdk_38_method_24_code 18 = .ok (.iadd, 1) := by decide +kernel
theorem d18_19 : decode jdk_38_method_24_code 19 = .ok (.putfield 48, 3) := by decide +kernel
theorem d18_22 : decode jdk_38_method_24_code 22 = .ok (.return_, 1) := by decide +kernel
def Q18 (Z : State) (m_OA : Addr) (w_REJECTED : Addr) (w_EMPTY_ELEMENTDATA : Addr) (w_DEFAULTCAPACITY_EMPTY_ELEMENTDATA : Addr) (w_EMPTY_LIST : Addr) (w_EMPTY_LIST_elements : Addr) (w_EMPTY : Addr) (k_w_EMPTY_ELEMENTDATA : ClassId) (k_w_DEFAULTCAPACITY_EMPTY_ELEMENTDATA : ClassId) (k_w_EMPTY_LIST_elements : ClassId) (a1 : Addr) (a2 : Addr) (a3 : Addr) (k4 : ClassId) (h0 : Heap) (n0 : Nat) (v : Option Value) (h : Heap) (L : List Loc) : Prop := Fr n0 L ∧ ∃ b9_5_6 : Addr, ∃ k9_5_6 : ClassId, v = none ∧ h0.size ≤ b9_5_6 ∧ OKeep h0 h [(a1, Jvm.RoadKit.slotOf Z "java/util/ArrayList" "elementData" "[Ljava/lang/Object;"), (a1, Jvm.RoadKit.slotOf Z "java/util/ArrayList" "size" "I")] ∧ Fld Z h a1 "java/util/ArrayList" "elementData" "[Ljava/lang/Object;" (.ref b9_5_6) ∧ Fld Z h a1 "java/util/ArrayList" "size" "I" (.int (1 : Int32)) ∧ Exa Z h b9_5_6 "[Ljava/lang/Object;" ∧ Arv Z h b9_5_6 k9_5_6 (.object "java/lang/Object") (10 : Int32) [(.ref a2), .null, .null, .null, .null, .null, .null, .null, .null, .null] .null ∧ Ovr Z k9_5_6 "java/lang/Object"
theorem ef18 (m : MethodId) (x0 : Addr) (x1 : Addr) (x2 : Addr) : entryFrame m #[(.ref x0), (.ref x1), (.ref x2), (.int (0 : Int32))] 4 = mkF m 0 #[.val (.ref x0), .val (.ref x1), .val (.ref x2), .val (.int (0 : Int32))] [] := by first | (simp [entryFrame, mkF, argsToLocals, Value.category]; done) | rfl
set_option maxRecDepth 65536 in
set_option maxHeartbeats 40000000 in
theorem rm18 (l : Launch) (Z : State) (a0 : Array Value) (hw : ∀ d ∈ tables_1, d.before a0 Z = true) (ws : List Jvm.Cond) {m_OA : Addr} {w_REJECTED : Addr} {w_EMPTY_ELEMENTDATA : Addr} {w_DEFAULTCAPACITY_EMPTY_ELEMENTDATA : Addr} {w_EMPTY_LIST : Addr} {w_EMPTY_LIST_elements : Addr} {w_EMPTY : Addr} {k_w_EMPTY_ELEMENTDATA : ClassId} {k_w_DEFAULTCAPACITY_EMPTY_ELEMENTDATA : ClassId} {k_w_EMPTY_LIST_elements : ClassId} (G : Glob Z m_OA w_REJECTED w_EMPTY_ELEMENTDATA w_DEFAULTCAPACITY_EMPTY_ELEMENTDATA w_EMPTY_LIST w_EMPTY_LIST_elements w_EMPTY k_w_EMPTY_ELEMENTDATA k_w_DEFAULTCAPACITY_EMPTY_ELEMENTDATA k_w_EMPTY_LIST_elements) (a1 : Addr) (a2 : Addr) (a3 : Addr) (k4 : ClassId) (h0 : Heap) (n0 : Nat) (O0 : Old Z n0 h0) (V_a3 : Arv Z h0 a3 k4 (.object "java/lang/Object") (0 : Int32) [] .null) (E_a1 : Exa Z h0 a1 "java/util/ArrayList") (F_size_a1 : Fld Z h0 a1 "java/util/ArrayList" "size" "I" (.int (0 : Int32))) (F_elementData_a1 : Fld Z h0 a1 "java/util/ArrayList" "elementData" "[Ljava/lang/Object;" (.ref a3)) (E_a3 : Exa Z h0 a3 "[Ljava/lang/Object;") (hc_1 : a3 = w_DEFAULTCAPACITY_EMPTY_ELEMENTDATA) (g_a1 : n0 ≤ a1) (E_a2 : Exa Z h0 a2 "com/example/curtail/curtail/Placement$Cell") :
    MetFree l (⟨"java/util/ArrayList", "add", "(Ljava/lang/Object;[Ljava/lang/Object;I)V"⟩ : MethodName) (head1 (Jvm.Cond.code (⟨"java/util/ArrayList", "add", "(Ljava/lang/Object;[Ljava/lang/Object;I)V"⟩ : MethodName) jdk_38_method_24_code 4 none :: ws) ({ frames := 3, cells := 1, slots := 10, locals := 41 } : Room)) (fun a U => a = #[(.ref a1), (.ref a2), (.ref a3), (.int (0 : Int32))] ∧ Z.Warmed39 U.vm ∧ U.heap = h0) (fun _ _ _ _ _ => True) (fun _ U o U' => ∃ v L, o = .returned v ∧ Q18 Z m_OA w_REJECTED w_EMPTY_ELEMENTDATA w_DEFAULTCAPACITY_EMPTY_ELEMENTDATA w_EMPTY_LIST w_EMPTY_LIST_elements w_EMPTY k_w_EMPTY_ELEMENTDATA k_w_DEFAULTCAPACITY_EMPTY_ELEMENTDATA k_w_EMPTY_LIST_elements a1 a2 a3 k4 h0 n0 v U'.heap L ∧ FrameEnd U o U' L ({ frames := 3, cells := 1, slots := 10, locals := 41 } : Room).cells ({ frames := 3, cells := 1, slots := 10, locals := 41 } : Room).slots) := by
  refine MetFree.of_bodySF (plainFor_of_name pn_java_util_ArrayList) hisR ?_
  intro p e s m args below meth c s₁ Bd hml0 hP hK
  obtain ⟨rfl, hZ, hh⟩ := hP
  have hx := Bd.exec
  have hby := Bd.bytes
  have hml : c.maxLocals = 4 := hml0
  have hown : s.vm.findClass "java/util/ArrayList" = some m.cls := findClass_of_methodNamed Bd.named
  have hnm := (name_of_methodNamed Bd.named Bd.method).1
  have X0 : Stand p l e ({ frames := 3, cells := 1, slots := 10, locals := 41 } : Room) s m #[(.ref a1), (.ref a2), (.ref a3), (.int (0 : Int32))] below meth c s₁ [] 0 0 := Stand.of_body Bd
  have e0 : s₁.heap = h0 := by rw [← hh, Bd.state]; rfl
  have N0 := Fr.nil n0
  show OGot p.tables e below (s₁.setTop (entryFrame m #[(.ref a1), (.ref a2), (.ref a3), (.int (0 : Int32))] 4)) _
  refine OGot.go (fun t k => castTop (ef18 m a1 a2 a3) k) ?_
  show OGot p.tables e below (s₁.setTop (mkF m 0 #[.val (.ref a1), .val (.ref a2), .val (.ref a3), .val (.int (0 : Int32))] [])) _
  refine OGot.go (fun t k => XS.iloadN X0.here hx rfl (hb hby d18_0) rfl k) ?_
  show OGot p.tables e below (s₁.setTop (mkF m 1 #[.val (.ref a1), .val (.ref a2), .val (.ref a3), .val (.int (0 : Int32))] [(.int (0 : Int32))])) _
  refine OGot.go (fun t k => XS.aloadN X0.here hx rfl (hb hby d18_1) rfl rfl k) ?_
  show OGot p.tables e below (s₁.setTop (mkF m 2 #[.val (.ref a1), .val (.ref a2), .val (.ref a3), .val (.int (0 : Int32))] [(.ref a3), (.int (0 : Int32))])) _
  obtain ⟨cl5, Ar5, -, Sz5, Ng5, -, -⟩ := id (V_a3)
  refine OGot.go (fun t k => X0.arraylength hx (by rw [e0]; exact Ar5.1) (State.isArrayOf_alike hZ.alike Ar5.2.1) (g := (mkF m 2 #[.val (.ref a1), .val (.ref a2), .val (.ref a3), .val (.int (0 : Int32))] [(.ref a3), (.int (0 : Int32))])) rfl rfl (hb hby d18_2) _ k) ?_
  rw [len_of Sz5 Ng5]
  show OGot p.tables e below (s₁.setTop (mkF m 3 #[.val (.ref a1), .val (.ref a2), .val (.ref a3), .val (.int (0 : Int32))] [(.int (0 : Int32)), (.int (0 : Int32))])) _
  refine OGot.go (fun t k => XS.icmpNo X0.here hx rfl (hb hby d18_3) rfl (by decide) k) ?_
  show OGot p.tables e below (s₁.setTop (mkF m 6 #[.val (.ref a1), .val (.ref a2), .val (.ref a3), .val (.int (0 : Int32))] [])) _
  refine OGot.go (fun t k => XS.aloadN X0.here hx rfl (hb hby d18_6) rfl rfl k) ?_
  show OGot p.tables e below (s₁.setTop (mkF m 7 #[.val (.ref a1), .val (.ref a2), .val (.ref a3), .val (.int (0 : Int32))] [(.ref a1)])) _
  obtain ⟨cq6, q6, q6'⟩ := E_a1.cell
  obtain ⟨_, _, ⟨T6, L6, k6, n6⟩, -, X6, ⟨Lc6, hQ6, l6, y6, z6⟩, st6⟩ := X0.privateBack hx (y := (⟨"java/util/ArrayList", "grow", "()[Ljava/lang/Object;"⟩ : MethodName)) hown (mvT hZ (ow hw 127 rfl)) (mvT hZ (ow hw 128 rfl)) (mvT hZ (ow hw 130 rfl)) (Cond.privateMethod_at (mvP hZ (ow hw 129 rfl) (args := #[]))) (mvT hZ (ow hw 131 rfl)) (by decide) (backOf (W := 0) (rm19 l Z a0 hw [] G a1 a3 k4 h0 n0 O0 F_size_a1 E_a1 F_elementData_a1 V_a3 E_a3 hc_1 g_a1) hZ (ow hw 131 rfl) (ow hw 10 rfl) (by decide) (by decide)) (g := (mkF m 7 #[.val (.ref a1), .val (.ref a2), .val (.ref a3), .val (.int (0 : Int32))] [(.ref a1)])) rfl (by rw [hml]; rfl) (Steps.refl _) (a := a1) (by rw [e0]; exact q6) q6' (argsL := []) (rest := []) (lenOf pd_9 rfl) rfl (by show 2 * 0 + _ ≤ _; exact Nat.le_of_eq rfl) (hb hby d18_7) (fun _ _ => ⟨rfl, e0, (by decide : 0 + 1 ≤ _), (by decide : 0 + 10 ≤ _)⟩)
  dsimp only [Pt.U, Pt.locs, Pt.cells, Pt.slots] at X6 l6 y6 z6 st6 hQ6
  subst l6 y6 z6
  obtain ⟨N6q, b9_5_6, k9_5_6, rfl, szb9_5_6_6, K6, Fo6_0, Fo6_1, Fo6_2, Fo6_3⟩ := hQ6
  have g_b9_5_6 : n0 ≤ b9_5_6 := Nat.le_trans (osz O0) szb9_5_6_6
  have sz_b9_5_6 : h0.size ≤ b9_5_6 := Nat.le_trans (OKeep.refl h0 [(a1, Jvm.RoadKit.slotOf Z "java/util/ArrayList" "elementData" "[Ljava/lang/Object;"), (a1, Jvm.RoadKit.slotOf Z "java/util/ArrayList" "size" "I")]).1 szb9_5_6_6
  have Kc6 := (OKeep.refl h0 [(a1, Jvm.RoadKit.slotOf Z "java/util/ArrayList" "elementData" "[Ljava/lang/Object;"), (a1, Jvm.RoadKit.slotOf Z "java/util/ArrayList" "size" "I")]).trans K6 (oinS (Or.inl (List.mem_of_getElem? (i := 0) rfl)) oin0)
  have O6 := OKeep.old O0 K6 (ogeS g_a1 oge0)
  have N6 := Fr.app N0 N6q
  refine OGot.on st6 ?_
  show OGot p.tables e below (T6.setTop (mkF m 10 #[.val (.ref a1), .val (.ref a2), .val (.ref a3), .val (.int (0 : Int32))] [(.ref b9_5_6)])) _
  refine OGot.go (fun t k => XS.astoreN X6.here hx rfl (hb hby d18_10) rfl rfl (l' := #[.val (.ref a1), .val (.ref a2), .val (.ref b9_5_6), .val (.int (0 : Int32))]) rfl k) ?_
  show OGot p.tables e below (T6.setTop (mkF m 11 #[.val (.ref a1), .val (.ref a2), .val (.ref b9_5_6), .val (.int (0 : Int32))] [])) _
  refine OGot.go (fun t k => XS.aloadN X6.here hx rfl (hb hby d18_11) rfl rfl k) ?_
  show OGot p.tables e below (T6.setTop (mkF m 12 #[.val (.ref a1), .val (.ref a2), .val (.ref b9_5_6), .val (.int (0 : Int32))] [(.ref b9_5_6)])) _
  refine OGot.go (fun t k => XS.iloadN X6.here hx rfl (hb hby d18_12) rfl k) ?_
  show OGot p.tables e below (T6.setTop (mkF m 13 #[.val (.ref a1), .val (.ref a2), .val (.ref b9_5_6), .val (.int (0 : Int32))] [(.int (0 : Int32)), (.ref b9_5_6)])) _
  refine OGot.go (fun t k => XS.aloadN X6.here hx rfl (hb hby d18_13) rfl rfl k) ?_
  show OGot p.tables e below (T6.setTop (mkF m 14 #[.val (.ref a1), .val (.ref a2), .val (.ref b9_5_6), .val (.int (0 : Int32))] [(.ref a2), (.int (0 : Int32)), (.ref b9_5_6)])) _
  obtain ⟨cl7, Ar7, qc7, Sz7, Ng7, Hh7, Gg7⟩ := id (Fo6_2)
  have hin7 : ¬ ((0 : Int32) < 0 ∨ cl7.slots.size ≤ ((0 : Int32)).toNatClampNeg) := inb_of Sz7 ⟨by decide, by decide⟩
  obtain ⟨T7, h7, X7, e7, W7, st7⟩ := stR X6 hx hZ rfl Ar7 (j := (0 : Int32)) hin7 rfl (Sto.ofV Ar7 qc7 Fo6_3 (Ins.of_exa (OKeep.exa E_a2 K6) (ow hw 140 rfl))) (g := (mkF m 14 #[.val (.ref a1), .val (.ref a2), .val (.ref b9_5_6), .val (.int (0 : Int32))] [(.ref a2), (.int (0 : Int32)), (.ref b9_5_6)])) rfl rfl (hb hby d18_14)
  refine OGot.go st7 ?_
  have N7 := Fr.snoc X7 N6 g_b9_5_6
  have O7 := O6.wr W7 g_b9_5_6
  have K7 := Kc6.wr W7 (Or.inr sz_b9_5_6)
  have Va7 : Arv Z h7 b9_5_6 k9_5_6 (.object "java/lang/Object") (10 : Int32) [(.ref a2), .null, .null, .null, .null, .null, .null, .null, .null, .null] .null := Arv.set Ar7 qc7 Sz7 Ng7 Hh7 Gg7 rfl W7 0 rfl (Nat.le_of_ble_eq_true rfl)
  show OGot p.tables e below (T7.setTop (mkF m 15 #[.val (.ref a1), .val (.ref a2), .val (.ref b9_5_6), .val (.int (0 : Int32))] [])) _
  refine OGot.go (fun t k => XS.aloadN X7.here hx rfl (hb hby d18_15) rfl rfl k) ?_
  show OGot p.tables e below (T7.setTop (mkF m 16 #[.val (.ref a1), .val (.ref a2), .val (.ref b9_5_6), .val (.int (0 : Int32))] [(.ref a1)])) _
  refine OGot.go (fun t k => XS.iloadN X7.here hx rfl (hb hby d18_16) rfl k) ?_
  show OGot p.tables e below (T7.setTop (mkF m 17 #[.val (.ref a1), .val (.ref a2), .val (.ref b9_5_6), .val (.int (0 : Int32))] [(.int (0 : Int32)), (.ref a1)])) _
  refine OGot.go (fun t k => XS.iconst X7.here hx rfl (hb hby d18_17) k) ?_
  show OGot p.tables e below (T7.setTop (mkF m 18 #[.val (.ref a1), .val (.ref a2), .val (.ref b9_5_6), .val (.int (0 : Int32))] [(.int (1 : Int32)), (.int (0 : Int32)), (.ref a1)])) _
  refine OGot.go (fun t k => XS.iadd X7.here hx rfl (hb hby d18_18) rfl k) ?_
  show OGot p.tables e below (T7.setTop (mkF m 19 #[.val (.ref a1), .val (.ref a2), .val (.ref b9_5_6), .val (.int (0 : Int32))] [(.int ((0 : Int32) + (1 : Int32))), (.ref a1)])) _
  rw [show ((0 : Int32) + (1 : Int32)) = (1 : Int32) from by decide]
  show OGot p.tables e below (T7.setTop (mkF m 19 #[.val (.ref a1), .val (.ref a2), .val (.ref b9_5_6), .val (.int (0 : Int32))] [(.int (1 : Int32)), (.ref a1)])) _
  have ne8 : a1 ≠ b9_5_6 := (Nat.ne_of_lt (Nat.lt_of_lt_of_le F_size_a1.lt szb9_5_6_6))
  have F9 : Fld Z h7 a1 "java/util/ArrayList" "size" "I" (.int (0 : Int32)) := ((OKeep.fld F_size_a1 K6 (oninS (slot_ne (Or.inl (ow hw 70 rfl)) (Or.inl (ow hw 33 rfl)) (by decide) (t := .int) (t' := (.array (.object "java/lang/Object"))) (by decide) (by decide)) onin0)).other W7 (Or.inl ne8))
  obtain ⟨T10, h10, X10, e10, W10, st10⟩ := putF X7 hx hZ hown (host := "") (Or.inl (ow hw 69 rfl)) Via.refl e7 F9 ((OKeep.exa E_a1 K6).wr W7) (Or.inl (ow hw 70 rfl)) (ow hw 9 rfl) (ty := .int) (by decide) rfl rfl (g := (mkF m 19 #[.val (.ref a1), .val (.ref a2), .val (.ref b9_5_6), .val (.int (0 : Int32))] [(.int (1 : Int32)), (.ref a1)])) rfl rfl (hb hby d18_19)
  refine OGot.go st10 ?_
  have N10 := Fr.snoc X10 N7 g_a1
  have O10 := O7.wr W10 g_a1
  have K10 := K7.wr W10 (Or.inl (List.mem_of_getElem? (i := 1) rfl))
  have Fw10 : Fld Z h10 a1 "java/util/ArrayList" "size" "I" (.int (1 : Int32)) := F9.same W10
  show OGot p.tables e below (T10.setTop (mkF m 22 #[.val (.ref a1), .val (.ref a2), .val (.ref b9_5_6), .val (.int (0 : Int32))] [])) _
  obtain ⟨fs, hr, hrun, hended, hW, hsame⟩ := X10.leave (v := none) (fun _ => rfl)
  refine ⟨_, _, X10.returnOut hx Bd.returns (hb hby d18_22) hr, hrun, hended, _, _, rfl, ?_, ⟨_, rfl⟩, hW, hsame.mono (by decide) (by decide)⟩
  have F11 : Fld Z h10 a1 "java/util/ArrayList" "elementData" "[Ljava/lang/Object;" (.ref b9_5_6) := ((Fo6_0.other W7 (Or.inl ne8)).other W10 (Or.inr (slot_ne (Or.inl (ow hw 33 rfl)) (Or.inl (ow hw 70 rfl)) (by decide) (t := (.array (.object "java/lang/Object"))) (t' := .int) (by decide) (by decide))))
  have F12 : Arv Z h10 b9_5_6 k9_5_6 (.object "java/lang/Object") (10 : Int32) [(.ref a2), .null, .null, .null, .null, .null, .null, .null, .null, .null] .null := (Va7.other W10 (Ne.symm ne8))
  show Q18 Z m_OA w_REJECTED w_EMPTY_ELEMENTDATA w_DEFAULTCAPACITY_EMPTY_ELEMENTDATA w_EMPTY_LIST w_EMPTY_LIST_elements w_EMPTY k_w_EMPTY_ELEMENTDATA k_w_DEFAULTCAPACITY_EMPTY_ELEMENTDATA k_w_EMPTY_LIST_elements a1 a2 a3 k4 h0 n0 _ T10.heap _
  rw [e10]
  exact ⟨N10, b9_5_6, k9_5_6, rfl, sz_b9_5_6, K10, F11, Fw10, ((Fo6_1.wr W7).wr W10), F12, Fo6_3⟩
theorem pd_10 : parseMethodDescriptor "(Ljava/lang/Object;[Ljava/lang/Object;I)V" = some ⟨[(.object "java/lang/Object"), (.array (.object "java/lang/Object")), .int], none⟩ := by decide +kernel
theorem d17_23 : decode jdk_38_method_25_code 23 = .ok (.iconst 1, 1) := by decide +kernel
theorem d17_24 : decode jdk_38_method_25_code 24 = .ok (.ireturn, 1) := by decide +kernel
def Q17 (Z : State) (m_OA : Addr) (w_REJECTED : Addr) (w_EMPTY_ELEMENTDATA : Addr) (w_DEFAULTCAPACITY_EMPTY_ELEMENTDATA : Addr) (w_EMPTY_LIST : Addr) (w_EMPTY_LIST_elements : Addr) (w_EMPTY : Addr) (k_w_EMPTY_ELEMENTDATA : ClassId) (k_w_DEFAULTCAPACITY_EMPTY_ELEMENTDATA : ClassId) (k_w_EMPTY_LIST_elements : ClassId) (a1 : Addr) (a2 : Addr) (a5 : Addr) (k10 : ClassId) (h0 : Heap) (n0 : Nat) (v : Option Value) (h : Heap) (L : List Loc) : Prop := Fr n0 L ∧ ∃ b9_5_6_11 : Addr, ∃ k9_5_6_11 : ClassId, v = some (.int (1 : Int32)) ∧ h0.size ≤ b9_5_6_11 ∧ OKeep h0 h [(a1, Jvm.RoadKit.slotOf Z "java/util/AbstractList" "modCount" "I"), (a1, Jvm.RoadKit.slotOf Z "java/util/ArrayList" "size" "I"), (a1, Jvm.RoadKit.slotOf Z "java/util/ArrayList" "elementData" "[Ljava/lang/Object;")] ∧ Fld Z h a1 "java/util/AbstractList" "modCount" "I" (.int (1 : Int32)) ∧ Fld Z h a1 "java/util/ArrayList" "size" "I" (.int (1 : Int32)) ∧ Fld Z h a1 "java/util/ArrayList" "elementData" "[Ljava/lang/Object;" (.ref b9_5_6_11) ∧ Exa Z h b9_5_6_11 "[Ljava/lang/Object;" ∧ Arv Z h b9_5_6_11 k9_5_6_11 (.object "java/lang/Object") (10 : Int32) [(.ref a2), .null, .null, .null, .null, .null, .null, .null, .null, .null] .null ∧ Ovr Z k9_5_6_11 "java/lang/Object"
theorem ef17 (m : MethodId) (x0 : Addr) (x1 : Addr) : entryFrame m #[(.ref x0), (.ref x1)] 2 = mkF m 0 #[.val (.ref x0), .val (.ref x1)] [] := by first | (simp [entryFrame, mkF, argsToLocals, Value.category]; done) | rfl
set_option maxRecDepth 65536 in
set_option maxHeartbeats 40000000 in
theorem rm17 (l : Launch) (Z : State) (a0 : Array Value) (hw : ∀ d ∈ tables_1, d.before a0 Z = true) (ws : List Jvm.Cond) {m_OA : Addr} {w_REJECTED : Addr} {w_EMPTY_ELEMENTDATA : Addr} {w_DEFAULTCAPACITY_EMPTY_ELEMENTDATA : Addr} {w_EMPTY_LIST : Addr} {w_EMPTY_LIST_elements : Addr} {w_EMPTY : Addr} {k_w_EMPTY_ELEMENTDATA : ClassId} {k_w_DEFAULTCAPACITY_EMPTY_ELEMENTDATA : ClassId} {k_w_EMPTY_LIST_elements : ClassId} (G : Glob Z m_OA w_REJECTED w_EMPTY_ELEMENTDATA w_DEFAULTCAPACITY_EMPTY_ELEMENTDATA w_EMPTY_LIST w_EMPTY_LIST_elements w_EMPTY k_w_EMPTY_ELEMENTDATA k_w_DEFAULTCAPACITY_EMPTY_ELEMENTDATA k_w_EMPTY_LIST_elements) (a1 : Addr) (a2 : Addr) (a5 : Addr) (k10 : ClassId) (h0 : Heap) (n0 : Nat) (O0 : Old Z n0 h0) (F_modCount_a1 : Fld Z h0 a1 "java/util/AbstractList" "modCount" "I" (.int (0 : Int32))) (E_a1 : Exa Z h0 a1 "java/util/ArrayList") (g_a1 : n0 ≤ a1) (F_elementData_a1 : Fld Z h0 a1 "java/util/ArrayList" "elementData" "[Ljava/lang/Object;" (.ref a5)) (F_size_a1 : Fld Z h0 a1 "java/util/ArrayList" "size" "I" (.int (0 : Int32))) (V_a5 : Arv Z h0 a5 k10 (.object "java/lang/Object") (0 : Int32) [] .null) (E_a5 : Exa Z h0 a5 "[Ljava/lang/Object;") (hc_1 : a5 = w_DEFAULTCAPACITY_EMPTY_ELEMENTDATA) (E_a2 : Exa Z h0 a2 "com/example/curtail/curtail/Placement$Cell") (ne_a5_a1 : a5 ≠ a1) :
    MetFree l (⟨"java/util/ArrayList", "add", "(Ljava/lang/Object;)Z"⟩ : MethodName) (head1 (Jvm.Cond.code (⟨"java/util/ArrayList", "add", "(Ljava/lang/Object;)Z"⟩ : MethodName) jdk_38_method_25_code 2 (some .boolean) :: ws) ({ frames := 4, cells := 1, slots := 10, locals := 56 } : Room)) (fun a U => a = #[(.ref a1), (.ref a2)] ∧ Z.Warmed39 U.vm ∧ U.heap = h0) (fun _ _ _ _ _ => True) (fun _ U o U' => ∃ v L, o = .returned v ∧ Q17 Z m_OA w_REJECTED w_EMPTY_ELEMENTDATA w_DEFAULTCAPACITY_EMPTY_ELEMENTDATA w_EMPTY_LIST w_EMPTY_LIST_elements w_EMPTY k_w_EMPTY_ELEMENTDATA k_w_DEFAULTCAPACITY_EMPTY_ELEMENTDATA k_w_EMPTY_LIST_elements a1 a2 a5 k10 h0 n0 v U'.heap L ∧ FrameEnd U o U' L ({ frames := 4, cells := 1, slots := 10, locals := 56 } : Room).cells ({ frames := 4, cells := 1, slots := 10, locals := 56 } : Room).slots) := by
  refine MetFree.of_bodySF (plainFor_of_name pn_java_util_ArrayList) hisR ?_
  intro p e s m args below meth c s₁ Bd hml0 hP hK
  obtain ⟨rfl, hZ, hh⟩ := hP
  have hx := Bd.exec
  have hby := Bd.bytes
  have hml : c.maxLocals = 2 := hml0
  have hown : s.vm.findClass "java/util/ArrayList" = some m.cls := findClass_of_methodNamed Bd.named
  have hnm := (name_of_methodNamed Bd.named Bd.method).1
  have X0 : Stand p l e ({ frames := 4, cells := 1, slots := 10, locals := 56 } : Room) s m #[(.ref a1), (.ref a2)] below meth c s₁ [] 0 0 := Stand.of_body Bd
  have e0 : s₁.heap = h0 := by rw [← hh, Bd.state]; rfl
  have N0 := Fr.nil n0
  show OGot p.tables e below (s₁.setTop (entryFrame m #[(.ref a1), (.ref a2)] 2)) _
  refine OGot.go (fun t k => castTop (ef17 m a1 a2) k) ?_
  show OGot p.tables e below (s₁.setTop (mkF m 0 #[.val (.ref a1), .val (.ref a2)] [])) _
  refine OGot.go (fun t k => XS.aloadN X0.here hx rfl (hb hby d17_0) rfl rfl k) ?_
  show OGot p.tables e below (s₁.setTop (mkF m 1 #[.val (.ref a1), .val (.ref a2)] [(.ref a1)])) _
  refine OGot.go (fun t k => XS.dup X0.here hx rfl (hb hby d17_1) rfl rfl k) ?_
  show OGot p.tables e below (s₁.setTop (mkF m 2 #[.val (.ref a1), .val (.ref a2)] [(.ref a1), (.ref a1)])) _
  obtain ⟨T3, X3, e3, st3⟩ := getF X0 hx hZ hown (host := "") (Or.inl (ow hw 120 rfl)) (Via.of (ow hw 121 rfl)) e0 F_modCount_a1 (g := (mkF m 2 #[.val (.ref a1), .val (.ref a2)] [(.ref a1), (.ref a1)])) rfl rfl (hb hby d17_2)
  refine OGot.go st3 ?_
  show OGot p.tables e below (T3.setTop (mkF m 5 #[.val (.ref a1), .val (.ref a2)] [(.int (0 : Int32)), (.ref a1)])) _
  refine OGot.go (fun t k => XS.iconst X3.here hx rfl (hb hby d17_5) k) ?_
  show OGot p.tables e below (T3.setTop (mkF m 6 #[.val (.ref a1), .val (.ref a2)] [(.int (1 : Int32)), (.int (0 : Int32)), (.ref a1)])) _
  refine OGot.go (fun t k => XS.iadd X3.here hx rfl (hb hby d17_6) rfl k) ?_
  show OGot p.tables e below (T3.setTop (mkF m 7 #[.val (.ref a1), .val (.ref a2)] [(.int ((0 : Int32) + (1 : Int32))), (.ref a1)])) _
  rw [show ((0 : Int32) + (1 : Int32)) = (1 : Int32) from by decide]
  show OGot p.tables e below (T3.setTop (mkF m 7 #[.val (.ref a1), .val (.ref a2)] [(.int (1 : Int32)), (.ref a1)])) _
  obtain ⟨T4, h4, X4, e4, W4, st4⟩ := putF X3 hx hZ hown (host := "") (Or.inl (ow hw 120 rfl)) (Via.of (ow hw 121 rfl)) e3 F_modCount_a1 E_a1 (Or.inl (ow hw 30 rfl)) (ow hw 9 rfl) (ty := .int) (by decide) rfl rfl (g := (mkF m 7 #[.val (.ref a1), .val (.ref a2)] [(.int (1 : Int32)), (.ref a1)])) rfl rfl (hb hby d17_7)
  refine OGot.go st4 ?_
  have N4 := Fr.snoc X4 N0 g_a1
  have O4 := O0.wr W4 g_a1
  have K4 := (OKeep.refl h0 [(a1, Jvm.RoadKit.slotOf Z "java/util/AbstractList" "modCount" "I"), (a1, Jvm.RoadKit.slotOf Z "java/util/ArrayList" "size" "I"), (a1, Jvm.RoadKit.slotOf Z "java/util/ArrayList" "elementData" "[Ljava/lang/Object;")]).wr W4 (Or.inl (List.mem_of_getElem? (i := 0) rfl))
  have Fw4 : Fld Z h4 a1 "java/util/AbstractList" "modCount" "I" (.int (1 : Int32)) := F_modCount_a1.same W4
  show OGot p.tables e below (T4.setTop (mkF m 10 #[.val (.ref a1), .val (.ref a2)] [])) _
  refine OGot.go (fun t k => XS.aloadN X4.here hx rfl (hb hby d17_10) rfl rfl k) ?_
  show OGot p.tables e below (T4.setTop (mkF m 11 #[.val (.ref a1), .val (.ref a2)] [(.ref a1)])) _
  refine OGot.go (fun t k => XS.aloadN X4.here hx rfl (hb hby d17_11) rfl rfl k) ?_
  show OGot p.tables e below (T4.setTop (mkF m 12 #[.val (.ref a1), .val (.ref a2)] [(.ref a2), (.ref a1)])) _
  refine OGot.go (fun t k => XS.aloadN X4.here hx rfl (hb hby d17_12) rfl rfl k) ?_
  show OGot p.tables e below (T4.setTop (mkF m 13 #[.val (.ref a1), .val (.ref a2)] [(.ref a1), (.ref a2), (.ref a1)])) _
  have F6 : Fld Z h4 a1 "java/util/ArrayList" "elementData" "[Ljava/lang/Object;" (.ref a5) := (F_elementData_a1.other W4 (Or.inr (slot_ne (Or.inl (ow hw 33 rfl)) (Or.inl (ow hw 30 rfl)) (by decide) (t := (.array (.object "java/lang/Object"))) (t' := .int) (by decide) (by decide))))
  obtain ⟨T7, X7, e7, st7⟩ := getF X4 hx hZ hown (host := "") (Or.inl (ow hw 32 rfl)) Via.refl e4 F6 (g := (mkF m 13 #[.val (.ref a1), .val (.ref a2)] [(.ref a1), (.ref a2), (.ref a1)])) rfl rfl (hb hby d17_13)
  refine OGot.go st7 ?_
  show OGot p.tables e below (T7.setTop (mkF m 16 #[.val (.ref a1), .val (.ref a2)] [(.ref a5), (.ref a2), (.ref a1)])) _
  refine OGot.go (fun t k => XS.aloadN X7.here hx rfl (hb hby d17_16) rfl rfl k) ?_
  show OGot p.tables e below (T7.setTop (mkF m 17 #[.val (.ref a1), .val (.ref a2)] [(.ref a1), (.ref a5), (.ref a2), (.ref a1)])) _
  have F8 : Fld Z h4 a1 "java/util/ArrayList" "size" "I" (.int (0 : Int32)) := (F_size_a1.other W4 (Or.inr (slot_ne (Or.inl (ow hw 70 rfl)) (Or.inl (ow hw 30 rfl)) (by decide) (t := .int) (t' := .int) (by decide) (by decide))))
  obtain ⟨T9, X9, e9, st9⟩ := getF X7 hx hZ hown (host := "") (Or.inl (ow hw 69 rfl)) Via.refl e7 F8 (g := (mkF m 17 #[.val (.ref a1), .val (.ref a2)] [(.ref a1), (.ref a5), (.ref a2), (.ref a1)])) rfl rfl (hb hby d17_17)
  refine OGot.go st9 ?_
  show OGot p.tables e below (T9.setTop (mkF m 20 #[.val (.ref a1), .val (.ref a2)] [(.int (0 : Int32)), (.ref a5), (.ref a2), (.ref a1)])) _
  have ne12 : a5 ≠ a1 := ne_a5_a1
  have F13 : Arv Z h4 a5 k10 (.object "java/lang/Object") (0 : Int32) [] .null := (V_a5.other W4 ne12)
  obtain ⟨cq11, q11, q11'⟩ := (E_a1.wr W4).cell
  obtain ⟨_, _, ⟨T11, L11, k11, n11⟩, -, X11, ⟨Lc11, hQ11, l11, y11, z11⟩, st11⟩ := X9.privateBack hx (y := (⟨"java/util/ArrayList", "add", "(Ljava/lang/Object;[Ljava/lang/Object;I)V"⟩ : MethodName)) hown (mvT hZ (ow hw 122 rfl)) (mvT hZ (ow hw 123 rfl)) (mvT hZ (ow hw 125 rfl)) (Cond.privateMethod_at (mvP hZ (ow hw 124 rfl) (args := #[]))) (mvT hZ (ow hw 126 rfl)) (by decide) (backOf (W := 0) (rm18 l Z a0 hw [] G a1 a2 a5 k10 h4 n0 O4 F13 (E_a1.wr W4) F8 F6 (E_a5.wr W4) hc_1 g_a1 (E_a2.wr W4)) hZ (ow hw 126 rfl) (ow hw 10 rfl) (by decide) (by decide)) (g := (mkF m 20 #[.val (.ref a1), .val (.ref a2)] [(.int (0 : Int32)), (.ref a5), (.ref a2), (.ref a1)])) rfl (by rw [hml]; rfl) (Steps.refl _) (a := a1) (by rw [e9]; exact q11) q11' (argsL := [(.ref a2), (.ref a5), (.int (0 : Int32))]) (rest := []) (lenOf pd_10 rfl) rfl (by show 2 * 0 + _ ≤ _; exact Nat.le_of_eq rfl) (hb hby d17_20) (fun _ _ => ⟨rfl, e9, (by decide : 0 + 1 ≤ _), (by decide : 0 + 10 ≤ _)⟩)
  dsimp only [Pt.U, Pt.locs, Pt.cells, Pt.slots] at X11 l11 y11 z11 st11 hQ11
  subst l11 y11 z11
  obtain ⟨N11q, b9_5_6_11, k9_5_6_11, rfl, szb9_5_6_11_11, K11, Fo11_0, Fo11_1, Fo11_2, Fo11_3, Fo11_4⟩ := hQ11
  have g_b9_5_6_11 : n0 ≤ b9_5_6_11 := Nat.le_trans (osz O4) szb9_5_6_11_11
  have sz_b9_5_6_11 : h0.size ≤ b9_5_6_11 := Nat.le_trans K4.1 szb9_5_6_11_11
  have Kc11 := K4.trans K11 (oinS (Or.inl (List.mem_of_getElem? (i := 2) rfl)) (oinS (Or.inl (List.mem_of_getElem? (i := 1) rfl)) oin0))
  have O11 := OKeep.old O4 K11 (ogeS g_a1 (ogeS g_a1 oge0))
  have N11 := Fr.app N4 N11q
  refine OGot.on st11 ?_
  show OGot p.tables e below (T11.setTop (mkF m 23 #[.val (.ref a1), .val (.ref a2)] [])) _
  refine OGot.go (fun t k => XS.iconst X11.here hx rfl (hb hby d17_23) k) ?_
  show OGot p.tables e below (T11.setTop (mkF m 24 #[.val (.ref a1), .val (.ref a2)] [(.int (1 : Int32))])) _
  obtain ⟨fs, hr, hrun, hended, hW, hsame⟩ := X11.leave (v := some (.int (1 : Int32))) (fun h => by rw [Bd.returns] at h; cases h)
  refine ⟨_, _, retN X11 hx (t := .boolean) Bd.returns (by simp) (hb hby d17_24) hr, hrun, hended, _, _, rfl, ?_, ⟨_, rfl⟩, hW, hsame.mono (by decide) (by decide)⟩
  have F14 : Fld Z T11.heap a1 "java/util/AbstractList" "modCount" "I" (.int (1 : Int32)) := (OKeep.fld Fw4 K11 (oninS (slot_ne (Or.inl (ow hw 30 rfl)) (Or.inl (ow hw 33 rfl)) (by decide) (t := .int) (t' := (.array (.object "java/lang/Object"))) (by decide) (by decide)) (oninS (slot_ne (Or.inl (ow hw 30 rfl)) (Or.inl (ow hw 70 rfl)) (by decide) (t := .int) (t' := .int) (by decide) (by decide)) onin0)))
  show Q17 Z m_OA w_REJECTED w_EMPTY_ELEMENTDATA w_DEFAULTCAPACITY_EMPTY_ELEMENTDATA w_EMPTY_LIST w_EMPTY_LIST_elements w_EMPTY k_w_EMPTY_ELEMENTDATA k_w_DEFAULTCAPACITY_EMPTY_ELEMENTDATA k_w_EMPTY_LIST_elements a1 a2 a5 k10 h0 n0 _ T11.heap _
  exact ⟨N11, b9_5_6_11, k9_5_6_11, rfl, sz_b9_5_6_11, Kc11, F14, Fo11_1, Fo11_0, Fo11_2, Fo11_3, Fo11_4⟩
theorem pd_11 : parseMethodDescriptor "(Ljava/lang/Object;)Z" = some ⟨[(.object "java/lang/Object")], some .boolean⟩ := by decide +kernel
theorem d11_11 : decode jdk_38_method_9_code 11 = .ok (.iconst 0, 1) := by decide +kernel
def Q11_1 (Z : State) (m_OA : Addr) (w_REJECTED : Addr) (w_EMPTY_ELEMENTDATA : Addr) (w_DEFAULTCAPACITY_EMPTY_ELEMENTDATA : Addr) (w_EMPTY_LIST : Addr) (w_EMPTY_LIST_elements : Addr) (w_EMPTY : Addr) (k_w_EMPTY_ELEMENTDATA : ClassId) (k_w_DEFAULTCAPACITY_EMPTY_ELEMENTDATA : ClassId) (k_w_EMPTY_LIST_elements : ClassId) (a1 : Addr) (h0 : Heap) (n0 : Nat) (v : Option Value) (h : Heap) (L : List Loc) : Prop := v = some (.int (0 : Int32)) ∧ Fr n0 L ∧ h = h0
theorem ef11_1 (m : MethodId) (x0 : Addr) : entryFrame m #[(.ref x0)] 1 = mkF m 0 #[.val (.ref x0)] [] := by first | (simp [entryFrame, mkF, argsToLocals, Value.category]; done) | rfl
set_option maxRecDepth 65536 in
set_option maxHeartbeats 40000000 in
theorem rm11_1 (l : Launch) (Z : State) (a0 : Array Value) (hw : ∀ d ∈ tables_1, d.before a0 Z = true) (ws : List Jvm.Cond) {m_OA : Addr} {w_REJECTED : Addr} {w_EMPTY_ELEMENTDATA : Addr} {w_DEFAULTCAPACITY_EMPTY_ELEMENTDATA : Addr} {w_EMPTY_LIST : Addr} {w_EMPTY_LIST_elements : Addr} {w_EMPTY : Addr} {k_w_EMPTY_ELEMENTDATA : ClassId} {k_w_DEFAULTCAPACITY_EMPTY_ELEMENTDATA : ClassId} {k_w_EMPTY_LIST_elements : ClassId} (G : Glob Z m_OA w_REJECTED w_EMPTY_ELEMENTDATA w_DEFAULTCAPACITY_EMPTY_ELEMENTDATA w_EMPTY_LIST w_EMPTY_LIST_elements w_EMPTY k_w_EMPTY_ELEMENTDATA k_w_DEFAULTCAPACITY_EMPTY_ELEMENTDATA k_w_EMPTY_LIST_elements) (a1 : Addr) (h0 : Heap) (n0 : Nat) (O0 : Old Z n0 h0) (F_size_a1 : Fld Z h0 a1 "java/util/ArrayList" "size" "I" (.int (1 : Int32))) :
    MetFree l (⟨"java/util/ArrayList", "isEmpty", "()Z"⟩ : MethodName) (head1 (Jvm.Cond.code (⟨"java/util/ArrayList", "isEmpty", "()Z"⟩ : MethodName) jdk_38_method_9_code 1 (some .boolean) :: ws) ({ frames := 0, cells := 0, slots := 0, locals := 0 } : Room)) (fun a U => a = #[(.ref a1)] ∧ Z.Warmed39 U.vm ∧ U.heap = h0) (fun _ _ _ _ _ => True) (fun _ U o U' => ∃ v L, o = .returned v ∧ Q11_1 Z m_OA w_REJECTED w_EMPTY_ELEMENTDATA w_DEFAULTCAPACITY_EMPTY_ELEMENTDATA w_EMPTY_LIST w_EMPTY_LIST_elements w_EMPTY k_w_EMPTY_ELEMENTDATA k_w_DEFAULTCAPACITY_EMPTY_ELEMENTDATA k_w_EMPTY_LIST_elements a1 h0 n0 v U'.heap L ∧ FrameEnd U o U' L ({ frames := 0, cells := 0, slots := 0, locals := 0 } : Room).cells ({ frames := 0, cells := 0, slots := 0, locals := 0 } : Room).slots) := by
  refine MetFree.of_bodySF (plainFor_of_name pn_java_util_ArrayList) hisR ?_
  intro p e s m args below meth c s₁ Bd hml0 hP hK
  obtain ⟨rfl, hZ, hh⟩ := hP
  have hx := Bd.exec
  have hby := Bd.bytes
  have hml : c.maxLocals = 1 := hml0
  have hown : s.vm.findClass "java/util/ArrayList" = some m.cls := findClass_of_methodNamed Bd.named
  have hnm := (name_of_methodNamed Bd.named Bd.method).1
  have X0 : Stand p l e ({ frames := 0, cells := 0, slots := 0, locals := 0 } : Room) s m #[(.ref a1)] below meth c s₁ [] 0 0 := Stand.of_body Bd
  have e0 : s₁.heap = h0 := by rw [← hh, Bd.state]; rfl
  have N0 := Fr.nil n0
  show OGot p.tables e below (s₁.setTop (entryFrame m #[(.ref a1)] 1)) _
  refine OGot.go (fun t k => castTop (ef11_1 m a1) k) ?_
  show OGot p.tables e below (s₁.setTop (mkF m 0 #[.val (.ref a1)] [])) _
  refine OGot.go (fun t k => XS.aloadN X0.here hx rfl (hb hby d11_0) rfl rfl k) ?_
  show OGot p.tables e below (s₁.setTop (mkF m 1 #[.val (.ref a1)] [(.ref a1)])) _
  obtain ⟨T2, X2, e2, st2⟩ := getF X0 hx hZ hown (host := "") (Or.inl (ow hw 69 rfl)) Via.refl e0 F_size_a1 (g := (mkF m 1 #[.val (.ref a1)] [(.ref a1)])) rfl rfl (hb hby d11_1)
  refine OGot.go st2 ?_
  show OGot p.tables e below (T2.setTop (mkF m 4 #[.val (.ref a1)] [(.int (1 : Int32))])) _
  refine OGot.go (fun t k => XS.ifYes X2.here hx rfl (pc0 := 4) (pc' := 11) rfl (hb hby d11_4) rfl (by decide) (by decide) (by decide) k) ?_
  show OGot p.tables e below (T2.setTop (mkF m 11 #[.val (.ref a1)] [])) _
  refine OGot.go (fun t k => XS.iconst X2.here hx rfl (hb hby d11_11) k) ?_
  show OGot p.tables e below (T2.setTop (mkF m 12 #[.val (.ref a1)] [(.int (0 : Int32))])) _
  obtain ⟨fs, hr, hrun, hended, hW, hsame⟩ := X2.leave (v := some (.int (0 : Int32))) (fun h => by rw [Bd.returns] at h; cases h)
  refine ⟨_, _, retN X2 hx (t := .boolean) Bd.returns (by simp) (hb hby d11_12) hr, hrun, hended, _, _, rfl, ?_, ⟨_, rfl⟩, hW, hsame.mono (by decide) (by decide)⟩
  exact (⟨rfl, N0, e2⟩ : Q11_1 Z m_OA w_REJECTED w_EMPTY_ELEMENTDATA w_DEFAULTCAPACITY_EMPTY_ELEMENTDATA w_EMPTY_LIST w_EMPTY_LIST_elements w_EMPTY k_w_EMPTY_ELEMENTDATA k_w_DEFAULTCAPACITY_EMPTY_ELEMENTDATA k_w_EMPTY_LIST_elements a1 h0 n0 _ T2.heap _)
theorem d10_44 : decode jdk_56_method_3_code 44 = .ok (.aload_n 0, 1) := by decide +kernel
theorem d10_45 : decode jdk_56_method_3_code 45 = .ok (.invokeinterface 30 1, 5) := by decide +kernel
theorem d21_0 : decode jdk_38_method_16_code 0 = .ok (.aload_n 0, 1) := by decide +kernel
theorem d21_1 : decode jdk_38_method_16_code 1 = .ok (.getfield 9, 3) := by decide +kernel
theorem d21_4 : decode jdk_38_method_16_code 4 = .ok (.aload_n 0, 1) := by decide +kernel
theorem d21_5 : decode jdk_38_method_16_code 5 = .ok (.getfield 48, 3) := by decide +kernel
theorem d21_8 : decode jdk_38_method_16_code 8 = .ok (.invokestatic 66, 3) := by decide +kernel
theorem d22_0 : decode jdk_65_method_119_code 0 = .ok (.aload_n 0, 1) := by decide +kernel
theorem d22_1 : decode jdk_65_method_119_code 1 = .ok (.iload_n 1, 1) := by decide +kernel
theorem d22_2 : decode jdk_65_method_119_code 2 = .ok (.aload_n 0, 1) := by decide +kernel
theorem d22_3 : decode jdk_65_method_119_code 3 = .ok (.invokevirtual 86, 3) := by decide +kernel
theorem d22_6 : decode jdk_65_method_119_code 6 = .ok (.invokestatic 300, 3) := by decide +kernel
theorem d23_0 : decode jdk_65_method_120_code 0 = .ok (.aload_n 2, 1) := by decide +kernel
theorem d23_1 : decode jdk_65_method_120_code 1 = .ok (.ldc 110, 2) := by decide +kernel
theorem d23_3 : decode jdk_65_method_120_code 3 = .ok (.if_acmp .ne 10, 3) := by decide +kernel
theorem d23_6 : decode jdk_65_method_120_code 6 = .ok (.iload_n 1, 1) := by decide +kernel
theorem d23_7 : decode jdk_65_method_120_code 7 = .ok (.anewarray 2, 3) := by decide +kernel
theorem d23_10 : decode jdk_65_method_120_code 10 = .ok (.goto 14, 3) := by decide +kernel
theorem d23_24 : decode jdk_65_method_120_code 24 = .ok (.astore_n 3, 1) := by decide +kernel
theorem d23_25 : decode jdk_65_method_120_code 25 = .ok (.aload_n 0, 1) := by decide +kernel
theorem d23_26 : decode jdk_65_method_120_code 26 = .ok (.iconst 0, 1) := by decide +kernel
theorem d23_27 : decode jdk_65_method_120_code 27 = .ok (.aload_n 3, 1) := by decide +kernel
theorem d23_28 : decode jdk_65_method_120_code 28 = .ok (.iconst 0, 1) := by decide +kernel
theorem d23_29 : decode jdk_65_method_120_code 29 = .ok (.aload_n 0, 1) := by decide +kernel
theorem d23_30 : decode jdk_65_method_120_code 30 = .ok (.arraylength, 1) := by decide +kernel
theorem d23_31 : decode jdk_65_method_120_code 31 = .ok (.iload_n 1, 1) := by decide +kernel
theorem d23_32 : decode jdk_65_method_120_code 32 = .ok (.invokestatic 304, 3) := by decide +kernel
def Q1_1 (Z : State) (m_OA : Addr) (w_REJECTED : Addr) (w_EMPTY_ELEMENTDATA : Addr) (w_DEFAULTCAPACITY_EMPTY_ELEMENTDATA : Addr) (w_EMPTY_LIST : Addr) (w_EMPTY_LIST_elements : Addr) (w_EMPTY : Addr) (k_w_EMPTY_ELEMENTDATA : ClassId) (k_w_DEFAULTCAPACITY_EMPTY_ELEMENTDATA : ClassId) (k_w_EMPTY_LIST_elements : ClassId)  (h0 : Heap) (n0 : Nat) (v : Option Value) (h : Heap) (L : List Loc) : Prop := v = some (.int (1 : Int32)) ∧ Fr n0 L ∧ h = h0
theorem ef1_1 (m : MethodId)  : entryFrame m #[(.int (10 : Int32)), (.int (1 : Int32))] 2 = mkF m 0 #[.val (.int (10 : Int32)), .val (.int (1 : Int32))] [] := by first | (simp [entryFrame, mkF, argsToLocals, Value.category]; done) | rfl
set_option maxRecDepth 65536 in
set_option maxHeartbeats 40000000 in
theorem rm1_1 (l : Launch) (Z : State) (a0 : Array Value) (hw : ∀ d ∈ tables_1, d.before a0 Z = true) (ws : List Jvm.Cond) {m_OA : Addr} {w_REJECTED : Addr} {w_EMPTY_ELEMENTDATA : Addr} {w_DEFAULTCAPACITY_EMPTY_ELEMENTDATA : Addr} {w_EMPTY_LIST : Addr} {w_EMPTY_LIST_elements : Addr} {w_EMPTY : Addr} {k_w_EMPTY_ELEMENTDATA : ClassId} {k_w_DEFAULTCAPACITY_EMPTY_ELEMENTDATA : ClassId} {k_w_EMPTY_LIST_elements : ClassId} (G : Glob Z m_OA w_REJECTED w_EMPTY_ELEMENTDATA w_DEFAULTCAPACITY_EMPTY_ELEMENTDATA w_EMPTY_LIST w_EMPTY_LIST_elements w_EMPTY k_w_EMPTY_ELEMENTDATA k_w_DEFAULTCAPACITY_EMPTY_ELEMENTDATA k_w_EMPTY_LIST_elements)  (h0 : Heap) (n0 : Nat) (O0 : Old Z n0 h0) :
    MetFree l (⟨"java/lang/Math", "min", "(II)I"⟩ : MethodName) (head1 (Jvm.Cond.code (⟨"java/lang/Math", "min", "(II)I"⟩ : MethodName) jdk_29_method_69_code 2 (some .int) :: ws) ({ frames := 0, cells := 0, slots := 0, locals := 0 } : Room)) (fun a U => a = #[(.int (10 : Int32)), (.int (1 : Int32))] ∧ Z.Warmed39 U.vm ∧ U.heap = h0) (fun _ _ _ _ _ => True) (fun _ U o U' => ∃ v L, o = .returned v ∧ Q1_1 Z m_OA w_REJECTED w_EMPTY_ELEMENTDATA w_DEFAULTCAPACITY_EMPTY_ELEMENTDATA w_EMPTY_LIST w_EMPTY_LIST_elements w_EMPTY k_w_EMPTY_ELEMENTDATA k_w_DEFAULTCAPACITY_EMPTY_ELEMENTDATA k_w_EMPTY_LIST_elements  h0 n0 v U'.heap L ∧ FrameEnd U o U' L ({ frames := 0, cells := 0, slots := 0, locals := 0 } : Room).cells ({ frames := 0, cells := 0, slots := 0, locals := 0 } : Room).slots) := by
  refine MetFree.of_bodySF (Jvm.Free.JP.mathPlain rfl (by decide +kernel)) hisR ?_
  intro p e s m args below meth c s₁ Bd hml0 hP hK
  obtain ⟨rfl, hZ, hh⟩ := hP
  have hx := Bd.exec
  have hby := Bd.bytes
  have hml : c.maxLocals = 2 := hml0
  have hown : s.vm.findClass "java/lang/Math" = some m.cls := findClass_of_methodNamed Bd.named
  have hnm := (name_of_methodNamed Bd.named Bd.method).1
  have X0 : Stand p l e ({ frames := 0, cells := 0, slots := 0, locals := 0 } : Room) s m #[(.int (10 : Int32)), (.int (1 : Int32))] below meth c s₁ [] 0 0 := Stand.of_body Bd
  have e0 : s₁.heap = h0 := by rw [← hh, Bd.state]; rfl
  have N0 := Fr.nil n0
  show OGot p.tables e below (s₁.setTop (entryFrame m #[(.int (10 : Int32)), (.int (1 : Int32))] 2)) _
  refine OGot.go (fun t k => castTop (ef1_1 m ) k) ?_
  show OGot p.tables e below (s₁.setTop (mkF m 0 #[.val (.int (10 : Int32)), .val (.int (1 : Int32))] [])) _
  refine OGot.go (fun t k => XS.iloadN X0.here hx rfl (hb hby d1_0) rfl k) ?_
  show OGot p.tables e below (s₁.setTop (mkF m 1 #[.val (.int (10 : Int32)), .val (.int (1 : Int32))] [(.int (10 : Int32))])) _
  refine OGot.go (fun t k => XS.iloadN X0.here hx rfl (hb hby d1_1) rfl k) ?_
  show OGot p.tables e below (s₁.setTop (mkF m 2 #[.val (.int (10 : Int32)), .val (.int (1 : Int32))] [(.int (1 : Int32)), (.int (10 : Int32))])) _
  refine OGot.go (fun t k => XS.icmpYes X0.here hx rfl (pc0 := 2) (pc' := 9) rfl (hb hby d1_2) rfl (by decide) (by decide) (by decide) k) ?_
  show OGot p.tables e below (s₁.setTop (mkF m 9 #[.val (.int (10 : Int32)), .val (.int (1 : Int32))] [])) _
  refine OGot.go (fun t k => XS.iloadN X0.here hx rfl (hb hby d1_9) rfl k) ?_
  show OGot p.tables e below (s₁.setTop (mkF m 10 #[.val (.int (10 : Int32)), .val (.int (1 : Int32))] [(.int (1 : Int32))])) _
  obtain ⟨fs, hr, hrun, hended, hW, hsame⟩ := X0.leave (v := some (.int (1 : Int32))) (fun h => by rw [Bd.returns] at h; cases h)
  refine ⟨_, _, retI X0 hx Bd.returns (hb hby d1_10) hr, hrun, hended, _, _, rfl, ?_, ⟨_, rfl⟩, hW, hsame.mono (by decide) (by decide)⟩
  exact (⟨rfl, N0, e0⟩ : Q1_1 Z m_OA w_REJECTED w_EMPTY_ELEMENTDATA w_DEFAULTCAPACITY_EMPTY_ELEMENTDATA w_EMPTY_LIST w_EMPTY_LIST_elements w_EMPTY k_w_EMPTY_ELEMENTDATA k_w_DEFAULTCAPACITY_EMPTY_ELEMENTDATA k_w_EMPTY_LIST_elements  h0 n0 _ s₁.heap _)
theorem d23_35 : decode jdk_65_method_120_code 35 = .ok (.invokestatic 150, 3) := by decide +kernel
theorem d23_38 : decode jdk_65_method_120_code 38 = .ok (.aload_n 3, 1) := by decide +kernel
theorem d23_39 : decode jdk_65_method_120_code 39 = .ok (.areturn, 1) := by decide +kernel
theorem pn_java_util_Arrays : plainName "java/util/Arrays" = true := by first | (simp [plainName, overriddenIn]; done) | decide +kernel
def Q23 (Z : State) (m_OA : Addr) (w_REJECTED : Addr) (w_EMPTY_ELEMENTDATA : Addr) (w_DEFAULTCAPACITY_EMPTY_ELEMENTDATA : Addr) (w_EMPTY_LIST : Addr) (w_EMPTY_LIST_elements : Addr) (w_EMPTY : Addr) (k_w_EMPTY_ELEMENTDATA : ClassId) (k_w_DEFAULTCAPACITY_EMPTY_ELEMENTDATA : ClassId) (k_w_EMPTY_LIST_elements : ClassId) (a1 : Addr) (k5 : ClassId) (a6 : Addr) (h0 : Heap) (n0 : Nat) (v : Option Value) (h : Heap) (L : List Loc) : Prop := Fr n0 L ∧ ∃ b4 : Addr, ∃ k4 : ClassId, v = some (.ref b4) ∧ h0.size ≤ b4 ∧ OKeep h0 h [] ∧ Exa Z h b4 "[Ljava/lang/Object;" ∧ Arv Z h b4 k4 (.object "java/lang/Object") (1 : Int32) [(.ref a6)] .null ∧ Ovr Z k4 "java/lang/Object"
theorem ef23 (m : MethodId) (x0 : Addr) (x2 : Addr) : entryFrame m #[(.ref x0), (.int (1 : Int32)), (.ref x2)] 4 = mkF m 0 #[.val (.ref x0), .val (.int (1 : Int32)), .val (.ref x2), .unset] [] := by first | (simp [entryFrame, mkF, argsToLocals, Value.category]; done) | rfl
set_option maxRecDepth 65536 in
set_option maxHeartbeats 40000000 in
theorem rm23 (l : Launch) (Z : State) (a0 : Array Value) (hw : ∀ d ∈ tables_1, d.before a0 Z = true) (ws : List Jvm.Cond) {m_OA : Addr} {w_REJECTED : Addr} {w_EMPTY_ELEMENTDATA : Addr} {w_DEFAULTCAPACITY_EMPTY_ELEMENTDATA : Addr} {w_EMPTY_LIST : Addr} {w_EMPTY_LIST_elements : Addr} {w_EMPTY : Addr} {k_w_EMPTY_ELEMENTDATA : ClassId} {k_w_DEFAULTCAPACITY_EMPTY_ELEMENTDATA : ClassId} {k_w_EMPTY_LIST_elements : ClassId} (G : Glob Z m_OA w_REJECTED w_EMPTY_ELEMENTDATA w_DEFAULTCAPACITY_EMPTY_ELEMENTDATA w_EMPTY_LIST w_EMPTY_LIST_elements w_EMPTY k_w_EMPTY_ELEMENTDATA k_w_DEFAULTCAPACITY_EMPTY_ELEMENTDATA k_w_EMPTY_LIST_elements) (a1 : Addr) (k5 : ClassId) (a6 : Addr) (h0 : Heap) (n0 : Nat) (O0 : Old Z n0 h0) (V_a1 : Arv Z h0 a1 k5 (.object "java/lang/Object") (10 : Int32) [(.ref a6), .null, .null, .null, .null, .null, .null, .null, .null, .null] .null) (O_k5 : Ovr Z k5 "java/lang/Object") (E_a6 : Exa Z h0 a6 "com/example/curtail/curtail/Placement$Cell") :
    MetFree l (⟨"java/util/Arrays", "copyOf", "([Ljava/lang/Object;ILjava/lang/Class;)[Ljava/lang/Object;"⟩ : MethodName) (head1 (Jvm.Cond.code (⟨"java/util/Arrays", "copyOf", "([Ljava/lang/Object;ILjava/lang/Class;)[Ljava/lang/Object;"⟩ : MethodName) jdk_65_method_120_code 4 (some (.array (.object "java/lang/Object"))) :: ws) ({ frames := 1, cells := 1, slots := 1, locals := 18 } : Room)) (fun a U => a = #[(.ref a1), (.int (1 : Int32)), (.ref m_OA)] ∧ Z.Warmed39 U.vm ∧ U.heap = h0) (fun _ _ _ _ _ => True) (fun _ U o U' => ∃ v L, o = .returned v ∧ Q23 Z m_OA w_REJECTED w_EMPTY_ELEMENTDATA w_DEFAULTCAPACITY_EMPTY_ELEMENTDATA w_EMPTY_LIST w_EMPTY_LIST_elements w_EMPTY k_w_EMPTY_ELEMENTDATA k_w_DEFAULTCAPACITY_EMPTY_ELEMENTDATA k_w_EMPTY_LIST_elements a1 k5 a6 h0 n0 v U'.heap L ∧ FrameEnd U o U' L ({ frames := 1, cells := 1, slots := 1, locals := 18 } : Room).cells ({ frames := 1, cells := 1, slots := 1, locals := 18 } : Room).slots) := by
  refine MetFree.of_bodySF (plainFor_of_name pn_java_util_Arrays) hisR ?_
  intro p e s m args below meth c s₁ Bd hml0 hP hK
  obtain ⟨rfl, hZ, hh⟩ := hP
  have hx := Bd.exec
  have hby := Bd.bytes
  have hml : c.maxLocals = 4 := hml0
  have hown : s.vm.findClass "java/util/Arrays" = some m.cls := findClass_of_methodNamed Bd.named
  have hnm := (name_of_methodNamed Bd.named Bd.method).1
  have X0 : Stand p l e ({ frames := 1, cells := 1, slots := 1, locals := 18 } : Room) s m #[(.ref a1), (.int (1 : Int32)), (.ref m_OA)] below meth c s₁ [] 0 0 := Stand.of_body Bd
  have e0 : s₁.heap = h0 := by rw [← hh, Bd.state]; rfl
  have N0 := Fr.nil n0
  show OGot p.tables e below (s₁.setTop (entryFrame m #[(.ref a1), (.int (1 : Int32)), (.ref m_OA)] 4)) _
  refine OGot.go (fun t k => castTop (ef23 m a1 m_OA) k) ?_
  show OGot p.tables e below (s₁.setTop (mkF m 0 #[.val (.ref a1), .val (.int (1 : Int32)), .val (.ref m_OA), .unset] [])) _
  refine OGot.go (fun t k => XS.aloadN X0.here hx rfl (hb hby d23_0) rfl rfl k) ?_
  show OGot p.tables e below (s₁.setTop (mkF m 1 #[.val (.ref a1), .val (.int (1 : Int32)), .val (.ref m_OA), .unset] [(.ref m_OA)])) _
  obtain ⟨T3, X3, e3, st3⟩ := oldcM X0 hx hZ hown (ow hw 162 rfl) e0 G.1 (g := (mkF m 1 #[.val (.ref a1), .val (.int (1 : Int32)), .val (.ref m_OA), .unset] [(.ref m_OA)])) rfl (hb hby d23_1)
  refine OGot.go st3 ?_
  show OGot p.tables e below (T3.setTop (mkF m 3 #[.val (.ref a1), .val (.int (1 : Int32)), .val (.ref m_OA), .unset] [(.ref m_OA), (.ref m_OA)])) _
  refine OGot.go (fun t k => Jvm.RoadKit.acmp (g := (mkF m 3 #[.val (.ref a1), .val (.int (1 : Int32)), .val (.ref m_OA), .unset] [(.ref m_OA), (.ref m_OA)])) X3 hx rfl rfl rfl (pc0 := 3) (pc' := 6) (same := true) rfl (hb hby d23_3) rfl (decide_eq_true rfl) (by decide) (by decide) k) ?_
  show OGot p.tables e below (T3.setTop (mkF m 6 #[.val (.ref a1), .val (.int (1 : Int32)), .val (.ref m_OA), .unset] [])) _
  refine OGot.go (fun t k => XS.iloadN X3.here hx rfl (hb hby d23_6) rfl k) ?_
  show OGot p.tables e below (T3.setTop (mkF m 7 #[.val (.ref a1), .val (.int (1 : Int32)), .val (.ref m_OA), .unset] [(.int (1 : Int32))])) _
  obtain ⟨T4, h4, k4, X4, e4, E4, A4, Ea4, V4, st4⟩ := newRE X3 hx hZ hown (ow hw 163 rfl) (ow hw 139 rfl) e3 (g := (mkF m 7 #[.val (.ref a1), .val (.int (1 : Int32)), .val (.ref m_OA), .unset] [(.int (1 : Int32))])) rfl (hb hby d23_7) rfl (by decide) (cap := 1) (by decide) (by decide) (by decide) (by decide) (ad := "[Ljava/lang/Object;") (by decide)
  obtain ⟨b4, g4⟩ : ∃ z, z = h0.size := ⟨_, rfl⟩
  rw [← g4] at A4 Ea4 st4
  refine OGot.go st4 ?_
  have g_b4 : n0 ≤ b4 := Nat.le_trans (osz O0) (Nat.le_of_eq g4.symm)
  have sy_b4 : h0.size ≤ b4 := Nat.le_of_eq g4.symm
  have sz_b4 : h0.size ≤ b4 := Nat.le_trans (OKeep.refl h0 []).1 sy_b4
  have K4 := (OKeep.refl h0 []).ext E4
  have O4 := O0.ext E4
  have Va4 : Arv Z h4 b4 k4 (.object "java/lang/Object") (1 : Int32) [.null] .null := (Arv.new A4 (by decide)).pad (pad_rep [] .null 1)
  show OGot p.tables e below (T4.setTop (mkF m 10 #[.val (.ref a1), .val (.int (1 : Int32)), .val (.ref m_OA), .unset] [(.ref b4)])) _
  refine OGot.go (fun t k => XS.goto X4.here hx rfl (pc0 := 10) (pc' := 24) rfl (hb hby d23_10) (by decide) (by decide) k) ?_
  show OGot p.tables e below (T4.setTop (mkF m 24 #[.val (.ref a1), .val (.int (1 : Int32)), .val (.ref m_OA), .unset] [(.ref b4)])) _
  refine OGot.go (fun t k => XS.astoreN X4.here hx rfl (hb hby d23_24) rfl rfl (l' := #[.val (.ref a1), .val (.int (1 : Int32)), .val (.ref m_OA), .val (.ref b4)]) rfl k) ?_
  show OGot p.tables e below (T4.setTop (mkF m 25 #[.val (.ref a1), .val (.int (1 : Int32)), .val (.ref m_OA), .val (.ref b4)] [])) _
  refine OGot.go (fun t k => XS.aloadN X4.here hx rfl (hb hby d23_25) rfl rfl k) ?_
  show OGot p.tables e below (T4.setTop (mkF m 26 #[.val (.ref a1), .val (.int (1 : Int32)), .val (.ref m_OA), .val (.ref b4)] [(.ref a1)])) _
  refine OGot.go (fun t k => XS.iconst X4.here hx rfl (hb hby d23_26) k) ?_
  show OGot p.tables e below (T4.setTop (mkF m 27 #[.val (.ref a1), .val (.int (1 : Int32)), .val (.ref m_OA), .val (.ref b4)] [(.int (0 : Int32)), (.ref a1)])) _
  refine OGot.go (fun t k => XS.aloadN X4.here hx rfl (hb hby d23_27) rfl rfl k) ?_
  show OGot p.tables e below (T4.setTop (mkF m 28 #[.val (.ref a1), .val (.int (1 : Int32)), .val (.ref m_OA), .val (.ref b4)] [(.ref b4), (.int (0 : Int32)), (.ref a1)])) _
  refine OGot.go (fun t k => XS.iconst X4.here hx rfl (hb hby d23_28) k) ?_
  show OGot p.tables e below (T4.setTop (mkF m 29 #[.val (.ref a1), .val (.int (1 : Int32)), .val (.ref m_OA), .val (.ref b4)] [(.int (0 : Int32)), (.ref b4), (.int (0 : Int32)), (.ref a1)])) _
  refine OGot.go (fun t k => XS.aloadN X4.here hx rfl (hb hby d23_29) rfl rfl k) ?_
  show OGot p.tables e below (T4.setTop (mkF m 30 #[.val (.ref a1), .val (.int (1 : Int32)), .val (.ref m_OA), .val (.ref b4)] [(.ref a1), (.int (0 : Int32)), (.ref b4), (.int (0 : Int32)), (.ref a1)])) _
  have F7 : Arv Z h4 a1 k5 (.object "java/lang/Object") (10 : Int32) [(.ref a6), .null, .null, .null, .null, .null, .null, .null, .null, .null] .null := (V_a1.ext E4)
  obtain ⟨cl8, Ar8, -, Sz8, Ng8, -, -⟩ := id (F7)
  refine OGot.go (fun t k => X4.arraylength hx (by rw [e4]; exact Ar8.1) (State.isArrayOf_alike hZ.alike Ar8.2.1) (g := (mkF m 30 #[.val (.ref a1), .val (.int (1 : Int32)), .val (.ref m_OA), .val (.ref b4)] [(.ref a1), (.int (0 : Int32)), (.ref b4), (.int (0 : Int32)), (.ref a1)])) rfl rfl (hb hby d23_30) _ k) ?_
  rw [len_of Sz8 Ng8]
  show OGot p.tables e below (T4.setTop (mkF m 31 #[.val (.ref a1), .val (.int (1 : Int32)), .val (.ref m_OA), .val (.ref b4)] [(.int (10 : Int32)), (.int (0 : Int32)), (.ref b4), (.int (0 : Int32)), (.ref a1)])) _
  refine OGot.go (fun t k => XS.iloadN X4.here hx rfl (hb hby d23_31) rfl k) ?_
  show OGot p.tables e below (T4.setTop (mkF m 32 #[.val (.ref a1), .val (.int (1 : Int32)), .val (.ref m_OA), .val (.ref b4)] [(.int (1 : Int32)), (.int (10 : Int32)), (.int (0 : Int32)), (.ref b4), (.int (0 : Int32)), (.ref a1)])) _
  obtain ⟨_, _, ⟨T9, L9, k9, n9⟩, -, X9, ⟨Lc9, hQ9, l9, y9, z9⟩, st9⟩ := Jvm.LawKit.callS X4 hx (y := (⟨"java/lang/Math", "min", "(II)I"⟩ : MethodName)) hown (mvT hZ (ow hw 164 rfl)) (mvT hZ (ow hw 2 rfl)) (mvT hZ (ow hw 3 rfl)) (mvT hZ (ow hw 4 rfl)) (by decide) (backOf (W := 4) (rm1_1 l Z a0 hw [] G  h4 n0 O4 ) hZ (ow hw 4 rfl) (ow hw 3 rfl) (by decide) (by decide)) (g := (mkF m 32 #[.val (.ref a1), .val (.int (1 : Int32)), .val (.ref m_OA), .val (.ref b4)] [(.int (1 : Int32)), (.int (10 : Int32)), (.int (0 : Int32)), (.ref b4), (.int (0 : Int32)), (.ref a1)])) rfl (by rw [hml]; rfl) (argsL := [(.int (10 : Int32)), (.int (1 : Int32))]) (rest := [(.int (0 : Int32)), (.ref b4), (.int (0 : Int32)), (.ref a1)]) (lenOf pd_0 rfl) rfl (by show 2 * 0 + _ ≤ _; exact Nat.le_of_eq rfl) (hb hby d23_32) (fun _ _ => ⟨rfl, e4, (by decide : 1 + 0 ≤ _), (by decide : 1 + 0 ≤ _)⟩)
  dsimp only [Pt.U, Pt.locs, Pt.cells, Pt.slots] at X9 l9 y9 z9 st9 hQ9
  subst l9 y9 z9
  obtain ⟨rfl, N9q, e9⟩ := hQ9
  have N9 := Fr.app N0 N9q
  refine OGot.go st9 ?_
  show OGot p.tables e below (T9.setTop (mkF m 35 #[.val (.ref a1), .val (.int (1 : Int32)), .val (.ref m_OA), .val (.ref b4)] [(.int (1 : Int32)), (.int (0 : Int32)), (.ref b4), (.int (0 : Int32)), (.ref a1)])) _
  obtain ⟨cb10, Ab10, qb10, -, -, -, -⟩ := id (Va4)
  obtain ⟨T10, h10, L10, X10, e10, N10, Kl10, Vc10, st10⟩ := cpA X9 hx hZ hown (ow hw 165 rfl) (ow hw 168 rfl) (ow hw 166 rfl) (ow hw 167 rfl) e9 F7 Va4 (us := [(.ref a6)]) (Or.inr ⟨rfl, rfl, ⟨Sto.ofV Ab10 qb10 V4 (Ins.of_exa (E_a6.ext E4) (ow hw 140 rfl)), trivial⟩⟩) (sp := (0 : Int32)) (dp := (0 : Int32)) (nn := (1 : Int32)) (by decide) (by decide) (by decide) (by decide) (by decide) rfl (by decide) N9 g_b4 (g := (mkF m 35 #[.val (.ref a1), .val (.int (1 : Int32)), .val (.ref m_OA), .val (.ref b4)] [(.int (1 : Int32)), (.int (0 : Int32)), (.ref b4), (.int (0 : Int32)), (.ref a1)])) rfl (by rw [hml]; rfl) rfl (hb hby d23_35) (by decide) (W := 0) (by show 2 * 0 + _ ≤ _; exact Nat.le_of_eq rfl) (by decide)
  refine OGot.go st10 ?_
  have O10 := O4.keep Kl10 (allS g_b4 all0)
  have K10 := OKeep.keepf K4 Kl10 sz_b4
  have Vd10 : Arv Z h10 b4 k4 (.object "java/lang/Object") (1 : Int32) [(.ref a6)] .null := Vc10
  show OGot p.tables e below (T10.setTop (mkF m 38 #[.val (.ref a1), .val (.int (1 : Int32)), .val (.ref m_OA), .val (.ref b4)] [])) _
  refine OGot.go (fun t k => XS.aloadN X10.here hx rfl (hb hby d23_38) rfl rfl k) ?_
  show OGot p.tables e below (T10.setTop (mkF m 39 #[.val (.ref a1), .val (.int (1 : Int32)), .val (.ref m_OA), .val (.ref b4)] [(.ref b4)])) _
  obtain ⟨fs, hr, hrun, hended, hW, hsame⟩ := X10.leave (v := some (.ref b4)) (fun h => by rw [Bd.returns] at h; cases h)
  refine ⟨_, _, oretA X10 hx Bd.returns rfl rfl (hb hby d23_39) hr, hrun, hended, _, _, rfl, ?_, ⟨_, rfl⟩, hW, hsame.mono (by decide) (by decide)⟩
  show Q23 Z m_OA w_REJECTED w_EMPTY_ELEMENTDATA w_DEFAULTCAPACITY_EMPTY_ELEMENTDATA w_EMPTY_LIST w_EMPTY_LIST_elements w_EMPTY k_w_EMPTY_ELEMENTDATA k_w_DEFAULTCAPACITY_EMPTY_ELEMENTDATA k_w_EMPTY_LIST_elements a1 k5 a6 h0 n0 _ T10.heap _
  rw [e10]
  exact ⟨N10, b4, k4, rfl, sz_b4, K10, (Ea4.keep Kl10), Vd10, V4⟩
theorem pd_12 : parseMethodDescriptor "([Ljava/lang/Object;ILjava/lang/Class;)[Ljava/lang/Object;" = some ⟨[(.array (.object "java/lang/Object")), .int, (.object "java/lang/Class")], some (.array (.object "java/lang/Object"))⟩ := by decide +kernel
theorem d22_9 : decode jdk_65_method_119_code 9 = .ok (.areturn, 1) := by decide +kernel
def Q22 (Z : State) (m_OA : Addr) (w_REJECTED : Addr) (w_EMPTY_ELEMENTDATA : Addr) (w_DEFAULTCAPACITY_EMPTY_ELEMENTDATA : Addr) (w_EMPTY_LIST : Addr) (w_EMPTY_LIST_elements : Addr) (w_EMPTY : Addr) (k_w_EMPTY_ELEMENTDATA : ClassId) (k_w_DEFAULTCAPACITY_EMPTY_ELEMENTDATA : ClassId) (k_w_EMPTY_LIST_elements : ClassId) (a1 : Addr) (k3 : ClassId) (a4 : Addr) (h0 : Heap) (n0 : Nat) (v : Option Value) (h : Heap) (L : List Loc) : Prop := Fr n0 L ∧ ∃ b4_5 : Addr, ∃ k4_5 : ClassId, v = some (.ref b4_5) ∧ h0.size ≤ b4_5 ∧ OKeep h0 h [] ∧ Exa Z h b4_5 "[Ljava/lang/Object;" ∧ Arv Z h b4_5 k4_5 (.object "java/lang/Object") (1 : Int32) [(.ref a4)] .null ∧ Ovr Z k4_5 "java/lang/Object"
theorem ef22 (m : MethodId) (x0 : Addr) : entryFrame m #[(.ref x0), (.int (1 : Int32))] 2 = mkF m 0 #[.val (.ref x0), .val (.int (1 : Int32))] [] := by first | (simp [entryFrame, mkF, argsToLocals, Value.category]; done) | rfl
set_option maxRecDepth 65536 in
set_option maxHeartbeats 40000000 in
theorem rm22 (l : Launch) (Z : State) (a0 : Array Value) (hw : ∀ d ∈ tables_1, d.before a0 Z = true) (ws : List Jvm.Cond) {m_OA : Addr} {w_REJECTED : Addr} {w_EMPTY_ELEMENTDATA : Addr} {w_DEFAULTCAPACITY_EMPTY_ELEMENTDATA : Addr} {w_EMPTY_LIST : Addr} {w_EMPTY_LIST_elements : Addr} {w_EMPTY : Addr} {k_w_EMPTY_ELEMENTDATA : ClassId} {k_w_DEFAULTCAPACITY_EMPTY_ELEMENTDATA : ClassId} {k_w_EMPTY_LIST_elements : ClassId} (G : Glob Z m_OA w_REJECTED w_EMPTY_ELEMENTDATA w_DEFAULTCAPACITY_EMPTY_ELEMENTDATA w_EMPTY_LIST w_EMPTY_LIST_elements w_EMPTY k_w_EMPTY_ELEMENTDATA k_w_DEFAULTCAPACITY_EMPTY_ELEMENTDATA k_w_EMPTY_LIST_elements) (a1 : Addr) (k3 : ClassId) (a4 : Addr) (h0 : Heap) (n0 : Nat) (O0 : Old Z n0 h0) (E_a1 : Exa Z h0 a1 "[Ljava/lang/Object;") (V_a1 : Arv Z h0 a1 k3 (.object "java/lang/Object") (10 : Int32) [(.ref a4), .null, .null, .null, .null, .null, .null, .null, .null, .null] .null) (O_k3 : Ovr Z k3 "java/lang/Object") (E_a4 : Exa Z h0 a4 "com/example/curtail/curtail/Placement$Cell") :
    MetFree l (⟨"java/util/Arrays", "copyOf", "([Ljava/lang/Object;I)[Ljava/lang/Object;"⟩ : MethodName) (head1 (Jvm.Cond.code (⟨"java/util/Arrays", "copyOf", "([Ljava/lang/Object;I)[Ljava/lang/Object;"⟩ : MethodName) jdk_65_method_119_code 2 (some (.array (.object "java/lang/Object"))) :: ws) ({ frames := 2, cells := 1, slots := 1, locals := 33 } : Room)) (fun a U => a = #[(.ref a1), (.int (1 : Int32))] ∧ Z.Warmed39 U.vm ∧ U.heap = h0) (fun _ _ _ _ _ => True) (fun _ U o U' => ∃ v L, o = .returned v ∧ Q22 Z m_OA w_REJECTED w_EMPTY_ELEMENTDATA w_DEFAULTCAPACITY_EMPTY_ELEMENTDATA w_EMPTY_LIST w_EMPTY_LIST_elements w_EMPTY k_w_EMPTY_ELEMENTDATA k_w_DEFAULTCAPACITY_EMPTY_ELEMENTDATA k_w_EMPTY_LIST_elements a1 k3 a4 h0 n0 v U'.heap L ∧ FrameEnd U o U' L ({ frames := 2, cells := 1, slots := 1, locals := 33 } : Room).cells ({ frames := 2, cells := 1, slots := 1, locals := 33 } : Room).slots) := by
  refine MetFree.of_bodySF (plainFor_of_name pn_java_util_Arrays) hisR ?_
  intro p e s m args below meth c s₁ Bd hml0 hP hK
  obtain ⟨rfl, hZ, hh⟩ := hP
  have hx := Bd.exec
  have hby := Bd.bytes
  have hml : c.maxLocals = 2 := hml0
  have hown : s.vm.findClass "java/util/Arrays" = some m.cls := findClass_of_methodNamed Bd.named
  have hnm := (name_of_methodNamed Bd.named Bd.method).1
  have X0 : Stand p l e ({ frames := 2, cells := 1, slots := 1, locals := 33 } : Room) s m #[(.ref a1), (.int (1 : Int32))] below meth c s₁ [] 0 0 := Stand.of_body Bd
  have e0 : s₁.heap = h0 := by rw [← hh, Bd.state]; rfl
  have N0 := Fr.nil n0
  show OGot p.tables e below (s₁.setTop (entryFrame m #[(.ref a1), (.int (1 : Int32))] 2)) _
  refine OGot.go (fun t k => castTop (ef22 m a1) k) ?_
  show OGot p.tables e below (s₁.setTop (mkF m 0 #[.val (.ref a1), .val (.int (1 : Int32))] [])) _
  refine OGot.go (fun t k => XS.aloadN X0.here hx rfl (hb hby d22_0) rfl rfl k) ?_
  show OGot p.tables e below (s₁.setTop (mkF m 1 #[.val (.ref a1), .val (.int (1 : Int32))] [(.ref a1)])) _
  refine OGot.go (fun t k => XS.iloadN X0.here hx rfl (hb hby d22_1) rfl k) ?_
  show OGot p.tables e below (s₁.setTop (mkF m 2 #[.val (.ref a1), .val (.int (1 : Int32))] [(.int (1 : Int32)), (.ref a1)])) _
  refine OGot.go (fun t k => XS.aloadN X0.here hx rfl (hb hby d22_2) rfl rfl k) ?_
  show OGot p.tables e below (s₁.setTop (mkF m 3 #[.val (.ref a1), .val (.int (1 : Int32))] [(.ref a1), (.int (1 : Int32)), (.ref a1)])) _
  obtain ⟨T2, X2, e2, st2⟩ := ogcls X0 hx hZ hown (ow hw 153 rfl) (ow hw 154 rfl) (ow hw 58 rfl) (ow hw 156 rfl) (ow hw 155 rfl) (ow hw 157 rfl) e0 E_a1 G.1 (g := (mkF m 3 #[.val (.ref a1), .val (.int (1 : Int32))] [(.ref a1), (.int (1 : Int32)), (.ref a1)])) rfl (by rw [hml]; rfl) rfl (hb hby d22_3) (by decide) (W := 2) (by show 2 * 0 + _ ≤ _; exact Nat.le_of_eq rfl) (by decide)
  refine OGot.go st2 ?_
  show OGot p.tables e below (T2.setTop (mkF m 6 #[.val (.ref a1), .val (.int (1 : Int32))] [(.ref m_OA), (.int (1 : Int32)), (.ref a1)])) _
  obtain ⟨_, _, ⟨T5, L5, k5, n5⟩, -, X5, ⟨Lc5, hQ5, l5, y5, z5⟩, st5⟩ := Jvm.LawKit.callS X2 hx (y := (⟨"java/util/Arrays", "copyOf", "([Ljava/lang/Object;ILjava/lang/Class;)[Ljava/lang/Object;"⟩ : MethodName)) hown (mvT hZ (ow hw 159 rfl)) (mvT hZ (ow hw 160 rfl)) (mvT hZ (ow hw 151 rfl)) (mvT hZ (ow hw 161 rfl)) (by decide) (backOf (W := 0) (rm23 l Z a0 hw [] G a1 k3 a4 h0 n0 O0 V_a1 O_k3 E_a4) hZ (ow hw 161 rfl) (ow hw 151 rfl) (by decide) (by decide)) (g := (mkF m 6 #[.val (.ref a1), .val (.int (1 : Int32))] [(.ref m_OA), (.int (1 : Int32)), (.ref a1)])) rfl (by rw [hml]; rfl) (argsL := [(.ref a1), (.int (1 : Int32)), (.ref m_OA)]) (rest := []) (lenOf pd_12 rfl) rfl (by show 2 * 0 + _ ≤ _; exact Nat.le_of_eq rfl) (hb hby d22_6) (fun _ _ => ⟨rfl, e2, (by decide : 0 + 1 ≤ _), (by decide : 0 + 1 ≤ _)⟩)
  dsimp only [Pt.U, Pt.locs, Pt.cells, Pt.slots] at X5 l5 y5 z5 st5 hQ5
  subst l5 y5 z5
  obtain ⟨N5q, b4_5, k4_5, rfl, szb4_5_5, K5, Fo5_0, Fo5_1, Fo5_2⟩ := hQ5
  have g_b4_5 : n0 ≤ b4_5 := Nat.le_trans (osz O0) szb4_5_5
  have sz_b4_5 : h0.size ≤ b4_5 := Nat.le_trans (OKeep.refl h0 []).1 szb4_5_5
  have Kc5 := (OKeep.refl h0 []).trans K5 oin0
  have O5 := OKeep.old O0 K5 oge0
  have N5 := Fr.app N0 N5q
  refine OGot.go st5 ?_
  show OGot p.tables e below (T5.setTop (mkF m 9 #[.val (.ref a1), .val (.int (1 : Int32))] [(.ref b4_5)])) _
  obtain ⟨fs, hr, hrun, hended, hW, hsame⟩ := X5.leave (v := some (.ref b4_5)) (fun h => by rw [Bd.returns] at h; cases h)
  refine ⟨_, _, oretA X5 hx Bd.returns rfl rfl (hb hby d22_9) hr, hrun, hended, _, _, rfl, ?_, ⟨_, rfl⟩, hW, hsame.mono (by decide) (by decide)⟩
  show Q22 Z m_OA w_REJECTED w_EMPTY_ELEMENTDATA w_DEFAULTCAPACITY_EMPTY_ELEMENTDATA w_EMPTY_LIST w_EMPTY_LIST_elements w_EMPTY k_w_EMPTY_ELEMENTDATA k_w_DEFAULTCAPACITY_EMPTY_ELEMENTDATA k_w_EMPTY_LIST_elements a1 k3 a4 h0 n0 _ T5.heap _
  exact ⟨N5, b4_5, k4_5, rfl, sz_b4_5, Kc5, Fo5_0, Fo5_1, Fo5_2⟩
theorem pd_13 : parseMethodDescriptor "([Ljava/lang/Object;I)[Ljava/lang/Object;" = some ⟨[(.array (.object "java/lang/Object")), .int], some (.array (.object "java/lang/Object"))⟩ := by decide +kernel
theorem d21_11 : decode jdk_38_method_16_code 11 = .ok (.areturn, 1) := by decide +kernel
def Q21 (Z : State) (m_OA : Addr) (w_REJECTED : Addr) (w_EMPTY_ELEMENTDATA : Addr) (w_DEFAULTCAPACITY_EMPTY_ELEMENTDATA : Addr) (w_EMPTY_LIST : Addr) (w_EMPTY_LIST_elements : Addr) (w_EMPTY : Addr) (k_w_EMPTY_ELEMENTDATA : ClassId) (k_w_DEFAULTCAPACITY_EMPTY_ELEMENTDATA : ClassId) (k_w_EMPTY_LIST_elements : ClassId) (a1 : Addr) (a2 : Addr) (k5 : ClassId) (a6 : Addr) (h0 : Heap) (n0 : Nat) (v : Option Value) (h : Heap) (L : List Loc) : Prop := Fr n0 L ∧ ∃ b4_5_7 : Addr, ∃ k4_5_7 : ClassId, v = some (.ref b4_5_7) ∧ h0.size ≤ b4_5_7 ∧ OKeep h0 h [] ∧ Exa Z h b4_5_7 "[Ljava/lang/Object;" ∧ Arv Z h b4_5_7 k4_5_7 (.object "java/lang/Object") (1 : Int32) [(.ref a6)] .null ∧ Ovr Z k4_5_7 "java/lang/Object"
theorem ef21 (m : MethodId) (x0 : Addr) : entryFrame m #[(.ref x0)] 1 = mkF m 0 #[.val (.ref x0)] [] := by first | (simp [entryFrame, mkF, argsToLocals, Value.category]; done) | rfl
set_option maxRecDepth 65536 in
set_option maxHeartbeats 40000000 in
theorem rm21 (l : Launch) (Z : State) (a0 : Array Value) (hw : ∀ d ∈ tables_1, d.before a0 Z = true) (ws : List Jvm.Cond) {m_OA : Addr} {w_REJECTED : Addr} {w_EMPTY_ELEMENTDATA : Addr} {w_DEFAULTCAPACITY_EMPTY_ELEMENTDATA : Addr} {w_EMPTY_LIST : Addr} {w_EMPTY_LIST_elements : Addr} {w_EMPTY : Addr} {k_w_EMPTY_ELEMENTDATA : ClassId} {k_w_DEFAULTCAPACITY_EMPTY_ELEMENTDATA : ClassId} {k_w_EMPTY_LIST_elements : ClassId} (G : Glob Z m_OA w_REJECTED w_EMPTY_ELEMENTDATA w_DEFAULTCAPACITY_EMPTY_ELEMENTDATA w_EMPTY_LIST w_EMPTY_LIST_elements w_EMPTY k_w_EMPTY_ELEMENTDATA k_w_DEFAULTCAPACITY_EMPTY_ELEMENTDATA k_w_EMPTY_LIST_elements) (a1 : Addr) (a2 : Addr) (k5 : ClassId) (a6 : Addr) (h0 : Heap) (n0 : Nat) (O0 : Old Z n0 h0) (F_elementData_a1 : Fld Z h0 a1 "java/util/ArrayList" "elementData" "[Ljava/lang/Object;" (.ref a2)) (F_size_a1 : Fld Z h0 a1 "java/util/ArrayList" "size" "I" (.int (1 : Int32))) (E_a2 : Exa Z h0 a2 "[Ljava/lang/Object;") (V_a2 : Arv Z h0 a2 k5 (.object "java/lang/Object") (10 : Int32) [(.ref a6), .null, .null, .null, .null, .null, .null, .null, .null, .null] .null) (O_k5 : Ovr Z k5 "java/lang/Object") (E_a6 : Exa Z h0 a6 "com/example/curtail/curtail/Placement$Cell") :
    MetFree l (⟨"java/util/ArrayList", "toArray", "()[Ljava/lang/Object;"⟩ : MethodName) (head1 (Jvm.Cond.code (⟨"java/util/ArrayList", "toArray", "()[Ljava/lang/Object;"⟩ : MethodName) jdk_38_method_16_code 1 (some (.array (.object "java/lang/Object"))) :: ws) ({ frames := 3, cells := 1, slots := 1, locals := 46 } : Room)) (fun a U => a = #[(.ref a1)] ∧ Z.Warmed39 U.vm ∧ U.heap = h0) (fun _ _ _ _ _ => True) (fun _ U o U' => ∃ v L, o = .returned v ∧ Q21 Z m_OA w_REJECTED w_EMPTY_ELEMENTDATA w_DEFAULTCAPACITY_EMPTY_ELEMENTDATA w_EMPTY_LIST w_EMPTY_LIST_elements w_EMPTY k_w_EMPTY_ELEMENTDATA k_w_DEFAULTCAPACITY_EMPTY_ELEMENTDATA k_w_EMPTY_LIST_elements a1 a2 k5 a6 h0 n0 v U'.heap L ∧ FrameEnd U o U' L ({ frames := 3, cells := 1, slots := 1, locals := 46 } : Room).cells ({ frames := 3, cells := 1, slots := 1, locals := 46 } : Room).slots) := by
  refine MetFree.of_bodySF (plainFor_of_name pn_java_util_ArrayList) hisR ?_
  intro p e s m args below meth c s₁ Bd hml0 hP hK
  obtain ⟨rfl, hZ, hh⟩ := hP
  have hx := Bd.exec
  have hby := Bd.bytes
  have hml : c.maxLocals = 1 := hml0
  have hown : s.vm.findClass "java/util/ArrayList" = some m.cls := findClass_of_methodNamed Bd.named
  have hnm := (name_of_methodNamed Bd.named Bd.method).1
  have X0 : Stand p l e ({ frames := 3, cells := 1, slots := 1, locals := 46 } : Room) s m #[(.ref a1)] below meth c s₁ [] 0 0 := Stand.of_body Bd
  have e0 : s₁.heap = h0 := by rw [← hh, Bd.state]; rfl
  have N0 := Fr.nil n0
  show OGot p.tables e below (s₁.setTop (entryFrame m #[(.ref a1)] 1)) _
  refine OGot.go (fun t k => castTop (ef21 m a1) k) ?_
  show OGot p.tables e below (s₁.setTop (mkF m 0 #[.val (.ref a1)] [])) _
  refine OGot.go (fun t k => XS.aloadN X0.here hx rfl (hb hby d21_0) rfl rfl k) ?_
  show OGot p.tables e below (s₁.setTop (mkF m 1 #[.val (.ref a1)] [(.ref a1)])) _
  obtain ⟨T3, X3, e3, st3⟩ := getF X0 hx hZ hown (host := "") (Or.inl (ow hw 32 rfl)) Via.refl e0 F_elementData_a1 (g := (mkF m 1 #[.val (.ref a1)] [(.ref a1)])) rfl rfl (hb hby d21_1)
  refine OGot.go st3 ?_
  show OGot p.tables e below (T3.setTop (mkF m 4 #[.val (.ref a1)] [(.ref a2)])) _
  refine OGot.go (fun t k => XS.aloadN X3.here hx rfl (hb hby d21_4) rfl rfl k) ?_
  show OGot p.tables e below (T3.setTop (mkF m 5 #[.val (.ref a1)] [(.ref a1), (.ref a2)])) _
  obtain ⟨T4, X4, e4, st4⟩ := getF X3 hx hZ hown (host := "") (Or.inl (ow hw 69 rfl)) Via.refl e3 F_size_a1 (g := (mkF m 5 #[.val (.ref a1)] [(.ref a1), (.ref a2)])) rfl rfl (hb hby d21_5)
  refine OGot.go st4 ?_
  show OGot p.tables e below (T4.setTop (mkF m 8 #[.val (.ref a1)] [(.int (1 : Int32)), (.ref a2)])) _
  obtain ⟨_, _, ⟨T7, L7, k7, n7⟩, -, X7, ⟨Lc7, hQ7, l7, y7, z7⟩, st7⟩ := Jvm.LawKit.callS X4 hx (y := (⟨"java/util/Arrays", "copyOf", "([Ljava/lang/Object;I)[Ljava/lang/Object;"⟩ : MethodName)) hown (mvT hZ (ow hw 149 rfl)) (mvT hZ (ow hw 150 rfl)) (mvT hZ (ow hw 151 rfl)) (mvT hZ (ow hw 152 rfl)) (by decide) (backOf (W := 0) (rm22 l Z a0 hw [] G a2 k5 a6 h0 n0 O0 E_a2 V_a2 O_k5 E_a6) hZ (ow hw 152 rfl) (ow hw 151 rfl) (by decide) (by decide)) (g := (mkF m 8 #[.val (.ref a1)] [(.int (1 : Int32)), (.ref a2)])) rfl (by rw [hml]; rfl) (argsL := [(.ref a2), (.int (1 : Int32))]) (rest := []) (lenOf pd_13 rfl) rfl (by show 2 * 0 + _ ≤ _; exact Nat.le_of_eq rfl) (hb hby d21_8) (fun _ _ => ⟨rfl, e4, (by decide : 0 + 1 ≤ _), (by decide : 0 + 1 ≤ _)⟩)
  dsimp only [Pt.U, Pt.locs, Pt.cells, Pt.slots] at X7 l7 y7 z7 st7 hQ7
  subst l7 y7 z7
  obtain ⟨N7q, b4_5_7, k4_5_7, rfl, szb4_5_7_7, K7, Fo7_0, Fo7_1, Fo7_2⟩ := hQ7
  have g_b4_5_7 : n0 ≤ b4_5_7 := Nat.le_trans (osz O0) szb4_5_7_7
  have sz_b4_5_7 : h0.size ≤ b4_5_7 := Nat.le_trans (OKeep.refl h0 []).1 szb4_5_7_7
  have Kc7 := (OKeep.refl h0 []).trans K7 oin0
  have O7 := OKeep.old O0 K7 oge0
  have N7 := Fr.app N0 N7q
  refine OGot.go st7 ?_
  show OGot p.tables e below (T7.setTop (mkF m 11 #[.val (.ref a1)] [(.ref b4_5_7)])) _
  obtain ⟨fs, hr, hrun, hended, hW, hsame⟩ := X7.leave (v := some (.ref b4_5_7)) (fun h => by rw [Bd.returns] at h; cases h)
  refine ⟨_, _, oretA X7 hx Bd.returns rfl rfl (hb hby d21_11) hr, hrun, hended, _, _, rfl, ?_, ⟨_, rfl⟩, hW, hsame.mono (by decide) (by decide)⟩
  show Q21 Z m_OA w_REJECTED w_EMPTY_ELEMENTDATA w_DEFAULTCAPACITY_EMPTY_ELEMENTDATA w_EMPTY_LIST w_EMPTY_LIST_elements w_EMPTY k_w_EMPTY_ELEMENTDATA k_w_DEFAULTCAPACITY_EMPTY_ELEMENTDATA k_w_EMPTY_LIST_elements a1 a2 k5 a6 h0 n0 _ T7.heap _
  exact ⟨N7, b4_5_7, k4_5_7, rfl, sz_b4_5_7, Kc7, Fo7_0, Fo7_1, Fo7_2⟩
theorem d10_50 : decode jdk_56_method_3_code 50 = .ok (.invokestatic 34, 3) := by decide +kernel
theorem d24_0 : decode jdk_40_method_47_code 0 = .ok (.aload_n 0, 1) := by decide +kernel
theorem d24_1 : decode jdk_40_method_47_code 1 = .ok (.arraylength, 1) := by decide +kernel
theorem d24_2 : decode jdk_40_method_47_code 2 = .ok (.tableswitch 57 0 2 #[26, 32, 43], 26) := by decide +kernel
theorem d24_34 : decode jdk_40_method_47_code 34 = .ok (.new 96, 3) := by decide +kernel
theorem d24_37 : decode jdk_40_method_47_code 37 = .ok (.dup, 1) := by decide +kernel
theorem d24_38 : decode jdk_40_method_47_code 38 = .ok (.aload_n 0, 1) := by decide +kernel
theorem d24_39 : decode jdk_40_method_47_code 39 = .ok (.iconst 0, 1) := by decide +kernel
theorem d24_40 : decode jdk_40_method_47_code 40 = .ok (.aaload, 1) := by decide +kernel
theorem d24_41 : decode jdk_40_method_47_code 41 = .ok (.invokespecial 98, 3) := by decide +kernel
theorem d34_0 : decode jdk_44_method_1_code 0 = .ok (.aload_n 0, 1) := by decide +kernel
theorem d34_1 : decode jdk_44_method_1_code 1 = .ok (.invokespecial 1, 3) := by decide +kernel
theorem d26_0 : decode jdk_46_method_1_code 0 = .ok (.aload_n 0, 1) := by decide +kernel
theorem d26_1 : decode jdk_46_method_1_code 1 = .ok (.invokespecial 1, 3) := by decide +kernel
theorem d27_0 : decode jdk_47_method_1_code 0 = .ok (.aload_n 0, 1) := by decide +kernel
theorem d27_1 : decode jdk_47_method_1_code 1 = .ok (.invokespecial 1, 3) := by decide +kernel
theorem d27_4 : decode jdk_47_method_1_code 4 = .ok (.return_, 1) := by decide +kernel
theorem pn_java_util_ImmutableCollections_AbstractImmutableCollection : plainName "java/util/ImmutableCollections$AbstractImmutableCollection" = true := by first | (simp [plainName, overriddenIn]; done) | decide +kernel
def Q27 (Z : State) (m_OA : Addr) (w_REJECTED : Addr) (w_EMPTY_ELEMENTDATA : Addr) (w_DEFAULTCAPACITY_EMPTY_ELEMENTDATA : Addr) (w_EMPTY_LIST : Addr) (w_EMPTY_LIST_elements : Addr) (w_EMPTY : Addr) (k_w_EMPTY_ELEMENTDATA : ClassId) (k_w_DEFAULTCAPACITY_EMPTY_ELEMENTDATA : ClassId) (k_w_EMPTY_LIST_elements : ClassId) (a1 : Addr) (h0 : Heap) (n0 : Nat) (v : Option Value) (h : Heap) (L : List Loc) : Prop := v = none ∧ Fr n0 L ∧ h = h0
theorem ef27 (m : MethodId) (x0 : Addr) : entryFrame m #[(.ref x0)] 1 = mkF m 0 #[.val (.ref x0)] [] := by first | (simp [entryFrame, mkF, argsToLocals, Value.category]; done) | rfl
set_option maxRecDepth 65536 in
set_option maxHeartbeats 40000000 in
theorem rm27 (l : Launch) (Z : State) (a0 : Array Value) (hw : ∀ d ∈ tables_1, d.before a0 Z = true) (ws : List Jvm.Cond) {m_OA : Addr} {w_REJECTED : Addr} {w_EMPTY_ELEMENTDATA : Addr} {w_DEFAULTCAPACITY_EMPTY_ELEMENTDATA : Addr} {w_EMPTY_LIST : Addr} {w_EMPTY_LIST_elements : Addr} {w_EMPTY : Addr} {k_w_EMPTY_ELEMENTDATA : ClassId} {k_w_DEFAULTCAPACITY_EMPTY_ELEMENTDATA : ClassId} {k_w_EMPTY_LIST_elements : ClassId} (G : Glob Z m_OA w_REJECTED w_EMPTY_ELEMENTDATA w_DEFAULTCAPACITY_EMPTY_ELEMENTDATA w_EMPTY_LIST w_EMPTY_LIST_elements w_EMPTY k_w_EMPTY_ELEMENTDATA k_w_DEFAULTCAPACITY_EMPTY_ELEMENTDATA k_w_EMPTY_LIST_elements) (a1 : Addr) (h0 : Heap) (n0 : Nat) (O0 : Old Z n0 h0) :
    MetFree l (⟨"java/util/ImmutableCollections$AbstractImmutableCollection", "<init>", "()V"⟩ : MethodName) (head1 (Jvm.Cond.code (⟨"java/util/ImmutableCollections$AbstractImmutableCollection", "<init>", "()V"⟩ : MethodName) jdk_47_method_1_code 1 none :: ws) ({ frames := 2, cells := 0, slots := 0, locals := 24 } : Room)) (fun a U => a = #[(.ref a1)] ∧ Z.Warmed39 U.vm ∧ U.heap = h0) (fun _ _ _ _ _ => True) (fun _ U o U' => ∃ v L, o = .returned v ∧ Q27 Z m_OA w_REJECTED w_EMPTY_ELEMENTDATA w_DEFAULTCAPACITY_EMPTY_ELEMENTDATA w_EMPTY_LIST w_EMPTY_LIST_elements w_EMPTY k_w_EMPTY_ELEMENTDATA k_w_DEFAULTCAPACITY_EMPTY_ELEMENTDATA k_w_EMPTY_LIST_elements a1 h0 n0 v U'.heap L ∧ FrameEnd U o U' L ({ frames := 2, cells := 0, slots := 0, locals := 24 } : Room).cells ({ frames := 2, cells := 0, slots := 0, locals := 24 } : Room).slots) := by
  refine MetFree.of_bodySF (plainFor_of_name pn_java_util_ImmutableCollections_AbstractImmutableCollection) hisR ?_
  intro p e s m args below meth c s₁ Bd hml0 hP hK
  obtain ⟨rfl, hZ, hh⟩ := hP
  have hx := Bd.exec
  have hby := Bd.bytes
  have hml : c.maxLocals = 1 := hml0
  have hown : s.vm.findClass "java/util/ImmutableCollections$AbstractImmutableCollection" = some m.cls := findClass_of_methodNamed Bd.named
  have hnm := (name_of_methodNamed Bd.named Bd.method).1
  have X0 : Stand p l e ({ frames := 2, cells := 0, slots := 0, locals := 24 } : Room) s m #[(.ref a1)] below meth c s₁ [] 0 0 := Stand.of_body Bd
  have e0 : s₁.heap = h0 := by rw [← hh, Bd.state]; rfl
  have N0 := Fr.nil n0
  show OGot p.tables e below (s₁.setTop (entryFrame m #[(.ref a1)] 1)) _
  refine OGot.go (fun t k => castTop (ef27 m a1) k) ?_
  show OGot p.tables e below (s₁.setTop (mkF m 0 #[.val (.ref a1)] [])) _
  refine OGot.go (fun t k => XS.aloadN X0.here hx rfl (hb hby d27_0) rfl rfl k) ?_
  show OGot p.tables e below (s₁.setTop (mkF m 1 #[.val (.ref a1)] [(.ref a1)])) _
  obtain ⟨_, _, ⟨T2, L2, k2, n2⟩, -, X2, ⟨Lc2, hQ2, l2, y2, z2⟩, st2⟩ := X0.specialBack hx (y := (⟨"java/util/AbstractCollection", "<init>", "()V"⟩ : MethodName)) rfl hown (mvT hZ (ow hw 191 rfl)) (mvT hZ (ow hw 21 rfl)) (mvT hZ (ow hw 25 rfl)) (by decide) (backOf (W := 0) (rm5 l Z a0 hw [] G a1 h0 n0 O0 ) hZ (ow hw 25 rfl) (ow hw 24 rfl) (by decide) (by decide)) (g := (mkF m 1 #[.val (.ref a1)] [(.ref a1)])) rfl (by rw [hml]; rfl) (Steps.refl _) (a := a1) (argsL := []) (rest := []) (lenOf pd_1 rfl) rfl (by show 2 * 0 + _ ≤ _; exact Nat.le_of_eq rfl) (hb hby d27_1) (fun _ _ => ⟨rfl, e0, (by decide : 0 + 0 ≤ _), (by decide : 0 + 0 ≤ _)⟩)
  dsimp only [Pt.U, Pt.locs, Pt.cells, Pt.slots] at X2 l2 y2 z2 st2 hQ2
  subst l2 y2 z2
  obtain ⟨rfl, N2q, e2⟩ := hQ2
  have N2 := Fr.app N0 N2q
  refine OGot.on st2 ?_
  show OGot p.tables e below (T2.setTop (mkF m 4 #[.val (.ref a1)] [])) _
  obtain ⟨fs, hr, hrun, hended, hW, hsame⟩ := X2.leave (v := none) (fun _ => rfl)
  refine ⟨_, _, X2.returnOut hx Bd.returns (hb hby d27_4) hr, hrun, hended, _, _, rfl, ?_, ⟨_, rfl⟩, hW, hsame.mono (by decide) (by decide)⟩
  exact (⟨rfl, N2, e2⟩ : Q27 Z m_OA w_REJECTED w_EMPTY_ELEMENTDATA w_DEFAULTCAPACITY_EMPTY_ELEMENTDATA w_EMPTY_LIST w_EMPTY_LIST_elements w_EMPTY k_w_EMPTY_ELEMENTDATA k_w_DEFAULTCAPACITY_EMPTY_ELEMENTDATA k_w_EMPTY_LIST_elements a1 h0 n0 _ T2.heap _)
theorem d26_4 : decode jdk_46_method_1_code 4 = .ok (.return_, 1) := by decide +kernel
theorem pn_java_util_ImmutableCollections_AbstractImmutableList : plainName "java/util/ImmutableCollections$AbstractImmutableList" = true := by first | (simp [plainName, overriddenIn]; done) | decide +kernel
def Q26 (Z : State) (m_OA : Addr) (w_REJECTED : Addr) (w_EMPTY_ELEMENTDATA : Addr) (w_DEFAULTCAPACITY_EMPTY_ELEMENTDATA : Addr) (w_EMPTY_LIST : Addr) (w_EMPTY_LIST_elements : Addr) (w_EMPTY : Addr) (k_w_EMPTY_ELEMENTDATA : ClassId) (k_w_DEFAULTCAPACITY_EMPTY_ELEMENTDATA : ClassId) (k_w_EMPTY_LIST_elements : ClassId) (a1 : Addr) (h0 : Heap) (n0 : Nat) (v : Option Value) (h : Heap) (L : List Loc) : Prop := v = none ∧ Fr n0 L ∧ h = h0
theorem ef26 (m : MethodId) (x0 : Addr) : entryFrame m #[(.ref x0)] 1 = mkF m 0 #[.val (.ref x0)] [] := by first | (simp [entryFrame, mkF, argsToLocals, Value.category]; done) | rfl
set_option maxRecDepth 65536 in
set_option maxHeartbeats 40000000 in
theorem rm26 (l : Launch) (Z : State) (a0 : Array Value) (hw : ∀ d ∈ tables_1, d.before a0 Z = true) (ws : List Jvm.Cond) {m_OA : Addr} {w_REJECTED : Addr} {w_EMPTY_ELEMENTDATA : Addr} {w_DEFAULTCAPACITY_EMPTY_ELEMENTDATA : Addr} {w_EMPTY_LIST : Addr} {w_EMPTY_LIST_elements : Addr} {w_EMPTY : Addr} {k_w_EMPTY_ELEMENTDATA : ClassId} {k_w_DEFAULTCAPACITY_EMPTY_ELEMENTDATA : ClassId} {k_w_EMPTY_LIST_elements : ClassId} (G : Glob Z m_OA w_REJECTED w_EMPTY_ELEMENTDATA w_DEFAULTCAPACITY_EMPTY_ELEMENTDATA w_EMPTY_LIST w_EMPTY_LIST_elements w_EMPTY k_w_EMPTY_ELEMENTDATA k_w_DEFAULTCAPACITY_EMPTY_ELEMENTDATA k_w_EMPTY_LIST_elements) (a1 : Addr) (h0 : Heap) (n0 : Nat) (O0 : Old Z n0 h0) :
    MetFree l (⟨"java/util/ImmutableCollections$AbstractImmutableList", "<init>", "()V"⟩ : MethodName) (head1 (Jvm.Cond.code (⟨"java/util/ImmutableCollections$AbstractImmutableList", "<init>", "()V"⟩ : MethodName) jdk_46_method_1_code 1 none :: ws) ({ frames := 3, cells := 0, slots := 0, locals := 36 } : Room)) (fun a U => a = #[(.ref a1)] ∧ Z.Warmed39 U.vm ∧ U.heap = h0) (fun _ _ _ _ _ => True) (fun _ U o U' => ∃ v L, o = .returned v ∧ Q26 Z m_OA w_REJECTED w_EMPTY_ELEMENTDATA w_DEFAULTCAPACITY_EMPTY_ELEMENTDATA w_EMPTY_LIST w_EMPTY_LIST_elements w_EMPTY k_w_EMPTY_ELEMENTDATA k_w_DEFAULTCAPACITY_EMPTY_ELEMENTDATA k_w_EMPTY_LIST_elements a1 h0 n0 v U'.heap L ∧ FrameEnd U o U' L ({ frames := 3, cells := 0, slots := 0, locals := 36 } : Room).cells ({ frames := 3, cells := 0, slots := 0, locals := 36 } : Room).slots) := by
  refine MetFree.of_bodySF (plainFor_of_name pn_java_util_ImmutableCollections_AbstractImmutableList) hisR ?_
  intro p e s m args below meth c s₁ Bd hml0 hP hK
  obtain ⟨rfl, hZ, hh⟩ := hP
  have hx := Bd.exec
  have hby := Bd.bytes
  have hml : c.maxLocals = 1 := hml0
  have hown : s.vm.findClass "java/util/ImmutableCollections$AbstractImmutableList" = some m.cls := findClass_of_methodNamed Bd.named
  have hnm := (name_of_methodNamed Bd.named Bd.method).1
  have X0 : Stand p l e ({ frames := 3, cells := 0, slots := 0, locals := 36 } : Room) s m #[(.ref a1)] below meth c s₁ [] 0 0 := Stand.of_body Bd
  have e0 : s₁.heap = h0 := by rw [← hh, Bd.state]; rfl
  have N0 := Fr.nil n0
  show OGot p.tables e below (s₁.setTop (entryFrame m #[(.ref a1)] 1)) _
  refine OGot.go (fun t k => castTop (ef26 m a1) k) ?_
  show OGot p.tables e below (s₁.setTop (mkF m 0 #[.val (.ref a1)] [])) _
  refine OGot.go (fun t k => XS.aloadN X0.here hx rfl (hb hby d26_0) rfl rfl k) ?_
  show OGot p.tables e below (s₁.setTop (mkF m 1 #[.val (.ref a1)] [(.ref a1)])) _
  obtain ⟨_, _, ⟨T2, L2, k2, n2⟩, -, X2, ⟨Lc2, hQ2, l2, y2, z2⟩, st2⟩ := X0.specialBack hx (y := (⟨"java/util/ImmutableCollections$AbstractImmutableCollection", "<init>", "()V"⟩ : MethodName)) rfl hown (mvT hZ (ow hw 185 rfl)) (mvT hZ (ow hw 186 rfl)) (mvT hZ (ow hw 190 rfl)) (by decide) (backOf (W := 0) (rm27 l Z a0 hw [] G a1 h0 n0 O0 ) hZ (ow hw 190 rfl) (ow hw 189 rfl) (by decide) (by decide)) (g := (mkF m 1 #[.val (.ref a1)] [(.ref a1)])) rfl (by rw [hml]; rfl) (Steps.refl _) (a := a1) (argsL := []) (rest := []) (lenOf pd_1 rfl) rfl (by show 2 * 0 + _ ≤ _; exact Nat.le_of_eq rfl) (hb hby d26_1) (fun _ _ => ⟨rfl, e0, (by decide : 0 + 0 ≤ _), (by decide : 0 + 0 ≤ _)⟩)
  dsimp only [Pt.U, Pt.locs, Pt.cells, Pt.slots] at X2 l2 y2 z2 st2 hQ2
  subst l2 y2 z2
  obtain ⟨rfl, N2q, e2⟩ := hQ2
  have N2 := Fr.app N0 N2q
  refine OGot.on st2 ?_
  show OGot p.tables e below (T2.setTop (mkF m 4 #[.val (.ref a1)] [])) _
  obtain ⟨fs, hr, hrun, hended, hW, hsame⟩ := X2.leave (v := none) (fun _ => rfl)
  refine ⟨_, _, X2.returnOut hx Bd.returns (hb hby d26_4) hr, hrun, hended, _, _, rfl, ?_, ⟨_, rfl⟩, hW, hsame.mono (by decide) (by decide)⟩
  exact (⟨rfl, N2, e2⟩ : Q26 Z m_OA w_REJECTED w_EMPTY_ELEMENTDATA w_DEFAULTCAPACITY_EMPTY_ELEMENTDATA w_EMPTY_LIST w_EMPTY_LIST_elements w_EMPTY k_w_EMPTY_ELEMENTDATA k_w_DEFAULTCAPACITY_EMPTY_ELEMENTDATA k_w_EMPTY_LIST_elements a1 h0 n0 _ T2.heap _)
theorem d34_4 : decode jdk_44_method_1_code 4 = .ok (.aload_n 0, 1) := by decide +kernel
theorem d34_5 : decode jdk_44_method_1_code 5 = .ok (.aload_n 1, 1) := by decide +kernel
theorem d34_6 : decode jdk_44_method_1_code 6 = .ok (.invokestatic 7, 3) := by decide +kernel
theorem d28_0 : decode jdk_31_method_10_code 0 = .ok (.aload_n 0, 1) := by decide +kernel
theorem d28_1 : decode jdk_31_method_10_code 1 = .ok (.ifnonnull 11, 3) := by decide +kernel
theorem d28_12 : decode jdk_31_method_10_code 12 = .ok (.aload_n 0, 1) := by decide +kernel
theorem d28_13 : decode jdk_31_method_10_code 13 = .ok (.areturn, 1) := by decide +kernel
theorem pn_java_util_Objects : plainName "java/util/Objects" = true := by first | (simp [plainName, overriddenIn]; done) | decide +kernel
def Q28 (Z : State) (m_OA : Addr) (w_REJECTED : Addr) (w_EMPTY_ELEMENTDATA : Addr) (w_DEFAULTCAPACITY_EMPTY_ELEMENTDATA : Addr) (w_EMPTY_LIST : Addr) (w_EMPTY_LIST_elements : Addr) (w_EMPTY : Addr) (k_w_EMPTY_ELEMENTDATA : ClassId) (k_w_DEFAULTCAPACITY_EMPTY_ELEMENTDATA : ClassId) (k_w_EMPTY_LIST_elements : ClassId) (a1 : Addr) (h0 : Heap) (n0 : Nat) (v : Option Value) (h : Heap) (L : List Loc) : Prop := v = some (.ref a1) ∧ Fr n0 L ∧ h = h0
theorem ef28 (m : MethodId) (x0 : Addr) : entryFrame m #[(.ref x0)] 1 = mkF m 0 #[.val (.ref x0)] [] := by first | (simp [entryFrame, mkF, argsToLocals, Value.category]; done) | rfl
set_option maxRecDepth 65536 in
set_option maxHeartbeats 40000000 in
theorem rm28 (l : Launch) (Z : State) (a0 : Array Value) (hw : ∀ d ∈ tables_1, d.before a0 Z = true) (ws : List Jvm.Cond) {m_OA : Addr} {w_REJECTED : Addr} {w_EMPTY_ELEMENTDATA : Addr} {w_DEFAULTCAPACITY_EMPTY_ELEMENTDATA : Addr} {w_EMPTY_LIST : Addr} {w_EMPTY_LIST_elements : Addr} {w_EMPTY : Addr} {k_w_EMPTY_ELEMENTDATA : ClassId} {k_w_DEFAULTCAPACITY_EMPTY_ELEMENTDATA : ClassId} {k_w_EMPTY_LIST_elements : ClassId} (G : Glob Z m_OA w_REJECTED w_EMPTY_ELEMENTDATA w_DEFAULTCAPACITY_EMPTY_ELEMENTDATA w_EMPTY_LIST w_EMPTY_LIST_elements w_EMPTY k_w_EMPTY_ELEMENTDATA k_w_DEFAULTCAPACITY_EMPTY_ELEMENTDATA k_w_EMPTY_LIST_elements) (a1 : Addr) (h0 : Heap) (n0 : Nat) (O0 : Old Z n0 h0) :
    MetFree l (⟨"java/util/Objects", "requireNonNull", "(Ljava/lang/Object;)Ljava/lang/Object;"⟩ : MethodName) (head1 (Jvm.Cond.code (⟨"java/util/Objects", "requireNonNull", "(Ljava/lang/Object;)Ljava/lang/Object;"⟩ : MethodName) jdk_31_method_10_code 1 (some (.object "java/lang/Object")) :: ws) ({ frames := 0, cells := 0, slots := 0, locals := 0 } : Room)) (fun a U => a = #[(.ref a1)] ∧ Z.Warmed39 U.vm ∧ U.heap = h0) (fun _ _ _ _ _ => True) (fun _ U o U' => ∃ v L, o = .returned v ∧ Q28 Z m_OA w_REJECTED w_EMPTY_ELEMENTDATA w_DEFAULTCAPACITY_EMPTY_ELEMENTDATA w_EMPTY_LIST w_EMPTY_LIST_elements w_EMPTY k_w_EMPTY_ELEMENTDATA k_w_DEFAULTCAPACITY_EMPTY_ELEMENTDATA k_w_EMPTY_LIST_elements a1 h0 n0 v U'.heap L ∧ FrameEnd U o U' L ({ frames := 0, cells := 0, slots := 0, locals := 0 } : Room).cells ({ frames := 0, cells := 0, slots := 0, locals := 0 } : Room).slots) := by
  refine MetFree.of_bodySF (plainFor_of_name pn_java_util_Objects) hisR ?_
  intro p e s m args below meth c s₁ Bd hml0 hP hK
  obtain ⟨rfl, hZ, hh⟩ := hP
  have hx := Bd.exec
  have hby := Bd.bytes
  have hml : c.maxLocals = 1 := hml0
  have hown : s.vm.findClass "java/util/Objects" = some m.cls := findClass_of_methodNamed Bd.named
  have hnm := (name_of_methodNamed Bd.named Bd.method).1
  have X0 : Stand p l e ({ frames := 0, cells := 0, slots := 0, locals := 0 } : Room) s m #[(.ref a1)] below meth c s₁ [] 0 0 := Stand.of_body Bd
  have e0 : s₁.heap = h0 := by rw [← hh, Bd.state]; rfl
  have N0 := Fr.nil n0
  show OGot p.tables e below (s₁.setTop (entryFrame m #[(.ref a1)] 1)) _
  refine OGot.go (fun t k => castTop (ef28 m a1) k) ?_
  show OGot p.tables e below (s₁.setTop (mkF m 0 #[.val (.ref a1)] [])) _
  refine OGot.go (fun t k => XS.aloadN X0.here hx rfl (hb hby d28_0) rfl rfl k) ?_
  show OGot p.tables e below (s₁.setTop (mkF m 1 #[.val (.ref a1)] [(.ref a1)])) _
  refine OGot.go (fun t k => XS.ifnonnullYes X0.here hx rfl (pc0 := 1) (pc' := 12) rfl (hb hby d28_1) rfl (by decide) (by decide) k) ?_
  show OGot p.tables e below (s₁.setTop (mkF m 12 #[.val (.ref a1)] [])) _
  refine OGot.go (fun t k => XS.aloadN X0.here hx rfl (hb hby d28_12) rfl rfl k) ?_
  show OGot p.tables e below (s₁.setTop (mkF m 13 #[.val (.ref a1)] [(.ref a1)])) _
  obtain ⟨fs, hr, hrun, hended, hW, hsame⟩ := X0.leave (v := some (.ref a1)) (fun h => by rw [Bd.returns] at h; cases h)
  refine ⟨_, _, oretA X0 hx Bd.returns rfl rfl (hb hby d28_13) hr, hrun, hended, _, _, rfl, ?_, ⟨_, rfl⟩, hW, hsame.mono (by decide) (by decide)⟩
  exact (⟨rfl, N0, e0⟩ : Q28 Z m_OA w_REJECTED w_EMPTY_ELEMENTDATA w_DEFAULTCAPACITY_EMPTY_ELEMENTDATA w_EMPTY_LIST w_EMPTY_LIST_elements w_EMPTY k_w_EMPTY_ELEMENTDATA k_w_DEFAULTCAPACITY_EMPTY_ELEMENTDATA k_w_EMPTY_LIST_elements a1 h0 n0 _ s₁.heap _)
theorem pd_14 : parseMethodDescriptor "(Ljava/lang/Object;)Ljava/lang/Object;" = some ⟨[(.object "java/lang/Object")], some (.object "java/lang/Object")⟩ := by decide +kernel
theorem d34_9 : decode jdk_44_method_1_code 9 = .ok (.putfield 13, 3) := by decide +kernel
theorem d34_12 : decode jdk_44_method_1_code 12 = .ok (.aload_n 0, 1) := by decide +kernel
theorem d34_13 : decode jdk_44_method_1_code 13 = .ok (.getstatic 19, 3) := by decide +kernel
theorem d34_16 : decode jdk_44_method_1_code 16 = .ok (.putfield 24, 3) := by decide +kernel
theorem d34_19 : decode jdk_44_method_1_code 19 = .ok (.return_, 1) := by decide +kernel
theorem pn_java_util_ImmutableCollections_List12 : plainName "java/util/ImmutableCollections$List12" = true := by first | (simp [plainName, overriddenIn]; done) | decide +kernel
def Q34 (Z : State) (m_OA : Addr) (w_REJECTED : Addr) (w_EMPTY_ELEMENTDATA : Addr) (w_DEFAULTCAPACITY_EMPTY_ELEMENTDATA : Addr) (w_EMPTY_LIST : Addr) (w_EMPTY_LIST_elements : Addr) (w_EMPTY : Addr) (k_w_EMPTY_ELEMENTDATA : ClassId) (k_w_DEFAULTCAPACITY_EMPTY_ELEMENTDATA : ClassId) (k_w_EMPTY_LIST_elements : ClassId) (a1 : Addr) (a2 : Addr) (h0 : Heap) (n0 : Nat) (v : Option Value) (h : Heap) (L : List Loc) : Prop := Fr n0 L ∧ v = none ∧ OKeep h0 h [(a1, Jvm.RoadKit.slotOf Z "java/util/ImmutableCollections$List12" "e0" "Ljava/lang/Object;"), (a1, Jvm.RoadKit.slotOf Z "java/util/ImmutableCollections$List12" "e1" "Ljava/lang/Object;")] ∧ Fld Z h a1 "java/util/ImmutableCollections$List12" "e0" "Ljava/lang/Object;" (.ref a2) ∧ Fld Z h a1 "java/util/ImmutableCollections$List12" "e1" "Ljava/lang/Object;" (.ref w_EMPTY)
theorem ef34 (m : MethodId) (x0 : Addr) (x1 : Addr) : entryFrame m #[(.ref x0), (.ref x1)] 2 = mkF m 0 #[.val (.ref x0), .val (.ref x1)] [] := by first | (simp [entryFrame, mkF, argsToLocals, Value.category]; done) | rfl
set_option maxRecDepth 65536 in
set_option maxHeartbeats 40000000 in
theorem rm34 (l : Launch) (Z : State) (a0 : Array Value) (hw : ∀ d ∈ tables_1, d.before a0 Z = true) (ws : List Jvm.Cond) {m_OA : Addr} {w_REJECTED : Addr} {w_EMPTY_ELEMENTDATA : Addr} {w_DEFAULTCAPACITY_EMPTY_ELEMENTDATA : Addr} {w_EMPTY_LIST : Addr} {w_EMPTY_LIST_elements : Addr} {w_EMPTY : Addr} {k_w_EMPTY_ELEMENTDATA : ClassId} {k_w_DEFAULTCAPACITY_EMPTY_ELEMENTDATA : ClassId} {k_w_EMPTY_LIST_elements : ClassId} (G : Glob Z m_OA w_REJECTED w_EMPTY_ELEMENTDATA w_DEFAULTCAPACITY_EMPTY_ELEMENTDATA w_EMPTY_LIST w_EMPTY_LIST_elements w_EMPTY k_w_EMPTY_ELEMENTDATA k_w_DEFAULTCAPACITY_EMPTY_ELEMENTDATA k_w_EMPTY_LIST_elements) (a1 : Addr) (a2 : Addr) (h0 : Heap) (n0 : Nat) (O0 : Old Z n0 h0) (E_a1 : Exa Z h0 a1 "java/util/ImmutableCollections$List12") (F_e0_a1 : Fld Z h0 a1 "java/util/ImmutableCollections$List12" "e0" "Ljava/lang/Object;" .null) (g_a1 : n0 ≤ a1) (F_e1_a1 : Fld Z h0 a1 "java/util/ImmutableCollections$List12" "e1" "Ljava/lang/Object;" .null) :
    MetFree l (⟨"java/util/ImmutableCollections$List12", "<init>", "(Ljava/lang/Object;)V"⟩ : MethodName) (head1 (Jvm.Cond.code (⟨"java/util/ImmutableCollections$List12", "<init>", "(Ljava/lang/Object;)V"⟩ : MethodName) jdk_44_method_1_code 2 none :: ws) ({ frames := 4, cells := 0, slots := 0, locals := 48 } : Room)) (fun a U => a = #[(.ref a1), (.ref a2)] ∧ Z.Warmed39 U.vm ∧ U.heap = h0) (fun _ _ _ _ _ => True) (fun _ U o U' => ∃ v L, o = .returned v ∧ Q34 Z m_OA w_REJECTED w_EMPTY_ELEMENTDATA w_DEFAULTCAPACITY_EMPTY_ELEMENTDATA w_EMPTY_LIST w_EMPTY_LIST_elements w_EMPTY k_w_EMPTY_ELEMENTDATA k_w_DEFAULTCAPACITY_EMPTY_ELEMENTDATA k_w_EMPTY_LIST_elements a1 a2 h0 n0 v U'.heap L ∧ FrameEnd U o U' L ({ frames := 4, cells := 0, slots := 0, locals := 48 } : Room).cells ({ frames := 4, cells := 0, slots := 0, locals := 48 } : Room).slots) := by
  refine MetFree.of_bodySF (plainFor_of_name pn_java_util_ImmutableCollections_List12) hisR ?_
  intro p e s m args below meth c s₁ Bd hml0 hP hK
  obtain ⟨rfl, hZ, hh⟩ := hP
  have hx := Bd.exec
  have hby := Bd.bytes
  have hml : c.maxLocals = 2 := hml0
  have hown : s.vm.findClass "java/util/ImmutableCollections$List12" = some m.cls := findClass_of_methodNamed Bd.named
  have hnm := (name_of_methodNamed Bd.named Bd.method).1
  have X0 : Stand p l e ({ frames := 4, cells := 0, slots := 0, locals := 48 } : Room) s m #[(.ref a1), (.ref a2)] below meth c s₁ [] 0 0 := Stand.of_body Bd
  have e0 : s₁.heap = h0 := by rw [← hh, Bd.state]; rfl
  have N0 := Fr.nil n0
  show OGot p.tables e below (s₁.setTop (entryFrame m #[(.ref a1), (.ref a2)] 2)) _
  refine OGot.go (fun t k => castTop (ef34 m a1 a2) k) ?_
  show OGot p.tables e below (s₁.setTop (mkF m 0 #[.val (.ref a1), .val (.ref a2)] [])) _
  refine OGot.go (fun t k => XS.aloadN X0.here hx rfl (hb hby d34_0) rfl rfl k) ?_
  show OGot p.tables e below (s₁.setTop (mkF m 1 #[.val (.ref a1), .val (.ref a2)] [(.ref a1)])) _
  obtain ⟨_, _, ⟨T3, L3, k3, n3⟩, -, X3, ⟨Lc3, hQ3, l3, y3, z3⟩, st3⟩ := X0.specialBack hx (y := (⟨"java/util/ImmutableCollections$AbstractImmutableList", "<init>", "()V"⟩ : MethodName)) rfl hown (mvT hZ (ow hw 179 rfl)) (mvT hZ (ow hw 180 rfl)) (mvT hZ (ow hw 184 rfl)) (by decide) (backOf (W := 0) (rm26 l Z a0 hw [] G a1 h0 n0 O0 ) hZ (ow hw 184 rfl) (ow hw 183 rfl) (by decide) (by decide)) (g := (mkF m 1 #[.val (.ref a1), .val (.ref a2)] [(.ref a1)])) rfl (by rw [hml]; rfl) (Steps.refl _) (a := a1) (argsL := []) (rest := []) (lenOf pd_1 rfl) rfl (by show 2 * 0 + _ ≤ _; exact Nat.le_of_eq rfl) (hb hby d34_1) (fun _ _ => ⟨rfl, e0, (by decide : 0 + 0 ≤ _), (by decide : 0 + 0 ≤ _)⟩)
  dsimp only [Pt.U, Pt.locs, Pt.cells, Pt.slots] at X3 l3 y3 z3 st3 hQ3
  subst l3 y3 z3
  obtain ⟨rfl, N3q, e3⟩ := hQ3
  have N3 := Fr.app N0 N3q
  refine OGot.on st3 ?_
  show OGot p.tables e below (T3.setTop (mkF m 4 #[.val (.ref a1), .val (.ref a2)] [])) _
  refine OGot.go (fun t k => XS.aloadN X3.here hx rfl (hb hby d34_4) rfl rfl k) ?_
  show OGot p.tables e below (T3.setTop (mkF m 5 #[.val (.ref a1), .val (.ref a2)] [(.ref a1)])) _
  refine OGot.go (fun t k => XS.aloadN X3.here hx rfl (hb hby d34_5) rfl rfl k) ?_
  show OGot p.tables e below (T3.setTop (mkF m 6 #[.val (.ref a1), .val (.ref a2)] [(.ref a2), (.ref a1)])) _
  obtain ⟨_, _, ⟨T4, L4, k4, n4⟩, -, X4, ⟨Lc4, hQ4, l4, y4, z4⟩, st4⟩ := Jvm.LawKit.callS X3 hx (y := (⟨"java/util/Objects", "requireNonNull", "(Ljava/lang/Object;)Ljava/lang/Object;"⟩ : MethodName)) hown (mvT hZ (ow hw 193 rfl)) (mvT hZ (ow hw 194 rfl)) (mvT hZ (ow hw 195 rfl)) (mvT hZ (ow hw 196 rfl)) (by decide) (backOf (W := 1) (rm28 l Z a0 hw [] G a2 h0 n0 O0 ) hZ (ow hw 196 rfl) (ow hw 195 rfl) (by decide) (by decide)) (g := (mkF m 6 #[.val (.ref a1), .val (.ref a2)] [(.ref a2), (.ref a1)])) rfl (by rw [hml]; rfl) (argsL := [(.ref a2)]) (rest := [(.ref a1)]) (lenOf pd_14 rfl) rfl (by show 2 * 0 + _ ≤ _; exact Nat.le_of_eq rfl) (hb hby d34_6) (fun _ _ => ⟨rfl, e3, (by decide : 0 + 0 ≤ _), (by decide : 0 + 0 ≤ _)⟩)
  dsimp only [Pt.U, Pt.locs, Pt.cells, Pt.slots] at X4 l4 y4 z4 st4 hQ4
  subst l4 y4 z4
  obtain ⟨rfl, N4q, e4⟩ := hQ4
  have N4 := Fr.app N3 N4q
  refine OGot.go st4 ?_
  show OGot p.tables e below (T4.setTop (mkF m 9 #[.val (.ref a1), .val (.ref a2)] [(.ref a2), (.ref a1)])) _
  obtain ⟨T5, h5, X5, e5, W5, st5⟩ := putF X4 hx hZ hown (host := "") (Or.inl (ow hw 197 rfl)) Via.refl e4 F_e0_a1 E_a1 (Or.inr ⟨(ow hw 198 rfl), rfl, hnm⟩) (ow hw 173 rfl) (ty := (.object "java/lang/Object")) (by decide) rfl rfl (g := (mkF m 9 #[.val (.ref a1), .val (.ref a2)] [(.ref a2), (.ref a1)])) rfl rfl (hb hby d34_9)
  refine OGot.go st5 ?_
  have N5 := Fr.snoc X5 N4 g_a1
  have O5 := O0.wr W5 g_a1
  have K5 := (OKeep.refl h0 [(a1, Jvm.RoadKit.slotOf Z "java/util/ImmutableCollections$List12" "e0" "Ljava/lang/Object;"), (a1, Jvm.RoadKit.slotOf Z "java/util/ImmutableCollections$List12" "e1" "Ljava/lang/Object;")]).wr W5 (Or.inl (List.mem_of_getElem? (i := 0) rfl))
  have Fw5 : Fld Z h5 a1 "java/util/ImmutableCollections$List12" "e0" "Ljava/lang/Object;" (.ref a2) := F_e0_a1.same W5
  show OGot p.tables e below (T5.setTop (mkF m 12 #[.val (.ref a1), .val (.ref a2)] [])) _
  refine OGot.go (fun t k => XS.aloadN X5.here hx rfl (hb hby d34_12) rfl rfl k) ?_
  show OGot p.tables e below (T5.setTop (mkF m 13 #[.val (.ref a1), .val (.ref a2)] [(.ref a1)])) _
  obtain ⟨T6, X6, e6, st6⟩ := getS2 X5 hx hZ hown (Or.inr (ow hw 207 rfl)) Via.refl e5 (G.2.2.2.2.2.2.2.2.2.2.2.1.ext O5.2) (g := (mkF m 13 #[.val (.ref a1), .val (.ref a2)] [(.ref a1)])) rfl (hb hby d34_13)
  refine OGot.go st6 ?_
  show OGot p.tables e below (T6.setTop (mkF m 16 #[.val (.ref a1), .val (.ref a2)] [(.ref w_EMPTY), (.ref a1)])) _
  have F7 : Fld Z h5 a1 "java/util/ImmutableCollections$List12" "e1" "Ljava/lang/Object;" .null := (F_e1_a1.other W5 (Or.inr (slot_ne (Or.inr (ow hw 200 rfl)) (Or.inr (ow hw 198 rfl)) (by decide) (t := (.object "java/lang/Object")) (t' := (.object "java/lang/Object")) (by decide) (by decide))))
  obtain ⟨T8, h8, X8, e8, W8, st8⟩ := putF X6 hx hZ hown (host := "") (Or.inl (ow hw 199 rfl)) Via.refl e6 F7 (E_a1.wr W5) (Or.inr ⟨(ow hw 200 rfl), rfl, hnm⟩) (ow hw 173 rfl) (ty := (.object "java/lang/Object")) (by decide) rfl rfl (g := (mkF m 16 #[.val (.ref a1), .val (.ref a2)] [(.ref w_EMPTY), (.ref a1)])) rfl rfl (hb hby d34_16)
  refine OGot.go st8 ?_
  have N8 := Fr.snoc X8 N5 g_a1
  have O8 := O5.wr W8 g_a1
  have K8 := K5.wr W8 (Or.inl (List.mem_of_getElem? (i := 1) rfl))
  have Fw8 : Fld Z h8 a1 "java/util/ImmutableCollections$List12" "e1" "Ljava/lang/Object;" (.ref w_EMPTY) := F7.same W8
  show OGot p.tables e below (T8.setTop (mkF m 19 #[.val (.ref a1), .val (.ref a2)] [])) _
  obtain ⟨fs, hr, hrun, hended, hW, hsame⟩ := X8.leave (v := none) (fun _ => rfl)
  refine ⟨_, _, X8.returnOut hx Bd.returns (hb hby d34_19) hr, hrun, hended, _, _, rfl, ?_, ⟨_, rfl⟩, hW, hsame.mono (by decide) (by decide)⟩
  have F9 : Fld Z h8 a1 "java/util/ImmutableCollections$List12" "e0" "Ljava/lang/Object;" (.ref a2) := (Fw5.other W8 (Or.inr (slot_ne (Or.inr (ow hw 198 rfl)) (Or.inr (ow hw 200 rfl)) (by decide) (t := (.object "java/lang/Object")) (t' := (.object "java/lang/Object")) (by decide) (by decide))))
  show Q34 Z m_OA w_REJECTED w_EMPTY_ELEMENTDATA w_DEFAULTCAPACITY_EMPTY_ELEMENTDATA w_EMPTY_LIST w_EMPTY_LIST_elements w_EMPTY k_w_EMPTY_ELEMENTDATA k_w_DEFAULTCAPACITY_EMPTY_ELEMENTDATA k_w_EMPTY_LIST_elements a1 a2 h0 n0 _ T8.heap _
  rw [e8]
  exact ⟨N8, rfl, K8, F9, Fw8⟩
theorem pd_15 : parseMethodDescriptor "(Ljava/lang/Object;)V" = some ⟨[(.object "java/lang/Object")], none⟩ := by decide +kernel
theorem d24_44 : decode jdk_40_method_47_code 44 = .ok (.areturn, 1) := by decide +kernel
def Q24 (Z : State) (m_OA : Addr) (w_REJECTED : Addr) (w_EMPTY_ELEMENTDATA : Addr) (w_DEFAULTCAPACITY_EMPTY_ELEMENTDATA : Addr) (w_EMPTY_LIST : Addr) (w_EMPTY_LIST_elements : Addr) (w_EMPTY : Addr) (k_w_EMPTY_ELEMENTDATA : ClassId) (k_w_DEFAULTCAPACITY_EMPTY_ELEMENTDATA : ClassId) (k_w_EMPTY_LIST_elements : ClassId) (a1 : Addr) (k2 : ClassId) (a3 : Addr) (h0 : Heap) (n0 : Nat) (v : Option Value) (h : Heap) (L : List Loc) : Prop := Fr n0 L ∧ ∃ b5 : Addr, v = some (.ref b5) ∧ h0.size ≤ b5 ∧ OKeep h0 h [] ∧ Exa Z h b5 "java/util/ImmutableCollections$List12" ∧ Fld Z h b5 "java/util/ImmutableCollections$List12" "e0" "Ljava/lang/Object;" (.ref a3) ∧ Fld Z h b5 "java/util/ImmutableCollections$List12" "e1" "Ljava/lang/Object;" (.ref w_EMPTY)
theorem ef24 (m : MethodId) (x0 : Addr) : entryFrame m #[(.ref x0)] 2 = mkF m 0 #[.val (.ref x0), .unset] [] := by first | (simp [entryFrame, mkF, argsToLocals, Value.category]; done) | rfl
set_option maxRecDepth 65536 in
set_option maxHeartbeats 40000000 in
theorem rm24 (l : Launch) (Z : State) (a0 : Array Value) (hw : ∀ d ∈ tables_1, d.before a0 Z = true) (ws : List Jvm.Cond) {m_OA : Addr} {w_REJECTED : Addr} {w_EMPTY_ELEMENTDATA : Addr} {w_DEFAULTCAPACITY_EMPTY_ELEMENTDATA : Addr} {w_EMPTY_LIST : Addr} {w_EMPTY_LIST_elements : Addr} {w_EMPTY : Addr} {k_w_EMPTY_ELEMENTDATA : ClassId} {k_w_DEFAULTCAPACITY_EMPTY_ELEMENTDATA : ClassId} {k_w_EMPTY_LIST_elements : ClassId} (G : Glob Z m_OA w_REJECTED w_EMPTY_ELEMENTDATA w_DEFAULTCAPACITY_EMPTY_ELEMENTDATA w_EMPTY_LIST w_EMPTY_LIST_elements w_EMPTY k_w_EMPTY_ELEMENTDATA k_w_DEFAULTCAPACITY_EMPTY_ELEMENTDATA k_w_EMPTY_LIST_elements) (a1 : Addr) (k2 : ClassId) (a3 : Addr) (h0 : Heap) (n0 : Nat) (O0 : Old Z n0 h0) (V_a1 : Arv Z h0 a1 k2 (.object "java/lang/Object") (1 : Int32) [(.ref a3)] .null) (O_k2 : Ovr Z k2 "java/lang/Object") :
    MetFree l (⟨"java/util/List", "of", "([Ljava/lang/Object;)Ljava/util/List;"⟩ : MethodName) (head1 (Jvm.Cond.code (⟨"java/util/List", "of", "([Ljava/lang/Object;)Ljava/util/List;"⟩ : MethodName) jdk_40_method_47_code 2 (some (.object "java/util/List")) :: ws) ({ frames := 5, cells := 1, slots := 2, locals := 62 } : Room)) (fun a U => a = #[(.ref a1)] ∧ Z.Warmed39 U.vm ∧ U.heap = h0) (fun _ _ _ _ _ => True) (fun _ U o U' => ∃ v L, o = .returned v ∧ Q24 Z m_OA w_REJECTED w_EMPTY_ELEMENTDATA w_DEFAULTCAPACITY_EMPTY_ELEMENTDATA w_EMPTY_LIST w_EMPTY_LIST_elements w_EMPTY k_w_EMPTY_ELEMENTDATA k_w_DEFAULTCAPACITY_EMPTY_ELEMENTDATA k_w_EMPTY_LIST_elements a1 k2 a3 h0 n0 v U'.heap L ∧ FrameEnd U o U' L ({ frames := 5, cells := 1, slots := 2, locals := 62 } : Room).cells ({ frames := 5, cells := 1, slots := 2, locals := 62 } : Room).slots) := by
  refine MetFree.of_bodySF (plainFor_of_name pn_java_util_List) hisR ?_
  intro p e s m args below meth c s₁ Bd hml0 hP hK
  obtain ⟨rfl, hZ, hh⟩ := hP
  have hx := Bd.exec
  have hby := Bd.bytes
  have hml : c.maxLocals = 2 := hml0
  have hown : s.vm.findClass "java/util/List" = some m.cls := findClass_of_methodNamed Bd.named
  have hnm := (name_of_methodNamed Bd.named Bd.method).1
  have X0 : Stand p l e ({ frames := 5, cells := 1, slots := 2, locals := 62 } : Room) s m #[(.ref a1)] below meth c s₁ [] 0 0 := Stand.of_body Bd
  have e0 : s₁.heap = h0 := by rw [← hh, Bd.state]; rfl
  have N0 := Fr.nil n0
  show OGot p.tables e below (s₁.setTop (entryFrame m #[(.ref a1)] 2)) _
  refine OGot.go (fun t k => castTop (ef24 m a1) k) ?_
  show OGot p.tables e below (s₁.setTop (mkF m 0 #[.val (.ref a1), .unset] [])) _
  refine OGot.go (fun t k => XS.aloadN X0.here hx rfl (hb hby d24_0) rfl rfl k) ?_
  show OGot p.tables e below (s₁.setTop (mkF m 1 #[.val (.ref a1), .unset] [(.ref a1)])) _
  obtain ⟨cl4, Ar4, -, Sz4, Ng4, -, -⟩ := id (V_a1)
  refine OGot.go (fun t k => X0.arraylength hx (by rw [e0]; exact Ar4.1) (State.isArrayOf_alike hZ.alike Ar4.2.1) (g := (mkF m 1 #[.val (.ref a1), .unset] [(.ref a1)])) rfl rfl (hb hby d24_1) _ k) ?_
  rw [len_of Sz4 Ng4]
  show OGot p.tables e below (s₁.setTop (mkF m 2 #[.val (.ref a1), .unset] [(.int (1 : Int32))])) _
  refine OGot.go (fun t k => XS.tswIn X0.here hx rfl (pc0 := 2) (pc' := 34) rfl (hb hby d24_2) rfl (by decide) (o := 32) (by decide) (by decide) (by decide) k) ?_
  show OGot p.tables e below (s₁.setTop (mkF m 34 #[.val (.ref a1), .unset] [])) _
  obtain ⟨T5, h5, X5, e5, E5, A5, D5, -, st5⟩ := newO X0 hx hZ hown (ow hw 172 rfl) (ow hw 173 rfl) (ow hw 174 rfl) e0 (g := (mkF m 34 #[.val (.ref a1), .unset] [])) rfl (hb hby d24_34) (by decide) (by decide)
  obtain ⟨b5, g5⟩ : ∃ z, z = h0.size := ⟨_, rfl⟩
  rw [← g5] at A5 D5 st5
  refine OGot.go st5 ?_
  have g_b5 : n0 ≤ b5 := Nat.le_trans (osz O0) (Nat.le_of_eq g5.symm)
  have sy_b5 : h0.size ≤ b5 := Nat.le_of_eq g5.symm
  have sz_b5 : h0.size ≤ b5 := Nat.le_trans (OKeep.refl h0 []).1 sy_b5
  have K5 := (OKeep.refl h0 []).ext E5
  have O5 := O0.ext E5
  have F5_e0 : Fld Z h5 b5 "java/util/ImmutableCollections$List12" "e0" "Ljava/lang/Object;" .null := D5 (Or.inr (ow hw 198 rfl)) (ty := (.object "java/lang/Object")) (by decide)
  have F5_e1 : Fld Z h5 b5 "java/util/ImmutableCollections$List12" "e1" "Ljava/lang/Object;" .null := D5 (Or.inr (ow hw 200 rfl)) (ty := (.object "java/lang/Object")) (by decide)
  show OGot p.tables e below (T5.setTop (mkF m 37 #[.val (.ref a1), .unset] [(.ref b5)])) _
  refine OGot.go (fun t k => XS.dup X5.here hx rfl (hb hby d24_37) rfl rfl k) ?_
  show OGot p.tables e below (T5.setTop (mkF m 38 #[.val (.ref a1), .unset] [(.ref b5), (.ref b5)])) _
  refine OGot.go (fun t k => XS.aloadN X5.here hx rfl (hb hby d24_38) rfl rfl k) ?_
  show OGot p.tables e below (T5.setTop (mkF m 39 #[.val (.ref a1), .unset] [(.ref a1), (.ref b5), (.ref b5)])) _
  refine OGot.go (fun t k => XS.iconst X5.here hx rfl (hb hby d24_39) k) ?_
  show OGot p.tables e below (T5.setTop (mkF m 40 #[.val (.ref a1), .unset] [(.int (0 : Int32)), (.ref a1), (.ref b5), (.ref b5)])) _
  have F6 : Arv Z h5 a1 k2 (.object "java/lang/Object") (1 : Int32) [(.ref a3)] .null := (V_a1.ext E5)
  obtain ⟨cl7, Ar7, qc7, Sz7, Ng7, Hh7, Gg7⟩ := id (F6)
  have hin7 : ¬ ((0 : Int32) < 0 ∨ cl7.slots.size ≤ ((0 : Int32)).toNatClampNeg) := inb_of Sz7 ⟨by decide, by decide⟩
  have hat7 : cl7.slots[((0 : Int32)).toNatClampNeg]? = some (.ref a3) := Hh7.at hin7 rfl
  refine OGot.go (fun t k => X5.aaload hx (j := (0 : Int32)) (v := (.ref a3)) (by rw [e5]; exact Ar7.1) (State.isArrayOf_alike hZ.alike Ar7.2.1) rfl Ar7.2.2 hin7 hat7 (g := (mkF m 40 #[.val (.ref a1), .unset] [(.int (0 : Int32)), (.ref a1), (.ref b5), (.ref b5)])) rfl rfl (hb hby d24_40) _ k) ?_
  show OGot p.tables e below (T5.setTop (mkF m 41 #[.val (.ref a1), .unset] [(.ref a3), (.ref b5), (.ref b5)])) _
  obtain ⟨_, _, ⟨T8, L8, k8, n8⟩, -, X8, ⟨Lc8, hQ8, l8, y8, z8⟩, st8⟩ := X5.specialBack hx (y := (⟨"java/util/ImmutableCollections$List12", "<init>", "(Ljava/lang/Object;)V"⟩ : MethodName)) rfl hown (mvT hZ (ow hw 233 rfl)) (mvT hZ (ow hw 234 rfl)) (mvT hZ (ow hw 235 rfl)) (by decide) (backOf (W := 1) (rm34 l Z a0 hw [] G b5 a3 h5 n0 O5 A5 F5_e0 g_b5 F5_e1) hZ (ow hw 235 rfl) (ow hw 174 rfl) (by decide) (by decide)) (g := (mkF m 41 #[.val (.ref a1), .unset] [(.ref a3), (.ref b5), (.ref b5)])) rfl (by rw [hml]; rfl) (Steps.refl _) (a := b5) (argsL := [(.ref a3)]) (rest := [(.ref b5)]) (lenOf pd_15 rfl) rfl (by show 2 * 0 + _ ≤ _; exact Nat.le_of_eq rfl) (hb hby d24_41) (fun _ _ => ⟨rfl, e5, (by decide : 1 + 0 ≤ _), (by decide : 2 + 0 ≤ _)⟩)
  dsimp only [Pt.U, Pt.locs, Pt.cells, Pt.slots] at X8 l8 y8 z8 st8 hQ8
  subst l8 y8 z8
  obtain ⟨N8q, rfl, K8, Fo8_0, Fo8_1⟩ := hQ8
  have Kc8 := K5.trans K8 (oinS (Or.inr sz_b5) (oinS (Or.inr sz_b5) oin0))
  have O8 := OKeep.old O5 K8 (ogeS g_b5 (ogeS g_b5 oge0))
  have N8 := Fr.app N0 N8q
  refine OGot.on st8 ?_
  show OGot p.tables e below (T8.setTop (mkF m 44 #[.val (.ref a1), .unset] [(.ref b5)])) _
  obtain ⟨fs, hr, hrun, hended, hW, hsame⟩ := X8.leave (v := some (.ref b5)) (fun h => by rw [Bd.returns] at h; cases h)
  refine ⟨_, _, oretA X8 hx Bd.returns rfl rfl (hb hby d24_44) hr, hrun, hended, _, _, rfl, ?_, ⟨_, rfl⟩, hW, hsame.mono (by decide) (by decide)⟩
  show Q24 Z m_OA w_REJECTED w_EMPTY_ELEMENTDATA w_DEFAULTCAPACITY_EMPTY_ELEMENTDATA w_EMPTY_LIST w_EMPTY_LIST_elements w_EMPTY k_w_EMPTY_ELEMENTDATA k_w_DEFAULTCAPACITY_EMPTY_ELEMENTDATA k_w_EMPTY_LIST_elements a1 k2 a3 h0 n0 _ T8.heap _
  exact ⟨N8, b5, rfl, sz_b5, Kc8, (OKeep.exa A5 K8), Fo8_0, Fo8_1⟩
theorem pd_16 : parseMethodDescriptor "([Ljava/lang/Object;)Ljava/util/List;" = some ⟨[(.array (.object "java/lang/Object"))], some (.object "java/util/List")⟩ := by decide +kernel
theorem d10_53 : decode jdk_56_method_3_code 53 = .ok (.areturn, 1) := by decide +kernel
def Q10_1 (Z : State) (m_OA : Addr) (w_REJECTED : Addr) (w_EMPTY_ELEMENTDATA : Addr) (w_DEFAULTCAPACITY_EMPTY_ELEMENTDATA : Addr) (w_EMPTY_LIST : Addr) (w_EMPTY_LIST_elements : Addr) (w_EMPTY : Addr) (k_w_EMPTY_ELEMENTDATA : ClassId) (k_w_DEFAULTCAPACITY_EMPTY_ELEMENTDATA : ClassId) (k_w_EMPTY_LIST_elements : ClassId) (a1 : Addr) (a5 : Addr) (k6 : ClassId) (a7 : Addr) (h0 : Heap) (n0 : Nat) (v : Option Value) (h : Heap) (L : List Loc) : Prop := Fr n0 L ∧ ∃ b5_9 : Addr, v = some (.ref b5_9) ∧ h0.size ≤ b5_9 ∧ OKeep h0 h [] ∧ Exa Z h b5_9 "java/util/ImmutableCollections$List12" ∧ Fld Z h b5_9 "java/util/ImmutableCollections$List12" "e0" "Ljava/lang/Object;" (.ref a7) ∧ Fld Z h b5_9 "java/util/ImmutableCollections$List12" "e1" "Ljava/lang/Object;" (.ref w_EMPTY)
theorem ef10_1 (m : MethodId) (x0 : Addr) : entryFrame m #[(.ref x0)] 2 = mkF m 0 #[.val (.ref x0), .unset] [] := by first | (simp [entryFrame, mkF, argsToLocals, Value.category]; done) | rfl
set_option maxRecDepth 65536 in
set_option maxHeartbeats 40000000 in
theorem rm10_1 (l : Launch) (Z : State) (a0 : Array Value) (hw : ∀ d ∈ tables_1, d.before a0 Z = true) (ws : List Jvm.Cond) {m_OA : Addr} {w_REJECTED : Addr} {w_EMPTY_ELEMENTDATA : Addr} {w_DEFAULTCAPACITY_EMPTY_ELEMENTDATA : Addr} {w_EMPTY_LIST : Addr} {w_EMPTY_LIST_elements : Addr} {w_EMPTY : Addr} {k_w_EMPTY_ELEMENTDATA : ClassId} {k_w_DEFAULTCAPACITY_EMPTY_ELEMENTDATA : ClassId} {k_w_EMPTY_LIST_elements : ClassId} (G : Glob Z m_OA w_REJECTED w_EMPTY_ELEMENTDATA w_DEFAULTCAPACITY_EMPTY_ELEMENTDATA w_EMPTY_LIST w_EMPTY_LIST_elements w_EMPTY k_w_EMPTY_ELEMENTDATA k_w_DEFAULTCAPACITY_EMPTY_ELEMENTDATA k_w_EMPTY_LIST_elements) (a1 : Addr) (a5 : Addr) (k6 : ClassId) (a7 : Addr) (h0 : Heap) (n0 : Nat) (O0 : Old Z n0 h0) (E_a1 : Exa Z h0 a1 "java/util/ArrayList") (F_size_a1 : Fld Z h0 a1 "java/util/ArrayList" "size" "I" (.int (1 : Int32))) (F_elementData_a1 : Fld Z h0 a1 "java/util/ArrayList" "elementData" "[Ljava/lang/Object;" (.ref a5)) (E_a5 : Exa Z h0 a5 "[Ljava/lang/Object;") (V_a5 : Arv Z h0 a5 k6 (.object "java/lang/Object") (10 : Int32) [(.ref a7), .null, .null, .null, .null, .null, .null, .null, .null, .null] .null) (O_k6 : Ovr Z k6 "java/lang/Object") (E_a7 : Exa Z h0 a7 "com/example/curtail/curtail/Placement$Cell") :
    MetFree l (⟨"java/util/ImmutableCollections", "listCopy", "(Ljava/util/Collection;)Ljava/util/List;"⟩ : MethodName) (head1 (Jvm.Cond.code (⟨"java/util/ImmutableCollections", "listCopy", "(Ljava/util/Collection;)Ljava/util/List;"⟩ : MethodName) jdk_56_method_3_code 2 (some (.object "java/util/List")) :: ws) ({ frames := 6, cells := 2, slots := 3, locals := 75 } : Room)) (fun a U => a = #[(.ref a1)] ∧ Z.Warmed39 U.vm ∧ U.heap = h0) (fun _ _ _ _ _ => True) (fun _ U o U' => ∃ v L, o = .returned v ∧ Q10_1 Z m_OA w_REJECTED w_EMPTY_ELEMENTDATA w_DEFAULTCAPACITY_EMPTY_ELEMENTDATA w_EMPTY_LIST w_EMPTY_LIST_elements w_EMPTY k_w_EMPTY_ELEMENTDATA k_w_DEFAULTCAPACITY_EMPTY_ELEMENTDATA k_w_EMPTY_LIST_elements a1 a5 k6 a7 h0 n0 v U'.heap L ∧ FrameEnd U o U' L ({ frames := 6, cells := 2, slots := 3, locals := 75 } : Room).cells ({ frames := 6, cells := 2, slots := 3, locals := 75 } : Room).slots) := by
  refine MetFree.of_bodySF (plainFor_of_name pn_java_util_ImmutableCollections) hisR ?_
  intro p e s m args below meth c s₁ Bd hml0 hP hK
  obtain ⟨rfl, hZ, hh⟩ := hP
  have hx := Bd.exec
  have hby := Bd.bytes
  have hml : c.maxLocals = 2 := hml0
  have hown : s.vm.findClass "java/util/ImmutableCollections" = some m.cls := findClass_of_methodNamed Bd.named
  have hnm := (name_of_methodNamed Bd.named Bd.method).1
  have X0 : Stand p l e ({ frames := 6, cells := 2, slots := 3, locals := 75 } : Room) s m #[(.ref a1)] below meth c s₁ [] 0 0 := Stand.of_body Bd
  have e0 : s₁.heap = h0 := by rw [← hh, Bd.state]; rfl
  have N0 := Fr.nil n0
  show OGot p.tables e below (s₁.setTop (entryFrame m #[(.ref a1)] 2)) _
  refine OGot.go (fun t k => castTop (ef10_1 m a1) k) ?_
  show OGot p.tables e below (s₁.setTop (mkF m 0 #[.val (.ref a1), .unset] [])) _
  refine OGot.go (fun t k => XS.aloadN X0.here hx rfl (hb hby d10_0) rfl rfl k) ?_
  show OGot p.tables e below (s₁.setTop (mkF m 1 #[.val (.ref a1), .unset] [(.ref a1)])) _
  obtain ⟨T2, X2, e2, st2⟩ := instNo X0 hx hZ hown (ow hw 54 rfl) e0 E_a1 (oNS.no (ow hw 55 rfl) (ow hw 173 rfl) (NS.step (ow hw 55 rfl) (NS.step (ow hw 56 rfl) (NS.step (ow hw 57 rfl) (oNS.root (ow hw 58 rfl) (ow hw 173 rfl) (by decide)) (by decide)) (by decide)) (by decide)) (by decide)) (g := (mkF m 1 #[.val (.ref a1), .unset] [(.ref a1)])) rfl rfl (hb hby d10_1)
  refine OGot.go st2 ?_
  show OGot p.tables e below (T2.setTop (mkF m 4 #[.val (.ref a1), .unset] [(.int (0 : Int32))])) _
  refine OGot.go (fun t k => XS.ifNo X2.here hx rfl (hb hby d10_4) rfl (by decide) k) ?_
  show OGot p.tables e below (T2.setTop (mkF m 7 #[.val (.ref a1), .unset] [])) _
  refine OGot.go (fun t k => XS.aloadN X2.here hx rfl (hb hby d10_7) rfl rfl k) ?_
  show OGot p.tables e below (T2.setTop (mkF m 8 #[.val (.ref a1), .unset] [(.ref a1)])) _
  obtain ⟨T3, X3, e3, st3⟩ := instNo X2 hx hZ hown (ow hw 59 rfl) e2 E_a1 (pNS.no (ow hw 55 rfl) (y := ({ cls := "java/util/ImmutableCollections$ListN", name := "size", desc := "()I" } : Jvm.MethodName)) (ow hw 78 rfl) (NS.step (ow hw 55 rfl) (NS.step (ow hw 56 rfl) (NS.step (ow hw 57 rfl) (pNS.root (ow hw 58 rfl) (y := ({ cls := "java/util/ImmutableCollections$ListN", name := "size", desc := "()I" } : Jvm.MethodName)) (ow hw 78 rfl) (by decide)) (by decide)) (by decide)) (by decide)) (by decide)) (g := (mkF m 8 #[.val (.ref a1), .unset] [(.ref a1)])) rfl rfl (hb hby d10_8)
  refine OGot.go st3 ?_
  show OGot p.tables e below (T3.setTop (mkF m 11 #[.val (.ref a1), .unset] [(.int (0 : Int32))])) _
  refine OGot.go (fun t k => XS.ifYes X3.here hx rfl (pc0 := 11) (pc' := 31) rfl (hb hby d10_11) rfl (by decide) (by decide) (by decide) k) ?_
  show OGot p.tables e below (T3.setTop (mkF m 31 #[.val (.ref a1), .unset] [])) _
  refine OGot.go (fun t k => XS.aloadN X3.here hx rfl (hb hby d10_31) rfl rfl k) ?_
  show OGot p.tables e below (T3.setTop (mkF m 32 #[.val (.ref a1), .unset] [(.ref a1)])) _
  obtain ⟨cq4, kq4, q4a, q4b, q4c⟩ := isOf hZ e3 E_a1
  obtain ⟨_, _, ⟨T4, L4, k4, n4⟩, -, X4, ⟨Lc4, hQ4, l4, y4, z4⟩, st4⟩ := X3.interfaceBack hx (xi := (⟨"java/util/Collection", "isEmpty", "()Z"⟩ : MethodName)) (y := (⟨"java/util/ArrayList", "isEmpty", "()Z"⟩ : MethodName)) hown (mvT hZ (ow hw 60 rfl)) (mvT hZ (ow hw 61 rfl)) (mvT hZ (ow hw 62 rfl)) (mvT hZ (ow hw 63 rfl)) (mvT hZ (ow hw 64 rfl)) (mvT hZ (ow hw 65 rfl)) (mvT hZ (ow hw 66 rfl)) (mvT hZ (ow hw 67 rfl)) (by decide) (backOf (W := 0) (rm11_1 l Z a0 hw [] G a1 h0 n0 O0 F_size_a1) hZ (ow hw 68 rfl) (ow hw 10 rfl) (by decide) (by decide)) q4a q4b q4c (g := (mkF m 32 #[.val (.ref a1), .unset] [(.ref a1)])) rfl (by rw [hml]; rfl) (Steps.refl _) (argsL := []) (rest := []) (lenOf pd_2 rfl) rfl (by show 2 * 0 + _ ≤ _; exact Nat.le_of_eq rfl) (hb hby d10_32) (fun _ _ => ⟨rfl, e3, (by decide : 0 + 0 ≤ _), (by decide : 0 + 0 ≤ _)⟩)
  dsimp only [Pt.U, Pt.locs, Pt.cells, Pt.slots] at X4 l4 y4 z4 st4 hQ4
  subst l4 y4 z4
  obtain ⟨rfl, N4q, e4⟩ := hQ4
  have N4 := Fr.app N0 N4q
  refine OGot.on st4 ?_
  show OGot p.tables e below (T4.setTop (mkF m 37 #[.val (.ref a1), .unset] [(.int (0 : Int32))])) _
  refine OGot.go (fun t k => XS.ifYes X4.here hx rfl (pc0 := 37) (pc' := 44) rfl (hb hby d10_37) rfl (by decide) (by decide) (by decide) k) ?_
  show OGot p.tables e below (T4.setTop (mkF m 44 #[.val (.ref a1), .unset] [])) _
  refine OGot.go (fun t k => XS.aloadN X4.here hx rfl (hb hby d10_44) rfl rfl k) ?_
  show OGot p.tables e below (T4.setTop (mkF m 45 #[.val (.ref a1), .unset] [(.ref a1)])) _
  obtain ⟨cq8, kq8, q8a, q8b, q8c⟩ := isOf hZ e4 E_a1
  obtain ⟨_, _, ⟨T8, L8, k8, n8⟩, -, X8, ⟨Lc8, hQ8, l8, y8, z8⟩, st8⟩ := X4.interfaceBack hx (xi := (⟨"java/util/Collection", "toArray", "()[Ljava/lang/Object;"⟩ : MethodName)) (y := (⟨"java/util/ArrayList", "toArray", "()[Ljava/lang/Object;"⟩ : MethodName)) hown (mvT hZ (ow hw 141 rfl)) (mvT hZ (ow hw 142 rfl)) (mvT hZ (ow hw 143 rfl)) (mvT hZ (ow hw 144 rfl)) (mvT hZ (ow hw 145 rfl)) (mvT hZ (ow hw 146 rfl)) (mvT hZ (ow hw 147 rfl)) (mvT hZ (ow hw 67 rfl)) (by decide) (backOf (W := 0) (rm21 l Z a0 hw [] G a1 a5 k6 a7 h0 n0 O0 F_elementData_a1 F_size_a1 E_a5 V_a5 O_k6 E_a7) hZ (ow hw 148 rfl) (ow hw 10 rfl) (by decide) (by decide)) q8a q8b q8c (g := (mkF m 45 #[.val (.ref a1), .unset] [(.ref a1)])) rfl (by rw [hml]; rfl) (Steps.refl _) (argsL := []) (rest := []) (lenOf pd_9 rfl) rfl (by show 2 * 0 + _ ≤ _; exact Nat.le_of_eq rfl) (hb hby d10_45) (fun _ _ => ⟨rfl, e4, (by decide : 0 + 1 ≤ _), (by decide : 0 + 1 ≤ _)⟩)
  dsimp only [Pt.U, Pt.locs, Pt.cells, Pt.slots] at X8 l8 y8 z8 st8 hQ8
  subst l8 y8 z8
  obtain ⟨N8q, b4_5_7_8, k4_5_7_8, rfl, szb4_5_7_8_8, K8, Fo8_0, Fo8_1, Fo8_2⟩ := hQ8
  have g_b4_5_7_8 : n0 ≤ b4_5_7_8 := Nat.le_trans (osz O0) szb4_5_7_8_8
  have sz_b4_5_7_8 : h0.size ≤ b4_5_7_8 := Nat.le_trans (OKeep.refl h0 []).1 szb4_5_7_8_8
  have Kc8 := (OKeep.refl h0 []).trans K8 oin0
  have O8 := OKeep.old O0 K8 oge0
  have N8 := Fr.app N4 N8q
  refine OGot.on st8 ?_
  show OGot p.tables e below (T8.setTop (mkF m 50 #[.val (.ref a1), .unset] [(.ref b4_5_7_8)])) _
  obtain ⟨_, _, ⟨T9, L9, k9, n9⟩, -, X9, ⟨Lc9, hQ9, l9, y9, z9⟩, st9⟩ := Jvm.LawKit.callS X8 hx (y := (⟨"java/util/List", "of", "([Ljava/lang/Object;)Ljava/util/List;"⟩ : MethodName)) hown (mvT hZ (ow hw 169 rfl)) (mvT hZ (ow hw 170 rfl)) (mvT hZ (ow hw 48 rfl)) (mvT hZ (ow hw 171 rfl)) (by decide) (backOf (W := 0) (rm24 l Z a0 hw [] G b4_5_7_8 k4_5_7_8 a7 T8.heap n0 O8 Fo8_1 Fo8_2) hZ (ow hw 171 rfl) (ow hw 48 rfl) (by decide) (by decide)) (g := (mkF m 50 #[.val (.ref a1), .unset] [(.ref b4_5_7_8)])) rfl (by rw [hml]; rfl) (argsL := [(.ref b4_5_7_8)]) (rest := []) (lenOf pd_16 rfl) rfl (by show 2 * 0 + _ ≤ _; exact Nat.le_of_eq rfl) (hb hby d10_50) (fun _ _ => ⟨rfl, rfl, (by decide : 1 + 1 ≤ _), (by decide : 1 + 2 ≤ _)⟩)
  dsimp only [Pt.U, Pt.locs, Pt.cells, Pt.slots] at X9 l9 y9 z9 st9 hQ9
  subst l9 y9 z9
  obtain ⟨N9q, b5_9, rfl, szb5_9_9, K9, Fo9_0, Fo9_1, Fo9_2⟩ := hQ9
  have g_b5_9 : n0 ≤ b5_9 := Nat.le_trans (osz O8) szb5_9_9
  have sz_b5_9 : h0.size ≤ b5_9 := Nat.le_trans Kc8.1 szb5_9_9
  have Kc9 := Kc8.trans K9 oin0
  have O9 := OKeep.old O8 K9 oge0
  have N9 := Fr.app N8 N9q
  refine OGot.go st9 ?_
  show OGot p.tables e below (T9.setTop (mkF m 53 #[.val (.ref a1), .unset] [(.ref b5_9)])) _
  obtain ⟨fs, hr, hrun, hended, hW, hsame⟩ := X9.leave (v := some (.ref b5_9)) (fun h => by rw [Bd.returns] at h; cases h)
  refine ⟨_, _, oretA X9 hx Bd.returns rfl rfl (hb hby d10_53) hr, hrun, hended, _, _, rfl, ?_, ⟨_, rfl⟩, hW, hsame.mono (by decide) (by decide)⟩
  show Q10_1 Z m_OA w_REJECTED w_EMPTY_ELEMENTDATA w_DEFAULTCAPACITY_EMPTY_ELEMENTDATA w_EMPTY_LIST w_EMPTY_LIST_elements w_EMPTY k_w_EMPTY_ELEMENTDATA k_w_DEFAULTCAPACITY_EMPTY_ELEMENTDATA k_w_EMPTY_LIST_elements a1 a5 k6 a7 h0 n0 _ T9.heap _
  exact ⟨N9, b5_9, rfl, sz_b5_9, Kc9, Fo9_0, Fo9_1, Fo9_2⟩
def Q9_1 (Z : State) (m_OA : Addr) (w_REJECTED : Addr) (w_EMPTY_ELEMENTDATA : Addr) (w_DEFAULTCAPACITY_EMPTY_ELEMENTDATA : Addr) (w_EMPTY_LIST : Addr) (w_EMPTY_LIST_elements : Addr) (w_EMPTY : Addr) (k_w_EMPTY_ELEMENTDATA : ClassId) (k_w_DEFAULTCAPACITY_EMPTY_ELEMENTDATA : ClassId) (k_w_EMPTY_LIST_elements : ClassId) (a1 : Addr) (a2 : Addr) (k3 : ClassId) (a4 : Addr) (h0 : Heap) (n0 : Nat) (v : Option Value) (h : Heap) (L : List Loc) : Prop := Fr n0 L ∧ ∃ b5_9_5 : Addr, v = some (.ref b5_9_5) ∧ h0.size ≤ b5_9_5 ∧ OKeep h0 h [] ∧ Exa Z h b5_9_5 "java/util/ImmutableCollections$List12" ∧ Fld Z h b5_9_5 "java/util/ImmutableCollections$List12" "e0" "Ljava/lang/Object;" (.ref a4) ∧ Fld Z h b5_9_5 "java/util/ImmutableCollections$List12" "e1" "Ljava/lang/Object;" (.ref w_EMPTY)
theorem ef9_1 (m : MethodId) (x0 : Addr) : entryFrame m #[(.ref x0)] 1 = mkF m 0 #[.val (.ref x0)] [] := by first | (simp [entryFrame, mkF, argsToLocals, Value.category]; done) | rfl
set_option maxRecDepth 65536 in
set_option maxHeartbeats 40000000 in
theorem rm9_1 (l : Launch) (Z : State) (a0 : Array Value) (hw : ∀ d ∈ tables_1, d.before a0 Z = true) (ws : List Jvm.Cond) {m_OA : Addr} {w_REJECTED : Addr} {w_EMPTY_ELEMENTDATA : Addr} {w_DEFAULTCAPACITY_EMPTY_ELEMENTDATA : Addr} {w_EMPTY_LIST : Addr} {w_EMPTY_LIST_elements : Addr} {w_EMPTY : Addr} {k_w_EMPTY_ELEMENTDATA : ClassId} {k_w_DEFAULTCAPACITY_EMPTY_ELEMENTDATA : ClassId} {k_w_EMPTY_LIST_elements : ClassId} (G : Glob Z m_OA w_REJECTED w_EMPTY_ELEMENTDATA w_DEFAULTCAPACITY_EMPTY_ELEMENTDATA w_EMPTY_LIST w_EMPTY_LIST_elements w_EMPTY k_w_EMPTY_ELEMENTDATA k_w_DEFAULTCAPACITY_EMPTY_ELEMENTDATA k_w_EMPTY_LIST_elements) (a1 : Addr) (a2 : Addr) (k3 : ClassId) (a4 : Addr) (h0 : Heap) (n0 : Nat) (O0 : Old Z n0 h0) (E_a1 : Exa Z h0 a1 "java/util/ArrayList") (F_size_a1 : Fld Z h0 a1 "java/util/ArrayList" "size" "I" (.int (1 : Int32))) (F_elementData_a1 : Fld Z h0 a1 "java/util/ArrayList" "elementData" "[Ljava/lang/Object;" (.ref a2)) (E_a2 : Exa Z h0 a2 "[Ljava/lang/Object;") (V_a2 : Arv Z h0 a2 k3 (.object "java/lang/Object") (10 : Int32) [(.ref a4), .null, .null, .null, .null, .null, .null, .null, .null, .null] .null) (O_k3 : Ovr Z k3 "java/lang/Object") (E_a4 : Exa Z h0 a4 "com/example/curtail/curtail/Placement$Cell") :
    MetFree l (⟨"java/util/List", "copyOf", "(Ljava/util/Collection;)Ljava/util/List;"⟩ : MethodName) (head1 (Jvm.Cond.code (⟨"java/util/List", "copyOf", "(Ljava/util/Collection;)Ljava/util/List;"⟩ : MethodName) jdk_40_method_48_code 1 (some (.object "java/util/List")) :: ws) ({ frames := 7, cells := 2, slots := 3, locals := 88 } : Room)) (fun a U => a = #[(.ref a1)] ∧ Z.Warmed39 U.vm ∧ U.heap = h0) (fun _ _ _ _ _ => True) (fun _ U o U' => ∃ v L, o = .returned v ∧ Q9_1 Z m_OA w_REJECTED w_EMPTY_ELEMENTDATA w_DEFAULTCAPACITY_EMPTY_ELEMENTDATA w_EMPTY_LIST w_EMPTY_LIST_elements w_EMPTY k_w_EMPTY_ELEMENTDATA k_w_DEFAULTCAPACITY_EMPTY_ELEMENTDATA k_w_EMPTY_LIST_elements a1 a2 k3 a4 h0 n0 v U'.heap L ∧ FrameEnd U o U' L ({ frames := 7, cells := 2, slots := 3, locals := 88 } : Room).cells ({ frames := 7, cells := 2, slots := 3, locals := 88 } : Room).slots) := by
  refine MetFree.of_bodySF (plainFor_of_name pn_java_util_List) hisR ?_
  intro p e s m args below meth c s₁ Bd hml0 hP hK
  obtain ⟨rfl, hZ, hh⟩ := hP
  have hx := Bd.exec
  have hby := Bd.bytes
  have hml : c.maxLocals = 1 := hml0
  have hown : s.vm.findClass "java/util/List" = some m.cls := findClass_of_methodNamed Bd.named
  have hnm := (name_of_methodNamed Bd.named Bd.method).1
  have X0 : Stand p l e ({ frames := 7, cells := 2, slots := 3, locals := 88 } : Room) s m #[(.ref a1)] below meth c s₁ [] 0 0 := Stand.of_body Bd
  have e0 : s₁.heap = h0 := by rw [← hh, Bd.state]; rfl
  have N0 := Fr.nil n0
  show OGot p.tables e below (s₁.setTop (entryFrame m #[(.ref a1)] 1)) _
  refine OGot.go (fun t k => castTop (ef9_1 m a1) k) ?_
  show OGot p.tables e below (s₁.setTop (mkF m 0 #[.val (.ref a1)] [])) _
  refine OGot.go (fun t k => XS.aloadN X0.here hx rfl (hb hby d9_0) rfl rfl k) ?_
  show OGot p.tables e below (s₁.setTop (mkF m 1 #[.val (.ref a1)] [(.ref a1)])) _
  obtain ⟨_, _, ⟨T5, L5, k5, n5⟩, -, X5, ⟨Lc5, hQ5, l5, y5, z5⟩, st5⟩ := Jvm.LawKit.callS X0 hx (y := (⟨"java/util/ImmutableCollections", "listCopy", "(Ljava/util/Collection;)Ljava/util/List;"⟩ : MethodName)) hown (mvT hZ (ow hw 50 rfl)) (mvT hZ (ow hw 51 rfl)) (mvT hZ (ow hw 52 rfl)) (mvT hZ (ow hw 53 rfl)) (by decide) (backOf (W := 0) (rm10_1 l Z a0 hw [] G a1 a2 k3 a4 h0 n0 O0 E_a1 F_size_a1 F_elementData_a1 E_a2 V_a2 O_k3 E_a4) hZ (ow hw 53 rfl) (ow hw 52 rfl) (by decide) (by decide)) (g := (mkF m 1 #[.val (.ref a1)] [(.ref a1)])) rfl (by rw [hml]; rfl) (argsL := [(.ref a1)]) (rest := []) (lenOf pd_4 rfl) rfl (by show 2 * 0 + _ ≤ _; exact Nat.le_of_eq rfl) (hb hby d9_1) (fun _ _ => ⟨rfl, e0, (by decide : 0 + 2 ≤ _), (by decide : 0 + 3 ≤ _)⟩)
  dsimp only [Pt.U, Pt.locs, Pt.cells, Pt.slots] at X5 l5 y5 z5 st5 hQ5
  subst l5 y5 z5
  obtain ⟨N5q, b5_9_5, rfl, szb5_9_5_5, K5, Fo5_0, Fo5_1, Fo5_2⟩ := hQ5
  have g_b5_9_5 : n0 ≤ b5_9_5 := Nat.le_trans (osz O0) szb5_9_5_5
  have sz_b5_9_5 : h0.size ≤ b5_9_5 := Nat.le_trans (OKeep.refl h0 []).1 szb5_9_5_5
  have Kc5 := (OKeep.refl h0 []).trans K5 oin0
  have O5 := OKeep.old O0 K5 oge0
  have N5 := Fr.app N0 N5q
  refine OGot.go st5 ?_
  show OGot p.tables e below (T5.setTop (mkF m 4 #[.val (.ref a1)] [(.ref b5_9_5)])) _
  obtain ⟨fs, hr, hrun, hended, hW, hsame⟩ := X5.leave (v := some (.ref b5_9_5)) (fun h => by rw [Bd.returns] at h; cases h)
  refine ⟨_, _, oretA X5 hx Bd.returns rfl rfl (hb hby d9_4) hr, hrun, hended, _, _, rfl, ?_, ⟨_, rfl⟩, hW, hsame.mono (by decide) (by decide)⟩
  show Q9_1 Z m_OA w_REJECTED w_EMPTY_ELEMENTDATA w_DEFAULTCAPACITY_EMPTY_ELEMENTDATA w_EMPTY_LIST w_EMPTY_LIST_elements w_EMPTY k_w_EMPTY_ELEMENTDATA k_w_DEFAULTCAPACITY_EMPTY_ELEMENTDATA k_w_EMPTY_LIST_elements a1 a2 k3 a4 h0 n0 _ T5.heap _
  exact ⟨N5, b5_9_5, rfl, sz_b5_9_5, Kc5, Fo5_0, Fo5_1, Fo5_2⟩
theorem d29_0 : decode jdk_44_method_3_code 0 = .ok (.aload_n 0, 1) := by decide +kernel
theorem d29_1 : decode jdk_44_method_3_code 1 = .ok (.getfield 24, 3) := by decide +kernel
theorem d29_4 : decode jdk_44_method_3_code 4 = .ok (.getstatic 19, 3) := by decide +kernel
theorem d29_7 : decode jdk_44_method_3_code 7 = .ok (.if_acmp .eq 7, 3) := by decide +kernel
theorem d29_14 : decode jdk_44_method_3_code 14 = .ok (.iconst 1, 1) := by decide +kernel
theorem d29_15 : decode jdk_44_method_3_code 15 = .ok (.ireturn, 1) := by decide +kernel
def Q29 (Z : State) (m_OA : Addr) (w_REJECTED : Addr) (w_EMPTY_ELEMENTDATA : Addr) (w_DEFAULTCAPACITY_EMPTY_ELEMENTDATA : Addr) (w_EMPTY_LIST : Addr) (w_EMPTY_LIST_elements : Addr) (w_EMPTY : Addr) (k_w_EMPTY_ELEMENTDATA : ClassId) (k_w_DEFAULTCAPACITY_EMPTY_ELEMENTDATA : ClassId) (k_w_EMPTY_LIST_elements : ClassId) (a1 : Addr) (a2 : Addr) (h0 : Heap) (n0 : Nat) (v : Option Value) (h : Heap) (L : List Loc) : Prop := v = some (.int (1 : Int32)) ∧ Fr n0 L ∧ h = h0
theorem ef29 (m : MethodId) (x0 : Addr) : entryFrame m #[(.ref x0)] 1 = mkF m 0 #[.val (.ref x0)] [] := by first | (simp [entryFrame, mkF, argsToLocals, Value.category]; done) | rfl
set_option maxRecDepth 65536 in
set_option maxHeartbeats 40000000 in
theorem rm29 (l : Launch) (Z : State) (a0 : Array Value) (hw : ∀ d ∈ tables_1, d.before a0 Z = true) (ws : List Jvm.Cond) {m_OA : Addr} {w_REJECTED : Addr} {w_EMPTY_ELEMENTDATA : Addr} {w_DEFAULTCAPACITY_EMPTY_ELEMENTDATA : Addr} {w_EMPTY_LIST : Addr} {w_EMPTY_LIST_elements : Addr} {w_EMPTY : Addr} {k_w_EMPTY_ELEMENTDATA : ClassId} {k_w_DEFAULTCAPACITY_EMPTY_ELEMENTDATA : ClassId} {k_w_EMPTY_LIST_elements : ClassId} (G : Glob Z m_OA w_REJECTED w_EMPTY_ELEMENTDATA w_DEFAULTCAPACITY_EMPTY_ELEMENTDATA w_EMPTY_LIST w_EMPTY_LIST_elements w_EMPTY k_w_EMPTY_ELEMENTDATA k_w_DEFAULTCAPACITY_EMPTY_ELEMENTDATA k_w_EMPTY_LIST_elements) (a1 : Addr) (a2 : Addr) (h0 : Heap) (n0 : Nat) (O0 : Old Z n0 h0) (F_e1_a1 : Fld Z h0 a1 "java/util/ImmutableCollections$List12" "e1" "Ljava/lang/Object;" (.ref a2)) (E_a2 : Exa Z h0 a2 "java/lang/Object") (hc_1 : a2 = w_EMPTY) :
    MetFree l (⟨"java/util/ImmutableCollections$List12", "size", "()I"⟩ : MethodName) (head1 (Jvm.Cond.code (⟨"java/util/ImmutableCollections$List12", "size", "()I"⟩ : MethodName) jdk_44_method_3_code 1 (some .int) :: ws) ({ frames := 0, cells := 0, slots := 0, locals := 0 } : Room)) (fun a U => a = #[(.ref a1)] ∧ Z.Warmed39 U.vm ∧ U.heap = h0) (fun _ _ _ _ _ => True) (fun _ U o U' => ∃ v L, o = .returned v ∧ Q29 Z m_OA w_REJECTED w_EMPTY_ELEMENTDATA w_DEFAULTCAPACITY_EMPTY_ELEMENTDATA w_EMPTY_LIST w_EMPTY_LIST_elements w_EMPTY k_w_EMPTY_ELEMENTDATA k_w_DEFAULTCAPACITY_EMPTY_ELEMENTDATA k_w_EMPTY_LIST_elements a1 a2 h0 n0 v U'.heap L ∧ FrameEnd U o U' L ({ frames := 0, cells := 0, slots := 0, locals := 0 } : Room).cells ({ frames := 0, cells := 0, slots := 0, locals := 0 } : Room).slots) := by
  refine MetFree.of_bodySF (plainFor_of_name pn_java_util_ImmutableCollections_List12) hisR ?_
  intro p e s m args below meth c s₁ Bd hml0 hP hK
  obtain ⟨rfl, hZ, hh⟩ := hP
  have hx := Bd.exec
  have hby := Bd.bytes
  have hml : c.maxLocals = 1 := hml0
  have hown : s.vm.findClass "java/util/ImmutableCollections$List12" = some m.cls := findClass_of_methodNamed Bd.named
  have hnm := (name_of_methodNamed Bd.named Bd.method).1
  have X0 : Stand p l e ({ frames := 0, cells := 0, slots := 0, locals := 0 } : Room) s m #[(.ref a1)] below meth c s₁ [] 0 0 := Stand.of_body Bd
  have e0 : s₁.heap = h0 := by rw [← hh, Bd.state]; rfl
  have N0 := Fr.nil n0
  show OGot p.tables e below (s₁.setTop (entryFrame m #[(.ref a1)] 1)) _
  refine OGot.go (fun t k => castTop (ef29 m a1) k) ?_
  show OGot p.tables e below (s₁.setTop (mkF m 0 #[.val (.ref a1)] [])) _
  refine OGot.go (fun t k => XS.aloadN X0.here hx rfl (hb hby d29_0) rfl rfl k) ?_
  show OGot p.tables e below (s₁.setTop (mkF m 1 #[.val (.ref a1)] [(.ref a1)])) _
  obtain ⟨T3, X3, e3, st3⟩ := getF X0 hx hZ hown (host := "") (Or.inl (ow hw 199 rfl)) Via.refl e0 F_e1_a1 (g := (mkF m 1 #[.val (.ref a1)] [(.ref a1)])) rfl rfl (hb hby d29_1)
  refine OGot.go st3 ?_
  show OGot p.tables e below (T3.setTop (mkF m 4 #[.val (.ref a1)] [(.ref a2)])) _
  obtain ⟨T4, X4, e4, st4⟩ := getS2 X3 hx hZ hown (Or.inr (ow hw 207 rfl)) Via.refl e3 (G.2.2.2.2.2.2.2.2.2.2.2.1.ext O0.2) (g := (mkF m 4 #[.val (.ref a1)] [(.ref a2)])) rfl (hb hby d29_4)
  refine OGot.go st4 ?_
  show OGot p.tables e below (T4.setTop (mkF m 7 #[.val (.ref a1)] [(.ref w_EMPTY), (.ref a2)])) _
  refine OGot.go (fun t k => Jvm.RoadKit.acmp (g := (mkF m 7 #[.val (.ref a1)] [(.ref w_EMPTY), (.ref a2)])) X4 hx rfl rfl rfl (pc0 := 7) (pc' := 14) (same := true) rfl (hb hby d29_7) rfl (decide_eq_true (congrArg Value.ref hc_1)) (by decide) (by decide) k) ?_
  show OGot p.tables e below (T4.setTop (mkF m 14 #[.val (.ref a1)] [])) _
  refine OGot.go (fun t k => XS.iconst X4.here hx rfl (hb hby d29_14) k) ?_
  show OGot p.tables e below (T4.setTop (mkF m 15 #[.val (.ref a1)] [(.int (1 : Int32))])) _
  obtain ⟨fs, hr, hrun, hended, hW, hsame⟩ := X4.leave (v := some (.int (1 : Int32))) (fun h => by rw [Bd.returns] at h; cases h)
  refine ⟨_, _, retI X4 hx Bd.returns (hb hby d29_15) hr, hrun, hended, _, _, rfl, ?_, ⟨_, rfl⟩, hW, hsame.mono (by decide) (by decide)⟩
  exact (⟨rfl, N0, e4⟩ : Q29 Z m_OA w_REJECTED w_EMPTY_ELEMENTDATA w_DEFAULTCAPACITY_EMPTY_ELEMENTDATA w_EMPTY_LIST w_EMPTY_LIST_elements w_EMPTY k_w_EMPTY_ELEMENTDATA k_w_DEFAULTCAPACITY_EMPTY_ELEMENTDATA k_w_EMPTY_LIST_elements a1 a2 h0 n0 _ T4.heap _)
def Q7_1 (Z : State) (m_OA : Addr) (w_REJECTED : Addr) (w_EMPTY_ELEMENTDATA : Addr) (w_DEFAULTCAPACITY_EMPTY_ELEMENTDATA : Addr) (w_EMPTY_LIST : Addr) (w_EMPTY_LIST_elements : Addr) (w_EMPTY : Addr) (k_w_EMPTY_ELEMENTDATA : ClassId) (k_w_DEFAULTCAPACITY_EMPTY_ELEMENTDATA : ClassId) (k_w_EMPTY_LIST_elements : ClassId) (a1 : Addr) (a2 : Addr) (a4 : Addr) (k5 : ClassId) (a6 : Addr) (h0 : Heap) (n0 : Nat) (v : Option Value) (h : Heap) (L : List Loc) : Prop := Fr n0 L ∧ ∃ b5_9_5_7 : Addr, v = none ∧ h0.size ≤ b5_9_5_7 ∧ OKeep h0 h [(a1, Jvm.RoadKit.slotOf Z "com/example/curtail/curtail/Placement" "aCells" "Ljava/util/List;")] ∧ Fld Z h a1 "com/example/curtail/curtail/Placement" "aCells" "Ljava/util/List;" (.ref b5_9_5_7) ∧ Exa Z h b5_9_5_7 "java/util/ImmutableCollections$List12" ∧ Fld Z h b5_9_5_7 "java/util/ImmutableCollections$List12" "e0" "Ljava/lang/Object;" (.ref a6) ∧ Fld Z h b5_9_5_7 "java/util/ImmutableCollections$List12" "e1" "Ljava/lang/Object;" (.ref w_EMPTY)
theorem ef7_1 (m : MethodId) (x0 : Addr) (x1 : Addr) : entryFrame m #[(.ref x0), (.ref x1)] 3 = mkF m 0 #[.val (.ref x0), .val (.ref x1), .unset] [] := by first | (simp [entryFrame, mkF, argsToLocals, Value.category]; done) | rfl
set_option maxRecDepth 65536 in
set_option maxHeartbeats 40000000 in
theorem rm7_1 (l : Launch) (Z : State) (a0 : Array Value) (hw : ∀ d ∈ tables_1, d.before a0 Z = true) (ws : List Jvm.Cond) {m_OA : Addr} {w_REJECTED : Addr} {w_EMPTY_ELEMENTDATA : Addr} {w_DEFAULTCAPACITY_EMPTY_ELEMENTDATA : Addr} {w_EMPTY_LIST : Addr} {w_EMPTY_LIST_elements : Addr} {w_EMPTY : Addr} {k_w_EMPTY_ELEMENTDATA : ClassId} {k_w_DEFAULTCAPACITY_EMPTY_ELEMENTDATA : ClassId} {k_w_EMPTY_LIST_elements : ClassId} (G : Glob Z m_OA w_REJECTED w_EMPTY_ELEMENTDATA w_DEFAULTCAPACITY_EMPTY_ELEMENTDATA w_EMPTY_LIST w_EMPTY_LIST_elements w_EMPTY k_w_EMPTY_ELEMENTDATA k_w_DEFAULTCAPACITY_EMPTY_ELEMENTDATA k_w_EMPTY_LIST_elements) (a1 : Addr) (a2 : Addr) (a4 : Addr) (k5 : ClassId) (a6 : Addr) (h0 : Heap) (n0 : Nat) (O0 : Old Z n0 h0) (E_a2 : Exa Z h0 a2 "java/util/ArrayList") (F_size_a2 : Fld Z h0 a2 "java/util/ArrayList" "size" "I" (.int (1 : Int32))) (F_elementData_a2 : Fld Z h0 a2 "java/util/ArrayList" "elementData" "[Ljava/lang/Object;" (.ref a4)) (E_a4 : Exa Z h0 a4 "[Ljava/lang/Object;") (V_a4 : Arv Z h0 a4 k5 (.object "java/lang/Object") (10 : Int32) [(.ref a6), .null, .null, .null, .null, .null, .null, .null, .null, .null] .null) (O_k5 : Ovr Z k5 "java/lang/Object") (E_a6 : Exa Z h0 a6 "com/example/curtail/curtail/Placement$Cell") (E_a1 : Exa Z h0 a1 "com/example/curtail/curtail/Placement") (F_aCells_a1 : Fld Z h0 a1 "com/example/curtail/curtail/Placement" "aCells" "Ljava/util/List;" .null) (g_a1 : n0 ≤ a1) :
    MetFree l (⟨"com/example/curtail/curtail/Placement", "<init>", "(Ljava/util/List;)V"⟩ : MethodName) (head1 (Jvm.Cond.code (⟨"com/example/curtail/curtail/Placement", "<init>", "(Ljava/util/List;)V"⟩ : MethodName) prog_14_method_1_code 3 none :: ws) ({ frames := 8, cells := 2, slots := 3, locals := 100 } : Room)) (fun a U => a = #[(.ref a1), (.ref a2)] ∧ Z.Warmed39 U.vm ∧ U.heap = h0) (fun _ _ _ _ _ => True) (fun _ U o U' => ∃ v L, o = .returned v ∧ Q7_1 Z m_OA w_REJECTED w_EMPTY_ELEMENTDATA w_DEFAULTCAPACITY_EMPTY_ELEMENTDATA w_EMPTY_LIST w_EMPTY_LIST_elements w_EMPTY k_w_EMPTY_ELEMENTDATA k_w_DEFAULTCAPACITY_EMPTY_ELEMENTDATA k_w_EMPTY_LIST_elements a1 a2 a4 k5 a6 h0 n0 v U'.heap L ∧ FrameEnd U o U' L ({ frames := 8, cells := 2, slots := 3, locals := 100 } : Room).cells ({ frames := 8, cells := 2, slots := 3, locals := 100 } : Room).slots) := by
  refine MetFree.of_bodySF (plainFor_of_name pn_com_example_curtail_curtail_Placement) hisR ?_
  intro p e s m args below meth c s₁ Bd hml0 hP hK
  obtain ⟨rfl, hZ, hh⟩ := hP
  have hx := Bd.exec
  have hby := Bd.bytes
  have hml : c.maxLocals = 3 := hml0
  have hown : s.vm.findClass "com/example/curtail/curtail/Placement" = some m.cls := findClass_of_methodNamed Bd.named
  have hnm := (name_of_methodNamed Bd.named Bd.method).1
  have X0 : Stand p l e ({ frames := 8, cells := 2, slots := 3, locals := 100 } : Room) s m #[(.ref a1), (.ref a2)] below meth c s₁ [] 0 0 := Stand.of_body Bd
  have e0 : s₁.heap = h0 := by rw [← hh, Bd.state]; rfl
  have N0 := Fr.nil n0
  show OGot p.tables e below (s₁.setTop (entryFrame m #[(.ref a1), (.ref a2)] 3)) _
  refine OGot.go (fun t k => castTop (ef7_1 m a1 a2) k) ?_
  show OGot p.tables e below (s₁.setTop (mkF m 0 #[.val (.ref a1), .val (.ref a2), .unset] [])) _
  refine OGot.go (fun t k => XS.aloadN X0.here hx rfl (hb hby d7_0) rfl rfl k) ?_
  show OGot p.tables e below (s₁.setTop (mkF m 1 #[.val (.ref a1), .val (.ref a2), .unset] [(.ref a1)])) _
  obtain ⟨_, _, ⟨T3, L3, k3, n3⟩, -, X3, ⟨Lc3, hQ3, l3, y3, z3⟩, st3⟩ := X0.specialBack hx (y := (⟨"java/lang/Record", "<init>", "()V"⟩ : MethodName)) rfl hown (mvT hZ (ow hw 40 rfl)) (mvT hZ (ow hw 41 rfl)) (mvT hZ (ow hw 44 rfl)) (by decide) (backOf (W := 0) (rm8 l Z a0 hw [] G a1 h0 n0 O0 ) hZ (ow hw 44 rfl) (ow hw 43 rfl) (by decide) (by decide)) (g := (mkF m 1 #[.val (.ref a1), .val (.ref a2), .unset] [(.ref a1)])) rfl (by rw [hml]; rfl) (Steps.refl _) (a := a1) (argsL := []) (rest := []) (lenOf pd_1 rfl) rfl (by show 2 * 0 + _ ≤ _; exact Nat.le_of_eq rfl) (hb hby d7_1) (fun _ _ => ⟨rfl, e0, (by decide : 0 + 0 ≤ _), (by decide : 0 + 0 ≤ _)⟩)
  dsimp only [Pt.U, Pt.locs, Pt.cells, Pt.slots] at X3 l3 y3 z3 st3 hQ3
  subst l3 y3 z3
  obtain ⟨rfl, N3q, e3⟩ := hQ3
  have N3 := Fr.app N0 N3q
  refine OGot.on st3 ?_
  show OGot p.tables e below (T3.setTop (mkF m 4 #[.val (.ref a1), .val (.ref a2), .unset] [])) _
  refine OGot.go (fun t k => XS.aloadN X3.here hx rfl (hb hby d7_4) rfl rfl k) ?_
  show OGot p.tables e below (T3.setTop (mkF m 5 #[.val (.ref a1), .val (.ref a2), .unset] [(.ref a2)])) _
  obtain ⟨_, _, ⟨T7, L7, k7, n7⟩, -, X7, ⟨Lc7, hQ7, l7, y7, z7⟩, st7⟩ := Jvm.LawKit.callS X3 hx (y := (⟨"java/util/List", "copyOf", "(Ljava/util/Collection;)Ljava/util/List;"⟩ : MethodName)) hown (mvT hZ (ow hw 46 rfl)) (mvT hZ (ow hw 47 rfl)) (mvT hZ (ow hw 48 rfl)) (mvT hZ (ow hw 49 rfl)) (by decide) (backOf (W := 0) (rm9_1 l Z a0 hw [] G a2 a4 k5 a6 h0 n0 O0 E_a2 F_size_a2 F_elementData_a2 E_a4 V_a4 O_k5 E_a6) hZ (ow hw 49 rfl) (ow hw 48 rfl) (by decide) (by decide)) (g := (mkF m 5 #[.val (.ref a1), .val (.ref a2), .unset] [(.ref a2)])) rfl (by rw [hml]; rfl) (argsL := [(.ref a2)]) (rest := []) (lenOf pd_4 rfl) rfl (by show 2 * 0 + _ ≤ _; exact Nat.le_of_eq rfl) (hb hby d7_5) (fun _ _ => ⟨rfl, e3, (by decide : 0 + 2 ≤ _), (by decide : 0 + 3 ≤ _)⟩)
  dsimp only [Pt.U, Pt.locs, Pt.cells, Pt.slots] at X7 l7 y7 z7 st7 hQ7
  subst l7 y7 z7
  obtain ⟨N7q, b5_9_5_7, rfl, szb5_9_5_7_7, K7, Fo7_0, Fo7_1, Fo7_2⟩ := hQ7
  have g_b5_9_5_7 : n0 ≤ b5_9_5_7 := Nat.le_trans (osz O0) szb5_9_5_7_7
  have sz_b5_9_5_7 : h0.size ≤ b5_9_5_7 := Nat.le_trans (OKeep.refl h0 [(a1, Jvm.RoadKit.slotOf Z "com/example/curtail/curtail/Placement" "aCells" "Ljava/util/List;")]).1 szb5_9_5_7_7
  have Kc7 := (OKeep.refl h0 [(a1, Jvm.RoadKit.slotOf Z "com/example/curtail/curtail/Placement" "aCells" "Ljava/util/List;")]).trans K7 oin0
  have O7 := OKeep.old O0 K7 oge0
  have N7 := Fr.app N3 N7q
  refine OGot.go st7 ?_
  show OGot p.tables e below (T7.setTop (mkF m 8 #[.val (.ref a1), .val (.ref a2), .unset] [(.ref b5_9_5_7)])) _
  refine OGot.go (fun t k => XS.astoreN X7.here hx rfl (hb hby d7_8) rfl rfl (l' := #[.val (.ref a1), .val (.ref b5_9_5_7), .unset]) rfl k) ?_
  show OGot p.tables e below (T7.setTop (mkF m 9 #[.val (.ref a1), .val (.ref b5_9_5_7), .unset] [])) _
  refine OGot.go (fun t k => XS.iconst X7.here hx rfl (hb hby d7_9) k) ?_
  show OGot p.tables e below (T7.setTop (mkF m 10 #[.val (.ref a1), .val (.ref b5_9_5_7), .unset] [(.int (1 : Int32))])) _
  refine OGot.go (fun t k => XS.istoreN X7.here hx rfl (hb hby d7_10) rfl (l' := #[.val (.ref a1), .val (.ref b5_9_5_7), .val (.int (1 : Int32))]) rfl k) ?_
  show OGot p.tables e below (T7.setTop (mkF m 11 #[.val (.ref a1), .val (.ref b5_9_5_7), .val (.int (1 : Int32))] [])) _
  refine OGot.go (fun t k => XS.iloadN X7.here hx rfl (hb hby d7_11) rfl k) ?_
  show OGot p.tables e below (T7.setTop (mkF m 12 #[.val (.ref a1), .val (.ref b5_9_5_7), .val (.int (1 : Int32))] [(.int (1 : Int32))])) _
  refine OGot.go (fun t k => XS.aloadN X7.here hx rfl (hb hby d7_12) rfl rfl k) ?_
  show OGot p.tables e below (T7.setTop (mkF m 13 #[.val (.ref a1), .val (.ref b5_9_5_7), .val (.int (1 : Int32))] [(.ref b5_9_5_7), (.int (1 : Int32))])) _
  obtain ⟨cq8, kq8, q8a, q8b, q8c⟩ := isOf hZ rfl Fo7_0
  obtain ⟨_, _, ⟨T8, L8, k8, n8⟩, -, X8, ⟨Lc8, hQ8, l8, y8, z8⟩, st8⟩ := X7.interfaceBack hx (xi := (⟨"java/util/List", "size", "()I"⟩ : MethodName)) (y := (⟨"java/util/ImmutableCollections$List12", "size", "()I"⟩ : MethodName)) hown (mvT hZ (ow hw 75 rfl)) (mvT hZ (ow hw 76 rfl)) (mvT hZ (ow hw 77 rfl)) (mvT hZ (ow hw 201 rfl)) (mvT hZ (ow hw 202 rfl)) (mvT hZ (ow hw 203 rfl)) (mvT hZ (ow hw 204 rfl)) (mvT hZ (ow hw 205 rfl)) (by decide) (backOf (W := 1) (rm29 l Z a0 hw [] G b5_9_5_7 w_EMPTY T7.heap n0 O7 Fo7_2 (G.2.2.2.2.2.2.2.2.2.2.2.2.1.ext O7.2) rfl) hZ (ow hw 206 rfl) (ow hw 174 rfl) (by decide) (by decide)) q8a q8b q8c (g := (mkF m 13 #[.val (.ref a1), .val (.ref b5_9_5_7), .val (.int (1 : Int32))] [(.ref b5_9_5_7), (.int (1 : Int32))])) rfl (by rw [hml]; rfl) (Steps.refl _) (argsL := []) (rest := [(.int (1 : Int32))]) (lenOf pd_5 rfl) rfl (by show 2 * 0 + _ ≤ _; exact Nat.le_of_eq rfl) (hb hby d7_13) (fun _ _ => ⟨rfl, rfl, (by decide : 2 + 0 ≤ _), (by decide : 3 + 0 ≤ _)⟩)
  dsimp only [Pt.U, Pt.locs, Pt.cells, Pt.slots] at X8 l8 y8 z8 st8 hQ8
  subst l8 y8 z8
  obtain ⟨rfl, N8q, e8⟩ := hQ8
  have N8 := Fr.app N7 N8q
  refine OGot.on st8 ?_
  show OGot p.tables e below (T8.setTop (mkF m 18 #[.val (.ref a1), .val (.ref b5_9_5_7), .val (.int (1 : Int32))] [(.int (1 : Int32)), (.int (1 : Int32))])) _
  refine OGot.go (fun t k => XS.icmpYes X8.here hx rfl (pc0 := 18) (pc' := 75) rfl (hb hby d7_18) rfl (by decide) (by decide) (by decide) k) ?_
  show OGot p.tables e below (T8.setTop (mkF m 75 #[.val (.ref a1), .val (.ref b5_9_5_7), .val (.int (1 : Int32))] [])) _
  refine OGot.go (fun t k => XS.aloadN X8.here hx rfl (hb hby d7_75) rfl rfl k) ?_
  show OGot p.tables e below (T8.setTop (mkF m 76 #[.val (.ref a1), .val (.ref b5_9_5_7), .val (.int (1 : Int32))] [(.ref a1)])) _
  refine OGot.go (fun t k => XS.aloadN X8.here hx rfl (hb hby d7_76) rfl rfl k) ?_
  show OGot p.tables e below (T8.setTop (mkF m 77 #[.val (.ref a1), .val (.ref b5_9_5_7), .val (.int (1 : Int32))] [(.ref b5_9_5_7), (.ref a1)])) _
  have F9 : Fld Z T7.heap a1 "com/example/curtail/curtail/Placement" "aCells" "Ljava/util/List;" .null := (OKeep.fld F_aCells_a1 K7 onin0)
  obtain ⟨T10, h10, X10, e10, W10, st10⟩ := putF X8 hx hZ hown (host := "") (Or.inl (ow hw 87 rfl)) Via.refl e8 F9 (OKeep.exa E_a1 K7) (Or.inr ⟨(ow hw 88 rfl), rfl, hnm⟩) (ow hw 35 rfl) (ty := (.object "java/util/List")) (by decide) rfl rfl (g := (mkF m 77 #[.val (.ref a1), .val (.ref b5_9_5_7), .val (.int (1 : Int32))] [(.ref b5_9_5_7), (.ref a1)])) rfl rfl (hb hby d7_77)
  refine OGot.go st10 ?_
  have N10 := Fr.snoc X10 N8 g_a1
  have O10 := O7.wr W10 g_a1
  have K10 := Kc7.wr W10 (Or.inl (List.mem_of_getElem? (i := 0) rfl))
  have Fw10 : Fld Z h10 a1 "com/example/curtail/curtail/Placement" "aCells" "Ljava/util/List;" (.ref b5_9_5_7) := F9.same W10
  show OGot p.tables e below (T10.setTop (mkF m 80 #[.val (.ref a1), .val (.ref b5_9_5_7), .val (.int (1 : Int32))] [])) _
  obtain ⟨fs, hr, hrun, hended, hW, hsame⟩ := X10.leave (v := none) (fun _ => rfl)
  refine ⟨_, _, X10.returnOut hx Bd.returns (hb hby d7_80) hr, hrun, hended, _, _, rfl, ?_, ⟨_, rfl⟩, hW, hsame.mono (by decide) (by decide)⟩
  have ne11 : a1 ≠ b5_9_5_7 := (Nat.ne_of_lt (Nat.lt_of_lt_of_le E_a1.lt szb5_9_5_7_7))
  have F12 : Fld Z h10 b5_9_5_7 "java/util/ImmutableCollections$List12" "e0" "Ljava/lang/Object;" (.ref a6) := (Fo7_1.other W10 (Or.inl (Ne.symm ne11)))
  have F13 : Fld Z h10 b5_9_5_7 "java/util/ImmutableCollections$List12" "e1" "Ljava/lang/Object;" (.ref w_EMPTY) := (Fo7_2.other W10 (Or.inl (Ne.symm ne11)))
  show Q7_1 Z m_OA w_REJECTED w_EMPTY_ELEMENTDATA w_DEFAULTCAPACITY_EMPTY_ELEMENTDATA w_EMPTY_LIST w_EMPTY_LIST_elements w_EMPTY k_w_EMPTY_ELEMENTDATA k_w_DEFAULTCAPACITY_EMPTY_ELEMENTDATA k_w_EMPTY_LIST_elements a1 a2 a4 k5 a6 h0 n0 _ T10.heap _
  rw [e10]
  exact ⟨N10, b5_9_5_7, rfl, sz_b5_9_5_7, K10, Fw10, (Fo7_0.wr W10), F12, F13⟩
theorem d32_0 : decode jdk_44_method_4_code 0 = .ok (.iconst 0, 1) := by decide +kernel
theorem d32_1 : decode jdk_44_method_4_code 1 = .ok (.ireturn, 1) := by decide +kernel
def Q32 (Z : State) (m_OA : Addr) (w_REJECTED : Addr) (w_EMPTY_ELEMENTDATA : Addr) (w_DEFAULTCAPACITY_EMPTY_ELEMENTDATA : Addr) (w_EMPTY_LIST : Addr) (w_EMPTY_LIST_elements : Addr) (w_EMPTY : Addr) (k_w_EMPTY_ELEMENTDATA : ClassId) (k_w_DEFAULTCAPACITY_EMPTY_ELEMENTDATA : ClassId) (k_w_EMPTY_LIST_elements : ClassId) (a1 : Addr) (h0 : Heap) (n0 : Nat) (v : Option Value) (h : Heap) (L : List Loc) : Prop := v = some (.int (0 : Int32)) ∧ Fr n0 L ∧ h = h0
theorem ef32 (m : MethodId) (x0 : Addr) : entryFrame m #[(.ref x0)] 1 = mkF m 0 #[.val (.ref x0)] [] := by first | (simp [entryFrame, mkF, argsToLocals, Value.category]; done) | rfl
set_option maxRecDepth 65536 in
set_option maxHeartbeats 40000000 in
theorem rm32 (l : Launch) (Z : State) (a0 : Array Value) (hw : ∀ d ∈ tables_1, d.before a0 Z = true) (ws : List Jvm.Cond) {m_OA : Addr} {w_REJECTED : Addr} {w_EMPTY_ELEMENTDATA : Addr} {w_DEFAULTCAPACITY_EMPTY_ELEMENTDATA : Addr} {w_EMPTY_LIST : Addr} {w_EMPTY_LIST_elements : Addr} {w_EMPTY : Addr} {k_w_EMPTY_ELEMENTDATA : ClassId} {k_w_DEFAULTCAPACITY_EMPTY_ELEMENTDATA : ClassId} {k_w_EMPTY_LIST_elements : ClassId} (G : Glob Z m_OA w_REJECTED w_EMPTY_ELEMENTDATA w_DEFAULTCAPACITY_EMPTY_ELEMENTDATA w_EMPTY_LIST w_EMPTY_LIST_elements w_EMPTY k_w_EMPTY_ELEMENTDATA k_w_DEFAULTCAPACITY_EMPTY_ELEMENTDATA k_w_EMPTY_LIST_elements) (a1 : Addr) (h0 : Heap) (n0 : Nat) (O0 : Old Z n0 h0) :
    MetFree l (⟨"java/util/ImmutableCollections$List12", "isEmpty", "()Z"⟩ : MethodName) (head1 (Jvm.Cond.code (⟨"java/util/ImmutableCollections$List12", "isEmpty", "()Z"⟩ : MethodName) jdk_44_method_4_code 1 (some .boolean) :: ws) ({ frames := 0, cells := 0, slots := 0, locals := 0 } : Room)) (fun a U => a = #[(.ref a1)] ∧ Z.Warmed39 U.vm ∧ U.heap = h0) (fun _ _ _ _ _ => True) (fun _ U o U' => ∃ v L, o = .returned v ∧ Q32 Z m_OA w_REJECTED w_EMPTY_ELEMENTDATA w_DEFAULTCAPACITY_EMPTY_ELEMENTDATA w_EMPTY_LIST w_EMPTY_LIST_elements w_EMPTY k_w_EMPTY_ELEMENTDATA k_w_DEFAULTCAPACITY_EMPTY_ELEMENTDATA k_w_EMPTY_LIST_elements a1 h0 n0 v U'.heap L ∧ FrameEnd U o U' L ({ frames := 0, cells := 0, slots := 0, locals := 0 } : Room).cells ({ frames := 0, cells := 0, slots := 0, locals := 0 } : Room).slots) := by
  refine MetFree.of_bodySF (plainFor_of_name pn_java_util_ImmutableCollections_List12) hisR ?_
  intro p e s m args below meth c s₁ Bd hml0 hP hK
  obtain ⟨rfl, hZ, hh⟩ := hP
  have hx := Bd.exec
  have hby := Bd.bytes
  have hml : c.maxLocals = 1 := hml0
  have hown : s.vm.findClass "java/util/ImmutableCollections$List12" = some m.cls := findClass_of_methodNamed Bd.named
  have hnm := (name_of_methodNamed Bd.named Bd.method).1
  have X0 : Stand p l e ({ frames := 0, cells := 0, slots := 0, locals := 0 } : Room) s m #[(.ref a1)] below meth c s₁ [] 0 0 := Stand.of_body Bd
  have e0 : s₁.heap = h0 := by rw [← hh, Bd.state]; rfl
  have N0 := Fr.nil n0
  show OGot p.tables e below (s₁.setTop (entryFrame m #[(.ref a1)] 1)) _
  refine OGot.go (fun t k => castTop (ef32 m a1) k) ?_
  show OGot p.tables e below (s₁.setTop (mkF m 0 #[.val (.ref a1)] [])) _
  refine OGot.go (fun t k => XS.iconst X0.here hx rfl (hb hby d32_0) k) ?_
  show OGot p.tables e below (s₁.setTop (mkF m 1 #[.val (.ref a1)] [(.int (0 : Int32))])) _
  obtain ⟨fs, hr, hrun, hended, hW, hsame⟩ := X0.leave (v := some (.int (0 : Int32))) (fun h => by rw [Bd.returns] at h; cases h)
  refine ⟨_, _, retN X0 hx (t := .boolean) Bd.returns (by simp) (hb hby d32_1) hr, hrun, hended, _, _, rfl, ?_, ⟨_, rfl⟩, hW, hsame.mono (by decide) (by decide)⟩
  exact (⟨rfl, N0, e0⟩ : Q32 Z m_OA w_REJECTED w_EMPTY_ELEMENTDATA w_DEFAULTCAPACITY_EMPTY_ELEMENTDATA w_EMPTY_LIST w_EMPTY_LIST_elements w_EMPTY k_w_EMPTY_ELEMENTDATA k_w_DEFAULTCAPACITY_EMPTY_ELEMENTDATA k_w_EMPTY_LIST_elements a1 h0 n0 _ s₁.heap _)
theorem d14_12 : decode prog_14_method_2_code 12 = .ok (.iconst 1, 1) := by decide +kernel
theorem d14_13 : decode prog_14_method_2_code 13 = .ok (.goto 4, 3) := by decide +kernel
def Q14_2 (Z : State) (m_OA : Addr) (w_REJECTED : Addr) (w_EMPTY_ELEMENTDATA : Addr) (w_DEFAULTCAPACITY_EMPTY_ELEMENTDATA : Addr) (w_EMPTY_LIST : Addr) (w_EMPTY_LIST_elements : Addr) (w_EMPTY : Addr) (k_w_EMPTY_ELEMENTDATA : ClassId) (k_w_DEFAULTCAPACITY_EMPTY_ELEMENTDATA : ClassId) (k_w_EMPTY_LIST_elements : ClassId) (a1 : Addr) (a2 : Addr) (h0 : Heap) (n0 : Nat) (v : Option Value) (h : Heap) (L : List Loc) : Prop := v = some (.int (1 : Int32)) ∧ Fr n0 L ∧ h = h0
theorem ef14_2 (m : MethodId) (x0 : Addr) : entryFrame m #[(.ref x0)] 1 = mkF m 0 #[.val (.ref x0)] [] := by first | (simp [entryFrame, mkF, argsToLocals, Value.category]; done) | rfl
set_option maxRecDepth 65536 in
set_option maxHeartbeats 40000000 in
theorem rm14_2 (l : Launch) (Z : State) (a0 : Array Value) (hw : ∀ d ∈ tables_1, d.before a0 Z = true) (ws : List Jvm.Cond) {m_OA : Addr} {w_REJECTED : Addr} {w_EMPTY_ELEMENTDATA : Addr} {w_DEFAULTCAPACITY_EMPTY_ELEMENTDATA : Addr} {w_EMPTY_LIST : Addr} {w_EMPTY_LIST_elements : Addr} {w_EMPTY : Addr} {k_w_EMPTY_ELEMENTDATA : ClassId} {k_w_DEFAULTCAPACITY_EMPTY_ELEMENTDATA : ClassId} {k_w_EMPTY_LIST_elements : ClassId} (G : Glob Z m_OA w_REJECTED w_EMPTY_ELEMENTDATA w_DEFAULTCAPACITY_EMPTY_ELEMENTDATA w_EMPTY_LIST w_EMPTY_LIST_elements w_EMPTY k_w_EMPTY_ELEMENTDATA k_w_DEFAULTCAPACITY_EMPTY_ELEMENTDATA k_w_EMPTY_LIST_elements) (a1 : Addr) (a2 : Addr) (h0 : Heap) (n0 : Nat) (O0 : Old Z n0 h0) (F_aCells_a1 : Fld Z h0 a1 "com/example/curtail/curtail/Placement" "aCells" "Ljava/util/List;" (.ref a2)) (E_a2 : Exa Z h0 a2 "java/util/ImmutableCollections$List12") :
    MetFree l (⟨"com/example/curtail/curtail/Placement", "isAccepted", "()Z"⟩ : MethodName) (head1 (Jvm.Cond.code (⟨"com/example/curtail/curtail/Placement", "isAccepted", "()Z"⟩ : MethodName) prog_14_method_2_code 1 (some .boolean) :: ws) ({ frames := 1, cells := 0, slots := 0, locals := 12 } : Room)) (fun a U => a = #[(.ref a1)] ∧ Z.Warmed39 U.vm ∧ U.heap = h0) (fun _ _ _ _ _ => True) (fun _ U o U' => ∃ v L, o = .returned v ∧ Q14_2 Z m_OA w_REJECTED w_EMPTY_ELEMENTDATA w_DEFAULTCAPACITY_EMPTY_ELEMENTDATA w_EMPTY_LIST w_EMPTY_LIST_elements w_EMPTY k_w_EMPTY_ELEMENTDATA k_w_DEFAULTCAPACITY_EMPTY_ELEMENTDATA k_w_EMPTY_LIST_elements a1 a2 h0 n0 v U'.heap L ∧ FrameEnd U o U' L ({ frames := 1, cells := 0, slots := 0, locals := 12 } : Room).cells ({ frames := 1, cells := 0, slots := 0, locals := 12 } : Room).slots) := by
  refine MetFree.of_bodySF (plainFor_of_name pn_com_example_curtail_curtail_Placement) hisR ?_
  intro p e s m args below meth c s₁ Bd hml0 hP hK
  obtain ⟨rfl, hZ, hh⟩ := hP
  have hx := Bd.exec
  have hby := Bd.bytes
  have hml : c.maxLocals = 1 := hml0
  have hown : s.vm.findClass "com/example/curtail/curtail/Placement" = some m.cls := findClass_of_methodNamed Bd.named
  have hnm := (name_of_methodNamed Bd.named Bd.method).1
  have X0 : Stand p l e ({ frames := 1, cells := 0, slots := 0, locals := 12 } : Room) s m #[(.ref a1)] below meth c s₁ [] 0 0 := Stand.of_body Bd
  have e0 : s₁.heap = h0 := by rw [← hh, Bd.state]; rfl
  have N0 := Fr.nil n0
  show OGot p.tables e below (s₁.setTop (entryFrame m #[(.ref a1)] 1)) _
  refine OGot.go (fun t k => castTop (ef14_2 m a1) k) ?_
  show OGot p.tables e below (s₁.setTop (mkF m 0 #[.val (.ref a1)] [])) _
  refine OGot.go (fun t k => XS.aloadN X0.here hx rfl (hb hby d14_0) rfl rfl k) ?_
  show OGot p.tables e below (s₁.setTop (mkF m 1 #[.val (.ref a1)] [(.ref a1)])) _
  obtain ⟨T3, X3, e3, st3⟩ := getF X0 hx hZ hown (host := "") (Or.inl (ow hw 87 rfl)) Via.refl e0 F_aCells_a1 (g := (mkF m 1 #[.val (.ref a1)] [(.ref a1)])) rfl rfl (hb hby d14_1)
  refine OGot.go st3 ?_
  show OGot p.tables e below (T3.setTop (mkF m 4 #[.val (.ref a1)] [(.ref a2)])) _
  obtain ⟨cq4, kq4, q4a, q4b, q4c⟩ := isOf hZ e3 E_a2
  obtain ⟨_, _, ⟨T4, L4, k4, n4⟩, -, X4, ⟨Lc4, hQ4, l4, y4, z4⟩, st4⟩ := X3.interfaceBack hx (xi := (⟨"java/util/List", "isEmpty", "()Z"⟩ : MethodName)) (y := (⟨"java/util/ImmutableCollections$List12", "isEmpty", "()Z"⟩ : MethodName)) hown (mvT hZ (ow hw 94 rfl)) (mvT hZ (ow hw 95 rfl)) (mvT hZ (ow hw 96 rfl)) (mvT hZ (ow hw 223 rfl)) (mvT hZ (ow hw 224 rfl)) (mvT hZ (ow hw 225 rfl)) (mvT hZ (ow hw 226 rfl)) (mvT hZ (ow hw 205 rfl)) (by decide) (backOf (W := 0) (rm32 l Z a0 hw [] G a2 h0 n0 O0 ) hZ (ow hw 227 rfl) (ow hw 174 rfl) (by decide) (by decide)) q4a q4b q4c (g := (mkF m 4 #[.val (.ref a1)] [(.ref a2)])) rfl (by rw [hml]; rfl) (Steps.refl _) (argsL := []) (rest := []) (lenOf pd_2 rfl) rfl (by show 2 * 0 + _ ≤ _; exact Nat.le_of_eq rfl) (hb hby d14_4) (fun _ _ => ⟨rfl, e3, (by decide : 0 + 0 ≤ _), (by decide : 0 + 0 ≤ _)⟩)
  dsimp only [Pt.U, Pt.locs, Pt.cells, Pt.slots] at X4 l4 y4 z4 st4 hQ4
  subst l4 y4 z4
  obtain ⟨rfl, N4q, e4⟩ := hQ4
  have N4 := Fr.app N0 N4q
  refine OGot.on st4 ?_
  show OGot p.tables e below (T4.setTop (mkF m 9 #[.val (.ref a1)] [(.int (0 : Int32))])) _
  refine OGot.go (fun t k => XS.ifNo X4.here hx rfl (hb hby d14_9) rfl (by decide) k) ?_
  show OGot p.tables e below (T4.setTop (mkF m 12 #[.val (.ref a1)] [])) _
  refine OGot.go (fun t k => XS.iconst X4.here hx rfl (hb hby d14_12) k) ?_
  show OGot p.tables e below (T4.setTop (mkF m 13 #[.val (.ref a1)] [(.int (1 : Int32))])) _
  refine OGot.go (fun t k => XS.goto X4.here hx rfl (pc0 := 13) (pc' := 17) rfl (hb hby d14_13) (by decide) (by decide) k) ?_
  show OGot p.tables e below (T4.setTop (mkF m 17 #[.val (.ref a1)] [(.int (1 : Int32))])) _
  obtain ⟨fs, hr, hrun, hended, hW, hsame⟩ := X4.leave (v := some (.int (1 : Int32))) (fun h => by rw [Bd.returns] at h; cases h)
  refine ⟨_, _, retN X4 hx (t := .boolean) Bd.returns (by simp) (hb hby d14_17) hr, hrun, hended, _, _, rfl, ?_, ⟨_, rfl⟩, hW, hsame.mono (by decide) (by decide)⟩
  exact (⟨rfl, N4, e4⟩ : Q14_2 Z m_OA w_REJECTED w_EMPTY_ELEMENTDATA w_DEFAULTCAPACITY_EMPTY_ELEMENTDATA w_EMPTY_LIST w_EMPTY_LIST_elements w_EMPTY k_w_EMPTY_ELEMENTDATA k_w_DEFAULTCAPACITY_EMPTY_ELEMENTDATA k_w_EMPTY_LIST_elements a1 a2 h0 n0 _ T4.heap _)
theorem d33_0 : decode prog_14_method_3_code 0 = .ok (.aload_n 0, 1) := by decide +kernel
theorem d33_1 : decode prog_14_method_3_code 1 = .ok (.getfield 41, 3) := by decide +kernel
theorem d33_4 : decode prog_14_method_3_code 4 = .ok (.invokeinterface 47 1, 5) := by decide +kernel
theorem d33_9 : decode prog_14_method_3_code 9 = .ok (.ifCond .eq 13, 3) := by decide +kernel
theorem d33_22 : decode prog_14_method_3_code 22 = .ok (.aload_n 0, 1) := by decide +kernel
theorem d33_23 : decode prog_14_method_3_code 23 = .ok (.getfield 41, 3) := by decide +kernel
theorem d33_26 : decode prog_14_method_3_code 26 = .ok (.aload_n 0, 1) := by decide +kernel
theorem d33_27 : decode prog_14_method_3_code 27 = .ok (.getfield 41, 3) := by decide +kernel
theorem d33_30 : decode prog_14_method_3_code 30 = .ok (.invokeinterface 13 1, 5) := by decide +kernel
theorem d33_35 : decode prog_14_method_3_code 35 = .ok (.iconst 1, 1) := by decide +kernel
theorem d33_36 : decode prog_14_method_3_code 36 = .ok (.isub, 1) := by decide +kernel
theorem d33_37 : decode prog_14_method_3_code 37 = .ok (.invokeinterface 17 2, 5) := by decide +kernel
theorem d30_0 : decode jdk_44_method_5_code 0 = .ok (.iload_n 1, 1) := by decide +kernel
theorem d30_1 : decode jdk_44_method_5_code 1 = .ok (.ifCond .ne 8, 3) := by decide +kernel
theorem d30_4 : decode jdk_44_method_5_code 4 = .ok (.aload_n 0, 1) := by decide +kernel
theorem d30_5 : decode jdk_44_method_5_code 5 = .ok (.getfield 13, 3) := by decide +kernel
theorem d30_8 : decode jdk_44_method_5_code 8 = .ok (.areturn, 1) := by decide +kernel
def Q30 (Z : State) (m_OA : Addr) (w_REJECTED : Addr) (w_EMPTY_ELEMENTDATA : Addr) (w_DEFAULTCAPACITY_EMPTY_ELEMENTDATA : Addr) (w_EMPTY_LIST : Addr) (w_EMPTY_LIST_elements : Addr) (w_EMPTY : Addr) (k_w_EMPTY_ELEMENTDATA : ClassId) (k_w_DEFAULTCAPACITY_EMPTY_ELEMENTDATA : ClassId) (k_w_EMPTY_LIST_elements : ClassId) (a1 : Addr) (a2 : Addr) (h0 : Heap) (n0 : Nat) (v : Option Value) (h : Heap) (L : List Loc) : Prop := v = some (.ref a2) ∧ Fr n0 L ∧ h = h0
theorem ef30 (m : MethodId) (x0 : Addr) : entryFrame m #[(.ref x0), (.int (0 : Int32))] 2 = mkF m 0 #[.val (.ref x0), .val (.int (0 : Int32))] [] := by first | (simp [entryFrame, mkF, argsToLocals, Value.category]; done) | rfl
set_option maxRecDepth 65536 in
set_option maxHeartbeats 40000000 in
theorem rm30 (l : Launch) (Z : State) (a0 : Array Value) (hw : ∀ d ∈ tables_1, d.before a0 Z = true) (ws : List Jvm.Cond) {m_OA : Addr} {w_REJECTED : Addr} {w_EMPTY_ELEMENTDATA : Addr} {w_DEFAULTCAPACITY_EMPTY_ELEMENTDATA : Addr} {w_EMPTY_LIST : Addr} {w_EMPTY_LIST_elements : Addr} {w_EMPTY : Addr} {k_w_EMPTY_ELEMENTDATA : ClassId} {k_w_DEFAULTCAPACITY_EMPTY_ELEMENTDATA : ClassId} {k_w_EMPTY_LIST_elements : ClassId} (G : Glob Z m_OA w_REJECTED w_EMPTY_ELEMENTDATA w_DEFAULTCAPACITY_EMPTY_ELEMENTDATA w_EMPTY_LIST w_EMPTY_LIST_elements w_EMPTY k_w_EMPTY_ELEMENTDATA k_w_DEFAULTCAPACITY_EMPTY_ELEMENTDATA k_w_EMPTY_LIST_elements) (a1 : Addr) (a2 : Addr) (h0 : Heap) (n0 : Nat) (O0 : Old Z n0 h0) (F_e0_a1 : Fld Z h0 a1 "java/util/ImmutableCollections$List12" "e0" "Ljava/lang/Object;" (.ref a2)) :
    MetFree l (⟨"java/util/ImmutableCollections$List12", "get", "(I)Ljava/lang/Object;"⟩ : MethodName) (head1 (Jvm.Cond.code (⟨"java/util/ImmutableCollections$List12", "get", "(I)Ljava/lang/Object;"⟩ : MethodName) jdk_44_method_5_code 2 (some (.object "java/lang/Object")) :: ws) ({ frames := 0, cells := 0, slots := 0, locals := 0 } : Room)) (fun a U => a = #[(.ref a1), (.int (0 : Int32))] ∧ Z.Warmed39 U.vm ∧ U.heap = h0) (fun _ _ _ _ _ => True) (fun _ U o U' => ∃ v L, o = .returned v ∧ Q30 Z m_OA w_REJECTED w_EMPTY_ELEMENTDATA w_DEFAULTCAPACITY_EMPTY_ELEMENTDATA w_EMPTY_LIST w_EMPTY_LIST_elements w_EMPTY k_w_EMPTY_ELEMENTDATA k_w_DEFAULTCAPACITY_EMPTY_ELEMENTDATA k_w_EMPTY_LIST_elements a1 a2 h0 n0 v U'.heap L ∧ FrameEnd U o U' L ({ frames := 0, cells := 0, slots := 0, locals := 0 } : Room).cells ({ frames := 0, cells := 0, slots := 0, locals := 0 } : Room).slots) := by
  refine MetFree.of_bodySF (plainFor_of_name pn_java_util_ImmutableCollections_List12) hisR ?_
  intro p e s m args below meth c s₁ Bd hml0 hP hK
  obtain ⟨rfl, hZ, hh⟩ := hP
  have hx := Bd.exec
  have hby := Bd.bytes
  have hml : c.maxLocals = 2 := hml0
  have hown : s.vm.findClass "java/util/ImmutableCollections$List12" = some m.cls := findClass_of_methodNamed Bd.named
  have hnm := (name_of_methodNamed Bd.named Bd.method).1
  have X0 : Stand p l e ({ frames := 0, cells := 0, slots := 0, locals := 0 } : Room) s m #[(.ref a1), (.int (0 : Int32))] below meth c s₁ [] 0 0 := Stand.of_body Bd
  have e0 : s₁.heap = h0 := by rw [← hh, Bd.state]; rfl
  have N0 := Fr.nil n0
  show OGot p.tables e below (s₁.setTop (entryFrame m #[(.ref a1), (.int (0 : Int32))] 2)) _
  refine OGot.go (fun t k => castTop (ef30 m a1) k) ?_
  show OGot p.tables e below (s₁.setTop (mkF m 0 #[.val (.ref a1), .val (.int (0 : Int32))] [])) _
  refine OGot.go (fun t k => XS.iloadN X0.here hx rfl (hb hby d30_0) rfl k) ?_
  show OGot p.tables e below (s₁.setTop (mkF m 1 #[.val (.ref a1), .val (.int (0 : Int32))] [(.int (0 : Int32))])) _
  refine OGot.go (fun t k => XS.ifNo X0.here hx rfl (hb hby d30_1) rfl (by decide) k) ?_
  show OGot p.tables e below (s₁.setTop (mkF m 4 #[.val (.ref a1), .val (.int (0 : Int32))] [])) _
  refine OGot.go (fun t k => XS.aloadN X0.here hx rfl (hb hby d30_4) rfl rfl k) ?_
  show OGot p.tables e below (s₁.setTop (mkF m 5 #[.val (.ref a1), .val (.int (0 : Int32))] [(.ref a1)])) _
  obtain ⟨T3, X3, e3, st3⟩ := getF X0 hx hZ hown (host := "") (Or.inl (ow hw 197 rfl)) Via.refl e0 F_e0_a1 (g := (mkF m 5 #[.val (.ref a1), .val (.int (0 : Int32))] [(.ref a1)])) rfl rfl (hb hby d30_5)
  refine OGot.go st3 ?_
  show OGot p.tables e below (T3.setTop (mkF m 8 #[.val (.ref a1), .val (.int (0 : Int32))] [(.ref a2)])) _
  obtain ⟨fs, hr, hrun, hended, hW, hsame⟩ := X3.leave (v := some (.ref a2)) (fun h => by rw [Bd.returns] at h; cases h)
  refine ⟨_, _, oretA X3 hx Bd.returns rfl rfl (hb hby d30_8) hr, hrun, hended, _, _, rfl, ?_, ⟨_, rfl⟩, hW, hsame.mono (by decide) (by decide)⟩
  exact (⟨rfl, N0, e3⟩ : Q30 Z m_OA w_REJECTED w_EMPTY_ELEMENTDATA w_DEFAULTCAPACITY_EMPTY_ELEMENTDATA w_EMPTY_LIST w_EMPTY_LIST_elements w_EMPTY k_w_EMPTY_ELEMENTDATA k_w_DEFAULTCAPACITY_EMPTY_ELEMENTDATA k_w_EMPTY_LIST_elements a1 a2 h0 n0 _ T3.heap _)
theorem pd_17 : parseMethodDescriptor "(I)Ljava/lang/Object;" = some ⟨[.int], some (.object "java/lang/Object")⟩ := by decide +kernel
theorem d33_42 : decode prog_14_method_3_code 42 = .ok (.checkcast 21, 3) := by decide +kernel
theorem d33_45 : decode prog_14_method_3_code 45 = .ok (.invokevirtual 23, 3) := by decide +kernel
theorem d31_0 : decode prog_15_method_5_code 0 = .ok (.aload_n 0, 1) := by decide +kernel
theorem d31_1 : decode prog_15_method_5_code 1 = .ok (.getfield 7, 3) := by decide +kernel
theorem d31_4 : decode prog_15_method_5_code 4 = .ok (.ireturn, 1) := by decide +kernel
def Q31 (Z : State) (m_OA : Addr) (w_REJECTED : Addr) (w_EMPTY_ELEMENTDATA : Addr) (w_DEFAULTCAPACITY_EMPTY_ELEMENTDATA : Addr) (w_EMPTY_LIST : Addr) (w_EMPTY_LIST_elements : Addr) (w_EMPTY : Addr) (k_w_EMPTY_ELEMENTDATA : ClassId) (k_w_DEFAULTCAPACITY_EMPTY_ELEMENTDATA : ClassId) (k_w_EMPTY_LIST_elements : ClassId) (a1 : Addr) (p2 : Int32) (h0 : Heap) (n0 : Nat) (v : Option Value) (h : Heap) (L : List Loc) : Prop := v = some (.int p2) ∧ Fr n0 L ∧ h = h0
theorem ef31 (m : MethodId) (x0 : Addr) : entryFrame m #[(.ref x0)] 1 = mkF m 0 #[.val (.ref x0)] [] := by first | (simp [entryFrame, mkF, argsToLocals, Value.category]; done) | rfl
set_option maxRecDepth 65536 in
set_option maxHeartbeats 40000000 in
theorem rm31 (l : Launch) (Z : State) (a0 : Array Value) (hw : ∀ d ∈ tables_1, d.before a0 Z = true) (ws : List Jvm.Cond) {m_OA : Addr} {w_REJECTED : Addr} {w_EMPTY_ELEMENTDATA : Addr} {w_DEFAULTCAPACITY_EMPTY_ELEMENTDATA : Addr} {w_EMPTY_LIST : Addr} {w_EMPTY_LIST_elements : Addr} {w_EMPTY : Addr} {k_w_EMPTY_ELEMENTDATA : ClassId} {k_w_DEFAULTCAPACITY_EMPTY_ELEMENTDATA : ClassId} {k_w_EMPTY_LIST_elements : ClassId} (G : Glob Z m_OA w_REJECTED w_EMPTY_ELEMENTDATA w_DEFAULTCAPACITY_EMPTY_ELEMENTDATA w_EMPTY_LIST w_EMPTY_LIST_elements w_EMPTY k_w_EMPTY_ELEMENTDATA k_w_DEFAULTCAPACITY_EMPTY_ELEMENTDATA k_w_EMPTY_LIST_elements) (a1 : Addr) (p2 : Int32) (h0 : Heap) (n0 : Nat) (O0 : Old Z n0 h0) (F_nSlot_a1 : Fld Z h0 a1 "com/example/curtail/curtail/Placement$Cell" "nSlot" "I" (.int p2)) :
    MetFree l (⟨"com/example/curtail/curtail/Placement$Cell", "nSlot", "()I"⟩ : MethodName) (head1 (Jvm.Cond.code (⟨"com/example/curtail/curtail/Placement$Cell", "nSlot", "()I"⟩ : MethodName) prog_15_method_5_code 1 (some .int) :: ws) ({ frames := 0, cells := 0, slots := 0, locals := 0 } : Room)) (fun a U => a = #[(.ref a1)] ∧ Z.Warmed39 U.vm ∧ U.heap = h0) (fun _ _ _ _ _ => True) (fun _ U o U' => ∃ v L, o = .returned v ∧ Q31 Z m_OA w_REJECTED w_EMPTY_ELEMENTDATA w_DEFAULTCAPACITY_EMPTY_ELEMENTDATA w_EMPTY_LIST w_EMPTY_LIST_elements w_EMPTY k_w_EMPTY_ELEMENTDATA k_w_DEFAULTCAPACITY_EMPTY_ELEMENTDATA k_w_EMPTY_LIST_elements a1 p2 h0 n0 v U'.heap L ∧ FrameEnd U o U' L ({ frames := 0, cells := 0, slots := 0, locals := 0 } : Room).cells ({ frames := 0, cells := 0, slots := 0, locals := 0 } : Room).slots) := by
  refine MetFree.of_bodySF (plainFor_of_name pn_com_example_curtail_curtail_Placement_Cell) hisR ?_
  intro p e s m args below meth c s₁ Bd hml0 hP hK
  obtain ⟨rfl, hZ, hh⟩ := hP
  have hx := Bd.exec
  have hby := Bd.bytes
  have hml : c.maxLocals = 1 := hml0
  have hown : s.vm.findClass "com/example/curtail/curtail/Placement$Cell" = some m.cls := findClass_of_methodNamed Bd.named
  have hnm := (name_of_methodNamed Bd.named Bd.method).1
  have X0 : Stand p l e ({ frames := 0, cells := 0, slots := 0, locals := 0 } : Room) s m #[(.ref a1)] below meth c s₁ [] 0 0 := Stand.of_body Bd
  have e0 : s₁.heap = h0 := by rw [← hh, Bd.state]; rfl
  have N0 := Fr.nil n0
  show OGot p.tables e below (s₁.setTop (entryFrame m #[(.ref a1)] 1)) _
  refine OGot.go (fun t k => castTop (ef31 m a1) k) ?_
  show OGot p.tables e below (s₁.setTop (mkF m 0 #[.val (.ref a1)] [])) _
  refine OGot.go (fun t k => XS.aloadN X0.here hx rfl (hb hby d31_0) rfl rfl k) ?_
  show OGot p.tables e below (s₁.setTop (mkF m 1 #[.val (.ref a1)] [(.ref a1)])) _
  obtain ⟨T3, X3, e3, st3⟩ := getF X0 hx hZ hown (host := "") (Or.inl (ow hw 111 rfl)) Via.refl e0 F_nSlot_a1 (g := (mkF m 1 #[.val (.ref a1)] [(.ref a1)])) rfl rfl (hb hby d31_1)
  refine OGot.go st3 ?_
  show OGot p.tables e below (T3.setTop (mkF m 4 #[.val (.ref a1)] [(.int p2)])) _
  obtain ⟨fs, hr, hrun, hended, hW, hsame⟩ := X3.leave (v := some (.int p2)) (fun h => by rw [Bd.returns] at h; cases h)
  refine ⟨_, _, retI X3 hx Bd.returns (hb hby d31_4) hr, hrun, hended, _, _, rfl, ?_, ⟨_, rfl⟩, hW, hsame.mono (by decide) (by decide)⟩
  exact (⟨rfl, N0, e3⟩ : Q31 Z m_OA w_REJECTED w_EMPTY_ELEMENTDATA w_DEFAULTCAPACITY_EMPTY_ELEMENTDATA w_EMPTY_LIST w_EMPTY_LIST_elements w_EMPTY k_w_EMPTY_ELEMENTDATA k_w_DEFAULTCAPACITY_EMPTY_ELEMENTDATA k_w_EMPTY_LIST_elements a1 p2 h0 n0 _ T3.heap _)
theorem d33_48 : decode prog_14_method_3_code 48 = .ok (.ireturn, 1) := by decide +kernel
def Q33 (Z : State) (m_OA : Addr) (w_REJECTED : Addr) (w_EMPTY_ELEMENTDATA : Addr) (w_DEFAULTCAPACITY_EMPTY_ELEMENTDATA : Addr) (w_EMPTY_LIST : Addr) (w_EMPTY_LIST_elements : Addr) (w_EMPTY : Addr) (k_w_EMPTY_ELEMENTDATA : ClassId) (k_w_DEFAULTCAPACITY_EMPTY_ELEMENTDATA : ClassId) (k_w_EMPTY_LIST_elements : ClassId) (a1 : Addr) (a2 : Addr) (a7 : Addr) (a9 : Addr) (p12 : Int32) (h0 : Heap) (n0 : Nat) (v : Option Value) (h : Heap) (L : List Loc) : Prop := v = some (.int p12) ∧ Fr n0 L ∧ h = h0
theorem ef33 (m : MethodId) (x0 : Addr) : entryFrame m #[(.ref x0)] 1 = mkF m 0 #[.val (.ref x0)] [] := by first | (simp [entryFrame, mkF, argsToLocals, Value.category]; done) | rfl
set_option maxRecDepth 65536 in
set_option maxHeartbeats 40000000 in
theorem rm33 (l : Launch) (Z : State) (a0 : Array Value) (hw : ∀ d ∈ tables_1, d.before a0 Z = true) (ws : List Jvm.Cond) {m_OA : Addr} {w_REJECTED : Addr} {w_EMPTY_ELEMENTDATA : Addr} {w_DEFAULTCAPACITY_EMPTY_ELEMENTDATA : Addr} {w_EMPTY_LIST : Addr} {w_EMPTY_LIST_elements : Addr} {w_EMPTY : Addr} {k_w_EMPTY_ELEMENTDATA : ClassId} {k_w_DEFAULTCAPACITY_EMPTY_ELEMENTDATA : ClassId} {k_w_EMPTY_LIST_elements : ClassId} (G : Glob Z m_OA w_REJECTED w_EMPTY_ELEMENTDATA w_DEFAULTCAPACITY_EMPTY_ELEMENTDATA w_EMPTY_LIST w_EMPTY_LIST_elements w_EMPTY k_w_EMPTY_ELEMENTDATA k_w_DEFAULTCAPACITY_EMPTY_ELEMENTDATA k_w_EMPTY_LIST_elements) (a1 : Addr) (a2 : Addr) (a7 : Addr) (a9 : Addr) (p12 : Int32) (h0 : Heap) (n0 : Nat) (O0 : Old Z n0 h0) (F_aCells_a1 : Fld Z h0 a1 "com/example/curtail/curtail/Placement" "aCells" "Ljava/util/List;" (.ref a2)) (E_a2 : Exa Z h0 a2 "java/util/ImmutableCollections$List12") (F_e1_a2 : Fld Z h0 a2 "java/util/ImmutableCollections$List12" "e1" "Ljava/lang/Object;" (.ref a7)) (E_a7 : Exa Z h0 a7 "java/lang/Object") (hc_1 : a7 = w_EMPTY) (F_e0_a2 : Fld Z h0 a2 "java/util/ImmutableCollections$List12" "e0" "Ljava/lang/Object;" (.ref a9)) (E_a9 : Exa Z h0 a9 "com/example/curtail/curtail/Placement$Cell") (F_nSlot_a9 : Fld Z h0 a9 "com/example/curtail/curtail/Placement$Cell" "nSlot" "I" (.int p12)) :
    MetFree l (⟨"com/example/curtail/curtail/Placement", "completionSlot", "()I"⟩ : MethodName) (head1 (Jvm.Cond.code (⟨"com/example/curtail/curtail/Placement", "completionSlot", "()I"⟩ : MethodName) prog_14_method_3_code 1 (some .int) :: ws) ({ frames := 1, cells := 0, slots := 0, locals := 13 } : Room)) (fun a U => a = #[(.ref a1)] ∧ Z.Warmed39 U.vm ∧ U.heap = h0) (fun _ _ _ _ _ => True) (fun _ U o U' => ∃ v L, o = .returned v ∧ Q33 Z m_OA w_REJECTED w_EMPTY_ELEMENTDATA w_DEFAULTCAPACITY_EMPTY_ELEMENTDATA w_EMPTY_LIST w_EMPTY_LIST_elements w_EMPTY k_w_EMPTY_ELEMENTDATA k_w_DEFAULTCAPACITY_EMPTY_ELEMENTDATA k_w_EMPTY_LIST_elements a1 a2 a7 a9 p12 h0 n0 v U'.heap L ∧ FrameEnd U o U' L ({ frames := 1, cells := 0, slots := 0, locals := 13 } : Room).cells ({ frames := 1, cells := 0, slots := 0, locals := 13 } : Room).slots) := by
  refine MetFree.of_bodySF (plainFor_of_name pn_com_example_curtail_curtail_Placement) hisR ?_
  intro p e s m args below meth c s₁ Bd hml0 hP hK
  obtain ⟨rfl, hZ, hh⟩ := hP
  have hx := Bd.exec
  have hby := Bd.bytes
  have hml : c.maxLocals = 1 := hml0
  have hown : s.vm.findClass "com/example/curtail/curtail/Placement" = some m.cls := findClass_of_methodNamed Bd.named
  have hnm := (name_of_methodNamed Bd.named Bd.method).1
  have X0 : Stand p l e ({ frames := 1, cells := 0, slots := 0, locals := 13 } : Room) s m #[(.ref a1)] below meth c s₁ [] 0 0 := Stand.of_body Bd
  have e0 : s₁.heap = h0 := by rw [← hh, Bd.state]; rfl
  have N0 := Fr.nil n0
  show OGot p.tables e below (s₁.setTop (entryFrame m #[(.ref a1)] 1)) _
  refine OGot.go (fun t k => castTop (ef33 m a1) k) ?_
  show OGot p.tables e below (s₁.setTop (mkF m 0 #[.val (.ref a1)] [])) _
  refine OGot.go (fun t k => XS.aloadN X0.here hx rfl (hb hby d33_0) rfl rfl k) ?_
  show OGot p.tables e below (s₁.setTop (mkF m 1 #[.val (.ref a1)] [(.ref a1)])) _
  obtain ⟨T3, X3, e3, st3⟩ := getF X0 hx hZ hown (host := "") (Or.inl (ow hw 87 rfl)) Via.refl e0 F_aCells_a1 (g := (mkF m 1 #[.val (.ref a1)] [(.ref a1)])) rfl rfl (hb hby d33_1)
  refine OGot.go st3 ?_
  show OGot p.tables e below (T3.setTop (mkF m 4 #[.val (.ref a1)] [(.ref a2)])) _
  obtain ⟨cq4, kq4, q4a, q4b, q4c⟩ := isOf hZ e3 E_a2
  obtain ⟨_, _, ⟨T4, L4, k4, n4⟩, -, X4, ⟨Lc4, hQ4, l4, y4, z4⟩, st4⟩ := X3.interfaceBack hx (xi := (⟨"java/util/List", "isEmpty", "()Z"⟩ : MethodName)) (y := (⟨"java/util/ImmutableCollections$List12", "isEmpty", "()Z"⟩ : MethodName)) hown (mvT hZ (ow hw 94 rfl)) (mvT hZ (ow hw 95 rfl)) (mvT hZ (ow hw 96 rfl)) (mvT hZ (ow hw 223 rfl)) (mvT hZ (ow hw 224 rfl)) (mvT hZ (ow hw 225 rfl)) (mvT hZ (ow hw 226 rfl)) (mvT hZ (ow hw 205 rfl)) (by decide) (backOf (W := 0) (rm32 l Z a0 hw [] G a2 h0 n0 O0 ) hZ (ow hw 227 rfl) (ow hw 174 rfl) (by decide) (by decide)) q4a q4b q4c (g := (mkF m 4 #[.val (.ref a1)] [(.ref a2)])) rfl (by rw [hml]; rfl) (Steps.refl _) (argsL := []) (rest := []) (lenOf pd_2 rfl) rfl (by show 2 * 0 + _ ≤ _; exact Nat.le_of_eq rfl) (hb hby d33_4) (fun _ _ => ⟨rfl, e3, (by decide : 0 + 0 ≤ _), (by decide : 0 + 0 ≤ _)⟩)
  dsimp only [Pt.U, Pt.locs, Pt.cells, Pt.slots] at X4 l4 y4 z4 st4 hQ4
  subst l4 y4 z4
  obtain ⟨rfl, N4q, e4⟩ := hQ4
  have N4 := Fr.app N0 N4q
  refine OGot.on st4 ?_
  show OGot p.tables e below (T4.setTop (mkF m 9 #[.val (.ref a1)] [(.int (0 : Int32))])) _
  refine OGot.go (fun t k => XS.ifYes X4.here hx rfl (pc0 := 9) (pc' := 22) rfl (hb hby d33_9) rfl (by decide) (by decide) (by decide) k) ?_
  show OGot p.tables e below (T4.setTop (mkF m 22 #[.val (.ref a1)] [])) _
  refine OGot.go (fun t k => XS.aloadN X4.here hx rfl (hb hby d33_22) rfl rfl k) ?_
  show OGot p.tables e below (T4.setTop (mkF m 23 #[.val (.ref a1)] [(.ref a1)])) _
  obtain ⟨T5, X5, e5, st5⟩ := getF X4 hx hZ hown (host := "") (Or.inl (ow hw 87 rfl)) Via.refl e4 F_aCells_a1 (g := (mkF m 23 #[.val (.ref a1)] [(.ref a1)])) rfl rfl (hb hby d33_23)
  refine OGot.go st5 ?_
  show OGot p.tables e below (T5.setTop (mkF m 26 #[.val (.ref a1)] [(.ref a2)])) _
  refine OGot.go (fun t k => XS.aloadN X5.here hx rfl (hb hby d33_26) rfl rfl k) ?_
  show OGot p.tables e below (T5.setTop (mkF m 27 #[.val (.ref a1)] [(.ref a1), (.ref a2)])) _
  obtain ⟨T6, X6, e6, st6⟩ := getF X5 hx hZ hown (host := "") (Or.inl (ow hw 87 rfl)) Via.refl e5 F_aCells_a1 (g := (mkF m 27 #[.val (.ref a1)] [(.ref a1), (.ref a2)])) rfl rfl (hb hby d33_27)
  refine OGot.go st6 ?_
  show OGot p.tables e below (T6.setTop (mkF m 30 #[.val (.ref a1)] [(.ref a2), (.ref a2)])) _
  obtain ⟨cq8, kq8, q8a, q8b, q8c⟩ := isOf hZ e6 E_a2
  obtain ⟨_, _, ⟨T8, L8, k8, n8⟩, -, X8, ⟨Lc8, hQ8, l8, y8, z8⟩, st8⟩ := X6.interfaceBack hx (xi := (⟨"java/util/List", "size", "()I"⟩ : MethodName)) (y := (⟨"java/util/ImmutableCollections$List12", "size", "()I"⟩ : MethodName)) hown (mvT hZ (ow hw 75 rfl)) (mvT hZ (ow hw 76 rfl)) (mvT hZ (ow hw 77 rfl)) (mvT hZ (ow hw 201 rfl)) (mvT hZ (ow hw 202 rfl)) (mvT hZ (ow hw 203 rfl)) (mvT hZ (ow hw 204 rfl)) (mvT hZ (ow hw 205 rfl)) (by decide) (backOf (W := 1) (rm29 l Z a0 hw [] G a2 a7 h0 n0 O0 F_e1_a2 E_a7 hc_1) hZ (ow hw 206 rfl) (ow hw 174 rfl) (by decide) (by decide)) q8a q8b q8c (g := (mkF m 30 #[.val (.ref a1)] [(.ref a2), (.ref a2)])) rfl (by rw [hml]; rfl) (Steps.refl _) (argsL := []) (rest := [(.ref a2)]) (lenOf pd_5 rfl) rfl (by show 2 * 0 + _ ≤ _; exact Nat.le_of_eq rfl) (hb hby d33_30) (fun _ _ => ⟨rfl, e6, (by decide : 0 + 0 ≤ _), (by decide : 0 + 0 ≤ _)⟩)
  dsimp only [Pt.U, Pt.locs, Pt.cells, Pt.slots] at X8 l8 y8 z8 st8 hQ8
  subst l8 y8 z8
  obtain ⟨rfl, N8q, e8⟩ := hQ8
  have N8 := Fr.app N4 N8q
  refine OGot.on st8 ?_
  show OGot p.tables e below (T8.setTop (mkF m 35 #[.val (.ref a1)] [(.int (1 : Int32)), (.ref a2)])) _
  refine OGot.go (fun t k => XS.iconst X8.here hx rfl (hb hby d33_35) k) ?_
  show OGot p.tables e below (T8.setTop (mkF m 36 #[.val (.ref a1)] [(.int (1 : Int32)), (.int (1 : Int32)), (.ref a2)])) _
  refine OGot.go (fun t k => XS.isub X8.here hx rfl (hb hby d33_36) rfl k) ?_
  show OGot p.tables e below (T8.setTop (mkF m 37 #[.val (.ref a1)] [(.int ((1 : Int32) - (1 : Int32))), (.ref a2)])) _
  rw [show ((1 : Int32) - (1 : Int32)) = (0 : Int32) from by decide]
  show OGot p.tables e below (T8.setTop (mkF m 37 #[.val (.ref a1)] [(.int (0 : Int32)), (.ref a2)])) _
  obtain ⟨cq10, kq10, q10a, q10b, q10c⟩ := isOf hZ e8 E_a2
  obtain ⟨_, _, ⟨T10, L10, k10, n10⟩, -, X10, ⟨Lc10, hQ10, l10, y10, z10⟩, st10⟩ := X8.interfaceBack hx (xi := (⟨"java/util/List", "get", "(I)Ljava/lang/Object;"⟩ : MethodName)) (y := (⟨"java/util/ImmutableCollections$List12", "get", "(I)Ljava/lang/Object;"⟩ : MethodName)) hown (mvT hZ (ow hw 208 rfl)) (mvT hZ (ow hw 209 rfl)) (mvT hZ (ow hw 210 rfl)) (mvT hZ (ow hw 211 rfl)) (mvT hZ (ow hw 212 rfl)) (mvT hZ (ow hw 213 rfl)) (mvT hZ (ow hw 214 rfl)) (mvT hZ (ow hw 205 rfl)) (by decide) (backOf (W := 0) (rm30 l Z a0 hw [] G a2 a9 h0 n0 O0 F_e0_a2) hZ (ow hw 215 rfl) (ow hw 174 rfl) (by decide) (by decide)) q10a q10b q10c (g := (mkF m 37 #[.val (.ref a1)] [(.int (0 : Int32)), (.ref a2)])) rfl (by rw [hml]; rfl) (Steps.refl _) (argsL := [(.int (0 : Int32))]) (rest := []) (lenOf pd_17 rfl) rfl (by show 2 * 0 + _ ≤ _; exact Nat.le_of_eq rfl) (hb hby d33_37) (fun _ _ => ⟨rfl, e8, (by decide : 0 + 0 ≤ _), (by decide : 0 + 0 ≤ _)⟩)
  dsimp only [Pt.U, Pt.locs, Pt.cells, Pt.slots] at X10 l10 y10 z10 st10 hQ10
  subst l10 y10 z10
  obtain ⟨rfl, N10q, e10⟩ := hQ10
  have N10 := Fr.app N8 N10q
  refine OGot.on st10 ?_
  show OGot p.tables e below (T10.setTop (mkF m 42 #[.val (.ref a1)] [(.ref a9)])) _
  obtain ⟨T11, X11, e11, st11⟩ := castY X10 hx hZ hown (ow hw 216 rfl) e10 (Ins.self E_a9) (g := (mkF m 42 #[.val (.ref a1)] [(.ref a9)])) rfl rfl (hb hby d33_42)
  refine OGot.go st11 ?_
  show OGot p.tables e below (T11.setTop (mkF m 45 #[.val (.ref a1)] [(.ref a9)])) _
  obtain ⟨cq13, kq13, q13a, q13b, q13c⟩ := isOf hZ e11 E_a9
  obtain ⟨_, _, ⟨T13, L13, k13, n13⟩, -, X13, ⟨Lc13, hQ13, l13, y13, z13⟩, st13⟩ := X11.virtualBack hx (y := (⟨"com/example/curtail/curtail/Placement$Cell", "nSlot", "()I"⟩ : MethodName)) (z := (⟨"com/example/curtail/curtail/Placement$Cell", "nSlot", "()I"⟩ : MethodName)) hown (mvT hZ (ow hw 218 rfl)) (mvT hZ (ow hw 219 rfl)) (notFace_of_selects (args := #[]) (mvT hZ (ow hw 221 rfl))) (mvT hZ (ow hw 221 rfl)) (mvT hZ (ow hw 220 rfl)) (by decide) (backOf (W := 0) (rm31 l Z a0 hw [] G a9 p12 h0 n0 O0 F_nSlot_a9) hZ (ow hw 222 rfl) (ow hw 106 rfl) (by decide) (by decide)) q13a q13c (g := (mkF m 45 #[.val (.ref a1)] [(.ref a9)])) rfl (by rw [hml]; rfl) (Steps.refl _) (argsL := []) (rest := []) (lenOf pd_5 rfl) rfl (by show 2 * 0 + _ ≤ _; exact Nat.le_of_eq rfl) (hb hby d33_45) (fun _ _ => ⟨rfl, e11, (by decide : 0 + 0 ≤ _), (by decide : 0 + 0 ≤ _)⟩)
  dsimp only [Pt.U, Pt.locs, Pt.cells, Pt.slots] at X13 l13 y13 z13 st13 hQ13
  subst l13 y13 z13
  obtain ⟨rfl, N13q, e13⟩ := hQ13
  have N13 := Fr.app N10 N13q
  refine OGot.on st13 ?_
  show OGot p.tables e below (T13.setTop (mkF m 48 #[.val (.ref a1)] [(.int p12)])) _
  obtain ⟨fs, hr, hrun, hended, hW, hsame⟩ := X13.leave (v := some (.int p12)) (fun h => by rw [Bd.returns] at h; cases h)
  refine ⟨_, _, retI X13 hx Bd.returns (hb hby d33_48) hr, hrun, hended, _, _, rfl, ?_, ⟨_, rfl⟩, hW, hsame.mono (by decide) (by decide)⟩
  exact (⟨rfl, N13, e13⟩ : Q33 Z m_OA w_REJECTED w_EMPTY_ELEMENTDATA w_DEFAULTCAPACITY_EMPTY_ELEMENTDATA w_EMPTY_LIST w_EMPTY_LIST_elements w_EMPTY k_w_EMPTY_ELEMENTDATA k_w_DEFAULTCAPACITY_EMPTY_ELEMENTDATA k_w_EMPTY_LIST_elements a1 a2 a7 a9 p12 h0 n0 _ T13.heap _)
def Q18_1 (Z : State) (m_OA : Addr) (w_REJECTED : Addr) (w_EMPTY_ELEMENTDATA : Addr) (w_DEFAULTCAPACITY_EMPTY_ELEMENTDATA : Addr) (w_EMPTY_LIST : Addr) (w_EMPTY_LIST_elements : Addr) (w_EMPTY : Addr) (k_w_EMPTY_ELEMENTDATA : ClassId) (k_w_DEFAULTCAPACITY_EMPTY_ELEMENTDATA : ClassId) (k_w_EMPTY_LIST_elements : ClassId) (a1 : Addr) (a2 : Addr) (a3 : Addr) (k4 : ClassId) (a5 : Addr) (h0 : Heap) (n0 : Nat) (v : Option Value) (h : Heap) (L : List Loc) : Prop := Fr n0 L ∧ v = none ∧ OKeep h0 h [(a3, (1 : Int32).toNatClampNeg), (a1, Jvm.RoadKit.slotOf Z "java/util/ArrayList" "size" "I")] ∧ Arv Z h a3 k4 (.object "java/lang/Object") (10 : Int32) [(.ref a5), (.ref a2), .null, .null, .null, .null, .null, .null, .null, .null] .null ∧ Fld Z h a1 "java/util/ArrayList" "size" "I" (.int (2 : Int32))
theorem ef18_1 (m : MethodId) (x0 : Addr) (x1 : Addr) (x2 : Addr) : entryFrame m #[(.ref x0), (.ref x1), (.ref x2), (.int (1 : Int32))] 4 = mkF m 0 #[.val (.ref x0), .val (.ref x1), .val (.ref x2), .val (.int (1 : Int32))] [] := by first | (simp [entryFrame, mkF, argsToLocals, Value.category]; done) | rfl
set_option maxRecDepth 65536 in
set_option maxHeartbeats 40000000 in
theorem rm18_1 (l : Launch) (Z : State) (a0 : Array Value) (hw : ∀ d ∈ tables_1, d.before a0 Z = true) (ws : List Jvm.Cond) {m_OA : Addr} {w_REJECTED : Addr} {w_EMPTY_ELEMENTDATA : Addr} {w_DEFAULTCAPACITY_EMPTY_ELEMENTDATA : Addr} {w_EMPTY_LIST : Addr} {w_EMPTY_LIST_elements : Addr} {w_EMPTY : Addr} {k_w_EMPTY_ELEMENTDATA : ClassId} {k_w_DEFAULTCAPACITY_EMPTY_ELEMENTDATA : ClassId} {k_w_EMPTY_LIST_elements : ClassId} (G : Glob Z m_OA w_REJECTED w_EMPTY_ELEMENTDATA w_DEFAULTCAPACITY_EMPTY_ELEMENTDATA w_EMPTY_LIST w_EMPTY_LIST_elements w_EMPTY k_w_EMPTY_ELEMENTDATA k_w_DEFAULTCAPACITY_EMPTY_ELEMENTDATA k_w_EMPTY_LIST_elements) (a1 : Addr) (a2 : Addr) (a3 : Addr) (k4 : ClassId) (a5 : Addr) (h0 : Heap) (n0 : Nat) (O0 : Old Z n0 h0) (V_a3 : Arv Z h0 a3 k4 (.object "java/lang/Object") (10 : Int32) [(.ref a5), .null, .null, .null, .null, .null, .null, .null, .null, .null] .null) (O_k4 : Ovr Z k4 "java/lang/Object") (g_a3 : n0 ≤ a3) (E_a2 : Exa Z h0 a2 "com/example/curtail/curtail/Placement$Cell") (E_a1 : Exa Z h0 a1 "java/util/ArrayList") (F_size_a1 : Fld Z h0 a1 "java/util/ArrayList" "size" "I" (.int (1 : Int32))) (g_a1 : n0 ≤ a1) (ne_a1_a3 : a1 ≠ a3) :
    MetFree l (⟨"java/util/ArrayList", "add", "(Ljava/lang/Object;[Ljava/lang/Object;I)V"⟩ : MethodName) (head1 (Jvm.Cond.code (⟨"java/util/ArrayList", "add", "(Ljava/lang/Object;[Ljava/lang/Object;I)V"⟩ : MethodName) jdk_38_method_24_code 4 none :: ws) ({ frames := 0, cells := 0, slots := 0, locals := 0 } : Room)) (fun a U => a = #[(.ref a1), (.ref a2), (.ref a3), (.int (1 : Int32))] ∧ Z.Warmed39 U.vm ∧ U.heap = h0) (fun _ _ _ _ _ => True) (fun _ U o U' => ∃ v L, o = .returned v ∧ Q18_1 Z m_OA w_REJECTED w_EMPTY_ELEMENTDATA w_DEFAULTCAPACITY_EMPTY_ELEMENTDATA w_EMPTY_LIST w_EMPTY_LIST_elements w_EMPTY k_w_EMPTY_ELEMENTDATA k_w_DEFAULTCAPACITY_EMPTY_ELEMENTDATA k_w_EMPTY_LIST_elements a1 a2 a3 k4 a5 h0 n0 v U'.heap L ∧ FrameEnd U o U' L ({ frames := 0, cells := 0, slots := 0, locals := 0 } : Room).cells ({ frames := 0, cells := 0, slots := 0, locals := 0 } : Room).slots) := by
  refine MetFree.of_bodySF (plainFor_of_name pn_java_util_ArrayList) hisR ?_
  intro p e s m args below meth c s₁ Bd hml0 hP hK
  obtain ⟨rfl, hZ, hh⟩ := hP
  have hx := Bd.exec
  have hby := Bd.bytes
  have hml : c.maxLocals = 4 := hml0
  have hown : s.vm.findClass "java/util/ArrayList" = some m.cls := findClass_of_methodNamed Bd.named
  have hnm := (name_of_methodNamed Bd.named Bd.method).1
  have X0 : Stand p l e ({ frames := 0, cells := 0, slots := 0, locals := 0 } : Room) s m #[(.ref a1), (.ref a2), (.ref a3), (.int (1 : Int32))] below meth c s₁ [] 0 0 := Stand.of_body Bd
  have e0 : s₁.heap = h0 := by rw [← hh, Bd.state]; rfl
  have N0 := Fr.nil n0
  show OGot p.tables e below (s₁.setTop (entryFrame m #[(.ref a1), (.ref a2), (.ref a3), (.int (1 : Int32))] 4)) _
  refine OGot.go (fun t k => castTop (ef18_1 m a1 a2 a3) k) ?_
  show OGot p.tables e below (s₁.setTop (mkF m 0 #[.val (.ref a1), .val (.ref a2), .val (.ref a3), .val (.int (1 : Int32))] [])) _
  refine OGot.go (fun t k => XS.iloadN X0.here hx rfl (hb hby d18_0) rfl k) ?_
  show OGot p.tables e below (s₁.setTop (mkF m 1 #[.val (.ref a1), .val (.ref a2), .val (.ref a3), .val (.int (1 : Int32))] [(.int (1 : Int32))])) _
  refine OGot.go (fun t k => XS.aloadN X0.here hx rfl (hb hby d18_1) rfl rfl k) ?_
  show OGot p.tables e below (s₁.setTop (mkF m 2 #[.val (.ref a1), .val (.ref a2), .val (.ref a3), .val (.int (1 : Int32))] [(.ref a3), (.int (1 : Int32))])) _
  obtain ⟨cl6, Ar6, -, Sz6, Ng6, -, -⟩ := id (V_a3)
  refine OGot.go (fun t k => X0.arraylength hx (by rw [e0]; exact Ar6.1) (State.isArrayOf_alike hZ.alike Ar6.2.1) (g := (mkF m 2 #[.val (.ref a1), .val (.ref a2), .val (.ref a3), .val (.int (1 : Int32))] [(.ref a3), (.int (1 : Int32))])) rfl rfl (hb hby d18_2) _ k) ?_
  rw [len_of Sz6 Ng6]
  show OGot p.tables e below (s₁.setTop (mkF m 3 #[.val (.ref a1), .val (.ref a2), .val (.ref a3), .val (.int (1 : Int32))] [(.int (10 : Int32)), (.int (1 : Int32))])) _
  refine OGot.go (fun t k => XS.icmpYes X0.here hx rfl (pc0 := 3) (pc' := 11) rfl (hb hby d18_3) rfl (by decide) (by decide) (by decide) k) ?_
  show OGot p.tables e below (s₁.setTop (mkF m 11 #[.val (.ref a1), .val (.ref a2), .val (.ref a3), .val (.int (1 : Int32))] [])) _
  refine OGot.go (fun t k => XS.aloadN X0.here hx rfl (hb hby d18_11) rfl rfl k) ?_
  show OGot p.tables e below (s₁.setTop (mkF m 12 #[.val (.ref a1), .val (.ref a2), .val (.ref a3), .val (.int (1 : Int32))] [(.ref a3)])) _
  refine OGot.go (fun t k => XS.iloadN X0.here hx rfl (hb hby d18_12) rfl k) ?_
  show OGot p.tables e below (s₁.setTop (mkF m 13 #[.val (.ref a1), .val (.ref a2), .val (.ref a3), .val (.int (1 : Int32))] [(.int (1 : Int32)), (.ref a3)])) _
  refine OGot.go (fun t k => XS.aloadN X0.here hx rfl (hb hby d18_13) rfl rfl k) ?_
  show OGot p.tables e below (s₁.setTop (mkF m 14 #[.val (.ref a1), .val (.ref a2), .val (.ref a3), .val (.int (1 : Int32))] [(.ref a2), (.int (1 : Int32)), (.ref a3)])) _
  obtain ⟨cl7, Ar7, qc7, Sz7, Ng7, Hh7, Gg7⟩ := id (V_a3)
  have hin7 : ¬ ((1 : Int32) < 0 ∨ cl7.slots.size ≤ ((1 : Int32)).toNatClampNeg) := inb_of Sz7 ⟨by decide, by decide⟩
  obtain ⟨T7, h7, X7, e7, W7, st7⟩ := stR X0 hx hZ e0 Ar7 (j := (1 : Int32)) hin7 rfl (Sto.ofV Ar7 qc7 O_k4 (Ins.of_exa E_a2 (ow hw 140 rfl))) (g := (mkF m 14 #[.val (.ref a1), .val (.ref a2), .val (.ref a3), .val (.int (1 : Int32))] [(.ref a2), (.int (1 : Int32)), (.ref a3)])) rfl rfl (hb hby d18_14)
  refine OGot.go st7 ?_
  have N7 := Fr.snoc X7 N0 g_a3
  have O7 := O0.wr W7 g_a3
  have K7 := (OKeep.refl h0 [(a3, (1 : Int32).toNatClampNeg), (a1, Jvm.RoadKit.slotOf Z "java/util/ArrayList" "size" "I")]).wr W7 (Or.inl (List.mem_of_getElem? (i := 0) rfl))
  have Va7 : Arv Z h7 a3 k4 (.object "java/lang/Object") (10 : Int32) [(.ref a5), (.ref a2), .null, .null, .null, .null, .null, .null, .null, .null] .null := Arv.set Ar7 qc7 Sz7 Ng7 Hh7 Gg7 rfl W7 1 rfl (Nat.le_of_ble_eq_true rfl)
  show OGot p.tables e below (T7.setTop (mkF m 15 #[.val (.ref a1), .val (.ref a2), .val (.ref a3), .val (.int (1 : Int32))] [])) _
  refine OGot.go (fun t k => XS.aloadN X7.here hx rfl (hb hby d18_15) rfl rfl k) ?_
  show OGot p.tables e below (T7.setTop (mkF m 16 #[.val (.ref a1), .val (.ref a2), .val (.ref a3), .val (.int (1 : Int32))] [(.ref a1)])) _
  refine OGot.go (fun t k => XS.iloadN X7.here hx rfl (hb hby d18_16) rfl k) ?_
  show OGot p.tables e below (T7.setTop (mkF m 17 #[.val (.ref a1), .val (.ref a2), .val (.ref a3), .val (.int (1 : Int32))] [(.int (1 : Int32)), (.ref a1)])) _
  refine OGot.go (fun t k => XS.iconst X7.here hx rfl (hb hby d18_17) k) ?_
  show OGot p.tables e below (T7.setTop (mkF m 18 #[.val (.ref a1), .val (.ref a2), .val (.ref a3), .val (.int (1 : Int32))] [(.int (1 : Int32)), (.int (1 : Int32)), (.ref a1)])) _
  refine OGot.go (fun t k => XS.iadd X7.here hx rfl (hb hby d18_18) rfl k) ?_
  show OGot p.tables e below (T7.setTop (mkF m 19 #[.val (.ref a1), .val (.ref a2), .val (.ref a3), .val (.int (1 : Int32))] [(.int ((1 : Int32) + (1 : Int32))), (.ref a1)])) _
  rw [show ((1 : Int32) + (1 : Int32)) = (2 : Int32) from by decide]
  show OGot p.tables e below (T7.setTop (mkF m 19 #[.val (.ref a1), .val (.ref a2), .val (.ref a3), .val (.int (1 : Int32))] [(.int (2 : Int32)), (.ref a1)])) _
  have ne8 : a1 ≠ a3 := ne_a1_a3
  have F9 : Fld Z h7 a1 "java/util/ArrayList" "size" "I" (.int (1 : Int32)) := (F_size_a1.other W7 (Or.inl ne8))
  obtain ⟨T10, h10, X10, e10, W10, st10⟩ := putF X7 hx hZ hown (host := "") (Or.inl (ow hw 69 rfl)) Via.refl e7 F9 (E_a1.wr W7) (Or.inl (ow hw 70 rfl)) (ow hw 9 rfl) (ty := .int) (by decide) rfl rfl (g := (mkF m 19 #[.val (.ref a1), .val (.ref a2), .val (.ref a3), .val (.int (1 : Int32))] [(.int (2 : Int32)), (.ref a1)])) rfl rfl (hb hby d18_19)
  refine OGot.go st10 ?_
  have N10 := Fr.snoc X10 N7 g_a1
  have O10 := O7.wr W10 g_a1
  have K10 := K7.wr W10 (Or.inl (List.mem_of_getElem? (i := 1) rfl))
  have Fw10 : Fld Z h10 a1 "java/util/ArrayList" "size" "I" (.int (2 : Int32)) := F9.same W10
  show OGot p.tables e below (T10.setTop (mkF m 22 #[.val (.ref a1), .val (.ref a2), .val (.ref a3), .val (.int (1 : Int32))] [])) _
  obtain ⟨fs, hr, hrun, hended, hW, hsame⟩ := X10.leave (v := none) (fun _ => rfl)
  refine ⟨_, _, X10.returnOut hx Bd.returns (hb hby d18_22) hr, hrun, hended, _, _, rfl, ?_, ⟨_, rfl⟩, hW, hsame.mono (by decide) (by decide)⟩
  have F11 : Arv Z h10 a3 k4 (.object "java/lang/Object") (10 : Int32) [(.ref a5), (.ref a2), .null, .null, .null, .null, .null, .null, .null, .null] .null := (Va7.other W10 (Ne.symm ne8))
  show Q18_1 Z m_OA w_REJECTED w_EMPTY_ELEMENTDATA w_DEFAULTCAPACITY_EMPTY_ELEMENTDATA w_EMPTY_LIST w_EMPTY_LIST_elements w_EMPTY k_w_EMPTY_ELEMENTDATA k_w_DEFAULTCAPACITY_EMPTY_ELEMENTDATA k_w_EMPTY_LIST_elements a1 a2 a3 k4 a5 h0 n0 _ T10.heap _
  rw [e10]
  exact ⟨N10, rfl, K10, F11, Fw10⟩
def Q17_1 (Z : State) (m_OA : Addr) (w_REJECTED : Addr) (w_EMPTY_ELEMENTDATA : Addr) (w_DEFAULTCAPACITY_EMPTY_ELEMENTDATA : Addr) (w_EMPTY_LIST : Addr) (w_EMPTY_LIST_elements : Addr) (w_EMPTY : Addr) (k_w_EMPTY_ELEMENTDATA : ClassId) (k_w_DEFAULTCAPACITY_EMPTY_ELEMENTDATA : ClassId) (k_w_EMPTY_LIST_elements : ClassId) (a1 : Addr) (a2 : Addr) (a5 : Addr) (k10 : ClassId) (a11 : Addr) (h0 : Heap) (n0 : Nat) (v : Option Value) (h : Heap) (L : List Loc) : Prop := Fr n0 L ∧ v = some (.int (1 : Int32)) ∧ OKeep h0 h [(a1, Jvm.RoadKit.slotOf Z "java/util/AbstractList" "modCount" "I"), (a1, Jvm.RoadKit.slotOf Z "java/util/ArrayList" "size" "I"), (a5, (1 : Int32).toNatClampNeg)] ∧ Fld Z h a1 "java/util/AbstractList" "modCount" "I" (.int (2 : Int32)) ∧ Fld Z h a1 "java/util/ArrayList" "size" "I" (.int (2 : Int32)) ∧ Arv Z h a5 k10 (.object "java/lang/Object") (10 : Int32) [(.ref a11), (.ref a2), .null, .null, .null, .null, .null, .null, .null, .null] .null
theorem ef17_1 (m : MethodId) (x0 : Addr) (x1 : Addr) : entryFrame m #[(.ref x0), (.ref x1)] 2 = mkF m 0 #[.val (.ref x0), .val (.ref x1)] [] := by first | (simp [entryFrame, mkF, argsToLocals, Value.category]; done) | rfl
set_option maxRecDepth 65536 in
set_option maxHeartbeats 40000000 in
theorem rm17_1 (l : Launch) (Z : State) (a0 : Array Value) (hw : ∀ d ∈ tables_1, d.before a0 Z = true) (ws : List Jvm.Cond) {m_OA : Addr} {w_REJECTED : Addr} {w_EMPTY_ELEMENTDATA : Addr} {w_DEFAULTCAPACITY_EMPTY_ELEMENTDATA : Addr} {w_EMPTY_LIST : Addr} {w_EMPTY_LIST_elements : Addr} {w_EMPTY : Addr} {k_w_EMPTY_ELEMENTDATA : ClassId} {k_w_DEFAULTCAPACITY_EMPTY_ELEMENTDATA : ClassId} {k_w_EMPTY_LIST_elements : ClassId} (G : Glob Z m_OA w_REJECTED w_EMPTY_ELEMENTDATA w_DEFAULTCAPACITY_EMPTY_ELEMENTDATA w_EMPTY_LIST w_EMPTY_LIST_elements w_EMPTY k_w_EMPTY_ELEMENTDATA k_w_DEFAULTCAPACITY_EMPTY_ELEMENTDATA k_w_EMPTY_LIST_elements) (a1 : Addr) (a2 : Addr) (a5 : Addr) (k10 : ClassId) (a11 : Addr) (h0 : Heap) (n0 : Nat) (O0 : Old Z n0 h0) (F_modCount_a1 : Fld Z h0 a1 "java/util/AbstractList" "modCount" "I" (.int (1 : Int32))) (E_a1 : Exa Z h0 a1 "java/util/ArrayList") (g_a1 : n0 ≤ a1) (F_elementData_a1 : Fld Z h0 a1 "java/util/ArrayList" "elementData" "[Ljava/lang/Object;" (.ref a5)) (F_size_a1 : Fld Z h0 a1 "java/util/ArrayList" "size" "I" (.int (1 : Int32))) (V_a5 : Arv Z h0 a5 k10 (.object "java/lang/Object") (10 : Int32) [(.ref a11), .null, .null, .null, .null, .null, .null, .null, .null, .null] .null) (O_k10 : Ovr Z k10 "java/lang/Object") (g_a5 : n0 ≤ a5) (E_a2 : Exa Z h0 a2 "com/example/curtail/curtail/Placement$Cell") (ne_a1_a5 : a1 ≠ a5) :
    MetFree l (⟨"java/util/ArrayList", "add", "(Ljava/lang/Object;)Z"⟩ : MethodName) (head1 (Jvm.Cond.code (⟨"java/util/ArrayList", "add", "(Ljava/lang/Object;)Z"⟩ : MethodName) jdk_38_method_25_code 2 (some .boolean) :: ws) ({ frames := 1, cells := 0, slots := 0, locals := 15 } : Room)) (fun a U => a = #[(.ref a1), (.ref a2)] ∧ Z.Warmed39 U.vm ∧ U.heap = h0) (fun _ _ _ _ _ => True) (fun _ U o U' => ∃ v L, o = .returned v ∧ Q17_1 Z m_OA w_REJECTED w_EMPTY_ELEMENTDATA w_DEFAULTCAPACITY_EMPTY_ELEMENTDATA w_EMPTY_LIST w_EMPTY_LIST_elements w_EMPTY k_w_EMPTY_ELEMENTDATA k_w_DEFAULTCAPACITY_EMPTY_ELEMENTDATA k_w_EMPTY_LIST_elements a1 a2 a5 k10 a11 h0 n0 v U'.heap L ∧ FrameEnd U o U' L ({ frames := 1, cells := 0, slots := 0, locals := 15 } : Room).cells ({ frames := 1, cells := 0, slots := 0, locals := 15 } : Room).slots) := by
  refine MetFree.of_bodySF (plainFor_of_name pn_java_util_ArrayList) hisR ?_
  intro p e s m args below meth c s₁ Bd hml0 hP hK
  obtain ⟨rfl, hZ, hh⟩ := hP
  have hx := Bd.exec
  have hby := Bd.bytes
  have hml : c.maxLocals = 2 := hml0
  have hown : s.vm.findClass "java/util/ArrayList" = some m.cls := findClass_of_methodNamed Bd.named
  have hnm := (name_of_methodNamed Bd.named Bd.method).1
  have X0 : Stand p l e ({ frames := 1, cells := 0, slots := 0, locals := 15 } : Room) s m #[(.ref a1), (.ref a2)] below meth c s₁ [] 0 0 := Stand.of_body Bd
  have e0 : s₁.heap = h0 := by rw [← hh, Bd.state]; rfl
  have N0 := Fr.nil n0
  show OGot p.tables e below (s₁.setTop (entryFrame m #[(.ref a1), (.ref a2)] 2)) _
  refine OGot.go (fun t k => castTop (ef17_1 m a1 a2) k) ?_
  show OGot p.tables e below (s₁.setTop (mkF m 0 #[.val (.ref a1), .val (.ref a2)] [])) _
  refine OGot.go (fun t k => XS.aloadN X0.here hx rfl (hb hby d17_0) rfl rfl k) ?_
  show OGot p.tables e below (s₁.setTop (mkF m 1 #[.val (.ref a1), .val (.ref a2)] [(.ref a1)])) _
  refine OGot.go (fun t k => XS.dup X0.here hx rfl (hb hby d17_1) rfl rfl k) ?_
  show OGot p.tables e below (s₁.setTop (mkF m 2 #[.val (.ref a1), .val (.ref a2)] [(.ref a1), (.ref a1)])) _
  obtain ⟨T3, X3, e3, st3⟩ := getF X0 hx hZ hown (host := "") (Or.inl (ow hw 120 rfl)) (Via.of (ow hw 121 rfl)) e0 F_modCount_a1 (g := (mkF m 2 #[.val (.ref a1), .val (.ref a2)] [(.ref a1), (.ref a1)])) rfl rfl (hb hby d17_2)
  refine OGot.go st3 ?_
  show OGot p.tables e below (T3.setTop (mkF m 5 #[.val (.ref a1), .val (.ref a2)] [(.int (1 : Int32)), (.ref a1)])) _
  refine OGot.go (fun t k => XS.iconst X3.here hx rfl (hb hby d17_5) k) ?_
  show OGot p.tables e below (T3.setTop (mkF m 6 #[.val (.ref a1), .val (.ref a2)] [(.int (1 : Int32)), (.int (1 : Int32)), (.ref a1)])) _
  refine OGot.go (fun t k => XS.iadd X3.here hx rfl (hb hby d17_6) rfl k) ?_
  show OGot p.tables e below (T3.setTop (mkF m 7 #[.val (.ref a1), .val (.ref a2)] [(.int ((1 : Int32) + (1 : Int32))), (.ref a1)])) _
  rw [show ((1 : Int32) + (1 : Int32)) = (2 : Int32) from by decide]
  show OGot p.tables e below (T3.setTop (mkF m 7 #[.val (.ref a1), .val (.ref a2)] [(.int (2 : Int32)), (.ref a1)])) _
  obtain ⟨T4, h4, X4, e4, W4, st4⟩ := putF X3 hx hZ hown (host := "") (Or.inl (ow hw 120 rfl)) (Via.of (ow hw 121 rfl)) e3 F_modCount_a1 E_a1 (Or.inl (ow hw 30 rfl)) (ow hw 9 rfl) (ty := .int) (by decide) rfl rfl (g := (mkF m 7 #[.val (.ref a1), .val (.ref a2)] [(.int (2 : Int32)), (.ref a1)])) rfl rfl (hb hby d17_7)
  refine OGot.go st4 ?_
  have N4 := Fr.snoc X4 N0 g_a1
  have O4 := O0.wr W4 g_a1
  have K4 := (OKeep.refl h0 [(a1, Jvm.RoadKit.slotOf Z "java/util/AbstractList" "modCount" "I"), (a1, Jvm.RoadKit.slotOf Z "java/util/ArrayList" "size" "I"), (a5, (1 : Int32).toNatClampNeg)]).wr W4 (Or.inl (List.mem_of_getElem? (i := 0) rfl))
  have Fw4 : Fld Z h4 a1 "java/util/AbstractList" "modCount" "I" (.int (2 : Int32)) := F_modCount_a1.same W4
  show OGot p.tables e below (T4.setTop (mkF m 10 #[.val (.ref a1), .val (.ref a2)] [])) _
  refine OGot.go (fun t k => XS.aloadN X4.here hx rfl (hb hby d17_10) rfl rfl k) ?_
  show OGot p.tables e below (T4.setTop (mkF m 11 #[.val (.ref a1), .val (.ref a2)] [(.ref a1)])) _
  refine OGot.go (fun t k => XS.aloadN X4.here hx rfl (hb hby d17_11) rfl rfl k) ?_
  show OGot p.tables e below (T4.setTop (mkF m 12 #[.val (.ref a1), .val (.ref a2)] [(.ref a2), (.ref a1)])) _
  refine OGot.go (fun t k => XS.aloadN X4.here hx rfl (hb hby d17_12) rfl rfl k) ?_
  show OGot p.tables e below (T4.setTop (mkF m 13 #[.val (.ref a1), .val (.ref a2)] [(.ref a1), (.ref a2), (.ref a1)])) _
  have F6 : Fld Z h4 a1 "java/util/ArrayList" "elementData" "[Ljava/lang/Object;" (.ref a5) := (F_elementData_a1.other W4 (Or.inr (slot_ne (Or.inl (ow hw 33 rfl)) (Or.inl (ow hw 30 rfl)) (by decide) (t := (.array (.object "java/lang/Object"))) (t' := .int) (by decide) (by decide))))
  obtain ⟨T7, X7, e7, st7⟩ := getF X4 hx hZ hown (host := "") (Or.inl (ow hw 32 rfl)) Via.refl e4 F6 (g := (mkF m 13 #[.val (.ref a1), .val (.ref a2)] [(.ref a1), (.ref a2), (.ref a1)])) rfl rfl (hb hby d17_13)
  refine OGot.go st7 ?_
  show OGot p.tables e below (T7.setTop (mkF m 16 #[.val (.ref a1), .val (.ref a2)] [(.ref a5), (.ref a2), (.ref a1)])) _
  refine OGot.go (fun t k => XS.aloadN X7.here hx rfl (hb hby d17_16) rfl rfl k) ?_
  show OGot p.tables e below (T7.setTop (mkF m 17 #[.val (.ref a1), .val (.ref a2)] [(.ref a1), (.ref a5), (.ref a2), (.ref a1)])) _
  have F8 : Fld Z h4 a1 "java/util/ArrayList" "size" "I" (.int (1 : Int32)) := (F_size_a1.other W4 (Or.inr (slot_ne (Or.inl (ow hw 70 rfl)) (Or.inl (ow hw 30 rfl)) (by decide) (t := .int) (t' := .int) (by decide) (by decide))))
  obtain ⟨T9, X9, e9, st9⟩ := getF X7 hx hZ hown (host := "") (Or.inl (ow hw 69 rfl)) Via.refl e7 F8 (g := (mkF m 17 #[.val (.ref a1), .val (.ref a2)] [(.ref a1), (.ref a5), (.ref a2), (.ref a1)])) rfl rfl (hb hby d17_17)
  refine OGot.go st9 ?_
  show OGot p.tables e below (T9.setTop (mkF m 20 #[.val (.ref a1), .val (.ref a2)] [(.int (1 : Int32)), (.ref a5), (.ref a2), (.ref a1)])) _
  have ne12 : a1 ≠ a5 := ne_a1_a5
  have F14 : Arv Z h4 a5 k10 (.object "java/lang/Object") (10 : Int32) [(.ref a11), .null, .null, .null, .null, .null, .null, .null, .null, .null] .null := (V_a5.other W4 (Ne.symm ne12))
  obtain ⟨cq13, q13, q13'⟩ := (E_a1.wr W4).cell
  obtain ⟨_, _, ⟨T13, L13, k13, n13⟩, -, X13, ⟨Lc13, hQ13, l13, y13, z13⟩, st13⟩ := X9.privateBack hx (y := (⟨"java/util/ArrayList", "add", "(Ljava/lang/Object;[Ljava/lang/Object;I)V"⟩ : MethodName)) hown (mvT hZ (ow hw 122 rfl)) (mvT hZ (ow hw 123 rfl)) (mvT hZ (ow hw 125 rfl)) (Cond.privateMethod_at (mvP hZ (ow hw 124 rfl) (args := #[]))) (mvT hZ (ow hw 126 rfl)) (by decide) (backOf (W := 0) (rm18_1 l Z a0 hw [] G a1 a2 a5 k10 a11 h4 n0 O4 F14 O_k10 g_a5 (E_a2.wr W4) (E_a1.wr W4) F8 g_a1 ne12) hZ (ow hw 126 rfl) (ow hw 10 rfl) (by decide) (by decide)) (g := (mkF m 20 #[.val (.ref a1), .val (.ref a2)] [(.int (1 : Int32)), (.ref a5), (.ref a2), (.ref a1)])) rfl (by rw [hml]; rfl) (Steps.refl _) (a := a1) (by rw [e9]; exact q13) q13' (argsL := [(.ref a2), (.ref a5), (.int (1 : Int32))]) (rest := []) (lenOf pd_10 rfl) rfl (by show 2 * 0 + _ ≤ _; exact Nat.le_of_eq rfl) (hb hby d17_20) (fun _ _ => ⟨rfl, e9, (by decide : 0 + 0 ≤ _), (by decide : 0 + 0 ≤ _)⟩)
  dsimp only [Pt.U, Pt.locs, Pt.cells, Pt.slots] at X13 l13 y13 z13 st13 hQ13
  subst l13 y13 z13
  obtain ⟨N13q, rfl, K13, Fo13_0, Fo13_1⟩ := hQ13
  have Kc13 := K4.trans K13 (oinS (Or.inl (List.mem_of_getElem? (i := 2) rfl)) (oinS (Or.inl (List.mem_of_getElem? (i := 1) rfl)) oin0))
  have O13 := OKeep.old O4 K13 (ogeS g_a5 (ogeS g_a1 oge0))
  have N13 := Fr.app N4 N13q
  refine OGot.on st13 ?_
  show OGot p.tables e below (T13.setTop (mkF m 23 #[.val (.ref a1), .val (.ref a2)] [])) _
  refine OGot.go (fun t k => XS.iconst X13.here hx rfl (hb hby d17_23) k) ?_
  show OGot p.tables e below (T13.setTop (mkF m 24 #[.val (.ref a1), .val (.ref a2)] [(.int (1 : Int32))])) _
  obtain ⟨fs, hr, hrun, hended, hW, hsame⟩ := X13.leave (v := some (.int (1 : Int32))) (fun h => by rw [Bd.returns] at h; cases h)
  refine ⟨_, _, retN X13 hx (t := .boolean) Bd.returns (by simp) (hb hby d17_24) hr, hrun, hended, _, _, rfl, ?_, ⟨_, rfl⟩, hW, hsame.mono (by decide) (by decide)⟩
  have F15 : Fld Z T13.heap a1 "java/util/AbstractList" "modCount" "I" (.int (2 : Int32)) := (OKeep.fld Fw4 K13 (oninA ne12 (oninS (slot_ne (Or.inl (ow hw 30 rfl)) (Or.inl (ow hw 70 rfl)) (by decide) (t := .int) (t' := .int) (by decide) (by decide)) onin0)))
  show Q17_1 Z m_OA w_REJECTED w_EMPTY_ELEMENTDATA w_DEFAULTCAPACITY_EMPTY_ELEMENTDATA w_EMPTY_LIST w_EMPTY_LIST_elements w_EMPTY k_w_EMPTY_ELEMENTDATA k_w_DEFAULTCAPACITY_EMPTY_ELEMENTDATA k_w_EMPTY_LIST_elements a1 a2 a5 k10 a11 h0 n0 _ T13.heap _
  exact ⟨N13, rfl, Kc13, F15, Fo13_1, Fo13_0⟩
def Q11_2 (Z : State) (m_OA : Addr) (w_REJECTED : Addr) (w_EMPTY_ELEMENTDATA : Addr) (w_DEFAULTCAPACITY_EMPTY_ELEMENTDATA : Addr) (w_EMPTY_LIST : Addr) (w_EMPTY_LIST_elements : Addr) (w_EMPTY : Addr) (k_w_EMPTY_ELEMENTDATA : ClassId) (k_w_DEFAULTCAPACITY_EMPTY_ELEMENTDATA : ClassId) (k_w_EMPTY_LIST_elements : ClassId) (a1 : Addr) (h0 : Heap) (n0 : Nat) (v : Option Value) (h : Heap) (L : List Loc) : Prop := v = some (.int (0 : Int32)) ∧ Fr n0 L ∧ h = h0
theorem ef11_2 (m : MethodId) (x0 : Addr) : entryFrame m #[(.ref x0)] 1 = mkF m 0 #[.val (.ref x0)] [] := by first | (simp [entryFrame, mkF, argsToLocals, Value.category]; done) | rfl
set_option maxRecDepth 65536 in
set_option maxHeartbeats 40000000 in
theorem rm11_2 (l : Launch) (Z : State) (a0 : Array Value) (hw : ∀ d ∈ tables_1, d.before a0 Z = true) (ws : List Jvm.Cond) {m_OA : Addr} {w_REJECTED : Addr} {w_EMPTY_ELEMENTDATA : Addr} {w_DEFAULTCAPACITY_EMPTY_ELEMENTDATA : Addr} {w_EMPTY_LIST : Addr} {w_EMPTY_LIST_elements : Addr} {w_EMPTY : Addr} {k_w_EMPTY_ELEMENTDATA : ClassId} {k_w_DEFAULTCAPACITY_EMPTY_ELEMENTDATA : ClassId} {k_w_EMPTY_LIST_elements : ClassId} (G : Glob Z m_OA w_REJECTED w_EMPTY_ELEMENTDATA w_DEFAULTCAPACITY_EMPTY_ELEMENTDATA w_EMPTY_LIST w_EMPTY_LIST_elements w_EMPTY k_w_EMPTY_ELEMENTDATA k_w_DEFAULTCAPACITY_EMPTY_ELEMENTDATA k_w_EMPTY_LIST_elements) (a1 : Addr) (h0 : Heap) (n0 : Nat) (O0 : Old Z n0 h0) (F_size_a1 : Fld Z h0 a1 "java/util/ArrayList" "size" "I" (.int (2 : Int32))) :
    MetFree l (⟨"java/util/ArrayList", "isEmpty", "()Z"⟩ : MethodName) (head1 (Jvm.Cond.code (⟨"java/util/ArrayList", "isEmpty", "()Z"⟩ : MethodName) jdk_38_method_9_code 1 (some .boolean) :: ws) ({ frames := 0, cells := 0, slots := 0, locals := 0 } : Room)) (fun a U => a = #[(.ref a1)] ∧ Z.Warmed39 U.vm ∧ U.heap = h0) (fun _ _ _ _ _ => True) (fun _ U o U' => ∃ v L, o = .returned v ∧ Q11_2 Z m_OA w_REJECTED w_EMPTY_ELEMENTDATA w_DEFAULTCAPACITY_EMPTY_ELEMENTDATA w_EMPTY_LIST w_EMPTY_LIST_elements w_EMPTY k_w_EMPTY_ELEMENTDATA k_w_DEFAULTCAPACITY_EMPTY_ELEMENTDATA k_w_EMPTY_LIST_elements a1 h0 n0 v U'.heap L ∧ FrameEnd U o U' L ({ frames := 0, cells := 0, slots := 0, locals := 0 } : Room).cells ({ frames := 0, cells := 0, slots := 0, locals := 0 } : Room).slots) := by
  refine MetFree.of_bodySF (plainFor_of_name pn_java_util_ArrayList) hisR ?_
  intro p e s m args below meth c s₁ Bd hml0 hP hK
  obtain ⟨rfl, hZ, hh⟩ := hP
  have hx := Bd.exec
  have hby := Bd.bytes
  have hml : c.maxLocals = 1 := hml0
  have hown : s.vm.findClass "java/util/ArrayList" = some m.cls := findClass_of_methodNamed Bd.named
  have hnm := (name_of_methodNamed Bd.named Bd.method).1
  have X0 : Stand p l e ({ frames := 0, cells := 0, slots := 0, locals := 0 } : Room) s m #[(.ref a1)] below meth c s₁ [] 0 0 := Stand.of_body Bd
  have e0 : s₁.heap = h0 := by rw [← hh, Bd.state]; rfl
  have N0 := Fr.nil n0
  show OGot p.tables e below (s₁.setTop (entryFrame m #[(.ref a1)] 1)) _
  refine OGot.go (fun t k => castTop (ef11_2 m a1) k) ?_
  show OGot p.tables e below (s₁.setTop (mkF m 0 #[.val (.ref a1)] [])) _
  refine OGot.go (fun t k => XS.aloadN X0.here hx rfl (hb hby d11_0) rfl rfl k) ?_
  show OGot p.tables e below (s₁.setTop (mkF m 1 #[.val (.ref a1)] [(.ref a1)])) _
  obtain ⟨T2, X2, e2, st2⟩ := getF X0 hx hZ hown (host := "") (Or.inl (ow hw 69 rfl)) Via.refl e0 F_size_a1 (g := (mkF m 1 #[.val (.ref a1)] [(.ref a1)])) rfl rfl (hb hby d11_1)
  refine OGot.go st2 ?_
  show OGot p.tables e below (T2.setTop (mkF m 4 #[.val (.ref a1)] [(.int (2 : Int32))])) _
  refine OGot.go (fun t k => XS.ifYes X2.here hx rfl (pc0 := 4) (pc' := 11) rfl (hb hby d11_4) rfl (by decide) (by decide) (by decide) k) ?_
  show OGot p.tables e below (T2.setTop (mkF m 11 #[.val (.ref a1)] [])) _
  refine OGot.go (fun t k => XS.iconst X2.here hx rfl (hb hby d11_11) k) ?_
  show OGot p.tables e below (T2.setTop (mkF m 12 #[.val (.ref a1)] [(.int (0 : Int32))])) _
  obtain ⟨fs, hr, hrun, hended, hW, hsame⟩ := X2.leave (v := some (.int (0 : Int32))) (fun h => by rw [Bd.returns] at h; cases h)
  refine ⟨_, _, retN X2 hx (t := .boolean) Bd.returns (by simp) (hb hby d11_12) hr, hrun, hended, _, _, rfl, ?_, ⟨_, rfl⟩, hW, hsame.mono (by decide) (by decide)⟩
  exact (⟨rfl, N0, e2⟩ : Q11_2 Z m_OA w_REJECTED w_EMPTY_ELEMENTDATA w_DEFAULTCAPACITY_EMPTY_ELEMENTDATA w_EMPTY_LIST w_EMPTY_LIST_elements w_EMPTY k_w_EMPTY_ELEMENTDATA k_w_DEFAULTCAPACITY_EMPTY_ELEMENTDATA k_w_EMPTY_LIST_elements a1 h0 n0 _ T2.heap _)
def Q1_2 (Z : State) (m_OA : Addr) (w_REJECTED : Addr) (w_EMPTY_ELEMENTDATA : Addr) (w_DEFAULTCAPACITY_EMPTY_ELEMENTDATA : Addr) (w_EMPTY_LIST : Addr) (w_EMPTY_LIST_elements : Addr) (w_EMPTY : Addr) (k_w_EMPTY_ELEMENTDATA : ClassId) (k_w_DEFAULTCAPACITY_EMPTY_ELEMENTDATA : ClassId) (k_w_EMPTY_LIST_elements : ClassId)  (h0 : Heap) (n0 : Nat) (v : Option Value) (h : Heap) (L : List Loc) : Prop := v = some (.int (2 : Int32)) ∧ Fr n0 L ∧ h = h0
theorem ef1_2 (m : MethodId)  : entryFrame m #[(.int (10 : Int32)), (.int (2 : Int32))] 2 = mkF m 0 #[.val (.int (10 : Int32)), .val (.int (2 : Int32))] [] := by first | (simp [entryFrame, mkF, argsToLocals, Value.category]; done) | rfl
set_option maxRecDepth 65536 in
set_option maxHeartbeats 40000000 in
theorem rm1_2 (l : Launch) (Z : State) (a0 : Array Value) (hw : ∀ d ∈ tables_1, d.before a0 Z = true) (ws : List Jvm.Cond) {m_OA : Addr} {w_REJECTED : Addr} {w_EMPTY_ELEMENTDATA : Addr} {w_DEFAULTCAPACITY_EMPTY_ELEMENTDATA : Addr} {w_EMPTY_LIST : Addr} {w_EMPTY_LIST_elements : Addr} {w_EMPTY : Addr} {k_w_EMPTY_ELEMENTDATA : ClassId} {k_w_DEFAULTCAPACITY_EMPTY_ELEMENTDATA : ClassId} {k_w_EMPTY_LIST_elements : ClassId} (G : Glob Z m_OA w_REJECTED w_EMPTY_ELEMENTDATA w_DEFAULTCAPACITY_EMPTY_ELEMENTDATA w_EMPTY_LIST w_EMPTY_LIST_elements w_EMPTY k_w_EMPTY_ELEMENTDATA k_w_DEFAULTCAPACITY_EMPTY_ELEMENTDATA k_w_EMPTY_LIST_elements)  (h0 : Heap) (n0 : Nat) (O0 : Old Z n0 h0) :
    MetFree l (⟨"java/lang/Math", "min", "(II)I"⟩ : MethodName) (head1 (Jvm.Cond.code (⟨"java/lang/Math", "min", "(II)I"⟩ : MethodName) jdk_29_method_69_code 2 (some .int) :: ws) ({ frames := 0, cells := 0, slots := 0, locals := 0 } : Room)) (fun a U => a = #[(.int (10 : Int32)), (.int (2 : Int32))] ∧ Z.Warmed39 U.vm ∧ U.heap = h0) (fun _ _ _ _ _ => True) (fun _ U o U' => ∃ v L, o = .returned v ∧ Q1_2 Z m_OA w_REJECTED w_EMPTY_ELEMENTDATA w_DEFAULTCAPACITY_EMPTY_ELEMENTDATA w_EMPTY_LIST w_EMPTY_LIST_elements w_EMPTY k_w_EMPTY_ELEMENTDATA k_w_DEFAULTCAPACITY_EMPTY_ELEMENTDATA k_w_EMPTY_LIST_elements  h0 n0 v U'.heap L ∧ FrameEnd U o U' L ({ frames := 0, cells := 0, slots := 0, locals := 0 } : Room).cells ({ frames := 0, cells := 0, slots := 0, locals := 0 } : Room).slots) := by
  refine MetFree.of_bodySF (Jvm.Free.JP.mathPlain rfl (by decide +kernel)) hisR ?_
  intro p e s m args below meth c s₁ Bd hml0 hP hK
  obtain ⟨rfl, hZ, hh⟩ := hP
  have hx := Bd.exec
  have hby := Bd.bytes
  have hml : c.maxLocals = 2 := hml0
  have hown : s.vm.findClass "java/lang/Math" = some m.cls := findClass_of_methodNamed Bd.named
  have hnm := (name_of_methodNamed Bd.named Bd.method).1
  have X0 : Stand p l e ({ frames := 0, cells := 0, slots := 0, locals := 0 } : Room) s m #[(.int (10 : Int32)), (.int (2 : Int32))] below meth c s₁ [] 0 0 := Stand.of_body Bd
  have e0 : s₁.heap = h0 := by rw [← hh, Bd.state]; rfl
  have N0 := Fr.nil n0
  show OGot p.tables e below (s₁.setTop (entryFrame m #[(.int (10 : Int32)), (.int (2 : Int32))] 2)) _
  refine OGot.go (fun t k => castTop (ef1_2 m ) k) ?_
  show OGot p.tables e below (s₁.setTop (mkF m 0 #[.val (.int (10 : Int32)), .val (.int (2 : Int32))] [])) _
  refine OGot.go (fun t k => XS.iloadN X0.here hx rfl (hb hby d1_0) rfl k) ?_
  show OGot p.tables e below (s₁.setTop (mkF m 1 #[.val (.int (10 : Int32)), .val (.int (2 : Int32))] [(.int (10 : Int32))])) _
  refine OGot.go (fun t k => XS.iloadN X0.here hx rfl (hb hby d1_1) rfl k) ?_
  show OGot p.tables e below (s₁.setTop (mkF m 2 #[.val (.int (10 : Int32)), .val (.int (2 : Int32))] [(.int (2 : Int32)), (.int (10 : Int32))])) _
  refine OGot.go (fun t k => XS.icmpYes X0.here hx rfl (pc0 := 2) (pc' := 9) rfl (hb hby d1_2) rfl (by decide) (by decide) (by decide) k) ?_
  show OGot p.tables e below (s₁.setTop (mkF m 9 #[.val (.int (10 : Int32)), .val (.int (2 : Int32))] [])) _
  refine OGot.go (fun t k => XS.iloadN X0.here hx rfl (hb hby d1_9) rfl k) ?_
  show OGot p.tables e below (s₁.setTop (mkF m 10 #[.val (.int (10 : Int32)), .val (.int (2 : Int32))] [(.int (2 : Int32))])) _
  obtain ⟨fs, hr, hrun, hended, hW, hsame⟩ := X0.leave (v := some (.int (2 : Int32))) (fun h => by rw [Bd.returns] at h; cases h)
  refine ⟨_, _, retI X0 hx Bd.returns (hb hby d1_10) hr, hrun, hended, _, _, rfl, ?_, ⟨_, rfl⟩, hW, hsame.mono (by decide) (by decide)⟩
  exact (⟨rfl, N0, e0⟩ : Q1_2 Z m_OA w_REJECTED w_EMPTY_ELEMENTDATA w_DEFAULTCAPACITY_EMPTY_ELEMENTDATA w_EMPTY_LIST w_EMPTY_LIST_elements w_EMPTY k_w_EMPTY_ELEMENTDATA k_w_DEFAULTCAPACITY_EMPTY_ELEMENTDATA k_w_EMPTY_LIST_elements  h0 n0 _ s₁.heap _)
def Q23_1 (Z : State) (m_OA : Addr) (w_REJECTED : Addr) (w_EMPTY_ELEMENTDATA : Addr) (w_DEFAULTCAPACITY_EMPTY_ELEMENTDATA : Addr) (w_EMPTY_LIST : Addr) (w_EMPTY_LIST_elements : Addr) (w_EMPTY : Addr) (k_w_EMPTY_ELEMENTDATA : ClassId) (k_w_DEFAULTCAPACITY_EMPTY_ELEMENTDATA : ClassId) (k_w_EMPTY_LIST_elements : ClassId) (a1 : Addr) (k5 : ClassId) (a6 : Addr) (a7 : Addr) (h0 : Heap) (n0 : Nat) (v : Option Value) (h : Heap) (L : List Loc) : Prop := Fr n0 L ∧ ∃ b4 : Addr, ∃ k4 : ClassId, v = some (.ref b4) ∧ h0.size ≤ b4 ∧ OKeep h0 h [] ∧ Exa Z h b4 "[Ljava/lang/Object;" ∧ Arv Z h b4 k4 (.object "java/lang/Object") (2 : Int32) [(.ref a6), (.ref a7)] .null ∧ Ovr Z k4 "java/lang/Object"
theorem ef23_1 (m : MethodId) (x0 : Addr) (x2 : Addr) : entryFrame m #[(.ref x0), (.int (2 : Int32)), (.ref x2)] 4 = mkF m 0 #[.val (.ref x0), .val (.int (2 : Int32)), .val (.ref x2), .unset] [] := by first | (simp [entryFrame, mkF, argsToLocals, Value.category]; done) | rfl
set_option maxRecDepth 65536 in
set_option maxHeartbeats 40000000 in
theorem rm23_1 (l : Launch) (Z : State) (a0 : Array Value) (hw : ∀ d ∈ tables_1, d.before a0 Z = true) (ws : List Jvm.Cond) {m_OA : Addr} {w_REJECTED : Addr} {w_EMPTY_ELEMENTDATA : Addr} {w_DEFAULTCAPACITY_EMPTY_ELEMENTDATA : Addr} {w_EMPTY_LIST : Addr} {w_EMPTY_LIST_elements : Addr} {w_EMPTY : Addr} {k_w_EMPTY_ELEMENTDATA : ClassId} {k_w_DEFAULTCAPACITY_EMPTY_ELEMENTDATA : ClassId} {k_w_EMPTY_LIST_elements : ClassId} (G : Glob Z m_OA w_REJECTED w_EMPTY_ELEMENTDATA w_DEFAULTCAPACITY_EMPTY_ELEMENTDATA w_EMPTY_LIST w_EMPTY_LIST_elements w_EMPTY k_w_EMPTY_ELEMENTDATA k_w_DEFAULTCAPACITY_EMPTY_ELEMENTDATA k_w_EMPTY_LIST_elements) (a1 : Addr) (k5 : ClassId) (a6 : Addr) (a7 : Addr) (h0 : Heap) (n0 : Nat) (O0 : Old Z n0 h0) (V_a1 : Arv Z h0 a1 k5 (.object "java/lang/Object") (10 : Int32) [(.ref a6), (.ref a7), .null, .null, .null, .null, .null, .null, .null, .null] .null) (O_k5 : Ovr Z k5 "java/lang/Object") (E_a7 : Exa Z h0 a7 "com/example/curtail/curtail/Placement$Cell") (E_a6 : Exa Z h0 a6 "com/example/curtail/curtail/Placement$Cell") :
    MetFree l (⟨"java/util/Arrays", "copyOf", "([Ljava/lang/Object;ILjava/lang/Class;)[Ljava/lang/Object;"⟩ : MethodName) (head1 (Jvm.Cond.code (⟨"java/util/Arrays", "copyOf", "([Ljava/lang/Object;ILjava/lang/Class;)[Ljava/lang/Object;"⟩ : MethodName) jdk_65_method_120_code 4 (some (.array (.object "java/lang/Object"))) :: ws) ({ frames := 1, cells := 1, slots := 2, locals := 18 } : Room)) (fun a U => a = #[(.ref a1), (.int (2 : Int32)), (.ref m_OA)] ∧ Z.Warmed39 U.vm ∧ U.heap = h0) (fun _ _ _ _ _ => True) (fun _ U o U' => ∃ v L, o = .returned v ∧ Q23_1 Z m_OA w_REJECTED w_EMPTY_ELEMENTDATA w_DEFAULTCAPACITY_EMPTY_ELEMENTDATA w_EMPTY_LIST w_EMPTY_LIST_elements w_EMPTY k_w_EMPTY_ELEMENTDATA k_w_DEFAULTCAPACITY_EMPTY_ELEMENTDATA k_w_EMPTY_LIST_elements a1 k5 a6 a7 h0 n0 v U'.heap L ∧ FrameEnd U o U' L ({ frames := 1, cells := 1, slots := 2, locals := 18 } : Room).cells ({ frames := 1, cells := 1, slots := 2, locals := 18 } : Room).slots) := by
  refine MetFree.of_bodySF (plainFor_of_name pn_java_util_Arrays) hisR ?_
  intro p e s m args below meth c s₁ Bd hml0 hP hK
  obtain ⟨rfl, hZ, hh⟩ := hP
  have hx := Bd.exec
  have hby := Bd.bytes
  have hml : c.maxLocals = 4 := hml0
  have hown : s.vm.findClass "java/util/Arrays" = some m.cls := findClass_of_methodNamed Bd.named
  have hnm := (name_of_methodNamed Bd.named Bd.method).1
  have X0 : Stand p l e ({ frames := 1, cells := 1, slots := 2, locals := 18 } : Room) s m #[(.ref a1), (.int (2 : Int32)), (.ref m_OA)] below meth c s₁ [] 0 0 := Stand.of_body Bd
  have e0 : s₁.heap = h0 := by rw [← hh, Bd.state]; rfl
  have N0 := Fr.nil n0
  show OGot p.tables e below (s₁.setTop (entryFrame m #[(.ref a1), (.int (2 : Int32)), (.ref m_OA)] 4)) _
  refine OGot.go (fun t k => castTop (ef23_1 m a1 m_OA) k) ?_
  show OGot p.tables e below (s₁.setTop (mkF m 0 #[.val (.ref a1), .val (.int (2 : Int32)), .val (.ref m_OA), .unset] [])) _
  refine OGot.go (fun t k => XS.aloadN X0.here hx rfl (hb hby d23_0) rfl rfl k) ?_
  show OGot p.tables e below (s₁.setTop (mkF m 1 #[.val (.ref a1), .val (.int (2 : Int32)), .val (.ref m_OA), .unset] [(.ref m_OA)])) _
  obtain ⟨T3, X3, e3, st3⟩ := oldcM X0 hx hZ hown (ow hw 162 rfl) e0 G.1 (g := (mkF m 1 #[.val (.ref a1), .val (.int (2 : Int32)), .val (.ref m_OA), .unset] [(.ref m_OA)])) rfl (hb hby d23_1)
  refine OGot.go st3 ?_
  show OGot p.tables e below (T3.setTop (mkF m 3 #[.val (.ref a1), .val (.int (2 : Int32)), .val (.ref m_OA), .unset] [(.ref m_OA), (.ref m_OA)])) _
  refine OGot.go (fun t k => Jvm.RoadKit.acmp (g := (mkF m 3 #[.val (.ref a1), .val (.int (2 : Int32)), .val (.ref m_OA), .unset] [(.ref m_OA), (.ref m_OA)])) X3 hx rfl rfl rfl (pc0 := 3) (pc' := 6) (same := true) rfl (hb hby d23_3) rfl (decide_eq_true rfl) (by decide) (by decide) k) ?_
  show OGot p.tables e below (T3.setTop (mkF m 6 #[.val (.ref a1), .val (.int (2 : Int32)), .val (.ref m_OA), .unset] [])) _
  refine OGot.go (fun t k => XS.iloadN X3.here hx rfl (hb hby d23_6) rfl k) ?_
  show OGot p.tables e below (T3.setTop (mkF m 7 #[.val (.ref a1), .val (.int (2 : Int32)), .val (.ref m_OA), .unset] [(.int (2 : Int32))])) _
  obtain ⟨T4, h4, k4, X4, e4, E4, A4, Ea4, V4, st4⟩ := newRE X3 hx hZ hown (ow hw 163 rfl) (ow hw 139 rfl) e3 (g := (mkF m 7 #[.val (.ref a1), .val (.int (2 : Int32)), .val (.ref m_OA), .unset] [(.int (2 : Int32))])) rfl (hb hby d23_7) rfl (by decide) (cap := 2) (by decide) (by decide) (by decide) (by decide) (ad := "[Ljava/lang/Object;") (by decide)
  obtain ⟨b4, g4⟩ : ∃ z, z = h0.size := ⟨_, rfl⟩
  rw [← g4] at A4 Ea4 st4
  refine OGot.go st4 ?_
  have g_b4 : n0 ≤ b4 := Nat.le_trans (osz O0) (Nat.le_of_eq g4.symm)
  have sy_b4 : h0.size ≤ b4 := Nat.le_of_eq g4.symm
  have sz_b4 : h0.size ≤ b4 := Nat.le_trans (OKeep.refl h0 []).1 sy_b4
  have K4 := (OKeep.refl h0 []).ext E4
  have O4 := O0.ext E4
  have Va4 : Arv Z h4 b4 k4 (.object "java/lang/Object") (2 : Int32) [.null, .null] .null := (Arv.new A4 (by decide)).pad (pad_rep [] .null 2)
  show OGot p.tables e below (T4.setTop (mkF m 10 #[.val (.ref a1), .val (.int (2 : Int32)), .val (.ref m_OA), .unset] [(.ref b4)])) _
  refine OGot.go (fun t k => XS.goto X4.here hx rfl (pc0 := 10) (pc' := 24) rfl (hb hby d23_10) (by decide) (by decide) k) ?_
  show OGot p.tables e below (T4.setTop (mkF m 24 #[.val (.ref a1), .val (.int (2 : Int32)), .val (.ref m_OA), .unset] [(.ref b4)])) _
  refine OGot.go (fun t k => XS.astoreN X4.here hx rfl (hb hby d23_24) rfl rfl (l' := #[.val (.ref a1), .val (.int (2 : Int32)), .val (.ref m_OA), .val (.ref b4)]) rfl k) ?_
  show OGot p.tables e below (T4.setTop (mkF m 25 #[.val (.ref a1), .val (.int (2 : Int32)), .val (.ref m_OA), .val (.ref b4)] [])) _
  refine OGot.go (fun t k => XS.aloadN X4.here hx rfl (hb hby d23_25) rfl rfl k) ?_
  show OGot p.tables e below (T4.setTop (mkF m 26 #[.val (.ref a1), .val (.int (2 : Int32)), .val (.ref m_OA), .val (.ref b4)] [(.ref a1)])) _
  refine OGot.go (fun t k => XS.iconst X4.here hx rfl (hb hby d23_26) k) ?_
  show OGot p.tables e below (T4.setTop (mkF m 27 #[.val (.ref a1), .val (.int (2 : Int32)), .val (.ref m_OA), .val (.ref b4)] [(.int (0 : Int32)), (.ref a1)])) _
  refine OGot.go (fun t k => XS.aloadN X4.here hx rfl (hb hby d23_27) rfl rfl k) ?_
  show OGot p.tables e below (T4.setTop (mkF m 28 #[.val (.ref a1), .val (.int (2 : Int32)), .val (.ref m_OA), .val (.ref b4)] [(.ref b4), (.int (0 : Int32)), (.ref a1)])) _
  refine OGot.go (fun t k => XS.iconst X4.here hx rfl (hb hby d23_28) k) ?_
  show OGot p.tables e below (T4.setTop (mkF m 29 #[.val (.ref a1), .val (.int (2 : Int32)), .val (.ref m_OA), .val (.ref b4)] [(.int (0 : Int32)), (.ref b4), (.int (0 : Int32)), (.ref a1)])) _
  refine OGot.go (fun t k => XS.aloadN X4.here hx rfl (hb hby d23_29) rfl rfl k) ?_
  show OGot p.tables e below (T4.setTop (mkF m 30 #[.val (.ref a1), .val (.int (2 : Int32)), .val (.ref m_OA), .val (.ref b4)] [(.ref a1), (.int (0 : Int32)), (.ref b4), (.int (0 : Int32)), (.ref a1)])) _
  have F8 : Arv Z h4 a1 k5 (.object "java/lang/Object") (10 : Int32) [(.ref a6), (.ref a7), .null, .null, .null, .null, .null, .null, .null, .null] .null := (V_a1.ext E4)
  obtain ⟨cl9, Ar9, -, Sz9, Ng9, -, -⟩ := id (F8)
  refine OGot.go (fun t k => X4.arraylength hx (by rw [e4]; exact Ar9.1) (State.isArrayOf_alike hZ.alike Ar9.2.1) (g := (mkF m 30 #[.val (.ref a1), .val (.int (2 : Int32)), .val (.ref m_OA), .val (.ref b4)] [(.ref a1), (.int (0 : Int32)), (.ref b4), (.int (0 : Int32)), (.ref a1)])) rfl rfl (hb hby d23_30) _ k) ?_
  rw [len_of Sz9 Ng9]
  show OGot p.tables e below (T4.setTop (mkF m 31 #[.val (.ref a1), .val (.int (2 : Int32)), .val (.ref m_OA), .val (.ref b4)] [(.int (10 : Int32)), (.int (0 : Int32)), (.ref b4), (.int (0 : Int32)), (.ref a1)])) _
  refine OGot.go (fun t k => XS.iloadN X4.here hx rfl (hb hby d23_31) rfl k) ?_
  show OGot p.tables e below (T4.setTop (mkF m 32 #[.val (.ref a1), .val (.int (2 : Int32)), .val (.ref m_OA), .val (.ref b4)] [(.int (2 : Int32)), (.int (10 : Int32)), (.int (0 : Int32)), (.ref b4), (.int (0 : Int32)), (.ref a1)])) _
  obtain ⟨_, _, ⟨T10, L10, k10, n10⟩, -, X10, ⟨Lc10, hQ10, l10, y10, z10⟩, st10⟩ := Jvm.LawKit.callS X4 hx (y := (⟨"java/lang/Math", "min", "(II)I"⟩ : MethodName)) hown (mvT hZ (ow hw 164 rfl)) (mvT hZ (ow hw 2 rfl)) (mvT hZ (ow hw 3 rfl)) (mvT hZ (ow hw 4 rfl)) (by decide) (backOf (W := 4) (rm1_2 l Z a0 hw [] G  h4 n0 O4 ) hZ (ow hw 4 rfl) (ow hw 3 rfl) (by decide) (by decide)) (g := (mkF m 32 #[.val (.ref a1), .val (.int (2 : Int32)), .val (.ref m_OA), .val (.ref b4)] [(.int (2 : Int32)), (.int (10 : Int32)), (.int (0 : Int32)), (.ref b4), (.int (0 : Int32)), (.ref a1)])) rfl (by rw [hml]; rfl) (argsL := [(.int (10 : Int32)), (.int (2 : Int32))]) (rest := [(.int (0 : Int32)), (.ref b4), (.int (0 : Int32)), (.ref a1)]) (lenOf pd_0 rfl) rfl (by show 2 * 0 + _ ≤ _; exact Nat.le_of_eq rfl) (hb hby d23_32) (fun _ _ => ⟨rfl, e4, (by decide : 1 + 0 ≤ _), (by decide : 2 + 0 ≤ _)⟩)
  dsimp only [Pt.U, Pt.locs, Pt.cells, Pt.slots] at X10 l10 y10 z10 st10 hQ10
  subst l10 y10 z10
  obtain ⟨rfl, N10q, e10⟩ := hQ10
  have N10 := Fr.app N0 N10q
  refine OGot.go st10 ?_
  show OGot p.tables e below (T10.setTop (mkF m 35 #[.val (.ref a1), .val (.int (2 : Int32)), .val (.ref m_OA), .val (.ref b4)] [(.int (2 : Int32)), (.int (0 : Int32)), (.ref b4), (.int (0 : Int32)), (.ref a1)])) _
  obtain ⟨cb11, Ab11, qb11, -, -, -, -⟩ := id (Va4)
  obtain ⟨T11, h11, L11, X11, e11, N11, Kl11, Vc11, st11⟩ := cpA X10 hx hZ hown (ow hw 165 rfl) (ow hw 168 rfl) (ow hw 166 rfl) (ow hw 167 rfl) e10 F8 Va4 (us := [(.ref a6), (.ref a7)]) (Or.inr ⟨rfl, rfl, ⟨Sto.ofV Ab11 qb11 V4 (Ins.of_exa (E_a6.ext E4) (ow hw 140 rfl)), ⟨Sto.ofV Ab11 qb11 V4 (Ins.of_exa (E_a7.ext E4) (ow hw 140 rfl)), trivial⟩⟩⟩) (sp := (0 : Int32)) (dp := (0 : Int32)) (nn := (2 : Int32)) (by decide) (by decide) (by decide) (by decide) (by decide) rfl (by decide) N10 g_b4 (g := (mkF m 35 #[.val (.ref a1), .val (.int (2 : Int32)), .val (.ref m_OA), .val (.ref b4)] [(.int (2 : Int32)), (.int (0 : Int32)), (.ref b4), (.int (0 : Int32)), (.ref a1)])) rfl (by rw [hml]; rfl) rfl (hb hby d23_35) (by decide) (W := 0) (by show 2 * 0 + _ ≤ _; exact Nat.le_of_eq rfl) (by decide)
  refine OGot.go st11 ?_
  have O11 := O4.keep Kl11 (allS g_b4 all0)
  have K11 := OKeep.keepf K4 Kl11 sz_b4
  have Vd11 : Arv Z h11 b4 k4 (.object "java/lang/Object") (2 : Int32) [(.ref a6), (.ref a7)] .null := Vc11
  show OGot p.tables e below (T11.setTop (mkF m 38 #[.val (.ref a1), .val (.int (2 : Int32)), .val (.ref m_OA), .val (.ref b4)] [])) _
  refine OGot.go (fun t k => XS.aloadN X11.here hx rfl (hb hby d23_38) rfl rfl k) ?_
  show OGot p.tables e below (T11.setTop (mkF m 39 #[.val (.ref a1), .val (.int (2 : Int32)), .val (.ref m_OA), .val (.ref b4)] [(.ref b4)])) _
  obtain ⟨fs, hr, hrun, hended, hW, hsame⟩ := X11.leave (v := some (.ref b4)) (fun h => by rw [Bd.returns] at h; cases h)
  refine ⟨_, _, oretA X11 hx Bd.returns rfl rfl (hb hby d23_39) hr, hrun, hended, _, _, rfl, ?_, ⟨_, rfl⟩, hW, hsame.mono (by decide) (by decide)⟩
  show Q23_1 Z m_OA w_REJECTED w_EMPTY_ELEMENTDATA w_DEFAULTCAPACITY_EMPTY_ELEMENTDATA w_EMPTY_LIST w_EMPTY_LIST_elements w_EMPTY k_w_EMPTY_ELEMENTDATA k_w_DEFAULTCAPACITY_EMPTY_ELEMENTDATA k_w_EMPTY_LIST_elements a1 k5 a6 a7 h0 n0 _ T11.heap _
  rw [e11]
  exact ⟨N11, b4, k4, rfl, sz_b4, K11, (Ea4.keep Kl11), Vd11, V4⟩
def Q22_1 (Z : State) (m_OA : Addr) (w_REJECTED : Addr) (w_EMPTY_ELEMENTDATA : Addr) (w_DEFAULTCAPACITY_EMPTY_ELEMENTDATA : Addr) (w_EMPTY_LIST : Addr) (w_EMPTY_LIST_elements : Addr) (w_EMPTY : Addr) (k_w_EMPTY_ELEMENTDATA : ClassId) (k_w_DEFAULTCAPACITY_EMPTY_ELEMENTDATA : ClassId) (k_w_EMPTY_LIST_elements : ClassId) (a1 : Addr) (k3 : ClassId) (a4 : Addr) (a5 : Addr) (h0 : Heap) (n0 : Nat) (v : Option Value) (h : Heap) (L : List Loc) : Prop := Fr n0 L ∧ ∃ b4_6 : Addr, ∃ k4_6 : ClassId, v = some (.ref b4_6) ∧ h0.size ≤ b4_6 ∧ OKeep h0 h [] ∧ Exa Z h b4_6 "[Ljava/lang/Object;" ∧ Arv Z h b4_6 k4_6 (.object "java/lang/Object") (2 : Int32) [(.ref a4), (.ref a5)] .null ∧ Ovr Z k4_6 "java/lang/Object"
theorem ef22_1 (m : MethodId) (x0 : Addr) : entryFrame m #[(.ref x0), (.int (2 : Int32))] 2 = mkF m 0 #[.val (.ref x0), .val (.int (2 : Int32))] [] := by first | (simp [entryFrame, mkF, argsToLocals, Value.category]; done) | rfl
set_option maxRecDepth 65536 in
set_option maxHeartbeats 40000000 in
theorem rm22_1 (l : Launch) (Z : State) (a0 : Array Value) (hw : ∀ d ∈ tables_1, d.before a0 Z = true) (ws : List Jvm.Cond) {m_OA : Addr} {w_REJECTED : Addr} {w_EMPTY_ELEMENTDATA : Addr} {w_DEFAULTCAPACITY_EMPTY_ELEMENTDATA : Addr} {w_EMPTY_LIST : Addr} {w_EMPTY_LIST_elements : Addr} {w_EMPTY : Addr} {k_w_EMPTY_ELEMENTDATA : ClassId} {k_w_DEFAULTCAPACITY_EMPTY_ELEMENTDATA : ClassId} {k_w_EMPTY_LIST_elements : ClassId} (G : Glob Z m_OA w_REJECTED w_EMPTY_ELEMENTDATA w_DEFAULTCAPACITY_EMPTY_ELEMENTDATA w_EMPTY_LIST w_EMPTY_LIST_elements w_EMPTY k_w_EMPTY_ELEMENTDATA k_w_DEFAULTCAPACITY_EMPTY_ELEMENTDATA k_w_EMPTY_LIST_elements) (a1 : Addr) (k3 : ClassId) (a4 : Addr) (a5 : Addr) (h0 : Heap) (n0 : Nat) (O0 : Old Z n0 h0) (E_a1 : Exa Z h0 a1 "[Ljava/lang/Object;") (V_a1 : Arv Z h0 a1 k3 (.object "java/lang/Object") (10 : Int32) [(.ref a4), (.ref a5), .null, .null, .null, .null, .null, .null, .null, .null] .null) (O_k3 : Ovr Z k3 "java/lang/Object") (E_a5 : Exa Z h0 a5 "com/example/curtail/curtail/Placement$Cell") (E_a4 : Exa Z h0 a4 "com/example/curtail/curtail/Placement$Cell") :
    MetFree l (⟨"java/util/Arrays", "copyOf", "([Ljava/lang/Object;I)[Ljava/lang/Object;"⟩ : MethodName) (head1 (Jvm.Cond.code (⟨"java/util/Arrays", "copyOf", "([Ljava/lang/Object;I)[Ljava/lang/Object;"⟩ : MethodName) jdk_65_method_119_code 2 (some (.array (.object "java/lang/Object"))) :: ws) ({ frames := 2, cells := 1, slots := 2, locals := 33 } : Room)) (fun a U => a = #[(.ref a1), (.int (2 : Int32))] ∧ Z.Warmed39 U.vm ∧ U.heap = h0) (fun _ _ _ _ _ => True) (fun _ U o U' => ∃ v L, o = .returned v ∧ Q22_1 Z m_OA w_REJECTED w_EMPTY_ELEMENTDATA w_DEFAULTCAPACITY_EMPTY_ELEMENTDATA w_EMPTY_LIST w_EMPTY_LIST_elements w_EMPTY k_w_EMPTY_ELEMENTDATA k_w_DEFAULTCAPACITY_EMPTY_ELEMENTDATA k_w_EMPTY_LIST_elements a1 k3 a4 a5 h0 n0 v U'.heap L ∧ FrameEnd U o U' L ({ frames := 2, cells := 1, slots := 2, locals := 33 } : Room).cells ({ frames := 2, cells := 1, slots := 2, locals := 33 } : Room).slots) := by
  refine MetFree.of_bodySF (plainFor_of_name pn_java_util_Arrays) hisR ?_
  intro p e s m args below meth c s₁ Bd hml0 hP hK
  obtain ⟨rfl, hZ, hh⟩ := hP
  have hx := Bd.exec
  have hby := Bd.bytes
  have hml : c.maxLocals = 2 := hml0
  have hown : s.vm.findClass "java/util/Arrays" = some m.cls := findClass_of_methodNamed Bd.named
  have hnm := (name_of_methodNamed Bd.named Bd.method).1
  have X0 : Stand p l e ({ frames := 2, cells := 1, slots := 2, locals := 33 } : Room) s m #[(.ref a1), (.int (2 : Int32))] below meth c s₁ [] 0 0 := Stand.of_body Bd
  have e0 : s₁.heap = h0 := by rw [← hh, Bd.state]; rfl
  have N0 := Fr.nil n0
  show OGot p.tables e below (s₁.setTop (entryFrame m #[(.ref a1), (.int (2 : Int32))] 2)) _
  refine OGot.go (fun t k => castTop (ef22_1 m a1) k) ?_
  show OGot p.tables e below (s₁.setTop (mkF m 0 #[.val (.ref a1), .val (.int (2 : Int32))] [])) _
  refine OGot.go (fun t k => XS.aloadN X0.here hx rfl (hb hby d22_0) rfl rfl k) ?_
  show OGot p.tables e below (s₁.setTop (mkF m 1 #[.val (.ref a1), .val (.int (2 : Int32))] [(.ref a1)])) _
  refine OGot.go (fun t k => XS.iloadN X0.here hx rfl (hb hby d22_1) rfl k) ?_
  show OGot p.tables e below (s₁.setTop (mkF m 2 #[.val (.ref a1), .val (.int (2 : Int32))] [(.int (2 : Int32)), (.ref a1)])) _
  refine OGot.go (fun t k => XS.aloadN X0.here hx rfl (hb hby d22_2) rfl rfl k) ?_
  show OGot p.tables e below (s₁.setTop (mkF m 3 #[.val (.ref a1), .val (.int (2 : Int32))] [(.ref a1), (.int (2 : Int32)), (.ref a1)])) _
  obtain ⟨T2, X2, e2, st2⟩ := ogcls X0 hx hZ hown (ow hw 153 rfl) (ow hw 154 rfl) (ow hw 58 rfl) (ow hw 156 rfl) (ow hw 155 rfl) (ow hw 157 rfl) e0 E_a1 G.1 (g := (mkF m 3 #[.val (.ref a1), .val (.int (2 : Int32))] [(.ref a1), (.int (2 : Int32)), (.ref a1)])) rfl (by rw [hml]; rfl) rfl (hb hby d22_3) (by decide) (W := 2) (by show 2 * 0 + _ ≤ _; exact Nat.le_of_eq rfl) (by decide)
  refine OGot.go st2 ?_
  show OGot p.tables e below (T2.setTop (mkF m 6 #[.val (.ref a1), .val (.int (2 : Int32))] [(.ref m_OA), (.int (2 : Int32)), (.ref a1)])) _
  obtain ⟨_, _, ⟨T6, L6, k6, n6⟩, -, X6, ⟨Lc6, hQ6, l6, y6, z6⟩, st6⟩ := Jvm.LawKit.callS X2 hx (y := (⟨"java/util/Arrays", "copyOf", "([Ljava/lang/Object;ILjava/lang/Class;)[Ljava/lang/Object;"⟩ : MethodName)) hown (mvT hZ (ow hw 159 rfl)) (mvT hZ (ow hw 160 rfl)) (mvT hZ (ow hw 151 rfl)) (mvT hZ (ow hw 161 rfl)) (by decide) (backOf (W := 0) (rm23_1 l Z a0 hw [] G a1 k3 a4 a5 h0 n0 O0 V_a1 O_k3 E_a5 E_a4) hZ (ow hw 161 rfl) (ow hw 151 rfl) (by decide) (by decide)) (g := (mkF m 6 #[.val (.ref a1), .val (.int (2 : Int32))] [(.ref m_OA), (.int (2 : Int32)), (.ref a1)])) rfl (by rw [hml]; rfl) (argsL := [(.ref a1), (.int (2 : Int32)), (.ref m_OA)]) (rest := []) (lenOf pd_12 rfl) rfl (by show 2 * 0 + _ ≤ _; exact Nat.le_of_eq rfl) (hb hby d22_6) (fun _ _ => ⟨rfl, e2, (by decide : 0 + 1 ≤ _), (by decide : 0 + 2 ≤ _)⟩)
  dsimp only [Pt.U, Pt.locs, Pt.cells, Pt.slots] at X6 l6 y6 z6 st6 hQ6
  subst l6 y6 z6
  obtain ⟨N6q, b4_6, k4_6, rfl, szb4_6_6, K6, Fo6_0, Fo6_1, Fo6_2⟩ := hQ6
  have g_b4_6 : n0 ≤ b4_6 := Nat.le_trans (osz O0) szb4_6_6
  have sz_b4_6 : h0.size ≤ b4_6 := Nat.le_trans (OKeep.refl h0 []).1 szb4_6_6
  have Kc6 := (OKeep.refl h0 []).trans K6 oin0
  have O6 := OKeep.old O0 K6 oge0
  have N6 := Fr.app N0 N6q
  refine OGot.go st6 ?_
  show OGot p.tables e below (T6.setTop (mkF m 9 #[.val (.ref a1), .val (.int (2 : Int32))] [(.ref b4_6)])) _
  obtain ⟨fs, hr, hrun, hended, hW, hsame⟩ := X6.leave (v := some (.ref b4_6)) (fun h => by rw [Bd.returns] at h; cases h)
  refine ⟨_, _, oretA X6 hx Bd.returns rfl rfl (hb hby d22_9) hr, hrun, hended, _, _, rfl, ?_, ⟨_, rfl⟩, hW, hsame.mono (by decide) (by decide)⟩
  show Q22_1 Z m_OA w_REJECTED w_EMPTY_ELEMENTDATA w_DEFAULTCAPACITY_EMPTY_ELEMENTDATA w_EMPTY_LIST w_EMPTY_LIST_elements w_EMPTY k_w_EMPTY_ELEMENTDATA k_w_DEFAULTCAPACITY_EMPTY_ELEMENTDATA k_w_EMPTY_LIST_elements a1 k3 a4 a5 h0 n0 _ T6.heap _
  exact ⟨N6, b4_6, k4_6, rfl, sz_b4_6, Kc6, Fo6_0, Fo6_1, Fo6_2⟩
def Q21_1 (Z : State) (m_OA : Addr) (w_REJECTED : Addr) (w_EMPTY_ELEMENTDATA : Addr) (w_DEFAULTCAPACITY_EMPTY_ELEMENTDATA : Addr) (w_EMPTY_LIST : Addr) (w_EMPTY_LIST_elements : Addr) (w_EMPTY : Addr) (k_w_EMPTY_ELEMENTDATA : ClassId) (k_w_DEFAULTCAPACITY_EMPTY_ELEMENTDATA : ClassId) (k_w_EMPTY_LIST_elements : ClassId) (a1 : Addr) (a2 : Addr) (k5 : ClassId) (a6 : Addr) (a7 : Addr) (h0 : Heap) (n0 : Nat) (v : Option Value) (h : Heap) (L : List Loc) : Prop := Fr n0 L ∧ ∃ b4_6_8 : Addr, ∃ k4_6_8 : ClassId, v = some (.ref b4_6_8) ∧ h0.size ≤ b4_6_8 ∧ OKeep h0 h [] ∧ Exa Z h b4_6_8 "[Ljava/lang/Object;" ∧ Arv Z h b4_6_8 k4_6_8 (.object "java/lang/Object") (2 : Int32) [(.ref a6), (.ref a7)] .null ∧ Ovr Z k4_6_8 "java/lang/Object"
theorem ef21_1 (m : MethodId) (x0 : Addr) : entryFrame m #[(.ref x0)] 1 = mkF m 0 #[.val (.ref x0)] [] := by first | (simp [entryFrame, mkF, argsToLocals, Value.category]; done) | rfl
set_option maxRecDepth 65536 in
set_option maxHeartbeats 40000000 in
theorem rm21_1 (l : Launch) (Z : State) (a0 : Array Value) (hw : ∀ d ∈ tables_1, d.before a0 Z = true) (ws : List Jvm.Cond) {m_OA : Addr} {w_REJECTED : Addr} {w_EMPTY_ELEMENTDATA : Addr} {w_DEFAULTCAPACITY_EMPTY_ELEMENTDATA : Addr} {w_EMPTY_LIST : Addr} {w_EMPTY_LIST_elements : Addr} {w_EMPTY : Addr} {k_w_EMPTY_ELEMENTDATA : ClassId} {k_w_DEFAULTCAPACITY_EMPTY_ELEMENTDATA : ClassId} {k_w_EMPTY_LIST_elements : ClassId} (G : Glob Z m_OA w_REJECTED w_EMPTY_ELEMENTDATA w_DEFAULTCAPACITY_EMPTY_ELEMENTDATA w_EMPTY_LIST w_EMPTY_LIST_elements w_EMPTY k_w_EMPTY_ELEMENTDATA k_w_DEFAULTCAPACITY_EMPTY_ELEMENTDATA k_w_EMPTY_LIST_elements) (a1 : Addr) (a2 : Addr) (k5 : ClassId) (a6 : Addr) (a7 : Addr) (h0 : Heap) (n0 : Nat) (O0 : Old Z n0 h0) (F_elementData_a1 : Fld Z h0 a1 "java/util/ArrayList" "elementData" "[Ljava/lang/Object;" (.ref a2)) (F_size_a1 : Fld Z h0 a1 "java/util/ArrayList" "size" "I" (.int (2 : Int32))) (E_a2 : Exa Z h0 a2 "[Ljava/lang/Object;") (V_a2 : Arv Z h0 a2 k5 (.object "java/lang/Object") (10 : Int32) [(.ref a6), (.ref a7), .null, .null, .null, .null, .null, .null, .null, .null] .null) (O_k5 : Ovr Z k5 "java/lang/Object") (E_a7 : Exa Z h0 a7 "com/example/curtail/curtail/Placement$Cell") (E_a6 : Exa Z h0 a6 "com/example/curtail/curtail/Placement$Cell") :
    MetFree l (⟨"java/util/ArrayList", "toArray", "()[Ljava/lang/Object;"⟩ : MethodName) (head1 (Jvm.Cond.code (⟨"java/util/ArrayList", "toArray", "()[Ljava/lang/Object;"⟩ : MethodName) jdk_38_method_16_code 1 (some (.array (.object "java/lang/Object"))) :: ws) ({ frames := 3, cells := 1, slots := 2, locals := 46 } : Room)) (fun a U => a = #[(.ref a1)] ∧ Z.Warmed39 U.vm ∧ U.heap = h0) (fun _ _ _ _ _ => True) (fun _ U o U' => ∃ v L, o = .returned v ∧ Q21_1 Z m_OA w_REJECTED w_EMPTY_ELEMENTDATA w_DEFAULTCAPACITY_EMPTY_ELEMENTDATA w_EMPTY_LIST w_EMPTY_LIST_elements w_EMPTY k_w_EMPTY_ELEMENTDATA k_w_DEFAULTCAPACITY_EMPTY_ELEMENTDATA k_w_EMPTY_LIST_elements a1 a2 k5 a6 a7 h0 n0 v U'.heap L ∧ FrameEnd U o U' L ({ frames := 3, cells := 1, slots := 2, locals := 46 } : Room).cells ({ frames := 3, cells := 1, slots := 2, locals := 46 } : Room).slots) := by
  refine MetFree.of_bodySF (plainFor_of_name pn_java_util_ArrayList) hisR ?_
  intro p e s m args below meth c s₁ Bd hml0 hP hK
  obtain ⟨rfl, hZ, hh⟩ := hP
  have hx := Bd.exec
  have hby := Bd.bytes
  have hml : c.maxLocals = 1 := hml0
  have hown : s.vm.findClass "java/util/ArrayList" = some m.cls := findClass_of_methodNamed Bd.named
  have hnm := (name_of_methodNamed Bd.named Bd.method).1
  have X0 : Stand p l e ({ frames := 3, cells := 1, slots := 2, locals := 46 } : Room) s m #[(.ref a1)] below meth c s₁ [] 0 0 := Stand.of_body Bd
  have e0 : s₁.heap = h0 := by rw [← hh, Bd.state]; rfl
  have N0 := Fr.nil n0
  show OGot p.tables e below (s₁.setTop (entryFrame m #[(.ref a1)] 1)) _
  refine OGot.go (fun t k => castTop (ef21_1 m a1) k) ?_
  show OGot p.tables e below (s₁.setTop (mkF m 0 #[.val (.ref a1)] [])) _
  refine OGot.go (fun t k => XS.aloadN X0.here hx rfl (hb hby d21_0) rfl rfl k) ?_
  show OGot p.tables e below (s₁.setTop (mkF m 1 #[.val (.ref a1)] [(.ref a1)])) _
  obtain ⟨T3, X3, e3, st3⟩ := getF X0 hx hZ hown (host := "") (Or.inl (ow hw 32 rfl)) Via.refl e0 F_elementData_a1 (g := (mkF m 1 #[.val (.ref a1)] [(.ref a1)])) rfl rfl (hb hby d21_1)
  refine OGot.go st3 ?_
  show OGot p.tables e below (T3.setTop (mkF m 4 #[.val (.ref a1)] [(.ref a2)])) _
  refine OGot.go (fun t k => XS.aloadN X3.here hx rfl (hb hby d21_4) rfl rfl k) ?_
  show OGot p.tables e below (T3.setTop (mkF m 5 #[.val (.ref a1)] [(.ref a1), (.ref a2)])) _
  obtain ⟨T4, X4, e4, st4⟩ := getF X3 hx hZ hown (host := "") (Or.inl (ow hw 69 rfl)) Via.refl e3 F_size_a1 (g := (mkF m 5 #[.val (.ref a1)] [(.ref a1), (.ref a2)])) rfl rfl (hb hby d21_5)
  refine OGot.go st4 ?_
  show OGot p.tables e below (T4.setTop (mkF m 8 #[.val (.ref a1)] [(.int (2 : Int32)), (.ref a2)])) _
  obtain ⟨_, _, ⟨T8, L8, k8, n8⟩, -, X8, ⟨Lc8, hQ8, l8, y8, z8⟩, st8⟩ := Jvm.LawKit.callS X4 hx (y := (⟨"java/util/Arrays", "copyOf", "([Ljava/lang/Object;I)[Ljava/lang/Object;"⟩ : MethodName)) hown (mvT hZ (ow hw 149 rfl)) (mvT hZ (ow hw 150 rfl)) (mvT hZ (ow hw 151 rfl)) (mvT hZ (ow hw 152 rfl)) (by decide) (backOf (W := 0) (rm22_1 l Z a0 hw [] G a2 k5 a6 a7 h0 n0 O0 E_a2 V_a2 O_k5 E_a7 E_a6) hZ (ow hw 152 rfl) (ow hw 151 rfl) (by decide) (by decide)) (g := (mkF m 8 #[.val (.ref a1)] [(.int (2 : Int32)), (.ref a2)])) rfl (by rw [hml]; rfl) (argsL := [(.ref a2), (.int (2 : Int32))]) (rest := []) (lenOf pd_13 rfl) rfl (by show 2 * 0 + _ ≤ _; exact Nat.le_of_eq rfl) (hb hby d21_8) (fun _ _ => ⟨rfl, e4, (by decide : 0 + 1 ≤ _), (by decide : 0 + 2 ≤ _)⟩)
  dsimp only [Pt.U, Pt.locs, Pt.cells, Pt.slots] at X8 l8 y8 z8 st8 hQ8
  subst l8 y8 z8
  obtain ⟨N8q, b4_6_8, k4_6_8, rfl, szb4_6_8_8, K8, Fo8_0, Fo8_1, Fo8_2⟩ := hQ8
  have g_b4_6_8 : n0 ≤ b4_6_8 := Nat.le_trans (osz O0) szb4_6_8_8
  have sz_b4_6_8 : h0.size ≤ b4_6_8 := Nat.le_trans (OKeep.refl h0 []).1 szb4_6_8_8
  have Kc8 := (OKeep.refl h0 []).trans K8 oin0
  have O8 := OKeep.old O0 K8 oge0
  have N8 := Fr.app N0 N8q
  refine OGot.go st8 ?_
  show OGot p.tables e below (T8.setTop (mkF m 11 #[.val (.ref a1)] [(.ref b4_6_8)])) _
  obtain ⟨fs, hr, hrun, hended, hW, hsame⟩ := X8.leave (v := some (.ref b4_6_8)) (fun h => by rw [Bd.returns] at h; cases h)
  refine ⟨_, _, oretA X8 hx Bd.returns rfl rfl (hb hby d21_11) hr, hrun, hended, _, _, rfl, ?_, ⟨_, rfl⟩, hW, hsame.mono (by decide) (by decide)⟩
  show Q21_1 Z m_OA w_REJECTED w_EMPTY_ELEMENTDATA w_DEFAULTCAPACITY_EMPTY_ELEMENTDATA w_EMPTY_LIST w_EMPTY_LIST_elements w_EMPTY k_w_EMPTY_ELEMENTDATA k_w_DEFAULTCAPACITY_EMPTY_ELEMENTDATA k_w_EMPTY_LIST_elements a1 a2 k5 a6 a7 h0 n0 _ T8.heap _
  exact ⟨N8, b4_6_8, k4_6_8, rfl, sz_b4_6_8, Kc8, Fo8_0, Fo8_1, Fo8_2⟩
theorem d24_45 : decode jdk_40_method_47_code 45 = .ok (.new 96, 3) := by decide +kernel
theorem d24_48 : decode jdk_40_method_47_code 48 = .ok (.dup, 1) := by decide +kernel
theorem d24_49 : decode jdk_40_method_47_code 49 = .ok (.aload_n 0, 1) := by decide +kernel
theorem d24_50 : decode jdk_40_method_47_code 50 = .ok (.iconst 0, 1) := by decide +kernel
theorem d24_51 : decode jdk_40_method_47_code 51 = .ok (.aaload, 1) := by decide +kernel
theorem d24_52 : decode jdk_40_method_47_code 52 = .ok (.aload_n 0, 1) := by decide +kernel
theorem d24_53 : decode jdk_40_method_47_code 53 = .ok (.iconst 1, 1) := by decide +kernel
theorem d24_54 : decode jdk_40_method_47_code 54 = .ok (.aaload, 1) := by decide +kernel
theorem d24_55 : decode jdk_40_method_47_code 55 = .ok (.invokespecial 100, 3) := by decide +kernel
theorem d25_0 : decode jdk_44_method_2_code 0 = .ok (.aload_n 0, 1) := by decide +kernel
theorem d25_1 : decode jdk_44_method_2_code 1 = .ok (.invokespecial 1, 3) := by decide +kernel
theorem d25_4 : decode jdk_44_method_2_code 4 = .ok (.aload_n 0, 1) := by decide +kernel
theorem d25_5 : decode jdk_44_method_2_code 5 = .ok (.aload_n 1, 1) := by decide +kernel
theorem d25_6 : decode jdk_44_method_2_code 6 = .ok (.invokestatic 7, 3) := by decide +kernel
theorem d25_9 : decode jdk_44_method_2_code 9 = .ok (.putfield 13, 3) := by decide +kernel
theorem d25_12 : decode jdk_44_method_2_code 12 = .ok (.aload_n 0, 1) := by decide +kernel
theorem d25_13 : decode jdk_44_method_2_code 13 = .ok (.aload_n 2, 1) := by decide +kernel
theorem d25_14 : decode jdk_44_method_2_code 14 = .ok (.invokestatic 7, 3) := by decide +kernel
theorem d25_17 : decode jdk_44_method_2_code 17 = .ok (.putfield 24, 3) := by decide +kernel
theorem d25_20 : decode jdk_44_method_2_code 20 = .ok (.return_, 1) := by decide +kernel
def Q25 (Z : State) (m_OA : Addr) (w_REJECTED : Addr) (w_EMPTY_ELEMENTDATA : Addr) (w_DEFAULTCAPACITY_EMPTY_ELEMENTDATA : Addr) (w_EMPTY_LIST : Addr) (w_EMPTY_LIST_elements : Addr) (w_EMPTY : Addr) (k_w_EMPTY_ELEMENTDATA : ClassId) (k_w_DEFAULTCAPACITY_EMPTY_ELEMENTDATA : ClassId) (k_w_EMPTY_LIST_elements : ClassId) (a1 : Addr) (a2 : Addr) (a3 : Addr) (h0 : Heap) (n0 : Nat) (v : Option Value) (h : Heap) (L : List Loc) : Prop := Fr n0 L ∧ v = none ∧ OKeep h0 h [(a1, Jvm.RoadKit.slotOf Z "java/util/ImmutableCollections$List12" "e0" "Ljava/lang/Object;"), (a1, Jvm.RoadKit.slotOf Z "java/util/ImmutableCollections$List12" "e1" "Ljava/lang/Object;")] ∧ Fld Z h a1 "java/util/ImmutableCollections$List12" "e0" "Ljava/lang/Object;" (.ref a2) ∧ Fld Z h a1 "java/util/ImmutableCollections$List12" "e1" "Ljava/lang/Object;" (.ref a3)
theorem ef25 (m : MethodId) (x0 : Addr) (x1 : Addr) (x2 : Addr) : entryFrame m #[(.ref x0), (.ref x1), (.ref x2)] 3 = mkF m 0 #[.val (.ref x0), .val (.ref x1), .val (.ref x2)] [] := by first | (simp [entryFrame, mkF, argsToLocals, Value.category]; done) | rfl
set_option maxRecDepth 65536 in
set_option maxHeartbeats 40000000 in
theorem rm25 (l : Launch) (Z : State) (a0 : Array Value) (hw : ∀ d ∈ tables_1, d.before a0 Z = true) (ws : List Jvm.Cond) {m_OA : Addr} {w_REJECTED : Addr} {w_EMPTY_ELEMENTDATA : Addr} {w_DEFAULTCAPACITY_EMPTY_ELEMENTDATA : Addr} {w_EMPTY_LIST : Addr} {w_EMPTY_LIST_elements : Addr} {w_EMPTY : Addr} {k_w_EMPTY_ELEMENTDATA : ClassId} {k_w_DEFAULTCAPACITY_EMPTY_ELEMENTDATA : ClassId} {k_w_EMPTY_LIST_elements : ClassId} (G : Glob Z m_OA w_REJECTED w_EMPTY_ELEMENTDATA w_DEFAULTCAPACITY_EMPTY_ELEMENTDATA w_EMPTY_LIST w_EMPTY_LIST_elements w_EMPTY k_w_EMPTY_ELEMENTDATA k_w_DEFAULTCAPACITY_EMPTY_ELEMENTDATA k_w_EMPTY_LIST_elements) (a1 : Addr) (a2 : Addr) (a3 : Addr) (h0 : Heap) (n0 : Nat) (O0 : Old Z n0 h0) (E_a1 : Exa Z h0 a1 "java/util/ImmutableCollections$List12") (F_e0_a1 : Fld Z h0 a1 "java/util/ImmutableCollections$List12" "e0" "Ljava/lang/Object;" .null) (g_a1 : n0 ≤ a1) (F_e1_a1 : Fld Z h0 a1 "java/util/ImmutableCollections$List12" "e1" "Ljava/lang/Object;" .null) :
    MetFree l (⟨"java/util/ImmutableCollections$List12", "<init>", "(Ljava/lang/Object;Ljava/lang/Object;)V"⟩ : MethodName) (head1 (Jvm.Cond.code (⟨"java/util/ImmutableCollections$List12", "<init>", "(Ljava/lang/Object;Ljava/lang/Object;)V"⟩ : MethodName) jdk_44_method_2_code 3 none :: ws) ({ frames := 4, cells := 0, slots := 0, locals := 48 } : Room)) (fun a U => a = #[(.ref a1), (.ref a2), (.ref a3)] ∧ Z.Warmed39 U.vm ∧ U.heap = h0) (fun _ _ _ _ _ => True) (fun _ U o U' => ∃ v L, o = .returned v ∧ Q25 Z m_OA w_REJECTED w_EMPTY_ELEMENTDATA w_DEFAULTCAPACITY_EMPTY_ELEMENTDATA w_EMPTY_LIST w_EMPTY_LIST_elements w_EMPTY k_w_EMPTY_ELEMENTDATA k_w_DEFAULTCAPACITY_EMPTY_ELEMENTDATA k_w_EMPTY_LIST_elements a1 a2 a3 h0 n0 v U'.heap L ∧ FrameEnd U o U' L ({ frames := 4, cells := 0, slots := 0, locals := 48 } : Room).cells ({ frames := 4, cells := 0, slots := 0, locals := 48 } : Room).slots) := by
  refine MetFree.of_bodySF (plainFor_of_name pn_java_util_ImmutableCollections_List12) hisR ?_
  intro p e s m args below meth c s₁ Bd hml0 hP hK
  obtain ⟨rfl, hZ, hh⟩ := hP
  have hx := Bd.exec
  have hby := Bd.bytes
  have hml : c.maxLocals = 3 := hml0
  have hown : s.vm.findClass "java/util/ImmutableCollections$List12" = some m.cls := findClass_of_methodNamed Bd.named
  have hnm := (name_of_methodNamed Bd.named Bd.method).1
  have X0 : Stand p l e ({ frames := 4, cells := 0, slots := 0, locals := 48 } : Room) s m #[(.ref a1), (.ref a2), (.ref a3)] below meth c s₁ [] 0 0 := Stand.of_body Bd
  have e0 : s₁.heap = h0 := by rw [← hh, Bd.state]; rfl
  have N0 := Fr.nil n0
  show OGot p.tables e below (s₁.setTop (entryFrame m #[(.ref a1), (.ref a2), (.ref a3)] 3)) _
  refine OGot.go (fun t k => castTop (ef25 m a1 a2 a3) k) ?_
  show OGot p.tables e below (s₁.setTop (mkF m 0 #[.val (.ref a1), .val (.ref a2), .val (.ref a3)] [])) _
  refine OGot.go (fun t k => XS.aloadN X0.here hx rfl (hb hby d25_0) rfl rfl k) ?_
  show OGot p.tables e below (s₁.setTop (mkF m 1 #[.val (.ref a1), .val (.ref a2), .val (.ref a3)] [(.ref a1)])) _
  obtain ⟨_, _, ⟨T4, L4, k4, n4⟩, -, X4, ⟨Lc4, hQ4, l4, y4, z4⟩, st4⟩ := X0.specialBack hx (y := (⟨"java/util/ImmutableCollections$AbstractImmutableList", "<init>", "()V"⟩ : MethodName)) rfl hown (mvT hZ (ow hw 179 rfl)) (mvT hZ (ow hw 180 rfl)) (mvT hZ (ow hw 184 rfl)) (by decide) (backOf (W := 0) (rm26 l Z a0 hw [] G a1 h0 n0 O0 ) hZ (ow hw 184 rfl) (ow hw 183 rfl) (by decide) (by decide)) (g := (mkF m 1 #[.val (.ref a1), .val (.ref a2), .val (.ref a3)] [(.ref a1)])) rfl (by rw [hml]; rfl) (Steps.refl _) (a := a1) (argsL := []) (rest := []) (lenOf pd_1 rfl) rfl (by show 2 * 0 + _ ≤ _; exact Nat.le_of_eq rfl) (hb hby d25_1) (fun _ _ => ⟨rfl, e0, (by decide : 0 + 0 ≤ _), (by decide : 0 + 0 ≤ _)⟩)
  dsimp only [Pt.U, Pt.locs, Pt.cells, Pt.slots] at X4 l4 y4 z4 st4 hQ4
  subst l4 y4 z4
  obtain ⟨rfl, N4q, e4⟩ := hQ4
  have N4 := Fr.app N0 N4q
  refine OGot.on st4 ?_
  show OGot p.tables e below (T4.setTop (mkF m 4 #[.val (.ref a1), .val (.ref a2), .val (.ref a3)] [])) _
  refine OGot.go (fun t k => XS.aloadN X4.here hx rfl (hb hby d25_4) rfl rfl k) ?_
  show OGot p.tables e below (T4.setTop (mkF m 5 #[.val (.ref a1), .val (.ref a2), .val (.ref a3)] [(.ref a1)])) _
  refine OGot.go (fun t k => XS.aloadN X4.here hx rfl (hb hby d25_5) rfl rfl k) ?_
  show OGot p.tables e below (T4.setTop (mkF m 6 #[.val (.ref a1), .val (.ref a2), .val (.ref a3)] [(.ref a2), (.ref a1)])) _
  obtain ⟨_, _, ⟨T5, L5, k5, n5⟩, -, X5, ⟨Lc5, hQ5, l5, y5, z5⟩, st5⟩ := Jvm.LawKit.callS X4 hx (y := (⟨"java/util/Objects", "requireNonNull", "(Ljava/lang/Object;)Ljava/lang/Object;"⟩ : MethodName)) hown (mvT hZ (ow hw 193 rfl)) (mvT hZ (ow hw 194 rfl)) (mvT hZ (ow hw 195 rfl)) (mvT hZ (ow hw 196 rfl)) (by decide) (backOf (W := 1) (rm28 l Z a0 hw [] G a2 h0 n0 O0 ) hZ (ow hw 196 rfl) (ow hw 195 rfl) (by decide) (by decide)) (g := (mkF m 6 #[.val (.ref a1), .val (.ref a2), .val (.ref a3)] [(.ref a2), (.ref a1)])) rfl (by rw [hml]; rfl) (argsL := [(.ref a2)]) (rest := [(.ref a1)]) (lenOf pd_14 rfl) rfl (by show 2 * 0 + _ ≤ _; exact Nat.le_of_eq rfl) (hb hby d25_6) (fun _ _ => ⟨rfl, e4, (by decide : 0 + 0 ≤ _), (by decide : 0 + 0 ≤ _)⟩)
  dsimp only [Pt.U, Pt.locs, Pt.cells, Pt.slots] at X5 l5 y5 z5 st5 hQ5
  subst l5 y5 z5
  obtain ⟨rfl, N5q, e5⟩ := hQ5
  have N5 := Fr.app N4 N5q
  refine OGot.go st5 ?_
  show OGot p.tables e below (T5.setTop (mkF m 9 #[.val (.ref a1), .val (.ref a2), .val (.ref a3)] [(.ref a2), (.ref a1)])) _
  obtain ⟨T6, h6, X6, e6, W6, st6⟩ := putF X5 hx hZ hown (host := "") (Or.inl (ow hw 197 rfl)) Via.refl e5 F_e0_a1 E_a1 (Or.inr ⟨(ow hw 198 rfl), rfl, hnm⟩) (ow hw 173 rfl) (ty := (.object "java/lang/Object")) (by decide) rfl rfl (g := (mkF m 9 #[.val (.ref a1), .val (.ref a2), .val (.ref a3)] [(.ref a2), (.ref a1)])) rfl rfl (hb hby d25_9)
  refine OGot.go st6 ?_
  have N6 := Fr.snoc X6 N5 g_a1
  have O6 := O0.wr W6 g_a1
  have K6 := (OKeep.refl h0 [(a1, Jvm.RoadKit.slotOf Z "java/util/ImmutableCollections$List12" "e0" "Ljava/lang/Object;"), (a1, Jvm.RoadKit.slotOf Z "java/util/ImmutableCollections$List12" "e1" "Ljava/lang/Object;")]).wr W6 (Or.inl (List.mem_of_getElem? (i := 0) rfl))
  have Fw6 : Fld Z h6 a1 "java/util/ImmutableCollections$List12" "e0" "Ljava/lang/Object;" (.ref a2) := F_e0_a1.same W6
  show OGot p.tables e below (T6.setTop (mkF m 12 #[.val (.ref a1), .val (.ref a2), .val (.ref a3)] [])) _
  refine OGot.go (fun t k => XS.aloadN X6.here hx rfl (hb hby d25_12) rfl rfl k) ?_
  show OGot p.tables e below (T6.setTop (mkF m 13 #[.val (.ref a1), .val (.ref a2), .val (.ref a3)] [(.ref a1)])) _
  refine OGot.go (fun t k => XS.aloadN X6.here hx rfl (hb hby d25_13) rfl rfl k) ?_
  show OGot p.tables e below (T6.setTop (mkF m 14 #[.val (.ref a1), .val (.ref a2), .val (.ref a3)] [(.ref a3), (.ref a1)])) _
  obtain ⟨_, _, ⟨T7, L7, k7, n7⟩, -, X7, ⟨Lc7, hQ7, l7, y7, z7⟩, st7⟩ := Jvm.LawKit.callS X6 hx (y := (⟨"java/util/Objects", "requireNonNull", "(Ljava/lang/Object;)Ljava/lang/Object;"⟩ : MethodName)) hown (mvT hZ (ow hw 193 rfl)) (mvT hZ (ow hw 194 rfl)) (mvT hZ (ow hw 195 rfl)) (mvT hZ (ow hw 196 rfl)) (by decide) (backOf (W := 1) (rm28 l Z a0 hw [] G a3 h6 n0 O6 ) hZ (ow hw 196 rfl) (ow hw 195 rfl) (by decide) (by decide)) (g := (mkF m 14 #[.val (.ref a1), .val (.ref a2), .val (.ref a3)] [(.ref a3), (.ref a1)])) rfl (by rw [hml]; rfl) (argsL := [(.ref a3)]) (rest := [(.ref a1)]) (lenOf pd_14 rfl) rfl (by show 2 * 0 + _ ≤ _; exact Nat.le_of_eq rfl) (hb hby d25_14) (fun _ _ => ⟨rfl, e6, (by decide : 0 + 0 ≤ _), (by decide : 0 + 0 ≤ _)⟩)
  dsimp only [Pt.U, Pt.locs, Pt.cells, Pt.slots] at X7 l7 y7 z7 st7 hQ7
  subst l7 y7 z7
  obtain ⟨rfl, N7q, e7⟩ := hQ7
  have N7 := Fr.app N6 N7q
  refine OGot.go st7 ?_
  show OGot p.tables e below (T7.setTop (mkF m 17 #[.val (.ref a1), .val (.ref a2), .val (.ref a3)] [(.ref a3), (.ref a1)])) _
  have F8 : Fld Z h6 a1 "java/util/ImmutableCollections$List12" "e1" "Ljava/lang/Object;" .null := (F_e1_a1.other W6 (Or.inr (slot_ne (Or.inr (ow hw 200 rfl)) (Or.inr (ow hw 198 rfl)) (by decide) (t := (.object "java/lang/Object")) (t' := (.object "java/lang/Object")) (by decide) (by decide))))
  obtain ⟨T9, h9, X9, e9, W9, st9⟩ := putF X7 hx hZ hown (host := "") (Or.inl (ow hw 199 rfl)) Via.refl e7 F8 (E_a1.wr W6) (Or.inr ⟨(ow hw 200 rfl), rfl, hnm⟩) (ow hw 173 rfl) (ty := (.object "java/lang/Object")) (by decide) rfl rfl (g := (mkF m 17 #[.val (.ref a1), .val (.ref a2), .val (.ref a3)] [(.ref a3), (.ref a1)])) rfl rfl (hb hby d25_17)
  refine OGot.go st9 ?_
  have N9 := Fr.snoc X9 N7 g_a1
  have O9 := O6.wr W9 g_a1
  have K9 := K6.wr W9 (Or.inl (List.mem_of_getElem? (i := 1) rfl))
  have Fw9 : Fld Z h9 a1 "java/util/ImmutableCollections$List12" "e1" "Ljava/lang/Object;" (.ref a3) := F8.same W9
  show OGot p.tables e below (T9.setTop (mkF m 20 #[.val (.ref a1), .val (.ref a2), .val (.ref a3)] [])) _
  obtain ⟨fs, hr, hrun, hended, hW, hsame⟩ := X9.leave (v := none) (fun _ => rfl)
  refine ⟨_, _, X9.returnOut hx Bd.returns (hb hby d25_20) hr, hrun, hended, _, _, rfl, ?_, ⟨_, rfl⟩, hW, hsame.mono (by decide) (by decide)⟩
  have F10 : Fld Z h9 a1 "java/util/ImmutableCollections$List12" "e0" "Ljava/lang/Object;" (.ref a2) := (Fw6.other W9 (Or.inr (slot_ne (Or.inr (ow hw 198 rfl)) (Or.inr (ow hw 200 rfl)) (by decide) (t := (.object "java/lang/Object")) (t' := (.object "java/lang/Object")) (by decide) (by decide))))
  show Q25 Z m_OA w_REJECTED w_EMPTY_ELEMENTDATA w_DEFAULTCAPACITY_EMPTY_ELEMENTDATA w_EMPTY_LIST w_EMPTY_LIST_elements w_EMPTY k_w_EMPTY_ELEMENTDATA k_w_DEFAULTCAPACITY_EMPTY_ELEMENTDATA k_w_EMPTY_LIST_elements a1 a2 a3 h0 n0 _ T9.heap _
  rw [e9]
  exact ⟨N9, rfl, K9, F10, Fw9⟩
theorem pd_18 : parseMethodDescriptor "(Ljava/lang/Object;Ljava/lang/Object;)V" = some ⟨[(.object "java/lang/Object"), (.object "java/lang/Object")], none⟩ := by decide +kernel
theorem d24_58 : decode jdk_40_method_47_code 58 = .ok (.areturn, 1) := by decide +kernel
def Q24_1 (Z : State) (m_OA : Addr) (w_REJECTED : Addr) (w_EMPTY_ELEMENTDATA : Addr) (w_DEFAULTCAPACITY_EMPTY_ELEMENTDATA : Addr) (w_EMPTY_LIST : Addr) (w_EMPTY_LIST_elements : Addr) (w_EMPTY : Addr) (k_w_EMPTY_ELEMENTDATA : ClassId) (k_w_DEFAULTCAPACITY_EMPTY_ELEMENTDATA : ClassId) (k_w_EMPTY_LIST_elements : ClassId) (a1 : Addr) (k2 : ClassId) (a3 : Addr) (a4 : Addr) (h0 : Heap) (n0 : Nat) (v : Option Value) (h : Heap) (L : List Loc) : Prop := Fr n0 L ∧ ∃ b6 : Addr, v = some (.ref b6) ∧ h0.size ≤ b6 ∧ OKeep h0 h [] ∧ Exa Z h b6 "java/util/ImmutableCollections$List12" ∧ Fld Z h b6 "java/util/ImmutableCollections$List12" "e0" "Ljava/lang/Object;" (.ref a3) ∧ Fld Z h b6 "java/util/ImmutableCollections$List12" "e1" "Ljava/lang/Object;" (.ref a4)
theorem ef24_1 (m : MethodId) (x0 : Addr) : entryFrame m #[(.ref x0)] 2 = mkF m 0 #[.val (.ref x0), .unset] [] := by first | (simp [entryFrame, mkF, argsToLocals, Value.category]; done) | rfl
set_option maxRecDepth 65536 in
set_option maxHeartbeats 40000000 in
theorem rm24_1 (l : Launch) (Z : State) (a0 : Array Value) (hw : ∀ d ∈ tables_1, d.before a0 Z = true) (ws : List Jvm.Cond) {m_OA : Addr} {w_REJECTED : Addr} {w_EMPTY_ELEMENTDATA : Addr} {w_DEFAULTCAPACITY_EMPTY_ELEMENTDATA : Addr} {w_EMPTY_LIST : Addr} {w_EMPTY_LIST_elements : Addr} {w_EMPTY : Addr} {k_w_EMPTY_ELEMENTDATA : ClassId} {k_w_DEFAULTCAPACITY_EMPTY_ELEMENTDATA : ClassId} {k_w_EMPTY_LIST_elements : ClassId} (G : Glob Z m_OA w_REJECTED w_EMPTY_ELEMENTDATA w_DEFAULTCAPACITY_EMPTY_ELEMENTDATA w_EMPTY_LIST w_EMPTY_LIST_elements w_EMPTY k_w_EMPTY_ELEMENTDATA k_w_DEFAULTCAPACITY_EMPTY_ELEMENTDATA k_w_EMPTY_LIST_elements) (a1 : Addr) (k2 : ClassId) (a3 : Addr) (a4 : Addr) (h0 : Heap) (n0 : Nat) (O0 : Old Z n0 h0) (V_a1 : Arv Z h0 a1 k2 (.object "java/lang/Object") (2 : Int32) [(.ref a3), (.ref a4)] .null) (O_k2 : Ovr Z k2 "java/lang/Object") :
    MetFree l (⟨"java/util/List", "of", "([Ljava/lang/Object;)Ljava/util/List;"⟩ : MethodName) (head1 (Jvm.Cond.code (⟨"java/util/List", "of", "([Ljava/lang/Object;)Ljava/util/List;"⟩ : MethodName) jdk_40_method_47_code 2 (some (.object "java/util/List")) :: ws) ({ frames := 5, cells := 1, slots := 2, locals := 63 } : Room)) (fun a U => a = #[(.ref a1)] ∧ Z.Warmed39 U.vm ∧ U.heap = h0) (fun _ _ _ _ _ => True) (fun _ U o U' => ∃ v L, o = .returned v ∧ Q24_1 Z m_OA w_REJECTED w_EMPTY_ELEMENTDATA w_DEFAULTCAPACITY_EMPTY_ELEMENTDATA w_EMPTY_LIST w_EMPTY_LIST_elements w_EMPTY k_w_EMPTY_ELEMENTDATA k_w_DEFAULTCAPACITY_EMPTY_ELEMENTDATA k_w_EMPTY_LIST_elements a1 k2 a3 a4 h0 n0 v U'.heap L ∧ FrameEnd U o U' L ({ frames := 5, cells := 1, slots := 2, locals := 63 } : Room).cells ({ frames := 5, cells := 1, slots := 2, locals := 63 } : Room).slots) := by
  refine MetFree.of_bodySF (plainFor_of_name pn_java_util_List) hisR ?_
  intro p e s m args below meth c s₁ Bd hml0 hP hK
  obtain ⟨rfl, hZ, hh⟩ := hP
  have hx := Bd.exec
  have hby := Bd.bytes
  have hml : c.maxLocals = 2 := hml0
  have hown : s.vm.findClass "java/util/List" = some m.cls := findClass_of_methodNamed Bd.named
  have hnm := (name_of_methodNamed Bd.named Bd.method).1
  have X0 : Stand p l e ({ frames := 5, cells := 1, slots := 2, locals := 63 } : Room) s m #[(.ref a1)] below meth c s₁ [] 0 0 := Stand.of_body Bd
  have e0 : s₁.heap = h0 := by rw [← hh, Bd.state]; rfl
  have N0 := Fr.nil n0
  show OGot p.tables e below (s₁.setTop (entryFrame m #[(.ref a1)] 2)) _
  refine OGot.go (fun t k => castTop (ef24_1 m a1) k) ?_
  show OGot p.tables e below (s₁.setTop (mkF m 0 #[.val (.ref a1), .unset] [])) _
  refine OGot.go (fun t k => XS.aloadN X0.here hx rfl (hb hby d24_0) rfl rfl k) ?_
  show OGot p.tables e below (s₁.setTop (mkF m 1 #[.val (.ref a1), .unset] [(.ref a1)])) _
  obtain ⟨cl5, Ar5, -, Sz5, Ng5, -, -⟩ := id (V_a1)
  refine OGot.go (fun t k => X0.arraylength hx (by rw [e0]; exact Ar5.1) (State.isArrayOf_alike hZ.alike Ar5.2.1) (g := (mkF m 1 #[.val (.ref a1), .unset] [(.ref a1)])) rfl rfl (hb hby d24_1) _ k) ?_
  rw [len_of Sz5 Ng5]
  show OGot p.tables e below (s₁.setTop (mkF m 2 #[.val (.ref a1), .unset] [(.int (2 : Int32))])) _
  refine OGot.go (fun t k => XS.tswIn X0.here hx rfl (pc0 := 2) (pc' := 45) rfl (hb hby d24_2) rfl (by decide) (o := 43) (by decide) (by decide) (by decide) k) ?_
  show OGot p.tables e below (s₁.setTop (mkF m 45 #[.val (.ref a1), .unset] [])) _
  obtain ⟨T6, h6, X6, e6, E6, A6, D6, -, st6⟩ := newO X0 hx hZ hown (ow hw 172 rfl) (ow hw 173 rfl) (ow hw 174 rfl) e0 (g := (mkF m 45 #[.val (.ref a1), .unset] [])) rfl (hb hby d24_45) (by decide) (by decide)
  obtain ⟨b6, g6⟩ : ∃ z, z = h0.size := ⟨_, rfl⟩
  rw [← g6] at A6 D6 st6
  refine OGot.go st6 ?_
  have g_b6 : n0 ≤ b6 := Nat.le_trans (osz O0) (Nat.le_of_eq g6.symm)
  have sy_b6 : h0.size ≤ b6 := Nat.le_of_eq g6.symm
  have sz_b6 : h0.size ≤ b6 := Nat.le_trans (OKeep.refl h0 []).1 sy_b6
  have K6 := (OKeep.refl h0 []).ext E6
  have O6 := O0.ext E6
  have F6_e0 : Fld Z h6 b6 "java/util/ImmutableCollections$List12" "e0" "Ljava/lang/Object;" .null := D6 (Or.inr (ow hw 198 rfl)) (ty := (.object "java/lang/Object")) (by decide)
  have F6_e1 : Fld Z h6 b6 "java/util/ImmutableCollections$List12" "e1" "Ljava/lang/Object;" .null := D6 (Or.inr (ow hw 200 rfl)) (ty := (.object "java/lang/Object")) (by decide)
  show OGot p.tables e below (T6.setTop (mkF m 48 #[.val (.ref a1), .unset] [(.ref b6)])) _
  refine OGot.go (fun t k => XS.dup X6.here hx rfl (hb hby d24_48) rfl rfl k) ?_
  show OGot p.tables e below (T6.setTop (mkF m 49 #[.val (.ref a1), .unset] [(.ref b6), (.ref b6)])) _
  refine OGot.go (fun t k => XS.aloadN X6.here hx rfl (hb hby d24_49) rfl rfl k) ?_
  show OGot p.tables e below (T6.setTop (mkF m 50 #[.val (.ref a1), .unset] [(.ref a1), (.ref b6), (.ref b6)])) _
  refine OGot.go (fun t k => XS.iconst X6.here hx rfl (hb hby d24_50) k) ?_
  show OGot p.tables e below (T6.setTop (mkF m 51 #[.val (.ref a1), .unset] [(.int (0 : Int32)), (.ref a1), (.ref b6), (.ref b6)])) _
  have F7 : Arv Z h6 a1 k2 (.object "java/lang/Object") (2 : Int32) [(.ref a3), (.ref a4)] .null := (V_a1.ext E6)
  obtain ⟨cl8, Ar8, qc8, Sz8, Ng8, Hh8, Gg8⟩ := id (F7)
  have hin8 : ¬ ((0 : Int32) < 0 ∨ cl8.slots.size ≤ ((0 : Int32)).toNatClampNeg) := inb_of Sz8 ⟨by decide, by decide⟩
  have hat8 : cl8.slots[((0 : Int32)).toNatClampNeg]? = some (.ref a3) := Hh8.at hin8 rfl
  refine OGot.go (fun t k => X6.aaload hx (j := (0 : Int32)) (v := (.ref a3)) (by rw [e6]; exact Ar8.1) (State.isArrayOf_alike hZ.alike Ar8.2.1) rfl Ar8.2.2 hin8 hat8 (g := (mkF m 51 #[.val (.ref a1), .unset] [(.int (0 : Int32)), (.ref a1), (.ref b6), (.ref b6)])) rfl rfl (hb hby d24_51) _ k) ?_
  show OGot p.tables e below (T6.setTop (mkF m 52 #[.val (.ref a1), .unset] [(.ref a3), (.ref b6), (.ref b6)])) _
  refine OGot.go (fun t k => XS.aloadN X6.here hx rfl (hb hby d24_52) rfl rfl k) ?_
  show OGot p.tables e below (T6.setTop (mkF m 53 #[.val (.ref a1), .unset] [(.ref a1), (.ref a3), (.ref b6), (.ref b6)])) _
  refine OGot.go (fun t k => XS.iconst X6.here hx rfl (hb hby d24_53) k) ?_
  show OGot p.tables e below (T6.setTop (mkF m 54 #[.val (.ref a1), .unset] [(.int (1 : Int32)), (.ref a1), (.ref a3), (.ref b6), (.ref b6)])) _
  obtain ⟨cl9, Ar9, qc9, Sz9, Ng9, Hh9, Gg9⟩ := id (F7)
  have hin9 : ¬ ((1 : Int32) < 0 ∨ cl9.slots.size ≤ ((1 : Int32)).toNatClampNeg) := inb_of Sz9 ⟨by decide, by decide⟩
  have hat9 : cl9.slots[((1 : Int32)).toNatClampNeg]? = some (.ref a4) := Hh9.at hin9 rfl
  refine OGot.go (fun t k => X6.aaload hx (j := (1 : Int32)) (v := (.ref a4)) (by rw [e6]; exact Ar9.1) (State.isArrayOf_alike hZ.alike Ar9.2.1) rfl Ar9.2.2 hin9 hat9 (g := (mkF m 54 #[.val (.ref a1), .unset] [(.int (1 : Int32)), (.ref a1), (.ref a3), (.ref b6), (.ref b6)])) rfl rfl (hb hby d24_54) _ k) ?_
  show OGot p.tables e below (T6.setTop (mkF m 55 #[.val (.ref a1), .unset] [(.ref a4), (.ref a3), (.ref b6), (.ref b6)])) _
  obtain ⟨_, _, ⟨T10, L10, k10, n10⟩, -, X10, ⟨Lc10, hQ10, l10, y10, z10⟩, st10⟩ := X6.specialBack hx (y := (⟨"java/util/ImmutableCollections$List12", "<init>", "(Ljava/lang/Object;Ljava/lang/Object;)V"⟩ : MethodName)) rfl hown (mvT hZ (ow hw 175 rfl)) (mvT hZ (ow hw 176 rfl)) (mvT hZ (ow hw 178 rfl)) (by decide) (backOf (W := 1) (rm25 l Z a0 hw [] G b6 a3 a4 h6 n0 O6 A6 F6_e0 g_b6 F6_e1) hZ (ow hw 178 rfl) (ow hw 174 rfl) (by decide) (by decide)) (g := (mkF m 55 #[.val (.ref a1), .unset] [(.ref a4), (.ref a3), (.ref b6), (.ref b6)])) rfl (by rw [hml]; rfl) (Steps.refl _) (a := b6) (argsL := [(.ref a3), (.ref a4)]) (rest := [(.ref b6)]) (lenOf pd_18 rfl) rfl (by show 2 * 0 + _ ≤ _; exact Nat.le_of_eq rfl) (hb hby d24_55) (fun _ _ => ⟨rfl, e6, (by decide : 1 + 0 ≤ _), (by decide : 2 + 0 ≤ _)⟩)
  dsimp only [Pt.U, Pt.locs, Pt.cells, Pt.slots] at X10 l10 y10 z10 st10 hQ10
  subst l10 y10 z10
  obtain ⟨N10q, rfl, K10, Fo10_0, Fo10_1⟩ := hQ10
  have Kc10 := K6.trans K10 (oinS (Or.inr sz_b6) (oinS (Or.inr sz_b6) oin0))
  have O10 := OKeep.old O6 K10 (ogeS g_b6 (ogeS g_b6 oge0))
  have N10 := Fr.app N0 N10q
  refine OGot.on st10 ?_
  show OGot p.tables e below (T10.setTop (mkF m 58 #[.val (.ref a1), .unset] [(.ref b6)])) _
  obtain ⟨fs, hr, hrun, hended, hW, hsame⟩ := X10.leave (v := some (.ref b6)) (fun h => by rw [Bd.returns] at h; cases h)
  refine ⟨_, _, oretA X10 hx Bd.returns rfl rfl (hb hby d24_58) hr, hrun, hended, _, _, rfl, ?_, ⟨_, rfl⟩, hW, hsame.mono (by decide) (by decide)⟩
  show Q24_1 Z m_OA w_REJECTED w_EMPTY_ELEMENTDATA w_DEFAULTCAPACITY_EMPTY_ELEMENTDATA w_EMPTY_LIST w_EMPTY_LIST_elements w_EMPTY k_w_EMPTY_ELEMENTDATA k_w_DEFAULTCAPACITY_EMPTY_ELEMENTDATA k_w_EMPTY_LIST_elements a1 k2 a3 a4 h0 n0 _ T10.heap _
  exact ⟨N10, b6, rfl, sz_b6, Kc10, (OKeep.exa A6 K10), Fo10_0, Fo10_1⟩
def Q10_2 (Z : State) (m_OA : Addr) (w_REJECTED : Addr) (w_EMPTY_ELEMENTDATA : Addr) (w_DEFAULTCAPACITY_EMPTY_ELEMENTDATA : Addr) (w_EMPTY_LIST : Addr) (w_EMPTY_LIST_elements : Addr) (w_EMPTY : Addr) (k_w_EMPTY_ELEMENTDATA : ClassId) (k_w_DEFAULTCAPACITY_EMPTY_ELEMENTDATA : ClassId) (k_w_EMPTY_LIST_elements : ClassId) (a1 : Addr) (a5 : Addr) (k6 : ClassId) (a7 : Addr) (a8 : Addr) (h0 : Heap) (n0 : Nat) (v : Option Value) (h : Heap) (L : List Loc) : Prop := Fr n0 L ∧ ∃ b6_10 : Addr, v = some (.ref b6_10) ∧ h0.size ≤ b6_10 ∧ OKeep h0 h [] ∧ Exa Z h b6_10 "java/util/ImmutableCollections$List12" ∧ Fld Z h b6_10 "java/util/ImmutableCollections$List12" "e0" "Ljava/lang/Object;" (.ref a7) ∧ Fld Z h b6_10 "java/util/ImmutableCollections$List12" "e1" "Ljava/lang/Object;" (.ref a8)
theorem ef10_2 (m : MethodId) (x0 : Addr) : entryFrame m #[(.ref x0)] 2 = mkF m 0 #[.val (.ref x0), .unset] [] := by first | (simp [entryFrame, mkF, argsToLocals, Value.category]; done) | rfl
set_option maxRecDepth 65536 in
set_option maxHeartbeats 40000000 in
theorem rm10_2 (l : Launch) (Z : State) (a0 : Array Value) (hw : ∀ d ∈ tables_1, d.before a0 Z = true) (ws : List Jvm.Cond) {m_OA : Addr} {w_REJECTED : Addr} {w_EMPTY_ELEMENTDATA : Addr} {w_DEFAULTCAPACITY_EMPTY_ELEMENTDATA : Addr} {w_EMPTY_LIST : Addr} {w_EMPTY_LIST_elements : Addr} {w_EMPTY : Addr} {k_w_EMPTY_ELEMENTDATA : ClassId} {k_w_DEFAULTCAPACITY_EMPTY_ELEMENTDATA : ClassId} {k_w_EMPTY_LIST_elements : ClassId} (G : Glob Z m_OA w_REJECTED w_EMPTY_ELEMENTDATA w_DEFAULTCAPACITY_EMPTY_ELEMENTDATA w_EMPTY_LIST w_EMPTY_LIST_elements w_EMPTY k_w_EMPTY_ELEMENTDATA k_w_DEFAULTCAPACITY_EMPTY_ELEMENTDATA k_w_EMPTY_LIST_elements) (a1 : Addr) (a5 : Addr) (k6 : ClassId) (a7 : Addr) (a8 : Addr) (h0 : Heap) (n0 : Nat) (O0 : Old Z n0 h0) (E_a1 : Exa Z h0 a1 "java/util/ArrayList") (F_size_a1 : Fld Z h0 a1 "java/util/ArrayList" "size" "I" (.int (2 : Int32))) (F_elementData_a1 : Fld Z h0 a1 "java/util/ArrayList" "elementData" "[Ljava/lang/Object;" (.ref a5)) (E_a5 : Exa Z h0 a5 "[Ljava/lang/Object;") (V_a5 : Arv Z h0 a5 k6 (.object "java/lang/Object") (10 : Int32) [(.ref a7), (.ref a8), .null, .null, .null, .null, .null, .null, .null, .null] .null) (O_k6 : Ovr Z k6 "java/lang/Object") (E_a8 : Exa Z h0 a8 "com/example/curtail/curtail/Placement$Cell") (E_a7 : Exa Z h0 a7 "com/example/curtail/curtail/Placement$Cell") :
    MetFree l (⟨"java/util/ImmutableCollections", "listCopy", "(Ljava/util/Collection;)Ljava/util/List;"⟩ : MethodName) (head1 (Jvm.Cond.code (⟨"java/util/ImmutableCollections", "listCopy", "(Ljava/util/Collection;)Ljava/util/List;"⟩ : MethodName) jdk_56_method_3_code 2 (some (.object "java/util/List")) :: ws) ({ frames := 6, cells := 2, slots := 4, locals := 76 } : Room)) (fun a U => a = #[(.ref a1)] ∧ Z.Warmed39 U.vm ∧ U.heap = h0) (fun _ _ _ _ _ => True) (fun _ U o U' => ∃ v L, o = .returned v ∧ Q10_2 Z m_OA w_REJECTED w_EMPTY_ELEMENTDATA w_DEFAULTCAPACITY_EMPTY_ELEMENTDATA w_EMPTY_LIST w_EMPTY_LIST_elements w_EMPTY k_w_EMPTY_ELEMENTDATA k_w_DEFAULTCAPACITY_EMPTY_ELEMENTDATA k_w_EMPTY_LIST_elements a1 a5 k6 a7 a8 h0 n0 v U'.heap L ∧ FrameEnd U o U' L ({ frames := 6, cells := 2, slots := 4, locals := 76 } : Room).cells ({ frames := 6, cells := 2, slots := 4, locals := 76 } : Room).slots) := by
  refine MetFree.of_bodySF (plainFor_of_name pn_java_util_ImmutableCollections) hisR ?_
  intro p e s m args below meth c s₁ Bd hml0 hP hK
  obtain ⟨rfl, hZ, hh⟩ := hP
  have hx := Bd.exec
  have hby := Bd.bytes
  have hml : c.maxLocals = 2 := hml0
  have hown : s.vm.findClass "java/util/ImmutableCollections" = some m.cls := findClass_of_methodNamed Bd.named
  have hnm := (name_of_methodNamed Bd.named Bd.method).1
  have X0 : Stand p l e ({ frames := 6, cells := 2, slots := 4, locals := 76 } : Room) s m #[(.ref a1)] below meth c s₁ [] 0 0 := Stand.of_body Bd
  have e0 : s₁.heap = h0 := by rw [← hh, Bd.state]; rfl
  have N0 := Fr.nil n0
  show OGot p.tables e below (s₁.setTop (entryFrame m #[(.ref a1)] 2)) _
  refine OGot.go (fun t k => castTop (ef10_2 m a1) k) ?_
  show OGot p.tables e below (s₁.setTop (mkF m 0 #[.val (.ref a1), .unset] [])) _
  refine OGot.go (fun t k => XS.aloadN X0.here hx rfl (hb hby d10_0) rfl rfl k) ?_
  show OGot p.tables e below (s₁.setTop (mkF m 1 #[.val (.ref a1), .unset] [(.ref a1)])) _
  obtain ⟨T2, X2, e2, st2⟩ := instNo X0 hx hZ hown (ow hw 54 rfl) e0 E_a1 (oNS.no (ow hw 55 rfl) (ow hw 173 rfl) (NS.step (ow hw 55 rfl) (NS.step (ow hw 56 rfl) (NS.step (ow hw 57 rfl) (oNS.root (ow hw 58 rfl) (ow hw 173 rfl) (by decide)) (by decide)) (by decide)) (by decide)) (by decide)) (g := (mkF m 1 #[.val (.ref a1), .unset] [(.ref a1)])) rfl rfl (hb hby d10_1)
  refine OGot.go st2 ?_
  show OGot p.tables e below (T2.setTop (mkF m 4 #[.val (.ref a1), .unset] [(.int (0 : Int32))])) _
  refine OGot.go (fun t k => XS.ifNo X2.here hx rfl (hb hby d10_4) rfl (by decide) k) ?_
  show OGot p.tables e below (T2.setTop (mkF m 7 #[.val (.ref a1), .unset] [])) _
  refine OGot.go (fun t k => XS.aloadN X2.here hx rfl (hb hby d10_7) rfl rfl k) ?_
  show OGot p.tables e below (T2.setTop (mkF m 8 #[.val (.ref a1), .unset] [(.ref a1)])) _
  obtain ⟨T3, X3, e3, st3⟩ := instNo X2 hx hZ hown (ow hw 59 rfl) e2 E_a1 (pNS.no (ow hw 55 rfl) (y := ({ cls := "java/util/ImmutableCollections$ListN", name := "size", desc := "()I" } : Jvm.MethodName)) (ow hw 78 rfl) (NS.step (ow hw 55 rfl) (NS.step (ow hw 56 rfl) (NS.step (ow hw 57 rfl) (pNS.root (ow hw 58 rfl) (y := ({ cls := "java/util/ImmutableCollections$ListN", name := "size", desc := "()I" } : Jvm.MethodName)) (ow hw 78 rfl) (by decide)) (by decide)) (by decide)) (by decide)) (by decide)) (g := (mkF m 8 #[.val (.ref a1), .unset] [(.ref a1)])) rfl rfl (hb hby d10_8)
  refine OGot.go st3 ?_
  show OGot p.tables e below (T3.setTop (mkF m 11 #[.val (.ref a1), .unset] [(.int (0 : Int32))])) _
  refine OGot.go (fun t k => XS.ifYes X3.here hx rfl (pc0 := 11) (pc' := 31) rfl (hb hby d10_11) rfl (by decide) (by decide) (by decide) k) ?_
  show OGot p.tables e below (T3.setTop (mkF m 31 #[.val (.ref a1), .unset] [])) _
  refine OGot.go (fun t k => XS.aloadN X3.here hx rfl (hb hby d10_31) rfl rfl k) ?_
  show OGot p.tables e below (T3.setTop (mkF m 32 #[.val (.ref a1), .unset] [(.ref a1)])) _
  obtain ⟨cq4, kq4, q4a, q4b, q4c⟩ := isOf hZ e3 E_a1
  obtain ⟨_, _, ⟨T4, L4, k4, n4⟩, -, X4, ⟨Lc4, hQ4, l4, y4, z4⟩, st4⟩ := X3.interfaceBack hx (xi := (⟨"java/util/Collection", "isEmpty", "()Z"⟩ : MethodName)) (y := (⟨"java/util/ArrayList", "isEmpty", "()Z"⟩ : MethodName)) hown (mvT hZ (ow hw 60 rfl)) (mvT hZ (ow hw 61 rfl)) (mvT hZ (ow hw 62 rfl)) (mvT hZ (ow hw 63 rfl)) (mvT hZ (ow hw 64 rfl)) (mvT hZ (ow hw 65 rfl)) (mvT hZ (ow hw 66 rfl)) (mvT hZ (ow hw 67 rfl)) (by decide) (backOf (W := 0) (rm11_2 l Z a0 hw [] G a1 h0 n0 O0 F_size_a1) hZ (ow hw 68 rfl) (ow hw 10 rfl) (by decide) (by decide)) q4a q4b q4c (g := (mkF m 32 #[.val (.ref a1), .unset] [(.ref a1)])) rfl (by rw [hml]; rfl) (Steps.refl _) (argsL := []) (rest := []) (lenOf pd_2 rfl) rfl (by show 2 * 0 + _ ≤ _; exact Nat.le_of_eq rfl) (hb hby d10_32) (fun _ _ => ⟨rfl, e3, (by decide : 0 + 0 ≤ _), (by decide : 0 + 0 ≤ _)⟩)
  dsimp only [Pt.U, Pt.locs, Pt.cells, Pt.slots] at X4 l4 y4 z4 st4 hQ4
  subst l4 y4 z4
  obtain ⟨rfl, N4q, e4⟩ := hQ4
  have N4 := Fr.app N0 N4q
  refine OGot.on st4 ?_
  show OGot p.tables e below (T4.setTop (mkF m 37 #[.val (.ref a1), .unset] [(.int (0 : Int32))])) _
  refine OGot.go (fun t k => XS.ifYes X4.here hx rfl (pc0 := 37) (pc' := 44) rfl (hb hby d10_37) rfl (by decide) (by decide) (by decide) k) ?_
  show OGot p.tables e below (T4.setTop (mkF m 44 #[.val (.ref a1), .unset] [])) _
  refine OGot.go (fun t k => XS.aloadN X4.here hx rfl (hb hby d10_44) rfl rfl k) ?_
  show OGot p.tables e below (T4.setTop (mkF m 45 #[.val (.ref a1), .unset] [(.ref a1)])) _
  obtain ⟨cq9, kq9, q9a, q9b, q9c⟩ := isOf hZ e4 E_a1
  obtain ⟨_, _, ⟨T9, L9, k9, n9⟩, -, X9, ⟨Lc9, hQ9, l9, y9, z9⟩, st9⟩ := X4.interfaceBack hx (xi := (⟨"java/util/Collection", "toArray", "()[Ljava/lang/Object;"⟩ : MethodName)) (y := (⟨"java/util/ArrayList", "toArray", "()[Ljava/lang/Object;"⟩ : MethodName)) hown (mvT hZ (ow hw 141 rfl)) (mvT hZ (ow hw 142 rfl)) (mvT hZ (ow hw 143 rfl)) (mvT hZ (ow hw 144 rfl)) (mvT hZ (ow hw 145 rfl)) (mvT hZ (ow hw 146 rfl)) (mvT hZ (ow hw 147 rfl)) (mvT hZ (ow hw 67 rfl)) (by decide) (backOf (W := 0) (rm21_1 l Z a0 hw [] G a1 a5 k6 a7 a8 h0 n0 O0 F_elementData_a1 F_size_a1 E_a5 V_a5 O_k6 E_a8 E_a7) hZ (ow hw 148 rfl) (ow hw 10 rfl) (by decide) (by decide)) q9a q9b q9c (g := (mkF m 45 #[.val (.ref a1), .unset] [(.ref a1)])) rfl (by rw [hml]; rfl) (Steps.refl _) (argsL := []) (rest := []) (lenOf pd_9 rfl) rfl (by show 2 * 0 + _ ≤ _; exact Nat.le_of_eq rfl) (hb hby d10_45) (fun _ _ => ⟨rfl, e4, (by decide : 0 + 1 ≤ _), (by decide : 0 + 2 ≤ _)⟩)
  dsimp only [Pt.U, Pt.locs, Pt.cells, Pt.slots] at X9 l9 y9 z9 st9 hQ9
  subst l9 y9 z9
  obtain ⟨N9q, b4_6_8_9, k4_6_8_9, rfl, szb4_6_8_9_9, K9, Fo9_0, Fo9_1, Fo9_2⟩ := hQ9
  have g_b4_6_8_9 : n0 ≤ b4_6_8_9 := Nat.le_trans (osz O0) szb4_6_8_9_9
  have sz_b4_6_8_9 : h0.size ≤ b4_6_8_9 := Nat.le_trans (OKeep.refl h0 []).1 szb4_6_8_9_9
  have Kc9 := (OKeep.refl h0 []).trans K9 oin0
  have O9 := OKeep.old O0 K9 oge0
  have N9 := Fr.app N4 N9q
  refine OGot.on st9 ?_
  show OGot p.tables e below (T9.setTop (mkF m 50 #[.val (.ref a1), .unset] [(.ref b4_6_8_9)])) _
  obtain ⟨_, _, ⟨T10, L10, k10, n10⟩, -, X10, ⟨Lc10, hQ10, l10, y10, z10⟩, st10⟩ := Jvm.LawKit.callS X9 hx (y := (⟨"java/util/List", "of", "([Ljava/lang/Object;)Ljava/util/List;"⟩ : MethodName)) hown (mvT hZ (ow hw 169 rfl)) (mvT hZ (ow hw 170 rfl)) (mvT hZ (ow hw 48 rfl)) (mvT hZ (ow hw 171 rfl)) (by decide) (backOf (W := 0) (rm24_1 l Z a0 hw [] G b4_6_8_9 k4_6_8_9 a7 a8 T9.heap n0 O9 Fo9_1 Fo9_2) hZ (ow hw 171 rfl) (ow hw 48 rfl) (by decide) (by decide)) (g := (mkF m 50 #[.val (.ref a1), .unset] [(.ref b4_6_8_9)])) rfl (by rw [hml]; rfl) (argsL := [(.ref b4_6_8_9)]) (rest := []) (lenOf pd_16 rfl) rfl (by show 2 * 0 + _ ≤ _; exact Nat.le_of_eq rfl) (hb hby d10_50) (fun _ _ => ⟨rfl, rfl, (by decide : 1 + 1 ≤ _), (by decide : 2 + 2 ≤ _)⟩)
  dsimp only [Pt.U, Pt.locs, Pt.cells, Pt.slots] at X10 l10 y10 z10 st10 hQ10
  subst l10 y10 z10
  obtain ⟨N10q, b6_10, rfl, szb6_10_10, K10, Fo10_0, Fo10_1, Fo10_2⟩ := hQ10
  have g_b6_10 : n0 ≤ b6_10 := Nat.le_trans (osz O9) szb6_10_10
  have sz_b6_10 : h0.size ≤ b6_10 := Nat.le_trans Kc9.1 szb6_10_10
  have Kc10 := Kc9.trans K10 oin0
  have O10 := OKeep.old O9 K10 oge0
  have N10 := Fr.app N9 N10q
  refine OGot.go st10 ?_
  show OGot p.tables e below (T10.setTop (mkF m 53 #[.val (.ref a1), .unset] [(.ref b6_10)])) _
  obtain ⟨fs, hr, hrun, hended, hW, hsame⟩ := X10.leave (v := some (.ref b6_10)) (fun h => by rw [Bd.returns] at h; cases h)
  refine ⟨_, _, oretA X10 hx Bd.returns rfl rfl (hb hby d10_53) hr, hrun, hended, _, _, rfl, ?_, ⟨_, rfl⟩, hW, hsame.mono (by decide) (by decide)⟩
  show Q10_2 Z m_OA w_REJECTED w_EMPTY_ELEMENTDATA w_DEFAULTCAPACITY_EMPTY_ELEMENTDATA w_EMPTY_LIST w_EMPTY_LIST_elements w_EMPTY k_w_EMPTY_ELEMENTDATA k_w_DEFAULTCAPACITY_EMPTY_ELEMENTDATA k_w_EMPTY_LIST_elements a1 a5 k6 a7 a8 h0 n0 _ T10.heap _
  exact ⟨N10, b6_10, rfl, sz_b6_10, Kc10, Fo10_0, Fo10_1, Fo10_2⟩
def Q9_2 (Z : State) (m_OA : Addr) (w_REJECTED : Addr) (w_EMPTY_ELEMENTDATA : Addr) (w_DEFAULTCAPACITY_EMPTY_ELEMENTDATA : Addr) (w_EMPTY_LIST : Addr) (w_EMPTY_LIST_elements : Addr) (w_EMPTY : Addr) (k_w_EMPTY_ELEMENTDATA : ClassId) (k_w_DEFAULTCAPACITY_EMPTY_ELEMENTDATA : ClassId) (k_w_EMPTY_LIST_elements : ClassId) (a1 : Addr) (a2 : Addr) (k3 : ClassId) (a4 : Addr) (a5 : Addr) (h0 : Heap) (n0 : Nat) (v : Option Value) (h : Heap) (L : List Loc) : Prop := Fr n0 L ∧ ∃ b6_10_6 : Addr, v = some (.ref b6_10_6) ∧ h0.size ≤ b6_10_6 ∧ OKeep h0 h [] ∧ Exa Z h b6_10_6 "java/util/ImmutableCollections$List12" ∧ Fld Z h b6_10_6 "java/util/ImmutableCollections$List12" "e0" "Ljava/lang/Object;" (.ref a4) ∧ Fld Z h b6_10_6 "java/util/ImmutableCollections$List12" "e1" "Ljava/lang/Object;" (.ref a5)
theorem ef9_2 (m : MethodId) (x0 : Addr) : entryFrame m #[(.ref x0)] 1 = mkF m 0 #[.val (.ref x0)] [] := by first | (simp [entryFrame, mkF, argsToLocals, Value.category]; done) | rfl
set_option maxRecDepth 65536 in
set_option maxHeartbeats 40000000 in
theorem rm9_2 (l : Launch) (Z : State) (a0 : Array Value) (hw : ∀ d ∈ tables_1, d.before a0 Z = true) (ws : List Jvm.Cond) {m_OA : Addr} {w_REJECTED : Addr} {w_EMPTY_ELEMENTDATA : Addr} {w_DEFAULTCAPACITY_EMPTY_ELEMENTDATA : Addr} {w_EMPTY_LIST : Addr} {w_EMPTY_LIST_elements : Addr} {w_EMPTY : Addr} {k_w_EMPTY_ELEMENTDATA : ClassId} {k_w_DEFAULTCAPACITY_EMPTY_ELEMENTDATA : ClassId} {k_w_EMPTY_LIST_elements : ClassId} (G : Glob Z m_OA w_REJECTED w_EMPTY_ELEMENTDATA w_DEFAULTCAPACITY_EMPTY_ELEMENTDATA w_EMPTY_LIST w_EMPTY_LIST_elements w_EMPTY k_w_EMPTY_ELEMENTDATA k_w_DEFAULTCAPACITY_EMPTY_ELEMENTDATA k_w_EMPTY_LIST_elements) (a1 : Addr) (a2 : Addr) (k3 : ClassId) (a4 : Addr) (a5 : Addr) (h0 : Heap) (n0 : Nat) (O0 : Old Z n0 h0) (E_a1 : Exa Z h0 a1 "java/util/ArrayList") (F_size_a1 : Fld Z h0 a1 "java/util/ArrayList" "size" "I" (.int (2 : Int32))) (F_elementData_a1 : Fld Z h0 a1 "java/util/ArrayList" "elementData" "[Ljava/lang/Object;" (.ref a2)) (E_a2 : Exa Z h0 a2 "[Ljava/lang/Object;") (V_a2 : Arv Z h0 a2 k3 (.object "java/lang/Object") (10 : Int32) [(.ref a4), (.ref a5), .null, .null, .null, .null, .null, .null, .null, .null] .null) (O_k3 : Ovr Z k3 "java/lang/Object") (E_a5 : Exa Z h0 a5 "com/example/curtail/curtail/Placement$Cell") (E_a4 : Exa Z h0 a4 "com/example/curtail/curtail/Placement$Cell") :
    MetFree l (⟨"java/util/List", "copyOf", "(Ljava/util/Collection;)Ljava/util/List;"⟩ : MethodName) (head1 (Jvm.Cond.code (⟨"java/util/List", "copyOf", "(Ljava/util/Collection;)Ljava/util/List;"⟩ : MethodName) jdk_40_method_48_code 1 (some (.object "java/util/List")) :: ws) ({ frames := 7, cells := 2, slots := 4, locals := 89 } : Room)) (fun a U => a = #[(.ref a1)] ∧ Z.Warmed39 U.vm ∧ U.heap = h0) (fun _ _ _ _ _ => True) (fun _ U o U' => ∃ v L, o = .returned v ∧ Q9_2 Z m_OA w_REJECTED w_EMPTY_ELEMENTDATA w_DEFAULTCAPACITY_EMPTY_ELEMENTDATA w_EMPTY_LIST w_EMPTY_LIST_elements w_EMPTY k_w_EMPTY_ELEMENTDATA k_w_DEFAULTCAPACITY_EMPTY_ELEMENTDATA k_w_EMPTY_LIST_elements a1 a2 k3 a4 a5 h0 n0 v U'.heap L ∧ FrameEnd U o U' L ({ frames := 7, cells := 2, slots := 4, locals := 89 } : Room).cells ({ frames := 7, cells := 2, slots := 4, locals := 89 } : Room).slots) := by
  refine MetFree.of_bodySF (plainFor_of_name pn_java_util_List) hisR ?_
  intro p e s m args below meth c s₁ Bd hml0 hP hK
  obtain ⟨rfl, hZ, hh⟩ := hP
  have hx := Bd.exec
  have hby := Bd.bytes
  have hml : c.maxLocals = 1 := hml0
  have hown : s.vm.findClass "java/util/List" = some m.cls := findClass_of_methodNamed Bd.named
  have hnm := (name_of_methodNamed Bd.named Bd.method).1
  have X0 : Stand p l e ({ frames := 7, cells := 2, slots := 4, locals := 89 } : Room) s m #[(.ref a1)] below meth c s₁ [] 0 0 := Stand.of_body Bd
  have e0 : s₁.heap = h0 := by rw [← hh, Bd.state]; rfl
  have N0 := Fr.nil n0
  show OGot p.tables e below (s₁.setTop (entryFrame m #[(.ref a1)] 1)) _
  refine OGot.go (fun t k => castTop (ef9_2 m a1) k) ?_
  show OGot p.tables e below (s₁.setTop (mkF m 0 #[.val (.ref a1)] [])) _
  refine OGot.go (fun t k => XS.aloadN X0.here hx rfl (hb hby d9_0) rfl rfl k) ?_
  show OGot p.tables e below (s₁.setTop (mkF m 1 #[.val (.ref a1)] [(.ref a1)])) _
  obtain ⟨_, _, ⟨T6, L6, k6, n6⟩, -, X6, ⟨Lc6, hQ6, l6, y6, z6⟩, st6⟩ := Jvm.LawKit.callS X0 hx (y := (⟨"java/util/ImmutableCollections", "listCopy", "(Ljava/util/Collection;)Ljava/util/List;"⟩ : MethodName)) hown (mvT hZ (ow hw 50 rfl)) (mvT hZ (ow hw 51 rfl)) (mvT hZ (ow hw 52 rfl)) (mvT hZ (ow hw 53 rfl)) (by decide) (backOf (W := 0) (rm10_2 l Z a0 hw [] G a1 a2 k3 a4 a5 h0 n0 O0 E_a1 F_size_a1 F_elementData_a1 E_a2 V_a2 O_k3 E_a5 E_a4) hZ (ow hw 53 rfl) (ow hw 52 rfl) (by decide) (by decide)) (g := (mkF m 1 #[.val (.ref a1)] [(.ref a1)])) rfl (by rw [hml]; rfl) (argsL := [(.ref a1)]) (rest := []) (lenOf pd_4 rfl) rfl (by show 2 * 0 + _ ≤ _; exact Nat.le_of_eq rfl) (hb hby d9_1) (fun _ _ => ⟨rfl, e0, (by decide : 0 + 2 ≤ _), (by decide : 0 + 4 ≤ _)⟩)
  dsimp only [Pt.U, Pt.locs, Pt.cells, Pt.slots] at X6 l6 y6 z6 st6 hQ6
  subst l6 y6 z6
  obtain ⟨N6q, b6_10_6, rfl, szb6_10_6_6, K6, Fo6_0, Fo6_1, Fo6_2⟩ := hQ6
  have g_b6_10_6 : n0 ≤ b6_10_6 := Nat.le_trans (osz O0) szb6_10_6_6
  have sz_b6_10_6 : h0.size ≤ b6_10_6 := Nat.le_trans (OKeep.refl h0 []).1 szb6_10_6_6
  have Kc6 := (OKeep.refl h0 []).trans K6 oin0
  have O6 := OKeep.old O0 K6 oge0
  have N6 := Fr.app N0 N6q
  refine OGot.go st6 ?_
  show OGot p.tables e below (T6.setTop (mkF m 4 #[.val (.ref a1)] [(.ref b6_10_6)])) _
  obtain ⟨fs, hr, hrun, hended, hW, hsame⟩ := X6.leave (v := some (.ref b6_10_6)) (fun h => by rw [Bd.returns] at h; cases h)
  refine ⟨_, _, oretA X6 hx Bd.returns rfl rfl (hb hby d9_4) hr, hrun, hended, _, _, rfl, ?_, ⟨_, rfl⟩, hW, hsame.mono (by decide) (by decide)⟩
  show Q9_2 Z m_OA w_REJECTED w_EMPTY_ELEMENTDATA w_DEFAULTCAPACITY_EMPTY_ELEMENTDATA w_EMPTY_LIST w_EMPTY_LIST_elements w_EMPTY k_w_EMPTY_ELEMENTDATA k_w_DEFAULTCAPACITY_EMPTY_ELEMENTDATA k_w_EMPTY_LIST_elements a1 a2 k3 a4 a5 h0 n0 _ T6.heap _
  exact ⟨N6, b6_10_6, rfl, sz_b6_10_6, Kc6, Fo6_0, Fo6_1, Fo6_2⟩
theorem d29_10 : decode jdk_44_method_3_code 10 = .ok (.iconst 2, 1) := by decide +kernel
theorem d29_11 : decode jdk_44_method_3_code 11 = .ok (.goto 4, 3) := by decide +kernel
def Q29_1 (Z : State) (m_OA : Addr) (w_REJECTED : Addr) (w_EMPTY_ELEMENTDATA : Addr) (w_DEFAULTCAPACITY_EMPTY_ELEMENTDATA : Addr) (w_EMPTY_LIST : Addr) (w_EMPTY_LIST_elements : Addr) (w_EMPTY : Addr) (k_w_EMPTY_ELEMENTDATA : ClassId) (k_w_DEFAULTCAPACITY_EMPTY_ELEMENTDATA : ClassId) (k_w_EMPTY_LIST_elements : ClassId) (a1 : Addr) (a2 : Addr) (h0 : Heap) (n0 : Nat) (v : Option Value) (h : Heap) (L : List Loc) : Prop := v = some (.int (2 : Int32)) ∧ Fr n0 L ∧ h = h0
theorem ef29_1 (m : MethodId) (x0 : Addr) : entryFrame m #[(.ref x0)] 1 = mkF m 0 #[.val (.ref x0)] [] := by first | (simp [entryFrame, mkF, argsToLocals, Value.category]; done) | rfl
set_option maxRecDepth 65536 in
set_option maxHeartbeats 40000000 in
theorem rm29_1 (l : Launch) (Z : State) (a0 : Array Value) (hw : ∀ d ∈ tables_1, d.before a0 Z = true) (ws : List Jvm.Cond) {m_OA : Addr} {w_REJECTED : Addr} {w_EMPTY_ELEMENTDATA : Addr} {w_DEFAULTCAPACITY_EMPTY_ELEMENTDATA : Addr} {w_EMPTY_LIST : Addr} {w_EMPTY_LIST_elements : Addr} {w_EMPTY : Addr} {k_w_EMPTY_ELEMENTDATA : ClassId} {k_w_DEFAULTCAPACITY_EMPTY_ELEMENTDATA : ClassId} {k_w_EMPTY_LIST_elements : ClassId} (G : Glob Z m_OA w_REJECTED w_EMPTY_ELEMENTDATA w_DEFAULTCAPACITY_EMPTY_ELEMENTDATA w_EMPTY_LIST w_EMPTY_LIST_elements w_EMPTY k_w_EMPTY_ELEMENTDATA k_w_DEFAULTCAPACITY_EMPTY_ELEMENTDATA k_w_EMPTY_LIST_elements) (a1 : Addr) (a2 : Addr) (h0 : Heap) (n0 : Nat) (O0 : Old Z n0 h0) (F_e1_a1 : Fld Z h0 a1 "java/util/ImmutableCollections$List12" "e1" "Ljava/lang/Object;" (.ref a2)) (E_a2 : Exa Z h0 a2 "com/example/curtail/curtail/Placement$Cell") :
    MetFree l (⟨"java/util/ImmutableCollections$List12", "size", "()I"⟩ : MethodName) (head1 (Jvm.Cond.code (⟨"java/util/ImmutableCollections$List12", "size", "()I"⟩ : MethodName) jdk_44_method_3_code 1 (some .int) :: ws) ({ frames := 0, cells := 0, slots := 0, locals := 0 } : Room)) (fun a U => a = #[(.ref a1)] ∧ Z.Warmed39 U.vm ∧ U.heap = h0) (fun _ _ _ _ _ => True) (fun _ U o U' => ∃ v L, o = .returned v ∧ Q29_1 Z m_OA w_REJECTED w_EMPTY_ELEMENTDATA w_DEFAULTCAPACITY_EMPTY_ELEMENTDATA w_EMPTY_LIST w_EMPTY_LIST_elements w_EMPTY k_w_EMPTY_ELEMENTDATA k_w_DEFAULTCAPACITY_EMPTY_ELEMENTDATA k_w_EMPTY_LIST_elements a1 a2 h0 n0 v U'.heap L ∧ FrameEnd U o U' L ({ frames := 0, cells := 0, slots := 0, locals := 0 } : Room).cells ({ frames := 0, cells := 0, slots := 0, locals := 0 } : Room).slots) := by
  refine MetFree.of_bodySF (plainFor_of_name pn_java_util_ImmutableCollections_List12) hisR ?_
  intro p e s m args below meth c s₁ Bd hml0 hP hK
  obtain ⟨rfl, hZ, hh⟩ := hP
  have hx := Bd.exec
  have hby := Bd.bytes
  have hml : c.maxLocals = 1 := hml0
  have hown : s.vm.findClass "java/util/ImmutableCollections$List12" = some m.cls := findClass_of_methodNamed Bd.named
  have hnm := (name_of_methodNamed Bd.named Bd.method).1
  have X0 : Stand p l e ({ frames := 0, cells := 0, slots := 0, locals := 0 } : Room) s m #[(.ref a1)] below meth c s₁ [] 0 0 := Stand.of_body Bd
  have e0 : s₁.heap = h0 := by rw [← hh, Bd.state]; rfl
  have N0 := Fr.nil n0
  show OGot p.tables e below (s₁.setTop (entryFrame m #[(.ref a1)] 1)) _
  refine OGot.go (fun t k => castTop (ef29_1 m a1) k) ?_
  show OGot p.tables e below (s₁.setTop (mkF m 0 #[.val (.ref a1)] [])) _
  refine OGot.go (fun t k => XS.aloadN X0.here hx rfl (hb hby d29_0) rfl rfl k) ?_
  show OGot p.tables e below (s₁.setTop (mkF m 1 #[.val (.ref a1)] [(.ref a1)])) _
  obtain ⟨T3, X3, e3, st3⟩ := getF X0 hx hZ hown (host := "") (Or.inl (ow hw 199 rfl)) Via.refl e0 F_e1_a1 (g := (mkF m 1 #[.val (.ref a1)] [(.ref a1)])) rfl rfl (hb hby d29_1)
  refine OGot.go st3 ?_
  show OGot p.tables e below (T3.setTop (mkF m 4 #[.val (.ref a1)] [(.ref a2)])) _
  obtain ⟨T4, X4, e4, st4⟩ := getS2 X3 hx hZ hown (Or.inr (ow hw 207 rfl)) Via.refl e3 (G.2.2.2.2.2.2.2.2.2.2.2.1.ext O0.2) (g := (mkF m 4 #[.val (.ref a1)] [(.ref a2)])) rfl (hb hby d29_4)
  refine OGot.go st4 ?_
  show OGot p.tables e below (T4.setTop (mkF m 7 #[.val (.ref a1)] [(.ref w_EMPTY), (.ref a2)])) _
  have ne5 : a2 ≠ w_EMPTY := (ne_exa E_a2 (G.2.2.2.2.2.2.2.2.2.2.2.2.1.ext O0.2) (by decide))
  refine OGot.go (fun t k => Jvm.RoadKit.acmp (g := (mkF m 7 #[.val (.ref a1)] [(.ref w_EMPTY), (.ref a2)])) X4 hx rfl rfl rfl (pc0 := 7) (pc' := 10) (same := false) rfl (hb hby d29_7) rfl (decide_eq_false fun q => ne5 (Value.ref.inj q)) (by decide) (by decide) k) ?_
  show OGot p.tables e below (T4.setTop (mkF m 10 #[.val (.ref a1)] [])) _
  refine OGot.go (fun t k => XS.iconst X4.here hx rfl (hb hby d29_10) k) ?_
  show OGot p.tables e below (T4.setTop (mkF m 11 #[.val (.ref a1)] [(.int (2 : Int32))])) _
  refine OGot.go (fun t k => XS.goto X4.here hx rfl (pc0 := 11) (pc' := 15) rfl (hb hby d29_11) (by decide) (by decide) k) ?_
  show OGot p.tables e below (T4.setTop (mkF m 15 #[.val (.ref a1)] [(.int (2 : Int32))])) _
  obtain ⟨fs, hr, hrun, hended, hW, hsame⟩ := X4.leave (v := some (.int (2 : Int32))) (fun h => by rw [Bd.returns] at h; cases h)
  refine ⟨_, _, retI X4 hx Bd.returns (hb hby d29_15) hr, hrun, hended, _, _, rfl, ?_, ⟨_, rfl⟩, hW, hsame.mono (by decide) (by decide)⟩
  exact (⟨rfl, N0, e4⟩ : Q29_1 Z m_OA w_REJECTED w_EMPTY_ELEMENTDATA w_DEFAULTCAPACITY_EMPTY_ELEMENTDATA w_EMPTY_LIST w_EMPTY_LIST_elements w_EMPTY k_w_EMPTY_ELEMENTDATA k_w_DEFAULTCAPACITY_EMPTY_ELEMENTDATA k_w_EMPTY_LIST_elements a1 a2 h0 n0 _ T4.heap _)
theorem d7_21 : decode prog_14_method_1_code 21 = .ok (.aload_n 1, 1) := by decide +kernel
theorem d7_22 : decode prog_14_method_1_code 22 = .ok (.iload_n 2, 1) := by decide +kernel
theorem d7_23 : decode prog_14_method_1_code 23 = .ok (.invokeinterface 17 2, 5) := by decide +kernel
theorem d30_9 : decode jdk_44_method_5_code 9 = .ok (.iload_n 1, 1) := by decide +kernel
theorem d30_10 : decode jdk_44_method_5_code 10 = .ok (.iconst 1, 1) := by decide +kernel
theorem d30_11 : decode jdk_44_method_5_code 11 = .ok (.if_icmp .ne 18, 3) := by decide +kernel
theorem d30_14 : decode jdk_44_method_5_code 14 = .ok (.aload_n 0, 1) := by decide +kernel
theorem d30_15 : decode jdk_44_method_5_code 15 = .ok (.getfield 24, 3) := by decide +kernel
theorem d30_18 : decode jdk_44_method_5_code 18 = .ok (.getstatic 19, 3) := by decide +kernel
theorem d30_21 : decode jdk_44_method_5_code 21 = .ok (.if_acmp .eq 8, 3) := by decide +kernel
theorem d30_24 : decode jdk_44_method_5_code 24 = .ok (.aload_n 0, 1) := by decide +kernel
theorem d30_25 : decode jdk_44_method_5_code 25 = .ok (.getfield 24, 3) := by decide +kernel
theorem d30_28 : decode jdk_44_method_5_code 28 = .ok (.areturn, 1) := by decide +kernel
def Q30_1 (Z : State) (m_OA : Addr) (w_REJECTED : Addr) (w_EMPTY_ELEMENTDATA : Addr) (w_DEFAULTCAPACITY_EMPTY_ELEMENTDATA : Addr) (w_EMPTY_LIST : Addr) (w_EMPTY_LIST_elements : Addr) (w_EMPTY : Addr) (k_w_EMPTY_ELEMENTDATA : ClassId) (k_w_DEFAULTCAPACITY_EMPTY_ELEMENTDATA : ClassId) (k_w_EMPTY_LIST_elements : ClassId) (a1 : Addr) (a2 : Addr) (h0 : Heap) (n0 : Nat) (v : Option Value) (h : Heap) (L : List Loc) : Prop := v = some (.ref a2) ∧ Fr n0 L ∧ h = h0
theorem ef30_1 (m : MethodId) (x0 : Addr) : entryFrame m #[(.ref x0), (.int (1 : Int32))] 2 = mkF m 0 #[.val (.ref x0), .val (.int (1 : Int32))] [] := by first | (simp [entryFrame, mkF, argsToLocals, Value.category]; done) | rfl
set_option maxRecDepth 65536 in
set_option maxHeartbeats 40000000 in
theorem rm30_1 (l : Launch) (Z : State) (a0 : Array Value) (hw : ∀ d ∈ tables_1, d.before a0 Z = true) (ws : List Jvm.Cond) {m_OA : Addr} {w_REJECTED : Addr} {w_EMPTY_ELEMENTDATA : Addr} {w_DEFAULTCAPACITY_EMPTY_ELEMENTDATA : Addr} {w_EMPTY_LIST : Addr} {w_EMPTY_LIST_elements : Addr} {w_EMPTY : Addr} {k_w_EMPTY_ELEMENTDATA : ClassId} {k_w_DEFAULTCAPACITY_EMPTY_ELEMENTDATA : ClassId} {k_w_EMPTY_LIST_elements : ClassId} (G : Glob Z m_OA w_REJECTED w_EMPTY_ELEMENTDATA w_DEFAULTCAPACITY_EMPTY_ELEMENTDATA w_EMPTY_LIST w_EMPTY_LIST_elements w_EMPTY k_w_EMPTY_ELEMENTDATA k_w_DEFAULTCAPACITY_EMPTY_ELEMENTDATA k_w_EMPTY_LIST_elements) (a1 : Addr) (a2 : Addr) (h0 : Heap) (n0 : Nat) (O0 : Old Z n0 h0) (F_e1_a1 : Fld Z h0 a1 "java/util/ImmutableCollections$List12" "e1" "Ljava/lang/Object;" (.ref a2)) (E_a2 : Exa Z h0 a2 "com/example/curtail/curtail/Placement$Cell") :
    MetFree l (⟨"java/util/ImmutableCollections$List12", "get", "(I)Ljava/lang/Object;"⟩ : MethodName) (head1 (Jvm.Cond.code (⟨"java/util/ImmutableCollections$List12", "get", "(I)Ljava/lang/Object;"⟩ : MethodName) jdk_44_method_5_code 2 (some (.object "java/lang/Object")) :: ws) ({ frames := 0, cells := 0, slots := 0, locals := 0 } : Room)) (fun a U => a = #[(.ref a1), (.int (1 : Int32))] ∧ Z.Warmed39 U.vm ∧ U.heap = h0) (fun _ _ _ _ _ => True) (fun _ U o U' => ∃ v L, o = .returned v ∧ Q30_1 Z m_OA w_REJECTED w_EMPTY_ELEMENTDATA w_DEFAULTCAPACITY_EMPTY_ELEMENTDATA w_EMPTY_LIST w_EMPTY_LIST_elements w_EMPTY k_w_EMPTY_ELEMENTDATA k_w_DEFAULTCAPACITY_EMPTY_ELEMENTDATA k_w_EMPTY_LIST_elements a1 a2 h0 n0 v U'.heap L ∧ FrameEnd U o U' L ({ frames := 0, cells := 0, slots := 0, locals := 0 } : Room).cells ({ frames := 0, cells := 0, slots := 0, locals := 0 } : Room).slots) := by
  refine MetFree.of_bodySF (plainFor_of_name pn_java_util_ImmutableCollections_List12) hisR ?_
  intro p e s m args below meth c s₁ Bd hml0 hP hK
  obtain ⟨rfl, hZ, hh⟩ := hP
  have hx := Bd.exec
  have hby := Bd.bytes
  have hml : c.maxLocals = 2 := hml0
  have hown : s.vm.findClass "java/util/ImmutableCollections$List12" = some m.cls := findClass_of_methodNamed Bd.named
  have hnm := (name_of_methodNamed Bd.named Bd.method).1
  have X0 : Stand p l e ({ frames := 0, cells := 0, slots := 0, locals := 0 } : Room) s m #[(.ref a1), (.int (1 : Int32))] below meth c s₁ [] 0 0 := Stand.of_body Bd
  have e0 : s₁.heap = h0 := by rw [← hh, Bd.state]; rfl
  have N0 := Fr.nil n0
  show OGot p.tables e below (s₁.setTop (entryFrame m #[(.ref a1), (.int (1 : Int32))] 2)) _
  refine OGot.go (fun t k => castTop (ef30_1 m a1) k) ?_
  show OGot p.tables e below (s₁.setTop (mkF m 0 #[.val (.ref a1), .val (.int (1 : Int32))] [])) _
  refine OGot.go (fun t k => XS.iloadN X0.here hx rfl (hb hby d30_0) rfl k) ?_
  show OGot p.tables e below (s₁.setTop (mkF m 1 #[.val (.ref a1), .val (.int (1 : Int32))] [(.int (1 : Int32))])) _
  refine OGot.go (fun t k => XS.ifYes X0.here hx rfl (pc0 := 1) (pc' := 9) rfl (hb hby d30_1) rfl (by decide) (by decide) (by decide) k) ?_
  show OGot p.tables e below (s₁.setTop (mkF m 9 #[.val (.ref a1), .val (.int (1 : Int32))] [])) _
  refine OGot.go (fun t k => XS.iloadN X0.here hx rfl (hb hby d30_9) rfl k) ?_
  show OGot p.tables e below (s₁.setTop (mkF m 10 #[.val (.ref a1), .val (.int (1 : Int32))] [(.int (1 : Int32))])) _
  refine OGot.go (fun t k => XS.iconst X0.here hx rfl (hb hby d30_10) k) ?_
  show OGot p.tables e below (s₁.setTop (mkF m 11 #[.val (.ref a1), .val (.int (1 : Int32))] [(.int (1 : Int32)), (.int (1 : Int32))])) _
  refine OGot.go (fun t k => XS.icmpNo X0.here hx rfl (hb hby d30_11) rfl (by decide) k) ?_
  show OGot p.tables e below (s₁.setTop (mkF m 14 #[.val (.ref a1), .val (.int (1 : Int32))] [])) _
  refine OGot.go (fun t k => XS.aloadN X0.here hx rfl (hb hby d30_14) rfl rfl k) ?_
  show OGot p.tables e below (s₁.setTop (mkF m 15 #[.val (.ref a1), .val (.int (1 : Int32))] [(.ref a1)])) _
  obtain ⟨T3, X3, e3, st3⟩ := getF X0 hx hZ hown (host := "") (Or.inl (ow hw 199 rfl)) Via.refl e0 F_e1_a1 (g := (mkF m 15 #[.val (.ref a1), .val (.int (1 : Int32))] [(.ref a1)])) rfl rfl (hb hby d30_15)
  refine OGot.go st3 ?_
  show OGot p.tables e below (T3.setTop (mkF m 18 #[.val (.ref a1), .val (.int (1 : Int32))] [(.ref a2)])) _
  obtain ⟨T4, X4, e4, st4⟩ := getS2 X3 hx hZ hown (Or.inr (ow hw 207 rfl)) Via.refl e3 (G.2.2.2.2.2.2.2.2.2.2.2.1.ext O0.2) (g := (mkF m 18 #[.val (.ref a1), .val (.int (1 : Int32))] [(.ref a2)])) rfl (hb hby d30_18)
  refine OGot.go st4 ?_
  show OGot p.tables e below (T4.setTop (mkF m 21 #[.val (.ref a1), .val (.int (1 : Int32))] [(.ref w_EMPTY), (.ref a2)])) _
  have ne5 : a2 ≠ w_EMPTY := (ne_exa E_a2 (G.2.2.2.2.2.2.2.2.2.2.2.2.1.ext O0.2) (by decide))
  refine OGot.go (fun t k => Jvm.RoadKit.acmp (g := (mkF m 21 #[.val (.ref a1), .val (.int (1 : Int32))] [(.ref w_EMPTY), (.ref a2)])) X4 hx rfl rfl rfl (pc0 := 21) (pc' := 24) (same := false) rfl (hb hby d30_21) rfl (decide_eq_false fun q => ne5 (Value.ref.inj q)) (by decide) (by decide) k) ?_
  show OGot p.tables e below (T4.setTop (mkF m 24 #[.val (.ref a1), .val (.int (1 : Int32))] [])) _
  refine OGot.go (fun t k => XS.aloadN X4.here hx rfl (hb hby d30_24) rfl rfl k) ?_
  show OGot p.tables e below (T4.setTop (mkF m 25 #[.val (.ref a1), .val (.int (1 : Int32))] [(.ref a1)])) _
  obtain ⟨T6, X6, e6, st6⟩ := getF X4 hx hZ hown (host := "") (Or.inl (ow hw 199 rfl)) Via.refl e4 F_e1_a1 (g := (mkF m 25 #[.val (.ref a1), .val (.int (1 : Int32))] [(.ref a1)])) rfl rfl (hb hby d30_25)
  refine OGot.go st6 ?_
  show OGot p.tables e below (T6.setTop (mkF m 28 #[.val (.ref a1), .val (.int (1 : Int32))] [(.ref a2)])) _
  obtain ⟨fs, hr, hrun, hended, hW, hsame⟩ := X6.leave (v := some (.ref a2)) (fun h => by rw [Bd.returns] at h; cases h)
  refine ⟨_, _, oretA X6 hx Bd.returns rfl rfl (hb hby d30_28) hr, hrun, hended, _, _, rfl, ?_, ⟨_, rfl⟩, hW, hsame.mono (by decide) (by decide)⟩
  exact (⟨rfl, N0, e6⟩ : Q30_1 Z m_OA w_REJECTED w_EMPTY_ELEMENTDATA w_DEFAULTCAPACITY_EMPTY_ELEMENTDATA w_EMPTY_LIST w_EMPTY_LIST_elements w_EMPTY k_w_EMPTY_ELEMENTDATA k_w_DEFAULTCAPACITY_EMPTY_ELEMENTDATA k_w_EMPTY_LIST_elements a1 a2 h0 n0 _ T6.heap _)
theorem d7_28 : decode prog_14_method_1_code 28 = .ok (.checkcast 21, 3) := by decide +kernel
theorem d7_31 : decode prog_14_method_1_code 31 = .ok (.invokevirtual 23, 3) := by decide +kernel
theorem d7_34 : decode prog_14_method_1_code 34 = .ok (.aload_n 1, 1) := by decide +kernel
theorem d7_35 : decode prog_14_method_1_code 35 = .ok (.iload_n 2, 1) := by decide +kernel
theorem d7_36 : decode prog_14_method_1_code 36 = .ok (.iconst 1, 1) := by decide +kernel
theorem d7_37 : decode prog_14_method_1_code 37 = .ok (.isub, 1) := by decide +kernel
theorem d7_38 : decode prog_14_method_1_code 38 = .ok (.invokeinterface 17 2, 5) := by decide +kernel
theorem d7_43 : decode prog_14_method_1_code 43 = .ok (.checkcast 21, 3) := by decide +kernel
theorem d7_46 : decode prog_14_method_1_code 46 = .ok (.invokevirtual 23, 3) := by decide +kernel
theorem d7_49 : decode prog_14_method_1_code 49 = .ok (.if_icmp .gt 20, 3) := by decide +kernel
theorem own_ab {p2 p3 va vb : Int32} (h1 : va = (if (f1 p2 p3) = (f2 p2 p3) then (if (f2 p2 p3) < (2147483647 : Int32) then (f1 p2 p3) else ((f2 p2 p3) - (1 : Int32))) else (f1 p2 p3))) (h2 : vb = (if (f1 p2 p3) = (f2 p2 p3) then (if (f2 p2 p3) < (2147483647 : Int32) then ((f1 p2 p3) + (1 : Int32)) else (f2 p2 p3)) else (f2 p2 p3))) : va < vb := by
  subst h1 h2
  have e1 := c_iadd p2 1
  have e2 := c_isub p2 1
  have e3 := c_iadd p3 1
  have e4 := c_isub p3 1
  have r1 := rng32 p2
  have r2 := rng32 p3
  have r3 := rng32 (p2 + 1)
  have r4 := rng32 (p2 - 1)
  have r5 := rng32 (p3 + 1)
  have r6 := rng32 (p3 - 1)
  have o : (1 : Int32).toInt = 1 := rfl
  have o2 : (2147483647 : Int32).toInt = 2147483647 := rfl
  unfold f1 f2
  by_cases a : p2 < p3
  · have b : ¬ p3 < p2 := by simp only [Int32.lt_iff_toInt_lt] at *; omega
    have c : ¬ p2 = p3 := fun q => by subst q; exact b a
    simp only [a, b, c, if_true, if_false]
  · by_cases b : p3 < p2
    · have c : ¬ p3 = p2 := fun q => by subst q; exact a b
      simp only [a, b, c, if_true, if_false]
    · have c : p2 = p3 := Int32.toInt_inj.mp (by simp only [Int32.lt_iff_toInt_lt] at *; omega)
      subst c
      by_cases d : p2 < (2147483647 : Int32)
      · simp only [a, d, if_true, if_false]
        simp only [Int32.lt_iff_toInt_lt] at *
        omega
      · simp only [a, d, if_true, if_false]
        simp only [Int32.lt_iff_toInt_lt] at *
        omega
theorem d7_69 : decode prog_14_method_1_code 69 = .ok (.iinc 2 1, 3) := by decide +kernel
theorem d7_72 : decode prog_14_method_1_code 72 = .ok (.goto (-61), 3) := by decide +kernel
def Q7_2 (Z : State) (m_OA : Addr) (w_REJECTED : Addr) (w_EMPTY_ELEMENTDATA : Addr) (w_DEFAULTCAPACITY_EMPTY_ELEMENTDATA : Addr) (w_EMPTY_LIST : Addr) (w_EMPTY_LIST_elements : Addr) (w_EMPTY : Addr) (k_w_EMPTY_ELEMENTDATA : ClassId) (k_w_DEFAULTCAPACITY_EMPTY_ELEMENTDATA : ClassId) (k_w_EMPTY_LIST_elements : ClassId) (a1 : Addr) (a2 : Addr) (a4 : Addr) (k5 : ClassId) (a6 : Addr) (a7 : Addr) (p12 : Int32) (p17 : Int32) (h0 : Heap) (n0 : Nat) (v : Option Value) (h : Heap) (L : List Loc) : Prop := Fr n0 L ∧ ∃ b6_10_6_8 : Addr, v = none ∧ h0.size ≤ b6_10_6_8 ∧ OKeep h0 h [(a1, Jvm.RoadKit.slotOf Z "com/example/curtail/curtail/Placement" "aCells" "Ljava/util/List;")] ∧ Fld Z h a1 "com/example/curtail/curtail/Placement" "aCells" "Ljava/util/List;" (.ref b6_10_6_8) ∧ Exa Z h b6_10_6_8 "java/util/ImmutableCollections$List12" ∧ Fld Z h b6_10_6_8 "java/util/ImmutableCollections$List12" "e0" "Ljava/lang/Object;" (.ref a6) ∧ Fld Z h b6_10_6_8 "java/util/ImmutableCollections$List12" "e1" "Ljava/lang/Object;" (.ref a7)
theorem ef7_2 (m : MethodId) (x0 : Addr) (x1 : Addr) : entryFrame m #[(.ref x0), (.ref x1)] 3 = mkF m 0 #[.val (.ref x0), .val (.ref x1), .unset] [] := by first | (simp [entryFrame, mkF, argsToLocals, Value.category]; done) | rfl
set_option maxRecDepth 65536 in
set_option maxHeartbeats 40000000 in
theorem rm7_2 (l : Launch) (Z : State) (a0 : Array Value) (hw : ∀ d ∈ tables_1, d.before a0 Z = true) (ws : List Jvm.Cond) {m_OA : Addr} {w_REJECTED : Addr} {w_EMPTY_ELEMENTDATA : Addr} {w_DEFAULTCAPACITY_EMPTY_ELEMENTDATA : Addr} {w_EMPTY_LIST : Addr} {w_EMPTY_LIST_elements : Addr} {w_EMPTY : Addr} {k_w_EMPTY_ELEMENTDATA : ClassId} {k_w_DEFAULTCAPACITY_EMPTY_ELEMENTDATA : ClassId} {k_w_EMPTY_LIST_elements : ClassId} (G : Glob Z m_OA w_REJECTED w_EMPTY_ELEMENTDATA w_DEFAULTCAPACITY_EMPTY_ELEMENTDATA w_EMPTY_LIST w_EMPTY_LIST_elements w_EMPTY k_w_EMPTY_ELEMENTDATA k_w_DEFAULTCAPACITY_EMPTY_ELEMENTDATA k_w_EMPTY_LIST_elements) (a1 : Addr) (a2 : Addr) (a4 : Addr) (k5 : ClassId) (a6 : Addr) (a7 : Addr) (p12 : Int32) (p17 : Int32) (h0 : Heap) (n0 : Nat) (O0 : Old Z n0 h0) (E_a2 : Exa Z h0 a2 "java/util/ArrayList") (F_size_a2 : Fld Z h0 a2 "java/util/ArrayList" "size" "I" (.int (2 : Int32))) (F_elementData_a2 : Fld Z h0 a2 "java/util/ArrayList" "elementData" "[Ljava/lang/Object;" (.ref a4)) (E_a4 : Exa Z h0 a4 "[Ljava/lang/Object;") (V_a4 : Arv Z h0 a4 k5 (.object "java/lang/Object") (10 : Int32) [(.ref a6), (.ref a7), .null, .null, .null, .null, .null, .null, .null, .null] .null) (O_k5 : Ovr Z k5 "java/lang/Object") (E_a7 : Exa Z h0 a7 "com/example/curtail/curtail/Placement$Cell") (E_a6 : Exa Z h0 a6 "com/example/curtail/curtail/Placement$Cell") (F_nSlot_a7 : Fld Z h0 a7 "com/example/curtail/curtail/Placement$Cell" "nSlot" "I" (.int p12)) (F_nSlot_a6 : Fld Z h0 a6 "com/example/curtail/curtail/Placement$Cell" "nSlot" "I" (.int p17)) (hc_1 : p17 < p12) (E_a1 : Exa Z h0 a1 "com/example/curtail/curtail/Placement") (F_aCells_a1 : Fld Z h0 a1 "com/example/curtail/curtail/Placement" "aCells" "Ljava/util/List;" .null) (g_a1 : n0 ≤ a1) :
    MetFree l (⟨"com/example/curtail/curtail/Placement", "<init>", "(Ljava/util/List;)V"⟩ : MethodName) (head1 (Jvm.Cond.code (⟨"com/example/curtail/curtail/Placement", "<init>", "(Ljava/util/List;)V"⟩ : MethodName) prog_14_method_1_code 3 none :: ws) ({ frames := 8, cells := 2, slots := 4, locals := 101 } : Room)) (fun a U => a = #[(.ref a1), (.ref a2)] ∧ Z.Warmed39 U.vm ∧ U.heap = h0) (fun _ _ _ _ _ => True) (fun _ U o U' => ∃ v L, o = .returned v ∧ Q7_2 Z m_OA w_REJECTED w_EMPTY_ELEMENTDATA w_DEFAULTCAPACITY_EMPTY_ELEMENTDATA w_EMPTY_LIST w_EMPTY_LIST_elements w_EMPTY k_w_EMPTY_ELEMENTDATA k_w_DEFAULTCAPACITY_EMPTY_ELEMENTDATA k_w_EMPTY_LIST_elements a1 a2 a4 k5 a6 a7 p12 p17 h0 n0 v U'.heap L ∧ FrameEnd U o U' L ({ frames := 8, cells := 2, slots := 4, locals := 101 } : Room).cells ({ frames := 8, cells := 2, slots := 4, locals := 101 } : Room).slots) := by
  refine MetFree.of_bodySF (plainFor_of_name pn_com_example_curtail_curtail_Placement) hisR ?_
  intro p e s m args below meth c s₁ Bd hml0 hP hK
  obtain ⟨rfl, hZ, hh⟩ := hP
  have hx := Bd.exec
  have hby := Bd.bytes
  have hml : c.maxLocals = 3 := hml0
  have hown : s.vm.findClass "com/example/curtail/curtail/Placement" = some m.cls := findClass_of_methodNamed Bd.named
  have hnm := (name_of_methodNamed Bd.named Bd.method).1
  have X0 : Stand p l e ({ frames := 8, cells := 2, slots := 4, locals := 101 } : Room) s m #[(.ref a1), (.ref a2)] below meth c s₁ [] 0 0 := Stand.of_body Bd
  have e0 : s₁.heap = h0 := by rw [← hh, Bd.state]; rfl
  have N0 := Fr.nil n0
  show OGot p.tables e below (s₁.setTop (entryFrame m #[(.ref a1), (.ref a2)] 3)) _
  refine OGot.go (fun t k => castTop (ef7_2 m a1 a2) k) ?_
  show OGot p.tables e below (s₁.setTop (mkF m 0 #[.val (.ref a1), .val (.ref a2), .unset] [])) _
  refine OGot.go (fun t k => XS.aloadN X0.here hx rfl (hb hby d7_0) rfl rfl k) ?_
  show OGot p.tables e below (s₁.setTop (mkF m 1 #[.val (.ref a1), .val (.ref a2), .unset] [(.ref a1)])) _
  obtain ⟨_, _, ⟨T3, L3, k3, n3⟩, -, X3, ⟨Lc3, hQ3, l3, y3, z3⟩, st3⟩ := X0.specialBack hx (y := (⟨"java/lang/Record", "<init>", "()V"⟩ : MethodName)) rfl hown (mvT hZ (ow hw 40 rfl)) (mvT hZ (ow hw 41 rfl)) (mvT hZ (ow hw 44 rfl)) (by decide) (backOf (W := 0) (rm8 l Z a0 hw [] G a1 h0 n0 O0 ) hZ (ow hw 44 rfl) (ow hw 43 rfl) (by decide) (by decide)) (g := (mkF m 1 #[.val (.ref a1), .val (.ref a2), .unset] [(.ref a1)])) rfl (by rw [hml]; rfl) (Steps.refl _) (a := a1) (argsL := []) (rest := []) (lenOf pd_1 rfl) rfl (by show 2 * 0 + _ ≤ _; exact Nat.le_of_eq rfl) (hb hby d7_1) (fun _ _ => ⟨rfl, e0, (by decide : 0 + 0 ≤ _), (by decide : 0 + 0 ≤ _)⟩)
  dsimp only [Pt.U, Pt.locs, Pt.cells, Pt.slots] at X3 l3 y3 z3 st3 hQ3
  subst l3 y3 z3
  obtain ⟨rfl, N3q, e3⟩ := hQ3
  have N3 := Fr.app N0 N3q
  refine OGot.on st3 ?_
  show OGot p.tables e below (T3.setTop (mkF m 4 #[.val (.ref a1), .val (.ref a2), .unset] [])) _
  refine OGot.go (fun t k => XS.aloadN X3.here hx rfl (hb hby d7_4) rfl rfl k) ?_
  show OGot p.tables e below (T3.setTop (mkF m 5 #[.val (.ref a1), .val (.ref a2), .unset] [(.ref a2)])) _
  obtain ⟨_, _, ⟨T8, L8, k8, n8⟩, -, X8, ⟨Lc8, hQ8, l8, y8, z8⟩, st8⟩ := Jvm.LawKit.callS X3 hx (y := (⟨"java/util/List", "copyOf", "(Ljava/util/Collection;)Ljava/util/List;"⟩ : MethodName)) hown (mvT hZ (ow hw 46 rfl)) (mvT hZ (ow hw 47 rfl)) (mvT hZ (ow hw 48 rfl)) (mvT hZ (ow hw 49 rfl)) (by decide) (backOf (W := 0) (rm9_2 l Z a0 hw [] G a2 a4 k5 a6 a7 h0 n0 O0 E_a2 F_size_a2 F_elementData_a2 E_a4 V_a4 O_k5 E_a7 E_a6) hZ (ow hw 49 rfl) (ow hw 48 rfl) (by decide) (by decide)) (g := (mkF m 5 #[.val (.ref a1), .val (.ref a2), .unset] [(.ref a2)])) rfl (by rw [hml]; rfl) (argsL := [(.ref a2)]) (rest := []) (lenOf pd_4 rfl) rfl (by show 2 * 0 + _ ≤ _; exact Nat.le_of_eq rfl) (hb hby d7_5) (fun _ _ => ⟨rfl, e3, (by decide : 0 + 2 ≤ _), (by decide : 0 + 4 ≤ _)⟩)
  dsimp only [Pt.U, Pt.locs, Pt.cells, Pt.slots] at X8 l8 y8 z8 st8 hQ8
  subst l8 y8 z8
  obtain ⟨N8q, b6_10_6_8, rfl, szb6_10_6_8_8, K8, Fo8_0, Fo8_1, Fo8_2⟩ := hQ8
  have g_b6_10_6_8 : n0 ≤ b6_10_6_8 := Nat.le_trans (osz O0) szb6_10_6_8_8
  have sz_b6_10_6_8 : h0.size ≤ b6_10_6_8 := Nat.le_trans (OKeep.refl h0 [(a1, Jvm.RoadKit.slotOf Z "com/example/curtail/curtail/Placement" "aCells" "Ljava/util/List;")]).1 szb6_10_6_8_8
  have Kc8 := (OKeep.refl h0 [(a1, Jvm.RoadKit.slotOf Z "com/example/curtail/curtail/Placement" "aCells" "Ljava/util/List;")]).trans K8 oin0
  have O8 := OKeep.old O0 K8 oge0
  have N8 := Fr.app N3 N8q
  refine OGot.go st8 ?_
  show OGot p.tables e below (T8.setTop (mkF m 8 #[.val (.ref a1), .val (.ref a2), .unset] [(.ref b6_10_6_8)])) _
  refine OGot.go (fun t k => XS.astoreN X8.here hx rfl (hb hby d7_8) rfl rfl (l' := #[.val (.ref a1), .val (.ref b6_10_6_8), .unset]) rfl k) ?_
  show OGot p.tables e below (T8.setTop (mkF m 9 #[.val (.ref a1), .val (.ref b6_10_6_8), .unset] [])) _
  refine OGot.go (fun t k => XS.iconst X8.here hx rfl (hb hby d7_9) k) ?_
  show OGot p.tables e below (T8.setTop (mkF m 10 #[.val (.ref a1), .val (.ref b6_10_6_8), .unset] [(.int (1 : Int32))])) _
  refine OGot.go (fun t k => XS.istoreN X8.here hx rfl (hb hby d7_10) rfl (l' := #[.val (.ref a1), .val (.ref b6_10_6_8), .val (.int (1 : Int32))]) rfl k) ?_
  show OGot p.tables e below (T8.setTop (mkF m 11 #[.val (.ref a1), .val (.ref b6_10_6_8), .val (.int (1 : Int32))] [])) _
  refine OGot.go (fun t k => XS.iloadN X8.here hx rfl (hb hby d7_11) rfl k) ?_
  show OGot p.tables e below (T8.setTop (mkF m 12 #[.val (.ref a1), .val (.ref b6_10_6_8), .val (.int (1 : Int32))] [(.int (1 : Int32))])) _
  refine OGot.go (fun t k => XS.aloadN X8.here hx rfl (hb hby d7_12) rfl rfl k) ?_
  show OGot p.tables e below (T8.setTop (mkF m 13 #[.val (.ref a1), .val (.ref b6_10_6_8), .val (.int (1 : Int32))] [(.ref b6_10_6_8), (.int (1 : Int32))])) _
  obtain ⟨cq9, kq9, q9a, q9b, q9c⟩ := isOf hZ rfl Fo8_0
  obtain ⟨_, _, ⟨T9, L9, k9, n9⟩, -, X9, ⟨Lc9, hQ9, l9, y9, z9⟩, st9⟩ := X8.interfaceBack hx (xi := (⟨"java/util/List", "size", "()I"⟩ : MethodName)) (y := (⟨"java/util/ImmutableCollections$List12", "size", "()I"⟩ : MethodName)) hown (mvT hZ (ow hw 75 rfl)) (mvT hZ (ow hw 76 rfl)) (mvT hZ (ow hw 77 rfl)) (mvT hZ (ow hw 201 rfl)) (mvT hZ (ow hw 202 rfl)) (mvT hZ (ow hw 203 rfl)) (mvT hZ (ow hw 204 rfl)) (mvT hZ (ow hw 205 rfl)) (by decide) (backOf (W := 1) (rm29_1 l Z a0 hw [] G b6_10_6_8 a7 T8.heap n0 O8 Fo8_2 (OKeep.exa E_a7 K8)) hZ (ow hw 206 rfl) (ow hw 174 rfl) (by decide) (by decide)) q9a q9b q9c (g := (mkF m 13 #[.val (.ref a1), .val (.ref b6_10_6_8), .val (.int (1 : Int32))] [(.ref b6_10_6_8), (.int (1 : Int32))])) rfl (by rw [hml]; rfl) (Steps.refl _) (argsL := []) (rest := [(.int (1 : Int32))]) (lenOf pd_5 rfl) rfl (by show 2 * 0 + _ ≤ _; exact Nat.le_of_eq rfl) (hb hby d7_13) (fun _ _ => ⟨rfl, rfl, (by decide : 2 + 0 ≤ _), (by decide : 4 + 0 ≤ _)⟩)
  dsimp only [Pt.U, Pt.locs, Pt.cells, Pt.slots] at X9 l9 y9 z9 st9 hQ9
  subst l9 y9 z9
  obtain ⟨rfl, N9q, e9⟩ := hQ9
  have N9 := Fr.app N8 N9q
  refine OGot.on st9 ?_
  show OGot p.tables e below (T9.setTop (mkF m 18 #[.val (.ref a1), .val (.ref b6_10_6_8), .val (.int (1 : Int32))] [(.int (2 : Int32)), (.int (1 : Int32))])) _
  refine OGot.go (fun t k => XS.icmpNo X9.here hx rfl (hb hby d7_18) rfl (by decide) k) ?_
  show OGot p.tables e below (T9.setTop (mkF m 21 #[.val (.ref a1), .val (.ref b6_10_6_8), .val (.int (1 : Int32))] [])) _
  refine OGot.go (fun t k => XS.aloadN X9.here hx rfl (hb hby d7_21) rfl rfl k) ?_
  show OGot p.tables e below (T9.setTop (mkF m 22 #[.val (.ref a1), .val (.ref b6_10_6_8), .val (.int (1 : Int32))] [(.ref b6_10_6_8)])) _
  refine OGot.go (fun t k => XS.iloadN X9.here hx rfl (hb hby d7_22) rfl k) ?_
  show OGot p.tables e below (T9.setTop (mkF m 23 #[.val (.ref a1), .val (.ref b6_10_6_8), .val (.int (1 : Int32))] [(.int (1 : Int32)), (.ref b6_10_6_8)])) _
  obtain ⟨cq10, kq10, q10a, q10b, q10c⟩ := isOf hZ e9 Fo8_0
  obtain ⟨_, _, ⟨T10, L10, k10, n10⟩, -, X10, ⟨Lc10, hQ10, l10, y10, z10⟩, st10⟩ := X9.interfaceBack hx (xi := (⟨"java/util/List", "get", "(I)Ljava/lang/Object;"⟩ : MethodName)) (y := (⟨"java/util/ImmutableCollections$List12", "get", "(I)Ljava/lang/Object;"⟩ : MethodName)) hown (mvT hZ (ow hw 208 rfl)) (mvT hZ (ow hw 209 rfl)) (mvT hZ (ow hw 210 rfl)) (mvT hZ (ow hw 211 rfl)) (mvT hZ (ow hw 212 rfl)) (mvT hZ (ow hw 213 rfl)) (mvT hZ (ow hw 214 rfl)) (mvT hZ (ow hw 205 rfl)) (by decide) (backOf (W := 0) (rm30_1 l Z a0 hw [] G b6_10_6_8 a7 T8.heap n0 O8 Fo8_2 (OKeep.exa E_a7 K8)) hZ (ow hw 215 rfl) (ow hw 174 rfl) (by decide) (by decide)) q10a q10b q10c (g := (mkF m 23 #[.val (.ref a1), .val (.ref b6_10_6_8), .val (.int (1 : Int32))] [(.int (1 : Int32)), (.ref b6_10_6_8)])) rfl (by rw [hml]; rfl) (Steps.refl _) (argsL := [(.int (1 : Int32))]) (rest := []) (lenOf pd_17 rfl) rfl (by show 2 * 0 + _ ≤ _; exact Nat.le_of_eq rfl) (hb hby d7_23) (fun _ _ => ⟨rfl, e9, (by decide : 2 + 0 ≤ _), (by decide : 4 + 0 ≤ _)⟩)
  dsimp only [Pt.U, Pt.locs, Pt.cells, Pt.slots] at X10 l10 y10 z10 st10 hQ10
  subst l10 y10 z10
  obtain ⟨rfl, N10q, e10⟩ := hQ10
  have N10 := Fr.app N9 N10q
  refine OGot.on st10 ?_
  show OGot p.tables e below (T10.setTop (mkF m 28 #[.val (.ref a1), .val (.ref b6_10_6_8), .val (.int (1 : Int32))] [(.ref a7)])) _
  obtain ⟨T11, X11, e11, st11⟩ := castY X10 hx hZ hown (ow hw 216 rfl) e10 (Ins.self (OKeep.exa E_a7 K8)) (g := (mkF m 28 #[.val (.ref a1), .val (.ref b6_10_6_8), .val (.int (1 : Int32))] [(.ref a7)])) rfl rfl (hb hby d7_28)
  refine OGot.go st11 ?_
  show OGot p.tables e below (T11.setTop (mkF m 31 #[.val (.ref a1), .val (.ref b6_10_6_8), .val (.int (1 : Int32))] [(.ref a7)])) _
  have F14 : Fld Z T8.heap a7 "com/example/curtail/curtail/Placement$Cell" "nSlot" "I" (.int p12) := (OKeep.fld F_nSlot_a7 K8 onin0)
  obtain ⟨cq13, kq13, q13a, q13b, q13c⟩ := isOf hZ e11 (OKeep.exa E_a7 K8)
  obtain ⟨_, _, ⟨T13, L13, k13, n13⟩, -, X13, ⟨Lc13, hQ13, l13, y13, z13⟩, st13⟩ := X11.virtualBack hx (y := (⟨"com/example/curtail/curtail/Placement$Cell", "nSlot", "()I"⟩ : MethodName)) (z := (⟨"com/example/curtail/curtail/Placement$Cell", "nSlot", "()I"⟩ : MethodName)) hown (mvT hZ (ow hw 218 rfl)) (mvT hZ (ow hw 219 rfl)) (notFace_of_selects (args := #[]) (mvT hZ (ow hw 221 rfl))) (mvT hZ (ow hw 221 rfl)) (mvT hZ (ow hw 220 rfl)) (by decide) (backOf (W := 0) (rm31 l Z a0 hw [] G a7 p12 T8.heap n0 O8 F14) hZ (ow hw 222 rfl) (ow hw 106 rfl) (by decide) (by decide)) q13a q13c (g := (mkF m 31 #[.val (.ref a1), .val (.ref b6_10_6_8), .val (.int (1 : Int32))] [(.ref a7)])) rfl (by rw [hml]; rfl) (Steps.refl _) (argsL := []) (rest := []) (lenOf pd_5 rfl) rfl (by show 2 * 0 + _ ≤ _; exact Nat.le_of_eq rfl) (hb hby d7_31) (fun _ _ => ⟨rfl, e11, (by decide : 2 + 0 ≤ _), (by decide : 4 + 0 ≤ _)⟩)
  dsimp only [Pt.U, Pt.locs, Pt.cells, Pt.slots] at X13 l13 y13 z13 st13 hQ13
  subst l13 y13 z13
  obtain ⟨rfl, N13q, e13⟩ := hQ13
  have N13 := Fr.app N10 N13q
  refine OGot.on st13 ?_
  show OGot p.tables e below (T13.setTop (mkF m 34 #[.val (.ref a1), .val (.ref b6_10_6_8), .val (.int (1 : Int32))] [(.int p12)])) _
  refine OGot.go (fun t k => XS.aloadN X13.here hx rfl (hb hby d7_34) rfl rfl k) ?_
  show OGot p.tables e below (T13.setTop (mkF m 35 #[.val (.ref a1), .val (.ref b6_10_6_8), .val (.int (1 : Int32))] [(.ref b6_10_6_8), (.int p12)])) _
  refine OGot.go (fun t k => XS.iloadN X13.here hx rfl (hb hby d7_35) rfl k) ?_
  show OGot p.tables e below (T13.setTop (mkF m 36 #[.val (.ref a1), .val (.ref b6_10_6_8), .val (.int (1 : Int32))] [(.int (1 : Int32)), (.ref b6_10_6_8), (.int p12)])) _
  refine OGot.go (fun t k => XS.iconst X13.here hx rfl (hb hby d7_36) k) ?_
  show OGot p.tables e below (T13.setTop (mkF m 37 #[.val (.ref a1), .val (.ref b6_10_6_8), .val (.int (1 : Int32))] [(.int (1 : Int32)), (.int (1 : Int32)), (.ref b6_10_6_8), (.int p12)])) _
  refine OGot.go (fun t k => XS.isub X13.here hx rfl (hb hby d7_37) rfl k) ?_
  show OGot p.tables e below (T13.setTop (mkF m 38 #[.val (.ref a1), .val (.ref b6_10_6_8), .val (.int (1 : Int32))] [(.int ((1 : Int32) - (1 : Int32))), (.ref b6_10_6_8), (.int p12)])) _
  rw [show ((1 : Int32) - (1 : Int32)) = (0 : Int32) from by decide]
  show OGot p.tables e below (T13.setTop (mkF m 38 #[.val (.ref a1), .val (.ref b6_10_6_8), .val (.int (1 : Int32))] [(.int (0 : Int32)), (.ref b6_10_6_8), (.int p12)])) _
  obtain ⟨cq15, kq15, q15a, q15b, q15c⟩ := isOf hZ e13 Fo8_0
  obtain ⟨_, _, ⟨T15, L15, k15, n15⟩, -, X15, ⟨Lc15, hQ15, l15, y15, z15⟩, st15⟩ := X13.interfaceBack hx (xi := (⟨"java/util/List", "get", "(I)Ljava/lang/Object;"⟩ : MethodName)) (y := (⟨"java/util/ImmutableCollections$List12", "get", "(I)Ljava/lang/Object;"⟩ : MethodName)) hown (mvT hZ (ow hw 208 rfl)) (mvT hZ (ow hw 209 rfl)) (mvT hZ (ow hw 210 rfl)) (mvT hZ (ow hw 211 rfl)) (mvT hZ (ow hw 212 rfl)) (mvT hZ (ow hw 213 rfl)) (mvT hZ (ow hw 214 rfl)) (mvT hZ (ow hw 205 rfl)) (by decide) (backOf (W := 1) (rm30 l Z a0 hw [] G b6_10_6_8 a6 T8.heap n0 O8 Fo8_1) hZ (ow hw 215 rfl) (ow hw 174 rfl) (by decide) (by decide)) q15a q15b q15c (g := (mkF m 38 #[.val (.ref a1), .val (.ref b6_10_6_8), .val (.int (1 : Int32))] [(.int (0 : Int32)), (.ref b6_10_6_8), (.int p12)])) rfl (by rw [hml]; rfl) (Steps.refl _) (argsL := [(.int (0 : Int32))]) (rest := [(.int p12)]) (lenOf pd_17 rfl) rfl (by show 2 * 0 + _ ≤ _; exact Nat.le_of_eq rfl) (hb hby d7_38) (fun _ _ => ⟨rfl, e13, (by decide : 2 + 0 ≤ _), (by decide : 4 + 0 ≤ _)⟩)
  dsimp only [Pt.U, Pt.locs, Pt.cells, Pt.slots] at X15 l15 y15 z15 st15 hQ15
  subst l15 y15 z15
  obtain ⟨rfl, N15q, e15⟩ := hQ15
  have N15 := Fr.app N13 N15q
  refine OGot.on st15 ?_
  show OGot p.tables e below (T15.setTop (mkF m 43 #[.val (.ref a1), .val (.ref b6_10_6_8), .val (.int (1 : Int32))] [(.ref a6), (.int p12)])) _
  obtain ⟨T16, X16, e16, st16⟩ := castY X15 hx hZ hown (ow hw 216 rfl) e15 (Ins.self (OKeep.exa E_a6 K8)) (g := (mkF m 43 #[.val (.ref a1), .val (.ref b6_10_6_8), .val (.int (1 : Int32))] [(.ref a6), (.int p12)])) rfl rfl (hb hby d7_43)
  refine OGot.go st16 ?_
  show OGot p.tables e below (T16.setTop (mkF m 46 #[.val (.ref a1), .val (.ref b6_10_6_8), .val (.int (1 : Int32))] [(.ref a6), (.int p12)])) _
  have F19 : Fld Z T8.heap a6 "com/example/curtail/curtail/Placement$Cell" "nSlot" "I" (.int p17) := (OKeep.fld F_nSlot_a6 K8 onin0)
  obtain ⟨cq18, kq18, q18a, q18b, q18c⟩ := isOf hZ e16 (OKeep.exa E_a6 K8)
  obtain ⟨_, _, ⟨T18, L18, k18, n18⟩, -, X18, ⟨Lc18, hQ18, l18, y18, z18⟩, st18⟩ := X16.virtualBack hx (y := (⟨"com/example/curtail/curtail/Placement$Cell", "nSlot", "()I"⟩ : MethodName)) (z := (⟨"com/example/curtail/curtail/Placement$Cell", "nSlot", "()I"⟩ : MethodName)) hown (mvT hZ (ow hw 218 rfl)) (mvT hZ (ow hw 219 rfl)) (notFace_of_selects (args := #[]) (mvT hZ (ow hw 221 rfl))) (mvT hZ (ow hw 221 rfl)) (mvT hZ (ow hw 220 rfl)) (by decide) (backOf (W := 1) (rm31 l Z a0 hw [] G a6 p17 T8.heap n0 O8 F19) hZ (ow hw 222 rfl) (ow hw 106 rfl) (by decide) (by decide)) q18a q18c (g := (mkF m 46 #[.val (.ref a1), .val (.ref b6_10_6_8), .val (.int (1 : Int32))] [(.ref a6), (.int p12)])) rfl (by rw [hml]; rfl) (Steps.refl _) (argsL := []) (rest := [(.int p12)]) (lenOf pd_5 rfl) rfl (by show 2 * 0 + _ ≤ _; exact Nat.le_of_eq rfl) (hb hby d7_46) (fun _ _ => ⟨rfl, e16, (by decide : 2 + 0 ≤ _), (by decide : 4 + 0 ≤ _)⟩)
  dsimp only [Pt.U, Pt.locs, Pt.cells, Pt.slots] at X18 l18 y18 z18 st18 hQ18
  subst l18 y18 z18
  obtain ⟨rfl, N18q, e18⟩ := hQ18
  have N18 := Fr.app N15 N18q
  refine OGot.on st18 ?_
  show OGot p.tables e below (T18.setTop (mkF m 49 #[.val (.ref a1), .val (.ref b6_10_6_8), .val (.int (1 : Int32))] [(.int p17), (.int p12)])) _
  refine OGot.go (fun t k => XS.icmpYes X18.here hx rfl (pc0 := 49) (pc' := 69) rfl (hb hby d7_49) rfl (tlt hc_1).2.2.1 (by decide) (by decide) k) ?_
  show OGot p.tables e below (T18.setTop (mkF m 69 #[.val (.ref a1), .val (.ref b6_10_6_8), .val (.int (1 : Int32))] [])) _
  refine OGot.go (fun t k => XS.iinc X18.here hx rfl (hb hby d7_69) rfl (l' := #[.val (.ref a1), .val (.ref b6_10_6_8), .val (.int (2 : Int32))]) rfl k) ?_
  show OGot p.tables e below (T18.setTop (mkF m 72 #[.val (.ref a1), .val (.ref b6_10_6_8), .val (.int (2 : Int32))] [])) _
  refine OGot.go (fun t k => XS.goto X18.here hx rfl (pc0 := 72) (pc' := 11) rfl (hb hby d7_72) (by decide) (by decide) k) ?_
  show OGot p.tables e below (T18.setTop (mkF m 11 #[.val (.ref a1), .val (.ref b6_10_6_8), .val (.int (2 : Int32))] [])) _
  refine OGot.go (fun t k => XS.iloadN X18.here hx rfl (hb hby d7_11) rfl k) ?_
  show OGot p.tables e below (T18.setTop (mkF m 12 #[.val (.ref a1), .val (.ref b6_10_6_8), .val (.int (2 : Int32))] [(.int (2 : Int32))])) _
  refine OGot.go (fun t k => XS.aloadN X18.here hx rfl (hb hby d7_12) rfl rfl k) ?_
  show OGot p.tables e below (T18.setTop (mkF m 13 #[.val (.ref a1), .val (.ref b6_10_6_8), .val (.int (2 : Int32))] [(.ref b6_10_6_8), (.int (2 : Int32))])) _
  obtain ⟨cq20, kq20, q20a, q20b, q20c⟩ := isOf hZ e18 Fo8_0
  obtain ⟨_, _, ⟨T20, L20, k20, n20⟩, -, X20, ⟨Lc20, hQ20, l20, y20, z20⟩, st20⟩ := X18.interfaceBack hx (xi := (⟨"java/util/List", "size", "()I"⟩ : MethodName)) (y := (⟨"java/util/ImmutableCollections$List12", "size", "()I"⟩ : MethodName)) hown (mvT hZ (ow hw 75 rfl)) (mvT hZ (ow hw 76 rfl)) (mvT hZ (ow hw 77 rfl)) (mvT hZ (ow hw 201 rfl)) (mvT hZ (ow hw 202 rfl)) (mvT hZ (ow hw 203 rfl)) (mvT hZ (ow hw 204 rfl)) (mvT hZ (ow hw 205 rfl)) (by decide) (backOf (W := 1) (rm29_1 l Z a0 hw [] G b6_10_6_8 a7 T8.heap n0 O8 Fo8_2 (OKeep.exa E_a7 K8)) hZ (ow hw 206 rfl) (ow hw 174 rfl) (by decide) (by decide)) q20a q20b q20c (g := (mkF m 13 #[.val (.ref a1), .val (.ref b6_10_6_8), .val (.int (2 : Int32))] [(.ref b6_10_6_8), (.int (2 : Int32))])) rfl (by rw [hml]; rfl) (Steps.refl _) (argsL := []) (rest := [(.int (2 : Int32))]) (lenOf pd_5 rfl) rfl (by show 2 * 0 + _ ≤ _; exact Nat.le_of_eq rfl) (hb hby d7_13) (fun _ _ => ⟨rfl, e18, (by decide : 2 + 0 ≤ _), (by decide : 4 + 0 ≤ _)⟩)
  dsimp only [Pt.U, Pt.locs, Pt.cells, Pt.slots] at X20 l20 y20 z20 st20 hQ20
  subst l20 y20 z20
  obtain ⟨rfl, N20q, e20⟩ := hQ20
  have N20 := Fr.app N18 N20q
  refine OGot.on st20 ?_
  show OGot p.tables e below (T20.setTop (mkF m 18 #[.val (.ref a1), .val (.ref b6_10_6_8), .val (.int (2 : Int32))] [(.int (2 : Int32)), (.int (2 : Int32))])) _
  refine OGot.go (fun t k => XS.icmpYes X20.here hx rfl (pc0 := 18) (pc' := 75) rfl (hb hby d7_18) rfl (by decide) (by decide) (by decide) k) ?_
  show OGot p.tables e below (T20.setTop (mkF m 75 #[.val (.ref a1), .val (.ref b6_10_6_8), .val (.int (2 : Int32))] [])) _
  refine OGot.go (fun t k => XS.aloadN X20.here hx rfl (hb hby d7_75) rfl rfl k) ?_
  show OGot p.tables e below (T20.setTop (mkF m 76 #[.val (.ref a1), .val (.ref b6_10_6_8), .val (.int (2 : Int32))] [(.ref a1)])) _
  refine OGot.go (fun t k => XS.aloadN X20.here hx rfl (hb hby d7_76) rfl rfl k) ?_
  show OGot p.tables e below (T20.setTop (mkF m 77 #[.val (.ref a1), .val (.ref b6_10_6_8), .val (.int (2 : Int32))] [(.ref b6_10_6_8), (.ref a1)])) _
  have F21 : Fld Z T8.heap a1 "com/example/curtail/curtail/Placement" "aCells" "Ljava/util/List;" .null := (OKeep.fld F_aCells_a1 K8 onin0)
  obtain ⟨T22, h22, X22, e22, W22, st22⟩ := putF X20 hx hZ hown (host := "") (Or.inl (ow hw 87 rfl)) Via.refl e20 F21 (OKeep.exa E_a1 K8) (Or.inr ⟨(ow hw 88 rfl), rfl, hnm⟩) (ow hw 35 rfl) (ty := (.object "java/util/List")) (by decide) rfl rfl (g := (mkF m 77 #[.val (.ref a1), .val (.ref b6_10_6_8), .val (.int (2 : Int32))] [(.ref b6_10_6_8), (.ref a1)])) rfl rfl (hb hby d7_77)
  refine OGot.go st22 ?_
  have N22 := Fr.snoc X22 N20 g_a1
  have O22 := O8.wr W22 g_a1
  have K22 := Kc8.wr W22 (Or.inl (List.mem_of_getElem? (i := 0) rfl))
  have Fw22 : Fld Z h22 a1 "com/example/curtail/curtail/Placement" "aCells" "Ljava/util/List;" (.ref b6_10_6_8) := F21.same W22
  show OGot p.tables e below (T22.setTop (mkF m 80 #[.val (.ref a1), .val (.ref b6_10_6_8), .val (.int (2 : Int32))] [])) _
  obtain ⟨fs, hr, hrun, hended, hW, hsame⟩ := X22.leave (v := none) (fun _ => rfl)
  refine ⟨_, _, X22.returnOut hx Bd.returns (hb hby d7_80) hr, hrun, hended, _, _, rfl, ?_, ⟨_, rfl⟩, hW, hsame.mono (by decide) (by decide)⟩
  have ne23 : a1 ≠ b6_10_6_8 := (Nat.ne_of_lt (Nat.lt_of_lt_of_le E_a1.lt szb6_10_6_8_8))
  have F24 : Fld Z h22 b6_10_6_8 "java/util/ImmutableCollections$List12" "e0" "Ljava/lang/Object;" (.ref a6) := (Fo8_1.other W22 (Or.inl (Ne.symm ne23)))
  have F25 : Fld Z h22 b6_10_6_8 "java/util/ImmutableCollections$List12" "e1" "Ljava/lang/Object;" (.ref a7) := (Fo8_2.other W22 (Or.inl (Ne.symm ne23)))
  show Q7_2 Z m_OA w_REJECTED w_EMPTY_ELEMENTDATA w_DEFAULTCAPACITY_EMPTY_ELEMENTDATA w_EMPTY_LIST w_EMPTY_LIST_elements w_EMPTY k_w_EMPTY_ELEMENTDATA k_w_DEFAULTCAPACITY_EMPTY_ELEMENTDATA k_w_EMPTY_LIST_elements a1 a2 a4 k5 a6 a7 p12 p17 h0 n0 _ T22.heap _
  rw [e22]
  exact ⟨N22, b6_10_6_8, rfl, sz_b6_10_6_8, K22, Fw22, (Fo8_0.wr W22), F24, F25⟩
def Q33_1 (Z : State) (m_OA : Addr) (w_REJECTED : Addr) (w_EMPTY_ELEMENTDATA : Addr) (w_DEFAULTCAPACITY_EMPTY_ELEMENTDATA : Addr) (w_EMPTY_LIST : Addr) (w_EMPTY_LIST_elements : Addr) (w_EMPTY : Addr) (k_w_EMPTY_ELEMENTDATA : ClassId) (k_w_DEFAULTCAPACITY_EMPTY_ELEMENTDATA : ClassId) (k_w_EMPTY_LIST_elements : ClassId) (a1 : Addr) (a2 : Addr) (a7 : Addr) (p11 : Int32) (h0 : Heap) (n0 : Nat) (v : Option Value) (h : Heap) (L : List Loc) : Prop := v = some (.int p11) ∧ Fr n0 L ∧ h = h0
theorem ef33_1 (m : MethodId) (x0 : Addr) : entryFrame m #[(.ref x0)] 1 = mkF m 0 #[.val (.ref x0)] [] := by first | (simp [entryFrame, mkF, argsToLocals, Value.category]; done) | rfl
set_option maxRecDepth 65536 in
set_option maxHeartbeats 40000000 in
theorem rm33_1 (l : Launch) (Z : State) (a0 : Array Value) (hw : ∀ d ∈ tables_1, d.before a0 Z = true) (ws : List Jvm.Cond) {m_OA : Addr} {w_REJECTED : Addr} {w_EMPTY_ELEMENTDATA : Addr} {w_DEFAULTCAPACITY_EMPTY_ELEMENTDATA : Addr} {w_EMPTY_LIST : Addr} {w_EMPTY_LIST_elements : Addr} {w_EMPTY : Addr} {k_w_EMPTY_ELEMENTDATA : ClassId} {k_w_DEFAULTCAPACITY_EMPTY_ELEMENTDATA : ClassId} {k_w_EMPTY_LIST_elements : ClassId} (G : Glob Z m_OA w_REJECTED w_EMPTY_ELEMENTDATA w_DEFAULTCAPACITY_EMPTY_ELEMENTDATA w_EMPTY_LIST w_EMPTY_LIST_elements w_EMPTY k_w_EMPTY_ELEMENTDATA k_w_DEFAULTCAPACITY_EMPTY_ELEMENTDATA k_w_EMPTY_LIST_elements) (a1 : Addr) (a2 : Addr) (a7 : Addr) (p11 : Int32) (h0 : Heap) (n0 : Nat) (O0 : Old Z n0 h0) (F_aCells_a1 : Fld Z h0 a1 "com/example/curtail/curtail/Placement" "aCells" "Ljava/util/List;" (.ref a2)) (E_a2 : Exa Z h0 a2 "java/util/ImmutableCollections$List12") (F_e1_a2 : Fld Z h0 a2 "java/util/ImmutableCollections$List12" "e1" "Ljava/lang/Object;" (.ref a7)) (E_a7 : Exa Z h0 a7 "com/example/curtail/curtail/Placement$Cell") (F_nSlot_a7 : Fld Z h0 a7 "com/example/curtail/curtail/Placement$Cell" "nSlot" "I" (.int p11)) :
    MetFree l (⟨"com/example/curtail/curtail/Placement", "completionSlot", "()I"⟩ : MethodName) (head1 (Jvm.Cond.code (⟨"com/example/curtail/curtail/Placement", "completionSlot", "()I"⟩ : MethodName) prog_14_method_3_code 1 (some .int) :: ws) ({ frames := 1, cells := 0, slots := 0, locals := 13 } : Room)) (fun a U => a = #[(.ref a1)] ∧ Z.Warmed39 U.vm ∧ U.heap = h0) (fun _ _ _ _ _ => True) (fun _ U o U' => ∃ v L, o = .returned v ∧ Q33_1 Z m_OA w_REJECTED w_EMPTY_ELEMENTDATA w_DEFAULTCAPACITY_EMPTY_ELEMENTDATA w_EMPTY_LIST w_EMPTY_LIST_elements w_EMPTY k_w_EMPTY_ELEMENTDATA k_w_DEFAULTCAPACITY_EMPTY_ELEMENTDATA k_w_EMPTY_LIST_elements a1 a2 a7 p11 h0 n0 v U'.heap L ∧ FrameEnd U o U' L ({ frames := 1, cells := 0, slots := 0, locals := 13 } : Room).cells ({ frames := 1, cells := 0, slots := 0, locals := 13 } : Room).slots) := by
  refine MetFree.of_bodySF (plainFor_of_name pn_com_example_curtail_curtail_Placement) hisR ?_
  intro p e s m args below meth c s₁ Bd hml0 hP hK
  obtain ⟨rfl, hZ, hh⟩ := hP
  have hx := Bd.exec
  have hby := Bd.bytes
  have hml : c.maxLocals = 1 := hml0
  have hown : s.vm.findClass "com/example/curtail/curtail/Placement" = some m.cls := findClass_of_methodNamed Bd.named
  have hnm := (name_of_methodNamed Bd.named Bd.method).1
  have X0 : Stand p l e ({ frames := 1, cells := 0, slots := 0, locals := 13 } : Room) s m #[(.ref a1)] below meth c s₁ [] 0 0 := Stand.of_body Bd
  have e0 : s₁.heap = h0 := by rw [← hh, Bd.state]; rfl
  have N0 := Fr.nil n0
  show OGot p.tables e below (s₁.setTop (entryFrame m #[(.ref a1)] 1)) _
  refine OGot.go (fun t k => castTop (ef33_1 m a1) k) ?_
  show OGot p.tables e below (s₁.setTop (mkF m 0 #[.val (.ref a1)] [])) _
  refine OGot.go (fun t k => XS.aloadN X0.here hx rfl (hb hby d33_0) rfl rfl k) ?_
  show OGot p.tables e below (s₁.setTop (mkF m 1 #[.val (.ref a1)] [(.ref a1)])) _
  obtain ⟨T3, X3, e3, st3⟩ := getF X0 hx hZ hown (host := "") (Or.inl (ow hw 87 rfl)) Via.refl e0 F_aCells_a1 (g := (mkF m 1 #[.val (.ref a1)] [(.ref a1)])) rfl rfl (hb hby d33_1)
  refine OGot.go st3 ?_
  show OGot p.tables e below (T3.setTop (mkF m 4 #[.val (.ref a1)] [(.ref a2)])) _
  obtain ⟨cq4, kq4, q4a, q4b, q4c⟩ := isOf hZ e3 E_a2
  obtain ⟨_, _, ⟨T4, L4, k4, n4⟩, -, X4, ⟨Lc4, hQ4, l4, y4, z4⟩, st4⟩ := X3.interfaceBack hx (xi := (⟨"java/util/List", "isEmpty", "()Z"⟩ : MethodName)) (y := (⟨"java/util/ImmutableCollections$List12", "isEmpty", "()Z"⟩ : MethodName)) hown (mvT hZ (ow hw 94 rfl)) (mvT hZ (ow hw 95 rfl)) (mvT hZ (ow hw 96 rfl)) (mvT hZ (ow hw 223 rfl)) (mvT hZ (ow hw 224 rfl)) (mvT hZ (ow hw 225 rfl)) (mvT hZ (ow hw 226 rfl)) (mvT hZ (ow hw 205 rfl)) (by decide) (backOf (W := 0) (rm32 l Z a0 hw [] G a2 h0 n0 O0 ) hZ (ow hw 227 rfl) (ow hw 174 rfl) (by decide) (by decide)) q4a q4b q4c (g := (mkF m 4 #[.val (.ref a1)] [(.ref a2)])) rfl (by rw [hml]; rfl) (Steps.refl _) (argsL := []) (rest := []) (lenOf pd_2 rfl) rfl (by show 2 * 0 + _ ≤ _; exact Nat.le_of_eq rfl) (hb hby d33_4) (fun _ _ => ⟨rfl, e3, (by decide : 0 + 0 ≤ _), (by decide : 0 + 0 ≤ _)⟩)
  dsimp only [Pt.U, Pt.locs, Pt.cells, Pt.slots] at X4 l4 y4 z4 st4 hQ4
  subst l4 y4 z4
  obtain ⟨rfl, N4q, e4⟩ := hQ4
  have N4 := Fr.app N0 N4q
  refine OGot.on st4 ?_
  show OGot p.tables e below (T4.setTop (mkF m 9 #[.val (.ref a1)] [(.int (0 : Int32))])) _
  refine OGot.go (fun t k => XS.ifYes X4.here hx rfl (pc0 := 9) (pc' := 22) rfl (hb hby d33_9) rfl (by decide) (by decide) (by decide) k) ?_
  show OGot p.tables e below (T4.setTop (mkF m 22 #[.val (.ref a1)] [])) _
  refine OGot.go (fun t k => XS.aloadN X4.here hx rfl (hb hby d33_22) rfl rfl k) ?_
  show OGot p.tables e below (T4.setTop (mkF m 23 #[.val (.ref a1)] [(.ref a1)])) _
  obtain ⟨T5, X5, e5, st5⟩ := getF X4 hx hZ hown (host := "") (Or.inl (ow hw 87 rfl)) Via.refl e4 F_aCells_a1 (g := (mkF m 23 #[.val (.ref a1)] [(.ref a1)])) rfl rfl (hb hby d33_23)
  refine OGot.go st5 ?_
  show OGot p.tables e below (T5.setTop (mkF m 26 #[.val (.ref a1)] [(.ref a2)])) _
  refine OGot.go (fun t k => XS.aloadN X5.here hx rfl (hb hby d33_26) rfl rfl k) ?_
  show OGot p.tables e below (T5.setTop (mkF m 27 #[.val (.ref a1)] [(.ref a1), (.ref a2)])) _
  obtain ⟨T6, X6, e6, st6⟩ := getF X5 hx hZ hown (host := "") (Or.inl (ow hw 87 rfl)) Via.refl e5 F_aCells_a1 (g := (mkF m 27 #[.val (.ref a1)] [(.ref a1), (.ref a2)])) rfl rfl (hb hby d33_27)
  refine OGot.go st6 ?_
  show OGot p.tables e below (T6.setTop (mkF m 30 #[.val (.ref a1)] [(.ref a2), (.ref a2)])) _
  obtain ⟨cq8, kq8, q8a, q8b, q8c⟩ := isOf hZ e6 E_a2
  obtain ⟨_, _, ⟨T8, L8, k8, n8⟩, -, X8, ⟨Lc8, hQ8, l8, y8, z8⟩, st8⟩ := X6.interfaceBack hx (xi := (⟨"java/util/List", "size", "()I"⟩ : MethodName)) (y := (⟨"java/util/ImmutableCollections$List12", "size", "()I"⟩ : MethodName)) hown (mvT hZ (ow hw 75 rfl)) (mvT hZ (ow hw 76 rfl)) (mvT hZ (ow hw 77 rfl)) (mvT hZ (ow hw 201 rfl)) (mvT hZ (ow hw 202 rfl)) (mvT hZ (ow hw 203 rfl)) (mvT hZ (ow hw 204 rfl)) (mvT hZ (ow hw 205 rfl)) (by decide) (backOf (W := 1) (rm29_1 l Z a0 hw [] G a2 a7 h0 n0 O0 F_e1_a2 E_a7) hZ (ow hw 206 rfl) (ow hw 174 rfl) (by decide) (by decide)) q8a q8b q8c (g := (mkF m 30 #[.val (.ref a1)] [(.ref a2), (.ref a2)])) rfl (by rw [hml]; rfl) (Steps.refl _) (argsL := []) (rest := [(.ref a2)]) (lenOf pd_5 rfl) rfl (by show 2 * 0 + _ ≤ _; exact Nat.le_of_eq rfl) (hb hby d33_30) (fun _ _ => ⟨rfl, e6, (by decide : 0 + 0 ≤ _), (by decide : 0 + 0 ≤ _)⟩)
  dsimp only [Pt.U, Pt.locs, Pt.cells, Pt.slots] at X8 l8 y8 z8 st8 hQ8
  subst l8 y8 z8
  obtain ⟨rfl, N8q, e8⟩ := hQ8
  have N8 := Fr.app N4 N8q
  refine OGot.on st8 ?_
  show OGot p.tables e below (T8.setTop (mkF m 35 #[.val (.ref a1)] [(.int (2 : Int32)), (.ref a2)])) _
  refine OGot.go (fun t k => XS.iconst X8.here hx rfl (hb hby d33_35) k) ?_
  show OGot p.tables e below (T8.setTop (mkF m 36 #[.val (.ref a1)] [(.int (1 : Int32)), (.int (2 : Int32)), (.ref a2)])) _
  refine OGot.go (fun t k => XS.isub X8.here hx rfl (hb hby d33_36) rfl k) ?_
  show OGot p.tables e below (T8.setTop (mkF m 37 #[.val (.ref a1)] [(.int ((2 : Int32) - (1 : Int32))), (.ref a2)])) _
  rw [show ((2 : Int32) - (1 : Int32)) = (1 : Int32) from by decide]
  show OGot p.tables e below (T8.setTop (mkF m 37 #[.val (.ref a1)] [(.int (1 : Int32)), (.ref a2)])) _
  obtain ⟨cq9, kq9, q9a, q9b, q9c⟩ := isOf hZ e8 E_a2
  obtain ⟨_, _, ⟨T9, L9, k9, n9⟩, -, X9, ⟨Lc9, hQ9, l9, y9, z9⟩, st9⟩ := X8.interfaceBack hx (xi := (⟨"java/util/List", "get", "(I)Ljava/lang/Object;"⟩ : MethodName)) (y := (⟨"java/util/ImmutableCollections$List12", "get", "(I)Ljava/lang/Object;"⟩ : MethodName)) hown (mvT hZ (ow hw 208 rfl)) (mvT hZ (ow hw 209 rfl)) (mvT hZ (ow hw 210 rfl)) (mvT hZ (ow hw 211 rfl)) (mvT hZ (ow hw 212 rfl)) (mvT hZ (ow hw 213 rfl)) (mvT hZ (ow hw 214 rfl)) (mvT hZ (ow hw 205 rfl)) (by decide) (backOf (W := 0) (rm30_1 l Z a0 hw [] G a2 a7 h0 n0 O0 F_e1_a2 E_a7) hZ (ow hw 215 rfl) (ow hw 174 rfl) (by decide) (by decide)) q9a q9b q9c (g := (mkF m 37 #[.val (.ref a1)] [(.int (1 : Int32)), (.ref a2)])) rfl (by rw [hml]; rfl) (Steps.refl _) (argsL := [(.int (1 : Int32))]) (rest := []) (lenOf pd_17 rfl) rfl (by show 2 * 0 + _ ≤ _; exact Nat.le_of_eq rfl) (hb hby d33_37) (fun _ _ => ⟨rfl, e8, (by decide : 0 + 0 ≤ _), (by decide : 0 + 0 ≤ _)⟩)
  dsimp only [Pt.U, Pt.locs, Pt.cells, Pt.slots] at X9 l9 y9 z9 st9 hQ9
  subst l9 y9 z9
  obtain ⟨rfl, N9q, e9⟩ := hQ9
  have N9 := Fr.app N8 N9q
  refine OGot.on st9 ?_
  show OGot p.tables e below (T9.setTop (mkF m 42 #[.val (.ref a1)] [(.ref a7)])) _
  obtain ⟨T10, X10, e10, st10⟩ := castY X9 hx hZ hown (ow hw 216 rfl) e9 (Ins.self E_a7) (g := (mkF m 42 #[.val (.ref a1)] [(.ref a7)])) rfl rfl (hb hby d33_42)
  refine OGot.go st10 ?_
  show OGot p.tables e below (T10.setTop (mkF m 45 #[.val (.ref a1)] [(.ref a7)])) _
  obtain ⟨cq12, kq12, q12a, q12b, q12c⟩ := isOf hZ e10 E_a7
  obtain ⟨_, _, ⟨T12, L12, k12, n12⟩, -, X12, ⟨Lc12, hQ12, l12, y12, z12⟩, st12⟩ := X10.virtualBack hx (y := (⟨"com/example/curtail/curtail/Placement$Cell", "nSlot", "()I"⟩ : MethodName)) (z := (⟨"com/example/curtail/curtail/Placement$Cell", "nSlot", "()I"⟩ : MethodName)) hown (mvT hZ (ow hw 218 rfl)) (mvT hZ (ow hw 219 rfl)) (notFace_of_selects (args := #[]) (mvT hZ (ow hw 221 rfl))) (mvT hZ (ow hw 221 rfl)) (mvT hZ (ow hw 220 rfl)) (by decide) (backOf (W := 0) (rm31 l Z a0 hw [] G a7 p11 h0 n0 O0 F_nSlot_a7) hZ (ow hw 222 rfl) (ow hw 106 rfl) (by decide) (by decide)) q12a q12c (g := (mkF m 45 #[.val (.ref a1)] [(.ref a7)])) rfl (by rw [hml]; rfl) (Steps.refl _) (argsL := []) (rest := []) (lenOf pd_5 rfl) rfl (by show 2 * 0 + _ ≤ _; exact Nat.le_of_eq rfl) (hb hby d33_45) (fun _ _ => ⟨rfl, e10, (by decide : 0 + 0 ≤ _), (by decide : 0 + 0 ≤ _)⟩)
  dsimp only [Pt.U, Pt.locs, Pt.cells, Pt.slots] at X12 l12 y12 z12 st12 hQ12
  subst l12 y12 z12
  obtain ⟨rfl, N12q, e12⟩ := hQ12
  have N12 := Fr.app N9 N12q
  refine OGot.on st12 ?_
  show OGot p.tables e below (T12.setTop (mkF m 48 #[.val (.ref a1)] [(.int p11)])) _
  obtain ⟨fs, hr, hrun, hended, hW, hsame⟩ := X12.leave (v := some (.int p11)) (fun h => by rw [Bd.returns] at h; cases h)
  refine ⟨_, _, retI X12 hx Bd.returns (hb hby d33_48) hr, hrun, hended, _, _, rfl, ?_, ⟨_, rfl⟩, hW, hsame.mono (by decide) (by decide)⟩
  exact (⟨rfl, N12, e12⟩ : Q33_1 Z m_OA w_REJECTED w_EMPTY_ELEMENTDATA w_DEFAULTCAPACITY_EMPTY_ELEMENTDATA w_EMPTY_LIST w_EMPTY_LIST_elements w_EMPTY k_w_EMPTY_ELEMENTDATA k_w_DEFAULTCAPACITY_EMPTY_ELEMENTDATA k_w_EMPTY_LIST_elements a1 a2 a7 p11 h0 n0 _ T12.heap _)
theorem pn_com_example_curtail_curtail_PlacementIsAcceptedPinLaw : plainName "com/example/curtail/curtail/PlacementIsAcceptedPinLaw" = true := by first | (simp [plainName, overriddenIn]; done) | decide +kernel
def Q0 (Z : State) (m_OA : Addr) (w_REJECTED : Addr) (w_EMPTY_ELEMENTDATA : Addr) (w_DEFAULTCAPACITY_EMPTY_ELEMENTDATA : Addr) (w_EMPTY_LIST : Addr) (w_EMPTY_LIST_elements : Addr) (w_EMPTY : Addr) (k_w_EMPTY_ELEMENTDATA : ClassId) (k_w_DEFAULTCAPACITY_EMPTY_ELEMENTDATA : ClassId) (k_w_EMPTY_LIST_elements : ClassId) (p1 : Int32) (p2 : Int32) (p3 : Int32) (p4 : Int32) (p5 : Int32) (h0 : Heap) (n0 : Nat) (v : Option Value) (h : Heap) (L : List Loc) : Prop := v = some (.int (1 : Int32)) ∧ Fr n0 L
theorem ef0 (m : MethodId) (x0 : Int32) (x1 : Int32) (x2 : Int32) (x3 : Int32) (x4 : Int32) : entryFrame m #[(.int x0), (.int x1), (.int x2), (.int x3), (.int x4)] maxLocals = mkF m 0 #[.val (.int x0), .val (.int x1), .val (.int x2), .val (.int x3), .val (.int x4), .unset, .unset, .unset, .unset, .unset, .unset, .unset] [] := by first | (simp [entryFrame, mkF, argsToLocals, Value.category, maxLocals]; done) | rfl
set_option maxRecDepth 65536 in
set_option maxHeartbeats 40000000 in
theorem rm0 (l : Launch) (Z : State) (a0 : Array Value) (hw : ∀ d ∈ tables_1, d.before a0 Z = true) (ws : List Jvm.Cond) {m_OA : Addr} {w_REJECTED : Addr} {w_EMPTY_ELEMENTDATA : Addr} {w_DEFAULTCAPACITY_EMPTY_ELEMENTDATA : Addr} {w_EMPTY_LIST : Addr} {w_EMPTY_LIST_elements : Addr} {w_EMPTY : Addr} {k_w_EMPTY_ELEMENTDATA : ClassId} {k_w_DEFAULTCAPACITY_EMPTY_ELEMENTDATA : ClassId} {k_w_EMPTY_LIST_elements : ClassId} (G : Glob Z m_OA w_REJECTED w_EMPTY_ELEMENTDATA w_DEFAULTCAPACITY_EMPTY_ELEMENTDATA w_EMPTY_LIST w_EMPTY_LIST_elements w_EMPTY k_w_EMPTY_ELEMENTDATA k_w_DEFAULTCAPACITY_EMPTY_ELEMENTDATA k_w_EMPTY_LIST_elements) (p1 : Int32) (p2 : Int32) (p3 : Int32) (p4 : Int32) (p5 : Int32) (h0 : Heap) (n0 : Nat) (O0 : Old Z n0 h0) :
    MetFree l x (head1 (Jvm.Cond.code x code maxLocals ret :: ws) room_1) (fun a U => a = #[(.int p1), (.int p2), (.int p3), (.int p4), (.int p5)] ∧ Z.Warmed39 U.vm ∧ U.heap = h0) (fun _ _ _ _ _ => True) (fun _ U o U' => ∃ v L, o = .returned v ∧ Q0 Z m_OA w_REJECTED w_EMPTY_ELEMENTDATA w_DEFAULTCAPACITY_EMPTY_ELEMENTDATA w_EMPTY_LIST w_EMPTY_LIST_elements w_EMPTY k_w_EMPTY_ELEMENTDATA k_w_DEFAULTCAPACITY_EMPTY_ELEMENTDATA k_w_EMPTY_LIST_elements p1 p2 p3 p4 p5 h0 n0 v U'.heap L ∧ FrameEnd U o U' L room_1.cells room_1.slots) := by
  refine MetFree.of_bodySF (plainFor_of_name pn_com_example_curtail_curtail_PlacementIsAcceptedPinLaw) hisR ?_
  intro p e s m args below meth c s₁ Bd hml0 hP hK
  obtain ⟨rfl, hZ, hh⟩ := hP
  have hx := Bd.exec
  have hby := Bd.bytes
  have hml : c.maxLocals = 12 := hml0
  have hown : s.vm.findClass "com/example/curtail/curtail/PlacementIsAcceptedPinLaw" = some m.cls := findClass_of_methodNamed Bd.named
  have hnm := (name_of_methodNamed Bd.named Bd.method).1
  have X0 : Stand p l e room_1 s m #[(.int p1), (.int p2), (.int p3), (.int p4), (.int p5)] below meth c s₁ [] 0 0 := Stand.of_body Bd
  have e0 : s₁.heap = h0 := by rw [← hh, Bd.state]; rfl
  have N0 := Fr.nil n0
  show OGot p.tables e below (s₁.setTop (entryFrame m #[(.int p1), (.int p2), (.int p3), (.int p4), (.int p5)] maxLocals)) _
  refine OGot.go (fun t k => castTop (ef0 m p1 p2 p3 p4 p5) k) ?_
  show OGot p.tables e below (s₁.setTop (mkF m 0 #[.val (.int p1), .val (.int p2), .val (.int p3), .val (.int p4), .val (.int p5), .unset, .unset, .unset, .unset, .unset, .unset, .unset] [])) _
  refine OGot.go (fun t k => XS.iloadN X0.here hx rfl (hb hby at_0) rfl k) ?_
  show OGot p.tables e below (s₁.setTop (mkF m 1 #[.val (.int p1), .val (.int p2), .val (.int p3), .val (.int p4), .val (.int p5), .unset, .unset, .unset, .unset, .unset, .unset, .unset] [(.int p1)])) _
  refine OGot.go (fun t k => X0.ldcInt hx hown (mvT hZ (ow hw 0 rfl)) (g := (mkF m 1 #[.val (.int p1), .val (.int p2), .val (.int p3), .val (.int p4), .val (.int p5), .unset, .unset, .unset, .unset, .unset, .unset, .unset] [(.int p1)])) rfl (hb hby at_1) _ k) ?_
  show OGot p.tables e below (s₁.setTop (mkF m 3 #[.val (.int p1), .val (.int p2), .val (.int p3), .val (.int p4), .val (.int p5), .unset, .unset, .unset, .unset, .unset, .unset, .unset] [(.int (2147483647 : Int32)), (.int p1)])) _
  refine OGot.go (fun t k => XS.iand X0.here hx rfl (hb hby at_3) rfl k) ?_
  show OGot p.tables e below (s₁.setTop (mkF m 4 #[.val (.int p1), .val (.int p2), .val (.int p3), .val (.int p4), .val (.int p5), .unset, .unset, .unset, .unset, .unset, .unset, .unset] [(.int (p1 &&& (2147483647 : Int32)))])) _
  refine OGot.go (fun t k => XS.iconst X0.here hx rfl (hb hby at_4) k) ?_
  show OGot p.tables e below (s₁.setTop (mkF m 5 #[.val (.int p1), .val (.int p2), .val (.int p3), .val (.int p4), .val (.int p5), .unset, .unset, .unset, .unset, .unset, .unset, .unset] [(.int (3 : Int32)), (.int (p1 &&& (2147483647 : Int32)))])) _
  refine OGot.go (fun t k => iremM X0 hx rfl (hb hby at_5) rfl (by decide) k) ?_
  show OGot p.tables e below (s₁.setTop (mkF m 6 #[.val (.int p1), .val (.int p2), .val (.int p3), .val (.int p4), .val (.int p5), .unset, .unset, .unset, .unset, .unset, .unset, .unset] [(.int ((p1 &&& (2147483647 : Int32)) % (3 : Int32)))])) _
  refine OGot.go (fun t k => XS.istore X0.here hx rfl (hb hby at_6) rfl (l' := #[.val (.int p1), .val (.int p2), .val (.int p3), .val (.int p4), .val (.int p5), .val (.int ((p1 &&& (2147483647 : Int32)) % (3 : Int32))), .unset, .unset, .unset, .unset, .unset, .unset]) rfl k) ?_
  show OGot p.tables e below (s₁.setTop (mkF m 8 #[.val (.int p1), .val (.int p2), .val (.int p3), .val (.int p4), .val (.int p5), .val (.int ((p1 &&& (2147483647 : Int32)) % (3 : Int32))), .unset, .unset, .unset, .unset, .unset, .unset] [])) _
  refine OGot.go (fun t k => XS.iloadN X0.here hx rfl (hb hby at_8) rfl k) ?_
  show OGot p.tables e below (s₁.setTop (mkF m 9 #[.val (.int p1), .val (.int p2), .val (.int p3), .val (.int p4), .val (.int p5), .val (.int ((p1 &&& (2147483647 : Int32)) % (3 : Int32))), .unset, .unset, .unset, .unset, .unset, .unset] [(.int p2)])) _
  refine OGot.go (fun t k => XS.iloadN X0.here hx rfl (hb hby at_9) rfl k) ?_
  show OGot p.tables e below (s₁.setTop (mkF m 10 #[.val (.int p1), .val (.int p2), .val (.int p3), .val (.int p4), .val (.int p5), .val (.int ((p1 &&& (2147483647 : Int32)) % (3 : Int32))), .unset, .unset, .unset, .unset, .unset, .unset] [(.int p3), (.int p2)])) _
  obtain ⟨_, _, ⟨T6, L6, k6, n6⟩, -, X6, ⟨Lc6, hQ6, l6, y6, z6⟩, st6⟩ := Jvm.LawKit.callS X0 hx (y := (⟨"java/lang/Math", "min", "(II)I"⟩ : MethodName)) hown (mvT hZ (ow hw 1 rfl)) (mvT hZ (ow hw 2 rfl)) (mvT hZ (ow hw 3 rfl)) (mvT hZ (ow hw 4 rfl)) (by decide) (backOf (W := 0) (rm1 l Z a0 hw [] G p2 p3 h0 n0 O0 ) hZ (ow hw 4 rfl) (ow hw 3 rfl) (by decide) (by decide)) (g := (mkF m 10 #[.val (.int p1), .val (.int p2), .val (.int p3), .val (.int p4), .val (.int p5), .val (.int ((p1 &&& (2147483647 : Int32)) % (3 : Int32))), .unset, .unset, .unset, .unset, .unset, .unset] [(.int p3), (.int p2)])) rfl (by rw [hml]; rfl) (argsL := [(.int p2), (.int p3)]) (rest := []) (lenOf pd_0 rfl) rfl (by show 2 * 0 + _ ≤ _; exact Nat.le_of_eq rfl) (hb hby at_10) (fun _ _ => ⟨rfl, e0, (by decide : 0 + 0 ≤ _), (by decide : 0 + 0 ≤ _)⟩)
  dsimp only [Pt.U, Pt.locs, Pt.cells, Pt.slots] at X6 l6 y6 z6 st6 hQ6
  subst l6 y6 z6
  obtain ⟨rfl, N6q, e6⟩ := hQ6
  have N6 := Fr.app N0 N6q
  refine OGot.go st6 ?_
  show OGot p.tables e below (T6.setTop (mkF m 13 #[.val (.int p1), .val (.int p2), .val (.int p3), .val (.int p4), .val (.int p5), .val (.int ((p1 &&& (2147483647 : Int32)) % (3 : Int32))), .unset, .unset, .unset, .unset, .unset, .unset] [(.int (f1 p2 p3))])) _
  refine OGot.go (fun t k => XS.istore X6.here hx rfl (hb hby at_13) rfl (l' := #[.val (.int p1), .val (.int p2), .val (.int p3), .val (.int p4), .val (.int p5), .val (.int ((p1 &&& (2147483647 : Int32)) % (3 : Int32))), .val (.int (f1 p2 p3)), .unset, .unset, .unset, .unset, .unset]) rfl k) ?_
  show OGot p.tables e below (T6.setTop (mkF m 15 #[.val (.int p1), .val (.int p2), .val (.int p3), .val (.int p4), .val (.int p5), .val (.int ((p1 &&& (2147483647 : Int32)) % (3 : Int32))), .val (.int (f1 p2 p3)), .unset, .unset, .unset, .unset, .unset] [])) _
  refine OGot.go (fun t k => XS.iloadN X6.here hx rfl (hb hby at_15) rfl k) ?_
  show OGot p.tables e below (T6.setTop (mkF m 16 #[.val (.int p1), .val (.int p2), .val (.int p3), .val (.int p4), .val (.int p5), .val (.int ((p1 &&& (2147483647 : Int32)) % (3 : Int32))), .val (.int (f1 p2 p3)), .unset, .unset, .unset, .unset, .unset] [(.int p2)])) _
  refine OGot.go (fun t k => XS.iloadN X6.here hx rfl (hb hby at_16) rfl k) ?_
  show OGot p.tables e below (T6.setTop (mkF m 17 #[.val (.int p1), .val (.int p2), .val (.int p3), .val (.int p4), .val (.int p5), .val (.int ((p1 &&& (2147483647 : Int32)) % (3 : Int32))), .val (.int (f1 p2 p3)), .unset, .unset, .unset, .unset, .unset] [(.int p3), (.int p2)])) _
  obtain ⟨_, _, ⟨T7, L7, k7, n7⟩, -, X7, ⟨Lc7, hQ7, l7, y7, z7⟩, st7⟩ := Jvm.LawKit.callS X6 hx (y := (⟨"java/lang/Math", "max", "(II)I"⟩ : MethodName)) hown (mvT hZ (ow hw 5 rfl)) (mvT hZ (ow hw 6 rfl)) (mvT hZ (ow hw 3 rfl)) (mvT hZ (ow hw 7 rfl)) (by decide) (backOf (W := 0) (rm2 l Z a0 hw [] G p2 p3 h0 n0 O0 ) hZ (ow hw 7 rfl) (ow hw 3 rfl) (by decide) (by decide)) (g := (mkF m 17 #[.val (.int p1), .val (.int p2), .val (.int p3), .val (.int p4), .val (.int p5), .val (.int ((p1 &&& (2147483647 : Int32)) % (3 : Int32))), .val (.int (f1 p2 p3)), .unset, .unset, .unset, .unset, .unset] [(.int p3), (.int p2)])) rfl (by rw [hml]; rfl) (argsL := [(.int p2), (.int p3)]) (rest := []) (lenOf pd_0 rfl) rfl (by show 2 * 0 + _ ≤ _; exact Nat.le_of_eq rfl) (hb hby at_17) (fun _ _ => ⟨rfl, e6, (by decide : 0 + 0 ≤ _), (by decide : 0 + 0 ≤ _)⟩)
  dsimp only [Pt.U, Pt.locs, Pt.cells, Pt.slots] at X7 l7 y7 z7 st7 hQ7
  subst l7 y7 z7
  obtain ⟨rfl, N7q, e7⟩ := hQ7
  have N7 := Fr.app N6 N7q
  refine OGot.go st7 ?_
  show OGot p.tables e below (T7.setTop (mkF m 20 #[.val (.int p1), .val (.int p2), .val (.int p3), .val (.int p4), .val (.int p5), .val (.int ((p1 &&& (2147483647 : Int32)) % (3 : Int32))), .val (.int (f1 p2 p3)), .unset, .unset, .unset, .unset, .unset] [(.int (f2 p2 p3))])) _
  refine OGot.go (fun t k => XS.istore X7.here hx rfl (hb hby at_20) rfl (l' := #[.val (.int p1), .val (.int p2), .val (.int p3), .val (.int p4), .val (.int p5), .val (.int ((p1 &&& (2147483647 : Int32)) % (3 : Int32))), .val (.int (f1 p2 p3)), .val (.int (f2 p2 p3)), .unset, .unset, .unset, .unset]) rfl k) ?_
  show OGot p.tables e below (T7.setTop (mkF m 22 #[.val (.int p1), .val (.int p2), .val (.int p3), .val (.int p4), .val (.int p5), .val (.int ((p1 &&& (2147483647 : Int32)) % (3 : Int32))), .val (.int (f1 p2 p3)), .val (.int (f2 p2 p3)), .unset, .unset, .unset, .unset] [])) _
  refine OGot.go (fun t k => XS.iload X7.here hx rfl (hb hby at_22) rfl k) ?_
  show OGot p.tables e below (T7.setTop (mkF m 24 #[.val (.int p1), .val (.int p2), .val (.int p3), .val (.int p4), .val (.int p5), .val (.int ((p1 &&& (2147483647 : Int32)) % (3 : Int32))), .val (.int (f1 p2 p3)), .val (.int (f2 p2 p3)), .unset, .unset, .unset, .unset] [(.int (f1 p2 p3))])) _
  refine OGot.go (fun t k => XS.iload X7.here hx rfl (hb hby at_24) rfl k) ?_
  show OGot p.tables e below (T7.setTop (mkF m 26 #[.val (.int p1), .val (.int p2), .val (.int p3), .val (.int p4), .val (.int p5), .val (.int ((p1 &&& (2147483647 : Int32)) % (3 : Int32))), .val (.int (f1 p2 p3)), .val (.int (f2 p2 p3)), .unset, .unset, .unset, .unset] [(.int (f2 p2 p3)), (.int (f1 p2 p3))])) _
  refine OGot.go (B := T7.setTop (mkF m 51 #[.val (.int p1), .val (.int p2), .val (.int p3), .val (.int p4), .val (.int p5), .val (.int ((p1 &&& (2147483647 : Int32)) % (3 : Int32))), .val (.int (if (f1 p2 p3) = (f2 p2 p3) then (if (f2 p2 p3) < (2147483647 : Int32) then (f1 p2 p3) else ((f2 p2 p3) - (1 : Int32))) else (f1 p2 p3))), .val (.int (if (f1 p2 p3) = (f2 p2 p3) then (if (f2 p2 p3) < (2147483647 : Int32) then ((f1 p2 p3) + (1 : Int32)) else (f2 p2 p3)) else (f2 p2 p3))), .unset, .unset, .unset, .unset] [])) (fun t k => ?_) ?_
  · by_cases hj8 : (f1 p2 p3) = (f2 p2 p3)
    · refine XS.icmpNo X7.here hx rfl (hb hby at_26) rfl (teq hj8).2 ?_
      show Steps p.tables e below (T7.setTop (mkF m 29 #[.val (.int p1), .val (.int p2), .val (.int p3), .val (.int p4), .val (.int p5), .val (.int ((p1 &&& (2147483647 : Int32)) % (3 : Int32))), .val (.int (f1 p2 p3)), .val (.int (f2 p2 p3)), .unset, .unset, .unset, .unset] [])) _
      refine XS.iload X7.here hx rfl (hb hby at_29) rfl ?_
      show Steps p.tables e below (T7.setTop (mkF m 31 #[.val (.int p1), .val (.int p2), .val (.int p3), .val (.int p4), .val (.int p5), .val (.int ((p1 &&& (2147483647 : Int32)) % (3 : Int32))), .val (.int (f1 p2 p3)), .val (.int (f2 p2 p3)), .unset, .unset, .unset, .unset] [(.int (f2 p2 p3))])) _
      refine X7.ldcInt hx hown (mvT hZ (ow hw 0 rfl)) (g := (mkF m 31 #[.val (.int p1), .val (.int p2), .val (.int p3), .val (.int p4), .val (.int p5), .val (.int ((p1 &&& (2147483647 : Int32)) % (3 : Int32))), .val (.int (f1 p2 p3)), .val (.int (f2 p2 p3)), .unset, .unset, .unset, .unset] [(.int (f2 p2 p3))])) rfl (hb hby at_31) _ ?_
      show Steps p.tables e below (T7.setTop (mkF m 33 #[.val (.int p1), .val (.int p2), .val (.int p3), .val (.int p4), .val (.int p5), .val (.int ((p1 &&& (2147483647 : Int32)) % (3 : Int32))), .val (.int (f1 p2 p3)), .val (.int (f2 p2 p3)), .unset, .unset, .unset, .unset] [(.int (2147483647 : Int32)), (.int (f2 p2 p3))])) _
      by_cases hj9 : (f2 p2 p3) < (2147483647 : Int32)
      · refine XS.icmpNo X7.here hx rfl (hb hby at_33) rfl (tlt hj9).2.1 ?_
        show Steps p.tables e below (T7.setTop (mkF m 36 #[.val (.int p1), .val (.int p2), .val (.int p3), .val (.int p4), .val (.int p5), .val (.int ((p1 &&& (2147483647 : Int32)) % (3 : Int32))), .val (.int (f1 p2 p3)), .val (.int (f2 p2 p3)), .unset, .unset, .unset, .unset] [])) _
        refine XS.iload X7.here hx rfl (hb hby at_36) rfl ?_
        show Steps p.tables e below (T7.setTop (mkF m 38 #[.val (.int p1), .val (.int p2), .val (.int p3), .val (.int p4), .val (.int p5), .val (.int ((p1 &&& (2147483647 : Int32)) % (3 : Int32))), .val (.int (f1 p2 p3)), .val (.int (f2 p2 p3)), .unset, .unset, .unset, .unset] [(.int (f1 p2 p3))])) _
        refine XS.iconst X7.here hx rfl (hb hby at_38) ?_
        show Steps p.tables e below (T7.setTop (mkF m 39 #[.val (.int p1), .val (.int p2), .val (.int p3), .val (.int p4), .val (.int p5), .val (.int ((p1 &&& (2147483647 : Int32)) % (3 : Int32))), .val (.int (f1 p2 p3)), .val (.int (f2 p2 p3)), .unset, .unset, .unset, .unset] [(.int (1 : Int32)), (.int (f1 p2 p3))])) _
        refine XS.iadd X7.here hx rfl (hb hby at_39) rfl ?_
        show Steps p.tables e below (T7.setTop (mkF m 40 #[.val (.int p1), .val (.int p2), .val (.int p3), .val (.int p4), .val (.int p5), .val (.int ((p1 &&& (2147483647 : Int32)) % (3 : Int32))), .val (.int (f1 p2 p3)), .val (.int (f2 p2 p3)), .unset, .unset, .unset, .unset] [(.int ((f1 p2 p3) + (1 : Int32)))])) _
        refine XS.istore X7.here hx rfl (hb hby at_40) rfl (l' := #[.val (.int p1), .val (.int p2), .val (.int p3), .val (.int p4), .val (.int p5), .val (.int ((p1 &&& (2147483647 : Int32)) % (3 : Int32))), .val (.int (f1 p2 p3)), .val (.int ((f1 p2 p3) + (1 : Int32))), .unset, .unset, .unset, .unset]) rfl ?_
        show Steps p.tables e below (T7.setTop (mkF m 42 #[.val (.int p1), .val (.int p2), .val (.int p3), .val (.int p4), .val (.int p5), .val (.int ((p1 &&& (2147483647 : Int32)) % (3 : Int32))), .val (.int (f1 p2 p3)), .val (.int ((f1 p2 p3) + (1 : Int32))), .unset, .unset, .unset, .unset] [])) _
        refine XS.goto X7.here hx rfl (pc0 := 42) (pc' := 51) rfl (hb hby at_42) (by decide) (by decide) ?_
        show Steps p.tables e below (T7.setTop (mkF m 51 #[.val (.int p1), .val (.int p2), .val (.int p3), .val (.int p4), .val (.int p5), .val (.int ((p1 &&& (2147483647 : Int32)) % (3 : Int32))), .val (.int (f1 p2 p3)), .val (.int ((f1 p2 p3) + (1 : Int32))), .unset, .unset, .unset, .unset] [])) _
        simp only [if_pos hj8, if_pos hj9] at k
        exact k
      · refine XS.icmpYes X7.here hx rfl (pc0 := 33) (pc' := 45) rfl (hb hby at_33) rfl (flt hj9).2.1 (by decide) (by decide) ?_
        show Steps p.tables e below (T7.setTop (mkF m 45 #[.val (.int p1), .val (.int p2), .val (.int p3), .val (.int p4), .val (.int p5), .val (.int ((p1 &&& (2147483647 : Int32)) % (3 : Int32))), .val (.int (f1 p2 p3)), .val (.int (f2 p2 p3)), .unset, .unset, .unset, .unset] [])) _
        refine XS.iload X7.here hx rfl (hb hby at_45) rfl ?_
        show Steps p.tables e below (T7.setTop (mkF m 47 #[.val (.int p1), .val (.int p2), .val (.int p3), .val (.int p4), .val (.int p5), .val (.int ((p1 &&& (2147483647 : Int32)) % (3 : Int32))), .val (.int (f1 p2 p3)), .val (.int (f2 p2 p3)), .unset, .unset, .unset, .unset] [(.int (f2 p2 p3))])) _
        refine XS.iconst X7.here hx rfl (hb hby at_47) ?_
        show Steps p.tables e below (T7.setTop (mkF m 48 #[.val (.int p1), .val (.int p2), .val (.int p3), .val (.int p4), .val (.int p5), .val (.int ((p1 &&& (2147483647 : Int32)) % (3 : Int32))), .val (.int (f1 p2 p3)), .val (.int (f2 p2 p3)), .unset, .unset, .unset, .unset] [(.int (1 : Int32)), (.int (f2 p2 p3))])) _
        refine XS.isub X7.here hx rfl (hb hby at_48) rfl ?_
        show Steps p.tables e below (T7.setTop (mkF m 49 #[.val (.int p1), .val (.int p2), .val (.int p3), .val (.int p4), .val (.int p5), .val (.int ((p1 &&& (2147483647 : Int32)) % (3 : Int32))), .val (.int (f1 p2 p3)), .val (.int (f2 p2 p3)), .unset, .unset, .unset, .unset] [(.int ((f2 p2 p3) - (1 : Int32)))])) _
        refine XS.istore X7.here hx rfl (hb hby at_49) rfl (l' := #[.val (.int p1), .val (.int p2), .val (.int p3), .val (.int p4), .val (.int p5), .val (.int ((p1 &&& (2147483647 : Int32)) % (3 : Int32))), .val (.int ((f2 p2 p3) - (1 : Int32))), .val (.int (f2 p2 p3)), .unset, .unset, .unset, .unset]) rfl ?_
        show Steps p.tables e below (T7.setTop (mkF m 51 #[.val (.int p1), .val (.int p2), .val (.int p3), .val (.int p4), .val (.int p5), .val (.int ((p1 &&& (2147483647 : Int32)) % (3 : Int32))), .val (.int ((f2 p2 p3) - (1 : Int32))), .val (.int (f2 p2 p3)), .unset, .unset, .unset, .unset] [])) _
        simp only [if_pos hj8, if_neg hj9] at k
        exact k
    · refine XS.icmpYes X7.here hx rfl (pc0 := 26) (pc' := 51) rfl (hb hby at_26) rfl (feq hj8).2 (by decide) (by decide) ?_
      show Steps p.tables e below (T7.setTop (mkF m 51 #[.val (.int p1), .val (.int p2), .val (.int p3), .val (.int p4), .val (.int p5), .val (.int ((p1 &&& (2147483647 : Int32)) % (3 : Int32))), .val (.int (f1 p2 p3)), .val (.int (f2 p2 p3)), .unset, .unset, .unset, .unset] [])) _
      simp only [if_neg hj8] at k
      exact k
  show OGot p.tables e below (T7.setTop (mkF m 51 #[.val (.int p1), .val (.int p2), .val (.int p3), .val (.int p4), .val (.int p5), .val (.int ((p1 &&& (2147483647 : Int32)) % (3 : Int32))), .val (.int (if (f1 p2 p3) = (f2 p2 p3) then (if (f2 p2 p3) < (2147483647 : Int32) then (f1 p2 p3) else ((f2 p2 p3) - (1 : Int32))) else (f1 p2 p3))), .val (.int (if (f1 p2 p3) = (f2 p2 p3) then (if (f2 p2 p3) < (2147483647 : Int32) then ((f1 p2 p3) + (1 : Int32)) else (f2 p2 p3)) else (f2 p2 p3))), .unset, .unset, .unset, .unset] [])) _
  obtain ⟨va, h_va⟩ : ∃ z, z = (if (f1 p2 p3) = (f2 p2 p3) then (if (f2 p2 p3) < (2147483647 : Int32) then (f1 p2 p3) else ((f2 p2 p3) - (1 : Int32))) else (f1 p2 p3)) := ⟨_, rfl⟩
  rw [← h_va]
  show OGot p.tables e below (T7.setTop (mkF m 51 #[.val (.int p1), .val (.int p2), .val (.int p3), .val (.int p4), .val (.int p5), .val (.int ((p1 &&& (2147483647 : Int32)) % (3 : Int32))), .val (.int va), .val (.int (if (f1 p2 p3) = (f2 p2 p3) then (if (f2 p2 p3) < (2147483647 : Int32) then ((f1 p2 p3) + (1 : Int32)) else (f2 p2 p3)) else (f2 p2 p3))), .unset, .unset, .unset, .unset] [])) _
  obtain ⟨vb, h_vb⟩ : ∃ z, z = (if (f1 p2 p3) = (f2 p2 p3) then (if (f2 p2 p3) < (2147483647 : Int32) then ((f1 p2 p3) + (1 : Int32)) else (f2 p2 p3)) else (f2 p2 p3)) := ⟨_, rfl⟩
  rw [← h_vb]
  show OGot p.tables e below (T7.setTop (mkF m 51 #[.val (.int p1), .val (.int p2), .val (.int p3), .val (.int p4), .val (.int p5), .val (.int ((p1 &&& (2147483647 : Int32)) % (3 : Int32))), .val (.int va), .val (.int vb), .unset, .unset, .unset, .unset] [])) _
  obtain ⟨T10, h10, X10, e10, E10, A10, D10, -, st10⟩ := newO X7 hx hZ hown (ow hw 8 rfl) (ow hw 9 rfl) (ow hw 10 rfl) e7 (g := (mkF m 51 #[.val (.int p1), .val (.int p2), .val (.int p3), .val (.int p4), .val (.int p5), .val (.int ((p1 &&& (2147483647 : Int32)) % (3 : Int32))), .val (.int va), .val (.int vb), .unset, .unset, .unset, .unset] [])) rfl (hb hby at_51) (by decide) (by decide)
  obtain ⟨b10, g10⟩ : ∃ z, z = h0.size := ⟨_, rfl⟩
  rw [← g10] at A10 D10 st10
  refine OGot.go st10 ?_
  have g_b10 : n0 ≤ b10 := Nat.le_trans (osz O0) (Nat.le_of_eq g10.symm)
  have sy_b10 : h0.size ≤ b10 := Nat.le_of_eq g10.symm
  have O10 := O0.ext E10
  have F10_modCount : Fld Z h10 b10 "java/util/AbstractList" "modCount" "I" (.int (0 : Int32)) := D10 (Or.inl (ow hw 30 rfl)) (ty := .int) (by decide)
  have F10_elementData : Fld Z h10 b10 "java/util/ArrayList" "elementData" "[Ljava/lang/Object;" .null := D10 (Or.inl (ow hw 33 rfl)) (ty := (.array (.object "java/lang/Object"))) (by decide)
  have F10_size : Fld Z h10 b10 "java/util/ArrayList" "size" "I" (.int (0 : Int32)) := D10 (Or.inl (ow hw 70 rfl)) (ty := .int) (by decide)
  show OGot p.tables e below (T10.setTop (mkF m 54 #[.val (.int p1), .val (.int p2), .val (.int p3), .val (.int p4), .val (.int p5), .val (.int ((p1 &&& (2147483647 : Int32)) % (3 : Int32))), .val (.int va), .val (.int vb), .unset, .unset, .unset, .unset] [(.ref b10)])) _
  refine OGot.go (fun t k => XS.dup X10.here hx rfl (hb hby at_54) rfl rfl k) ?_
  show OGot p.tables e below (T10.setTop (mkF m 55 #[.val (.int p1), .val (.int p2), .val (.int p3), .val (.int p4), .val (.int p5), .val (.int ((p1 &&& (2147483647 : Int32)) % (3 : Int32))), .val (.int va), .val (.int vb), .unset, .unset, .unset, .unset] [(.ref b10), (.ref b10)])) _
  obtain ⟨_, _, ⟨T11, L11, k11, n11⟩, -, X11, ⟨Lc11, hQ11, l11, y11, z11⟩, st11⟩ := X10.specialBack hx (y := (⟨"java/util/ArrayList", "<init>", "()V"⟩ : MethodName)) rfl hown (mvT hZ (ow hw 11 rfl)) (mvT hZ (ow hw 12 rfl)) (mvT hZ (ow hw 13 rfl)) (by decide) (backOf (W := 1) (rm3 l Z a0 hw [] G b10 h10 n0 O10 A10 F10_modCount g_b10 F10_elementData) hZ (ow hw 13 rfl) (ow hw 10 rfl) (by decide) (by decide)) (g := (mkF m 55 #[.val (.int p1), .val (.int p2), .val (.int p3), .val (.int p4), .val (.int p5), .val (.int ((p1 &&& (2147483647 : Int32)) % (3 : Int32))), .val (.int va), .val (.int vb), .unset, .unset, .unset, .unset] [(.ref b10), (.ref b10)])) rfl (by rw [hml]; rfl) (Steps.refl _) (a := b10) (argsL := []) (rest := [(.ref b10)]) (lenOf pd_1 rfl) rfl (by show 2 * 0 + _ ≤ _; exact Nat.le_of_eq rfl) (hb hby at_55) (fun _ _ => ⟨rfl, e10, (by decide : 1 + 0 ≤ _), (by decide : 3 + 0 ≤ _)⟩)
  dsimp only [Pt.U, Pt.locs, Pt.cells, Pt.slots] at X11 l11 y11 z11 st11 hQ11
  subst l11 y11 z11
  obtain ⟨N11q, rfl, K11, Fo11_0, Fo11_1⟩ := hQ11
  have O11 := OKeep.old O10 K11 (ogeS g_b10 (ogeS g_b10 oge0))
  have N11 := Fr.app N7 N11q
  refine OGot.on st11 ?_
  show OGot p.tables e below (T11.setTop (mkF m 58 #[.val (.int p1), .val (.int p2), .val (.int p3), .val (.int p4), .val (.int p5), .val (.int ((p1 &&& (2147483647 : Int32)) % (3 : Int32))), .val (.int va), .val (.int vb), .unset, .unset, .unset, .unset] [(.ref b10)])) _
  refine OGot.go (fun t k => XS.astore X11.here hx rfl (hb hby at_58) rfl rfl (l' := #[.val (.int p1), .val (.int p2), .val (.int p3), .val (.int p4), .val (.int p5), .val (.int ((p1 &&& (2147483647 : Int32)) % (3 : Int32))), .val (.int va), .val (.int vb), .val (.ref b10), .unset, .unset, .unset]) rfl k) ?_
  show OGot p.tables e below (T11.setTop (mkF m 60 #[.val (.int p1), .val (.int p2), .val (.int p3), .val (.int p4), .val (.int p5), .val (.int ((p1 &&& (2147483647 : Int32)) % (3 : Int32))), .val (.int va), .val (.int vb), .val (.ref b10), .unset, .unset, .unset] [])) _
  refine OGot.go (fun t k => XS.iload X11.here hx rfl (hb hby at_60) rfl k) ?_
  show OGot p.tables e below (T11.setTop (mkF m 62 #[.val (.int p1), .val (.int p2), .val (.int p3), .val (.int p4), .val (.int p5), .val (.int ((p1 &&& (2147483647 : Int32)) % (3 : Int32))), .val (.int va), .val (.int vb), .val (.ref b10), .unset, .unset, .unset] [(.int ((p1 &&& (2147483647 : Int32)) % (3 : Int32)))])) _
  rcases own_rem3 p1 with hk12 | hk13 | hk14
  · rw [hk12]
    show OGot p.tables e below (T11.setTop (mkF m 62 #[.val (.int p1), .val (.int p2), .val (.int p3), .val (.int p4), .val (.int p5), .val (.int (0 : Int32)), .val (.int va), .val (.int vb), .val (.ref b10), .unset, .unset, .unset] [(.int (0 : Int32))])) _
    refine OGot.go (fun t k => XS.iconst X11.here hx rfl (hb hby at_62) k) ?_
    show OGot p.tables e below (T11.setTop (mkF m 63 #[.val (.int p1), .val (.int p2), .val (.int p3), .val (.int p4), .val (.int p5), .val (.int (0 : Int32)), .val (.int va), .val (.int vb), .val (.ref b10), .unset, .unset, .unset] [(.int (1 : Int32)), (.int (0 : Int32))])) _
    refine OGot.go (fun t k => XS.icmpYes X11.here hx rfl (pc0 := 63) (pc' := 82) rfl (hb hby at_63) rfl (by decide) (by decide) (by decide) k) ?_
    show OGot p.tables e below (T11.setTop (mkF m 82 #[.val (.int p1), .val (.int p2), .val (.int p3), .val (.int p4), .val (.int p5), .val (.int (0 : Int32)), .val (.int va), .val (.int vb), .val (.ref b10), .unset, .unset, .unset] [])) _
    refine OGot.go (fun t k => XS.iload X11.here hx rfl (hb hby at_82) rfl k) ?_
    show OGot p.tables e below (T11.setTop (mkF m 84 #[.val (.int p1), .val (.int p2), .val (.int p3), .val (.int p4), .val (.int p5), .val (.int (0 : Int32)), .val (.int va), .val (.int vb), .val (.ref b10), .unset, .unset, .unset] [(.int (0 : Int32))])) _
    refine OGot.go (fun t k => XS.iconst X11.here hx rfl (hb hby at_84) k) ?_
    show OGot p.tables e below (T11.setTop (mkF m 85 #[.val (.int p1), .val (.int p2), .val (.int p3), .val (.int p4), .val (.int p5), .val (.int (0 : Int32)), .val (.int va), .val (.int vb), .val (.ref b10), .unset, .unset, .unset] [(.int (2 : Int32)), (.int (0 : Int32))])) _
    refine OGot.go (fun t k => XS.icmpYes X11.here hx rfl (pc0 := 85) (pc' := 105) rfl (hb hby at_85) rfl (by decide) (by decide) (by decide) k) ?_
    show OGot p.tables e below (T11.setTop (mkF m 105 #[.val (.int p1), .val (.int p2), .val (.int p3), .val (.int p4), .val (.int p5), .val (.int (0 : Int32)), .val (.int va), .val (.int vb), .val (.ref b10), .unset, .unset, .unset] [])) _
    obtain ⟨T15, h15, X15, e15, E15, A15, D15, -, st15⟩ := newO X11 hx hZ hown (ow hw 34 rfl) (ow hw 35 rfl) (ow hw 36 rfl) rfl (g := (mkF m 105 #[.val (.int p1), .val (.int p2), .val (.int p3), .val (.int p4), .val (.int p5), .val (.int (0 : Int32)), .val (.int va), .val (.int vb), .val (.ref b10), .unset, .unset, .unset] [])) rfl (hb hby at_105) (by decide) (by decide)
    obtain ⟨b15, g15⟩ : ∃ z, z = T11.heap.size := ⟨_, rfl⟩
    rw [← g15] at A15 D15 st15
    refine OGot.go st15 ?_
    have g_b15 : n0 ≤ b15 := Nat.le_trans (osz O11) (Nat.le_of_eq g15.symm)
    have sy_b15 : T11.heap.size ≤ b15 := Nat.le_of_eq g15.symm
    have O15 := O11.ext E15
    have F15_aCells : Fld Z h15 b15 "com/example/curtail/curtail/Placement" "aCells" "Ljava/util/List;" .null := D15 (Or.inr (ow hw 88 rfl)) (ty := (.object "java/util/List")) (by decide)
    show OGot p.tables e below (T15.setTop (mkF m 108 #[.val (.int p1), .val (.int p2), .val (.int p3), .val (.int p4), .val (.int p5), .val (.int (0 : Int32)), .val (.int va), .val (.int vb), .val (.ref b10), .unset, .unset, .unset] [(.ref b15)])) _
    refine OGot.go (fun t k => XS.dup X15.here hx rfl (hb hby at_108) rfl rfl k) ?_
    show OGot p.tables e below (T15.setTop (mkF m 109 #[.val (.int p1), .val (.int p2), .val (.int p3), .val (.int p4), .val (.int p5), .val (.int (0 : Int32)), .val (.int va), .val (.int vb), .val (.ref b10), .unset, .unset, .unset] [(.ref b15), (.ref b15)])) _
    refine OGot.go (fun t k => XS.aload X15.here hx rfl (hb hby at_109) rfl rfl k) ?_
    show OGot p.tables e below (T15.setTop (mkF m 111 #[.val (.int p1), .val (.int p2), .val (.int p3), .val (.int p4), .val (.int p5), .val (.int (0 : Int32)), .val (.int va), .val (.int vb), .val (.ref b10), .unset, .unset, .unset] [(.ref b10), (.ref b15), (.ref b15)])) _
    have F17 : Fld Z h15 b10 "java/util/ArrayList" "size" "I" (.int (0 : Int32)) := ((OKeep.fld F10_size K11 (oninS (slot_ne (Or.inl (ow hw 70 rfl)) (Or.inl (ow hw 30 rfl)) (by decide) (t := .int) (t' := .int) (by decide) (by decide)) (oninS (slot_ne (Or.inl (ow hw 70 rfl)) (Or.inl (ow hw 33 rfl)) (by decide) (t := .int) (t' := (.array (.object "java/lang/Object"))) (by decide) (by decide)) onin0))).ext E15)
    obtain ⟨_, _, ⟨T16, L16, k16, n16⟩, -, X16, ⟨Lc16, hQ16, l16, y16, z16⟩, st16⟩ := X15.specialBack hx (y := (⟨"com/example/curtail/curtail/Placement", "<init>", "(Ljava/util/List;)V"⟩ : MethodName)) rfl hown (mvT hZ (ow hw 37 rfl)) (mvT hZ (ow hw 38 rfl)) (mvT hZ (ow hw 39 rfl)) (by decide) (backOf (W := 1) (rm7 l Z a0 hw [] G b15 b10 h15 n0 O15 ((OKeep.exa A10 K11).ext E15) F17 A15 F15_aCells g_b15) hZ (ow hw 39 rfl) (ow hw 36 rfl) (by decide) (by decide)) (g := (mkF m 111 #[.val (.int p1), .val (.int p2), .val (.int p3), .val (.int p4), .val (.int p5), .val (.int (0 : Int32)), .val (.int va), .val (.int vb), .val (.ref b10), .unset, .unset, .unset] [(.ref b10), (.ref b15), (.ref b15)])) rfl (by rw [hml]; rfl) (Steps.refl _) (a := b15) (argsL := [(.ref b10)]) (rest := [(.ref b15)]) (lenOf pd_6 rfl) rfl (by show 2 * 0 + _ ≤ _; exact Nat.le_of_eq rfl) (hb hby at_111) (fun _ _ => ⟨rfl, e15, (by decide : 2 + 0 ≤ _), (by decide : 4 + 0 ≤ _)⟩)
    dsimp only [Pt.U, Pt.locs, Pt.cells, Pt.slots] at X16 l16 y16 z16 st16 hQ16
    subst l16 y16 z16
    obtain ⟨N16q, rfl, K16, Fo16_0⟩ := hQ16
    have O16 := OKeep.old O15 K16 (ogeS g_b15 oge0)
    have N16 := Fr.app N11 N16q
    refine OGot.on st16 ?_
    show OGot p.tables e below (T16.setTop (mkF m 114 #[.val (.int p1), .val (.int p2), .val (.int p3), .val (.int p4), .val (.int p5), .val (.int (0 : Int32)), .val (.int va), .val (.int vb), .val (.ref b10), .unset, .unset, .unset] [(.ref b15)])) _
    refine OGot.go (fun t k => XS.astore X16.here hx rfl (hb hby at_114) rfl rfl (l' := #[.val (.int p1), .val (.int p2), .val (.int p3), .val (.int p4), .val (.int p5), .val (.int (0 : Int32)), .val (.int va), .val (.int vb), .val (.ref b10), .val (.ref b15), .unset, .unset]) rfl k) ?_
    show OGot p.tables e below (T16.setTop (mkF m 116 #[.val (.int p1), .val (.int p2), .val (.int p3), .val (.int p4), .val (.int p5), .val (.int (0 : Int32)), .val (.int va), .val (.int vb), .val (.ref b10), .val (.ref b15), .unset, .unset] [])) _
    refine OGot.go (fun t k => XS.aload X16.here hx rfl (hb hby at_116) rfl rfl k) ?_
    show OGot p.tables e below (T16.setTop (mkF m 118 #[.val (.int p1), .val (.int p2), .val (.int p3), .val (.int p4), .val (.int p5), .val (.int (0 : Int32)), .val (.int va), .val (.int vb), .val (.ref b10), .val (.ref b15), .unset, .unset] [(.ref b15)])) _
    obtain ⟨cq18, kq18, q18a, q18b, q18c⟩ := isOf hZ rfl (OKeep.exa A15 K16)
    obtain ⟨_, _, ⟨T18, L18, k18, n18⟩, -, X18, ⟨Lc18, hQ18, l18, y18, z18⟩, st18⟩ := X16.virtualBack hx (y := (⟨"com/example/curtail/curtail/Placement", "isAccepted", "()Z"⟩ : MethodName)) (z := (⟨"com/example/curtail/curtail/Placement", "isAccepted", "()Z"⟩ : MethodName)) hown (mvT hZ (ow hw 89 rfl)) (mvT hZ (ow hw 90 rfl)) (notFace_of_selects (args := #[]) (mvT hZ (ow hw 92 rfl))) (mvT hZ (ow hw 92 rfl)) (mvT hZ (ow hw 91 rfl)) (by decide) (backOf (W := 0) (rm14 l Z a0 hw [] G b15 w_EMPTY_LIST w_EMPTY_LIST_elements k_w_EMPTY_LIST_elements T16.heap n0 O16 Fo16_0 (G.2.2.2.2.2.2.2.2.1.ext O16.2) (G.2.2.2.2.2.2.2.2.2.1.ext O16.2) (G.2.2.2.2.2.2.2.2.2.2.2.2.2.2.2.2.1.ext O16.2)) hZ (ow hw 93 rfl) (ow hw 36 rfl) (by decide) (by decide)) q18a q18c (g := (mkF m 118 #[.val (.int p1), .val (.int p2), .val (.int p3), .val (.int p4), .val (.int p5), .val (.int (0 : Int32)), .val (.int va), .val (.int vb), .val (.ref b10), .val (.ref b15), .unset, .unset] [(.ref b15)])) rfl (by rw [hml]; rfl) (Steps.refl _) (argsL := []) (rest := []) (lenOf pd_2 rfl) rfl (by show 2 * 0 + _ ≤ _; exact Nat.le_of_eq rfl) (hb hby at_118) (fun _ _ => ⟨rfl, rfl, (by decide : 2 + 0 ≤ _), (by decide : 4 + 0 ≤ _)⟩)
    dsimp only [Pt.U, Pt.locs, Pt.cells, Pt.slots] at X18 l18 y18 z18 st18 hQ18
    subst l18 y18 z18
    obtain ⟨rfl, N18q, e18⟩ := hQ18
    have N18 := Fr.app N16 N18q
    refine OGot.on st18 ?_
    show OGot p.tables e below (T18.setTop (mkF m 121 #[.val (.int p1), .val (.int p2), .val (.int p3), .val (.int p4), .val (.int p5), .val (.int (0 : Int32)), .val (.int va), .val (.int vb), .val (.ref b10), .val (.ref b15), .unset, .unset] [(.int (0 : Int32))])) _
    refine OGot.go (fun t k => XS.istore X18.here hx rfl (hb hby at_121) rfl (l' := #[.val (.int p1), .val (.int p2), .val (.int p3), .val (.int p4), .val (.int p5), .val (.int (0 : Int32)), .val (.int va), .val (.int vb), .val (.ref b10), .val (.ref b15), .val (.int (0 : Int32)), .unset]) rfl k) ?_
    show OGot p.tables e below (T18.setTop (mkF m 123 #[.val (.int p1), .val (.int p2), .val (.int p3), .val (.int p4), .val (.int p5), .val (.int (0 : Int32)), .val (.int va), .val (.int vb), .val (.ref b10), .val (.ref b15), .val (.int (0 : Int32)), .unset] [])) _
    refine OGot.go (fun t k => XS.iload X18.here hx rfl (hb hby at_123) rfl k) ?_
    show OGot p.tables e below (T18.setTop (mkF m 125 #[.val (.int p1), .val (.int p2), .val (.int p3), .val (.int p4), .val (.int p5), .val (.int (0 : Int32)), .val (.int va), .val (.int vb), .val (.ref b10), .val (.ref b15), .val (.int (0 : Int32)), .unset] [(.int (0 : Int32))])) _
    refine OGot.go (fun t k => XS.iload X18.here hx rfl (hb hby at_125) rfl k) ?_
    show OGot p.tables e below (T18.setTop (mkF m 127 #[.val (.int p1), .val (.int p2), .val (.int p3), .val (.int p4), .val (.int p5), .val (.int (0 : Int32)), .val (.int va), .val (.int vb), .val (.ref b10), .val (.ref b15), .val (.int (0 : Int32)), .unset] [(.int (0 : Int32)), (.int (0 : Int32))])) _
    refine OGot.go (fun t k => XS.ifYes X18.here hx rfl (pc0 := 127) (pc' := 134) rfl (hb hby at_127) rfl (by decide) (by decide) (by decide) k) ?_
    show OGot p.tables e below (T18.setTop (mkF m 134 #[.val (.int p1), .val (.int p2), .val (.int p3), .val (.int p4), .val (.int p5), .val (.int (0 : Int32)), .val (.int va), .val (.int vb), .val (.ref b10), .val (.ref b15), .val (.int (0 : Int32)), .unset] [(.int (0 : Int32))])) _
    refine OGot.go (fun t k => XS.iconst X18.here hx rfl (hb hby at_134) k) ?_
    show OGot p.tables e below (T18.setTop (mkF m 135 #[.val (.int p1), .val (.int p2), .val (.int p3), .val (.int p4), .val (.int p5), .val (.int (0 : Int32)), .val (.int va), .val (.int vb), .val (.ref b10), .val (.ref b15), .val (.int (0 : Int32)), .unset] [(.int (0 : Int32)), (.int (0 : Int32))])) _
    refine OGot.go (fun t k => XS.icmpYes X18.here hx rfl (pc0 := 135) (pc' := 140) rfl (hb hby at_135) rfl (by decide) (by decide) (by decide) k) ?_
    show OGot p.tables e below (T18.setTop (mkF m 140 #[.val (.int p1), .val (.int p2), .val (.int p3), .val (.int p4), .val (.int p5), .val (.int (0 : Int32)), .val (.int va), .val (.int vb), .val (.ref b10), .val (.ref b15), .val (.int (0 : Int32)), .unset] [])) _
    obtain ⟨T19, X19, e19, st19⟩ := getS2 X18 hx hZ hown (host := "") (Or.inl (ow hw 102 rfl)) Via.refl e18 (G.2.1.ext O16.2) (g := (mkF m 140 #[.val (.int p1), .val (.int p2), .val (.int p3), .val (.int p4), .val (.int p5), .val (.int (0 : Int32)), .val (.int va), .val (.int vb), .val (.ref b10), .val (.ref b15), .val (.int (0 : Int32)), .unset] [])) rfl (hb hby at_140)
    refine OGot.go st19 ?_
    show OGot p.tables e below (T19.setTop (mkF m 143 #[.val (.int p1), .val (.int p2), .val (.int p3), .val (.int p4), .val (.int p5), .val (.int (0 : Int32)), .val (.int va), .val (.int vb), .val (.ref b10), .val (.ref b15), .val (.int (0 : Int32)), .unset] [(.ref w_REJECTED)])) _
    obtain ⟨cq20, kq20, q20a, q20b, q20c⟩ := isOf hZ e19 (G.2.2.1.ext O16.2)
    obtain ⟨_, _, ⟨T20, L20, k20, n20⟩, -, X20, ⟨Lc20, hQ20, l20, y20, z20⟩, st20⟩ := X19.virtualBack hx (y := (⟨"com/example/curtail/curtail/Placement", "isAccepted", "()Z"⟩ : MethodName)) (z := (⟨"com/example/curtail/curtail/Placement", "isAccepted", "()Z"⟩ : MethodName)) hown (mvT hZ (ow hw 89 rfl)) (mvT hZ (ow hw 90 rfl)) (notFace_of_selects (args := #[]) (mvT hZ (ow hw 92 rfl))) (mvT hZ (ow hw 92 rfl)) (mvT hZ (ow hw 91 rfl)) (by decide) (backOf (W := 0) (rm14_1 l Z a0 hw [] G  T16.heap n0 O16 ) hZ (ow hw 93 rfl) (ow hw 36 rfl) (by decide) (by decide)) q20a q20c (g := (mkF m 143 #[.val (.int p1), .val (.int p2), .val (.int p3), .val (.int p4), .val (.int p5), .val (.int (0 : Int32)), .val (.int va), .val (.int vb), .val (.ref b10), .val (.ref b15), .val (.int (0 : Int32)), .unset] [(.ref w_REJECTED)])) rfl (by rw [hml]; rfl) (Steps.refl _) (argsL := []) (rest := []) (lenOf pd_2 rfl) rfl (by show 2 * 0 + _ ≤ _; exact Nat.le_of_eq rfl) (hb hby at_143) (fun _ _ => ⟨rfl, e19, (by decide : 2 + 0 ≤ _), (by decide : 4 + 0 ≤ _)⟩)
    dsimp only [Pt.U, Pt.locs, Pt.cells, Pt.slots] at X20 l20 y20 z20 st20 hQ20
    subst l20 y20 z20
    obtain ⟨rfl, N20q, e20⟩ := hQ20
    have N20 := Fr.app N18 N20q
    refine OGot.on st20 ?_
    show OGot p.tables e below (T20.setTop (mkF m 146 #[.val (.int p1), .val (.int p2), .val (.int p3), .val (.int p4), .val (.int p5), .val (.int (0 : Int32)), .val (.int va), .val (.int vb), .val (.ref b10), .val (.ref b15), .val (.int (0 : Int32)), .unset] [(.int (0 : Int32))])) _
    refine OGot.go (fun t k => XS.ifYes X20.here hx rfl (pc0 := 146) (pc' := 151) rfl (hb hby at_146) rfl (by decide) (by decide) (by decide) k) ?_
    show OGot p.tables e below (T20.setTop (mkF m 151 #[.val (.int p1), .val (.int p2), .val (.int p3), .val (.int p4), .val (.int p5), .val (.int (0 : Int32)), .val (.int va), .val (.int vb), .val (.ref b10), .val (.ref b15), .val (.int (0 : Int32)), .unset] [])) _
    refine OGot.go (fun t k => XS.iload X20.here hx rfl (hb hby at_151) rfl k) ?_
    show OGot p.tables e below (T20.setTop (mkF m 153 #[.val (.int p1), .val (.int p2), .val (.int p3), .val (.int p4), .val (.int p5), .val (.int (0 : Int32)), .val (.int va), .val (.int vb), .val (.ref b10), .val (.ref b15), .val (.int (0 : Int32)), .unset] [(.int (0 : Int32))])) _
    refine OGot.go (fun t k => XS.ifNo X20.here hx rfl (hb hby at_153) rfl (by decide) k) ?_
    show OGot p.tables e below (T20.setTop (mkF m 156 #[.val (.int p1), .val (.int p2), .val (.int p3), .val (.int p4), .val (.int p5), .val (.int (0 : Int32)), .val (.int va), .val (.int vb), .val (.ref b10), .val (.ref b15), .val (.int (0 : Int32)), .unset] [])) _
    refine OGot.go (fun t k => XS.iconst X20.here hx rfl (hb hby at_156) k) ?_
    show OGot p.tables e below (T20.setTop (mkF m 157 #[.val (.int p1), .val (.int p2), .val (.int p3), .val (.int p4), .val (.int p5), .val (.int (0 : Int32)), .val (.int va), .val (.int vb), .val (.ref b10), .val (.ref b15), .val (.int (0 : Int32)), .unset] [(.int (1 : Int32))])) _
    obtain ⟨fs, hr, hrun, hended, hW, hsame⟩ := X20.leave (v := some (.int (1 : Int32))) (fun h => by rw [Bd.returns] at h; cases h)
    refine ⟨_, _, retN X20 hx (t := .boolean) Bd.returns (by simp) (hb hby at_157) hr, hrun, hended, _, _, rfl, ?_, ⟨_, rfl⟩, hW, hsame.mono (by decide) (by decide)⟩
    exact (⟨rfl, N20⟩ : Q0 Z m_OA w_REJECTED w_EMPTY_ELEMENTDATA w_DEFAULTCAPACITY_EMPTY_ELEMENTDATA w_EMPTY_LIST w_EMPTY_LIST_elements w_EMPTY k_w_EMPTY_ELEMENTDATA k_w_DEFAULTCAPACITY_EMPTY_ELEMENTDATA k_w_EMPTY_LIST_elements p1 p2 p3 p4 p5 h0 n0 _ T20.heap _)
  · rw [hk13]
    show OGot p.tables e below (T11.setTop (mkF m 62 #[.val (.int p1), .val (.int p2), .val (.int p3), .val (.int p4), .val (.int p5), .val (.int (1 : Int32)), .val (.int va), .val (.int vb), .val (.ref b10), .unset, .unset, .unset] [(.int (1 : Int32))])) _
    refine OGot.go (fun t k => XS.iconst X11.here hx rfl (hb hby at_62) k) ?_
    show OGot p.tables e below (T11.setTop (mkF m 63 #[.val (.int p1), .val (.int p2), .val (.int p3), .val (.int p4), .val (.int p5), .val (.int (1 : Int32)), .val (.int va), .val (.int vb), .val (.ref b10), .unset, .unset, .unset] [(.int (1 : Int32)), (.int (1 : Int32))])) _
    refine OGot.go (fun t k => XS.icmpNo X11.here hx rfl (hb hby at_63) rfl (by decide) k) ?_
    show OGot p.tables e below (T11.setTop (mkF m 66 #[.val (.int p1), .val (.int p2), .val (.int p3), .val (.int p4), .val (.int p5), .val (.int (1 : Int32)), .val (.int va), .val (.int vb), .val (.ref b10), .unset, .unset, .unset] [])) _
    refine OGot.go (fun t k => XS.aload X11.here hx rfl (hb hby at_66) rfl rfl k) ?_
    show OGot p.tables e below (T11.setTop (mkF m 68 #[.val (.int p1), .val (.int p2), .val (.int p3), .val (.int p4), .val (.int p5), .val (.int (1 : Int32)), .val (.int va), .val (.int vb), .val (.ref b10), .unset, .unset, .unset] [(.ref b10)])) _
    obtain ⟨T21, h21, X21, e21, E21, A21, D21, -, st21⟩ := newO X11 hx hZ hown (ow hw 104 rfl) (ow hw 105 rfl) (ow hw 106 rfl) rfl (g := (mkF m 68 #[.val (.int p1), .val (.int p2), .val (.int p3), .val (.int p4), .val (.int p5), .val (.int (1 : Int32)), .val (.int va), .val (.int vb), .val (.ref b10), .unset, .unset, .unset] [(.ref b10)])) rfl (hb hby at_68) (by decide) (by decide)
    obtain ⟨b21, g21⟩ : ∃ z, z = T11.heap.size := ⟨_, rfl⟩
    rw [← g21] at A21 D21 st21
    refine OGot.go st21 ?_
    have g_b21 : n0 ≤ b21 := Nat.le_trans (osz O11) (Nat.le_of_eq g21.symm)
    have sy_b21 : T11.heap.size ≤ b21 := Nat.le_of_eq g21.symm
    have O21 := O11.ext E21
    have F21_nSlot : Fld Z h21 b21 "com/example/curtail/curtail/Placement$Cell" "nSlot" "I" (.int (0 : Int32)) := D21 (Or.inr (ow hw 112 rfl)) (ty := .int) (by decide)
    have F21_nCloudlet : Fld Z h21 b21 "com/example/curtail/curtail/Placement$Cell" "nCloudlet" "I" (.int (0 : Int32)) := D21 (Or.inr (ow hw 114 rfl)) (ty := .int) (by decide)
    show OGot p.tables e below (T21.setTop (mkF m 71 #[.val (.int p1), .val (.int p2), .val (.int p3), .val (.int p4), .val (.int p5), .val (.int (1 : Int32)), .val (.int va), .val (.int vb), .val (.ref b10), .unset, .unset, .unset] [(.ref b21), (.ref b10)])) _
    refine OGot.go (fun t k => XS.dup X21.here hx rfl (hb hby at_71) rfl rfl k) ?_
    show OGot p.tables e below (T21.setTop (mkF m 72 #[.val (.int p1), .val (.int p2), .val (.int p3), .val (.int p4), .val (.int p5), .val (.int (1 : Int32)), .val (.int va), .val (.int vb), .val (.ref b10), .unset, .unset, .unset] [(.ref b21), (.ref b21), (.ref b10)])) _
    refine OGot.go (fun t k => XS.iload X21.here hx rfl (hb hby at_72) rfl k) ?_
    show OGot p.tables e below (T21.setTop (mkF m 74 #[.val (.int p1), .val (.int p2), .val (.int p3), .val (.int p4), .val (.int p5), .val (.int (1 : Int32)), .val (.int va), .val (.int vb), .val (.ref b10), .unset, .unset, .unset] [(.int va), (.ref b21), (.ref b21), (.ref b10)])) _
    refine OGot.go (fun t k => XS.iloadN X21.here hx rfl (hb hby at_74) rfl k) ?_
    show OGot p.tables e below (T21.setTop (mkF m 75 #[.val (.int p1), .val (.int p2), .val (.int p3), .val (.int p4), .val (.int p5), .val (.int (1 : Int32)), .val (.int va), .val (.int vb), .val (.ref b10), .unset, .unset, .unset] [(.int p4), (.int va), (.ref b21), (.ref b21), (.ref b10)])) _
    obtain ⟨_, _, ⟨T22, L22, k22, n22⟩, -, X22, ⟨Lc22, hQ22, l22, y22, z22⟩, st22⟩ := X21.specialBack hx (y := (⟨"com/example/curtail/curtail/Placement$Cell", "<init>", "(II)V"⟩ : MethodName)) rfl hown (mvT hZ (ow hw 107 rfl)) (mvT hZ (ow hw 108 rfl)) (mvT hZ (ow hw 109 rfl)) (by decide) (backOf (W := 2) (rm16 l Z a0 hw [] G b21 va p4 h21 n0 O21 A21 F21_nSlot g_b21 F21_nCloudlet) hZ (ow hw 109 rfl) (ow hw 106 rfl) (by decide) (by decide)) (g := (mkF m 75 #[.val (.int p1), .val (.int p2), .val (.int p3), .val (.int p4), .val (.int p5), .val (.int (1 : Int32)), .val (.int va), .val (.int vb), .val (.ref b10), .unset, .unset, .unset] [(.int p4), (.int va), (.ref b21), (.ref b21), (.ref b10)])) rfl (by rw [hml]; rfl) (Steps.refl _) (a := b21) (argsL := [(.int va), (.int p4)]) (rest := [(.ref b21), (.ref b10)]) (lenOf pd_7 rfl) rfl (by show 2 * 0 + _ ≤ _; exact Nat.le_of_eq rfl) (hb hby at_75) (fun _ _ => ⟨rfl, e21, (by decide : 2 + 0 ≤ _), (by decide : 5 + 0 ≤ _)⟩)
    dsimp only [Pt.U, Pt.locs, Pt.cells, Pt.slots] at X22 l22 y22 z22 st22 hQ22
    subst l22 y22 z22
    obtain ⟨N22q, rfl, K22, Fo22_0, Fo22_1⟩ := hQ22
    have O22 := OKeep.old O21 K22 (ogeS g_b21 (ogeS g_b21 oge0))
    have N22 := Fr.app N11 N22q
    refine OGot.on st22 ?_
    show OGot p.tables e below (T22.setTop (mkF m 78 #[.val (.int p1), .val (.int p2), .val (.int p3), .val (.int p4), .val (.int p5), .val (.int (1 : Int32)), .val (.int va), .val (.int vb), .val (.ref b10), .unset, .unset, .unset] [(.ref b21), (.ref b10)])) _
    have ne23 : w_DEFAULTCAPACITY_EMPTY_ELEMENTDATA ≠ b10 := (O22.ne G.2.2.2.2.2.2.1.lt g_b10)
    have ne25 : b10 ≠ b21 := (Nat.ne_of_lt (Nat.lt_of_lt_of_le (Nat.lt_of_lt_of_le A10.lt K11.1) sy_b21))
    have F26 : Fld Z T22.heap b10 "java/util/AbstractList" "modCount" "I" (.int (0 : Int32)) := (OKeep.fld (Fo11_0.ext E21) K22 (oninA ne25 (oninA ne25 onin0)))
    have F27 : Fld Z T22.heap b10 "java/util/ArrayList" "elementData" "[Ljava/lang/Object;" (.ref w_DEFAULTCAPACITY_EMPTY_ELEMENTDATA) := (OKeep.fld (Fo11_1.ext E21) K22 (oninA ne25 (oninA ne25 onin0)))
    have F28 : Fld Z T22.heap b10 "java/util/ArrayList" "size" "I" (.int (0 : Int32)) := (OKeep.fld ((OKeep.fld F10_size K11 (oninS (slot_ne (Or.inl (ow hw 70 rfl)) (Or.inl (ow hw 30 rfl)) (by decide) (t := .int) (t' := .int) (by decide) (by decide)) (oninS (slot_ne (Or.inl (ow hw 70 rfl)) (Or.inl (ow hw 33 rfl)) (by decide) (t := .int) (t' := (.array (.object "java/lang/Object"))) (by decide) (by decide)) onin0))).ext E21) K22 (oninA ne25 (oninA ne25 onin0)))
    obtain ⟨cq24, kq24, q24a, q24b, q24c⟩ := isOf hZ rfl (OKeep.exa ((OKeep.exa A10 K11).ext E21) K22)
    obtain ⟨_, _, ⟨T24, L24, k24, n24⟩, -, X24, ⟨Lc24, hQ24, l24, y24, z24⟩, st24⟩ := X22.virtualBack hx (y := (⟨"java/util/ArrayList", "add", "(Ljava/lang/Object;)Z"⟩ : MethodName)) (z := (⟨"java/util/ArrayList", "add", "(Ljava/lang/Object;)Z"⟩ : MethodName)) hown (mvT hZ (ow hw 115 rfl)) (mvT hZ (ow hw 116 rfl)) (notFace_of_selects (args := #[]) (mvT hZ (ow hw 118 rfl))) (mvT hZ (ow hw 118 rfl)) (mvT hZ (ow hw 117 rfl)) (by decide) (backOf (W := 0) (rm17 l Z a0 hw [] G b10 b21 w_DEFAULTCAPACITY_EMPTY_ELEMENTDATA k_w_DEFAULTCAPACITY_EMPTY_ELEMENTDATA T22.heap n0 O22 F26 (OKeep.exa ((OKeep.exa A10 K11).ext E21) K22) g_b10 F27 F28 (G.2.2.2.2.2.2.2.2.2.2.2.2.2.2.2.1.ext O22.2) (G.2.2.2.2.2.2.1.ext O22.2) rfl (OKeep.exa A21 K22) ne23) hZ (ow hw 119 rfl) (ow hw 10 rfl) (by decide) (by decide)) q24a q24c (g := (mkF m 78 #[.val (.int p1), .val (.int p2), .val (.int p3), .val (.int p4), .val (.int p5), .val (.int (1 : Int32)), .val (.int va), .val (.int vb), .val (.ref b10), .unset, .unset, .unset] [(.ref b21), (.ref b10)])) rfl (by rw [hml]; rfl) (Steps.refl _) (argsL := [(.ref b21)]) (rest := []) (lenOf pd_11 rfl) rfl (by show 2 * 0 + _ ≤ _; exact Nat.le_of_eq rfl) (hb hby at_78) (fun _ _ => ⟨rfl, rfl, (by decide : 2 + 1 ≤ _), (by decide : 5 + 10 ≤ _)⟩)
    dsimp only [Pt.U, Pt.locs, Pt.cells, Pt.slots] at X24 l24 y24 z24 st24 hQ24
    subst l24 y24 z24
    obtain ⟨N24q, b9_5_6_11_24, k9_5_6_11_24, rfl, szb9_5_6_11_24_24, K24, Fo24_0, Fo24_1, Fo24_2, Fo24_3, Fo24_4, Fo24_5⟩ := hQ24
    have g_b9_5_6_11_24 : n0 ≤ b9_5_6_11_24 := Nat.le_trans (osz O22) szb9_5_6_11_24_24
    have O24 := OKeep.old O22 K24 (ogeS g_b10 (ogeS g_b10 (ogeS g_b10 oge0)))
    have N24 := Fr.app N22 N24q
    refine OGot.on st24 ?_
    show OGot p.tables e below (T24.setTop (mkF m 81 #[.val (.int p1), .val (.int p2), .val (.int p3), .val (.int p4), .val (.int p5), .val (.int (1 : Int32)), .val (.int va), .val (.int vb), .val (.ref b10), .unset, .unset, .unset] [(.int (1 : Int32))])) _
    refine OGot.go (fun t k => XS.pop X24.here hx rfl (hb hby at_81) rfl rfl k) ?_
    show OGot p.tables e below (T24.setTop (mkF m 82 #[.val (.int p1), .val (.int p2), .val (.int p3), .val (.int p4), .val (.int p5), .val (.int (1 : Int32)), .val (.int va), .val (.int vb), .val (.ref b10), .unset, .unset, .unset] [])) _
    refine OGot.go (fun t k => XS.iload X24.here hx rfl (hb hby at_82) rfl k) ?_
    show OGot p.tables e below (T24.setTop (mkF m 84 #[.val (.int p1), .val (.int p2), .val (.int p3), .val (.int p4), .val (.int p5), .val (.int (1 : Int32)), .val (.int va), .val (.int vb), .val (.ref b10), .unset, .unset, .unset] [(.int (1 : Int32))])) _
    refine OGot.go (fun t k => XS.iconst X24.here hx rfl (hb hby at_84) k) ?_
    show OGot p.tables e below (T24.setTop (mkF m 85 #[.val (.int p1), .val (.int p2), .val (.int p3), .val (.int p4), .val (.int p5), .val (.int (1 : Int32)), .val (.int va), .val (.int vb), .val (.ref b10), .unset, .unset, .unset] [(.int (2 : Int32)), (.int (1 : Int32))])) _
    refine OGot.go (fun t k => XS.icmpYes X24.here hx rfl (pc0 := 85) (pc' := 105) rfl (hb hby at_85) rfl (by decide) (by decide) (by decide) k) ?_
    show OGot p.tables e below (T24.setTop (mkF m 105 #[.val (.int p1), .val (.int p2), .val (.int p3), .val (.int p4), .val (.int p5), .val (.int (1 : Int32)), .val (.int va), .val (.int vb), .val (.ref b10), .unset, .unset, .unset] [])) _
    obtain ⟨T29, h29, X29, e29, E29, A29, D29, -, st29⟩ := newO X24 hx hZ hown (ow hw 34 rfl) (ow hw 35 rfl) (ow hw 36 rfl) rfl (g := (mkF m 105 #[.val (.int p1), .val (.int p2), .val (.int p3), .val (.int p4), .val (.int p5), .val (.int (1 : Int32)), .val (.int va), .val (.int vb), .val (.ref b10), .unset, .unset, .unset] [])) rfl (hb hby at_105) (by decide) (by decide)
    obtain ⟨b29, g29⟩ : ∃ z, z = T24.heap.size := ⟨_, rfl⟩
    rw [← g29] at A29 D29 st29
    refine OGot.go st29 ?_
    have g_b29 : n0 ≤ b29 := Nat.le_trans (osz O24) (Nat.le_of_eq g29.symm)
    have sy_b29 : T24.heap.size ≤ b29 := Nat.le_of_eq g29.symm
    have O29 := O24.ext E29
    have F29_aCells : Fld Z h29 b29 "com/example/curtail/curtail/Placement" "aCells" "Ljava/util/List;" .null := D29 (Or.inr (ow hw 88 rfl)) (ty := (.object "java/util/List")) (by decide)
    show OGot p.tables e below (T29.setTop (mkF m 108 #[.val (.int p1), .val (.int p2), .val (.int p3), .val (.int p4), .val (.int p5), .val (.int (1 : Int32)), .val (.int va), .val (.int vb), .val (.ref b10), .unset, .unset, .unset] [(.ref b29)])) _
    refine OGot.go (fun t k => XS.dup X29.here hx rfl (hb hby at_108) rfl rfl k) ?_
    show OGot p.tables e below (T29.setTop (mkF m 109 #[.val (.int p1), .val (.int p2), .val (.int p3), .val (.int p4), .val (.int p5), .val (.int (1 : Int32)), .val (.int va), .val (.int vb), .val (.ref b10), .unset, .unset, .unset] [(.ref b29), (.ref b29)])) _
    refine OGot.go (fun t k => XS.aload X29.here hx rfl (hb hby at_109) rfl rfl k) ?_
    show OGot p.tables e below (T29.setTop (mkF m 111 #[.val (.int p1), .val (.int p2), .val (.int p3), .val (.int p4), .val (.int p5), .val (.int (1 : Int32)), .val (.int va), .val (.int vb), .val (.ref b10), .unset, .unset, .unset] [(.ref b10), (.ref b29), (.ref b29)])) _
    have F31 : Fld Z h29 b10 "java/util/ArrayList" "size" "I" (.int (1 : Int32)) := (Fo24_1.ext E29)
    have F32 : Fld Z h29 b10 "java/util/ArrayList" "elementData" "[Ljava/lang/Object;" (.ref b9_5_6_11_24) := (Fo24_2.ext E29)
    have F33 : Arv Z h29 b9_5_6_11_24 k9_5_6_11_24 (.object "java/lang/Object") (10 : Int32) [(.ref b21), .null, .null, .null, .null, .null, .null, .null, .null, .null] .null := (Fo24_4.ext E29)
    obtain ⟨_, _, ⟨T30, L30, k30, n30⟩, -, X30, ⟨Lc30, hQ30, l30, y30, z30⟩, st30⟩ := X29.specialBack hx (y := (⟨"com/example/curtail/curtail/Placement", "<init>", "(Ljava/util/List;)V"⟩ : MethodName)) rfl hown (mvT hZ (ow hw 37 rfl)) (mvT hZ (ow hw 38 rfl)) (mvT hZ (ow hw 39 rfl)) (by decide) (backOf (W := 1) (rm7_1 l Z a0 hw [] G b29 b10 b9_5_6_11_24 k9_5_6_11_24 b21 h29 n0 O29 ((OKeep.exa (OKeep.exa ((OKeep.exa A10 K11).ext E21) K22) K24).ext E29) F31 F32 (Fo24_3.ext E29) F33 Fo24_5 ((OKeep.exa (OKeep.exa A21 K22) K24).ext E29) A29 F29_aCells g_b29) hZ (ow hw 39 rfl) (ow hw 36 rfl) (by decide) (by decide)) (g := (mkF m 111 #[.val (.int p1), .val (.int p2), .val (.int p3), .val (.int p4), .val (.int p5), .val (.int (1 : Int32)), .val (.int va), .val (.int vb), .val (.ref b10), .unset, .unset, .unset] [(.ref b10), (.ref b29), (.ref b29)])) rfl (by rw [hml]; rfl) (Steps.refl _) (a := b29) (argsL := [(.ref b10)]) (rest := [(.ref b29)]) (lenOf pd_6 rfl) rfl (by show 2 * 0 + _ ≤ _; exact Nat.le_of_eq rfl) (hb hby at_111) (fun _ _ => ⟨rfl, e29, (by decide : 4 + 2 ≤ _), (by decide : 16 + 3 ≤ _)⟩)
    dsimp only [Pt.U, Pt.locs, Pt.cells, Pt.slots] at X30 l30 y30 z30 st30 hQ30
    subst l30 y30 z30
    obtain ⟨N30q, b5_9_5_7_30, rfl, szb5_9_5_7_30_30, K30, Fo30_0, Fo30_1, Fo30_2, Fo30_3⟩ := hQ30
    have g_b5_9_5_7_30 : n0 ≤ b5_9_5_7_30 := Nat.le_trans (osz O29) szb5_9_5_7_30_30
    have O30 := OKeep.old O29 K30 (ogeS g_b29 oge0)
    have N30 := Fr.app N24 N30q
    refine OGot.on st30 ?_
    show OGot p.tables e below (T30.setTop (mkF m 114 #[.val (.int p1), .val (.int p2), .val (.int p3), .val (.int p4), .val (.int p5), .val (.int (1 : Int32)), .val (.int va), .val (.int vb), .val (.ref b10), .unset, .unset, .unset] [(.ref b29)])) _
    refine OGot.go (fun t k => XS.astore X30.here hx rfl (hb hby at_114) rfl rfl (l' := #[.val (.int p1), .val (.int p2), .val (.int p3), .val (.int p4), .val (.int p5), .val (.int (1 : Int32)), .val (.int va), .val (.int vb), .val (.ref b10), .val (.ref b29), .unset, .unset]) rfl k) ?_
    show OGot p.tables e below (T30.setTop (mkF m 116 #[.val (.int p1), .val (.int p2), .val (.int p3), .val (.int p4), .val (.int p5), .val (.int (1 : Int32)), .val (.int va), .val (.int vb), .val (.ref b10), .val (.ref b29), .unset, .unset] [])) _
    refine OGot.go (fun t k => XS.aload X30.here hx rfl (hb hby at_116) rfl rfl k) ?_
    show OGot p.tables e below (T30.setTop (mkF m 118 #[.val (.int p1), .val (.int p2), .val (.int p3), .val (.int p4), .val (.int p5), .val (.int (1 : Int32)), .val (.int va), .val (.int vb), .val (.ref b10), .val (.ref b29), .unset, .unset] [(.ref b29)])) _
    obtain ⟨cq34, kq34, q34a, q34b, q34c⟩ := isOf hZ rfl (OKeep.exa A29 K30)
    obtain ⟨_, _, ⟨T34, L34, k34, n34⟩, -, X34, ⟨Lc34, hQ34, l34, y34, z34⟩, st34⟩ := X30.virtualBack hx (y := (⟨"com/example/curtail/curtail/Placement", "isAccepted", "()Z"⟩ : MethodName)) (z := (⟨"com/example/curtail/curtail/Placement", "isAccepted", "()Z"⟩ : MethodName)) hown (mvT hZ (ow hw 89 rfl)) (mvT hZ (ow hw 90 rfl)) (notFace_of_selects (args := #[]) (mvT hZ (ow hw 92 rfl))) (mvT hZ (ow hw 92 rfl)) (mvT hZ (ow hw 91 rfl)) (by decide) (backOf (W := 0) (rm14_2 l Z a0 hw [] G b29 b5_9_5_7_30 T30.heap n0 O30 Fo30_0 Fo30_1) hZ (ow hw 93 rfl) (ow hw 36 rfl) (by decide) (by decide)) q34a q34c (g := (mkF m 118 #[.val (.int p1), .val (.int p2), .val (.int p3), .val (.int p4), .val (.int p5), .val (.int (1 : Int32)), .val (.int va), .val (.int vb), .val (.ref b10), .val (.ref b29), .unset, .unset] [(.ref b29)])) rfl (by rw [hml]; rfl) (Steps.refl _) (argsL := []) (rest := []) (lenOf pd_2 rfl) rfl (by show 2 * 0 + _ ≤ _; exact Nat.le_of_eq rfl) (hb hby at_118) (fun _ _ => ⟨rfl, rfl, (by decide : 6 + 0 ≤ _), (by decide : 19 + 0 ≤ _)⟩)
    dsimp only [Pt.U, Pt.locs, Pt.cells, Pt.slots] at X34 l34 y34 z34 st34 hQ34
    subst l34 y34 z34
    obtain ⟨rfl, N34q, e34⟩ := hQ34
    have N34 := Fr.app N30 N34q
    refine OGot.on st34 ?_
    show OGot p.tables e below (T34.setTop (mkF m 121 #[.val (.int p1), .val (.int p2), .val (.int p3), .val (.int p4), .val (.int p5), .val (.int (1 : Int32)), .val (.int va), .val (.int vb), .val (.ref b10), .val (.ref b29), .unset, .unset] [(.int (1 : Int32))])) _
    refine OGot.go (fun t k => XS.istore X34.here hx rfl (hb hby at_121) rfl (l' := #[.val (.int p1), .val (.int p2), .val (.int p3), .val (.int p4), .val (.int p5), .val (.int (1 : Int32)), .val (.int va), .val (.int vb), .val (.ref b10), .val (.ref b29), .val (.int (1 : Int32)), .unset]) rfl k) ?_
    show OGot p.tables e below (T34.setTop (mkF m 123 #[.val (.int p1), .val (.int p2), .val (.int p3), .val (.int p4), .val (.int p5), .val (.int (1 : Int32)), .val (.int va), .val (.int vb), .val (.ref b10), .val (.ref b29), .val (.int (1 : Int32)), .unset] [])) _
    refine OGot.go (fun t k => XS.iload X34.here hx rfl (hb hby at_123) rfl k) ?_
    show OGot p.tables e below (T34.setTop (mkF m 125 #[.val (.int p1), .val (.int p2), .val (.int p3), .val (.int p4), .val (.int p5), .val (.int (1 : Int32)), .val (.int va), .val (.int vb), .val (.ref b10), .val (.ref b29), .val (.int (1 : Int32)), .unset] [(.int (1 : Int32))])) _
    refine OGot.go (fun t k => XS.iload X34.here hx rfl (hb hby at_125) rfl k) ?_
    show OGot p.tables e below (T34.setTop (mkF m 127 #[.val (.int p1), .val (.int p2), .val (.int p3), .val (.int p4), .val (.int p5), .val (.int (1 : Int32)), .val (.int va), .val (.int vb), .val (.ref b10), .val (.ref b29), .val (.int (1 : Int32)), .unset] [(.int (1 : Int32)), (.int (1 : Int32))])) _
    refine OGot.go (fun t k => XS.ifNo X34.here hx rfl (hb hby at_127) rfl (by decide) k) ?_
    show OGot p.tables e below (T34.setTop (mkF m 130 #[.val (.int p1), .val (.int p2), .val (.int p3), .val (.int p4), .val (.int p5), .val (.int (1 : Int32)), .val (.int va), .val (.int vb), .val (.ref b10), .val (.ref b29), .val (.int (1 : Int32)), .unset] [(.int (1 : Int32))])) _
    refine OGot.go (fun t k => XS.iconst X34.here hx rfl (hb hby at_130) k) ?_
    show OGot p.tables e below (T34.setTop (mkF m 131 #[.val (.int p1), .val (.int p2), .val (.int p3), .val (.int p4), .val (.int p5), .val (.int (1 : Int32)), .val (.int va), .val (.int vb), .val (.ref b10), .val (.ref b29), .val (.int (1 : Int32)), .unset] [(.int (1 : Int32)), (.int (1 : Int32))])) _
    refine OGot.go (fun t k => XS.goto X34.here hx rfl (pc0 := 131) (pc' := 135) rfl (hb hby at_131) (by decide) (by decide) k) ?_
    show OGot p.tables e below (T34.setTop (mkF m 135 #[.val (.int p1), .val (.int p2), .val (.int p3), .val (.int p4), .val (.int p5), .val (.int (1 : Int32)), .val (.int va), .val (.int vb), .val (.ref b10), .val (.ref b29), .val (.int (1 : Int32)), .unset] [(.int (1 : Int32)), (.int (1 : Int32))])) _
    refine OGot.go (fun t k => XS.icmpYes X34.here hx rfl (pc0 := 135) (pc' := 140) rfl (hb hby at_135) rfl (by decide) (by decide) (by decide) k) ?_
    show OGot p.tables e below (T34.setTop (mkF m 140 #[.val (.int p1), .val (.int p2), .val (.int p3), .val (.int p4), .val (.int p5), .val (.int (1 : Int32)), .val (.int va), .val (.int vb), .val (.ref b10), .val (.ref b29), .val (.int (1 : Int32)), .unset] [])) _
    obtain ⟨T35, X35, e35, st35⟩ := getS2 X34 hx hZ hown (host := "") (Or.inl (ow hw 102 rfl)) Via.refl e34 (G.2.1.ext O30.2) (g := (mkF m 140 #[.val (.int p1), .val (.int p2), .val (.int p3), .val (.int p4), .val (.int p5), .val (.int (1 : Int32)), .val (.int va), .val (.int vb), .val (.ref b10), .val (.ref b29), .val (.int (1 : Int32)), .unset] [])) rfl (hb hby at_140)
    refine OGot.go st35 ?_
    show OGot p.tables e below (T35.setTop (mkF m 143 #[.val (.int p1), .val (.int p2), .val (.int p3), .val (.int p4), .val (.int p5), .val (.int (1 : Int32)), .val (.int va), .val (.int vb), .val (.ref b10), .val (.ref b29), .val (.int (1 : Int32)), .unset] [(.ref w_REJECTED)])) _
    obtain ⟨cq36, kq36, q36a, q36b, q36c⟩ := isOf hZ e35 (G.2.2.1.ext O30.2)
    obtain ⟨_, _, ⟨T36, L36, k36, n36⟩, -, X36, ⟨Lc36, hQ36, l36, y36, z36⟩, st36⟩ := X35.virtualBack hx (y := (⟨"com/example/curtail/curtail/Placement", "isAccepted", "()Z"⟩ : MethodName)) (z := (⟨"com/example/curtail/curtail/Placement", "isAccepted", "()Z"⟩ : MethodName)) hown (mvT hZ (ow hw 89 rfl)) (mvT hZ (ow hw 90 rfl)) (notFace_of_selects (args := #[]) (mvT hZ (ow hw 92 rfl))) (mvT hZ (ow hw 92 rfl)) (mvT hZ (ow hw 91 rfl)) (by decide) (backOf (W := 0) (rm14_1 l Z a0 hw [] G  T30.heap n0 O30 ) hZ (ow hw 93 rfl) (ow hw 36 rfl) (by decide) (by decide)) q36a q36c (g := (mkF m 143 #[.val (.int p1), .val (.int p2), .val (.int p3), .val (.int p4), .val (.int p5), .val (.int (1 : Int32)), .val (.int va), .val (.int vb), .val (.ref b10), .val (.ref b29), .val (.int (1 : Int32)), .unset] [(.ref w_REJECTED)])) rfl (by rw [hml]; rfl) (Steps.refl _) (argsL := []) (rest := []) (lenOf pd_2 rfl) rfl (by show 2 * 0 + _ ≤ _; exact Nat.le_of_eq rfl) (hb hby at_143) (fun _ _ => ⟨rfl, e35, (by decide : 6 + 0 ≤ _), (by decide : 19 + 0 ≤ _)⟩)
    dsimp only [Pt.U, Pt.locs, Pt.cells, Pt.slots] at X36 l36 y36 z36 st36 hQ36
    subst l36 y36 z36
    obtain ⟨rfl, N36q, e36⟩ := hQ36
    have N36 := Fr.app N34 N36q
    refine OGot.on st36 ?_
    show OGot p.tables e below (T36.setTop (mkF m 146 #[.val (.int p1), .val (.int p2), .val (.int p3), .val (.int p4), .val (.int p5), .val (.int (1 : Int32)), .val (.int va), .val (.int vb), .val (.ref b10), .val (.ref b29), .val (.int (1 : Int32)), .unset] [(.int (0 : Int32))])) _
    refine OGot.go (fun t k => XS.ifYes X36.here hx rfl (pc0 := 146) (pc' := 151) rfl (hb hby at_146) rfl (by decide) (by decide) (by decide) k) ?_
    show OGot p.tables e below (T36.setTop (mkF m 151 #[.val (.int p1), .val (.int p2), .val (.int p3), .val (.int p4), .val (.int p5), .val (.int (1 : Int32)), .val (.int va), .val (.int vb), .val (.ref b10), .val (.ref b29), .val (.int (1 : Int32)), .unset] [])) _
    refine OGot.go (fun t k => XS.iload X36.here hx rfl (hb hby at_151) rfl k) ?_
    show OGot p.tables e below (T36.setTop (mkF m 153 #[.val (.int p1), .val (.int p2), .val (.int p3), .val (.int p4), .val (.int p5), .val (.int (1 : Int32)), .val (.int va), .val (.int vb), .val (.ref b10), .val (.ref b29), .val (.int (1 : Int32)), .unset] [(.int (1 : Int32))])) _
    refine OGot.go (fun t k => XS.ifYes X36.here hx rfl (pc0 := 153) (pc' := 158) rfl (hb hby at_153) rfl (by decide) (by decide) (by decide) k) ?_
    show OGot p.tables e below (T36.setTop (mkF m 158 #[.val (.int p1), .val (.int p2), .val (.int p3), .val (.int p4), .val (.int p5), .val (.int (1 : Int32)), .val (.int va), .val (.int vb), .val (.ref b10), .val (.ref b29), .val (.int (1 : Int32)), .unset] [])) _
    refine OGot.go (fun t k => XS.iload X36.here hx rfl (hb hby at_158) rfl k) ?_
    show OGot p.tables e below (T36.setTop (mkF m 160 #[.val (.int p1), .val (.int p2), .val (.int p3), .val (.int p4), .val (.int p5), .val (.int (1 : Int32)), .val (.int va), .val (.int vb), .val (.ref b10), .val (.ref b29), .val (.int (1 : Int32)), .unset] [(.int (1 : Int32))])) _
    refine OGot.go (fun t k => XS.iconst X36.here hx rfl (hb hby at_160) k) ?_
    show OGot p.tables e below (T36.setTop (mkF m 161 #[.val (.int p1), .val (.int p2), .val (.int p3), .val (.int p4), .val (.int p5), .val (.int (1 : Int32)), .val (.int va), .val (.int vb), .val (.ref b10), .val (.ref b29), .val (.int (1 : Int32)), .unset] [(.int (1 : Int32)), (.int (1 : Int32))])) _
    refine OGot.go (fun t k => XS.icmpNo X36.here hx rfl (hb hby at_161) rfl (by decide) k) ?_
    show OGot p.tables e below (T36.setTop (mkF m 164 #[.val (.int p1), .val (.int p2), .val (.int p3), .val (.int p4), .val (.int p5), .val (.int (1 : Int32)), .val (.int va), .val (.int vb), .val (.ref b10), .val (.ref b29), .val (.int (1 : Int32)), .unset] [])) _
    refine OGot.go (fun t k => XS.iload X36.here hx rfl (hb hby at_164) rfl k) ?_
    show OGot p.tables e below (T36.setTop (mkF m 166 #[.val (.int p1), .val (.int p2), .val (.int p3), .val (.int p4), .val (.int p5), .val (.int (1 : Int32)), .val (.int va), .val (.int vb), .val (.ref b10), .val (.ref b29), .val (.int (1 : Int32)), .unset] [(.int va)])) _
    refine OGot.go (fun t k => XS.goto X36.here hx rfl (pc0 := 166) (pc' := 171) rfl (hb hby at_166) (by decide) (by decide) k) ?_
    show OGot p.tables e below (T36.setTop (mkF m 171 #[.val (.int p1), .val (.int p2), .val (.int p3), .val (.int p4), .val (.int p5), .val (.int (1 : Int32)), .val (.int va), .val (.int vb), .val (.ref b10), .val (.ref b29), .val (.int (1 : Int32)), .unset] [(.int va)])) _
    refine OGot.go (fun t k => XS.istore X36.here hx rfl (hb hby at_171) rfl (l' := #[.val (.int p1), .val (.int p2), .val (.int p3), .val (.int p4), .val (.int p5), .val (.int (1 : Int32)), .val (.int va), .val (.int vb), .val (.ref b10), .val (.ref b29), .val (.int (1 : Int32)), .val (.int va)]) rfl k) ?_
    show OGot p.tables e below (T36.setTop (mkF m 173 #[.val (.int p1), .val (.int p2), .val (.int p3), .val (.int p4), .val (.int p5), .val (.int (1 : Int32)), .val (.int va), .val (.int vb), .val (.ref b10), .val (.ref b29), .val (.int (1 : Int32)), .val (.int va)] [])) _
    refine OGot.go (fun t k => XS.aload X36.here hx rfl (hb hby at_173) rfl rfl k) ?_
    show OGot p.tables e below (T36.setTop (mkF m 175 #[.val (.int p1), .val (.int p2), .val (.int p3), .val (.int p4), .val (.int p5), .val (.int (1 : Int32)), .val (.int va), .val (.int vb), .val (.ref b10), .val (.ref b29), .val (.int (1 : Int32)), .val (.int va)] [(.ref b29)])) _
    have ne38 : b21 ≠ b29 := (Nat.ne_of_lt (Nat.lt_of_lt_of_le (Nat.lt_of_lt_of_le (Nat.lt_of_lt_of_le A21.lt K22.1) K24.1) sy_b29))
    have F39 : Fld Z T30.heap b21 "com/example/curtail/curtail/Placement$Cell" "nSlot" "I" (.int va) := (OKeep.fld ((OKeep.fld Fo22_0 K24 (oninA (Ne.symm ne25) (oninA (Ne.symm ne25) (oninA (Ne.symm ne25) onin0)))).ext E29) K30 (oninA ne38 onin0))
    obtain ⟨cq37, kq37, q37a, q37b, q37c⟩ := isOf hZ e36 (OKeep.exa A29 K30)
    obtain ⟨_, _, ⟨T37, L37, k37, n37⟩, -, X37, ⟨Lc37, hQ37, l37, y37, z37⟩, st37⟩ := X36.virtualBack hx (y := (⟨"com/example/curtail/curtail/Placement", "completionSlot", "()I"⟩ : MethodName)) (z := (⟨"com/example/curtail/curtail/Placement", "completionSlot", "()I"⟩ : MethodName)) hown (mvT hZ (ow hw 228 rfl)) (mvT hZ (ow hw 229 rfl)) (notFace_of_selects (args := #[]) (mvT hZ (ow hw 231 rfl))) (mvT hZ (ow hw 231 rfl)) (mvT hZ (ow hw 230 rfl)) (by decide) (backOf (W := 0) (rm33 l Z a0 hw [] G b29 b5_9_5_7_30 w_EMPTY b21 va T30.heap n0 O30 Fo30_0 Fo30_1 Fo30_3 (G.2.2.2.2.2.2.2.2.2.2.2.2.1.ext O30.2) rfl Fo30_2 (OKeep.exa ((OKeep.exa (OKeep.exa A21 K22) K24).ext E29) K30) F39) hZ (ow hw 232 rfl) (ow hw 36 rfl) (by decide) (by decide)) q37a q37c (g := (mkF m 175 #[.val (.int p1), .val (.int p2), .val (.int p3), .val (.int p4), .val (.int p5), .val (.int (1 : Int32)), .val (.int va), .val (.int vb), .val (.ref b10), .val (.ref b29), .val (.int (1 : Int32)), .val (.int va)] [(.ref b29)])) rfl (by rw [hml]; rfl) (Steps.refl _) (argsL := []) (rest := []) (lenOf pd_5 rfl) rfl (by show 2 * 0 + _ ≤ _; exact Nat.le_of_eq rfl) (hb hby at_175) (fun _ _ => ⟨rfl, e36, (by decide : 6 + 0 ≤ _), (by decide : 19 + 0 ≤ _)⟩)
    dsimp only [Pt.U, Pt.locs, Pt.cells, Pt.slots] at X37 l37 y37 z37 st37 hQ37
    subst l37 y37 z37
    obtain ⟨rfl, N37q, e37⟩ := hQ37
    have N37 := Fr.app N36 N37q
    refine OGot.on st37 ?_
    show OGot p.tables e below (T37.setTop (mkF m 178 #[.val (.int p1), .val (.int p2), .val (.int p3), .val (.int p4), .val (.int p5), .val (.int (1 : Int32)), .val (.int va), .val (.int vb), .val (.ref b10), .val (.ref b29), .val (.int (1 : Int32)), .val (.int va)] [(.int va)])) _
    refine OGot.go (fun t k => XS.iload X37.here hx rfl (hb hby at_178) rfl k) ?_
    show OGot p.tables e below (T37.setTop (mkF m 180 #[.val (.int p1), .val (.int p2), .val (.int p3), .val (.int p4), .val (.int p5), .val (.int (1 : Int32)), .val (.int va), .val (.int vb), .val (.ref b10), .val (.ref b29), .val (.int (1 : Int32)), .val (.int va)] [(.int va), (.int va)])) _
    refine OGot.go (fun t k => XS.icmpNo X37.here hx rfl (hb hby at_180) rfl (teq rfl).2 k) ?_
    show OGot p.tables e below (T37.setTop (mkF m 183 #[.val (.int p1), .val (.int p2), .val (.int p3), .val (.int p4), .val (.int p5), .val (.int (1 : Int32)), .val (.int va), .val (.int vb), .val (.ref b10), .val (.ref b29), .val (.int (1 : Int32)), .val (.int va)] [])) _
    refine OGot.go (fun t k => XS.iconst X37.here hx rfl (hb hby at_183) k) ?_
    show OGot p.tables e below (T37.setTop (mkF m 184 #[.val (.int p1), .val (.int p2), .val (.int p3), .val (.int p4), .val (.int p5), .val (.int (1 : Int32)), .val (.int va), .val (.int vb), .val (.ref b10), .val (.ref b29), .val (.int (1 : Int32)), .val (.int va)] [(.int (1 : Int32))])) _
    refine OGot.go (fun t k => XS.goto X37.here hx rfl (pc0 := 184) (pc' := 188) rfl (hb hby at_184) (by decide) (by decide) k) ?_
    show OGot p.tables e below (T37.setTop (mkF m 188 #[.val (.int p1), .val (.int p2), .val (.int p3), .val (.int p4), .val (.int p5), .val (.int (1 : Int32)), .val (.int va), .val (.int vb), .val (.ref b10), .val (.ref b29), .val (.int (1 : Int32)), .val (.int va)] [(.int (1 : Int32))])) _
    obtain ⟨fs, hr, hrun, hended, hW, hsame⟩ := X37.leave (v := some (.int (1 : Int32))) (fun h => by rw [Bd.returns] at h; cases h)
    refine ⟨_, _, retN X37 hx (t := .boolean) Bd.returns (by simp) (hb hby at_188) hr, hrun, hended, _, _, rfl, ?_, ⟨_, rfl⟩, hW, hsame.mono (by decide) (by decide)⟩
    exact (⟨rfl, N37⟩ : Q0 Z m_OA w_REJECTED w_EMPTY_ELEMENTDATA w_DEFAULTCAPACITY_EMPTY_ELEMENTDATA w_EMPTY_LIST w_EMPTY_LIST_elements w_EMPTY k_w_EMPTY_ELEMENTDATA k_w_DEFAULTCAPACITY_EMPTY_ELEMENTDATA k_w_EMPTY_LIST_elements p1 p2 p3 p4 p5 h0 n0 _ T37.heap _)
  · rw [hk14]
    show OGot p.tables e below (T11.setTop (mkF m 62 #[.val (.int p1), .val (.int p2), .val (.int p3), .val (.int p4), .val (.int p5), .val (.int (2 : Int32)), .val (.int va), .val (.int vb), .val (.ref b10), .unset, .unset, .unset] [(.int (2 : Int32))])) _
    refine OGot.go (fun t k => XS.iconst X11.here hx rfl (hb hby at_62) k) ?_
    show OGot p.tables e below (T11.setTop (mkF m 63 #[.val (.int p1), .val (.int p2), .val (.int p3), .val (.int p4), .val (.int p5), .val (.int (2 : Int32)), .val (.int va), .val (.int vb), .val (.ref b10), .unset, .unset, .unset] [(.int (1 : Int32)), (.int (2 : Int32))])) _
    refine OGot.go (fun t k => XS.icmpNo X11.here hx rfl (hb hby at_63) rfl (by decide) k) ?_
    show OGot p.tables e below (T11.setTop (mkF m 66 #[.val (.int p1), .val (.int p2), .val (.int p3), .val (.int p4), .val (.int p5), .val (.int (2 : Int32)), .val (.int va), .val (.int vb), .val (.ref b10), .unset, .unset, .unset] [])) _
    refine OGot.go (fun t k => XS.aload X11.here hx rfl (hb hby at_66) rfl rfl k) ?_
    show OGot p.tables e below (T11.setTop (mkF m 68 #[.val (.int p1), .val (.int p2), .val (.int p3), .val (.int p4), .val (.int p5), .val (.int (2 : Int32)), .val (.int va), .val (.int vb), .val (.ref b10), .unset, .unset, .unset] [(.ref b10)])) _
    obtain ⟨T40, h40, X40, e40, E40, A40, D40, -, st40⟩ := newO X11 hx hZ hown (ow hw 104 rfl) (ow hw 105 rfl) (ow hw 106 rfl) rfl (g := (mkF m 68 #[.val (.int p1), .val (.int p2), .val (.int p3), .val (.int p4), .val (.int p5), .val (.int (2 : Int32)), .val (.int va), .val (.int vb), .val (.ref b10), .unset, .unset, .unset] [(.ref b10)])) rfl (hb hby at_68) (by decide) (by decide)
    obtain ⟨b40, g40⟩ : ∃ z, z = T11.heap.size := ⟨_, rfl⟩
    rw [← g40] at A40 D40 st40
    refine OGot.go st40 ?_
    have g_b40 : n0 ≤ b40 := Nat.le_trans (osz O11) (Nat.le_of_eq g40.symm)
    have sy_b40 : T11.heap.size ≤ b40 := Nat.le_of_eq g40.symm
    have O40 := O11.ext E40
    have F40_nSlot : Fld Z h40 b40 "com/example/curtail/curtail/Placement$Cell" "nSlot" "I" (.int (0 : Int32)) := D40 (Or.inr (ow hw 112 rfl)) (ty := .int) (by decide)
    have F40_nCloudlet : Fld Z h40 b40 "com/example/curtail/curtail/Placement$Cell" "nCloudlet" "I" (.int (0 : Int32)) := D40 (Or.inr (ow hw 114 rfl)) (ty := .int) (by decide)
    show OGot p.tables e below (T40.setTop (mkF m 71 #[.val (.int p1), .val (.int p2), .val (.int p3), .val (.int p4), .val (.int p5), .val (.int (2 : Int32)), .val (.int va), .val (.int vb), .val (.ref b10), .unset, .unset, .unset] [(.ref b40), (.ref b10)])) _
    refine OGot.go (fun t k => XS.dup X40.here hx rfl (hb hby at_71) rfl rfl k) ?_
    show OGot p.tables e below (T40.setTop (mkF m 72 #[.val (.int p1), .val (.int p2), .val (.int p3), .val (.int p4), .val (.int p5), .val (.int (2 : Int32)), .val (.int va), .val (.int vb), .val (.ref b10), .unset, .unset, .unset] [(.ref b40), (.ref b40), (.ref b10)])) _
    refine OGot.go (fun t k => XS.iload X40.here hx rfl (hb hby at_72) rfl k) ?_
    show OGot p.tables e below (T40.setTop (mkF m 74 #[.val (.int p1), .val (.int p2), .val (.int p3), .val (.int p4), .val (.int p5), .val (.int (2 : Int32)), .val (.int va), .val (.int vb), .val (.ref b10), .unset, .unset, .unset] [(.int va), (.ref b40), (.ref b40), (.ref b10)])) _
    refine OGot.go (fun t k => XS.iloadN X40.here hx rfl (hb hby at_74) rfl k) ?_
    show OGot p.tables e below (T40.setTop (mkF m 75 #[.val (.int p1), .val (.int p2), .val (.int p3), .val (.int p4), .val (.int p5), .val (.int (2 : Int32)), .val (.int va), .val (.int vb), .val (.ref b10), .unset, .unset, .unset] [(.int p4), (.int va), (.ref b40), (.ref b40), (.ref b10)])) _
    obtain ⟨_, _, ⟨T41, L41, k41, n41⟩, -, X41, ⟨Lc41, hQ41, l41, y41, z41⟩, st41⟩ := X40.specialBack hx (y := (⟨"com/example/curtail/curtail/Placement$Cell", "<init>", "(II)V"⟩ : MethodName)) rfl hown (mvT hZ (ow hw 107 rfl)) (mvT hZ (ow hw 108 rfl)) (mvT hZ (ow hw 109 rfl)) (by decide) (backOf (W := 2) (rm16 l Z a0 hw [] G b40 va p4 h40 n0 O40 A40 F40_nSlot g_b40 F40_nCloudlet) hZ (ow hw 109 rfl) (ow hw 106 rfl) (by decide) (by decide)) (g := (mkF m 75 #[.val (.int p1), .val (.int p2), .val (.int p3), .val (.int p4), .val (.int p5), .val (.int (2 : Int32)), .val (.int va), .val (.int vb), .val (.ref b10), .unset, .unset, .unset] [(.int p4), (.int va), (.ref b40), (.ref b40), (.ref b10)])) rfl (by rw [hml]; rfl) (Steps.refl _) (a := b40) (argsL := [(.int va), (.int p4)]) (rest := [(.ref b40), (.ref b10)]) (lenOf pd_7 rfl) rfl (by show 2 * 0 + _ ≤ _; exact Nat.le_of_eq rfl) (hb hby at_75) (fun _ _ => ⟨rfl, e40, (by decide : 2 + 0 ≤ _), (by decide : 5 + 0 ≤ _)⟩)
    dsimp only [Pt.U, Pt.locs, Pt.cells, Pt.slots] at X41 l41 y41 z41 st41 hQ41
    subst l41 y41 z41
    obtain ⟨N41q, rfl, K41, Fo41_0, Fo41_1⟩ := hQ41
    have O41 := OKeep.old O40 K41 (ogeS g_b40 (ogeS g_b40 oge0))
    have N41 := Fr.app N11 N41q
    refine OGot.on st41 ?_
    show OGot p.tables e below (T41.setTop (mkF m 78 #[.val (.int p1), .val (.int p2), .val (.int p3), .val (.int p4), .val (.int p5), .val (.int (2 : Int32)), .val (.int va), .val (.int vb), .val (.ref b10), .unset, .unset, .unset] [(.ref b40), (.ref b10)])) _
    have ne42 : w_DEFAULTCAPACITY_EMPTY_ELEMENTDATA ≠ b10 := (O41.ne G.2.2.2.2.2.2.1.lt g_b10)
    have ne44 : b10 ≠ b40 := (Nat.ne_of_lt (Nat.lt_of_lt_of_le (Nat.lt_of_lt_of_le A10.lt K11.1) sy_b40))
    have F45 : Fld Z T41.heap b10 "java/util/AbstractList" "modCount" "I" (.int (0 : Int32)) := (OKeep.fld (Fo11_0.ext E40) K41 (oninA ne44 (oninA ne44 onin0)))
    have F46 : Fld Z T41.heap b10 "java/util/ArrayList" "elementData" "[Ljava/lang/Object;" (.ref w_DEFAULTCAPACITY_EMPTY_ELEMENTDATA) := (OKeep.fld (Fo11_1.ext E40) K41 (oninA ne44 (oninA ne44 onin0)))
    have F47 : Fld Z T41.heap b10 "java/util/ArrayList" "size" "I" (.int (0 : Int32)) := (OKeep.fld ((OKeep.fld F10_size K11 (oninS (slot_ne (Or.inl (ow hw 70 rfl)) (Or.inl (ow hw 30 rfl)) (by decide) (t := .int) (t' := .int) (by decide) (by decide)) (oninS (slot_ne (Or.inl (ow hw 70 rfl)) (Or.inl (ow hw 33 rfl)) (by decide) (t := .int) (t' := (.array (.object "java/lang/Object"))) (by decide) (by decide)) onin0))).ext E40) K41 (oninA ne44 (oninA ne44 onin0)))
    obtain ⟨cq43, kq43, q43a, q43b, q43c⟩ := isOf hZ rfl (OKeep.exa ((OKeep.exa A10 K11).ext E40) K41)
    obtain ⟨_, _, ⟨T43, L43, k43, n43⟩, -, X43, ⟨Lc43, hQ43, l43, y43, z43⟩, st43⟩ := X41.virtualBack hx (y := (⟨"java/util/ArrayList", "add", "(Ljava/lang/Object;)Z"⟩ : MethodName)) (z := (⟨"java/util/ArrayList", "add", "(Ljava/lang/Object;)Z"⟩ : MethodName)) hown (mvT hZ (ow hw 115 rfl)) (mvT hZ (ow hw 116 rfl)) (notFace_of_selects (args := #[]) (mvT hZ (ow hw 118 rfl))) (mvT hZ (ow hw 118 rfl)) (mvT hZ (ow hw 117 rfl)) (by decide) (backOf (W := 0) (rm17 l Z a0 hw [] G b10 b40 w_DEFAULTCAPACITY_EMPTY_ELEMENTDATA k_w_DEFAULTCAPACITY_EMPTY_ELEMENTDATA T41.heap n0 O41 F45 (OKeep.exa ((OKeep.exa A10 K11).ext E40) K41) g_b10 F46 F47 (G.2.2.2.2.2.2.2.2.2.2.2.2.2.2.2.1.ext O41.2) (G.2.2.2.2.2.2.1.ext O41.2) rfl (OKeep.exa A40 K41) ne42) hZ (ow hw 119 rfl) (ow hw 10 rfl) (by decide) (by decide)) q43a q43c (g := (mkF m 78 #[.val (.int p1), .val (.int p2), .val (.int p3), .val (.int p4), .val (.int p5), .val (.int (2 : Int32)), .val (.int va), .val (.int vb), .val (.ref b10), .unset, .unset, .unset] [(.ref b40), (.ref b10)])) rfl (by rw [hml]; rfl) (Steps.refl _) (argsL := [(.ref b40)]) (rest := []) (lenOf pd_11 rfl) rfl (by show 2 * 0 + _ ≤ _; exact Nat.le_of_eq rfl) (hb hby at_78) (fun _ _ => ⟨rfl, rfl, (by decide : 2 + 1 ≤ _), (by decide : 5 + 10 ≤ _)⟩)
    dsimp only [Pt.U, Pt.locs, Pt.cells, Pt.slots] at X43 l43 y43 z43 st43 hQ43
    subst l43 y43 z43
    obtain ⟨N43q, b9_5_6_11_43, k9_5_6_11_43, rfl, szb9_5_6_11_43_43, K43, Fo43_0, Fo43_1, Fo43_2, Fo43_3, Fo43_4, Fo43_5⟩ := hQ43
    have g_b9_5_6_11_43 : n0 ≤ b9_5_6_11_43 := Nat.le_trans (osz O41) szb9_5_6_11_43_43
    have O43 := OKeep.old O41 K43 (ogeS g_b10 (ogeS g_b10 (ogeS g_b10 oge0)))
    have N43 := Fr.app N41 N43q
    refine OGot.on st43 ?_
    show OGot p.tables e below (T43.setTop (mkF m 81 #[.val (.int p1), .val (.int p2), .val (.int p3), .val (.int p4), .val (.int p5), .val (.int (2 : Int32)), .val (.int va), .val (.int vb), .val (.ref b10), .unset, .unset, .unset] [(.int (1 : Int32))])) _
    refine OGot.go (fun t k => XS.pop X43.here hx rfl (hb hby at_81) rfl rfl k) ?_
    show OGot p.tables e below (T43.setTop (mkF m 82 #[.val (.int p1), .val (.int p2), .val (.int p3), .val (.int p4), .val (.int p5), .val (.int (2 : Int32)), .val (.int va), .val (.int vb), .val (.ref b10), .unset, .unset, .unset] [])) _
    refine OGot.go (fun t k => XS.iload X43.here hx rfl (hb hby at_82) rfl k) ?_
    show OGot p.tables e below (T43.setTop (mkF m 84 #[.val (.int p1), .val (.int p2), .val (.int p3), .val (.int p4), .val (.int p5), .val (.int (2 : Int32)), .val (.int va), .val (.int vb), .val (.ref b10), .unset, .unset, .unset] [(.int (2 : Int32))])) _
    refine OGot.go (fun t k => XS.iconst X43.here hx rfl (hb hby at_84) k) ?_
    show OGot p.tables e below (T43.setTop (mkF m 85 #[.val (.int p1), .val (.int p2), .val (.int p3), .val (.int p4), .val (.int p5), .val (.int (2 : Int32)), .val (.int va), .val (.int vb), .val (.ref b10), .unset, .unset, .unset] [(.int (2 : Int32)), (.int (2 : Int32))])) _
    refine OGot.go (fun t k => XS.icmpNo X43.here hx rfl (hb hby at_85) rfl (by decide) k) ?_
    show OGot p.tables e below (T43.setTop (mkF m 88 #[.val (.int p1), .val (.int p2), .val (.int p3), .val (.int p4), .val (.int p5), .val (.int (2 : Int32)), .val (.int va), .val (.int vb), .val (.ref b10), .unset, .unset, .unset] [])) _
    refine OGot.go (fun t k => XS.aload X43.here hx rfl (hb hby at_88) rfl rfl k) ?_
    show OGot p.tables e below (T43.setTop (mkF m 90 #[.val (.int p1), .val (.int p2), .val (.int p3), .val (.int p4), .val (.int p5), .val (.int (2 : Int32)), .val (.int va), .val (.int vb), .val (.ref b10), .unset, .unset, .unset] [(.ref b10)])) _
    obtain ⟨T48, h48, X48, e48, E48, A48, D48, -, st48⟩ := newO X43 hx hZ hown (ow hw 104 rfl) (ow hw 105 rfl) (ow hw 106 rfl) rfl (g := (mkF m 90 #[.val (.int p1), .val (.int p2), .val (.int p3), .val (.int p4), .val (.int p5), .val (.int (2 : Int32)), .val (.int va), .val (.int vb), .val (.ref b10), .unset, .unset, .unset] [(.ref b10)])) rfl (hb hby at_90) (by decide) (by decide)
    obtain ⟨b48, g48⟩ : ∃ z, z = T43.heap.size := ⟨_, rfl⟩
    rw [← g48] at A48 D48 st48
    refine OGot.go st48 ?_
    have g_b48 : n0 ≤ b48 := Nat.le_trans (osz O43) (Nat.le_of_eq g48.symm)
    have sy_b48 : T43.heap.size ≤ b48 := Nat.le_of_eq g48.symm
    have O48 := O43.ext E48
    have F48_nSlot : Fld Z h48 b48 "com/example/curtail/curtail/Placement$Cell" "nSlot" "I" (.int (0 : Int32)) := D48 (Or.inr (ow hw 112 rfl)) (ty := .int) (by decide)
    have F48_nCloudlet : Fld Z h48 b48 "com/example/curtail/curtail/Placement$Cell" "nCloudlet" "I" (.int (0 : Int32)) := D48 (Or.inr (ow hw 114 rfl)) (ty := .int) (by decide)
    show OGot p.tables e below (T48.setTop (mkF m 93 #[.val (.int p1), .val (.int p2), .val (.int p3), .val (.int p4), .val (.int p5), .val (.int (2 : Int32)), .val (.int va), .val (.int vb), .val (.ref b10), .unset, .unset, .unset] [(.ref b48), (.ref b10)])) _
    refine OGot.go (fun t k => XS.dup X48.here hx rfl (hb hby at_93) rfl rfl k) ?_
    show OGot p.tables e below (T48.setTop (mkF m 94 #[.val (.int p1), .val (.int p2), .val (.int p3), .val (.int p4), .val (.int p5), .val (.int (2 : Int32)), .val (.int va), .val (.int vb), .val (.ref b10), .unset, .unset, .unset] [(.ref b48), (.ref b48), (.ref b10)])) _
    refine OGot.go (fun t k => XS.iload X48.here hx rfl (hb hby at_94) rfl k) ?_
    show OGot p.tables e below (T48.setTop (mkF m 96 #[.val (.int p1), .val (.int p2), .val (.int p3), .val (.int p4), .val (.int p5), .val (.int (2 : Int32)), .val (.int va), .val (.int vb), .val (.ref b10), .unset, .unset, .unset] [(.int vb), (.ref b48), (.ref b48), (.ref b10)])) _
    refine OGot.go (fun t k => XS.iload X48.here hx rfl (hb hby at_96) rfl k) ?_
    show OGot p.tables e below (T48.setTop (mkF m 98 #[.val (.int p1), .val (.int p2), .val (.int p3), .val (.int p4), .val (.int p5), .val (.int (2 : Int32)), .val (.int va), .val (.int vb), .val (.ref b10), .unset, .unset, .unset] [(.int p5), (.int vb), (.ref b48), (.ref b48), (.ref b10)])) _
    obtain ⟨_, _, ⟨T49, L49, k49, n49⟩, -, X49, ⟨Lc49, hQ49, l49, y49, z49⟩, st49⟩ := X48.specialBack hx (y := (⟨"com/example/curtail/curtail/Placement$Cell", "<init>", "(II)V"⟩ : MethodName)) rfl hown (mvT hZ (ow hw 107 rfl)) (mvT hZ (ow hw 108 rfl)) (mvT hZ (ow hw 109 rfl)) (by decide) (backOf (W := 2) (rm16 l Z a0 hw [] G b48 vb p5 h48 n0 O48 A48 F48_nSlot g_b48 F48_nCloudlet) hZ (ow hw 109 rfl) (ow hw 106 rfl) (by decide) (by decide)) (g := (mkF m 98 #[.val (.int p1), .val (.int p2), .val (.int p3), .val (.int p4), .val (.int p5), .val (.int (2 : Int32)), .val (.int va), .val (.int vb), .val (.ref b10), .unset, .unset, .unset] [(.int p5), (.int vb), (.ref b48), (.ref b48), (.ref b10)])) rfl (by rw [hml]; rfl) (Steps.refl _) (a := b48) (argsL := [(.int vb), (.int p5)]) (rest := [(.ref b48), (.ref b10)]) (lenOf pd_7 rfl) rfl (by show 2 * 0 + _ ≤ _; exact Nat.le_of_eq rfl) (hb hby at_98) (fun _ _ => ⟨rfl, e48, (by decide : 4 + 0 ≤ _), (by decide : 17 + 0 ≤ _)⟩)
    dsimp only [Pt.U, Pt.locs, Pt.cells, Pt.slots] at X49 l49 y49 z49 st49 hQ49
    subst l49 y49 z49
    obtain ⟨N49q, rfl, K49, Fo49_0, Fo49_1⟩ := hQ49
    have O49 := OKeep.old O48 K49 (ogeS g_b48 (ogeS g_b48 oge0))
    have N49 := Fr.app N43 N49q
    refine OGot.on st49 ?_
    show OGot p.tables e below (T49.setTop (mkF m 101 #[.val (.int p1), .val (.int p2), .val (.int p3), .val (.int p4), .val (.int p5), .val (.int (2 : Int32)), .val (.int va), .val (.int vb), .val (.ref b10), .unset, .unset, .unset] [(.ref b48), (.ref b10)])) _
    have ne50 : b10 ≠ b9_5_6_11_43 := (Nat.ne_of_lt (Nat.lt_of_lt_of_le (Nat.lt_of_lt_of_le (Nat.lt_of_lt_of_le (Nat.lt_of_lt_of_le A10.lt K11.1) E40.1) K41.1) szb9_5_6_11_43_43))
    have ne52 : b10 ≠ b48 := (Nat.ne_of_lt (Nat.lt_of_lt_of_le (Nat.lt_of_lt_of_le (Nat.lt_of_lt_of_le (Nat.lt_of_lt_of_le (Nat.lt_of_lt_of_le A10.lt K11.1) E40.1) K41.1) K43.1) sy_b48))
    have F53 : Fld Z T49.heap b10 "java/util/AbstractList" "modCount" "I" (.int (1 : Int32)) := (OKeep.fld (Fo43_0.ext E48) K49 (oninA ne52 (oninA ne52 onin0)))
    have F54 : Fld Z T49.heap b10 "java/util/ArrayList" "elementData" "[Ljava/lang/Object;" (.ref b9_5_6_11_43) := (OKeep.fld (Fo43_2.ext E48) K49 (oninA ne52 (oninA ne52 onin0)))
    have F55 : Fld Z T49.heap b10 "java/util/ArrayList" "size" "I" (.int (1 : Int32)) := (OKeep.fld (Fo43_1.ext E48) K49 (oninA ne52 (oninA ne52 onin0)))
    have ne56 : b9_5_6_11_43 ≠ b48 := (Nat.ne_of_lt (Nat.lt_of_lt_of_le Fo43_3.lt sy_b48))
    have F57 : Arv Z T49.heap b9_5_6_11_43 k9_5_6_11_43 (.object "java/lang/Object") (10 : Int32) [(.ref b40), .null, .null, .null, .null, .null, .null, .null, .null, .null] .null := (OKeep.arv (Fo43_4.ext E48) K49 (oallS ne56 (oallS ne56 oall0)))
    obtain ⟨cq51, kq51, q51a, q51b, q51c⟩ := isOf hZ rfl (OKeep.exa ((OKeep.exa (OKeep.exa ((OKeep.exa A10 K11).ext E40) K41) K43).ext E48) K49)
    obtain ⟨_, _, ⟨T51, L51, k51, n51⟩, -, X51, ⟨Lc51, hQ51, l51, y51, z51⟩, st51⟩ := X49.virtualBack hx (y := (⟨"java/util/ArrayList", "add", "(Ljava/lang/Object;)Z"⟩ : MethodName)) (z := (⟨"java/util/ArrayList", "add", "(Ljava/lang/Object;)Z"⟩ : MethodName)) hown (mvT hZ (ow hw 115 rfl)) (mvT hZ (ow hw 116 rfl)) (notFace_of_selects (args := #[]) (mvT hZ (ow hw 118 rfl))) (mvT hZ (ow hw 118 rfl)) (mvT hZ (ow hw 117 rfl)) (by decide) (backOf (W := 0) (rm17_1 l Z a0 hw [] G b10 b48 b9_5_6_11_43 k9_5_6_11_43 b40 T49.heap n0 O49 F53 (OKeep.exa ((OKeep.exa (OKeep.exa ((OKeep.exa A10 K11).ext E40) K41) K43).ext E48) K49) g_b10 F54 F55 F57 Fo43_5 g_b9_5_6_11_43 (OKeep.exa A48 K49) ne50) hZ (ow hw 119 rfl) (ow hw 10 rfl) (by decide) (by decide)) q51a q51c (g := (mkF m 101 #[.val (.int p1), .val (.int p2), .val (.int p3), .val (.int p4), .val (.int p5), .val (.int (2 : Int32)), .val (.int va), .val (.int vb), .val (.ref b10), .unset, .unset, .unset] [(.ref b48), (.ref b10)])) rfl (by rw [hml]; rfl) (Steps.refl _) (argsL := [(.ref b48)]) (rest := []) (lenOf pd_11 rfl) rfl (by show 2 * 0 + _ ≤ _; exact Nat.le_of_eq rfl) (hb hby at_101) (fun _ _ => ⟨rfl, rfl, (by decide : 4 + 0 ≤ _), (by decide : 17 + 0 ≤ _)⟩)
    dsimp only [Pt.U, Pt.locs, Pt.cells, Pt.slots] at X51 l51 y51 z51 st51 hQ51
    subst l51 y51 z51
    obtain ⟨N51q, rfl, K51, Fo51_0, Fo51_1, Fo51_2⟩ := hQ51
    have O51 := OKeep.old O49 K51 (ogeS g_b10 (ogeS g_b10 (ogeS g_b9_5_6_11_43 oge0)))
    have N51 := Fr.app N49 N51q
    refine OGot.on st51 ?_
    show OGot p.tables e below (T51.setTop (mkF m 104 #[.val (.int p1), .val (.int p2), .val (.int p3), .val (.int p4), .val (.int p5), .val (.int (2 : Int32)), .val (.int va), .val (.int vb), .val (.ref b10), .unset, .unset, .unset] [(.int (1 : Int32))])) _
    refine OGot.go (fun t k => XS.pop X51.here hx rfl (hb hby at_104) rfl rfl k) ?_
    show OGot p.tables e below (T51.setTop (mkF m 105 #[.val (.int p1), .val (.int p2), .val (.int p3), .val (.int p4), .val (.int p5), .val (.int (2 : Int32)), .val (.int va), .val (.int vb), .val (.ref b10), .unset, .unset, .unset] [])) _
    obtain ⟨T58, h58, X58, e58, E58, A58, D58, -, st58⟩ := newO X51 hx hZ hown (ow hw 34 rfl) (ow hw 35 rfl) (ow hw 36 rfl) rfl (g := (mkF m 105 #[.val (.int p1), .val (.int p2), .val (.int p3), .val (.int p4), .val (.int p5), .val (.int (2 : Int32)), .val (.int va), .val (.int vb), .val (.ref b10), .unset, .unset, .unset] [])) rfl (hb hby at_105) (by decide) (by decide)
    obtain ⟨b58, g58⟩ : ∃ z, z = T51.heap.size := ⟨_, rfl⟩
    rw [← g58] at A58 D58 st58
    refine OGot.go st58 ?_
    have g_b58 : n0 ≤ b58 := Nat.le_trans (osz O51) (Nat.le_of_eq g58.symm)
    have sy_b58 : T51.heap.size ≤ b58 := Nat.le_of_eq g58.symm
    have O58 := O51.ext E58
    have F58_aCells : Fld Z h58 b58 "com/example/curtail/curtail/Placement" "aCells" "Ljava/util/List;" .null := D58 (Or.inr (ow hw 88 rfl)) (ty := (.object "java/util/List")) (by decide)
    show OGot p.tables e below (T58.setTop (mkF m 108 #[.val (.int p1), .val (.int p2), .val (.int p3), .val (.int p4), .val (.int p5), .val (.int (2 : Int32)), .val (.int va), .val (.int vb), .val (.ref b10), .unset, .unset, .unset] [(.ref b58)])) _
    refine OGot.go (fun t k => XS.dup X58.here hx rfl (hb hby at_108) rfl rfl k) ?_
    show OGot p.tables e below (T58.setTop (mkF m 109 #[.val (.int p1), .val (.int p2), .val (.int p3), .val (.int p4), .val (.int p5), .val (.int (2 : Int32)), .val (.int va), .val (.int vb), .val (.ref b10), .unset, .unset, .unset] [(.ref b58), (.ref b58)])) _
    refine OGot.go (fun t k => XS.aload X58.here hx rfl (hb hby at_109) rfl rfl k) ?_
    show OGot p.tables e below (T58.setTop (mkF m 111 #[.val (.int p1), .val (.int p2), .val (.int p3), .val (.int p4), .val (.int p5), .val (.int (2 : Int32)), .val (.int va), .val (.int vb), .val (.ref b10), .unset, .unset, .unset] [(.ref b10), (.ref b58), (.ref b58)])) _
    have F60 : Fld Z h58 b10 "java/util/ArrayList" "size" "I" (.int (2 : Int32)) := (Fo51_1.ext E58)
    have F61 : Fld Z h58 b10 "java/util/ArrayList" "elementData" "[Ljava/lang/Object;" (.ref b9_5_6_11_43) := ((OKeep.fld F54 K51 (oninS (slot_ne (Or.inl (ow hw 33 rfl)) (Or.inl (ow hw 30 rfl)) (by decide) (t := (.array (.object "java/lang/Object"))) (t' := .int) (by decide) (by decide)) (oninS (slot_ne (Or.inl (ow hw 33 rfl)) (Or.inl (ow hw 70 rfl)) (by decide) (t := (.array (.object "java/lang/Object"))) (t' := .int) (by decide) (by decide)) (oninA ne50 onin0)))).ext E58)
    have F62 : Arv Z h58 b9_5_6_11_43 k9_5_6_11_43 (.object "java/lang/Object") (10 : Int32) [(.ref b40), (.ref b48), .null, .null, .null, .null, .null, .null, .null, .null] .null := (Fo51_2.ext E58)
    have F63 : Fld Z h58 b48 "com/example/curtail/curtail/Placement$Cell" "nSlot" "I" (.int vb) := ((OKeep.fld Fo49_0 K51 (oninA (Ne.symm ne52) (oninA (Ne.symm ne52) (oninA (Ne.symm ne56) onin0)))).ext E58)
    have ne64 : b40 ≠ b48 := (Nat.ne_of_lt (Nat.lt_of_lt_of_le (Nat.lt_of_lt_of_le (Nat.lt_of_lt_of_le A40.lt K41.1) K43.1) sy_b48))
    have ne65 : b40 ≠ b9_5_6_11_43 := (Nat.ne_of_lt (Nat.lt_of_lt_of_le (Nat.lt_of_lt_of_le A40.lt K41.1) szb9_5_6_11_43_43))
    have F66 : Fld Z h58 b40 "com/example/curtail/curtail/Placement$Cell" "nSlot" "I" (.int va) := ((OKeep.fld (OKeep.fld ((OKeep.fld Fo41_0 K43 (oninA (Ne.symm ne44) (oninA (Ne.symm ne44) (oninA (Ne.symm ne44) onin0)))).ext E48) K49 (oninA ne64 (oninA ne64 onin0))) K51 (oninA (Ne.symm ne44) (oninA (Ne.symm ne44) (oninA ne65 onin0)))).ext E58)
    obtain ⟨_, _, ⟨T59, L59, k59, n59⟩, -, X59, ⟨Lc59, hQ59, l59, y59, z59⟩, st59⟩ := X58.specialBack hx (y := (⟨"com/example/curtail/curtail/Placement", "<init>", "(Ljava/util/List;)V"⟩ : MethodName)) rfl hown (mvT hZ (ow hw 37 rfl)) (mvT hZ (ow hw 38 rfl)) (mvT hZ (ow hw 39 rfl)) (by decide) (backOf (W := 1) (rm7_2 l Z a0 hw [] G b58 b10 b9_5_6_11_43 k9_5_6_11_43 b40 b48 vb va h58 n0 O58 ((OKeep.exa (OKeep.exa ((OKeep.exa (OKeep.exa ((OKeep.exa A10 K11).ext E40) K41) K43).ext E48) K49) K51).ext E58) F60 F61 ((OKeep.exa (OKeep.exa (Fo43_3.ext E48) K49) K51).ext E58) F62 Fo43_5 ((OKeep.exa (OKeep.exa A48 K49) K51).ext E58) ((OKeep.exa (OKeep.exa ((OKeep.exa (OKeep.exa A40 K41) K43).ext E48) K49) K51).ext E58) F63 F66 (own_ab h_va h_vb) A58 F58_aCells g_b58) hZ (ow hw 39 rfl) (ow hw 36 rfl) (by decide) (by decide)) (g := (mkF m 111 #[.val (.int p1), .val (.int p2), .val (.int p3), .val (.int p4), .val (.int p5), .val (.int (2 : Int32)), .val (.int va), .val (.int vb), .val (.ref b10), .unset, .unset, .unset] [(.ref b10), (.ref b58), (.ref b58)])) rfl (by rw [hml]; rfl) (Steps.refl _) (a := b58) (argsL := [(.ref b10)]) (rest := [(.ref b58)]) (lenOf pd_6 rfl) rfl (by show 2 * 0 + _ ≤ _; exact Nat.le_of_eq rfl) (hb hby at_111) (fun _ _ => ⟨rfl, e58, (by decide : 5 + 2 ≤ _), (by decide : 18 + 4 ≤ _)⟩)
    dsimp only [Pt.U, Pt.locs, Pt.cells, Pt.slots] at X59 l59 y59 z59 st59 hQ59
    subst l59 y59 z59
    obtain ⟨N59q, b6_10_6_8_59, rfl, szb6_10_6_8_59_59, K59, Fo59_0, Fo59_1, Fo59_2, Fo59_3⟩ := hQ59
    have g_b6_10_6_8_59 : n0 ≤ b6_10_6_8_59 := Nat.le_trans (osz O58) szb6_10_6_8_59_59
    have O59 := OKeep.old O58 K59 (ogeS g_b58 oge0)
    have N59 := Fr.app N51 N59q
    refine OGot.on st59 ?_
    show OGot p.tables e below (T59.setTop (mkF m 114 #[.val (.int p1), .val (.int p2), .val (.int p3), .val (.int p4), .val (.int p5), .val (.int (2 : Int32)), .val (.int va), .val (.int vb), .val (.ref b10), .unset, .unset, .unset] [(.ref b58)])) _
    refine OGot.go (fun t k => XS.astore X59.here hx rfl (hb hby at_114) rfl rfl (l' := #[.val (.int p1), .val (.int p2), .val (.int p3), .val (.int p4), .val (.int p5), .val (.int (2 : Int32)), .val (.int va), .val (.int vb), .val (.ref b10), .val (.ref b58), .unset, .unset]) rfl k) ?_
    show OGot p.tables e below (T59.setTop (mkF m 116 #[.val (.int p1), .val (.int p2), .val (.int p3), .val (.int p4), .val (.int p5), .val (.int (2 : Int32)), .val (.int va), .val (.int vb), .val (.ref b10), .val (.ref b58), .unset, .unset] [])) _
    refine OGot.go (fun t k => XS.aload X59.here hx rfl (hb hby at_116) rfl rfl k) ?_
    show OGot p.tables e below (T59.setTop (mkF m 118 #[.val (.int p1), .val (.int p2), .val (.int p3), .val (.int p4), .val (.int p5), .val (.int (2 : Int32)), .val (.int va), .val (.int vb), .val (.ref b10), .val (.ref b58), .unset, .unset] [(.ref b58)])) _
    obtain ⟨cq67, kq67, q67a, q67b, q67c⟩ := isOf hZ rfl (OKeep.exa A58 K59)
    obtain ⟨_, _, ⟨T67, L67, k67, n67⟩, -, X67, ⟨Lc67, hQ67, l67, y67, z67⟩, st67⟩ := X59.virtualBack hx (y := (⟨"com/example/curtail/curtail/Placement", "isAccepted", "()Z"⟩ : MethodName)) (z := (⟨"com/example/curtail/curtail/Placement", "isAccepted", "()Z"⟩ : MethodName)) hown (mvT hZ (ow hw 89 rfl)) (mvT hZ (ow hw 90 rfl)) (notFace_of_selects (args := #[]) (mvT hZ (ow hw 92 rfl))) (mvT hZ (ow hw 92 rfl)) (mvT hZ (ow hw 91 rfl)) (by decide) (backOf (W := 0) (rm14_2 l Z a0 hw [] G b58 b6_10_6_8_59 T59.heap n0 O59 Fo59_0 Fo59_1) hZ (ow hw 93 rfl) (ow hw 36 rfl) (by decide) (by decide)) q67a q67c (g := (mkF m 118 #[.val (.int p1), .val (.int p2), .val (.int p3), .val (.int p4), .val (.int p5), .val (.int (2 : Int32)), .val (.int va), .val (.int vb), .val (.ref b10), .val (.ref b58), .unset, .unset] [(.ref b58)])) rfl (by rw [hml]; rfl) (Steps.refl _) (argsL := []) (rest := []) (lenOf pd_2 rfl) rfl (by show 2 * 0 + _ ≤ _; exact Nat.le_of_eq rfl) (hb hby at_118) (fun _ _ => ⟨rfl, rfl, (by decide : 7 + 0 ≤ _), (by decide : 22 + 0 ≤ _)⟩)
    dsimp only [Pt.U, Pt.locs, Pt.cells, Pt.slots] at X67 l67 y67 z67 st67 hQ67
    subst l67 y67 z67
    obtain ⟨rfl, N67q, e67⟩ := hQ67
    have N67 := Fr.app N59 N67q
    refine OGot.on st67 ?_
    show OGot p.tables e below (T67.setTop (mkF m 121 #[.val (.int p1), .val (.int p2), .val (.int p3), .val (.int p4), .val (.int p5), .val (.int (2 : Int32)), .val (.int va), .val (.int vb), .val (.ref b10), .val (.ref b58), .unset, .unset] [(.int (1 : Int32))])) _
    refine OGot.go (fun t k => XS.istore X67.here hx rfl (hb hby at_121) rfl (l' := #[.val (.int p1), .val (.int p2), .val (.int p3), .val (.int p4), .val (.int p5), .val (.int (2 : Int32)), .val (.int va), .val (.int vb), .val (.ref b10), .val (.ref b58), .val (.int (1 : Int32)), .unset]) rfl k) ?_
    show OGot p.tables e below (T67.setTop (mkF m 123 #[.val (.int p1), .val (.int p2), .val (.int p3), .val (.int p4), .val (.int p5), .val (.int (2 : Int32)), .val (.int va), .val (.int vb), .val (.ref b10), .val (.ref b58), .val (.int (1 : Int32)), .unset] [])) _
    refine OGot.go (fun t k => XS.iload X67.here hx rfl (hb hby at_123) rfl k) ?_
    show OGot p.tables e below (T67.setTop (mkF m 125 #[.val (.int p1), .val (.int p2), .val (.int p3), .val (.int p4), .val (.int p5), .val (.int (2 : Int32)), .val (.int va), .val (.int vb), .val (.ref b10), .val (.ref b58), .val (.int (1 : Int32)), .unset] [(.int (1 : Int32))])) _
    refine OGot.go (fun t k => XS.iload X67.here hx rfl (hb hby at_125) rfl k) ?_
    show OGot p.tables e below (T67.setTop (mkF m 127 #[.val (.int p1), .val (.int p2), .val (.int p3), .val (.int p4), .val (.int p5), .val (.int (2 : Int32)), .val (.int va), .val (.int vb), .val (.ref b10), .val (.ref b58), .val (.int (1 : Int32)), .unset] [(.int (2 : Int32)), (.int (1 : Int32))])) _
    refine OGot.go (fun t k => XS.ifNo X67.here hx rfl (hb hby at_127) rfl (by decide) k) ?_
    show OGot p.tables e below (T67.setTop (mkF m 130 #[.val (.int p1), .val (.int p2), .val (.int p3), .val (.int p4), .val (.int p5), .val (.int (2 : Int32)), .val (.int va), .val (.int vb), .val (.ref b10), .val (.ref b58), .val (.int (1 : Int32)), .unset] [(.int (1 : Int32))])) _
    refine OGot.go (fun t k => XS.iconst X67.here hx rfl (hb hby at_130) k) ?_
    show OGot p.tables e below (T67.setTop (mkF m 131 #[.val (.int p1), .val (.int p2), .val (.int p3), .val (.int p4), .val (.int p5), .val (.int (2 : Int32)), .val (.int va), .val (.int vb), .val (.ref b10), .val (.ref b58), .val (.int (1 : Int32)), .unset] [(.int (1 : Int32)), (.int (1 : Int32))])) _
    refine OGot.go (fun t k => XS.goto X67.here hx rfl (pc0 := 131) (pc' := 135) rfl (hb hby at_131) (by decide) (by decide) k) ?_
    show OGot p.tables e below (T67.setTop (mkF m 135 #[.val (.int p1), .val (.int p2), .val (.int p3), .val (.int p4), .val (.int p5), .val (.int (2 : Int32)), .val (.int va), .val (.int vb), .val (.ref b10), .val (.ref b58), .val (.int (1 : Int32)), .unset] [(.int (1 : Int32)), (.int (1 : Int32))])) _
    refine OGot.go (fun t k => XS.icmpYes X67.here hx rfl (pc0 := 135) (pc' := 140) rfl (hb hby at_135) rfl (by decide) (by decide) (by decide) k) ?_
    show OGot p.tables e below (T67.setTop (mkF m 140 #[.val (.int p1), .val (.int p2), .val (.int p3), .val (.int p4), .val (.int p5), .val (.int (2 : Int32)), .val (.int va), .val (.int vb), .val (.ref b10), .val (.ref b58), .val (.int (1 : Int32)), .unset] [])) _
    obtain ⟨T68, X68, e68, st68⟩ := getS2 X67 hx hZ hown (host := "") (Or.inl (ow hw 102 rfl)) Via.refl e67 (G.2.1.ext O59.2) (g := (mkF m 140 #[.val (.int p1), .val (.int p2), .val (.int p3), .val (.int p4), .val (.int p5), .val (.int (2 : Int32)), .val (.int va), .val (.int vb), .val (.ref b10), .val (.ref b58), .val (.int (1 : Int32)), .unset] [])) rfl (hb hby at_140)
    refine OGot.go st68 ?_
    show OGot p.tables e below (T68.setTop (mkF m 143 #[.val (.int p1), .val (.int p2), .val (.int p3), .val (.int p4), .val (.int p5), .val (.int (2 : Int32)), .val (.int va), .val (.int vb), .val (.ref b10), .val (.ref b58), .val (.int (1 : Int32)), .unset] [(.ref w_REJECTED)])) _
    obtain ⟨cq69, kq69, q69a, q69b, q69c⟩ := isOf hZ e68 (G.2.2.1.ext O59.2)
    obtain ⟨_, _, ⟨T69, L69, k69, n69⟩, -, X69, ⟨Lc69, hQ69, l69, y69, z69⟩, st69⟩ := X68.virtualBack hx (y := (⟨"com/example/curtail/curtail/Placement", "isAccepted", "()Z"⟩ : MethodName)) (z := (⟨"com/example/curtail/curtail/Placement", "isAccepted", "()Z"⟩ : MethodName)) hown (mvT hZ (ow hw 89 rfl)) (mvT hZ (ow hw 90 rfl)) (notFace_of_selects (args := #[]) (mvT hZ (ow hw 92 rfl))) (mvT hZ (ow hw 92 rfl)) (mvT hZ (ow hw 91 rfl)) (by decide) (backOf (W := 0) (rm14_1 l Z a0 hw [] G  T59.heap n0 O59 ) hZ (ow hw 93 rfl) (ow hw 36 rfl) (by decide) (by decide)) q69a q69c (g := (mkF m 143 #[.val (.int p1), .val (.int p2), .val (.int p3), .val (.int p4), .val (.int p5), .val (.int (2 : Int32)), .val (.int va), .val (.int vb), .val (.ref b10), .val (.ref b58), .val (.int (1 : Int32)), .unset] [(.ref w_REJECTED)])) rfl (by rw [hml]; rfl) (Steps.refl _) (argsL := []) (rest := []) (lenOf pd_2 rfl) rfl (by show 2 * 0 + _ ≤ _; exact Nat.le_of_eq rfl) (hb hby at_143) (fun _ _ => ⟨rfl, e68, (by decide : 7 + 0 ≤ _), (by decide : 22 + 0 ≤ _)⟩)
    dsimp only [Pt.U, Pt.locs, Pt.cells, Pt.slots] at X69 l69 y69 z69 st69 hQ69
    subst l69 y69 z69
    obtain ⟨rfl, N69q, e69⟩ := hQ69
    have N69 := Fr.app N67 N69q
    refine OGot.on st69 ?_
    show OGot p.tables e below (T69.setTop (mkF m 146 #[.val (.int p1), .val (.int p2), .val (.int p3), .val (.int p4), .val (.int p5), .val (.int (2 : Int32)), .val (.int va), .val (.int vb), .val (.ref b10), .val (.ref b58), .val (.int (1 : Int32)), .unset] [(.int (0 : Int32))])) _
    refine OGot.go (fun t k => XS.ifYes X69.here hx rfl (pc0 := 146) (pc' := 151) rfl (hb hby at_146) rfl (by decide) (by decide) (by decide) k) ?_
    show OGot p.tables e below (T69.setTop (mkF m 151 #[.val (.int p1), .val (.int p2), .val (.int p3), .val (.int p4), .val (.int p5), .val (.int (2 : Int32)), .val (.int va), .val (.int vb), .val (.ref b10), .val (.ref b58), .val (.int (1 : Int32)), .unset] [])) _
    refine OGot.go (fun t k => XS.iload X69.here hx rfl (hb hby at_151) rfl k) ?_
    show OGot p.tables e below (T69.setTop (mkF m 153 #[.val (.int p1), .val (.int p2), .val (.int p3), .val (.int p4), .val (.int p5), .val (.int (2 : Int32)), .val (.int va), .val (.int vb), .val (.ref b10), .val (.ref b58), .val (.int (1 : Int32)), .unset] [(.int (2 : Int32))])) _
    refine OGot.go (fun t k => XS.ifYes X69.here hx rfl (pc0 := 153) (pc' := 158) rfl (hb hby at_153) rfl (by decide) (by decide) (by decide) k) ?_
    show OGot p.tables e below (T69.setTop (mkF m 158 #[.val (.int p1), .val (.int p2), .val (.int p3), .val (.int p4), .val (.int p5), .val (.int (2 : Int32)), .val (.int va), .val (.int vb), .val (.ref b10), .val (.ref b58), .val (.int (1 : Int32)), .unset] [])) _
    refine OGot.go (fun t k => XS.iload X69.here hx rfl (hb hby at_158) rfl k) ?_
    show OGot p.tables e below (T69.setTop (mkF m 160 #[.val (.int p1), .val (.int p2), .val (.int p3), .val (.int p4), .val (.int p5), .val (.int (2 : Int32)), .val (.int va), .val (.int vb), .val (.ref b10), .val (.ref b58), .val (.int (1 : Int32)), .unset] [(.int (2 : Int32))])) _
    refine OGot.go (fun t k => XS.iconst X69.here hx rfl (hb hby at_160) k) ?_
    show OGot p.tables e below (T69.setTop (mkF m 161 #[.val (.int p1), .val (.int p2), .val (.int p3), .val (.int p4), .val (.int p5), .val (.int (2 : Int32)), .val (.int va), .val (.int vb), .val (.ref b10), .val (.ref b58), .val (.int (1 : Int32)), .unset] [(.int (1 : Int32)), (.int (2 : Int32))])) _
    refine OGot.go (fun t k => XS.icmpYes X69.here hx rfl (pc0 := 161) (pc' := 169) rfl (hb hby at_161) rfl (by decide) (by decide) (by decide) k) ?_
    show OGot p.tables e below (T69.setTop (mkF m 169 #[.val (.int p1), .val (.int p2), .val (.int p3), .val (.int p4), .val (.int p5), .val (.int (2 : Int32)), .val (.int va), .val (.int vb), .val (.ref b10), .val (.ref b58), .val (.int (1 : Int32)), .unset] [])) _
    refine OGot.go (fun t k => XS.iload X69.here hx rfl (hb hby at_169) rfl k) ?_
    show OGot p.tables e below (T69.setTop (mkF m 171 #[.val (.int p1), .val (.int p2), .val (.int p3), .val (.int p4), .val (.int p5), .val (.int (2 : Int32)), .val (.int va), .val (.int vb), .val (.ref b10), .val (.ref b58), .val (.int (1 : Int32)), .unset] [(.int vb)])) _
    refine OGot.go (fun t k => XS.istore X69.here hx rfl (hb hby at_171) rfl (l' := #[.val (.int p1), .val (.int p2), .val (.int p3), .val (.int p4), .val (.int p5), .val (.int (2 : Int32)), .val (.int va), .val (.int vb), .val (.ref b10), .val (.ref b58), .val (.int (1 : Int32)), .val (.int vb)]) rfl k) ?_
    show OGot p.tables e below (T69.setTop (mkF m 173 #[.val (.int p1), .val (.int p2), .val (.int p3), .val (.int p4), .val (.int p5), .val (.int (2 : Int32)), .val (.int va), .val (.int vb), .val (.ref b10), .val (.ref b58), .val (.int (1 : Int32)), .val (.int vb)] [])) _
    refine OGot.go (fun t k => XS.aload X69.here hx rfl (hb hby at_173) rfl rfl k) ?_
    show OGot p.tables e below (T69.setTop (mkF m 175 #[.val (.int p1), .val (.int p2), .val (.int p3), .val (.int p4), .val (.int p5), .val (.int (2 : Int32)), .val (.int va), .val (.int vb), .val (.ref b10), .val (.ref b58), .val (.int (1 : Int32)), .val (.int vb)] [(.ref b58)])) _
    have ne71 : b48 ≠ b58 := (Nat.ne_of_lt (Nat.lt_of_lt_of_le (Nat.lt_of_lt_of_le (Nat.lt_of_lt_of_le A48.lt K49.1) K51.1) sy_b58))
    have F72 : Fld Z T59.heap b48 "com/example/curtail/curtail/Placement$Cell" "nSlot" "I" (.int vb) := (OKeep.fld F63 K59 (oninA ne71 onin0))
    obtain ⟨cq70, kq70, q70a, q70b, q70c⟩ := isOf hZ e69 (OKeep.exa A58 K59)
    obtain ⟨_, _, ⟨T70, L70, k70, n70⟩, -, X70, ⟨Lc70, hQ70, l70, y70, z70⟩, st70⟩ := X69.virtualBack hx (y := (⟨"com/example/curtail/curtail/Placement", "completionSlot", "()I"⟩ : MethodName)) (z := (⟨"com/example/curtail/curtail/Placement", "completionSlot", "()I"⟩ : MethodName)) hown (mvT hZ (ow hw 228 rfl)) (mvT hZ (ow hw 229 rfl)) (notFace_of_selects (args := #[]) (mvT hZ (ow hw 231 rfl))) (mvT hZ (ow hw 231 rfl)) (mvT hZ (ow hw 230 rfl)) (by decide) (backOf (W := 0) (rm33_1 l Z a0 hw [] G b58 b6_10_6_8_59 b48 vb T59.heap n0 O59 Fo59_0 Fo59_1 Fo59_3 (OKeep.exa ((OKeep.exa (OKeep.exa A48 K49) K51).ext E58) K59) F72) hZ (ow hw 232 rfl) (ow hw 36 rfl) (by decide) (by decide)) q70a q70c (g := (mkF m 175 #[.val (.int p1), .val (.int p2), .val (.int p3), .val (.int p4), .val (.int p5), .val (.int (2 : Int32)), .val (.int va), .val (.int vb), .val (.ref b10), .val (.ref b58), .val (.int (1 : Int32)), .val (.int vb)] [(.ref b58)])) rfl (by rw [hml]; rfl) (Steps.refl _) (argsL := []) (rest := []) (lenOf pd_5 rfl) rfl (by show 2 * 0 + _ ≤ _; exact Nat.le_of_eq rfl) (hb hby at_175) (fun _ _ => ⟨rfl, e69, (by decide : 7 + 0 ≤ _), (by decide : 22 + 0 ≤ _)⟩)
    dsimp only [Pt.U, Pt.locs, Pt.cells, Pt.slots] at X70 l70 y70 z70 st70 hQ70
    subst l70 y70 z70
    obtain ⟨rfl, N70q, e70⟩ := hQ70
    have N70 := Fr.app N69 N70q
    refine OGot.on st70 ?_
    show OGot p.tables e below (T70.setTop (mkF m 178 #[.val (.int p1), .val (.int p2), .val (.int p3), .val (.int p4), .val (.int p5), .val (.int (2 : Int32)), .val (.int va), .val (.int vb), .val (.ref b10), .val (.ref b58), .val (.int (1 : Int32)), .val (.int vb)] [(.int vb)])) _
    refine OGot.go (fun t k => XS.iload X70.here hx rfl (hb hby at_178) rfl k) ?_
    show OGot p.tables e below (T70.setTop (mkF m 180 #[.val (.int p1), .val (.int p2), .val (.int p3), .val (.int p4), .val (.int p5), .val (.int (2 : Int32)), .val (.int va), .val (.int vb), .val (.ref b10), .val (.ref b58), .val (.int (1 : Int32)), .val (.int vb)] [(.int vb), (.int vb)])) _
    refine OGot.go (fun t k => XS.icmpNo X70.here hx rfl (hb hby at_180) rfl (teq rfl).2 k) ?_
    show OGot p.tables e below (T70.setTop (mkF m 183 #[.val (.int p1), .val (.int p2), .val (.int p3), .val (.int p4), .val (.int p5), .val (.int (2 : Int32)), .val (.int va), .val (.int vb), .val (.ref b10), .val (.ref b58), .val (.int (1 : Int32)), .val (.int vb)] [])) _
    refine OGot.go (fun t k => XS.iconst X70.here hx rfl (hb hby at_183) k) ?_
    show OGot p.tables e below (T70.setTop (mkF m 184 #[.val (.int p1), .val (.int p2), .val (.int p3), .val (.int p4), .val (.int p5), .val (.int (2 : Int32)), .val (.int va), .val (.int vb), .val (.ref b10), .val (.ref b58), .val (.int (1 : Int32)), .val (.int vb)] [(.int (1 : Int32))])) _
    refine OGot.go (fun t k => XS.goto X70.here hx rfl (pc0 := 184) (pc' := 188) rfl (hb hby at_184) (by decide) (by decide) k) ?_
    show OGot p.tables e below (T70.setTop (mkF m 188 #[.val (.int p1), .val (.int p2), .val (.int p3), .val (.int p4), .val (.int p5), .val (.int (2 : Int32)), .val (.int va), .val (.int vb), .val (.ref b10), .val (.ref b58), .val (.int (1 : Int32)), .val (.int vb)] [(.int (1 : Int32))])) _
    obtain ⟨fs, hr, hrun, hended, hW, hsame⟩ := X70.leave (v := some (.int (1 : Int32))) (fun h => by rw [Bd.returns] at h; cases h)
    refine ⟨_, _, retN X70 hx (t := .boolean) Bd.returns (by simp) (hb hby at_188) hr, hrun, hended, _, _, rfl, ?_, ⟨_, rfl⟩, hW, hsame.mono (by decide) (by decide)⟩
    exact (⟨rfl, N70⟩ : Q0 Z m_OA w_REJECTED w_EMPTY_ELEMENTDATA w_DEFAULTCAPACITY_EMPTY_ELEMENTDATA w_EMPTY_LIST w_EMPTY_LIST_elements w_EMPTY k_w_EMPTY_ELEMENTDATA k_w_DEFAULTCAPACITY_EMPTY_ELEMENTDATA k_w_EMPTY_LIST_elements p1 p2 p3 p4 p5 h0 n0 _ T70.heap _)
set_option maxRecDepth 65536 in
set_option maxHeartbeats 40000000 in
theorem comes_1 {Post : Tables → Env → Array Value → State → Outcome → State → Prop} (hpost : ∀ tb e args s v u, (limb_1_1.after args s (.returned v) u = true ∧ limb_1_2.after args s (.returned v) u = true ∧ True) → FrameEnd s (.returned v) u (Jvm.fieldLocs frame_1_writes args s ++ Jvm.arrayLocs frame_1_arrays args s ++ Jvm.staticLocs frame_1_statics s) 24 128 → Post tb e args s (.returned v) u) :
    ArmFor flags0 classFile x code maxLocals ret World_1 tables_1 room_1 Calls_1 rest_1 Pre_1 Post := by
  intro l hfl _ _ p e ha hc hk s m args below hf hA hF happ hP
  obtain ⟨hcalls, hrest, hpre⟩ := hP
  obtain ⟨-, -, -, hnamed, -, -, -, hat⟩ := (Spec.applies_iff hf).mp happ
  obtain ⟨hg, hn⟩ := and_e (Cond.before_iff.mp (show (Jvm.Cond.and given_1 narrow_1).before args s = true from hpre))
  obtain ⟨g0, g0r⟩ := and_e hg
  obtain ⟨g1, g1r⟩ := and_e g0r
  obtain ⟨g2, g2r⟩ := and_e g1r
  obtain ⟨g3, g3r⟩ := and_e g2r
  obtain ⟨g4, g4r⟩ := and_e g3r
  obtain ⟨w0, w1, w2, w3, w4, rfl⟩ : ∃ w0 w1 w2 w3 w4 : Value, args = #[w0, w1, w2, w3, w4] := by
    have hs : args.size = 5 := by simpa [Cond.value, given_1] using g0
    obtain ⟨L⟩ := args
    match L, hs with
    | [w0, w1, w2, w3, w4], _ => exact ⟨w0, w1, w2, w3, w4, rfl⟩
  have hw := fun d (hd : d ∈ tables_1) => atoms_spec (ws := Jvm.Cond.code x code maxLocals ret :: tables_1) hat d (List.mem_cons_of_mem _ hd)
  obtain ⟨i0, ei0⟩ := is_v g1
  obtain rfl : w0 = (.int i0) := Option.some.inj ei0
  obtain ⟨i1, ei1⟩ := is_v g2
  obtain rfl : w1 = (.int i1) := Option.some.inj ei1
  obtain ⟨i2, ei2⟩ := is_v g3
  obtain rfl : w2 = (.int i2) := Option.some.inj ei2
  obtain ⟨i3, ei3⟩ := is_v g4
  obtain rfl : w3 = (.int i3) := Option.some.inj ei3
  obtain ⟨i4, ei4⟩ := is_v g4r
  obtain rfl : w4 = (.int i4) := Option.some.inj ei4
  obtain ⟨m0, m0r⟩ := and_e hn
  obtain ⟨hsets, hown0⟩ := atoms_of _ (rest_1_c_eq ▸ (show rest_1_c.before _ s = true from hrest))
  have hfit : Fit s := fun {y c} hc i hi => by
    obtain ⟨ha, rfl⟩ := Array.getElem?_eq_some_iff.mp hc
    have q := List.all_eq_true.mp ((Array.all_eq_true_iff_forall_mem.mp hF) _ (Array.getElem_mem ha)) i (List.mem_range.mpr hi)
    simpa [Array.getElem?_eq_getElem hi] using q
  obtain ⟨⟨c_OA, k_OA, m_OA, mq1, mq2, mq3, -⟩, -⟩ := hcalls
  obtain ⟨w_REJECTED, ev_w_REJECTED⟩ := exa_v m0
  obtain ⟨w_EMPTY_ELEMENTDATA, ev_w_EMPTY_ELEMENTDATA⟩ := exa_v (Cond.before_iff.mp (hsets _ (List.mem_of_getElem? (i := 4) rfl)))
  obtain ⟨w_DEFAULTCAPACITY_EMPTY_ELEMENTDATA, ev_w_DEFAULTCAPACITY_EMPTY_ELEMENTDATA⟩ := exa_v (Cond.before_iff.mp (hsets _ (List.mem_of_getElem? (i := 7) rfl)))
  obtain ⟨w_EMPTY_LIST, ev_w_EMPTY_LIST⟩ := exa_v (Cond.before_iff.mp (hsets _ (List.mem_of_getElem? (i := 11) rfl)))
  obtain ⟨w_EMPTY_LIST_elements, ev_w_EMPTY_LIST_elements⟩ := exa_v (Cond.before_iff.mp (hsets _ (List.mem_of_getElem? (i := 13) rfl)))
  obtain ⟨w_EMPTY, ev_w_EMPTY⟩ := exa_v (Cond.before_iff.mp (hsets _ (List.mem_of_getElem? (i := 18) rfl)))
  obtain ⟨cl_w_EMPTY_ELEMENTDATA, A_w_EMPTY_ELEMENTDATA⟩ := Arr.start ev_w_EMPTY_ELEMENTDATA (Cond.before_iff.mp (hsets _ (List.mem_of_getElem? (i := 3) rfl)))
  obtain ⟨sz_w_EMPTY_ELEMENTDATA, ln_w_EMPTY_ELEMENTDATA⟩ := olen (oeq_int (Cond.before_iff.mp (hsets _ (List.mem_of_getElem? (i := 5) rfl)))) ev_w_EMPTY_ELEMENTDATA (A_w_EMPTY_ELEMENTDATA.fin (Vm.Alike.refl _))
  obtain ⟨k_w_EMPTY_ELEMENTDATA, hk_w_EMPTY_ELEMENTDATA⟩ : ∃ z, z = cl_w_EMPTY_ELEMENTDATA.cls := ⟨_, rfl⟩
  obtain ⟨cl_w_DEFAULTCAPACITY_EMPTY_ELEMENTDATA, A_w_DEFAULTCAPACITY_EMPTY_ELEMENTDATA⟩ := Arr.start ev_w_DEFAULTCAPACITY_EMPTY_ELEMENTDATA (Cond.before_iff.mp (hsets _ (List.mem_of_getElem? (i := 6) rfl)))
  obtain ⟨sz_w_DEFAULTCAPACITY_EMPTY_ELEMENTDATA, ln_w_DEFAULTCAPACITY_EMPTY_ELEMENTDATA⟩ := olen (oeq_int (Cond.before_iff.mp (hsets _ (List.mem_of_getElem? (i := 8) rfl)))) ev_w_DEFAULTCAPACITY_EMPTY_ELEMENTDATA (A_w_DEFAULTCAPACITY_EMPTY_ELEMENTDATA.fin (Vm.Alike.refl _))
  obtain ⟨k_w_DEFAULTCAPACITY_EMPTY_ELEMENTDATA, hk_w_DEFAULTCAPACITY_EMPTY_ELEMENTDATA⟩ : ∃ z, z = cl_w_DEFAULTCAPACITY_EMPTY_ELEMENTDATA.cls := ⟨_, rfl⟩
  obtain ⟨cl_w_EMPTY_LIST_elements, A_w_EMPTY_LIST_elements⟩ := Arr.start ev_w_EMPTY_LIST_elements (Cond.before_iff.mp (hsets _ (List.mem_of_getElem? (i := 12) rfl)))
  obtain ⟨sz_w_EMPTY_LIST_elements, ln_w_EMPTY_LIST_elements⟩ := olen (oeq_int (Cond.before_iff.mp (hsets _ (List.mem_of_getElem? (i := 14) rfl)))) ev_w_EMPTY_LIST_elements (A_w_EMPTY_LIST_elements.fin (Vm.Alike.refl _))
  obtain ⟨k_w_EMPTY_LIST_elements, hk_w_EMPTY_LIST_elements⟩ : ∃ z, z = cl_w_EMPTY_LIST_elements.cls := ⟨_, rfl⟩
  have G : Glob s m_OA w_REJECTED w_EMPTY_ELEMENTDATA w_DEFAULTCAPACITY_EMPTY_ELEMENTDATA w_EMPTY_LIST w_EMPTY_LIST_elements w_EMPTY k_w_EMPTY_ELEMENTDATA k_w_DEFAULTCAPACITY_EMPTY_ELEMENTDATA k_w_EMPTY_LIST_elements := ⟨⟨c_OA, k_OA, mq1, mq2, mq3⟩, (Sta.start ev_w_REJECTED (Or.inr ⟨(ow hw 36 rfl), (ow hw 103 rfl)⟩)), (Exa.start ev_w_REJECTED m0), (Sta.start ev_w_EMPTY_ELEMENTDATA (Or.inl (hsets _ (List.mem_of_getElem? (i := 1) rfl)))), (Exa.start ev_w_EMPTY_ELEMENTDATA (Cond.before_iff.mp (hsets _ (List.mem_of_getElem? (i := 4) rfl)))), (Sta.start ev_w_DEFAULTCAPACITY_EMPTY_ELEMENTDATA (Or.inr ⟨(ow hw 10 rfl), (hsets _ (List.mem_of_getElem? (i := 2) rfl))⟩)), (Exa.start ev_w_DEFAULTCAPACITY_EMPTY_ELEMENTDATA (Cond.before_iff.mp (hsets _ (List.mem_of_getElem? (i := 7) rfl)))), (Sta.start ev_w_EMPTY_LIST (Or.inl (hsets _ (List.mem_of_getElem? (i := 10) rfl)))), (Exa.start ev_w_EMPTY_LIST (Cond.before_iff.mp (hsets _ (List.mem_of_getElem? (i := 11) rfl)))), (Fld.start ((fld_at ev_w_EMPTY_LIST).symm.trans ev_w_EMPTY_LIST_elements)), (Exa.start ev_w_EMPTY_LIST_elements (Cond.before_iff.mp (hsets _ (List.mem_of_getElem? (i := 13) rfl)))), (Sta.start ev_w_EMPTY (Or.inl (hsets _ (List.mem_of_getElem? (i := 17) rfl)))), (Exa.start ev_w_EMPTY (Cond.before_iff.mp (hsets _ (List.mem_of_getElem? (i := 18) rfl)))), (Fld.start ((fld_at ev_w_REJECTED).symm.trans (oeq_ref m0r ev_w_EMPTY_LIST))), (hk_w_EMPTY_ELEMENTDATA ▸ Arv.start hfit A_w_EMPTY_ELEMENTDATA sz_w_EMPTY_ELEMENTDATA ln_w_EMPTY_ELEMENTDATA (by decide) rfl trivial), (hk_w_DEFAULTCAPACITY_EMPTY_ELEMENTDATA ▸ Arv.start hfit A_w_DEFAULTCAPACITY_EMPTY_ELEMENTDATA sz_w_DEFAULTCAPACITY_EMPTY_ELEMENTDATA ln_w_DEFAULTCAPACITY_EMPTY_ELEMENTDATA (by decide) rfl trivial), (hk_w_EMPTY_LIST_elements ▸ Arv.start hfit A_w_EMPTY_LIST_elements sz_w_EMPTY_LIST_elements ln_w_EMPTY_LIST_elements (by decide) rfl trivial), (Fld.start ((fld_at ev_w_EMPTY_LIST).symm.trans (oeq_int (Cond.before_iff.mp (hsets _ (List.mem_of_getElem? (i := 15) rfl)))))), (Sta.start (oeq_int (Cond.before_iff.mp (hsets _ (List.mem_of_getElem? (i := 21) rfl)))) (Or.inl (hsets _ (List.mem_of_getElem? (i := 20) rfl))))⟩
  obtain ⟨n, o, h1, h2, h3, _, L, rfl, ⟨rfl, N⟩, hq⟩ := rm0 l s _ hw tables_1 G i0 i1 i2 i3 i4 s.heap s.heap.size (Old.start s) p e ha hc hk s m _ below hf ((Spec.applies_iff_loose hf).mp happ).1 ⟨rfl, State.Warmed39.refl s, rfl⟩ trivial
  refine ⟨n, _, h1, h2, h3, hpost _ _ _ _ _ _ ⟨Cond.after_iff.mpr rfl, Cond.after_iff.mpr (eq_i res_at (Term.int_eval (1)) rfl), trivial⟩ ⟨hq.1, hq.2.1, (hq.2.2.sift fun y hy => Or.inr (N y hy)).mono (by decide) (by decide)⟩⟩
theorem main_1_1 : Claimed_1_1 := comes_1 fun _ _ _ _ _ _ h hF => ⟨h.1, hF⟩
theorem main_1_2 : Claimed_1_2 := comes_1 fun _ _ _ _ _ _ h hF => ⟨h.2.1, hF⟩
end Jvm.Pilot.@@N@@
namespace Jvm.Pilot.@@N@@
open Jvm Jvm.ClassFile Sem Op Lib Jvm.Free Jvm.Stand Jvm.Pilot.@@N@@.Jvm.D
/-! MADE BY PROGRAM (witnessworld.py) out of the Statement's table words and the real class files: 29 classes; the members and pool entries that the words name. The judged class is class 1, her method 1. -/
namespace start1
open Jvm.ClassFile
def u (s : String) : CpInfo := .utf8 (stringToUtf16 s)
/-- a pool by its gaps: so many unusable entries, then the entry; so many at the end -/
def gap : Nat → List CpInfo → List CpInfo
  | 0, r => r
  | n + 1, r => .unusable :: gap n r
def poolList (es : List (Nat × CpInfo)) (last : Nat) : List CpInfo := es.foldr (fun e r => gap e.1 (e.2 :: r)) (gap last [])
def pool (es : List (Nat × CpInfo)) (last : Nat) : Array CpInfo := ⟨poolList es last⟩
def fileOf (pool : Array CpInfo) (this : Nat) (attrs : Array Attribute := #[]) (ms : Array MethodInfo := #[]) (fl : Nat := 33) (sup : Nat := 0) (ifs : Array Nat := #[]) (fds : Array FieldInfo := #[]) : ClassFile where
  minorVersion := 0
  majorVersion := 65
  constantPool := pool
  accessFlags := fl
  thisClass := this
  superClass := sup
  interfaces := ifs
  fields := fds
  methods := ms
  attributes := attrs
def plain (name : String) (sup : Option ClassId) : Class where
  name := name
  kind := .ordinary
  loader := none
  accessFlags := 33
  super := sup
  interfaces := #[]
  cf := none
  fields := #[]
  methods := #[]
  instanceTypes := #[]
  staticTypes := #[]
  resolved := #[]
  callSites := []
  init := .initialized
  statics := none
  mirror := none

def pool0 : Array CpInfo := pool [(5, u "<init>"), (0, u "()V"), (1, .class_ 10), (1, u "java/lang/Object"), (0, u "getClass"), (0, u "()Ljava/lang/Class;")] 111

def k0c0 : Code := { maxStack := 0, maxLocals := 1, code := object_method_1_code, exceptionTable := #[], attributes := #[] }
def k0m0 : Method := { name := "<init>", desc := "()V", sig := { parameters := [], returnType := none }, accessFlags := 1, code := some k0c0 }
def k0m1 : Method := { name := "getClass", desc := "()Ljava/lang/Class;", sig := { parameters := [], returnType := some (.object "java/lang/Class") }, accessFlags := 273, code := none }
/-- java/lang/Object -/
def k0 : Class := { plain "java/lang/Object" none with
  accessFlags := 33
  interfaces := #[]
  cf := some (fileOf pool0 8 #[] #[{ accessFlags := 1, nameIndex := 5, descriptorIndex := 6, attributes := #[] }, { accessFlags := 273, nameIndex := 11, descriptorIndex := 12, attributes := #[] }] 33 0 #[] #[])
  fields := #[]
  methods := #[k0m0, k0m1]
  instanceTypes := #[]
  staticTypes := #[]
  resolved := Array.replicate 124 none
  statics := none }

def pool1 : Array CpInfo := pool [(2, .class_ 4), (0, .nameAndType 5 6), (0, u "java/lang/Object"), (0, u "<init>"), (0, u "()V"), (0, .integer 2147483647), (0, .methodref 9 10), (0, .class_ 11), (0, .nameAndType 12 13), (0, u "java/lang/Math"), (0, u "min"), (0, u "(II)I"), (0, .methodref 9 15), (0, .nameAndType 16 13), (0, u "max"), (2, .class_ 20), (0, u "java/util/ArrayList"), (0, .methodref 19 3), (0, .class_ 23), (0, u "com/example/curtail/curtail/Placement$Cell"), (0, .methodref 22 25), (0, .nameAndType 5 26), (0, u "(II)V"), (0, .methodref 19 28), (0, .nameAndType 29 30), (0, u "add"), (0, u "(Ljava/lang/Object;)Z"), (0, .class_ 32), (0, u "com/example/curtail/curtail/Placement"), (0, .methodref 31 34), (0, .nameAndType 5 35), (0, u "(Ljava/util/List;)V"), (0, .methodref 31 37), (0, .nameAndType 38 39), (0, u "isAccepted"), (0, u "()Z"), (0, .fieldref 31 41), (0, .nameAndType 42 43), (0, u "REJECTED"), (0, u "Lcom/example/curtail/curtail/Placement;"), (0, .methodref 31 45), (0, .nameAndType 46 47), (0, u "completionSlot"), (0, u "()I"), (0, .class_ 49), (0, u "com/example/curtail/curtail/PlacementIsAcceptedPinLaw"), (2, u "law"), (0, u "(IIIII)Z")] 5

def k1m0 : Method := { name := "<init>", desc := "()V", sig := { parameters := [], returnType := none }, accessFlags := 1, code := none }
def k1c1 : Code := { maxStack := 5, maxLocals := 12, code := code, exceptionTable := #[], attributes := #[] }
def k1m1 : Method := { name := "law", desc := "(IIIII)Z", sig := { parameters := [.int, .int, .int, .int, .int], returnType := some .boolean }, accessFlags := 9, code := some k1c1 }
/-- com/example/curtail/curtail/PlacementIsAcceptedPinLaw -/
def k1 : Class := { plain "com/example/curtail/curtail/PlacementIsAcceptedPinLaw" (some 0) with
  accessFlags := 49
  interfaces := #[]
  cf := some (fileOf pool1 48 #[] #[{ accessFlags := 1, nameIndex := 5, descriptorIndex := 6, attributes := #[] }, { accessFlags := 9, nameIndex := 52, descriptorIndex := 53, attributes := #[] }] 49 2 #[] #[])
  fields := #[]
  methods := #[k1m0, k1m1]
  instanceTypes := #[]
  staticTypes := #[]
  resolved := Array.replicate 59 none
  statics := none }

def pool2 : Array CpInfo := pool [(1, .class_ 2), (0, u "java/lang/Math"), (1, .class_ 6), (1, u "java/lang/Object"), (0, u "<init>"), (0, u "()V"), (89, .class_ 100), (1, u "java/lang/Math$RandomNumberGeneratorHolder"), (71, u "negativeZeroFloatBits"), (0, u "J"), (2, u "negativeZeroDoubleBits"), (21, u "max"), (2, u "min"), (43, u "$assertionsDisabled"), (0, u "Z"), (88, u "(II)I"), (2, u "twoToTheDoubleScaleDown"), (0, u "D"), (4, u "twoToTheDoubleScaleUp"), (9, u "E"), (3, u "PI"), (2, u "TAU"), (2, u "DEGREES_TO_RADIANS"), (0, u "RADIANS_TO_DEGREES")] 94

def k2m0 : Method := { name := "<init>", desc := "()V", sig := { parameters := [], returnType := none }, accessFlags := 2, code := none }
def k2c1 : Code := { maxStack := 2, maxLocals := 2, code := jdk_29_method_65_code, exceptionTable := #[], attributes := #[] }
def k2m1 : Method := { name := "max", desc := "(II)I", sig := { parameters := [.int, .int], returnType := some .int }, accessFlags := 9, code := some k2c1 }
def k2c2 : Code := { maxStack := 2, maxLocals := 2, code := jdk_29_method_69_code, exceptionTable := #[], attributes := #[] }
def k2m2 : Method := { name := "min", desc := "(II)I", sig := { parameters := [.int, .int], returnType := some .int }, accessFlags := 9, code := some k2c2 }
/-- java/lang/Math -/
def k2 : Class := { plain "java/lang/Math" (some 0) with
  accessFlags := 49
  interfaces := #[]
  cf := some (fileOf pool2 1 #[.nestMembers #[98]] #[{ accessFlags := 2, nameIndex := 7, descriptorIndex := 8, attributes := #[] }, { accessFlags := 9, nameIndex := 198, descriptorIndex := 335, attributes := #[] }, { accessFlags := 9, nameIndex := 201, descriptorIndex := 335, attributes := #[] }] 49 4 #[] #[{ accessFlags := 25, nameIndex := 354, descriptorIndex := 339, attributes := #[] }, { accessFlags := 25, nameIndex := 358, descriptorIndex := 339, attributes := #[] }, { accessFlags := 25, nameIndex := 361, descriptorIndex := 339, attributes := #[] }, { accessFlags := 26, nameIndex := 364, descriptorIndex := 339, attributes := #[] }, { accessFlags := 26, nameIndex := 365, descriptorIndex := 339, attributes := #[] }, { accessFlags := 26, nameIndex := 172, descriptorIndex := 173, attributes := #[] }, { accessFlags := 26, nameIndex := 176, descriptorIndex := 173, attributes := #[] }, { accessFlags := 8, nameIndex := 344, descriptorIndex := 339, attributes := #[] }, { accessFlags := 8, nameIndex := 338, descriptorIndex := 339, attributes := #[] }, { accessFlags := 4120, nameIndex := 245, descriptorIndex := 246, attributes := #[] }])
  fields := #[{ name := "E", type := .double, accessFlags := 25, slot := 0, constantValue := 0 }, { name := "PI", type := .double, accessFlags := 25, slot := 1, constantValue := 0 }, { name := "TAU", type := .double, accessFlags := 25, slot := 2, constantValue := 0 }, { name := "DEGREES_TO_RADIANS", type := .double, accessFlags := 26, slot := 3, constantValue := 0 }, { name := "RADIANS_TO_DEGREES", type := .double, accessFlags := 26, slot := 4, constantValue := 0 }, { name := "negativeZeroFloatBits", type := .long, accessFlags := 26, slot := 5, constantValue := 0 }, { name := "negativeZeroDoubleBits", type := .long, accessFlags := 26, slot := 6, constantValue := 0 }, { name := "twoToTheDoubleScaleUp", type := .double, accessFlags := 8, slot := 7, constantValue := 0 }, { name := "twoToTheDoubleScaleDown", type := .double, accessFlags := 8, slot := 8, constantValue := 0 }, { name := "$assertionsDisabled", type := .boolean, accessFlags := 4120, slot := 9, constantValue := 0 }]
  methods := #[k2m0, k2m1, k2m2]
  instanceTypes := #[]
  staticTypes := #[.double, .double, .double, .double, .double, .long, .long, .double, .double, .boolean]
  resolved := Array.replicate 460 none
  statics := none }

def pool3 : Array CpInfo := pool [(8, .class_ 10), (1, u "java/lang/Iterable"), (24, .class_ 36), (0, u "java/lang/Object")] 25

/-- java/lang/Iterable -/
def k3 : Class := { plain "java/lang/Iterable" (some 0) with
  accessFlags := 1537
  interfaces := #[]
  cf := some (fileOf pool3 8 #[] #[] 1537 35 #[] #[])
  fields := #[]
  methods := #[]
  instanceTypes := #[]
  staticTypes := #[]
  resolved := Array.replicate 62 none
  statics := none }

def pool4 : Array CpInfo := pool [(10, .class_ 12), (1, u "java/util/Collection"), (0, u "toArray"), (16, u "()Z"), (29, .class_ 61), (0, u "java/lang/Object"), (0, .class_ 63), (0, u "java/lang/Iterable"), (2, u "isEmpty"), (3, u "()[Ljava/lang/Object;")] 44

def k4m0 : Method := { name := "isEmpty", desc := "()Z", sig := { parameters := [], returnType := some .boolean }, accessFlags := 1025, code := none }
def k4m1 : Method := { name := "toArray", desc := "()[Ljava/lang/Object;", sig := { parameters := [], returnType := some (.array (.object "java/lang/Object")) }, accessFlags := 1025, code := none }
/-- java/util/Collection -/
def k4 : Class := { plain "java/util/Collection" (some 0) with
  accessFlags := 1537
  interfaces := #[3]
  cf := some (fileOf pool4 10 #[] #[{ accessFlags := 1025, nameIndex := 66, descriptorIndex := 30, attributes := #[] }, { accessFlags := 1025, nameIndex := 13, descriptorIndex := 70, attributes := #[] }] 1537 60 #[62] #[])
  fields := #[]
  methods := #[k4m0, k4m1]
  instanceTypes := #[]
  staticTypes := #[]
  resolved := Array.replicate 115 none
  statics := none }

def pool5 : Array CpInfo := pool [(1, .methodref 2 3), (0, .class_ 4), (0, .nameAndType 5 6), (0, u "java/lang/Object"), (0, u "<init>"), (0, u "()V"), (1, .class_ 10), (1, u "java/util/AbstractCollection"), (66, .class_ 78), (0, u "java/util/Collection")] 81

def k5c0 : Code := { maxStack := 1, maxLocals := 1, code := jdk_22_method_1_code, exceptionTable := #[], attributes := #[] }
def k5m0 : Method := { name := "<init>", desc := "()V", sig := { parameters := [], returnType := none }, accessFlags := 4, code := some k5c0 }
/-- java/util/AbstractCollection -/
def k5 : Class := { plain "java/util/AbstractCollection" (some 0) with
  accessFlags := 1057
  interfaces := #[4]
  cf := some (fileOf pool5 8 #[] #[{ accessFlags := 4, nameIndex := 5, descriptorIndex := 6, attributes := #[] }] 1057 2 #[77] #[])
  fields := #[]
  methods := #[k5m0]
  instanceTypes := #[]
  staticTypes := #[]
  resolved := Array.replicate 160 none
  statics := none }

def pool6 : Array CpInfo := pool [(8, .class_ 10), (1, u "java/util/SequencedCollection"), (15, .class_ 27), (0, u "java/lang/Object"), (0, .class_ 29), (0, u "java/util/Collection")] 27

/-- java/util/SequencedCollection -/
def k6 : Class := { plain "java/util/SequencedCollection" (some 0) with
  accessFlags := 1537
  interfaces := #[4]
  cf := some (fileOf pool6 8 #[] #[] 1537 26 #[28] #[])
  fields := #[]
  methods := #[]
  instanceTypes := #[]
  staticTypes := #[]
  resolved := Array.replicate 57 none
  statics := none }

def pool7 : Array CpInfo := pool [(8, .class_ 10), (1, u "java/util/List"), (7, u "()Z"), (12, u "(Ljava/lang/Object;)V"), (16, u "<init>"), (18, u "isEmpty"), (7, u "get"), (0, u "(I)Ljava/lang/Object;"), (2, u "size"), (0, u "()I"), (7, u "of"), (1, .fieldref 91 92), (0, .class_ 93), (0, .nameAndType 94 95), (0, u "java/util/ImmutableCollections"), (0, u "EMPTY_LIST"), (0, u "Ljava/util/ImmutableCollections$ListN;"), (0, .class_ 97), (0, u "java/util/ImmutableCollections$List12"), (0, .methodref 96 99), (0, .nameAndType 48 31), (0, .methodref 96 101), (0, .nameAndType 48 102), (0, u "(Ljava/lang/Object;Ljava/lang/Object;)V"), (0, .class_ 104), (0, u "java/lang/Object"), (3, u "([Ljava/lang/Object;)Ljava/util/List;"), (3, .methodref 91 113), (0, .nameAndType 114 115), (0, u "listCopy"), (0, u "(Ljava/util/Collection;)Ljava/util/List;"), (3, u "()Ljava/util/List;"), (0, .class_ 121), (0, u "java/util/SequencedCollection"), (112, u "copyOf")] 16

def k7m0 : Method := { name := "size", desc := "()I", sig := { parameters := [], returnType := some .int }, accessFlags := 1025, code := none }
def k7m1 : Method := { name := "isEmpty", desc := "()Z", sig := { parameters := [], returnType := some .boolean }, accessFlags := 1025, code := none }
def k7m2 : Method := { name := "get", desc := "(I)Ljava/lang/Object;", sig := { parameters := [.int], returnType := some (.object "java/lang/Object") }, accessFlags := 1025, code := none }
def k7c3 : Code := { maxStack := 1, maxLocals := 0, code := jdk_40_method_36_code, exceptionTable := #[], attributes := #[] }
def k7m3 : Method := { name := "of", desc := "()Ljava/util/List;", sig := { parameters := [], returnType := some (.object "java/util/List") }, accessFlags := 9, code := some k7c3 }
def k7c4 : Code := { maxStack := 5, maxLocals := 2, code := jdk_40_method_47_code, exceptionTable := #[], attributes := #[] }
def k7m4 : Method := { name := "of", desc := "([Ljava/lang/Object;)Ljava/util/List;", sig := { parameters := [(.array (.object "java/lang/Object"))], returnType := some (.object "java/util/List") }, accessFlags := 137, code := some k7c4 }
def k7c5 : Code := { maxStack := 1, maxLocals := 1, code := jdk_40_method_48_code, exceptionTable := #[], attributes := #[] }
def k7m5 : Method := { name := "copyOf", desc := "(Ljava/util/Collection;)Ljava/util/List;", sig := { parameters := [(.object "java/util/Collection")], returnType := some (.object "java/util/List") }, accessFlags := 9, code := some k7c5 }
/-- java/util/List -/
def k7 : Class := { plain "java/util/List" (some 0) with
  accessFlags := 1537
  interfaces := #[6]
  cf := some (fileOf pool7 8 #[] #[{ accessFlags := 1025, nameIndex := 79, descriptorIndex := 80, attributes := #[] }, { accessFlags := 1025, nameIndex := 67, descriptorIndex := 18, attributes := #[] }, { accessFlags := 1025, nameIndex := 75, descriptorIndex := 76, attributes := #[] }, { accessFlags := 9, nameIndex := 88, descriptorIndex := 119, attributes := #[] }, { accessFlags := 137, nameIndex := 88, descriptorIndex := 108, attributes := #[] }, { accessFlags := 9, nameIndex := 234, descriptorIndex := 115, attributes := #[] }] 1537 103 #[120] #[])
  fields := #[]
  methods := #[k7m0, k7m1, k7m2, k7m3, k7m4, k7m5]
  instanceTypes := #[]
  staticTypes := #[]
  resolved := Array.replicate 251 none
  statics := none }

def pool8 : Array CpInfo := pool [(1, .methodref 2 3), (0, .class_ 4), (0, .nameAndType 5 6), (0, u "java/util/AbstractCollection"), (0, u "<init>"), (0, u "()V"), (0, .fieldref 8 9), (0, .class_ 10), (0, .nameAndType 11 12), (0, u "java/util/AbstractList"), (0, u "modCount"), (0, u "I"), (64, .class_ 78), (0, u "java/util/AbstractList$Itr"), (3, .class_ 83), (0, u "java/util/AbstractList$ListItr"), (9, .class_ 94), (0, u "java/util/AbstractList$RandomAccessSubList"), (3, .class_ 99), (0, u "java/util/AbstractList$SubList"), (33, .class_ 134), (0, u "java/util/List"), (73, .class_ 209), (0, u "java/util/AbstractList$SubList$1"), (0, .class_ 211), (0, u "java/util/AbstractList$RandomAccessSpliterator")] 6

def k8c0 : Code := { maxStack := 2, maxLocals := 1, code := jdk_39_method_1_code, exceptionTable := #[], attributes := #[] }
def k8m0 : Method := { name := "<init>", desc := "()V", sig := { parameters := [], returnType := none }, accessFlags := 4, code := some k8c0 }
/-- java/util/AbstractList -/
def k8 : Class := { plain "java/util/AbstractList" (some 5) with
  accessFlags := 1057
  interfaces := #[7]
  cf := some (fileOf pool8 8 #[.nestMembers #[93, 98, 208, 210, 82, 77]] #[{ accessFlags := 4, nameIndex := 5, descriptorIndex := 6, attributes := #[] }] 1057 2 #[133] #[{ accessFlags := 132, nameIndex := 11, descriptorIndex := 12, attributes := #[] }])
  fields := #[{ name := "modCount", type := .int, accessFlags := 132, slot := 0, constantValue := 0 }]
  methods := #[k8m0]
  instanceTypes := #[.int]
  staticTypes := #[]
  resolved := Array.replicate 218 none
  statics := none }

def pool9 : Array CpInfo := pool [(1, .class_ 2), (0, u "java/util/RandomAccess"), (0, .class_ 4), (0, u "java/lang/Object")] 2

/-- java/util/RandomAccess -/
def k9 : Class := { plain "java/util/RandomAccess" (some 0) with
  accessFlags := 1537
  interfaces := #[]
  cf := some (fileOf pool9 1 #[] #[] 1537 3 #[] #[])
  fields := #[]
  methods := #[]
  instanceTypes := #[]
  staticTypes := #[]
  resolved := Array.replicate 7 none
  statics := none }

def pool10 : Array CpInfo := pool [(1, .class_ 2), (0, u "java/lang/Cloneable"), (0, .class_ 4), (0, u "java/lang/Object")] 2

/-- java/lang/Cloneable -/
def k10 : Class := { plain "java/lang/Cloneable" (some 0) with
  accessFlags := 1537
  interfaces := #[]
  cf := some (fileOf pool10 1 #[] #[] 1537 3 #[] #[])
  fields := #[]
  methods := #[]
  instanceTypes := #[]
  staticTypes := #[]
  resolved := Array.replicate 7 none
  statics := none }

def pool11 : Array CpInfo := pool [(1, .class_ 2), (0, u "java/io/Serializable"), (0, .class_ 4), (0, u "java/lang/Object")] 2

/-- java/io/Serializable -/
def k11 : Class := { plain "java/io/Serializable" (some 0) with
  accessFlags := 1537
  interfaces := #[]
  cf := some (fileOf pool11 1 #[] #[] 1537 3 #[] #[])
  fields := #[]
  methods := #[]
  instanceTypes := #[]
  staticTypes := #[]
  resolved := Array.replicate 7 none
  statics := none }

def pool12 : Array CpInfo := pool [(1, .methodref 2 3), (0, .class_ 4), (0, .nameAndType 5 6), (0, u "java/util/AbstractList"), (0, u "<init>"), (0, u "()V"), (0, .class_ 8), (0, u "java/lang/Object"), (0, .fieldref 10 11), (0, .class_ 12), (0, .nameAndType 13 14), (0, u "java/util/ArrayList"), (0, u "elementData"), (0, u "[Ljava/lang/Object;"), (2, u "EMPTY_ELEMENTDATA"), (21, .fieldref 10 40), (0, .nameAndType 41 14), (0, u "DEFAULTCAPACITY_EMPTY_ELEMENTDATA"), (4, u "toArray"), (0, u "()[Ljava/lang/Object;"), (0, .fieldref 10 49), (0, .nameAndType 50 51), (0, u "size"), (0, u "I"), (6, .class_ 60), (1, u "java/util/Arrays"), (0, u "copyOf"), (1, .fieldref 10 64), (0, .nameAndType 65 51), (0, u "modCount"), (0, .methodref 58 67), (0, .nameAndType 61 68), (0, u "([Ljava/lang/Object;I)[Ljava/lang/Object;"), (0, .methodref 10 70), (0, .nameAndType 71 72), (0, u "grow"), (0, u "(I)[Ljava/lang/Object;"), (6, .methodref 80 81), (0, .class_ 82), (0, .nameAndType 83 84), (0, u "java/lang/Math"), (0, u "max"), (0, u "(II)I"), (11, u "(Ljava/lang/Object;)Z"), (32, .methodref 10 130), (0, .nameAndType 71 47), (0, .methodref 10 132), (0, .nameAndType 133 134), (0, u "add"), (0, u "(Ljava/lang/Object;[Ljava/lang/Object;I)V"), (13, .class_ 149), (0, u "java/util/List"), (23, u "()Z"), (88, .class_ 263), (0, u "java/util/ArrayList$ListItr"), (3, .class_ 268), (0, u "java/util/ArrayList$Itr"), (7, .class_ 277), (0, u "java/util/ArrayList$SubList"), (12, .class_ 291), (0, u "java/util/ArrayList$ArrayListSpliterator"), (37, .class_ 330), (0, u "java/util/RandomAccess"), (0, .class_ 332), (0, u "java/lang/Cloneable"), (0, .class_ 334), (0, u "java/io/Serializable"), (0, u "serialVersionUID"), (0, u "J"), (3, u "DEFAULT_CAPACITY"), (22, u "isEmpty"), (136, .class_ 501), (0, u "java/util/ArrayList$SubList$2"), (0, .class_ 503), (0, u "java/util/ArrayList$SubList$1")] 5

def k12c0 : Code := { maxStack := 2, maxLocals := 1, code := jdk_38_method_2_code, exceptionTable := #[], attributes := #[] }
def k12m0 : Method := { name := "<init>", desc := "()V", sig := { parameters := [], returnType := none }, accessFlags := 1, code := some k12c0 }
def k12c1 : Code := { maxStack := 4, maxLocals := 4, code := jdk_38_method_6_code, exceptionTable := #[], attributes := #[] }
def k12m1 : Method := { name := "grow", desc := "(I)[Ljava/lang/Object;", sig := { parameters := [.int], returnType := some (.array (.object "java/lang/Object")) }, accessFlags := 2, code := some k12c1 }
def k12c2 : Code := { maxStack := 3, maxLocals := 1, code := jdk_38_method_7_code, exceptionTable := #[], attributes := #[] }
def k12m2 : Method := { name := "grow", desc := "()[Ljava/lang/Object;", sig := { parameters := [], returnType := some (.array (.object "java/lang/Object")) }, accessFlags := 2, code := some k12c2 }
def k12c3 : Code := { maxStack := 1, maxLocals := 1, code := jdk_38_method_9_code, exceptionTable := #[], attributes := #[] }
def k12m3 : Method := { name := "isEmpty", desc := "()Z", sig := { parameters := [], returnType := some .boolean }, accessFlags := 1, code := some k12c3 }
def k12c4 : Code := { maxStack := 2, maxLocals := 1, code := jdk_38_method_16_code, exceptionTable := #[], attributes := #[] }
def k12m4 : Method := { name := "toArray", desc := "()[Ljava/lang/Object;", sig := { parameters := [], returnType := some (.array (.object "java/lang/Object")) }, accessFlags := 1, code := some k12c4 }
def k12c5 : Code := { maxStack := 3, maxLocals := 4, code := jdk_38_method_24_code, exceptionTable := #[], attributes := #[] }
def k12m5 : Method := { name := "add", desc := "(Ljava/lang/Object;[Ljava/lang/Object;I)V", sig := { parameters := [(.object "java/lang/Object"), (.array (.object "java/lang/Object")), .int], returnType := none }, accessFlags := 2, code := some k12c5 }
def k12c6 : Code := { maxStack := 4, maxLocals := 2, code := jdk_38_method_25_code, exceptionTable := #[], attributes := #[] }
def k12m6 : Method := { name := "add", desc := "(Ljava/lang/Object;)Z", sig := { parameters := [(.object "java/lang/Object")], returnType := some .boolean }, accessFlags := 1, code := some k12c6 }
/-- java/util/ArrayList -/
def k12 : Class := { plain "java/util/ArrayList" (some 8) with
  accessFlags := 33
  interfaces := #[7, 9, 10, 11]
  cf := some (fileOf pool12 10 #[.nestMembers #[290, 276, 500, 502, 262, 267]] #[{ accessFlags := 1, nameIndex := 5, descriptorIndex := 6, attributes := #[] }, { accessFlags := 2, nameIndex := 71, descriptorIndex := 72, attributes := #[] }, { accessFlags := 2, nameIndex := 71, descriptorIndex := 47, attributes := #[] }, { accessFlags := 1, nameIndex := 363, descriptorIndex := 173, attributes := #[] }, { accessFlags := 1, nameIndex := 46, descriptorIndex := 47, attributes := #[] }, { accessFlags := 2, nameIndex := 133, descriptorIndex := 134, attributes := #[] }, { accessFlags := 1, nameIndex := 133, descriptorIndex := 96, attributes := #[] }] 33 2 #[148, 329, 331, 333] #[{ accessFlags := 26, nameIndex := 335, descriptorIndex := 336, attributes := #[] }, { accessFlags := 26, nameIndex := 340, descriptorIndex := 51, attributes := #[] }, { accessFlags := 26, nameIndex := 17, descriptorIndex := 14, attributes := #[] }, { accessFlags := 26, nameIndex := 41, descriptorIndex := 14, attributes := #[] }, { accessFlags := 128, nameIndex := 13, descriptorIndex := 14, attributes := #[] }, { accessFlags := 2, nameIndex := 50, descriptorIndex := 51, attributes := #[] }])
  fields := #[{ name := "serialVersionUID", type := .long, accessFlags := 26, slot := 0, constantValue := 0 }, { name := "DEFAULT_CAPACITY", type := .int, accessFlags := 26, slot := 1, constantValue := 0 }, { name := "EMPTY_ELEMENTDATA", type := (.array (.object "java/lang/Object")), accessFlags := 26, slot := 2, constantValue := 0 }, { name := "DEFAULTCAPACITY_EMPTY_ELEMENTDATA", type := (.array (.object "java/lang/Object")), accessFlags := 26, slot := 3, constantValue := 0 }, { name := "elementData", type := (.array (.object "java/lang/Object")), accessFlags := 128, slot := 1, constantValue := 0 }, { name := "size", type := .int, accessFlags := 2, slot := 2, constantValue := 0 }]
  methods := #[k12m0, k12m1, k12m2, k12m3, k12m4, k12m5, k12m6]
  instanceTypes := #[.int, (.array (.object "java/lang/Object")), .int]
  staticTypes := #[.long, .int, (.array (.object "java/lang/Object")), (.array (.object "java/lang/Object"))]
  resolved := Array.replicate 509 none
  statics := some 0 }

def pool13 : Array CpInfo := pool [(1, .methodref 2 3), (0, .class_ 4), (0, .nameAndType 5 6), (0, u "java/lang/Object"), (0, u "<init>"), (0, u "()V"), (0, .class_ 8), (0, u "java/lang/Record")] 13

def k13c0 : Code := { maxStack := 1, maxLocals := 1, code := jdk_30_method_1_code, exceptionTable := #[], attributes := #[] }
def k13m0 : Method := { name := "<init>", desc := "()V", sig := { parameters := [], returnType := none }, accessFlags := 4, code := some k13c0 }
/-- java/lang/Record -/
def k13 : Class := { plain "java/lang/Record" (some 0) with
  accessFlags := 1057
  interfaces := #[]
  cf := some (fileOf pool13 7 #[] #[{ accessFlags := 4, nameIndex := 5, descriptorIndex := 6, attributes := #[] }] 1057 2 #[] #[])
  fields := #[]
  methods := #[k13m0]
  instanceTypes := #[]
  staticTypes := #[]
  resolved := Array.replicate 22 none
  statics := none }

def pool14 : Array CpInfo := pool [(1, .methodref 2 3), (0, .class_ 4), (0, .nameAndType 5 6), (0, u "java/lang/Record"), (0, u "<init>"), (0, u "()V"), (0, .interfaceMethodref 8 9), (0, .class_ 10), (0, .nameAndType 11 12), (0, u "java/util/List"), (0, u "copyOf"), (0, u "(Ljava/util/Collection;)Ljava/util/List;"), (0, .interfaceMethodref 8 14), (0, .nameAndType 15 16), (0, u "size"), (0, u "()I"), (0, .interfaceMethodref 8 18), (0, .nameAndType 19 20), (0, u "get"), (0, u "(I)Ljava/lang/Object;"), (0, .class_ 22), (0, u "com/example/curtail/curtail/Placement$Cell"), (0, .methodref 21 24), (0, .nameAndType 25 16), (0, u "nSlot"), (15, .fieldref 42 43), (0, .class_ 44), (0, .nameAndType 45 46), (0, u "com/example/curtail/curtail/Placement"), (0, u "aCells"), (0, u "Ljava/util/List;"), (0, .interfaceMethodref 8 48), (0, .nameAndType 49 50), (0, u "isEmpty"), (0, u "()Z"), (23, u "(Ljava/util/List;)V"), (2, u "REJECTED"), (0, u "Lcom/example/curtail/curtail/Placement;"), (7, u "isAccepted"), (0, u "completionSlot")] 33

def k14c0 : Code := { maxStack := 4, maxLocals := 3, code := prog_14_method_1_code, exceptionTable := #[], attributes := #[] }
def k14m0 : Method := { name := "<init>", desc := "(Ljava/util/List;)V", sig := { parameters := [(.object "java/util/List")], returnType := none }, accessFlags := 1, code := some k14c0 }
def k14c1 : Code := { maxStack := 1, maxLocals := 1, code := prog_14_method_2_code, exceptionTable := #[], attributes := #[] }
def k14m1 : Method := { name := "isAccepted", desc := "()Z", sig := { parameters := [], returnType := some .boolean }, accessFlags := 1, code := some k14c1 }
def k14c2 : Code := { maxStack := 3, maxLocals := 1, code := prog_14_method_3_code, exceptionTable := #[], attributes := #[] }
def k14m2 : Method := { name := "completionSlot", desc := "()I", sig := { parameters := [], returnType := some .int }, accessFlags := 1, code := some k14c2 }
/-- com/example/curtail/curtail/Placement -/
def k14 : Class := { plain "com/example/curtail/curtail/Placement" (some 13) with
  accessFlags := 49
  interfaces := #[]
  cf := some (fileOf pool14 42 #[.nestMembers #[21]] #[{ accessFlags := 1, nameIndex := 5, descriptorIndex := 74, attributes := #[] }, { accessFlags := 1, nameIndex := 86, descriptorIndex := 50, attributes := #[] }, { accessFlags := 1, nameIndex := 87, descriptorIndex := 16, attributes := #[] }] 49 2 #[] #[{ accessFlags := 18, nameIndex := 45, descriptorIndex := 46, attributes := #[] }, { accessFlags := 25, nameIndex := 77, descriptorIndex := 78, attributes := #[] }])
  fields := #[{ name := "aCells", type := (.object "java/util/List"), accessFlags := 18, slot := 0, constantValue := 0 }, { name := "REJECTED", type := (.object "com/example/curtail/curtail/Placement"), accessFlags := 25, slot := 0, constantValue := 0 }]
  methods := #[k14m0, k14m1, k14m2]
  instanceTypes := #[(.object "java/util/List")]
  staticTypes := #[(.object "com/example/curtail/curtail/Placement")]
  resolved := Array.replicate 121 none
  statics := some 1 }

def pool15 : Array CpInfo := pool [(2, .class_ 4), (1, u "java/lang/Object"), (0, u "<init>"), (0, u "()V"), (3, .class_ 11), (0, u "java/util/ImmutableCollections$List12"), (0, .class_ 13), (0, u "java/util/ImmutableCollections$ListN"), (3, u "Z"), (0, .class_ 19), (0, u "java/util/List"), (0, .interfaceMethodref 21 22), (0, .class_ 23), (0, .nameAndType 24 25), (0, u "java/util/Collection"), (0, u "isEmpty"), (0, u "()Z"), (0, .interfaceMethodref 18 27), (0, .nameAndType 28 29), (0, u "of"), (0, u "()Ljava/util/List;"), (0, .interfaceMethodref 21 31), (0, .nameAndType 32 33), (0, u "toArray"), (0, u "()[Ljava/lang/Object;"), (0, .interfaceMethodref 18 35), (0, .nameAndType 28 36), (0, u "([Ljava/lang/Object;)Ljava/util/List;"), (10, .class_ 49), (1, u "java/util/ImmutableCollections"), (0, u "$assertionsDisabled"), (5, u "[Ljava/lang/Object;"), (5, u "EMPTY_LIST"), (0, u "Ljava/util/ImmutableCollections$ListN;"), (8, u "EMPTY_LIST_NULLS"), (22, u "SALT32L"), (0, u "J"), (2, u "REVERSE"), (6, u "archivedObjects"), (2, u "EMPTY"), (0, u "Ljava/lang/Object;"), (0, .class_ 112), (0, u "java/util/ImmutableCollections$SetN"), (5, u "EMPTY_SET"), (0, u "Ljava/util/ImmutableCollections$SetN;"), (0, .class_ 121), (0, u "java/util/ImmutableCollections$MapN"), (3, u "EMPTY_MAP"), (0, u "Ljava/util/ImmutableCollections$MapN;"), (4, u "EXPAND_FACTOR"), (0, u "I"), (9, u "listCopy"), (0, u "(Ljava/util/Collection;)Ljava/util/List;"), (25, .class_ 170), (0, u "java/util/ImmutableCollections$MapN$MapNIterator"), (0, .class_ 172), (0, u "java/util/ImmutableCollections$MapN$1"), (0, .class_ 174), (0, u "java/util/ImmutableCollections$Map1"), (0, .class_ 176), (0, u "java/util/ImmutableCollections$AbstractImmutableMap"), (0, .class_ 178), (0, u "java/util/ImmutableCollections$SetN$SetNIterator"), (0, .class_ 180), (0, u "java/util/ImmutableCollections$Set12"), (0, .class_ 182), (0, u "java/util/ImmutableCollections$Set12$1"), (0, .class_ 184), (0, u "java/util/ImmutableCollections$AbstractImmutableSet"), (0, .class_ 186), (0, u "java/util/ImmutableCollections$SubList"), (0, .class_ 188), (0, u "java/util/ImmutableCollections$ListItr"), (0, .class_ 190), (0, u "java/util/ImmutableCollections$AbstractImmutableList"), (0, .class_ 192), (0, u "java/util/ImmutableCollections$AbstractImmutableCollection"), (0, .class_ 194), (0, u "java/util/ImmutableCollections$Access"), (0, .class_ 196), (0, u "java/util/ImmutableCollections$Access$1")] 16

def k15m0 : Method := { name := "<init>", desc := "()V", sig := { parameters := [], returnType := none }, accessFlags := 2, code := none }
def k15c1 : Code := { maxStack := 1, maxLocals := 2, code := jdk_56_method_3_code, exceptionTable := #[], attributes := #[] }
def k15m1 : Method := { name := "listCopy", desc := "(Ljava/util/Collection;)Ljava/util/List;", sig := { parameters := [(.object "java/util/Collection")], returnType := some (.object "java/util/List") }, accessFlags := 8, code := some k15c1 }
/-- java/util/ImmutableCollections -/
def k15 : Class := { plain "java/util/ImmutableCollections" (some 0) with
  accessFlags := 32
  interfaces := #[]
  cf := some (fileOf pool15 47 #[.nestMembers #[120, 169, 171, 173, 175, 111, 177, 179, 181, 183, 12, 10, 185, 187, 189, 191, 193, 195]] #[{ accessFlags := 2, nameIndex := 5, descriptorIndex := 6, attributes := #[] }, { accessFlags := 8, nameIndex := 142, descriptorIndex := 143, attributes := #[] }] 32 2 #[] #[{ accessFlags := 26, nameIndex := 95, descriptorIndex := 96, attributes := #[] }, { accessFlags := 26, nameIndex := 99, descriptorIndex := 17, attributes := #[] }, { accessFlags := 10, nameIndex := 106, descriptorIndex := 56, attributes := #[] }, { accessFlags := 26, nameIndex := 109, descriptorIndex := 110, attributes := #[] }, { accessFlags := 24, nameIndex := 62, descriptorIndex := 63, attributes := #[] }, { accessFlags := 24, nameIndex := 72, descriptorIndex := 63, attributes := #[] }, { accessFlags := 24, nameIndex := 118, descriptorIndex := 119, attributes := #[] }, { accessFlags := 24, nameIndex := 125, descriptorIndex := 126, attributes := #[] }, { accessFlags := 24, nameIndex := 131, descriptorIndex := 132, attributes := #[] }, { accessFlags := 4120, nameIndex := 50, descriptorIndex := 17, attributes := #[] }])
  fields := #[{ name := "SALT32L", type := .long, accessFlags := 26, slot := 0, constantValue := 0 }, { name := "REVERSE", type := .boolean, accessFlags := 26, slot := 1, constantValue := 0 }, { name := "archivedObjects", type := (.array (.object "java/lang/Object")), accessFlags := 10, slot := 2, constantValue := 0 }, { name := "EMPTY", type := (.object "java/lang/Object"), accessFlags := 26, slot := 3, constantValue := 0 }, { name := "EMPTY_LIST", type := (.object "java/util/ImmutableCollections$ListN"), accessFlags := 24, slot := 4, constantValue := 0 }, { name := "EMPTY_LIST_NULLS", type := (.object "java/util/ImmutableCollections$ListN"), accessFlags := 24, slot := 5, constantValue := 0 }, { name := "EMPTY_SET", type := (.object "java/util/ImmutableCollections$SetN"), accessFlags := 24, slot := 6, constantValue := 0 }, { name := "EMPTY_MAP", type := (.object "java/util/ImmutableCollections$MapN"), accessFlags := 24, slot := 7, constantValue := 0 }, { name := "EXPAND_FACTOR", type := .int, accessFlags := 24, slot := 8, constantValue := 0 }, { name := "$assertionsDisabled", type := .boolean, accessFlags := 4120, slot := 9, constantValue := 0 }]
  methods := #[k15m0, k15m1]
  instanceTypes := #[]
  staticTypes := #[.long, .boolean, (.array (.object "java/lang/Object")), (.object "java/lang/Object"), (.object "java/util/ImmutableCollections$ListN"), (.object "java/util/ImmutableCollections$ListN"), (.object "java/util/ImmutableCollections$SetN"), (.object "java/util/ImmutableCollections$MapN"), .int, .boolean]
  resolved := Array.replicate 213 none
  statics := some 2 }

def pool16 : Array CpInfo := pool [(1, .methodref 2 3), (0, .class_ 4), (0, .nameAndType 5 6), (0, u "java/util/AbstractCollection"), (0, u "<init>"), (0, u "()V"), (1, .class_ 10), (1, u "java/util/ImmutableCollections"), (2, .class_ 14), (0, u "java/util/ImmutableCollections$AbstractImmutableCollection")] 41

def k16c0 : Code := { maxStack := 1, maxLocals := 1, code := jdk_47_method_1_code, exceptionTable := #[], attributes := #[] }
def k16m0 : Method := { name := "<init>", desc := "()V", sig := { parameters := [], returnType := none }, accessFlags := 0, code := some k16c0 }
/-- java/util/ImmutableCollections$AbstractImmutableCollection -/
def k16 : Class := { plain "java/util/ImmutableCollections$AbstractImmutableCollection" (some 5) with
  accessFlags := 1056
  interfaces := #[]
  cf := some (fileOf pool16 13 #[.nestHost 8] #[{ accessFlags := 0, nameIndex := 5, descriptorIndex := 6, attributes := #[] }] 1056 2 #[] #[])
  fields := #[]
  methods := #[k16m0]
  instanceTypes := #[]
  staticTypes := #[]
  resolved := Array.replicate 56 none
  statics := none }

def pool17 : Array CpInfo := pool [(1, .methodref 2 3), (0, .class_ 4), (0, .nameAndType 5 6), (0, u "java/util/ImmutableCollections$AbstractImmutableCollection"), (0, u "<init>"), (0, u "()V"), (1, .class_ 10), (1, u "java/util/ImmutableCollections"), (3, .class_ 16), (1, u "java/util/ImmutableCollections$AbstractImmutableList"), (60, .class_ 78), (0, u "java/util/List"), (45, .class_ 125), (0, u "java/util/RandomAccess")] 70

def k17c0 : Code := { maxStack := 1, maxLocals := 1, code := jdk_46_method_1_code, exceptionTable := #[], attributes := #[] }
def k17m0 : Method := { name := "<init>", desc := "()V", sig := { parameters := [], returnType := none }, accessFlags := 0, code := some k17c0 }
/-- java/util/ImmutableCollections$AbstractImmutableList -/
def k17 : Class := { plain "java/util/ImmutableCollections$AbstractImmutableList" (some 16) with
  accessFlags := 1056
  interfaces := #[7, 9]
  cf := some (fileOf pool17 14 #[.nestHost 8] #[{ accessFlags := 0, nameIndex := 5, descriptorIndex := 6, attributes := #[] }] 1056 2 #[77, 124] #[])
  fields := #[]
  methods := #[k17m0]
  instanceTypes := #[]
  staticTypes := #[]
  resolved := Array.replicate 196 none
  statics := none }

def pool18 : Array CpInfo := pool [(1, .methodref 2 3), (0, .class_ 4), (0, .nameAndType 5 6), (0, u "java/util/ImmutableCollections$AbstractImmutableList"), (0, u "<init>"), (0, u "()V"), (0, .methodref 8 9), (0, .class_ 10), (0, .nameAndType 11 12), (0, u "java/util/Objects"), (0, u "requireNonNull"), (0, u "(Ljava/lang/Object;)Ljava/lang/Object;"), (0, .fieldref 14 15), (0, .class_ 16), (0, .nameAndType 17 18), (0, u "java/util/ImmutableCollections$List12"), (0, u "e0"), (0, u "Ljava/lang/Object;"), (0, .fieldref 20 21), (0, .class_ 22), (0, .nameAndType 23 18), (0, u "java/util/ImmutableCollections"), (0, u "EMPTY"), (0, .fieldref 14 25), (0, .nameAndType 26 18), (0, u "e1"), (24, u "size"), (0, u "()I"), (17, .class_ 71), (0, u "java/io/Serializable"), (4, u "(Ljava/lang/Object;)V"), (8, u "(Ljava/lang/Object;Ljava/lang/Object;)V"), (2, u "isEmpty"), (0, u "()Z"), (0, u "get"), (0, u "(I)Ljava/lang/Object;")] 33

def k18c0 : Code := { maxStack := 2, maxLocals := 2, code := jdk_44_method_1_code, exceptionTable := #[], attributes := #[] }
def k18m0 : Method := { name := "<init>", desc := "(Ljava/lang/Object;)V", sig := { parameters := [(.object "java/lang/Object")], returnType := none }, accessFlags := 0, code := some k18c0 }
def k18c1 : Code := { maxStack := 2, maxLocals := 3, code := jdk_44_method_2_code, exceptionTable := #[], attributes := #[] }
def k18m1 : Method := { name := "<init>", desc := "(Ljava/lang/Object;Ljava/lang/Object;)V", sig := { parameters := [(.object "java/lang/Object"), (.object "java/lang/Object")], returnType := none }, accessFlags := 0, code := some k18c1 }
def k18c2 : Code := { maxStack := 2, maxLocals := 1, code := jdk_44_method_3_code, exceptionTable := #[], attributes := #[] }
def k18m2 : Method := { name := "size", desc := "()I", sig := { parameters := [], returnType := some .int }, accessFlags := 1, code := some k18c2 }
def k18c3 : Code := { maxStack := 1, maxLocals := 1, code := jdk_44_method_4_code, exceptionTable := #[], attributes := #[] }
def k18m3 : Method := { name := "isEmpty", desc := "()Z", sig := { parameters := [], returnType := some .boolean }, accessFlags := 1, code := some k18c3 }
def k18c4 : Code := { maxStack := 2, maxLocals := 2, code := jdk_44_method_5_code, exceptionTable := #[], attributes := #[] }
def k18m4 : Method := { name := "get", desc := "(I)Ljava/lang/Object;", sig := { parameters := [.int], returnType := some (.object "java/lang/Object") }, accessFlags := 1, code := some k18c4 }
/-- java/util/ImmutableCollections$List12 -/
def k18 : Class := { plain "java/util/ImmutableCollections$List12" (some 17) with
  accessFlags := 48
  interfaces := #[11]
  cf := some (fileOf pool18 14 #[.nestHost 20] #[{ accessFlags := 0, nameIndex := 5, descriptorIndex := 76, attributes := #[] }, { accessFlags := 0, nameIndex := 5, descriptorIndex := 85, attributes := #[] }, { accessFlags := 1, nameIndex := 51, descriptorIndex := 52, attributes := #[] }, { accessFlags := 1, nameIndex := 88, descriptorIndex := 89, attributes := #[] }, { accessFlags := 1, nameIndex := 90, descriptorIndex := 91, attributes := #[] }] 48 2 #[70] #[{ accessFlags := 18, nameIndex := 17, descriptorIndex := 18, attributes := #[] }, { accessFlags := 18, nameIndex := 26, descriptorIndex := 18, attributes := #[] }])
  fields := #[{ name := "e0", type := (.object "java/lang/Object"), accessFlags := 18, slot := 0, constantValue := 0 }, { name := "e1", type := (.object "java/lang/Object"), accessFlags := 18, slot := 1, constantValue := 0 }]
  methods := #[k18m0, k18m1, k18m2, k18m3, k18m4]
  instanceTypes := #[(.object "java/lang/Object"), (.object "java/lang/Object")]
  staticTypes := #[]
  resolved := Array.replicate 125 none
  statics := none }

def pool19 : Array CpInfo := pool [(2, .class_ 4), (1, u "java/util/ImmutableCollections$AbstractImmutableList"), (2, .fieldref 8 9), (0, .class_ 10), (0, .nameAndType 11 12), (0, u "java/util/ImmutableCollections$ListN"), (0, u "elements"), (0, u "[Ljava/lang/Object;"), (2, u "allowNulls"), (0, u "Z"), (42, .class_ 60), (0, u "java/io/Serializable"), (13, u "isEmpty"), (0, u "()Z"), (1, u "size"), (0, u "()I"), (35, .class_ 115), (0, u "java/util/ImmutableCollections")] 3

def k19c0 : Code := { maxStack := 1, maxLocals := 1, code := jdk_45_method_2_code, exceptionTable := #[], attributes := #[] }
def k19m0 : Method := { name := "isEmpty", desc := "()Z", sig := { parameters := [], returnType := some .boolean }, accessFlags := 1, code := some k19c0 }
def k19c1 : Code := { maxStack := 1, maxLocals := 1, code := jdk_45_method_3_code, exceptionTable := #[], attributes := #[] }
def k19m1 : Method := { name := "size", desc := "()I", sig := { parameters := [], returnType := some .int }, accessFlags := 1, code := some k19c1 }
/-- java/util/ImmutableCollections$ListN -/
def k19 : Class := { plain "java/util/ImmutableCollections$ListN" (some 17) with
  accessFlags := 48
  interfaces := #[11]
  cf := some (fileOf pool19 8 #[.nestHost 114] #[{ accessFlags := 1, nameIndex := 74, descriptorIndex := 75, attributes := #[] }, { accessFlags := 1, nameIndex := 77, descriptorIndex := 78, attributes := #[] }] 48 2 #[59] #[{ accessFlags := 18, nameIndex := 11, descriptorIndex := 12, attributes := #[] }, { accessFlags := 18, nameIndex := 15, descriptorIndex := 16, attributes := #[] }])
  fields := #[{ name := "elements", type := (.array (.object "java/lang/Object")), accessFlags := 18, slot := 0, constantValue := 0 }, { name := "allowNulls", type := .boolean, accessFlags := 18, slot := 1, constantValue := 0 }]
  methods := #[k19m0, k19m1]
  instanceTypes := #[(.array (.object "java/lang/Object")), .boolean]
  staticTypes := #[]
  resolved := Array.replicate 119 none
  statics := none }

def pool20 : Array CpInfo := pool [(1, .methodref 2 3), (0, .class_ 4), (0, .nameAndType 5 6), (0, u "java/lang/Record"), (0, u "<init>"), (0, u "()V"), (0, .fieldref 8 9), (0, .class_ 10), (0, .nameAndType 11 12), (0, u "com/example/curtail/curtail/Placement$Cell"), (0, u "nSlot"), (0, u "I"), (0, .fieldref 8 14), (0, .nameAndType 15 12), (0, u "nCloudlet"), (12, u "(II)V"), (4, u "()I"), (4, .class_ 39), (0, u "com/example/curtail/curtail/Placement")] 20

def k20c0 : Code := { maxStack := 2, maxLocals := 3, code := prog_15_method_1_code, exceptionTable := #[], attributes := #[] }
def k20m0 : Method := { name := "<init>", desc := "(II)V", sig := { parameters := [.int, .int], returnType := none }, accessFlags := 1, code := some k20c0 }
def k20c1 : Code := { maxStack := 1, maxLocals := 1, code := prog_15_method_5_code, exceptionTable := #[], attributes := #[] }
def k20m1 : Method := { name := "nSlot", desc := "()I", sig := { parameters := [], returnType := some .int }, accessFlags := 1, code := some k20c1 }
/-- com/example/curtail/curtail/Placement$Cell -/
def k20 : Class := { plain "com/example/curtail/curtail/Placement$Cell" (some 13) with
  accessFlags := 49
  interfaces := #[]
  cf := some (fileOf pool20 8 #[.nestHost 38] #[{ accessFlags := 1, nameIndex := 5, descriptorIndex := 28, attributes := #[] }, { accessFlags := 1, nameIndex := 11, descriptorIndex := 33, attributes := #[] }] 49 2 #[] #[{ accessFlags := 18, nameIndex := 11, descriptorIndex := 12, attributes := #[] }, { accessFlags := 18, nameIndex := 15, descriptorIndex := 12, attributes := #[] }])
  fields := #[{ name := "nSlot", type := .int, accessFlags := 18, slot := 0, constantValue := 0 }, { name := "nCloudlet", type := .int, accessFlags := 18, slot := 1, constantValue := 0 }]
  methods := #[k20m0, k20m1]
  instanceTypes := #[.int, .int]
  staticTypes := #[]
  resolved := Array.replicate 60 none
  statics := none }

def pool21 : Array CpInfo := pool [(2, .class_ 4), (1, u "java/lang/Object"), (0, u "<init>"), (0, u "()V"), (7, .class_ 16), (1, u "java/util/Arrays"), (57, .class_ 76), (1, u "java/util/Arrays$NaturalOrder"), (9, .methodref 2 87), (0, .nameAndType 88 89), (0, u "getClass"), (0, u "()Ljava/lang/Class;"), (20, .class_ 111), (0, u "[Ljava/lang/Object;"), (1, .class_ 115), (1, u "java/util/Arrays$LegacyMergeSort"), (1, u "Z"), (32, .methodref 151 152), (0, .class_ 153), (0, .nameAndType 154 155), (0, u "java/lang/System"), (0, u "arraycopy"), (0, u "(Ljava/lang/Object;ILjava/lang/Object;II)V"), (144, .methodref 14 301), (0, .nameAndType 302 303), (0, u "copyOf"), (0, u "([Ljava/lang/Object;ILjava/lang/Class;)[Ljava/lang/Object;"), (0, .methodref 305 306), (0, .class_ 307), (0, .nameAndType 308 309), (0, u "java/lang/Math"), (0, u "min"), (0, u "(II)I"), (65, .class_ 376), (0, u "java/util/Arrays$ArrayList"), (68, u "$assertionsDisabled"), (269, u "MIN_ARRAY_SORT_GRAN"), (0, u "I"), (2, u "INSERTIONSORT_THRESHOLD"), (140, u "([Ljava/lang/Object;I)[Ljava/lang/Object;"), (114, .class_ 976), (0, u "java/util/Arrays$ArrayItr")] 52

def k21m0 : Method := { name := "<init>", desc := "()V", sig := { parameters := [], returnType := none }, accessFlags := 2, code := none }
def k21c1 : Code := { maxStack := 3, maxLocals := 2, code := jdk_65_method_119_code, exceptionTable := #[], attributes := #[] }
def k21m1 : Method := { name := "copyOf", desc := "([Ljava/lang/Object;I)[Ljava/lang/Object;", sig := { parameters := [(.array (.object "java/lang/Object")), .int], returnType := some (.array (.object "java/lang/Object")) }, accessFlags := 9, code := some k21c1 }
def k21c2 : Code := { maxStack := 6, maxLocals := 4, code := jdk_65_method_120_code, exceptionTable := #[], attributes := #[] }
def k21m2 : Method := { name := "copyOf", desc := "([Ljava/lang/Object;ILjava/lang/Class;)[Ljava/lang/Object;", sig := { parameters := [(.array (.object "java/lang/Object")), .int, (.object "java/lang/Class")], returnType := some (.array (.object "java/lang/Object")) }, accessFlags := 9, code := some k21c2 }
/-- java/util/Arrays -/
def k21 : Class := { plain "java/util/Arrays" (some 0) with
  accessFlags := 49
  interfaces := #[]
  cf := some (fileOf pool21 14 #[.nestMembers #[975, 375, 113, 74]] #[{ accessFlags := 2, nameIndex := 5, descriptorIndex := 6, attributes := #[] }, { accessFlags := 9, nameIndex := 302, descriptorIndex := 860, attributes := #[] }, { accessFlags := 9, nameIndex := 302, descriptorIndex := 303, attributes := #[] }] 49 2 #[] #[{ accessFlags := 26, nameIndex := 715, descriptorIndex := 716, attributes := #[] }, { accessFlags := 26, nameIndex := 719, descriptorIndex := 716, attributes := #[] }, { accessFlags := 4120, nameIndex := 445, descriptorIndex := 117, attributes := #[] }])
  fields := #[{ name := "MIN_ARRAY_SORT_GRAN", type := .int, accessFlags := 26, slot := 0, constantValue := 0 }, { name := "INSERTIONSORT_THRESHOLD", type := .int, accessFlags := 26, slot := 1, constantValue := 0 }, { name := "$assertionsDisabled", type := .boolean, accessFlags := 4120, slot := 2, constantValue := 0 }]
  methods := #[k21m0, k21m1, k21m2]
  instanceTypes := #[]
  staticTypes := #[.int, .int, .boolean]
  resolved := Array.replicate 1029 none
  statics := none }

def pool22 : Array CpInfo := pool [(2, .class_ 4), (1, u "java/lang/Object"), (0, u "<init>"), (0, u "()V"), (1, .class_ 10), (1, u "java/lang/System"), (0, u "allowSecurityManager"), (0, u "I"), (16, u "cons"), (0, u "Ljava/io/Console;"), (77, .class_ 110), (1, u "java/lang/System$CallersHolder"), (43, u "initialErrStream"), (0, u "Ljava/io/PrintStream;"), (19, u "security"), (0, u "Ljava/lang/SecurityManager;"), (31, .class_ 209), (0, u "java/lang/System$1"), (7, u "props"), (0, u "Ljava/util/Properties;"), (2, u "lineSeparator"), (0, u "Ljava/lang/String;"), (96, .class_ 321), (1, u "java/lang/System$LoggerFinder"), (5, .class_ 328), (0, u "java/lang/System$Logger"), (67, u "err"), (2, u "out"), (91, u "notSupportedJnuEncoding"), (15, u "in"), (17, u "initialIn"), (0, u "Ljava/io/InputStream;"), (35, u "bootLayer"), (0, u "Ljava/lang/ModuleLayer;"), (99, .class_ 664), (0, u "java/lang/System$2"), (9, u "NEVER"), (2, u "MAYBE"), (49, u "arraycopy"), (0, u "(Ljava/lang/Object;ILjava/lang/Object;II)V"), (72, .class_ 802), (0, u "java/lang/System$Logger$Level")] 31

def k22m0 : Method := { name := "<init>", desc := "()V", sig := { parameters := [], returnType := none }, accessFlags := 2, code := none }
def k22m1 : Method := { name := "arraycopy", desc := "(Ljava/lang/Object;ILjava/lang/Object;II)V", sig := { parameters := [(.object "java/lang/Object"), .int, (.object "java/lang/Object"), .int, .int], returnType := none }, accessFlags := 265, code := none }
/-- java/lang/System -/
def k22 : Class := { plain "java/lang/System" (some 0) with
  accessFlags := 49
  interfaces := #[]
  cf := some (fileOf pool22 8 #[.nestMembers #[319, 327, 801, 108, 663, 208]] #[{ accessFlags := 2, nameIndex := 5, descriptorIndex := 6, attributes := #[] }, { accessFlags := 265, nameIndex := 727, descriptorIndex := 728, attributes := #[] }] 49 2 #[] #[{ accessFlags := 25, nameIndex := 507, descriptorIndex := 526, attributes := #[] }, { accessFlags := 25, nameIndex := 399, descriptorIndex := 155, attributes := #[] }, { accessFlags := 25, nameIndex := 396, descriptorIndex := 155, attributes := #[] }, { accessFlags := 10, nameIndex := 525, descriptorIndex := 526, attributes := #[] }, { accessFlags := 26, nameIndex := 674, descriptorIndex := 12, attributes := #[] }, { accessFlags := 26, nameIndex := 677, descriptorIndex := 12, attributes := #[] }, { accessFlags := 10, nameIndex := 11, descriptorIndex := 12, attributes := #[] }, { accessFlags := 74, nameIndex := 175, descriptorIndex := 176, attributes := #[] }, { accessFlags := 10, nameIndex := 491, descriptorIndex := 222, attributes := #[] }, { accessFlags := 74, nameIndex := 29, descriptorIndex := 30, attributes := #[] }, { accessFlags := 74, nameIndex := 154, descriptorIndex := 155, attributes := #[] }, { accessFlags := 10, nameIndex := 217, descriptorIndex := 218, attributes := #[] }, { accessFlags := 10, nameIndex := 221, descriptorIndex := 222, attributes := #[] }, { accessFlags := 8, nameIndex := 562, descriptorIndex := 563, attributes := #[] }])
  fields := #[{ name := "in", type := (.object "java/io/InputStream"), accessFlags := 25, slot := 0, constantValue := 0 }, { name := "out", type := (.object "java/io/PrintStream"), accessFlags := 25, slot := 1, constantValue := 0 }, { name := "err", type := (.object "java/io/PrintStream"), accessFlags := 25, slot := 2, constantValue := 0 }, { name := "initialIn", type := (.object "java/io/InputStream"), accessFlags := 10, slot := 3, constantValue := 0 }, { name := "NEVER", type := .int, accessFlags := 26, slot := 4, constantValue := 0 }, { name := "MAYBE", type := .int, accessFlags := 26, slot := 5, constantValue := 0 }, { name := "allowSecurityManager", type := .int, accessFlags := 10, slot := 6, constantValue := 0 }, { name := "security", type := (.object "java/lang/SecurityManager"), accessFlags := 74, slot := 7, constantValue := 0 }, { name := "notSupportedJnuEncoding", type := (.object "java/lang/String"), accessFlags := 10, slot := 8, constantValue := 0 }, { name := "cons", type := (.object "java/io/Console"), accessFlags := 74, slot := 9, constantValue := 0 }, { name := "initialErrStream", type := (.object "java/io/PrintStream"), accessFlags := 74, slot := 10, constantValue := 0 }, { name := "props", type := (.object "java/util/Properties"), accessFlags := 10, slot := 11, constantValue := 0 }, { name := "lineSeparator", type := (.object "java/lang/String"), accessFlags := 10, slot := 12, constantValue := 0 }, { name := "bootLayer", type := (.object "java/lang/ModuleLayer"), accessFlags := 8, slot := 13, constantValue := 0 }]
  methods := #[k22m0, k22m1]
  instanceTypes := #[]
  staticTypes := #[(.object "java/io/InputStream"), (.object "java/io/PrintStream"), (.object "java/io/PrintStream"), (.object "java/io/InputStream"), .int, .int, .int, (.object "java/lang/SecurityManager"), (.object "java/lang/String"), (.object "java/io/Console"), (.object "java/io/PrintStream"), (.object "java/util/Properties"), (.object "java/lang/String"), (.object "java/lang/ModuleLayer")]
  resolved := Array.replicate 834 none
  statics := none }

def pool23 : Array CpInfo := pool [(2, .class_ 4), (1, u "java/lang/Object"), (0, u "<init>"), (0, u "()V"), (35, .class_ 44), (1, u "java/util/Objects"), (0, u "requireNonNull"), (0, u "(Ljava/lang/Object;)Ljava/lang/Object;")] 137

def k23m0 : Method := { name := "<init>", desc := "()V", sig := { parameters := [], returnType := none }, accessFlags := 2, code := none }
def k23c1 : Code := { maxStack := 2, maxLocals := 1, code := jdk_31_method_10_code, exceptionTable := #[], attributes := #[] }
def k23m1 : Method := { name := "requireNonNull", desc := "(Ljava/lang/Object;)Ljava/lang/Object;", sig := { parameters := [(.object "java/lang/Object")], returnType := some (.object "java/lang/Object") }, accessFlags := 9, code := some k23c1 }
/-- java/util/Objects -/
def k23 : Class := { plain "java/util/Objects" (some 0) with
  accessFlags := 49
  interfaces := #[]
  cf := some (fileOf pool23 42 #[] #[{ accessFlags := 2, nameIndex := 5, descriptorIndex := 6, attributes := #[] }, { accessFlags := 9, nameIndex := 45, descriptorIndex := 46, attributes := #[] }] 49 2 #[] #[])
  fields := #[]
  methods := #[k23m0, k23m1]
  instanceTypes := #[]
  staticTypes := #[]
  resolved := Array.replicate 184 none
  statics := none }

/-- the primitive byte -/
def k24 : Class := { plain "byte" none with kind := .primitive 'B', accessFlags := 0x411 }
/-- [B -/
def k25 : Class := { plain "[B" (some 0) with kind := .array 24 .byte, interfaces := #[10, 11], accessFlags := 1041 }

/-- the primitive int -/
def k26 : Class := { plain "int" none with kind := .primitive 'I', accessFlags := 0x411 }
/-- [I -/
def k27 : Class := { plain "[I" (some 0) with kind := .array 26 .int, interfaces := #[10, 11], accessFlags := 1041 }

/-- [Ljava/lang/Object; -/
def k28 : Class := { plain "[Ljava/lang/Object;" (some 0) with mirror := some 9, kind := .array 0 (.object "java/lang/Object"), interfaces := #[10, 11], accessFlags := 1041 }

def heap : Heap := #[{ cls := 12, slots := #[.long 0, .int 0, .ref 3, .ref 4], vm := .statics 12 },
  { cls := 14, slots := #[.ref 6], vm := .statics 14 },
  { cls := 15, slots := #[.long 0, .int 0, .null, .ref 8, .ref 7, .null, .null, .null, .int 0, .int 1], vm := .statics 15 },
  { cls := 28, slots := #[], vm := .none },
  { cls := 28, slots := #[], vm := .none },
  { cls := 28, slots := #[], vm := .none },
  { cls := 14, slots := #[.ref 7], vm := .none },
  { cls := 19, slots := #[.ref 5, .int 0], vm := .none },
  { cls := 0, slots := #[], vm := .none },
  { cls := 0, slots := #[], vm := .mirror 28 }]
def classes : Array Class := #[k0, k1, k2, k3, k4, k5, k6, k7, k8, k9, k10, k11, k12, k13, k14, k15, k16, k17, k18, k19, k20, k21, k22, k23, k24, k25, k26, k27, k28]
def interned : List (Array UInt16 × Addr) := []
def slotsUsed : Nat := 18
def theMethod : MethodId := ⟨1, 1⟩
def args0 : Array Value := #[.int 5, .int 6, .int 7, .int 8, .int 9]
def aboutOver (below : List Frame) : State where
  vm := { classes := classes, interned := interned.toArray }
  heap := heap
  slotsUsed := slotsUsed
  threads := #[{ frames := .invoking theMethod args0 :: below }]
def below0 : List Frame := [.native { method := ⟨0, 0⟩, args := #[] }]
def about1 : State := aboutOver below0
def p0 : Program := .bare "" "" ""
def e0 : Env := launch0.env 0 0 0
theorem w_frames : about1.frames = Frame.invoking theMethod args0 :: below0 := rfl
set_option maxRecDepth 65536 in
theorem w_args : argsFit about1.vm theMethod args0 = true := by decide +kernel
set_option maxRecDepth 65536 in
theorem w_heap : heapFits about1 = true := by decide +kernel
set_option maxRecDepth 65536 in
theorem w_runnable : about1.curStatus? = some .runnable := by decide +kernel
set_option maxRecDepth 65536 in
theorem w_alone : about1.alone = true := by decide +kernel
set_option maxRecDepth 65536 in
theorem w_named : about1.methodNamed? x = some theMethod := by decide +kernel
set_option maxRecDepth 65536 in
theorem w_hears : about1.hears theMethod below0 = true := by decide +kernel
set_option maxRecDepth 65536 in
theorem w_ripe : about1.ripe theMethod args0 below0 = true := by decide +kernel
theorem w_running : about1.status = .running := rfl
set_option maxRecDepth 65536 in
theorem w_room : about1.hasRoom e0.platform room_1 = true :=
  launch0.hasRoom_least _ room_1 (by decide +kernel) (by decide +kernel) (by decide +kernel) (by decide +kernel) (by decide +kernel) (by decide +kernel)
theorem allAtoms_all (ts : List Jvm.Cond) (a : Array Jvm.Value) (st : Jvm.State) : (allAtoms ts).before a st = ts.all (fun c => c.before a st) := by
  induction ts with
  | nil => rfl
  | cons c t ih =>
    show (Jvm.Cond.and c (allAtoms t)).before a st = _
    rw [Jvm.Cond.before_and, ih, List.all_cons]
def words1 : List Jvm.Cond := Jvm.Cond.code x code maxLocals ret :: tables_1
/-- a 'code' word, met by the world's own term for the bytes: nothing is compared byte by byte -/
theorem code_word {y : MethodName} {bytes : ByteArray} {mx : Nat} {rt : Option FieldType} {a : Array Value} {s : State} {m : MethodId} {meth : Method} {c : Code} (h1 : s.methodNamed? y = some m) (h2 : s.vm.method? m = some meth) (h3 : meth.code = some c) (h4 : c.code = bytes)
    (h5 : (c.maxLocals == mx && c.exceptionTable.isEmpty && decide (c.maxStack ≤ mostOperands) && decide (meth.sig.returnType = rt) && !meth.locks && decide (parseMethodDescriptor y.desc = some meth.sig)) = true) : (Jvm.Cond.code y bytes mx rt).before a s = true := by
  simp only [Bool.and_eq_true, beq_iff_eq, Bool.not_eq_true', decide_eq_true_eq] at h5
  obtain ⟨⟨⟨⟨⟨g1, g2⟩, g3⟩, g4⟩, g5⟩, g6⟩ := h5
  simp [Cond.before, Cond.holds, Cond.value, h1, h2, h3, h4, g1, g2, g3, g4, g5, g6]
def isCode : Jvm.Cond → Bool
  | .code _ _ _ _ => true
  | _ => false
theorem all_split {L : List Jvm.Cond} {P : Jvm.Cond → Bool} (h1 : L.all (fun c => isCode c || P c) = true) (h2 : ∀ c ∈ L.filter isCode, P c = true) : L.all P = true := by
  refine List.all_eq_true.mpr fun c hc => ?_
  have h := List.all_eq_true.mp h1 c hc
  rcases Bool.eq_false_or_eq_true (isCode c) with hi | hi
  · exact h2 c (List.mem_filter.mpr ⟨hc, hi⟩)
  · simpa [hi] using h
set_option maxRecDepth 65536 in
theorem w_c0 : (Jvm.Cond.code x code maxLocals ret).before args0 about1 = true := code_word (m := ⟨1, 1⟩) (meth := k1m1) (c := k1c1) (by decide +kernel) rfl rfl rfl (by decide +kernel)
set_option maxRecDepth 65536 in
theorem w_c1 : (Jvm.Cond.code ({ cls := "java/lang/Math", name := "min", desc := "(II)I" } : Jvm.MethodName) jdk_29_method_69_code (2 : Nat) (Option.some Jvm.ClassFile.FieldType.int)).before args0 about1 = true := code_word (m := ⟨2, 2⟩) (meth := k2m2) (c := k2c2) (by decide +kernel) rfl rfl rfl (by decide +kernel)
set_option maxRecDepth 65536 in
theorem w_c2 : (Jvm.Cond.code ({ cls := "java/lang/Math", name := "max", desc := "(II)I" } : Jvm.MethodName) jdk_29_method_65_code (2 : Nat) (Option.some Jvm.ClassFile.FieldType.int)).before args0 about1 = true := code_word (m := ⟨2, 1⟩) (meth := k2m1) (c := k2c1) (by decide +kernel) rfl rfl rfl (by decide +kernel)
set_option maxRecDepth 65536 in
theorem w_c3 : (Jvm.Cond.code ({ cls := "java/util/ArrayList", name := "<init>", desc := "()V" } : Jvm.MethodName) jdk_38_method_2_code (1 : Nat) (Option.none : Option Jvm.ClassFile.FieldType)).before args0 about1 = true := code_word (m := ⟨12, 0⟩) (meth := k12m0) (c := k12c0) (by decide +kernel) rfl rfl rfl (by decide +kernel)
set_option maxRecDepth 65536 in
theorem w_c4 : (Jvm.Cond.code ({ cls := "java/util/AbstractList", name := "<init>", desc := "()V" } : Jvm.MethodName) jdk_39_method_1_code (1 : Nat) (Option.none : Option Jvm.ClassFile.FieldType)).before args0 about1 = true := code_word (m := ⟨8, 0⟩) (meth := k8m0) (c := k8c0) (by decide +kernel) rfl rfl rfl (by decide +kernel)
set_option maxRecDepth 65536 in
theorem w_c5 : (Jvm.Cond.code ({ cls := "java/util/AbstractCollection", name := "<init>", desc := "()V" } : Jvm.MethodName) jdk_22_method_1_code (1 : Nat) (Option.none : Option Jvm.ClassFile.FieldType)).before args0 about1 = true := code_word (m := ⟨5, 0⟩) (meth := k5m0) (c := k5c0) (by decide +kernel) rfl rfl rfl (by decide +kernel)
set_option maxRecDepth 65536 in
theorem w_c6 : (Jvm.Cond.code ({ cls := "java/lang/Object", name := "<init>", desc := "()V" } : Jvm.MethodName) object_method_1_code (1 : Nat) (Option.none : Option Jvm.ClassFile.FieldType)).before args0 about1 = true := code_word (m := ⟨0, 0⟩) (meth := k0m0) (c := k0c0) (by decide +kernel) rfl rfl rfl (by decide +kernel)
set_option maxRecDepth 65536 in
theorem w_c7 : (Jvm.Cond.code ({ cls := "com/example/curtail/curtail/Placement", name := "<init>", desc := "(Ljava/util/List;)V" } : Jvm.MethodName) prog_14_method_1_code (3 : Nat) (Option.none : Option Jvm.ClassFile.FieldType)).before args0 about1 = true := code_word (m := ⟨14, 0⟩) (meth := k14m0) (c := k14c0) (by decide +kernel) rfl rfl rfl (by decide +kernel)
set_option maxRecDepth 65536 in
theorem w_c8 : (Jvm.Cond.code ({ cls := "java/lang/Record", name := "<init>", desc := "()V" } : Jvm.MethodName) jdk_30_method_1_code (1 : Nat) (Option.none : Option Jvm.ClassFile.FieldType)).before args0 about1 = true := code_word (m := ⟨13, 0⟩) (meth := k13m0) (c := k13c0) (by decide +kernel) rfl rfl rfl (by decide +kernel)
set_option maxRecDepth 65536 in
theorem w_c9 : (Jvm.Cond.code ({ cls := "java/util/List", name := "copyOf", desc := "(Ljava/util/Collection;)Ljava/util/List;" } : Jvm.MethodName) jdk_40_method_48_code (1 : Nat) (Option.some (Jvm.ClassFile.FieldType.object "java/util/List"))).before args0 about1 = true := code_word (m := ⟨7, 5⟩) (meth := k7m5) (c := k7c5) (by decide +kernel) rfl rfl rfl (by decide +kernel)
set_option maxRecDepth 65536 in
theorem w_c10 : (Jvm.Cond.code ({ cls := "java/util/ImmutableCollections", name := "listCopy", desc := "(Ljava/util/Collection;)Ljava/util/List;" } : Jvm.MethodName) jdk_56_method_3_code (2 : Nat) (Option.some (Jvm.ClassFile.FieldType.object "java/util/List"))).before args0 about1 = true := code_word (m := ⟨15, 1⟩) (meth := k15m1) (c := k15c1) (by decide +kernel) rfl rfl rfl (by decide +kernel)
set_option maxRecDepth 65536 in
theorem w_c11 : (Jvm.Cond.code ({ cls := "java/util/ArrayList", name := "isEmpty", desc := "()Z" } : Jvm.MethodName) jdk_38_method_9_code (1 : Nat) (Option.some Jvm.ClassFile.FieldType.boolean)).before args0 about1 = true := code_word (m := ⟨12, 3⟩) (meth := k12m3) (c := k12c3) (by decide +kernel) rfl rfl rfl (by decide +kernel)
set_option maxRecDepth 65536 in
theorem w_c12 : (Jvm.Cond.code ({ cls := "java/util/List", name := "of", desc := "()Ljava/util/List;" } : Jvm.MethodName) jdk_40_method_36_code (0 : Nat) (Option.some (Jvm.ClassFile.FieldType.object "java/util/List"))).before args0 about1 = true := code_word (m := ⟨7, 3⟩) (meth := k7m3) (c := k7c3) (by decide +kernel) rfl rfl rfl (by decide +kernel)
set_option maxRecDepth 65536 in
theorem w_c13 : (Jvm.Cond.code ({ cls := "java/util/ImmutableCollections$ListN", name := "size", desc := "()I" } : Jvm.MethodName) jdk_45_method_3_code (1 : Nat) (Option.some Jvm.ClassFile.FieldType.int)).before args0 about1 = true := code_word (m := ⟨19, 1⟩) (meth := k19m1) (c := k19c1) (by decide +kernel) rfl rfl rfl (by decide +kernel)
set_option maxRecDepth 65536 in
theorem w_c14 : (Jvm.Cond.code ({ cls := "com/example/curtail/curtail/Placement", name := "isAccepted", desc := "()Z" } : Jvm.MethodName) prog_14_method_2_code (1 : Nat) (Option.some Jvm.ClassFile.FieldType.boolean)).before args0 about1 = true := code_word (m := ⟨14, 1⟩) (meth := k14m1) (c := k14c1) (by decide +kernel) rfl rfl rfl (by decide +kernel)
set_option maxRecDepth 65536 in
theorem w_c15 : (Jvm.Cond.code ({ cls := "java/util/ImmutableCollections$ListN", name := "isEmpty", desc := "()Z" } : Jvm.MethodName) jdk_45_method_2_code (1 : Nat) (Option.some Jvm.ClassFile.FieldType.boolean)).before args0 about1 = true := code_word (m := ⟨19, 0⟩) (meth := k19m0) (c := k19c0) (by decide +kernel) rfl rfl rfl (by decide +kernel)
set_option maxRecDepth 65536 in
theorem w_c16 : (Jvm.Cond.code ({ cls := "com/example/curtail/curtail/Placement$Cell", name := "<init>", desc := "(II)V" } : Jvm.MethodName) prog_15_method_1_code (3 : Nat) (Option.none : Option Jvm.ClassFile.FieldType)).before args0 about1 = true := code_word (m := ⟨20, 0⟩) (meth := k20m0) (c := k20c0) (by decide +kernel) rfl rfl rfl (by decide +kernel)
set_option maxRecDepth 65536 in
theorem w_c17 : (Jvm.Cond.code ({ cls := "java/util/ArrayList", name := "add", desc := "(Ljava/lang/Object;)Z" } : Jvm.MethodName) jdk_38_method_25_code (2 : Nat) (Option.some Jvm.ClassFile.FieldType.boolean)).before args0 about1 = true := code_word (m := ⟨12, 6⟩) (meth := k12m6) (c := k12c6) (by decide +kernel) rfl rfl rfl (by decide +kernel)
set_option maxRecDepth 65536 in
theorem w_c18 : (Jvm.Cond.code ({ cls := "java/util/ArrayList", name := "add", desc := "(Ljava/lang/Object;[Ljava/lang/Object;I)V" } : Jvm.MethodName) jdk_38_method_24_code (4 : Nat) (Option.none : Option Jvm.ClassFile.FieldType)).before args0 about1 = true := code_word (m := ⟨12, 5⟩) (meth := k12m5) (c := k12c5) (by decide +kernel) rfl rfl rfl (by decide +kernel)
set_option maxRecDepth 65536 in
theorem w_c19 : (Jvm.Cond.code ({ cls := "java/util/ArrayList", name := "grow", desc := "()[Ljava/lang/Object;" } : Jvm.MethodName) jdk_38_method_7_code (1 : Nat) (Option.some (Jvm.ClassFile.FieldType.array (Jvm.ClassFile.FieldType.object "java/lang/Object")))).before args0 about1 = true := code_word (m := ⟨12, 2⟩) (meth := k12m2) (c := k12c2) (by decide +kernel) rfl rfl rfl (by decide +kernel)
set_option maxRecDepth 65536 in
theorem w_c20 : (Jvm.Cond.code ({ cls := "java/util/ArrayList", name := "grow", desc := "(I)[Ljava/lang/Object;" } : Jvm.MethodName) jdk_38_method_6_code (4 : Nat) (Option.some (Jvm.ClassFile.FieldType.array (Jvm.ClassFile.FieldType.object "java/lang/Object")))).before args0 about1 = true := code_word (m := ⟨12, 1⟩) (meth := k12m1) (c := k12c1) (by decide +kernel) rfl rfl rfl (by decide +kernel)
set_option maxRecDepth 65536 in
theorem w_c21 : (Jvm.Cond.code ({ cls := "java/util/ArrayList", name := "toArray", desc := "()[Ljava/lang/Object;" } : Jvm.MethodName) jdk_38_method_16_code (1 : Nat) (Option.some (Jvm.ClassFile.FieldType.array (Jvm.ClassFile.FieldType.object "java/lang/Object")))).before args0 about1 = true := code_word (m := ⟨12, 4⟩) (meth := k12m4) (c := k12c4) (by decide +kernel) rfl rfl rfl (by decide +kernel)
set_option maxRecDepth 65536 in
theorem w_c22 : (Jvm.Cond.code ({ cls := "java/util/Arrays", name := "copyOf", desc := "([Ljava/lang/Object;I)[Ljava/lang/Object;" } : Jvm.MethodName) jdk_65_method_119_code (2 : Nat) (Option.some (Jvm.ClassFile.FieldType.array (Jvm.ClassFile.FieldType.object "java/lang/Object")))).before args0 about1 = true := code_word (m := ⟨21, 1⟩) (meth := k21m1) (c := k21c1) (by decide +kernel) rfl rfl rfl (by decide +kernel)
set_option maxRecDepth 65536 in
theorem w_c23 : (Jvm.Cond.code ({ cls := "java/util/Arrays", name := "copyOf", desc := "([Ljava/lang/Object;ILjava/lang/Class;)[Ljava/lang/Object;" } : Jvm.MethodName) jdk_65_method_120_code (4 : Nat) (Option.some (Jvm.ClassFile.FieldType.array (Jvm.ClassFile.FieldType.object "java/lang/Object")))).before args0 about1 = true := code_word (m := ⟨21, 2⟩) (meth := k21m2) (c := k21c2) (by decide +kernel) rfl rfl rfl (by decide +kernel)
set_option maxRecDepth 65536 in
theorem w_c24 : (Jvm.Cond.code ({ cls := "java/util/List", name := "of", desc := "([Ljava/lang/Object;)Ljava/util/List;" } : Jvm.MethodName) jdk_40_method_47_code (2 : Nat) (Option.some (Jvm.ClassFile.FieldType.object "java/util/List"))).before args0 about1 = true := code_word (m := ⟨7, 4⟩) (meth := k7m4) (c := k7c4) (by decide +kernel) rfl rfl rfl (by decide +kernel)
set_option maxRecDepth 65536 in
theorem w_c25 : (Jvm.Cond.code ({ cls := "java/util/ImmutableCollections$List12", name := "<init>", desc := "(Ljava/lang/Object;Ljava/lang/Object;)V" } : Jvm.MethodName) jdk_44_method_2_code (3 : Nat) (Option.none : Option Jvm.ClassFile.FieldType)).before args0 about1 = true := code_word (m := ⟨18, 1⟩) (meth := k18m1) (c := k18c1) (by decide +kernel) rfl rfl rfl (by decide +kernel)
set_option maxRecDepth 65536 in
theorem w_c26 : (Jvm.Cond.code ({ cls := "java/util/ImmutableCollections$AbstractImmutableList", name := "<init>", desc := "()V" } : Jvm.MethodName) jdk_46_method_1_code (1 : Nat) (Option.none : Option Jvm.ClassFile.FieldType)).before args0 about1 = true := code_word (m := ⟨17, 0⟩) (meth := k17m0) (c := k17c0) (by decide +kernel) rfl rfl rfl (by decide +kernel)
set_option maxRecDepth 65536 in
theorem w_c27 : (Jvm.Cond.code ({ cls := "java/util/ImmutableCollections$AbstractImmutableCollection", name := "<init>", desc := "()V" } : Jvm.MethodName) jdk_47_method_1_code (1 : Nat) (Option.none : Option Jvm.ClassFile.FieldType)).before args0 about1 = true := code_word (m := ⟨16, 0⟩) (meth := k16m0) (c := k16c0) (by decide +kernel) rfl rfl rfl (by decide +kernel)
set_option maxRecDepth 65536 in
theorem w_c28 : (Jvm.Cond.code ({ cls := "java/util/Objects", name := "requireNonNull", desc := "(Ljava/lang/Object;)Ljava/lang/Object;" } : Jvm.MethodName) jdk_31_method_10_code (1 : Nat) (Option.some (Jvm.ClassFile.FieldType.object "java/lang/Object"))).before args0 about1 = true := code_word (m := ⟨23, 1⟩) (meth := k23m1) (c := k23c1) (by decide +kernel) rfl rfl rfl (by decide +kernel)
set_option maxRecDepth 65536 in
theorem w_c29 : (Jvm.Cond.code ({ cls := "java/util/ImmutableCollections$List12", name := "size", desc := "()I" } : Jvm.MethodName) jdk_44_method_3_code (1 : Nat) (Option.some Jvm.ClassFile.FieldType.int)).before args0 about1 = true := code_word (m := ⟨18, 2⟩) (meth := k18m2) (c := k18c2) (by decide +kernel) rfl rfl rfl (by decide +kernel)
set_option maxRecDepth 65536 in
theorem w_c30 : (Jvm.Cond.code ({ cls := "java/util/ImmutableCollections$List12", name := "get", desc := "(I)Ljava/lang/Object;" } : Jvm.MethodName) jdk_44_method_5_code (2 : Nat) (Option.some (Jvm.ClassFile.FieldType.object "java/lang/Object"))).before args0 about1 = true := code_word (m := ⟨18, 4⟩) (meth := k18m4) (c := k18c4) (by decide +kernel) rfl rfl rfl (by decide +kernel)
set_option maxRecDepth 65536 in
theorem w_c31 : (Jvm.Cond.code ({ cls := "com/example/curtail/curtail/Placement$Cell", name := "nSlot", desc := "()I" } : Jvm.MethodName) prog_15_method_5_code (1 : Nat) (Option.some Jvm.ClassFile.FieldType.int)).before args0 about1 = true := code_word (m := ⟨20, 1⟩) (meth := k20m1) (c := k20c1) (by decide +kernel) rfl rfl rfl (by decide +kernel)
set_option maxRecDepth 65536 in
theorem w_c32 : (Jvm.Cond.code ({ cls := "java/util/ImmutableCollections$List12", name := "isEmpty", desc := "()Z" } : Jvm.MethodName) jdk_44_method_4_code (1 : Nat) (Option.some Jvm.ClassFile.FieldType.boolean)).before args0 about1 = true := code_word (m := ⟨18, 3⟩) (meth := k18m3) (c := k18c3) (by decide +kernel) rfl rfl rfl (by decide +kernel)
set_option maxRecDepth 65536 in
theorem w_c33 : (Jvm.Cond.code ({ cls := "com/example/curtail/curtail/Placement", name := "completionSlot", desc := "()I" } : Jvm.MethodName) prog_14_method_3_code (1 : Nat) (Option.some Jvm.ClassFile.FieldType.int)).before args0 about1 = true := code_word (m := ⟨14, 2⟩) (meth := k14m2) (c := k14c2) (by decide +kernel) rfl rfl rfl (by decide +kernel)
set_option maxRecDepth 65536 in
theorem w_c34 : (Jvm.Cond.code ({ cls := "java/util/ImmutableCollections$List12", name := "<init>", desc := "(Ljava/lang/Object;)V" } : Jvm.MethodName) jdk_44_method_1_code (2 : Nat) (Option.none : Option Jvm.ClassFile.FieldType)).before args0 about1 = true := code_word (m := ⟨18, 0⟩) (meth := k18m0) (c := k18c0) (by decide +kernel) rfl rfl rfl (by decide +kernel)
def codes1 : List Jvm.Cond := [Jvm.Cond.code x code maxLocals ret, Jvm.Cond.code ({ cls := "java/lang/Math", name := "min", desc := "(II)I" } : Jvm.MethodName) jdk_29_method_69_code (2 : Nat) (Option.some Jvm.ClassFile.FieldType.int), Jvm.Cond.code ({ cls := "java/lang/Math", name := "max", desc := "(II)I" } : Jvm.MethodName) jdk_29_method_65_code (2 : Nat) (Option.some Jvm.ClassFile.FieldType.int), Jvm.Cond.code ({ cls := "java/util/ArrayList", name := "<init>", desc := "()V" } : Jvm.MethodName) jdk_38_method_2_code (1 : Nat) (Option.none : Option Jvm.ClassFile.FieldType), Jvm.Cond.code ({ cls := "java/util/AbstractList", name := "<init>", desc := "()V" } : Jvm.MethodName) jdk_39_method_1_code (1 : Nat) (Option.none : Option Jvm.ClassFile.FieldType), Jvm.Cond.code ({ cls := "java/util/AbstractCollection", name := "<init>", desc := "()V" } : Jvm.MethodName) jdk_22_method_1_code (1 : Nat) (Option.none : Option Jvm.ClassFile.FieldType), Jvm.Cond.code ({ cls := "java/lang/Object", name := "<init>", desc := "()V" } : Jvm.MethodName) object_method_1_code (1 : Nat) (Option.none : Option Jvm.ClassFile.FieldType), Jvm.Cond.code ({ cls := "com/example/curtail/curtail/Placement", name := "<init>", desc := "(Ljava/util/List;)V" } : Jvm.MethodName) prog_14_method_1_code (3 : Nat) (Option.none : Option Jvm.ClassFile.FieldType), Jvm.Cond.code ({ cls := "java/lang/Record", name := "<init>", desc := "()V" } : Jvm.MethodName) jdk_30_method_1_code (1 : Nat) (Option.none : Option Jvm.ClassFile.FieldType), Jvm.Cond.code ({ cls := "java/util/List", name := "copyOf", desc := "(Ljava/util/Collection;)Ljava/util/List;" } : Jvm.MethodName) jdk_40_method_48_code (1 : Nat) (Option.some (Jvm.ClassFile.FieldType.object "java/util/List")), Jvm.Cond.code ({ cls := "java/util/ImmutableCollections", name := "listCopy", desc := "(Ljava/util/Collection;)Ljava/util/List;" } : Jvm.MethodName) jdk_56_method_3_code (2 : Nat) (Option.some (Jvm.ClassFile.FieldType.object "java/util/List")), Jvm.Cond.code ({ cls := "java/util/ArrayList", name := "isEmpty", desc := "()Z" } : Jvm.MethodName) jdk_38_method_9_code (1 : Nat) (Option.some Jvm.ClassFile.FieldType.boolean), Jvm.Cond.code ({ cls := "java/util/List", name := "of", desc := "()Ljava/util/List;" } : Jvm.MethodName) jdk_40_method_36_code (0 : Nat) (Option.some (Jvm.ClassFile.FieldType.object "java/util/List")), Jvm.Cond.code ({ cls := "java/util/ImmutableCollections$ListN", name := "size", desc := "()I" } : Jvm.MethodName) jdk_45_method_3_code (1 : Nat) (Option.some Jvm.ClassFile.FieldType.int), Jvm.Cond.code ({ cls := "com/example/curtail/curtail/Placement", name := "isAccepted", desc := "()Z" } : Jvm.MethodName) prog_14_method_2_code (1 : Nat) (Option.some Jvm.ClassFile.FieldType.boolean), Jvm.Cond.code ({ cls := "java/util/ImmutableCollections$ListN", name := "isEmpty", desc := "()Z" } : Jvm.MethodName) jdk_45_method_2_code (1 : Nat) (Option.some Jvm.ClassFile.FieldType.boolean), Jvm.Cond.code ({ cls := "com/example/curtail/curtail/Placement$Cell", name := "<init>", desc := "(II)V" } : Jvm.MethodName) prog_15_method_1_code (3 : Nat) (Option.none : Option Jvm.ClassFile.FieldType), Jvm.Cond.code ({ cls := "java/util/ArrayList", name := "add", desc := "(Ljava/lang/Object;)Z" } : Jvm.MethodName) jdk_38_method_25_code (2 : Nat) (Option.some Jvm.ClassFile.FieldType.boolean), Jvm.Cond.code ({ cls := "java/util/ArrayList", name := "add", desc := "(Ljava/lang/Object;[Ljava/lang/Object;I)V" } : Jvm.MethodName) jdk_38_method_24_code (4 : Nat) (Option.none : Option Jvm.ClassFile.FieldType), Jvm.Cond.code ({ cls := "java/util/ArrayList", name := "grow", desc := "()[Ljava/lang/Object;" } : Jvm.MethodName) jdk_38_method_7_code (1 : Nat) (Option.some (Jvm.ClassFile.FieldType.array (Jvm.ClassFile.FieldType.object "java/lang/Object"))), Jvm.Cond.code ({ cls := "java/util/ArrayList", name := "grow", desc := "(I)[Ljava/lang/Object;" } : Jvm.MethodName) jdk_38_method_6_code (4 : Nat) (Option.some (Jvm.ClassFile.FieldType.array (Jvm.ClassFile.FieldType.object "java/lang/Object"))), Jvm.Cond.code ({ cls := "java/util/ArrayList", name := "toArray", desc := "()[Ljava/lang/Object;" } : Jvm.MethodName) jdk_38_method_16_code (1 : Nat) (Option.some (Jvm.ClassFile.FieldType.array (Jvm.ClassFile.FieldType.object "java/lang/Object"))), Jvm.Cond.code ({ cls := "java/util/Arrays", name := "copyOf", desc := "([Ljava/lang/Object;I)[Ljava/lang/Object;" } : Jvm.MethodName) jdk_65_method_119_code (2 : Nat) (Option.some (Jvm.ClassFile.FieldType.array (Jvm.ClassFile.FieldType.object "java/lang/Object"))), Jvm.Cond.code ({ cls := "java/util/Arrays", name := "copyOf", desc := "([Ljava/lang/Object;ILjava/lang/Class;)[Ljava/lang/Object;" } : Jvm.MethodName) jdk_65_method_120_code (4 : Nat) (Option.some (Jvm.ClassFile.FieldType.array (Jvm.ClassFile.FieldType.object "java/lang/Object"))), Jvm.Cond.code ({ cls := "java/util/List", name := "of", desc := "([Ljava/lang/Object;)Ljava/util/List;" } : Jvm.MethodName) jdk_40_method_47_code (2 : Nat) (Option.some (Jvm.ClassFile.FieldType.object "java/util/List")), Jvm.Cond.code ({ cls := "java/util/ImmutableCollections$List12", name := "<init>", desc := "(Ljava/lang/Object;Ljava/lang/Object;)V" } : Jvm.MethodName) jdk_44_method_2_code (3 : Nat) (Option.none : Option Jvm.ClassFile.FieldType), Jvm.Cond.code ({ cls := "java/util/ImmutableCollections$AbstractImmutableList", name := "<init>", desc := "()V" } : Jvm.MethodName) jdk_46_method_1_code (1 : Nat) (Option.none : Option Jvm.ClassFile.FieldType), Jvm.Cond.code ({ cls := "java/util/ImmutableCollections$AbstractImmutableCollection", name := "<init>", desc := "()V" } : Jvm.MethodName) jdk_47_method_1_code (1 : Nat) (Option.none : Option Jvm.ClassFile.FieldType), Jvm.Cond.code ({ cls := "java/util/Objects", name := "requireNonNull", desc := "(Ljava/lang/Object;)Ljava/lang/Object;" } : Jvm.MethodName) jdk_31_method_10_code (1 : Nat) (Option.some (Jvm.ClassFile.FieldType.object "java/lang/Object")), Jvm.Cond.code ({ cls := "java/util/ImmutableCollections$List12", name := "size", desc := "()I" } : Jvm.MethodName) jdk_44_method_3_code (1 : Nat) (Option.some Jvm.ClassFile.FieldType.int), Jvm.Cond.code ({ cls := "java/util/ImmutableCollections$List12", name := "get", desc := "(I)Ljava/lang/Object;" } : Jvm.MethodName) jdk_44_method_5_code (2 : Nat) (Option.some (Jvm.ClassFile.FieldType.object "java/lang/Object")), Jvm.Cond.code ({ cls := "com/example/curtail/curtail/Placement$Cell", name := "nSlot", desc := "()I" } : Jvm.MethodName) prog_15_method_5_code (1 : Nat) (Option.some Jvm.ClassFile.FieldType.int), Jvm.Cond.code ({ cls := "java/util/ImmutableCollections$List12", name := "isEmpty", desc := "()Z" } : Jvm.MethodName) jdk_44_method_4_code (1 : Nat) (Option.some Jvm.ClassFile.FieldType.boolean), Jvm.Cond.code ({ cls := "com/example/curtail/curtail/Placement", name := "completionSlot", desc := "()I" } : Jvm.MethodName) prog_14_method_3_code (1 : Nat) (Option.some Jvm.ClassFile.FieldType.int), Jvm.Cond.code ({ cls := "java/util/ImmutableCollections$List12", name := "<init>", desc := "(Ljava/lang/Object;)V" } : Jvm.MethodName) jdk_44_method_1_code (2 : Nat) (Option.none : Option Jvm.ClassFile.FieldType)]
set_option maxRecDepth 65536 in
theorem codes_eq : words1.filter isCode = codes1 := rfl
theorem w_codes : ∀ c ∈ words1.filter isCode, c.before args0 about1 = true := by
  rw [codes_eq]
  intro c hc
  simp only [codes1, List.mem_cons, List.not_mem_nil, or_false] at hc
  rcases hc with rfl | rfl | rfl | rfl | rfl | rfl | rfl | rfl | rfl | rfl | rfl | rfl | rfl | rfl | rfl | rfl | rfl | rfl | rfl | rfl | rfl | rfl | rfl | rfl | rfl | rfl | rfl | rfl | rfl | rfl | rfl | rfl | rfl | rfl | rfl
  · exact w_c0
  · exact w_c1
  · exact w_c2
  · exact w_c3
  · exact w_c4
  · exact w_c5
  · exact w_c6
  · exact w_c7
  · exact w_c8
  · exact w_c9
  · exact w_c10
  · exact w_c11
  · exact w_c12
  · exact w_c13
  · exact w_c14
  · exact w_c15
  · exact w_c16
  · exact w_c17
  · exact w_c18
  · exact w_c19
  · exact w_c20
  · exact w_c21
  · exact w_c22
  · exact w_c23
  · exact w_c24
  · exact w_c25
  · exact w_c26
  · exact w_c27
  · exact w_c28
  · exact w_c29
  · exact w_c30
  · exact w_c31
  · exact w_c32
  · exact w_c33
  · exact w_c34
set_option maxRecDepth 65536 in
theorem w_t1 : (words1.take 24).all (fun c => isCode c || c.before args0 about1) = true := by decide +kernel
set_option maxRecDepth 65536 in
theorem w_t2 : ((words1.drop 24).take 24).all (fun c => isCode c || c.before args0 about1) = true := by decide +kernel
set_option maxRecDepth 65536 in
theorem w_t3 : (((words1.drop 24).drop 24).take 24).all (fun c => isCode c || c.before args0 about1) = true := by decide +kernel
set_option maxRecDepth 65536 in
theorem w_t4 : ((((words1.drop 24).drop 24).drop 24).take 24).all (fun c => isCode c || c.before args0 about1) = true := by decide +kernel
set_option maxRecDepth 65536 in
theorem w_t5 : (((((words1.drop 24).drop 24).drop 24).drop 24).take 24).all (fun c => isCode c || c.before args0 about1) = true := by decide +kernel
set_option maxRecDepth 65536 in
theorem w_t6 : ((((((words1.drop 24).drop 24).drop 24).drop 24).drop 24).take 24).all (fun c => isCode c || c.before args0 about1) = true := by decide +kernel
set_option maxRecDepth 65536 in
theorem w_t7 : (((((((words1.drop 24).drop 24).drop 24).drop 24).drop 24).drop 24).take 24).all (fun c => isCode c || c.before args0 about1) = true := by decide +kernel
set_option maxRecDepth 65536 in
theorem w_t8 : ((((((((words1.drop 24).drop 24).drop 24).drop 24).drop 24).drop 24).drop 24).take 24).all (fun c => isCode c || c.before args0 about1) = true := by decide +kernel
set_option maxRecDepth 65536 in
theorem w_t9 : (((((((((words1.drop 24).drop 24).drop 24).drop 24).drop 24).drop 24).drop 24).drop 24).take 24).all (fun c => isCode c || c.before args0 about1) = true := by decide +kernel
set_option maxRecDepth 65536 in
theorem w_t10 : (((((((((words1.drop 24).drop 24).drop 24).drop 24).drop 24).drop 24).drop 24).drop 24).drop 24).all (fun c => isCode c || c.before args0 about1) = true := by decide +kernel
theorem w_tables : (allAtoms (Jvm.Cond.code x code maxLocals ret :: tables_1)).before args0 about1 = true := by
  rw [allAtoms_all]
  show words1.all (fun c => c.before args0 about1) = true
  refine all_split ?_ w_codes
  rw [← List.take_append_drop 24 words1, List.all_append, w_t1, ← List.take_append_drop 24 (words1.drop 24), List.all_append, w_t2, ← List.take_append_drop 24 ((words1.drop 24).drop 24), List.all_append, w_t3, ← List.take_append_drop 24 (((words1.drop 24).drop 24).drop 24), List.all_append, w_t4, ← List.take_append_drop 24 ((((words1.drop 24).drop 24).drop 24).drop 24), List.all_append, w_t5, ← List.take_append_drop 24 (((((words1.drop 24).drop 24).drop 24).drop 24).drop 24), List.all_append, w_t6, ← List.take_append_drop 24 ((((((words1.drop 24).drop 24).drop 24).drop 24).drop 24).drop 24), List.all_append, w_t7, ← List.take_append_drop 24 (((((((words1.drop 24).drop 24).drop 24).drop 24).drop 24).drop 24).drop 24), List.all_append, w_t8, ← List.take_append_drop 24 ((((((((words1.drop 24).drop 24).drop 24).drop 24).drop 24).drop 24).drop 24).drop 24), List.all_append, w_t9, w_t10]
  rfl
set_option maxRecDepth 65536 in
theorem w_rest : rest_1_c.before args0 about1 = true := by decide +kernel
set_option maxRecDepth 65536 in
theorem w_case : (Jvm.Cond.and given_1 narrow_1).before args0 about1 = true := by decide +kernel
theorem w_applies : (headSpec (Jvm.Cond.code x code maxLocals ret :: tables_1) room_1).applies x e0.platform about1 = true :=
  (Spec.applies_iff w_frames).mpr ⟨w_running, w_runnable, w_alone, w_named, w_hears, w_ripe, w_room, w_tables⟩
theorem atStart : AtStart classFile x code maxLocals ret World_1 tables_1 room_1 Calls_1 rest_1 Pre_1 launch0 p0 e0 about1 theMethod args0 below0 :=
  ⟨lists_1, trivial, launch0.admits_env _ _ _, launch0.least_env, fairChoices_fair.cas, fairChoices_fair.clock, w_frames, w_args, w_heap, w_applies, ⟨⟨28, k28, 9, by decide +kernel, rfl, rfl, _, rfl, rfl⟩, trivial⟩, w_rest, w_case⟩
end start1
theorem witness_1 : WitnessClaimed_1 := ⟨start1.p0, start1.e0, start1.about1, start1.theMethod, start1.args0, start1.below0, start1.atStart⟩
end Jvm.Pilot.@@N@@
