import JvmDerived
import JvmDerived.Pilot.@@N@@Statement
import JvmDerived.Pilot.@@N@@Code
set_option linter.unusedVariables false
set_option linter.unusedSimpArgs false
namespace Jvm.Pilot.@@N@@
open Jvm Jvm.ClassFile Sem Op Lib Jvm.Free Jvm.Stand Jvm.LawKit Jvm.RoadKit Bundle Jvm.Pilot.@@N@@.Jvm.D
section OwnKit
variable {p : Program} {l : Launch} {e : Env} {R : Room} {s : State} {m : MethodId} {args : Array Value} {below : List Frame} {meth : Method} {c : Code} {T : State} {locs : List Loc} {cells slots : Nat}
theorem retI (X : Stand p l e R s m args below meth c T locs cells slots) (hx : p.tables.exec = Jvm.exec) {pc : Nat} {Ls : Array Slot} {z : Int32} {rest : List Value} (hret : meth.sig.returnType = some .int) (hd : decode c.code pc = .ok (.ireturn, 1)) {fs : List Frame}
    (hl : ∀ (f : JFrame) (acts : List Action), f.method = m → f.locked = none → f.entered = [] → (doReturn e (T.setTop f) acts (some (.int z))).1 = T.setFrames fs) : Steps p.tables e below (T.setTop (mkF m pc Ls (.int z :: rest))) (T.setFrames fs) :=
  retOut X hx hret rfl (Or.inl ⟨rfl, Or.inl rfl, z, rfl⟩) hd hl
theorem oretJ (X : Stand p l e R s m args below meth c T locs cells slots) (hx : p.tables.exec = Jvm.exec) {pc : Nat} {Ls : Array Slot} {z : Int64} {rest : List Value} (hret : meth.sig.returnType = some .long) (hd : decode c.code pc = .ok (.lreturn, 1)) {fs : List Frame}
    (hl : ∀ (f : JFrame) (acts : List Action), f.method = m → f.locked = none → f.entered = [] → (doReturn e (T.setTop f) acts (some (.long z))).1 = T.setFrames fs) : Steps p.tables e below (T.setTop (mkF m pc Ls (.long z :: rest))) (T.setFrames fs) :=
  retOut X hx hret rfl (Or.inr (Or.inl ⟨rfl, rfl, z, rfl⟩)) hd hl
theorem oretA (X : Stand p l e R s m args below meth c T locs cells slots) (hx : p.tables.exec = Jvm.exec) {pc : Nat} {Ls : Array Slot} {w : Value} {t : FieldType} {rest : List Value} (hret : meth.sig.returnType = some t) (ht : t.isReference = true) (hw : w.isRef = true) (hd : decode c.code pc = .ok (.areturn, 1)) {fs : List Frame}
    (hl : ∀ (f : JFrame) (acts : List Action), f.method = m → f.locked = none → f.entered = [] → (doReturn e (T.setTop f) acts (some w)).1 = T.setFrames fs) : Steps p.tables e below (T.setTop (mkF m pc Ls (w :: rest))) (T.setFrames fs) :=
  retOut X hx hret (by rcases ref_cases hw with rfl | ⟨a, rfl⟩ <;> cases t <;> rfl) (Or.inr (Or.inr (Or.inr (Or.inr ⟨rfl, ht, hw⟩)))) hd hl
end OwnKit
/-- the run that stands at A comes to an end of which P holds -/
def OGot (tb : Tables) (e : Env) (below : List Frame) (A : State) (P : State → Outcome → Prop) : Prop := ∃ U o, Steps tb e below A U ∧ P U o
theorem OGot.go {tb : Tables} {e : Env} {below : List Frame} {A B : State} {P : State → Outcome → Prop} (st : ∀ t, Steps tb e below B t → Steps tb e below A t) (h : OGot tb e below B P) : OGot tb e below A P := by
  obtain ⟨U, o, h1, h2⟩ := h
  exact ⟨U, o, st U h1, h2⟩
theorem OGot.on {tb : Tables} {e : Env} {below : List Frame} {A B : State} {P : State → Outcome → Prop} (st : Steps tb e below A B) (h : OGot tb e below B P) : OGot tb e below A P := by
  obtain ⟨U, o, h1, h2⟩ := h
  exact ⟨U, o, st.trans h1, h2⟩
section OwnFacts
variable {Z : State} {h h' h0 : Heap} {a b : Addr} {C n d : String} {v : Value} {sl : Nat} {n0 : Nat} {ws ws' : List (Addr × Nat)} {k : ClassId} {ty : FieldType} {z : Int32} {vs : List Value} {dv : Value}
theorem osz (X : Old Z n0 h) : n0 ≤ h.size := X.1 ▸ X.2.1
theorem oheap {U : State} {P : Heap → Prop} (q : U.heap = h) (x : P h) : P U.heap := q ▸ x
/-- what stood in h0 stands in h, but for the places at ws -/
def OKeep (h0 h : Heap) (ws : List (Addr × Nat)) : Prop := h0.size ≤ h.size ∧ ∀ (x : Addr) (c : Cell), h0[x]? = some c → ∃ c' : Cell, h[x]? = some c' ∧ c'.cls = c.cls ∧ c'.vm = c.vm ∧ c'.slots.size = c.slots.size ∧ (∀ i, (x, i) ∉ ws → c'.slots[i]? = c.slots[i]?) ∧ ((∀ i, (x, i) ∉ ws) → c' = c)
theorem OKeep.refl (h : Heap) (ws : List (Addr × Nat)) : OKeep h h ws := ⟨Nat.le_refl _, fun _ c q => ⟨c, q, rfl, rfl, rfl, fun _ _ => rfl, fun _ => rfl⟩⟩
theorem OKeep.ext (K : OKeep h0 h ws) (E : Ext h h') : OKeep h0 h' ws := ⟨Nat.le_trans K.1 E.1, fun x c q => by
  obtain ⟨c', q', r⟩ := K.2 x c q
  exact ⟨c', E.2 x c' q', r⟩⟩
theorem OKeep.trans (K : OKeep h0 h ws) (K' : OKeep h h' ws') (q : ∀ x ∈ ws', x ∈ ws ∨ h0.size ≤ x.1) : OKeep h0 h' ws := by
  refine ⟨Nat.le_trans K.1 K'.1, fun x c hx => ?_⟩
  have lt : x < h0.size := (Array.getElem?_eq_some_iff.mp hx).1
  have out : ∀ i, (x, i) ∉ ws → (x, i) ∉ ws' := fun i r z => (q _ z).elim r fun y => Nat.not_lt.mpr y lt
  obtain ⟨c1, q1, r1, r2, r3, r4, r5⟩ := K.2 x c hx
  obtain ⟨c2, q2, t1, t2, t3, t4, t5⟩ := K'.2 x c1 q1
  exact ⟨c2, q2, t1.trans r1, t2.trans r2, t3.trans r3, fun i r => (t4 i (out i r)).trans (r4 i r), fun r => (t5 fun i => out i (r i)).trans (r5 r)⟩
theorem OKeep.of_wr (W : Wr h h' a sl v) : OKeep h h' [(a, sl)] := by
  refine ⟨Nat.le_of_eq W.size.symm, fun x c q => ?_⟩
  obtain ⟨c', e1, e2, e3, e4, e5, e6, -⟩ := wr_at W q
  refine ⟨c', e1, e2, e3, e4, fun i r => ?_, fun r => e5 fun z => r sl (by simp [z])⟩
  by_cases z : x = a
  · subst z
    exact e6 i fun y => r (by simp [y])
  · rw [e5 z]
theorem OKeep.wr (K : OKeep h0 h ws) (W : Wr h h' a sl v) (q : (a, sl) ∈ ws ∨ h0.size ≤ a) : OKeep h0 h' ws := K.trans (OKeep.of_wr W) fun x hx => by cases List.mem_singleton.mp hx; exact q
theorem oslot {x : ClassId × Class × Nat × Field} (h2 : Z.fieldFound? C n d = some x) : Jvm.RoadKit.slotOf Z C n d = x.2.2.2.slot := by
  show ((Z.fieldFound? C n d).map (·.2.2.2.slot)).getD 0 = _
  rw [h2]; rfl
theorem OKeep.fld (F : Fld Z h a C n d v) (K : OKeep h h' ws) (q : (a, Jvm.RoadKit.slotOf Z C n d) ∉ ws) : Fld Z h' a C n d v := by
  obtain ⟨cell, cf, k, i, f, h1, h2, h3, h4, h5, h6, h7⟩ := F
  obtain ⟨c', r, r1, r2, -, r4, -⟩ := K.2 a cell h1
  exact ⟨c', cf, k, i, f, r, h2, h3, by rw [r2]; exact h4, by rw [r2]; exact h5, by rw [r1]; exact h6, by rw [r4 f.slot (fun y => q (by rw [oslot h2]; exact y))]; exact h7⟩
theorem OKeep.exa (F : Exa Z h a C) (K : OKeep h h' ws) : Exa Z h' a C := by
  obtain ⟨cell, k, h1, h2, h3, h4, h5⟩ := F
  obtain ⟨c', q, r1, r2, r3, -, -⟩ := K.2 a cell h1
  exact ⟨c', k, q, r1 ▸ h2, r1 ▸ h3, r2 ▸ h4, r3 ▸ h5⟩
theorem OKeep.arv (F : Arv Z h a k ty z vs dv) (K : OKeep h h' ws) (q : ∀ x ∈ ws, a ≠ x.1) : Arv Z h' a k ty z vs dv := by
  obtain ⟨c, A, r⟩ := F
  obtain ⟨c', e1, -, -, -, -, e5⟩ := K.2 a c A.1
  cases e5 fun i y => q _ y rfl
  exact ⟨c, ⟨e1, A.2⟩, r⟩
theorem OKeep.old (X : Old Z n0 h) (K : OKeep h h' ws) (q : ∀ x ∈ ws, n0 ≤ x.1) : Old Z n0 h' := ⟨X.1, Nat.le_trans X.2.1 K.1, fun x c r => by
  obtain ⟨c', e1, -, -, -, -, e5⟩ := K.2 x c (X.2.2 x c r)
  cases e5 fun i y => absurd (X.1 ▸ (Array.getElem?_eq_some_iff.mp r).1) (Nat.not_lt.mpr (q _ y))
  exact e1⟩
theorem onin0 {x : Addr × Nat} : x ∉ ([] : List (Addr × Nat)) := fun q => nomatch q
theorem oninA {t : Nat} {L : List (Addr × Nat)} (q : a ≠ b) (r : (a, sl) ∉ L) : (a, sl) ∉ (b, t) :: L := fun y => (List.mem_cons.mp y).elim (fun u => q (congrArg Prod.fst u)) r
theorem oninS {t : Nat} {L : List (Addr × Nat)} (q : sl ≠ t) (r : (a, sl) ∉ L) : (a, sl) ∉ (b, t) :: L := fun y => (List.mem_cons.mp y).elim (fun u => q (congrArg Prod.snd u)) r
theorem oall0 : ∀ x ∈ ([] : List (Addr × Nat)), a ≠ x.1 := fun _ q => nomatch q
theorem oallS {t : Nat} {L : List (Addr × Nat)} (q : a ≠ b) (r : ∀ x ∈ L, a ≠ x.1) : ∀ x ∈ (b, t) :: L, a ≠ x.1 := fun x y => (List.mem_cons.mp y).elim (fun u => by subst u; exact q) (r x)
theorem oge0 : ∀ x ∈ ([] : List (Addr × Nat)), n0 ≤ x.1 := fun _ q => nomatch q
theorem ogeS {t : Nat} {L : List (Addr × Nat)} (q : n0 ≤ b) (r : ∀ x ∈ L, n0 ≤ x.1) : ∀ x ∈ (b, t) :: L, n0 ≤ x.1 := fun x y => (List.mem_cons.mp y).elim (fun u => by subst u; exact q) (r x)
theorem oin0 {P : Addr × Nat → Prop} : ∀ x ∈ ([] : List (Addr × Nat)), P x := fun _ q => nomatch q
theorem oinS {P : Addr × Nat → Prop} {y : Addr × Nat} {L : List (Addr × Nat)} (q : P y) (r : ∀ x ∈ L, P x) : ∀ x ∈ y :: L, P x := fun x u => (List.mem_cons.mp u).elim (fun w => w ▸ q) (r x)
theorem oeq_int {args : Array Value} {first s : State} {o : Option Outcome} {idx : List Nat} {t : Term} {w : Int32} (q : (Jvm.Cond.eq t (.int w)).value args first o s idx = some true) : t.eval args first o idx s = some (.int w) := by
  simp only [Jvm.Cond.value, Term.eval] at q
  cases ht : t.eval args first o idx s with
  | none => simp [ht] at q
  | some x => cases x <;> simp [ht] at q ⊢; exact q
theorem oeq_ref {args : Array Value} {first s : State} {o : Option Outcome} {idx : List Nat} {t u : Term} {w : Addr} (q : (Jvm.Cond.eq t u).value args first o s idx = some true) (r : u.eval args first o idx s = some (.ref w)) : t.eval args first o idx s = some (.ref w) := by
  obtain ⟨x, y, e1, e2, k1, k2⟩ := cmp_v (Or.inl q)
  cases r.symm.trans e2
  rcases ref_cases k2.2 with rfl | ⟨z, rfl⟩
  · have := eq_R e1 e2 rfl rfl
    rw [q] at this
    simp at this
  · have := gotT (eq_R e1 e2 rfl rfl) q
    rw [e1, this]
theorem one_int {args : Array Value} {first s : State} {o : Option Outcome} {idx : List Nat} {t : Term} {w : Int32} (r : t.eval args first o idx s = some (.int w)) (q : (Jvm.Cond.not (.eq t (.int 0))).value args first o s idx = some true) : ¬ (w = (0 : Int32)) := by
  have := not_v q
  exact gotF (Cond.eq_ints r rfl) this
theorem olen {args : Array Value} {first s : State} {o : Option Outcome} {idx : List Nat} {t : Term} {cl : Cell} {w : Int32} (q : (Term.length t).eval args first o idx s = some (.int w)) (ht : t.eval args first o idx s = some (.ref a)) (ha : s.arrayAt? a = some cl) : cl.slots.size < 2 ^ 31 ∧ cl.slots.size.toInt32 = w := by
  simp only [Term.eval, ht, ha, Option.bind_eq_bind, Option.bind_some] at q
  by_cases y : cl.slots.size < 2 ^ 31
  · exact ⟨y, by simpa [y] using q⟩
  · simp [y] at q
theorem osub128 {args : Array Value} {j : Int32} (hj : ¬ j < 0) : (Term.sub (.index 0) (.int 128)).eval args Z none [j.toNatClampNeg] Z = some (.int (j - 128)) := by
  have e := idx_at (args := args) (first := Z) (s := Z) (o := none) hj
  simp only [Term.eval] at e ⊢
  simp [e]
  exact (back32 hj).1
def obox (c : Cell) (j : Int32) : Addr := match c.slots[j.toNatClampNeg]? with
  | some (.ref b) => b
  | _ => 0
theorem obox_at {cl : Cell} {K dd : String} {w : Int32} {val : Int32 → Value} (B : Bxs Z a cl K dd w val) {j : Int32} (hj : ¬ (j < 0 ∨ cl.slots.size ≤ j.toNatClampNeg)) : cl.slots[j.toNatClampNeg]? = some (.ref (obox cl j)) ∧ Exa Z Z.heap (obox cl j) K ∧ Fld Z Z.heap (obox cl j) K "value" dd (val j) := by
  obtain ⟨b, h1, h2, h3⟩ := B.2.2.2 j hj
  have e : obox cl j = b := by unfold obox; rw [h1]
  rw [e]; exact ⟨h1, h2, h3⟩
theorem oNS.root {a0 : Array Value} {O K : String} {i : Nat} (w : (Cond.noSuperclass O).before a0 Z = true) (wk : (Cond.instantiable K i).before a0 Z = true) (hn : O ≠ K) : NS Z O K := by
  obtain ⟨c, k, h1, h2, h3, -, -⟩ := Cond.noSuperclass_spec w
  obtain ⟨t, kt, g1, -⟩ := Cond.instantiable_spec wk
  have ne := ids_ne h1 g1 hn
  refine ⟨c, t, h1, g1, fun fuel => ?_⟩
  cases fuel with
  | zero => rfl
  | succ f => simp [Vm.isSubclassAux, ne, h2, h3]
theorem oNS.no {a0 : Array Value} {C S K : String} {i : Nat} (w : (Cond.superclass C S).before a0 Z = true) (wk : (Cond.instantiable K i).before a0 Z = true) (q : NS Z C K) (hn : C ≠ K) : ∃ c t, Z.vm.findClass C = some c ∧ Z.vm.findClass K = some t ∧ Z.vm.assignable c t = false := by
  obtain ⟨c, t, h0, g0, n3⟩ := q
  obtain ⟨p, k, kp, h1, h2, h3, h4, h5, -, h7⟩ := Cond.superclass_spec h0 w
  obtain ⟨t', k', g1, g2, g3, g4, -⟩ := Cond.instantiable_spec wk
  cases g0.symm.trans g1
  have ne := ids_ne h0 g0 hn
  have g7 : k'.isInterface = false := (Bool.or_eq_false_iff.mp g4).1
  refine ⟨c, t, h0, g0, ?_⟩
  show Z.vm.assignableAux (255 + 1) c t = false
  simp [Vm.assignableAux, ne, h2, g2, h5, g3, g7, Vm.isSubclass, n3]
theorem osel {s : State} {a0 aa : Array Value} {y : MethodName} {i : Nat} (hZ : Z.Warmed39 s.vm) (wi : (Cond.instantiable y.cls i).before a0 Z = true) (wm : (Cond.instanceMethod y).before a0 Z = true) (wp : (Cond.privateMethod y).before a0 Z = true) (hy : y.cls ≠ "java/lang/invoke/MethodHandle" ∧ y.cls ≠ "java/lang/invoke/VarHandle") : (Cond.selects y.cls y y).before aa s = true := by
  have w2 : (Cond.instantiable y.cls i).before aa s = true := mvT hZ wi
  obtain ⟨c, k, h1, h2, h3, h4, -⟩ := Cond.instantiable_spec w2
  exact Jvm.Stand.selects_self_of_private h1 h2 (Bool.or_eq_false_iff.mp h4).1 (Cond.privateMethod_at (mvP hZ wp (args := #[]))) (mvT hZ wm) hy
end OwnFacts
theorem ow {Z : State} {a0 : Array Value} (hw : ∀ d ∈ tables_1, d.before a0 Z = true) (i : Nat) {d : Jvm.Cond} (h : tables_1[i]? = some d) : d.before a0 Z = true := hw _ (List.mem_of_getElem? h)
section OwnMir
variable {p : Program} {l : Launch} {e : Env} {R : Room} {s : State} {m : MethodId} {args : Array Value} {below : List Frame} {meth : Method} {c : Code} {T : State} {locs : List Loc} {cells slots : Nat} {Z : State} {a0 : Array Value} {h h' h0 : Heap} {a b : Addr} {ws : List (Addr × Nat)}
/-- C has its mirror -/
def OMir (Z : State) (C : String) (mr : Addr) : Prop := ∃ (c : ClassId) (k : Class), Z.vm.findClass C = some c ∧ Z.vm.classes[c]? = some k ∧ k.mirror = some mr
theorem ogcls (X : Stand p l e R s m args below meth c T locs cells slots) (hx : p.tables.exec = Jvm.exec) (hZ : Z.Warmed39 s.vm) {own C : String} {index : Nat} (hown : s.vm.findClass own = some m.cls)
    (w1 : (Cond.methodLink own index ⟨"java/lang/Object", "getClass", "()Ljava/lang/Class;"⟩).before a0 Z = true) (w2 : (Cond.declares ⟨"java/lang/Object", "getClass", "()Ljava/lang/Class;"⟩).before a0 Z = true) (w3 : (Cond.noSuperclass "java/lang/Object").before a0 Z = true) (w4 : (Cond.selects C ⟨"java/lang/Object", "getClass", "()Ljava/lang/Class;"⟩ ⟨"java/lang/Object", "getClass", "()Ljava/lang/Class;"⟩).before a0 Z = true)
    (w5 : (Cond.instanceMethod ⟨"java/lang/Object", "getClass", "()Ljava/lang/Class;"⟩).before a0 Z = true) (w6 : (Cond.native ⟨"java/lang/Object", "getClass", "()Ljava/lang/Class;"⟩).before a0 Z = true) (eT : T.heap = h) (E : Exa Z h a C) {mr : Addr} (M : OMir Z C mr)
    {g : JFrame} (hg : g.method = m) (hsize : g.locals.size = c.maxLocals) {rest : List Value} (hs : g.stack = .ref a :: rest) (hd : decode c.code g.pc = .ok (.invokevirtual index, 3)) (hf : 1 ≤ R.frames) {W : Nat} (hW : 2 * g.monitorRoom + (rest.map fun v => v.category).sum ≤ W) (hl : W + (nativeFrameWords "java/lang/Object" "getClass" 1 + 11) ≤ R.locals) :
    ∃ T', Stand p l e R s m args below meth c T' locs cells slots ∧ T'.heap = h ∧ ∀ target, Steps p.tables e below (T'.setTop { g with pc := g.pc + 3, stack := .ref mr :: rest }) target → Steps p.tables e below (T.setTop g) target := by
  obtain ⟨cB, kB, i1, i2, i3⟩ := isOf hZ eT E
  obtain ⟨cc, kc, m1, m2, m3⟩ := M
  have f1 : s.vm.findClass C = some cc := by rw [hZ.alike.findClass]; exact m1
  cases i1.symm.trans f1
  obtain ⟨k', q, ek⟩ := hZ.alike.2.2 _ _ m2
  obtain ⟨vm', X', st⟩ := X.getClassOf hx hown (mvT hZ w1) (mvT hZ w2) (nf_top (args := #[]) (mvT hZ w3)) (mvT hZ w4) (mvT hZ w5) (mvT hZ w6) f1 i3 q (by rw [ek]; exact m3) hg hsize hs hd hf (by omega)
  exact ⟨_, X', eT, st⟩
theorem oldcM (X : Stand p l e R s m args below meth c T locs cells slots) (hx : p.tables.exec = Jvm.exec) (hZ : Z.Warmed39 s.vm) {own C : String} {index : Nat} (hown : s.vm.findClass own = some m.cls) (w : (Cond.classLink own index C).before a0 Z = true) (eT : T.heap = h) {mr : Addr} (M : OMir Z C mr)
    {g : JFrame} (hg : g.method = m) (hd : decode c.code g.pc = .ok (.ldc index, 2)) :
    ∃ T', Stand p l e R s m args below meth c T' locs cells slots ∧ T'.heap = h ∧ ∀ target, Steps p.tables e below (T'.setTop { g with pc := g.pc + 2, stack := .ref mr :: g.stack }) target → Steps p.tables e below (T.setTop g) target := by
  obtain ⟨cc, kc, m1, m2, m3⟩ := M
  obtain ⟨k', q, ek⟩ := hZ.alike.2.2 _ _ m2
  have f1 : s.vm.findClass C = some cc := by rw [hZ.alike.findClass]; exact m1
  have ev : (Term.mirror C).eval args s none [] s = some (.ref mr) := by
    simp only [Term.eval, Option.bind_eq_bind, f1, Option.bind_some, q]
    rw [ek]
    simp [m3]
  obtain ⟨vm', X', st⟩ := X.ldcMirror hx hown (mvT hZ w) ev hg hd
  exact ⟨_, X', eT, st⟩
theorem OKeep.keepf (K : OKeep h0 h ws) (L : Keep h h' [b]) (q : h0.size ≤ b) : OKeep h0 h' ws := by
  refine ⟨Nat.le_trans K.1 L.1, fun x c hx => ?_⟩
  have lt : x < h0.size := (Array.getElem?_eq_some_iff.mp hx).1
  obtain ⟨c', q', r⟩ := K.2 x c hx
  exact ⟨c', L.2.1 x c' q' (fun z => by cases List.mem_singleton.mp z; exact Nat.not_lt.mpr q lt), r⟩
theorem omvN {y : MethodName} {own host : String} {index : Nat} (hZ : Z.Warmed39 s.vm) (w : (Cond.methodLinkNest own index y host).before a0 Z = true) : (Cond.methodLinkNest own index y host).before args s = true := (Cond.methodLinkNest_wide hZ w :)
theorem pNS.cls {x y : MethodName} (w : (Cond.selects y.cls x y).before a0 Z = true) : ∃ (t : ClassId) (k : Class), Z.vm.findClass y.cls = some t ∧ Z.vm.classes[t]? = some k ∧ k.isInterface = false := by
  obtain ⟨c, r, m, h1, h2, h3, h4, mk, h5, h6⟩ := Cond.selects_spec w
  exact ⟨m.cls, mk, findClass_of_methodNamed h3, h5, h6⟩
theorem pNS.root {O : String} {x y : MethodName} (w : (Cond.noSuperclass O).before a0 Z = true) (wk : (Cond.selects y.cls x y).before a0 Z = true) (hn : O ≠ y.cls) : NS Z O y.cls := by
  obtain ⟨c, k, h1, h2, h3, -, -⟩ := Cond.noSuperclass_spec w
  obtain ⟨t, kt, g1, -⟩ := pNS.cls wk
  have ne := ids_ne h1 g1 hn
  refine ⟨c, t, h1, g1, fun fuel => ?_⟩
  cases fuel with
  | zero => rfl
  | succ f => simp [Vm.isSubclassAux, ne, h2, h3]
theorem pNS.no {C S : String} {x y : MethodName} (w : (Cond.superclass C S).before a0 Z = true) (wk : (Cond.selects y.cls x y).before a0 Z = true) (q : NS Z C y.cls) (hn : C ≠ y.cls) : ∃ c t, Z.vm.findClass C = some c ∧ Z.vm.findClass y.cls = some t ∧ Z.vm.assignable c t = false := by
  obtain ⟨c, t, h0, g0, n3⟩ := q
  obtain ⟨p, k, kp, h1, h2, h3, h4, h5, -, h7⟩ := Cond.superclass_spec h0 w
  obtain ⟨t', k', g1, g2, g3⟩ := pNS.cls wk
  cases g0.symm.trans g1
  have ne := ids_ne h0 g0 hn
  refine ⟨c, t, h0, g0, ?_⟩
  show Z.vm.assignableAux (255 + 1) c t = false
  cases hk : k'.kind <;> simp [Vm.assignableAux, ne, h2, g2, h5, hk, g3, Vm.isSubclass, n3]
end OwnMir
theorem own_and3 (x : Int32) : (x &&& (3 : Int32)) = (0 : Int32) ∨ (x &&& (3 : Int32)) = (1 : Int32) ∨ (x &&& (3 : Int32)) = (2 : Int32) ∨ (x &&& (3 : Int32)) = (3 : Int32) := by
  have e : (x &&& (3 : Int32)).toInt = x.toInt % ((2 ^ 2 : Nat) : Int) := c_mask x 3 2 (by decide) (by decide)
  have p : ((2 ^ 2 : Nat) : Int) = 4 := rfl
  rw [p] at e
  simp only [← Int32.toInt_inj, e]
  have : (0 : Int32).toInt = 0 ∧ (1 : Int32).toInt = 1 ∧ (2 : Int32).toInt = 2 ∧ (3 : Int32).toInt = 3 := by decide
  omega
theorem own_a (p2 p3 p4 : Int32) (h : ¬ ((2147483647 : Int64) < (((p2.toInt64) + (1 : Int64)) + ((p3 &&& (65535 : Int32)).toInt64)))) : ((p2.toInt64).toInt32) < ((((p2.toInt64) + (1 : Int64)) + ((p3 &&& (65535 : Int32)).toInt64)).toInt32) := by
  have a1 := c_i2l p2
  have m3 := c_mask p3 65535 16 (by decide) (by decide)
  have m4 := c_mask p4 65535 16 (by decide) (by decide)
  have p : ((2 ^ 16 : Nat) : Int) = 65536 := rfl
  rw [p] at m3 m4
  have a3 := c_i2l (p3 &&& (65535 : Int32))
  have a4 := c_i2l (p4 &&& (65535 : Int32))
  have r := rng32 p2
  have b1 := c_ladd (p2.toInt64) (1 : Int64)
  have b2 := c_ladd ((p2.toInt64) + (1 : Int64)) ((p3 &&& (65535 : Int32)).toInt64)
  have b3 := c_ladd (((p2.toInt64) + (1 : Int64)) + ((p3 &&& (65535 : Int32)).toInt64)) (1 : Int64)
  have b4 := c_ladd ((((p2.toInt64) + (1 : Int64)) + ((p3 &&& (65535 : Int32)).toInt64)) + (1 : Int64)) ((p4 &&& (65535 : Int32)).toInt64)
  have r1 := rng64 ((p2.toInt64) + (1 : Int64))
  have r2 := rng64 (((p2.toInt64) + (1 : Int64)) + ((p3 &&& (65535 : Int32)).toInt64))
  have r3 := rng64 ((((p2.toInt64) + (1 : Int64)) + ((p3 &&& (65535 : Int32)).toInt64)) + (1 : Int64))
  have r4 := rng64 (((((p2.toInt64) + (1 : Int64)) + ((p3 &&& (65535 : Int32)).toInt64)) + (1 : Int64)) + ((p4 &&& (65535 : Int32)).toInt64))
  have l1 := c_l2i (p2.toInt64)
  have l2 := c_l2i (((p2.toInt64) + (1 : Int64)) + ((p3 &&& (65535 : Int32)).toInt64))
  have l3 := c_l2i (((((p2.toInt64) + (1 : Int64)) + ((p3 &&& (65535 : Int32)).toInt64)) + (1 : Int64)) + ((p4 &&& (65535 : Int32)).toInt64))
  have q1 := rng32 (p2.toInt64).toInt32
  have q2 := rng32 (((p2.toInt64) + (1 : Int64)) + ((p3 &&& (65535 : Int32)).toInt64)).toInt32
  have q3 := rng32 (((((p2.toInt64) + (1 : Int64)) + ((p3 &&& (65535 : Int32)).toInt64)) + (1 : Int64)) + ((p4 &&& (65535 : Int32)).toInt64)).toInt32
  have o : (1 : Int64).toInt = 1 := rfl
  have o2 : (2147483647 : Int64).toInt = 2147483647 := rfl
  simp only [Int32.lt_iff_toInt_lt, Int64.lt_iff_toInt_lt] at *
  omega
theorem own_b (p2 p3 p4 : Int32) (h : ¬ ((2147483647 : Int64) < (((((p2.toInt64) + (1 : Int64)) + ((p3 &&& (65535 : Int32)).toInt64)) + (1 : Int64)) + ((p4 &&& (65535 : Int32)).toInt64)))) : ((p2.toInt64).toInt32) < ((((p2.toInt64) + (1 : Int64)) + ((p3 &&& (65535 : Int32)).toInt64)).toInt32) := by
  have a1 := c_i2l p2
  have m3 := c_mask p3 65535 16 (by decide) (by decide)
  have m4 := c_mask p4 65535 16 (by decide) (by decide)
  have p : ((2 ^ 16 : Nat) : Int) = 65536 := rfl
  rw [p] at m3 m4
  have a3 := c_i2l (p3 &&& (65535 : Int32))
  have a4 := c_i2l (p4 &&& (65535 : Int32))
  have r := rng32 p2
  have b1 := c_ladd (p2.toInt64) (1 : Int64)
  have b2 := c_ladd ((p2.toInt64) + (1 : Int64)) ((p3 &&& (65535 : Int32)).toInt64)
  have b3 := c_ladd (((p2.toInt64) + (1 : Int64)) + ((p3 &&& (65535 : Int32)).toInt64)) (1 : Int64)
  have b4 := c_ladd ((((p2.toInt64) + (1 : Int64)) + ((p3 &&& (65535 : Int32)).toInt64)) + (1 : Int64)) ((p4 &&& (65535 : Int32)).toInt64)
  have r1 := rng64 ((p2.toInt64) + (1 : Int64))
  have r2 := rng64 (((p2.toInt64) + (1 : Int64)) + ((p3 &&& (65535 : Int32)).toInt64))
  have r3 := rng64 ((((p2.toInt64) + (1 : Int64)) + ((p3 &&& (65535 : Int32)).toInt64)) + (1 : Int64))
  have r4 := rng64 (((((p2.toInt64) + (1 : Int64)) + ((p3 &&& (65535 : Int32)).toInt64)) + (1 : Int64)) + ((p4 &&& (65535 : Int32)).toInt64))
  have l1 := c_l2i (p2.toInt64)
  have l2 := c_l2i (((p2.toInt64) + (1 : Int64)) + ((p3 &&& (65535 : Int32)).toInt64))
  have l3 := c_l2i (((((p2.toInt64) + (1 : Int64)) + ((p3 &&& (65535 : Int32)).toInt64)) + (1 : Int64)) + ((p4 &&& (65535 : Int32)).toInt64))
  have q1 := rng32 (p2.toInt64).toInt32
  have q2 := rng32 (((p2.toInt64) + (1 : Int64)) + ((p3 &&& (65535 : Int32)).toInt64)).toInt32
  have q3 := rng32 (((((p2.toInt64) + (1 : Int64)) + ((p3 &&& (65535 : Int32)).toInt64)) + (1 : Int64)) + ((p4 &&& (65535 : Int32)).toInt64)).toInt32
  have o : (1 : Int64).toInt = 1 := rfl
  have o2 : (2147483647 : Int64).toInt = 2147483647 := rfl
  simp only [Int32.lt_iff_toInt_lt, Int64.lt_iff_toInt_lt] at *
  omega
theorem own_c (p2 p3 p4 : Int32) (h : ¬ ((2147483647 : Int64) < (((((p2.toInt64) + (1 : Int64)) + ((p3 &&& (65535 : Int32)).toInt64)) + (1 : Int64)) + ((p4 &&& (65535 : Int32)).toInt64)))) : ((((p2.toInt64) + (1 : Int64)) + ((p3 &&& (65535 : Int32)).toInt64)).toInt32) < ((((((p2.toInt64) + (1 : Int64)) + ((p3 &&& (65535 : Int32)).toInt64)) + (1 : Int64)) + ((p4 &&& (65535 : Int32)).toInt64)).toInt32) := by
  have a1 := c_i2l p2
  have m3 := c_mask p3 65535 16 (by decide) (by decide)
  have m4 := c_mask p4 65535 16 (by decide) (by decide)
  have p : ((2 ^ 16 : Nat) : Int) = 65536 := rfl
  rw [p] at m3 m4
  have a3 := c_i2l (p3 &&& (65535 : Int32))
  have a4 := c_i2l (p4 &&& (65535 : Int32))
  have r := rng32 p2
  have b1 := c_ladd (p2.toInt64) (1 : Int64)
  have b2 := c_ladd ((p2.toInt64) + (1 : Int64)) ((p3 &&& (65535 : Int32)).toInt64)
  have b3 := c_ladd (((p2.toInt64) + (1 : Int64)) + ((p3 &&& (65535 : Int32)).toInt64)) (1 : Int64)
  have b4 := c_ladd ((((p2.toInt64) + (1 : Int64)) + ((p3 &&& (65535 : Int32)).toInt64)) + (1 : Int64)) ((p4 &&& (65535 : Int32)).toInt64)
  have r1 := rng64 ((p2.toInt64) + (1 : Int64))
  have r2 := rng64 (((p2.toInt64) + (1 : Int64)) + ((p3 &&& (65535 : Int32)).toInt64))
  have r3 := rng64 ((((p2.toInt64) + (1 : Int64)) + ((p3 &&& (65535 : Int32)).toInt64)) + (1 : Int64))
  have r4 := rng64 (((((p2.toInt64) + (1 : Int64)) + ((p3 &&& (65535 : Int32)).toInt64)) + (1 : Int64)) + ((p4 &&& (65535 : Int32)).toInt64))
  have l1 := c_l2i (p2.toInt64)
  have l2 := c_l2i (((p2.toInt64) + (1 : Int64)) + ((p3 &&& (65535 : Int32)).toInt64))
  have l3 := c_l2i (((((p2.toInt64) + (1 : Int64)) + ((p3 &&& (65535 : Int32)).toInt64)) + (1 : Int64)) + ((p4 &&& (65535 : Int32)).toInt64))
  have q1 := rng32 (p2.toInt64).toInt32
  have q2 := rng32 (((p2.toInt64) + (1 : Int64)) + ((p3 &&& (65535 : Int32)).toInt64)).toInt32
  have q3 := rng32 (((((p2.toInt64) + (1 : Int64)) + ((p3 &&& (65535 : Int32)).toInt64)) + (1 : Int64)) + ((p4 &&& (65535 : Int32)).toInt64)).toInt32
  have o : (1 : Int64).toInt = 1 := rfl
  have o2 : (2147483647 : Int64).toInt = 2147483647 := rfl
  simp only [Int32.lt_iff_toInt_lt, Int64.lt_iff_toInt_lt] at *
  omega
theorem own_d (p2 : Int32) : ¬ ((2147483647 : Int64) < (p2.toInt64)) := by
  have a1 := c_i2l p2
  have r := rng32 p2
  have o2 : (2147483647 : Int64).toInt = 2147483647 := rfl
  simp only [Int64.lt_iff_toInt_lt] at *
  omega
def Glob (Z : State) (m_OA : Addr) (w_EMPTY_ELEMENTDATA : Addr) (w_DEFAULTCAPACITY_EMPTY_ELEMENTDATA : Addr) (w_EMPTY_LIST : Addr) (w_EMPTY_LIST_elements : Addr) (w_EMPTY : Addr) (k_w_EMPTY_ELEMENTDATA : ClassId) (k_w_DEFAULTCAPACITY_EMPTY_ELEMENTDATA : ClassId) (k_w_EMPTY_LIST_elements : ClassId) : Prop := OMir Z "[Ljava/lang/Object;" m_OA ∧ Sta Z Z.heap "java/util/ArrayList" "EMPTY_ELEMENTDATA" "[Ljava/lang/Object;" (.ref w_EMPTY_ELEMENTDATA) ∧ Exa Z Z.heap w_EMPTY_ELEMENTDATA "[Ljava/lang/Object;" ∧ Sta Z Z.heap "java/util/ArrayList" "DEFAULTCAPACITY_EMPTY_ELEMENTDATA" "[Ljava/lang/Object;" (.ref w_DEFAULTCAPACITY_EMPTY_ELEMENTDATA) ∧ Exa Z Z.heap w_DEFAULTCAPACITY_EMPTY_ELEMENTDATA "[Ljava/lang/Object;" ∧ Sta Z Z.heap "java/util/ImmutableCollections" "EMPTY_LIST" "Ljava/util/ImmutableCollections$ListN;" (.ref w_EMPTY_LIST) ∧ Exa Z Z.heap w_EMPTY_LIST "java/util/ImmutableCollections$ListN" ∧ Fld Z Z.heap w_EMPTY_LIST "java/util/ImmutableCollections$ListN" "elements" "[Ljava/lang/Object;" (.ref w_EMPTY_LIST_elements) ∧ Exa Z Z.heap w_EMPTY_LIST_elements "[Ljava/lang/Object;" ∧ Sta Z Z.heap "java/util/ImmutableCollections" "EMPTY" "Ljava/lang/Object;" (.ref w_EMPTY) ∧ Exa Z Z.heap w_EMPTY "java/lang/Object" ∧ Arv Z Z.heap w_EMPTY_ELEMENTDATA k_w_EMPTY_ELEMENTDATA (.object "java/lang/Object") (0 : Int32) [] .null ∧ Arv Z Z.heap w_DEFAULTCAPACITY_EMPTY_ELEMENTDATA k_w_DEFAULTCAPACITY_EMPTY_ELEMENTDATA (.object "java/lang/Object") (0 : Int32) [] .null ∧ Arv Z Z.heap w_EMPTY_LIST_elements k_w_EMPTY_LIST_elements (.object "java/lang/Object") (0 : Int32) [] .null ∧ Fld Z Z.heap w_EMPTY_LIST "java/util/ImmutableCollections$ListN" "allowNulls" "Z" (.int (0 : Int32)) ∧ Sta Z Z.heap "java/util/ImmutableCollections" "$assertionsDisabled" "Z" (.int (1 : Int32))
theorem d1_0 : decode jdk_38_method_2_code 0 = .ok (.aload_n 0, 1) := by decide +kernel
theorem d1_1 : decode jdk_38_method_2_code 1 = .ok (.invokespecial 1, 3) := by decide +kernel
theorem d2_0 : decode jdk_39_method_1_code 0 = .ok (.aload_n 0, 1) := by decide +kernel
theorem d2_1 : decode jdk_39_method_1_code 1 = .ok (.invokespecial 1, 3) := by decide +kernel
theorem d3_0 : decode jdk_22_method_1_code 0 = .ok (.aload_n 0, 1) := by decide +kernel
theorem d3_1 : decode jdk_22_method_1_code 1 = .ok (.invokespecial 1, 3) := by decide +kernel
theorem d3_4 : decode jdk_22_method_1_code 4 = .ok (.return_, 1) := by decide +kernel
theorem pn_java_util_AbstractCollection : plainName "java/util/AbstractCollection" = true := by first | (simp [plainName, overriddenIn]; done) | decide +kernel
def Q3 (Z : State) (m_OA : Addr) (w_EMPTY_ELEMENTDATA : Addr) (w_DEFAULTCAPACITY_EMPTY_ELEMENTDATA : Addr) (w_EMPTY_LIST : Addr) (w_EMPTY_LIST_elements : Addr) (w_EMPTY : Addr) (k_w_EMPTY_ELEMENTDATA : ClassId) (k_w_DEFAULTCAPACITY_EMPTY_ELEMENTDATA : ClassId) (k_w_EMPTY_LIST_elements : ClassId) (a1 : Addr) (h0 : Heap) (n0 : Nat) (v : Option Value) (h : Heap) (L : List Loc) : Prop := v = none ∧ Fr n0 L ∧ h = h0
theorem ef3 (m : MethodId) (x0 : Addr) : entryFrame m #[(.ref x0)] 1 = mkF m 0 #[.val (.ref x0)] [] := by first | (simp [entryFrame, mkF, argsToLocals, Value.category]; done) | rfl
set_option maxRecDepth 65536 in
set_option maxHeartbeats 40000000 in
theorem rm3 (l : Launch) (Z : State) (a0 : Array Value) (hw : ∀ d ∈ tables_1, d.before a0 Z = true) (ws : List Jvm.Cond) {m_OA : Addr} {w_EMPTY_ELEMENTDATA : Addr} {w_DEFAULTCAPACITY_EMPTY_ELEMENTDATA : Addr} {w_EMPTY_LIST : Addr} {w_EMPTY_LIST_elements : Addr} {w_EMPTY : Addr} {k_w_EMPTY_ELEMENTDATA : ClassId} {k_w_DEFAULTCAPACITY_EMPTY_ELEMENTDATA : ClassId} {k_w_EMPTY_LIST_elements : ClassId} (G : Glob Z m_OA w_EMPTY_ELEMENTDATA w_DEFAULTCAPACITY_EMPTY_ELEMENTDATA w_EMPTY_LIST w_EMPTY_LIST_elements w_EMPTY k_w_EMPTY_ELEMENTDATA k_w_DEFAULTCAPACITY_EMPTY_ELEMENTDATA k_w_EMPTY_LIST_elements) (a1 : Addr) (h0 : Heap) (n0 : Nat) (O0 : Old Z n0 h0) :
    MetFree l (⟨"java/util/AbstractCollection", "<init>", "()V"⟩ : MethodName) (head1 (Jvm.Cond.code (⟨"java/util/AbstractCollection", "<init>", "()V"⟩ : MethodName) jdk_22_method_1_code 1 none :: ws) ({ frames := 1, cells := 0, slots := 0, locals := 12 } : Room)) (fun a U => a = #[(.ref a1)] ∧ Z.Warmed39 U.vm ∧ U.heap = h0) (fun _ _ _ _ _ => True) (fun _ U o U' => ∃ v L, o = .returned v ∧ Q3 Z m_OA w_EMPTY_ELEMENTDATA w_DEFAULTCAPACITY_EMPTY_ELEMENTDATA w_EMPTY_LIST w_EMPTY_LIST_elements w_EMPTY k_w_EMPTY_ELEMENTDATA k_w_DEFAULTCAPACITY_EMPTY_ELEMENTDATA k_w_EMPTY_LIST_elements a1 h0 n0 v U'.heap L ∧ FrameEnd U o U' L ({ frames := 1, cells := 0, slots := 0, locals := 12 } : Room).cells ({ frames := 1, cells := 0, slots := 0, locals := 12 } : Room).slots) := by
  refine MetFree.of_bodySF (plainFor_of_name pn_java_util_AbstractCollection) hisR ?_
  intro p e s m args below meth c s₁ Bd hml0 hP hK
  obtain ⟨rfl, hZ, hh⟩ := hP
  have hx := Bd.exec
  have hby := Bd.bytes
  have hml : c.maxLocals = 1 := hml0
  have hown : s.vm.findClass "java/util/AbstractCollection" = some m.cls := findClass_of_methodNamed Bd.named
  have hnm := (name_of_methodNamed Bd.named Bd.method).1
  have X0 : Stand p l e ({ frames := 1, cells := 0, slots := 0, locals := 12 } : Room) s m #[(.ref a1)] below meth c s₁ [] 0 0 := Stand.of_body Bd
  have e0 : s₁.heap = h0 := by rw [← hh, Bd.state]; rfl
  have N0 := Fr.nil n0
  show OGot p.tables e below (s₁.setTop (entryFrame m #[(.ref a1)] 1)) _
  refine OGot.go (fun t k => castTop (ef3 m a1) k) ?_
  show OGot p.tables e below (s₁.setTop (mkF m 0 #[.val (.ref a1)] [])) _
  refine OGot.go (fun t k => XS.aloadN X0.here hx rfl (hb hby d3_0) rfl rfl k) ?_
  obtain ⟨T2, X2, e2, st2⟩ := initO X0 hx hZ hown (ow hw 21 rfl) (ow hw 22 rfl) (ow hw 23 rfl) e0 (g := (mkF m 1 #[.val (.ref a1)] [(.ref a1)])) rfl (by rw [hml]; rfl) rfl (hb hby d3_1) (by decide) (W := 0) (by show 2 * 0 + _ ≤ _; exact Nat.le_of_eq rfl) (by decide)
  refine OGot.go st2 ?_
  show OGot p.tables e below (T2.setTop (mkF m 4 #[.val (.ref a1)] [])) _
  obtain ⟨fs, hr, hrun, hended, hW, hsame⟩ := X2.leave (v := none) (fun _ => rfl)
  refine ⟨_, _, X2.returnOut hx Bd.returns (hb hby d3_4) hr, hrun, hended, _, _, rfl, ?_, ⟨_, rfl⟩, hW, hsame.mono (by decide) (by decide)⟩
  exact (⟨rfl, N0, e2⟩ : Q3 Z m_OA w_EMPTY_ELEMENTDATA w_DEFAULTCAPACITY_EMPTY_ELEMENTDATA w_EMPTY_LIST w_EMPTY_LIST_elements w_EMPTY k_w_EMPTY_ELEMENTDATA k_w_DEFAULTCAPACITY_EMPTY_ELEMENTDATA k_w_EMPTY_LIST_elements a1 h0 n0 _ T2.heap _)
theorem pd_0 : parseMethodDescriptor "()V" = some ⟨[], none⟩ := by decide +kernel
theorem d2_4 : decode jdk_39_method_1_code 4 = .ok (.aload_n 0, 1) := by decide +kernel
theorem d2_5 : decode jdk_39_method_1_code 5 = .ok (.iconst 0, 1) := by decide +kernel
theorem d2_6 : decode jdk_39_method_1_code 6 = .ok (.putfield 7, 3) := by decide +kernel
theorem d2_9 : decode jdk_39_method_1_code 9 = .ok (.return_, 1) := by decide +kernel
theorem pn_java_util_AbstractList : plainName "java/util/AbstractList" = true := by first | (simp [plainName, overriddenIn]; done) | decide +kernel
def Q2 (Z : State) (m_OA : Addr) (w_EMPTY_ELEMENTDATA : Addr) (w_DEFAULTCAPACITY_EMPTY_ELEMENTDATA : Addr) (w_EMPTY_LIST : Addr) (w_EMPTY_LIST_elements : Addr) (w_EMPTY : Addr) (k_w_EMPTY_ELEMENTDATA : ClassId) (k_w_DEFAULTCAPACITY_EMPTY_ELEMENTDATA : ClassId) (k_w_EMPTY_LIST_elements : ClassId) (a1 : Addr) (h0 : Heap) (n0 : Nat) (v : Option Value) (h : Heap) (L : List Loc) : Prop := Fr n0 L ∧ v = none ∧ OKeep h0 h [(a1, Jvm.RoadKit.slotOf Z "java/util/AbstractList" "modCount" "I")] ∧ Fld Z h a1 "java/util/AbstractList" "modCount" "I" (.int (0 : Int32))
theorem ef2 (m : MethodId) (x0 : Addr) : entryFrame m #[(.ref x0)] 1 = mkF m 0 #[.val (.ref x0)] [] := by first | (simp [entryFrame, mkF, argsToLocals, Value.category]; done) | rfl
set_option maxRecDepth 65536 in
set_option maxHeartbeats 40000000 in
theorem rm2 (l : Launch) (Z : State) (a0 : Array Value) (hw : ∀ d ∈ tables_1, d.before a0 Z = true) (ws : List Jvm.Cond) {m_OA : Addr} {w_EMPTY_ELEMENTDATA : Addr} {w_DEFAULTCAPACITY_EMPTY_ELEMENTDATA : Addr} {w_EMPTY_LIST : Addr} {w_EMPTY_LIST_elements : Addr} {w_EMPTY : Addr} {k_w_EMPTY_ELEMENTDATA : ClassId} {k_w_DEFAULTCAPACITY_EMPTY_ELEMENTDATA : ClassId} {k_w_EMPTY_LIST_elements : ClassId} (G : Glob Z m_OA w_EMPTY_ELEMENTDATA w_DEFAULTCAPACITY_EMPTY_ELEMENTDATA w_EMPTY_LIST w_EMPTY_LIST_elements w_EMPTY k_w_EMPTY_ELEMENTDATA k_w_DEFAULTCAPACITY_EMPTY_ELEMENTDATA k_w_EMPTY_LIST_elements) (a1 : Addr) (h0 : Heap) (n0 : Nat) (O0 : Old Z n0 h0) (E_a1 : Exa Z h0 a1 "java/util/ArrayList") (F_modCount_a1 : Fld Z h0 a1 "java/util/AbstractList" "modCount" "I" (.int (0 : Int32))) (g_a1 : n0 ≤ a1) :
    MetFree l (⟨"java/util/AbstractList", "<init>", "()V"⟩ : MethodName) (head1 (Jvm.Cond.code (⟨"java/util/AbstractList", "<init>", "()V"⟩ : MethodName) jdk_39_method_1_code 1 none :: ws) ({ frames := 2, cells := 0, slots := 0, locals := 24 } : Room)) (fun a U => a = #[(.ref a1)] ∧ Z.Warmed39 U.vm ∧ U.heap = h0) (fun _ _ _ _ _ => True) (fun _ U o U' => ∃ v L, o = .returned v ∧ Q2 Z m_OA w_EMPTY_ELEMENTDATA w_DEFAULTCAPACITY_EMPTY_ELEMENTDATA w_EMPTY_LIST w_EMPTY_LIST_elements w_EMPTY k_w_EMPTY_ELEMENTDATA k_w_DEFAULTCAPACITY_EMPTY_ELEMENTDATA k_w_EMPTY_LIST_elements a1 h0 n0 v U'.heap L ∧ FrameEnd U o U' L ({ frames := 2, cells := 0, slots := 0, locals := 24 } : Room).cells ({ frames := 2, cells := 0, slots := 0, locals := 24 } : Room).slots) := by
  refine MetFree.of_bodySF (plainFor_of_name pn_java_util_AbstractList) hisR ?_
  intro p e s m args below meth c s₁ Bd hml0 hP hK
  obtain ⟨rfl, hZ, hh⟩ := hP
  have hx := Bd.exec
  have hby := Bd.bytes
  have hml : c.maxLocals = 1 := hml0
  have hown : s.vm.findClass "java/util/AbstractList" = some m.cls := findClass_of_methodNamed Bd.named
  have hnm := (name_of_methodNamed Bd.named Bd.method).1
  have X0 : Stand p l e ({ frames := 2, cells := 0, slots := 0, locals := 24 } : Room) s m #[(.ref a1)] below meth c s₁ [] 0 0 := Stand.of_body Bd
  have e0 : s₁.heap = h0 := by rw [← hh, Bd.state]; rfl
  have N0 := Fr.nil n0
  show OGot p.tables e below (s₁.setTop (entryFrame m #[(.ref a1)] 1)) _
  refine OGot.go (fun t k => castTop (ef2 m a1) k) ?_
  show OGot p.tables e below (s₁.setTop (mkF m 0 #[.val (.ref a1)] [])) _
  refine OGot.go (fun t k => XS.aloadN X0.here hx rfl (hb hby d2_0) rfl rfl k) ?_
  obtain ⟨_, _, ⟨T2, L2, k2, n2⟩, -, X2, ⟨Lc2, hQ2, l2, y2, z2⟩, st2⟩ := X0.specialBack hx (y := (⟨"java/util/AbstractCollection", "<init>", "()V"⟩ : MethodName)) rfl hown (mvT hZ (ow hw 15 rfl)) (mvT hZ (ow hw 16 rfl)) (mvT hZ (ow hw 20 rfl)) (by decide) (backOf (W := 0) (rm3 l Z a0 hw [] G a1 h0 n0 O0 ) hZ (ow hw 20 rfl) (ow hw 19 rfl) (by decide) (by decide)) (g := (mkF m 1 #[.val (.ref a1)] [(.ref a1)])) rfl (by rw [hml]; rfl) (Steps.refl _) (a := a1) (argsL := []) (rest := []) (lenOf pd_0 rfl) rfl (by show 2 * 0 + _ ≤ _; exact Nat.le_of_eq rfl) (hb hby d2_1) (fun _ _ => ⟨rfl, e0, (by decide : 0 + 0 ≤ _), (by decide : 0 + 0 ≤ _)⟩)
  dsimp only [Pt.U, Pt.locs, Pt.cells, Pt.slots] at X2 l2 y2 z2 st2 hQ2
  subst l2 y2 z2
  obtain ⟨rfl, N2q, e2⟩ := hQ2
  have N2 := Fr.app N0 N2q
  refine OGot.on st2 ?_
  refine OGot.go (fun t k => XS.aloadN X2.here hx rfl (hb hby d2_4) rfl rfl k) ?_
  refine OGot.go (fun t k => XS.iconst X2.here hx rfl (hb hby d2_5) k) ?_
  obtain ⟨T3, h3, X3, e3, W3, st3⟩ := putF X2 hx hZ hown (host := "") (Or.inl (ow hw 24 rfl)) Via.refl e2 F_modCount_a1 E_a1 (Or.inl (ow hw 25 rfl)) (ow hw 4 rfl) (ty := .int) (by decide) rfl rfl (g := (mkF m 6 #[.val (.ref a1)] [(.int (0 : Int32)), (.ref a1)])) rfl rfl (hb hby d2_6)
  refine OGot.go st3 ?_
  have N3 := Fr.snoc X3 N2 g_a1
  have O3 := O0.wr W3 g_a1
  have K3 := (OKeep.refl h0 [(a1, Jvm.RoadKit.slotOf Z "java/util/AbstractList" "modCount" "I")]).wr W3 (Or.inl (List.mem_of_getElem? (i := 0) rfl))
  have Fw3 : Fld Z h3 a1 "java/util/AbstractList" "modCount" "I" (.int (0 : Int32)) := F_modCount_a1.same W3
  show OGot p.tables e below (T3.setTop (mkF m 9 #[.val (.ref a1)] [])) _
  obtain ⟨fs, hr, hrun, hended, hW, hsame⟩ := X3.leave (v := none) (fun _ => rfl)
  refine ⟨_, _, X3.returnOut hx Bd.returns (hb hby d2_9) hr, hrun, hended, _, _, rfl, ?_, ⟨_, rfl⟩, hW, hsame.mono (by decide) (by decide)⟩
  show Q2 Z m_OA w_EMPTY_ELEMENTDATA w_DEFAULTCAPACITY_EMPTY_ELEMENTDATA w_EMPTY_LIST w_EMPTY_LIST_elements w_EMPTY k_w_EMPTY_ELEMENTDATA k_w_DEFAULTCAPACITY_EMPTY_ELEMENTDATA k_w_EMPTY_LIST_elements a1 h0 n0 _ T3.heap _
  rw [e3]
  exact ⟨N3, rfl, K3, Fw3⟩
theorem d1_4 : decode jdk_38_method_2_code 4 = .ok (.aload_n 0, 1) := by decide +kernel
theorem d1_5 : decode jdk_38_method_2_code 5 = .ok (.getstatic 39, 3) := by decide +kernel
theorem d1_8 : decode jdk_38_method_2_code 8 = .ok (.putfield 9, 3) := by decide +kernel
theorem d1_11 : decode jdk_38_method_2_code 11 = .ok (.return_, 1) := by decide +kernel
theorem pn_java_util_ArrayList : plainName "java/util/ArrayList" = true := by first | (simp [plainName, overriddenIn]; done) | decide +kernel
def Q1 (Z : State) (m_OA : Addr) (w_EMPTY_ELEMENTDATA : Addr) (w_DEFAULTCAPACITY_EMPTY_ELEMENTDATA : Addr) (w_EMPTY_LIST : Addr) (w_EMPTY_LIST_elements : Addr) (w_EMPTY : Addr) (k_w_EMPTY_ELEMENTDATA : ClassId) (k_w_DEFAULTCAPACITY_EMPTY_ELEMENTDATA : ClassId) (k_w_EMPTY_LIST_elements : ClassId) (a1 : Addr) (h0 : Heap) (n0 : Nat) (v : Option Value) (h : Heap) (L : List Loc) : Prop := Fr n0 L ∧ v = none ∧ OKeep h0 h [(a1, Jvm.RoadKit.slotOf Z "java/util/AbstractList" "modCount" "I"), (a1, Jvm.RoadKit.slotOf Z "java/util/ArrayList" "elementData" "[Ljava/lang/Object;")] ∧ Fld Z h a1 "java/util/AbstractList" "modCount" "I" (.int (0 : Int32)) ∧ Fld Z h a1 "java/util/ArrayList" "elementData" "[Ljava/lang/Object;" (.ref w_DEFAULTCAPACITY_EMPTY_ELEMENTDATA)
theorem ef1 (m : MethodId) (x0 : Addr) : entryFrame m #[(.ref x0)] 1 = mkF m 0 #[.val (.ref x0)] [] := by first | (simp [entryFrame, mkF, argsToLocals, Value.category]; done) | rfl
set_option maxRecDepth 65536 in
set_option maxHeartbeats 40000000 in
theorem rm1 (l : Launch) (Z : State) (a0 : Array Value) (hw : ∀ d ∈ tables_1, d.before a0 Z = true) (ws : List Jvm.Cond) {m_OA : Addr} {w_EMPTY_ELEMENTDATA : Addr} {w_DEFAULTCAPACITY_EMPTY_ELEMENTDATA : Addr} {w_EMPTY_LIST : Addr} {w_EMPTY_LIST_elements : Addr} {w_EMPTY : Addr} {k_w_EMPTY_ELEMENTDATA : ClassId} {k_w_DEFAULTCAPACITY_EMPTY_ELEMENTDATA : ClassId} {k_w_EMPTY_LIST_elements : ClassId} (G : Glob Z m_OA w_EMPTY_ELEMENTDATA w_DEFAULTCAPACITY_EMPTY_ELEMENTDATA w_EMPTY_LIST w_EMPTY_LIST_elements w_EMPTY k_w_EMPTY_ELEMENTDATA k_w_DEFAULTCAPACITY_EMPTY_ELEMENTDATA k_w_EMPTY_LIST_elements) (a1 : Addr) (h0 : Heap) (n0 : Nat) (O0 : Old Z n0 h0) (E_a1 : Exa Z h0 a1 "java/util/ArrayList") (F_modCount_a1 : Fld Z h0 a1 "java/util/AbstractList" "modCount" "I" (.int (0 : Int32))) (g_a1 : n0 ≤ a1) (F_elementData_a1 : Fld Z h0 a1 "java/util/ArrayList" "elementData" "[Ljava/lang/Object;" .null) :
    MetFree l (⟨"java/util/ArrayList", "<init>", "()V"⟩ : MethodName) (head1 (Jvm.Cond.code (⟨"java/util/ArrayList", "<init>", "()V"⟩ : MethodName) jdk_38_method_2_code 1 none :: ws) ({ frames := 3, cells := 0, slots := 0, locals := 36 } : Room)) (fun a U => a = #[(.ref a1)] ∧ Z.Warmed39 U.vm ∧ U.heap = h0) (fun _ _ _ _ _ => True) (fun _ U o U' => ∃ v L, o = .returned v ∧ Q1 Z m_OA w_EMPTY_ELEMENTDATA w_DEFAULTCAPACITY_EMPTY_ELEMENTDATA w_EMPTY_LIST w_EMPTY_LIST_elements w_EMPTY k_w_EMPTY_ELEMENTDATA k_w_DEFAULTCAPACITY_EMPTY_ELEMENTDATA k_w_EMPTY_LIST_elements a1 h0 n0 v U'.heap L ∧ FrameEnd U o U' L ({ frames := 3, cells := 0, slots := 0, locals := 36 } : Room).cells ({ frames := 3, cells := 0, slots := 0, locals := 36 } : Room).slots) := by
  refine MetFree.of_bodySF (plainFor_of_name pn_java_util_ArrayList) hisR ?_
  intro p e s m args below meth c s₁ Bd hml0 hP hK
  obtain ⟨rfl, hZ, hh⟩ := hP
  have hx := Bd.exec
  have hby := Bd.bytes
  have hml : c.maxLocals = 1 := hml0
  have hown : s.vm.findClass "java/util/ArrayList" = some m.cls := findClass_of_methodNamed Bd.named
  have hnm := (name_of_methodNamed Bd.named Bd.method).1
  have X0 : Stand p l e ({ frames := 3, cells := 0, slots := 0, locals := 36 } : Room) s m #[(.ref a1)] below meth c s₁ [] 0 0 := Stand.of_body Bd
  have e0 : s₁.heap = h0 := by rw [← hh, Bd.state]; rfl
  have N0 := Fr.nil n0
  show OGot p.tables e below (s₁.setTop (entryFrame m #[(.ref a1)] 1)) _
  refine OGot.go (fun t k => castTop (ef1 m a1) k) ?_
  show OGot p.tables e below (s₁.setTop (mkF m 0 #[.val (.ref a1)] [])) _
  refine OGot.go (fun t k => XS.aloadN X0.here hx rfl (hb hby d1_0) rfl rfl k) ?_
  obtain ⟨_, _, ⟨T2, L2, k2, n2⟩, -, X2, ⟨Lc2, hQ2, l2, y2, z2⟩, st2⟩ := X0.specialBack hx (y := (⟨"java/util/AbstractList", "<init>", "()V"⟩ : MethodName)) rfl hown (mvT hZ (ow hw 9 rfl)) (mvT hZ (ow hw 10 rfl)) (mvT hZ (ow hw 14 rfl)) (by decide) (backOf (W := 0) (rm2 l Z a0 hw [] G a1 h0 n0 O0 E_a1 F_modCount_a1 g_a1) hZ (ow hw 14 rfl) (ow hw 13 rfl) (by decide) (by decide)) (g := (mkF m 1 #[.val (.ref a1)] [(.ref a1)])) rfl (by rw [hml]; rfl) (Steps.refl _) (a := a1) (argsL := []) (rest := []) (lenOf pd_0 rfl) rfl (by show 2 * 0 + _ ≤ _; exact Nat.le_of_eq rfl) (hb hby d1_1) (fun _ _ => ⟨rfl, e0, (by decide : 0 + 0 ≤ _), (by decide : 0 + 0 ≤ _)⟩)
  dsimp only [Pt.U, Pt.locs, Pt.cells, Pt.slots] at X2 l2 y2 z2 st2 hQ2
  subst l2 y2 z2
  obtain ⟨N2q, rfl, K2, Fo2_0⟩ := hQ2
  have Kc2 := (OKeep.refl h0 [(a1, Jvm.RoadKit.slotOf Z "java/util/AbstractList" "modCount" "I"), (a1, Jvm.RoadKit.slotOf Z "java/util/ArrayList" "elementData" "[Ljava/lang/Object;")]).trans K2 (oinS (Or.inl (List.mem_of_getElem? (i := 0) rfl)) oin0)
  have O2 := OKeep.old O0 K2 (ogeS g_a1 oge0)
  have N2 := Fr.app N0 N2q
  refine OGot.on st2 ?_
  refine OGot.go (fun t k => XS.aloadN X2.here hx rfl (hb hby d1_4) rfl rfl k) ?_
  obtain ⟨T3, X3, e3, st3⟩ := getS2 X2 hx hZ hown (host := "") (Or.inl (ow hw 26 rfl)) Via.refl rfl (G.2.2.2.1.ext O2.2) (g := (mkF m 5 #[.val (.ref a1)] [(.ref a1)])) rfl (hb hby d1_5)
  refine OGot.go st3 ?_
  have F4 : Fld Z T2.heap a1 "java/util/ArrayList" "elementData" "[Ljava/lang/Object;" .null := (OKeep.fld F_elementData_a1 K2 (oninS (slot_ne (Or.inl (ow hw 28 rfl)) (Or.inl (ow hw 25 rfl)) (by decide) (t := (.array (.object "java/lang/Object"))) (t' := .int) (by decide) (by decide)) onin0))
  obtain ⟨T5, h5, X5, e5, W5, st5⟩ := putF X3 hx hZ hown (host := "") (Or.inl (ow hw 27 rfl)) Via.refl e3 F4 (OKeep.exa E_a1 K2) (Or.inl (ow hw 28 rfl)) (ow hw 4 rfl) (ty := (.array (.object "java/lang/Object"))) (by decide) rfl rfl (g := (mkF m 8 #[.val (.ref a1)] [(.ref w_DEFAULTCAPACITY_EMPTY_ELEMENTDATA), (.ref a1)])) rfl rfl (hb hby d1_8)
  refine OGot.go st5 ?_
  have N5 := Fr.snoc X5 N2 g_a1
  have O5 := O2.wr W5 g_a1
  have K5 := Kc2.wr W5 (Or.inl (List.mem_of_getElem? (i := 1) rfl))
  have Fw5 : Fld Z h5 a1 "java/util/ArrayList" "elementData" "[Ljava/lang/Object;" (.ref w_DEFAULTCAPACITY_EMPTY_ELEMENTDATA) := F4.same W5
  show OGot p.tables e below (T5.setTop (mkF m 11 #[.val (.ref a1)] [])) _
  obtain ⟨fs, hr, hrun, hended, hW, hsame⟩ := X5.leave (v := none) (fun _ => rfl)
  refine ⟨_, _, X5.returnOut hx Bd.returns (hb hby d1_11) hr, hrun, hended, _, _, rfl, ?_, ⟨_, rfl⟩, hW, hsame.mono (by decide) (by decide)⟩
  have F6 : Fld Z h5 a1 "java/util/AbstractList" "modCount" "I" (.int (0 : Int32)) := (Fo2_0.other W5 (Or.inr (slot_ne (Or.inl (ow hw 25 rfl)) (Or.inl (ow hw 28 rfl)) (by decide) (t := .int) (t' := (.array (.object "java/lang/Object"))) (by decide) (by decide))))
  show Q1 Z m_OA w_EMPTY_ELEMENTDATA w_DEFAULTCAPACITY_EMPTY_ELEMENTDATA w_EMPTY_LIST w_EMPTY_LIST_elements w_EMPTY k_w_EMPTY_ELEMENTDATA k_w_DEFAULTCAPACITY_EMPTY_ELEMENTDATA k_w_EMPTY_LIST_elements a1 h0 n0 _ T5.heap _
  rw [e5]
  exact ⟨N5, rfl, K5, F6, Fw5⟩
theorem d5_0 : decode prog_14_method_1_code 0 = .ok (.aload_n 0, 1) := by decide +kernel
theorem d5_1 : decode prog_14_method_1_code 1 = .ok (.invokespecial 1, 3) := by decide +kernel
theorem d6_0 : decode jdk_30_method_1_code 0 = .ok (.aload_n 0, 1) := by decide +kernel
theorem d6_1 : decode jdk_30_method_1_code 1 = .ok (.invokespecial 1, 3) := by decide +kernel
theorem d6_4 : decode jdk_30_method_1_code 4 = .ok (.return_, 1) := by decide +kernel
theorem pn_java_lang_Record : plainName "java/lang/Record" = true := by first | (simp [plainName, overriddenIn]; done) | decide +kernel
def Q6 (Z : State) (m_OA : Addr) (w_EMPTY_ELEMENTDATA : Addr) (w_DEFAULTCAPACITY_EMPTY_ELEMENTDATA : Addr) (w_EMPTY_LIST : Addr) (w_EMPTY_LIST_elements : Addr) (w_EMPTY : Addr) (k_w_EMPTY_ELEMENTDATA : ClassId) (k_w_DEFAULTCAPACITY_EMPTY_ELEMENTDATA : ClassId) (k_w_EMPTY_LIST_elements : ClassId) (a1 : Addr) (h0 : Heap) (n0 : Nat) (v : Option Value) (h : Heap) (L : List Loc) : Prop := v = none ∧ Fr n0 L ∧ h = h0
theorem ef6 (m : MethodId) (x0 : Addr) : entryFrame m #[(.ref x0)] 1 = mkF m 0 #[.val (.ref x0)] [] := by first | (simp [entryFrame, mkF, argsToLocals, Value.category]; done) | rfl
set_option maxRecDepth 65536 in
set_option maxHeartbeats 40000000 in
theorem rm6 (l : Launch) (Z : State) (a0 : Array Value) (hw : ∀ d ∈ tables_1, d.before a0 Z = true) (ws : List Jvm.Cond) {m_OA : Addr} {w_EMPTY_ELEMENTDATA : Addr} {w_DEFAULTCAPACITY_EMPTY_ELEMENTDATA : Addr} {w_EMPTY_LIST : Addr} {w_EMPTY_LIST_elements : Addr} {w_EMPTY : Addr} {k_w_EMPTY_ELEMENTDATA : ClassId} {k_w_DEFAULTCAPACITY_EMPTY_ELEMENTDATA : ClassId} {k_w_EMPTY_LIST_elements : ClassId} (G : Glob Z m_OA w_EMPTY_ELEMENTDATA w_DEFAULTCAPACITY_EMPTY_ELEMENTDATA w_EMPTY_LIST w_EMPTY_LIST_elements w_EMPTY k_w_EMPTY_ELEMENTDATA k_w_DEFAULTCAPACITY_EMPTY_ELEMENTDATA k_w_EMPTY_LIST_elements) (a1 : Addr) (h0 : Heap) (n0 : Nat) (O0 : Old Z n0 h0) :
    MetFree l (⟨"java/lang/Record", "<init>", "()V"⟩ : MethodName) (head1 (Jvm.Cond.code (⟨"java/lang/Record", "<init>", "()V"⟩ : MethodName) jdk_30_method_1_code 1 none :: ws) ({ frames := 1, cells := 0, slots := 0, locals := 12 } : Room)) (fun a U => a = #[(.ref a1)] ∧ Z.Warmed39 U.vm ∧ U.heap = h0) (fun _ _ _ _ _ => True) (fun _ U o U' => ∃ v L, o = .returned v ∧ Q6 Z m_OA w_EMPTY_ELEMENTDATA w_DEFAULTCAPACITY_EMPTY_ELEMENTDATA w_EMPTY_LIST w_EMPTY_LIST_elements w_EMPTY k_w_EMPTY_ELEMENTDATA k_w_DEFAULTCAPACITY_EMPTY_ELEMENTDATA k_w_EMPTY_LIST_elements a1 h0 n0 v U'.heap L ∧ FrameEnd U o U' L ({ frames := 1, cells := 0, slots := 0, locals := 12 } : Room).cells ({ frames := 1, cells := 0, slots := 0, locals := 12 } : Room).slots) := by
  refine MetFree.of_bodySF (plainFor_of_name pn_java_lang_Record) hisR ?_
  intro p e s m args below meth c s₁ Bd hml0 hP hK
  obtain ⟨rfl, hZ, hh⟩ := hP
  have hx := Bd.exec
  have hby := Bd.bytes
  have hml : c.maxLocals = 1 := hml0
  have hown : s.vm.findClass "java/lang/Record" = some m.cls := findClass_of_methodNamed Bd.named
  have hnm := (name_of_methodNamed Bd.named Bd.method).1
  have X0 : Stand p l e ({ frames := 1, cells := 0, slots := 0, locals := 12 } : Room) s m #[(.ref a1)] below meth c s₁ [] 0 0 := Stand.of_body Bd
  have e0 : s₁.heap = h0 := by rw [← hh, Bd.state]; rfl
  have N0 := Fr.nil n0
  show OGot p.tables e below (s₁.setTop (entryFrame m #[(.ref a1)] 1)) _
  refine OGot.go (fun t k => castTop (ef6 m a1) k) ?_
  show OGot p.tables e below (s₁.setTop (mkF m 0 #[.val (.ref a1)] [])) _
  refine OGot.go (fun t k => XS.aloadN X0.here hx rfl (hb hby d6_0) rfl rfl k) ?_
  obtain ⟨T2, X2, e2, st2⟩ := initO X0 hx hZ hown (ow hw 37 rfl) (ow hw 22 rfl) (ow hw 23 rfl) e0 (g := (mkF m 1 #[.val (.ref a1)] [(.ref a1)])) rfl (by rw [hml]; rfl) rfl (hb hby d6_1) (by decide) (W := 0) (by show 2 * 0 + _ ≤ _; exact Nat.le_of_eq rfl) (by decide)
  refine OGot.go st2 ?_
  show OGot p.tables e below (T2.setTop (mkF m 4 #[.val (.ref a1)] [])) _
  obtain ⟨fs, hr, hrun, hended, hW, hsame⟩ := X2.leave (v := none) (fun _ => rfl)
  refine ⟨_, _, X2.returnOut hx Bd.returns (hb hby d6_4) hr, hrun, hended, _, _, rfl, ?_, ⟨_, rfl⟩, hW, hsame.mono (by decide) (by decide)⟩
  exact (⟨rfl, N0, e2⟩ : Q6 Z m_OA w_EMPTY_ELEMENTDATA w_DEFAULTCAPACITY_EMPTY_ELEMENTDATA w_EMPTY_LIST w_EMPTY_LIST_elements w_EMPTY k_w_EMPTY_ELEMENTDATA k_w_DEFAULTCAPACITY_EMPTY_ELEMENTDATA k_w_EMPTY_LIST_elements a1 h0 n0 _ T2.heap _)
theorem d5_4 : decode prog_14_method_1_code 4 = .ok (.aload_n 1, 1) := by decide +kernel
theorem d5_5 : decode prog_14_method_1_code 5 = .ok (.invokestatic 7, 3) := by decide +kernel
theorem d7_0 : decode jdk_40_method_48_code 0 = .ok (.aload_n 0, 1) := by decide +kernel
theorem d7_1 : decode jdk_40_method_48_code 1 = .ok (.invokestatic 112, 3) := by decide +kernel
theorem d8_0 : decode jdk_56_method_3_code 0 = .ok (.aload_n 0, 1) := by decide +kernel
theorem d8_1 : decode jdk_56_method_3_code 1 = .ok (.instanceof 10, 3) := by decide +kernel
theorem d8_4 : decode jdk_56_method_3_code 4 = .ok (.ifCond .ne 22, 3) := by decide +kernel
theorem d8_7 : decode jdk_56_method_3_code 7 = .ok (.aload_n 0, 1) := by decide +kernel
theorem d8_8 : decode jdk_56_method_3_code 8 = .ok (.instanceof 12, 3) := by decide +kernel
theorem d8_11 : decode jdk_56_method_3_code 11 = .ok (.ifCond .eq 20, 3) := by decide +kernel
theorem d8_31 : decode jdk_56_method_3_code 31 = .ok (.aload_n 0, 1) := by decide +kernel
theorem d8_32 : decode jdk_56_method_3_code 32 = .ok (.invokeinterface 20 1, 5) := by decide +kernel
theorem d9_0 : decode jdk_38_method_9_code 0 = .ok (.aload_n 0, 1) := by decide +kernel
theorem d9_1 : decode jdk_38_method_9_code 1 = .ok (.getfield 48, 3) := by decide +kernel
theorem d9_4 : decode jdk_38_method_9_code 4 = .ok (.ifCond .ne 7, 3) := by decide +kernel
theorem d9_7 : decode jdk_38_method_9_code 7 = .ok (.iconst 1, 1) := by decide +kernel
theorem d9_8 : decode jdk_38_method_9_code 8 = .ok (.goto 4, 3) := by decide +kernel
theorem d9_12 : decode jdk_38_method_9_code 12 = .ok (.ireturn, 1) := by decide +kernel
def Q9 (Z : State) (m_OA : Addr) (w_EMPTY_ELEMENTDATA : Addr) (w_DEFAULTCAPACITY_EMPTY_ELEMENTDATA : Addr) (w_EMPTY_LIST : Addr) (w_EMPTY_LIST_elements : Addr) (w_EMPTY : Addr) (k_w_EMPTY_ELEMENTDATA : ClassId) (k_w_DEFAULTCAPACITY_EMPTY_ELEMENTDATA : ClassId) (k_w_EMPTY_LIST_elements : ClassId) (a1 : Addr) (h0 : Heap) (n0 : Nat) (v : Option Value) (h : Heap) (L : List Loc) : Prop := v = some (.int (1 : Int32)) ∧ Fr n0 L ∧ h = h0
theorem ef9 (m : MethodId) (x0 : Addr) : entryFrame m #[(.ref x0)] 1 = mkF m 0 #[.val (.ref x0)] [] := by first | (simp [entryFrame, mkF, argsToLocals, Value.category]; done) | rfl
set_option maxRecDepth 65536 in
set_option maxHeartbeats 40000000 in
theorem rm9 (l : Launch) (Z : State) (a0 : Array Value) (hw : ∀ d ∈ tables_1, d.before a0 Z = true) (ws : List Jvm.Cond) {m_OA : Addr} {w_EMPTY_ELEMENTDATA : Addr} {w_DEFAULTCAPACITY_EMPTY_ELEMENTDATA : Addr} {w_EMPTY_LIST : Addr} {w_EMPTY_LIST_elements : Addr} {w_EMPTY : Addr} {k_w_EMPTY_ELEMENTDATA : ClassId} {k_w_DEFAULTCAPACITY_EMPTY_ELEMENTDATA : ClassId} {k_w_EMPTY_LIST_elements : ClassId} (G : Glob Z m_OA w_EMPTY_ELEMENTDATA w_DEFAULTCAPACITY_EMPTY_ELEMENTDATA w_EMPTY_LIST w_EMPTY_LIST_elements w_EMPTY k_w_EMPTY_ELEMENTDATA k_w_DEFAULTCAPACITY_EMPTY_ELEMENTDATA k_w_EMPTY_LIST_elements) (a1 : Addr) (h0 : Heap) (n0 : Nat) (O0 : Old Z n0 h0) (F_size_a1 : Fld Z h0 a1 "java/util/ArrayList" "size" "I" (.int (0 : Int32))) :
    MetFree l (⟨"java/util/ArrayList", "isEmpty", "()Z"⟩ : MethodName) (head1 (Jvm.Cond.code (⟨"java/util/ArrayList", "isEmpty", "()Z"⟩ : MethodName) jdk_38_method_9_code 1 (some .boolean) :: ws) ({ frames := 0, cells := 0, slots := 0, locals := 0 } : Room)) (fun a U => a = #[(.ref a1)] ∧ Z.Warmed39 U.vm ∧ U.heap = h0) (fun _ _ _ _ _ => True) (fun _ U o U' => ∃ v L, o = .returned v ∧ Q9 Z m_OA w_EMPTY_ELEMENTDATA w_DEFAULTCAPACITY_EMPTY_ELEMENTDATA w_EMPTY_LIST w_EMPTY_LIST_elements w_EMPTY k_w_EMPTY_ELEMENTDATA k_w_DEFAULTCAPACITY_EMPTY_ELEMENTDATA k_w_EMPTY_LIST_elements a1 h0 n0 v U'.heap L ∧ FrameEnd U o U' L ({ frames := 0, cells := 0, slots := 0, locals := 0 } : Room).cells ({ frames := 0, cells := 0, slots := 0, locals := 0 } : Room).slots) := by
  refine MetFree.of_bodySF (plainFor_of_name pn_java_util_ArrayList) hisR ?_
  intro p e s m args below meth c s₁ Bd hml0 hP hK
  obtain ⟨rfl, hZ, hh⟩ := hP
  have hx := Bd.exec
  have hby := Bd.bytes
  have hml : c.maxLocals = 1 := hml0
  have hown : s.vm.findClass "java/util/ArrayList" = some m.cls := findClass_of_methodNamed Bd.named
  have hnm := (name_of_methodNamed Bd.named Bd.method).1
  have X0 : Stand p l e ({ frames := 0, cells := 0, slots := 0, locals := 0 } : Room) s m #[(.ref a1)] below meth c s₁ [] 0 0 := Stand.of_body Bd
  have e0 : s₁.heap = h0 := by rw [← hh, Bd.state]; rfl
  have N0 := Fr.nil n0
  show OGot p.tables e below (s₁.setTop (entryFrame m #[(.ref a1)] 1)) _
  refine OGot.go (fun t k => castTop (ef9 m a1) k) ?_
  show OGot p.tables e below (s₁.setTop (mkF m 0 #[.val (.ref a1)] [])) _
  refine OGot.go (fun t k => XS.aloadN X0.here hx rfl (hb hby d9_0) rfl rfl k) ?_
  obtain ⟨T2, X2, e2, st2⟩ := getF X0 hx hZ hown (host := "") (Or.inl (ow hw 61 rfl)) Via.refl e0 F_size_a1 (g := (mkF m 1 #[.val (.ref a1)] [(.ref a1)])) rfl rfl (hb hby d9_1)
  refine OGot.go st2 ?_
  refine OGot.go (fun t k => XS.ifNo X2.here hx rfl (hb hby d9_4) rfl (by decide) k) ?_
  refine OGot.go (fun t k => XS.iconst X2.here hx rfl (hb hby d9_7) k) ?_
  refine OGot.go (fun t k => XS.goto X2.here hx rfl (pc0 := 8) (pc' := 12) rfl (hb hby d9_8) (by decide) (by decide) k) ?_
  show OGot p.tables e below (T2.setTop (mkF m 12 #[.val (.ref a1)] [(.int (1 : Int32))])) _
  obtain ⟨fs, hr, hrun, hended, hW, hsame⟩ := X2.leave (v := some (.int (1 : Int32))) (fun h => by rw [Bd.returns] at h; cases h)
  refine ⟨_, _, retN X2 hx (t := .boolean) Bd.returns (by simp) (hb hby d9_12) hr, hrun, hended, _, _, rfl, ?_, ⟨_, rfl⟩, hW, hsame.mono (by decide) (by decide)⟩
  exact (⟨rfl, N0, e2⟩ : Q9 Z m_OA w_EMPTY_ELEMENTDATA w_DEFAULTCAPACITY_EMPTY_ELEMENTDATA w_EMPTY_LIST w_EMPTY_LIST_elements w_EMPTY k_w_EMPTY_ELEMENTDATA k_w_DEFAULTCAPACITY_EMPTY_ELEMENTDATA k_w_EMPTY_LIST_elements a1 h0 n0 _ T2.heap _)
theorem pd_1 : parseMethodDescriptor "()Z" = some ⟨[], some .boolean⟩ := by decide +kernel
theorem d8_37 : decode jdk_56_method_3_code 37 = .ok (.ifCond .eq 7, 3) := by decide +kernel
theorem d8_40 : decode jdk_56_method_3_code 40 = .ok (.invokestatic 26, 3) := by decide +kernel
theorem d10_0 : decode jdk_40_method_36_code 0 = .ok (.getstatic 90, 3) := by decide +kernel
theorem d10_3 : decode jdk_40_method_36_code 3 = .ok (.areturn, 1) := by decide +kernel
theorem pn_java_util_List : plainName "java/util/List" = true := by first | (simp [plainName, overriddenIn]; done) | decide +kernel
def Q10 (Z : State) (m_OA : Addr) (w_EMPTY_ELEMENTDATA : Addr) (w_DEFAULTCAPACITY_EMPTY_ELEMENTDATA : Addr) (w_EMPTY_LIST : Addr) (w_EMPTY_LIST_elements : Addr) (w_EMPTY : Addr) (k_w_EMPTY_ELEMENTDATA : ClassId) (k_w_DEFAULTCAPACITY_EMPTY_ELEMENTDATA : ClassId) (k_w_EMPTY_LIST_elements : ClassId)  (h0 : Heap) (n0 : Nat) (v : Option Value) (h : Heap) (L : List Loc) : Prop := v = some (.ref w_EMPTY_LIST) ∧ Fr n0 L ∧ h = h0
theorem ef10 (m : MethodId)  : entryFrame m #[] 0 = mkF m 0 #[] [] := by first | (simp [entryFrame, mkF, argsToLocals, Value.category]; done) | rfl
set_option maxRecDepth 65536 in
set_option maxHeartbeats 40000000 in
theorem rm10 (l : Launch) (Z : State) (a0 : Array Value) (hw : ∀ d ∈ tables_1, d.before a0 Z = true) (ws : List Jvm.Cond) {m_OA : Addr} {w_EMPTY_ELEMENTDATA : Addr} {w_DEFAULTCAPACITY_EMPTY_ELEMENTDATA : Addr} {w_EMPTY_LIST : Addr} {w_EMPTY_LIST_elements : Addr} {w_EMPTY : Addr} {k_w_EMPTY_ELEMENTDATA : ClassId} {k_w_DEFAULTCAPACITY_EMPTY_ELEMENTDATA : ClassId} {k_w_EMPTY_LIST_elements : ClassId} (G : Glob Z m_OA w_EMPTY_ELEMENTDATA w_DEFAULTCAPACITY_EMPTY_ELEMENTDATA w_EMPTY_LIST w_EMPTY_LIST_elements w_EMPTY k_w_EMPTY_ELEMENTDATA k_w_DEFAULTCAPACITY_EMPTY_ELEMENTDATA k_w_EMPTY_LIST_elements)  (h0 : Heap) (n0 : Nat) (O0 : Old Z n0 h0) :
    MetFree l (⟨"java/util/List", "of", "()Ljava/util/List;"⟩ : MethodName) (head1 (Jvm.Cond.code (⟨"java/util/List", "of", "()Ljava/util/List;"⟩ : MethodName) jdk_40_method_36_code 0 (some (.object "java/util/List")) :: ws) ({ frames := 0, cells := 0, slots := 0, locals := 0 } : Room)) (fun a U => a = #[] ∧ Z.Warmed39 U.vm ∧ U.heap = h0) (fun _ _ _ _ _ => True) (fun _ U o U' => ∃ v L, o = .returned v ∧ Q10 Z m_OA w_EMPTY_ELEMENTDATA w_DEFAULTCAPACITY_EMPTY_ELEMENTDATA w_EMPTY_LIST w_EMPTY_LIST_elements w_EMPTY k_w_EMPTY_ELEMENTDATA k_w_DEFAULTCAPACITY_EMPTY_ELEMENTDATA k_w_EMPTY_LIST_elements  h0 n0 v U'.heap L ∧ FrameEnd U o U' L ({ frames := 0, cells := 0, slots := 0, locals := 0 } : Room).cells ({ frames := 0, cells := 0, slots := 0, locals := 0 } : Room).slots) := by
  refine MetFree.of_bodySF (plainFor_of_name pn_java_util_List) hisR ?_
  intro p e s m args below meth c s₁ Bd hml0 hP hK
  obtain ⟨rfl, hZ, hh⟩ := hP
  have hx := Bd.exec
  have hby := Bd.bytes
  have hml : c.maxLocals = 0 := hml0
  have hown : s.vm.findClass "java/util/List" = some m.cls := findClass_of_methodNamed Bd.named
  have hnm := (name_of_methodNamed Bd.named Bd.method).1
  have X0 : Stand p l e ({ frames := 0, cells := 0, slots := 0, locals := 0 } : Room) s m #[] below meth c s₁ [] 0 0 := Stand.of_body Bd
  have e0 : s₁.heap = h0 := by rw [← hh, Bd.state]; rfl
  have N0 := Fr.nil n0
  show OGot p.tables e below (s₁.setTop (entryFrame m #[] 0)) _
  refine OGot.go (fun t k => castTop (ef10 m ) k) ?_
  show OGot p.tables e below (s₁.setTop (mkF m 0 #[] [])) _
  obtain ⟨T1, X1, e1, st1⟩ := getS2 X0 hx hZ hown (host := "") (Or.inl (ow hw 66 rfl)) Via.refl e0 (G.2.2.2.2.2.1.ext O0.2) (g := (mkF m 0 #[] [])) rfl (hb hby d10_0)
  refine OGot.go st1 ?_
  show OGot p.tables e below (T1.setTop (mkF m 3 #[] [(.ref w_EMPTY_LIST)])) _
  obtain ⟨fs, hr, hrun, hended, hW, hsame⟩ := X1.leave (v := some (.ref w_EMPTY_LIST)) (fun h => by rw [Bd.returns] at h; cases h)
  refine ⟨_, _, oretA X1 hx Bd.returns rfl rfl (hb hby d10_3) hr, hrun, hended, _, _, rfl, ?_, ⟨_, rfl⟩, hW, hsame.mono (by decide) (by decide)⟩
  exact (⟨rfl, N0, e1⟩ : Q10 Z m_OA w_EMPTY_ELEMENTDATA w_DEFAULTCAPACITY_EMPTY_ELEMENTDATA w_EMPTY_LIST w_EMPTY_LIST_elements w_EMPTY k_w_EMPTY_ELEMENTDATA k_w_DEFAULTCAPACITY_EMPTY_ELEMENTDATA k_w_EMPTY_LIST_elements  h0 n0 _ T1.heap _)
theorem pd_2 : parseMethodDescriptor "()Ljava/util/List;" = some ⟨[], some (.object "java/util/List")⟩ := by decide +kernel
theorem d8_43 : decode jdk_56_method_3_code 43 = .ok (.areturn, 1) := by decide +kernel
theorem pn_java_util_ImmutableCollections : plainName "java/util/ImmutableCollections" = true := by first | (simp [plainName, overriddenIn]; done) | decide +kernel
def Q8 (Z : State) (m_OA : Addr) (w_EMPTY_ELEMENTDATA : Addr) (w_DEFAULTCAPACITY_EMPTY_ELEMENTDATA : Addr) (w_EMPTY_LIST : Addr) (w_EMPTY_LIST_elements : Addr) (w_EMPTY : Addr) (k_w_EMPTY_ELEMENTDATA : ClassId) (k_w_DEFAULTCAPACITY_EMPTY_ELEMENTDATA : ClassId) (k_w_EMPTY_LIST_elements : ClassId) (a1 : Addr) (h0 : Heap) (n0 : Nat) (v : Option Value) (h : Heap) (L : List Loc) : Prop := v = some (.ref w_EMPTY_LIST) ∧ Fr n0 L ∧ h = h0
theorem ef8 (m : MethodId) (x0 : Addr) : entryFrame m #[(.ref x0)] 2 = mkF m 0 #[.val (.ref x0), .unset] [] := by first | (simp [entryFrame, mkF, argsToLocals, Value.category]; done) | rfl
set_option maxRecDepth 65536 in
set_option maxHeartbeats 40000000 in
theorem rm8 (l : Launch) (Z : State) (a0 : Array Value) (hw : ∀ d ∈ tables_1, d.before a0 Z = true) (ws : List Jvm.Cond) {m_OA : Addr} {w_EMPTY_ELEMENTDATA : Addr} {w_DEFAULTCAPACITY_EMPTY_ELEMENTDATA : Addr} {w_EMPTY_LIST : Addr} {w_EMPTY_LIST_elements : Addr} {w_EMPTY : Addr} {k_w_EMPTY_ELEMENTDATA : ClassId} {k_w_DEFAULTCAPACITY_EMPTY_ELEMENTDATA : ClassId} {k_w_EMPTY_LIST_elements : ClassId} (G : Glob Z m_OA w_EMPTY_ELEMENTDATA w_DEFAULTCAPACITY_EMPTY_ELEMENTDATA w_EMPTY_LIST w_EMPTY_LIST_elements w_EMPTY k_w_EMPTY_ELEMENTDATA k_w_DEFAULTCAPACITY_EMPTY_ELEMENTDATA k_w_EMPTY_LIST_elements) (a1 : Addr) (h0 : Heap) (n0 : Nat) (O0 : Old Z n0 h0) (E_a1 : Exa Z h0 a1 "java/util/ArrayList") (F_size_a1 : Fld Z h0 a1 "java/util/ArrayList" "size" "I" (.int (0 : Int32))) :
    MetFree l (⟨"java/util/ImmutableCollections", "listCopy", "(Ljava/util/Collection;)Ljava/util/List;"⟩ : MethodName) (head1 (Jvm.Cond.code (⟨"java/util/ImmutableCollections", "listCopy", "(Ljava/util/Collection;)Ljava/util/List;"⟩ : MethodName) jdk_56_method_3_code 2 (some (.object "java/util/List")) :: ws) ({ frames := 1, cells := 0, slots := 0, locals := 12 } : Room)) (fun a U => a = #[(.ref a1)] ∧ Z.Warmed39 U.vm ∧ U.heap = h0) (fun _ _ _ _ _ => True) (fun _ U o U' => ∃ v L, o = .returned v ∧ Q8 Z m_OA w_EMPTY_ELEMENTDATA w_DEFAULTCAPACITY_EMPTY_ELEMENTDATA w_EMPTY_LIST w_EMPTY_LIST_elements w_EMPTY k_w_EMPTY_ELEMENTDATA k_w_DEFAULTCAPACITY_EMPTY_ELEMENTDATA k_w_EMPTY_LIST_elements a1 h0 n0 v U'.heap L ∧ FrameEnd U o U' L ({ frames := 1, cells := 0, slots := 0, locals := 12 } : Room).cells ({ frames := 1, cells := 0, slots := 0, locals := 12 } : Room).slots) := by
  refine MetFree.of_bodySF (plainFor_of_name pn_java_util_ImmutableCollections) hisR ?_
  intro p e s m args below meth c s₁ Bd hml0 hP hK
  obtain ⟨rfl, hZ, hh⟩ := hP
  have hx := Bd.exec
  have hby := Bd.bytes
  have hml : c.maxLocals = 2 := hml0
  have hown : s.vm.findClass "java/util/ImmutableCollections" = some m.cls := findClass_of_methodNamed Bd.named
  have hnm := (name_of_methodNamed Bd.named Bd.method).1
  have X0 : Stand p l e ({ frames := 1, cells := 0, slots := 0, locals := 12 } : Room) s m #[(.ref a1)] below meth c s₁ [] 0 0 := Stand.of_body Bd
  have e0 : s₁.heap = h0 := by rw [← hh, Bd.state]; rfl
  have N0 := Fr.nil n0
  show OGot p.tables e below (s₁.setTop (entryFrame m #[(.ref a1)] 2)) _
  refine OGot.go (fun t k => castTop (ef8 m a1) k) ?_
  show OGot p.tables e below (s₁.setTop (mkF m 0 #[.val (.ref a1), .unset] [])) _
  refine OGot.go (fun t k => XS.aloadN X0.here hx rfl (hb hby d8_0) rfl rfl k) ?_
  obtain ⟨T2, X2, e2, st2⟩ := instNo X0 hx hZ hown (ow hw 46 rfl) e0 E_a1 (oNS.no (ow hw 47 rfl) (ow hw 219 rfl) (NS.step (ow hw 47 rfl) (NS.step (ow hw 48 rfl) (NS.step (ow hw 49 rfl) (oNS.root (ow hw 50 rfl) (ow hw 219 rfl) (by decide)) (by decide)) (by decide)) (by decide)) (by decide)) (g := (mkF m 1 #[.val (.ref a1), .unset] [(.ref a1)])) rfl rfl (hb hby d8_1)
  refine OGot.go st2 ?_
  refine OGot.go (fun t k => XS.ifNo X2.here hx rfl (hb hby d8_4) rfl (by decide) k) ?_
  refine OGot.go (fun t k => XS.aloadN X2.here hx rfl (hb hby d8_7) rfl rfl k) ?_
  obtain ⟨T3, X3, e3, st3⟩ := instNo X2 hx hZ hown (ow hw 51 rfl) e2 E_a1 (oNS.no (ow hw 47 rfl) (ow hw 177 rfl) (NS.step (ow hw 47 rfl) (NS.step (ow hw 48 rfl) (NS.step (ow hw 49 rfl) (oNS.root (ow hw 50 rfl) (ow hw 177 rfl) (by decide)) (by decide)) (by decide)) (by decide)) (by decide)) (g := (mkF m 8 #[.val (.ref a1), .unset] [(.ref a1)])) rfl rfl (hb hby d8_8)
  refine OGot.go st3 ?_
  show OGot p.tables e below (T3.setTop (mkF m 11 #[.val (.ref a1), .unset] [(.int (0 : Int32))])) _
  refine OGot.go (fun t k => XS.ifYes X3.here hx rfl (pc0 := 11) (pc' := 31) rfl (hb hby d8_11) rfl (by decide) (by decide) (by decide) k) ?_
  refine OGot.go (fun t k => XS.aloadN X3.here hx rfl (hb hby d8_31) rfl rfl k) ?_
  obtain ⟨cq4, kq4, q4a, q4b, q4c⟩ := isOf hZ e3 E_a1
  obtain ⟨_, _, ⟨T4, L4, k4, n4⟩, -, X4, ⟨Lc4, hQ4, l4, y4, z4⟩, st4⟩ := X3.interfaceBack hx (xi := (⟨"java/util/Collection", "isEmpty", "()Z"⟩ : MethodName)) (y := (⟨"java/util/ArrayList", "isEmpty", "()Z"⟩ : MethodName)) hown (mvT hZ (ow hw 52 rfl)) (mvT hZ (ow hw 53 rfl)) (mvT hZ (ow hw 54 rfl)) (mvT hZ (ow hw 55 rfl)) (mvT hZ (ow hw 56 rfl)) (mvT hZ (ow hw 57 rfl)) (mvT hZ (ow hw 58 rfl)) (mvT hZ (ow hw 59 rfl)) (by decide) (backOf (W := 0) (rm9 l Z a0 hw [] G a1 h0 n0 O0 F_size_a1) hZ (ow hw 60 rfl) (ow hw 5 rfl) (by decide) (by decide)) q4a q4b q4c (g := (mkF m 32 #[.val (.ref a1), .unset] [(.ref a1)])) rfl (by rw [hml]; rfl) (Steps.refl _) (argsL := []) (rest := []) (lenOf pd_1 rfl) rfl (by show 2 * 0 + _ ≤ _; exact Nat.le_of_eq rfl) (hb hby d8_32) (fun _ _ => ⟨rfl, e3, (by decide : 0 + 0 ≤ _), (by decide : 0 + 0 ≤ _)⟩)
  dsimp only [Pt.U, Pt.locs, Pt.cells, Pt.slots] at X4 l4 y4 z4 st4 hQ4
  subst l4 y4 z4
  obtain ⟨rfl, N4q, e4⟩ := hQ4
  have N4 := Fr.app N0 N4q
  refine OGot.on st4 ?_
  refine OGot.go (fun t k => XS.ifNo X4.here hx rfl (hb hby d8_37) rfl (by decide) k) ?_
  obtain ⟨_, _, ⟨T5, L5, k5, n5⟩, -, X5, ⟨Lc5, hQ5, l5, y5, z5⟩, st5⟩ := Jvm.LawKit.callS X4 hx (y := (⟨"java/util/List", "of", "()Ljava/util/List;"⟩ : MethodName)) hown (mvT hZ (ow hw 63 rfl)) (mvT hZ (ow hw 64 rfl)) (mvT hZ (ow hw 40 rfl)) (mvT hZ (ow hw 65 rfl)) (by decide) (backOf (W := 0) (rm10 l Z a0 hw [] G  h0 n0 O0 ) hZ (ow hw 65 rfl) (ow hw 40 rfl) (by decide) (by decide)) (g := (mkF m 40 #[.val (.ref a1), .unset] [])) rfl (by rw [hml]; rfl) (argsL := []) (rest := []) (lenOf pd_2 rfl) rfl (by show 2 * 0 + _ ≤ _; exact Nat.le_of_eq rfl) (hb hby d8_40) (fun _ _ => ⟨rfl, e4, (by decide : 0 + 0 ≤ _), (by decide : 0 + 0 ≤ _)⟩)
  dsimp only [Pt.U, Pt.locs, Pt.cells, Pt.slots] at X5 l5 y5 z5 st5 hQ5
  subst l5 y5 z5
  obtain ⟨rfl, N5q, e5⟩ := hQ5
  have N5 := Fr.app N4 N5q
  refine OGot.go st5 ?_
  show OGot p.tables e below (T5.setTop (mkF m 43 #[.val (.ref a1), .unset] [(.ref w_EMPTY_LIST)])) _
  obtain ⟨fs, hr, hrun, hended, hW, hsame⟩ := X5.leave (v := some (.ref w_EMPTY_LIST)) (fun h => by rw [Bd.returns] at h; cases h)
  refine ⟨_, _, oretA X5 hx Bd.returns rfl rfl (hb hby d8_43) hr, hrun, hended, _, _, rfl, ?_, ⟨_, rfl⟩, hW, hsame.mono (by decide) (by decide)⟩
  exact (⟨rfl, N5, e5⟩ : Q8 Z m_OA w_EMPTY_ELEMENTDATA w_DEFAULTCAPACITY_EMPTY_ELEMENTDATA w_EMPTY_LIST w_EMPTY_LIST_elements w_EMPTY k_w_EMPTY_ELEMENTDATA k_w_DEFAULTCAPACITY_EMPTY_ELEMENTDATA k_w_EMPTY_LIST_elements a1 h0 n0 _ T5.heap _)
theorem pd_3 : parseMethodDescriptor "(Ljava/util/Collection;)Ljava/util/List;" = some ⟨[(.object "java/util/Collection")], some (.object "java/util/List")⟩ := by decide +kernel
theorem d7_4 : decode jdk_40_method_48_code 4 = .ok (.areturn, 1) := by decide +kernel
def Q7 (Z : State) (m_OA : Addr) (w_EMPTY_ELEMENTDATA : Addr) (w_DEFAULTCAPACITY_EMPTY_ELEMENTDATA : Addr) (w_EMPTY_LIST : Addr) (w_EMPTY_LIST_elements : Addr) (w_EMPTY : Addr) (k_w_EMPTY_ELEMENTDATA : ClassId) (k_w_DEFAULTCAPACITY_EMPTY_ELEMENTDATA : ClassId) (k_w_EMPTY_LIST_elements : ClassId) (a1 : Addr) (h0 : Heap) (n0 : Nat) (v : Option Value) (h : Heap) (L : List Loc) : Prop := v = some (.ref w_EMPTY_LIST) ∧ Fr n0 L ∧ h = h0
theorem ef7 (m : MethodId) (x0 : Addr) : entryFrame m #[(.ref x0)] 1 = mkF m 0 #[.val (.ref x0)] [] := by first | (simp [entryFrame, mkF, argsToLocals, Value.category]; done) | rfl
set_option maxRecDepth 65536 in
set_option maxHeartbeats 40000000 in
theorem rm7 (l : Launch) (Z : State) (a0 : Array Value) (hw : ∀ d ∈ tables_1, d.before a0 Z = true) (ws : List Jvm.Cond) {m_OA : Addr} {w_EMPTY_ELEMENTDATA : Addr} {w_DEFAULTCAPACITY_EMPTY_ELEMENTDATA : Addr} {w_EMPTY_LIST : Addr} {w_EMPTY_LIST_elements : Addr} {w_EMPTY : Addr} {k_w_EMPTY_ELEMENTDATA : ClassId} {k_w_DEFAULTCAPACITY_EMPTY_ELEMENTDATA : ClassId} {k_w_EMPTY_LIST_elements : ClassId} (G : Glob Z m_OA w_EMPTY_ELEMENTDATA w_DEFAULTCAPACITY_EMPTY_ELEMENTDATA w_EMPTY_LIST w_EMPTY_LIST_elements w_EMPTY k_w_EMPTY_ELEMENTDATA k_w_DEFAULTCAPACITY_EMPTY_ELEMENTDATA k_w_EMPTY_LIST_elements) (a1 : Addr) (h0 : Heap) (n0 : Nat) (O0 : Old Z n0 h0) (E_a1 : Exa Z h0 a1 "java/util/ArrayList") (F_size_a1 : Fld Z h0 a1 "java/util/ArrayList" "size" "I" (.int (0 : Int32))) :
    MetFree l (⟨"java/util/List", "copyOf", "(Ljava/util/Collection;)Ljava/util/List;"⟩ : MethodName) (head1 (Jvm.Cond.code (⟨"java/util/List", "copyOf", "(Ljava/util/Collection;)Ljava/util/List;"⟩ : MethodName) jdk_40_method_48_code 1 (some (.object "java/util/List")) :: ws) ({ frames := 2, cells := 0, slots := 0, locals := 25 } : Room)) (fun a U => a = #[(.ref a1)] ∧ Z.Warmed39 U.vm ∧ U.heap = h0) (fun _ _ _ _ _ => True) (fun _ U o U' => ∃ v L, o = .returned v ∧ Q7 Z m_OA w_EMPTY_ELEMENTDATA w_DEFAULTCAPACITY_EMPTY_ELEMENTDATA w_EMPTY_LIST w_EMPTY_LIST_elements w_EMPTY k_w_EMPTY_ELEMENTDATA k_w_DEFAULTCAPACITY_EMPTY_ELEMENTDATA k_w_EMPTY_LIST_elements a1 h0 n0 v U'.heap L ∧ FrameEnd U o U' L ({ frames := 2, cells := 0, slots := 0, locals := 25 } : Room).cells ({ frames := 2, cells := 0, slots := 0, locals := 25 } : Room).slots) := by
  refine MetFree.of_bodySF (plainFor_of_name pn_java_util_List) hisR ?_
  intro p e s m args below meth c s₁ Bd hml0 hP hK
  obtain ⟨rfl, hZ, hh⟩ := hP
  have hx := Bd.exec
  have hby := Bd.bytes
  have hml : c.maxLocals = 1 := hml0
  have hown : s.vm.findClass "java/util/List" = some m.cls := findClass_of_methodNamed Bd.named
  have hnm := (name_of_methodNamed Bd.named Bd.method).1
  have X0 : Stand p l e ({ frames := 2, cells := 0, slots := 0, locals := 25 } : Room) s m #[(.ref a1)] below meth c s₁ [] 0 0 := Stand.of_body Bd
  have e0 : s₁.heap = h0 := by rw [← hh, Bd.state]; rfl
  have N0 := Fr.nil n0
  show OGot p.tables e below (s₁.setTop (entryFrame m #[(.ref a1)] 1)) _
  refine OGot.go (fun t k => castTop (ef7 m a1) k) ?_
  show OGot p.tables e below (s₁.setTop (mkF m 0 #[.val (.ref a1)] [])) _
  refine OGot.go (fun t k => XS.aloadN X0.here hx rfl (hb hby d7_0) rfl rfl k) ?_
  obtain ⟨_, _, ⟨T2, L2, k2, n2⟩, -, X2, ⟨Lc2, hQ2, l2, y2, z2⟩, st2⟩ := Jvm.LawKit.callS X0 hx (y := (⟨"java/util/ImmutableCollections", "listCopy", "(Ljava/util/Collection;)Ljava/util/List;"⟩ : MethodName)) hown (mvT hZ (ow hw 42 rfl)) (mvT hZ (ow hw 43 rfl)) (mvT hZ (ow hw 44 rfl)) (mvT hZ (ow hw 45 rfl)) (by decide) (backOf (W := 0) (rm8 l Z a0 hw [] G a1 h0 n0 O0 E_a1 F_size_a1) hZ (ow hw 45 rfl) (ow hw 44 rfl) (by decide) (by decide)) (g := (mkF m 1 #[.val (.ref a1)] [(.ref a1)])) rfl (by rw [hml]; rfl) (argsL := [(.ref a1)]) (rest := []) (lenOf pd_3 rfl) rfl (by show 2 * 0 + _ ≤ _; exact Nat.le_of_eq rfl) (hb hby d7_1) (fun _ _ => ⟨rfl, e0, (by decide : 0 + 0 ≤ _), (by decide : 0 + 0 ≤ _)⟩)
  dsimp only [Pt.U, Pt.locs, Pt.cells, Pt.slots] at X2 l2 y2 z2 st2 hQ2
  subst l2 y2 z2
  obtain ⟨rfl, N2q, e2⟩ := hQ2
  have N2 := Fr.app N0 N2q
  refine OGot.go st2 ?_
  show OGot p.tables e below (T2.setTop (mkF m 4 #[.val (.ref a1)] [(.ref w_EMPTY_LIST)])) _
  obtain ⟨fs, hr, hrun, hended, hW, hsame⟩ := X2.leave (v := some (.ref w_EMPTY_LIST)) (fun h => by rw [Bd.returns] at h; cases h)
  refine ⟨_, _, oretA X2 hx Bd.returns rfl rfl (hb hby d7_4) hr, hrun, hended, _, _, rfl, ?_, ⟨_, rfl⟩, hW, hsame.mono (by decide) (by decide)⟩
  exact (⟨rfl, N2, e2⟩ : Q7 Z m_OA w_EMPTY_ELEMENTDATA w_DEFAULTCAPACITY_EMPTY_ELEMENTDATA w_EMPTY_LIST w_EMPTY_LIST_elements w_EMPTY k_w_EMPTY_ELEMENTDATA k_w_DEFAULTCAPACITY_EMPTY_ELEMENTDATA k_w_EMPTY_LIST_elements a1 h0 n0 _ T2.heap _)
theorem d5_8 : decode prog_14_method_1_code 8 = .ok (.astore_n 1, 1) := by decide +kernel
theorem d5_9 : decode prog_14_method_1_code 9 = .ok (.iconst 1, 1) := by decide +kernel
theorem d5_10 : decode prog_14_method_1_code 10 = .ok (.istore_n 2, 1) := by decide +kernel
theorem d5_11 : decode prog_14_method_1_code 11 = .ok (.iload_n 2, 1) := by decide +kernel
theorem d5_12 : decode prog_14_method_1_code 12 = .ok (.aload_n 1, 1) := by decide +kernel
theorem d5_13 : decode prog_14_method_1_code 13 = .ok (.invokeinterface 13 1, 5) := by decide +kernel
theorem d11_0 : decode jdk_45_method_3_code 0 = .ok (.aload_n 0, 1) := by decide +kernel
theorem d11_1 : decode jdk_45_method_3_code 1 = .ok (.getfield 7, 3) := by decide +kernel
theorem d11_4 : decode jdk_45_method_3_code 4 = .ok (.arraylength, 1) := by decide +kernel
theorem d11_5 : decode jdk_45_method_3_code 5 = .ok (.ireturn, 1) := by decide +kernel
theorem pn_java_util_ImmutableCollections_ListN : plainName "java/util/ImmutableCollections$ListN" = true := by first | (simp [plainName, overriddenIn]; done) | decide +kernel
def Q11 (Z : State) (m_OA : Addr) (w_EMPTY_ELEMENTDATA : Addr) (w_DEFAULTCAPACITY_EMPTY_ELEMENTDATA : Addr) (w_EMPTY_LIST : Addr) (w_EMPTY_LIST_elements : Addr) (w_EMPTY : Addr) (k_w_EMPTY_ELEMENTDATA : ClassId) (k_w_DEFAULTCAPACITY_EMPTY_ELEMENTDATA : ClassId) (k_w_EMPTY_LIST_elements : ClassId)  (h0 : Heap) (n0 : Nat) (v : Option Value) (h : Heap) (L : List Loc) : Prop := v = some (.int (0 : Int32)) ∧ Fr n0 L ∧ h = h0
theorem ef11 (m : MethodId) (x0 : Addr) : entryFrame m #[(.ref x0)] 1 = mkF m 0 #[.val (.ref x0)] [] := by first | (simp [entryFrame, mkF, argsToLocals, Value.category]; done) | rfl
set_option maxRecDepth 65536 in
set_option maxHeartbeats 40000000 in
theorem rm11 (l : Launch) (Z : State) (a0 : Array Value) (hw : ∀ d ∈ tables_1, d.before a0 Z = true) (ws : List Jvm.Cond) {m_OA : Addr} {w_EMPTY_ELEMENTDATA : Addr} {w_DEFAULTCAPACITY_EMPTY_ELEMENTDATA : Addr} {w_EMPTY_LIST : Addr} {w_EMPTY_LIST_elements : Addr} {w_EMPTY : Addr} {k_w_EMPTY_ELEMENTDATA : ClassId} {k_w_DEFAULTCAPACITY_EMPTY_ELEMENTDATA : ClassId} {k_w_EMPTY_LIST_elements : ClassId} (G : Glob Z m_OA w_EMPTY_ELEMENTDATA w_DEFAULTCAPACITY_EMPTY_ELEMENTDATA w_EMPTY_LIST w_EMPTY_LIST_elements w_EMPTY k_w_EMPTY_ELEMENTDATA k_w_DEFAULTCAPACITY_EMPTY_ELEMENTDATA k_w_EMPTY_LIST_elements)  (h0 : Heap) (n0 : Nat) (O0 : Old Z n0 h0) :
    MetFree l (⟨"java/util/ImmutableCollections$ListN", "size", "()I"⟩ : MethodName) (head1 (Jvm.Cond.code (⟨"java/util/ImmutableCollections$ListN", "size", "()I"⟩ : MethodName) jdk_45_method_3_code 1 (some .int) :: ws) ({ frames := 0, cells := 0, slots := 0, locals := 0 } : Room)) (fun a U => a = #[(.ref w_EMPTY_LIST)] ∧ Z.Warmed39 U.vm ∧ U.heap = h0) (fun _ _ _ _ _ => True) (fun _ U o U' => ∃ v L, o = .returned v ∧ Q11 Z m_OA w_EMPTY_ELEMENTDATA w_DEFAULTCAPACITY_EMPTY_ELEMENTDATA w_EMPTY_LIST w_EMPTY_LIST_elements w_EMPTY k_w_EMPTY_ELEMENTDATA k_w_DEFAULTCAPACITY_EMPTY_ELEMENTDATA k_w_EMPTY_LIST_elements  h0 n0 v U'.heap L ∧ FrameEnd U o U' L ({ frames := 0, cells := 0, slots := 0, locals := 0 } : Room).cells ({ frames := 0, cells := 0, slots := 0, locals := 0 } : Room).slots) := by
  refine MetFree.of_bodySF (plainFor_of_name pn_java_util_ImmutableCollections_ListN) hisR ?_
  intro p e s m args below meth c s₁ Bd hml0 hP hK
  obtain ⟨rfl, hZ, hh⟩ := hP
  have hx := Bd.exec
  have hby := Bd.bytes
  have hml : c.maxLocals = 1 := hml0
  have hown : s.vm.findClass "java/util/ImmutableCollections$ListN" = some m.cls := findClass_of_methodNamed Bd.named
  have hnm := (name_of_methodNamed Bd.named Bd.method).1
  have X0 : Stand p l e ({ frames := 0, cells := 0, slots := 0, locals := 0 } : Room) s m #[(.ref w_EMPTY_LIST)] below meth c s₁ [] 0 0 := Stand.of_body Bd
  have e0 : s₁.heap = h0 := by rw [← hh, Bd.state]; rfl
  have N0 := Fr.nil n0
  show OGot p.tables e below (s₁.setTop (entryFrame m #[(.ref w_EMPTY_LIST)] 1)) _
  refine OGot.go (fun t k => castTop (ef11 m w_EMPTY_LIST) k) ?_
  show OGot p.tables e below (s₁.setTop (mkF m 0 #[.val (.ref w_EMPTY_LIST)] [])) _
  refine OGot.go (fun t k => XS.aloadN X0.here hx rfl (hb hby d11_0) rfl rfl k) ?_
  obtain ⟨T2, X2, e2, st2⟩ := getF X0 hx hZ hown (host := "") (Or.inl (ow hw 77 rfl)) Via.refl e0 (G.2.2.2.2.2.2.2.1.ext O0.2) (g := (mkF m 1 #[.val (.ref w_EMPTY_LIST)] [(.ref w_EMPTY_LIST)])) rfl rfl (hb hby d11_1)
  refine OGot.go st2 ?_
  obtain ⟨cl3, Ar3, -, Sz3, Ng3, -, -⟩ := id ((G.2.2.2.2.2.2.2.2.2.2.2.2.2.1.ext O0.2))
  refine OGot.go (fun t k => X2.arraylength hx (by rw [e2]; exact Ar3.1) (State.isArrayOf_alike hZ.alike Ar3.2.1) (g := (mkF m 4 #[.val (.ref w_EMPTY_LIST)] [(.ref w_EMPTY_LIST_elements)])) rfl rfl (hb hby d11_4) _ k) ?_
  rw [len_of Sz3 Ng3]
  show OGot p.tables e below (T2.setTop (mkF m 5 #[.val (.ref w_EMPTY_LIST)] [(.int (0 : Int32))])) _
  obtain ⟨fs, hr, hrun, hended, hW, hsame⟩ := X2.leave (v := some (.int (0 : Int32))) (fun h => by rw [Bd.returns] at h; cases h)
  refine ⟨_, _, retI X2 hx Bd.returns (hb hby d11_5) hr, hrun, hended, _, _, rfl, ?_, ⟨_, rfl⟩, hW, hsame.mono (by decide) (by decide)⟩
  exact (⟨rfl, N0, e2⟩ : Q11 Z m_OA w_EMPTY_ELEMENTDATA w_DEFAULTCAPACITY_EMPTY_ELEMENTDATA w_EMPTY_LIST w_EMPTY_LIST_elements w_EMPTY k_w_EMPTY_ELEMENTDATA k_w_DEFAULTCAPACITY_EMPTY_ELEMENTDATA k_w_EMPTY_LIST_elements  h0 n0 _ T2.heap _)
theorem pd_4 : parseMethodDescriptor "()I" = some ⟨[], some .int⟩ := by decide +kernel
theorem d5_18 : decode prog_14_method_1_code 18 = .ok (.if_icmp .ge 57, 3) := by decide +kernel
theorem d5_75 : decode prog_14_method_1_code 75 = .ok (.aload_n 0, 1) := by decide +kernel
theorem d5_76 : decode prog_14_method_1_code 76 = .ok (.aload_n 1, 1) := by decide +kernel
theorem d5_77 : decode prog_14_method_1_code 77 = .ok (.putfield 41, 3) := by decide +kernel
theorem d5_80 : decode prog_14_method_1_code 80 = .ok (.return_, 1) := by decide +kernel
theorem pn_com_example_curtail_curtail_Placement : plainName "com/example/curtail/curtail/Placement" = true := by first | (simp [plainName, overriddenIn]; done) | decide +kernel
def Q5 (Z : State) (m_OA : Addr) (w_EMPTY_ELEMENTDATA : Addr) (w_DEFAULTCAPACITY_EMPTY_ELEMENTDATA : Addr) (w_EMPTY_LIST : Addr) (w_EMPTY_LIST_elements : Addr) (w_EMPTY : Addr) (k_w_EMPTY_ELEMENTDATA : ClassId) (k_w_DEFAULTCAPACITY_EMPTY_ELEMENTDATA : ClassId) (k_w_EMPTY_LIST_elements : ClassId) (a1 : Addr) (a2 : Addr) (h0 : Heap) (n0 : Nat) (v : Option Value) (h : Heap) (L : List Loc) : Prop := Fr n0 L ∧ v = none ∧ OKeep h0 h [(a1, Jvm.RoadKit.slotOf Z "com/example/curtail/curtail/Placement" "aCells" "Ljava/util/List;")] ∧ Fld Z h a1 "com/example/curtail/curtail/Placement" "aCells" "Ljava/util/List;" (.ref w_EMPTY_LIST)
theorem ef5 (m : MethodId) (x0 : Addr) (x1 : Addr) : entryFrame m #[(.ref x0), (.ref x1)] 3 = mkF m 0 #[.val (.ref x0), .val (.ref x1), .unset] [] := by first | (simp [entryFrame, mkF, argsToLocals, Value.category]; done) | rfl
set_option maxRecDepth 65536 in
set_option maxHeartbeats 40000000 in
theorem rm5 (l : Launch) (Z : State) (a0 : Array Value) (hw : ∀ d ∈ tables_1, d.before a0 Z = true) (ws : List Jvm.Cond) {m_OA : Addr} {w_EMPTY_ELEMENTDATA : Addr} {w_DEFAULTCAPACITY_EMPTY_ELEMENTDATA : Addr} {w_EMPTY_LIST : Addr} {w_EMPTY_LIST_elements : Addr} {w_EMPTY : Addr} {k_w_EMPTY_ELEMENTDATA : ClassId} {k_w_DEFAULTCAPACITY_EMPTY_ELEMENTDATA : ClassId} {k_w_EMPTY_LIST_elements : ClassId} (G : Glob Z m_OA w_EMPTY_ELEMENTDATA w_DEFAULTCAPACITY_EMPTY_ELEMENTDATA w_EMPTY_LIST w_EMPTY_LIST_elements w_EMPTY k_w_EMPTY_ELEMENTDATA k_w_DEFAULTCAPACITY_EMPTY_ELEMENTDATA k_w_EMPTY_LIST_elements) (a1 : Addr) (a2 : Addr) (h0 : Heap) (n0 : Nat) (O0 : Old Z n0 h0) (E_a2 : Exa Z h0 a2 "java/util/ArrayList") (F_size_a2 : Fld Z h0 a2 "java/util/ArrayList" "size" "I" (.int (0 : Int32))) (E_a1 : Exa Z h0 a1 "com/example/curtail/curtail/Placement") (F_aCells_a1 : Fld Z h0 a1 "com/example/curtail/curtail/Placement" "aCells" "Ljava/util/List;" .null) (g_a1 : n0 ≤ a1) :
    MetFree l (⟨"com/example/curtail/curtail/Placement", "<init>", "(Ljava/util/List;)V"⟩ : MethodName) (head1 (Jvm.Cond.code (⟨"com/example/curtail/curtail/Placement", "<init>", "(Ljava/util/List;)V"⟩ : MethodName) prog_14_method_1_code 3 none :: ws) ({ frames := 3, cells := 0, slots := 0, locals := 37 } : Room)) (fun a U => a = #[(.ref a1), (.ref a2)] ∧ Z.Warmed39 U.vm ∧ U.heap = h0) (fun _ _ _ _ _ => True) (fun _ U o U' => ∃ v L, o = .returned v ∧ Q5 Z m_OA w_EMPTY_ELEMENTDATA w_DEFAULTCAPACITY_EMPTY_ELEMENTDATA w_EMPTY_LIST w_EMPTY_LIST_elements w_EMPTY k_w_EMPTY_ELEMENTDATA k_w_DEFAULTCAPACITY_EMPTY_ELEMENTDATA k_w_EMPTY_LIST_elements a1 a2 h0 n0 v U'.heap L ∧ FrameEnd U o U' L ({ frames := 3, cells := 0, slots := 0, locals := 37 } : Room).cells ({ frames := 3, cells := 0, slots := 0, locals := 37 } : Room).slots) := by
  refine MetFree.of_bodySF (plainFor_of_name pn_com_example_curtail_curtail_Placement) hisR ?_
  intro p e s m args below meth c s₁ Bd hml0 hP hK
  obtain ⟨rfl, hZ, hh⟩ := hP
  have hx := Bd.exec
  have hby := Bd.bytes
  have hml : c.maxLocals = 3 := hml0
  have hown : s.vm.findClass "com/example/curtail/curtail/Placement" = some m.cls := findClass_of_methodNamed Bd.named
  have hnm := (name_of_methodNamed Bd.named Bd.method).1
  have X0 : Stand p l e ({ frames := 3, cells := 0, slots := 0, locals := 37 } : Room) s m #[(.ref a1), (.ref a2)] below meth c s₁ [] 0 0 := Stand.of_body Bd
  have e0 : s₁.heap = h0 := by rw [← hh, Bd.state]; rfl
  have N0 := Fr.nil n0
  show OGot p.tables e below (s₁.setTop (entryFrame m #[(.ref a1), (.ref a2)] 3)) _
  refine OGot.go (fun t k => castTop (ef5 m a1 a2) k) ?_
  show OGot p.tables e below (s₁.setTop (mkF m 0 #[.val (.ref a1), .val (.ref a2), .unset] [])) _
  refine OGot.go (fun t k => XS.aloadN X0.here hx rfl (hb hby d5_0) rfl rfl k) ?_
  obtain ⟨_, _, ⟨T3, L3, k3, n3⟩, -, X3, ⟨Lc3, hQ3, l3, y3, z3⟩, st3⟩ := X0.specialBack hx (y := (⟨"java/lang/Record", "<init>", "()V"⟩ : MethodName)) rfl hown (mvT hZ (ow hw 32 rfl)) (mvT hZ (ow hw 33 rfl)) (mvT hZ (ow hw 36 rfl)) (by decide) (backOf (W := 0) (rm6 l Z a0 hw [] G a1 h0 n0 O0 ) hZ (ow hw 36 rfl) (ow hw 35 rfl) (by decide) (by decide)) (g := (mkF m 1 #[.val (.ref a1), .val (.ref a2), .unset] [(.ref a1)])) rfl (by rw [hml]; rfl) (Steps.refl _) (a := a1) (argsL := []) (rest := []) (lenOf pd_0 rfl) rfl (by show 2 * 0 + _ ≤ _; exact Nat.le_of_eq rfl) (hb hby d5_1) (fun _ _ => ⟨rfl, e0, (by decide : 0 + 0 ≤ _), (by decide : 0 + 0 ≤ _)⟩)
  dsimp only [Pt.U, Pt.locs, Pt.cells, Pt.slots] at X3 l3 y3 z3 st3 hQ3
  subst l3 y3 z3
  obtain ⟨rfl, N3q, e3⟩ := hQ3
  have N3 := Fr.app N0 N3q
  refine OGot.on st3 ?_
  refine OGot.go (fun t k => XS.aloadN X3.here hx rfl (hb hby d5_4) rfl rfl k) ?_
  obtain ⟨_, _, ⟨T4, L4, k4, n4⟩, -, X4, ⟨Lc4, hQ4, l4, y4, z4⟩, st4⟩ := Jvm.LawKit.callS X3 hx (y := (⟨"java/util/List", "copyOf", "(Ljava/util/Collection;)Ljava/util/List;"⟩ : MethodName)) hown (mvT hZ (ow hw 38 rfl)) (mvT hZ (ow hw 39 rfl)) (mvT hZ (ow hw 40 rfl)) (mvT hZ (ow hw 41 rfl)) (by decide) (backOf (W := 0) (rm7 l Z a0 hw [] G a2 h0 n0 O0 E_a2 F_size_a2) hZ (ow hw 41 rfl) (ow hw 40 rfl) (by decide) (by decide)) (g := (mkF m 5 #[.val (.ref a1), .val (.ref a2), .unset] [(.ref a2)])) rfl (by rw [hml]; rfl) (argsL := [(.ref a2)]) (rest := []) (lenOf pd_3 rfl) rfl (by show 2 * 0 + _ ≤ _; exact Nat.le_of_eq rfl) (hb hby d5_5) (fun _ _ => ⟨rfl, e3, (by decide : 0 + 0 ≤ _), (by decide : 0 + 0 ≤ _)⟩)
  dsimp only [Pt.U, Pt.locs, Pt.cells, Pt.slots] at X4 l4 y4 z4 st4 hQ4
  subst l4 y4 z4
  obtain ⟨rfl, N4q, e4⟩ := hQ4
  have N4 := Fr.app N3 N4q
  refine OGot.go st4 ?_
  refine OGot.go (fun t k => XS.astoreN X4.here hx rfl (hb hby d5_8) rfl rfl (l' := #[.val (.ref a1), .val (.ref w_EMPTY_LIST), .unset]) rfl k) ?_
  show OGot p.tables e below (T4.setTop (mkF m 9 #[.val (.ref a1), .val (.ref w_EMPTY_LIST), .unset] [])) _
  refine OGot.go (fun t k => XS.iconst X4.here hx rfl (hb hby d5_9) k) ?_
  refine OGot.go (fun t k => XS.istoreN X4.here hx rfl (hb hby d5_10) rfl (l' := #[.val (.ref a1), .val (.ref w_EMPTY_LIST), .val (.int (1 : Int32))]) rfl k) ?_
  refine OGot.go (fun t k => XS.iloadN X4.here hx rfl (hb hby d5_11) rfl k) ?_
  refine OGot.go (fun t k => XS.aloadN X4.here hx rfl (hb hby d5_12) rfl rfl k) ?_
  obtain ⟨cq5, kq5, q5a, q5b, q5c⟩ := isOf hZ e4 (G.2.2.2.2.2.2.1.ext O0.2)
  obtain ⟨_, _, ⟨T5, L5, k5, n5⟩, -, X5, ⟨Lc5, hQ5, l5, y5, z5⟩, st5⟩ := X4.interfaceBack hx (xi := (⟨"java/util/List", "size", "()I"⟩ : MethodName)) (y := (⟨"java/util/ImmutableCollections$ListN", "size", "()I"⟩ : MethodName)) hown (mvT hZ (ow hw 67 rfl)) (mvT hZ (ow hw 68 rfl)) (mvT hZ (ow hw 69 rfl)) (mvT hZ (ow hw 70 rfl)) (mvT hZ (ow hw 71 rfl)) (mvT hZ (ow hw 72 rfl)) (mvT hZ (ow hw 73 rfl)) (mvT hZ (ow hw 74 rfl)) (by decide) (backOf (W := 1) (rm11 l Z a0 hw [] G  h0 n0 O0 ) hZ (ow hw 76 rfl) (ow hw 75 rfl) (by decide) (by decide)) q5a q5b q5c (g := (mkF m 13 #[.val (.ref a1), .val (.ref w_EMPTY_LIST), .val (.int (1 : Int32))] [(.ref w_EMPTY_LIST), (.int (1 : Int32))])) rfl (by rw [hml]; rfl) (Steps.refl _) (argsL := []) (rest := [(.int (1 : Int32))]) (lenOf pd_4 rfl) rfl (by show 2 * 0 + _ ≤ _; exact Nat.le_of_eq rfl) (hb hby d5_13) (fun _ _ => ⟨rfl, e4, (by decide : 0 + 0 ≤ _), (by decide : 0 + 0 ≤ _)⟩)
  dsimp only [Pt.U, Pt.locs, Pt.cells, Pt.slots] at X5 l5 y5 z5 st5 hQ5
  subst l5 y5 z5
  obtain ⟨rfl, N5q, e5⟩ := hQ5
  have N5 := Fr.app N4 N5q
  refine OGot.on st5 ?_
  show OGot p.tables e below (T5.setTop (mkF m 18 #[.val (.ref a1), .val (.ref w_EMPTY_LIST), .val (.int (1 : Int32))] [(.int (0 : Int32)), (.int (1 : Int32))])) _
  refine OGot.go (fun t k => XS.icmpYes X5.here hx rfl (pc0 := 18) (pc' := 75) rfl (hb hby d5_18) rfl (by decide) (by decide) (by decide) k) ?_
  refine OGot.go (fun t k => XS.aloadN X5.here hx rfl (hb hby d5_75) rfl rfl k) ?_
  refine OGot.go (fun t k => XS.aloadN X5.here hx rfl (hb hby d5_76) rfl rfl k) ?_
  obtain ⟨T6, h6, X6, e6, W6, st6⟩ := putF X5 hx hZ hown (host := "") (Or.inl (ow hw 79 rfl)) Via.refl e5 F_aCells_a1 E_a1 (Or.inr ⟨(ow hw 80 rfl), rfl, hnm⟩) (ow hw 1 rfl) (ty := (.object "java/util/List")) (by decide) rfl rfl (g := (mkF m 77 #[.val (.ref a1), .val (.ref w_EMPTY_LIST), .val (.int (1 : Int32))] [(.ref w_EMPTY_LIST), (.ref a1)])) rfl rfl (hb hby d5_77)
  refine OGot.go st6 ?_
  have N6 := Fr.snoc X6 N5 g_a1
  have O6 := O0.wr W6 g_a1
  have K6 := (OKeep.refl h0 [(a1, Jvm.RoadKit.slotOf Z "com/example/curtail/curtail/Placement" "aCells" "Ljava/util/List;")]).wr W6 (Or.inl (List.mem_of_getElem? (i := 0) rfl))
  have Fw6 : Fld Z h6 a1 "com/example/curtail/curtail/Placement" "aCells" "Ljava/util/List;" (.ref w_EMPTY_LIST) := F_aCells_a1.same W6
  show OGot p.tables e below (T6.setTop (mkF m 80 #[.val (.ref a1), .val (.ref w_EMPTY_LIST), .val (.int (1 : Int32))] [])) _
  obtain ⟨fs, hr, hrun, hended, hW, hsame⟩ := X6.leave (v := none) (fun _ => rfl)
  refine ⟨_, _, X6.returnOut hx Bd.returns (hb hby d5_80) hr, hrun, hended, _, _, rfl, ?_, ⟨_, rfl⟩, hW, hsame.mono (by decide) (by decide)⟩
  show Q5 Z m_OA w_EMPTY_ELEMENTDATA w_DEFAULTCAPACITY_EMPTY_ELEMENTDATA w_EMPTY_LIST w_EMPTY_LIST_elements w_EMPTY k_w_EMPTY_ELEMENTDATA k_w_DEFAULTCAPACITY_EMPTY_ELEMENTDATA k_w_EMPTY_LIST_elements a1 a2 h0 n0 _ T6.heap _
  rw [e6]
  exact ⟨N6, rfl, K6, Fw6⟩
theorem pd_5 : parseMethodDescriptor "(Ljava/util/List;)V" = some ⟨[(.object "java/util/List")], none⟩ := by decide +kernel
theorem d12_0 : decode prog_14_method_2_code 0 = .ok (.aload_n 0, 1) := by decide +kernel
theorem d12_1 : decode prog_14_method_2_code 1 = .ok (.getfield 41, 3) := by decide +kernel
theorem d12_4 : decode prog_14_method_2_code 4 = .ok (.invokeinterface 47 1, 5) := by decide +kernel
theorem d13_0 : decode jdk_45_method_2_code 0 = .ok (.aload_n 0, 1) := by decide +kernel
theorem d13_1 : decode jdk_45_method_2_code 1 = .ok (.getfield 7, 3) := by decide +kernel
theorem d13_4 : decode jdk_45_method_2_code 4 = .ok (.arraylength, 1) := by decide +kernel
theorem d13_5 : decode jdk_45_method_2_code 5 = .ok (.ifCond .ne 7, 3) := by decide +kernel
theorem d13_8 : decode jdk_45_method_2_code 8 = .ok (.iconst 1, 1) := by decide +kernel
theorem d13_9 : decode jdk_45_method_2_code 9 = .ok (.goto 4, 3) := by decide +kernel
theorem d13_13 : decode jdk_45_method_2_code 13 = .ok (.ireturn, 1) := by decide +kernel
def Q13 (Z : State) (m_OA : Addr) (w_EMPTY_ELEMENTDATA : Addr) (w_DEFAULTCAPACITY_EMPTY_ELEMENTDATA : Addr) (w_EMPTY_LIST : Addr) (w_EMPTY_LIST_elements : Addr) (w_EMPTY : Addr) (k_w_EMPTY_ELEMENTDATA : ClassId) (k_w_DEFAULTCAPACITY_EMPTY_ELEMENTDATA : ClassId) (k_w_EMPTY_LIST_elements : ClassId) (a1 : Addr) (a2 : Addr) (k4 : ClassId) (h0 : Heap) (n0 : Nat) (v : Option Value) (h : Heap) (L : List Loc) : Prop := v = some (.int (1 : Int32)) ∧ Fr n0 L ∧ h = h0
theorem ef13 (m : MethodId) (x0 : Addr) : entryFrame m #[(.ref x0)] 1 = mkF m 0 #[.val (.ref x0)] [] := by first | (simp [entryFrame, mkF, argsToLocals, Value.category]; done) | rfl
set_option maxRecDepth 65536 in
set_option maxHeartbeats 40000000 in
theorem rm13 (l : Launch) (Z : State) (a0 : Array Value) (hw : ∀ d ∈ tables_1, d.before a0 Z = true) (ws : List Jvm.Cond) {m_OA : Addr} {w_EMPTY_ELEMENTDATA : Addr} {w_DEFAULTCAPACITY_EMPTY_ELEMENTDATA : Addr} {w_EMPTY_LIST : Addr} {w_EMPTY_LIST_elements : Addr} {w_EMPTY : Addr} {k_w_EMPTY_ELEMENTDATA : ClassId} {k_w_DEFAULTCAPACITY_EMPTY_ELEMENTDATA : ClassId} {k_w_EMPTY_LIST_elements : ClassId} (G : Glob Z m_OA w_EMPTY_ELEMENTDATA w_DEFAULTCAPACITY_EMPTY_ELEMENTDATA w_EMPTY_LIST w_EMPTY_LIST_elements w_EMPTY k_w_EMPTY_ELEMENTDATA k_w_DEFAULTCAPACITY_EMPTY_ELEMENTDATA k_w_EMPTY_LIST_elements) (a1 : Addr) (a2 : Addr) (k4 : ClassId) (h0 : Heap) (n0 : Nat) (O0 : Old Z n0 h0) (F_elements_a1 : Fld Z h0 a1 "java/util/ImmutableCollections$ListN" "elements" "[Ljava/lang/Object;" (.ref a2)) (V_a2 : Arv Z h0 a2 k4 (.object "java/lang/Object") (0 : Int32) [] .null) :
    MetFree l (⟨"java/util/ImmutableCollections$ListN", "isEmpty", "()Z"⟩ : MethodName) (head1 (Jvm.Cond.code (⟨"java/util/ImmutableCollections$ListN", "isEmpty", "()Z"⟩ : MethodName) jdk_45_method_2_code 1 (some .boolean) :: ws) ({ frames := 0, cells := 0, slots := 0, locals := 0 } : Room)) (fun a U => a = #[(.ref a1)] ∧ Z.Warmed39 U.vm ∧ U.heap = h0) (fun _ _ _ _ _ => True) (fun _ U o U' => ∃ v L, o = .returned v ∧ Q13 Z m_OA w_EMPTY_ELEMENTDATA w_DEFAULTCAPACITY_EMPTY_ELEMENTDATA w_EMPTY_LIST w_EMPTY_LIST_elements w_EMPTY k_w_EMPTY_ELEMENTDATA k_w_DEFAULTCAPACITY_EMPTY_ELEMENTDATA k_w_EMPTY_LIST_elements a1 a2 k4 h0 n0 v U'.heap L ∧ FrameEnd U o U' L ({ frames := 0, cells := 0, slots := 0, locals := 0 } : Room).cells ({ frames := 0, cells := 0, slots := 0, locals := 0 } : Room).slots) := by
  refine MetFree.of_bodySF (plainFor_of_name pn_java_util_ImmutableCollections_ListN) hisR ?_
  intro p e s m args below meth c s₁ Bd hml0 hP hK
  obtain ⟨rfl, hZ, hh⟩ := hP
  have hx := Bd.exec
  have hby := Bd.bytes
  have hml : c.maxLocals = 1 := hml0
  have hown : s.vm.findClass "java/util/ImmutableCollections$ListN" = some m.cls := findClass_of_methodNamed Bd.named
  have hnm := (name_of_methodNamed Bd.named Bd.method).1
  have X0 : Stand p l e ({ frames := 0, cells := 0, slots := 0, locals := 0 } : Room) s m #[(.ref a1)] below meth c s₁ [] 0 0 := Stand.of_body Bd
  have e0 : s₁.heap = h0 := by rw [← hh, Bd.state]; rfl
  have N0 := Fr.nil n0
  show OGot p.tables e below (s₁.setTop (entryFrame m #[(.ref a1)] 1)) _
  refine OGot.go (fun t k => castTop (ef13 m a1) k) ?_
  show OGot p.tables e below (s₁.setTop (mkF m 0 #[.val (.ref a1)] [])) _
  refine OGot.go (fun t k => XS.aloadN X0.here hx rfl (hb hby d13_0) rfl rfl k) ?_
  obtain ⟨T3, X3, e3, st3⟩ := getF X0 hx hZ hown (host := "") (Or.inl (ow hw 77 rfl)) Via.refl e0 F_elements_a1 (g := (mkF m 1 #[.val (.ref a1)] [(.ref a1)])) rfl rfl (hb hby d13_1)
  refine OGot.go st3 ?_
  obtain ⟨cl5, Ar5, -, Sz5, Ng5, -, -⟩ := id (V_a2)
  refine OGot.go (fun t k => X3.arraylength hx (by rw [e3]; exact Ar5.1) (State.isArrayOf_alike hZ.alike Ar5.2.1) (g := (mkF m 4 #[.val (.ref a1)] [(.ref a2)])) rfl rfl (hb hby d13_4) _ k) ?_
  rw [len_of Sz5 Ng5]
  refine OGot.go (fun t k => XS.ifNo X3.here hx rfl (hb hby d13_5) rfl (by decide) k) ?_
  refine OGot.go (fun t k => XS.iconst X3.here hx rfl (hb hby d13_8) k) ?_
  show OGot p.tables e below (T3.setTop (mkF m 9 #[.val (.ref a1)] [(.int (1 : Int32))])) _
  refine OGot.go (fun t k => XS.goto X3.here hx rfl (pc0 := 9) (pc' := 13) rfl (hb hby d13_9) (by decide) (by decide) k) ?_
  show OGot p.tables e below (T3.setTop (mkF m 13 #[.val (.ref a1)] [(.int (1 : Int32))])) _
  obtain ⟨fs, hr, hrun, hended, hW, hsame⟩ := X3.leave (v := some (.int (1 : Int32))) (fun h => by rw [Bd.returns] at h; cases h)
  refine ⟨_, _, retN X3 hx (t := .boolean) Bd.returns (by simp) (hb hby d13_13) hr, hrun, hended, _, _, rfl, ?_, ⟨_, rfl⟩, hW, hsame.mono (by decide) (by decide)⟩
  exact (⟨rfl, N0, e3⟩ : Q13 Z m_OA w_EMPTY_ELEMENTDATA w_DEFAULTCAPACITY_EMPTY_ELEMENTDATA w_EMPTY_LIST w_EMPTY_LIST_elements w_EMPTY k_w_EMPTY_ELEMENTDATA k_w_DEFAULTCAPACITY_EMPTY_ELEMENTDATA k_w_EMPTY_LIST_elements a1 a2 k4 h0 n0 _ T3.heap _)
theorem d12_9 : decode prog_14_method_2_code 9 = .ok (.ifCond .ne 7, 3) := by decide +kernel
theorem d12_16 : decode prog_14_method_2_code 16 = .ok (.iconst 0, 1) := by decide +kernel
theorem d12_17 : decode prog_14_method_2_code 17 = .ok (.ireturn, 1) := by decide +kernel
def Q12 (Z : State) (m_OA : Addr) (w_EMPTY_ELEMENTDATA : Addr) (w_DEFAULTCAPACITY_EMPTY_ELEMENTDATA : Addr) (w_EMPTY_LIST : Addr) (w_EMPTY_LIST_elements : Addr) (w_EMPTY : Addr) (k_w_EMPTY_ELEMENTDATA : ClassId) (k_w_DEFAULTCAPACITY_EMPTY_ELEMENTDATA : ClassId) (k_w_EMPTY_LIST_elements : ClassId) (a1 : Addr) (a2 : Addr) (a4 : Addr) (k5 : ClassId) (h0 : Heap) (n0 : Nat) (v : Option Value) (h : Heap) (L : List Loc) : Prop := v = some (.int (0 : Int32)) ∧ Fr n0 L ∧ h = h0
theorem ef12 (m : MethodId) (x0 : Addr) : entryFrame m #[(.ref x0)] 1 = mkF m 0 #[.val (.ref x0)] [] := by first | (simp [entryFrame, mkF, argsToLocals, Value.category]; done) | rfl
set_option maxRecDepth 65536 in
set_option maxHeartbeats 40000000 in
theorem rm12 (l : Launch) (Z : State) (a0 : Array Value) (hw : ∀ d ∈ tables_1, d.before a0 Z = true) (ws : List Jvm.Cond) {m_OA : Addr} {w_EMPTY_ELEMENTDATA : Addr} {w_DEFAULTCAPACITY_EMPTY_ELEMENTDATA : Addr} {w_EMPTY_LIST : Addr} {w_EMPTY_LIST_elements : Addr} {w_EMPTY : Addr} {k_w_EMPTY_ELEMENTDATA : ClassId} {k_w_DEFAULTCAPACITY_EMPTY_ELEMENTDATA : ClassId} {k_w_EMPTY_LIST_elements : ClassId} (G : Glob Z m_OA w_EMPTY_ELEMENTDATA w_DEFAULTCAPACITY_EMPTY_ELEMENTDATA w_EMPTY_LIST w_EMPTY_LIST_elements w_EMPTY k_w_EMPTY_ELEMENTDATA k_w_DEFAULTCAPACITY_EMPTY_ELEMENTDATA k_w_EMPTY_LIST_elements) (a1 : Addr) (a2 : Addr) (a4 : Addr) (k5 : ClassId) (h0 : Heap) (n0 : Nat) (O0 : Old Z n0 h0) (F_aCells_a1 : Fld Z h0 a1 "com/example/curtail/curtail/Placement" "aCells" "Ljava/util/List;" (.ref a2)) (E_a2 : Exa Z h0 a2 "java/util/ImmutableCollections$ListN") (F_elements_a2 : Fld Z h0 a2 "java/util/ImmutableCollections$ListN" "elements" "[Ljava/lang/Object;" (.ref a4)) (V_a4 : Arv Z h0 a4 k5 (.object "java/lang/Object") (0 : Int32) [] .null) :
    MetFree l (⟨"com/example/curtail/curtail/Placement", "isAccepted", "()Z"⟩ : MethodName) (head1 (Jvm.Cond.code (⟨"com/example/curtail/curtail/Placement", "isAccepted", "()Z"⟩ : MethodName) prog_14_method_2_code 1 (some .boolean) :: ws) ({ frames := 1, cells := 0, slots := 0, locals := 12 } : Room)) (fun a U => a = #[(.ref a1)] ∧ Z.Warmed39 U.vm ∧ U.heap = h0) (fun _ _ _ _ _ => True) (fun _ U o U' => ∃ v L, o = .returned v ∧ Q12 Z m_OA w_EMPTY_ELEMENTDATA w_DEFAULTCAPACITY_EMPTY_ELEMENTDATA w_EMPTY_LIST w_EMPTY_LIST_elements w_EMPTY k_w_EMPTY_ELEMENTDATA k_w_DEFAULTCAPACITY_EMPTY_ELEMENTDATA k_w_EMPTY_LIST_elements a1 a2 a4 k5 h0 n0 v U'.heap L ∧ FrameEnd U o U' L ({ frames := 1, cells := 0, slots := 0, locals := 12 } : Room).cells ({ frames := 1, cells := 0, slots := 0, locals := 12 } : Room).slots) := by
  refine MetFree.of_bodySF (plainFor_of_name pn_com_example_curtail_curtail_Placement) hisR ?_
  intro p e s m args below meth c s₁ Bd hml0 hP hK
  obtain ⟨rfl, hZ, hh⟩ := hP
  have hx := Bd.exec
  have hby := Bd.bytes
  have hml : c.maxLocals = 1 := hml0
  have hown : s.vm.findClass "com/example/curtail/curtail/Placement" = some m.cls := findClass_of_methodNamed Bd.named
  have hnm := (name_of_methodNamed Bd.named Bd.method).1
  have X0 : Stand p l e ({ frames := 1, cells := 0, slots := 0, locals := 12 } : Room) s m #[(.ref a1)] below meth c s₁ [] 0 0 := Stand.of_body Bd
  have e0 : s₁.heap = h0 := by rw [← hh, Bd.state]; rfl
  have N0 := Fr.nil n0
  show OGot p.tables e below (s₁.setTop (entryFrame m #[(.ref a1)] 1)) _
  refine OGot.go (fun t k => castTop (ef12 m a1) k) ?_
  show OGot p.tables e below (s₁.setTop (mkF m 0 #[.val (.ref a1)] [])) _
  refine OGot.go (fun t k => XS.aloadN X0.here hx rfl (hb hby d12_0) rfl rfl k) ?_
  obtain ⟨T3, X3, e3, st3⟩ := getF X0 hx hZ hown (host := "") (Or.inl (ow hw 79 rfl)) Via.refl e0 F_aCells_a1 (g := (mkF m 1 #[.val (.ref a1)] [(.ref a1)])) rfl rfl (hb hby d12_1)
  refine OGot.go st3 ?_
  obtain ⟨cq6, kq6, q6a, q6b, q6c⟩ := isOf hZ e3 E_a2
  obtain ⟨_, _, ⟨T6, L6, k6, n6⟩, -, X6, ⟨Lc6, hQ6, l6, y6, z6⟩, st6⟩ := X3.interfaceBack hx (xi := (⟨"java/util/List", "isEmpty", "()Z"⟩ : MethodName)) (y := (⟨"java/util/ImmutableCollections$ListN", "isEmpty", "()Z"⟩ : MethodName)) hown (mvT hZ (ow hw 86 rfl)) (mvT hZ (ow hw 87 rfl)) (mvT hZ (ow hw 88 rfl)) (mvT hZ (ow hw 89 rfl)) (mvT hZ (ow hw 90 rfl)) (mvT hZ (ow hw 91 rfl)) (mvT hZ (ow hw 92 rfl)) (mvT hZ (ow hw 74 rfl)) (by decide) (backOf (W := 0) (rm13 l Z a0 hw [] G a2 a4 k5 h0 n0 O0 F_elements_a2 V_a4) hZ (ow hw 93 rfl) (ow hw 75 rfl) (by decide) (by decide)) q6a q6b q6c (g := (mkF m 4 #[.val (.ref a1)] [(.ref a2)])) rfl (by rw [hml]; rfl) (Steps.refl _) (argsL := []) (rest := []) (lenOf pd_1 rfl) rfl (by show 2 * 0 + _ ≤ _; exact Nat.le_of_eq rfl) (hb hby d12_4) (fun _ _ => ⟨rfl, e3, (by decide : 0 + 0 ≤ _), (by decide : 0 + 0 ≤ _)⟩)
  dsimp only [Pt.U, Pt.locs, Pt.cells, Pt.slots] at X6 l6 y6 z6 st6 hQ6
  subst l6 y6 z6
  obtain ⟨rfl, N6q, e6⟩ := hQ6
  have N6 := Fr.app N0 N6q
  refine OGot.on st6 ?_
  refine OGot.go (fun t k => XS.ifYes X6.here hx rfl (pc0 := 9) (pc' := 16) rfl (hb hby d12_9) rfl (by decide) (by decide) (by decide) k) ?_
  refine OGot.go (fun t k => XS.iconst X6.here hx rfl (hb hby d12_16) k) ?_
  show OGot p.tables e below (T6.setTop (mkF m 17 #[.val (.ref a1)] [(.int (0 : Int32))])) _
  obtain ⟨fs, hr, hrun, hended, hW, hsame⟩ := X6.leave (v := some (.int (0 : Int32))) (fun h => by rw [Bd.returns] at h; cases h)
  refine ⟨_, _, retN X6 hx (t := .boolean) Bd.returns (by simp) (hb hby d12_17) hr, hrun, hended, _, _, rfl, ?_, ⟨_, rfl⟩, hW, hsame.mono (by decide) (by decide)⟩
  exact (⟨rfl, N6, e6⟩ : Q12 Z m_OA w_EMPTY_ELEMENTDATA w_DEFAULTCAPACITY_EMPTY_ELEMENTDATA w_EMPTY_LIST w_EMPTY_LIST_elements w_EMPTY k_w_EMPTY_ELEMENTDATA k_w_DEFAULTCAPACITY_EMPTY_ELEMENTDATA k_w_EMPTY_LIST_elements a1 a2 a4 k5 h0 n0 _ T6.heap _)
theorem d14_0 : decode prog_15_method_1_code 0 = .ok (.aload_n 0, 1) := by decide +kernel
theorem d14_1 : decode prog_15_method_1_code 1 = .ok (.invokespecial 1, 3) := by decide +kernel
theorem d14_4 : decode prog_15_method_1_code 4 = .ok (.aload_n 0, 1) := by decide +kernel
theorem d14_5 : decode prog_15_method_1_code 5 = .ok (.iload_n 1, 1) := by decide +kernel
theorem d14_6 : decode prog_15_method_1_code 6 = .ok (.putfield 7, 3) := by decide +kernel
theorem d14_9 : decode prog_15_method_1_code 9 = .ok (.aload_n 0, 1) := by decide +kernel
theorem d14_10 : decode prog_15_method_1_code 10 = .ok (.iload_n 2, 1) := by decide +kernel
theorem d14_11 : decode prog_15_method_1_code 11 = .ok (.putfield 13, 3) := by decide +kernel
theorem d14_14 : decode prog_15_method_1_code 14 = .ok (.return_, 1) := by decide +kernel
theorem pn_com_example_curtail_curtail_Placement_Cell : plainName "com/example/curtail/curtail/Placement$Cell" = true := by first | (simp [plainName, overriddenIn]; done) | decide +kernel
def Q14 (Z : State) (m_OA : Addr) (w_EMPTY_ELEMENTDATA : Addr) (w_DEFAULTCAPACITY_EMPTY_ELEMENTDATA : Addr) (w_EMPTY_LIST : Addr) (w_EMPTY_LIST_elements : Addr) (w_EMPTY : Addr) (k_w_EMPTY_ELEMENTDATA : ClassId) (k_w_DEFAULTCAPACITY_EMPTY_ELEMENTDATA : ClassId) (k_w_EMPTY_LIST_elements : ClassId) (a1 : Addr) (p2 : Int32) (p3 : Int32) (h0 : Heap) (n0 : Nat) (v : Option Value) (h : Heap) (L : List Loc) : Prop := Fr n0 L ∧ v = none ∧ OKeep h0 h [(a1, Jvm.RoadKit.slotOf Z "com/example/curtail/curtail/Placement$Cell" "nSlot" "I"), (a1, Jvm.RoadKit.slotOf Z "com/example/curtail/curtail/Placement$Cell" "nCloudlet" "I")] ∧ Fld Z h a1 "com/example/curtail/curtail/Placement$Cell" "nSlot" "I" (.int p2) ∧ Fld Z h a1 "com/example/curtail/curtail/Placement$Cell" "nCloudlet" "I" (.int p3)
theorem ef14 (m : MethodId) (x0 : Addr) (x1 : Int32) (x2 : Int32) : entryFrame m #[(.ref x0), (.int x1), (.int x2)] 3 = mkF m 0 #[.val (.ref x0), .val (.int x1), .val (.int x2)] [] := by first | (simp [entryFrame, mkF, argsToLocals, Value.category]; done) | rfl
set_option maxRecDepth 65536 in
set_option maxHeartbeats 40000000 in
theorem rm14 (l : Launch) (Z : State) (a0 : Array Value) (hw : ∀ d ∈ tables_1, d.before a0 Z = true) (ws : List Jvm.Cond) {m_OA : Addr} {w_EMPTY_ELEMENTDATA : Addr} {w_DEFAULTCAPACITY_EMPTY_ELEMENTDATA : Addr} {w_EMPTY_LIST : Addr} {w_EMPTY_LIST_elements : Addr} {w_EMPTY : Addr} {k_w_EMPTY_ELEMENTDATA : ClassId} {k_w_DEFAULTCAPACITY_EMPTY_ELEMENTDATA : ClassId} {k_w_EMPTY_LIST_elements : ClassId} (G : Glob Z m_OA w_EMPTY_ELEMENTDATA w_DEFAULTCAPACITY_EMPTY_ELEMENTDATA w_EMPTY_LIST w_EMPTY_LIST_elements w_EMPTY k_w_EMPTY_ELEMENTDATA k_w_DEFAULTCAPACITY_EMPTY_ELEMENTDATA k_w_EMPTY_LIST_elements) (a1 : Addr) (p2 : Int32) (p3 : Int32) (h0 : Heap) (n0 : Nat) (O0 : Old Z n0 h0) (E_a1 : Exa Z h0 a1 "com/example/curtail/curtail/Placement$Cell") (F_nSlot_a1 : Fld Z h0 a1 "com/example/curtail/curtail/Placement$Cell" "nSlot" "I" (.int (0 : Int32))) (g_a1 : n0 ≤ a1) (F_nCloudlet_a1 : Fld Z h0 a1 "com/example/curtail/curtail/Placement$Cell" "nCloudlet" "I" (.int (0 : Int32))) :
    MetFree l (⟨"com/example/curtail/curtail/Placement$Cell", "<init>", "(II)V"⟩ : MethodName) (head1 (Jvm.Cond.code (⟨"com/example/curtail/curtail/Placement$Cell", "<init>", "(II)V"⟩ : MethodName) prog_15_method_1_code 3 none :: ws) ({ frames := 2, cells := 0, slots := 0, locals := 24 } : Room)) (fun a U => a = #[(.ref a1), (.int p2), (.int p3)] ∧ Z.Warmed39 U.vm ∧ U.heap = h0) (fun _ _ _ _ _ => True) (fun _ U o U' => ∃ v L, o = .returned v ∧ Q14 Z m_OA w_EMPTY_ELEMENTDATA w_DEFAULTCAPACITY_EMPTY_ELEMENTDATA w_EMPTY_LIST w_EMPTY_LIST_elements w_EMPTY k_w_EMPTY_ELEMENTDATA k_w_DEFAULTCAPACITY_EMPTY_ELEMENTDATA k_w_EMPTY_LIST_elements a1 p2 p3 h0 n0 v U'.heap L ∧ FrameEnd U o U' L ({ frames := 2, cells := 0, slots := 0, locals := 24 } : Room).cells ({ frames := 2, cells := 0, slots := 0, locals := 24 } : Room).slots) := by
  refine MetFree.of_bodySF (plainFor_of_name pn_com_example_curtail_curtail_Placement_Cell) hisR ?_
  intro p e s m args below meth c s₁ Bd hml0 hP hK
  obtain ⟨rfl, hZ, hh⟩ := hP
  have hx := Bd.exec
  have hby := Bd.bytes
  have hml : c.maxLocals = 3 := hml0
  have hown : s.vm.findClass "com/example/curtail/curtail/Placement$Cell" = some m.cls := findClass_of_methodNamed Bd.named
  have hnm := (name_of_methodNamed Bd.named Bd.method).1
  have X0 : Stand p l e ({ frames := 2, cells := 0, slots := 0, locals := 24 } : Room) s m #[(.ref a1), (.int p2), (.int p3)] below meth c s₁ [] 0 0 := Stand.of_body Bd
  have e0 : s₁.heap = h0 := by rw [← hh, Bd.state]; rfl
  have N0 := Fr.nil n0
  show OGot p.tables e below (s₁.setTop (entryFrame m #[(.ref a1), (.int p2), (.int p3)] 3)) _
  refine OGot.go (fun t k => castTop (ef14 m a1 p2 p3) k) ?_
  show OGot p.tables e below (s₁.setTop (mkF m 0 #[.val (.ref a1), .val (.int p2), .val (.int p3)] [])) _
  refine OGot.go (fun t k => XS.aloadN X0.here hx rfl (hb hby d14_0) rfl rfl k) ?_
  obtain ⟨_, _, ⟨T4, L4, k4, n4⟩, -, X4, ⟨Lc4, hQ4, l4, y4, z4⟩, st4⟩ := X0.specialBack hx (y := (⟨"java/lang/Record", "<init>", "()V"⟩ : MethodName)) rfl hown (mvT hZ (ow hw 102 rfl)) (mvT hZ (ow hw 33 rfl)) (mvT hZ (ow hw 36 rfl)) (by decide) (backOf (W := 0) (rm6 l Z a0 hw [] G a1 h0 n0 O0 ) hZ (ow hw 36 rfl) (ow hw 35 rfl) (by decide) (by decide)) (g := (mkF m 1 #[.val (.ref a1), .val (.int p2), .val (.int p3)] [(.ref a1)])) rfl (by rw [hml]; rfl) (Steps.refl _) (a := a1) (argsL := []) (rest := []) (lenOf pd_0 rfl) rfl (by show 2 * 0 + _ ≤ _; exact Nat.le_of_eq rfl) (hb hby d14_1) (fun _ _ => ⟨rfl, e0, (by decide : 0 + 0 ≤ _), (by decide : 0 + 0 ≤ _)⟩)
  dsimp only [Pt.U, Pt.locs, Pt.cells, Pt.slots] at X4 l4 y4 z4 st4 hQ4
  subst l4 y4 z4
  obtain ⟨rfl, N4q, e4⟩ := hQ4
  have N4 := Fr.app N0 N4q
  refine OGot.on st4 ?_
  refine OGot.go (fun t k => XS.aloadN X4.here hx rfl (hb hby d14_4) rfl rfl k) ?_
  refine OGot.go (fun t k => XS.iloadN X4.here hx rfl (hb hby d14_5) rfl k) ?_
  obtain ⟨T5, h5, X5, e5, W5, st5⟩ := putF X4 hx hZ hown (host := "") (Or.inl (ow hw 103 rfl)) Via.refl e4 F_nSlot_a1 E_a1 (Or.inr ⟨(ow hw 104 rfl), rfl, hnm⟩) (ow hw 97 rfl) (ty := .int) (by decide) rfl rfl (g := (mkF m 6 #[.val (.ref a1), .val (.int p2), .val (.int p3)] [(.int p2), (.ref a1)])) rfl rfl (hb hby d14_6)
  refine OGot.go st5 ?_
  have N5 := Fr.snoc X5 N4 g_a1
  have O5 := O0.wr W5 g_a1
  have K5 := (OKeep.refl h0 [(a1, Jvm.RoadKit.slotOf Z "com/example/curtail/curtail/Placement$Cell" "nSlot" "I"), (a1, Jvm.RoadKit.slotOf Z "com/example/curtail/curtail/Placement$Cell" "nCloudlet" "I")]).wr W5 (Or.inl (List.mem_of_getElem? (i := 0) rfl))
  have Fw5 : Fld Z h5 a1 "com/example/curtail/curtail/Placement$Cell" "nSlot" "I" (.int p2) := F_nSlot_a1.same W5
  show OGot p.tables e below (T5.setTop (mkF m 9 #[.val (.ref a1), .val (.int p2), .val (.int p3)] [])) _
  refine OGot.go (fun t k => XS.aloadN X5.here hx rfl (hb hby d14_9) rfl rfl k) ?_
  refine OGot.go (fun t k => XS.iloadN X5.here hx rfl (hb hby d14_10) rfl k) ?_
  have F6 : Fld Z h5 a1 "com/example/curtail/curtail/Placement$Cell" "nCloudlet" "I" (.int (0 : Int32)) := (F_nCloudlet_a1.other W5 (Or.inr (slot_ne (Or.inr (ow hw 106 rfl)) (Or.inr (ow hw 104 rfl)) (by decide) (t := .int) (t' := .int) (by decide) (by decide))))
  obtain ⟨T7, h7, X7, e7, W7, st7⟩ := putF X5 hx hZ hown (host := "") (Or.inl (ow hw 105 rfl)) Via.refl e5 F6 (E_a1.wr W5) (Or.inr ⟨(ow hw 106 rfl), rfl, hnm⟩) (ow hw 97 rfl) (ty := .int) (by decide) rfl rfl (g := (mkF m 11 #[.val (.ref a1), .val (.int p2), .val (.int p3)] [(.int p3), (.ref a1)])) rfl rfl (hb hby d14_11)
  refine OGot.go st7 ?_
  have N7 := Fr.snoc X7 N5 g_a1
  have O7 := O5.wr W7 g_a1
  have K7 := K5.wr W7 (Or.inl (List.mem_of_getElem? (i := 1) rfl))
  have Fw7 : Fld Z h7 a1 "com/example/curtail/curtail/Placement$Cell" "nCloudlet" "I" (.int p3) := F6.same W7
  show OGot p.tables e below (T7.setTop (mkF m 14 #[.val (.ref a1), .val (.int p2), .val (.int p3)] [])) _
  obtain ⟨fs, hr, hrun, hended, hW, hsame⟩ := X7.leave (v := none) (fun _ => rfl)
  refine ⟨_, _, X7.returnOut hx Bd.returns (hb hby d14_14) hr, hrun, hended, _, _, rfl, ?_, ⟨_, rfl⟩, hW, hsame.mono (by decide) (by decide)⟩
  have F8 : Fld Z h7 a1 "com/example/curtail/curtail/Placement$Cell" "nSlot" "I" (.int p2) := (Fw5.other W7 (Or.inr (slot_ne (Or.inr (ow hw 104 rfl)) (Or.inr (ow hw 106 rfl)) (by decide) (t := .int) (t' := .int) (by decide) (by decide))))
  show Q14 Z m_OA w_EMPTY_ELEMENTDATA w_DEFAULTCAPACITY_EMPTY_ELEMENTDATA w_EMPTY_LIST w_EMPTY_LIST_elements w_EMPTY k_w_EMPTY_ELEMENTDATA k_w_DEFAULTCAPACITY_EMPTY_ELEMENTDATA k_w_EMPTY_LIST_elements a1 p2 p3 h0 n0 _ T7.heap _
  rw [e7]
  exact ⟨N7, rfl, K7, F8, Fw7⟩
theorem pd_6 : parseMethodDescriptor "(II)V" = some ⟨[.int, .int], none⟩ := by decide +kernel
theorem d15_0 : decode jdk_38_method_25_code 0 = .ok (.aload_n 0, 1) := by decide +kernel
theorem d15_1 : decode jdk_38_method_25_code 1 = .ok (.dup, 1) := by decide +kernel
theorem d15_2 : decode jdk_38_method_25_code 2 = .ok (.getfield 63, 3) := by decide +kernel
theorem d15_5 : decode jdk_38_method_25_code 5 = .ok (.iconst 1, 1) := by decide +kernel
theorem d15_6 : decode jdk_38_method_25_code 6 = .ok (.iadd, 1) := by decide +kernel
theorem d15_7 : decode jdk_38_method_25_code 7 = .ok (.putfield 63, 3) := by decide +kernel
theorem d15_10 : decode jdk_38_method_25_code 10 = .ok (.aload_n 0, 1) := by decide +kernel
theorem d15_11 : decode jdk_38_method_25_code 11 = .ok (.aload_n 1, 1) := by decide +kernel
theorem d15_12 : decode jdk_38_method_25_code 12 = .ok (.aload_n 0, 1) := by decide +kernel
theorem d15_13 : decode jdk_38_method_25_code 13 = .ok (.getfield 9, 3) := by decide +kernel
theorem d15_16 : decode jdk_38_method_25_code 16 = .ok (.aload_n 0, 1) := by decide +kernel
theorem d15_17 : decode jdk_38_method_25_code 17 = .ok (.getfield 48, 3) := by decide +kernel
theorem d15_20 : decode jdk_38_method_25_code 20 = .ok (.invokevirtual 131, 3) := by decide +kernel
theorem d16_0 : decode jdk_38_method_24_code 0 = .ok (.iload_n 3, 1) := by decide +kernel
theorem d16_1 : decode jdk_38_method_24_code 1 = .ok (.aload_n 2, 1) := by decide +kernel
theorem d16_2 : decode jdk_38_method_24_code 2 = .ok (.arraylength, 1) := by decide +kernel
theorem d16_3 : decode jdk_38_method_24_code 3 = .ok (.if_icmp .ne 8, 3) := by decide +kernel
theorem d16_6 : decode jdk_38_method_24_code 6 = .ok (.aload_n 0, 1) := by decide +kernel
theorem d16_7 : decode jdk_38_method_24_code 7 = .ok (.invokevirtual 129, 3) := by decide +kernel
theorem d17_0 : decode jdk_38_method_7_code 0 = .ok (.aload_n 0, 1) := by decide +kernel
theorem d17_1 : decode jdk_38_method_7_code 1 = .ok (.aload_n 0, 1) := by decide +kernel
theorem d17_2 : decode jdk_38_method_7_code 2 = .ok (.getfield 48, 3) := by decide +kernel
theorem d17_5 : decode jdk_38_method_7_code 5 = .ok (.iconst 1, 1) := by decide +kernel
theorem d17_6 : decode jdk_38_method_7_code 6 = .ok (.iadd, 1) := by decide +kernel
theorem d17_7 : decode jdk_38_method_7_code 7 = .ok (.invokevirtual 69, 3) := by decide +kernel
theorem d18_0 : decode jdk_38_method_6_code 0 = .ok (.aload_n 0, 1) := by decide +kernel
theorem d18_1 : decode jdk_38_method_6_code 1 = .ok (.getfield 9, 3) := by decide +kernel
theorem d18_4 : decode jdk_38_method_6_code 4 = .ok (.arraylength, 1) := by decide +kernel
theorem d18_5 : decode jdk_38_method_6_code 5 = .ok (.istore_n 2, 1) := by decide +kernel
theorem d18_6 : decode jdk_38_method_6_code 6 = .ok (.iload_n 2, 1) := by decide +kernel
theorem d18_7 : decode jdk_38_method_6_code 7 = .ok (.ifCond .gt 13, 3) := by decide +kernel
theorem d18_10 : decode jdk_38_method_6_code 10 = .ok (.aload_n 0, 1) := by decide +kernel
theorem d18_11 : decode jdk_38_method_6_code 11 = .ok (.getfield 9, 3) := by decide +kernel
theorem d18_14 : decode jdk_38_method_6_code 14 = .ok (.getstatic 39, 3) := by decide +kernel
theorem d18_17 : decode jdk_38_method_6_code 17 = .ok (.if_acmp .eq 28, 3) := by decide +kernel
theorem d18_45 : decode jdk_38_method_6_code 45 = .ok (.aload_n 0, 1) := by decide +kernel
theorem d18_46 : decode jdk_38_method_6_code 46 = .ok (.bipush 10, 2) := by decide +kernel
theorem d18_48 : decode jdk_38_method_6_code 48 = .ok (.iload_n 1, 1) := by decide +kernel
theorem d18_49 : decode jdk_38_method_6_code 49 = .ok (.invokestatic 79, 3) := by decide +kernel
theorem d19_0 : decode jdk_29_method_65_code 0 = .ok (.iload_n 0, 1) := by decide +kernel
theorem d19_1 : decode jdk_29_method_65_code 1 = .ok (.iload_n 1, 1) := by decide +kernel
theorem d19_2 : decode jdk_29_method_65_code 2 = .ok (.if_icmp .lt 7, 3) := by decide +kernel
theorem d19_5 : decode jdk_29_method_65_code 5 = .ok (.iload_n 0, 1) := by decide +kernel
theorem d19_6 : decode jdk_29_method_65_code 6 = .ok (.goto 4, 3) := by decide +kernel
theorem d19_10 : decode jdk_29_method_65_code 10 = .ok (.ireturn, 1) := by decide +kernel
def Q19 (Z : State) (m_OA : Addr) (w_EMPTY_ELEMENTDATA : Addr) (w_DEFAULTCAPACITY_EMPTY_ELEMENTDATA : Addr) (w_EMPTY_LIST : Addr) (w_EMPTY_LIST_elements : Addr) (w_EMPTY : Addr) (k_w_EMPTY_ELEMENTDATA : ClassId) (k_w_DEFAULTCAPACITY_EMPTY_ELEMENTDATA : ClassId) (k_w_EMPTY_LIST_elements : ClassId)  (h0 : Heap) (n0 : Nat) (v : Option Value) (h : Heap) (L : List Loc) : Prop := v = some (.int (10 : Int32)) ∧ Fr n0 L ∧ h = h0
theorem ef19 (m : MethodId)  : entryFrame m #[(.int (10 : Int32)), (.int (1 : Int32))] 2 = mkF m 0 #[.val (.int (10 : Int32)), .val (.int (1 : Int32))] [] := by first | (simp [entryFrame, mkF, argsToLocals, Value.category]; done) | rfl
set_option maxRecDepth 65536 in
set_option maxHeartbeats 40000000 in
theorem rm19 (l : Launch) (Z : State) (a0 : Array Value) (hw : ∀ d ∈ tables_1, d.before a0 Z = true) (ws : List Jvm.Cond) {m_OA : Addr} {w_EMPTY_ELEMENTDATA : Addr} {w_DEFAULTCAPACITY_EMPTY_ELEMENTDATA : Addr} {w_EMPTY_LIST : Addr} {w_EMPTY_LIST_elements : Addr} {w_EMPTY : Addr} {k_w_EMPTY_ELEMENTDATA : ClassId} {k_w_DEFAULTCAPACITY_EMPTY_ELEMENTDATA : ClassId} {k_w_EMPTY_LIST_elements : ClassId} (G : Glob Z m_OA w_EMPTY_ELEMENTDATA w_DEFAULTCAPACITY_EMPTY_ELEMENTDATA w_EMPTY_LIST w_EMPTY_LIST_elements w_EMPTY k_w_EMPTY_ELEMENTDATA k_w_DEFAULTCAPACITY_EMPTY_ELEMENTDATA k_w_EMPTY_LIST_elements)  (h0 : Heap) (n0 : Nat) (O0 : Old Z n0 h0) :
    MetFree l (⟨"java/lang/Math", "max", "(II)I"⟩ : MethodName) (head1 (Jvm.Cond.code (⟨"java/lang/Math", "max", "(II)I"⟩ : MethodName) jdk_29_method_65_code 2 (some .int) :: ws) ({ frames := 0, cells := 0, slots := 0, locals := 0 } : Room)) (fun a U => a = #[(.int (10 : Int32)), (.int (1 : Int32))] ∧ Z.Warmed39 U.vm ∧ U.heap = h0) (fun _ _ _ _ _ => True) (fun _ U o U' => ∃ v L, o = .returned v ∧ Q19 Z m_OA w_EMPTY_ELEMENTDATA w_DEFAULTCAPACITY_EMPTY_ELEMENTDATA w_EMPTY_LIST w_EMPTY_LIST_elements w_EMPTY k_w_EMPTY_ELEMENTDATA k_w_DEFAULTCAPACITY_EMPTY_ELEMENTDATA k_w_EMPTY_LIST_elements  h0 n0 v U'.heap L ∧ FrameEnd U o U' L ({ frames := 0, cells := 0, slots := 0, locals := 0 } : Room).cells ({ frames := 0, cells := 0, slots := 0, locals := 0 } : Room).slots) := by
  refine MetFree.of_bodySF (Jvm.Free.JP.mathPlain rfl (by decide +kernel)) hisR ?_
  intro p e s m args below meth c s₁ Bd hml0 hP hK
  obtain ⟨rfl, hZ, hh⟩ := hP
  have hx := Bd.exec
  have hby := Bd.bytes
  have hml : c.maxLocals = 2 := hml0
  have hown : s.vm.findClass "java/lang/Math" = some m.cls := findClass_of_methodNamed Bd.named
  have hnm := (name_of_methodNamed Bd.named Bd.method).1
  have X0 : Stand p l e ({ frames := 0, cells := 0, slots := 0, locals := 0 } : Room) s m #[(.int (10 : Int32)), (.int (1 : Int32))] below meth c s₁ [] 0 0 := Stand.of_body Bd
  have e0 : s₁.heap = h0 := by rw [← hh, Bd.state]; rfl
  have N0 := Fr.nil n0
  show OGot p.tables e below (s₁.setTop (entryFrame m #[(.int (10 : Int32)), (.int (1 : Int32))] 2)) _
  refine OGot.go (fun t k => castTop (ef19 m ) k) ?_
  show OGot p.tables e below (s₁.setTop (mkF m 0 #[.val (.int (10 : Int32)), .val (.int (1 : Int32))] [])) _
  refine OGot.go (fun t k => XS.iloadN X0.here hx rfl (hb hby d19_0) rfl k) ?_
  refine OGot.go (fun t k => XS.iloadN X0.here hx rfl (hb hby d19_1) rfl k) ?_
  refine OGot.go (fun t k => XS.icmpNo X0.here hx rfl (hb hby d19_2) rfl (by decide) k) ?_
  refine OGot.go (fun t k => XS.iloadN X0.here hx rfl (hb hby d19_5) rfl k) ?_
  refine OGot.go (fun t k => XS.goto X0.here hx rfl (pc0 := 6) (pc' := 10) rfl (hb hby d19_6) (by decide) (by decide) k) ?_
  show OGot p.tables e below (s₁.setTop (mkF m 10 #[.val (.int (10 : Int32)), .val (.int (1 : Int32))] [(.int (10 : Int32))])) _
  obtain ⟨fs, hr, hrun, hended, hW, hsame⟩ := X0.leave (v := some (.int (10 : Int32))) (fun h => by rw [Bd.returns] at h; cases h)
  refine ⟨_, _, retI X0 hx Bd.returns (hb hby d19_10) hr, hrun, hended, _, _, rfl, ?_, ⟨_, rfl⟩, hW, hsame.mono (by decide) (by decide)⟩
  exact (⟨rfl, N0, e0⟩ : Q19 Z m_OA w_EMPTY_ELEMENTDATA w_DEFAULTCAPACITY_EMPTY_ELEMENTDATA w_EMPTY_LIST w_EMPTY_LIST_elements w_EMPTY k_w_EMPTY_ELEMENTDATA k_w_DEFAULTCAPACITY_EMPTY_ELEMENTDATA k_w_EMPTY_LIST_elements  h0 n0 _ s₁.heap _)
theorem pd_7 : parseMethodDescriptor "(II)I" = some ⟨[.int, .int], some .int⟩ := by decide +kernel
theorem d18_52 : decode jdk_38_method_6_code 52 = .ok (.anewarray 7, 3) := by decide +kernel
theorem d18_55 : decode jdk_38_method_6_code 55 = .ok (.dup_x1, 1) := by decide +kernel
theorem d18_56 : decode jdk_38_method_6_code 56 = .ok (.putfield 9, 3) := by decide +kernel
theorem d18_59 : decode jdk_38_method_6_code 59 = .ok (.areturn, 1) := by decide +kernel
def Q18 (Z : State) (m_OA : Addr) (w_EMPTY_ELEMENTDATA : Addr) (w_DEFAULTCAPACITY_EMPTY_ELEMENTDATA : Addr) (w_EMPTY_LIST : Addr) (w_EMPTY_LIST_elements : Addr) (w_EMPTY : Addr) (k_w_EMPTY_ELEMENTDATA : ClassId) (k_w_DEFAULTCAPACITY_EMPTY_ELEMENTDATA : ClassId) (k_w_EMPTY_LIST_elements : ClassId) (a1 : Addr) (a2 : Addr) (k4 : ClassId) (h0 : Heap) (n0 : Nat) (v : Option Value) (h : Heap) (L : List Loc) : Prop := Fr n0 L ∧ ∃ b9 : Addr, ∃ k9 : ClassId, v = some (.ref b9) ∧ h0.size ≤ b9 ∧ OKeep h0 h [(a1, Jvm.RoadKit.slotOf Z "java/util/ArrayList" "elementData" "[Ljava/lang/Object;")] ∧ Fld Z h a1 "java/util/ArrayList" "elementData" "[Ljava/lang/Object;" (.ref b9) ∧ Exa Z h b9 "[Ljava/lang/Object;" ∧ Arv Z h b9 k9 (.object "java/lang/Object") (10 : Int32) [.null, .null, .null, .null, .null, .null, .null, .null, .null, .null] .null ∧ Ovr Z k9 "java/lang/Object"
theorem ef18 (m : MethodId) (x0 : Addr) : entryFrame m #[(.ref x0), (.int (1 : Int32))] 4 = mkF m 0 #[.val (.ref x0), .val (.int (1 : Int32)), .unset, .unset] [] := by first | (simp [entryFrame, mkF, argsToLocals, Value.category]; done) | rfl
set_option maxRecDepth 65536 in
set_option maxHeartbeats 40000000 in
theorem rm18 (l : Launch) (Z : State) (a0 : Array Value) (hw : ∀ d ∈ tables_1, d.before a0 Z = true) (ws : List Jvm.Cond) {m_OA : Addr} {w_EMPTY_ELEMENTDATA : Addr} {w_DEFAULTCAPACITY_EMPTY_ELEMENTDATA : Addr} {w_EMPTY_LIST : Addr} {w_EMPTY_LIST_elements : Addr} {w_EMPTY : Addr} {k_w_EMPTY_ELEMENTDATA : ClassId} {k_w_DEFAULTCAPACITY_EMPTY_ELEMENTDATA : ClassId} {k_w_EMPTY_LIST_elements : ClassId} (G : Glob Z m_OA w_EMPTY_ELEMENTDATA w_DEFAULTCAPACITY_EMPTY_ELEMENTDATA w_EMPTY_LIST w_EMPTY_LIST_elements w_EMPTY k_w_EMPTY_ELEMENTDATA k_w_DEFAULTCAPACITY_EMPTY_ELEMENTDATA k_w_EMPTY_LIST_elements) (a1 : Addr) (a2 : Addr) (k4 : ClassId) (h0 : Heap) (n0 : Nat) (O0 : Old Z n0 h0) (F_elementData_a1 : Fld Z h0 a1 "java/util/ArrayList" "elementData" "[Ljava/lang/Object;" (.ref a2)) (V_a2 : Arv Z h0 a2 k4 (.object "java/lang/Object") (0 : Int32) [] .null) (E_a2 : Exa Z h0 a2 "[Ljava/lang/Object;") (hc_1 : a2 = w_DEFAULTCAPACITY_EMPTY_ELEMENTDATA) (E_a1 : Exa Z h0 a1 "java/util/ArrayList") (g_a1 : n0 ≤ a1) :
    MetFree l (⟨"java/util/ArrayList", "grow", "(I)[Ljava/lang/Object;"⟩ : MethodName) (head1 (Jvm.Cond.code (⟨"java/util/ArrayList", "grow", "(I)[Ljava/lang/Object;"⟩ : MethodName) jdk_38_method_6_code 4 (some (.array (.object "java/lang/Object"))) :: ws) ({ frames := 1, cells := 1, slots := 10, locals := 14 } : Room)) (fun a U => a = #[(.ref a1), (.int (1 : Int32))] ∧ Z.Warmed39 U.vm ∧ U.heap = h0) (fun _ _ _ _ _ => True) (fun _ U o U' => ∃ v L, o = .returned v ∧ Q18 Z m_OA w_EMPTY_ELEMENTDATA w_DEFAULTCAPACITY_EMPTY_ELEMENTDATA w_EMPTY_LIST w_EMPTY_LIST_elements w_EMPTY k_w_EMPTY_ELEMENTDATA k_w_DEFAULTCAPACITY_EMPTY_ELEMENTDATA k_w_EMPTY_LIST_elements a1 a2 k4 h0 n0 v U'.heap L ∧ FrameEnd U o U' L ({ frames := 1, cells := 1, slots := 10, locals := 14 } : Room).cells ({ frames := 1, cells := 1, slots := 10, locals := 14 } : Room).slots) := by
  refine MetFree.of_bodySF (plainFor_of_name pn_java_util_ArrayList) hisR ?_
  intro p e s m args below meth c s₁ Bd hml0 hP hK
  obtain ⟨rfl, hZ, hh⟩ := hP
  have hx := Bd.exec
  have hby := Bd.bytes
  have hml : c.maxLocals = 4 := hml0
  have hown : s.vm.findClass "java/util/ArrayList" = some m.cls := findClass_of_methodNamed Bd.named
  have hnm := (name_of_methodNamed Bd.named Bd.method).1
  have X0 : Stand p l e ({ frames := 1, cells := 1, slots := 10, locals := 14 } : Room) s m #[(.ref a1), (.int (1 : Int32))] below meth c s₁ [] 0 0 := Stand.of_body Bd
  have e0 : s₁.heap = h0 := by rw [← hh, Bd.state]; rfl
  have N0 := Fr.nil n0
  show OGot p.tables e below (s₁.setTop (entryFrame m #[(.ref a1), (.int (1 : Int32))] 4)) _
  refine OGot.go (fun t k => castTop (ef18 m a1) k) ?_
  show OGot p.tables e below (s₁.setTop (mkF m 0 #[.val (.ref a1), .val (.int (1 : Int32)), .unset, .unset] [])) _
  refine OGot.go (fun t k => XS.aloadN X0.here hx rfl (hb hby d18_0) rfl rfl k) ?_
  obtain ⟨T3, X3, e3, st3⟩ := getF X0 hx hZ hown (host := "") (Or.inl (ow hw 27 rfl)) Via.refl e0 F_elementData_a1 (g := (mkF m 1 #[.val (.ref a1), .val (.int (1 : Int32)), .unset, .unset] [(.ref a1)])) rfl rfl (hb hby d18_1)
  refine OGot.go st3 ?_
  obtain ⟨cl5, Ar5, -, Sz5, Ng5, -, -⟩ := id (V_a2)
  refine OGot.go (fun t k => X3.arraylength hx (by rw [e3]; exact Ar5.1) (State.isArrayOf_alike hZ.alike Ar5.2.1) (g := (mkF m 4 #[.val (.ref a1), .val (.int (1 : Int32)), .unset, .unset] [(.ref a2)])) rfl rfl (hb hby d18_4) _ k) ?_
  rw [len_of Sz5 Ng5]
  refine OGot.go (fun t k => XS.istoreN X3.here hx rfl (hb hby d18_5) rfl (l' := #[.val (.ref a1), .val (.int (1 : Int32)), .val (.int (0 : Int32)), .unset]) rfl k) ?_
  refine OGot.go (fun t k => XS.iloadN X3.here hx rfl (hb hby d18_6) rfl k) ?_
  show OGot p.tables e below (T3.setTop (mkF m 7 #[.val (.ref a1), .val (.int (1 : Int32)), .val (.int (0 : Int32)), .unset] [(.int (0 : Int32))])) _
  refine OGot.go (fun t k => XS.ifNo X3.here hx rfl (hb hby d18_7) rfl (by decide) k) ?_
  refine OGot.go (fun t k => XS.aloadN X3.here hx rfl (hb hby d18_10) rfl rfl k) ?_
  obtain ⟨T6, X6, e6, st6⟩ := getF X3 hx hZ hown (host := "") (Or.inl (ow hw 27 rfl)) Via.refl e3 F_elementData_a1 (g := (mkF m 11 #[.val (.ref a1), .val (.int (1 : Int32)), .val (.int (0 : Int32)), .unset] [(.ref a1)])) rfl rfl (hb hby d18_11)
  refine OGot.go st6 ?_
  obtain ⟨T7, X7, e7, st7⟩ := getS2 X6 hx hZ hown (host := "") (Or.inl (ow hw 26 rfl)) Via.refl e6 (G.2.2.2.1.ext O0.2) (g := (mkF m 14 #[.val (.ref a1), .val (.int (1 : Int32)), .val (.int (0 : Int32)), .unset] [(.ref a2)])) rfl (hb hby d18_14)
  refine OGot.go st7 ?_
  refine OGot.go (fun t k => Jvm.RoadKit.acmp (g := (mkF m 17 #[.val (.ref a1), .val (.int (1 : Int32)), .val (.int (0 : Int32)), .unset] [(.ref w_DEFAULTCAPACITY_EMPTY_ELEMENTDATA), (.ref a2)])) X7 hx rfl rfl rfl (pc0 := 17) (pc' := 45) (same := true) rfl (hb hby d18_17) rfl (decide_eq_true (congrArg Value.ref hc_1)) (by decide) (by decide) k) ?_
  show OGot p.tables e below (T7.setTop (mkF m 45 #[.val (.ref a1), .val (.int (1 : Int32)), .val (.int (0 : Int32)), .unset] [])) _
  refine OGot.go (fun t k => XS.aloadN X7.here hx rfl (hb hby d18_45) rfl rfl k) ?_
  refine OGot.go (fun t k => XS.bipush X7.here hx rfl (hb hby d18_46) k) ?_
  refine OGot.go (fun t k => XS.iloadN X7.here hx rfl (hb hby d18_48) rfl k) ?_
  obtain ⟨_, _, ⟨T8, L8, k8, n8⟩, -, X8, ⟨Lc8, hQ8, l8, y8, z8⟩, st8⟩ := Jvm.LawKit.callS X7 hx (y := (⟨"java/lang/Math", "max", "(II)I"⟩ : MethodName)) hown (mvT hZ (ow hw 129 rfl)) (mvT hZ (ow hw 130 rfl)) (mvT hZ (ow hw 131 rfl)) (mvT hZ (ow hw 132 rfl)) (by decide) (backOf (W := 1) (rm19 l Z a0 hw [] G  h0 n0 O0 ) hZ (ow hw 132 rfl) (ow hw 131 rfl) (by decide) (by decide)) (g := (mkF m 49 #[.val (.ref a1), .val (.int (1 : Int32)), .val (.int (0 : Int32)), .unset] [(.int (1 : Int32)), (.int (10 : Int32)), (.ref a1)])) rfl (by rw [hml]; rfl) (argsL := [(.int (10 : Int32)), (.int (1 : Int32))]) (rest := [(.ref a1)]) (lenOf pd_7 rfl) rfl (by show 2 * 0 + _ ≤ _; exact Nat.le_of_eq rfl) (hb hby d18_49) (fun _ _ => ⟨rfl, e7, (by decide : 0 + 0 ≤ _), (by decide : 0 + 0 ≤ _)⟩)
  dsimp only [Pt.U, Pt.locs, Pt.cells, Pt.slots] at X8 l8 y8 z8 st8 hQ8
  subst l8 y8 z8
  obtain ⟨rfl, N8q, e8⟩ := hQ8
  have N8 := Fr.app N0 N8q
  refine OGot.go st8 ?_
  obtain ⟨T9, h9, k9, X9, e9, E9, A9, Ea9, V9, st9⟩ := newRE X8 hx hZ hown (ow hw 133 rfl) (ow hw 134 rfl) e8 (g := (mkF m 52 #[.val (.ref a1), .val (.int (1 : Int32)), .val (.int (0 : Int32)), .unset] [(.int (10 : Int32)), (.ref a1)])) rfl (hb hby d18_52) rfl (by decide) (cap := 10) (by decide) (by decide) (by decide) (by decide) (ad := "[Ljava/lang/Object;") (by decide)
  obtain ⟨b9, g9⟩ : ∃ z, z = h0.size := ⟨_, rfl⟩
  rw [← g9] at A9 Ea9 st9
  refine OGot.go st9 ?_
  have g_b9 : n0 ≤ b9 := Nat.le_trans (osz O0) (Nat.le_of_eq g9.symm)
  have sy_b9 : h0.size ≤ b9 := Nat.le_of_eq g9.symm
  have sz_b9 : h0.size ≤ b9 := Nat.le_trans (OKeep.refl h0 [(a1, Jvm.RoadKit.slotOf Z "java/util/ArrayList" "elementData" "[Ljava/lang/Object;")]).1 sy_b9
  have K9 := (OKeep.refl h0 [(a1, Jvm.RoadKit.slotOf Z "java/util/ArrayList" "elementData" "[Ljava/lang/Object;")]).ext E9
  have O9 := O0.ext E9
  have Va9 : Arv Z h9 b9 k9 (.object "java/lang/Object") (10 : Int32) [.null, .null, .null, .null, .null, .null, .null, .null, .null, .null] .null := (Arv.new A9 (by decide)).pad (pad_rep [] .null 10)
  show OGot p.tables e below (T9.setTop (mkF m 55 #[.val (.ref a1), .val (.int (1 : Int32)), .val (.int (0 : Int32)), .unset] [(.ref b9), (.ref a1)])) _
  refine OGot.go (fun t k => XS.dupX1 X9.here hx rfl (hb hby d18_55) rfl rfl rfl k) ?_
  have F10 : Fld Z h9 a1 "java/util/ArrayList" "elementData" "[Ljava/lang/Object;" (.ref a2) := (F_elementData_a1.ext E9)
  obtain ⟨T11, h11, X11, e11, W11, st11⟩ := putF X9 hx hZ hown (host := "") (Or.inl (ow hw 27 rfl)) Via.refl e9 F10 (E_a1.ext E9) (Or.inl (ow hw 28 rfl)) (ow hw 4 rfl) (ty := (.array (.object "java/lang/Object"))) (by decide) rfl rfl (g := (mkF m 56 #[.val (.ref a1), .val (.int (1 : Int32)), .val (.int (0 : Int32)), .unset] [(.ref b9), (.ref a1), (.ref b9)])) rfl rfl (hb hby d18_56)
  refine OGot.go st11 ?_
  have N11 := Fr.snoc X11 N8 g_a1
  have O11 := O9.wr W11 g_a1
  have K11 := K9.wr W11 (Or.inl (List.mem_of_getElem? (i := 0) rfl))
  have Fw11 : Fld Z h11 a1 "java/util/ArrayList" "elementData" "[Ljava/lang/Object;" (.ref b9) := F10.same W11
  show OGot p.tables e below (T11.setTop (mkF m 59 #[.val (.ref a1), .val (.int (1 : Int32)), .val (.int (0 : Int32)), .unset] [(.ref b9)])) _
  obtain ⟨fs, hr, hrun, hended, hW, hsame⟩ := X11.leave (v := some (.ref b9)) (fun h => by rw [Bd.returns] at h; cases h)
  refine ⟨_, _, oretA X11 hx Bd.returns rfl rfl (hb hby d18_59) hr, hrun, hended, _, _, rfl, ?_, ⟨_, rfl⟩, hW, hsame.mono (by decide) (by decide)⟩
  have ne12 : a1 ≠ b9 := (Nat.ne_of_lt (Nat.lt_of_lt_of_le E_a1.lt sy_b9))
  have F13 : Arv Z h11 b9 k9 (.object "java/lang/Object") (10 : Int32) [.null, .null, .null, .null, .null, .null, .null, .null, .null, .null] .null := (Va9.other W11 (Ne.symm ne12))
  show Q18 Z m_OA w_EMPTY_ELEMENTDATA w_DEFAULTCAPACITY_EMPTY_ELEMENTDATA w_EMPTY_LIST w_EMPTY_LIST_elements w_EMPTY k_w_EMPTY_ELEMENTDATA k_w_DEFAULTCAPACITY_EMPTY_ELEMENTDATA k_w_EMPTY_LIST_elements a1 a2 k4 h0 n0 _ T11.heap _
  rw [e11]
  exact ⟨N11, b9, k9, rfl, sz_b9, K11, Fw11, (Ea9.wr W11), F13, V9⟩
theorem pd_8 : parseMethodDescriptor "(I)[Ljava/lang/Object;" = some ⟨[.int], some (.array (.object "java/lang/Object"))⟩ := by decide +kernel
theorem d17_10 : decode jdk_38_method_7_code 10 = .ok (.areturn, 1) := by decide +kernel
def Q17 (Z : State) (m_OA : Addr) (w_EMPTY_ELEMENTDATA : Addr) (w_DEFAULTCAPACITY_EMPTY_ELEMENTDATA : Addr) (w_EMPTY_LIST : Addr) (w_EMPTY_LIST_elements : Addr) (w_EMPTY : Addr) (k_w_EMPTY_ELEMENTDATA : ClassId) (k_w_DEFAULTCAPACITY_EMPTY_ELEMENTDATA : ClassId) (k_w_EMPTY_LIST_elements : ClassId) (a1 : Addr) (a3 : Addr) (k4 : ClassId) (h0 : Heap) (n0 : Nat) (v : Option Value) (h : Heap) (L : List Loc) : Prop := Fr n0 L ∧ ∃ b9_5 : Addr, ∃ k9_5 : ClassId, v = some (.ref b9_5) ∧ h0.size ≤ b9_5 ∧ OKeep h0 h [(a1, Jvm.RoadKit.slotOf Z "java/util/ArrayList" "elementData" "[Ljava/lang/Object;")] ∧ Fld Z h a1 "java/util/ArrayList" "elementData" "[Ljava/lang/Object;" (.ref b9_5) ∧ Exa Z h b9_5 "[Ljava/lang/Object;" ∧ Arv Z h b9_5 k9_5 (.object "java/lang/Object") (10 : Int32) [.null, .null, .null, .null, .null, .null, .null, .null, .null, .null] .null ∧ Ovr Z k9_5 "java/lang/Object"
theorem ef17 (m : MethodId) (x0 : Addr) : entryFrame m #[(.ref x0)] 1 = mkF m 0 #[.val (.ref x0)] [] := by first | (simp [entryFrame, mkF, argsToLocals, Value.category]; done) | rfl
set_option maxRecDepth 65536 in
set_option maxHeartbeats 40000000 in
theorem rm17 (l : Launch) (Z : State) (a0 : Array Value) (hw : ∀ d ∈ tables_1, d.before a0 Z = true) (ws : List Jvm.Cond) {m_OA : Addr} {w_EMPTY_ELEMENTDATA : Addr} {w_DEFAULTCAPACITY_EMPTY_ELEMENTDATA : Addr} {w_EMPTY_LIST : Addr} {w_EMPTY_LIST_elements : Addr} {w_EMPTY : Addr} {k_w_EMPTY_ELEMENTDATA : ClassId} {k_w_DEFAULTCAPACITY_EMPTY_ELEMENTDATA : ClassId} {k_w_EMPTY_LIST_elements : ClassId} (G : Glob Z m_OA w_EMPTY_ELEMENTDATA w_DEFAULTCAPACITY_EMPTY_ELEMENTDATA w_EMPTY_LIST w_EMPTY_LIST_elements w_EMPTY k_w_EMPTY_ELEMENTDATA k_w_DEFAULTCAPACITY_EMPTY_ELEMENTDATA k_w_EMPTY_LIST_elements) (a1 : Addr) (a3 : Addr) (k4 : ClassId) (h0 : Heap) (n0 : Nat) (O0 : Old Z n0 h0) (F_size_a1 : Fld Z h0 a1 "java/util/ArrayList" "size" "I" (.int (0 : Int32))) (E_a1 : Exa Z h0 a1 "java/util/ArrayList") (F_elementData_a1 : Fld Z h0 a1 "java/util/ArrayList" "elementData" "[Ljava/lang/Object;" (.ref a3)) (V_a3 : Arv Z h0 a3 k4 (.object "java/lang/Object") (0 : Int32) [] .null) (E_a3 : Exa Z h0 a3 "[Ljava/lang/Object;") (hc_1 : a3 = w_DEFAULTCAPACITY_EMPTY_ELEMENTDATA) (g_a1 : n0 ≤ a1) :
    MetFree l (⟨"java/util/ArrayList", "grow", "()[Ljava/lang/Object;"⟩ : MethodName) (head1 (Jvm.Cond.code (⟨"java/util/ArrayList", "grow", "()[Ljava/lang/Object;"⟩ : MethodName) jdk_38_method_7_code 1 (some (.array (.object "java/lang/Object"))) :: ws) ({ frames := 2, cells := 1, slots := 10, locals := 29 } : Room)) (fun a U => a = #[(.ref a1)] ∧ Z.Warmed39 U.vm ∧ U.heap = h0) (fun _ _ _ _ _ => True) (fun _ U o U' => ∃ v L, o = .returned v ∧ Q17 Z m_OA w_EMPTY_ELEMENTDATA w_DEFAULTCAPACITY_EMPTY_ELEMENTDATA w_EMPTY_LIST w_EMPTY_LIST_elements w_EMPTY k_w_EMPTY_ELEMENTDATA k_w_DEFAULTCAPACITY_EMPTY_ELEMENTDATA k_w_EMPTY_LIST_elements a1 a3 k4 h0 n0 v U'.heap L ∧ FrameEnd U o U' L ({ frames := 2, cells := 1, slots := 10, locals := 29 } : Room).cells ({ frames := 2, cells := 1, slots := 10, locals := 29 } : Room).slots) := by
  refine MetFree.of_bodySF (plainFor_of_name pn_java_util_ArrayList) hisR ?_
  intro p e s m args below meth c s₁ Bd hml0 hP hK
  obtain ⟨rfl, hZ, hh⟩ := hP
  have hx := Bd.exec
  have hby := Bd.bytes
  have hml : c.maxLocals = 1 := hml0
  have hown : s.vm.findClass "java/util/ArrayList" = some m.cls := findClass_of_methodNamed Bd.named
  have hnm := (name_of_methodNamed Bd.named Bd.method).1
  have X0 : Stand p l e ({ frames := 2, cells := 1, slots := 10, locals := 29 } : Room) s m #[(.ref a1)] below meth c s₁ [] 0 0 := Stand.of_body Bd
  have e0 : s₁.heap = h0 := by rw [← hh, Bd.state]; rfl
  have N0 := Fr.nil n0
  show OGot p.tables e below (s₁.setTop (entryFrame m #[(.ref a1)] 1)) _
  refine OGot.go (fun t k => castTop (ef17 m a1) k) ?_
  show OGot p.tables e below (s₁.setTop (mkF m 0 #[.val (.ref a1)] [])) _
  refine OGot.go (fun t k => XS.aloadN X0.here hx rfl (hb hby d17_0) rfl rfl k) ?_
  refine OGot.go (fun t k => XS.aloadN X0.here hx rfl (hb hby d17_1) rfl rfl k) ?_
  obtain ⟨T2, X2, e2, st2⟩ := getF X0 hx hZ hown (host := "") (Or.inl (ow hw 61 rfl)) Via.refl e0 F_size_a1 (g := (mkF m 2 #[.val (.ref a1)] [(.ref a1), (.ref a1)])) rfl rfl (hb hby d17_2)
  refine OGot.go st2 ?_
  refine OGot.go (fun t k => XS.iconst X2.here hx rfl (hb hby d17_5) k) ?_
  refine OGot.go (fun t k => XS.iadd X2.here hx rfl (hb hby d17_6) rfl k) ?_
  show OGot p.tables e below (T2.setTop (mkF m 7 #[.val (.ref a1)] [(.int ((0 : Int32) + (1 : Int32))), (.ref a1)])) _
  rw [show ((0 : Int32) + (1 : Int32)) = (1 : Int32) from by decide]
  show OGot p.tables e below (T2.setTop (mkF m 7 #[.val (.ref a1)] [(.int (1 : Int32)), (.ref a1)])) _
  obtain ⟨cq5, q5, q5'⟩ := E_a1.cell
  obtain ⟨_, _, ⟨T5, L5, k5, n5⟩, -, X5, ⟨Lc5, hQ5, l5, y5, z5⟩, st5⟩ := X2.privateBack hx (y := (⟨"java/util/ArrayList", "grow", "(I)[Ljava/lang/Object;"⟩ : MethodName)) hown (mvT hZ (ow hw 124 rfl)) (mvT hZ (ow hw 125 rfl)) (mvT hZ (ow hw 127 rfl)) (Cond.privateMethod_at (mvP hZ (ow hw 126 rfl) (args := #[]))) (mvT hZ (ow hw 128 rfl)) (by decide) (backOf (W := 0) (rm18 l Z a0 hw [] G a1 a3 k4 h0 n0 O0 F_elementData_a1 V_a3 E_a3 hc_1 E_a1 g_a1) hZ (ow hw 128 rfl) (ow hw 5 rfl) (by decide) (by decide)) (g := (mkF m 7 #[.val (.ref a1)] [(.int (1 : Int32)), (.ref a1)])) rfl (by rw [hml]; rfl) (Steps.refl _) (a := a1) (by rw [e2]; exact q5) q5' (argsL := [(.int (1 : Int32))]) (rest := []) (lenOf pd_8 rfl) rfl (by show 2 * 0 + _ ≤ _; exact Nat.le_of_eq rfl) (hb hby d17_7) (fun _ _ => ⟨rfl, e2, (by decide : 0 + 1 ≤ _), (by decide : 0 + 10 ≤ _)⟩)
  dsimp only [Pt.U, Pt.locs, Pt.cells, Pt.slots] at X5 l5 y5 z5 st5 hQ5
  subst l5 y5 z5
  obtain ⟨N5q, b9_5, k9_5, rfl, szb9_5_5, K5, Fo5_0, Fo5_1, Fo5_2, Fo5_3⟩ := hQ5
  have g_b9_5 : n0 ≤ b9_5 := Nat.le_trans (osz O0) szb9_5_5
  have sz_b9_5 : h0.size ≤ b9_5 := Nat.le_trans (OKeep.refl h0 [(a1, Jvm.RoadKit.slotOf Z "java/util/ArrayList" "elementData" "[Ljava/lang/Object;")]).1 szb9_5_5
  have Kc5 := (OKeep.refl h0 [(a1, Jvm.RoadKit.slotOf Z "java/util/ArrayList" "elementData" "[Ljava/lang/Object;")]).trans K5 (oinS (Or.inl (List.mem_of_getElem? (i := 0) rfl)) oin0)
  have O5 := OKeep.old O0 K5 (ogeS g_a1 oge0)
  have N5 := Fr.app N0 N5q
  refine OGot.on st5 ?_
  show OGot p.tables e below (T5.setTop (mkF m 10 #[.val (.ref a1)] [(.ref b9_5)])) _
  obtain ⟨fs, hr, hrun, hended, hW, hsame⟩ := X5.leave (v := some (.ref b9_5)) (fun h => by rw [Bd.returns] at h; cases h)
  refine ⟨_, _, oretA X5 hx Bd.returns rfl rfl (hb hby d17_10) hr, hrun, hended, _, _, rfl, ?_, ⟨_, rfl⟩, hW, hsame.mono (by decide) (by decide)⟩
  show Q17 Z m_OA w_EMPTY_ELEMENTDATA w_DEFAULTCAPACITY_EMPTY_ELEMENTDATA w_EMPTY_LIST w_EMPTY_LIST_elements w_EMPTY k_w_EMPTY_ELEMENTDATA k_w_DEFAULTCAPACITY_EMPTY_ELEMENTDATA k_w_EMPTY_LIST_elements a1 a3 k4 h0 n0 _ T5.heap _
  exact ⟨N5, b9_5, k9_5, rfl, sz_b9_5, Kc5, Fo5_0, Fo5_1, Fo5_2, Fo5_3⟩
theorem pd_9 : parseMethodDescriptor "()[Ljava/lang/Object;" = some ⟨[], some (.array (.object "java/lang/Object"))⟩ := by decide +kernel
theorem d16_10 : decode jdk_38_method_24_code 10 = .ok (.astore_n 2, 1) := by decide +kernel
theorem d16_11 : decode jdk_38_method_24_code 11 = .ok (.aload_n 2, 1) := by decide +kernel
theorem d16_12 : decode jdk_38_method_24_code 12 = .ok (.iload_n 3, 1) := by decide +kernel
theorem d16_13 : decode jdk_38_method_24_code 13 = .ok (.aload_n 1, 1) := by decide +kernel
theorem d16_14 : decode jdk_38_method_24_code 14 = .ok (.aastore, 1) := by decide +kernel
theorem d16_15 : decode jdk_38_method_24_code 15 = .ok (.aload_n 0, 1) := by decide +kernel
theorem d16_16 : decode jdk_38_method_24_code 16 = .ok (.iload_n 3, 1) := by decide +kernel
theorem d16_17 : decode jdk_38_method_24_code 17 = .ok (.iconst 1, 1) := by decide +kernel
theorem d16_18 : decode jdk_38_method_24_code 18 = .ok (.iadd, 1) := by decide +kernel
theorem d16_19 : decode jdk_38_method_24_code 19 = .ok (.putfield 48, 3) := by decide +kernel
theorem d16_22 : decode jdk_38_method_24_code 22 = .ok (.return_, 1) := by decide +kernel
def Q16 (Z : State) (m_OA : Addr) (w_EMPTY_ELEMENTDATA : Addr) (w_DEFAULTCAPACITY_EMPTY_ELEMENTDATA : Addr) (w_EMPTY_LIST : Addr) (w_EMPTY_LIST_elements : Addr) (w_EMPTY : Addr) (k_w_EMPTY_ELEMENTDATA : ClassId) (k_w_DEFAULTCAPACITY_EMPTY_ELEMENTDATA : ClassId) (k_w_EMPTY_LIST_elements : ClassId) (a1 : Addr) (a2 : Addr) (a3 : Addr) (k4 : ClassId) (h0 : Heap) (n0 : Nat) (v : Option Value) (h : Heap) (L : List Loc) : Prop := Fr n0 L ∧ ∃ b9_5_6 : Addr, ∃ k9_5_6 : ClassId, v = none ∧ h0.size ≤ b9_5_6 ∧ OKeep h0 h [(a1, Jvm.RoadKit.slotOf Z "java/util/ArrayList" "elementData" "[Ljava/lang/Object;"), (a1, Jvm.RoadKit.slotOf Z "java/util/ArrayList" "size" "I")] ∧ Fld Z h a1 "java/util/ArrayList" "elementData" "[Ljava/lang/Object;" (.ref b9_5_6) ∧ Fld Z h a1 "java/util/ArrayList" "size" "I" (.int (1 : Int32)) ∧ Exa Z h b9_5_6 "[Ljava/lang/Object;" ∧ Arv Z h b9_5_6 k9_5_6 (.object "java/lang/Object") (10 : Int32) [(.ref a2), .null, .null, .null, .null, .null, .null, .null, .null, .null] .null ∧ Ovr Z k9_5_6 "java/lang/Object"
theorem ef16 (m : MethodId) (x0 : Addr) (x1 : Addr) (x2 : Addr) : entryFrame m #[(.ref x0), (.ref x1), (.ref x2), (.int (0 : Int32))] 4 = mkF m 0 #[.val (.ref x0), .val (.ref x1), .val (.ref x2), .val (.int (0 : Int32))] [] := by first | (simp [entryFrame, mkF, argsToLocals, Value.category]; done) | rfl
set_option maxRecDepth 65536 in
set_option maxHeartbeats 40000000 in
theorem rm16 (l : Launch) (Z : State) (a0 : Array Value) (hw : ∀ d ∈ tables_1, d.before a0 Z = true) (ws : List Jvm.Cond) {m_OA : Addr} {w_EMPTY_ELEMENTDATA : Addr} {w_DEFAULTCAPACITY_EMPTY_ELEMENTDATA : Addr} {w_EMPTY_LIST : Addr} {w_EMPTY_LIST_elements : Addr} {w_EMPTY : Addr} {k_w_EMPTY_ELEMENTDATA : ClassId} {k_w_DEFAULTCAPACITY_EMPTY_ELEMENTDATA : ClassId} {k_w_EMPTY_LIST_elements : ClassId} (G : Glob Z m_OA w_EMPTY_ELEMENTDATA w_DEFAULTCAPACITY_EMPTY_ELEMENTDATA w_EMPTY_LIST w_EMPTY_LIST_elements w_EMPTY k_w_EMPTY_ELEMENTDATA k_w_DEFAULTCAPACITY_EMPTY_ELEMENTDATA k_w_EMPTY_LIST_elements) (a1 : Addr) (a2 : Addr) (a3 : Addr) (k4 : ClassId) (h0 : Heap) (n0 : Nat) (O0 : Old Z n0 h0) (V_a3 : Arv Z h0 a3 k4 (.object "java/lang/Object") (0 : Int32) [] .null) (E_a1 : Exa Z h0 a1 "java/util/ArrayList") (F_size_a1 : Fld Z h0 a1 "java/util/ArrayList" "size" "I" (.int (0 : Int32))) (F_elementData_a1 : Fld Z h0 a1 "java/util/ArrayList" "elementData" "[Ljava/lang/Object;" (.ref a3)) (E_a3 : Exa Z h0 a3 "[Ljava/lang/Object;") (hc_1 : a3 = w_DEFAULTCAPACITY_EMPTY_ELEMENTDATA) (g_a1 : n0 ≤ a1) (E_a2 : Exa Z h0 a2 "com/example/curtail/curtail/Placement$Cell") :
    MetFree l (⟨"java/util/ArrayList", "add", "(Ljava/lang/Object;[Ljava/lang/Object;I)V"⟩ : MethodName) (head1 (Jvm.Cond.code (⟨"java/util/ArrayList", "add", "(Ljava/lang/Object;[Ljava/lang/Object;I)V"⟩ : MethodName) jdk_38_method_24_code 4 none :: ws) ({ frames := 3, cells := 1, slots := 10, locals := 41 } : Room)) (fun a U => a = #[(.ref a1), (.ref a2), (.ref a3), (.int (0 : Int32))] ∧ Z.Warmed39 U.vm ∧ U.heap = h0) (fun _ _ _ _ _ => True) (fun _ U o U' => ∃ v L, o = .returned v ∧ Q16 Z m_OA w_EMPTY_ELEMENTDATA w_DEFAULTCAPACITY_EMPTY_ELEMENTDATA w_EMPTY_LIST w_EMPTY_LIST_elements w_EMPTY k_w_EMPTY_ELEMENTDATA k_w_DEFAULTCAPACITY_EMPTY_ELEMENTDATA k_w_EMPTY_LIST_elements a1 a2 a3 k4 h0 n0 v U'.heap L ∧ FrameEnd U o U' L ({ frames := 3, cells := 1, slots := 10, locals := 41 } : Room).cells ({ frames := 3, cells := 1, slots := 10, locals := 41 } : Room).slots) := by
  refine MetFree.of_bodySF (plainFor_of_name pn_java_util_ArrayList) hisR ?_
  intro p e s m args below meth c s₁ Bd hml0 hP hK
  obtain ⟨rfl, hZ, hh⟩ := hP
  have hx := Bd.exec
  have hby := Bd.bytes
  have hml : c.maxLocals = 4 := hml0
  have hown : s.vm.findClass "java/util/ArrayList" = some m.cls := findClass_of_methodNamed Bd.named
  have hnm := (name_of_methodNamed Bd.named Bd.method).1
  have X0 : Stand p l e ({ frames := 3, cells := 1, slots := 10, locals := 41 } : Room) s m #[(.ref a1), (.ref a2), (.ref a3), (.int (0 : Int32))] below meth c s₁ [] 0 0 := Stand.of_body Bd
  have e0 : s₁.heap = h0 := by rw [← hh, Bd.state]; rfl
  have N0 := Fr.nil n0
  show OGot p.tables e below (s₁.setTop (entryFrame m #[(.ref a1), (.ref a2), (.ref a3), (.int (0 : Int32))] 4)) _
  refine OGot.go (fun t k => castTop (ef16 m a1 a2 a3) k) ?_
  show OGot p.tables e below (s₁.setTop (mkF m 0 #[.val (.ref a1), .val (.ref a2), .val (.ref a3), .val (.int (0 : Int32))] [])) _
  refine OGot.go (fun t k => XS.iloadN X0.here hx rfl (hb hby d16_0) rfl k) ?_
  refine OGot.go (fun t k => XS.aloadN X0.here hx rfl (hb hby d16_1) rfl rfl k) ?_
  obtain ⟨cl5, Ar5, -, Sz5, Ng5, -, -⟩ := id (V_a3)
  refine OGot.go (fun t k => X0.arraylength hx (by rw [e0]; exact Ar5.1) (State.isArrayOf_alike hZ.alike Ar5.2.1) (g := (mkF m 2 #[.val (.ref a1), .val (.ref a2), .val (.ref a3), .val (.int (0 : Int32))] [(.ref a3), (.int (0 : Int32))])) rfl rfl (hb hby d16_2) _ k) ?_
  rw [len_of Sz5 Ng5]
  refine OGot.go (fun t k => XS.icmpNo X0.here hx rfl (hb hby d16_3) rfl (by decide) k) ?_
  refine OGot.go (fun t k => XS.aloadN X0.here hx rfl (hb hby d16_6) rfl rfl k) ?_
  show OGot p.tables e below (s₁.setTop (mkF m 7 #[.val (.ref a1), .val (.ref a2), .val (.ref a3), .val (.int (0 : Int32))] [(.ref a1)])) _
  obtain ⟨cq6, q6, q6'⟩ := E_a1.cell
  obtain ⟨_, _, ⟨T6, L6, k6, n6⟩, -, X6, ⟨Lc6, hQ6, l6, y6, z6⟩, st6⟩ := X0.privateBack hx (y := (⟨"java/util/ArrayList", "grow", "()[Ljava/lang/Object;"⟩ : MethodName)) hown (mvT hZ (ow hw 119 rfl)) (mvT hZ (ow hw 120 rfl)) (mvT hZ (ow hw 122 rfl)) (Cond.privateMethod_at (mvP hZ (ow hw 121 rfl) (args := #[]))) (mvT hZ (ow hw 123 rfl)) (by decide) (backOf (W := 0) (rm17 l Z a0 hw [] G a1 a3 k4 h0 n0 O0 F_size_a1 E_a1 F_elementData_a1 V_a3 E_a3 hc_1 g_a1) hZ (ow hw 123 rfl) (ow hw 5 rfl) (by decide) (by decide)) (g := (mkF m 7 #[.val (.ref a1), .val (.ref a2), .val (.ref a3), .val (.int (0 : Int32))] [(.ref a1)])) rfl (by rw [hml]; rfl) (Steps.refl _) (a := a1) (by rw [e0]; exact q6) q6' (argsL := []) (rest := []) (lenOf pd_9 rfl) rfl (by show 2 * 0 + _ ≤ _; exact Nat.le_of_eq rfl) (hb hby d16_7) (fun _ _ => ⟨rfl, e0, (by decide : 0 + 1 ≤ _), (by decide : 0 + 10 ≤ _)⟩)
  dsimp only [Pt.U, Pt.locs, Pt.cells, Pt.slots] at X6 l6 y6 z6 st6 hQ6
  subst l6 y6 z6
  obtain ⟨N6q, b9_5_6, k9_5_6, rfl, szb9_5_6_6, K6, Fo6_0, Fo6_1, Fo6_2, Fo6_3⟩ := hQ6
  have g_b9_5_6 : n0 ≤ b9_5_6 := Nat.le_trans (osz O0) szb9_5_6_6
  have sz_b9_5_6 : h0.size ≤ b9_5_6 := Nat.le_trans (OKeep.refl h0 [(a1, Jvm.RoadKit.slotOf Z "java/util/ArrayList" "elementData" "[Ljava/lang/Object;"), (a1, Jvm.RoadKit.slotOf Z "java/util/ArrayList" "size" "I")]).1 szb9_5_6_6
  have Kc6 := (OKeep.refl h0 [(a1, Jvm.RoadKit.slotOf Z "java/util/ArrayList" "elementData" "[Ljava/lang/Object;"), (a1, Jvm.RoadKit.slotOf Z "java/util/ArrayList" "size" "I")]).trans K6 (oinS (Or.inl (List.mem_of_getElem? (i := 0) rfl)) oin0)
  have O6 := OKeep.old O0 K6 (ogeS g_a1 oge0)
  have N6 := Fr.app N0 N6q
  refine OGot.on st6 ?_
  refine OGot.go (fun t k => XS.astoreN X6.here hx rfl (hb hby d16_10) rfl rfl (l' := #[.val (.ref a1), .val (.ref a2), .val (.ref b9_5_6), .val (.int (0 : Int32))]) rfl k) ?_
  refine OGot.go (fun t k => XS.aloadN X6.here hx rfl (hb hby d16_11) rfl rfl k) ?_
  refine OGot.go (fun t k => XS.iloadN X6.here hx rfl (hb hby d16_12) rfl k) ?_
  refine OGot.go (fun t k => XS.aloadN X6.here hx rfl (hb hby d16_13) rfl rfl k) ?_
  show OGot p.tables e below (T6.setTop (mkF m 14 #[.val (.ref a1), .val (.ref a2), .val (.ref b9_5_6), .val (.int (0 : Int32))] [(.ref a2), (.int (0 : Int32)), (.ref b9_5_6)])) _
  obtain ⟨cl7, Ar7, qc7, Sz7, Ng7, Hh7, Gg7⟩ := id (Fo6_2)
  have hin7 : ¬ ((0 : Int32) < 0 ∨ cl7.slots.size ≤ ((0 : Int32)).toNatClampNeg) := inb_of Sz7 ⟨by decide, by decide⟩
  obtain ⟨T7, h7, X7, e7, W7, st7⟩ := stR X6 hx hZ rfl Ar7 (j := (0 : Int32)) hin7 rfl (Sto.ofV Ar7 qc7 Fo6_3 (Ins.of_exa (OKeep.exa E_a2 K6) (ow hw 135 rfl))) (g := (mkF m 14 #[.val (.ref a1), .val (.ref a2), .val (.ref b9_5_6), .val (.int (0 : Int32))] [(.ref a2), (.int (0 : Int32)), (.ref b9_5_6)])) rfl rfl (hb hby d16_14)
  refine OGot.go st7 ?_
  have N7 := Fr.snoc X7 N6 g_b9_5_6
  have O7 := O6.wr W7 g_b9_5_6
  have K7 := Kc6.wr W7 (Or.inr sz_b9_5_6)
  have Va7 : Arv Z h7 b9_5_6 k9_5_6 (.object "java/lang/Object") (10 : Int32) [(.ref a2), .null, .null, .null, .null, .null, .null, .null, .null, .null] .null := Arv.set Ar7 qc7 Sz7 Ng7 Hh7 Gg7 rfl W7 0 rfl (Nat.le_of_ble_eq_true rfl)
  refine OGot.go (fun t k => XS.aloadN X7.here hx rfl (hb hby d16_15) rfl rfl k) ?_
  refine OGot.go (fun t k => XS.iloadN X7.here hx rfl (hb hby d16_16) rfl k) ?_
  refine OGot.go (fun t k => XS.iconst X7.here hx rfl (hb hby d16_17) k) ?_
  refine OGot.go (fun t k => XS.iadd X7.here hx rfl (hb hby d16_18) rfl k) ?_
  show OGot p.tables e below (T7.setTop (mkF m 19 #[.val (.ref a1), .val (.ref a2), .val (.ref b9_5_6), .val (.int (0 : Int32))] [(.int ((0 : Int32) + (1 : Int32))), (.ref a1)])) _
  rw [show ((0 : Int32) + (1 : Int32)) = (1 : Int32) from by decide]
  show OGot p.tables e below (T7.setTop (mkF m 19 #[.val (.ref a1), .val (.ref a2), .val (.ref b9_5_6), .val (.int (0 : Int32))] [(.int (1 : Int32)), (.ref a1)])) _
  have ne8 : a1 ≠ b9_5_6 := (Nat.ne_of_lt (Nat.lt_of_lt_of_le F_size_a1.lt szb9_5_6_6))
  have F9 : Fld Z h7 a1 "java/util/ArrayList" "size" "I" (.int (0 : Int32)) := ((OKeep.fld F_size_a1 K6 (oninS (slot_ne (Or.inl (ow hw 62 rfl)) (Or.inl (ow hw 28 rfl)) (by decide) (t := .int) (t' := (.array (.object "java/lang/Object"))) (by decide) (by decide)) onin0)).other W7 (Or.inl ne8))
  obtain ⟨T10, h10, X10, e10, W10, st10⟩ := putF X7 hx hZ hown (host := "") (Or.inl (ow hw 61 rfl)) Via.refl e7 F9 ((OKeep.exa E_a1 K6).wr W7) (Or.inl (ow hw 62 rfl)) (ow hw 4 rfl) (ty := .int) (by decide) rfl rfl (g := (mkF m 19 #[.val (.ref a1), .val (.ref a2), .val (.ref b9_5_6), .val (.int (0 : Int32))] [(.int (1 : Int32)), (.ref a1)])) rfl rfl (hb hby d16_19)
  refine OGot.go st10 ?_
  have N10 := Fr.snoc X10 N7 g_a1
  have O10 := O7.wr W10 g_a1
  have K10 := K7.wr W10 (Or.inl (List.mem_of_getElem? (i := 1) rfl))
  have Fw10 : Fld Z h10 a1 "java/util/ArrayList" "size" "I" (.int (1 : Int32)) := F9.same W10
  show OGot p.tables e below (T10.setTop (mkF m 22 #[.val (.ref a1), .val (.ref a2), .val (.ref b9_5_6), .val (.int (0 : Int32))] [])) _
  obtain ⟨fs, hr, hrun, hended, hW, hsame⟩ := X10.leave (v := none) (fun _ => rfl)
  refine ⟨_, _, X10.returnOut hx Bd.returns (hb hby d16_22) hr, hrun, hended, _, _, rfl, ?_, ⟨_, rfl⟩, hW, hsame.mono (by decide) (by decide)⟩
  have F11 : Fld Z h10 a1 "java/util/ArrayList" "elementData" "[Ljava/lang/Object;" (.ref b9_5_6) := ((Fo6_0.other W7 (Or.inl ne8)).other W10 (Or.inr (slot_ne (Or.inl (ow hw 28 rfl)) (Or.inl (ow hw 62 rfl)) (by decide) (t := (.array (.object "java/lang/Object"))) (t' := .int) (by decide) (by decide))))
  have F12 : Arv Z h10 b9_5_6 k9_5_6 (.object "java/lang/Object") (10 : Int32) [(.ref a2), .null, .null, .null, .null, .null, .null, .null, .null, .null] .null := (Va7.other W10 (Ne.symm ne8))
  show Q16 Z m_OA w_EMPTY_ELEMENTDATA w_DEFAULTCAPACITY_EMPTY_ELEMENTDATA w_EMPTY_LIST w_EMPTY_LIST_elements w_EMPTY k_w_EMPTY_ELEMENTDATA k_w_DEFAULTCAPACITY_EMPTY_ELEMENTDATA k_w_EMPTY_LIST_elements a1 a2 a3 k4 h0 n0 _ T10.heap _
  rw [e10]
  exact ⟨N10, b9_5_6, k9_5_6, rfl, sz_b9_5_6, K10, F11, Fw10, ((Fo6_1.wr W7).wr W10), F12, Fo6_3⟩
theorem pd_10 : parseMethodDescriptor "(Ljava/lang/Object;[Ljava/lang/Object;I)V" = some ⟨[(.object "java/lang/Object"), (.array (.object "java/lang/Object")), .int], none⟩ := by decide +kernel
theorem d15_23 : decode jdk_38_method_25_code 23 = .ok (.iconst 1, 1) := by decide +kernel
theorem d15_24 : decode jdk_38_method_25_code 24 = .ok (.ireturn, 1) := by decide +kernel
def Q15 (Z : State) (m_OA : Addr) (w_EMPTY_ELEMENTDATA : Addr) (w_DEFAULTCAPACITY_EMPTY_ELEMENTDATA : Addr) (w_EMPTY_LIST : Addr) (w_EMPTY_LIST_elements : Addr) (w_EMPTY : Addr) (k_w_EMPTY_ELEMENTDATA : ClassId) (k_w_DEFAULTCAPACITY_EMPTY_ELEMENTDATA : ClassId) (k_w_EMPTY_LIST_elements : ClassId) (a1 : Addr) (a2 : Addr) (a5 : Addr) (k10 : ClassId) (h0 : Heap) (n0 : Nat) (v : Option Value) (h : Heap) (L : List Loc) : Prop := Fr n0 L ∧ ∃ b9_5_6_11 : Addr, ∃ k9_5_6_11 : ClassId, v = some (.int (1 : Int32)) ∧ h0.size ≤ b9_5_6_11 ∧ OKeep h0 h [(a1, Jvm.RoadKit.slotOf Z "java/util/AbstractList" "modCount" "I"), (a1, Jvm.RoadKit.slotOf Z "java/util/ArrayList" "size" "I"), (a1, Jvm.RoadKit.slotOf Z "java/util/ArrayList" "elementData" "[Ljava/lang/Object;")] ∧ Fld Z h a1 "java/util/AbstractList" "modCount" "I" (.int (1 : Int32)) ∧ Fld Z h a1 "java/util/ArrayList" "size" "I" (.int (1 : Int32)) ∧ Fld Z h a1 "java/util/ArrayList" "elementData" "[Ljava/lang/Object;" (.ref b9_5_6_11) ∧ Exa Z h b9_5_6_11 "[Ljava/lang/Object;" ∧ Arv Z h b9_5_6_11 k9_5_6_11 (.object "java/lang/Object") (10 : Int32) [(.ref a2), .null, .null, .null, .null, .null, .null, .null, .null, .null] .null ∧ Ovr Z k9_5_6_11 "java/lang/Object"
theorem ef15 (m : MethodId) (x0 : Addr) (x1 : Addr) : entryFrame m #[(.ref x0), (.ref x1)] 2 = mkF m 0 #[.val (.ref x0), .val (.ref x1)] [] := by first | (simp [entryFrame, mkF, argsToLocals, Value.category]; done) | rfl
set_option maxRecDepth 65536 in
set_option maxHeartbeats 40000000 in
theorem rm15 (l : Launch) (Z : State) (a0 : Array Value) (hw : ∀ d ∈ tables_1, d.before a0 Z = true) (ws : List Jvm.Cond) {m_OA : Addr} {w_EMPTY_ELEMENTDATA : Addr} {w_DEFAULTCAPACITY_EMPTY_ELEMENTDATA : Addr} {w_EMPTY_LIST : Addr} {w_EMPTY_LIST_elements : Addr} {w_EMPTY : Addr} {k_w_EMPTY_ELEMENTDATA : ClassId} {k_w_DEFAULTCAPACITY_EMPTY_ELEMENTDATA : ClassId} {k_w_EMPTY_LIST_elements : ClassId} (G : Glob Z m_OA w_EMPTY_ELEMENTDATA w_DEFAULTCAPACITY_EMPTY_ELEMENTDATA w_EMPTY_LIST w_EMPTY_LIST_elements w_EMPTY k_w_EMPTY_ELEMENTDATA k_w_DEFAULTCAPACITY_EMPTY_ELEMENTDATA k_w_EMPTY_LIST_elements) (a1 : Addr) (a2 : Addr) (a5 : Addr) (k10 : ClassId) (h0 : Heap) (n0 : Nat) (O0 : Old Z n0 h0) (F_modCount_a1 : Fld Z h0 a1 "java/util/AbstractList" "modCount" "I" (.int (0 : Int32))) (E_a1 : Exa Z h0 a1 "java/util/ArrayList") (g_a1 : n0 ≤ a1) (F_elementData_a1 : Fld Z h0 a1 "java/util/ArrayList" "elementData" "[Ljava/lang/Object;" (.ref a5)) (F_size_a1 : Fld Z h0 a1 "java/util/ArrayList" "size" "I" (.int (0 : Int32))) (V_a5 : Arv Z h0 a5 k10 (.object "java/lang/Object") (0 : Int32) [] .null) (E_a5 : Exa Z h0 a5 "[Ljava/lang/Object;") (hc_1 : a5 = w_DEFAULTCAPACITY_EMPTY_ELEMENTDATA) (E_a2 : Exa Z h0 a2 "com/example/curtail/curtail/Placement$Cell") (ne_a5_a1 : a5 ≠ a1) :
    MetFree l (⟨"java/util/ArrayList", "add", "(Ljava/lang/Object;)Z"⟩ : MethodName) (head1 (Jvm.Cond.code (⟨"java/util/ArrayList", "add", "(Ljava/lang/Object;)Z"⟩ : MethodName) jdk_38_method_25_code 2 (some .boolean) :: ws) ({ frames := 4, cells := 1, slots := 10, locals := 56 } : Room)) (fun a U => a = #[(.ref a1), (.ref a2)] ∧ Z.Warmed39 U.vm ∧ U.heap = h0) (fun _ _ _ _ _ => True) (fun _ U o U' => ∃ v L, o = .returned v ∧ Q15 Z m_OA w_EMPTY_ELEMENTDATA w_DEFAULTCAPACITY_EMPTY_ELEMENTDATA w_EMPTY_LIST w_EMPTY_LIST_elements w_EMPTY k_w_EMPTY_ELEMENTDATA k_w_DEFAULTCAPACITY_EMPTY_ELEMENTDATA k_w_EMPTY_LIST_elements a1 a2 a5 k10 h0 n0 v U'.heap L ∧ FrameEnd U o U' L ({ frames := 4, cells := 1, slots := 10, locals := 56 } : Room).cells ({ frames := 4, cells := 1, slots := 10, locals := 56 } : Room).slots) := by
  refine MetFree.of_bodySF (plainFor_of_name pn_java_util_ArrayList) hisR ?_
  intro p e s m args below meth c s₁ Bd hml0 hP hK
  obtain ⟨rfl, hZ, hh⟩ := hP
  have hx := Bd.exec
  have hby := Bd.bytes
  have hml : c.maxLocals = 2 := hml0
  have hown : s.vm.findClass "java/util/ArrayList" = some m.cls := findClass_of_methodNamed Bd.named
  have hnm := (name_of_methodNamed Bd.named Bd.method).1
  have X0 : Stand p l e ({ frames := 4, cells := 1, slots := 10, locals := 56 } : Room) s m #[(.ref a1), (.ref a2)] below meth c s₁ [] 0 0 := Stand.of_body Bd
  have e0 : s₁.heap = h0 := by rw [← hh, Bd.state]; rfl
  have N0 := Fr.nil n0
  show OGot p.tables e below (s₁.setTop (entryFrame m #[(.ref a1), (.ref a2)] 2)) _
  refine OGot.go (fun t k => castTop (ef15 m a1 a2) k) ?_
  show OGot p.tables e below (s₁.setTop (mkF m 0 #[.val (.ref a1), .val (.ref a2)] [])) _
  refine OGot.go (fun t k => XS.aloadN X0.here hx rfl (hb hby d15_0) rfl rfl k) ?_
  refine OGot.go (fun t k => XS.dup X0.here hx rfl (hb hby d15_1) rfl rfl k) ?_
  obtain ⟨T3, X3, e3, st3⟩ := getF X0 hx hZ hown (host := "") (Or.inl (ow hw 112 rfl)) (Via.of (ow hw 113 rfl)) e0 F_modCount_a1 (g := (mkF m 2 #[.val (.ref a1), .val (.ref a2)] [(.ref a1), (.ref a1)])) rfl rfl (hb hby d15_2)
  refine OGot.go st3 ?_
  refine OGot.go (fun t k => XS.iconst X3.here hx rfl (hb hby d15_5) k) ?_
  refine OGot.go (fun t k => XS.iadd X3.here hx rfl (hb hby d15_6) rfl k) ?_
  show OGot p.tables e below (T3.setTop (mkF m 7 #[.val (.ref a1), .val (.ref a2)] [(.int ((0 : Int32) + (1 : Int32))), (.ref a1)])) _
  rw [show ((0 : Int32) + (1 : Int32)) = (1 : Int32) from by decide]
  show OGot p.tables e below (T3.setTop (mkF m 7 #[.val (.ref a1), .val (.ref a2)] [(.int (1 : Int32)), (.ref a1)])) _
  obtain ⟨T4, h4, X4, e4, W4, st4⟩ := putF X3 hx hZ hown (host := "") (Or.inl (ow hw 112 rfl)) (Via.of (ow hw 113 rfl)) e3 F_modCount_a1 E_a1 (Or.inl (ow hw 25 rfl)) (ow hw 4 rfl) (ty := .int) (by decide) rfl rfl (g := (mkF m 7 #[.val (.ref a1), .val (.ref a2)] [(.int (1 : Int32)), (.ref a1)])) rfl rfl (hb hby d15_7)
  refine OGot.go st4 ?_
  have N4 := Fr.snoc X4 N0 g_a1
  have O4 := O0.wr W4 g_a1
  have K4 := (OKeep.refl h0 [(a1, Jvm.RoadKit.slotOf Z "java/util/AbstractList" "modCount" "I"), (a1, Jvm.RoadKit.slotOf Z "java/util/ArrayList" "size" "I"), (a1, Jvm.RoadKit.slotOf Z "java/util/ArrayList" "elementData" "[Ljava/lang/Object;")]).wr W4 (Or.inl (List.mem_of_getElem? (i := 0) rfl))
  have Fw4 : Fld Z h4 a1 "java/util/AbstractList" "modCount" "I" (.int (1 : Int32)) := F_modCount_a1.same W4
  refine OGot.go (fun t k => XS.aloadN X4.here hx rfl (hb hby d15_10) rfl rfl k) ?_
  refine OGot.go (fun t k => XS.aloadN X4.here hx rfl (hb hby d15_11) rfl rfl k) ?_
  refine OGot.go (fun t k => XS.aloadN X4.here hx rfl (hb hby d15_12) rfl rfl k) ?_
  have F6 : Fld Z h4 a1 "java/util/ArrayList" "elementData" "[Ljava/lang/Object;" (.ref a5) := (F_elementData_a1.other W4 (Or.inr (slot_ne (Or.inl (ow hw 28 rfl)) (Or.inl (ow hw 25 rfl)) (by decide) (t := (.array (.object "java/lang/Object"))) (t' := .int) (by decide) (by decide))))
  obtain ⟨T7, X7, e7, st7⟩ := getF X4 hx hZ hown (host := "") (Or.inl (ow hw 27 rfl)) Via.refl e4 F6 (g := (mkF m 13 #[.val (.ref a1), .val (.ref a2)] [(.ref a1), (.ref a2), (.ref a1)])) rfl rfl (hb hby d15_13)
  refine OGot.go st7 ?_
  show OGot p.tables e below (T7.setTop (mkF m 16 #[.val (.ref a1), .val (.ref a2)] [(.ref a5), (.ref a2), (.ref a1)])) _
  refine OGot.go (fun t k => XS.aloadN X7.here hx rfl (hb hby d15_16) rfl rfl k) ?_
  have F8 : Fld Z h4 a1 "java/util/ArrayList" "size" "I" (.int (0 : Int32)) := (F_size_a1.other W4 (Or.inr (slot_ne (Or.inl (ow hw 62 rfl)) (Or.inl (ow hw 25 rfl)) (by decide) (t := .int) (t' := .int) (by decide) (by decide))))
  obtain ⟨T9, X9, e9, st9⟩ := getF X7 hx hZ hown (host := "") (Or.inl (ow hw 61 rfl)) Via.refl e7 F8 (g := (mkF m 17 #[.val (.ref a1), .val (.ref a2)] [(.ref a1), (.ref a5), (.ref a2), (.ref a1)])) rfl rfl (hb hby d15_17)
  refine OGot.go st9 ?_
  have ne12 : a5 ≠ a1 := ne_a5_a1
  have F13 : Arv Z h4 a5 k10 (.object "java/lang/Object") (0 : Int32) [] .null := (V_a5.other W4 ne12)
  obtain ⟨cq11, q11, q11'⟩ := (E_a1.wr W4).cell
  obtain ⟨_, _, ⟨T11, L11, k11, n11⟩, -, X11, ⟨Lc11, hQ11, l11, y11, z11⟩, st11⟩ := X9.privateBack hx (y := (⟨"java/util/ArrayList", "add", "(Ljava/lang/Object;[Ljava/lang/Object;I)V"⟩ : MethodName)) hown (mvT hZ (ow hw 114 rfl)) (mvT hZ (ow hw 115 rfl)) (mvT hZ (ow hw 117 rfl)) (Cond.privateMethod_at (mvP hZ (ow hw 116 rfl) (args := #[]))) (mvT hZ (ow hw 118 rfl)) (by decide) (backOf (W := 0) (rm16 l Z a0 hw [] G a1 a2 a5 k10 h4 n0 O4 F13 (E_a1.wr W4) F8 F6 (E_a5.wr W4) hc_1 g_a1 (E_a2.wr W4)) hZ (ow hw 118 rfl) (ow hw 5 rfl) (by decide) (by decide)) (g := (mkF m 20 #[.val (.ref a1), .val (.ref a2)] [(.int (0 : Int32)), (.ref a5), (.ref a2), (.ref a1)])) rfl (by rw [hml]; rfl) (Steps.refl _) (a := a1) (by rw [e9]; exact q11) q11' (argsL := [(.ref a2), (.ref a5), (.int (0 : Int32))]) (rest := []) (lenOf pd_10 rfl) rfl (by show 2 * 0 + _ ≤ _; exact Nat.le_of_eq rfl) (hb hby d15_20) (fun _ _ => ⟨rfl, e9, (by decide : 0 + 1 ≤ _), (by decide : 0 + 10 ≤ _)⟩)
  dsimp only [Pt.U, Pt.locs, Pt.cells, Pt.slots] at X11 l11 y11 z11 st11 hQ11
  subst l11 y11 z11
  obtain ⟨N11q, b9_5_6_11, k9_5_6_11, rfl, szb9_5_6_11_11, K11, Fo11_0, Fo11_1, Fo11_2, Fo11_3, Fo11_4⟩ := hQ11
  have g_b9_5_6_11 : n0 ≤ b9_5_6_11 := Nat.le_trans (osz O4) szb9_5_6_11_11
  have sz_b9_5_6_11 : h0.size ≤ b9_5_6_11 := Nat.le_trans K4.1 szb9_5_6_11_11
  have Kc11 := K4.trans K11 (oinS (Or.inl (List.mem_of_getElem? (i := 2) rfl)) (oinS (Or.inl (List.mem_of_getElem? (i := 1) rfl)) oin0))
  have O11 := OKeep.old O4 K11 (ogeS g_a1 (ogeS g_a1 oge0))
  have N11 := Fr.app N4 N11q
  refine OGot.on st11 ?_
  refine OGot.go (fun t k => XS.iconst X11.here hx rfl (hb hby d15_23) k) ?_
  show OGot p.tables e below (T11.setTop (mkF m 24 #[.val (.ref a1), .val (.ref a2)] [(.int (1 : Int32))])) _
  obtain ⟨fs, hr, hrun, hended, hW, hsame⟩ := X11.leave (v := some (.int (1 : Int32))) (fun h => by rw [Bd.returns] at h; cases h)
  refine ⟨_, _, retN X11 hx (t := .boolean) Bd.returns (by simp) (hb hby d15_24) hr, hrun, hended, _, _, rfl, ?_, ⟨_, rfl⟩, hW, hsame.mono (by decide) (by decide)⟩
  have F14 : Fld Z T11.heap a1 "java/util/AbstractList" "modCount" "I" (.int (1 : Int32)) := (OKeep.fld Fw4 K11 (oninS (slot_ne (Or.inl (ow hw 25 rfl)) (Or.inl (ow hw 28 rfl)) (by decide) (t := .int) (t' := (.array (.object "java/lang/Object"))) (by decide) (by decide)) (oninS (slot_ne (Or.inl (ow hw 25 rfl)) (Or.inl (ow hw 62 rfl)) (by decide) (t := .int) (t' := .int) (by decide) (by decide)) onin0)))
  show Q15 Z m_OA w_EMPTY_ELEMENTDATA w_DEFAULTCAPACITY_EMPTY_ELEMENTDATA w_EMPTY_LIST w_EMPTY_LIST_elements w_EMPTY k_w_EMPTY_ELEMENTDATA k_w_DEFAULTCAPACITY_EMPTY_ELEMENTDATA k_w_EMPTY_LIST_elements a1 a2 a5 k10 h0 n0 _ T11.heap _
  exact ⟨N11, b9_5_6_11, k9_5_6_11, rfl, sz_b9_5_6_11, Kc11, F14, Fo11_1, Fo11_0, Fo11_2, Fo11_3, Fo11_4⟩
theorem pd_11 : parseMethodDescriptor "(Ljava/lang/Object;)Z" = some ⟨[(.object "java/lang/Object")], some .boolean⟩ := by decide +kernel
theorem d9_11 : decode jdk_38_method_9_code 11 = .ok (.iconst 0, 1) := by decide +kernel
def Q9_1 (Z : State) (m_OA : Addr) (w_EMPTY_ELEMENTDATA : Addr) (w_DEFAULTCAPACITY_EMPTY_ELEMENTDATA : Addr) (w_EMPTY_LIST : Addr) (w_EMPTY_LIST_elements : Addr) (w_EMPTY : Addr) (k_w_EMPTY_ELEMENTDATA : ClassId) (k_w_DEFAULTCAPACITY_EMPTY_ELEMENTDATA : ClassId) (k_w_EMPTY_LIST_elements : ClassId) (a1 : Addr) (h0 : Heap) (n0 : Nat) (v : Option Value) (h : Heap) (L : List Loc) : Prop := v = some (.int (0 : Int32)) ∧ Fr n0 L ∧ h = h0
theorem ef9_1 (m : MethodId) (x0 : Addr) : entryFrame m #[(.ref x0)] 1 = mkF m 0 #[.val (.ref x0)] [] := by first | (simp [entryFrame, mkF, argsToLocals, Value.category]; done) | rfl
set_option maxRecDepth 65536 in
set_option maxHeartbeats 40000000 in
theorem rm9_1 (l : Launch) (Z : State) (a0 : Array Value) (hw : ∀ d ∈ tables_1, d.before a0 Z = true) (ws : List Jvm.Cond) {m_OA : Addr} {w_EMPTY_ELEMENTDATA : Addr} {w_DEFAULTCAPACITY_EMPTY_ELEMENTDATA : Addr} {w_EMPTY_LIST : Addr} {w_EMPTY_LIST_elements : Addr} {w_EMPTY : Addr} {k_w_EMPTY_ELEMENTDATA : ClassId} {k_w_DEFAULTCAPACITY_EMPTY_ELEMENTDATA : ClassId} {k_w_EMPTY_LIST_elements : ClassId} (G : Glob Z m_OA w_EMPTY_ELEMENTDATA w_DEFAULTCAPACITY_EMPTY_ELEMENTDATA w_EMPTY_LIST w_EMPTY_LIST_elements w_EMPTY k_w_EMPTY_ELEMENTDATA k_w_DEFAULTCAPACITY_EMPTY_ELEMENTDATA k_w_EMPTY_LIST_elements) (a1 : Addr) (h0 : Heap) (n0 : Nat) (O0 : Old Z n0 h0) (F_size_a1 : Fld Z h0 a1 "java/util/ArrayList" "size" "I" (.int (1 : Int32))) :
    MetFree l (⟨"java/util/ArrayList", "isEmpty", "()Z"⟩ : MethodName) (head1 (Jvm.Cond.code (⟨"java/util/ArrayList", "isEmpty", "()Z"⟩ : MethodName) jdk_38_method_9_code 1 (some .boolean) :: ws) ({ frames := 0, cells := 0, slots := 0, locals := 0 } : Room)) (fun a U => a = #[(.ref a1)] ∧ Z.Warmed39 U.vm ∧ U.heap = h0) (fun _ _ _ _ _ => True) (fun _ U o U' => ∃ v L, o = .returned v ∧ Q9_1 Z m_OA w_EMPTY_ELEMENTDATA w_DEFAULTCAPACITY_EMPTY_ELEMENTDATA w_EMPTY_LIST w_EMPTY_LIST_elements w_EMPTY k_w_EMPTY_ELEMENTDATA k_w_DEFAULTCAPACITY_EMPTY_ELEMENTDATA k_w_EMPTY_LIST_elements a1 h0 n0 v U'.heap L ∧ FrameEnd U o U' L ({ frames := 0, cells := 0, slots := 0, locals := 0 } : Room).cells ({ frames := 0, cells := 0, slots := 0, locals := 0 } : Room).slots) := by
  refine MetFree.of_bodySF (plainFor_of_name pn_java_util_ArrayList) hisR ?_
  intro p e s m args below meth c s₁ Bd hml0 hP hK
  obtain ⟨rfl, hZ, hh⟩ := hP
  have hx := Bd.exec
  have hby := Bd.bytes
  have hml : c.maxLocals = 1 := hml0
  have hown : s.vm.findClass "java/util/ArrayList" = some m.cls := findClass_of_methodNamed Bd.named
  have hnm := (name_of_methodNamed Bd.named Bd.method).1
  have X0 : Stand p l e ({ frames := 0, cells := 0, slots := 0, locals := 0 } : Room) s m #[(.ref a1)] below meth c s₁ [] 0 0 := Stand.of_body Bd
  have e0 : s₁.heap = h0 := by rw [← hh, Bd.state]; rfl
  have N0 := Fr.nil n0
  show OGot p.tables e below (s₁.setTop (entryFrame m #[(.ref a1)] 1)) _
  refine OGot.go (fun t k => castTop (ef9_1 m a1) k) ?_
  show OGot p.tables e below (s₁.setTop (mkF m 0 #[.val (.ref a1)] [])) _
  refine OGot.go (fun t k => XS.aloadN X0.here hx rfl (hb hby d9_0) rfl rfl k) ?_
  obtain ⟨T2, X2, e2, st2⟩ := getF X0 hx hZ hown (host := "") (Or.inl (ow hw 61 rfl)) Via.refl e0 F_size_a1 (g := (mkF m 1 #[.val (.ref a1)] [(.ref a1)])) rfl rfl (hb hby d9_1)
  refine OGot.go st2 ?_
  refine OGot.go (fun t k => XS.ifYes X2.here hx rfl (pc0 := 4) (pc' := 11) rfl (hb hby d9_4) rfl (by decide) (by decide) (by decide) k) ?_
  refine OGot.go (fun t k => XS.iconst X2.here hx rfl (hb hby d9_11) k) ?_
  show OGot p.tables e below (T2.setTop (mkF m 12 #[.val (.ref a1)] [(.int (0 : Int32))])) _
  obtain ⟨fs, hr, hrun, hended, hW, hsame⟩ := X2.leave (v := some (.int (0 : Int32))) (fun h => by rw [Bd.returns] at h; cases h)
  refine ⟨_, _, retN X2 hx (t := .boolean) Bd.returns (by simp) (hb hby d9_12) hr, hrun, hended, _, _, rfl, ?_, ⟨_, rfl⟩, hW, hsame.mono (by decide) (by decide)⟩
  exact (⟨rfl, N0, e2⟩ : Q9_1 Z m_OA w_EMPTY_ELEMENTDATA w_DEFAULTCAPACITY_EMPTY_ELEMENTDATA w_EMPTY_LIST w_EMPTY_LIST_elements w_EMPTY k_w_EMPTY_ELEMENTDATA k_w_DEFAULTCAPACITY_EMPTY_ELEMENTDATA k_w_EMPTY_LIST_elements a1 h0 n0 _ T2.heap _)
theorem d8_44 : decode jdk_56_method_3_code 44 = .ok (.aload_n 0, 1) := by decide +kernel
theorem d8_45 : decode jdk_56_method_3_code 45 = .ok (.invokeinterface 30 1, 5) := by decide +kernel
theorem d20_0 : decode jdk_38_method_16_code 0 = .ok (.aload_n 0, 1) := by decide +kernel
theorem d20_1 : decode jdk_38_method_16_code 1 = .ok (.getfield 9, 3) := by decide +kernel
theorem d20_4 : decode jdk_38_method_16_code 4 = .ok (.aload_n 0, 1) := by decide +kernel
theorem d20_5 : decode jdk_38_method_16_code 5 = .ok (.getfield 48, 3) := by decide +kernel
theorem d20_8 : decode jdk_38_method_16_code 8 = .ok (.invokestatic 66, 3) := by decide +kernel
theorem d21_0 : decode jdk_65_method_119_code 0 = .ok (.aload_n 0, 1) := by decide +kernel
theorem d21_1 : decode jdk_65_method_119_code 1 = .ok (.iload_n 1, 1) := by decide +kernel
theorem d21_2 : decode jdk_65_method_119_code 2 = .ok (.aload_n 0, 1) := by decide +kernel
theorem d21_3 : decode jdk_65_method_119_code 3 = .ok (.invokevirtual 86, 3) := by decide +kernel
theorem d21_6 : decode jdk_65_method_119_code 6 = .ok (.invokestatic 300, 3) := by decide +kernel
theorem d22_0 : decode jdk_65_method_120_code 0 = .ok (.aload_n 2, 1) := by decide +kernel
theorem d22_1 : decode jdk_65_method_120_code 1 = .ok (.ldc 110, 2) := by decide +kernel
theorem d22_3 : decode jdk_65_method_120_code 3 = .ok (.if_acmp .ne 10, 3) := by decide +kernel
theorem d22_6 : decode jdk_65_method_120_code 6 = .ok (.iload_n 1, 1) := by decide +kernel
theorem d22_7 : decode jdk_65_method_120_code 7 = .ok (.anewarray 2, 3) := by decide +kernel
theorem d22_10 : decode jdk_65_method_120_code 10 = .ok (.goto 14, 3) := by decide +kernel
theorem d22_24 : decode jdk_65_method_120_code 24 = .ok (.astore_n 3, 1) := by decide +kernel
theorem d22_25 : decode jdk_65_method_120_code 25 = .ok (.aload_n 0, 1) := by decide +kernel
theorem d22_26 : decode jdk_65_method_120_code 26 = .ok (.iconst 0, 1) := by decide +kernel
theorem d22_27 : decode jdk_65_method_120_code 27 = .ok (.aload_n 3, 1) := by decide +kernel
theorem d22_28 : decode jdk_65_method_120_code 28 = .ok (.iconst 0, 1) := by decide +kernel
theorem d22_29 : decode jdk_65_method_120_code 29 = .ok (.aload_n 0, 1) := by decide +kernel
theorem d22_30 : decode jdk_65_method_120_code 30 = .ok (.arraylength, 1) := by decide +kernel
theorem d22_31 : decode jdk_65_method_120_code 31 = .ok (.iload_n 1, 1) := by decide +kernel
theorem d22_32 : decode jdk_65_method_120_code 32 = .ok (.invokestatic 304, 3) := by decide +kernel
theorem d23_0 : decode jdk_29_method_69_code 0 = .ok (.iload_n 0, 1) := by decide +kernel
theorem d23_1 : decode jdk_29_method_69_code 1 = .ok (.iload_n 1, 1) := by decide +kernel
theorem d23_2 : decode jdk_29_method_69_code 2 = .ok (.if_icmp .gt 7, 3) := by decide +kernel
theorem d23_9 : decode jdk_29_method_69_code 9 = .ok (.iload_n 1, 1) := by decide +kernel
theorem d23_10 : decode jdk_29_method_69_code 10 = .ok (.ireturn, 1) := by decide +kernel
def Q23 (Z : State) (m_OA : Addr) (w_EMPTY_ELEMENTDATA : Addr) (w_DEFAULTCAPACITY_EMPTY_ELEMENTDATA : Addr) (w_EMPTY_LIST : Addr) (w_EMPTY_LIST_elements : Addr) (w_EMPTY : Addr) (k_w_EMPTY_ELEMENTDATA : ClassId) (k_w_DEFAULTCAPACITY_EMPTY_ELEMENTDATA : ClassId) (k_w_EMPTY_LIST_elements : ClassId)  (h0 : Heap) (n0 : Nat) (v : Option Value) (h : Heap) (L : List Loc) : Prop := v = some (.int (1 : Int32)) ∧ Fr n0 L ∧ h = h0
theorem ef23 (m : MethodId)  : entryFrame m #[(.int (10 : Int32)), (.int (1 : Int32))] 2 = mkF m 0 #[.val (.int (10 : Int32)), .val (.int (1 : Int32))] [] := by first | (simp [entryFrame, mkF, argsToLocals, Value.category]; done) | rfl
set_option maxRecDepth 65536 in
set_option maxHeartbeats 40000000 in
theorem rm23 (l : Launch) (Z : State) (a0 : Array Value) (hw : ∀ d ∈ tables_1, d.before a0 Z = true) (ws : List Jvm.Cond) {m_OA : Addr} {w_EMPTY_ELEMENTDATA : Addr} {w_DEFAULTCAPACITY_EMPTY_ELEMENTDATA : Addr} {w_EMPTY_LIST : Addr} {w_EMPTY_LIST_elements : Addr} {w_EMPTY : Addr} {k_w_EMPTY_ELEMENTDATA : ClassId} {k_w_DEFAULTCAPACITY_EMPTY_ELEMENTDATA : ClassId} {k_w_EMPTY_LIST_elements : ClassId} (G : Glob Z m_OA w_EMPTY_ELEMENTDATA w_DEFAULTCAPACITY_EMPTY_ELEMENTDATA w_EMPTY_LIST w_EMPTY_LIST_elements w_EMPTY k_w_EMPTY_ELEMENTDATA k_w_DEFAULTCAPACITY_EMPTY_ELEMENTDATA k_w_EMPTY_LIST_elements)  (h0 : Heap) (n0 : Nat) (O0 : Old Z n0 h0) :
    MetFree l (⟨"java/lang/Math", "min", "(II)I"⟩ : MethodName) (head1 (Jvm.Cond.code (⟨"java/lang/Math", "min", "(II)I"⟩ : MethodName) jdk_29_method_69_code 2 (some .int) :: ws) ({ frames := 0, cells := 0, slots := 0, locals := 0 } : Room)) (fun a U => a = #[(.int (10 : Int32)), (.int (1 : Int32))] ∧ Z.Warmed39 U.vm ∧ U.heap = h0) (fun _ _ _ _ _ => True) (fun _ U o U' => ∃ v L, o = .returned v ∧ Q23 Z m_OA w_EMPTY_ELEMENTDATA w_DEFAULTCAPACITY_EMPTY_ELEMENTDATA w_EMPTY_LIST w_EMPTY_LIST_elements w_EMPTY k_w_EMPTY_ELEMENTDATA k_w_DEFAULTCAPACITY_EMPTY_ELEMENTDATA k_w_EMPTY_LIST_elements  h0 n0 v U'.heap L ∧ FrameEnd U o U' L ({ frames := 0, cells := 0, slots := 0, locals := 0 } : Room).cells ({ frames := 0, cells := 0, slots := 0, locals := 0 } : Room).slots) := by
  refine MetFree.of_bodySF (Jvm.Free.JP.mathPlain rfl (by decide +kernel)) hisR ?_
  intro p e s m args below meth c s₁ Bd hml0 hP hK
  obtain ⟨rfl, hZ, hh⟩ := hP
  have hx := Bd.exec
  have hby := Bd.bytes
  have hml : c.maxLocals = 2 := hml0
  have hown : s.vm.findClass "java/lang/Math" = some m.cls := findClass_of_methodNamed Bd.named
  have hnm := (name_of_methodNamed Bd.named Bd.method).1
  have X0 : Stand p l e ({ frames := 0, cells := 0, slots := 0, locals := 0 } : Room) s m #[(.int (10 : Int32)), (.int (1 : Int32))] below meth c s₁ [] 0 0 := Stand.of_body Bd
  have e0 : s₁.heap = h0 := by rw [← hh, Bd.state]; rfl
  have N0 := Fr.nil n0
  show OGot p.tables e below (s₁.setTop (entryFrame m #[(.int (10 : Int32)), (.int (1 : Int32))] 2)) _
  refine OGot.go (fun t k => castTop (ef23 m ) k) ?_
  show OGot p.tables e below (s₁.setTop (mkF m 0 #[.val (.int (10 : Int32)), .val (.int (1 : Int32))] [])) _
  refine OGot.go (fun t k => XS.iloadN X0.here hx rfl (hb hby d23_0) rfl k) ?_
  refine OGot.go (fun t k => XS.iloadN X0.here hx rfl (hb hby d23_1) rfl k) ?_
  refine OGot.go (fun t k => XS.icmpYes X0.here hx rfl (pc0 := 2) (pc' := 9) rfl (hb hby d23_2) rfl (by decide) (by decide) (by decide) k) ?_
  refine OGot.go (fun t k => XS.iloadN X0.here hx rfl (hb hby d23_9) rfl k) ?_
  show OGot p.tables e below (s₁.setTop (mkF m 10 #[.val (.int (10 : Int32)), .val (.int (1 : Int32))] [(.int (1 : Int32))])) _
  obtain ⟨fs, hr, hrun, hended, hW, hsame⟩ := X0.leave (v := some (.int (1 : Int32))) (fun h => by rw [Bd.returns] at h; cases h)
  refine ⟨_, _, retI X0 hx Bd.returns (hb hby d23_10) hr, hrun, hended, _, _, rfl, ?_, ⟨_, rfl⟩, hW, hsame.mono (by decide) (by decide)⟩
  exact (⟨rfl, N0, e0⟩ : Q23 Z m_OA w_EMPTY_ELEMENTDATA w_DEFAULTCAPACITY_EMPTY_ELEMENTDATA w_EMPTY_LIST w_EMPTY_LIST_elements w_EMPTY k_w_EMPTY_ELEMENTDATA k_w_DEFAULTCAPACITY_EMPTY_ELEMENTDATA k_w_EMPTY_LIST_elements  h0 n0 _ s₁.heap _)
theorem d22_35 : decode jdk_65_method_120_code 35 = .ok (.invokestatic 150, 3) := by decide +kernel
theorem d22_38 : decode jdk_65_method_120_code 38 = .ok (.aload_n 3, 1) := by decide +kernel
theorem d22_39 : decode jdk_65_method_120_code 39 = .ok (.areturn, 1) := by decide +kernel
theorem pn_java_util_Arrays : plainName "java/util/Arrays" = true := by first | (simp [plainName, overriddenIn]; done) | decide +kernel
def Q22 (Z : State) (m_OA : Addr) (w_EMPTY_ELEMENTDATA : Addr) (w_DEFAULTCAPACITY_EMPTY_ELEMENTDATA : Addr) (w_EMPTY_LIST : Addr) (w_EMPTY_LIST_elements : Addr) (w_EMPTY : Addr) (k_w_EMPTY_ELEMENTDATA : ClassId) (k_w_DEFAULTCAPACITY_EMPTY_ELEMENTDATA : ClassId) (k_w_EMPTY_LIST_elements : ClassId) (a1 : Addr) (k5 : ClassId) (a6 : Addr) (h0 : Heap) (n0 : Nat) (v : Option Value) (h : Heap) (L : List Loc) : Prop := Fr n0 L ∧ ∃ b4 : Addr, ∃ k4 : ClassId, v = some (.ref b4) ∧ h0.size ≤ b4 ∧ OKeep h0 h [] ∧ Exa Z h b4 "[Ljava/lang/Object;" ∧ Arv Z h b4 k4 (.object "java/lang/Object") (1 : Int32) [(.ref a6)] .null ∧ Ovr Z k4 "java/lang/Object"
theorem ef22 (m : MethodId) (x0 : Addr) (x2 : Addr) : entryFrame m #[(.ref x0), (.int (1 : Int32)), (.ref x2)] 4 = mkF m 0 #[.val (.ref x0), .val (.int (1 : Int32)), .val (.ref x2), .unset] [] := by first | (simp [entryFrame, mkF, argsToLocals, Value.category]; done) | rfl
set_option maxRecDepth 65536 in
set_option maxHeartbeats 40000000 in
theorem rm22 (l : Launch) (Z : State) (a0 : Array Value) (hw : ∀ d ∈ tables_1, d.before a0 Z = true) (ws : List Jvm.Cond) {m_OA : Addr} {w_EMPTY_ELEMENTDATA : Addr} {w_DEFAULTCAPACITY_EMPTY_ELEMENTDATA : Addr} {w_EMPTY_LIST : Addr} {w_EMPTY_LIST_elements : Addr} {w_EMPTY : Addr} {k_w_EMPTY_ELEMENTDATA : ClassId} {k_w_DEFAULTCAPACITY_EMPTY_ELEMENTDATA : ClassId} {k_w_EMPTY_LIST_elements : ClassId} (G : Glob Z m_OA w_EMPTY_ELEMENTDATA w_DEFAULTCAPACITY_EMPTY_ELEMENTDATA w_EMPTY_LIST w_EMPTY_LIST_elements w_EMPTY k_w_EMPTY_ELEMENTDATA k_w_DEFAULTCAPACITY_EMPTY_ELEMENTDATA k_w_EMPTY_LIST_elements) (a1 : Addr) (k5 : ClassId) (a6 : Addr) (h0 : Heap) (n0 : Nat) (O0 : Old Z n0 h0) (V_a1 : Arv Z h0 a1 k5 (.object "java/lang/Object") (10 : Int32) [(.ref a6), .null, .null, .null, .null, .null, .null, .null, .null, .null] .null) (O_k5 : Ovr Z k5 "java/lang/Object") (E_a6 : Exa Z h0 a6 "com/example/curtail/curtail/Placement$Cell") :
    MetFree l (⟨"java/util/Arrays", "copyOf", "([Ljava/lang/Object;ILjava/lang/Class;)[Ljava/lang/Object;"⟩ : MethodName) (head1 (Jvm.Cond.code (⟨"java/util/Arrays", "copyOf", "([Ljava/lang/Object;ILjava/lang/Class;)[Ljava/lang/Object;"⟩ : MethodName) jdk_65_method_120_code 4 (some (.array (.object "java/lang/Object"))) :: ws) ({ frames := 1, cells := 1, slots := 1, locals := 18 } : Room)) (fun a U => a = #[(.ref a1), (.int (1 : Int32)), (.ref m_OA)] ∧ Z.Warmed39 U.vm ∧ U.heap = h0) (fun _ _ _ _ _ => True) (fun _ U o U' => ∃ v L, o = .returned v ∧ Q22 Z m_OA w_EMPTY_ELEMENTDATA w_DEFAULTCAPACITY_EMPTY_ELEMENTDATA w_EMPTY_LIST w_EMPTY_LIST_elements w_EMPTY k_w_EMPTY_ELEMENTDATA k_w_DEFAULTCAPACITY_EMPTY_ELEMENTDATA k_w_EMPTY_LIST_elements a1 k5 a6 h0 n0 v U'.heap L ∧ FrameEnd U o U' L ({ frames := 1, cells := 1, slots := 1, locals := 18 } : Room).cells ({ frames := 1, cells := 1, slots := 1, locals := 18 } : Room).slots) := by
  refine MetFree.of_bodySF (plainFor_of_name pn_java_util_Arrays) hisR ?_
  intro p e s m args below meth c s₁ Bd hml0 hP hK
  obtain ⟨rfl, hZ, hh⟩ := hP
  have hx := Bd.exec
  have hby := Bd.bytes
  have hml : c.maxLocals = 4 := hml0
  have hown : s.vm.findClass "java/util/Arrays" = some m.cls := findClass_of_methodNamed Bd.named
  have hnm := (name_of_methodNamed Bd.named Bd.method).1
  have X0 : Stand p l e ({ frames := 1, cells := 1, slots := 1, locals := 18 } : Room) s m #[(.ref a1), (.int (1 : Int32)), (.ref m_OA)] below meth c s₁ [] 0 0 := Stand.of_body Bd
  have e0 : s₁.heap = h0 := by rw [← hh, Bd.state]; rfl
  have N0 := Fr.nil n0
  show OGot p.tables e below (s₁.setTop (entryFrame m #[(.ref a1), (.int (1 : Int32)), (.ref m_OA)] 4)) _
  refine OGot.go (fun t k => castTop (ef22 m a1 m_OA) k) ?_
  show OGot p.tables e below (s₁.setTop (mkF m 0 #[.val (.ref a1), .val (.int (1 : Int32)), .val (.ref m_OA), .unset] [])) _
  refine OGot.go (fun t k => XS.aloadN X0.here hx rfl (hb hby d22_0) rfl rfl k) ?_
  obtain ⟨T3, X3, e3, st3⟩ := oldcM X0 hx hZ hown (ow hw 157 rfl) e0 G.1 (g := (mkF m 1 #[.val (.ref a1), .val (.int (1 : Int32)), .val (.ref m_OA), .unset] [(.ref m_OA)])) rfl (hb hby d22_1)
  refine OGot.go st3 ?_
  refine OGot.go (fun t k => Jvm.RoadKit.acmp (g := (mkF m 3 #[.val (.ref a1), .val (.int (1 : Int32)), .val (.ref m_OA), .unset] [(.ref m_OA), (.ref m_OA)])) X3 hx rfl rfl rfl (pc0 := 3) (pc' := 6) (same := true) rfl (hb hby d22_3) rfl (decide_eq_true rfl) (by decide) (by decide) k) ?_
  refine OGot.go (fun t k => XS.iloadN X3.here hx rfl (hb hby d22_6) rfl k) ?_
  obtain ⟨T4, h4, k4, X4, e4, E4, A4, Ea4, V4, st4⟩ := newRE X3 hx hZ hown (ow hw 158 rfl) (ow hw 134 rfl) e3 (g := (mkF m 7 #[.val (.ref a1), .val (.int (1 : Int32)), .val (.ref m_OA), .unset] [(.int (1 : Int32))])) rfl (hb hby d22_7) rfl (by decide) (cap := 1) (by decide) (by decide) (by decide) (by decide) (ad := "[Ljava/lang/Object;") (by decide)
  obtain ⟨b4, g4⟩ : ∃ z, z = h0.size := ⟨_, rfl⟩
  rw [← g4] at A4 Ea4 st4
  refine OGot.go st4 ?_
  have g_b4 : n0 ≤ b4 := Nat.le_trans (osz O0) (Nat.le_of_eq g4.symm)
  have sy_b4 : h0.size ≤ b4 := Nat.le_of_eq g4.symm
  have sz_b4 : h0.size ≤ b4 := Nat.le_trans (OKeep.refl h0 []).1 sy_b4
  have K4 := (OKeep.refl h0 []).ext E4
  have O4 := O0.ext E4
  have Va4 : Arv Z h4 b4 k4 (.object "java/lang/Object") (1 : Int32) [.null] .null := (Arv.new A4 (by decide)).pad (pad_rep [] .null 1)
  show OGot p.tables e below (T4.setTop (mkF m 10 #[.val (.ref a1), .val (.int (1 : Int32)), .val (.ref m_OA), .unset] [(.ref b4)])) _
  refine OGot.go (fun t k => XS.goto X4.here hx rfl (pc0 := 10) (pc' := 24) rfl (hb hby d22_10) (by decide) (by decide) k) ?_
  refine OGot.go (fun t k => XS.astoreN X4.here hx rfl (hb hby d22_24) rfl rfl (l' := #[.val (.ref a1), .val (.int (1 : Int32)), .val (.ref m_OA), .val (.ref b4)]) rfl k) ?_
  refine OGot.go (fun t k => XS.aloadN X4.here hx rfl (hb hby d22_25) rfl rfl k) ?_
  refine OGot.go (fun t k => XS.iconst X4.here hx rfl (hb hby d22_26) k) ?_
  refine OGot.go (fun t k => XS.aloadN X4.here hx rfl (hb hby d22_27) rfl rfl k) ?_
  show OGot p.tables e below (T4.setTop (mkF m 28 #[.val (.ref a1), .val (.int (1 : Int32)), .val (.ref m_OA), .val (.ref b4)] [(.ref b4), (.int (0 : Int32)), (.ref a1)])) _
  refine OGot.go (fun t k => XS.iconst X4.here hx rfl (hb hby d22_28) k) ?_
  refine OGot.go (fun t k => XS.aloadN X4.here hx rfl (hb hby d22_29) rfl rfl k) ?_
  have F7 : Arv Z h4 a1 k5 (.object "java/lang/Object") (10 : Int32) [(.ref a6), .null, .null, .null, .null, .null, .null, .null, .null, .null] .null := (V_a1.ext E4)
  obtain ⟨cl8, Ar8, -, Sz8, Ng8, -, -⟩ := id (F7)
  refine OGot.go (fun t k => X4.arraylength hx (by rw [e4]; exact Ar8.1) (State.isArrayOf_alike hZ.alike Ar8.2.1) (g := (mkF m 30 #[.val (.ref a1), .val (.int (1 : Int32)), .val (.ref m_OA), .val (.ref b4)] [(.ref a1), (.int (0 : Int32)), (.ref b4), (.int (0 : Int32)), (.ref a1)])) rfl rfl (hb hby d22_30) _ k) ?_
  rw [len_of Sz8 Ng8]
  refine OGot.go (fun t k => XS.iloadN X4.here hx rfl (hb hby d22_31) rfl k) ?_
  obtain ⟨_, _, ⟨T9, L9, k9, n9⟩, -, X9, ⟨Lc9, hQ9, l9, y9, z9⟩, st9⟩ := Jvm.LawKit.callS X4 hx (y := (⟨"java/lang/Math", "min", "(II)I"⟩ : MethodName)) hown (mvT hZ (ow hw 159 rfl)) (mvT hZ (ow hw 160 rfl)) (mvT hZ (ow hw 131 rfl)) (mvT hZ (ow hw 161 rfl)) (by decide) (backOf (W := 4) (rm23 l Z a0 hw [] G  h4 n0 O4 ) hZ (ow hw 161 rfl) (ow hw 131 rfl) (by decide) (by decide)) (g := (mkF m 32 #[.val (.ref a1), .val (.int (1 : Int32)), .val (.ref m_OA), .val (.ref b4)] [(.int (1 : Int32)), (.int (10 : Int32)), (.int (0 : Int32)), (.ref b4), (.int (0 : Int32)), (.ref a1)])) rfl (by rw [hml]; rfl) (argsL := [(.int (10 : Int32)), (.int (1 : Int32))]) (rest := [(.int (0 : Int32)), (.ref b4), (.int (0 : Int32)), (.ref a1)]) (lenOf pd_7 rfl) rfl (by show 2 * 0 + _ ≤ _; exact Nat.le_of_eq rfl) (hb hby d22_32) (fun _ _ => ⟨rfl, e4, (by decide : 1 + 0 ≤ _), (by decide : 1 + 0 ≤ _)⟩)
  dsimp only [Pt.U, Pt.locs, Pt.cells, Pt.slots] at X9 l9 y9 z9 st9 hQ9
  subst l9 y9 z9
  obtain ⟨rfl, N9q, e9⟩ := hQ9
  have N9 := Fr.app N0 N9q
  refine OGot.go st9 ?_
  show OGot p.tables e below (T9.setTop (mkF m 35 #[.val (.ref a1), .val (.int (1 : Int32)), .val (.ref m_OA), .val (.ref b4)] [(.int (1 : Int32)), (.int (0 : Int32)), (.ref b4), (.int (0 : Int32)), (.ref a1)])) _
  obtain ⟨cb10, Ab10, qb10, -, -, -, -⟩ := id (Va4)
  obtain ⟨T10, h10, L10, X10, e10, N10, Kl10, Vc10, st10⟩ := cpA X9 hx hZ hown (ow hw 162 rfl) (ow hw 165 rfl) (ow hw 163 rfl) (ow hw 164 rfl) e9 F7 Va4 (us := [(.ref a6)]) (Or.inr ⟨rfl, rfl, ⟨Sto.ofV Ab10 qb10 V4 (Ins.of_exa (E_a6.ext E4) (ow hw 135 rfl)), trivial⟩⟩) (sp := (0 : Int32)) (dp := (0 : Int32)) (nn := (1 : Int32)) (by decide) (by decide) (by decide) (by decide) (by decide) rfl (by decide) N9 g_b4 (g := (mkF m 35 #[.val (.ref a1), .val (.int (1 : Int32)), .val (.ref m_OA), .val (.ref b4)] [(.int (1 : Int32)), (.int (0 : Int32)), (.ref b4), (.int (0 : Int32)), (.ref a1)])) rfl (by rw [hml]; rfl) rfl (hb hby d22_35) (by decide) (W := 0) (by show 2 * 0 + _ ≤ _; exact Nat.le_of_eq rfl) (by decide)
  refine OGot.go st10 ?_
  have O10 := O4.keep Kl10 (allS g_b4 all0)
  have K10 := OKeep.keepf K4 Kl10 sz_b4
  have Vd10 : Arv Z h10 b4 k4 (.object "java/lang/Object") (1 : Int32) [(.ref a6)] .null := Vc10
  refine OGot.go (fun t k => XS.aloadN X10.here hx rfl (hb hby d22_38) rfl rfl k) ?_
  show OGot p.tables e below (T10.setTop (mkF m 39 #[.val (.ref a1), .val (.int (1 : Int32)), .val (.ref m_OA), .val (.ref b4)] [(.ref b4)])) _
  obtain ⟨fs, hr, hrun, hended, hW, hsame⟩ := X10.leave (v := some (.ref b4)) (fun h => by rw [Bd.returns] at h; cases h)
  refine ⟨_, _, oretA X10 hx Bd.returns rfl rfl (hb hby d22_39) hr, hrun, hended, _, _, rfl, ?_, ⟨_, rfl⟩, hW, hsame.mono (by decide) (by decide)⟩
  show Q22 Z m_OA w_EMPTY_ELEMENTDATA w_DEFAULTCAPACITY_EMPTY_ELEMENTDATA w_EMPTY_LIST w_EMPTY_LIST_elements w_EMPTY k_w_EMPTY_ELEMENTDATA k_w_DEFAULTCAPACITY_EMPTY_ELEMENTDATA k_w_EMPTY_LIST_elements a1 k5 a6 h0 n0 _ T10.heap _
  rw [e10]
  exact ⟨N10, b4, k4, rfl, sz_b4, K10, (Ea4.keep Kl10), Vd10, V4⟩
theorem pd_12 : parseMethodDescriptor "([Ljava/lang/Object;ILjava/lang/Class;)[Ljava/lang/Object;" = some ⟨[(.array (.object "java/lang/Object")), .int, (.object "java/lang/Class")], some (.array (.object "java/lang/Object"))⟩ := by decide +kernel
theorem d21_9 : decode jdk_65_method_119_code 9 = .ok (.areturn, 1) := by decide +kernel
def Q21 (Z : State) (m_OA : Addr) (w_EMPTY_ELEMENTDATA : Addr) (w_DEFAULTCAPACITY_EMPTY_ELEMENTDATA : Addr) (w_EMPTY_LIST : Addr) (w_EMPTY_LIST_elements : Addr) (w_EMPTY : Addr) (k_w_EMPTY_ELEMENTDATA : ClassId) (k_w_DEFAULTCAPACITY_EMPTY_ELEMENTDATA : ClassId) (k_w_EMPTY_LIST_elements : ClassId) (a1 : Addr) (k3 : ClassId) (a4 : Addr) (h0 : Heap) (n0 : Nat) (v : Option Value) (h : Heap) (L : List Loc) : Prop := Fr n0 L ∧ ∃ b4_5 : Addr, ∃ k4_5 : ClassId, v = some (.ref b4_5) ∧ h0.size ≤ b4_5 ∧ OKeep h0 h [] ∧ Exa Z h b4_5 "[Ljava/lang/Object;" ∧ Arv Z h b4_5 k4_5 (.object "java/lang/Object") (1 : Int32) [(.ref a4)] .null ∧ Ovr Z k4_5 "java/lang/Object"
theorem ef21 (m : MethodId) (x0 : Addr) : entryFrame m #[(.ref x0), (.int (1 : Int32))] 2 = mkF m 0 #[.val (.ref x0), .val (.int (1 : Int32))] [] := by first | (simp [entryFrame, mkF, argsToLocals, Value.category]; done) | rfl
set_option maxRecDepth 65536 in
set_option maxHeartbeats 40000000 in
theorem rm21 (l : Launch) (Z : State) (a0 : Array Value) (hw : ∀ d ∈ tables_1, d.before a0 Z = true) (ws : List Jvm.Cond) {m_OA : Addr} {w_EMPTY_ELEMENTDATA : Addr} {w_DEFAULTCAPACITY_EMPTY_ELEMENTDATA : Addr} {w_EMPTY_LIST : Addr} {w_EMPTY_LIST_elements : Addr} {w_EMPTY : Addr} {k_w_EMPTY_ELEMENTDATA : ClassId} {k_w_DEFAULTCAPACITY_EMPTY_ELEMENTDATA : ClassId} {k_w_EMPTY_LIST_elements : ClassId} (G : Glob Z m_OA w_EMPTY_ELEMENTDATA w_DEFAULTCAPACITY_EMPTY_ELEMENTDATA w_EMPTY_LIST w_EMPTY_LIST_elements w_EMPTY k_w_EMPTY_ELEMENTDATA k_w_DEFAULTCAPACITY_EMPTY_ELEMENTDATA k_w_EMPTY_LIST_elements) (a1 : Addr) (k3 : ClassId) (a4 : Addr) (h0 : Heap) (n0 : Nat) (O0 : Old Z n0 h0) (E_a1 : Exa Z h0 a1 "[Ljava/lang/Object;") (V_a1 : Arv Z h0 a1 k3 (.object "java/lang/Object") (10 : Int32) [(.ref a4), .null, .null, .null, .null, .null, .null, .null, .null, .null] .null) (O_k3 : Ovr Z k3 "java/lang/Object") (E_a4 : Exa Z h0 a4 "com/example/curtail/curtail/Placement$Cell") :
    MetFree l (⟨"java/util/Arrays", "copyOf", "([Ljava/lang/Object;I)[Ljava/lang/Object;"⟩ : MethodName) (head1 (Jvm.Cond.code (⟨"java/util/Arrays", "copyOf", "([Ljava/lang/Object;I)[Ljava/lang/Object;"⟩ : MethodName) jdk_65_method_119_code 2 (some (.array (.object "java/lang/Object"))) :: ws) ({ frames := 2, cells := 1, slots := 1, locals := 33 } : Room)) (fun a U => a = #[(.ref a1), (.int (1 : Int32))] ∧ Z.Warmed39 U.vm ∧ U.heap = h0) (fun _ _ _ _ _ => True) (fun _ U o U' => ∃ v L, o = .returned v ∧ Q21 Z m_OA w_EMPTY_ELEMENTDATA w_DEFAULTCAPACITY_EMPTY_ELEMENTDATA w_EMPTY_LIST w_EMPTY_LIST_elements w_EMPTY k_w_EMPTY_ELEMENTDATA k_w_DEFAULTCAPACITY_EMPTY_ELEMENTDATA k_w_EMPTY_LIST_elements a1 k3 a4 h0 n0 v U'.heap L ∧ FrameEnd U o U' L ({ frames := 2, cells := 1, slots := 1, locals := 33 } : Room).cells ({ frames := 2, cells := 1, slots := 1, locals := 33 } : Room).slots) := by
  refine MetFree.of_bodySF (plainFor_of_name pn_java_util_Arrays) hisR ?_
  intro p e s m args below meth c s₁ Bd hml0 hP hK
  obtain ⟨rfl, hZ, hh⟩ := hP
  have hx := Bd.exec
  have hby := Bd.bytes
  have hml : c.maxLocals = 2 := hml0
  have hown : s.vm.findClass "java/util/Arrays" = some m.cls := findClass_of_methodNamed Bd.named
  have hnm := (name_of_methodNamed Bd.named Bd.method).1
  have X0 : Stand p l e ({ frames := 2, cells := 1, slots := 1, locals := 33 } : Room) s m #[(.ref a1), (.int (1 : Int32))] below meth c s₁ [] 0 0 := Stand.of_body Bd
  have e0 : s₁.heap = h0 := by rw [← hh, Bd.state]; rfl
  have N0 := Fr.nil n0
  show OGot p.tables e below (s₁.setTop (entryFrame m #[(.ref a1), (.int (1 : Int32))] 2)) _
  refine OGot.go (fun t k => castTop (ef21 m a1) k) ?_
  show OGot p.tables e below (s₁.setTop (mkF m 0 #[.val (.ref a1), .val (.int (1 : Int32))] [])) _
  refine OGot.go (fun t k => XS.aloadN X0.here hx rfl (hb hby d21_0) rfl rfl k) ?_
  refine OGot.go (fun t k => XS.iloadN X0.here hx rfl (hb hby d21_1) rfl k) ?_
  refine OGot.go (fun t k => XS.aloadN X0.here hx rfl (hb hby d21_2) rfl rfl k) ?_
  obtain ⟨T2, X2, e2, st2⟩ := ogcls X0 hx hZ hown (ow hw 148 rfl) (ow hw 149 rfl) (ow hw 50 rfl) (ow hw 151 rfl) (ow hw 150 rfl) (ow hw 152 rfl) e0 E_a1 G.1 (g := (mkF m 3 #[.val (.ref a1), .val (.int (1 : Int32))] [(.ref a1), (.int (1 : Int32)), (.ref a1)])) rfl (by rw [hml]; rfl) rfl (hb hby d21_3) (by decide) (W := 2) (by show 2 * 0 + _ ≤ _; exact Nat.le_of_eq rfl) (by decide)
  refine OGot.go st2 ?_
  obtain ⟨_, _, ⟨T5, L5, k5, n5⟩, -, X5, ⟨Lc5, hQ5, l5, y5, z5⟩, st5⟩ := Jvm.LawKit.callS X2 hx (y := (⟨"java/util/Arrays", "copyOf", "([Ljava/lang/Object;ILjava/lang/Class;)[Ljava/lang/Object;"⟩ : MethodName)) hown (mvT hZ (ow hw 154 rfl)) (mvT hZ (ow hw 155 rfl)) (mvT hZ (ow hw 146 rfl)) (mvT hZ (ow hw 156 rfl)) (by decide) (backOf (W := 0) (rm22 l Z a0 hw [] G a1 k3 a4 h0 n0 O0 V_a1 O_k3 E_a4) hZ (ow hw 156 rfl) (ow hw 146 rfl) (by decide) (by decide)) (g := (mkF m 6 #[.val (.ref a1), .val (.int (1 : Int32))] [(.ref m_OA), (.int (1 : Int32)), (.ref a1)])) rfl (by rw [hml]; rfl) (argsL := [(.ref a1), (.int (1 : Int32)), (.ref m_OA)]) (rest := []) (lenOf pd_12 rfl) rfl (by show 2 * 0 + _ ≤ _; exact Nat.le_of_eq rfl) (hb hby d21_6) (fun _ _ => ⟨rfl, e2, (by decide : 0 + 1 ≤ _), (by decide : 0 + 1 ≤ _)⟩)
  dsimp only [Pt.U, Pt.locs, Pt.cells, Pt.slots] at X5 l5 y5 z5 st5 hQ5
  subst l5 y5 z5
  obtain ⟨N5q, b4_5, k4_5, rfl, szb4_5_5, K5, Fo5_0, Fo5_1, Fo5_2⟩ := hQ5
  have g_b4_5 : n0 ≤ b4_5 := Nat.le_trans (osz O0) szb4_5_5
  have sz_b4_5 : h0.size ≤ b4_5 := Nat.le_trans (OKeep.refl h0 []).1 szb4_5_5
  have Kc5 := (OKeep.refl h0 []).trans K5 oin0
  have O5 := OKeep.old O0 K5 oge0
  have N5 := Fr.app N0 N5q
  refine OGot.go st5 ?_
  show OGot p.tables e below (T5.setTop (mkF m 9 #[.val (.ref a1), .val (.int (1 : Int32))] [(.ref b4_5)])) _
  obtain ⟨fs, hr, hrun, hended, hW, hsame⟩ := X5.leave (v := some (.ref b4_5)) (fun h => by rw [Bd.returns] at h; cases h)
  refine ⟨_, _, oretA X5 hx Bd.returns rfl rfl (hb hby d21_9) hr, hrun, hended, _, _, rfl, ?_, ⟨_, rfl⟩, hW, hsame.mono (by decide) (by decide)⟩
  show Q21 Z m_OA w_EMPTY_ELEMENTDATA w_DEFAULTCAPACITY_EMPTY_ELEMENTDATA w_EMPTY_LIST w_EMPTY_LIST_elements w_EMPTY k_w_EMPTY_ELEMENTDATA k_w_DEFAULTCAPACITY_EMPTY_ELEMENTDATA k_w_EMPTY_LIST_elements a1 k3 a4 h0 n0 _ T5.heap _
  exact ⟨N5, b4_5, k4_5, rfl, sz_b4_5, Kc5, Fo5_0, Fo5_1, Fo5_2⟩
theorem pd_13 : parseMethodDescriptor "([Ljava/lang/Object;I)[Ljava/lang/Object;" = some ⟨[(.array (.object "java/lang/Object")), .int], some (.array (.object "java/lang/Object"))⟩ := by decide +kernel
theorem d20_11 : decode jdk_38_method_16_code 11 = .ok (.areturn, 1) := by decide +kernel
def Q20 (Z : State) (m_OA : Addr) (w_EMPTY_ELEMENTDATA : Addr) (w_DEFAULTCAPACITY_EMPTY_ELEMENTDATA : Addr) (w_EMPTY_LIST : Addr) (w_EMPTY_LIST_elements : Addr) (w_EMPTY : Addr) (k_w_EMPTY_ELEMENTDATA : ClassId) (k_w_DEFAULTCAPACITY_EMPTY_ELEMENTDATA : ClassId) (k_w_EMPTY_LIST_elements : ClassId) (a1 : Addr) (a2 : Addr) (k5 : ClassId) (a6 : Addr) (h0 : Heap) (n0 : Nat) (v : Option Value) (h : Heap) (L : List Loc) : Prop := Fr n0 L ∧ ∃ b4_5_7 : Addr, ∃ k4_5_7 : ClassId, v = some (.ref b4_5_7) ∧ h0.size ≤ b4_5_7 ∧ OKeep h0 h [] ∧ Exa Z h b4_5_7 "[Ljava/lang/Object;" ∧ Arv Z h b4_5_7 k4_5_7 (.object "java/lang/Object") (1 : Int32) [(.ref a6)] .null ∧ Ovr Z k4_5_7 "java/lang/Object"
theorem ef20 (m : MethodId) (x0 : Addr) : entryFrame m #[(.ref x0)] 1 = mkF m 0 #[.val (.ref x0)] [] := by first | (simp [entryFrame, mkF, argsToLocals, Value.category]; done) | rfl
set_option maxRecDepth 65536 in
set_option maxHeartbeats 40000000 in
theorem rm20 (l : Launch) (Z : State) (a0 : Array Value) (hw : ∀ d ∈ tables_1, d.before a0 Z = true) (ws : List Jvm.Cond) {m_OA : Addr} {w_EMPTY_ELEMENTDATA : Addr} {w_DEFAULTCAPACITY_EMPTY_ELEMENTDATA : Addr} {w_EMPTY_LIST : Addr} {w_EMPTY_LIST_elements : Addr} {w_EMPTY : Addr} {k_w_EMPTY_ELEMENTDATA : ClassId} {k_w_DEFAULTCAPACITY_EMPTY_ELEMENTDATA : ClassId} {k_w_EMPTY_LIST_elements : ClassId} (G : Glob Z m_OA w_EMPTY_ELEMENTDATA w_DEFAULTCAPACITY_EMPTY_ELEMENTDATA w_EMPTY_LIST w_EMPTY_LIST_elements w_EMPTY k_w_EMPTY_ELEMENTDATA k_w_DEFAULTCAPACITY_EMPTY_ELEMENTDATA k_w_EMPTY_LIST_elements) (a1 : Addr) (a2 : Addr) (k5 : ClassId) (a6 : Addr) (h0 : Heap) (n0 : Nat) (O0 : Old Z n0 h0) (F_elementData_a1 : Fld Z h0 a1 "java/util/ArrayList" "elementData" "[Ljava/lang/Object;" (.ref a2)) (F_size_a1 : Fld Z h0 a1 "java/util/ArrayList" "size" "I" (.int (1 : Int32))) (E_a2 : Exa Z h0 a2 "[Ljava/lang/Object;") (V_a2 : Arv Z h0 a2 k5 (.object "java/lang/Object") (10 : Int32) [(.ref a6), .null, .null, .null, .null, .null, .null, .null, .null, .null] .null) (O_k5 : Ovr Z k5 "java/lang/Object") (E_a6 : Exa Z h0 a6 "com/example/curtail/curtail/Placement$Cell") :
    MetFree l (⟨"java/util/ArrayList", "toArray", "()[Ljava/lang/Object;"⟩ : MethodName) (head1 (Jvm.Cond.code (⟨"java/util/ArrayList", "toArray", "()[Ljava/lang/Object;"⟩ : MethodName) jdk_38_method_16_code 1 (some (.array (.object "java/lang/Object"))) :: ws) ({ frames := 3, cells := 1, slots := 1, locals := 46 } : Room)) (fun a U => a = #[(.ref a1)] ∧ Z.Warmed39 U.vm ∧ U.heap = h0) (fun _ _ _ _ _ => True) (fun _ U o U' => ∃ v L, o = .returned v ∧ Q20 Z m_OA w_EMPTY_ELEMENTDATA w_DEFAULTCAPACITY_EMPTY_ELEMENTDATA w_EMPTY_LIST w_EMPTY_LIST_elements w_EMPTY k_w_EMPTY_ELEMENTDATA k_w_DEFAULTCAPACITY_EMPTY_ELEMENTDATA k_w_EMPTY_LIST_elements a1 a2 k5 a6 h0 n0 v U'.heap L ∧ FrameEnd U o U' L ({ frames := 3, cells := 1, slots := 1, locals := 46 } : Room).cells ({ frames := 3, cells := 1, slots := 1, locals := 46 } : Room).slots) := by
  refine MetFree.of_bodySF (plainFor_of_name pn_java_util_ArrayList) hisR ?_
  intro p e s m args below meth c s₁ Bd hml0 hP hK
  obtain ⟨rfl, hZ, hh⟩ := hP
  have hx := Bd.exec
  have hby := Bd.bytes
  have hml : c.maxLocals = 1 := hml0
  have hown : s.vm.findClass "java/util/ArrayList" = some m.cls := findClass_of_methodNamed Bd.named
  have hnm := (name_of_methodNamed Bd.named Bd.method).1
  have X0 : Stand p l e ({ frames := 3, cells := 1, slots := 1, locals := 46 } : Room) s m #[(.ref a1)] below meth c s₁ [] 0 0 := Stand.of_body Bd
  have e0 : s₁.heap = h0 := by rw [← hh, Bd.state]; rfl
  have N0 := Fr.nil n0
  show OGot p.tables e below (s₁.setTop (entryFrame m #[(.ref a1)] 1)) _
  refine OGot.go (fun t k => castTop (ef20 m a1) k) ?_
  show OGot p.tables e below (s₁.setTop (mkF m 0 #[.val (.ref a1)] [])) _
  refine OGot.go (fun t k => XS.aloadN X0.here hx rfl (hb hby d20_0) rfl rfl k) ?_
  obtain ⟨T3, X3, e3, st3⟩ := getF X0 hx hZ hown (host := "") (Or.inl (ow hw 27 rfl)) Via.refl e0 F_elementData_a1 (g := (mkF m 1 #[.val (.ref a1)] [(.ref a1)])) rfl rfl (hb hby d20_1)
  refine OGot.go st3 ?_
  refine OGot.go (fun t k => XS.aloadN X3.here hx rfl (hb hby d20_4) rfl rfl k) ?_
  obtain ⟨T4, X4, e4, st4⟩ := getF X3 hx hZ hown (host := "") (Or.inl (ow hw 61 rfl)) Via.refl e3 F_size_a1 (g := (mkF m 5 #[.val (.ref a1)] [(.ref a1), (.ref a2)])) rfl rfl (hb hby d20_5)
  refine OGot.go st4 ?_
  obtain ⟨_, _, ⟨T7, L7, k7, n7⟩, -, X7, ⟨Lc7, hQ7, l7, y7, z7⟩, st7⟩ := Jvm.LawKit.callS X4 hx (y := (⟨"java/util/Arrays", "copyOf", "([Ljava/lang/Object;I)[Ljava/lang/Object;"⟩ : MethodName)) hown (mvT hZ (ow hw 144 rfl)) (mvT hZ (ow hw 145 rfl)) (mvT hZ (ow hw 146 rfl)) (mvT hZ (ow hw 147 rfl)) (by decide) (backOf (W := 0) (rm21 l Z a0 hw [] G a2 k5 a6 h0 n0 O0 E_a2 V_a2 O_k5 E_a6) hZ (ow hw 147 rfl) (ow hw 146 rfl) (by decide) (by decide)) (g := (mkF m 8 #[.val (.ref a1)] [(.int (1 : Int32)), (.ref a2)])) rfl (by rw [hml]; rfl) (argsL := [(.ref a2), (.int (1 : Int32))]) (rest := []) (lenOf pd_13 rfl) rfl (by show 2 * 0 + _ ≤ _; exact Nat.le_of_eq rfl) (hb hby d20_8) (fun _ _ => ⟨rfl, e4, (by decide : 0 + 1 ≤ _), (by decide : 0 + 1 ≤ _)⟩)
  dsimp only [Pt.U, Pt.locs, Pt.cells, Pt.slots] at X7 l7 y7 z7 st7 hQ7
  subst l7 y7 z7
  obtain ⟨N7q, b4_5_7, k4_5_7, rfl, szb4_5_7_7, K7, Fo7_0, Fo7_1, Fo7_2⟩ := hQ7
  have g_b4_5_7 : n0 ≤ b4_5_7 := Nat.le_trans (osz O0) szb4_5_7_7
  have sz_b4_5_7 : h0.size ≤ b4_5_7 := Nat.le_trans (OKeep.refl h0 []).1 szb4_5_7_7
  have Kc7 := (OKeep.refl h0 []).trans K7 oin0
  have O7 := OKeep.old O0 K7 oge0
  have N7 := Fr.app N0 N7q
  refine OGot.go st7 ?_
  show OGot p.tables e below (T7.setTop (mkF m 11 #[.val (.ref a1)] [(.ref b4_5_7)])) _
  obtain ⟨fs, hr, hrun, hended, hW, hsame⟩ := X7.leave (v := some (.ref b4_5_7)) (fun h => by rw [Bd.returns] at h; cases h)
  refine ⟨_, _, oretA X7 hx Bd.returns rfl rfl (hb hby d20_11) hr, hrun, hended, _, _, rfl, ?_, ⟨_, rfl⟩, hW, hsame.mono (by decide) (by decide)⟩
  show Q20 Z m_OA w_EMPTY_ELEMENTDATA w_DEFAULTCAPACITY_EMPTY_ELEMENTDATA w_EMPTY_LIST w_EMPTY_LIST_elements w_EMPTY k_w_EMPTY_ELEMENTDATA k_w_DEFAULTCAPACITY_EMPTY_ELEMENTDATA k_w_EMPTY_LIST_elements a1 a2 k5 a6 h0 n0 _ T7.heap _
  exact ⟨N7, b4_5_7, k4_5_7, rfl, sz_b4_5_7, Kc7, Fo7_0, Fo7_1, Fo7_2⟩
theorem d8_50 : decode jdk_56_method_3_code 50 = .ok (.invokestatic 34, 3) := by decide +kernel
theorem d24_0 : decode jdk_40_method_47_code 0 = .ok (.aload_n 0, 1) := by decide +kernel
theorem d24_1 : decode jdk_40_method_47_code 1 = .ok (.arraylength, 1) := by decide +kernel
theorem d24_2 : decode jdk_40_method_47_code 2 = .ok (.tableswitch 57 0 2 #[26, 32, 43], 26) := by decide +kernel
theorem d24_34 : decode jdk_40_method_47_code 34 = .ok (.new 96, 3) := by decide +kernel
theorem d24_37 : decode jdk_40_method_47_code 37 = .ok (.dup, 1) := by decide +kernel
theorem d24_38 : decode jdk_40_method_47_code 38 = .ok (.aload_n 0, 1) := by decide +kernel
theorem d24_39 : decode jdk_40_method_47_code 39 = .ok (.iconst 0, 1) := by decide +kernel
theorem d24_40 : decode jdk_40_method_47_code 40 = .ok (.aaload, 1) := by decide +kernel
theorem d24_41 : decode jdk_40_method_47_code 41 = .ok (.invokespecial 98, 3) := by decide +kernel
theorem d37_0 : decode jdk_44_method_1_code 0 = .ok (.aload_n 0, 1) := by decide +kernel
theorem d37_1 : decode jdk_44_method_1_code 1 = .ok (.invokespecial 1, 3) := by decide +kernel
theorem d28_0 : decode jdk_46_method_1_code 0 = .ok (.aload_n 0, 1) := by decide +kernel
theorem d28_1 : decode jdk_46_method_1_code 1 = .ok (.invokespecial 1, 3) := by decide +kernel
theorem d29_0 : decode jdk_47_method_1_code 0 = .ok (.aload_n 0, 1) := by decide +kernel
theorem d29_1 : decode jdk_47_method_1_code 1 = .ok (.invokespecial 1, 3) := by decide +kernel
theorem d29_4 : decode jdk_47_method_1_code 4 = .ok (.return_, 1) := by decide +kernel
theorem pn_java_util_ImmutableCollections_AbstractImmutableCollection : plainName "java/util/ImmutableCollections$AbstractImmutableCollection" = true := by first | (simp [plainName, overriddenIn]; done) | decide +kernel
def Q29 (Z : State) (m_OA : Addr) (w_EMPTY_ELEMENTDATA : Addr) (w_DEFAULTCAPACITY_EMPTY_ELEMENTDATA : Addr) (w_EMPTY_LIST : Addr) (w_EMPTY_LIST_elements : Addr) (w_EMPTY : Addr) (k_w_EMPTY_ELEMENTDATA : ClassId) (k_w_DEFAULTCAPACITY_EMPTY_ELEMENTDATA : ClassId) (k_w_EMPTY_LIST_elements : ClassId) (a1 : Addr) (h0 : Heap) (n0 : Nat) (v : Option Value) (h : Heap) (L : List Loc) : Prop := v = none ∧ Fr n0 L ∧ h = h0
theorem ef29 (m : MethodId) (x0 : Addr) : entryFrame m #[(.ref x0)] 1 = mkF m 0 #[.val (.ref x0)] [] := by first | (simp [entryFrame, mkF, argsToLocals, Value.category]; done) | rfl
set_option maxRecDepth 65536 in
set_option maxHeartbeats 40000000 in
theorem rm29 (l : Launch) (Z : State) (a0 : Array Value) (hw : ∀ d ∈ tables_1, d.before a0 Z = true) (ws : List Jvm.Cond) {m_OA : Addr} {w_EMPTY_ELEMENTDATA : Addr} {w_DEFAULTCAPACITY_EMPTY_ELEMENTDATA : Addr} {w_EMPTY_LIST : Addr} {w_EMPTY_LIST_elements : Addr} {w_EMPTY : Addr} {k_w_EMPTY_ELEMENTDATA : ClassId} {k_w_DEFAULTCAPACITY_EMPTY_ELEMENTDATA : ClassId} {k_w_EMPTY_LIST_elements : ClassId} (G : Glob Z m_OA w_EMPTY_ELEMENTDATA w_DEFAULTCAPACITY_EMPTY_ELEMENTDATA w_EMPTY_LIST w_EMPTY_LIST_elements w_EMPTY k_w_EMPTY_ELEMENTDATA k_w_DEFAULTCAPACITY_EMPTY_ELEMENTDATA k_w_EMPTY_LIST_elements) (a1 : Addr) (h0 : Heap) (n0 : Nat) (O0 : Old Z n0 h0) :
    MetFree l (⟨"java/util/ImmutableCollections$AbstractImmutableCollection", "<init>", "()V"⟩ : MethodName) (head1 (Jvm.Cond.code (⟨"java/util/ImmutableCollections$AbstractImmutableCollection", "<init>", "()V"⟩ : MethodName) jdk_47_method_1_code 1 none :: ws) ({ frames := 2, cells := 0, slots := 0, locals := 24 } : Room)) (fun a U => a = #[(.ref a1)] ∧ Z.Warmed39 U.vm ∧ U.heap = h0) (fun _ _ _ _ _ => True) (fun _ U o U' => ∃ v L, o = .returned v ∧ Q29 Z m_OA w_EMPTY_ELEMENTDATA w_DEFAULTCAPACITY_EMPTY_ELEMENTDATA w_EMPTY_LIST w_EMPTY_LIST_elements w_EMPTY k_w_EMPTY_ELEMENTDATA k_w_DEFAULTCAPACITY_EMPTY_ELEMENTDATA k_w_EMPTY_LIST_elements a1 h0 n0 v U'.heap L ∧ FrameEnd U o U' L ({ frames := 2, cells := 0, slots := 0, locals := 24 } : Room).cells ({ frames := 2, cells := 0, slots := 0, locals := 24 } : Room).slots) := by
  refine MetFree.of_bodySF (plainFor_of_name pn_java_util_ImmutableCollections_AbstractImmutableCollection) hisR ?_
  intro p e s m args below meth c s₁ Bd hml0 hP hK
  obtain ⟨rfl, hZ, hh⟩ := hP
  have hx := Bd.exec
  have hby := Bd.bytes
  have hml : c.maxLocals = 1 := hml0
  have hown : s.vm.findClass "java/util/ImmutableCollections$AbstractImmutableCollection" = some m.cls := findClass_of_methodNamed Bd.named
  have hnm := (name_of_methodNamed Bd.named Bd.method).1
  have X0 : Stand p l e ({ frames := 2, cells := 0, slots := 0, locals := 24 } : Room) s m #[(.ref a1)] below meth c s₁ [] 0 0 := Stand.of_body Bd
  have e0 : s₁.heap = h0 := by rw [← hh, Bd.state]; rfl
  have N0 := Fr.nil n0
  show OGot p.tables e below (s₁.setTop (entryFrame m #[(.ref a1)] 1)) _
  refine OGot.go (fun t k => castTop (ef29 m a1) k) ?_
  show OGot p.tables e below (s₁.setTop (mkF m 0 #[.val (.ref a1)] [])) _
  refine OGot.go (fun t k => XS.aloadN X0.here hx rfl (hb hby d29_0) rfl rfl k) ?_
  obtain ⟨_, _, ⟨T2, L2, k2, n2⟩, -, X2, ⟨Lc2, hQ2, l2, y2, z2⟩, st2⟩ := X0.specialBack hx (y := (⟨"java/util/AbstractCollection", "<init>", "()V"⟩ : MethodName)) rfl hown (mvT hZ (ow hw 194 rfl)) (mvT hZ (ow hw 16 rfl)) (mvT hZ (ow hw 20 rfl)) (by decide) (backOf (W := 0) (rm3 l Z a0 hw [] G a1 h0 n0 O0 ) hZ (ow hw 20 rfl) (ow hw 19 rfl) (by decide) (by decide)) (g := (mkF m 1 #[.val (.ref a1)] [(.ref a1)])) rfl (by rw [hml]; rfl) (Steps.refl _) (a := a1) (argsL := []) (rest := []) (lenOf pd_0 rfl) rfl (by show 2 * 0 + _ ≤ _; exact Nat.le_of_eq rfl) (hb hby d29_1) (fun _ _ => ⟨rfl, e0, (by decide : 0 + 0 ≤ _), (by decide : 0 + 0 ≤ _)⟩)
  dsimp only [Pt.U, Pt.locs, Pt.cells, Pt.slots] at X2 l2 y2 z2 st2 hQ2
  subst l2 y2 z2
  obtain ⟨rfl, N2q, e2⟩ := hQ2
  have N2 := Fr.app N0 N2q
  refine OGot.on st2 ?_
  show OGot p.tables e below (T2.setTop (mkF m 4 #[.val (.ref a1)] [])) _
  obtain ⟨fs, hr, hrun, hended, hW, hsame⟩ := X2.leave (v := none) (fun _ => rfl)
  refine ⟨_, _, X2.returnOut hx Bd.returns (hb hby d29_4) hr, hrun, hended, _, _, rfl, ?_, ⟨_, rfl⟩, hW, hsame.mono (by decide) (by decide)⟩
  exact (⟨rfl, N2, e2⟩ : Q29 Z m_OA w_EMPTY_ELEMENTDATA w_DEFAULTCAPACITY_EMPTY_ELEMENTDATA w_EMPTY_LIST w_EMPTY_LIST_elements w_EMPTY k_w_EMPTY_ELEMENTDATA k_w_DEFAULTCAPACITY_EMPTY_ELEMENTDATA k_w_EMPTY_LIST_elements a1 h0 n0 _ T2.heap _)
theorem d28_4 : decode jdk_46_method_1_code 4 = .ok (.return_, 1) := by decide +kernel
theorem pn_java_util_ImmutableCollections_AbstractImmutableList : plainName "java/util/ImmutableCollections$AbstractImmutableList" = true := by first | (simp [plainName, overriddenIn]; done) | decide +kernel
def Q28 (Z : State) (m_OA : Addr) (w_EMPTY_ELEMENTDATA : Addr) (w_DEFAULTCAPACITY_EMPTY_ELEMENTDATA : Addr) (w_EMPTY_LIST : Addr) (w_EMPTY_LIST_elements : Addr) (w_EMPTY : Addr) (k_w_EMPTY_ELEMENTDATA : ClassId) (k_w_DEFAULTCAPACITY_EMPTY_ELEMENTDATA : ClassId) (k_w_EMPTY_LIST_elements : ClassId) (a1 : Addr) (h0 : Heap) (n0 : Nat) (v : Option Value) (h : Heap) (L : List Loc) : Prop := v = none ∧ Fr n0 L ∧ h = h0
theorem ef28 (m : MethodId) (x0 : Addr) : entryFrame m #[(.ref x0)] 1 = mkF m 0 #[.val (.ref x0)] [] := by first | (simp [entryFrame, mkF, argsToLocals, Value.category]; done) | rfl
set_option maxRecDepth 65536 in
set_option maxHeartbeats 40000000 in
theorem rm28 (l : Launch) (Z : State) (a0 : Array Value) (hw : ∀ d ∈ tables_1, d.before a0 Z = true) (ws : List Jvm.Cond) {m_OA : Addr} {w_EMPTY_ELEMENTDATA : Addr} {w_DEFAULTCAPACITY_EMPTY_ELEMENTDATA : Addr} {w_EMPTY_LIST : Addr} {w_EMPTY_LIST_elements : Addr} {w_EMPTY : Addr} {k_w_EMPTY_ELEMENTDATA : ClassId} {k_w_DEFAULTCAPACITY_EMPTY_ELEMENTDATA : ClassId} {k_w_EMPTY_LIST_elements : ClassId} (G : Glob Z m_OA w_EMPTY_ELEMENTDATA w_DEFAULTCAPACITY_EMPTY_ELEMENTDATA w_EMPTY_LIST w_EMPTY_LIST_elements w_EMPTY k_w_EMPTY_ELEMENTDATA k_w_DEFAULTCAPACITY_EMPTY_ELEMENTDATA k_w_EMPTY_LIST_elements) (a1 : Addr) (h0 : Heap) (n0 : Nat) (O0 : Old Z n0 h0) :
    MetFree l (⟨"java/util/ImmutableCollections$AbstractImmutableList", "<init>", "()V"⟩ : MethodName) (head1 (Jvm.Cond.code (⟨"java/util/ImmutableCollections$AbstractImmutableList", "<init>", "()V"⟩ : MethodName) jdk_46_method_1_code 1 none :: ws) ({ frames := 3, cells := 0, slots := 0, locals := 36 } : Room)) (fun a U => a = #[(.ref a1)] ∧ Z.Warmed39 U.vm ∧ U.heap = h0) (fun _ _ _ _ _ => True) (fun _ U o U' => ∃ v L, o = .returned v ∧ Q28 Z m_OA w_EMPTY_ELEMENTDATA w_DEFAULTCAPACITY_EMPTY_ELEMENTDATA w_EMPTY_LIST w_EMPTY_LIST_elements w_EMPTY k_w_EMPTY_ELEMENTDATA k_w_DEFAULTCAPACITY_EMPTY_ELEMENTDATA k_w_EMPTY_LIST_elements a1 h0 n0 v U'.heap L ∧ FrameEnd U o U' L ({ frames := 3, cells := 0, slots := 0, locals := 36 } : Room).cells ({ frames := 3, cells := 0, slots := 0, locals := 36 } : Room).slots) := by
  refine MetFree.of_bodySF (plainFor_of_name pn_java_util_ImmutableCollections_AbstractImmutableList) hisR ?_
  intro p e s m args below meth c s₁ Bd hml0 hP hK
  obtain ⟨rfl, hZ, hh⟩ := hP
  have hx := Bd.exec
  have hby := Bd.bytes
  have hml : c.maxLocals = 1 := hml0
  have hown : s.vm.findClass "java/util/ImmutableCollections$AbstractImmutableList" = some m.cls := findClass_of_methodNamed Bd.named
  have hnm := (name_of_methodNamed Bd.named Bd.method).1
  have X0 : Stand p l e ({ frames := 3, cells := 0, slots := 0, locals := 36 } : Room) s m #[(.ref a1)] below meth c s₁ [] 0 0 := Stand.of_body Bd
  have e0 : s₁.heap = h0 := by rw [← hh, Bd.state]; rfl
  have N0 := Fr.nil n0
  show OGot p.tables e below (s₁.setTop (entryFrame m #[(.ref a1)] 1)) _
  refine OGot.go (fun t k => castTop (ef28 m a1) k) ?_
  show OGot p.tables e below (s₁.setTop (mkF m 0 #[.val (.ref a1)] [])) _
  refine OGot.go (fun t k => XS.aloadN X0.here hx rfl (hb hby d28_0) rfl rfl k) ?_
  obtain ⟨_, _, ⟨T2, L2, k2, n2⟩, -, X2, ⟨Lc2, hQ2, l2, y2, z2⟩, st2⟩ := X0.specialBack hx (y := (⟨"java/util/ImmutableCollections$AbstractImmutableCollection", "<init>", "()V"⟩ : MethodName)) rfl hown (mvT hZ (ow hw 188 rfl)) (mvT hZ (ow hw 189 rfl)) (mvT hZ (ow hw 193 rfl)) (by decide) (backOf (W := 0) (rm29 l Z a0 hw [] G a1 h0 n0 O0 ) hZ (ow hw 193 rfl) (ow hw 192 rfl) (by decide) (by decide)) (g := (mkF m 1 #[.val (.ref a1)] [(.ref a1)])) rfl (by rw [hml]; rfl) (Steps.refl _) (a := a1) (argsL := []) (rest := []) (lenOf pd_0 rfl) rfl (by show 2 * 0 + _ ≤ _; exact Nat.le_of_eq rfl) (hb hby d28_1) (fun _ _ => ⟨rfl, e0, (by decide : 0 + 0 ≤ _), (by decide : 0 + 0 ≤ _)⟩)
  dsimp only [Pt.U, Pt.locs, Pt.cells, Pt.slots] at X2 l2 y2 z2 st2 hQ2
  subst l2 y2 z2
  obtain ⟨rfl, N2q, e2⟩ := hQ2
  have N2 := Fr.app N0 N2q
  refine OGot.on st2 ?_
  show OGot p.tables e below (T2.setTop (mkF m 4 #[.val (.ref a1)] [])) _
  obtain ⟨fs, hr, hrun, hended, hW, hsame⟩ := X2.leave (v := none) (fun _ => rfl)
  refine ⟨_, _, X2.returnOut hx Bd.returns (hb hby d28_4) hr, hrun, hended, _, _, rfl, ?_, ⟨_, rfl⟩, hW, hsame.mono (by decide) (by decide)⟩
  exact (⟨rfl, N2, e2⟩ : Q28 Z m_OA w_EMPTY_ELEMENTDATA w_DEFAULTCAPACITY_EMPTY_ELEMENTDATA w_EMPTY_LIST w_EMPTY_LIST_elements w_EMPTY k_w_EMPTY_ELEMENTDATA k_w_DEFAULTCAPACITY_EMPTY_ELEMENTDATA k_w_EMPTY_LIST_elements a1 h0 n0 _ T2.heap _)
theorem d37_4 : decode jdk_44_method_1_code 4 = .ok (.aload_n 0, 1) := by decide +kernel
theorem d37_5 : decode jdk_44_method_1_code 5 = .ok (.aload_n 1, 1) := by decide +kernel
theorem d37_6 : decode jdk_44_method_1_code 6 = .ok (.invokestatic 7, 3) := by decide +kernel
theorem d26_0 : decode jdk_31_method_10_code 0 = .ok (.aload_n 0, 1) := by decide +kernel
theorem d26_1 : decode jdk_31_method_10_code 1 = .ok (.ifnonnull 11, 3) := by decide +kernel
theorem d26_12 : decode jdk_31_method_10_code 12 = .ok (.aload_n 0, 1) := by decide +kernel
theorem d26_13 : decode jdk_31_method_10_code 13 = .ok (.areturn, 1) := by decide +kernel
theorem pn_java_util_Objects : plainName "java/util/Objects" = true := by first | (simp [plainName, overriddenIn]; done) | decide +kernel
def Q26 (Z : State) (m_OA : Addr) (w_EMPTY_ELEMENTDATA : Addr) (w_DEFAULTCAPACITY_EMPTY_ELEMENTDATA : Addr) (w_EMPTY_LIST : Addr) (w_EMPTY_LIST_elements : Addr) (w_EMPTY : Addr) (k_w_EMPTY_ELEMENTDATA : ClassId) (k_w_DEFAULTCAPACITY_EMPTY_ELEMENTDATA : ClassId) (k_w_EMPTY_LIST_elements : ClassId) (a1 : Addr) (h0 : Heap) (n0 : Nat) (v : Option Value) (h : Heap) (L : List Loc) : Prop := v = some (.ref a1) ∧ Fr n0 L ∧ h = h0
theorem ef26 (m : MethodId) (x0 : Addr) : entryFrame m #[(.ref x0)] 1 = mkF m 0 #[.val (.ref x0)] [] := by first | (simp [entryFrame, mkF, argsToLocals, Value.category]; done) | rfl
set_option maxRecDepth 65536 in
set_option maxHeartbeats 40000000 in
theorem rm26 (l : Launch) (Z : State) (a0 : Array Value) (hw : ∀ d ∈ tables_1, d.before a0 Z = true) (ws : List Jvm.Cond) {m_OA : Addr} {w_EMPTY_ELEMENTDATA : Addr} {w_DEFAULTCAPACITY_EMPTY_ELEMENTDATA : Addr} {w_EMPTY_LIST : Addr} {w_EMPTY_LIST_elements : Addr} {w_EMPTY : Addr} {k_w_EMPTY_ELEMENTDATA : ClassId} {k_w_DEFAULTCAPACITY_EMPTY_ELEMENTDATA : ClassId} {k_w_EMPTY_LIST_elements : ClassId} (G : Glob Z m_OA w_EMPTY_ELEMENTDATA w_DEFAULTCAPACITY_EMPTY_ELEMENTDATA w_EMPTY_LIST w_EMPTY_LIST_elements w_EMPTY k_w_EMPTY_ELEMENTDATA k_w_DEFAULTCAPACITY_EMPTY_ELEMENTDATA k_w_EMPTY_LIST_elements) (a1 : Addr) (h0 : Heap) (n0 : Nat) (O0 : Old Z n0 h0) :
    MetFree l (⟨"java/util/Objects", "requireNonNull", "(Ljava/lang/Object;)Ljava/lang/Object;"⟩ : MethodName) (head1 (Jvm.Cond.code (⟨"java/util/Objects", "requireNonNull", "(Ljava/lang/Object;)Ljava/lang/Object;"⟩ : MethodName) jdk_31_method_10_code 1 (some (.object "java/lang/Object")) :: ws) ({ frames := 0, cells := 0, slots := 0, locals := 0 } : Room)) (fun a U => a = #[(.ref a1)] ∧ Z.Warmed39 U.vm ∧ U.heap = h0) (fun _ _ _ _ _ => True) (fun _ U o U' => ∃ v L, o = .returned v ∧ Q26 Z m_OA w_EMPTY_ELEMENTDATA w_DEFAULTCAPACITY_EMPTY_ELEMENTDATA w_EMPTY_LIST w_EMPTY_LIST_elements w_EMPTY k_w_EMPTY_ELEMENTDATA k_w_DEFAULTCAPACITY_EMPTY_ELEMENTDATA k_w_EMPTY_LIST_elements a1 h0 n0 v U'.heap L ∧ FrameEnd U o U' L ({ frames := 0, cells := 0, slots := 0, locals := 0 } : Room).cells ({ frames := 0, cells := 0, slots := 0, locals := 0 } : Room).slots) := by
  refine MetFree.of_bodySF (plainFor_of_name pn_java_util_Objects) hisR ?_
  intro p e s m args below meth c s₁ Bd hml0 hP hK
  obtain ⟨rfl, hZ, hh⟩ := hP
  have hx := Bd.exec
  have hby := Bd.bytes
  have hml : c.maxLocals = 1 := hml0
  have hown : s.vm.findClass "java/util/Objects" = some m.cls := findClass_of_methodNamed Bd.named
  have hnm := (name_of_methodNamed Bd.named Bd.method).1
  have X0 : Stand p l e ({ frames := 0, cells := 0, slots := 0, locals := 0 } : Room) s m #[(.ref a1)] below meth c s₁ [] 0 0 := Stand.of_body Bd
  have e0 : s₁.heap = h0 := by rw [← hh, Bd.state]; rfl
  have N0 := Fr.nil n0
  show OGot p.tables e below (s₁.setTop (entryFrame m #[(.ref a1)] 1)) _
  refine OGot.go (fun t k => castTop (ef26 m a1) k) ?_
  show OGot p.tables e below (s₁.setTop (mkF m 0 #[.val (.ref a1)] [])) _
  refine OGot.go (fun t k => XS.aloadN X0.here hx rfl (hb hby d26_0) rfl rfl k) ?_
  refine OGot.go (fun t k => XS.ifnonnullYes X0.here hx rfl (pc0 := 1) (pc' := 12) rfl (hb hby d26_1) rfl (by decide) (by decide) k) ?_
  refine OGot.go (fun t k => XS.aloadN X0.here hx rfl (hb hby d26_12) rfl rfl k) ?_
  show OGot p.tables e below (s₁.setTop (mkF m 13 #[.val (.ref a1)] [(.ref a1)])) _
  obtain ⟨fs, hr, hrun, hended, hW, hsame⟩ := X0.leave (v := some (.ref a1)) (fun h => by rw [Bd.returns] at h; cases h)
  refine ⟨_, _, oretA X0 hx Bd.returns rfl rfl (hb hby d26_13) hr, hrun, hended, _, _, rfl, ?_, ⟨_, rfl⟩, hW, hsame.mono (by decide) (by decide)⟩
  exact (⟨rfl, N0, e0⟩ : Q26 Z m_OA w_EMPTY_ELEMENTDATA w_DEFAULTCAPACITY_EMPTY_ELEMENTDATA w_EMPTY_LIST w_EMPTY_LIST_elements w_EMPTY k_w_EMPTY_ELEMENTDATA k_w_DEFAULTCAPACITY_EMPTY_ELEMENTDATA k_w_EMPTY_LIST_elements a1 h0 n0 _ s₁.heap _)
theorem pd_14 : parseMethodDescriptor "(Ljava/lang/Object;)Ljava/lang/Object;" = some ⟨[(.object "java/lang/Object")], some (.object "java/lang/Object")⟩ := by decide +kernel
theorem d37_9 : decode jdk_44_method_1_code 9 = .ok (.putfield 13, 3) := by decide +kernel
theorem d37_12 : decode jdk_44_method_1_code 12 = .ok (.aload_n 0, 1) := by decide +kernel
theorem d37_13 : decode jdk_44_method_1_code 13 = .ok (.getstatic 19, 3) := by decide +kernel
theorem d37_16 : decode jdk_44_method_1_code 16 = .ok (.putfield 24, 3) := by decide +kernel
theorem d37_19 : decode jdk_44_method_1_code 19 = .ok (.return_, 1) := by decide +kernel
theorem pn_java_util_ImmutableCollections_List12 : plainName "java/util/ImmutableCollections$List12" = true := by first | (simp [plainName, overriddenIn]; done) | decide +kernel
def Q37 (Z : State) (m_OA : Addr) (w_EMPTY_ELEMENTDATA : Addr) (w_DEFAULTCAPACITY_EMPTY_ELEMENTDATA : Addr) (w_EMPTY_LIST : Addr) (w_EMPTY_LIST_elements : Addr) (w_EMPTY : Addr) (k_w_EMPTY_ELEMENTDATA : ClassId) (k_w_DEFAULTCAPACITY_EMPTY_ELEMENTDATA : ClassId) (k_w_EMPTY_LIST_elements : ClassId) (a1 : Addr) (a2 : Addr) (h0 : Heap) (n0 : Nat) (v : Option Value) (h : Heap) (L : List Loc) : Prop := Fr n0 L ∧ v = none ∧ OKeep h0 h [(a1, Jvm.RoadKit.slotOf Z "java/util/ImmutableCollections$List12" "e0" "Ljava/lang/Object;"), (a1, Jvm.RoadKit.slotOf Z "java/util/ImmutableCollections$List12" "e1" "Ljava/lang/Object;")] ∧ Fld Z h a1 "java/util/ImmutableCollections$List12" "e0" "Ljava/lang/Object;" (.ref a2) ∧ Fld Z h a1 "java/util/ImmutableCollections$List12" "e1" "Ljava/lang/Object;" (.ref w_EMPTY)
theorem ef37 (m : MethodId) (x0 : Addr) (x1 : Addr) : entryFrame m #[(.ref x0), (.ref x1)] 2 = mkF m 0 #[.val (.ref x0), .val (.ref x1)] [] := by first | (simp [entryFrame, mkF, argsToLocals, Value.category]; done) | rfl
set_option maxRecDepth 65536 in
set_option maxHeartbeats 40000000 in
theorem rm37 (l : Launch) (Z : State) (a0 : Array Value) (hw : ∀ d ∈ tables_1, d.before a0 Z = true) (ws : List Jvm.Cond) {m_OA : Addr} {w_EMPTY_ELEMENTDATA : Addr} {w_DEFAULTCAPACITY_EMPTY_ELEMENTDATA : Addr} {w_EMPTY_LIST : Addr} {w_EMPTY_LIST_elements : Addr} {w_EMPTY : Addr} {k_w_EMPTY_ELEMENTDATA : ClassId} {k_w_DEFAULTCAPACITY_EMPTY_ELEMENTDATA : ClassId} {k_w_EMPTY_LIST_elements : ClassId} (G : Glob Z m_OA w_EMPTY_ELEMENTDATA w_DEFAULTCAPACITY_EMPTY_ELEMENTDATA w_EMPTY_LIST w_EMPTY_LIST_elements w_EMPTY k_w_EMPTY_ELEMENTDATA k_w_DEFAULTCAPACITY_EMPTY_ELEMENTDATA k_w_EMPTY_LIST_elements) (a1 : Addr) (a2 : Addr) (h0 : Heap) (n0 : Nat) (O0 : Old Z n0 h0) (E_a1 : Exa Z h0 a1 "java/util/ImmutableCollections$List12") (F_e0_a1 : Fld Z h0 a1 "java/util/ImmutableCollections$List12" "e0" "Ljava/lang/Object;" .null) (g_a1 : n0 ≤ a1) (F_e1_a1 : Fld Z h0 a1 "java/util/ImmutableCollections$List12" "e1" "Ljava/lang/Object;" .null) :
    MetFree l (⟨"java/util/ImmutableCollections$List12", "<init>", "(Ljava/lang/Object;)V"⟩ : MethodName) (head1 (Jvm.Cond.code (⟨"java/util/ImmutableCollections$List12", "<init>", "(Ljava/lang/Object;)V"⟩ : MethodName) jdk_44_method_1_code 2 none :: ws) ({ frames := 4, cells := 0, slots := 0, locals := 48 } : Room)) (fun a U => a = #[(.ref a1), (.ref a2)] ∧ Z.Warmed39 U.vm ∧ U.heap = h0) (fun _ _ _ _ _ => True) (fun _ U o U' => ∃ v L, o = .returned v ∧ Q37 Z m_OA w_EMPTY_ELEMENTDATA w_DEFAULTCAPACITY_EMPTY_ELEMENTDATA w_EMPTY_LIST w_EMPTY_LIST_elements w_EMPTY k_w_EMPTY_ELEMENTDATA k_w_DEFAULTCAPACITY_EMPTY_ELEMENTDATA k_w_EMPTY_LIST_elements a1 a2 h0 n0 v U'.heap L ∧ FrameEnd U o U' L ({ frames := 4, cells := 0, slots := 0, locals := 48 } : Room).cells ({ frames := 4, cells := 0, slots := 0, locals := 48 } : Room).slots) := by
  refine MetFree.of_bodySF (plainFor_of_name pn_java_util_ImmutableCollections_List12) hisR ?_
  intro p e s m args below meth c s₁ Bd hml0 hP hK
  obtain ⟨rfl, hZ, hh⟩ := hP
  have hx := Bd.exec
  have hby := Bd.bytes
  have hml : c.maxLocals = 2 := hml0
  have hown : s.vm.findClass "java/util/ImmutableCollections$List12" = some m.cls := findClass_of_methodNamed Bd.named
  have hnm := (name_of_methodNamed Bd.named Bd.method).1
  have X0 : Stand p l e ({ frames := 4, cells := 0, slots := 0, locals := 48 } : Room) s m #[(.ref a1), (.ref a2)] below meth c s₁ [] 0 0 := Stand.of_body Bd
  have e0 : s₁.heap = h0 := by rw [← hh, Bd.state]; rfl
  have N0 := Fr.nil n0
  show OGot p.tables e below (s₁.setTop (entryFrame m #[(.ref a1), (.ref a2)] 2)) _
  refine OGot.go (fun t k => castTop (ef37 m a1 a2) k) ?_
  show OGot p.tables e below (s₁.setTop (mkF m 0 #[.val (.ref a1), .val (.ref a2)] [])) _
  refine OGot.go (fun t k => XS.aloadN X0.here hx rfl (hb hby d37_0) rfl rfl k) ?_
  obtain ⟨_, _, ⟨T3, L3, k3, n3⟩, -, X3, ⟨Lc3, hQ3, l3, y3, z3⟩, st3⟩ := X0.specialBack hx (y := (⟨"java/util/ImmutableCollections$AbstractImmutableList", "<init>", "()V"⟩ : MethodName)) rfl hown (mvT hZ (ow hw 225 rfl)) (mvT hZ (ow hw 183 rfl)) (mvT hZ (ow hw 187 rfl)) (by decide) (backOf (W := 0) (rm28 l Z a0 hw [] G a1 h0 n0 O0 ) hZ (ow hw 187 rfl) (ow hw 186 rfl) (by decide) (by decide)) (g := (mkF m 1 #[.val (.ref a1), .val (.ref a2)] [(.ref a1)])) rfl (by rw [hml]; rfl) (Steps.refl _) (a := a1) (argsL := []) (rest := []) (lenOf pd_0 rfl) rfl (by show 2 * 0 + _ ≤ _; exact Nat.le_of_eq rfl) (hb hby d37_1) (fun _ _ => ⟨rfl, e0, (by decide : 0 + 0 ≤ _), (by decide : 0 + 0 ≤ _)⟩)
  dsimp only [Pt.U, Pt.locs, Pt.cells, Pt.slots] at X3 l3 y3 z3 st3 hQ3
  subst l3 y3 z3
  obtain ⟨rfl, N3q, e3⟩ := hQ3
  have N3 := Fr.app N0 N3q
  refine OGot.on st3 ?_
  refine OGot.go (fun t k => XS.aloadN X3.here hx rfl (hb hby d37_4) rfl rfl k) ?_
  refine OGot.go (fun t k => XS.aloadN X3.here hx rfl (hb hby d37_5) rfl rfl k) ?_
  obtain ⟨_, _, ⟨T4, L4, k4, n4⟩, -, X4, ⟨Lc4, hQ4, l4, y4, z4⟩, st4⟩ := Jvm.LawKit.callS X3 hx (y := (⟨"java/util/Objects", "requireNonNull", "(Ljava/lang/Object;)Ljava/lang/Object;"⟩ : MethodName)) hown (mvT hZ (ow hw 229 rfl)) (mvT hZ (ow hw 174 rfl)) (mvT hZ (ow hw 175 rfl)) (mvT hZ (ow hw 176 rfl)) (by decide) (backOf (W := 1) (rm26 l Z a0 hw [] G a2 h0 n0 O0 ) hZ (ow hw 176 rfl) (ow hw 175 rfl) (by decide) (by decide)) (g := (mkF m 6 #[.val (.ref a1), .val (.ref a2)] [(.ref a2), (.ref a1)])) rfl (by rw [hml]; rfl) (argsL := [(.ref a2)]) (rest := [(.ref a1)]) (lenOf pd_14 rfl) rfl (by show 2 * 0 + _ ≤ _; exact Nat.le_of_eq rfl) (hb hby d37_6) (fun _ _ => ⟨rfl, e3, (by decide : 0 + 0 ≤ _), (by decide : 0 + 0 ≤ _)⟩)
  dsimp only [Pt.U, Pt.locs, Pt.cells, Pt.slots] at X4 l4 y4 z4 st4 hQ4
  subst l4 y4 z4
  obtain ⟨rfl, N4q, e4⟩ := hQ4
  have N4 := Fr.app N3 N4q
  refine OGot.go st4 ?_
  show OGot p.tables e below (T4.setTop (mkF m 9 #[.val (.ref a1), .val (.ref a2)] [(.ref a2), (.ref a1)])) _
  obtain ⟨T5, h5, X5, e5, W5, st5⟩ := putF X4 hx hZ hown (host := "") (Or.inl (ow hw 230 rfl)) Via.refl e4 F_e0_a1 E_a1 (Or.inr ⟨(ow hw 231 rfl), rfl, hnm⟩) (ow hw 219 rfl) (ty := (.object "java/lang/Object")) (by decide) rfl rfl (g := (mkF m 9 #[.val (.ref a1), .val (.ref a2)] [(.ref a2), (.ref a1)])) rfl rfl (hb hby d37_9)
  refine OGot.go st5 ?_
  have N5 := Fr.snoc X5 N4 g_a1
  have O5 := O0.wr W5 g_a1
  have K5 := (OKeep.refl h0 [(a1, Jvm.RoadKit.slotOf Z "java/util/ImmutableCollections$List12" "e0" "Ljava/lang/Object;"), (a1, Jvm.RoadKit.slotOf Z "java/util/ImmutableCollections$List12" "e1" "Ljava/lang/Object;")]).wr W5 (Or.inl (List.mem_of_getElem? (i := 0) rfl))
  have Fw5 : Fld Z h5 a1 "java/util/ImmutableCollections$List12" "e0" "Ljava/lang/Object;" (.ref a2) := F_e0_a1.same W5
  refine OGot.go (fun t k => XS.aloadN X5.here hx rfl (hb hby d37_12) rfl rfl k) ?_
  obtain ⟨T6, X6, e6, st6⟩ := getS2 X5 hx hZ hown (Or.inr (ow hw 240 rfl)) Via.refl e5 (G.2.2.2.2.2.2.2.2.2.1.ext O5.2) (g := (mkF m 13 #[.val (.ref a1), .val (.ref a2)] [(.ref a1)])) rfl (hb hby d37_13)
  refine OGot.go st6 ?_
  have F7 : Fld Z h5 a1 "java/util/ImmutableCollections$List12" "e1" "Ljava/lang/Object;" .null := (F_e1_a1.other W5 (Or.inr (slot_ne (Or.inr (ow hw 233 rfl)) (Or.inr (ow hw 231 rfl)) (by decide) (t := (.object "java/lang/Object")) (t' := (.object "java/lang/Object")) (by decide) (by decide))))
  obtain ⟨T8, h8, X8, e8, W8, st8⟩ := putF X6 hx hZ hown (host := "") (Or.inl (ow hw 232 rfl)) Via.refl e6 F7 (E_a1.wr W5) (Or.inr ⟨(ow hw 233 rfl), rfl, hnm⟩) (ow hw 219 rfl) (ty := (.object "java/lang/Object")) (by decide) rfl rfl (g := (mkF m 16 #[.val (.ref a1), .val (.ref a2)] [(.ref w_EMPTY), (.ref a1)])) rfl rfl (hb hby d37_16)
  refine OGot.go st8 ?_
  have N8 := Fr.snoc X8 N5 g_a1
  have O8 := O5.wr W8 g_a1
  have K8 := K5.wr W8 (Or.inl (List.mem_of_getElem? (i := 1) rfl))
  have Fw8 : Fld Z h8 a1 "java/util/ImmutableCollections$List12" "e1" "Ljava/lang/Object;" (.ref w_EMPTY) := F7.same W8
  show OGot p.tables e below (T8.setTop (mkF m 19 #[.val (.ref a1), .val (.ref a2)] [])) _
  obtain ⟨fs, hr, hrun, hended, hW, hsame⟩ := X8.leave (v := none) (fun _ => rfl)
  refine ⟨_, _, X8.returnOut hx Bd.returns (hb hby d37_19) hr, hrun, hended, _, _, rfl, ?_, ⟨_, rfl⟩, hW, hsame.mono (by decide) (by decide)⟩
  have F9 : Fld Z h8 a1 "java/util/ImmutableCollections$List12" "e0" "Ljava/lang/Object;" (.ref a2) := (Fw5.other W8 (Or.inr (slot_ne (Or.inr (ow hw 231 rfl)) (Or.inr (ow hw 233 rfl)) (by decide) (t := (.object "java/lang/Object")) (t' := (.object "java/lang/Object")) (by decide) (by decide))))
  show Q37 Z m_OA w_EMPTY_ELEMENTDATA w_DEFAULTCAPACITY_EMPTY_ELEMENTDATA w_EMPTY_LIST w_EMPTY_LIST_elements w_EMPTY k_w_EMPTY_ELEMENTDATA k_w_DEFAULTCAPACITY_EMPTY_ELEMENTDATA k_w_EMPTY_LIST_elements a1 a2 h0 n0 _ T8.heap _
  rw [e8]
  exact ⟨N8, rfl, K8, F9, Fw8⟩
theorem pd_15 : parseMethodDescriptor "(Ljava/lang/Object;)V" = some ⟨[(.object "java/lang/Object")], none⟩ := by decide +kernel
theorem d24_44 : decode jdk_40_method_47_code 44 = .ok (.areturn, 1) := by decide +kernel
def Q24 (Z : State) (m_OA : Addr) (w_EMPTY_ELEMENTDATA : Addr) (w_DEFAULTCAPACITY_EMPTY_ELEMENTDATA : Addr) (w_EMPTY_LIST : Addr) (w_EMPTY_LIST_elements : Addr) (w_EMPTY : Addr) (k_w_EMPTY_ELEMENTDATA : ClassId) (k_w_DEFAULTCAPACITY_EMPTY_ELEMENTDATA : ClassId) (k_w_EMPTY_LIST_elements : ClassId) (a1 : Addr) (k2 : ClassId) (a3 : Addr) (h0 : Heap) (n0 : Nat) (v : Option Value) (h : Heap) (L : List Loc) : Prop := Fr n0 L ∧ ∃ b5 : Addr, v = some (.ref b5) ∧ h0.size ≤ b5 ∧ OKeep h0 h [] ∧ Exa Z h b5 "java/util/ImmutableCollections$List12" ∧ Fld Z h b5 "java/util/ImmutableCollections$List12" "e0" "Ljava/lang/Object;" (.ref a3) ∧ Fld Z h b5 "java/util/ImmutableCollections$List12" "e1" "Ljava/lang/Object;" (.ref w_EMPTY)
theorem ef24 (m : MethodId) (x0 : Addr) : entryFrame m #[(.ref x0)] 2 = mkF m 0 #[.val (.ref x0), .unset] [] := by first | (simp [entryFrame, mkF, argsToLocals, Value.category]; done) | rfl
set_option maxRecDepth 65536 in
set_option maxHeartbeats 40000000 in
theorem rm24 (l : Launch) (Z : State) (a0 : Array Value) (hw : ∀ d ∈ tables_1, d.before a0 Z = true) (ws : List Jvm.Cond) {m_OA : Addr} {w_EMPTY_ELEMENTDATA : Addr} {w_DEFAULTCAPACITY_EMPTY_ELEMENTDATA : Addr} {w_EMPTY_LIST : Addr} {w_EMPTY_LIST_elements : Addr} {w_EMPTY : Addr} {k_w_EMPTY_ELEMENTDATA : ClassId} {k_w_DEFAULTCAPACITY_EMPTY_ELEMENTDATA : ClassId} {k_w_EMPTY_LIST_elements : ClassId} (G : Glob Z m_OA w_EMPTY_ELEMENTDATA w_DEFAULTCAPACITY_EMPTY_ELEMENTDATA w_EMPTY_LIST w_EMPTY_LIST_elements w_EMPTY k_w_EMPTY_ELEMENTDATA k_w_DEFAULTCAPACITY_EMPTY_ELEMENTDATA k_w_EMPTY_LIST_elements) (a1 : Addr) (k2 : ClassId) (a3 : Addr) (h0 : Heap) (n0 : Nat) (O0 : Old Z n0 h0) (V_a1 : Arv Z h0 a1 k2 (.object "java/lang/Object") (1 : Int32) [(.ref a3)] .null) (O_k2 : Ovr Z k2 "java/lang/Object") :
    MetFree l (⟨"java/util/List", "of", "([Ljava/lang/Object;)Ljava/util/List;"⟩ : MethodName) (head1 (Jvm.Cond.code (⟨"java/util/List", "of", "([Ljava/lang/Object;)Ljava/util/List;"⟩ : MethodName) jdk_40_method_47_code 2 (some (.object "java/util/List")) :: ws) ({ frames := 5, cells := 1, slots := 2, locals := 62 } : Room)) (fun a U => a = #[(.ref a1)] ∧ Z.Warmed39 U.vm ∧ U.heap = h0) (fun _ _ _ _ _ => True) (fun _ U o U' => ∃ v L, o = .returned v ∧ Q24 Z m_OA w_EMPTY_ELEMENTDATA w_DEFAULTCAPACITY_EMPTY_ELEMENTDATA w_EMPTY_LIST w_EMPTY_LIST_elements w_EMPTY k_w_EMPTY_ELEMENTDATA k_w_DEFAULTCAPACITY_EMPTY_ELEMENTDATA k_w_EMPTY_LIST_elements a1 k2 a3 h0 n0 v U'.heap L ∧ FrameEnd U o U' L ({ frames := 5, cells := 1, slots := 2, locals := 62 } : Room).cells ({ frames := 5, cells := 1, slots := 2, locals := 62 } : Room).slots) := by
  refine MetFree.of_bodySF (plainFor_of_name pn_java_util_List) hisR ?_
  intro p e s m args below meth c s₁ Bd hml0 hP hK
  obtain ⟨rfl, hZ, hh⟩ := hP
  have hx := Bd.exec
  have hby := Bd.bytes
  have hml : c.maxLocals = 2 := hml0
  have hown : s.vm.findClass "java/util/List" = some m.cls := findClass_of_methodNamed Bd.named
  have hnm := (name_of_methodNamed Bd.named Bd.method).1
  have X0 : Stand p l e ({ frames := 5, cells := 1, slots := 2, locals := 62 } : Room) s m #[(.ref a1)] below meth c s₁ [] 0 0 := Stand.of_body Bd
  have e0 : s₁.heap = h0 := by rw [← hh, Bd.state]; rfl
  have N0 := Fr.nil n0
  show OGot p.tables e below (s₁.setTop (entryFrame m #[(.ref a1)] 2)) _
  refine OGot.go (fun t k => castTop (ef24 m a1) k) ?_
  show OGot p.tables e below (s₁.setTop (mkF m 0 #[.val (.ref a1), .unset] [])) _
  refine OGot.go (fun t k => XS.aloadN X0.here hx rfl (hb hby d24_0) rfl rfl k) ?_
  obtain ⟨cl4, Ar4, -, Sz4, Ng4, -, -⟩ := id (V_a1)
  refine OGot.go (fun t k => X0.arraylength hx (by rw [e0]; exact Ar4.1) (State.isArrayOf_alike hZ.alike Ar4.2.1) (g := (mkF m 1 #[.val (.ref a1), .unset] [(.ref a1)])) rfl rfl (hb hby d24_1) _ k) ?_
  rw [len_of Sz4 Ng4]
  refine OGot.go (fun t k => XS.tswIn X0.here hx rfl (pc0 := 2) (pc' := 34) rfl (hb hby d24_2) rfl (by decide) (o := 32) (by decide) (by decide) (by decide) k) ?_
  obtain ⟨T5, h5, X5, e5, E5, A5, D5, -, st5⟩ := newO X0 hx hZ hown (ow hw 218 rfl) (ow hw 219 rfl) (ow hw 220 rfl) e0 (g := (mkF m 34 #[.val (.ref a1), .unset] [])) rfl (hb hby d24_34) (by decide) (by decide)
  obtain ⟨b5, g5⟩ : ∃ z, z = h0.size := ⟨_, rfl⟩
  rw [← g5] at A5 D5 st5
  refine OGot.go st5 ?_
  have g_b5 : n0 ≤ b5 := Nat.le_trans (osz O0) (Nat.le_of_eq g5.symm)
  have sy_b5 : h0.size ≤ b5 := Nat.le_of_eq g5.symm
  have sz_b5 : h0.size ≤ b5 := Nat.le_trans (OKeep.refl h0 []).1 sy_b5
  have K5 := (OKeep.refl h0 []).ext E5
  have O5 := O0.ext E5
  have F5_e0 : Fld Z h5 b5 "java/util/ImmutableCollections$List12" "e0" "Ljava/lang/Object;" .null := D5 (Or.inr (ow hw 231 rfl)) (ty := (.object "java/lang/Object")) (by decide)
  have F5_e1 : Fld Z h5 b5 "java/util/ImmutableCollections$List12" "e1" "Ljava/lang/Object;" .null := D5 (Or.inr (ow hw 233 rfl)) (ty := (.object "java/lang/Object")) (by decide)
  refine OGot.go (fun t k => XS.dup X5.here hx rfl (hb hby d24_37) rfl rfl k) ?_
  show OGot p.tables e below (T5.setTop (mkF m 38 #[.val (.ref a1), .unset] [(.ref b5), (.ref b5)])) _
  refine OGot.go (fun t k => XS.aloadN X5.here hx rfl (hb hby d24_38) rfl rfl k) ?_
  refine OGot.go (fun t k => XS.iconst X5.here hx rfl (hb hby d24_39) k) ?_
  have F6 : Arv Z h5 a1 k2 (.object "java/lang/Object") (1 : Int32) [(.ref a3)] .null := (V_a1.ext E5)
  obtain ⟨cl7, Ar7, qc7, Sz7, Ng7, Hh7, Gg7⟩ := id (F6)
  have hin7 : ¬ ((0 : Int32) < 0 ∨ cl7.slots.size ≤ ((0 : Int32)).toNatClampNeg) := inb_of Sz7 ⟨by decide, by decide⟩
  have hat7 : cl7.slots[((0 : Int32)).toNatClampNeg]? = some (.ref a3) := Hh7.at hin7 rfl
  refine OGot.go (fun t k => X5.aaload hx (j := (0 : Int32)) (v := (.ref a3)) (by rw [e5]; exact Ar7.1) (State.isArrayOf_alike hZ.alike Ar7.2.1) rfl Ar7.2.2 hin7 hat7 (g := (mkF m 40 #[.val (.ref a1), .unset] [(.int (0 : Int32)), (.ref a1), (.ref b5), (.ref b5)])) rfl rfl (hb hby d24_40) _ k) ?_
  obtain ⟨_, _, ⟨T8, L8, k8, n8⟩, -, X8, ⟨Lc8, hQ8, l8, y8, z8⟩, st8⟩ := X5.specialBack hx (y := (⟨"java/util/ImmutableCollections$List12", "<init>", "(Ljava/lang/Object;)V"⟩ : MethodName)) rfl hown (mvT hZ (ow hw 251 rfl)) (mvT hZ (ow hw 252 rfl)) (mvT hZ (ow hw 253 rfl)) (by decide) (backOf (W := 1) (rm37 l Z a0 hw [] G b5 a3 h5 n0 O5 A5 F5_e0 g_b5 F5_e1) hZ (ow hw 253 rfl) (ow hw 220 rfl) (by decide) (by decide)) (g := (mkF m 41 #[.val (.ref a1), .unset] [(.ref a3), (.ref b5), (.ref b5)])) rfl (by rw [hml]; rfl) (Steps.refl _) (a := b5) (argsL := [(.ref a3)]) (rest := [(.ref b5)]) (lenOf pd_15 rfl) rfl (by show 2 * 0 + _ ≤ _; exact Nat.le_of_eq rfl) (hb hby d24_41) (fun _ _ => ⟨rfl, e5, (by decide : 1 + 0 ≤ _), (by decide : 2 + 0 ≤ _)⟩)
  dsimp only [Pt.U, Pt.locs, Pt.cells, Pt.slots] at X8 l8 y8 z8 st8 hQ8
  subst l8 y8 z8
  obtain ⟨N8q, rfl, K8, Fo8_0, Fo8_1⟩ := hQ8
  have Kc8 := K5.trans K8 (oinS (Or.inr sz_b5) (oinS (Or.inr sz_b5) oin0))
  have O8 := OKeep.old O5 K8 (ogeS g_b5 (ogeS g_b5 oge0))
  have N8 := Fr.app N0 N8q
  refine OGot.on st8 ?_
  show OGot p.tables e below (T8.setTop (mkF m 44 #[.val (.ref a1), .unset] [(.ref b5)])) _
  obtain ⟨fs, hr, hrun, hended, hW, hsame⟩ := X8.leave (v := some (.ref b5)) (fun h => by rw [Bd.returns] at h; cases h)
  refine ⟨_, _, oretA X8 hx Bd.returns rfl rfl (hb hby d24_44) hr, hrun, hended, _, _, rfl, ?_, ⟨_, rfl⟩, hW, hsame.mono (by decide) (by decide)⟩
  show Q24 Z m_OA w_EMPTY_ELEMENTDATA w_DEFAULTCAPACITY_EMPTY_ELEMENTDATA w_EMPTY_LIST w_EMPTY_LIST_elements w_EMPTY k_w_EMPTY_ELEMENTDATA k_w_DEFAULTCAPACITY_EMPTY_ELEMENTDATA k_w_EMPTY_LIST_elements a1 k2 a3 h0 n0 _ T8.heap _
  exact ⟨N8, b5, rfl, sz_b5, Kc8, (OKeep.exa A5 K8), Fo8_0, Fo8_1⟩
theorem pd_16 : parseMethodDescriptor "([Ljava/lang/Object;)Ljava/util/List;" = some ⟨[(.array (.object "java/lang/Object"))], some (.object "java/util/List")⟩ := by decide +kernel
theorem d8_53 : decode jdk_56_method_3_code 53 = .ok (.areturn, 1) := by decide +kernel
def Q8_1 (Z : State) (m_OA : Addr) (w_EMPTY_ELEMENTDATA : Addr) (w_DEFAULTCAPACITY_EMPTY_ELEMENTDATA : Addr) (w_EMPTY_LIST : Addr) (w_EMPTY_LIST_elements : Addr) (w_EMPTY : Addr) (k_w_EMPTY_ELEMENTDATA : ClassId) (k_w_DEFAULTCAPACITY_EMPTY_ELEMENTDATA : ClassId) (k_w_EMPTY_LIST_elements : ClassId) (a1 : Addr) (a5 : Addr) (k6 : ClassId) (a7 : Addr) (h0 : Heap) (n0 : Nat) (v : Option Value) (h : Heap) (L : List Loc) : Prop := Fr n0 L ∧ ∃ b5_9 : Addr, v = some (.ref b5_9) ∧ h0.size ≤ b5_9 ∧ OKeep h0 h [] ∧ Exa Z h b5_9 "java/util/ImmutableCollections$List12" ∧ Fld Z h b5_9 "java/util/ImmutableCollections$List12" "e0" "Ljava/lang/Object;" (.ref a7) ∧ Fld Z h b5_9 "java/util/ImmutableCollections$List12" "e1" "Ljava/lang/Object;" (.ref w_EMPTY)
theorem ef8_1 (m : MethodId) (x0 : Addr) : entryFrame m #[(.ref x0)] 2 = mkF m 0 #[.val (.ref x0), .unset] [] := by first | (simp [entryFrame, mkF, argsToLocals, Value.category]; done) | rfl
set_option maxRecDepth 65536 in
set_option maxHeartbeats 40000000 in
theorem rm8_1 (l : Launch) (Z : State) (a0 : Array Value) (hw : ∀ d ∈ tables_1, d.before a0 Z = true) (ws : List Jvm.Cond) {m_OA : Addr} {w_EMPTY_ELEMENTDATA : Addr} {w_DEFAULTCAPACITY_EMPTY_ELEMENTDATA : Addr} {w_EMPTY_LIST : Addr} {w_EMPTY_LIST_elements : Addr} {w_EMPTY : Addr} {k_w_EMPTY_ELEMENTDATA : ClassId} {k_w_DEFAULTCAPACITY_EMPTY_ELEMENTDATA : ClassId} {k_w_EMPTY_LIST_elements : ClassId} (G : Glob Z m_OA w_EMPTY_ELEMENTDATA w_DEFAULTCAPACITY_EMPTY_ELEMENTDATA w_EMPTY_LIST w_EMPTY_LIST_elements w_EMPTY k_w_EMPTY_ELEMENTDATA k_w_DEFAULTCAPACITY_EMPTY_ELEMENTDATA k_w_EMPTY_LIST_elements) (a1 : Addr) (a5 : Addr) (k6 : ClassId) (a7 : Addr) (h0 : Heap) (n0 : Nat) (O0 : Old Z n0 h0) (E_a1 : Exa Z h0 a1 "java/util/ArrayList") (F_size_a1 : Fld Z h0 a1 "java/util/ArrayList" "size" "I" (.int (1 : Int32))) (F_elementData_a1 : Fld Z h0 a1 "java/util/ArrayList" "elementData" "[Ljava/lang/Object;" (.ref a5)) (E_a5 : Exa Z h0 a5 "[Ljava/lang/Object;") (V_a5 : Arv Z h0 a5 k6 (.object "java/lang/Object") (10 : Int32) [(.ref a7), .null, .null, .null, .null, .null, .null, .null, .null, .null] .null) (O_k6 : Ovr Z k6 "java/lang/Object") (E_a7 : Exa Z h0 a7 "com/example/curtail/curtail/Placement$Cell") :
    MetFree l (⟨"java/util/ImmutableCollections", "listCopy", "(Ljava/util/Collection;)Ljava/util/List;"⟩ : MethodName) (head1 (Jvm.Cond.code (⟨"java/util/ImmutableCollections", "listCopy", "(Ljava/util/Collection;)Ljava/util/List;"⟩ : MethodName) jdk_56_method_3_code 2 (some (.object "java/util/List")) :: ws) ({ frames := 6, cells := 2, slots := 3, locals := 75 } : Room)) (fun a U => a = #[(.ref a1)] ∧ Z.Warmed39 U.vm ∧ U.heap = h0) (fun _ _ _ _ _ => True) (fun _ U o U' => ∃ v L, o = .returned v ∧ Q8_1 Z m_OA w_EMPTY_ELEMENTDATA w_DEFAULTCAPACITY_EMPTY_ELEMENTDATA w_EMPTY_LIST w_EMPTY_LIST_elements w_EMPTY k_w_EMPTY_ELEMENTDATA k_w_DEFAULTCAPACITY_EMPTY_ELEMENTDATA k_w_EMPTY_LIST_elements a1 a5 k6 a7 h0 n0 v U'.heap L ∧ FrameEnd U o U' L ({ frames := 6, cells := 2, slots := 3, locals := 75 } : Room).cells ({ frames := 6, cells := 2, slots := 3, locals := 75 } : Room).slots) := by
  refine MetFree.of_bodySF (plainFor_of_name pn_java_util_ImmutableCollections) hisR ?_
  intro p e s m args below meth c s₁ Bd hml0 hP hK
  obtain ⟨rfl, hZ, hh⟩ := hP
  have hx := Bd.exec
  have hby := Bd.bytes
  have hml : c.maxLocals = 2 := hml0
  have hown : s.vm.findClass "java/util/ImmutableCollections" = some m.cls := findClass_of_methodNamed Bd.named
  have hnm := (name_of_methodNamed Bd.named Bd.method).1
  have X0 : Stand p l e ({ frames := 6, cells := 2, slots := 3, locals := 75 } : Room) s m #[(.ref a1)] below meth c s₁ [] 0 0 := Stand.of_body Bd
  have e0 : s₁.heap = h0 := by rw [← hh, Bd.state]; rfl
  have N0 := Fr.nil n0
  show OGot p.tables e below (s₁.setTop (entryFrame m #[(.ref a1)] 2)) _
  refine OGot.go (fun t k => castTop (ef8_1 m a1) k) ?_
  show OGot p.tables e below (s₁.setTop (mkF m 0 #[.val (.ref a1), .unset] [])) _
  refine OGot.go (fun t k => XS.aloadN X0.here hx rfl (hb hby d8_0) rfl rfl k) ?_
  obtain ⟨T2, X2, e2, st2⟩ := instNo X0 hx hZ hown (ow hw 46 rfl) e0 E_a1 (oNS.no (ow hw 47 rfl) (ow hw 219 rfl) (NS.step (ow hw 47 rfl) (NS.step (ow hw 48 rfl) (NS.step (ow hw 49 rfl) (oNS.root (ow hw 50 rfl) (ow hw 219 rfl) (by decide)) (by decide)) (by decide)) (by decide)) (by decide)) (g := (mkF m 1 #[.val (.ref a1), .unset] [(.ref a1)])) rfl rfl (hb hby d8_1)
  refine OGot.go st2 ?_
  refine OGot.go (fun t k => XS.ifNo X2.here hx rfl (hb hby d8_4) rfl (by decide) k) ?_
  refine OGot.go (fun t k => XS.aloadN X2.here hx rfl (hb hby d8_7) rfl rfl k) ?_
  obtain ⟨T3, X3, e3, st3⟩ := instNo X2 hx hZ hown (ow hw 51 rfl) e2 E_a1 (oNS.no (ow hw 47 rfl) (ow hw 177 rfl) (NS.step (ow hw 47 rfl) (NS.step (ow hw 48 rfl) (NS.step (ow hw 49 rfl) (oNS.root (ow hw 50 rfl) (ow hw 177 rfl) (by decide)) (by decide)) (by decide)) (by decide)) (by decide)) (g := (mkF m 8 #[.val (.ref a1), .unset] [(.ref a1)])) rfl rfl (hb hby d8_8)
  refine OGot.go st3 ?_
  show OGot p.tables e below (T3.setTop (mkF m 11 #[.val (.ref a1), .unset] [(.int (0 : Int32))])) _
  refine OGot.go (fun t k => XS.ifYes X3.here hx rfl (pc0 := 11) (pc' := 31) rfl (hb hby d8_11) rfl (by decide) (by decide) (by decide) k) ?_
  refine OGot.go (fun t k => XS.aloadN X3.here hx rfl (hb hby d8_31) rfl rfl k) ?_
  obtain ⟨cq4, kq4, q4a, q4b, q4c⟩ := isOf hZ e3 E_a1
  obtain ⟨_, _, ⟨T4, L4, k4, n4⟩, -, X4, ⟨Lc4, hQ4, l4, y4, z4⟩, st4⟩ := X3.interfaceBack hx (xi := (⟨"java/util/Collection", "isEmpty", "()Z"⟩ : MethodName)) (y := (⟨"java/util/ArrayList", "isEmpty", "()Z"⟩ : MethodName)) hown (mvT hZ (ow hw 52 rfl)) (mvT hZ (ow hw 53 rfl)) (mvT hZ (ow hw 54 rfl)) (mvT hZ (ow hw 55 rfl)) (mvT hZ (ow hw 56 rfl)) (mvT hZ (ow hw 57 rfl)) (mvT hZ (ow hw 58 rfl)) (mvT hZ (ow hw 59 rfl)) (by decide) (backOf (W := 0) (rm9_1 l Z a0 hw [] G a1 h0 n0 O0 F_size_a1) hZ (ow hw 60 rfl) (ow hw 5 rfl) (by decide) (by decide)) q4a q4b q4c (g := (mkF m 32 #[.val (.ref a1), .unset] [(.ref a1)])) rfl (by rw [hml]; rfl) (Steps.refl _) (argsL := []) (rest := []) (lenOf pd_1 rfl) rfl (by show 2 * 0 + _ ≤ _; exact Nat.le_of_eq rfl) (hb hby d8_32) (fun _ _ => ⟨rfl, e3, (by decide : 0 + 0 ≤ _), (by decide : 0 + 0 ≤ _)⟩)
  dsimp only [Pt.U, Pt.locs, Pt.cells, Pt.slots] at X4 l4 y4 z4 st4 hQ4
  subst l4 y4 z4
  obtain ⟨rfl, N4q, e4⟩ := hQ4
  have N4 := Fr.app N0 N4q
  refine OGot.on st4 ?_
  refine OGot.go (fun t k => XS.ifYes X4.here hx rfl (pc0 := 37) (pc' := 44) rfl (hb hby d8_37) rfl (by decide) (by decide) (by decide) k) ?_
  refine OGot.go (fun t k => XS.aloadN X4.here hx rfl (hb hby d8_44) rfl rfl k) ?_
  show OGot p.tables e below (T4.setTop (mkF m 45 #[.val (.ref a1), .unset] [(.ref a1)])) _
  obtain ⟨cq8, kq8, q8a, q8b, q8c⟩ := isOf hZ e4 E_a1
  obtain ⟨_, _, ⟨T8, L8, k8, n8⟩, -, X8, ⟨Lc8, hQ8, l8, y8, z8⟩, st8⟩ := X4.interfaceBack hx (xi := (⟨"java/util/Collection", "toArray", "()[Ljava/lang/Object;"⟩ : MethodName)) (y := (⟨"java/util/ArrayList", "toArray", "()[Ljava/lang/Object;"⟩ : MethodName)) hown (mvT hZ (ow hw 136 rfl)) (mvT hZ (ow hw 137 rfl)) (mvT hZ (ow hw 138 rfl)) (mvT hZ (ow hw 139 rfl)) (mvT hZ (ow hw 140 rfl)) (mvT hZ (ow hw 141 rfl)) (mvT hZ (ow hw 142 rfl)) (mvT hZ (ow hw 59 rfl)) (by decide) (backOf (W := 0) (rm20 l Z a0 hw [] G a1 a5 k6 a7 h0 n0 O0 F_elementData_a1 F_size_a1 E_a5 V_a5 O_k6 E_a7) hZ (ow hw 143 rfl) (ow hw 5 rfl) (by decide) (by decide)) q8a q8b q8c (g := (mkF m 45 #[.val (.ref a1), .unset] [(.ref a1)])) rfl (by rw [hml]; rfl) (Steps.refl _) (argsL := []) (rest := []) (lenOf pd_9 rfl) rfl (by show 2 * 0 + _ ≤ _; exact Nat.le_of_eq rfl) (hb hby d8_45) (fun _ _ => ⟨rfl, e4, (by decide : 0 + 1 ≤ _), (by decide : 0 + 1 ≤ _)⟩)
  dsimp only [Pt.U, Pt.locs, Pt.cells, Pt.slots] at X8 l8 y8 z8 st8 hQ8
  subst l8 y8 z8
  obtain ⟨N8q, b4_5_7_8, k4_5_7_8, rfl, szb4_5_7_8_8, K8, Fo8_0, Fo8_1, Fo8_2⟩ := hQ8
  have g_b4_5_7_8 : n0 ≤ b4_5_7_8 := Nat.le_trans (osz O0) szb4_5_7_8_8
  have sz_b4_5_7_8 : h0.size ≤ b4_5_7_8 := Nat.le_trans (OKeep.refl h0 []).1 szb4_5_7_8_8
  have Kc8 := (OKeep.refl h0 []).trans K8 oin0
  have O8 := OKeep.old O0 K8 oge0
  have N8 := Fr.app N4 N8q
  refine OGot.on st8 ?_
  obtain ⟨_, _, ⟨T9, L9, k9, n9⟩, -, X9, ⟨Lc9, hQ9, l9, y9, z9⟩, st9⟩ := Jvm.LawKit.callS X8 hx (y := (⟨"java/util/List", "of", "([Ljava/lang/Object;)Ljava/util/List;"⟩ : MethodName)) hown (mvT hZ (ow hw 166 rfl)) (mvT hZ (ow hw 167 rfl)) (mvT hZ (ow hw 40 rfl)) (mvT hZ (ow hw 168 rfl)) (by decide) (backOf (W := 0) (rm24 l Z a0 hw [] G b4_5_7_8 k4_5_7_8 a7 T8.heap n0 O8 Fo8_1 Fo8_2) hZ (ow hw 168 rfl) (ow hw 40 rfl) (by decide) (by decide)) (g := (mkF m 50 #[.val (.ref a1), .unset] [(.ref b4_5_7_8)])) rfl (by rw [hml]; rfl) (argsL := [(.ref b4_5_7_8)]) (rest := []) (lenOf pd_16 rfl) rfl (by show 2 * 0 + _ ≤ _; exact Nat.le_of_eq rfl) (hb hby d8_50) (fun _ _ => ⟨rfl, rfl, (by decide : 1 + 1 ≤ _), (by decide : 1 + 2 ≤ _)⟩)
  dsimp only [Pt.U, Pt.locs, Pt.cells, Pt.slots] at X9 l9 y9 z9 st9 hQ9
  subst l9 y9 z9
  obtain ⟨N9q, b5_9, rfl, szb5_9_9, K9, Fo9_0, Fo9_1, Fo9_2⟩ := hQ9
  have g_b5_9 : n0 ≤ b5_9 := Nat.le_trans (osz O8) szb5_9_9
  have sz_b5_9 : h0.size ≤ b5_9 := Nat.le_trans Kc8.1 szb5_9_9
  have Kc9 := Kc8.trans K9 oin0
  have O9 := OKeep.old O8 K9 oge0
  have N9 := Fr.app N8 N9q
  refine OGot.go st9 ?_
  show OGot p.tables e below (T9.setTop (mkF m 53 #[.val (.ref a1), .unset] [(.ref b5_9)])) _
  obtain ⟨fs, hr, hrun, hended, hW, hsame⟩ := X9.leave (v := some (.ref b5_9)) (fun h => by rw [Bd.returns] at h; cases h)
  refine ⟨_, _, oretA X9 hx Bd.returns rfl rfl (hb hby d8_53) hr, hrun, hended, _, _, rfl, ?_, ⟨_, rfl⟩, hW, hsame.mono (by decide) (by decide)⟩
  show Q8_1 Z m_OA w_EMPTY_ELEMENTDATA w_DEFAULTCAPACITY_EMPTY_ELEMENTDATA w_EMPTY_LIST w_EMPTY_LIST_elements w_EMPTY k_w_EMPTY_ELEMENTDATA k_w_DEFAULTCAPACITY_EMPTY_ELEMENTDATA k_w_EMPTY_LIST_elements a1 a5 k6 a7 h0 n0 _ T9.heap _
  exact ⟨N9, b5_9, rfl, sz_b5_9, Kc9, Fo9_0, Fo9_1, Fo9_2⟩
def Q7_1 (Z : State) (m_OA : Addr) (w_EMPTY_ELEMENTDATA : Addr) (w_DEFAULTCAPACITY_EMPTY_ELEMENTDATA : Addr) (w_EMPTY_LIST : Addr) (w_EMPTY_LIST_elements : Addr) (w_EMPTY : Addr) (k_w_EMPTY_ELEMENTDATA : ClassId) (k_w_DEFAULTCAPACITY_EMPTY_ELEMENTDATA : ClassId) (k_w_EMPTY_LIST_elements : ClassId) (a1 : Addr) (a2 : Addr) (k3 : ClassId) (a4 : Addr) (h0 : Heap) (n0 : Nat) (v : Option Value) (h : Heap) (L : List Loc) : Prop := Fr n0 L ∧ ∃ b5_9_5 : Addr, v = some (.ref b5_9_5) ∧ h0.size ≤ b5_9_5 ∧ OKeep h0 h [] ∧ Exa Z h b5_9_5 "java/util/ImmutableCollections$List12" ∧ Fld Z h b5_9_5 "java/util/ImmutableCollections$List12" "e0" "Ljava/lang/Object;" (.ref a4) ∧ Fld Z h b5_9_5 "java/util/ImmutableCollections$List12" "e1" "Ljava/lang/Object;" (.ref w_EMPTY)
theorem ef7_1 (m : MethodId) (x0 : Addr) : entryFrame m #[(.ref x0)] 1 = mkF m 0 #[.val (.ref x0)] [] := by first | (simp [entryFrame, mkF, argsToLocals, Value.category]; done) | rfl
set_option maxRecDepth 65536 in
set_option maxHeartbeats 40000000 in
theorem rm7_1 (l : Launch) (Z : State) (a0 : Array Value) (hw : ∀ d ∈ tables_1, d.before a0 Z = true) (ws : List Jvm.Cond) {m_OA : Addr} {w_EMPTY_ELEMENTDATA : Addr} {w_DEFAULTCAPACITY_EMPTY_ELEMENTDATA : Addr} {w_EMPTY_LIST : Addr} {w_EMPTY_LIST_elements : Addr} {w_EMPTY : Addr} {k_w_EMPTY_ELEMENTDATA : ClassId} {k_w_DEFAULTCAPACITY_EMPTY_ELEMENTDATA : ClassId} {k_w_EMPTY_LIST_elements : ClassId} (G : Glob Z m_OA w_EMPTY_ELEMENTDATA w_DEFAULTCAPACITY_EMPTY_ELEMENTDATA w_EMPTY_LIST w_EMPTY_LIST_elements w_EMPTY k_w_EMPTY_ELEMENTDATA k_w_DEFAULTCAPACITY_EMPTY_ELEMENTDATA k_w_EMPTY_LIST_elements) (a1 : Addr) (a2 : Addr) (k3 : ClassId) (a4 : Addr) (h0 : Heap) (n0 : Nat) (O0 : Old Z n0 h0) (E_a1 : Exa Z h0 a1 "java/util/ArrayList") (F_size_a1 : Fld Z h0 a1 "java/util/ArrayList" "size" "I" (.int (1 : Int32))) (F_elementData_a1 : Fld Z h0 a1 "java/util/ArrayList" "elementData" "[Ljava/lang/Object;" (.ref a2)) (E_a2 : Exa Z h0 a2 "[Ljava/lang/Object;") (V_a2 : Arv Z h0 a2 k3 (.object "java/lang/Object") (10 : Int32) [(.ref a4), .null, .null, .null, .null, .null, .null, .null, .null, .null] .null) (O_k3 : Ovr Z k3 "java/lang/Object") (E_a4 : Exa Z h0 a4 "com/example/curtail/curtail/Placement$Cell") :
    MetFree l (⟨"java/util/List", "copyOf", "(Ljava/util/Collection;)Ljava/util/List;"⟩ : MethodName) (head1 (Jvm.Cond.code (⟨"java/util/List", "copyOf", "(Ljava/util/Collection;)Ljava/util/List;"⟩ : MethodName) jdk_40_method_48_code 1 (some (.object "java/util/List")) :: ws) ({ frames := 7, cells := 2, slots := 3, locals := 88 } : Room)) (fun a U => a = #[(.ref a1)] ∧ Z.Warmed39 U.vm ∧ U.heap = h0) (fun _ _ _ _ _ => True) (fun _ U o U' => ∃ v L, o = .returned v ∧ Q7_1 Z m_OA w_EMPTY_ELEMENTDATA w_DEFAULTCAPACITY_EMPTY_ELEMENTDATA w_EMPTY_LIST w_EMPTY_LIST_elements w_EMPTY k_w_EMPTY_ELEMENTDATA k_w_DEFAULTCAPACITY_EMPTY_ELEMENTDATA k_w_EMPTY_LIST_elements a1 a2 k3 a4 h0 n0 v U'.heap L ∧ FrameEnd U o U' L ({ frames := 7, cells := 2, slots := 3, locals := 88 } : Room).cells ({ frames := 7, cells := 2, slots := 3, locals := 88 } : Room).slots) := by
  refine MetFree.of_bodySF (plainFor_of_name pn_java_util_List) hisR ?_
  intro p e s m args below meth c s₁ Bd hml0 hP hK
  obtain ⟨rfl, hZ, hh⟩ := hP
  have hx := Bd.exec
  have hby := Bd.bytes
  have hml : c.maxLocals = 1 := hml0
  have hown : s.vm.findClass "java/util/List" = some m.cls := findClass_of_methodNamed Bd.named
  have hnm := (name_of_methodNamed Bd.named Bd.method).1
  have X0 : Stand p l e ({ frames := 7, cells := 2, slots := 3, locals := 88 } : Room) s m #[(.ref a1)] below meth c s₁ [] 0 0 := Stand.of_body Bd
  have e0 : s₁.heap = h0 := by rw [← hh, Bd.state]; rfl
  have N0 := Fr.nil n0
  show OGot p.tables e below (s₁.setTop (entryFrame m #[(.ref a1)] 1)) _
  refine OGot.go (fun t k => castTop (ef7_1 m a1) k) ?_
  show OGot p.tables e below (s₁.setTop (mkF m 0 #[.val (.ref a1)] [])) _
  refine OGot.go (fun t k => XS.aloadN X0.here hx rfl (hb hby d7_0) rfl rfl k) ?_
  obtain ⟨_, _, ⟨T5, L5, k5, n5⟩, -, X5, ⟨Lc5, hQ5, l5, y5, z5⟩, st5⟩ := Jvm.LawKit.callS X0 hx (y := (⟨"java/util/ImmutableCollections", "listCopy", "(Ljava/util/Collection;)Ljava/util/List;"⟩ : MethodName)) hown (mvT hZ (ow hw 42 rfl)) (mvT hZ (ow hw 43 rfl)) (mvT hZ (ow hw 44 rfl)) (mvT hZ (ow hw 45 rfl)) (by decide) (backOf (W := 0) (rm8_1 l Z a0 hw [] G a1 a2 k3 a4 h0 n0 O0 E_a1 F_size_a1 F_elementData_a1 E_a2 V_a2 O_k3 E_a4) hZ (ow hw 45 rfl) (ow hw 44 rfl) (by decide) (by decide)) (g := (mkF m 1 #[.val (.ref a1)] [(.ref a1)])) rfl (by rw [hml]; rfl) (argsL := [(.ref a1)]) (rest := []) (lenOf pd_3 rfl) rfl (by show 2 * 0 + _ ≤ _; exact Nat.le_of_eq rfl) (hb hby d7_1) (fun _ _ => ⟨rfl, e0, (by decide : 0 + 2 ≤ _), (by decide : 0 + 3 ≤ _)⟩)
  dsimp only [Pt.U, Pt.locs, Pt.cells, Pt.slots] at X5 l5 y5 z5 st5 hQ5
  subst l5 y5 z5
  obtain ⟨N5q, b5_9_5, rfl, szb5_9_5_5, K5, Fo5_0, Fo5_1, Fo5_2⟩ := hQ5
  have g_b5_9_5 : n0 ≤ b5_9_5 := Nat.le_trans (osz O0) szb5_9_5_5
  have sz_b5_9_5 : h0.size ≤ b5_9_5 := Nat.le_trans (OKeep.refl h0 []).1 szb5_9_5_5
  have Kc5 := (OKeep.refl h0 []).trans K5 oin0
  have O5 := OKeep.old O0 K5 oge0
  have N5 := Fr.app N0 N5q
  refine OGot.go st5 ?_
  show OGot p.tables e below (T5.setTop (mkF m 4 #[.val (.ref a1)] [(.ref b5_9_5)])) _
  obtain ⟨fs, hr, hrun, hended, hW, hsame⟩ := X5.leave (v := some (.ref b5_9_5)) (fun h => by rw [Bd.returns] at h; cases h)
  refine ⟨_, _, oretA X5 hx Bd.returns rfl rfl (hb hby d7_4) hr, hrun, hended, _, _, rfl, ?_, ⟨_, rfl⟩, hW, hsame.mono (by decide) (by decide)⟩
  show Q7_1 Z m_OA w_EMPTY_ELEMENTDATA w_DEFAULTCAPACITY_EMPTY_ELEMENTDATA w_EMPTY_LIST w_EMPTY_LIST_elements w_EMPTY k_w_EMPTY_ELEMENTDATA k_w_DEFAULTCAPACITY_EMPTY_ELEMENTDATA k_w_EMPTY_LIST_elements a1 a2 k3 a4 h0 n0 _ T5.heap _
  exact ⟨N5, b5_9_5, rfl, sz_b5_9_5, Kc5, Fo5_0, Fo5_1, Fo5_2⟩
theorem d34_0 : decode jdk_44_method_3_code 0 = .ok (.aload_n 0, 1) := by decide +kernel
theorem d34_1 : decode jdk_44_method_3_code 1 = .ok (.getfield 24, 3) := by decide +kernel
theorem d34_4 : decode jdk_44_method_3_code 4 = .ok (.getstatic 19, 3) := by decide +kernel
theorem d34_7 : decode jdk_44_method_3_code 7 = .ok (.if_acmp .eq 7, 3) := by decide +kernel
theorem d34_14 : decode jdk_44_method_3_code 14 = .ok (.iconst 1, 1) := by decide +kernel
theorem d34_15 : decode jdk_44_method_3_code 15 = .ok (.ireturn, 1) := by decide +kernel
def Q34 (Z : State) (m_OA : Addr) (w_EMPTY_ELEMENTDATA : Addr) (w_DEFAULTCAPACITY_EMPTY_ELEMENTDATA : Addr) (w_EMPTY_LIST : Addr) (w_EMPTY_LIST_elements : Addr) (w_EMPTY : Addr) (k_w_EMPTY_ELEMENTDATA : ClassId) (k_w_DEFAULTCAPACITY_EMPTY_ELEMENTDATA : ClassId) (k_w_EMPTY_LIST_elements : ClassId) (a1 : Addr) (a2 : Addr) (h0 : Heap) (n0 : Nat) (v : Option Value) (h : Heap) (L : List Loc) : Prop := v = some (.int (1 : Int32)) ∧ Fr n0 L ∧ h = h0
theorem ef34 (m : MethodId) (x0 : Addr) : entryFrame m #[(.ref x0)] 1 = mkF m 0 #[.val (.ref x0)] [] := by first | (simp [entryFrame, mkF, argsToLocals, Value.category]; done) | rfl
set_option maxRecDepth 65536 in
set_option maxHeartbeats 40000000 in
theorem rm34 (l : Launch) (Z : State) (a0 : Array Value) (hw : ∀ d ∈ tables_1, d.before a0 Z = true) (ws : List Jvm.Cond) {m_OA : Addr} {w_EMPTY_ELEMENTDATA : Addr} {w_DEFAULTCAPACITY_EMPTY_ELEMENTDATA : Addr} {w_EMPTY_LIST : Addr} {w_EMPTY_LIST_elements : Addr} {w_EMPTY : Addr} {k_w_EMPTY_ELEMENTDATA : ClassId} {k_w_DEFAULTCAPACITY_EMPTY_ELEMENTDATA : ClassId} {k_w_EMPTY_LIST_elements : ClassId} (G : Glob Z m_OA w_EMPTY_ELEMENTDATA w_DEFAULTCAPACITY_EMPTY_ELEMENTDATA w_EMPTY_LIST w_EMPTY_LIST_elements w_EMPTY k_w_EMPTY_ELEMENTDATA k_w_DEFAULTCAPACITY_EMPTY_ELEMENTDATA k_w_EMPTY_LIST_elements) (a1 : Addr) (a2 : Addr) (h0 : Heap) (n0 : Nat) (O0 : Old Z n0 h0) (F_e1_a1 : Fld Z h0 a1 "java/util/ImmutableCollections$List12" "e1" "Ljava/lang/Object;" (.ref a2)) (E_a2 : Exa Z h0 a2 "java/lang/Object") (hc_1 : a2 = w_EMPTY) :
    MetFree l (⟨"java/util/ImmutableCollections$List12", "size", "()I"⟩ : MethodName) (head1 (Jvm.Cond.code (⟨"java/util/ImmutableCollections$List12", "size", "()I"⟩ : MethodName) jdk_44_method_3_code 1 (some .int) :: ws) ({ frames := 0, cells := 0, slots := 0, locals := 0 } : Room)) (fun a U => a = #[(.ref a1)] ∧ Z.Warmed39 U.vm ∧ U.heap = h0) (fun _ _ _ _ _ => True) (fun _ U o U' => ∃ v L, o = .returned v ∧ Q34 Z m_OA w_EMPTY_ELEMENTDATA w_DEFAULTCAPACITY_EMPTY_ELEMENTDATA w_EMPTY_LIST w_EMPTY_LIST_elements w_EMPTY k_w_EMPTY_ELEMENTDATA k_w_DEFAULTCAPACITY_EMPTY_ELEMENTDATA k_w_EMPTY_LIST_elements a1 a2 h0 n0 v U'.heap L ∧ FrameEnd U o U' L ({ frames := 0, cells := 0, slots := 0, locals := 0 } : Room).cells ({ frames := 0, cells := 0, slots := 0, locals := 0 } : Room).slots) := by
  refine MetFree.of_bodySF (plainFor_of_name pn_java_util_ImmutableCollections_List12) hisR ?_
  intro p e s m args below meth c s₁ Bd hml0 hP hK
  obtain ⟨rfl, hZ, hh⟩ := hP
  have hx := Bd.exec
  have hby := Bd.bytes
  have hml : c.maxLocals = 1 := hml0
  have hown : s.vm.findClass "java/util/ImmutableCollections$List12" = some m.cls := findClass_of_methodNamed Bd.named
  have hnm := (name_of_methodNamed Bd.named Bd.method).1
  have X0 : Stand p l e ({ frames := 0, cells := 0, slots := 0, locals := 0 } : Room) s m #[(.ref a1)] below meth c s₁ [] 0 0 := Stand.of_body Bd
  have e0 : s₁.heap = h0 := by rw [← hh, Bd.state]; rfl
  have N0 := Fr.nil n0
  show OGot p.tables e below (s₁.setTop (entryFrame m #[(.ref a1)] 1)) _
  refine OGot.go (fun t k => castTop (ef34 m a1) k) ?_
  show OGot p.tables e below (s₁.setTop (mkF m 0 #[.val (.ref a1)] [])) _
  refine OGot.go (fun t k => XS.aloadN X0.here hx rfl (hb hby d34_0) rfl rfl k) ?_
  obtain ⟨T3, X3, e3, st3⟩ := getF X0 hx hZ hown (host := "") (Or.inl (ow hw 232 rfl)) Via.refl e0 F_e1_a1 (g := (mkF m 1 #[.val (.ref a1)] [(.ref a1)])) rfl rfl (hb hby d34_1)
  refine OGot.go st3 ?_
  obtain ⟨T4, X4, e4, st4⟩ := getS2 X3 hx hZ hown (Or.inr (ow hw 240 rfl)) Via.refl e3 (G.2.2.2.2.2.2.2.2.2.1.ext O0.2) (g := (mkF m 4 #[.val (.ref a1)] [(.ref a2)])) rfl (hb hby d34_4)
  refine OGot.go st4 ?_
  refine OGot.go (fun t k => Jvm.RoadKit.acmp (g := (mkF m 7 #[.val (.ref a1)] [(.ref w_EMPTY), (.ref a2)])) X4 hx rfl rfl rfl (pc0 := 7) (pc' := 14) (same := true) rfl (hb hby d34_7) rfl (decide_eq_true (congrArg Value.ref hc_1)) (by decide) (by decide) k) ?_
  refine OGot.go (fun t k => XS.iconst X4.here hx rfl (hb hby d34_14) k) ?_
  show OGot p.tables e below (T4.setTop (mkF m 15 #[.val (.ref a1)] [(.int (1 : Int32))])) _
  obtain ⟨fs, hr, hrun, hended, hW, hsame⟩ := X4.leave (v := some (.int (1 : Int32))) (fun h => by rw [Bd.returns] at h; cases h)
  refine ⟨_, _, retI X4 hx Bd.returns (hb hby d34_15) hr, hrun, hended, _, _, rfl, ?_, ⟨_, rfl⟩, hW, hsame.mono (by decide) (by decide)⟩
  exact (⟨rfl, N0, e4⟩ : Q34 Z m_OA w_EMPTY_ELEMENTDATA w_DEFAULTCAPACITY_EMPTY_ELEMENTDATA w_EMPTY_LIST w_EMPTY_LIST_elements w_EMPTY k_w_EMPTY_ELEMENTDATA k_w_DEFAULTCAPACITY_EMPTY_ELEMENTDATA k_w_EMPTY_LIST_elements a1 a2 h0 n0 _ T4.heap _)
def Q5_1 (Z : State) (m_OA : Addr) (w_EMPTY_ELEMENTDATA : Addr) (w_DEFAULTCAPACITY_EMPTY_ELEMENTDATA : Addr) (w_EMPTY_LIST : Addr) (w_EMPTY_LIST_elements : Addr) (w_EMPTY : Addr) (k_w_EMPTY_ELEMENTDATA : ClassId) (k_w_DEFAULTCAPACITY_EMPTY_ELEMENTDATA : ClassId) (k_w_EMPTY_LIST_elements : ClassId) (a1 : Addr) (a2 : Addr) (a4 : Addr) (k5 : ClassId) (a6 : Addr) (h0 : Heap) (n0 : Nat) (v : Option Value) (h : Heap) (L : List Loc) : Prop := Fr n0 L ∧ ∃ b5_9_5_7 : Addr, v = none ∧ h0.size ≤ b5_9_5_7 ∧ OKeep h0 h [(a1, Jvm.RoadKit.slotOf Z "com/example/curtail/curtail/Placement" "aCells" "Ljava/util/List;")] ∧ Fld Z h a1 "com/example/curtail/curtail/Placement" "aCells" "Ljava/util/List;" (.ref b5_9_5_7) ∧ Exa Z h b5_9_5_7 "java/util/ImmutableCollections$List12" ∧ Fld Z h b5_9_5_7 "java/util/ImmutableCollections$List12" "e0" "Ljava/lang/Object;" (.ref a6) ∧ Fld Z h b5_9_5_7 "java/util/ImmutableCollections$List12" "e1" "Ljava/lang/Object;" (.ref w_EMPTY)
theorem ef5_1 (m : MethodId) (x0 : Addr) (x1 : Addr) : entryFrame m #[(.ref x0), (.ref x1)] 3 = mkF m 0 #[.val (.ref x0), .val (.ref x1), .unset] [] := by first | (simp [entryFrame, mkF, argsToLocals, Value.category]; done) | rfl
set_option maxRecDepth 65536 in
set_option maxHeartbeats 40000000 in
theorem rm5_1 (l : Launch) (Z : State) (a0 : Array Value) (hw : ∀ d ∈ tables_1, d.before a0 Z = true) (ws : List Jvm.Cond) {m_OA : Addr} {w_EMPTY_ELEMENTDATA : Addr} {w_DEFAULTCAPACITY_EMPTY_ELEMENTDATA : Addr} {w_EMPTY_LIST : Addr} {w_EMPTY_LIST_elements : Addr} {w_EMPTY : Addr} {k_w_EMPTY_ELEMENTDATA : ClassId} {k_w_DEFAULTCAPACITY_EMPTY_ELEMENTDATA : ClassId} {k_w_EMPTY_LIST_elements : ClassId} (G : Glob Z m_OA w_EMPTY_ELEMENTDATA w_DEFAULTCAPACITY_EMPTY_ELEMENTDATA w_EMPTY_LIST w_EMPTY_LIST_elements w_EMPTY k_w_EMPTY_ELEMENTDATA k_w_DEFAULTCAPACITY_EMPTY_ELEMENTDATA k_w_EMPTY_LIST_elements) (a1 : Addr) (a2 : Addr) (a4 : Addr) (k5 : ClassId) (a6 : Addr) (h0 : Heap) (n0 : Nat) (O0 : Old Z n0 h0) (E_a2 : Exa Z h0 a2 "java/util/ArrayList") (F_size_a2 : Fld Z h0 a2 "java/util/ArrayList" "size" "I" (.int (1 : Int32))) (F_elementData_a2 : Fld Z h0 a2 "java/util/ArrayList" "elementData" "[Ljava/lang/Object;" (.ref a4)) (E_a4 : Exa Z h0 a4 "[Ljava/lang/Object;") (V_a4 : Arv Z h0 a4 k5 (.object "java/lang/Object") (10 : Int32) [(.ref a6), .null, .null, .null, .null, .null, .null, .null, .null, .null] .null) (O_k5 : Ovr Z k5 "java/lang/Object") (E_a6 : Exa Z h0 a6 "com/example/curtail/curtail/Placement$Cell") (E_a1 : Exa Z h0 a1 "com/example/curtail/curtail/Placement") (F_aCells_a1 : Fld Z h0 a1 "com/example/curtail/curtail/Placement" "aCells" "Ljava/util/List;" .null) (g_a1 : n0 ≤ a1) :
    MetFree l (⟨"com/example/curtail/curtail/Placement", "<init>", "(Ljava/util/List;)V"⟩ : MethodName) (head1 (Jvm.Cond.code (⟨"com/example/curtail/curtail/Placement", "<init>", "(Ljava/util/List;)V"⟩ : MethodName) prog_14_method_1_code 3 none :: ws) ({ frames := 8, cells := 2, slots := 3, locals := 100 } : Room)) (fun a U => a = #[(.ref a1), (.ref a2)] ∧ Z.Warmed39 U.vm ∧ U.heap = h0) (fun _ _ _ _ _ => True) (fun _ U o U' => ∃ v L, o = .returned v ∧ Q5_1 Z m_OA w_EMPTY_ELEMENTDATA w_DEFAULTCAPACITY_EMPTY_ELEMENTDATA w_EMPTY_LIST w_EMPTY_LIST_elements w_EMPTY k_w_EMPTY_ELEMENTDATA k_w_DEFAULTCAPACITY_EMPTY_ELEMENTDATA k_w_EMPTY_LIST_elements a1 a2 a4 k5 a6 h0 n0 v U'.heap L ∧ FrameEnd U o U' L ({ frames := 8, cells := 2, slots := 3, locals := 100 } : Room).cells ({ frames := 8, cells := 2, slots := 3, locals := 100 } : Room).slots) := by
  refine MetFree.of_bodySF (plainFor_of_name pn_com_example_curtail_curtail_Placement) hisR ?_
  intro p e s m args below meth c s₁ Bd hml0 hP hK
  obtain ⟨rfl, hZ, hh⟩ := hP
  have hx := Bd.exec
  have hby := Bd.bytes
  have hml : c.maxLocals = 3 := hml0
  have hown : s.vm.findClass "com/example/curtail/curtail/Placement" = some m.cls := findClass_of_methodNamed Bd.named
  have hnm := (name_of_methodNamed Bd.named Bd.method).1
  have X0 : Stand p l e ({ frames := 8, cells := 2, slots := 3, locals := 100 } : Room) s m #[(.ref a1), (.ref a2)] below meth c s₁ [] 0 0 := Stand.of_body Bd
  have e0 : s₁.heap = h0 := by rw [← hh, Bd.state]; rfl
  have N0 := Fr.nil n0
  show OGot p.tables e below (s₁.setTop (entryFrame m #[(.ref a1), (.ref a2)] 3)) _
  refine OGot.go (fun t k => castTop (ef5_1 m a1 a2) k) ?_
  show OGot p.tables e below (s₁.setTop (mkF m 0 #[.val (.ref a1), .val (.ref a2), .unset] [])) _
  refine OGot.go (fun t k => XS.aloadN X0.here hx rfl (hb hby d5_0) rfl rfl k) ?_
  obtain ⟨_, _, ⟨T3, L3, k3, n3⟩, -, X3, ⟨Lc3, hQ3, l3, y3, z3⟩, st3⟩ := X0.specialBack hx (y := (⟨"java/lang/Record", "<init>", "()V"⟩ : MethodName)) rfl hown (mvT hZ (ow hw 32 rfl)) (mvT hZ (ow hw 33 rfl)) (mvT hZ (ow hw 36 rfl)) (by decide) (backOf (W := 0) (rm6 l Z a0 hw [] G a1 h0 n0 O0 ) hZ (ow hw 36 rfl) (ow hw 35 rfl) (by decide) (by decide)) (g := (mkF m 1 #[.val (.ref a1), .val (.ref a2), .unset] [(.ref a1)])) rfl (by rw [hml]; rfl) (Steps.refl _) (a := a1) (argsL := []) (rest := []) (lenOf pd_0 rfl) rfl (by show 2 * 0 + _ ≤ _; exact Nat.le_of_eq rfl) (hb hby d5_1) (fun _ _ => ⟨rfl, e0, (by decide : 0 + 0 ≤ _), (by decide : 0 + 0 ≤ _)⟩)
  dsimp only [Pt.U, Pt.locs, Pt.cells, Pt.slots] at X3 l3 y3 z3 st3 hQ3
  subst l3 y3 z3
  obtain ⟨rfl, N3q, e3⟩ := hQ3
  have N3 := Fr.app N0 N3q
  refine OGot.on st3 ?_
  refine OGot.go (fun t k => XS.aloadN X3.here hx rfl (hb hby d5_4) rfl rfl k) ?_
  obtain ⟨_, _, ⟨T7, L7, k7, n7⟩, -, X7, ⟨Lc7, hQ7, l7, y7, z7⟩, st7⟩ := Jvm.LawKit.callS X3 hx (y := (⟨"java/util/List", "copyOf", "(Ljava/util/Collection;)Ljava/util/List;"⟩ : MethodName)) hown (mvT hZ (ow hw 38 rfl)) (mvT hZ (ow hw 39 rfl)) (mvT hZ (ow hw 40 rfl)) (mvT hZ (ow hw 41 rfl)) (by decide) (backOf (W := 0) (rm7_1 l Z a0 hw [] G a2 a4 k5 a6 h0 n0 O0 E_a2 F_size_a2 F_elementData_a2 E_a4 V_a4 O_k5 E_a6) hZ (ow hw 41 rfl) (ow hw 40 rfl) (by decide) (by decide)) (g := (mkF m 5 #[.val (.ref a1), .val (.ref a2), .unset] [(.ref a2)])) rfl (by rw [hml]; rfl) (argsL := [(.ref a2)]) (rest := []) (lenOf pd_3 rfl) rfl (by show 2 * 0 + _ ≤ _; exact Nat.le_of_eq rfl) (hb hby d5_5) (fun _ _ => ⟨rfl, e3, (by decide : 0 + 2 ≤ _), (by decide : 0 + 3 ≤ _)⟩)
  dsimp only [Pt.U, Pt.locs, Pt.cells, Pt.slots] at X7 l7 y7 z7 st7 hQ7
  subst l7 y7 z7
  obtain ⟨N7q, b5_9_5_7, rfl, szb5_9_5_7_7, K7, Fo7_0, Fo7_1, Fo7_2⟩ := hQ7
  have g_b5_9_5_7 : n0 ≤ b5_9_5_7 := Nat.le_trans (osz O0) szb5_9_5_7_7
  have sz_b5_9_5_7 : h0.size ≤ b5_9_5_7 := Nat.le_trans (OKeep.refl h0 [(a1, Jvm.RoadKit.slotOf Z "com/example/curtail/curtail/Placement" "aCells" "Ljava/util/List;")]).1 szb5_9_5_7_7
  have Kc7 := (OKeep.refl h0 [(a1, Jvm.RoadKit.slotOf Z "com/example/curtail/curtail/Placement" "aCells" "Ljava/util/List;")]).trans K7 oin0
  have O7 := OKeep.old O0 K7 oge0
  have N7 := Fr.app N3 N7q
  refine OGot.go st7 ?_
  refine OGot.go (fun t k => XS.astoreN X7.here hx rfl (hb hby d5_8) rfl rfl (l' := #[.val (.ref a1), .val (.ref b5_9_5_7), .unset]) rfl k) ?_
  show OGot p.tables e below (T7.setTop (mkF m 9 #[.val (.ref a1), .val (.ref b5_9_5_7), .unset] [])) _
  refine OGot.go (fun t k => XS.iconst X7.here hx rfl (hb hby d5_9) k) ?_
  refine OGot.go (fun t k => XS.istoreN X7.here hx rfl (hb hby d5_10) rfl (l' := #[.val (.ref a1), .val (.ref b5_9_5_7), .val (.int (1 : Int32))]) rfl k) ?_
  refine OGot.go (fun t k => XS.iloadN X7.here hx rfl (hb hby d5_11) rfl k) ?_
  refine OGot.go (fun t k => XS.aloadN X7.here hx rfl (hb hby d5_12) rfl rfl k) ?_
  obtain ⟨cq8, kq8, q8a, q8b, q8c⟩ := isOf hZ rfl Fo7_0
  obtain ⟨_, _, ⟨T8, L8, k8, n8⟩, -, X8, ⟨Lc8, hQ8, l8, y8, z8⟩, st8⟩ := X7.interfaceBack hx (xi := (⟨"java/util/List", "size", "()I"⟩ : MethodName)) (y := (⟨"java/util/ImmutableCollections$List12", "size", "()I"⟩ : MethodName)) hown (mvT hZ (ow hw 67 rfl)) (mvT hZ (ow hw 68 rfl)) (mvT hZ (ow hw 69 rfl)) (mvT hZ (ow hw 234 rfl)) (mvT hZ (ow hw 235 rfl)) (mvT hZ (ow hw 236 rfl)) (mvT hZ (ow hw 237 rfl)) (mvT hZ (ow hw 238 rfl)) (by decide) (backOf (W := 1) (rm34 l Z a0 hw [] G b5_9_5_7 w_EMPTY T7.heap n0 O7 Fo7_2 (G.2.2.2.2.2.2.2.2.2.2.1.ext O7.2) rfl) hZ (ow hw 239 rfl) (ow hw 220 rfl) (by decide) (by decide)) q8a q8b q8c (g := (mkF m 13 #[.val (.ref a1), .val (.ref b5_9_5_7), .val (.int (1 : Int32))] [(.ref b5_9_5_7), (.int (1 : Int32))])) rfl (by rw [hml]; rfl) (Steps.refl _) (argsL := []) (rest := [(.int (1 : Int32))]) (lenOf pd_4 rfl) rfl (by show 2 * 0 + _ ≤ _; exact Nat.le_of_eq rfl) (hb hby d5_13) (fun _ _ => ⟨rfl, rfl, (by decide : 2 + 0 ≤ _), (by decide : 3 + 0 ≤ _)⟩)
  dsimp only [Pt.U, Pt.locs, Pt.cells, Pt.slots] at X8 l8 y8 z8 st8 hQ8
  subst l8 y8 z8
  obtain ⟨rfl, N8q, e8⟩ := hQ8
  have N8 := Fr.app N7 N8q
  refine OGot.on st8 ?_
  show OGot p.tables e below (T8.setTop (mkF m 18 #[.val (.ref a1), .val (.ref b5_9_5_7), .val (.int (1 : Int32))] [(.int (1 : Int32)), (.int (1 : Int32))])) _
  refine OGot.go (fun t k => XS.icmpYes X8.here hx rfl (pc0 := 18) (pc' := 75) rfl (hb hby d5_18) rfl (by decide) (by decide) (by decide) k) ?_
  refine OGot.go (fun t k => XS.aloadN X8.here hx rfl (hb hby d5_75) rfl rfl k) ?_
  refine OGot.go (fun t k => XS.aloadN X8.here hx rfl (hb hby d5_76) rfl rfl k) ?_
  have F9 : Fld Z T7.heap a1 "com/example/curtail/curtail/Placement" "aCells" "Ljava/util/List;" .null := (OKeep.fld F_aCells_a1 K7 onin0)
  obtain ⟨T10, h10, X10, e10, W10, st10⟩ := putF X8 hx hZ hown (host := "") (Or.inl (ow hw 79 rfl)) Via.refl e8 F9 (OKeep.exa E_a1 K7) (Or.inr ⟨(ow hw 80 rfl), rfl, hnm⟩) (ow hw 1 rfl) (ty := (.object "java/util/List")) (by decide) rfl rfl (g := (mkF m 77 #[.val (.ref a1), .val (.ref b5_9_5_7), .val (.int (1 : Int32))] [(.ref b5_9_5_7), (.ref a1)])) rfl rfl (hb hby d5_77)
  refine OGot.go st10 ?_
  have N10 := Fr.snoc X10 N8 g_a1
  have O10 := O7.wr W10 g_a1
  have K10 := Kc7.wr W10 (Or.inl (List.mem_of_getElem? (i := 0) rfl))
  have Fw10 : Fld Z h10 a1 "com/example/curtail/curtail/Placement" "aCells" "Ljava/util/List;" (.ref b5_9_5_7) := F9.same W10
  show OGot p.tables e below (T10.setTop (mkF m 80 #[.val (.ref a1), .val (.ref b5_9_5_7), .val (.int (1 : Int32))] [])) _
  obtain ⟨fs, hr, hrun, hended, hW, hsame⟩ := X10.leave (v := none) (fun _ => rfl)
  refine ⟨_, _, X10.returnOut hx Bd.returns (hb hby d5_80) hr, hrun, hended, _, _, rfl, ?_, ⟨_, rfl⟩, hW, hsame.mono (by decide) (by decide)⟩
  have ne11 : a1 ≠ b5_9_5_7 := (Nat.ne_of_lt (Nat.lt_of_lt_of_le E_a1.lt szb5_9_5_7_7))
  have F12 : Fld Z h10 b5_9_5_7 "java/util/ImmutableCollections$List12" "e0" "Ljava/lang/Object;" (.ref a6) := (Fo7_1.other W10 (Or.inl (Ne.symm ne11)))
  have F13 : Fld Z h10 b5_9_5_7 "java/util/ImmutableCollections$List12" "e1" "Ljava/lang/Object;" (.ref w_EMPTY) := (Fo7_2.other W10 (Or.inl (Ne.symm ne11)))
  show Q5_1 Z m_OA w_EMPTY_ELEMENTDATA w_DEFAULTCAPACITY_EMPTY_ELEMENTDATA w_EMPTY_LIST w_EMPTY_LIST_elements w_EMPTY k_w_EMPTY_ELEMENTDATA k_w_DEFAULTCAPACITY_EMPTY_ELEMENTDATA k_w_EMPTY_LIST_elements a1 a2 a4 k5 a6 h0 n0 _ T10.heap _
  rw [e10]
  exact ⟨N10, b5_9_5_7, rfl, sz_b5_9_5_7, K10, Fw10, (Fo7_0.wr W10), F12, F13⟩
theorem d32_0 : decode prog_14_method_3_code 0 = .ok (.aload_n 0, 1) := by decide +kernel
theorem d32_1 : decode prog_14_method_3_code 1 = .ok (.getfield 41, 3) := by decide +kernel
theorem d32_4 : decode prog_14_method_3_code 4 = .ok (.invokeinterface 47 1, 5) := by decide +kernel
theorem d36_0 : decode jdk_44_method_4_code 0 = .ok (.iconst 0, 1) := by decide +kernel
theorem d36_1 : decode jdk_44_method_4_code 1 = .ok (.ireturn, 1) := by decide +kernel
def Q36 (Z : State) (m_OA : Addr) (w_EMPTY_ELEMENTDATA : Addr) (w_DEFAULTCAPACITY_EMPTY_ELEMENTDATA : Addr) (w_EMPTY_LIST : Addr) (w_EMPTY_LIST_elements : Addr) (w_EMPTY : Addr) (k_w_EMPTY_ELEMENTDATA : ClassId) (k_w_DEFAULTCAPACITY_EMPTY_ELEMENTDATA : ClassId) (k_w_EMPTY_LIST_elements : ClassId) (a1 : Addr) (h0 : Heap) (n0 : Nat) (v : Option Value) (h : Heap) (L : List Loc) : Prop := v = some (.int (0 : Int32)) ∧ Fr n0 L ∧ h = h0
theorem ef36 (m : MethodId) (x0 : Addr) : entryFrame m #[(.ref x0)] 1 = mkF m 0 #[.val (.ref x0)] [] := by first | (simp [entryFrame, mkF, argsToLocals, Value.category]; done) | rfl
set_option maxRecDepth 65536 in
set_option maxHeartbeats 40000000 in
theorem rm36 (l : Launch) (Z : State) (a0 : Array Value) (hw : ∀ d ∈ tables_1, d.before a0 Z = true) (ws : List Jvm.Cond) {m_OA : Addr} {w_EMPTY_ELEMENTDATA : Addr} {w_DEFAULTCAPACITY_EMPTY_ELEMENTDATA : Addr} {w_EMPTY_LIST : Addr} {w_EMPTY_LIST_elements : Addr} {w_EMPTY : Addr} {k_w_EMPTY_ELEMENTDATA : ClassId} {k_w_DEFAULTCAPACITY_EMPTY_ELEMENTDATA : ClassId} {k_w_EMPTY_LIST_elements : ClassId} (G : Glob Z m_OA w_EMPTY_ELEMENTDATA w_DEFAULTCAPACITY_EMPTY_ELEMENTDATA w_EMPTY_LIST w_EMPTY_LIST_elements w_EMPTY k_w_EMPTY_ELEMENTDATA k_w_DEFAULTCAPACITY_EMPTY_ELEMENTDATA k_w_EMPTY_LIST_elements) (a1 : Addr) (h0 : Heap) (n0 : Nat) (O0 : Old Z n0 h0) :
    MetFree l (⟨"java/util/ImmutableCollections$List12", "isEmpty", "()Z"⟩ : MethodName) (head1 (Jvm.Cond.code (⟨"java/util/ImmutableCollections$List12", "isEmpty", "()Z"⟩ : MethodName) jdk_44_method_4_code 1 (some .boolean) :: ws) ({ frames := 0, cells := 0, slots := 0, locals := 0 } : Room)) (fun a U => a = #[(.ref a1)] ∧ Z.Warmed39 U.vm ∧ U.heap = h0) (fun _ _ _ _ _ => True) (fun _ U o U' => ∃ v L, o = .returned v ∧ Q36 Z m_OA w_EMPTY_ELEMENTDATA w_DEFAULTCAPACITY_EMPTY_ELEMENTDATA w_EMPTY_LIST w_EMPTY_LIST_elements w_EMPTY k_w_EMPTY_ELEMENTDATA k_w_DEFAULTCAPACITY_EMPTY_ELEMENTDATA k_w_EMPTY_LIST_elements a1 h0 n0 v U'.heap L ∧ FrameEnd U o U' L ({ frames := 0, cells := 0, slots := 0, locals := 0 } : Room).cells ({ frames := 0, cells := 0, slots := 0, locals := 0 } : Room).slots) := by
  refine MetFree.of_bodySF (plainFor_of_name pn_java_util_ImmutableCollections_List12) hisR ?_
  intro p e s m args below meth c s₁ Bd hml0 hP hK
  obtain ⟨rfl, hZ, hh⟩ := hP
  have hx := Bd.exec
  have hby := Bd.bytes
  have hml : c.maxLocals = 1 := hml0
  have hown : s.vm.findClass "java/util/ImmutableCollections$List12" = some m.cls := findClass_of_methodNamed Bd.named
  have hnm := (name_of_methodNamed Bd.named Bd.method).1
  have X0 : Stand p l e ({ frames := 0, cells := 0, slots := 0, locals := 0 } : Room) s m #[(.ref a1)] below meth c s₁ [] 0 0 := Stand.of_body Bd
  have e0 : s₁.heap = h0 := by rw [← hh, Bd.state]; rfl
  have N0 := Fr.nil n0
  show OGot p.tables e below (s₁.setTop (entryFrame m #[(.ref a1)] 1)) _
  refine OGot.go (fun t k => castTop (ef36 m a1) k) ?_
  show OGot p.tables e below (s₁.setTop (mkF m 0 #[.val (.ref a1)] [])) _
  refine OGot.go (fun t k => XS.iconst X0.here hx rfl (hb hby d36_0) k) ?_
  show OGot p.tables e below (s₁.setTop (mkF m 1 #[.val (.ref a1)] [(.int (0 : Int32))])) _
  obtain ⟨fs, hr, hrun, hended, hW, hsame⟩ := X0.leave (v := some (.int (0 : Int32))) (fun h => by rw [Bd.returns] at h; cases h)
  refine ⟨_, _, retN X0 hx (t := .boolean) Bd.returns (by simp) (hb hby d36_1) hr, hrun, hended, _, _, rfl, ?_, ⟨_, rfl⟩, hW, hsame.mono (by decide) (by decide)⟩
  exact (⟨rfl, N0, e0⟩ : Q36 Z m_OA w_EMPTY_ELEMENTDATA w_DEFAULTCAPACITY_EMPTY_ELEMENTDATA w_EMPTY_LIST w_EMPTY_LIST_elements w_EMPTY k_w_EMPTY_ELEMENTDATA k_w_DEFAULTCAPACITY_EMPTY_ELEMENTDATA k_w_EMPTY_LIST_elements a1 h0 n0 _ s₁.heap _)
theorem d32_9 : decode prog_14_method_3_code 9 = .ok (.ifCond .eq 13, 3) := by decide +kernel
theorem d32_22 : decode prog_14_method_3_code 22 = .ok (.aload_n 0, 1) := by decide +kernel
theorem d32_23 : decode prog_14_method_3_code 23 = .ok (.getfield 41, 3) := by decide +kernel
theorem d32_26 : decode prog_14_method_3_code 26 = .ok (.aload_n 0, 1) := by decide +kernel
theorem d32_27 : decode prog_14_method_3_code 27 = .ok (.getfield 41, 3) := by decide +kernel
theorem d32_30 : decode prog_14_method_3_code 30 = .ok (.invokeinterface 13 1, 5) := by decide +kernel
theorem d32_35 : decode prog_14_method_3_code 35 = .ok (.iconst 1, 1) := by decide +kernel
theorem d32_36 : decode prog_14_method_3_code 36 = .ok (.isub, 1) := by decide +kernel
theorem d32_37 : decode prog_14_method_3_code 37 = .ok (.invokeinterface 17 2, 5) := by decide +kernel
theorem d35_0 : decode jdk_44_method_5_code 0 = .ok (.iload_n 1, 1) := by decide +kernel
theorem d35_1 : decode jdk_44_method_5_code 1 = .ok (.ifCond .ne 8, 3) := by decide +kernel
theorem d35_4 : decode jdk_44_method_5_code 4 = .ok (.aload_n 0, 1) := by decide +kernel
theorem d35_5 : decode jdk_44_method_5_code 5 = .ok (.getfield 13, 3) := by decide +kernel
theorem d35_8 : decode jdk_44_method_5_code 8 = .ok (.areturn, 1) := by decide +kernel
def Q35 (Z : State) (m_OA : Addr) (w_EMPTY_ELEMENTDATA : Addr) (w_DEFAULTCAPACITY_EMPTY_ELEMENTDATA : Addr) (w_EMPTY_LIST : Addr) (w_EMPTY_LIST_elements : Addr) (w_EMPTY : Addr) (k_w_EMPTY_ELEMENTDATA : ClassId) (k_w_DEFAULTCAPACITY_EMPTY_ELEMENTDATA : ClassId) (k_w_EMPTY_LIST_elements : ClassId) (a1 : Addr) (a2 : Addr) (h0 : Heap) (n0 : Nat) (v : Option Value) (h : Heap) (L : List Loc) : Prop := v = some (.ref a2) ∧ Fr n0 L ∧ h = h0
theorem ef35 (m : MethodId) (x0 : Addr) : entryFrame m #[(.ref x0), (.int (0 : Int32))] 2 = mkF m 0 #[.val (.ref x0), .val (.int (0 : Int32))] [] := by first | (simp [entryFrame, mkF, argsToLocals, Value.category]; done) | rfl
set_option maxRecDepth 65536 in
set_option maxHeartbeats 40000000 in
theorem rm35 (l : Launch) (Z : State) (a0 : Array Value) (hw : ∀ d ∈ tables_1, d.before a0 Z = true) (ws : List Jvm.Cond) {m_OA : Addr} {w_EMPTY_ELEMENTDATA : Addr} {w_DEFAULTCAPACITY_EMPTY_ELEMENTDATA : Addr} {w_EMPTY_LIST : Addr} {w_EMPTY_LIST_elements : Addr} {w_EMPTY : Addr} {k_w_EMPTY_ELEMENTDATA : ClassId} {k_w_DEFAULTCAPACITY_EMPTY_ELEMENTDATA : ClassId} {k_w_EMPTY_LIST_elements : ClassId} (G : Glob Z m_OA w_EMPTY_ELEMENTDATA w_DEFAULTCAPACITY_EMPTY_ELEMENTDATA w_EMPTY_LIST w_EMPTY_LIST_elements w_EMPTY k_w_EMPTY_ELEMENTDATA k_w_DEFAULTCAPACITY_EMPTY_ELEMENTDATA k_w_EMPTY_LIST_elements) (a1 : Addr) (a2 : Addr) (h0 : Heap) (n0 : Nat) (O0 : Old Z n0 h0) (F_e0_a1 : Fld Z h0 a1 "java/util/ImmutableCollections$List12" "e0" "Ljava/lang/Object;" (.ref a2)) :
    MetFree l (⟨"java/util/ImmutableCollections$List12", "get", "(I)Ljava/lang/Object;"⟩ : MethodName) (head1 (Jvm.Cond.code (⟨"java/util/ImmutableCollections$List12", "get", "(I)Ljava/lang/Object;"⟩ : MethodName) jdk_44_method_5_code 2 (some (.object "java/lang/Object")) :: ws) ({ frames := 0, cells := 0, slots := 0, locals := 0 } : Room)) (fun a U => a = #[(.ref a1), (.int (0 : Int32))] ∧ Z.Warmed39 U.vm ∧ U.heap = h0) (fun _ _ _ _ _ => True) (fun _ U o U' => ∃ v L, o = .returned v ∧ Q35 Z m_OA w_EMPTY_ELEMENTDATA w_DEFAULTCAPACITY_EMPTY_ELEMENTDATA w_EMPTY_LIST w_EMPTY_LIST_elements w_EMPTY k_w_EMPTY_ELEMENTDATA k_w_DEFAULTCAPACITY_EMPTY_ELEMENTDATA k_w_EMPTY_LIST_elements a1 a2 h0 n0 v U'.heap L ∧ FrameEnd U o U' L ({ frames := 0, cells := 0, slots := 0, locals := 0 } : Room).cells ({ frames := 0, cells := 0, slots := 0, locals := 0 } : Room).slots) := by
  refine MetFree.of_bodySF (plainFor_of_name pn_java_util_ImmutableCollections_List12) hisR ?_
  intro p e s m args below meth c s₁ Bd hml0 hP hK
  obtain ⟨rfl, hZ, hh⟩ := hP
  have hx := Bd.exec
  have hby := Bd.bytes
  have hml : c.maxLocals = 2 := hml0
  have hown : s.vm.findClass "java/util/ImmutableCollections$List12" = some m.cls := findClass_of_methodNamed Bd.named
  have hnm := (name_of_methodNamed Bd.named Bd.method).1
  have X0 : Stand p l e ({ frames := 0, cells := 0, slots := 0, locals := 0 } : Room) s m #[(.ref a1), (.int (0 : Int32))] below meth c s₁ [] 0 0 := Stand.of_body Bd
  have e0 : s₁.heap = h0 := by rw [← hh, Bd.state]; rfl
  have N0 := Fr.nil n0
  show OGot p.tables e below (s₁.setTop (entryFrame m #[(.ref a1), (.int (0 : Int32))] 2)) _
  refine OGot.go (fun t k => castTop (ef35 m a1) k) ?_
  show OGot p.tables e below (s₁.setTop (mkF m 0 #[.val (.ref a1), .val (.int (0 : Int32))] [])) _
  refine OGot.go (fun t k => XS.iloadN X0.here hx rfl (hb hby d35_0) rfl k) ?_
  refine OGot.go (fun t k => XS.ifNo X0.here hx rfl (hb hby d35_1) rfl (by decide) k) ?_
  refine OGot.go (fun t k => XS.aloadN X0.here hx rfl (hb hby d35_4) rfl rfl k) ?_
  obtain ⟨T3, X3, e3, st3⟩ := getF X0 hx hZ hown (host := "") (Or.inl (ow hw 230 rfl)) Via.refl e0 F_e0_a1 (g := (mkF m 5 #[.val (.ref a1), .val (.int (0 : Int32))] [(.ref a1)])) rfl rfl (hb hby d35_5)
  refine OGot.go st3 ?_
  show OGot p.tables e below (T3.setTop (mkF m 8 #[.val (.ref a1), .val (.int (0 : Int32))] [(.ref a2)])) _
  obtain ⟨fs, hr, hrun, hended, hW, hsame⟩ := X3.leave (v := some (.ref a2)) (fun h => by rw [Bd.returns] at h; cases h)
  refine ⟨_, _, oretA X3 hx Bd.returns rfl rfl (hb hby d35_8) hr, hrun, hended, _, _, rfl, ?_, ⟨_, rfl⟩, hW, hsame.mono (by decide) (by decide)⟩
  exact (⟨rfl, N0, e3⟩ : Q35 Z m_OA w_EMPTY_ELEMENTDATA w_DEFAULTCAPACITY_EMPTY_ELEMENTDATA w_EMPTY_LIST w_EMPTY_LIST_elements w_EMPTY k_w_EMPTY_ELEMENTDATA k_w_DEFAULTCAPACITY_EMPTY_ELEMENTDATA k_w_EMPTY_LIST_elements a1 a2 h0 n0 _ T3.heap _)
theorem pd_17 : parseMethodDescriptor "(I)Ljava/lang/Object;" = some ⟨[.int], some (.object "java/lang/Object")⟩ := by decide +kernel
theorem d32_42 : decode prog_14_method_3_code 42 = .ok (.checkcast 21, 3) := by decide +kernel
theorem d32_45 : decode prog_14_method_3_code 45 = .ok (.invokevirtual 23, 3) := by decide +kernel
theorem d31_0 : decode prog_15_method_5_code 0 = .ok (.aload_n 0, 1) := by decide +kernel
theorem d31_1 : decode prog_15_method_5_code 1 = .ok (.getfield 7, 3) := by decide +kernel
theorem d31_4 : decode prog_15_method_5_code 4 = .ok (.ireturn, 1) := by decide +kernel
def Q31 (Z : State) (m_OA : Addr) (w_EMPTY_ELEMENTDATA : Addr) (w_DEFAULTCAPACITY_EMPTY_ELEMENTDATA : Addr) (w_EMPTY_LIST : Addr) (w_EMPTY_LIST_elements : Addr) (w_EMPTY : Addr) (k_w_EMPTY_ELEMENTDATA : ClassId) (k_w_DEFAULTCAPACITY_EMPTY_ELEMENTDATA : ClassId) (k_w_EMPTY_LIST_elements : ClassId) (a1 : Addr) (p2 : Int32) (h0 : Heap) (n0 : Nat) (v : Option Value) (h : Heap) (L : List Loc) : Prop := v = some (.int p2) ∧ Fr n0 L ∧ h = h0
theorem ef31 (m : MethodId) (x0 : Addr) : entryFrame m #[(.ref x0)] 1 = mkF m 0 #[.val (.ref x0)] [] := by first | (simp [entryFrame, mkF, argsToLocals, Value.category]; done) | rfl
set_option maxRecDepth 65536 in
set_option maxHeartbeats 40000000 in
theorem rm31 (l : Launch) (Z : State) (a0 : Array Value) (hw : ∀ d ∈ tables_1, d.before a0 Z = true) (ws : List Jvm.Cond) {m_OA : Addr} {w_EMPTY_ELEMENTDATA : Addr} {w_DEFAULTCAPACITY_EMPTY_ELEMENTDATA : Addr} {w_EMPTY_LIST : Addr} {w_EMPTY_LIST_elements : Addr} {w_EMPTY : Addr} {k_w_EMPTY_ELEMENTDATA : ClassId} {k_w_DEFAULTCAPACITY_EMPTY_ELEMENTDATA : ClassId} {k_w_EMPTY_LIST_elements : ClassId} (G : Glob Z m_OA w_EMPTY_ELEMENTDATA w_DEFAULTCAPACITY_EMPTY_ELEMENTDATA w_EMPTY_LIST w_EMPTY_LIST_elements w_EMPTY k_w_EMPTY_ELEMENTDATA k_w_DEFAULTCAPACITY_EMPTY_ELEMENTDATA k_w_EMPTY_LIST_elements) (a1 : Addr) (p2 : Int32) (h0 : Heap) (n0 : Nat) (O0 : Old Z n0 h0) (F_nSlot_a1 : Fld Z h0 a1 "com/example/curtail/curtail/Placement$Cell" "nSlot" "I" (.int p2)) :
    MetFree l (⟨"com/example/curtail/curtail/Placement$Cell", "nSlot", "()I"⟩ : MethodName) (head1 (Jvm.Cond.code (⟨"com/example/curtail/curtail/Placement$Cell", "nSlot", "()I"⟩ : MethodName) prog_15_method_5_code 1 (some .int) :: ws) ({ frames := 0, cells := 0, slots := 0, locals := 0 } : Room)) (fun a U => a = #[(.ref a1)] ∧ Z.Warmed39 U.vm ∧ U.heap = h0) (fun _ _ _ _ _ => True) (fun _ U o U' => ∃ v L, o = .returned v ∧ Q31 Z m_OA w_EMPTY_ELEMENTDATA w_DEFAULTCAPACITY_EMPTY_ELEMENTDATA w_EMPTY_LIST w_EMPTY_LIST_elements w_EMPTY k_w_EMPTY_ELEMENTDATA k_w_DEFAULTCAPACITY_EMPTY_ELEMENTDATA k_w_EMPTY_LIST_elements a1 p2 h0 n0 v U'.heap L ∧ FrameEnd U o U' L ({ frames := 0, cells := 0, slots := 0, locals := 0 } : Room).cells ({ frames := 0, cells := 0, slots := 0, locals := 0 } : Room).slots) := by
  refine MetFree.of_bodySF (plainFor_of_name pn_com_example_curtail_curtail_Placement_Cell) hisR ?_
  intro p e s m args below meth c s₁ Bd hml0 hP hK
  obtain ⟨rfl, hZ, hh⟩ := hP
  have hx := Bd.exec
  have hby := Bd.bytes
  have hml : c.maxLocals = 1 := hml0
  have hown : s.vm.findClass "com/example/curtail/curtail/Placement$Cell" = some m.cls := findClass_of_methodNamed Bd.named
  have hnm := (name_of_methodNamed Bd.named Bd.method).1
  have X0 : Stand p l e ({ frames := 0, cells := 0, slots := 0, locals := 0 } : Room) s m #[(.ref a1)] below meth c s₁ [] 0 0 := Stand.of_body Bd
  have e0 : s₁.heap = h0 := by rw [← hh, Bd.state]; rfl
  have N0 := Fr.nil n0
  show OGot p.tables e below (s₁.setTop (entryFrame m #[(.ref a1)] 1)) _
  refine OGot.go (fun t k => castTop (ef31 m a1) k) ?_
  show OGot p.tables e below (s₁.setTop (mkF m 0 #[.val (.ref a1)] [])) _
  refine OGot.go (fun t k => XS.aloadN X0.here hx rfl (hb hby d31_0) rfl rfl k) ?_
  obtain ⟨T3, X3, e3, st3⟩ := getF X0 hx hZ hown (host := "") (Or.inl (ow hw 103 rfl)) Via.refl e0 F_nSlot_a1 (g := (mkF m 1 #[.val (.ref a1)] [(.ref a1)])) rfl rfl (hb hby d31_1)
  refine OGot.go st3 ?_
  show OGot p.tables e below (T3.setTop (mkF m 4 #[.val (.ref a1)] [(.int p2)])) _
  obtain ⟨fs, hr, hrun, hended, hW, hsame⟩ := X3.leave (v := some (.int p2)) (fun h => by rw [Bd.returns] at h; cases h)
  refine ⟨_, _, retI X3 hx Bd.returns (hb hby d31_4) hr, hrun, hended, _, _, rfl, ?_, ⟨_, rfl⟩, hW, hsame.mono (by decide) (by decide)⟩
  exact (⟨rfl, N0, e3⟩ : Q31 Z m_OA w_EMPTY_ELEMENTDATA w_DEFAULTCAPACITY_EMPTY_ELEMENTDATA w_EMPTY_LIST w_EMPTY_LIST_elements w_EMPTY k_w_EMPTY_ELEMENTDATA k_w_DEFAULTCAPACITY_EMPTY_ELEMENTDATA k_w_EMPTY_LIST_elements a1 p2 h0 n0 _ T3.heap _)
theorem d32_48 : decode prog_14_method_3_code 48 = .ok (.ireturn, 1) := by decide +kernel
def Q32 (Z : State) (m_OA : Addr) (w_EMPTY_ELEMENTDATA : Addr) (w_DEFAULTCAPACITY_EMPTY_ELEMENTDATA : Addr) (w_EMPTY_LIST : Addr) (w_EMPTY_LIST_elements : Addr) (w_EMPTY : Addr) (k_w_EMPTY_ELEMENTDATA : ClassId) (k_w_DEFAULTCAPACITY_EMPTY_ELEMENTDATA : ClassId) (k_w_EMPTY_LIST_elements : ClassId) (a1 : Addr) (a2 : Addr) (a7 : Addr) (a9 : Addr) (p12 : Int32) (h0 : Heap) (n0 : Nat) (v : Option Value) (h : Heap) (L : List Loc) : Prop := v = some (.int p12) ∧ Fr n0 L ∧ h = h0
theorem ef32 (m : MethodId) (x0 : Addr) : entryFrame m #[(.ref x0)] 1 = mkF m 0 #[.val (.ref x0)] [] := by first | (simp [entryFrame, mkF, argsToLocals, Value.category]; done) | rfl
set_option maxRecDepth 65536 in
set_option maxHeartbeats 40000000 in
theorem rm32 (l : Launch) (Z : State) (a0 : Array Value) (hw : ∀ d ∈ tables_1, d.before a0 Z = true) (ws : List Jvm.Cond) {m_OA : Addr} {w_EMPTY_ELEMENTDATA : Addr} {w_DEFAULTCAPACITY_EMPTY_ELEMENTDATA : Addr} {w_EMPTY_LIST : Addr} {w_EMPTY_LIST_elements : Addr} {w_EMPTY : Addr} {k_w_EMPTY_ELEMENTDATA : ClassId} {k_w_DEFAULTCAPACITY_EMPTY_ELEMENTDATA : ClassId} {k_w_EMPTY_LIST_elements : ClassId} (G : Glob Z m_OA w_EMPTY_ELEMENTDATA w_DEFAULTCAPACITY_EMPTY_ELEMENTDATA w_EMPTY_LIST w_EMPTY_LIST_elements w_EMPTY k_w_EMPTY_ELEMENTDATA k_w_DEFAULTCAPACITY_EMPTY_ELEMENTDATA k_w_EMPTY_LIST_elements) (a1 : Addr) (a2 : Addr) (a7 : Addr) (a9 : Addr) (p12 : Int32) (h0 : Heap) (n0 : Nat) (O0 : Old Z n0 h0) (F_aCells_a1 : Fld Z h0 a1 "com/example/curtail/curtail/Placement" "aCells" "Ljava/util/List;" (.ref a2)) (E_a2 : Exa Z h0 a2 "java/util/ImmutableCollections$List12") (F_e1_a2 : Fld Z h0 a2 "java/util/ImmutableCollections$List12" "e1" "Ljava/lang/Object;" (.ref a7)) (E_a7 : Exa Z h0 a7 "java/lang/Object") (hc_1 : a7 = w_EMPTY) (F_e0_a2 : Fld Z h0 a2 "java/util/ImmutableCollections$List12" "e0" "Ljava/lang/Object;" (.ref a9)) (E_a9 : Exa Z h0 a9 "com/example/curtail/curtail/Placement$Cell") (F_nSlot_a9 : Fld Z h0 a9 "com/example/curtail/curtail/Placement$Cell" "nSlot" "I" (.int p12)) :
    MetFree l (⟨"com/example/curtail/curtail/Placement", "completionSlot", "()I"⟩ : MethodName) (head1 (Jvm.Cond.code (⟨"com/example/curtail/curtail/Placement", "completionSlot", "()I"⟩ : MethodName) prog_14_method_3_code 1 (some .int) :: ws) ({ frames := 1, cells := 0, slots := 0, locals := 13 } : Room)) (fun a U => a = #[(.ref a1)] ∧ Z.Warmed39 U.vm ∧ U.heap = h0) (fun _ _ _ _ _ => True) (fun _ U o U' => ∃ v L, o = .returned v ∧ Q32 Z m_OA w_EMPTY_ELEMENTDATA w_DEFAULTCAPACITY_EMPTY_ELEMENTDATA w_EMPTY_LIST w_EMPTY_LIST_elements w_EMPTY k_w_EMPTY_ELEMENTDATA k_w_DEFAULTCAPACITY_EMPTY_ELEMENTDATA k_w_EMPTY_LIST_elements a1 a2 a7 a9 p12 h0 n0 v U'.heap L ∧ FrameEnd U o U' L ({ frames := 1, cells := 0, slots := 0, locals := 13 } : Room).cells ({ frames := 1, cells := 0, slots := 0, locals := 13 } : Room).slots) := by
  refine MetFree.of_bodySF (plainFor_of_name pn_com_example_curtail_curtail_Placement) hisR ?_
  intro p e s m args below meth c s₁ Bd hml0 hP hK
  obtain ⟨rfl, hZ, hh⟩ := hP
  have hx := Bd.exec
  have hby := Bd.bytes
  have hml : c.maxLocals = 1 := hml0
  have hown : s.vm.findClass "com/example/curtail/curtail/Placement" = some m.cls := findClass_of_methodNamed Bd.named
  have hnm := (name_of_methodNamed Bd.named Bd.method).1
  have X0 : Stand p l e ({ frames := 1, cells := 0, slots := 0, locals := 13 } : Room) s m #[(.ref a1)] below meth c s₁ [] 0 0 := Stand.of_body Bd
  have e0 : s₁.heap = h0 := by rw [← hh, Bd.state]; rfl
  have N0 := Fr.nil n0
  show OGot p.tables e below (s₁.setTop (entryFrame m #[(.ref a1)] 1)) _
  refine OGot.go (fun t k => castTop (ef32 m a1) k) ?_
  show OGot p.tables e below (s₁.setTop (mkF m 0 #[.val (.ref a1)] [])) _
  refine OGot.go (fun t k => XS.aloadN X0.here hx rfl (hb hby d32_0) rfl rfl k) ?_
  obtain ⟨T3, X3, e3, st3⟩ := getF X0 hx hZ hown (host := "") (Or.inl (ow hw 79 rfl)) Via.refl e0 F_aCells_a1 (g := (mkF m 1 #[.val (.ref a1)] [(.ref a1)])) rfl rfl (hb hby d32_1)
  refine OGot.go st3 ?_
  obtain ⟨cq4, kq4, q4a, q4b, q4c⟩ := isOf hZ e3 E_a2
  obtain ⟨_, _, ⟨T4, L4, k4, n4⟩, -, X4, ⟨Lc4, hQ4, l4, y4, z4⟩, st4⟩ := X3.interfaceBack hx (xi := (⟨"java/util/List", "isEmpty", "()Z"⟩ : MethodName)) (y := (⟨"java/util/ImmutableCollections$List12", "isEmpty", "()Z"⟩ : MethodName)) hown (mvT hZ (ow hw 86 rfl)) (mvT hZ (ow hw 87 rfl)) (mvT hZ (ow hw 88 rfl)) (mvT hZ (ow hw 246 rfl)) (mvT hZ (ow hw 247 rfl)) (mvT hZ (ow hw 248 rfl)) (mvT hZ (ow hw 249 rfl)) (mvT hZ (ow hw 238 rfl)) (by decide) (backOf (W := 0) (rm36 l Z a0 hw [] G a2 h0 n0 O0 ) hZ (ow hw 250 rfl) (ow hw 220 rfl) (by decide) (by decide)) q4a q4b q4c (g := (mkF m 4 #[.val (.ref a1)] [(.ref a2)])) rfl (by rw [hml]; rfl) (Steps.refl _) (argsL := []) (rest := []) (lenOf pd_1 rfl) rfl (by show 2 * 0 + _ ≤ _; exact Nat.le_of_eq rfl) (hb hby d32_4) (fun _ _ => ⟨rfl, e3, (by decide : 0 + 0 ≤ _), (by decide : 0 + 0 ≤ _)⟩)
  dsimp only [Pt.U, Pt.locs, Pt.cells, Pt.slots] at X4 l4 y4 z4 st4 hQ4
  subst l4 y4 z4
  obtain ⟨rfl, N4q, e4⟩ := hQ4
  have N4 := Fr.app N0 N4q
  refine OGot.on st4 ?_
  refine OGot.go (fun t k => XS.ifYes X4.here hx rfl (pc0 := 9) (pc' := 22) rfl (hb hby d32_9) rfl (by decide) (by decide) (by decide) k) ?_
  refine OGot.go (fun t k => XS.aloadN X4.here hx rfl (hb hby d32_22) rfl rfl k) ?_
  show OGot p.tables e below (T4.setTop (mkF m 23 #[.val (.ref a1)] [(.ref a1)])) _
  obtain ⟨T5, X5, e5, st5⟩ := getF X4 hx hZ hown (host := "") (Or.inl (ow hw 79 rfl)) Via.refl e4 F_aCells_a1 (g := (mkF m 23 #[.val (.ref a1)] [(.ref a1)])) rfl rfl (hb hby d32_23)
  refine OGot.go st5 ?_
  refine OGot.go (fun t k => XS.aloadN X5.here hx rfl (hb hby d32_26) rfl rfl k) ?_
  obtain ⟨T6, X6, e6, st6⟩ := getF X5 hx hZ hown (host := "") (Or.inl (ow hw 79 rfl)) Via.refl e5 F_aCells_a1 (g := (mkF m 27 #[.val (.ref a1)] [(.ref a1), (.ref a2)])) rfl rfl (hb hby d32_27)
  refine OGot.go st6 ?_
  obtain ⟨cq8, kq8, q8a, q8b, q8c⟩ := isOf hZ e6 E_a2
  obtain ⟨_, _, ⟨T8, L8, k8, n8⟩, -, X8, ⟨Lc8, hQ8, l8, y8, z8⟩, st8⟩ := X6.interfaceBack hx (xi := (⟨"java/util/List", "size", "()I"⟩ : MethodName)) (y := (⟨"java/util/ImmutableCollections$List12", "size", "()I"⟩ : MethodName)) hown (mvT hZ (ow hw 67 rfl)) (mvT hZ (ow hw 68 rfl)) (mvT hZ (ow hw 69 rfl)) (mvT hZ (ow hw 234 rfl)) (mvT hZ (ow hw 235 rfl)) (mvT hZ (ow hw 236 rfl)) (mvT hZ (ow hw 237 rfl)) (mvT hZ (ow hw 238 rfl)) (by decide) (backOf (W := 1) (rm34 l Z a0 hw [] G a2 a7 h0 n0 O0 F_e1_a2 E_a7 hc_1) hZ (ow hw 239 rfl) (ow hw 220 rfl) (by decide) (by decide)) q8a q8b q8c (g := (mkF m 30 #[.val (.ref a1)] [(.ref a2), (.ref a2)])) rfl (by rw [hml]; rfl) (Steps.refl _) (argsL := []) (rest := [(.ref a2)]) (lenOf pd_4 rfl) rfl (by show 2 * 0 + _ ≤ _; exact Nat.le_of_eq rfl) (hb hby d32_30) (fun _ _ => ⟨rfl, e6, (by decide : 0 + 0 ≤ _), (by decide : 0 + 0 ≤ _)⟩)
  dsimp only [Pt.U, Pt.locs, Pt.cells, Pt.slots] at X8 l8 y8 z8 st8 hQ8
  subst l8 y8 z8
  obtain ⟨rfl, N8q, e8⟩ := hQ8
  have N8 := Fr.app N4 N8q
  refine OGot.on st8 ?_
  refine OGot.go (fun t k => XS.iconst X8.here hx rfl (hb hby d32_35) k) ?_
  show OGot p.tables e below (T8.setTop (mkF m 36 #[.val (.ref a1)] [(.int (1 : Int32)), (.int (1 : Int32)), (.ref a2)])) _
  refine OGot.go (fun t k => XS.isub X8.here hx rfl (hb hby d32_36) rfl k) ?_
  show OGot p.tables e below (T8.setTop (mkF m 37 #[.val (.ref a1)] [(.int ((1 : Int32) - (1 : Int32))), (.ref a2)])) _
  rw [show ((1 : Int32) - (1 : Int32)) = (0 : Int32) from by decide]
  obtain ⟨cq10, kq10, q10a, q10b, q10c⟩ := isOf hZ e8 E_a2
  obtain ⟨_, _, ⟨T10, L10, k10, n10⟩, -, X10, ⟨Lc10, hQ10, l10, y10, z10⟩, st10⟩ := X8.interfaceBack hx (xi := (⟨"java/util/List", "get", "(I)Ljava/lang/Object;"⟩ : MethodName)) (y := (⟨"java/util/ImmutableCollections$List12", "get", "(I)Ljava/lang/Object;"⟩ : MethodName)) hown (mvT hZ (ow hw 198 rfl)) (mvT hZ (ow hw 199 rfl)) (mvT hZ (ow hw 200 rfl)) (mvT hZ (ow hw 241 rfl)) (mvT hZ (ow hw 242 rfl)) (mvT hZ (ow hw 243 rfl)) (mvT hZ (ow hw 244 rfl)) (mvT hZ (ow hw 238 rfl)) (by decide) (backOf (W := 0) (rm35 l Z a0 hw [] G a2 a9 h0 n0 O0 F_e0_a2) hZ (ow hw 245 rfl) (ow hw 220 rfl) (by decide) (by decide)) q10a q10b q10c (g := (mkF m 37 #[.val (.ref a1)] [(.int (0 : Int32)), (.ref a2)])) rfl (by rw [hml]; rfl) (Steps.refl _) (argsL := [(.int (0 : Int32))]) (rest := []) (lenOf pd_17 rfl) rfl (by show 2 * 0 + _ ≤ _; exact Nat.le_of_eq rfl) (hb hby d32_37) (fun _ _ => ⟨rfl, e8, (by decide : 0 + 0 ≤ _), (by decide : 0 + 0 ≤ _)⟩)
  dsimp only [Pt.U, Pt.locs, Pt.cells, Pt.slots] at X10 l10 y10 z10 st10 hQ10
  subst l10 y10 z10
  obtain ⟨rfl, N10q, e10⟩ := hQ10
  have N10 := Fr.app N8 N10q
  refine OGot.on st10 ?_
  obtain ⟨T11, X11, e11, st11⟩ := castY X10 hx hZ hown (ow hw 206 rfl) e10 (Ins.self E_a9) (g := (mkF m 42 #[.val (.ref a1)] [(.ref a9)])) rfl rfl (hb hby d32_42)
  refine OGot.go st11 ?_
  obtain ⟨cq13, kq13, q13a, q13b, q13c⟩ := isOf hZ e11 E_a9
  obtain ⟨_, _, ⟨T13, L13, k13, n13⟩, -, X13, ⟨Lc13, hQ13, l13, y13, z13⟩, st13⟩ := X11.virtualBack hx (y := (⟨"com/example/curtail/curtail/Placement$Cell", "nSlot", "()I"⟩ : MethodName)) (z := (⟨"com/example/curtail/curtail/Placement$Cell", "nSlot", "()I"⟩ : MethodName)) hown (mvT hZ (ow hw 208 rfl)) (mvT hZ (ow hw 209 rfl)) (notFace_of_selects (args := #[]) (mvT hZ (ow hw 211 rfl))) (mvT hZ (ow hw 211 rfl)) (mvT hZ (ow hw 210 rfl)) (by decide) (backOf (W := 0) (rm31 l Z a0 hw [] G a9 p12 h0 n0 O0 F_nSlot_a9) hZ (ow hw 212 rfl) (ow hw 98 rfl) (by decide) (by decide)) q13a q13c (g := (mkF m 45 #[.val (.ref a1)] [(.ref a9)])) rfl (by rw [hml]; rfl) (Steps.refl _) (argsL := []) (rest := []) (lenOf pd_4 rfl) rfl (by show 2 * 0 + _ ≤ _; exact Nat.le_of_eq rfl) (hb hby d32_45) (fun _ _ => ⟨rfl, e11, (by decide : 0 + 0 ≤ _), (by decide : 0 + 0 ≤ _)⟩)
  dsimp only [Pt.U, Pt.locs, Pt.cells, Pt.slots] at X13 l13 y13 z13 st13 hQ13
  subst l13 y13 z13
  obtain ⟨rfl, N13q, e13⟩ := hQ13
  have N13 := Fr.app N10 N13q
  refine OGot.on st13 ?_
  show OGot p.tables e below (T13.setTop (mkF m 48 #[.val (.ref a1)] [(.int p12)])) _
  obtain ⟨fs, hr, hrun, hended, hW, hsame⟩ := X13.leave (v := some (.int p12)) (fun h => by rw [Bd.returns] at h; cases h)
  refine ⟨_, _, retI X13 hx Bd.returns (hb hby d32_48) hr, hrun, hended, _, _, rfl, ?_, ⟨_, rfl⟩, hW, hsame.mono (by decide) (by decide)⟩
  exact (⟨rfl, N13, e13⟩ : Q32 Z m_OA w_EMPTY_ELEMENTDATA w_DEFAULTCAPACITY_EMPTY_ELEMENTDATA w_EMPTY_LIST w_EMPTY_LIST_elements w_EMPTY k_w_EMPTY_ELEMENTDATA k_w_DEFAULTCAPACITY_EMPTY_ELEMENTDATA k_w_EMPTY_LIST_elements a1 a2 a7 a9 p12 h0 n0 _ T13.heap _)
def Q16_1 (Z : State) (m_OA : Addr) (w_EMPTY_ELEMENTDATA : Addr) (w_DEFAULTCAPACITY_EMPTY_ELEMENTDATA : Addr) (w_EMPTY_LIST : Addr) (w_EMPTY_LIST_elements : Addr) (w_EMPTY : Addr) (k_w_EMPTY_ELEMENTDATA : ClassId) (k_w_DEFAULTCAPACITY_EMPTY_ELEMENTDATA : ClassId) (k_w_EMPTY_LIST_elements : ClassId) (a1 : Addr) (a2 : Addr) (a3 : Addr) (k4 : ClassId) (a5 : Addr) (h0 : Heap) (n0 : Nat) (v : Option Value) (h : Heap) (L : List Loc) : Prop := Fr n0 L ∧ v = none ∧ OKeep h0 h [(a3, (1 : Int32).toNatClampNeg), (a1, Jvm.RoadKit.slotOf Z "java/util/ArrayList" "size" "I")] ∧ Arv Z h a3 k4 (.object "java/lang/Object") (10 : Int32) [(.ref a5), (.ref a2), .null, .null, .null, .null, .null, .null, .null, .null] .null ∧ Fld Z h a1 "java/util/ArrayList" "size" "I" (.int (2 : Int32))
theorem ef16_1 (m : MethodId) (x0 : Addr) (x1 : Addr) (x2 : Addr) : entryFrame m #[(.ref x0), (.ref x1), (.ref x2), (.int (1 : Int32))] 4 = mkF m 0 #[.val (.ref x0), .val (.ref x1), .val (.ref x2), .val (.int (1 : Int32))] [] := by first | (simp [entryFrame, mkF, argsToLocals, Value.category]; done) | rfl
set_option maxRecDepth 65536 in
set_option maxHeartbeats 40000000 in
theorem rm16_1 (l : Launch) (Z : State) (a0 : Array Value) (hw : ∀ d ∈ tables_1, d.before a0 Z = true) (ws : List Jvm.Cond) {m_OA : Addr} {w_EMPTY_ELEMENTDATA : Addr} {w_DEFAULTCAPACITY_EMPTY_ELEMENTDATA : Addr} {w_EMPTY_LIST : Addr} {w_EMPTY_LIST_elements : Addr} {w_EMPTY : Addr} {k_w_EMPTY_ELEMENTDATA : ClassId} {k_w_DEFAULTCAPACITY_EMPTY_ELEMENTDATA : ClassId} {k_w_EMPTY_LIST_elements : ClassId} (G : Glob Z m_OA w_EMPTY_ELEMENTDATA w_DEFAULTCAPACITY_EMPTY_ELEMENTDATA w_EMPTY_LIST w_EMPTY_LIST_elements w_EMPTY k_w_EMPTY_ELEMENTDATA k_w_DEFAULTCAPACITY_EMPTY_ELEMENTDATA k_w_EMPTY_LIST_elements) (a1 : Addr) (a2 : Addr) (a3 : Addr) (k4 : ClassId) (a5 : Addr) (h0 : Heap) (n0 : Nat) (O0 : Old Z n0 h0) (V_a3 : Arv Z h0 a3 k4 (.object "java/lang/Object") (10 : Int32) [(.ref a5), .null, .null, .null, .null, .null, .null, .null, .null, .null] .null) (O_k4 : Ovr Z k4 "java/lang/Object") (g_a3 : n0 ≤ a3) (E_a2 : Exa Z h0 a2 "com/example/curtail/curtail/Placement$Cell") (E_a1 : Exa Z h0 a1 "java/util/ArrayList") (F_size_a1 : Fld Z h0 a1 "java/util/ArrayList" "size" "I" (.int (1 : Int32))) (g_a1 : n0 ≤ a1) (ne_a1_a3 : a1 ≠ a3) :
    MetFree l (⟨"java/util/ArrayList", "add", "(Ljava/lang/Object;[Ljava/lang/Object;I)V"⟩ : MethodName) (head1 (Jvm.Cond.code (⟨"java/util/ArrayList", "add", "(Ljava/lang/Object;[Ljava/lang/Object;I)V"⟩ : MethodName) jdk_38_method_24_code 4 none :: ws) ({ frames := 0, cells := 0, slots := 0, locals := 0 } : Room)) (fun a U => a = #[(.ref a1), (.ref a2), (.ref a3), (.int (1 : Int32))] ∧ Z.Warmed39 U.vm ∧ U.heap = h0) (fun _ _ _ _ _ => True) (fun _ U o U' => ∃ v L, o = .returned v ∧ Q16_1 Z m_OA w_EMPTY_ELEMENTDATA w_DEFAULTCAPACITY_EMPTY_ELEMENTDATA w_EMPTY_LIST w_EMPTY_LIST_elements w_EMPTY k_w_EMPTY_ELEMENTDATA k_w_DEFAULTCAPACITY_EMPTY_ELEMENTDATA k_w_EMPTY_LIST_elements a1 a2 a3 k4 a5 h0 n0 v U'.heap L ∧ FrameEnd U o U' L ({ frames := 0, cells := 0, slots := 0, locals := 0 } : Room).cells ({ frames := 0, cells := 0, slots := 0, locals := 0 } : Room).slots) := by
  refine MetFree.of_bodySF (plainFor_of_name pn_java_util_ArrayList) hisR ?_
  intro p e s m args below meth c s₁ Bd hml0 hP hK
  obtain ⟨rfl, hZ, hh⟩ := hP
  have hx := Bd.exec
  have hby := Bd.bytes
  have hml : c.maxLocals = 4 := hml0
  have hown : s.vm.findClass "java/util/ArrayList" = some m.cls := findClass_of_methodNamed Bd.named
  have hnm := (name_of_methodNamed Bd.named Bd.method).1
  have X0 : Stand p l e ({ frames := 0, cells := 0, slots := 0, locals := 0 } : Room) s m #[(.ref a1), (.ref a2), (.ref a3), (.int (1 : Int32))] below meth c s₁ [] 0 0 := Stand.of_body Bd
  have e0 : s₁.heap = h0 := by rw [← hh, Bd.state]; rfl
  have N0 := Fr.nil n0
  show OGot p.tables e below (s₁.setTop (entryFrame m #[(.ref a1), (.ref a2), (.ref a3), (.int (1 : Int32))] 4)) _
  refine OGot.go (fun t k => castTop (ef16_1 m a1 a2 a3) k) ?_
  show OGot p.tables e below (s₁.setTop (mkF m 0 #[.val (.ref a1), .val (.ref a2), .val (.ref a3), .val (.int (1 : Int32))] [])) _
  refine OGot.go (fun t k => XS.iloadN X0.here hx rfl (hb hby d16_0) rfl k) ?_
  refine OGot.go (fun t k => XS.aloadN X0.here hx rfl (hb hby d16_1) rfl rfl k) ?_
  obtain ⟨cl6, Ar6, -, Sz6, Ng6, -, -⟩ := id (V_a3)
  refine OGot.go (fun t k => X0.arraylength hx (by rw [e0]; exact Ar6.1) (State.isArrayOf_alike hZ.alike Ar6.2.1) (g := (mkF m 2 #[.val (.ref a1), .val (.ref a2), .val (.ref a3), .val (.int (1 : Int32))] [(.ref a3), (.int (1 : Int32))])) rfl rfl (hb hby d16_2) _ k) ?_
  rw [len_of Sz6 Ng6]
  refine OGot.go (fun t k => XS.icmpYes X0.here hx rfl (pc0 := 3) (pc' := 11) rfl (hb hby d16_3) rfl (by decide) (by decide) (by decide) k) ?_
  refine OGot.go (fun t k => XS.aloadN X0.here hx rfl (hb hby d16_11) rfl rfl k) ?_
  show OGot p.tables e below (s₁.setTop (mkF m 12 #[.val (.ref a1), .val (.ref a2), .val (.ref a3), .val (.int (1 : Int32))] [(.ref a3)])) _
  refine OGot.go (fun t k => XS.iloadN X0.here hx rfl (hb hby d16_12) rfl k) ?_
  refine OGot.go (fun t k => XS.aloadN X0.here hx rfl (hb hby d16_13) rfl rfl k) ?_
  obtain ⟨cl7, Ar7, qc7, Sz7, Ng7, Hh7, Gg7⟩ := id (V_a3)
  have hin7 : ¬ ((1 : Int32) < 0 ∨ cl7.slots.size ≤ ((1 : Int32)).toNatClampNeg) := inb_of Sz7 ⟨by decide, by decide⟩
  obtain ⟨T7, h7, X7, e7, W7, st7⟩ := stR X0 hx hZ e0 Ar7 (j := (1 : Int32)) hin7 rfl (Sto.ofV Ar7 qc7 O_k4 (Ins.of_exa E_a2 (ow hw 135 rfl))) (g := (mkF m 14 #[.val (.ref a1), .val (.ref a2), .val (.ref a3), .val (.int (1 : Int32))] [(.ref a2), (.int (1 : Int32)), (.ref a3)])) rfl rfl (hb hby d16_14)
  refine OGot.go st7 ?_
  have N7 := Fr.snoc X7 N0 g_a3
  have O7 := O0.wr W7 g_a3
  have K7 := (OKeep.refl h0 [(a3, (1 : Int32).toNatClampNeg), (a1, Jvm.RoadKit.slotOf Z "java/util/ArrayList" "size" "I")]).wr W7 (Or.inl (List.mem_of_getElem? (i := 0) rfl))
  have Va7 : Arv Z h7 a3 k4 (.object "java/lang/Object") (10 : Int32) [(.ref a5), (.ref a2), .null, .null, .null, .null, .null, .null, .null, .null] .null := Arv.set Ar7 qc7 Sz7 Ng7 Hh7 Gg7 rfl W7 1 rfl (Nat.le_of_ble_eq_true rfl)
  refine OGot.go (fun t k => XS.aloadN X7.here hx rfl (hb hby d16_15) rfl rfl k) ?_
  refine OGot.go (fun t k => XS.iloadN X7.here hx rfl (hb hby d16_16) rfl k) ?_
  show OGot p.tables e below (T7.setTop (mkF m 17 #[.val (.ref a1), .val (.ref a2), .val (.ref a3), .val (.int (1 : Int32))] [(.int (1 : Int32)), (.ref a1)])) _
  refine OGot.go (fun t k => XS.iconst X7.here hx rfl (hb hby d16_17) k) ?_
  refine OGot.go (fun t k => XS.iadd X7.here hx rfl (hb hby d16_18) rfl k) ?_
  show OGot p.tables e below (T7.setTop (mkF m 19 #[.val (.ref a1), .val (.ref a2), .val (.ref a3), .val (.int (1 : Int32))] [(.int ((1 : Int32) + (1 : Int32))), (.ref a1)])) _
  rw [show ((1 : Int32) + (1 : Int32)) = (2 : Int32) from by decide]
  have ne8 : a1 ≠ a3 := ne_a1_a3
  have F9 : Fld Z h7 a1 "java/util/ArrayList" "size" "I" (.int (1 : Int32)) := (F_size_a1.other W7 (Or.inl ne8))
  obtain ⟨T10, h10, X10, e10, W10, st10⟩ := putF X7 hx hZ hown (host := "") (Or.inl (ow hw 61 rfl)) Via.refl e7 F9 (E_a1.wr W7) (Or.inl (ow hw 62 rfl)) (ow hw 4 rfl) (ty := .int) (by decide) rfl rfl (g := (mkF m 19 #[.val (.ref a1), .val (.ref a2), .val (.ref a3), .val (.int (1 : Int32))] [(.int (2 : Int32)), (.ref a1)])) rfl rfl (hb hby d16_19)
  refine OGot.go st10 ?_
  have N10 := Fr.snoc X10 N7 g_a1
  have O10 := O7.wr W10 g_a1
  have K10 := K7.wr W10 (Or.inl (List.mem_of_getElem? (i := 1) rfl))
  have Fw10 : Fld Z h10 a1 "java/util/ArrayList" "size" "I" (.int (2 : Int32)) := F9.same W10
  show OGot p.tables e below (T10.setTop (mkF m 22 #[.val (.ref a1), .val (.ref a2), .val (.ref a3), .val (.int (1 : Int32))] [])) _
  obtain ⟨fs, hr, hrun, hended, hW, hsame⟩ := X10.leave (v := none) (fun _ => rfl)
  refine ⟨_, _, X10.returnOut hx Bd.returns (hb hby d16_22) hr, hrun, hended, _, _, rfl, ?_, ⟨_, rfl⟩, hW, hsame.mono (by decide) (by decide)⟩
  have F11 : Arv Z h10 a3 k4 (.object "java/lang/Object") (10 : Int32) [(.ref a5), (.ref a2), .null, .null, .null, .null, .null, .null, .null, .null] .null := (Va7.other W10 (Ne.symm ne8))
  show Q16_1 Z m_OA w_EMPTY_ELEMENTDATA w_DEFAULTCAPACITY_EMPTY_ELEMENTDATA w_EMPTY_LIST w_EMPTY_LIST_elements w_EMPTY k_w_EMPTY_ELEMENTDATA k_w_DEFAULTCAPACITY_EMPTY_ELEMENTDATA k_w_EMPTY_LIST_elements a1 a2 a3 k4 a5 h0 n0 _ T10.heap _
  rw [e10]
  exact ⟨N10, rfl, K10, F11, Fw10⟩
def Q15_1 (Z : State) (m_OA : Addr) (w_EMPTY_ELEMENTDATA : Addr) (w_DEFAULTCAPACITY_EMPTY_ELEMENTDATA : Addr) (w_EMPTY_LIST : Addr) (w_EMPTY_LIST_elements : Addr) (w_EMPTY : Addr) (k_w_EMPTY_ELEMENTDATA : ClassId) (k_w_DEFAULTCAPACITY_EMPTY_ELEMENTDATA : ClassId) (k_w_EMPTY_LIST_elements : ClassId) (a1 : Addr) (a2 : Addr) (a5 : Addr) (k10 : ClassId) (a11 : Addr) (h0 : Heap) (n0 : Nat) (v : Option Value) (h : Heap) (L : List Loc) : Prop := Fr n0 L ∧ v = some (.int (1 : Int32)) ∧ OKeep h0 h [(a1, Jvm.RoadKit.slotOf Z "java/util/AbstractList" "modCount" "I"), (a1, Jvm.RoadKit.slotOf Z "java/util/ArrayList" "size" "I"), (a5, (1 : Int32).toNatClampNeg)] ∧ Fld Z h a1 "java/util/AbstractList" "modCount" "I" (.int (2 : Int32)) ∧ Fld Z h a1 "java/util/ArrayList" "size" "I" (.int (2 : Int32)) ∧ Arv Z h a5 k10 (.object "java/lang/Object") (10 : Int32) [(.ref a11), (.ref a2), .null, .null, .null, .null, .null, .null, .null, .null] .null
theorem ef15_1 (m : MethodId) (x0 : Addr) (x1 : Addr) : entryFrame m #[(.ref x0), (.ref x1)] 2 = mkF m 0 #[.val (.ref x0), .val (.ref x1)] [] := by first | (simp [entryFrame, mkF, argsToLocals, Value.category]; done) | rfl
set_option maxRecDepth 65536 in
set_option maxHeartbeats 40000000 in
theorem rm15_1 (l : Launch) (Z : State) (a0 : Array Value) (hw : ∀ d ∈ tables_1, d.before a0 Z = true) (ws : List Jvm.Cond) {m_OA : Addr} {w_EMPTY_ELEMENTDATA : Addr} {w_DEFAULTCAPACITY_EMPTY_ELEMENTDATA : Addr} {w_EMPTY_LIST : Addr} {w_EMPTY_LIST_elements : Addr} {w_EMPTY : Addr} {k_w_EMPTY_ELEMENTDATA : ClassId} {k_w_DEFAULTCAPACITY_EMPTY_ELEMENTDATA : ClassId} {k_w_EMPTY_LIST_elements : ClassId} (G : Glob Z m_OA w_EMPTY_ELEMENTDATA w_DEFAULTCAPACITY_EMPTY_ELEMENTDATA w_EMPTY_LIST w_EMPTY_LIST_elements w_EMPTY k_w_EMPTY_ELEMENTDATA k_w_DEFAULTCAPACITY_EMPTY_ELEMENTDATA k_w_EMPTY_LIST_elements) (a1 : Addr) (a2 : Addr) (a5 : Addr) (k10 : ClassId) (a11 : Addr) (h0 : Heap) (n0 : Nat) (O0 : Old Z n0 h0) (F_modCount_a1 : Fld Z h0 a1 "java/util/AbstractList" "modCount" "I" (.int (1 : Int32))) (E_a1 : Exa Z h0 a1 "java/util/ArrayList") (g_a1 : n0 ≤ a1) (F_elementData_a1 : Fld Z h0 a1 "java/util/ArrayList" "elementData" "[Ljava/lang/Object;" (.ref a5)) (F_size_a1 : Fld Z h0 a1 "java/util/ArrayList" "size" "I" (.int (1 : Int32))) (V_a5 : Arv Z h0 a5 k10 (.object "java/lang/Object") (10 : Int32) [(.ref a11), .null, .null, .null, .null, .null, .null, .null, .null, .null] .null) (O_k10 : Ovr Z k10 "java/lang/Object") (g_a5 : n0 ≤ a5) (E_a2 : Exa Z h0 a2 "com/example/curtail/curtail/Placement$Cell") (ne_a1_a5 : a1 ≠ a5) :
    MetFree l (⟨"java/util/ArrayList", "add", "(Ljava/lang/Object;)Z"⟩ : MethodName) (head1 (Jvm.Cond.code (⟨"java/util/ArrayList", "add", "(Ljava/lang/Object;)Z"⟩ : MethodName) jdk_38_method_25_code 2 (some .boolean) :: ws) ({ frames := 1, cells := 0, slots := 0, locals := 15 } : Room)) (fun a U => a = #[(.ref a1), (.ref a2)] ∧ Z.Warmed39 U.vm ∧ U.heap = h0) (fun _ _ _ _ _ => True) (fun _ U o U' => ∃ v L, o = .returned v ∧ Q15_1 Z m_OA w_EMPTY_ELEMENTDATA w_DEFAULTCAPACITY_EMPTY_ELEMENTDATA w_EMPTY_LIST w_EMPTY_LIST_elements w_EMPTY k_w_EMPTY_ELEMENTDATA k_w_DEFAULTCAPACITY_EMPTY_ELEMENTDATA k_w_EMPTY_LIST_elements a1 a2 a5 k10 a11 h0 n0 v U'.heap L ∧ FrameEnd U o U' L ({ frames := 1, cells := 0, slots := 0, locals := 15 } : Room).cells ({ frames := 1, cells := 0, slots := 0, locals := 15 } : Room).slots) := by
  refine MetFree.of_bodySF (plainFor_of_name pn_java_util_ArrayList) hisR ?_
  intro p e s m args below meth c s₁ Bd hml0 hP hK
  obtain ⟨rfl, hZ, hh⟩ := hP
  have hx := Bd.exec
  have hby := Bd.bytes
  have hml : c.maxLocals = 2 := hml0
  have hown : s.vm.findClass "java/util/ArrayList" = some m.cls := findClass_of_methodNamed Bd.named
  have hnm := (name_of_methodNamed Bd.named Bd.method).1
  have X0 : Stand p l e ({ frames := 1, cells := 0, slots := 0, locals := 15 } : Room) s m #[(.ref a1), (.ref a2)] below meth c s₁ [] 0 0 := Stand.of_body Bd
  have e0 : s₁.heap = h0 := by rw [← hh, Bd.state]; rfl
  have N0 := Fr.nil n0
  show OGot p.tables e below (s₁.setTop (entryFrame m #[(.ref a1), (.ref a2)] 2)) _
  refine OGot.go (fun t k => castTop (ef15_1 m a1 a2) k) ?_
  show OGot p.tables e below (s₁.setTop (mkF m 0 #[.val (.ref a1), .val (.ref a2)] [])) _
  refine OGot.go (fun t k => XS.aloadN X0.here hx rfl (hb hby d15_0) rfl rfl k) ?_
  refine OGot.go (fun t k => XS.dup X0.here hx rfl (hb hby d15_1) rfl rfl k) ?_
  obtain ⟨T3, X3, e3, st3⟩ := getF X0 hx hZ hown (host := "") (Or.inl (ow hw 112 rfl)) (Via.of (ow hw 113 rfl)) e0 F_modCount_a1 (g := (mkF m 2 #[.val (.ref a1), .val (.ref a2)] [(.ref a1), (.ref a1)])) rfl rfl (hb hby d15_2)
  refine OGot.go st3 ?_
  refine OGot.go (fun t k => XS.iconst X3.here hx rfl (hb hby d15_5) k) ?_
  refine OGot.go (fun t k => XS.iadd X3.here hx rfl (hb hby d15_6) rfl k) ?_
  show OGot p.tables e below (T3.setTop (mkF m 7 #[.val (.ref a1), .val (.ref a2)] [(.int ((1 : Int32) + (1 : Int32))), (.ref a1)])) _
  rw [show ((1 : Int32) + (1 : Int32)) = (2 : Int32) from by decide]
  show OGot p.tables e below (T3.setTop (mkF m 7 #[.val (.ref a1), .val (.ref a2)] [(.int (2 : Int32)), (.ref a1)])) _
  obtain ⟨T4, h4, X4, e4, W4, st4⟩ := putF X3 hx hZ hown (host := "") (Or.inl (ow hw 112 rfl)) (Via.of (ow hw 113 rfl)) e3 F_modCount_a1 E_a1 (Or.inl (ow hw 25 rfl)) (ow hw 4 rfl) (ty := .int) (by decide) rfl rfl (g := (mkF m 7 #[.val (.ref a1), .val (.ref a2)] [(.int (2 : Int32)), (.ref a1)])) rfl rfl (hb hby d15_7)
  refine OGot.go st4 ?_
  have N4 := Fr.snoc X4 N0 g_a1
  have O4 := O0.wr W4 g_a1
  have K4 := (OKeep.refl h0 [(a1, Jvm.RoadKit.slotOf Z "java/util/AbstractList" "modCount" "I"), (a1, Jvm.RoadKit.slotOf Z "java/util/ArrayList" "size" "I"), (a5, (1 : Int32).toNatClampNeg)]).wr W4 (Or.inl (List.mem_of_getElem? (i := 0) rfl))
  have Fw4 : Fld Z h4 a1 "java/util/AbstractList" "modCount" "I" (.int (2 : Int32)) := F_modCount_a1.same W4
  refine OGot.go (fun t k => XS.aloadN X4.here hx rfl (hb hby d15_10) rfl rfl k) ?_
  refine OGot.go (fun t k => XS.aloadN X4.here hx rfl (hb hby d15_11) rfl rfl k) ?_
  refine OGot.go (fun t k => XS.aloadN X4.here hx rfl (hb hby d15_12) rfl rfl k) ?_
  have F6 : Fld Z h4 a1 "java/util/ArrayList" "elementData" "[Ljava/lang/Object;" (.ref a5) := (F_elementData_a1.other W4 (Or.inr (slot_ne (Or.inl (ow hw 28 rfl)) (Or.inl (ow hw 25 rfl)) (by decide) (t := (.array (.object "java/lang/Object"))) (t' := .int) (by decide) (by decide))))
  obtain ⟨T7, X7, e7, st7⟩ := getF X4 hx hZ hown (host := "") (Or.inl (ow hw 27 rfl)) Via.refl e4 F6 (g := (mkF m 13 #[.val (.ref a1), .val (.ref a2)] [(.ref a1), (.ref a2), (.ref a1)])) rfl rfl (hb hby d15_13)
  refine OGot.go st7 ?_
  show OGot p.tables e below (T7.setTop (mkF m 16 #[.val (.ref a1), .val (.ref a2)] [(.ref a5), (.ref a2), (.ref a1)])) _
  refine OGot.go (fun t k => XS.aloadN X7.here hx rfl (hb hby d15_16) rfl rfl k) ?_
  have F8 : Fld Z h4 a1 "java/util/ArrayList" "size" "I" (.int (1 : Int32)) := (F_size_a1.other W4 (Or.inr (slot_ne (Or.inl (ow hw 62 rfl)) (Or.inl (ow hw 25 rfl)) (by decide) (t := .int) (t' := .int) (by decide) (by decide))))
  obtain ⟨T9, X9, e9, st9⟩ := getF X7 hx hZ hown (host := "") (Or.inl (ow hw 61 rfl)) Via.refl e7 F8 (g := (mkF m 17 #[.val (.ref a1), .val (.ref a2)] [(.ref a1), (.ref a5), (.ref a2), (.ref a1)])) rfl rfl (hb hby d15_17)
  refine OGot.go st9 ?_
  have ne12 : a1 ≠ a5 := ne_a1_a5
  have F14 : Arv Z h4 a5 k10 (.object "java/lang/Object") (10 : Int32) [(.ref a11), .null, .null, .null, .null, .null, .null, .null, .null, .null] .null := (V_a5.other W4 (Ne.symm ne12))
  obtain ⟨cq13, q13, q13'⟩ := (E_a1.wr W4).cell
  obtain ⟨_, _, ⟨T13, L13, k13, n13⟩, -, X13, ⟨Lc13, hQ13, l13, y13, z13⟩, st13⟩ := X9.privateBack hx (y := (⟨"java/util/ArrayList", "add", "(Ljava/lang/Object;[Ljava/lang/Object;I)V"⟩ : MethodName)) hown (mvT hZ (ow hw 114 rfl)) (mvT hZ (ow hw 115 rfl)) (mvT hZ (ow hw 117 rfl)) (Cond.privateMethod_at (mvP hZ (ow hw 116 rfl) (args := #[]))) (mvT hZ (ow hw 118 rfl)) (by decide) (backOf (W := 0) (rm16_1 l Z a0 hw [] G a1 a2 a5 k10 a11 h4 n0 O4 F14 O_k10 g_a5 (E_a2.wr W4) (E_a1.wr W4) F8 g_a1 ne12) hZ (ow hw 118 rfl) (ow hw 5 rfl) (by decide) (by decide)) (g := (mkF m 20 #[.val (.ref a1), .val (.ref a2)] [(.int (1 : Int32)), (.ref a5), (.ref a2), (.ref a1)])) rfl (by rw [hml]; rfl) (Steps.refl _) (a := a1) (by rw [e9]; exact q13) q13' (argsL := [(.ref a2), (.ref a5), (.int (1 : Int32))]) (rest := []) (lenOf pd_10 rfl) rfl (by show 2 * 0 + _ ≤ _; exact Nat.le_of_eq rfl) (hb hby d15_20) (fun _ _ => ⟨rfl, e9, (by decide : 0 + 0 ≤ _), (by decide : 0 + 0 ≤ _)⟩)
  dsimp only [Pt.U, Pt.locs, Pt.cells, Pt.slots] at X13 l13 y13 z13 st13 hQ13
  subst l13 y13 z13
  obtain ⟨N13q, rfl, K13, Fo13_0, Fo13_1⟩ := hQ13
  have Kc13 := K4.trans K13 (oinS (Or.inl (List.mem_of_getElem? (i := 2) rfl)) (oinS (Or.inl (List.mem_of_getElem? (i := 1) rfl)) oin0))
  have O13 := OKeep.old O4 K13 (ogeS g_a5 (ogeS g_a1 oge0))
  have N13 := Fr.app N4 N13q
  refine OGot.on st13 ?_
  refine OGot.go (fun t k => XS.iconst X13.here hx rfl (hb hby d15_23) k) ?_
  show OGot p.tables e below (T13.setTop (mkF m 24 #[.val (.ref a1), .val (.ref a2)] [(.int (1 : Int32))])) _
  obtain ⟨fs, hr, hrun, hended, hW, hsame⟩ := X13.leave (v := some (.int (1 : Int32))) (fun h => by rw [Bd.returns] at h; cases h)
  refine ⟨_, _, retN X13 hx (t := .boolean) Bd.returns (by simp) (hb hby d15_24) hr, hrun, hended, _, _, rfl, ?_, ⟨_, rfl⟩, hW, hsame.mono (by decide) (by decide)⟩
  have F15 : Fld Z T13.heap a1 "java/util/AbstractList" "modCount" "I" (.int (2 : Int32)) := (OKeep.fld Fw4 K13 (oninA ne12 (oninS (slot_ne (Or.inl (ow hw 25 rfl)) (Or.inl (ow hw 62 rfl)) (by decide) (t := .int) (t' := .int) (by decide) (by decide)) onin0)))
  show Q15_1 Z m_OA w_EMPTY_ELEMENTDATA w_DEFAULTCAPACITY_EMPTY_ELEMENTDATA w_EMPTY_LIST w_EMPTY_LIST_elements w_EMPTY k_w_EMPTY_ELEMENTDATA k_w_DEFAULTCAPACITY_EMPTY_ELEMENTDATA k_w_EMPTY_LIST_elements a1 a2 a5 k10 a11 h0 n0 _ T13.heap _
  exact ⟨N13, rfl, Kc13, F15, Fo13_1, Fo13_0⟩
def Q9_2 (Z : State) (m_OA : Addr) (w_EMPTY_ELEMENTDATA : Addr) (w_DEFAULTCAPACITY_EMPTY_ELEMENTDATA : Addr) (w_EMPTY_LIST : Addr) (w_EMPTY_LIST_elements : Addr) (w_EMPTY : Addr) (k_w_EMPTY_ELEMENTDATA : ClassId) (k_w_DEFAULTCAPACITY_EMPTY_ELEMENTDATA : ClassId) (k_w_EMPTY_LIST_elements : ClassId) (a1 : Addr) (h0 : Heap) (n0 : Nat) (v : Option Value) (h : Heap) (L : List Loc) : Prop := v = some (.int (0 : Int32)) ∧ Fr n0 L ∧ h = h0
theorem ef9_2 (m : MethodId) (x0 : Addr) : entryFrame m #[(.ref x0)] 1 = mkF m 0 #[.val (.ref x0)] [] := by first | (simp [entryFrame, mkF, argsToLocals, Value.category]; done) | rfl
set_option maxRecDepth 65536 in
set_option maxHeartbeats 40000000 in
theorem rm9_2 (l : Launch) (Z : State) (a0 : Array Value) (hw : ∀ d ∈ tables_1, d.before a0 Z = true) (ws : List Jvm.Cond) {m_OA : Addr} {w_EMPTY_ELEMENTDATA : Addr} {w_DEFAULTCAPACITY_EMPTY_ELEMENTDATA : Addr} {w_EMPTY_LIST : Addr} {w_EMPTY_LIST_elements : Addr} {w_EMPTY : Addr} {k_w_EMPTY_ELEMENTDATA : ClassId} {k_w_DEFAULTCAPACITY_EMPTY_ELEMENTDATA : ClassId} {k_w_EMPTY_LIST_elements : ClassId} (G : Glob Z m_OA w_EMPTY_ELEMENTDATA w_DEFAULTCAPACITY_EMPTY_ELEMENTDATA w_EMPTY_LIST w_EMPTY_LIST_elements w_EMPTY k_w_EMPTY_ELEMENTDATA k_w_DEFAULTCAPACITY_EMPTY_ELEMENTDATA k_w_EMPTY_LIST_elements) (a1 : Addr) (h0 : Heap) (n0 : Nat) (O0 : Old Z n0 h0) (F_size_a1 : Fld Z h0 a1 "java/util/ArrayList" "size" "I" (.int (2 : Int32))) :
    MetFree l (⟨"java/util/ArrayList", "isEmpty", "()Z"⟩ : MethodName) (head1 (Jvm.Cond.code (⟨"java/util/ArrayList", "isEmpty", "()Z"⟩ : MethodName) jdk_38_method_9_code 1 (some .boolean) :: ws) ({ frames := 0, cells := 0, slots := 0, locals := 0 } : Room)) (fun a U => a = #[(.ref a1)] ∧ Z.Warmed39 U.vm ∧ U.heap = h0) (fun _ _ _ _ _ => True) (fun _ U o U' => ∃ v L, o = .returned v ∧ Q9_2 Z m_OA w_EMPTY_ELEMENTDATA w_DEFAULTCAPACITY_EMPTY_ELEMENTDATA w_EMPTY_LIST w_EMPTY_LIST_elements w_EMPTY k_w_EMPTY_ELEMENTDATA k_w_DEFAULTCAPACITY_EMPTY_ELEMENTDATA k_w_EMPTY_LIST_elements a1 h0 n0 v U'.heap L ∧ FrameEnd U o U' L ({ frames := 0, cells := 0, slots := 0, locals := 0 } : Room).cells ({ frames := 0, cells := 0, slots := 0, locals := 0 } : Room).slots) := by
  refine MetFree.of_bodySF (plainFor_of_name pn_java_util_ArrayList) hisR ?_
  intro p e s m args below meth c s₁ Bd hml0 hP hK
  obtain ⟨rfl, hZ, hh⟩ := hP
  have hx := Bd.exec
  have hby := Bd.bytes
  have hml : c.maxLocals = 1 := hml0
  have hown : s.vm.findClass "java/util/ArrayList" = some m.cls := findClass_of_methodNamed Bd.named
  have hnm := (name_of_methodNamed Bd.named Bd.method).1
  have X0 : Stand p l e ({ frames := 0, cells := 0, slots := 0, locals := 0 } : Room) s m #[(.ref a1)] below meth c s₁ [] 0 0 := Stand.of_body Bd
  have e0 : s₁.heap = h0 := by rw [← hh, Bd.state]; rfl
  have N0 := Fr.nil n0
  show OGot p.tables e below (s₁.setTop (entryFrame m #[(.ref a1)] 1)) _
  refine OGot.go (fun t k => castTop (ef9_2 m a1) k) ?_
  show OGot p.tables e below (s₁.setTop (mkF m 0 #[.val (.ref a1)] [])) _
  refine OGot.go (fun t k => XS.aloadN X0.here hx rfl (hb hby d9_0) rfl rfl k) ?_
  obtain ⟨T2, X2, e2, st2⟩ := getF X0 hx hZ hown (host := "") (Or.inl (ow hw 61 rfl)) Via.refl e0 F_size_a1 (g := (mkF m 1 #[.val (.ref a1)] [(.ref a1)])) rfl rfl (hb hby d9_1)
  refine OGot.go st2 ?_
  refine OGot.go (fun t k => XS.ifYes X2.here hx rfl (pc0 := 4) (pc' := 11) rfl (hb hby d9_4) rfl (by decide) (by decide) (by decide) k) ?_
  refine OGot.go (fun t k => XS.iconst X2.here hx rfl (hb hby d9_11) k) ?_
  show OGot p.tables e below (T2.setTop (mkF m 12 #[.val (.ref a1)] [(.int (0 : Int32))])) _
  obtain ⟨fs, hr, hrun, hended, hW, hsame⟩ := X2.leave (v := some (.int (0 : Int32))) (fun h => by rw [Bd.returns] at h; cases h)
  refine ⟨_, _, retN X2 hx (t := .boolean) Bd.returns (by simp) (hb hby d9_12) hr, hrun, hended, _, _, rfl, ?_, ⟨_, rfl⟩, hW, hsame.mono (by decide) (by decide)⟩
  exact (⟨rfl, N0, e2⟩ : Q9_2 Z m_OA w_EMPTY_ELEMENTDATA w_DEFAULTCAPACITY_EMPTY_ELEMENTDATA w_EMPTY_LIST w_EMPTY_LIST_elements w_EMPTY k_w_EMPTY_ELEMENTDATA k_w_DEFAULTCAPACITY_EMPTY_ELEMENTDATA k_w_EMPTY_LIST_elements a1 h0 n0 _ T2.heap _)
def Q23_1 (Z : State) (m_OA : Addr) (w_EMPTY_ELEMENTDATA : Addr) (w_DEFAULTCAPACITY_EMPTY_ELEMENTDATA : Addr) (w_EMPTY_LIST : Addr) (w_EMPTY_LIST_elements : Addr) (w_EMPTY : Addr) (k_w_EMPTY_ELEMENTDATA : ClassId) (k_w_DEFAULTCAPACITY_EMPTY_ELEMENTDATA : ClassId) (k_w_EMPTY_LIST_elements : ClassId)  (h0 : Heap) (n0 : Nat) (v : Option Value) (h : Heap) (L : List Loc) : Prop := v = some (.int (2 : Int32)) ∧ Fr n0 L ∧ h = h0
theorem ef23_1 (m : MethodId)  : entryFrame m #[(.int (10 : Int32)), (.int (2 : Int32))] 2 = mkF m 0 #[.val (.int (10 : Int32)), .val (.int (2 : Int32))] [] := by first | (simp [entryFrame, mkF, argsToLocals, Value.category]; done) | rfl
set_option maxRecDepth 65536 in
set_option maxHeartbeats 40000000 in
theorem rm23_1 (l : Launch) (Z : State) (a0 : Array Value) (hw : ∀ d ∈ tables_1, d.before a0 Z = true) (ws : List Jvm.Cond) {m_OA : Addr} {w_EMPTY_ELEMENTDATA : Addr} {w_DEFAULTCAPACITY_EMPTY_ELEMENTDATA : Addr} {w_EMPTY_LIST : Addr} {w_EMPTY_LIST_elements : Addr} {w_EMPTY : Addr} {k_w_EMPTY_ELEMENTDATA : ClassId} {k_w_DEFAULTCAPACITY_EMPTY_ELEMENTDATA : ClassId} {k_w_EMPTY_LIST_elements : ClassId} (G : Glob Z m_OA w_EMPTY_ELEMENTDATA w_DEFAULTCAPACITY_EMPTY_ELEMENTDATA w_EMPTY_LIST w_EMPTY_LIST_elements w_EMPTY k_w_EMPTY_ELEMENTDATA k_w_DEFAULTCAPACITY_EMPTY_ELEMENTDATA k_w_EMPTY_LIST_elements)  (h0 : Heap) (n0 : Nat) (O0 : Old Z n0 h0) :
    MetFree l (⟨"java/lang/Math", "min", "(II)I"⟩ : MethodName) (head1 (Jvm.Cond.code (⟨"java/lang/Math", "min", "(II)I"⟩ : MethodName) jdk_29_method_69_code 2 (some .int) :: ws) ({ frames := 0, cells := 0, slots := 0, locals := 0 } : Room)) (fun a U => a = #[(.int (10 : Int32)), (.int (2 : Int32))] ∧ Z.Warmed39 U.vm ∧ U.heap = h0) (fun _ _ _ _ _ => True) (fun _ U o U' => ∃ v L, o = .returned v ∧ Q23_1 Z m_OA w_EMPTY_ELEMENTDATA w_DEFAULTCAPACITY_EMPTY_ELEMENTDATA w_EMPTY_LIST w_EMPTY_LIST_elements w_EMPTY k_w_EMPTY_ELEMENTDATA k_w_DEFAULTCAPACITY_EMPTY_ELEMENTDATA k_w_EMPTY_LIST_elements  h0 n0 v U'.heap L ∧ FrameEnd U o U' L ({ frames := 0, cells := 0, slots := 0, locals := 0 } : Room).cells ({ frames := 0, cells := 0, slots := 0, locals := 0 } : Room).slots) := by
  refine MetFree.of_bodySF (Jvm.Free.JP.mathPlain rfl (by decide +kernel)) hisR ?_
  intro p e s m args below meth c s₁ Bd hml0 hP hK
  obtain ⟨rfl, hZ, hh⟩ := hP
  have hx := Bd.exec
  have hby := Bd.bytes
  have hml : c.maxLocals = 2 := hml0
  have hown : s.vm.findClass "java/lang/Math" = some m.cls := findClass_of_methodNamed Bd.named
  have hnm := (name_of_methodNamed Bd.named Bd.method).1
  have X0 : Stand p l e ({ frames := 0, cells := 0, slots := 0, locals := 0 } : Room) s m #[(.int (10 : Int32)), (.int (2 : Int32))] below meth c s₁ [] 0 0 := Stand.of_body Bd
  have e0 : s₁.heap = h0 := by rw [← hh, Bd.state]; rfl
  have N0 := Fr.nil n0
  show OGot p.tables e below (s₁.setTop (entryFrame m #[(.int (10 : Int32)), (.int (2 : Int32))] 2)) _
  refine OGot.go (fun t k => castTop (ef23_1 m ) k) ?_
  show OGot p.tables e below (s₁.setTop (mkF m 0 #[.val (.int (10 : Int32)), .val (.int (2 : Int32))] [])) _
  refine OGot.go (fun t k => XS.iloadN X0.here hx rfl (hb hby d23_0) rfl k) ?_
  refine OGot.go (fun t k => XS.iloadN X0.here hx rfl (hb hby d23_1) rfl k) ?_
  refine OGot.go (fun t k => XS.icmpYes X0.here hx rfl (pc0 := 2) (pc' := 9) rfl (hb hby d23_2) rfl (by decide) (by decide) (by decide) k) ?_
  refine OGot.go (fun t k => XS.iloadN X0.here hx rfl (hb hby d23_9) rfl k) ?_
  show OGot p.tables e below (s₁.setTop (mkF m 10 #[.val (.int (10 : Int32)), .val (.int (2 : Int32))] [(.int (2 : Int32))])) _
  obtain ⟨fs, hr, hrun, hended, hW, hsame⟩ := X0.leave (v := some (.int (2 : Int32))) (fun h => by rw [Bd.returns] at h; cases h)
  refine ⟨_, _, retI X0 hx Bd.returns (hb hby d23_10) hr, hrun, hended, _, _, rfl, ?_, ⟨_, rfl⟩, hW, hsame.mono (by decide) (by decide)⟩
  exact (⟨rfl, N0, e0⟩ : Q23_1 Z m_OA w_EMPTY_ELEMENTDATA w_DEFAULTCAPACITY_EMPTY_ELEMENTDATA w_EMPTY_LIST w_EMPTY_LIST_elements w_EMPTY k_w_EMPTY_ELEMENTDATA k_w_DEFAULTCAPACITY_EMPTY_ELEMENTDATA k_w_EMPTY_LIST_elements  h0 n0 _ s₁.heap _)
def Q22_1 (Z : State) (m_OA : Addr) (w_EMPTY_ELEMENTDATA : Addr) (w_DEFAULTCAPACITY_EMPTY_ELEMENTDATA : Addr) (w_EMPTY_LIST : Addr) (w_EMPTY_LIST_elements : Addr) (w_EMPTY : Addr) (k_w_EMPTY_ELEMENTDATA : ClassId) (k_w_DEFAULTCAPACITY_EMPTY_ELEMENTDATA : ClassId) (k_w_EMPTY_LIST_elements : ClassId) (a1 : Addr) (k5 : ClassId) (a6 : Addr) (a7 : Addr) (h0 : Heap) (n0 : Nat) (v : Option Value) (h : Heap) (L : List Loc) : Prop := Fr n0 L ∧ ∃ b4 : Addr, ∃ k4 : ClassId, v = some (.ref b4) ∧ h0.size ≤ b4 ∧ OKeep h0 h [] ∧ Exa Z h b4 "[Ljava/lang/Object;" ∧ Arv Z h b4 k4 (.object "java/lang/Object") (2 : Int32) [(.ref a6), (.ref a7)] .null ∧ Ovr Z k4 "java/lang/Object"
theorem ef22_1 (m : MethodId) (x0 : Addr) (x2 : Addr) : entryFrame m #[(.ref x0), (.int (2 : Int32)), (.ref x2)] 4 = mkF m 0 #[.val (.ref x0), .val (.int (2 : Int32)), .val (.ref x2), .unset] [] := by first | (simp [entryFrame, mkF, argsToLocals, Value.category]; done) | rfl
set_option maxRecDepth 65536 in
set_option maxHeartbeats 40000000 in
theorem rm22_1 (l : Launch) (Z : State) (a0 : Array Value) (hw : ∀ d ∈ tables_1, d.before a0 Z = true) (ws : List Jvm.Cond) {m_OA : Addr} {w_EMPTY_ELEMENTDATA : Addr} {w_DEFAULTCAPACITY_EMPTY_ELEMENTDATA : Addr} {w_EMPTY_LIST : Addr} {w_EMPTY_LIST_elements : Addr} {w_EMPTY : Addr} {k_w_EMPTY_ELEMENTDATA : ClassId} {k_w_DEFAULTCAPACITY_EMPTY_ELEMENTDATA : ClassId} {k_w_EMPTY_LIST_elements : ClassId} (G : Glob Z m_OA w_EMPTY_ELEMENTDATA w_DEFAULTCAPACITY_EMPTY_ELEMENTDATA w_EMPTY_LIST w_EMPTY_LIST_elements w_EMPTY k_w_EMPTY_ELEMENTDATA k_w_DEFAULTCAPACITY_EMPTY_ELEMENTDATA k_w_EMPTY_LIST_elements) (a1 : Addr) (k5 : ClassId) (a6 : Addr) (a7 : Addr) (h0 : Heap) (n0 : Nat) (O0 : Old Z n0 h0) (V_a1 : Arv Z h0 a1 k5 (.object "java/lang/Object") (10 : Int32) [(.ref a6), (.ref a7), .null, .null, .null, .null, .null, .null, .null, .null] .null) (O_k5 : Ovr Z k5 "java/lang/Object") (E_a7 : Exa Z h0 a7 "com/example/curtail/curtail/Placement$Cell") (E_a6 : Exa Z h0 a6 "com/example/curtail/curtail/Placement$Cell") :
    MetFree l (⟨"java/util/Arrays", "copyOf", "([Ljava/lang/Object;ILjava/lang/Class;)[Ljava/lang/Object;"⟩ : MethodName) (head1 (Jvm.Cond.code (⟨"java/util/Arrays", "copyOf", "([Ljava/lang/Object;ILjava/lang/Class;)[Ljava/lang/Object;"⟩ : MethodName) jdk_65_method_120_code 4 (some (.array (.object "java/lang/Object"))) :: ws) ({ frames := 1, cells := 1, slots := 2, locals := 18 } : Room)) (fun a U => a = #[(.ref a1), (.int (2 : Int32)), (.ref m_OA)] ∧ Z.Warmed39 U.vm ∧ U.heap = h0) (fun _ _ _ _ _ => True) (fun _ U o U' => ∃ v L, o = .returned v ∧ Q22_1 Z m_OA w_EMPTY_ELEMENTDATA w_DEFAULTCAPACITY_EMPTY_ELEMENTDATA w_EMPTY_LIST w_EMPTY_LIST_elements w_EMPTY k_w_EMPTY_ELEMENTDATA k_w_DEFAULTCAPACITY_EMPTY_ELEMENTDATA k_w_EMPTY_LIST_elements a1 k5 a6 a7 h0 n0 v U'.heap L ∧ FrameEnd U o U' L ({ frames := 1, cells := 1, slots := 2, locals := 18 } : Room).cells ({ frames := 1, cells := 1, slots := 2, locals := 18 } : Room).slots) := by
  refine MetFree.of_bodySF (plainFor_of_name pn_java_util_Arrays) hisR ?_
  intro p e s m args below meth c s₁ Bd hml0 hP hK
  obtain ⟨rfl, hZ, hh⟩ := hP
  have hx := Bd.exec
  have hby := Bd.bytes
  have hml : c.maxLocals = 4 := hml0
  have hown : s.vm.findClass "java/util/Arrays" = some m.cls := findClass_of_methodNamed Bd.named
  have hnm := (name_of_methodNamed Bd.named Bd.method).1
  have X0 : Stand p l e ({ frames := 1, cells := 1, slots := 2, locals := 18 } : Room) s m #[(.ref a1), (.int (2 : Int32)), (.ref m_OA)] below meth c s₁ [] 0 0 := Stand.of_body Bd
  have e0 : s₁.heap = h0 := by rw [← hh, Bd.state]; rfl
  have N0 := Fr.nil n0
  show OGot p.tables e below (s₁.setTop (entryFrame m #[(.ref a1), (.int (2 : Int32)), (.ref m_OA)] 4)) _
  refine OGot.go (fun t k => castTop (ef22_1 m a1 m_OA) k) ?_
  show OGot p.tables e below (s₁.setTop (mkF m 0 #[.val (.ref a1), .val (.int (2 : Int32)), .val (.ref m_OA), .unset] [])) _
  refine OGot.go (fun t k => XS.aloadN X0.here hx rfl (hb hby d22_0) rfl rfl k) ?_
  obtain ⟨T3, X3, e3, st3⟩ := oldcM X0 hx hZ hown (ow hw 157 rfl) e0 G.1 (g := (mkF m 1 #[.val (.ref a1), .val (.int (2 : Int32)), .val (.ref m_OA), .unset] [(.ref m_OA)])) rfl (hb hby d22_1)
  refine OGot.go st3 ?_
  refine OGot.go (fun t k => Jvm.RoadKit.acmp (g := (mkF m 3 #[.val (.ref a1), .val (.int (2 : Int32)), .val (.ref m_OA), .unset] [(.ref m_OA), (.ref m_OA)])) X3 hx rfl rfl rfl (pc0 := 3) (pc' := 6) (same := true) rfl (hb hby d22_3) rfl (decide_eq_true rfl) (by decide) (by decide) k) ?_
  refine OGot.go (fun t k => XS.iloadN X3.here hx rfl (hb hby d22_6) rfl k) ?_
  obtain ⟨T4, h4, k4, X4, e4, E4, A4, Ea4, V4, st4⟩ := newRE X3 hx hZ hown (ow hw 158 rfl) (ow hw 134 rfl) e3 (g := (mkF m 7 #[.val (.ref a1), .val (.int (2 : Int32)), .val (.ref m_OA), .unset] [(.int (2 : Int32))])) rfl (hb hby d22_7) rfl (by decide) (cap := 2) (by decide) (by decide) (by decide) (by decide) (ad := "[Ljava/lang/Object;") (by decide)
  obtain ⟨b4, g4⟩ : ∃ z, z = h0.size := ⟨_, rfl⟩
  rw [← g4] at A4 Ea4 st4
  refine OGot.go st4 ?_
  have g_b4 : n0 ≤ b4 := Nat.le_trans (osz O0) (Nat.le_of_eq g4.symm)
  have sy_b4 : h0.size ≤ b4 := Nat.le_of_eq g4.symm
  have sz_b4 : h0.size ≤ b4 := Nat.le_trans (OKeep.refl h0 []).1 sy_b4
  have K4 := (OKeep.refl h0 []).ext E4
  have O4 := O0.ext E4
  have Va4 : Arv Z h4 b4 k4 (.object "java/lang/Object") (2 : Int32) [.null, .null] .null := (Arv.new A4 (by decide)).pad (pad_rep [] .null 2)
  show OGot p.tables e below (T4.setTop (mkF m 10 #[.val (.ref a1), .val (.int (2 : Int32)), .val (.ref m_OA), .unset] [(.ref b4)])) _
  refine OGot.go (fun t k => XS.goto X4.here hx rfl (pc0 := 10) (pc' := 24) rfl (hb hby d22_10) (by decide) (by decide) k) ?_
  refine OGot.go (fun t k => XS.astoreN X4.here hx rfl (hb hby d22_24) rfl rfl (l' := #[.val (.ref a1), .val (.int (2 : Int32)), .val (.ref m_OA), .val (.ref b4)]) rfl k) ?_
  refine OGot.go (fun t k => XS.aloadN X4.here hx rfl (hb hby d22_25) rfl rfl k) ?_
  refine OGot.go (fun t k => XS.iconst X4.here hx rfl (hb hby d22_26) k) ?_
  refine OGot.go (fun t k => XS.aloadN X4.here hx rfl (hb hby d22_27) rfl rfl k) ?_
  show OGot p.tables e below (T4.setTop (mkF m 28 #[.val (.ref a1), .val (.int (2 : Int32)), .val (.ref m_OA), .val (.ref b4)] [(.ref b4), (.int (0 : Int32)), (.ref a1)])) _
  refine OGot.go (fun t k => XS.iconst X4.here hx rfl (hb hby d22_28) k) ?_
  refine OGot.go (fun t k => XS.aloadN X4.here hx rfl (hb hby d22_29) rfl rfl k) ?_
  have F8 : Arv Z h4 a1 k5 (.object "java/lang/Object") (10 : Int32) [(.ref a6), (.ref a7), .null, .null, .null, .null, .null, .null, .null, .null] .null := (V_a1.ext E4)
  obtain ⟨cl9, Ar9, -, Sz9, Ng9, -, -⟩ := id (F8)
  refine OGot.go (fun t k => X4.arraylength hx (by rw [e4]; exact Ar9.1) (State.isArrayOf_alike hZ.alike Ar9.2.1) (g := (mkF m 30 #[.val (.ref a1), .val (.int (2 : Int32)), .val (.ref m_OA), .val (.ref b4)] [(.ref a1), (.int (0 : Int32)), (.ref b4), (.int (0 : Int32)), (.ref a1)])) rfl rfl (hb hby d22_30) _ k) ?_
  rw [len_of Sz9 Ng9]
  refine OGot.go (fun t k => XS.iloadN X4.here hx rfl (hb hby d22_31) rfl k) ?_
  obtain ⟨_, _, ⟨T10, L10, k10, n10⟩, -, X10, ⟨Lc10, hQ10, l10, y10, z10⟩, st10⟩ := Jvm.LawKit.callS X4 hx (y := (⟨"java/lang/Math", "min", "(II)I"⟩ : MethodName)) hown (mvT hZ (ow hw 159 rfl)) (mvT hZ (ow hw 160 rfl)) (mvT hZ (ow hw 131 rfl)) (mvT hZ (ow hw 161 rfl)) (by decide) (backOf (W := 4) (rm23_1 l Z a0 hw [] G  h4 n0 O4 ) hZ (ow hw 161 rfl) (ow hw 131 rfl) (by decide) (by decide)) (g := (mkF m 32 #[.val (.ref a1), .val (.int (2 : Int32)), .val (.ref m_OA), .val (.ref b4)] [(.int (2 : Int32)), (.int (10 : Int32)), (.int (0 : Int32)), (.ref b4), (.int (0 : Int32)), (.ref a1)])) rfl (by rw [hml]; rfl) (argsL := [(.int (10 : Int32)), (.int (2 : Int32))]) (rest := [(.int (0 : Int32)), (.ref b4), (.int (0 : Int32)), (.ref a1)]) (lenOf pd_7 rfl) rfl (by show 2 * 0 + _ ≤ _; exact Nat.le_of_eq rfl) (hb hby d22_32) (fun _ _ => ⟨rfl, e4, (by decide : 1 + 0 ≤ _), (by decide : 2 + 0 ≤ _)⟩)
  dsimp only [Pt.U, Pt.locs, Pt.cells, Pt.slots] at X10 l10 y10 z10 st10 hQ10
  subst l10 y10 z10
  obtain ⟨rfl, N10q, e10⟩ := hQ10
  have N10 := Fr.app N0 N10q
  refine OGot.go st10 ?_
  show OGot p.tables e below (T10.setTop (mkF m 35 #[.val (.ref a1), .val (.int (2 : Int32)), .val (.ref m_OA), .val (.ref b4)] [(.int (2 : Int32)), (.int (0 : Int32)), (.ref b4), (.int (0 : Int32)), (.ref a1)])) _
  obtain ⟨cb11, Ab11, qb11, -, -, -, -⟩ := id (Va4)
  obtain ⟨T11, h11, L11, X11, e11, N11, Kl11, Vc11, st11⟩ := cpA X10 hx hZ hown (ow hw 162 rfl) (ow hw 165 rfl) (ow hw 163 rfl) (ow hw 164 rfl) e10 F8 Va4 (us := [(.ref a6), (.ref a7)]) (Or.inr ⟨rfl, rfl, ⟨Sto.ofV Ab11 qb11 V4 (Ins.of_exa (E_a6.ext E4) (ow hw 135 rfl)), ⟨Sto.ofV Ab11 qb11 V4 (Ins.of_exa (E_a7.ext E4) (ow hw 135 rfl)), trivial⟩⟩⟩) (sp := (0 : Int32)) (dp := (0 : Int32)) (nn := (2 : Int32)) (by decide) (by decide) (by decide) (by decide) (by decide) rfl (by decide) N10 g_b4 (g := (mkF m 35 #[.val (.ref a1), .val (.int (2 : Int32)), .val (.ref m_OA), .val (.ref b4)] [(.int (2 : Int32)), (.int (0 : Int32)), (.ref b4), (.int (0 : Int32)), (.ref a1)])) rfl (by rw [hml]; rfl) rfl (hb hby d22_35) (by decide) (W := 0) (by show 2 * 0 + _ ≤ _; exact Nat.le_of_eq rfl) (by decide)
  refine OGot.go st11 ?_
  have O11 := O4.keep Kl11 (allS g_b4 all0)
  have K11 := OKeep.keepf K4 Kl11 sz_b4
  have Vd11 : Arv Z h11 b4 k4 (.object "java/lang/Object") (2 : Int32) [(.ref a6), (.ref a7)] .null := Vc11
  refine OGot.go (fun t k => XS.aloadN X11.here hx rfl (hb hby d22_38) rfl rfl k) ?_
  show OGot p.tables e below (T11.setTop (mkF m 39 #[.val (.ref a1), .val (.int (2 : Int32)), .val (.ref m_OA), .val (.ref b4)] [(.ref b4)])) _
  obtain ⟨fs, hr, hrun, hended, hW, hsame⟩ := X11.leave (v := some (.ref b4)) (fun h => by rw [Bd.returns] at h; cases h)
  refine ⟨_, _, oretA X11 hx Bd.returns rfl rfl (hb hby d22_39) hr, hrun, hended, _, _, rfl, ?_, ⟨_, rfl⟩, hW, hsame.mono (by decide) (by decide)⟩
  show Q22_1 Z m_OA w_EMPTY_ELEMENTDATA w_DEFAULTCAPACITY_EMPTY_ELEMENTDATA w_EMPTY_LIST w_EMPTY_LIST_elements w_EMPTY k_w_EMPTY_ELEMENTDATA k_w_DEFAULTCAPACITY_EMPTY_ELEMENTDATA k_w_EMPTY_LIST_elements a1 k5 a6 a7 h0 n0 _ T11.heap _
  rw [e11]
  exact ⟨N11, b4, k4, rfl, sz_b4, K11, (Ea4.keep Kl11), Vd11, V4⟩
def Q21_1 (Z : State) (m_OA : Addr) (w_EMPTY_ELEMENTDATA : Addr) (w_DEFAULTCAPACITY_EMPTY_ELEMENTDATA : Addr) (w_EMPTY_LIST : Addr) (w_EMPTY_LIST_elements : Addr) (w_EMPTY : Addr) (k_w_EMPTY_ELEMENTDATA : ClassId) (k_w_DEFAULTCAPACITY_EMPTY_ELEMENTDATA : ClassId) (k_w_EMPTY_LIST_elements : ClassId) (a1 : Addr) (k3 : ClassId) (a4 : Addr) (a5 : Addr) (h0 : Heap) (n0 : Nat) (v : Option Value) (h : Heap) (L : List Loc) : Prop := Fr n0 L ∧ ∃ b4_6 : Addr, ∃ k4_6 : ClassId, v = some (.ref b4_6) ∧ h0.size ≤ b4_6 ∧ OKeep h0 h [] ∧ Exa Z h b4_6 "[Ljava/lang/Object;" ∧ Arv Z h b4_6 k4_6 (.object "java/lang/Object") (2 : Int32) [(.ref a4), (.ref a5)] .null ∧ Ovr Z k4_6 "java/lang/Object"
theorem ef21_1 (m : MethodId) (x0 : Addr) : entryFrame m #[(.ref x0), (.int (2 : Int32))] 2 = mkF m 0 #[.val (.ref x0), .val (.int (2 : Int32))] [] := by first | (simp [entryFrame, mkF, argsToLocals, Value.category]; done) | rfl
set_option maxRecDepth 65536 in
set_option maxHeartbeats 40000000 in
theorem rm21_1 (l : Launch) (Z : State) (a0 : Array Value) (hw : ∀ d ∈ tables_1, d.before a0 Z = true) (ws : List Jvm.Cond) {m_OA : Addr} {w_EMPTY_ELEMENTDATA : Addr} {w_DEFAULTCAPACITY_EMPTY_ELEMENTDATA : Addr} {w_EMPTY_LIST : Addr} {w_EMPTY_LIST_elements : Addr} {w_EMPTY : Addr} {k_w_EMPTY_ELEMENTDATA : ClassId} {k_w_DEFAULTCAPACITY_EMPTY_ELEMENTDATA : ClassId} {k_w_EMPTY_LIST_elements : ClassId} (G : Glob Z m_OA w_EMPTY_ELEMENTDATA w_DEFAULTCAPACITY_EMPTY_ELEMENTDATA w_EMPTY_LIST w_EMPTY_LIST_elements w_EMPTY k_w_EMPTY_ELEMENTDATA k_w_DEFAULTCAPACITY_EMPTY_ELEMENTDATA k_w_EMPTY_LIST_elements) (a1 : Addr) (k3 : ClassId) (a4 : Addr) (a5 : Addr) (h0 : Heap) (n0 : Nat) (O0 : Old Z n0 h0) (E_a1 : Exa Z h0 a1 "[Ljava/lang/Object;") (V_a1 : Arv Z h0 a1 k3 (.object "java/lang/Object") (10 : Int32) [(.ref a4), (.ref a5), .null, .null, .null, .null, .null, .null, .null, .null] .null) (O_k3 : Ovr Z k3 "java/lang/Object") (E_a5 : Exa Z h0 a5 "com/example/curtail/curtail/Placement$Cell") (E_a4 : Exa Z h0 a4 "com/example/curtail/curtail/Placement$Cell") :
    MetFree l (⟨"java/util/Arrays", "copyOf", "([Ljava/lang/Object;I)[Ljava/lang/Object;"⟩ : MethodName) (head1 (Jvm.Cond.code (⟨"java/util/Arrays", "copyOf", "([Ljava/lang/Object;I)[Ljava/lang/Object;"⟩ : MethodName) jdk_65_method_119_code 2 (some (.array (.object "java/lang/Object"))) :: ws) ({ frames := 2, cells := 1, slots := 2, locals := 33 } : Room)) (fun a U => a = #[(.ref a1), (.int (2 : Int32))] ∧ Z.Warmed39 U.vm ∧ U.heap = h0) (fun _ _ _ _ _ => True) (fun _ U o U' => ∃ v L, o = .returned v ∧ Q21_1 Z m_OA w_EMPTY_ELEMENTDATA w_DEFAULTCAPACITY_EMPTY_ELEMENTDATA w_EMPTY_LIST w_EMPTY_LIST_elements w_EMPTY k_w_EMPTY_ELEMENTDATA k_w_DEFAULTCAPACITY_EMPTY_ELEMENTDATA k_w_EMPTY_LIST_elements a1 k3 a4 a5 h0 n0 v U'.heap L ∧ FrameEnd U o U' L ({ frames := 2, cells := 1, slots := 2, locals := 33 } : Room).cells ({ frames := 2, cells := 1, slots := 2, locals := 33 } : Room).slots) := by
  refine MetFree.of_bodySF (plainFor_of_name pn_java_util_Arrays) hisR ?_
  intro p e s m args below meth c s₁ Bd hml0 hP hK
  obtain ⟨rfl, hZ, hh⟩ := hP
  have hx := Bd.exec
  have hby := Bd.bytes
  have hml : c.maxLocals = 2 := hml0
  have hown : s.vm.findClass "java/util/Arrays" = some m.cls := findClass_of_methodNamed Bd.named
  have hnm := (name_of_methodNamed Bd.named Bd.method).1
  have X0 : Stand p l e ({ frames := 2, cells := 1, slots := 2, locals := 33 } : Room) s m #[(.ref a1), (.int (2 : Int32))] below meth c s₁ [] 0 0 := Stand.of_body Bd
  have e0 : s₁.heap = h0 := by rw [← hh, Bd.state]; rfl
  have N0 := Fr.nil n0
  show OGot p.tables e below (s₁.setTop (entryFrame m #[(.ref a1), (.int (2 : Int32))] 2)) _
  refine OGot.go (fun t k => castTop (ef21_1 m a1) k) ?_
  show OGot p.tables e below (s₁.setTop (mkF m 0 #[.val (.ref a1), .val (.int (2 : Int32))] [])) _
  refine OGot.go (fun t k => XS.aloadN X0.here hx rfl (hb hby d21_0) rfl rfl k) ?_
  refine OGot.go (fun t k => XS.iloadN X0.here hx rfl (hb hby d21_1) rfl k) ?_
  refine OGot.go (fun t k => XS.aloadN X0.here hx rfl (hb hby d21_2) rfl rfl k) ?_
  obtain ⟨T2, X2, e2, st2⟩ := ogcls X0 hx hZ hown (ow hw 148 rfl) (ow hw 149 rfl) (ow hw 50 rfl) (ow hw 151 rfl) (ow hw 150 rfl) (ow hw 152 rfl) e0 E_a1 G.1 (g := (mkF m 3 #[.val (.ref a1), .val (.int (2 : Int32))] [(.ref a1), (.int (2 : Int32)), (.ref a1)])) rfl (by rw [hml]; rfl) rfl (hb hby d21_3) (by decide) (W := 2) (by show 2 * 0 + _ ≤ _; exact Nat.le_of_eq rfl) (by decide)
  refine OGot.go st2 ?_
  obtain ⟨_, _, ⟨T6, L6, k6, n6⟩, -, X6, ⟨Lc6, hQ6, l6, y6, z6⟩, st6⟩ := Jvm.LawKit.callS X2 hx (y := (⟨"java/util/Arrays", "copyOf", "([Ljava/lang/Object;ILjava/lang/Class;)[Ljava/lang/Object;"⟩ : MethodName)) hown (mvT hZ (ow hw 154 rfl)) (mvT hZ (ow hw 155 rfl)) (mvT hZ (ow hw 146 rfl)) (mvT hZ (ow hw 156 rfl)) (by decide) (backOf (W := 0) (rm22_1 l Z a0 hw [] G a1 k3 a4 a5 h0 n0 O0 V_a1 O_k3 E_a5 E_a4) hZ (ow hw 156 rfl) (ow hw 146 rfl) (by decide) (by decide)) (g := (mkF m 6 #[.val (.ref a1), .val (.int (2 : Int32))] [(.ref m_OA), (.int (2 : Int32)), (.ref a1)])) rfl (by rw [hml]; rfl) (argsL := [(.ref a1), (.int (2 : Int32)), (.ref m_OA)]) (rest := []) (lenOf pd_12 rfl) rfl (by show 2 * 0 + _ ≤ _; exact Nat.le_of_eq rfl) (hb hby d21_6) (fun _ _ => ⟨rfl, e2, (by decide : 0 + 1 ≤ _), (by decide : 0 + 2 ≤ _)⟩)
  dsimp only [Pt.U, Pt.locs, Pt.cells, Pt.slots] at X6 l6 y6 z6 st6 hQ6
  subst l6 y6 z6
  obtain ⟨N6q, b4_6, k4_6, rfl, szb4_6_6, K6, Fo6_0, Fo6_1, Fo6_2⟩ := hQ6
  have g_b4_6 : n0 ≤ b4_6 := Nat.le_trans (osz O0) szb4_6_6
  have sz_b4_6 : h0.size ≤ b4_6 := Nat.le_trans (OKeep.refl h0 []).1 szb4_6_6
  have Kc6 := (OKeep.refl h0 []).trans K6 oin0
  have O6 := OKeep.old O0 K6 oge0
  have N6 := Fr.app N0 N6q
  refine OGot.go st6 ?_
  show OGot p.tables e below (T6.setTop (mkF m 9 #[.val (.ref a1), .val (.int (2 : Int32))] [(.ref b4_6)])) _
  obtain ⟨fs, hr, hrun, hended, hW, hsame⟩ := X6.leave (v := some (.ref b4_6)) (fun h => by rw [Bd.returns] at h; cases h)
  refine ⟨_, _, oretA X6 hx Bd.returns rfl rfl (hb hby d21_9) hr, hrun, hended, _, _, rfl, ?_, ⟨_, rfl⟩, hW, hsame.mono (by decide) (by decide)⟩
  show Q21_1 Z m_OA w_EMPTY_ELEMENTDATA w_DEFAULTCAPACITY_EMPTY_ELEMENTDATA w_EMPTY_LIST w_EMPTY_LIST_elements w_EMPTY k_w_EMPTY_ELEMENTDATA k_w_DEFAULTCAPACITY_EMPTY_ELEMENTDATA k_w_EMPTY_LIST_elements a1 k3 a4 a5 h0 n0 _ T6.heap _
  exact ⟨N6, b4_6, k4_6, rfl, sz_b4_6, Kc6, Fo6_0, Fo6_1, Fo6_2⟩
def Q20_1 (Z : State) (m_OA : Addr) (w_EMPTY_ELEMENTDATA : Addr) (w_DEFAULTCAPACITY_EMPTY_ELEMENTDATA : Addr) (w_EMPTY_LIST : Addr) (w_EMPTY_LIST_elements : Addr) (w_EMPTY : Addr) (k_w_EMPTY_ELEMENTDATA : ClassId) (k_w_DEFAULTCAPACITY_EMPTY_ELEMENTDATA : ClassId) (k_w_EMPTY_LIST_elements : ClassId) (a1 : Addr) (a2 : Addr) (k5 : ClassId) (a6 : Addr) (a7 : Addr) (h0 : Heap) (n0 : Nat) (v : Option Value) (h : Heap) (L : List Loc) : Prop := Fr n0 L ∧ ∃ b4_6_8 : Addr, ∃ k4_6_8 : ClassId, v = some (.ref b4_6_8) ∧ h0.size ≤ b4_6_8 ∧ OKeep h0 h [] ∧ Exa Z h b4_6_8 "[Ljava/lang/Object;" ∧ Arv Z h b4_6_8 k4_6_8 (.object "java/lang/Object") (2 : Int32) [(.ref a6), (.ref a7)] .null ∧ Ovr Z k4_6_8 "java/lang/Object"
theorem ef20_1 (m : MethodId) (x0 : Addr) : entryFrame m #[(.ref x0)] 1 = mkF m 0 #[.val (.ref x0)] [] := by first | (simp [entryFrame, mkF, argsToLocals, Value.category]; done) | rfl
set_option maxRecDepth 65536 in
set_option maxHeartbeats 40000000 in
theorem rm20_1 (l : Launch) (Z : State) (a0 : Array Value) (hw : ∀ d ∈ tables_1, d.before a0 Z = true) (ws : List Jvm.Cond) {m_OA : Addr} {w_EMPTY_ELEMENTDATA : Addr} {w_DEFAULTCAPACITY_EMPTY_ELEMENTDATA : Addr} {w_EMPTY_LIST : Addr} {w_EMPTY_LIST_elements : Addr} {w_EMPTY : Addr} {k_w_EMPTY_ELEMENTDATA : ClassId} {k_w_DEFAULTCAPACITY_EMPTY_ELEMENTDATA : ClassId} {k_w_EMPTY_LIST_elements : ClassId} (G : Glob Z m_OA w_EMPTY_ELEMENTDATA w_DEFAULTCAPACITY_EMPTY_ELEMENTDATA w_EMPTY_LIST w_EMPTY_LIST_elements w_EMPTY k_w_EMPTY_ELEMENTDATA k_w_DEFAULTCAPACITY_EMPTY_ELEMENTDATA k_w_EMPTY_LIST_elements) (a1 : Addr) (a2 : Addr) (k5 : ClassId) (a6 : Addr) (a7 : Addr) (h0 : Heap) (n0 : Nat) (O0 : Old Z n0 h0) (F_elementData_a1 : Fld Z h0 a1 "java/util/ArrayList" "elementData" "[Ljava/lang/Object;" (.ref a2)) (F_size_a1 : Fld Z h0 a1 "java/util/ArrayList" "size" "I" (.int (2 : Int32))) (E_a2 : Exa Z h0 a2 "[Ljava/lang/Object;") (V_a2 : Arv Z h0 a2 k5 (.object "java/lang/Object") (10 : Int32) [(.ref a6), (.ref a7), .null, .null, .null, .null, .null, .null, .null, .null] .null) (O_k5 : Ovr Z k5 "java/lang/Object") (E_a7 : Exa Z h0 a7 "com/example/curtail/curtail/Placement$Cell") (E_a6 : Exa Z h0 a6 "com/example/curtail/curtail/Placement$Cell") :
    MetFree l (⟨"java/util/ArrayList", "toArray", "()[Ljava/lang/Object;"⟩ : MethodName) (head1 (Jvm.Cond.code (⟨"java/util/ArrayList", "toArray", "()[Ljava/lang/Object;"⟩ : MethodName) jdk_38_method_16_code 1 (some (.array (.object "java/lang/Object"))) :: ws) ({ frames := 3, cells := 1, slots := 2, locals := 46 } : Room)) (fun a U => a = #[(.ref a1)] ∧ Z.Warmed39 U.vm ∧ U.heap = h0) (fun _ _ _ _ _ => True) (fun _ U o U' => ∃ v L, o = .returned v ∧ Q20_1 Z m_OA w_EMPTY_ELEMENTDATA w_DEFAULTCAPACITY_EMPTY_ELEMENTDATA w_EMPTY_LIST w_EMPTY_LIST_elements w_EMPTY k_w_EMPTY_ELEMENTDATA k_w_DEFAULTCAPACITY_EMPTY_ELEMENTDATA k_w_EMPTY_LIST_elements a1 a2 k5 a6 a7 h0 n0 v U'.heap L ∧ FrameEnd U o U' L ({ frames := 3, cells := 1, slots := 2, locals := 46 } : Room).cells ({ frames := 3, cells := 1, slots := 2, locals := 46 } : Room).slots) := by
  refine MetFree.of_bodySF (plainFor_of_name pn_java_util_ArrayList) hisR ?_
  intro p e s m args below meth c s₁ Bd hml0 hP hK
  obtain ⟨rfl, hZ, hh⟩ := hP
  have hx := Bd.exec
  have hby := Bd.bytes
  have hml : c.maxLocals = 1 := hml0
  have hown : s.vm.findClass "java/util/ArrayList" = some m.cls := findClass_of_methodNamed Bd.named
  have hnm := (name_of_methodNamed Bd.named Bd.method).1
  have X0 : Stand p l e ({ frames := 3, cells := 1, slots := 2, locals := 46 } : Room) s m #[(.ref a1)] below meth c s₁ [] 0 0 := Stand.of_body Bd
  have e0 : s₁.heap = h0 := by rw [← hh, Bd.state]; rfl
  have N0 := Fr.nil n0
  show OGot p.tables e below (s₁.setTop (entryFrame m #[(.ref a1)] 1)) _
  refine OGot.go (fun t k => castTop (ef20_1 m a1) k) ?_
  show OGot p.tables e below (s₁.setTop (mkF m 0 #[.val (.ref a1)] [])) _
  refine OGot.go (fun t k => XS.aloadN X0.here hx rfl (hb hby d20_0) rfl rfl k) ?_
  obtain ⟨T3, X3, e3, st3⟩ := getF X0 hx hZ hown (host := "") (Or.inl (ow hw 27 rfl)) Via.refl e0 F_elementData_a1 (g := (mkF m 1 #[.val (.ref a1)] [(.ref a1)])) rfl rfl (hb hby d20_1)
  refine OGot.go st3 ?_
  refine OGot.go (fun t k => XS.aloadN X3.here hx rfl (hb hby d20_4) rfl rfl k) ?_
  obtain ⟨T4, X4, e4, st4⟩ := getF X3 hx hZ hown (host := "") (Or.inl (ow hw 61 rfl)) Via.refl e3 F_size_a1 (g := (mkF m 5 #[.val (.ref a1)] [(.ref a1), (.ref a2)])) rfl rfl (hb hby d20_5)
  refine OGot.go st4 ?_
  obtain ⟨_, _, ⟨T8, L8, k8, n8⟩, -, X8, ⟨Lc8, hQ8, l8, y8, z8⟩, st8⟩ := Jvm.LawKit.callS X4 hx (y := (⟨"java/util/Arrays", "copyOf", "([Ljava/lang/Object;I)[Ljava/lang/Object;"⟩ : MethodName)) hown (mvT hZ (ow hw 144 rfl)) (mvT hZ (ow hw 145 rfl)) (mvT hZ (ow hw 146 rfl)) (mvT hZ (ow hw 147 rfl)) (by decide) (backOf (W := 0) (rm21_1 l Z a0 hw [] G a2 k5 a6 a7 h0 n0 O0 E_a2 V_a2 O_k5 E_a7 E_a6) hZ (ow hw 147 rfl) (ow hw 146 rfl) (by decide) (by decide)) (g := (mkF m 8 #[.val (.ref a1)] [(.int (2 : Int32)), (.ref a2)])) rfl (by rw [hml]; rfl) (argsL := [(.ref a2), (.int (2 : Int32))]) (rest := []) (lenOf pd_13 rfl) rfl (by show 2 * 0 + _ ≤ _; exact Nat.le_of_eq rfl) (hb hby d20_8) (fun _ _ => ⟨rfl, e4, (by decide : 0 + 1 ≤ _), (by decide : 0 + 2 ≤ _)⟩)
  dsimp only [Pt.U, Pt.locs, Pt.cells, Pt.slots] at X8 l8 y8 z8 st8 hQ8
  subst l8 y8 z8
  obtain ⟨N8q, b4_6_8, k4_6_8, rfl, szb4_6_8_8, K8, Fo8_0, Fo8_1, Fo8_2⟩ := hQ8
  have g_b4_6_8 : n0 ≤ b4_6_8 := Nat.le_trans (osz O0) szb4_6_8_8
  have sz_b4_6_8 : h0.size ≤ b4_6_8 := Nat.le_trans (OKeep.refl h0 []).1 szb4_6_8_8
  have Kc8 := (OKeep.refl h0 []).trans K8 oin0
  have O8 := OKeep.old O0 K8 oge0
  have N8 := Fr.app N0 N8q
  refine OGot.go st8 ?_
  show OGot p.tables e below (T8.setTop (mkF m 11 #[.val (.ref a1)] [(.ref b4_6_8)])) _
  obtain ⟨fs, hr, hrun, hended, hW, hsame⟩ := X8.leave (v := some (.ref b4_6_8)) (fun h => by rw [Bd.returns] at h; cases h)
  refine ⟨_, _, oretA X8 hx Bd.returns rfl rfl (hb hby d20_11) hr, hrun, hended, _, _, rfl, ?_, ⟨_, rfl⟩, hW, hsame.mono (by decide) (by decide)⟩
  show Q20_1 Z m_OA w_EMPTY_ELEMENTDATA w_DEFAULTCAPACITY_EMPTY_ELEMENTDATA w_EMPTY_LIST w_EMPTY_LIST_elements w_EMPTY k_w_EMPTY_ELEMENTDATA k_w_DEFAULTCAPACITY_EMPTY_ELEMENTDATA k_w_EMPTY_LIST_elements a1 a2 k5 a6 a7 h0 n0 _ T8.heap _
  exact ⟨N8, b4_6_8, k4_6_8, rfl, sz_b4_6_8, Kc8, Fo8_0, Fo8_1, Fo8_2⟩
theorem d24_45 : decode jdk_40_method_47_code 45 = .ok (.new 96, 3) := by decide +kernel
theorem d24_48 : decode jdk_40_method_47_code 48 = .ok (.dup, 1) := by decide +kernel
theorem d24_49 : decode jdk_40_method_47_code 49 = .ok (.aload_n 0, 1) := by decide +kernel
theorem d24_50 : decode jdk_40_method_47_code 50 = .ok (.iconst 0, 1) := by decide +kernel
theorem d24_51 : decode jdk_40_method_47_code 51 = .ok (.aaload, 1) := by decide +kernel
theorem d24_52 : decode jdk_40_method_47_code 52 = .ok (.aload_n 0, 1) := by decide +kernel
theorem d24_53 : decode jdk_40_method_47_code 53 = .ok (.iconst 1, 1) := by decide +kernel
theorem d24_54 : decode jdk_40_method_47_code 54 = .ok (.aaload, 1) := by decide +kernel
theorem d24_55 : decode jdk_40_method_47_code 55 = .ok (.invokespecial 100, 3) := by decide +kernel
theorem d33_0 : decode jdk_44_method_2_code 0 = .ok (.aload_n 0, 1) := by decide +kernel
theorem d33_1 : decode jdk_44_method_2_code 1 = .ok (.invokespecial 1, 3) := by decide +kernel
theorem d33_4 : decode jdk_44_method_2_code 4 = .ok (.aload_n 0, 1) := by decide +kernel
theorem d33_5 : decode jdk_44_method_2_code 5 = .ok (.aload_n 1, 1) := by decide +kernel
theorem d33_6 : decode jdk_44_method_2_code 6 = .ok (.invokestatic 7, 3) := by decide +kernel
theorem d33_9 : decode jdk_44_method_2_code 9 = .ok (.putfield 13, 3) := by decide +kernel
theorem d33_12 : decode jdk_44_method_2_code 12 = .ok (.aload_n 0, 1) := by decide +kernel
theorem d33_13 : decode jdk_44_method_2_code 13 = .ok (.aload_n 2, 1) := by decide +kernel
theorem d33_14 : decode jdk_44_method_2_code 14 = .ok (.invokestatic 7, 3) := by decide +kernel
theorem d33_17 : decode jdk_44_method_2_code 17 = .ok (.putfield 24, 3) := by decide +kernel
theorem d33_20 : decode jdk_44_method_2_code 20 = .ok (.return_, 1) := by decide +kernel
def Q33 (Z : State) (m_OA : Addr) (w_EMPTY_ELEMENTDATA : Addr) (w_DEFAULTCAPACITY_EMPTY_ELEMENTDATA : Addr) (w_EMPTY_LIST : Addr) (w_EMPTY_LIST_elements : Addr) (w_EMPTY : Addr) (k_w_EMPTY_ELEMENTDATA : ClassId) (k_w_DEFAULTCAPACITY_EMPTY_ELEMENTDATA : ClassId) (k_w_EMPTY_LIST_elements : ClassId) (a1 : Addr) (a2 : Addr) (a3 : Addr) (h0 : Heap) (n0 : Nat) (v : Option Value) (h : Heap) (L : List Loc) : Prop := Fr n0 L ∧ v = none ∧ OKeep h0 h [(a1, Jvm.RoadKit.slotOf Z "java/util/ImmutableCollections$List12" "e0" "Ljava/lang/Object;"), (a1, Jvm.RoadKit.slotOf Z "java/util/ImmutableCollections$List12" "e1" "Ljava/lang/Object;")] ∧ Fld Z h a1 "java/util/ImmutableCollections$List12" "e0" "Ljava/lang/Object;" (.ref a2) ∧ Fld Z h a1 "java/util/ImmutableCollections$List12" "e1" "Ljava/lang/Object;" (.ref a3)
theorem ef33 (m : MethodId) (x0 : Addr) (x1 : Addr) (x2 : Addr) : entryFrame m #[(.ref x0), (.ref x1), (.ref x2)] 3 = mkF m 0 #[.val (.ref x0), .val (.ref x1), .val (.ref x2)] [] := by first | (simp [entryFrame, mkF, argsToLocals, Value.category]; done) | rfl
set_option maxRecDepth 65536 in
set_option maxHeartbeats 40000000 in
theorem rm33 (l : Launch) (Z : State) (a0 : Array Value) (hw : ∀ d ∈ tables_1, d.before a0 Z = true) (ws : List Jvm.Cond) {m_OA : Addr} {w_EMPTY_ELEMENTDATA : Addr} {w_DEFAULTCAPACITY_EMPTY_ELEMENTDATA : Addr} {w_EMPTY_LIST : Addr} {w_EMPTY_LIST_elements : Addr} {w_EMPTY : Addr} {k_w_EMPTY_ELEMENTDATA : ClassId} {k_w_DEFAULTCAPACITY_EMPTY_ELEMENTDATA : ClassId} {k_w_EMPTY_LIST_elements : ClassId} (G : Glob Z m_OA w_EMPTY_ELEMENTDATA w_DEFAULTCAPACITY_EMPTY_ELEMENTDATA w_EMPTY_LIST w_EMPTY_LIST_elements w_EMPTY k_w_EMPTY_ELEMENTDATA k_w_DEFAULTCAPACITY_EMPTY_ELEMENTDATA k_w_EMPTY_LIST_elements) (a1 : Addr) (a2 : Addr) (a3 : Addr) (h0 : Heap) (n0 : Nat) (O0 : Old Z n0 h0) (E_a1 : Exa Z h0 a1 "java/util/ImmutableCollections$List12") (F_e0_a1 : Fld Z h0 a1 "java/util/ImmutableCollections$List12" "e0" "Ljava/lang/Object;" .null) (g_a1 : n0 ≤ a1) (F_e1_a1 : Fld Z h0 a1 "java/util/ImmutableCollections$List12" "e1" "Ljava/lang/Object;" .null) :
    MetFree l (⟨"java/util/ImmutableCollections$List12", "<init>", "(Ljava/lang/Object;Ljava/lang/Object;)V"⟩ : MethodName) (head1 (Jvm.Cond.code (⟨"java/util/ImmutableCollections$List12", "<init>", "(Ljava/lang/Object;Ljava/lang/Object;)V"⟩ : MethodName) jdk_44_method_2_code 3 none :: ws) ({ frames := 4, cells := 0, slots := 0, locals := 48 } : Room)) (fun a U => a = #[(.ref a1), (.ref a2), (.ref a3)] ∧ Z.Warmed39 U.vm ∧ U.heap = h0) (fun _ _ _ _ _ => True) (fun _ U o U' => ∃ v L, o = .returned v ∧ Q33 Z m_OA w_EMPTY_ELEMENTDATA w_DEFAULTCAPACITY_EMPTY_ELEMENTDATA w_EMPTY_LIST w_EMPTY_LIST_elements w_EMPTY k_w_EMPTY_ELEMENTDATA k_w_DEFAULTCAPACITY_EMPTY_ELEMENTDATA k_w_EMPTY_LIST_elements a1 a2 a3 h0 n0 v U'.heap L ∧ FrameEnd U o U' L ({ frames := 4, cells := 0, slots := 0, locals := 48 } : Room).cells ({ frames := 4, cells := 0, slots := 0, locals := 48 } : Room).slots) := by
  refine MetFree.of_bodySF (plainFor_of_name pn_java_util_ImmutableCollections_List12) hisR ?_
  intro p e s m args below meth c s₁ Bd hml0 hP hK
  obtain ⟨rfl, hZ, hh⟩ := hP
  have hx := Bd.exec
  have hby := Bd.bytes
  have hml : c.maxLocals = 3 := hml0
  have hown : s.vm.findClass "java/util/ImmutableCollections$List12" = some m.cls := findClass_of_methodNamed Bd.named
  have hnm := (name_of_methodNamed Bd.named Bd.method).1
  have X0 : Stand p l e ({ frames := 4, cells := 0, slots := 0, locals := 48 } : Room) s m #[(.ref a1), (.ref a2), (.ref a3)] below meth c s₁ [] 0 0 := Stand.of_body Bd
  have e0 : s₁.heap = h0 := by rw [← hh, Bd.state]; rfl
  have N0 := Fr.nil n0
  show OGot p.tables e below (s₁.setTop (entryFrame m #[(.ref a1), (.ref a2), (.ref a3)] 3)) _
  refine OGot.go (fun t k => castTop (ef33 m a1 a2 a3) k) ?_
  show OGot p.tables e below (s₁.setTop (mkF m 0 #[.val (.ref a1), .val (.ref a2), .val (.ref a3)] [])) _
  refine OGot.go (fun t k => XS.aloadN X0.here hx rfl (hb hby d33_0) rfl rfl k) ?_
  obtain ⟨_, _, ⟨T4, L4, k4, n4⟩, -, X4, ⟨Lc4, hQ4, l4, y4, z4⟩, st4⟩ := X0.specialBack hx (y := (⟨"java/util/ImmutableCollections$AbstractImmutableList", "<init>", "()V"⟩ : MethodName)) rfl hown (mvT hZ (ow hw 225 rfl)) (mvT hZ (ow hw 183 rfl)) (mvT hZ (ow hw 187 rfl)) (by decide) (backOf (W := 0) (rm28 l Z a0 hw [] G a1 h0 n0 O0 ) hZ (ow hw 187 rfl) (ow hw 186 rfl) (by decide) (by decide)) (g := (mkF m 1 #[.val (.ref a1), .val (.ref a2), .val (.ref a3)] [(.ref a1)])) rfl (by rw [hml]; rfl) (Steps.refl _) (a := a1) (argsL := []) (rest := []) (lenOf pd_0 rfl) rfl (by show 2 * 0 + _ ≤ _; exact Nat.le_of_eq rfl) (hb hby d33_1) (fun _ _ => ⟨rfl, e0, (by decide : 0 + 0 ≤ _), (by decide : 0 + 0 ≤ _)⟩)
  dsimp only [Pt.U, Pt.locs, Pt.cells, Pt.slots] at X4 l4 y4 z4 st4 hQ4
  subst l4 y4 z4
  obtain ⟨rfl, N4q, e4⟩ := hQ4
  have N4 := Fr.app N0 N4q
  refine OGot.on st4 ?_
  refine OGot.go (fun t k => XS.aloadN X4.here hx rfl (hb hby d33_4) rfl rfl k) ?_
  refine OGot.go (fun t k => XS.aloadN X4.here hx rfl (hb hby d33_5) rfl rfl k) ?_
  obtain ⟨_, _, ⟨T5, L5, k5, n5⟩, -, X5, ⟨Lc5, hQ5, l5, y5, z5⟩, st5⟩ := Jvm.LawKit.callS X4 hx (y := (⟨"java/util/Objects", "requireNonNull", "(Ljava/lang/Object;)Ljava/lang/Object;"⟩ : MethodName)) hown (mvT hZ (ow hw 229 rfl)) (mvT hZ (ow hw 174 rfl)) (mvT hZ (ow hw 175 rfl)) (mvT hZ (ow hw 176 rfl)) (by decide) (backOf (W := 1) (rm26 l Z a0 hw [] G a2 h0 n0 O0 ) hZ (ow hw 176 rfl) (ow hw 175 rfl) (by decide) (by decide)) (g := (mkF m 6 #[.val (.ref a1), .val (.ref a2), .val (.ref a3)] [(.ref a2), (.ref a1)])) rfl (by rw [hml]; rfl) (argsL := [(.ref a2)]) (rest := [(.ref a1)]) (lenOf pd_14 rfl) rfl (by show 2 * 0 + _ ≤ _; exact Nat.le_of_eq rfl) (hb hby d33_6) (fun _ _ => ⟨rfl, e4, (by decide : 0 + 0 ≤ _), (by decide : 0 + 0 ≤ _)⟩)
  dsimp only [Pt.U, Pt.locs, Pt.cells, Pt.slots] at X5 l5 y5 z5 st5 hQ5
  subst l5 y5 z5
  obtain ⟨rfl, N5q, e5⟩ := hQ5
  have N5 := Fr.app N4 N5q
  refine OGot.go st5 ?_
  show OGot p.tables e below (T5.setTop (mkF m 9 #[.val (.ref a1), .val (.ref a2), .val (.ref a3)] [(.ref a2), (.ref a1)])) _
  obtain ⟨T6, h6, X6, e6, W6, st6⟩ := putF X5 hx hZ hown (host := "") (Or.inl (ow hw 230 rfl)) Via.refl e5 F_e0_a1 E_a1 (Or.inr ⟨(ow hw 231 rfl), rfl, hnm⟩) (ow hw 219 rfl) (ty := (.object "java/lang/Object")) (by decide) rfl rfl (g := (mkF m 9 #[.val (.ref a1), .val (.ref a2), .val (.ref a3)] [(.ref a2), (.ref a1)])) rfl rfl (hb hby d33_9)
  refine OGot.go st6 ?_
  have N6 := Fr.snoc X6 N5 g_a1
  have O6 := O0.wr W6 g_a1
  have K6 := (OKeep.refl h0 [(a1, Jvm.RoadKit.slotOf Z "java/util/ImmutableCollections$List12" "e0" "Ljava/lang/Object;"), (a1, Jvm.RoadKit.slotOf Z "java/util/ImmutableCollections$List12" "e1" "Ljava/lang/Object;")]).wr W6 (Or.inl (List.mem_of_getElem? (i := 0) rfl))
  have Fw6 : Fld Z h6 a1 "java/util/ImmutableCollections$List12" "e0" "Ljava/lang/Object;" (.ref a2) := F_e0_a1.same W6
  refine OGot.go (fun t k => XS.aloadN X6.here hx rfl (hb hby d33_12) rfl rfl k) ?_
  refine OGot.go (fun t k => XS.aloadN X6.here hx rfl (hb hby d33_13) rfl rfl k) ?_
  obtain ⟨_, _, ⟨T7, L7, k7, n7⟩, -, X7, ⟨Lc7, hQ7, l7, y7, z7⟩, st7⟩ := Jvm.LawKit.callS X6 hx (y := (⟨"java/util/Objects", "requireNonNull", "(Ljava/lang/Object;)Ljava/lang/Object;"⟩ : MethodName)) hown (mvT hZ (ow hw 229 rfl)) (mvT hZ (ow hw 174 rfl)) (mvT hZ (ow hw 175 rfl)) (mvT hZ (ow hw 176 rfl)) (by decide) (backOf (W := 1) (rm26 l Z a0 hw [] G a3 h6 n0 O6 ) hZ (ow hw 176 rfl) (ow hw 175 rfl) (by decide) (by decide)) (g := (mkF m 14 #[.val (.ref a1), .val (.ref a2), .val (.ref a3)] [(.ref a3), (.ref a1)])) rfl (by rw [hml]; rfl) (argsL := [(.ref a3)]) (rest := [(.ref a1)]) (lenOf pd_14 rfl) rfl (by show 2 * 0 + _ ≤ _; exact Nat.le_of_eq rfl) (hb hby d33_14) (fun _ _ => ⟨rfl, e6, (by decide : 0 + 0 ≤ _), (by decide : 0 + 0 ≤ _)⟩)
  dsimp only [Pt.U, Pt.locs, Pt.cells, Pt.slots] at X7 l7 y7 z7 st7 hQ7
  subst l7 y7 z7
  obtain ⟨rfl, N7q, e7⟩ := hQ7
  have N7 := Fr.app N6 N7q
  refine OGot.go st7 ?_
  have F8 : Fld Z h6 a1 "java/util/ImmutableCollections$List12" "e1" "Ljava/lang/Object;" .null := (F_e1_a1.other W6 (Or.inr (slot_ne (Or.inr (ow hw 233 rfl)) (Or.inr (ow hw 231 rfl)) (by decide) (t := (.object "java/lang/Object")) (t' := (.object "java/lang/Object")) (by decide) (by decide))))
  obtain ⟨T9, h9, X9, e9, W9, st9⟩ := putF X7 hx hZ hown (host := "") (Or.inl (ow hw 232 rfl)) Via.refl e7 F8 (E_a1.wr W6) (Or.inr ⟨(ow hw 233 rfl), rfl, hnm⟩) (ow hw 219 rfl) (ty := (.object "java/lang/Object")) (by decide) rfl rfl (g := (mkF m 17 #[.val (.ref a1), .val (.ref a2), .val (.ref a3)] [(.ref a3), (.ref a1)])) rfl rfl (hb hby d33_17)
  refine OGot.go st9 ?_
  have N9 := Fr.snoc X9 N7 g_a1
  have O9 := O6.wr W9 g_a1
  have K9 := K6.wr W9 (Or.inl (List.mem_of_getElem? (i := 1) rfl))
  have Fw9 : Fld Z h9 a1 "java/util/ImmutableCollections$List12" "e1" "Ljava/lang/Object;" (.ref a3) := F8.same W9
  show OGot p.tables e below (T9.setTop (mkF m 20 #[.val (.ref a1), .val (.ref a2), .val (.ref a3)] [])) _
  obtain ⟨fs, hr, hrun, hended, hW, hsame⟩ := X9.leave (v := none) (fun _ => rfl)
  refine ⟨_, _, X9.returnOut hx Bd.returns (hb hby d33_20) hr, hrun, hended, _, _, rfl, ?_, ⟨_, rfl⟩, hW, hsame.mono (by decide) (by decide)⟩
  have F10 : Fld Z h9 a1 "java/util/ImmutableCollections$List12" "e0" "Ljava/lang/Object;" (.ref a2) := (Fw6.other W9 (Or.inr (slot_ne (Or.inr (ow hw 231 rfl)) (Or.inr (ow hw 233 rfl)) (by decide) (t := (.object "java/lang/Object")) (t' := (.object "java/lang/Object")) (by decide) (by decide))))
  show Q33 Z m_OA w_EMPTY_ELEMENTDATA w_DEFAULTCAPACITY_EMPTY_ELEMENTDATA w_EMPTY_LIST w_EMPTY_LIST_elements w_EMPTY k_w_EMPTY_ELEMENTDATA k_w_DEFAULTCAPACITY_EMPTY_ELEMENTDATA k_w_EMPTY_LIST_elements a1 a2 a3 h0 n0 _ T9.heap _
  rw [e9]
  exact ⟨N9, rfl, K9, F10, Fw9⟩
theorem pd_18 : parseMethodDescriptor "(Ljava/lang/Object;Ljava/lang/Object;)V" = some ⟨[(.object "java/lang/Object"), (.object "java/lang/Object")], none⟩ := by decide +kernel
theorem d24_58 : decode jdk_40_method_47_code 58 = .ok (.areturn, 1) := by decide +kernel
def Q24_1 (Z : State) (m_OA : Addr) (w_EMPTY_ELEMENTDATA : Addr) (w_DEFAULTCAPACITY_EMPTY_ELEMENTDATA : Addr) (w_EMPTY_LIST : Addr) (w_EMPTY_LIST_elements : Addr) (w_EMPTY : Addr) (k_w_EMPTY_ELEMENTDATA : ClassId) (k_w_DEFAULTCAPACITY_EMPTY_ELEMENTDATA : ClassId) (k_w_EMPTY_LIST_elements : ClassId) (a1 : Addr) (k2 : ClassId) (a3 : Addr) (a4 : Addr) (h0 : Heap) (n0 : Nat) (v : Option Value) (h : Heap) (L : List Loc) : Prop := Fr n0 L ∧ ∃ b6 : Addr, v = some (.ref b6) ∧ h0.size ≤ b6 ∧ OKeep h0 h [] ∧ Exa Z h b6 "java/util/ImmutableCollections$List12" ∧ Fld Z h b6 "java/util/ImmutableCollections$List12" "e0" "Ljava/lang/Object;" (.ref a3) ∧ Fld Z h b6 "java/util/ImmutableCollections$List12" "e1" "Ljava/lang/Object;" (.ref a4)
theorem ef24_1 (m : MethodId) (x0 : Addr) : entryFrame m #[(.ref x0)] 2 = mkF m 0 #[.val (.ref x0), .unset] [] := by first | (simp [entryFrame, mkF, argsToLocals, Value.category]; done) | rfl
set_option maxRecDepth 65536 in
set_option maxHeartbeats 40000000 in
theorem rm24_1 (l : Launch) (Z : State) (a0 : Array Value) (hw : ∀ d ∈ tables_1, d.before a0 Z = true) (ws : List Jvm.Cond) {m_OA : Addr} {w_EMPTY_ELEMENTDATA : Addr} {w_DEFAULTCAPACITY_EMPTY_ELEMENTDATA : Addr} {w_EMPTY_LIST : Addr} {w_EMPTY_LIST_elements : Addr} {w_EMPTY : Addr} {k_w_EMPTY_ELEMENTDATA : ClassId} {k_w_DEFAULTCAPACITY_EMPTY_ELEMENTDATA : ClassId} {k_w_EMPTY_LIST_elements : ClassId} (G : Glob Z m_OA w_EMPTY_ELEMENTDATA w_DEFAULTCAPACITY_EMPTY_ELEMENTDATA w_EMPTY_LIST w_EMPTY_LIST_elements w_EMPTY k_w_EMPTY_ELEMENTDATA k_w_DEFAULTCAPACITY_EMPTY_ELEMENTDATA k_w_EMPTY_LIST_elements) (a1 : Addr) (k2 : ClassId) (a3 : Addr) (a4 : Addr) (h0 : Heap) (n0 : Nat) (O0 : Old Z n0 h0) (V_a1 : Arv Z h0 a1 k2 (.object "java/lang/Object") (2 : Int32) [(.ref a3), (.ref a4)] .null) (O_k2 : Ovr Z k2 "java/lang/Object") :
    MetFree l (⟨"java/util/List", "of", "([Ljava/lang/Object;)Ljava/util/List;"⟩ : MethodName) (head1 (Jvm.Cond.code (⟨"java/util/List", "of", "([Ljava/lang/Object;)Ljava/util/List;"⟩ : MethodName) jdk_40_method_47_code 2 (some (.object "java/util/List")) :: ws) ({ frames := 5, cells := 1, slots := 2, locals := 63 } : Room)) (fun a U => a = #[(.ref a1)] ∧ Z.Warmed39 U.vm ∧ U.heap = h0) (fun _ _ _ _ _ => True) (fun _ U o U' => ∃ v L, o = .returned v ∧ Q24_1 Z m_OA w_EMPTY_ELEMENTDATA w_DEFAULTCAPACITY_EMPTY_ELEMENTDATA w_EMPTY_LIST w_EMPTY_LIST_elements w_EMPTY k_w_EMPTY_ELEMENTDATA k_w_DEFAULTCAPACITY_EMPTY_ELEMENTDATA k_w_EMPTY_LIST_elements a1 k2 a3 a4 h0 n0 v U'.heap L ∧ FrameEnd U o U' L ({ frames := 5, cells := 1, slots := 2, locals := 63 } : Room).cells ({ frames := 5, cells := 1, slots := 2, locals := 63 } : Room).slots) := by
  refine MetFree.of_bodySF (plainFor_of_name pn_java_util_List) hisR ?_
  intro p e s m args below meth c s₁ Bd hml0 hP hK
  obtain ⟨rfl, hZ, hh⟩ := hP
  have hx := Bd.exec
  have hby := Bd.bytes
  have hml : c.maxLocals = 2 := hml0
  have hown : s.vm.findClass "java/util/List" = some m.cls := findClass_of_methodNamed Bd.named
  have hnm := (name_of_methodNamed Bd.named Bd.method).1
  have X0 : Stand p l e ({ frames := 5, cells := 1, slots := 2, locals := 63 } : Room) s m #[(.ref a1)] below meth c s₁ [] 0 0 := Stand.of_body Bd
  have e0 : s₁.heap = h0 := by rw [← hh, Bd.state]; rfl
  have N0 := Fr.nil n0
  show OGot p.tables e below (s₁.setTop (entryFrame m #[(.ref a1)] 2)) _
  refine OGot.go (fun t k => castTop (ef24_1 m a1) k) ?_
  show OGot p.tables e below (s₁.setTop (mkF m 0 #[.val (.ref a1), .unset] [])) _
  refine OGot.go (fun t k => XS.aloadN X0.here hx rfl (hb hby d24_0) rfl rfl k) ?_
  obtain ⟨cl5, Ar5, -, Sz5, Ng5, -, -⟩ := id (V_a1)
  refine OGot.go (fun t k => X0.arraylength hx (by rw [e0]; exact Ar5.1) (State.isArrayOf_alike hZ.alike Ar5.2.1) (g := (mkF m 1 #[.val (.ref a1), .unset] [(.ref a1)])) rfl rfl (hb hby d24_1) _ k) ?_
  rw [len_of Sz5 Ng5]
  refine OGot.go (fun t k => XS.tswIn X0.here hx rfl (pc0 := 2) (pc' := 45) rfl (hb hby d24_2) rfl (by decide) (o := 43) (by decide) (by decide) (by decide) k) ?_
  obtain ⟨T6, h6, X6, e6, E6, A6, D6, -, st6⟩ := newO X0 hx hZ hown (ow hw 218 rfl) (ow hw 219 rfl) (ow hw 220 rfl) e0 (g := (mkF m 45 #[.val (.ref a1), .unset] [])) rfl (hb hby d24_45) (by decide) (by decide)
  obtain ⟨b6, g6⟩ : ∃ z, z = h0.size := ⟨_, rfl⟩
  rw [← g6] at A6 D6 st6
  refine OGot.go st6 ?_
  have g_b6 : n0 ≤ b6 := Nat.le_trans (osz O0) (Nat.le_of_eq g6.symm)
  have sy_b6 : h0.size ≤ b6 := Nat.le_of_eq g6.symm
  have sz_b6 : h0.size ≤ b6 := Nat.le_trans (OKeep.refl h0 []).1 sy_b6
  have K6 := (OKeep.refl h0 []).ext E6
  have O6 := O0.ext E6
  have F6_e0 : Fld Z h6 b6 "java/util/ImmutableCollections$List12" "e0" "Ljava/lang/Object;" .null := D6 (Or.inr (ow hw 231 rfl)) (ty := (.object "java/lang/Object")) (by decide)
  have F6_e1 : Fld Z h6 b6 "java/util/ImmutableCollections$List12" "e1" "Ljava/lang/Object;" .null := D6 (Or.inr (ow hw 233 rfl)) (ty := (.object "java/lang/Object")) (by decide)
  refine OGot.go (fun t k => XS.dup X6.here hx rfl (hb hby d24_48) rfl rfl k) ?_
  show OGot p.tables e below (T6.setTop (mkF m 49 #[.val (.ref a1), .unset] [(.ref b6), (.ref b6)])) _
  refine OGot.go (fun t k => XS.aloadN X6.here hx rfl (hb hby d24_49) rfl rfl k) ?_
  refine OGot.go (fun t k => XS.iconst X6.here hx rfl (hb hby d24_50) k) ?_
  have F7 : Arv Z h6 a1 k2 (.object "java/lang/Object") (2 : Int32) [(.ref a3), (.ref a4)] .null := (V_a1.ext E6)
  obtain ⟨cl8, Ar8, qc8, Sz8, Ng8, Hh8, Gg8⟩ := id (F7)
  have hin8 : ¬ ((0 : Int32) < 0 ∨ cl8.slots.size ≤ ((0 : Int32)).toNatClampNeg) := inb_of Sz8 ⟨by decide, by decide⟩
  have hat8 : cl8.slots[((0 : Int32)).toNatClampNeg]? = some (.ref a3) := Hh8.at hin8 rfl
  refine OGot.go (fun t k => X6.aaload hx (j := (0 : Int32)) (v := (.ref a3)) (by rw [e6]; exact Ar8.1) (State.isArrayOf_alike hZ.alike Ar8.2.1) rfl Ar8.2.2 hin8 hat8 (g := (mkF m 51 #[.val (.ref a1), .unset] [(.int (0 : Int32)), (.ref a1), (.ref b6), (.ref b6)])) rfl rfl (hb hby d24_51) _ k) ?_
  refine OGot.go (fun t k => XS.aloadN X6.here hx rfl (hb hby d24_52) rfl rfl k) ?_
  refine OGot.go (fun t k => XS.iconst X6.here hx rfl (hb hby d24_53) k) ?_
  show OGot p.tables e below (T6.setTop (mkF m 54 #[.val (.ref a1), .unset] [(.int (1 : Int32)), (.ref a1), (.ref a3), (.ref b6), (.ref b6)])) _
  obtain ⟨cl9, Ar9, qc9, Sz9, Ng9, Hh9, Gg9⟩ := id (F7)
  have hin9 : ¬ ((1 : Int32) < 0 ∨ cl9.slots.size ≤ ((1 : Int32)).toNatClampNeg) := inb_of Sz9 ⟨by decide, by decide⟩
  have hat9 : cl9.slots[((1 : Int32)).toNatClampNeg]? = some (.ref a4) := Hh9.at hin9 rfl
  refine OGot.go (fun t k => X6.aaload hx (j := (1 : Int32)) (v := (.ref a4)) (by rw [e6]; exact Ar9.1) (State.isArrayOf_alike hZ.alike Ar9.2.1) rfl Ar9.2.2 hin9 hat9 (g := (mkF m 54 #[.val (.ref a1), .unset] [(.int (1 : Int32)), (.ref a1), (.ref a3), (.ref b6), (.ref b6)])) rfl rfl (hb hby d24_54) _ k) ?_
  obtain ⟨_, _, ⟨T10, L10, k10, n10⟩, -, X10, ⟨Lc10, hQ10, l10, y10, z10⟩, st10⟩ := X6.specialBack hx (y := (⟨"java/util/ImmutableCollections$List12", "<init>", "(Ljava/lang/Object;Ljava/lang/Object;)V"⟩ : MethodName)) rfl hown (mvT hZ (ow hw 221 rfl)) (mvT hZ (ow hw 222 rfl)) (mvT hZ (ow hw 224 rfl)) (by decide) (backOf (W := 1) (rm33 l Z a0 hw [] G b6 a3 a4 h6 n0 O6 A6 F6_e0 g_b6 F6_e1) hZ (ow hw 224 rfl) (ow hw 220 rfl) (by decide) (by decide)) (g := (mkF m 55 #[.val (.ref a1), .unset] [(.ref a4), (.ref a3), (.ref b6), (.ref b6)])) rfl (by rw [hml]; rfl) (Steps.refl _) (a := b6) (argsL := [(.ref a3), (.ref a4)]) (rest := [(.ref b6)]) (lenOf pd_18 rfl) rfl (by show 2 * 0 + _ ≤ _; exact Nat.le_of_eq rfl) (hb hby d24_55) (fun _ _ => ⟨rfl, e6, (by decide : 1 + 0 ≤ _), (by decide : 2 + 0 ≤ _)⟩)
  dsimp only [Pt.U, Pt.locs, Pt.cells, Pt.slots] at X10 l10 y10 z10 st10 hQ10
  subst l10 y10 z10
  obtain ⟨N10q, rfl, K10, Fo10_0, Fo10_1⟩ := hQ10
  have Kc10 := K6.trans K10 (oinS (Or.inr sz_b6) (oinS (Or.inr sz_b6) oin0))
  have O10 := OKeep.old O6 K10 (ogeS g_b6 (ogeS g_b6 oge0))
  have N10 := Fr.app N0 N10q
  refine OGot.on st10 ?_
  show OGot p.tables e below (T10.setTop (mkF m 58 #[.val (.ref a1), .unset] [(.ref b6)])) _
  obtain ⟨fs, hr, hrun, hended, hW, hsame⟩ := X10.leave (v := some (.ref b6)) (fun h => by rw [Bd.returns] at h; cases h)
  refine ⟨_, _, oretA X10 hx Bd.returns rfl rfl (hb hby d24_58) hr, hrun, hended, _, _, rfl, ?_, ⟨_, rfl⟩, hW, hsame.mono (by decide) (by decide)⟩
  show Q24_1 Z m_OA w_EMPTY_ELEMENTDATA w_DEFAULTCAPACITY_EMPTY_ELEMENTDATA w_EMPTY_LIST w_EMPTY_LIST_elements w_EMPTY k_w_EMPTY_ELEMENTDATA k_w_DEFAULTCAPACITY_EMPTY_ELEMENTDATA k_w_EMPTY_LIST_elements a1 k2 a3 a4 h0 n0 _ T10.heap _
  exact ⟨N10, b6, rfl, sz_b6, Kc10, (OKeep.exa A6 K10), Fo10_0, Fo10_1⟩
def Q8_2 (Z : State) (m_OA : Addr) (w_EMPTY_ELEMENTDATA : Addr) (w_DEFAULTCAPACITY_EMPTY_ELEMENTDATA : Addr) (w_EMPTY_LIST : Addr) (w_EMPTY_LIST_elements : Addr) (w_EMPTY : Addr) (k_w_EMPTY_ELEMENTDATA : ClassId) (k_w_DEFAULTCAPACITY_EMPTY_ELEMENTDATA : ClassId) (k_w_EMPTY_LIST_elements : ClassId) (a1 : Addr) (a5 : Addr) (k6 : ClassId) (a7 : Addr) (a8 : Addr) (h0 : Heap) (n0 : Nat) (v : Option Value) (h : Heap) (L : List Loc) : Prop := Fr n0 L ∧ ∃ b6_10 : Addr, v = some (.ref b6_10) ∧ h0.size ≤ b6_10 ∧ OKeep h0 h [] ∧ Exa Z h b6_10 "java/util/ImmutableCollections$List12" ∧ Fld Z h b6_10 "java/util/ImmutableCollections$List12" "e0" "Ljava/lang/Object;" (.ref a7) ∧ Fld Z h b6_10 "java/util/ImmutableCollections$List12" "e1" "Ljava/lang/Object;" (.ref a8)
theorem ef8_2 (m : MethodId) (x0 : Addr) : entryFrame m #[(.ref x0)] 2 = mkF m 0 #[.val (.ref x0), .unset] [] := by first | (simp [entryFrame, mkF, argsToLocals, Value.category]; done) | rfl
set_option maxRecDepth 65536 in
set_option maxHeartbeats 40000000 in
theorem rm8_2 (l : Launch) (Z : State) (a0 : Array Value) (hw : ∀ d ∈ tables_1, d.before a0 Z = true) (ws : List Jvm.Cond) {m_OA : Addr} {w_EMPTY_ELEMENTDATA : Addr} {w_DEFAULTCAPACITY_EMPTY_ELEMENTDATA : Addr} {w_EMPTY_LIST : Addr} {w_EMPTY_LIST_elements : Addr} {w_EMPTY : Addr} {k_w_EMPTY_ELEMENTDATA : ClassId} {k_w_DEFAULTCAPACITY_EMPTY_ELEMENTDATA : ClassId} {k_w_EMPTY_LIST_elements : ClassId} (G : Glob Z m_OA w_EMPTY_ELEMENTDATA w_DEFAULTCAPACITY_EMPTY_ELEMENTDATA w_EMPTY_LIST w_EMPTY_LIST_elements w_EMPTY k_w_EMPTY_ELEMENTDATA k_w_DEFAULTCAPACITY_EMPTY_ELEMENTDATA k_w_EMPTY_LIST_elements) (a1 : Addr) (a5 : Addr) (k6 : ClassId) (a7 : Addr) (a8 : Addr) (h0 : Heap) (n0 : Nat) (O0 : Old Z n0 h0) (E_a1 : Exa Z h0 a1 "java/util/ArrayList") (F_size_a1 : Fld Z h0 a1 "java/util/ArrayList" "size" "I" (.int (2 : Int32))) (F_elementData_a1 : Fld Z h0 a1 "java/util/ArrayList" "elementData" "[Ljava/lang/Object;" (.ref a5)) (E_a5 : Exa Z h0 a5 "[Ljava/lang/Object;") (V_a5 : Arv Z h0 a5 k6 (.object "java/lang/Object") (10 : Int32) [(.ref a7), (.ref a8), .null, .null, .null, .null, .null, .null, .null, .null] .null) (O_k6 : Ovr Z k6 "java/lang/Object") (E_a8 : Exa Z h0 a8 "com/example/curtail/curtail/Placement$Cell") (E_a7 : Exa Z h0 a7 "com/example/curtail/curtail/Placement$Cell") :
    MetFree l (⟨"java/util/ImmutableCollections", "listCopy", "(Ljava/util/Collection;)Ljava/util/List;"⟩ : MethodName) (head1 (Jvm.Cond.code (⟨"java/util/ImmutableCollections", "listCopy", "(Ljava/util/Collection;)Ljava/util/List;"⟩ : MethodName) jdk_56_method_3_code 2 (some (.object "java/util/List")) :: ws) ({ frames := 6, cells := 2, slots := 4, locals := 76 } : Room)) (fun a U => a = #[(.ref a1)] ∧ Z.Warmed39 U.vm ∧ U.heap = h0) (fun _ _ _ _ _ => True) (fun _ U o U' => ∃ v L, o = .returned v ∧ Q8_2 Z m_OA w_EMPTY_ELEMENTDATA w_DEFAULTCAPACITY_EMPTY_ELEMENTDATA w_EMPTY_LIST w_EMPTY_LIST_elements w_EMPTY k_w_EMPTY_ELEMENTDATA k_w_DEFAULTCAPACITY_EMPTY_ELEMENTDATA k_w_EMPTY_LIST_elements a1 a5 k6 a7 a8 h0 n0 v U'.heap L ∧ FrameEnd U o U' L ({ frames := 6, cells := 2, slots := 4, locals := 76 } : Room).cells ({ frames := 6, cells := 2, slots := 4, locals := 76 } : Room).slots) := by
  refine MetFree.of_bodySF (plainFor_of_name pn_java_util_ImmutableCollections) hisR ?_
  intro p e s m args below meth c s₁ Bd hml0 hP hK
  obtain ⟨rfl, hZ, hh⟩ := hP
  have hx := Bd.exec
  have hby := Bd.bytes
  have hml : c.maxLocals = 2 := hml0
  have hown : s.vm.findClass "java/util/ImmutableCollections" = some m.cls := findClass_of_methodNamed Bd.named
  have hnm := (name_of_methodNamed Bd.named Bd.method).1
  have X0 : Stand p l e ({ frames := 6, cells := 2, slots := 4, locals := 76 } : Room) s m #[(.ref a1)] below meth c s₁ [] 0 0 := Stand.of_body Bd
  have e0 : s₁.heap = h0 := by rw [← hh, Bd.state]; rfl
  have N0 := Fr.nil n0
  show OGot p.tables e below (s₁.setTop (entryFrame m #[(.ref a1)] 2)) _
  refine OGot.go (fun t k => castTop (ef8_2 m a1) k) ?_
  show OGot p.tables e below (s₁.setTop (mkF m 0 #[.val (.ref a1), .unset] [])) _
  refine OGot.go (fun t k => XS.aloadN X0.here hx rfl (hb hby d8_0) rfl rfl k) ?_
  obtain ⟨T2, X2, e2, st2⟩ := instNo X0 hx hZ hown (ow hw 46 rfl) e0 E_a1 (oNS.no (ow hw 47 rfl) (ow hw 219 rfl) (NS.step (ow hw 47 rfl) (NS.step (ow hw 48 rfl) (NS.step (ow hw 49 rfl) (oNS.root (ow hw 50 rfl) (ow hw 219 rfl) (by decide)) (by decide)) (by decide)) (by decide)) (by decide)) (g := (mkF m 1 #[.val (.ref a1), .unset] [(.ref a1)])) rfl rfl (hb hby d8_1)
  refine OGot.go st2 ?_
  refine OGot.go (fun t k => XS.ifNo X2.here hx rfl (hb hby d8_4) rfl (by decide) k) ?_
  refine OGot.go (fun t k => XS.aloadN X2.here hx rfl (hb hby d8_7) rfl rfl k) ?_
  obtain ⟨T3, X3, e3, st3⟩ := instNo X2 hx hZ hown (ow hw 51 rfl) e2 E_a1 (oNS.no (ow hw 47 rfl) (ow hw 177 rfl) (NS.step (ow hw 47 rfl) (NS.step (ow hw 48 rfl) (NS.step (ow hw 49 rfl) (oNS.root (ow hw 50 rfl) (ow hw 177 rfl) (by decide)) (by decide)) (by decide)) (by decide)) (by decide)) (g := (mkF m 8 #[.val (.ref a1), .unset] [(.ref a1)])) rfl rfl (hb hby d8_8)
  refine OGot.go st3 ?_
  show OGot p.tables e below (T3.setTop (mkF m 11 #[.val (.ref a1), .unset] [(.int (0 : Int32))])) _
  refine OGot.go (fun t k => XS.ifYes X3.here hx rfl (pc0 := 11) (pc' := 31) rfl (hb hby d8_11) rfl (by decide) (by decide) (by decide) k) ?_
  refine OGot.go (fun t k => XS.aloadN X3.here hx rfl (hb hby d8_31) rfl rfl k) ?_
  obtain ⟨cq4, kq4, q4a, q4b, q4c⟩ := isOf hZ e3 E_a1
  obtain ⟨_, _, ⟨T4, L4, k4, n4⟩, -, X4, ⟨Lc4, hQ4, l4, y4, z4⟩, st4⟩ := X3.interfaceBack hx (xi := (⟨"java/util/Collection", "isEmpty", "()Z"⟩ : MethodName)) (y := (⟨"java/util/ArrayList", "isEmpty", "()Z"⟩ : MethodName)) hown (mvT hZ (ow hw 52 rfl)) (mvT hZ (ow hw 53 rfl)) (mvT hZ (ow hw 54 rfl)) (mvT hZ (ow hw 55 rfl)) (mvT hZ (ow hw 56 rfl)) (mvT hZ (ow hw 57 rfl)) (mvT hZ (ow hw 58 rfl)) (mvT hZ (ow hw 59 rfl)) (by decide) (backOf (W := 0) (rm9_2 l Z a0 hw [] G a1 h0 n0 O0 F_size_a1) hZ (ow hw 60 rfl) (ow hw 5 rfl) (by decide) (by decide)) q4a q4b q4c (g := (mkF m 32 #[.val (.ref a1), .unset] [(.ref a1)])) rfl (by rw [hml]; rfl) (Steps.refl _) (argsL := []) (rest := []) (lenOf pd_1 rfl) rfl (by show 2 * 0 + _ ≤ _; exact Nat.le_of_eq rfl) (hb hby d8_32) (fun _ _ => ⟨rfl, e3, (by decide : 0 + 0 ≤ _), (by decide : 0 + 0 ≤ _)⟩)
  dsimp only [Pt.U, Pt.locs, Pt.cells, Pt.slots] at X4 l4 y4 z4 st4 hQ4
  subst l4 y4 z4
  obtain ⟨rfl, N4q, e4⟩ := hQ4
  have N4 := Fr.app N0 N4q
  refine OGot.on st4 ?_
  refine OGot.go (fun t k => XS.ifYes X4.here hx rfl (pc0 := 37) (pc' := 44) rfl (hb hby d8_37) rfl (by decide) (by decide) (by decide) k) ?_
  refine OGot.go (fun t k => XS.aloadN X4.here hx rfl (hb hby d8_44) rfl rfl k) ?_
  show OGot p.tables e below (T4.setTop (mkF m 45 #[.val (.ref a1), .unset] [(.ref a1)])) _
  obtain ⟨cq9, kq9, q9a, q9b, q9c⟩ := isOf hZ e4 E_a1
  obtain ⟨_, _, ⟨T9, L9, k9, n9⟩, -, X9, ⟨Lc9, hQ9, l9, y9, z9⟩, st9⟩ := X4.interfaceBack hx (xi := (⟨"java/util/Collection", "toArray", "()[Ljava/lang/Object;"⟩ : MethodName)) (y := (⟨"java/util/ArrayList", "toArray", "()[Ljava/lang/Object;"⟩ : MethodName)) hown (mvT hZ (ow hw 136 rfl)) (mvT hZ (ow hw 137 rfl)) (mvT hZ (ow hw 138 rfl)) (mvT hZ (ow hw 139 rfl)) (mvT hZ (ow hw 140 rfl)) (mvT hZ (ow hw 141 rfl)) (mvT hZ (ow hw 142 rfl)) (mvT hZ (ow hw 59 rfl)) (by decide) (backOf (W := 0) (rm20_1 l Z a0 hw [] G a1 a5 k6 a7 a8 h0 n0 O0 F_elementData_a1 F_size_a1 E_a5 V_a5 O_k6 E_a8 E_a7) hZ (ow hw 143 rfl) (ow hw 5 rfl) (by decide) (by decide)) q9a q9b q9c (g := (mkF m 45 #[.val (.ref a1), .unset] [(.ref a1)])) rfl (by rw [hml]; rfl) (Steps.refl _) (argsL := []) (rest := []) (lenOf pd_9 rfl) rfl (by show 2 * 0 + _ ≤ _; exact Nat.le_of_eq rfl) (hb hby d8_45) (fun _ _ => ⟨rfl, e4, (by decide : 0 + 1 ≤ _), (by decide : 0 + 2 ≤ _)⟩)
  dsimp only [Pt.U, Pt.locs, Pt.cells, Pt.slots] at X9 l9 y9 z9 st9 hQ9
  subst l9 y9 z9
  obtain ⟨N9q, b4_6_8_9, k4_6_8_9, rfl, szb4_6_8_9_9, K9, Fo9_0, Fo9_1, Fo9_2⟩ := hQ9
  have g_b4_6_8_9 : n0 ≤ b4_6_8_9 := Nat.le_trans (osz O0) szb4_6_8_9_9
  have sz_b4_6_8_9 : h0.size ≤ b4_6_8_9 := Nat.le_trans (OKeep.refl h0 []).1 szb4_6_8_9_9
  have Kc9 := (OKeep.refl h0 []).trans K9 oin0
  have O9 := OKeep.old O0 K9 oge0
  have N9 := Fr.app N4 N9q
  refine OGot.on st9 ?_
  obtain ⟨_, _, ⟨T10, L10, k10, n10⟩, -, X10, ⟨Lc10, hQ10, l10, y10, z10⟩, st10⟩ := Jvm.LawKit.callS X9 hx (y := (⟨"java/util/List", "of", "([Ljava/lang/Object;)Ljava/util/List;"⟩ : MethodName)) hown (mvT hZ (ow hw 166 rfl)) (mvT hZ (ow hw 167 rfl)) (mvT hZ (ow hw 40 rfl)) (mvT hZ (ow hw 168 rfl)) (by decide) (backOf (W := 0) (rm24_1 l Z a0 hw [] G b4_6_8_9 k4_6_8_9 a7 a8 T9.heap n0 O9 Fo9_1 Fo9_2) hZ (ow hw 168 rfl) (ow hw 40 rfl) (by decide) (by decide)) (g := (mkF m 50 #[.val (.ref a1), .unset] [(.ref b4_6_8_9)])) rfl (by rw [hml]; rfl) (argsL := [(.ref b4_6_8_9)]) (rest := []) (lenOf pd_16 rfl) rfl (by show 2 * 0 + _ ≤ _; exact Nat.le_of_eq rfl) (hb hby d8_50) (fun _ _ => ⟨rfl, rfl, (by decide : 1 + 1 ≤ _), (by decide : 2 + 2 ≤ _)⟩)
  dsimp only [Pt.U, Pt.locs, Pt.cells, Pt.slots] at X10 l10 y10 z10 st10 hQ10
  subst l10 y10 z10
  obtain ⟨N10q, b6_10, rfl, szb6_10_10, K10, Fo10_0, Fo10_1, Fo10_2⟩ := hQ10
  have g_b6_10 : n0 ≤ b6_10 := Nat.le_trans (osz O9) szb6_10_10
  have sz_b6_10 : h0.size ≤ b6_10 := Nat.le_trans Kc9.1 szb6_10_10
  have Kc10 := Kc9.trans K10 oin0
  have O10 := OKeep.old O9 K10 oge0
  have N10 := Fr.app N9 N10q
  refine OGot.go st10 ?_
  show OGot p.tables e below (T10.setTop (mkF m 53 #[.val (.ref a1), .unset] [(.ref b6_10)])) _
  obtain ⟨fs, hr, hrun, hended, hW, hsame⟩ := X10.leave (v := some (.ref b6_10)) (fun h => by rw [Bd.returns] at h; cases h)
  refine ⟨_, _, oretA X10 hx Bd.returns rfl rfl (hb hby d8_53) hr, hrun, hended, _, _, rfl, ?_, ⟨_, rfl⟩, hW, hsame.mono (by decide) (by decide)⟩
  show Q8_2 Z m_OA w_EMPTY_ELEMENTDATA w_DEFAULTCAPACITY_EMPTY_ELEMENTDATA w_EMPTY_LIST w_EMPTY_LIST_elements w_EMPTY k_w_EMPTY_ELEMENTDATA k_w_DEFAULTCAPACITY_EMPTY_ELEMENTDATA k_w_EMPTY_LIST_elements a1 a5 k6 a7 a8 h0 n0 _ T10.heap _
  exact ⟨N10, b6_10, rfl, sz_b6_10, Kc10, Fo10_0, Fo10_1, Fo10_2⟩
def Q7_2 (Z : State) (m_OA : Addr) (w_EMPTY_ELEMENTDATA : Addr) (w_DEFAULTCAPACITY_EMPTY_ELEMENTDATA : Addr) (w_EMPTY_LIST : Addr) (w_EMPTY_LIST_elements : Addr) (w_EMPTY : Addr) (k_w_EMPTY_ELEMENTDATA : ClassId) (k_w_DEFAULTCAPACITY_EMPTY_ELEMENTDATA : ClassId) (k_w_EMPTY_LIST_elements : ClassId) (a1 : Addr) (a2 : Addr) (k3 : ClassId) (a4 : Addr) (a5 : Addr) (h0 : Heap) (n0 : Nat) (v : Option Value) (h : Heap) (L : List Loc) : Prop := Fr n0 L ∧ ∃ b6_10_6 : Addr, v = some (.ref b6_10_6) ∧ h0.size ≤ b6_10_6 ∧ OKeep h0 h [] ∧ Exa Z h b6_10_6 "java/util/ImmutableCollections$List12" ∧ Fld Z h b6_10_6 "java/util/ImmutableCollections$List12" "e0" "Ljava/lang/Object;" (.ref a4) ∧ Fld Z h b6_10_6 "java/util/ImmutableCollections$List12" "e1" "Ljava/lang/Object;" (.ref a5)
theorem ef7_2 (m : MethodId) (x0 : Addr) : entryFrame m #[(.ref x0)] 1 = mkF m 0 #[.val (.ref x0)] [] := by first | (simp [entryFrame, mkF, argsToLocals, Value.category]; done) | rfl
set_option maxRecDepth 65536 in
set_option maxHeartbeats 40000000 in
theorem rm7_2 (l : Launch) (Z : State) (a0 : Array Value) (hw : ∀ d ∈ tables_1, d.before a0 Z = true) (ws : List Jvm.Cond) {m_OA : Addr} {w_EMPTY_ELEMENTDATA : Addr} {w_DEFAULTCAPACITY_EMPTY_ELEMENTDATA : Addr} {w_EMPTY_LIST : Addr} {w_EMPTY_LIST_elements : Addr} {w_EMPTY : Addr} {k_w_EMPTY_ELEMENTDATA : ClassId} {k_w_DEFAULTCAPACITY_EMPTY_ELEMENTDATA : ClassId} {k_w_EMPTY_LIST_elements : ClassId} (G : Glob Z m_OA w_EMPTY_ELEMENTDATA w_DEFAULTCAPACITY_EMPTY_ELEMENTDATA w_EMPTY_LIST w_EMPTY_LIST_elements w_EMPTY k_w_EMPTY_ELEMENTDATA k_w_DEFAULTCAPACITY_EMPTY_ELEMENTDATA k_w_EMPTY_LIST_elements) (a1 : Addr) (a2 : Addr) (k3 : ClassId) (a4 : Addr) (a5 : Addr) (h0 : Heap) (n0 : Nat) (O0 : Old Z n0 h0) (E_a1 : Exa Z h0 a1 "java/util/ArrayList") (F_size_a1 : Fld Z h0 a1 "java/util/ArrayList" "size" "I" (.int (2 : Int32))) (F_elementData_a1 : Fld Z h0 a1 "java/util/ArrayList" "elementData" "[Ljava/lang/Object;" (.ref a2)) (E_a2 : Exa Z h0 a2 "[Ljava/lang/Object;") (V_a2 : Arv Z h0 a2 k3 (.object "java/lang/Object") (10 : Int32) [(.ref a4), (.ref a5), .null, .null, .null, .null, .null, .null, .null, .null] .null) (O_k3 : Ovr Z k3 "java/lang/Object") (E_a5 : Exa Z h0 a5 "com/example/curtail/curtail/Placement$Cell") (E_a4 : Exa Z h0 a4 "com/example/curtail/curtail/Placement$Cell") :
    MetFree l (⟨"java/util/List", "copyOf", "(Ljava/util/Collection;)Ljava/util/List;"⟩ : MethodName) (head1 (Jvm.Cond.code (⟨"java/util/List", "copyOf", "(Ljava/util/Collection;)Ljava/util/List;"⟩ : MethodName) jdk_40_method_48_code 1 (some (.object "java/util/List")) :: ws) ({ frames := 7, cells := 2, slots := 4, locals := 89 } : Room)) (fun a U => a = #[(.ref a1)] ∧ Z.Warmed39 U.vm ∧ U.heap = h0) (fun _ _ _ _ _ => True) (fun _ U o U' => ∃ v L, o = .returned v ∧ Q7_2 Z m_OA w_EMPTY_ELEMENTDATA w_DEFAULTCAPACITY_EMPTY_ELEMENTDATA w_EMPTY_LIST w_EMPTY_LIST_elements w_EMPTY k_w_EMPTY_ELEMENTDATA k_w_DEFAULTCAPACITY_EMPTY_ELEMENTDATA k_w_EMPTY_LIST_elements a1 a2 k3 a4 a5 h0 n0 v U'.heap L ∧ FrameEnd U o U' L ({ frames := 7, cells := 2, slots := 4, locals := 89 } : Room).cells ({ frames := 7, cells := 2, slots := 4, locals := 89 } : Room).slots) := by
  refine MetFree.of_bodySF (plainFor_of_name pn_java_util_List) hisR ?_
  intro p e s m args below meth c s₁ Bd hml0 hP hK
  obtain ⟨rfl, hZ, hh⟩ := hP
  have hx := Bd.exec
  have hby := Bd.bytes
  have hml : c.maxLocals = 1 := hml0
  have hown : s.vm.findClass "java/util/List" = some m.cls := findClass_of_methodNamed Bd.named
  have hnm := (name_of_methodNamed Bd.named Bd.method).1
  have X0 : Stand p l e ({ frames := 7, cells := 2, slots := 4, locals := 89 } : Room) s m #[(.ref a1)] below meth c s₁ [] 0 0 := Stand.of_body Bd
  have e0 : s₁.heap = h0 := by rw [← hh, Bd.state]; rfl
  have N0 := Fr.nil n0
  show OGot p.tables e below (s₁.setTop (entryFrame m #[(.ref a1)] 1)) _
  refine OGot.go (fun t k => castTop (ef7_2 m a1) k) ?_
  show OGot p.tables e below (s₁.setTop (mkF m 0 #[.val (.ref a1)] [])) _
  refine OGot.go (fun t k => XS.aloadN X0.here hx rfl (hb hby d7_0) rfl rfl k) ?_
  obtain ⟨_, _, ⟨T6, L6, k6, n6⟩, -, X6, ⟨Lc6, hQ6, l6, y6, z6⟩, st6⟩ := Jvm.LawKit.callS X0 hx (y := (⟨"java/util/ImmutableCollections", "listCopy", "(Ljava/util/Collection;)Ljava/util/List;"⟩ : MethodName)) hown (mvT hZ (ow hw 42 rfl)) (mvT hZ (ow hw 43 rfl)) (mvT hZ (ow hw 44 rfl)) (mvT hZ (ow hw 45 rfl)) (by decide) (backOf (W := 0) (rm8_2 l Z a0 hw [] G a1 a2 k3 a4 a5 h0 n0 O0 E_a1 F_size_a1 F_elementData_a1 E_a2 V_a2 O_k3 E_a5 E_a4) hZ (ow hw 45 rfl) (ow hw 44 rfl) (by decide) (by decide)) (g := (mkF m 1 #[.val (.ref a1)] [(.ref a1)])) rfl (by rw [hml]; rfl) (argsL := [(.ref a1)]) (rest := []) (lenOf pd_3 rfl) rfl (by show 2 * 0 + _ ≤ _; exact Nat.le_of_eq rfl) (hb hby d7_1) (fun _ _ => ⟨rfl, e0, (by decide : 0 + 2 ≤ _), (by decide : 0 + 4 ≤ _)⟩)
  dsimp only [Pt.U, Pt.locs, Pt.cells, Pt.slots] at X6 l6 y6 z6 st6 hQ6
  subst l6 y6 z6
  obtain ⟨N6q, b6_10_6, rfl, szb6_10_6_6, K6, Fo6_0, Fo6_1, Fo6_2⟩ := hQ6
  have g_b6_10_6 : n0 ≤ b6_10_6 := Nat.le_trans (osz O0) szb6_10_6_6
  have sz_b6_10_6 : h0.size ≤ b6_10_6 := Nat.le_trans (OKeep.refl h0 []).1 szb6_10_6_6
  have Kc6 := (OKeep.refl h0 []).trans K6 oin0
  have O6 := OKeep.old O0 K6 oge0
  have N6 := Fr.app N0 N6q
  refine OGot.go st6 ?_
  show OGot p.tables e below (T6.setTop (mkF m 4 #[.val (.ref a1)] [(.ref b6_10_6)])) _
  obtain ⟨fs, hr, hrun, hended, hW, hsame⟩ := X6.leave (v := some (.ref b6_10_6)) (fun h => by rw [Bd.returns] at h; cases h)
  refine ⟨_, _, oretA X6 hx Bd.returns rfl rfl (hb hby d7_4) hr, hrun, hended, _, _, rfl, ?_, ⟨_, rfl⟩, hW, hsame.mono (by decide) (by decide)⟩
  show Q7_2 Z m_OA w_EMPTY_ELEMENTDATA w_DEFAULTCAPACITY_EMPTY_ELEMENTDATA w_EMPTY_LIST w_EMPTY_LIST_elements w_EMPTY k_w_EMPTY_ELEMENTDATA k_w_DEFAULTCAPACITY_EMPTY_ELEMENTDATA k_w_EMPTY_LIST_elements a1 a2 k3 a4 a5 h0 n0 _ T6.heap _
  exact ⟨N6, b6_10_6, rfl, sz_b6_10_6, Kc6, Fo6_0, Fo6_1, Fo6_2⟩
theorem d34_10 : decode jdk_44_method_3_code 10 = .ok (.iconst 2, 1) := by decide +kernel
theorem d34_11 : decode jdk_44_method_3_code 11 = .ok (.goto 4, 3) := by decide +kernel
def Q34_1 (Z : State) (m_OA : Addr) (w_EMPTY_ELEMENTDATA : Addr) (w_DEFAULTCAPACITY_EMPTY_ELEMENTDATA : Addr) (w_EMPTY_LIST : Addr) (w_EMPTY_LIST_elements : Addr) (w_EMPTY : Addr) (k_w_EMPTY_ELEMENTDATA : ClassId) (k_w_DEFAULTCAPACITY_EMPTY_ELEMENTDATA : ClassId) (k_w_EMPTY_LIST_elements : ClassId) (a1 : Addr) (a2 : Addr) (h0 : Heap) (n0 : Nat) (v : Option Value) (h : Heap) (L : List Loc) : Prop := v = some (.int (2 : Int32)) ∧ Fr n0 L ∧ h = h0
theorem ef34_1 (m : MethodId) (x0 : Addr) : entryFrame m #[(.ref x0)] 1 = mkF m 0 #[.val (.ref x0)] [] := by first | (simp [entryFrame, mkF, argsToLocals, Value.category]; done) | rfl
set_option maxRecDepth 65536 in
set_option maxHeartbeats 40000000 in
theorem rm34_1 (l : Launch) (Z : State) (a0 : Array Value) (hw : ∀ d ∈ tables_1, d.before a0 Z = true) (ws : List Jvm.Cond) {m_OA : Addr} {w_EMPTY_ELEMENTDATA : Addr} {w_DEFAULTCAPACITY_EMPTY_ELEMENTDATA : Addr} {w_EMPTY_LIST : Addr} {w_EMPTY_LIST_elements : Addr} {w_EMPTY : Addr} {k_w_EMPTY_ELEMENTDATA : ClassId} {k_w_DEFAULTCAPACITY_EMPTY_ELEMENTDATA : ClassId} {k_w_EMPTY_LIST_elements : ClassId} (G : Glob Z m_OA w_EMPTY_ELEMENTDATA w_DEFAULTCAPACITY_EMPTY_ELEMENTDATA w_EMPTY_LIST w_EMPTY_LIST_elements w_EMPTY k_w_EMPTY_ELEMENTDATA k_w_DEFAULTCAPACITY_EMPTY_ELEMENTDATA k_w_EMPTY_LIST_elements) (a1 : Addr) (a2 : Addr) (h0 : Heap) (n0 : Nat) (O0 : Old Z n0 h0) (F_e1_a1 : Fld Z h0 a1 "java/util/ImmutableCollections$List12" "e1" "Ljava/lang/Object;" (.ref a2)) (E_a2 : Exa Z h0 a2 "com/example/curtail/curtail/Placement$Cell") :
    MetFree l (⟨"java/util/ImmutableCollections$List12", "size", "()I"⟩ : MethodName) (head1 (Jvm.Cond.code (⟨"java/util/ImmutableCollections$List12", "size", "()I"⟩ : MethodName) jdk_44_method_3_code 1 (some .int) :: ws) ({ frames := 0, cells := 0, slots := 0, locals := 0 } : Room)) (fun a U => a = #[(.ref a1)] ∧ Z.Warmed39 U.vm ∧ U.heap = h0) (fun _ _ _ _ _ => True) (fun _ U o U' => ∃ v L, o = .returned v ∧ Q34_1 Z m_OA w_EMPTY_ELEMENTDATA w_DEFAULTCAPACITY_EMPTY_ELEMENTDATA w_EMPTY_LIST w_EMPTY_LIST_elements w_EMPTY k_w_EMPTY_ELEMENTDATA k_w_DEFAULTCAPACITY_EMPTY_ELEMENTDATA k_w_EMPTY_LIST_elements a1 a2 h0 n0 v U'.heap L ∧ FrameEnd U o U' L ({ frames := 0, cells := 0, slots := 0, locals := 0 } : Room).cells ({ frames := 0, cells := 0, slots := 0, locals := 0 } : Room).slots) := by
  refine MetFree.of_bodySF (plainFor_of_name pn_java_util_ImmutableCollections_List12) hisR ?_
  intro p e s m args below meth c s₁ Bd hml0 hP hK
  obtain ⟨rfl, hZ, hh⟩ := hP
  have hx := Bd.exec
  have hby := Bd.bytes
  have hml : c.maxLocals = 1 := hml0
  have hown : s.vm.findClass "java/util/ImmutableCollections$List12" = some m.cls := findClass_of_methodNamed Bd.named
  have hnm := (name_of_methodNamed Bd.named Bd.method).1
  have X0 : Stand p l e ({ frames := 0, cells := 0, slots := 0, locals := 0 } : Room) s m #[(.ref a1)] below meth c s₁ [] 0 0 := Stand.of_body Bd
  have e0 : s₁.heap = h0 := by rw [← hh, Bd.state]; rfl
  have N0 := Fr.nil n0
  show OGot p.tables e below (s₁.setTop (entryFrame m #[(.ref a1)] 1)) _
  refine OGot.go (fun t k => castTop (ef34_1 m a1) k) ?_
  show OGot p.tables e below (s₁.setTop (mkF m 0 #[.val (.ref a1)] [])) _
  refine OGot.go (fun t k => XS.aloadN X0.here hx rfl (hb hby d34_0) rfl rfl k) ?_
  obtain ⟨T3, X3, e3, st3⟩ := getF X0 hx hZ hown (host := "") (Or.inl (ow hw 232 rfl)) Via.refl e0 F_e1_a1 (g := (mkF m 1 #[.val (.ref a1)] [(.ref a1)])) rfl rfl (hb hby d34_1)
  refine OGot.go st3 ?_
  obtain ⟨T4, X4, e4, st4⟩ := getS2 X3 hx hZ hown (Or.inr (ow hw 240 rfl)) Via.refl e3 (G.2.2.2.2.2.2.2.2.2.1.ext O0.2) (g := (mkF m 4 #[.val (.ref a1)] [(.ref a2)])) rfl (hb hby d34_4)
  refine OGot.go st4 ?_
  have ne5 : a2 ≠ w_EMPTY := (ne_exa E_a2 (G.2.2.2.2.2.2.2.2.2.2.1.ext O0.2) (by decide))
  refine OGot.go (fun t k => Jvm.RoadKit.acmp (g := (mkF m 7 #[.val (.ref a1)] [(.ref w_EMPTY), (.ref a2)])) X4 hx rfl rfl rfl (pc0 := 7) (pc' := 10) (same := false) rfl (hb hby d34_7) rfl (decide_eq_false fun q => ne5 (Value.ref.inj q)) (by decide) (by decide) k) ?_
  refine OGot.go (fun t k => XS.iconst X4.here hx rfl (hb hby d34_10) k) ?_
  show OGot p.tables e below (T4.setTop (mkF m 11 #[.val (.ref a1)] [(.int (2 : Int32))])) _
  refine OGot.go (fun t k => XS.goto X4.here hx rfl (pc0 := 11) (pc' := 15) rfl (hb hby d34_11) (by decide) (by decide) k) ?_
  show OGot p.tables e below (T4.setTop (mkF m 15 #[.val (.ref a1)] [(.int (2 : Int32))])) _
  obtain ⟨fs, hr, hrun, hended, hW, hsame⟩ := X4.leave (v := some (.int (2 : Int32))) (fun h => by rw [Bd.returns] at h; cases h)
  refine ⟨_, _, retI X4 hx Bd.returns (hb hby d34_15) hr, hrun, hended, _, _, rfl, ?_, ⟨_, rfl⟩, hW, hsame.mono (by decide) (by decide)⟩
  exact (⟨rfl, N0, e4⟩ : Q34_1 Z m_OA w_EMPTY_ELEMENTDATA w_DEFAULTCAPACITY_EMPTY_ELEMENTDATA w_EMPTY_LIST w_EMPTY_LIST_elements w_EMPTY k_w_EMPTY_ELEMENTDATA k_w_DEFAULTCAPACITY_EMPTY_ELEMENTDATA k_w_EMPTY_LIST_elements a1 a2 h0 n0 _ T4.heap _)
theorem d5_21 : decode prog_14_method_1_code 21 = .ok (.aload_n 1, 1) := by decide +kernel
theorem d5_22 : decode prog_14_method_1_code 22 = .ok (.iload_n 2, 1) := by decide +kernel
theorem d5_23 : decode prog_14_method_1_code 23 = .ok (.invokeinterface 17 2, 5) := by decide +kernel
theorem d35_9 : decode jdk_44_method_5_code 9 = .ok (.iload_n 1, 1) := by decide +kernel
theorem d35_10 : decode jdk_44_method_5_code 10 = .ok (.iconst 1, 1) := by decide +kernel
theorem d35_11 : decode jdk_44_method_5_code 11 = .ok (.if_icmp .ne 18, 3) := by decide +kernel
theorem d35_14 : decode jdk_44_method_5_code 14 = .ok (.aload_n 0, 1) := by decide +kernel
theorem d35_15 : decode jdk_44_method_5_code 15 = .ok (.getfield 24, 3) := by decide +kernel
theorem d35_18 : decode jdk_44_method_5_code 18 = .ok (.getstatic 19, 3) := by decide +kernel
theorem d35_21 : decode jdk_44_method_5_code 21 = .ok (.if_acmp .eq 8, 3) := by decide +kernel
theorem d35_24 : decode jdk_44_method_5_code 24 = .ok (.aload_n 0, 1) := by decide +kernel
theorem d35_25 : decode jdk_44_method_5_code 25 = .ok (.getfield 24, 3) := by decide +kernel
theorem d35_28 : decode jdk_44_method_5_code 28 = .ok (.areturn, 1) := by decide +kernel
def Q35_1 (Z : State) (m_OA : Addr) (w_EMPTY_ELEMENTDATA : Addr) (w_DEFAULTCAPACITY_EMPTY_ELEMENTDATA : Addr) (w_EMPTY_LIST : Addr) (w_EMPTY_LIST_elements : Addr) (w_EMPTY : Addr) (k_w_EMPTY_ELEMENTDATA : ClassId) (k_w_DEFAULTCAPACITY_EMPTY_ELEMENTDATA : ClassId) (k_w_EMPTY_LIST_elements : ClassId) (a1 : Addr) (a2 : Addr) (h0 : Heap) (n0 : Nat) (v : Option Value) (h : Heap) (L : List Loc) : Prop := v = some (.ref a2) ∧ Fr n0 L ∧ h = h0
theorem ef35_1 (m : MethodId) (x0 : Addr) : entryFrame m #[(.ref x0), (.int (1 : Int32))] 2 = mkF m 0 #[.val (.ref x0), .val (.int (1 : Int32))] [] := by first | (simp [entryFrame, mkF, argsToLocals, Value.category]; done) | rfl
set_option maxRecDepth 65536 in
set_option maxHeartbeats 40000000 in
theorem rm35_1 (l : Launch) (Z : State) (a0 : Array Value) (hw : ∀ d ∈ tables_1, d.before a0 Z = true) (ws : List Jvm.Cond) {m_OA : Addr} {w_EMPTY_ELEMENTDATA : Addr} {w_DEFAULTCAPACITY_EMPTY_ELEMENTDATA : Addr} {w_EMPTY_LIST : Addr} {w_EMPTY_LIST_elements : Addr} {w_EMPTY : Addr} {k_w_EMPTY_ELEMENTDATA : ClassId} {k_w_DEFAULTCAPACITY_EMPTY_ELEMENTDATA : ClassId} {k_w_EMPTY_LIST_elements : ClassId} (G : Glob Z m_OA w_EMPTY_ELEMENTDATA w_DEFAULTCAPACITY_EMPTY_ELEMENTDATA w_EMPTY_LIST w_EMPTY_LIST_elements w_EMPTY k_w_EMPTY_ELEMENTDATA k_w_DEFAULTCAPACITY_EMPTY_ELEMENTDATA k_w_EMPTY_LIST_elements) (a1 : Addr) (a2 : Addr) (h0 : Heap) (n0 : Nat) (O0 : Old Z n0 h0) (F_e1_a1 : Fld Z h0 a1 "java/util/ImmutableCollections$List12" "e1" "Ljava/lang/Object;" (.ref a2)) (E_a2 : Exa Z h0 a2 "com/example/curtail/curtail/Placement$Cell") :
    MetFree l (⟨"java/util/ImmutableCollections$List12", "get", "(I)Ljava/lang/Object;"⟩ : MethodName) (head1 (Jvm.Cond.code (⟨"java/util/ImmutableCollections$List12", "get", "(I)Ljava/lang/Object;"⟩ : MethodName) jdk_44_method_5_code 2 (some (.object "java/lang/Object")) :: ws) ({ frames := 0, cells := 0, slots := 0, locals := 0 } : Room)) (fun a U => a = #[(.ref a1), (.int (1 : Int32))] ∧ Z.Warmed39 U.vm ∧ U.heap = h0) (fun _ _ _ _ _ => True) (fun _ U o U' => ∃ v L, o = .returned v ∧ Q35_1 Z m_OA w_EMPTY_ELEMENTDATA w_DEFAULTCAPACITY_EMPTY_ELEMENTDATA w_EMPTY_LIST w_EMPTY_LIST_elements w_EMPTY k_w_EMPTY_ELEMENTDATA k_w_DEFAULTCAPACITY_EMPTY_ELEMENTDATA k_w_EMPTY_LIST_elements a1 a2 h0 n0 v U'.heap L ∧ FrameEnd U o U' L ({ frames := 0, cells := 0, slots := 0, locals := 0 } : Room).cells ({ frames := 0, cells := 0, slots := 0, locals := 0 } : Room).slots) := by
  refine MetFree.of_bodySF (plainFor_of_name pn_java_util_ImmutableCollections_List12) hisR ?_
  intro p e s m args below meth c s₁ Bd hml0 hP hK
  obtain ⟨rfl, hZ, hh⟩ := hP
  have hx := Bd.exec
  have hby := Bd.bytes
  have hml : c.maxLocals = 2 := hml0
  have hown : s.vm.findClass "java/util/ImmutableCollections$List12" = some m.cls := findClass_of_methodNamed Bd.named
  have hnm := (name_of_methodNamed Bd.named Bd.method).1
  have X0 : Stand p l e ({ frames := 0, cells := 0, slots := 0, locals := 0 } : Room) s m #[(.ref a1), (.int (1 : Int32))] below meth c s₁ [] 0 0 := Stand.of_body Bd
  have e0 : s₁.heap = h0 := by rw [← hh, Bd.state]; rfl
  have N0 := Fr.nil n0
  show OGot p.tables e below (s₁.setTop (entryFrame m #[(.ref a1), (.int (1 : Int32))] 2)) _
  refine OGot.go (fun t k => castTop (ef35_1 m a1) k) ?_
  show OGot p.tables e below (s₁.setTop (mkF m 0 #[.val (.ref a1), .val (.int (1 : Int32))] [])) _
  refine OGot.go (fun t k => XS.iloadN X0.here hx rfl (hb hby d35_0) rfl k) ?_
  refine OGot.go (fun t k => XS.ifYes X0.here hx rfl (pc0 := 1) (pc' := 9) rfl (hb hby d35_1) rfl (by decide) (by decide) (by decide) k) ?_
  refine OGot.go (fun t k => XS.iloadN X0.here hx rfl (hb hby d35_9) rfl k) ?_
  refine OGot.go (fun t k => XS.iconst X0.here hx rfl (hb hby d35_10) k) ?_
  refine OGot.go (fun t k => XS.icmpNo X0.here hx rfl (hb hby d35_11) rfl (by decide) k) ?_
  show OGot p.tables e below (s₁.setTop (mkF m 14 #[.val (.ref a1), .val (.int (1 : Int32))] [])) _
  refine OGot.go (fun t k => XS.aloadN X0.here hx rfl (hb hby d35_14) rfl rfl k) ?_
  obtain ⟨T3, X3, e3, st3⟩ := getF X0 hx hZ hown (host := "") (Or.inl (ow hw 232 rfl)) Via.refl e0 F_e1_a1 (g := (mkF m 15 #[.val (.ref a1), .val (.int (1 : Int32))] [(.ref a1)])) rfl rfl (hb hby d35_15)
  refine OGot.go st3 ?_
  obtain ⟨T4, X4, e4, st4⟩ := getS2 X3 hx hZ hown (Or.inr (ow hw 240 rfl)) Via.refl e3 (G.2.2.2.2.2.2.2.2.2.1.ext O0.2) (g := (mkF m 18 #[.val (.ref a1), .val (.int (1 : Int32))] [(.ref a2)])) rfl (hb hby d35_18)
  refine OGot.go st4 ?_
  have ne5 : a2 ≠ w_EMPTY := (ne_exa E_a2 (G.2.2.2.2.2.2.2.2.2.2.1.ext O0.2) (by decide))
  refine OGot.go (fun t k => Jvm.RoadKit.acmp (g := (mkF m 21 #[.val (.ref a1), .val (.int (1 : Int32))] [(.ref w_EMPTY), (.ref a2)])) X4 hx rfl rfl rfl (pc0 := 21) (pc' := 24) (same := false) rfl (hb hby d35_21) rfl (decide_eq_false fun q => ne5 (Value.ref.inj q)) (by decide) (by decide) k) ?_
  refine OGot.go (fun t k => XS.aloadN X4.here hx rfl (hb hby d35_24) rfl rfl k) ?_
  show OGot p.tables e below (T4.setTop (mkF m 25 #[.val (.ref a1), .val (.int (1 : Int32))] [(.ref a1)])) _
  obtain ⟨T6, X6, e6, st6⟩ := getF X4 hx hZ hown (host := "") (Or.inl (ow hw 232 rfl)) Via.refl e4 F_e1_a1 (g := (mkF m 25 #[.val (.ref a1), .val (.int (1 : Int32))] [(.ref a1)])) rfl rfl (hb hby d35_25)
  refine OGot.go st6 ?_
  show OGot p.tables e below (T6.setTop (mkF m 28 #[.val (.ref a1), .val (.int (1 : Int32))] [(.ref a2)])) _
  obtain ⟨fs, hr, hrun, hended, hW, hsame⟩ := X6.leave (v := some (.ref a2)) (fun h => by rw [Bd.returns] at h; cases h)
  refine ⟨_, _, oretA X6 hx Bd.returns rfl rfl (hb hby d35_28) hr, hrun, hended, _, _, rfl, ?_, ⟨_, rfl⟩, hW, hsame.mono (by decide) (by decide)⟩
  exact (⟨rfl, N0, e6⟩ : Q35_1 Z m_OA w_EMPTY_ELEMENTDATA w_DEFAULTCAPACITY_EMPTY_ELEMENTDATA w_EMPTY_LIST w_EMPTY_LIST_elements w_EMPTY k_w_EMPTY_ELEMENTDATA k_w_DEFAULTCAPACITY_EMPTY_ELEMENTDATA k_w_EMPTY_LIST_elements a1 a2 h0 n0 _ T6.heap _)
theorem d5_28 : decode prog_14_method_1_code 28 = .ok (.checkcast 21, 3) := by decide +kernel
theorem d5_31 : decode prog_14_method_1_code 31 = .ok (.invokevirtual 23, 3) := by decide +kernel
theorem d5_34 : decode prog_14_method_1_code 34 = .ok (.aload_n 1, 1) := by decide +kernel
theorem d5_35 : decode prog_14_method_1_code 35 = .ok (.iload_n 2, 1) := by decide +kernel
theorem d5_36 : decode prog_14_method_1_code 36 = .ok (.iconst 1, 1) := by decide +kernel
theorem d5_37 : decode prog_14_method_1_code 37 = .ok (.isub, 1) := by decide +kernel
theorem d5_38 : decode prog_14_method_1_code 38 = .ok (.invokeinterface 17 2, 5) := by decide +kernel
theorem d5_43 : decode prog_14_method_1_code 43 = .ok (.checkcast 21, 3) := by decide +kernel
theorem d5_46 : decode prog_14_method_1_code 46 = .ok (.invokevirtual 23, 3) := by decide +kernel
theorem d5_49 : decode prog_14_method_1_code 49 = .ok (.if_icmp .gt 20, 3) := by decide +kernel
theorem d5_69 : decode prog_14_method_1_code 69 = .ok (.iinc 2 1, 3) := by decide +kernel
theorem d5_72 : decode prog_14_method_1_code 72 = .ok (.goto (-61), 3) := by decide +kernel
def Q5_2 (Z : State) (m_OA : Addr) (w_EMPTY_ELEMENTDATA : Addr) (w_DEFAULTCAPACITY_EMPTY_ELEMENTDATA : Addr) (w_EMPTY_LIST : Addr) (w_EMPTY_LIST_elements : Addr) (w_EMPTY : Addr) (k_w_EMPTY_ELEMENTDATA : ClassId) (k_w_DEFAULTCAPACITY_EMPTY_ELEMENTDATA : ClassId) (k_w_EMPTY_LIST_elements : ClassId) (a1 : Addr) (a2 : Addr) (a4 : Addr) (k5 : ClassId) (a6 : Addr) (a7 : Addr) (p12 : Int32) (p17 : Int32) (h0 : Heap) (n0 : Nat) (v : Option Value) (h : Heap) (L : List Loc) : Prop := Fr n0 L ∧ ∃ b6_10_6_8 : Addr, v = none ∧ h0.size ≤ b6_10_6_8 ∧ OKeep h0 h [(a1, Jvm.RoadKit.slotOf Z "com/example/curtail/curtail/Placement" "aCells" "Ljava/util/List;")] ∧ Fld Z h a1 "com/example/curtail/curtail/Placement" "aCells" "Ljava/util/List;" (.ref b6_10_6_8) ∧ Exa Z h b6_10_6_8 "java/util/ImmutableCollections$List12" ∧ Fld Z h b6_10_6_8 "java/util/ImmutableCollections$List12" "e0" "Ljava/lang/Object;" (.ref a6) ∧ Fld Z h b6_10_6_8 "java/util/ImmutableCollections$List12" "e1" "Ljava/lang/Object;" (.ref a7)
theorem ef5_2 (m : MethodId) (x0 : Addr) (x1 : Addr) : entryFrame m #[(.ref x0), (.ref x1)] 3 = mkF m 0 #[.val (.ref x0), .val (.ref x1), .unset] [] := by first | (simp [entryFrame, mkF, argsToLocals, Value.category]; done) | rfl
set_option maxRecDepth 65536 in
set_option maxHeartbeats 40000000 in
theorem rm5_2 (l : Launch) (Z : State) (a0 : Array Value) (hw : ∀ d ∈ tables_1, d.before a0 Z = true) (ws : List Jvm.Cond) {m_OA : Addr} {w_EMPTY_ELEMENTDATA : Addr} {w_DEFAULTCAPACITY_EMPTY_ELEMENTDATA : Addr} {w_EMPTY_LIST : Addr} {w_EMPTY_LIST_elements : Addr} {w_EMPTY : Addr} {k_w_EMPTY_ELEMENTDATA : ClassId} {k_w_DEFAULTCAPACITY_EMPTY_ELEMENTDATA : ClassId} {k_w_EMPTY_LIST_elements : ClassId} (G : Glob Z m_OA w_EMPTY_ELEMENTDATA w_DEFAULTCAPACITY_EMPTY_ELEMENTDATA w_EMPTY_LIST w_EMPTY_LIST_elements w_EMPTY k_w_EMPTY_ELEMENTDATA k_w_DEFAULTCAPACITY_EMPTY_ELEMENTDATA k_w_EMPTY_LIST_elements) (a1 : Addr) (a2 : Addr) (a4 : Addr) (k5 : ClassId) (a6 : Addr) (a7 : Addr) (p12 : Int32) (p17 : Int32) (h0 : Heap) (n0 : Nat) (O0 : Old Z n0 h0) (E_a2 : Exa Z h0 a2 "java/util/ArrayList") (F_size_a2 : Fld Z h0 a2 "java/util/ArrayList" "size" "I" (.int (2 : Int32))) (F_elementData_a2 : Fld Z h0 a2 "java/util/ArrayList" "elementData" "[Ljava/lang/Object;" (.ref a4)) (E_a4 : Exa Z h0 a4 "[Ljava/lang/Object;") (V_a4 : Arv Z h0 a4 k5 (.object "java/lang/Object") (10 : Int32) [(.ref a6), (.ref a7), .null, .null, .null, .null, .null, .null, .null, .null] .null) (O_k5 : Ovr Z k5 "java/lang/Object") (E_a7 : Exa Z h0 a7 "com/example/curtail/curtail/Placement$Cell") (E_a6 : Exa Z h0 a6 "com/example/curtail/curtail/Placement$Cell") (F_nSlot_a7 : Fld Z h0 a7 "com/example/curtail/curtail/Placement$Cell" "nSlot" "I" (.int p12)) (F_nSlot_a6 : Fld Z h0 a6 "com/example/curtail/curtail/Placement$Cell" "nSlot" "I" (.int p17)) (hc_1 : p17 < p12) (E_a1 : Exa Z h0 a1 "com/example/curtail/curtail/Placement") (F_aCells_a1 : Fld Z h0 a1 "com/example/curtail/curtail/Placement" "aCells" "Ljava/util/List;" .null) (g_a1 : n0 ≤ a1) :
    MetFree l (⟨"com/example/curtail/curtail/Placement", "<init>", "(Ljava/util/List;)V"⟩ : MethodName) (head1 (Jvm.Cond.code (⟨"com/example/curtail/curtail/Placement", "<init>", "(Ljava/util/List;)V"⟩ : MethodName) prog_14_method_1_code 3 none :: ws) ({ frames := 8, cells := 2, slots := 4, locals := 101 } : Room)) (fun a U => a = #[(.ref a1), (.ref a2)] ∧ Z.Warmed39 U.vm ∧ U.heap = h0) (fun _ _ _ _ _ => True) (fun _ U o U' => ∃ v L, o = .returned v ∧ Q5_2 Z m_OA w_EMPTY_ELEMENTDATA w_DEFAULTCAPACITY_EMPTY_ELEMENTDATA w_EMPTY_LIST w_EMPTY_LIST_elements w_EMPTY k_w_EMPTY_ELEMENTDATA k_w_DEFAULTCAPACITY_EMPTY_ELEMENTDATA k_w_EMPTY_LIST_elements a1 a2 a4 k5 a6 a7 p12 p17 h0 n0 v U'.heap L ∧ FrameEnd U o U' L ({ frames := 8, cells := 2, slots := 4, locals := 101 } : Room).cells ({ frames := 8, cells := 2, slots := 4, locals := 101 } : Room).slots) := by
  refine MetFree.of_bodySF (plainFor_of_name pn_com_example_curtail_curtail_Placement) hisR ?_
  intro p e s m args below meth c s₁ Bd hml0 hP hK
  obtain ⟨rfl, hZ, hh⟩ := hP
  have hx := Bd.exec
  have hby := Bd.bytes
  have hml : c.maxLocals = 3 := hml0
  have hown : s.vm.findClass "com/example/curtail/curtail/Placement" = some m.cls := findClass_of_methodNamed Bd.named
  have hnm := (name_of_methodNamed Bd.named Bd.method).1
  have X0 : Stand p l e ({ frames := 8, cells := 2, slots := 4, locals := 101 } : Room) s m #[(.ref a1), (.ref a2)] below meth c s₁ [] 0 0 := Stand.of_body Bd
  have e0 : s₁.heap = h0 := by rw [← hh, Bd.state]; rfl
  have N0 := Fr.nil n0
  show OGot p.tables e below (s₁.setTop (entryFrame m #[(.ref a1), (.ref a2)] 3)) _
  refine OGot.go (fun t k => castTop (ef5_2 m a1 a2) k) ?_
  show OGot p.tables e below (s₁.setTop (mkF m 0 #[.val (.ref a1), .val (.ref a2), .unset] [])) _
  refine OGot.go (fun t k => XS.aloadN X0.here hx rfl (hb hby d5_0) rfl rfl k) ?_
  obtain ⟨_, _, ⟨T3, L3, k3, n3⟩, -, X3, ⟨Lc3, hQ3, l3, y3, z3⟩, st3⟩ := X0.specialBack hx (y := (⟨"java/lang/Record", "<init>", "()V"⟩ : MethodName)) rfl hown (mvT hZ (ow hw 32 rfl)) (mvT hZ (ow hw 33 rfl)) (mvT hZ (ow hw 36 rfl)) (by decide) (backOf (W := 0) (rm6 l Z a0 hw [] G a1 h0 n0 O0 ) hZ (ow hw 36 rfl) (ow hw 35 rfl) (by decide) (by decide)) (g := (mkF m 1 #[.val (.ref a1), .val (.ref a2), .unset] [(.ref a1)])) rfl (by rw [hml]; rfl) (Steps.refl _) (a := a1) (argsL := []) (rest := []) (lenOf pd_0 rfl) rfl (by show 2 * 0 + _ ≤ _; exact Nat.le_of_eq rfl) (hb hby d5_1) (fun _ _ => ⟨rfl, e0, (by decide : 0 + 0 ≤ _), (by decide : 0 + 0 ≤ _)⟩)
  dsimp only [Pt.U, Pt.locs, Pt.cells, Pt.slots] at X3 l3 y3 z3 st3 hQ3
  subst l3 y3 z3
  obtain ⟨rfl, N3q, e3⟩ := hQ3
  have N3 := Fr.app N0 N3q
  refine OGot.on st3 ?_
  refine OGot.go (fun t k => XS.aloadN X3.here hx rfl (hb hby d5_4) rfl rfl k) ?_
  obtain ⟨_, _, ⟨T8, L8, k8, n8⟩, -, X8, ⟨Lc8, hQ8, l8, y8, z8⟩, st8⟩ := Jvm.LawKit.callS X3 hx (y := (⟨"java/util/List", "copyOf", "(Ljava/util/Collection;)Ljava/util/List;"⟩ : MethodName)) hown (mvT hZ (ow hw 38 rfl)) (mvT hZ (ow hw 39 rfl)) (mvT hZ (ow hw 40 rfl)) (mvT hZ (ow hw 41 rfl)) (by decide) (backOf (W := 0) (rm7_2 l Z a0 hw [] G a2 a4 k5 a6 a7 h0 n0 O0 E_a2 F_size_a2 F_elementData_a2 E_a4 V_a4 O_k5 E_a7 E_a6) hZ (ow hw 41 rfl) (ow hw 40 rfl) (by decide) (by decide)) (g := (mkF m 5 #[.val (.ref a1), .val (.ref a2), .unset] [(.ref a2)])) rfl (by rw [hml]; rfl) (argsL := [(.ref a2)]) (rest := []) (lenOf pd_3 rfl) rfl (by show 2 * 0 + _ ≤ _; exact Nat.le_of_eq rfl) (hb hby d5_5) (fun _ _ => ⟨rfl, e3, (by decide : 0 + 2 ≤ _), (by decide : 0 + 4 ≤ _)⟩)
  dsimp only [Pt.U, Pt.locs, Pt.cells, Pt.slots] at X8 l8 y8 z8 st8 hQ8
  subst l8 y8 z8
  obtain ⟨N8q, b6_10_6_8, rfl, szb6_10_6_8_8, K8, Fo8_0, Fo8_1, Fo8_2⟩ := hQ8
  have g_b6_10_6_8 : n0 ≤ b6_10_6_8 := Nat.le_trans (osz O0) szb6_10_6_8_8
  have sz_b6_10_6_8 : h0.size ≤ b6_10_6_8 := Nat.le_trans (OKeep.refl h0 [(a1, Jvm.RoadKit.slotOf Z "com/example/curtail/curtail/Placement" "aCells" "Ljava/util/List;")]).1 szb6_10_6_8_8
  have Kc8 := (OKeep.refl h0 [(a1, Jvm.RoadKit.slotOf Z "com/example/curtail/curtail/Placement" "aCells" "Ljava/util/List;")]).trans K8 oin0
  have O8 := OKeep.old O0 K8 oge0
  have N8 := Fr.app N3 N8q
  refine OGot.go st8 ?_
  refine OGot.go (fun t k => XS.astoreN X8.here hx rfl (hb hby d5_8) rfl rfl (l' := #[.val (.ref a1), .val (.ref b6_10_6_8), .unset]) rfl k) ?_
  show OGot p.tables e below (T8.setTop (mkF m 9 #[.val (.ref a1), .val (.ref b6_10_6_8), .unset] [])) _
  refine OGot.go (fun t k => XS.iconst X8.here hx rfl (hb hby d5_9) k) ?_
  refine OGot.go (fun t k => XS.istoreN X8.here hx rfl (hb hby d5_10) rfl (l' := #[.val (.ref a1), .val (.ref b6_10_6_8), .val (.int (1 : Int32))]) rfl k) ?_
  refine OGot.go (fun t k => XS.iloadN X8.here hx rfl (hb hby d5_11) rfl k) ?_
  refine OGot.go (fun t k => XS.aloadN X8.here hx rfl (hb hby d5_12) rfl rfl k) ?_
  obtain ⟨cq9, kq9, q9a, q9b, q9c⟩ := isOf hZ rfl Fo8_0
  obtain ⟨_, _, ⟨T9, L9, k9, n9⟩, -, X9, ⟨Lc9, hQ9, l9, y9, z9⟩, st9⟩ := X8.interfaceBack hx (xi := (⟨"java/util/List", "size", "()I"⟩ : MethodName)) (y := (⟨"java/util/ImmutableCollections$List12", "size", "()I"⟩ : MethodName)) hown (mvT hZ (ow hw 67 rfl)) (mvT hZ (ow hw 68 rfl)) (mvT hZ (ow hw 69 rfl)) (mvT hZ (ow hw 234 rfl)) (mvT hZ (ow hw 235 rfl)) (mvT hZ (ow hw 236 rfl)) (mvT hZ (ow hw 237 rfl)) (mvT hZ (ow hw 238 rfl)) (by decide) (backOf (W := 1) (rm34_1 l Z a0 hw [] G b6_10_6_8 a7 T8.heap n0 O8 Fo8_2 (OKeep.exa E_a7 K8)) hZ (ow hw 239 rfl) (ow hw 220 rfl) (by decide) (by decide)) q9a q9b q9c (g := (mkF m 13 #[.val (.ref a1), .val (.ref b6_10_6_8), .val (.int (1 : Int32))] [(.ref b6_10_6_8), (.int (1 : Int32))])) rfl (by rw [hml]; rfl) (Steps.refl _) (argsL := []) (rest := [(.int (1 : Int32))]) (lenOf pd_4 rfl) rfl (by show 2 * 0 + _ ≤ _; exact Nat.le_of_eq rfl) (hb hby d5_13) (fun _ _ => ⟨rfl, rfl, (by decide : 2 + 0 ≤ _), (by decide : 4 + 0 ≤ _)⟩)
  dsimp only [Pt.U, Pt.locs, Pt.cells, Pt.slots] at X9 l9 y9 z9 st9 hQ9
  subst l9 y9 z9
  obtain ⟨rfl, N9q, e9⟩ := hQ9
  have N9 := Fr.app N8 N9q
  refine OGot.on st9 ?_
  show OGot p.tables e below (T9.setTop (mkF m 18 #[.val (.ref a1), .val (.ref b6_10_6_8), .val (.int (1 : Int32))] [(.int (2 : Int32)), (.int (1 : Int32))])) _
  refine OGot.go (fun t k => XS.icmpNo X9.here hx rfl (hb hby d5_18) rfl (by decide) k) ?_
  refine OGot.go (fun t k => XS.aloadN X9.here hx rfl (hb hby d5_21) rfl rfl k) ?_
  refine OGot.go (fun t k => XS.iloadN X9.here hx rfl (hb hby d5_22) rfl k) ?_
  obtain ⟨cq10, kq10, q10a, q10b, q10c⟩ := isOf hZ e9 Fo8_0
  obtain ⟨_, _, ⟨T10, L10, k10, n10⟩, -, X10, ⟨Lc10, hQ10, l10, y10, z10⟩, st10⟩ := X9.interfaceBack hx (xi := (⟨"java/util/List", "get", "(I)Ljava/lang/Object;"⟩ : MethodName)) (y := (⟨"java/util/ImmutableCollections$List12", "get", "(I)Ljava/lang/Object;"⟩ : MethodName)) hown (mvT hZ (ow hw 198 rfl)) (mvT hZ (ow hw 199 rfl)) (mvT hZ (ow hw 200 rfl)) (mvT hZ (ow hw 241 rfl)) (mvT hZ (ow hw 242 rfl)) (mvT hZ (ow hw 243 rfl)) (mvT hZ (ow hw 244 rfl)) (mvT hZ (ow hw 238 rfl)) (by decide) (backOf (W := 0) (rm35_1 l Z a0 hw [] G b6_10_6_8 a7 T8.heap n0 O8 Fo8_2 (OKeep.exa E_a7 K8)) hZ (ow hw 245 rfl) (ow hw 220 rfl) (by decide) (by decide)) q10a q10b q10c (g := (mkF m 23 #[.val (.ref a1), .val (.ref b6_10_6_8), .val (.int (1 : Int32))] [(.int (1 : Int32)), (.ref b6_10_6_8)])) rfl (by rw [hml]; rfl) (Steps.refl _) (argsL := [(.int (1 : Int32))]) (rest := []) (lenOf pd_17 rfl) rfl (by show 2 * 0 + _ ≤ _; exact Nat.le_of_eq rfl) (hb hby d5_23) (fun _ _ => ⟨rfl, e9, (by decide : 2 + 0 ≤ _), (by decide : 4 + 0 ≤ _)⟩)
  dsimp only [Pt.U, Pt.locs, Pt.cells, Pt.slots] at X10 l10 y10 z10 st10 hQ10
  subst l10 y10 z10
  obtain ⟨rfl, N10q, e10⟩ := hQ10
  have N10 := Fr.app N9 N10q
  refine OGot.on st10 ?_
  obtain ⟨T11, X11, e11, st11⟩ := castY X10 hx hZ hown (ow hw 206 rfl) e10 (Ins.self (OKeep.exa E_a7 K8)) (g := (mkF m 28 #[.val (.ref a1), .val (.ref b6_10_6_8), .val (.int (1 : Int32))] [(.ref a7)])) rfl rfl (hb hby d5_28)
  refine OGot.go st11 ?_
  show OGot p.tables e below (T11.setTop (mkF m 31 #[.val (.ref a1), .val (.ref b6_10_6_8), .val (.int (1 : Int32))] [(.ref a7)])) _
  have F14 : Fld Z T8.heap a7 "com/example/curtail/curtail/Placement$Cell" "nSlot" "I" (.int p12) := (OKeep.fld F_nSlot_a7 K8 onin0)
  obtain ⟨cq13, kq13, q13a, q13b, q13c⟩ := isOf hZ e11 (OKeep.exa E_a7 K8)
  obtain ⟨_, _, ⟨T13, L13, k13, n13⟩, -, X13, ⟨Lc13, hQ13, l13, y13, z13⟩, st13⟩ := X11.virtualBack hx (y := (⟨"com/example/curtail/curtail/Placement$Cell", "nSlot", "()I"⟩ : MethodName)) (z := (⟨"com/example/curtail/curtail/Placement$Cell", "nSlot", "()I"⟩ : MethodName)) hown (mvT hZ (ow hw 208 rfl)) (mvT hZ (ow hw 209 rfl)) (notFace_of_selects (args := #[]) (mvT hZ (ow hw 211 rfl))) (mvT hZ (ow hw 211 rfl)) (mvT hZ (ow hw 210 rfl)) (by decide) (backOf (W := 0) (rm31 l Z a0 hw [] G a7 p12 T8.heap n0 O8 F14) hZ (ow hw 212 rfl) (ow hw 98 rfl) (by decide) (by decide)) q13a q13c (g := (mkF m 31 #[.val (.ref a1), .val (.ref b6_10_6_8), .val (.int (1 : Int32))] [(.ref a7)])) rfl (by rw [hml]; rfl) (Steps.refl _) (argsL := []) (rest := []) (lenOf pd_4 rfl) rfl (by show 2 * 0 + _ ≤ _; exact Nat.le_of_eq rfl) (hb hby d5_31) (fun _ _ => ⟨rfl, e11, (by decide : 2 + 0 ≤ _), (by decide : 4 + 0 ≤ _)⟩)
  dsimp only [Pt.U, Pt.locs, Pt.cells, Pt.slots] at X13 l13 y13 z13 st13 hQ13
  subst l13 y13 z13
  obtain ⟨rfl, N13q, e13⟩ := hQ13
  have N13 := Fr.app N10 N13q
  refine OGot.on st13 ?_
  refine OGot.go (fun t k => XS.aloadN X13.here hx rfl (hb hby d5_34) rfl rfl k) ?_
  refine OGot.go (fun t k => XS.iloadN X13.here hx rfl (hb hby d5_35) rfl k) ?_
  refine OGot.go (fun t k => XS.iconst X13.here hx rfl (hb hby d5_36) k) ?_
  refine OGot.go (fun t k => XS.isub X13.here hx rfl (hb hby d5_37) rfl k) ?_
  show OGot p.tables e below (T13.setTop (mkF m 38 #[.val (.ref a1), .val (.ref b6_10_6_8), .val (.int (1 : Int32))] [(.int ((1 : Int32) - (1 : Int32))), (.ref b6_10_6_8), (.int p12)])) _
  rw [show ((1 : Int32) - (1 : Int32)) = (0 : Int32) from by decide]
  show OGot p.tables e below (T13.setTop (mkF m 38 #[.val (.ref a1), .val (.ref b6_10_6_8), .val (.int (1 : Int32))] [(.int (0 : Int32)), (.ref b6_10_6_8), (.int p12)])) _
  obtain ⟨cq15, kq15, q15a, q15b, q15c⟩ := isOf hZ e13 Fo8_0
  obtain ⟨_, _, ⟨T15, L15, k15, n15⟩, -, X15, ⟨Lc15, hQ15, l15, y15, z15⟩, st15⟩ := X13.interfaceBack hx (xi := (⟨"java/util/List", "get", "(I)Ljava/lang/Object;"⟩ : MethodName)) (y := (⟨"java/util/ImmutableCollections$List12", "get", "(I)Ljava/lang/Object;"⟩ : MethodName)) hown (mvT hZ (ow hw 198 rfl)) (mvT hZ (ow hw 199 rfl)) (mvT hZ (ow hw 200 rfl)) (mvT hZ (ow hw 241 rfl)) (mvT hZ (ow hw 242 rfl)) (mvT hZ (ow hw 243 rfl)) (mvT hZ (ow hw 244 rfl)) (mvT hZ (ow hw 238 rfl)) (by decide) (backOf (W := 1) (rm35 l Z a0 hw [] G b6_10_6_8 a6 T8.heap n0 O8 Fo8_1) hZ (ow hw 245 rfl) (ow hw 220 rfl) (by decide) (by decide)) q15a q15b q15c (g := (mkF m 38 #[.val (.ref a1), .val (.ref b6_10_6_8), .val (.int (1 : Int32))] [(.int (0 : Int32)), (.ref b6_10_6_8), (.int p12)])) rfl (by rw [hml]; rfl) (Steps.refl _) (argsL := [(.int (0 : Int32))]) (rest := [(.int p12)]) (lenOf pd_17 rfl) rfl (by show 2 * 0 + _ ≤ _; exact Nat.le_of_eq rfl) (hb hby d5_38) (fun _ _ => ⟨rfl, e13, (by decide : 2 + 0 ≤ _), (by decide : 4 + 0 ≤ _)⟩)
  dsimp only [Pt.U, Pt.locs, Pt.cells, Pt.slots] at X15 l15 y15 z15 st15 hQ15
  subst l15 y15 z15
  obtain ⟨rfl, N15q, e15⟩ := hQ15
  have N15 := Fr.app N13 N15q
  refine OGot.on st15 ?_
  obtain ⟨T16, X16, e16, st16⟩ := castY X15 hx hZ hown (ow hw 206 rfl) e15 (Ins.self (OKeep.exa E_a6 K8)) (g := (mkF m 43 #[.val (.ref a1), .val (.ref b6_10_6_8), .val (.int (1 : Int32))] [(.ref a6), (.int p12)])) rfl rfl (hb hby d5_43)
  refine OGot.go st16 ?_
  have F19 : Fld Z T8.heap a6 "com/example/curtail/curtail/Placement$Cell" "nSlot" "I" (.int p17) := (OKeep.fld F_nSlot_a6 K8 onin0)
  obtain ⟨cq18, kq18, q18a, q18b, q18c⟩ := isOf hZ e16 (OKeep.exa E_a6 K8)
  obtain ⟨_, _, ⟨T18, L18, k18, n18⟩, -, X18, ⟨Lc18, hQ18, l18, y18, z18⟩, st18⟩ := X16.virtualBack hx (y := (⟨"com/example/curtail/curtail/Placement$Cell", "nSlot", "()I"⟩ : MethodName)) (z := (⟨"com/example/curtail/curtail/Placement$Cell", "nSlot", "()I"⟩ : MethodName)) hown (mvT hZ (ow hw 208 rfl)) (mvT hZ (ow hw 209 rfl)) (notFace_of_selects (args := #[]) (mvT hZ (ow hw 211 rfl))) (mvT hZ (ow hw 211 rfl)) (mvT hZ (ow hw 210 rfl)) (by decide) (backOf (W := 1) (rm31 l Z a0 hw [] G a6 p17 T8.heap n0 O8 F19) hZ (ow hw 212 rfl) (ow hw 98 rfl) (by decide) (by decide)) q18a q18c (g := (mkF m 46 #[.val (.ref a1), .val (.ref b6_10_6_8), .val (.int (1 : Int32))] [(.ref a6), (.int p12)])) rfl (by rw [hml]; rfl) (Steps.refl _) (argsL := []) (rest := [(.int p12)]) (lenOf pd_4 rfl) rfl (by show 2 * 0 + _ ≤ _; exact Nat.le_of_eq rfl) (hb hby d5_46) (fun _ _ => ⟨rfl, e16, (by decide : 2 + 0 ≤ _), (by decide : 4 + 0 ≤ _)⟩)
  dsimp only [Pt.U, Pt.locs, Pt.cells, Pt.slots] at X18 l18 y18 z18 st18 hQ18
  subst l18 y18 z18
  obtain ⟨rfl, N18q, e18⟩ := hQ18
  have N18 := Fr.app N15 N18q
  refine OGot.on st18 ?_
  refine OGot.go (fun t k => XS.icmpYes X18.here hx rfl (pc0 := 49) (pc' := 69) rfl (hb hby d5_49) rfl (tlt hc_1).2.2.1 (by decide) (by decide) k) ?_
  refine OGot.go (fun t k => XS.iinc X18.here hx rfl (hb hby d5_69) rfl (l' := #[.val (.ref a1), .val (.ref b6_10_6_8), .val (.int (2 : Int32))]) rfl k) ?_
  show OGot p.tables e below (T18.setTop (mkF m 72 #[.val (.ref a1), .val (.ref b6_10_6_8), .val (.int (2 : Int32))] [])) _
  refine OGot.go (fun t k => XS.goto X18.here hx rfl (pc0 := 72) (pc' := 11) rfl (hb hby d5_72) (by decide) (by decide) k) ?_
  refine OGot.go (fun t k => XS.iloadN X18.here hx rfl (hb hby d5_11) rfl k) ?_
  refine OGot.go (fun t k => XS.aloadN X18.here hx rfl (hb hby d5_12) rfl rfl k) ?_
  obtain ⟨cq20, kq20, q20a, q20b, q20c⟩ := isOf hZ e18 Fo8_0
  obtain ⟨_, _, ⟨T20, L20, k20, n20⟩, -, X20, ⟨Lc20, hQ20, l20, y20, z20⟩, st20⟩ := X18.interfaceBack hx (xi := (⟨"java/util/List", "size", "()I"⟩ : MethodName)) (y := (⟨"java/util/ImmutableCollections$List12", "size", "()I"⟩ : MethodName)) hown (mvT hZ (ow hw 67 rfl)) (mvT hZ (ow hw 68 rfl)) (mvT hZ (ow hw 69 rfl)) (mvT hZ (ow hw 234 rfl)) (mvT hZ (ow hw 235 rfl)) (mvT hZ (ow hw 236 rfl)) (mvT hZ (ow hw 237 rfl)) (mvT hZ (ow hw 238 rfl)) (by decide) (backOf (W := 1) (rm34_1 l Z a0 hw [] G b6_10_6_8 a7 T8.heap n0 O8 Fo8_2 (OKeep.exa E_a7 K8)) hZ (ow hw 239 rfl) (ow hw 220 rfl) (by decide) (by decide)) q20a q20b q20c (g := (mkF m 13 #[.val (.ref a1), .val (.ref b6_10_6_8), .val (.int (2 : Int32))] [(.ref b6_10_6_8), (.int (2 : Int32))])) rfl (by rw [hml]; rfl) (Steps.refl _) (argsL := []) (rest := [(.int (2 : Int32))]) (lenOf pd_4 rfl) rfl (by show 2 * 0 + _ ≤ _; exact Nat.le_of_eq rfl) (hb hby d5_13) (fun _ _ => ⟨rfl, e18, (by decide : 2 + 0 ≤ _), (by decide : 4 + 0 ≤ _)⟩)
  dsimp only [Pt.U, Pt.locs, Pt.cells, Pt.slots] at X20 l20 y20 z20 st20 hQ20
  subst l20 y20 z20
  obtain ⟨rfl, N20q, e20⟩ := hQ20
  have N20 := Fr.app N18 N20q
  refine OGot.on st20 ?_
  refine OGot.go (fun t k => XS.icmpYes X20.here hx rfl (pc0 := 18) (pc' := 75) rfl (hb hby d5_18) rfl (by decide) (by decide) (by decide) k) ?_
  show OGot p.tables e below (T20.setTop (mkF m 75 #[.val (.ref a1), .val (.ref b6_10_6_8), .val (.int (2 : Int32))] [])) _
  refine OGot.go (fun t k => XS.aloadN X20.here hx rfl (hb hby d5_75) rfl rfl k) ?_
  refine OGot.go (fun t k => XS.aloadN X20.here hx rfl (hb hby d5_76) rfl rfl k) ?_
  have F21 : Fld Z T8.heap a1 "com/example/curtail/curtail/Placement" "aCells" "Ljava/util/List;" .null := (OKeep.fld F_aCells_a1 K8 onin0)
  obtain ⟨T22, h22, X22, e22, W22, st22⟩ := putF X20 hx hZ hown (host := "") (Or.inl (ow hw 79 rfl)) Via.refl e20 F21 (OKeep.exa E_a1 K8) (Or.inr ⟨(ow hw 80 rfl), rfl, hnm⟩) (ow hw 1 rfl) (ty := (.object "java/util/List")) (by decide) rfl rfl (g := (mkF m 77 #[.val (.ref a1), .val (.ref b6_10_6_8), .val (.int (2 : Int32))] [(.ref b6_10_6_8), (.ref a1)])) rfl rfl (hb hby d5_77)
  refine OGot.go st22 ?_
  have N22 := Fr.snoc X22 N20 g_a1
  have O22 := O8.wr W22 g_a1
  have K22 := Kc8.wr W22 (Or.inl (List.mem_of_getElem? (i := 0) rfl))
  have Fw22 : Fld Z h22 a1 "com/example/curtail/curtail/Placement" "aCells" "Ljava/util/List;" (.ref b6_10_6_8) := F21.same W22
  show OGot p.tables e below (T22.setTop (mkF m 80 #[.val (.ref a1), .val (.ref b6_10_6_8), .val (.int (2 : Int32))] [])) _
  obtain ⟨fs, hr, hrun, hended, hW, hsame⟩ := X22.leave (v := none) (fun _ => rfl)
  refine ⟨_, _, X22.returnOut hx Bd.returns (hb hby d5_80) hr, hrun, hended, _, _, rfl, ?_, ⟨_, rfl⟩, hW, hsame.mono (by decide) (by decide)⟩
  have ne23 : a1 ≠ b6_10_6_8 := (Nat.ne_of_lt (Nat.lt_of_lt_of_le E_a1.lt szb6_10_6_8_8))
  have F24 : Fld Z h22 b6_10_6_8 "java/util/ImmutableCollections$List12" "e0" "Ljava/lang/Object;" (.ref a6) := (Fo8_1.other W22 (Or.inl (Ne.symm ne23)))
  have F25 : Fld Z h22 b6_10_6_8 "java/util/ImmutableCollections$List12" "e1" "Ljava/lang/Object;" (.ref a7) := (Fo8_2.other W22 (Or.inl (Ne.symm ne23)))
  show Q5_2 Z m_OA w_EMPTY_ELEMENTDATA w_DEFAULTCAPACITY_EMPTY_ELEMENTDATA w_EMPTY_LIST w_EMPTY_LIST_elements w_EMPTY k_w_EMPTY_ELEMENTDATA k_w_DEFAULTCAPACITY_EMPTY_ELEMENTDATA k_w_EMPTY_LIST_elements a1 a2 a4 k5 a6 a7 p12 p17 h0 n0 _ T22.heap _
  rw [e22]
  exact ⟨N22, b6_10_6_8, rfl, sz_b6_10_6_8, K22, Fw22, (Fo8_0.wr W22), F24, F25⟩
def Q32_1 (Z : State) (m_OA : Addr) (w_EMPTY_ELEMENTDATA : Addr) (w_DEFAULTCAPACITY_EMPTY_ELEMENTDATA : Addr) (w_EMPTY_LIST : Addr) (w_EMPTY_LIST_elements : Addr) (w_EMPTY : Addr) (k_w_EMPTY_ELEMENTDATA : ClassId) (k_w_DEFAULTCAPACITY_EMPTY_ELEMENTDATA : ClassId) (k_w_EMPTY_LIST_elements : ClassId) (a1 : Addr) (a2 : Addr) (a7 : Addr) (p11 : Int32) (h0 : Heap) (n0 : Nat) (v : Option Value) (h : Heap) (L : List Loc) : Prop := v = some (.int p11) ∧ Fr n0 L ∧ h = h0
theorem ef32_1 (m : MethodId) (x0 : Addr) : entryFrame m #[(.ref x0)] 1 = mkF m 0 #[.val (.ref x0)] [] := by first | (simp [entryFrame, mkF, argsToLocals, Value.category]; done) | rfl
set_option maxRecDepth 65536 in
set_option maxHeartbeats 40000000 in
theorem rm32_1 (l : Launch) (Z : State) (a0 : Array Value) (hw : ∀ d ∈ tables_1, d.before a0 Z = true) (ws : List Jvm.Cond) {m_OA : Addr} {w_EMPTY_ELEMENTDATA : Addr} {w_DEFAULTCAPACITY_EMPTY_ELEMENTDATA : Addr} {w_EMPTY_LIST : Addr} {w_EMPTY_LIST_elements : Addr} {w_EMPTY : Addr} {k_w_EMPTY_ELEMENTDATA : ClassId} {k_w_DEFAULTCAPACITY_EMPTY_ELEMENTDATA : ClassId} {k_w_EMPTY_LIST_elements : ClassId} (G : Glob Z m_OA w_EMPTY_ELEMENTDATA w_DEFAULTCAPACITY_EMPTY_ELEMENTDATA w_EMPTY_LIST w_EMPTY_LIST_elements w_EMPTY k_w_EMPTY_ELEMENTDATA k_w_DEFAULTCAPACITY_EMPTY_ELEMENTDATA k_w_EMPTY_LIST_elements) (a1 : Addr) (a2 : Addr) (a7 : Addr) (p11 : Int32) (h0 : Heap) (n0 : Nat) (O0 : Old Z n0 h0) (F_aCells_a1 : Fld Z h0 a1 "com/example/curtail/curtail/Placement" "aCells" "Ljava/util/List;" (.ref a2)) (E_a2 : Exa Z h0 a2 "java/util/ImmutableCollections$List12") (F_e1_a2 : Fld Z h0 a2 "java/util/ImmutableCollections$List12" "e1" "Ljava/lang/Object;" (.ref a7)) (E_a7 : Exa Z h0 a7 "com/example/curtail/curtail/Placement$Cell") (F_nSlot_a7 : Fld Z h0 a7 "com/example/curtail/curtail/Placement$Cell" "nSlot" "I" (.int p11)) :
    MetFree l (⟨"com/example/curtail/curtail/Placement", "completionSlot", "()I"⟩ : MethodName) (head1 (Jvm.Cond.code (⟨"com/example/curtail/curtail/Placement", "completionSlot", "()I"⟩ : MethodName) prog_14_method_3_code 1 (some .int) :: ws) ({ frames := 1, cells := 0, slots := 0, locals := 13 } : Room)) (fun a U => a = #[(.ref a1)] ∧ Z.Warmed39 U.vm ∧ U.heap = h0) (fun _ _ _ _ _ => True) (fun _ U o U' => ∃ v L, o = .returned v ∧ Q32_1 Z m_OA w_EMPTY_ELEMENTDATA w_DEFAULTCAPACITY_EMPTY_ELEMENTDATA w_EMPTY_LIST w_EMPTY_LIST_elements w_EMPTY k_w_EMPTY_ELEMENTDATA k_w_DEFAULTCAPACITY_EMPTY_ELEMENTDATA k_w_EMPTY_LIST_elements a1 a2 a7 p11 h0 n0 v U'.heap L ∧ FrameEnd U o U' L ({ frames := 1, cells := 0, slots := 0, locals := 13 } : Room).cells ({ frames := 1, cells := 0, slots := 0, locals := 13 } : Room).slots) := by
  refine MetFree.of_bodySF (plainFor_of_name pn_com_example_curtail_curtail_Placement) hisR ?_
  intro p e s m args below meth c s₁ Bd hml0 hP hK
  obtain ⟨rfl, hZ, hh⟩ := hP
  have hx := Bd.exec
  have hby := Bd.bytes
  have hml : c.maxLocals = 1 := hml0
  have hown : s.vm.findClass "com/example/curtail/curtail/Placement" = some m.cls := findClass_of_methodNamed Bd.named
  have hnm := (name_of_methodNamed Bd.named Bd.method).1
  have X0 : Stand p l e ({ frames := 1, cells := 0, slots := 0, locals := 13 } : Room) s m #[(.ref a1)] below meth c s₁ [] 0 0 := Stand.of_body Bd
  have e0 : s₁.heap = h0 := by rw [← hh, Bd.state]; rfl
  have N0 := Fr.nil n0
  show OGot p.tables e below (s₁.setTop (entryFrame m #[(.ref a1)] 1)) _
  refine OGot.go (fun t k => castTop (ef32_1 m a1) k) ?_
  show OGot p.tables e below (s₁.setTop (mkF m 0 #[.val (.ref a1)] [])) _
  refine OGot.go (fun t k => XS.aloadN X0.here hx rfl (hb hby d32_0) rfl rfl k) ?_
  obtain ⟨T3, X3, e3, st3⟩ := getF X0 hx hZ hown (host := "") (Or.inl (ow hw 79 rfl)) Via.refl e0 F_aCells_a1 (g := (mkF m 1 #[.val (.ref a1)] [(.ref a1)])) rfl rfl (hb hby d32_1)
  refine OGot.go st3 ?_
  obtain ⟨cq4, kq4, q4a, q4b, q4c⟩ := isOf hZ e3 E_a2
  obtain ⟨_, _, ⟨T4, L4, k4, n4⟩, -, X4, ⟨Lc4, hQ4, l4, y4, z4⟩, st4⟩ := X3.interfaceBack hx (xi := (⟨"java/util/List", "isEmpty", "()Z"⟩ : MethodName)) (y := (⟨"java/util/ImmutableCollections$List12", "isEmpty", "()Z"⟩ : MethodName)) hown (mvT hZ (ow hw 86 rfl)) (mvT hZ (ow hw 87 rfl)) (mvT hZ (ow hw 88 rfl)) (mvT hZ (ow hw 246 rfl)) (mvT hZ (ow hw 247 rfl)) (mvT hZ (ow hw 248 rfl)) (mvT hZ (ow hw 249 rfl)) (mvT hZ (ow hw 238 rfl)) (by decide) (backOf (W := 0) (rm36 l Z a0 hw [] G a2 h0 n0 O0 ) hZ (ow hw 250 rfl) (ow hw 220 rfl) (by decide) (by decide)) q4a q4b q4c (g := (mkF m 4 #[.val (.ref a1)] [(.ref a2)])) rfl (by rw [hml]; rfl) (Steps.refl _) (argsL := []) (rest := []) (lenOf pd_1 rfl) rfl (by show 2 * 0 + _ ≤ _; exact Nat.le_of_eq rfl) (hb hby d32_4) (fun _ _ => ⟨rfl, e3, (by decide : 0 + 0 ≤ _), (by decide : 0 + 0 ≤ _)⟩)
  dsimp only [Pt.U, Pt.locs, Pt.cells, Pt.slots] at X4 l4 y4 z4 st4 hQ4
  subst l4 y4 z4
  obtain ⟨rfl, N4q, e4⟩ := hQ4
  have N4 := Fr.app N0 N4q
  refine OGot.on st4 ?_
  refine OGot.go (fun t k => XS.ifYes X4.here hx rfl (pc0 := 9) (pc' := 22) rfl (hb hby d32_9) rfl (by decide) (by decide) (by decide) k) ?_
  refine OGot.go (fun t k => XS.aloadN X4.here hx rfl (hb hby d32_22) rfl rfl k) ?_
  show OGot p.tables e below (T4.setTop (mkF m 23 #[.val (.ref a1)] [(.ref a1)])) _
  obtain ⟨T5, X5, e5, st5⟩ := getF X4 hx hZ hown (host := "") (Or.inl (ow hw 79 rfl)) Via.refl e4 F_aCells_a1 (g := (mkF m 23 #[.val (.ref a1)] [(.ref a1)])) rfl rfl (hb hby d32_23)
  refine OGot.go st5 ?_
  refine OGot.go (fun t k => XS.aloadN X5.here hx rfl (hb hby d32_26) rfl rfl k) ?_
  obtain ⟨T6, X6, e6, st6⟩ := getF X5 hx hZ hown (host := "") (Or.inl (ow hw 79 rfl)) Via.refl e5 F_aCells_a1 (g := (mkF m 27 #[.val (.ref a1)] [(.ref a1), (.ref a2)])) rfl rfl (hb hby d32_27)
  refine OGot.go st6 ?_
  obtain ⟨cq8, kq8, q8a, q8b, q8c⟩ := isOf hZ e6 E_a2
  obtain ⟨_, _, ⟨T8, L8, k8, n8⟩, -, X8, ⟨Lc8, hQ8, l8, y8, z8⟩, st8⟩ := X6.interfaceBack hx (xi := (⟨"java/util/List", "size", "()I"⟩ : MethodName)) (y := (⟨"java/util/ImmutableCollections$List12", "size", "()I"⟩ : MethodName)) hown (mvT hZ (ow hw 67 rfl)) (mvT hZ (ow hw 68 rfl)) (mvT hZ (ow hw 69 rfl)) (mvT hZ (ow hw 234 rfl)) (mvT hZ (ow hw 235 rfl)) (mvT hZ (ow hw 236 rfl)) (mvT hZ (ow hw 237 rfl)) (mvT hZ (ow hw 238 rfl)) (by decide) (backOf (W := 1) (rm34_1 l Z a0 hw [] G a2 a7 h0 n0 O0 F_e1_a2 E_a7) hZ (ow hw 239 rfl) (ow hw 220 rfl) (by decide) (by decide)) q8a q8b q8c (g := (mkF m 30 #[.val (.ref a1)] [(.ref a2), (.ref a2)])) rfl (by rw [hml]; rfl) (Steps.refl _) (argsL := []) (rest := [(.ref a2)]) (lenOf pd_4 rfl) rfl (by show 2 * 0 + _ ≤ _; exact Nat.le_of_eq rfl) (hb hby d32_30) (fun _ _ => ⟨rfl, e6, (by decide : 0 + 0 ≤ _), (by decide : 0 + 0 ≤ _)⟩)
  dsimp only [Pt.U, Pt.locs, Pt.cells, Pt.slots] at X8 l8 y8 z8 st8 hQ8
  subst l8 y8 z8
  obtain ⟨rfl, N8q, e8⟩ := hQ8
  have N8 := Fr.app N4 N8q
  refine OGot.on st8 ?_
  refine OGot.go (fun t k => XS.iconst X8.here hx rfl (hb hby d32_35) k) ?_
  show OGot p.tables e below (T8.setTop (mkF m 36 #[.val (.ref a1)] [(.int (1 : Int32)), (.int (2 : Int32)), (.ref a2)])) _
  refine OGot.go (fun t k => XS.isub X8.here hx rfl (hb hby d32_36) rfl k) ?_
  show OGot p.tables e below (T8.setTop (mkF m 37 #[.val (.ref a1)] [(.int ((2 : Int32) - (1 : Int32))), (.ref a2)])) _
  rw [show ((2 : Int32) - (1 : Int32)) = (1 : Int32) from by decide]
  obtain ⟨cq9, kq9, q9a, q9b, q9c⟩ := isOf hZ e8 E_a2
  obtain ⟨_, _, ⟨T9, L9, k9, n9⟩, -, X9, ⟨Lc9, hQ9, l9, y9, z9⟩, st9⟩ := X8.interfaceBack hx (xi := (⟨"java/util/List", "get", "(I)Ljava/lang/Object;"⟩ : MethodName)) (y := (⟨"java/util/ImmutableCollections$List12", "get", "(I)Ljava/lang/Object;"⟩ : MethodName)) hown (mvT hZ (ow hw 198 rfl)) (mvT hZ (ow hw 199 rfl)) (mvT hZ (ow hw 200 rfl)) (mvT hZ (ow hw 241 rfl)) (mvT hZ (ow hw 242 rfl)) (mvT hZ (ow hw 243 rfl)) (mvT hZ (ow hw 244 rfl)) (mvT hZ (ow hw 238 rfl)) (by decide) (backOf (W := 0) (rm35_1 l Z a0 hw [] G a2 a7 h0 n0 O0 F_e1_a2 E_a7) hZ (ow hw 245 rfl) (ow hw 220 rfl) (by decide) (by decide)) q9a q9b q9c (g := (mkF m 37 #[.val (.ref a1)] [(.int (1 : Int32)), (.ref a2)])) rfl (by rw [hml]; rfl) (Steps.refl _) (argsL := [(.int (1 : Int32))]) (rest := []) (lenOf pd_17 rfl) rfl (by show 2 * 0 + _ ≤ _; exact Nat.le_of_eq rfl) (hb hby d32_37) (fun _ _ => ⟨rfl, e8, (by decide : 0 + 0 ≤ _), (by decide : 0 + 0 ≤ _)⟩)
  dsimp only [Pt.U, Pt.locs, Pt.cells, Pt.slots] at X9 l9 y9 z9 st9 hQ9
  subst l9 y9 z9
  obtain ⟨rfl, N9q, e9⟩ := hQ9
  have N9 := Fr.app N8 N9q
  refine OGot.on st9 ?_
  obtain ⟨T10, X10, e10, st10⟩ := castY X9 hx hZ hown (ow hw 206 rfl) e9 (Ins.self E_a7) (g := (mkF m 42 #[.val (.ref a1)] [(.ref a7)])) rfl rfl (hb hby d32_42)
  refine OGot.go st10 ?_
  obtain ⟨cq12, kq12, q12a, q12b, q12c⟩ := isOf hZ e10 E_a7
  obtain ⟨_, _, ⟨T12, L12, k12, n12⟩, -, X12, ⟨Lc12, hQ12, l12, y12, z12⟩, st12⟩ := X10.virtualBack hx (y := (⟨"com/example/curtail/curtail/Placement$Cell", "nSlot", "()I"⟩ : MethodName)) (z := (⟨"com/example/curtail/curtail/Placement$Cell", "nSlot", "()I"⟩ : MethodName)) hown (mvT hZ (ow hw 208 rfl)) (mvT hZ (ow hw 209 rfl)) (notFace_of_selects (args := #[]) (mvT hZ (ow hw 211 rfl))) (mvT hZ (ow hw 211 rfl)) (mvT hZ (ow hw 210 rfl)) (by decide) (backOf (W := 0) (rm31 l Z a0 hw [] G a7 p11 h0 n0 O0 F_nSlot_a7) hZ (ow hw 212 rfl) (ow hw 98 rfl) (by decide) (by decide)) q12a q12c (g := (mkF m 45 #[.val (.ref a1)] [(.ref a7)])) rfl (by rw [hml]; rfl) (Steps.refl _) (argsL := []) (rest := []) (lenOf pd_4 rfl) rfl (by show 2 * 0 + _ ≤ _; exact Nat.le_of_eq rfl) (hb hby d32_45) (fun _ _ => ⟨rfl, e10, (by decide : 0 + 0 ≤ _), (by decide : 0 + 0 ≤ _)⟩)
  dsimp only [Pt.U, Pt.locs, Pt.cells, Pt.slots] at X12 l12 y12 z12 st12 hQ12
  subst l12 y12 z12
  obtain ⟨rfl, N12q, e12⟩ := hQ12
  have N12 := Fr.app N9 N12q
  refine OGot.on st12 ?_
  show OGot p.tables e below (T12.setTop (mkF m 48 #[.val (.ref a1)] [(.int p11)])) _
  obtain ⟨fs, hr, hrun, hended, hW, hsame⟩ := X12.leave (v := some (.int p11)) (fun h => by rw [Bd.returns] at h; cases h)
  refine ⟨_, _, retI X12 hx Bd.returns (hb hby d32_48) hr, hrun, hended, _, _, rfl, ?_, ⟨_, rfl⟩, hW, hsame.mono (by decide) (by decide)⟩
  exact (⟨rfl, N12, e12⟩ : Q32_1 Z m_OA w_EMPTY_ELEMENTDATA w_DEFAULTCAPACITY_EMPTY_ELEMENTDATA w_EMPTY_LIST w_EMPTY_LIST_elements w_EMPTY k_w_EMPTY_ELEMENTDATA k_w_DEFAULTCAPACITY_EMPTY_ELEMENTDATA k_w_EMPTY_LIST_elements a1 a2 a7 p11 h0 n0 _ T12.heap _)
def Q16_2 (Z : State) (m_OA : Addr) (w_EMPTY_ELEMENTDATA : Addr) (w_DEFAULTCAPACITY_EMPTY_ELEMENTDATA : Addr) (w_EMPTY_LIST : Addr) (w_EMPTY_LIST_elements : Addr) (w_EMPTY : Addr) (k_w_EMPTY_ELEMENTDATA : ClassId) (k_w_DEFAULTCAPACITY_EMPTY_ELEMENTDATA : ClassId) (k_w_EMPTY_LIST_elements : ClassId) (a1 : Addr) (a2 : Addr) (a3 : Addr) (k4 : ClassId) (a5 : Addr) (a6 : Addr) (h0 : Heap) (n0 : Nat) (v : Option Value) (h : Heap) (L : List Loc) : Prop := Fr n0 L ∧ v = none ∧ OKeep h0 h [(a3, (2 : Int32).toNatClampNeg), (a1, Jvm.RoadKit.slotOf Z "java/util/ArrayList" "size" "I")] ∧ Arv Z h a3 k4 (.object "java/lang/Object") (10 : Int32) [(.ref a5), (.ref a6), (.ref a2), .null, .null, .null, .null, .null, .null, .null] .null ∧ Fld Z h a1 "java/util/ArrayList" "size" "I" (.int (3 : Int32))
theorem ef16_2 (m : MethodId) (x0 : Addr) (x1 : Addr) (x2 : Addr) : entryFrame m #[(.ref x0), (.ref x1), (.ref x2), (.int (2 : Int32))] 4 = mkF m 0 #[.val (.ref x0), .val (.ref x1), .val (.ref x2), .val (.int (2 : Int32))] [] := by first | (simp [entryFrame, mkF, argsToLocals, Value.category]; done) | rfl
set_option maxRecDepth 65536 in
set_option maxHeartbeats 40000000 in
theorem rm16_2 (l : Launch) (Z : State) (a0 : Array Value) (hw : ∀ d ∈ tables_1, d.before a0 Z = true) (ws : List Jvm.Cond) {m_OA : Addr} {w_EMPTY_ELEMENTDATA : Addr} {w_DEFAULTCAPACITY_EMPTY_ELEMENTDATA : Addr} {w_EMPTY_LIST : Addr} {w_EMPTY_LIST_elements : Addr} {w_EMPTY : Addr} {k_w_EMPTY_ELEMENTDATA : ClassId} {k_w_DEFAULTCAPACITY_EMPTY_ELEMENTDATA : ClassId} {k_w_EMPTY_LIST_elements : ClassId} (G : Glob Z m_OA w_EMPTY_ELEMENTDATA w_DEFAULTCAPACITY_EMPTY_ELEMENTDATA w_EMPTY_LIST w_EMPTY_LIST_elements w_EMPTY k_w_EMPTY_ELEMENTDATA k_w_DEFAULTCAPACITY_EMPTY_ELEMENTDATA k_w_EMPTY_LIST_elements) (a1 : Addr) (a2 : Addr) (a3 : Addr) (k4 : ClassId) (a5 : Addr) (a6 : Addr) (h0 : Heap) (n0 : Nat) (O0 : Old Z n0 h0) (V_a3 : Arv Z h0 a3 k4 (.object "java/lang/Object") (10 : Int32) [(.ref a5), (.ref a6), .null, .null, .null, .null, .null, .null, .null, .null] .null) (O_k4 : Ovr Z k4 "java/lang/Object") (g_a3 : n0 ≤ a3) (E_a2 : Exa Z h0 a2 "com/example/curtail/curtail/Placement$Cell") (E_a1 : Exa Z h0 a1 "java/util/ArrayList") (F_size_a1 : Fld Z h0 a1 "java/util/ArrayList" "size" "I" (.int (2 : Int32))) (g_a1 : n0 ≤ a1) (ne_a1_a3 : a1 ≠ a3) :
    MetFree l (⟨"java/util/ArrayList", "add", "(Ljava/lang/Object;[Ljava/lang/Object;I)V"⟩ : MethodName) (head1 (Jvm.Cond.code (⟨"java/util/ArrayList", "add", "(Ljava/lang/Object;[Ljava/lang/Object;I)V"⟩ : MethodName) jdk_38_method_24_code 4 none :: ws) ({ frames := 0, cells := 0, slots := 0, locals := 0 } : Room)) (fun a U => a = #[(.ref a1), (.ref a2), (.ref a3), (.int (2 : Int32))] ∧ Z.Warmed39 U.vm ∧ U.heap = h0) (fun _ _ _ _ _ => True) (fun _ U o U' => ∃ v L, o = .returned v ∧ Q16_2 Z m_OA w_EMPTY_ELEMENTDATA w_DEFAULTCAPACITY_EMPTY_ELEMENTDATA w_EMPTY_LIST w_EMPTY_LIST_elements w_EMPTY k_w_EMPTY_ELEMENTDATA k_w_DEFAULTCAPACITY_EMPTY_ELEMENTDATA k_w_EMPTY_LIST_elements a1 a2 a3 k4 a5 a6 h0 n0 v U'.heap L ∧ FrameEnd U o U' L ({ frames := 0, cells := 0, slots := 0, locals := 0 } : Room).cells ({ frames := 0, cells := 0, slots := 0, locals := 0 } : Room).slots) := by
  refine MetFree.of_bodySF (plainFor_of_name pn_java_util_ArrayList) hisR ?_
  intro p e s m args below meth c s₁ Bd hml0 hP hK
  obtain ⟨rfl, hZ, hh⟩ := hP
  have hx := Bd.exec
  have hby := Bd.bytes
  have hml : c.maxLocals = 4 := hml0
  have hown : s.vm.findClass "java/util/ArrayList" = some m.cls := findClass_of_methodNamed Bd.named
  have hnm := (name_of_methodNamed Bd.named Bd.method).1
  have X0 : Stand p l e ({ frames := 0, cells := 0, slots := 0, locals := 0 } : Room) s m #[(.ref a1), (.ref a2), (.ref a3), (.int (2 : Int32))] below meth c s₁ [] 0 0 := Stand.of_body Bd
  have e0 : s₁.heap = h0 := by rw [← hh, Bd.state]; rfl
  have N0 := Fr.nil n0
  show OGot p.tables e below (s₁.setTop (entryFrame m #[(.ref a1), (.ref a2), (.ref a3), (.int (2 : Int32))] 4)) _
  refine OGot.go (fun t k => castTop (ef16_2 m a1 a2 a3) k) ?_
  show OGot p.tables e below (s₁.setTop (mkF m 0 #[.val (.ref a1), .val (.ref a2), .val (.ref a3), .val (.int (2 : Int32))] [])) _
  refine OGot.go (fun t k => XS.iloadN X0.here hx rfl (hb hby d16_0) rfl k) ?_
  refine OGot.go (fun t k => XS.aloadN X0.here hx rfl (hb hby d16_1) rfl rfl k) ?_
  obtain ⟨cl7, Ar7, -, Sz7, Ng7, -, -⟩ := id (V_a3)
  refine OGot.go (fun t k => X0.arraylength hx (by rw [e0]; exact Ar7.1) (State.isArrayOf_alike hZ.alike Ar7.2.1) (g := (mkF m 2 #[.val (.ref a1), .val (.ref a2), .val (.ref a3), .val (.int (2 : Int32))] [(.ref a3), (.int (2 : Int32))])) rfl rfl (hb hby d16_2) _ k) ?_
  rw [len_of Sz7 Ng7]
  refine OGot.go (fun t k => XS.icmpYes X0.here hx rfl (pc0 := 3) (pc' := 11) rfl (hb hby d16_3) rfl (by decide) (by decide) (by decide) k) ?_
  refine OGot.go (fun t k => XS.aloadN X0.here hx rfl (hb hby d16_11) rfl rfl k) ?_
  show OGot p.tables e below (s₁.setTop (mkF m 12 #[.val (.ref a1), .val (.ref a2), .val (.ref a3), .val (.int (2 : Int32))] [(.ref a3)])) _
  refine OGot.go (fun t k => XS.iloadN X0.here hx rfl (hb hby d16_12) rfl k) ?_
  refine OGot.go (fun t k => XS.aloadN X0.here hx rfl (hb hby d16_13) rfl rfl k) ?_
  obtain ⟨cl8, Ar8, qc8, Sz8, Ng8, Hh8, Gg8⟩ := id (V_a3)
  have hin8 : ¬ ((2 : Int32) < 0 ∨ cl8.slots.size ≤ ((2 : Int32)).toNatClampNeg) := inb_of Sz8 ⟨by decide, by decide⟩
  obtain ⟨T8, h8, X8, e8, W8, st8⟩ := stR X0 hx hZ e0 Ar8 (j := (2 : Int32)) hin8 rfl (Sto.ofV Ar8 qc8 O_k4 (Ins.of_exa E_a2 (ow hw 135 rfl))) (g := (mkF m 14 #[.val (.ref a1), .val (.ref a2), .val (.ref a3), .val (.int (2 : Int32))] [(.ref a2), (.int (2 : Int32)), (.ref a3)])) rfl rfl (hb hby d16_14)
  refine OGot.go st8 ?_
  have N8 := Fr.snoc X8 N0 g_a3
  have O8 := O0.wr W8 g_a3
  have K8 := (OKeep.refl h0 [(a3, (2 : Int32).toNatClampNeg), (a1, Jvm.RoadKit.slotOf Z "java/util/ArrayList" "size" "I")]).wr W8 (Or.inl (List.mem_of_getElem? (i := 0) rfl))
  have Va8 : Arv Z h8 a3 k4 (.object "java/lang/Object") (10 : Int32) [(.ref a5), (.ref a6), (.ref a2), .null, .null, .null, .null, .null, .null, .null] .null := Arv.set Ar8 qc8 Sz8 Ng8 Hh8 Gg8 rfl W8 2 rfl (Nat.le_of_ble_eq_true rfl)
  refine OGot.go (fun t k => XS.aloadN X8.here hx rfl (hb hby d16_15) rfl rfl k) ?_
  refine OGot.go (fun t k => XS.iloadN X8.here hx rfl (hb hby d16_16) rfl k) ?_
  show OGot p.tables e below (T8.setTop (mkF m 17 #[.val (.ref a1), .val (.ref a2), .val (.ref a3), .val (.int (2 : Int32))] [(.int (2 : Int32)), (.ref a1)])) _
  refine OGot.go (fun t k => XS.iconst X8.here hx rfl (hb hby d16_17) k) ?_
  refine OGot.go (fun t k => XS.iadd X8.here hx rfl (hb hby d16_18) rfl k) ?_
  show OGot p.tables e below (T8.setTop (mkF m 19 #[.val (.ref a1), .val (.ref a2), .val (.ref a3), .val (.int (2 : Int32))] [(.int ((2 : Int32) + (1 : Int32))), (.ref a1)])) _
  rw [show ((2 : Int32) + (1 : Int32)) = (3 : Int32) from by decide]
  have ne9 : a1 ≠ a3 := ne_a1_a3
  have F10 : Fld Z h8 a1 "java/util/ArrayList" "size" "I" (.int (2 : Int32)) := (F_size_a1.other W8 (Or.inl ne9))
  obtain ⟨T11, h11, X11, e11, W11, st11⟩ := putF X8 hx hZ hown (host := "") (Or.inl (ow hw 61 rfl)) Via.refl e8 F10 (E_a1.wr W8) (Or.inl (ow hw 62 rfl)) (ow hw 4 rfl) (ty := .int) (by decide) rfl rfl (g := (mkF m 19 #[.val (.ref a1), .val (.ref a2), .val (.ref a3), .val (.int (2 : Int32))] [(.int (3 : Int32)), (.ref a1)])) rfl rfl (hb hby d16_19)
  refine OGot.go st11 ?_
  have N11 := Fr.snoc X11 N8 g_a1
  have O11 := O8.wr W11 g_a1
  have K11 := K8.wr W11 (Or.inl (List.mem_of_getElem? (i := 1) rfl))
  have Fw11 : Fld Z h11 a1 "java/util/ArrayList" "size" "I" (.int (3 : Int32)) := F10.same W11
  show OGot p.tables e below (T11.setTop (mkF m 22 #[.val (.ref a1), .val (.ref a2), .val (.ref a3), .val (.int (2 : Int32))] [])) _
  obtain ⟨fs, hr, hrun, hended, hW, hsame⟩ := X11.leave (v := none) (fun _ => rfl)
  refine ⟨_, _, X11.returnOut hx Bd.returns (hb hby d16_22) hr, hrun, hended, _, _, rfl, ?_, ⟨_, rfl⟩, hW, hsame.mono (by decide) (by decide)⟩
  have F12 : Arv Z h11 a3 k4 (.object "java/lang/Object") (10 : Int32) [(.ref a5), (.ref a6), (.ref a2), .null, .null, .null, .null, .null, .null, .null] .null := (Va8.other W11 (Ne.symm ne9))
  show Q16_2 Z m_OA w_EMPTY_ELEMENTDATA w_DEFAULTCAPACITY_EMPTY_ELEMENTDATA w_EMPTY_LIST w_EMPTY_LIST_elements w_EMPTY k_w_EMPTY_ELEMENTDATA k_w_DEFAULTCAPACITY_EMPTY_ELEMENTDATA k_w_EMPTY_LIST_elements a1 a2 a3 k4 a5 a6 h0 n0 _ T11.heap _
  rw [e11]
  exact ⟨N11, rfl, K11, F12, Fw11⟩
def Q15_2 (Z : State) (m_OA : Addr) (w_EMPTY_ELEMENTDATA : Addr) (w_DEFAULTCAPACITY_EMPTY_ELEMENTDATA : Addr) (w_EMPTY_LIST : Addr) (w_EMPTY_LIST_elements : Addr) (w_EMPTY : Addr) (k_w_EMPTY_ELEMENTDATA : ClassId) (k_w_DEFAULTCAPACITY_EMPTY_ELEMENTDATA : ClassId) (k_w_EMPTY_LIST_elements : ClassId) (a1 : Addr) (a2 : Addr) (a5 : Addr) (k10 : ClassId) (a11 : Addr) (a12 : Addr) (h0 : Heap) (n0 : Nat) (v : Option Value) (h : Heap) (L : List Loc) : Prop := Fr n0 L ∧ v = some (.int (1 : Int32)) ∧ OKeep h0 h [(a1, Jvm.RoadKit.slotOf Z "java/util/AbstractList" "modCount" "I"), (a1, Jvm.RoadKit.slotOf Z "java/util/ArrayList" "size" "I"), (a5, (2 : Int32).toNatClampNeg)] ∧ Fld Z h a1 "java/util/AbstractList" "modCount" "I" (.int (3 : Int32)) ∧ Fld Z h a1 "java/util/ArrayList" "size" "I" (.int (3 : Int32)) ∧ Arv Z h a5 k10 (.object "java/lang/Object") (10 : Int32) [(.ref a11), (.ref a12), (.ref a2), .null, .null, .null, .null, .null, .null, .null] .null
theorem ef15_2 (m : MethodId) (x0 : Addr) (x1 : Addr) : entryFrame m #[(.ref x0), (.ref x1)] 2 = mkF m 0 #[.val (.ref x0), .val (.ref x1)] [] := by first | (simp [entryFrame, mkF, argsToLocals, Value.category]; done) | rfl
set_option maxRecDepth 65536 in
set_option maxHeartbeats 40000000 in
theorem rm15_2 (l : Launch) (Z : State) (a0 : Array Value) (hw : ∀ d ∈ tables_1, d.before a0 Z = true) (ws : List Jvm.Cond) {m_OA : Addr} {w_EMPTY_ELEMENTDATA : Addr} {w_DEFAULTCAPACITY_EMPTY_ELEMENTDATA : Addr} {w_EMPTY_LIST : Addr} {w_EMPTY_LIST_elements : Addr} {w_EMPTY : Addr} {k_w_EMPTY_ELEMENTDATA : ClassId} {k_w_DEFAULTCAPACITY_EMPTY_ELEMENTDATA : ClassId} {k_w_EMPTY_LIST_elements : ClassId} (G : Glob Z m_OA w_EMPTY_ELEMENTDATA w_DEFAULTCAPACITY_EMPTY_ELEMENTDATA w_EMPTY_LIST w_EMPTY_LIST_elements w_EMPTY k_w_EMPTY_ELEMENTDATA k_w_DEFAULTCAPACITY_EMPTY_ELEMENTDATA k_w_EMPTY_LIST_elements) (a1 : Addr) (a2 : Addr) (a5 : Addr) (k10 : ClassId) (a11 : Addr) (a12 : Addr) (h0 : Heap) (n0 : Nat) (O0 : Old Z n0 h0) (F_modCount_a1 : Fld Z h0 a1 "java/util/AbstractList" "modCount" "I" (.int (2 : Int32))) (E_a1 : Exa Z h0 a1 "java/util/ArrayList") (g_a1 : n0 ≤ a1) (F_elementData_a1 : Fld Z h0 a1 "java/util/ArrayList" "elementData" "[Ljava/lang/Object;" (.ref a5)) (F_size_a1 : Fld Z h0 a1 "java/util/ArrayList" "size" "I" (.int (2 : Int32))) (V_a5 : Arv Z h0 a5 k10 (.object "java/lang/Object") (10 : Int32) [(.ref a11), (.ref a12), .null, .null, .null, .null, .null, .null, .null, .null] .null) (O_k10 : Ovr Z k10 "java/lang/Object") (g_a5 : n0 ≤ a5) (E_a2 : Exa Z h0 a2 "com/example/curtail/curtail/Placement$Cell") (ne_a1_a5 : a1 ≠ a5) :
    MetFree l (⟨"java/util/ArrayList", "add", "(Ljava/lang/Object;)Z"⟩ : MethodName) (head1 (Jvm.Cond.code (⟨"java/util/ArrayList", "add", "(Ljava/lang/Object;)Z"⟩ : MethodName) jdk_38_method_25_code 2 (some .boolean) :: ws) ({ frames := 1, cells := 0, slots := 0, locals := 15 } : Room)) (fun a U => a = #[(.ref a1), (.ref a2)] ∧ Z.Warmed39 U.vm ∧ U.heap = h0) (fun _ _ _ _ _ => True) (fun _ U o U' => ∃ v L, o = .returned v ∧ Q15_2 Z m_OA w_EMPTY_ELEMENTDATA w_DEFAULTCAPACITY_EMPTY_ELEMENTDATA w_EMPTY_LIST w_EMPTY_LIST_elements w_EMPTY k_w_EMPTY_ELEMENTDATA k_w_DEFAULTCAPACITY_EMPTY_ELEMENTDATA k_w_EMPTY_LIST_elements a1 a2 a5 k10 a11 a12 h0 n0 v U'.heap L ∧ FrameEnd U o U' L ({ frames := 1, cells := 0, slots := 0, locals := 15 } : Room).cells ({ frames := 1, cells := 0, slots := 0, locals := 15 } : Room).slots) := by
  refine MetFree.of_bodySF (plainFor_of_name pn_java_util_ArrayList) hisR ?_
  intro p e s m args below meth c s₁ Bd hml0 hP hK
  obtain ⟨rfl, hZ, hh⟩ := hP
  have hx := Bd.exec
  have hby := Bd.bytes
  have hml : c.maxLocals = 2 := hml0
  have hown : s.vm.findClass "java/util/ArrayList" = some m.cls := findClass_of_methodNamed Bd.named
  have hnm := (name_of_methodNamed Bd.named Bd.method).1
  have X0 : Stand p l e ({ frames := 1, cells := 0, slots := 0, locals := 15 } : Room) s m #[(.ref a1), (.ref a2)] below meth c s₁ [] 0 0 := Stand.of_body Bd
  have e0 : s₁.heap = h0 := by rw [← hh, Bd.state]; rfl
  have N0 := Fr.nil n0
  show OGot p.tables e below (s₁.setTop (entryFrame m #[(.ref a1), (.ref a2)] 2)) _
  refine OGot.go (fun t k => castTop (ef15_2 m a1 a2) k) ?_
  show OGot p.tables e below (s₁.setTop (mkF m 0 #[.val (.ref a1), .val (.ref a2)] [])) _
  refine OGot.go (fun t k => XS.aloadN X0.here hx rfl (hb hby d15_0) rfl rfl k) ?_
  refine OGot.go (fun t k => XS.dup X0.here hx rfl (hb hby d15_1) rfl rfl k) ?_
  obtain ⟨T3, X3, e3, st3⟩ := getF X0 hx hZ hown (host := "") (Or.inl (ow hw 112 rfl)) (Via.of (ow hw 113 rfl)) e0 F_modCount_a1 (g := (mkF m 2 #[.val (.ref a1), .val (.ref a2)] [(.ref a1), (.ref a1)])) rfl rfl (hb hby d15_2)
  refine OGot.go st3 ?_
  refine OGot.go (fun t k => XS.iconst X3.here hx rfl (hb hby d15_5) k) ?_
  refine OGot.go (fun t k => XS.iadd X3.here hx rfl (hb hby d15_6) rfl k) ?_
  show OGot p.tables e below (T3.setTop (mkF m 7 #[.val (.ref a1), .val (.ref a2)] [(.int ((2 : Int32) + (1 : Int32))), (.ref a1)])) _
  rw [show ((2 : Int32) + (1 : Int32)) = (3 : Int32) from by decide]
  show OGot p.tables e below (T3.setTop (mkF m 7 #[.val (.ref a1), .val (.ref a2)] [(.int (3 : Int32)), (.ref a1)])) _
  obtain ⟨T4, h4, X4, e4, W4, st4⟩ := putF X3 hx hZ hown (host := "") (Or.inl (ow hw 112 rfl)) (Via.of (ow hw 113 rfl)) e3 F_modCount_a1 E_a1 (Or.inl (ow hw 25 rfl)) (ow hw 4 rfl) (ty := .int) (by decide) rfl rfl (g := (mkF m 7 #[.val (.ref a1), .val (.ref a2)] [(.int (3 : Int32)), (.ref a1)])) rfl rfl (hb hby d15_7)
  refine OGot.go st4 ?_
  have N4 := Fr.snoc X4 N0 g_a1
  have O4 := O0.wr W4 g_a1
  have K4 := (OKeep.refl h0 [(a1, Jvm.RoadKit.slotOf Z "java/util/AbstractList" "modCount" "I"), (a1, Jvm.RoadKit.slotOf Z "java/util/ArrayList" "size" "I"), (a5, (2 : Int32).toNatClampNeg)]).wr W4 (Or.inl (List.mem_of_getElem? (i := 0) rfl))
  have Fw4 : Fld Z h4 a1 "java/util/AbstractList" "modCount" "I" (.int (3 : Int32)) := F_modCount_a1.same W4
  refine OGot.go (fun t k => XS.aloadN X4.here hx rfl (hb hby d15_10) rfl rfl k) ?_
  refine OGot.go (fun t k => XS.aloadN X4.here hx rfl (hb hby d15_11) rfl rfl k) ?_
  refine OGot.go (fun t k => XS.aloadN X4.here hx rfl (hb hby d15_12) rfl rfl k) ?_
  have F6 : Fld Z h4 a1 "java/util/ArrayList" "elementData" "[Ljava/lang/Object;" (.ref a5) := (F_elementData_a1.other W4 (Or.inr (slot_ne (Or.inl (ow hw 28 rfl)) (Or.inl (ow hw 25 rfl)) (by decide) (t := (.array (.object "java/lang/Object"))) (t' := .int) (by decide) (by decide))))
  obtain ⟨T7, X7, e7, st7⟩ := getF X4 hx hZ hown (host := "") (Or.inl (ow hw 27 rfl)) Via.refl e4 F6 (g := (mkF m 13 #[.val (.ref a1), .val (.ref a2)] [(.ref a1), (.ref a2), (.ref a1)])) rfl rfl (hb hby d15_13)
  refine OGot.go st7 ?_
  show OGot p.tables e below (T7.setTop (mkF m 16 #[.val (.ref a1), .val (.ref a2)] [(.ref a5), (.ref a2), (.ref a1)])) _
  refine OGot.go (fun t k => XS.aloadN X7.here hx rfl (hb hby d15_16) rfl rfl k) ?_
  have F8 : Fld Z h4 a1 "java/util/ArrayList" "size" "I" (.int (2 : Int32)) := (F_size_a1.other W4 (Or.inr (slot_ne (Or.inl (ow hw 62 rfl)) (Or.inl (ow hw 25 rfl)) (by decide) (t := .int) (t' := .int) (by decide) (by decide))))
  obtain ⟨T9, X9, e9, st9⟩ := getF X7 hx hZ hown (host := "") (Or.inl (ow hw 61 rfl)) Via.refl e7 F8 (g := (mkF m 17 #[.val (.ref a1), .val (.ref a2)] [(.ref a1), (.ref a5), (.ref a2), (.ref a1)])) rfl rfl (hb hby d15_17)
  refine OGot.go st9 ?_
  have ne13 : a1 ≠ a5 := ne_a1_a5
  have F15 : Arv Z h4 a5 k10 (.object "java/lang/Object") (10 : Int32) [(.ref a11), (.ref a12), .null, .null, .null, .null, .null, .null, .null, .null] .null := (V_a5.other W4 (Ne.symm ne13))
  obtain ⟨cq14, q14, q14'⟩ := (E_a1.wr W4).cell
  obtain ⟨_, _, ⟨T14, L14, k14, n14⟩, -, X14, ⟨Lc14, hQ14, l14, y14, z14⟩, st14⟩ := X9.privateBack hx (y := (⟨"java/util/ArrayList", "add", "(Ljava/lang/Object;[Ljava/lang/Object;I)V"⟩ : MethodName)) hown (mvT hZ (ow hw 114 rfl)) (mvT hZ (ow hw 115 rfl)) (mvT hZ (ow hw 117 rfl)) (Cond.privateMethod_at (mvP hZ (ow hw 116 rfl) (args := #[]))) (mvT hZ (ow hw 118 rfl)) (by decide) (backOf (W := 0) (rm16_2 l Z a0 hw [] G a1 a2 a5 k10 a11 a12 h4 n0 O4 F15 O_k10 g_a5 (E_a2.wr W4) (E_a1.wr W4) F8 g_a1 ne13) hZ (ow hw 118 rfl) (ow hw 5 rfl) (by decide) (by decide)) (g := (mkF m 20 #[.val (.ref a1), .val (.ref a2)] [(.int (2 : Int32)), (.ref a5), (.ref a2), (.ref a1)])) rfl (by rw [hml]; rfl) (Steps.refl _) (a := a1) (by rw [e9]; exact q14) q14' (argsL := [(.ref a2), (.ref a5), (.int (2 : Int32))]) (rest := []) (lenOf pd_10 rfl) rfl (by show 2 * 0 + _ ≤ _; exact Nat.le_of_eq rfl) (hb hby d15_20) (fun _ _ => ⟨rfl, e9, (by decide : 0 + 0 ≤ _), (by decide : 0 + 0 ≤ _)⟩)
  dsimp only [Pt.U, Pt.locs, Pt.cells, Pt.slots] at X14 l14 y14 z14 st14 hQ14
  subst l14 y14 z14
  obtain ⟨N14q, rfl, K14, Fo14_0, Fo14_1⟩ := hQ14
  have Kc14 := K4.trans K14 (oinS (Or.inl (List.mem_of_getElem? (i := 2) rfl)) (oinS (Or.inl (List.mem_of_getElem? (i := 1) rfl)) oin0))
  have O14 := OKeep.old O4 K14 (ogeS g_a5 (ogeS g_a1 oge0))
  have N14 := Fr.app N4 N14q
  refine OGot.on st14 ?_
  refine OGot.go (fun t k => XS.iconst X14.here hx rfl (hb hby d15_23) k) ?_
  show OGot p.tables e below (T14.setTop (mkF m 24 #[.val (.ref a1), .val (.ref a2)] [(.int (1 : Int32))])) _
  obtain ⟨fs, hr, hrun, hended, hW, hsame⟩ := X14.leave (v := some (.int (1 : Int32))) (fun h => by rw [Bd.returns] at h; cases h)
  refine ⟨_, _, retN X14 hx (t := .boolean) Bd.returns (by simp) (hb hby d15_24) hr, hrun, hended, _, _, rfl, ?_, ⟨_, rfl⟩, hW, hsame.mono (by decide) (by decide)⟩
  have F16 : Fld Z T14.heap a1 "java/util/AbstractList" "modCount" "I" (.int (3 : Int32)) := (OKeep.fld Fw4 K14 (oninA ne13 (oninS (slot_ne (Or.inl (ow hw 25 rfl)) (Or.inl (ow hw 62 rfl)) (by decide) (t := .int) (t' := .int) (by decide) (by decide)) onin0)))
  show Q15_2 Z m_OA w_EMPTY_ELEMENTDATA w_DEFAULTCAPACITY_EMPTY_ELEMENTDATA w_EMPTY_LIST w_EMPTY_LIST_elements w_EMPTY k_w_EMPTY_ELEMENTDATA k_w_DEFAULTCAPACITY_EMPTY_ELEMENTDATA k_w_EMPTY_LIST_elements a1 a2 a5 k10 a11 a12 h0 n0 _ T14.heap _
  exact ⟨N14, rfl, Kc14, F16, Fo14_1, Fo14_0⟩
def Q9_3 (Z : State) (m_OA : Addr) (w_EMPTY_ELEMENTDATA : Addr) (w_DEFAULTCAPACITY_EMPTY_ELEMENTDATA : Addr) (w_EMPTY_LIST : Addr) (w_EMPTY_LIST_elements : Addr) (w_EMPTY : Addr) (k_w_EMPTY_ELEMENTDATA : ClassId) (k_w_DEFAULTCAPACITY_EMPTY_ELEMENTDATA : ClassId) (k_w_EMPTY_LIST_elements : ClassId) (a1 : Addr) (h0 : Heap) (n0 : Nat) (v : Option Value) (h : Heap) (L : List Loc) : Prop := v = some (.int (0 : Int32)) ∧ Fr n0 L ∧ h = h0
theorem ef9_3 (m : MethodId) (x0 : Addr) : entryFrame m #[(.ref x0)] 1 = mkF m 0 #[.val (.ref x0)] [] := by first | (simp [entryFrame, mkF, argsToLocals, Value.category]; done) | rfl
set_option maxRecDepth 65536 in
set_option maxHeartbeats 40000000 in
theorem rm9_3 (l : Launch) (Z : State) (a0 : Array Value) (hw : ∀ d ∈ tables_1, d.before a0 Z = true) (ws : List Jvm.Cond) {m_OA : Addr} {w_EMPTY_ELEMENTDATA : Addr} {w_DEFAULTCAPACITY_EMPTY_ELEMENTDATA : Addr} {w_EMPTY_LIST : Addr} {w_EMPTY_LIST_elements : Addr} {w_EMPTY : Addr} {k_w_EMPTY_ELEMENTDATA : ClassId} {k_w_DEFAULTCAPACITY_EMPTY_ELEMENTDATA : ClassId} {k_w_EMPTY_LIST_elements : ClassId} (G : Glob Z m_OA w_EMPTY_ELEMENTDATA w_DEFAULTCAPACITY_EMPTY_ELEMENTDATA w_EMPTY_LIST w_EMPTY_LIST_elements w_EMPTY k_w_EMPTY_ELEMENTDATA k_w_DEFAULTCAPACITY_EMPTY_ELEMENTDATA k_w_EMPTY_LIST_elements) (a1 : Addr) (h0 : Heap) (n0 : Nat) (O0 : Old Z n0 h0) (F_size_a1 : Fld Z h0 a1 "java/util/ArrayList" "size" "I" (.int (3 : Int32))) :
    MetFree l (⟨"java/util/ArrayList", "isEmpty", "()Z"⟩ : MethodName) (head1 (Jvm.Cond.code (⟨"java/util/ArrayList", "isEmpty", "()Z"⟩ : MethodName) jdk_38_method_9_code 1 (some .boolean) :: ws) ({ frames := 0, cells := 0, slots := 0, locals := 0 } : Room)) (fun a U => a = #[(.ref a1)] ∧ Z.Warmed39 U.vm ∧ U.heap = h0) (fun _ _ _ _ _ => True) (fun _ U o U' => ∃ v L, o = .returned v ∧ Q9_3 Z m_OA w_EMPTY_ELEMENTDATA w_DEFAULTCAPACITY_EMPTY_ELEMENTDATA w_EMPTY_LIST w_EMPTY_LIST_elements w_EMPTY k_w_EMPTY_ELEMENTDATA k_w_DEFAULTCAPACITY_EMPTY_ELEMENTDATA k_w_EMPTY_LIST_elements a1 h0 n0 v U'.heap L ∧ FrameEnd U o U' L ({ frames := 0, cells := 0, slots := 0, locals := 0 } : Room).cells ({ frames := 0, cells := 0, slots := 0, locals := 0 } : Room).slots) := by
  refine MetFree.of_bodySF (plainFor_of_name pn_java_util_ArrayList) hisR ?_
  intro p e s m args below meth c s₁ Bd hml0 hP hK
  obtain ⟨rfl, hZ, hh⟩ := hP
  have hx := Bd.exec
  have hby := Bd.bytes
  have hml : c.maxLocals = 1 := hml0
  have hown : s.vm.findClass "java/util/ArrayList" = some m.cls := findClass_of_methodNamed Bd.named
  have hnm := (name_of_methodNamed Bd.named Bd.method).1
  have X0 : Stand p l e ({ frames := 0, cells := 0, slots := 0, locals := 0 } : Room) s m #[(.ref a1)] below meth c s₁ [] 0 0 := Stand.of_body Bd
  have e0 : s₁.heap = h0 := by rw [← hh, Bd.state]; rfl
  have N0 := Fr.nil n0
  show OGot p.tables e below (s₁.setTop (entryFrame m #[(.ref a1)] 1)) _
  refine OGot.go (fun t k => castTop (ef9_3 m a1) k) ?_
  show OGot p.tables e below (s₁.setTop (mkF m 0 #[.val (.ref a1)] [])) _
  refine OGot.go (fun t k => XS.aloadN X0.here hx rfl (hb hby d9_0) rfl rfl k) ?_
  obtain ⟨T2, X2, e2, st2⟩ := getF X0 hx hZ hown (host := "") (Or.inl (ow hw 61 rfl)) Via.refl e0 F_size_a1 (g := (mkF m 1 #[.val (.ref a1)] [(.ref a1)])) rfl rfl (hb hby d9_1)
  refine OGot.go st2 ?_
  refine OGot.go (fun t k => XS.ifYes X2.here hx rfl (pc0 := 4) (pc' := 11) rfl (hb hby d9_4) rfl (by decide) (by decide) (by decide) k) ?_
  refine OGot.go (fun t k => XS.iconst X2.here hx rfl (hb hby d9_11) k) ?_
  show OGot p.tables e below (T2.setTop (mkF m 12 #[.val (.ref a1)] [(.int (0 : Int32))])) _
  obtain ⟨fs, hr, hrun, hended, hW, hsame⟩ := X2.leave (v := some (.int (0 : Int32))) (fun h => by rw [Bd.returns] at h; cases h)
  refine ⟨_, _, retN X2 hx (t := .boolean) Bd.returns (by simp) (hb hby d9_12) hr, hrun, hended, _, _, rfl, ?_, ⟨_, rfl⟩, hW, hsame.mono (by decide) (by decide)⟩
  exact (⟨rfl, N0, e2⟩ : Q9_3 Z m_OA w_EMPTY_ELEMENTDATA w_DEFAULTCAPACITY_EMPTY_ELEMENTDATA w_EMPTY_LIST w_EMPTY_LIST_elements w_EMPTY k_w_EMPTY_ELEMENTDATA k_w_DEFAULTCAPACITY_EMPTY_ELEMENTDATA k_w_EMPTY_LIST_elements a1 h0 n0 _ T2.heap _)
def Q23_2 (Z : State) (m_OA : Addr) (w_EMPTY_ELEMENTDATA : Addr) (w_DEFAULTCAPACITY_EMPTY_ELEMENTDATA : Addr) (w_EMPTY_LIST : Addr) (w_EMPTY_LIST_elements : Addr) (w_EMPTY : Addr) (k_w_EMPTY_ELEMENTDATA : ClassId) (k_w_DEFAULTCAPACITY_EMPTY_ELEMENTDATA : ClassId) (k_w_EMPTY_LIST_elements : ClassId)  (h0 : Heap) (n0 : Nat) (v : Option Value) (h : Heap) (L : List Loc) : Prop := v = some (.int (3 : Int32)) ∧ Fr n0 L ∧ h = h0
theorem ef23_2 (m : MethodId)  : entryFrame m #[(.int (10 : Int32)), (.int (3 : Int32))] 2 = mkF m 0 #[.val (.int (10 : Int32)), .val (.int (3 : Int32))] [] := by first | (simp [entryFrame, mkF, argsToLocals, Value.category]; done) | rfl
set_option maxRecDepth 65536 in
set_option maxHeartbeats 40000000 in
theorem rm23_2 (l : Launch) (Z : State) (a0 : Array Value) (hw : ∀ d ∈ tables_1, d.before a0 Z = true) (ws : List Jvm.Cond) {m_OA : Addr} {w_EMPTY_ELEMENTDATA : Addr} {w_DEFAULTCAPACITY_EMPTY_ELEMENTDATA : Addr} {w_EMPTY_LIST : Addr} {w_EMPTY_LIST_elements : Addr} {w_EMPTY : Addr} {k_w_EMPTY_ELEMENTDATA : ClassId} {k_w_DEFAULTCAPACITY_EMPTY_ELEMENTDATA : ClassId} {k_w_EMPTY_LIST_elements : ClassId} (G : Glob Z m_OA w_EMPTY_ELEMENTDATA w_DEFAULTCAPACITY_EMPTY_ELEMENTDATA w_EMPTY_LIST w_EMPTY_LIST_elements w_EMPTY k_w_EMPTY_ELEMENTDATA k_w_DEFAULTCAPACITY_EMPTY_ELEMENTDATA k_w_EMPTY_LIST_elements)  (h0 : Heap) (n0 : Nat) (O0 : Old Z n0 h0) :
    MetFree l (⟨"java/lang/Math", "min", "(II)I"⟩ : MethodName) (head1 (Jvm.Cond.code (⟨"java/lang/Math", "min", "(II)I"⟩ : MethodName) jdk_29_method_69_code 2 (some .int) :: ws) ({ frames := 0, cells := 0, slots := 0, locals := 0 } : Room)) (fun a U => a = #[(.int (10 : Int32)), (.int (3 : Int32))] ∧ Z.Warmed39 U.vm ∧ U.heap = h0) (fun _ _ _ _ _ => True) (fun _ U o U' => ∃ v L, o = .returned v ∧ Q23_2 Z m_OA w_EMPTY_ELEMENTDATA w_DEFAULTCAPACITY_EMPTY_ELEMENTDATA w_EMPTY_LIST w_EMPTY_LIST_elements w_EMPTY k_w_EMPTY_ELEMENTDATA k_w_DEFAULTCAPACITY_EMPTY_ELEMENTDATA k_w_EMPTY_LIST_elements  h0 n0 v U'.heap L ∧ FrameEnd U o U' L ({ frames := 0, cells := 0, slots := 0, locals := 0 } : Room).cells ({ frames := 0, cells := 0, slots := 0, locals := 0 } : Room).slots) := by
  refine MetFree.of_bodySF (Jvm.Free.JP.mathPlain rfl (by decide +kernel)) hisR ?_
  intro p e s m args below meth c s₁ Bd hml0 hP hK
  obtain ⟨rfl, hZ, hh⟩ := hP
  have hx := Bd.exec
  have hby := Bd.bytes
  have hml : c.maxLocals = 2 := hml0
  have hown : s.vm.findClass "java/lang/Math" = some m.cls := findClass_of_methodNamed Bd.named
  have hnm := (name_of_methodNamed Bd.named Bd.method).1
  have X0 : Stand p l e ({ frames := 0, cells := 0, slots := 0, locals := 0 } : Room) s m #[(.int (10 : Int32)), (.int (3 : Int32))] below meth c s₁ [] 0 0 := Stand.of_body Bd
  have e0 : s₁.heap = h0 := by rw [← hh, Bd.state]; rfl
  have N0 := Fr.nil n0
  show OGot p.tables e below (s₁.setTop (entryFrame m #[(.int (10 : Int32)), (.int (3 : Int32))] 2)) _
  refine OGot.go (fun t k => castTop (ef23_2 m ) k) ?_
  show OGot p.tables e below (s₁.setTop (mkF m 0 #[.val (.int (10 : Int32)), .val (.int (3 : Int32))] [])) _
  refine OGot.go (fun t k => XS.iloadN X0.here hx rfl (hb hby d23_0) rfl k) ?_
  refine OGot.go (fun t k => XS.iloadN X0.here hx rfl (hb hby d23_1) rfl k) ?_
  refine OGot.go (fun t k => XS.icmpYes X0.here hx rfl (pc0 := 2) (pc' := 9) rfl (hb hby d23_2) rfl (by decide) (by decide) (by decide) k) ?_
  refine OGot.go (fun t k => XS.iloadN X0.here hx rfl (hb hby d23_9) rfl k) ?_
  show OGot p.tables e below (s₁.setTop (mkF m 10 #[.val (.int (10 : Int32)), .val (.int (3 : Int32))] [(.int (3 : Int32))])) _
  obtain ⟨fs, hr, hrun, hended, hW, hsame⟩ := X0.leave (v := some (.int (3 : Int32))) (fun h => by rw [Bd.returns] at h; cases h)
  refine ⟨_, _, retI X0 hx Bd.returns (hb hby d23_10) hr, hrun, hended, _, _, rfl, ?_, ⟨_, rfl⟩, hW, hsame.mono (by decide) (by decide)⟩
  exact (⟨rfl, N0, e0⟩ : Q23_2 Z m_OA w_EMPTY_ELEMENTDATA w_DEFAULTCAPACITY_EMPTY_ELEMENTDATA w_EMPTY_LIST w_EMPTY_LIST_elements w_EMPTY k_w_EMPTY_ELEMENTDATA k_w_DEFAULTCAPACITY_EMPTY_ELEMENTDATA k_w_EMPTY_LIST_elements  h0 n0 _ s₁.heap _)
def Q22_2 (Z : State) (m_OA : Addr) (w_EMPTY_ELEMENTDATA : Addr) (w_DEFAULTCAPACITY_EMPTY_ELEMENTDATA : Addr) (w_EMPTY_LIST : Addr) (w_EMPTY_LIST_elements : Addr) (w_EMPTY : Addr) (k_w_EMPTY_ELEMENTDATA : ClassId) (k_w_DEFAULTCAPACITY_EMPTY_ELEMENTDATA : ClassId) (k_w_EMPTY_LIST_elements : ClassId) (a1 : Addr) (k5 : ClassId) (a6 : Addr) (a7 : Addr) (a8 : Addr) (h0 : Heap) (n0 : Nat) (v : Option Value) (h : Heap) (L : List Loc) : Prop := Fr n0 L ∧ ∃ b4 : Addr, ∃ k4 : ClassId, v = some (.ref b4) ∧ h0.size ≤ b4 ∧ OKeep h0 h [] ∧ Exa Z h b4 "[Ljava/lang/Object;" ∧ Arv Z h b4 k4 (.object "java/lang/Object") (3 : Int32) [(.ref a6), (.ref a7), (.ref a8)] .null ∧ Ovr Z k4 "java/lang/Object"
theorem ef22_2 (m : MethodId) (x0 : Addr) (x2 : Addr) : entryFrame m #[(.ref x0), (.int (3 : Int32)), (.ref x2)] 4 = mkF m 0 #[.val (.ref x0), .val (.int (3 : Int32)), .val (.ref x2), .unset] [] := by first | (simp [entryFrame, mkF, argsToLocals, Value.category]; done) | rfl
set_option maxRecDepth 65536 in
set_option maxHeartbeats 40000000 in
theorem rm22_2 (l : Launch) (Z : State) (a0 : Array Value) (hw : ∀ d ∈ tables_1, d.before a0 Z = true) (ws : List Jvm.Cond) {m_OA : Addr} {w_EMPTY_ELEMENTDATA : Addr} {w_DEFAULTCAPACITY_EMPTY_ELEMENTDATA : Addr} {w_EMPTY_LIST : Addr} {w_EMPTY_LIST_elements : Addr} {w_EMPTY : Addr} {k_w_EMPTY_ELEMENTDATA : ClassId} {k_w_DEFAULTCAPACITY_EMPTY_ELEMENTDATA : ClassId} {k_w_EMPTY_LIST_elements : ClassId} (G : Glob Z m_OA w_EMPTY_ELEMENTDATA w_DEFAULTCAPACITY_EMPTY_ELEMENTDATA w_EMPTY_LIST w_EMPTY_LIST_elements w_EMPTY k_w_EMPTY_ELEMENTDATA k_w_DEFAULTCAPACITY_EMPTY_ELEMENTDATA k_w_EMPTY_LIST_elements) (a1 : Addr) (k5 : ClassId) (a6 : Addr) (a7 : Addr) (a8 : Addr) (h0 : Heap) (n0 : Nat) (O0 : Old Z n0 h0) (V_a1 : Arv Z h0 a1 k5 (.object "java/lang/Object") (10 : Int32) [(.ref a6), (.ref a7), (.ref a8), .null, .null, .null, .null, .null, .null, .null] .null) (O_k5 : Ovr Z k5 "java/lang/Object") (E_a8 : Exa Z h0 a8 "com/example/curtail/curtail/Placement$Cell") (E_a7 : Exa Z h0 a7 "com/example/curtail/curtail/Placement$Cell") (E_a6 : Exa Z h0 a6 "com/example/curtail/curtail/Placement$Cell") :
    MetFree l (⟨"java/util/Arrays", "copyOf", "([Ljava/lang/Object;ILjava/lang/Class;)[Ljava/lang/Object;"⟩ : MethodName) (head1 (Jvm.Cond.code (⟨"java/util/Arrays", "copyOf", "([Ljava/lang/Object;ILjava/lang/Class;)[Ljava/lang/Object;"⟩ : MethodName) jdk_65_method_120_code 4 (some (.array (.object "java/lang/Object"))) :: ws) ({ frames := 1, cells := 1, slots := 3, locals := 18 } : Room)) (fun a U => a = #[(.ref a1), (.int (3 : Int32)), (.ref m_OA)] ∧ Z.Warmed39 U.vm ∧ U.heap = h0) (fun _ _ _ _ _ => True) (fun _ U o U' => ∃ v L, o = .returned v ∧ Q22_2 Z m_OA w_EMPTY_ELEMENTDATA w_DEFAULTCAPACITY_EMPTY_ELEMENTDATA w_EMPTY_LIST w_EMPTY_LIST_elements w_EMPTY k_w_EMPTY_ELEMENTDATA k_w_DEFAULTCAPACITY_EMPTY_ELEMENTDATA k_w_EMPTY_LIST_elements a1 k5 a6 a7 a8 h0 n0 v U'.heap L ∧ FrameEnd U o U' L ({ frames := 1, cells := 1, slots := 3, locals := 18 } : Room).cells ({ frames := 1, cells := 1, slots := 3, locals := 18 } : Room).slots) := by
  refine MetFree.of_bodySF (plainFor_of_name pn_java_util_Arrays) hisR ?_
  intro p e s m args below meth c s₁ Bd hml0 hP hK
  obtain ⟨rfl, hZ, hh⟩ := hP
  have hx := Bd.exec
  have hby := Bd.bytes
  have hml : c.maxLocals = 4 := hml0
  have hown : s.vm.findClass "java/util/Arrays" = some m.cls := findClass_of_methodNamed Bd.named
  have hnm := (name_of_methodNamed Bd.named Bd.method).1
  have X0 : Stand p l e ({ frames := 1, cells := 1, slots := 3, locals := 18 } : Room) s m #[(.ref a1), (.int (3 : Int32)), (.ref m_OA)] below meth c s₁ [] 0 0 := Stand.of_body Bd
  have e0 : s₁.heap = h0 := by rw [← hh, Bd.state]; rfl
  have N0 := Fr.nil n0
  show OGot p.tables e below (s₁.setTop (entryFrame m #[(.ref a1), (.int (3 : Int32)), (.ref m_OA)] 4)) _
  refine OGot.go (fun t k => castTop (ef22_2 m a1 m_OA) k) ?_
  show OGot p.tables e below (s₁.setTop (mkF m 0 #[.val (.ref a1), .val (.int (3 : Int32)), .val (.ref m_OA), .unset] [])) _
  refine OGot.go (fun t k => XS.aloadN X0.here hx rfl (hb hby d22_0) rfl rfl k) ?_
  obtain ⟨T3, X3, e3, st3⟩ := oldcM X0 hx hZ hown (ow hw 157 rfl) e0 G.1 (g := (mkF m 1 #[.val (.ref a1), .val (.int (3 : Int32)), .val (.ref m_OA), .unset] [(.ref m_OA)])) rfl (hb hby d22_1)
  refine OGot.go st3 ?_
  refine OGot.go (fun t k => Jvm.RoadKit.acmp (g := (mkF m 3 #[.val (.ref a1), .val (.int (3 : Int32)), .val (.ref m_OA), .unset] [(.ref m_OA), (.ref m_OA)])) X3 hx rfl rfl rfl (pc0 := 3) (pc' := 6) (same := true) rfl (hb hby d22_3) rfl (decide_eq_true rfl) (by decide) (by decide) k) ?_
  refine OGot.go (fun t k => XS.iloadN X3.here hx rfl (hb hby d22_6) rfl k) ?_
  obtain ⟨T4, h4, k4, X4, e4, E4, A4, Ea4, V4, st4⟩ := newRE X3 hx hZ hown (ow hw 158 rfl) (ow hw 134 rfl) e3 (g := (mkF m 7 #[.val (.ref a1), .val (.int (3 : Int32)), .val (.ref m_OA), .unset] [(.int (3 : Int32))])) rfl (hb hby d22_7) rfl (by decide) (cap := 3) (by decide) (by decide) (by decide) (by decide) (ad := "[Ljava/lang/Object;") (by decide)
  obtain ⟨b4, g4⟩ : ∃ z, z = h0.size := ⟨_, rfl⟩
  rw [← g4] at A4 Ea4 st4
  refine OGot.go st4 ?_
  have g_b4 : n0 ≤ b4 := Nat.le_trans (osz O0) (Nat.le_of_eq g4.symm)
  have sy_b4 : h0.size ≤ b4 := Nat.le_of_eq g4.symm
  have sz_b4 : h0.size ≤ b4 := Nat.le_trans (OKeep.refl h0 []).1 sy_b4
  have K4 := (OKeep.refl h0 []).ext E4
  have O4 := O0.ext E4
  have Va4 : Arv Z h4 b4 k4 (.object "java/lang/Object") (3 : Int32) [.null, .null, .null] .null := (Arv.new A4 (by decide)).pad (pad_rep [] .null 3)
  show OGot p.tables e below (T4.setTop (mkF m 10 #[.val (.ref a1), .val (.int (3 : Int32)), .val (.ref m_OA), .unset] [(.ref b4)])) _
  refine OGot.go (fun t k => XS.goto X4.here hx rfl (pc0 := 10) (pc' := 24) rfl (hb hby d22_10) (by decide) (by decide) k) ?_
  refine OGot.go (fun t k => XS.astoreN X4.here hx rfl (hb hby d22_24) rfl rfl (l' := #[.val (.ref a1), .val (.int (3 : Int32)), .val (.ref m_OA), .val (.ref b4)]) rfl k) ?_
  refine OGot.go (fun t k => XS.aloadN X4.here hx rfl (hb hby d22_25) rfl rfl k) ?_
  refine OGot.go (fun t k => XS.iconst X4.here hx rfl (hb hby d22_26) k) ?_
  refine OGot.go (fun t k => XS.aloadN X4.here hx rfl (hb hby d22_27) rfl rfl k) ?_
  show OGot p.tables e below (T4.setTop (mkF m 28 #[.val (.ref a1), .val (.int (3 : Int32)), .val (.ref m_OA), .val (.ref b4)] [(.ref b4), (.int (0 : Int32)), (.ref a1)])) _
  refine OGot.go (fun t k => XS.iconst X4.here hx rfl (hb hby d22_28) k) ?_
  refine OGot.go (fun t k => XS.aloadN X4.here hx rfl (hb hby d22_29) rfl rfl k) ?_
  have F9 : Arv Z h4 a1 k5 (.object "java/lang/Object") (10 : Int32) [(.ref a6), (.ref a7), (.ref a8), .null, .null, .null, .null, .null, .null, .null] .null := (V_a1.ext E4)
  obtain ⟨cl10, Ar10, -, Sz10, Ng10, -, -⟩ := id (F9)
  refine OGot.go (fun t k => X4.arraylength hx (by rw [e4]; exact Ar10.1) (State.isArrayOf_alike hZ.alike Ar10.2.1) (g := (mkF m 30 #[.val (.ref a1), .val (.int (3 : Int32)), .val (.ref m_OA), .val (.ref b4)] [(.ref a1), (.int (0 : Int32)), (.ref b4), (.int (0 : Int32)), (.ref a1)])) rfl rfl (hb hby d22_30) _ k) ?_
  rw [len_of Sz10 Ng10]
  refine OGot.go (fun t k => XS.iloadN X4.here hx rfl (hb hby d22_31) rfl k) ?_
  obtain ⟨_, _, ⟨T11, L11, k11, n11⟩, -, X11, ⟨Lc11, hQ11, l11, y11, z11⟩, st11⟩ := Jvm.LawKit.callS X4 hx (y := (⟨"java/lang/Math", "min", "(II)I"⟩ : MethodName)) hown (mvT hZ (ow hw 159 rfl)) (mvT hZ (ow hw 160 rfl)) (mvT hZ (ow hw 131 rfl)) (mvT hZ (ow hw 161 rfl)) (by decide) (backOf (W := 4) (rm23_2 l Z a0 hw [] G  h4 n0 O4 ) hZ (ow hw 161 rfl) (ow hw 131 rfl) (by decide) (by decide)) (g := (mkF m 32 #[.val (.ref a1), .val (.int (3 : Int32)), .val (.ref m_OA), .val (.ref b4)] [(.int (3 : Int32)), (.int (10 : Int32)), (.int (0 : Int32)), (.ref b4), (.int (0 : Int32)), (.ref a1)])) rfl (by rw [hml]; rfl) (argsL := [(.int (10 : Int32)), (.int (3 : Int32))]) (rest := [(.int (0 : Int32)), (.ref b4), (.int (0 : Int32)), (.ref a1)]) (lenOf pd_7 rfl) rfl (by show 2 * 0 + _ ≤ _; exact Nat.le_of_eq rfl) (hb hby d22_32) (fun _ _ => ⟨rfl, e4, (by decide : 1 + 0 ≤ _), (by decide : 3 + 0 ≤ _)⟩)
  dsimp only [Pt.U, Pt.locs, Pt.cells, Pt.slots] at X11 l11 y11 z11 st11 hQ11
  subst l11 y11 z11
  obtain ⟨rfl, N11q, e11⟩ := hQ11
  have N11 := Fr.app N0 N11q
  refine OGot.go st11 ?_
  show OGot p.tables e below (T11.setTop (mkF m 35 #[.val (.ref a1), .val (.int (3 : Int32)), .val (.ref m_OA), .val (.ref b4)] [(.int (3 : Int32)), (.int (0 : Int32)), (.ref b4), (.int (0 : Int32)), (.ref a1)])) _
  obtain ⟨cb12, Ab12, qb12, -, -, -, -⟩ := id (Va4)
  obtain ⟨T12, h12, L12, X12, e12, N12, Kl12, Vc12, st12⟩ := cpA X11 hx hZ hown (ow hw 162 rfl) (ow hw 165 rfl) (ow hw 163 rfl) (ow hw 164 rfl) e11 F9 Va4 (us := [(.ref a6), (.ref a7), (.ref a8)]) (Or.inr ⟨rfl, rfl, ⟨Sto.ofV Ab12 qb12 V4 (Ins.of_exa (E_a6.ext E4) (ow hw 135 rfl)), ⟨Sto.ofV Ab12 qb12 V4 (Ins.of_exa (E_a7.ext E4) (ow hw 135 rfl)), ⟨Sto.ofV Ab12 qb12 V4 (Ins.of_exa (E_a8.ext E4) (ow hw 135 rfl)), trivial⟩⟩⟩⟩) (sp := (0 : Int32)) (dp := (0 : Int32)) (nn := (3 : Int32)) (by decide) (by decide) (by decide) (by decide) (by decide) rfl (by decide) N11 g_b4 (g := (mkF m 35 #[.val (.ref a1), .val (.int (3 : Int32)), .val (.ref m_OA), .val (.ref b4)] [(.int (3 : Int32)), (.int (0 : Int32)), (.ref b4), (.int (0 : Int32)), (.ref a1)])) rfl (by rw [hml]; rfl) rfl (hb hby d22_35) (by decide) (W := 0) (by show 2 * 0 + _ ≤ _; exact Nat.le_of_eq rfl) (by decide)
  refine OGot.go st12 ?_
  have O12 := O4.keep Kl12 (allS g_b4 all0)
  have K12 := OKeep.keepf K4 Kl12 sz_b4
  have Vd12 : Arv Z h12 b4 k4 (.object "java/lang/Object") (3 : Int32) [(.ref a6), (.ref a7), (.ref a8)] .null := Vc12
  refine OGot.go (fun t k => XS.aloadN X12.here hx rfl (hb hby d22_38) rfl rfl k) ?_
  show OGot p.tables e below (T12.setTop (mkF m 39 #[.val (.ref a1), .val (.int (3 : Int32)), .val (.ref m_OA), .val (.ref b4)] [(.ref b4)])) _
  obtain ⟨fs, hr, hrun, hended, hW, hsame⟩ := X12.leave (v := some (.ref b4)) (fun h => by rw [Bd.returns] at h; cases h)
  refine ⟨_, _, oretA X12 hx Bd.returns rfl rfl (hb hby d22_39) hr, hrun, hended, _, _, rfl, ?_, ⟨_, rfl⟩, hW, hsame.mono (by decide) (by decide)⟩
  show Q22_2 Z m_OA w_EMPTY_ELEMENTDATA w_DEFAULTCAPACITY_EMPTY_ELEMENTDATA w_EMPTY_LIST w_EMPTY_LIST_elements w_EMPTY k_w_EMPTY_ELEMENTDATA k_w_DEFAULTCAPACITY_EMPTY_ELEMENTDATA k_w_EMPTY_LIST_elements a1 k5 a6 a7 a8 h0 n0 _ T12.heap _
  rw [e12]
  exact ⟨N12, b4, k4, rfl, sz_b4, K12, (Ea4.keep Kl12), Vd12, V4⟩
def Q21_2 (Z : State) (m_OA : Addr) (w_EMPTY_ELEMENTDATA : Addr) (w_DEFAULTCAPACITY_EMPTY_ELEMENTDATA : Addr) (w_EMPTY_LIST : Addr) (w_EMPTY_LIST_elements : Addr) (w_EMPTY : Addr) (k_w_EMPTY_ELEMENTDATA : ClassId) (k_w_DEFAULTCAPACITY_EMPTY_ELEMENTDATA : ClassId) (k_w_EMPTY_LIST_elements : ClassId) (a1 : Addr) (k3 : ClassId) (a4 : Addr) (a5 : Addr) (a6 : Addr) (h0 : Heap) (n0 : Nat) (v : Option Value) (h : Heap) (L : List Loc) : Prop := Fr n0 L ∧ ∃ b4_7 : Addr, ∃ k4_7 : ClassId, v = some (.ref b4_7) ∧ h0.size ≤ b4_7 ∧ OKeep h0 h [] ∧ Exa Z h b4_7 "[Ljava/lang/Object;" ∧ Arv Z h b4_7 k4_7 (.object "java/lang/Object") (3 : Int32) [(.ref a4), (.ref a5), (.ref a6)] .null ∧ Ovr Z k4_7 "java/lang/Object"
theorem ef21_2 (m : MethodId) (x0 : Addr) : entryFrame m #[(.ref x0), (.int (3 : Int32))] 2 = mkF m 0 #[.val (.ref x0), .val (.int (3 : Int32))] [] := by first | (simp [entryFrame, mkF, argsToLocals, Value.category]; done) | rfl
set_option maxRecDepth 65536 in
set_option maxHeartbeats 40000000 in
theorem rm21_2 (l : Launch) (Z : State) (a0 : Array Value) (hw : ∀ d ∈ tables_1, d.before a0 Z = true) (ws : List Jvm.Cond) {m_OA : Addr} {w_EMPTY_ELEMENTDATA : Addr} {w_DEFAULTCAPACITY_EMPTY_ELEMENTDATA : Addr} {w_EMPTY_LIST : Addr} {w_EMPTY_LIST_elements : Addr} {w_EMPTY : Addr} {k_w_EMPTY_ELEMENTDATA : ClassId} {k_w_DEFAULTCAPACITY_EMPTY_ELEMENTDATA : ClassId} {k_w_EMPTY_LIST_elements : ClassId} (G : Glob Z m_OA w_EMPTY_ELEMENTDATA w_DEFAULTCAPACITY_EMPTY_ELEMENTDATA w_EMPTY_LIST w_EMPTY_LIST_elements w_EMPTY k_w_EMPTY_ELEMENTDATA k_w_DEFAULTCAPACITY_EMPTY_ELEMENTDATA k_w_EMPTY_LIST_elements) (a1 : Addr) (k3 : ClassId) (a4 : Addr) (a5 : Addr) (a6 : Addr) (h0 : Heap) (n0 : Nat) (O0 : Old Z n0 h0) (E_a1 : Exa Z h0 a1 "[Ljava/lang/Object;") (V_a1 : Arv Z h0 a1 k3 (.object "java/lang/Object") (10 : Int32) [(.ref a4), (.ref a5), (.ref a6), .null, .null, .null, .null, .null, .null, .null] .null) (O_k3 : Ovr Z k3 "java/lang/Object") (E_a6 : Exa Z h0 a6 "com/example/curtail/curtail/Placement$Cell") (E_a5 : Exa Z h0 a5 "com/example/curtail/curtail/Placement$Cell") (E_a4 : Exa Z h0 a4 "com/example/curtail/curtail/Placement$Cell") :
    MetFree l (⟨"java/util/Arrays", "copyOf", "([Ljava/lang/Object;I)[Ljava/lang/Object;"⟩ : MethodName) (head1 (Jvm.Cond.code (⟨"java/util/Arrays", "copyOf", "([Ljava/lang/Object;I)[Ljava/lang/Object;"⟩ : MethodName) jdk_65_method_119_code 2 (some (.array (.object "java/lang/Object"))) :: ws) ({ frames := 2, cells := 1, slots := 3, locals := 33 } : Room)) (fun a U => a = #[(.ref a1), (.int (3 : Int32))] ∧ Z.Warmed39 U.vm ∧ U.heap = h0) (fun _ _ _ _ _ => True) (fun _ U o U' => ∃ v L, o = .returned v ∧ Q21_2 Z m_OA w_EMPTY_ELEMENTDATA w_DEFAULTCAPACITY_EMPTY_ELEMENTDATA w_EMPTY_LIST w_EMPTY_LIST_elements w_EMPTY k_w_EMPTY_ELEMENTDATA k_w_DEFAULTCAPACITY_EMPTY_ELEMENTDATA k_w_EMPTY_LIST_elements a1 k3 a4 a5 a6 h0 n0 v U'.heap L ∧ FrameEnd U o U' L ({ frames := 2, cells := 1, slots := 3, locals := 33 } : Room).cells ({ frames := 2, cells := 1, slots := 3, locals := 33 } : Room).slots) := by
  refine MetFree.of_bodySF (plainFor_of_name pn_java_util_Arrays) hisR ?_
  intro p e s m args below meth c s₁ Bd hml0 hP hK
  obtain ⟨rfl, hZ, hh⟩ := hP
  have hx := Bd.exec
  have hby := Bd.bytes
  have hml : c.maxLocals = 2 := hml0
  have hown : s.vm.findClass "java/util/Arrays" = some m.cls := findClass_of_methodNamed Bd.named
  have hnm := (name_of_methodNamed Bd.named Bd.method).1
  have X0 : Stand p l e ({ frames := 2, cells := 1, slots := 3, locals := 33 } : Room) s m #[(.ref a1), (.int (3 : Int32))] below meth c s₁ [] 0 0 := Stand.of_body Bd
  have e0 : s₁.heap = h0 := by rw [← hh, Bd.state]; rfl
  have N0 := Fr.nil n0
  show OGot p.tables e below (s₁.setTop (entryFrame m #[(.ref a1), (.int (3 : Int32))] 2)) _
  refine OGot.go (fun t k => castTop (ef21_2 m a1) k) ?_
  show OGot p.tables e below (s₁.setTop (mkF m 0 #[.val (.ref a1), .val (.int (3 : Int32))] [])) _
  refine OGot.go (fun t k => XS.aloadN X0.here hx rfl (hb hby d21_0) rfl rfl k) ?_
  refine OGot.go (fun t k => XS.iloadN X0.here hx rfl (hb hby d21_1) rfl k) ?_
  refine OGot.go (fun t k => XS.aloadN X0.here hx rfl (hb hby d21_2) rfl rfl k) ?_
  obtain ⟨T2, X2, e2, st2⟩ := ogcls X0 hx hZ hown (ow hw 148 rfl) (ow hw 149 rfl) (ow hw 50 rfl) (ow hw 151 rfl) (ow hw 150 rfl) (ow hw 152 rfl) e0 E_a1 G.1 (g := (mkF m 3 #[.val (.ref a1), .val (.int (3 : Int32))] [(.ref a1), (.int (3 : Int32)), (.ref a1)])) rfl (by rw [hml]; rfl) rfl (hb hby d21_3) (by decide) (W := 2) (by show 2 * 0 + _ ≤ _; exact Nat.le_of_eq rfl) (by decide)
  refine OGot.go st2 ?_
  obtain ⟨_, _, ⟨T7, L7, k7, n7⟩, -, X7, ⟨Lc7, hQ7, l7, y7, z7⟩, st7⟩ := Jvm.LawKit.callS X2 hx (y := (⟨"java/util/Arrays", "copyOf", "([Ljava/lang/Object;ILjava/lang/Class;)[Ljava/lang/Object;"⟩ : MethodName)) hown (mvT hZ (ow hw 154 rfl)) (mvT hZ (ow hw 155 rfl)) (mvT hZ (ow hw 146 rfl)) (mvT hZ (ow hw 156 rfl)) (by decide) (backOf (W := 0) (rm22_2 l Z a0 hw [] G a1 k3 a4 a5 a6 h0 n0 O0 V_a1 O_k3 E_a6 E_a5 E_a4) hZ (ow hw 156 rfl) (ow hw 146 rfl) (by decide) (by decide)) (g := (mkF m 6 #[.val (.ref a1), .val (.int (3 : Int32))] [(.ref m_OA), (.int (3 : Int32)), (.ref a1)])) rfl (by rw [hml]; rfl) (argsL := [(.ref a1), (.int (3 : Int32)), (.ref m_OA)]) (rest := []) (lenOf pd_12 rfl) rfl (by show 2 * 0 + _ ≤ _; exact Nat.le_of_eq rfl) (hb hby d21_6) (fun _ _ => ⟨rfl, e2, (by decide : 0 + 1 ≤ _), (by decide : 0 + 3 ≤ _)⟩)
  dsimp only [Pt.U, Pt.locs, Pt.cells, Pt.slots] at X7 l7 y7 z7 st7 hQ7
  subst l7 y7 z7
  obtain ⟨N7q, b4_7, k4_7, rfl, szb4_7_7, K7, Fo7_0, Fo7_1, Fo7_2⟩ := hQ7
  have g_b4_7 : n0 ≤ b4_7 := Nat.le_trans (osz O0) szb4_7_7
  have sz_b4_7 : h0.size ≤ b4_7 := Nat.le_trans (OKeep.refl h0 []).1 szb4_7_7
  have Kc7 := (OKeep.refl h0 []).trans K7 oin0
  have O7 := OKeep.old O0 K7 oge0
  have N7 := Fr.app N0 N7q
  refine OGot.go st7 ?_
  show OGot p.tables e below (T7.setTop (mkF m 9 #[.val (.ref a1), .val (.int (3 : Int32))] [(.ref b4_7)])) _
  obtain ⟨fs, hr, hrun, hended, hW, hsame⟩ := X7.leave (v := some (.ref b4_7)) (fun h => by rw [Bd.returns] at h; cases h)
  refine ⟨_, _, oretA X7 hx Bd.returns rfl rfl (hb hby d21_9) hr, hrun, hended, _, _, rfl, ?_, ⟨_, rfl⟩, hW, hsame.mono (by decide) (by decide)⟩
  show Q21_2 Z m_OA w_EMPTY_ELEMENTDATA w_DEFAULTCAPACITY_EMPTY_ELEMENTDATA w_EMPTY_LIST w_EMPTY_LIST_elements w_EMPTY k_w_EMPTY_ELEMENTDATA k_w_DEFAULTCAPACITY_EMPTY_ELEMENTDATA k_w_EMPTY_LIST_elements a1 k3 a4 a5 a6 h0 n0 _ T7.heap _
  exact ⟨N7, b4_7, k4_7, rfl, sz_b4_7, Kc7, Fo7_0, Fo7_1, Fo7_2⟩
def Q20_2 (Z : State) (m_OA : Addr) (w_EMPTY_ELEMENTDATA : Addr) (w_DEFAULTCAPACITY_EMPTY_ELEMENTDATA : Addr) (w_EMPTY_LIST : Addr) (w_EMPTY_LIST_elements : Addr) (w_EMPTY : Addr) (k_w_EMPTY_ELEMENTDATA : ClassId) (k_w_DEFAULTCAPACITY_EMPTY_ELEMENTDATA : ClassId) (k_w_EMPTY_LIST_elements : ClassId) (a1 : Addr) (a2 : Addr) (k5 : ClassId) (a6 : Addr) (a7 : Addr) (a8 : Addr) (h0 : Heap) (n0 : Nat) (v : Option Value) (h : Heap) (L : List Loc) : Prop := Fr n0 L ∧ ∃ b4_7_9 : Addr, ∃ k4_7_9 : ClassId, v = some (.ref b4_7_9) ∧ h0.size ≤ b4_7_9 ∧ OKeep h0 h [] ∧ Exa Z h b4_7_9 "[Ljava/lang/Object;" ∧ Arv Z h b4_7_9 k4_7_9 (.object "java/lang/Object") (3 : Int32) [(.ref a6), (.ref a7), (.ref a8)] .null ∧ Ovr Z k4_7_9 "java/lang/Object"
theorem ef20_2 (m : MethodId) (x0 : Addr) : entryFrame m #[(.ref x0)] 1 = mkF m 0 #[.val (.ref x0)] [] := by first | (simp [entryFrame, mkF, argsToLocals, Value.category]; done) | rfl
set_option maxRecDepth 65536 in
set_option maxHeartbeats 40000000 in
theorem rm20_2 (l : Launch) (Z : State) (a0 : Array Value) (hw : ∀ d ∈ tables_1, d.before a0 Z = true) (ws : List Jvm.Cond) {m_OA : Addr} {w_EMPTY_ELEMENTDATA : Addr} {w_DEFAULTCAPACITY_EMPTY_ELEMENTDATA : Addr} {w_EMPTY_LIST : Addr} {w_EMPTY_LIST_elements : Addr} {w_EMPTY : Addr} {k_w_EMPTY_ELEMENTDATA : ClassId} {k_w_DEFAULTCAPACITY_EMPTY_ELEMENTDATA : ClassId} {k_w_EMPTY_LIST_elements : ClassId} (G : Glob Z m_OA w_EMPTY_ELEMENTDATA w_DEFAULTCAPACITY_EMPTY_ELEMENTDATA w_EMPTY_LIST w_EMPTY_LIST_elements w_EMPTY k_w_EMPTY_ELEMENTDATA k_w_DEFAULTCAPACITY_EMPTY_ELEMENTDATA k_w_EMPTY_LIST_elements) (a1 : Addr) (a2 : Addr) (k5 : ClassId) (a6 : Addr) (a7 : Addr) (a8 : Addr) (h0 : Heap) (n0 : Nat) (O0 : Old Z n0 h0) (F_elementData_a1 : Fld Z h0 a1 "java/util/ArrayList" "elementData" "[Ljava/lang/Object;" (.ref a2)) (F_size_a1 : Fld Z h0 a1 "java/util/ArrayList" "size" "I" (.int (3 : Int32))) (E_a2 : Exa Z h0 a2 "[Ljava/lang/Object;") (V_a2 : Arv Z h0 a2 k5 (.object "java/lang/Object") (10 : Int32) [(.ref a6), (.ref a7), (.ref a8), .null, .null, .null, .null, .null, .null, .null] .null) (O_k5 : Ovr Z k5 "java/lang/Object") (E_a8 : Exa Z h0 a8 "com/example/curtail/curtail/Placement$Cell") (E_a7 : Exa Z h0 a7 "com/example/curtail/curtail/Placement$Cell") (E_a6 : Exa Z h0 a6 "com/example/curtail/curtail/Placement$Cell") :
    MetFree l (⟨"java/util/ArrayList", "toArray", "()[Ljava/lang/Object;"⟩ : MethodName) (head1 (Jvm.Cond.code (⟨"java/util/ArrayList", "toArray", "()[Ljava/lang/Object;"⟩ : MethodName) jdk_38_method_16_code 1 (some (.array (.object "java/lang/Object"))) :: ws) ({ frames := 3, cells := 1, slots := 3, locals := 46 } : Room)) (fun a U => a = #[(.ref a1)] ∧ Z.Warmed39 U.vm ∧ U.heap = h0) (fun _ _ _ _ _ => True) (fun _ U o U' => ∃ v L, o = .returned v ∧ Q20_2 Z m_OA w_EMPTY_ELEMENTDATA w_DEFAULTCAPACITY_EMPTY_ELEMENTDATA w_EMPTY_LIST w_EMPTY_LIST_elements w_EMPTY k_w_EMPTY_ELEMENTDATA k_w_DEFAULTCAPACITY_EMPTY_ELEMENTDATA k_w_EMPTY_LIST_elements a1 a2 k5 a6 a7 a8 h0 n0 v U'.heap L ∧ FrameEnd U o U' L ({ frames := 3, cells := 1, slots := 3, locals := 46 } : Room).cells ({ frames := 3, cells := 1, slots := 3, locals := 46 } : Room).slots) := by
  refine MetFree.of_bodySF (plainFor_of_name pn_java_util_ArrayList) hisR ?_
  intro p e s m args below meth c s₁ Bd hml0 hP hK
  obtain ⟨rfl, hZ, hh⟩ := hP
  have hx := Bd.exec
  have hby := Bd.bytes
  have hml : c.maxLocals = 1 := hml0
  have hown : s.vm.findClass "java/util/ArrayList" = some m.cls := findClass_of_methodNamed Bd.named
  have hnm := (name_of_methodNamed Bd.named Bd.method).1
  have X0 : Stand p l e ({ frames := 3, cells := 1, slots := 3, locals := 46 } : Room) s m #[(.ref a1)] below meth c s₁ [] 0 0 := Stand.of_body Bd
  have e0 : s₁.heap = h0 := by rw [← hh, Bd.state]; rfl
  have N0 := Fr.nil n0
  show OGot p.tables e below (s₁.setTop (entryFrame m #[(.ref a1)] 1)) _
  refine OGot.go (fun t k => castTop (ef20_2 m a1) k) ?_
  show OGot p.tables e below (s₁.setTop (mkF m 0 #[.val (.ref a1)] [])) _
  refine OGot.go (fun t k => XS.aloadN X0.here hx rfl (hb hby d20_0) rfl rfl k) ?_
  obtain ⟨T3, X3, e3, st3⟩ := getF X0 hx hZ hown (host := "") (Or.inl (ow hw 27 rfl)) Via.refl e0 F_elementData_a1 (g := (mkF m 1 #[.val (.ref a1)] [(.ref a1)])) rfl rfl (hb hby d20_1)
  refine OGot.go st3 ?_
  refine OGot.go (fun t k => XS.aloadN X3.here hx rfl (hb hby d20_4) rfl rfl k) ?_
  obtain ⟨T4, X4, e4, st4⟩ := getF X3 hx hZ hown (host := "") (Or.inl (ow hw 61 rfl)) Via.refl e3 F_size_a1 (g := (mkF m 5 #[.val (.ref a1)] [(.ref a1), (.ref a2)])) rfl rfl (hb hby d20_5)
  refine OGot.go st4 ?_
  obtain ⟨_, _, ⟨T9, L9, k9, n9⟩, -, X9, ⟨Lc9, hQ9, l9, y9, z9⟩, st9⟩ := Jvm.LawKit.callS X4 hx (y := (⟨"java/util/Arrays", "copyOf", "([Ljava/lang/Object;I)[Ljava/lang/Object;"⟩ : MethodName)) hown (mvT hZ (ow hw 144 rfl)) (mvT hZ (ow hw 145 rfl)) (mvT hZ (ow hw 146 rfl)) (mvT hZ (ow hw 147 rfl)) (by decide) (backOf (W := 0) (rm21_2 l Z a0 hw [] G a2 k5 a6 a7 a8 h0 n0 O0 E_a2 V_a2 O_k5 E_a8 E_a7 E_a6) hZ (ow hw 147 rfl) (ow hw 146 rfl) (by decide) (by decide)) (g := (mkF m 8 #[.val (.ref a1)] [(.int (3 : Int32)), (.ref a2)])) rfl (by rw [hml]; rfl) (argsL := [(.ref a2), (.int (3 : Int32))]) (rest := []) (lenOf pd_13 rfl) rfl (by show 2 * 0 + _ ≤ _; exact Nat.le_of_eq rfl) (hb hby d20_8) (fun _ _ => ⟨rfl, e4, (by decide : 0 + 1 ≤ _), (by decide : 0 + 3 ≤ _)⟩)
  dsimp only [Pt.U, Pt.locs, Pt.cells, Pt.slots] at X9 l9 y9 z9 st9 hQ9
  subst l9 y9 z9
  obtain ⟨N9q, b4_7_9, k4_7_9, rfl, szb4_7_9_9, K9, Fo9_0, Fo9_1, Fo9_2⟩ := hQ9
  have g_b4_7_9 : n0 ≤ b4_7_9 := Nat.le_trans (osz O0) szb4_7_9_9
  have sz_b4_7_9 : h0.size ≤ b4_7_9 := Nat.le_trans (OKeep.refl h0 []).1 szb4_7_9_9
  have Kc9 := (OKeep.refl h0 []).trans K9 oin0
  have O9 := OKeep.old O0 K9 oge0
  have N9 := Fr.app N0 N9q
  refine OGot.go st9 ?_
  show OGot p.tables e below (T9.setTop (mkF m 11 #[.val (.ref a1)] [(.ref b4_7_9)])) _
  obtain ⟨fs, hr, hrun, hended, hW, hsame⟩ := X9.leave (v := some (.ref b4_7_9)) (fun h => by rw [Bd.returns] at h; cases h)
  refine ⟨_, _, oretA X9 hx Bd.returns rfl rfl (hb hby d20_11) hr, hrun, hended, _, _, rfl, ?_, ⟨_, rfl⟩, hW, hsame.mono (by decide) (by decide)⟩
  show Q20_2 Z m_OA w_EMPTY_ELEMENTDATA w_DEFAULTCAPACITY_EMPTY_ELEMENTDATA w_EMPTY_LIST w_EMPTY_LIST_elements w_EMPTY k_w_EMPTY_ELEMENTDATA k_w_DEFAULTCAPACITY_EMPTY_ELEMENTDATA k_w_EMPTY_LIST_elements a1 a2 k5 a6 a7 a8 h0 n0 _ T9.heap _
  exact ⟨N9, b4_7_9, k4_7_9, rfl, sz_b4_7_9, Kc9, Fo9_0, Fo9_1, Fo9_2⟩
theorem d24_59 : decode jdk_40_method_47_code 59 = .ok (.aload_n 0, 1) := by decide +kernel
theorem d24_60 : decode jdk_40_method_47_code 60 = .ok (.invokestatic 109, 3) := by decide +kernel
theorem d25_0 : decode jdk_56_method_4_code 0 = .ok (.aload_n 0, 1) := by decide +kernel
theorem d25_1 : decode jdk_56_method_4_code 1 = .ok (.arraylength, 1) := by decide +kernel
theorem d25_2 : decode jdk_56_method_4_code 2 = .ok (.anewarray 2, 3) := by decide +kernel
theorem d25_5 : decode jdk_56_method_4_code 5 = .ok (.astore_n 1, 1) := by decide +kernel
theorem d25_6 : decode jdk_56_method_4_code 6 = .ok (.iconst 0, 1) := by decide +kernel
theorem d25_7 : decode jdk_56_method_4_code 7 = .ok (.istore_n 2, 1) := by decide +kernel
theorem d25_8 : decode jdk_56_method_4_code 8 = .ok (.iload_n 2, 1) := by decide +kernel
theorem d25_9 : decode jdk_56_method_4_code 9 = .ok (.aload_n 0, 1) := by decide +kernel
theorem d25_10 : decode jdk_56_method_4_code 10 = .ok (.arraylength, 1) := by decide +kernel
theorem d25_11 : decode jdk_56_method_4_code 11 = .ok (.if_icmp .ge 18, 3) := by decide +kernel
theorem d25_14 : decode jdk_56_method_4_code 14 = .ok (.aload_n 1, 1) := by decide +kernel
theorem d25_15 : decode jdk_56_method_4_code 15 = .ok (.iload_n 2, 1) := by decide +kernel
theorem d25_16 : decode jdk_56_method_4_code 16 = .ok (.aload_n 0, 1) := by decide +kernel
theorem d25_17 : decode jdk_56_method_4_code 17 = .ok (.iload_n 2, 1) := by decide +kernel
theorem d25_18 : decode jdk_56_method_4_code 18 = .ok (.aaload, 1) := by decide +kernel
theorem d25_19 : decode jdk_56_method_4_code 19 = .ok (.invokestatic 37, 3) := by decide +kernel
theorem d25_22 : decode jdk_56_method_4_code 22 = .ok (.aastore, 1) := by decide +kernel
theorem d25_23 : decode jdk_56_method_4_code 23 = .ok (.iinc 2 1, 3) := by decide +kernel
theorem d25_26 : decode jdk_56_method_4_code 26 = .ok (.goto (-18), 3) := by decide +kernel
theorem d25_29 : decode jdk_56_method_4_code 29 = .ok (.new 12, 3) := by decide +kernel
theorem d25_32 : decode jdk_56_method_4_code 32 = .ok (.dup, 1) := by decide +kernel
theorem d25_33 : decode jdk_56_method_4_code 33 = .ok (.aload_n 1, 1) := by decide +kernel
theorem d25_34 : decode jdk_56_method_4_code 34 = .ok (.iconst 0, 1) := by decide +kernel
theorem d25_35 : decode jdk_56_method_4_code 35 = .ok (.invokespecial 43, 3) := by decide +kernel
theorem d27_0 : decode jdk_45_method_1_code 0 = .ok (.aload_n 0, 1) := by decide +kernel
theorem d27_1 : decode jdk_45_method_1_code 1 = .ok (.invokespecial 1, 3) := by decide +kernel
theorem d27_4 : decode jdk_45_method_1_code 4 = .ok (.aload_n 0, 1) := by decide +kernel
theorem d27_5 : decode jdk_45_method_1_code 5 = .ok (.aload_n 1, 1) := by decide +kernel
theorem d27_6 : decode jdk_45_method_1_code 6 = .ok (.putfield 7, 3) := by decide +kernel
theorem d27_9 : decode jdk_45_method_1_code 9 = .ok (.aload_n 0, 1) := by decide +kernel
theorem d27_10 : decode jdk_45_method_1_code 10 = .ok (.iload_n 2, 1) := by decide +kernel
theorem d27_11 : decode jdk_45_method_1_code 11 = .ok (.putfield 13, 3) := by decide +kernel
theorem d27_14 : decode jdk_45_method_1_code 14 = .ok (.return_, 1) := by decide +kernel
def Q27 (Z : State) (m_OA : Addr) (w_EMPTY_ELEMENTDATA : Addr) (w_DEFAULTCAPACITY_EMPTY_ELEMENTDATA : Addr) (w_EMPTY_LIST : Addr) (w_EMPTY_LIST_elements : Addr) (w_EMPTY : Addr) (k_w_EMPTY_ELEMENTDATA : ClassId) (k_w_DEFAULTCAPACITY_EMPTY_ELEMENTDATA : ClassId) (k_w_EMPTY_LIST_elements : ClassId) (a1 : Addr) (a2 : Addr) (h0 : Heap) (n0 : Nat) (v : Option Value) (h : Heap) (L : List Loc) : Prop := Fr n0 L ∧ v = none ∧ OKeep h0 h [(a1, Jvm.RoadKit.slotOf Z "java/util/ImmutableCollections$ListN" "elements" "[Ljava/lang/Object;"), (a1, Jvm.RoadKit.slotOf Z "java/util/ImmutableCollections$ListN" "allowNulls" "Z")] ∧ Fld Z h a1 "java/util/ImmutableCollections$ListN" "elements" "[Ljava/lang/Object;" (.ref a2) ∧ Fld Z h a1 "java/util/ImmutableCollections$ListN" "allowNulls" "Z" (.int (0 : Int32))
theorem ef27 (m : MethodId) (x0 : Addr) (x1 : Addr) : entryFrame m #[(.ref x0), (.ref x1), (.int (0 : Int32))] 3 = mkF m 0 #[.val (.ref x0), .val (.ref x1), .val (.int (0 : Int32))] [] := by first | (simp [entryFrame, mkF, argsToLocals, Value.category]; done) | rfl
set_option maxRecDepth 65536 in
set_option maxHeartbeats 40000000 in
theorem rm27 (l : Launch) (Z : State) (a0 : Array Value) (hw : ∀ d ∈ tables_1, d.before a0 Z = true) (ws : List Jvm.Cond) {m_OA : Addr} {w_EMPTY_ELEMENTDATA : Addr} {w_DEFAULTCAPACITY_EMPTY_ELEMENTDATA : Addr} {w_EMPTY_LIST : Addr} {w_EMPTY_LIST_elements : Addr} {w_EMPTY : Addr} {k_w_EMPTY_ELEMENTDATA : ClassId} {k_w_DEFAULTCAPACITY_EMPTY_ELEMENTDATA : ClassId} {k_w_EMPTY_LIST_elements : ClassId} (G : Glob Z m_OA w_EMPTY_ELEMENTDATA w_DEFAULTCAPACITY_EMPTY_ELEMENTDATA w_EMPTY_LIST w_EMPTY_LIST_elements w_EMPTY k_w_EMPTY_ELEMENTDATA k_w_DEFAULTCAPACITY_EMPTY_ELEMENTDATA k_w_EMPTY_LIST_elements) (a1 : Addr) (a2 : Addr) (h0 : Heap) (n0 : Nat) (O0 : Old Z n0 h0) (E_a1 : Exa Z h0 a1 "java/util/ImmutableCollections$ListN") (F_elements_a1 : Fld Z h0 a1 "java/util/ImmutableCollections$ListN" "elements" "[Ljava/lang/Object;" .null) (g_a1 : n0 ≤ a1) (F_allowNulls_a1 : Fld Z h0 a1 "java/util/ImmutableCollections$ListN" "allowNulls" "Z" (.int (0 : Int32))) :
    MetFree l (⟨"java/util/ImmutableCollections$ListN", "<init>", "([Ljava/lang/Object;Z)V"⟩ : MethodName) (head1 (Jvm.Cond.code (⟨"java/util/ImmutableCollections$ListN", "<init>", "([Ljava/lang/Object;Z)V"⟩ : MethodName) jdk_45_method_1_code 3 none :: ws) ({ frames := 4, cells := 0, slots := 0, locals := 48 } : Room)) (fun a U => a = #[(.ref a1), (.ref a2), (.int (0 : Int32))] ∧ Z.Warmed39 U.vm ∧ U.heap = h0) (fun _ _ _ _ _ => True) (fun _ U o U' => ∃ v L, o = .returned v ∧ Q27 Z m_OA w_EMPTY_ELEMENTDATA w_DEFAULTCAPACITY_EMPTY_ELEMENTDATA w_EMPTY_LIST w_EMPTY_LIST_elements w_EMPTY k_w_EMPTY_ELEMENTDATA k_w_DEFAULTCAPACITY_EMPTY_ELEMENTDATA k_w_EMPTY_LIST_elements a1 a2 h0 n0 v U'.heap L ∧ FrameEnd U o U' L ({ frames := 4, cells := 0, slots := 0, locals := 48 } : Room).cells ({ frames := 4, cells := 0, slots := 0, locals := 48 } : Room).slots) := by
  refine MetFree.of_bodySF (plainFor_of_name pn_java_util_ImmutableCollections_ListN) hisR ?_
  intro p e s m args below meth c s₁ Bd hml0 hP hK
  obtain ⟨rfl, hZ, hh⟩ := hP
  have hx := Bd.exec
  have hby := Bd.bytes
  have hml : c.maxLocals = 3 := hml0
  have hown : s.vm.findClass "java/util/ImmutableCollections$ListN" = some m.cls := findClass_of_methodNamed Bd.named
  have hnm := (name_of_methodNamed Bd.named Bd.method).1
  have X0 : Stand p l e ({ frames := 4, cells := 0, slots := 0, locals := 48 } : Room) s m #[(.ref a1), (.ref a2), (.int (0 : Int32))] below meth c s₁ [] 0 0 := Stand.of_body Bd
  have e0 : s₁.heap = h0 := by rw [← hh, Bd.state]; rfl
  have N0 := Fr.nil n0
  show OGot p.tables e below (s₁.setTop (entryFrame m #[(.ref a1), (.ref a2), (.int (0 : Int32))] 3)) _
  refine OGot.go (fun t k => castTop (ef27 m a1 a2) k) ?_
  show OGot p.tables e below (s₁.setTop (mkF m 0 #[.val (.ref a1), .val (.ref a2), .val (.int (0 : Int32))] [])) _
  refine OGot.go (fun t k => XS.aloadN X0.here hx rfl (hb hby d27_0) rfl rfl k) ?_
  obtain ⟨_, _, ⟨T3, L3, k3, n3⟩, -, X3, ⟨Lc3, hQ3, l3, y3, z3⟩, st3⟩ := X0.specialBack hx (y := (⟨"java/util/ImmutableCollections$AbstractImmutableList", "<init>", "()V"⟩ : MethodName)) rfl hown (mvT hZ (ow hw 182 rfl)) (mvT hZ (ow hw 183 rfl)) (mvT hZ (ow hw 187 rfl)) (by decide) (backOf (W := 0) (rm28 l Z a0 hw [] G a1 h0 n0 O0 ) hZ (ow hw 187 rfl) (ow hw 186 rfl) (by decide) (by decide)) (g := (mkF m 1 #[.val (.ref a1), .val (.ref a2), .val (.int (0 : Int32))] [(.ref a1)])) rfl (by rw [hml]; rfl) (Steps.refl _) (a := a1) (argsL := []) (rest := []) (lenOf pd_0 rfl) rfl (by show 2 * 0 + _ ≤ _; exact Nat.le_of_eq rfl) (hb hby d27_1) (fun _ _ => ⟨rfl, e0, (by decide : 0 + 0 ≤ _), (by decide : 0 + 0 ≤ _)⟩)
  dsimp only [Pt.U, Pt.locs, Pt.cells, Pt.slots] at X3 l3 y3 z3 st3 hQ3
  subst l3 y3 z3
  obtain ⟨rfl, N3q, e3⟩ := hQ3
  have N3 := Fr.app N0 N3q
  refine OGot.on st3 ?_
  refine OGot.go (fun t k => XS.aloadN X3.here hx rfl (hb hby d27_4) rfl rfl k) ?_
  refine OGot.go (fun t k => XS.aloadN X3.here hx rfl (hb hby d27_5) rfl rfl k) ?_
  obtain ⟨T4, h4, X4, e4, W4, st4⟩ := putF X3 hx hZ hown (host := "") (Or.inl (ow hw 77 rfl)) Via.refl e3 F_elements_a1 E_a1 (Or.inr ⟨(ow hw 78 rfl), rfl, hnm⟩) (ow hw 177 rfl) (ty := (.array (.object "java/lang/Object"))) (by decide) rfl rfl (g := (mkF m 6 #[.val (.ref a1), .val (.ref a2), .val (.int (0 : Int32))] [(.ref a2), (.ref a1)])) rfl rfl (hb hby d27_6)
  refine OGot.go st4 ?_
  have N4 := Fr.snoc X4 N3 g_a1
  have O4 := O0.wr W4 g_a1
  have K4 := (OKeep.refl h0 [(a1, Jvm.RoadKit.slotOf Z "java/util/ImmutableCollections$ListN" "elements" "[Ljava/lang/Object;"), (a1, Jvm.RoadKit.slotOf Z "java/util/ImmutableCollections$ListN" "allowNulls" "Z")]).wr W4 (Or.inl (List.mem_of_getElem? (i := 0) rfl))
  have Fw4 : Fld Z h4 a1 "java/util/ImmutableCollections$ListN" "elements" "[Ljava/lang/Object;" (.ref a2) := F_elements_a1.same W4
  show OGot p.tables e below (T4.setTop (mkF m 9 #[.val (.ref a1), .val (.ref a2), .val (.int (0 : Int32))] [])) _
  refine OGot.go (fun t k => XS.aloadN X4.here hx rfl (hb hby d27_9) rfl rfl k) ?_
  refine OGot.go (fun t k => XS.iloadN X4.here hx rfl (hb hby d27_10) rfl k) ?_
  have F5 : Fld Z h4 a1 "java/util/ImmutableCollections$ListN" "allowNulls" "Z" (.int (0 : Int32)) := (F_allowNulls_a1.other W4 (Or.inr (slot_ne (Or.inr (ow hw 197 rfl)) (Or.inr (ow hw 78 rfl)) (by decide) (t := .boolean) (t' := (.array (.object "java/lang/Object"))) (by decide) (by decide))))
  obtain ⟨T6, h6, X6, e6, W6, st6⟩ := putFN X4 hx hZ hown (ow hw 196 rfl) Via.refl e4 F5 (E_a1.wr W4) (Or.inr ⟨(ow hw 197 rfl), rfl, hnm⟩) (ow hw 177 rfl) (ty := .boolean) (v' := (.int (0 : Int32))) (by decide) rfl (fits_nar_bool (0 : Int32)) (g := (mkF m 11 #[.val (.ref a1), .val (.ref a2), .val (.int (0 : Int32))] [(.int (0 : Int32)), (.ref a1)])) rfl rfl (hb hby d27_11)
  refine OGot.go st6 ?_
  have N6 := Fr.snoc X6 N4 g_a1
  have O6 := O4.wr W6 g_a1
  have K6 := K4.wr W6 (Or.inl (List.mem_of_getElem? (i := 1) rfl))
  have Fw6 : Fld Z h6 a1 "java/util/ImmutableCollections$ListN" "allowNulls" "Z" (.int (0 : Int32)) := F5.same W6
  show OGot p.tables e below (T6.setTop (mkF m 14 #[.val (.ref a1), .val (.ref a2), .val (.int (0 : Int32))] [])) _
  obtain ⟨fs, hr, hrun, hended, hW, hsame⟩ := X6.leave (v := none) (fun _ => rfl)
  refine ⟨_, _, X6.returnOut hx Bd.returns (hb hby d27_14) hr, hrun, hended, _, _, rfl, ?_, ⟨_, rfl⟩, hW, hsame.mono (by decide) (by decide)⟩
  have F7 : Fld Z h6 a1 "java/util/ImmutableCollections$ListN" "elements" "[Ljava/lang/Object;" (.ref a2) := (Fw4.other W6 (Or.inr (slot_ne (Or.inr (ow hw 78 rfl)) (Or.inr (ow hw 197 rfl)) (by decide) (t := (.array (.object "java/lang/Object"))) (t' := .boolean) (by decide) (by decide))))
  show Q27 Z m_OA w_EMPTY_ELEMENTDATA w_DEFAULTCAPACITY_EMPTY_ELEMENTDATA w_EMPTY_LIST w_EMPTY_LIST_elements w_EMPTY k_w_EMPTY_ELEMENTDATA k_w_DEFAULTCAPACITY_EMPTY_ELEMENTDATA k_w_EMPTY_LIST_elements a1 a2 h0 n0 _ T6.heap _
  rw [e6]
  exact ⟨N6, rfl, K6, F7, Fw6⟩
theorem pd_19 : parseMethodDescriptor "([Ljava/lang/Object;Z)V" = some ⟨[(.array (.object "java/lang/Object")), .boolean], none⟩ := by decide +kernel
theorem d25_38 : decode jdk_56_method_4_code 38 = .ok (.areturn, 1) := by decide +kernel
def Q25 (Z : State) (m_OA : Addr) (w_EMPTY_ELEMENTDATA : Addr) (w_DEFAULTCAPACITY_EMPTY_ELEMENTDATA : Addr) (w_EMPTY_LIST : Addr) (w_EMPTY_LIST_elements : Addr) (w_EMPTY : Addr) (k_w_EMPTY_ELEMENTDATA : ClassId) (k_w_DEFAULTCAPACITY_EMPTY_ELEMENTDATA : ClassId) (k_w_EMPTY_LIST_elements : ClassId) (a1 : Addr) (k2 : ClassId) (a3 : Addr) (a4 : Addr) (a5 : Addr) (h0 : Heap) (n0 : Nat) (v : Option Value) (h : Heap) (L : List Loc) : Prop := Fr n0 L ∧ ∃ b26 : Addr, ∃ b7 : Addr, ∃ k7 : ClassId, v = some (.ref b26) ∧ h0.size ≤ b26 ∧ h0.size ≤ b7 ∧ b26 ≠ b7 ∧ OKeep h0 h [] ∧ Exa Z h b26 "java/util/ImmutableCollections$ListN" ∧ Fld Z h b26 "java/util/ImmutableCollections$ListN" "allowNulls" "Z" (.int (0 : Int32)) ∧ Fld Z h b26 "java/util/ImmutableCollections$ListN" "elements" "[Ljava/lang/Object;" (.ref b7) ∧ Exa Z h b7 "[Ljava/lang/Object;" ∧ Arv Z h b7 k7 (.object "java/lang/Object") (3 : Int32) [(.ref a3), (.ref a4), (.ref a5)] .null ∧ Ovr Z k7 "java/lang/Object"
theorem ef25 (m : MethodId) (x0 : Addr) : entryFrame m #[(.ref x0)] 3 = mkF m 0 #[.val (.ref x0), .unset, .unset] [] := by first | (simp [entryFrame, mkF, argsToLocals, Value.category]; done) | rfl
set_option maxRecDepth 65536 in
set_option maxHeartbeats 40000000 in
theorem rm25 (l : Launch) (Z : State) (a0 : Array Value) (hw : ∀ d ∈ tables_1, d.before a0 Z = true) (ws : List Jvm.Cond) {m_OA : Addr} {w_EMPTY_ELEMENTDATA : Addr} {w_DEFAULTCAPACITY_EMPTY_ELEMENTDATA : Addr} {w_EMPTY_LIST : Addr} {w_EMPTY_LIST_elements : Addr} {w_EMPTY : Addr} {k_w_EMPTY_ELEMENTDATA : ClassId} {k_w_DEFAULTCAPACITY_EMPTY_ELEMENTDATA : ClassId} {k_w_EMPTY_LIST_elements : ClassId} (G : Glob Z m_OA w_EMPTY_ELEMENTDATA w_DEFAULTCAPACITY_EMPTY_ELEMENTDATA w_EMPTY_LIST w_EMPTY_LIST_elements w_EMPTY k_w_EMPTY_ELEMENTDATA k_w_DEFAULTCAPACITY_EMPTY_ELEMENTDATA k_w_EMPTY_LIST_elements) (a1 : Addr) (k2 : ClassId) (a3 : Addr) (a4 : Addr) (a5 : Addr) (h0 : Heap) (n0 : Nat) (O0 : Old Z n0 h0) (V_a1 : Arv Z h0 a1 k2 (.object "java/lang/Object") (3 : Int32) [(.ref a3), (.ref a4), (.ref a5)] .null) (O_k2 : Ovr Z k2 "java/lang/Object") (E_a3 : Exa Z h0 a3 "com/example/curtail/curtail/Placement$Cell") (E_a1 : Exa Z h0 a1 "[Ljava/lang/Object;") (E_a4 : Exa Z h0 a4 "com/example/curtail/curtail/Placement$Cell") (E_a5 : Exa Z h0 a5 "com/example/curtail/curtail/Placement$Cell") :
    MetFree l (⟨"java/util/ImmutableCollections", "listFromArray", "([Ljava/lang/Object;)Ljava/util/List;"⟩ : MethodName) (head1 (Jvm.Cond.code (⟨"java/util/ImmutableCollections", "listFromArray", "([Ljava/lang/Object;)Ljava/util/List;"⟩ : MethodName) jdk_56_method_4_code 3 (some (.object "java/util/List")) :: ws) ({ frames := 5, cells := 2, slots := 5, locals := 63 } : Room)) (fun a U => a = #[(.ref a1)] ∧ Z.Warmed39 U.vm ∧ U.heap = h0) (fun _ _ _ _ _ => True) (fun _ U o U' => ∃ v L, o = .returned v ∧ Q25 Z m_OA w_EMPTY_ELEMENTDATA w_DEFAULTCAPACITY_EMPTY_ELEMENTDATA w_EMPTY_LIST w_EMPTY_LIST_elements w_EMPTY k_w_EMPTY_ELEMENTDATA k_w_DEFAULTCAPACITY_EMPTY_ELEMENTDATA k_w_EMPTY_LIST_elements a1 k2 a3 a4 a5 h0 n0 v U'.heap L ∧ FrameEnd U o U' L ({ frames := 5, cells := 2, slots := 5, locals := 63 } : Room).cells ({ frames := 5, cells := 2, slots := 5, locals := 63 } : Room).slots) := by
  refine MetFree.of_bodySF (plainFor_of_name pn_java_util_ImmutableCollections) hisR ?_
  intro p e s m args below meth c s₁ Bd hml0 hP hK
  obtain ⟨rfl, hZ, hh⟩ := hP
  have hx := Bd.exec
  have hby := Bd.bytes
  have hml : c.maxLocals = 3 := hml0
  have hown : s.vm.findClass "java/util/ImmutableCollections" = some m.cls := findClass_of_methodNamed Bd.named
  have hnm := (name_of_methodNamed Bd.named Bd.method).1
  have X0 : Stand p l e ({ frames := 5, cells := 2, slots := 5, locals := 63 } : Room) s m #[(.ref a1)] below meth c s₁ [] 0 0 := Stand.of_body Bd
  have e0 : s₁.heap = h0 := by rw [← hh, Bd.state]; rfl
  have N0 := Fr.nil n0
  show OGot p.tables e below (s₁.setTop (entryFrame m #[(.ref a1)] 3)) _
  refine OGot.go (fun t k => castTop (ef25 m a1) k) ?_
  show OGot p.tables e below (s₁.setTop (mkF m 0 #[.val (.ref a1), .unset, .unset] [])) _
  refine OGot.go (fun t k => XS.aloadN X0.here hx rfl (hb hby d25_0) rfl rfl k) ?_
  obtain ⟨cl6, Ar6, -, Sz6, Ng6, -, -⟩ := id (V_a1)
  refine OGot.go (fun t k => X0.arraylength hx (by rw [e0]; exact Ar6.1) (State.isArrayOf_alike hZ.alike Ar6.2.1) (g := (mkF m 1 #[.val (.ref a1), .unset, .unset] [(.ref a1)])) rfl rfl (hb hby d25_1) _ k) ?_
  rw [len_of Sz6 Ng6]
  obtain ⟨T7, h7, k7, X7, e7, E7, A7, Ea7, V7, st7⟩ := newRE X0 hx hZ hown (ow hw 172 rfl) (ow hw 134 rfl) e0 (g := (mkF m 2 #[.val (.ref a1), .unset, .unset] [(.int (3 : Int32))])) rfl (hb hby d25_2) rfl (by decide) (cap := 3) (by decide) (by decide) (by decide) (by decide) (ad := "[Ljava/lang/Object;") (by decide)
  obtain ⟨b7, g7⟩ : ∃ z, z = h0.size := ⟨_, rfl⟩
  rw [← g7] at A7 Ea7 st7
  refine OGot.go st7 ?_
  have g_b7 : n0 ≤ b7 := Nat.le_trans (osz O0) (Nat.le_of_eq g7.symm)
  have sy_b7 : h0.size ≤ b7 := Nat.le_of_eq g7.symm
  have sz_b7 : h0.size ≤ b7 := Nat.le_trans (OKeep.refl h0 []).1 sy_b7
  have K7 := (OKeep.refl h0 []).ext E7
  have O7 := O0.ext E7
  have Va7 : Arv Z h7 b7 k7 (.object "java/lang/Object") (3 : Int32) [.null, .null, .null] .null := (Arv.new A7 (by decide)).pad (pad_rep [] .null 3)
  refine OGot.go (fun t k => XS.astoreN X7.here hx rfl (hb hby d25_5) rfl rfl (l' := #[.val (.ref a1), .val (.ref b7), .unset]) rfl k) ?_
  refine OGot.go (fun t k => XS.iconst X7.here hx rfl (hb hby d25_6) k) ?_
  show OGot p.tables e below (T7.setTop (mkF m 7 #[.val (.ref a1), .val (.ref b7), .unset] [(.int (0 : Int32))])) _
  refine OGot.go (fun t k => XS.istoreN X7.here hx rfl (hb hby d25_7) rfl (l' := #[.val (.ref a1), .val (.ref b7), .val (.int (0 : Int32))]) rfl k) ?_
  refine OGot.go (fun t k => XS.iloadN X7.here hx rfl (hb hby d25_8) rfl k) ?_
  refine OGot.go (fun t k => XS.aloadN X7.here hx rfl (hb hby d25_9) rfl rfl k) ?_
  have F8 : Arv Z h7 a1 k2 (.object "java/lang/Object") (3 : Int32) [(.ref a3), (.ref a4), (.ref a5)] .null := (V_a1.ext E7)
  obtain ⟨cl9, Ar9, -, Sz9, Ng9, -, -⟩ := id (F8)
  refine OGot.go (fun t k => X7.arraylength hx (by rw [e7]; exact Ar9.1) (State.isArrayOf_alike hZ.alike Ar9.2.1) (g := (mkF m 10 #[.val (.ref a1), .val (.ref b7), .val (.int (0 : Int32))] [(.ref a1), (.int (0 : Int32))])) rfl rfl (hb hby d25_10) _ k) ?_
  rw [len_of Sz9 Ng9]
  refine OGot.go (fun t k => XS.icmpNo X7.here hx rfl (hb hby d25_11) rfl (by decide) k) ?_
  show OGot p.tables e below (T7.setTop (mkF m 14 #[.val (.ref a1), .val (.ref b7), .val (.int (0 : Int32))] [])) _
  refine OGot.go (fun t k => XS.aloadN X7.here hx rfl (hb hby d25_14) rfl rfl k) ?_
  refine OGot.go (fun t k => XS.iloadN X7.here hx rfl (hb hby d25_15) rfl k) ?_
  refine OGot.go (fun t k => XS.aloadN X7.here hx rfl (hb hby d25_16) rfl rfl k) ?_
  refine OGot.go (fun t k => XS.iloadN X7.here hx rfl (hb hby d25_17) rfl k) ?_
  obtain ⟨cl10, Ar10, qc10, Sz10, Ng10, Hh10, Gg10⟩ := id (F8)
  have hin10 : ¬ ((0 : Int32) < 0 ∨ cl10.slots.size ≤ ((0 : Int32)).toNatClampNeg) := inb_of Sz10 ⟨by decide, by decide⟩
  have hat10 : cl10.slots[((0 : Int32)).toNatClampNeg]? = some (.ref a3) := Hh10.at hin10 rfl
  refine OGot.go (fun t k => X7.aaload hx (j := (0 : Int32)) (v := (.ref a3)) (by rw [e7]; exact Ar10.1) (State.isArrayOf_alike hZ.alike Ar10.2.1) rfl Ar10.2.2 hin10 hat10 (g := (mkF m 18 #[.val (.ref a1), .val (.ref b7), .val (.int (0 : Int32))] [(.int (0 : Int32)), (.ref a1), (.int (0 : Int32)), (.ref b7)])) rfl rfl (hb hby d25_18) _ k) ?_
  show OGot p.tables e below (T7.setTop (mkF m 19 #[.val (.ref a1), .val (.ref b7), .val (.int (0 : Int32))] [(.ref a3), (.int (0 : Int32)), (.ref b7)])) _
  obtain ⟨_, _, ⟨T11, L11, k11, n11⟩, -, X11, ⟨Lc11, hQ11, l11, y11, z11⟩, st11⟩ := Jvm.LawKit.callS X7 hx (y := (⟨"java/util/Objects", "requireNonNull", "(Ljava/lang/Object;)Ljava/lang/Object;"⟩ : MethodName)) hown (mvT hZ (ow hw 173 rfl)) (mvT hZ (ow hw 174 rfl)) (mvT hZ (ow hw 175 rfl)) (mvT hZ (ow hw 176 rfl)) (by decide) (backOf (W := 2) (rm26 l Z a0 hw [] G a3 h7 n0 O7 ) hZ (ow hw 176 rfl) (ow hw 175 rfl) (by decide) (by decide)) (g := (mkF m 19 #[.val (.ref a1), .val (.ref b7), .val (.int (0 : Int32))] [(.ref a3), (.int (0 : Int32)), (.ref b7)])) rfl (by rw [hml]; rfl) (argsL := [(.ref a3)]) (rest := [(.int (0 : Int32)), (.ref b7)]) (lenOf pd_14 rfl) rfl (by show 2 * 0 + _ ≤ _; exact Nat.le_of_eq rfl) (hb hby d25_19) (fun _ _ => ⟨rfl, e7, (by decide : 1 + 0 ≤ _), (by decide : 3 + 0 ≤ _)⟩)
  dsimp only [Pt.U, Pt.locs, Pt.cells, Pt.slots] at X11 l11 y11 z11 st11 hQ11
  subst l11 y11 z11
  obtain ⟨rfl, N11q, e11⟩ := hQ11
  have N11 := Fr.app N0 N11q
  refine OGot.go st11 ?_
  obtain ⟨cl12, Ar12, qc12, Sz12, Ng12, Hh12, Gg12⟩ := id (Va7)
  have hin12 : ¬ ((0 : Int32) < 0 ∨ cl12.slots.size ≤ ((0 : Int32)).toNatClampNeg) := inb_of Sz12 ⟨by decide, by decide⟩
  obtain ⟨T12, h12, X12, e12, W12, st12⟩ := stR X11 hx hZ e11 Ar12 (j := (0 : Int32)) hin12 rfl (Sto.ofV Ar12 qc12 V7 (Ins.of_exa (E_a3.ext E7) (ow hw 135 rfl))) (g := (mkF m 22 #[.val (.ref a1), .val (.ref b7), .val (.int (0 : Int32))] [(.ref a3), (.int (0 : Int32)), (.ref b7)])) rfl rfl (hb hby d25_22)
  refine OGot.go st12 ?_
  have N12 := Fr.snoc X12 N11 g_b7
  have O12 := O7.wr W12 g_b7
  have K12 := K7.wr W12 (Or.inr sz_b7)
  have Va12 : Arv Z h12 b7 k7 (.object "java/lang/Object") (3 : Int32) [(.ref a3), .null, .null] .null := Arv.set Ar12 qc12 Sz12 Ng12 Hh12 Gg12 rfl W12 0 rfl (Nat.le_of_ble_eq_true rfl)
  refine OGot.go (fun t k => XS.iinc X12.here hx rfl (hb hby d25_23) rfl (l' := #[.val (.ref a1), .val (.ref b7), .val (.int (1 : Int32))]) rfl k) ?_
  refine OGot.go (fun t k => XS.goto X12.here hx rfl (pc0 := 26) (pc' := 8) rfl (hb hby d25_26) (by decide) (by decide) k) ?_
  refine OGot.go (fun t k => XS.iloadN X12.here hx rfl (hb hby d25_8) rfl k) ?_
  show OGot p.tables e below (T12.setTop (mkF m 9 #[.val (.ref a1), .val (.ref b7), .val (.int (1 : Int32))] [(.int (1 : Int32))])) _
  refine OGot.go (fun t k => XS.aloadN X12.here hx rfl (hb hby d25_9) rfl rfl k) ?_
  have ne13 : a1 ≠ b7 := (Nat.ne_of_lt (Nat.lt_of_lt_of_le E_a1.lt sy_b7))
  have F14 : Arv Z h12 a1 k2 (.object "java/lang/Object") (3 : Int32) [(.ref a3), (.ref a4), (.ref a5)] .null := (F8.other W12 ne13)
  obtain ⟨cl15, Ar15, -, Sz15, Ng15, -, -⟩ := id (F14)
  refine OGot.go (fun t k => X12.arraylength hx (by rw [e12]; exact Ar15.1) (State.isArrayOf_alike hZ.alike Ar15.2.1) (g := (mkF m 10 #[.val (.ref a1), .val (.ref b7), .val (.int (1 : Int32))] [(.ref a1), (.int (1 : Int32))])) rfl rfl (hb hby d25_10) _ k) ?_
  rw [len_of Sz15 Ng15]
  refine OGot.go (fun t k => XS.icmpNo X12.here hx rfl (hb hby d25_11) rfl (by decide) k) ?_
  refine OGot.go (fun t k => XS.aloadN X12.here hx rfl (hb hby d25_14) rfl rfl k) ?_
  refine OGot.go (fun t k => XS.iloadN X12.here hx rfl (hb hby d25_15) rfl k) ?_
  show OGot p.tables e below (T12.setTop (mkF m 16 #[.val (.ref a1), .val (.ref b7), .val (.int (1 : Int32))] [(.int (1 : Int32)), (.ref b7)])) _
  refine OGot.go (fun t k => XS.aloadN X12.here hx rfl (hb hby d25_16) rfl rfl k) ?_
  refine OGot.go (fun t k => XS.iloadN X12.here hx rfl (hb hby d25_17) rfl k) ?_
  obtain ⟨cl16, Ar16, qc16, Sz16, Ng16, Hh16, Gg16⟩ := id (F14)
  have hin16 : ¬ ((1 : Int32) < 0 ∨ cl16.slots.size ≤ ((1 : Int32)).toNatClampNeg) := inb_of Sz16 ⟨by decide, by decide⟩
  have hat16 : cl16.slots[((1 : Int32)).toNatClampNeg]? = some (.ref a4) := Hh16.at hin16 rfl
  refine OGot.go (fun t k => X12.aaload hx (j := (1 : Int32)) (v := (.ref a4)) (by rw [e12]; exact Ar16.1) (State.isArrayOf_alike hZ.alike Ar16.2.1) rfl Ar16.2.2 hin16 hat16 (g := (mkF m 18 #[.val (.ref a1), .val (.ref b7), .val (.int (1 : Int32))] [(.int (1 : Int32)), (.ref a1), (.int (1 : Int32)), (.ref b7)])) rfl rfl (hb hby d25_18) _ k) ?_
  obtain ⟨_, _, ⟨T17, L17, k17, n17⟩, -, X17, ⟨Lc17, hQ17, l17, y17, z17⟩, st17⟩ := Jvm.LawKit.callS X12 hx (y := (⟨"java/util/Objects", "requireNonNull", "(Ljava/lang/Object;)Ljava/lang/Object;"⟩ : MethodName)) hown (mvT hZ (ow hw 173 rfl)) (mvT hZ (ow hw 174 rfl)) (mvT hZ (ow hw 175 rfl)) (mvT hZ (ow hw 176 rfl)) (by decide) (backOf (W := 2) (rm26 l Z a0 hw [] G a4 h12 n0 O12 ) hZ (ow hw 176 rfl) (ow hw 175 rfl) (by decide) (by decide)) (g := (mkF m 19 #[.val (.ref a1), .val (.ref b7), .val (.int (1 : Int32))] [(.ref a4), (.int (1 : Int32)), (.ref b7)])) rfl (by rw [hml]; rfl) (argsL := [(.ref a4)]) (rest := [(.int (1 : Int32)), (.ref b7)]) (lenOf pd_14 rfl) rfl (by show 2 * 0 + _ ≤ _; exact Nat.le_of_eq rfl) (hb hby d25_19) (fun _ _ => ⟨rfl, e12, (by decide : 1 + 0 ≤ _), (by decide : 3 + 0 ≤ _)⟩)
  dsimp only [Pt.U, Pt.locs, Pt.cells, Pt.slots] at X17 l17 y17 z17 st17 hQ17
  subst l17 y17 z17
  obtain ⟨rfl, N17q, e17⟩ := hQ17
  have N17 := Fr.app N12 N17q
  refine OGot.go st17 ?_
  obtain ⟨cl18, Ar18, qc18, Sz18, Ng18, Hh18, Gg18⟩ := id (Va12)
  have hin18 : ¬ ((1 : Int32) < 0 ∨ cl18.slots.size ≤ ((1 : Int32)).toNatClampNeg) := inb_of Sz18 ⟨by decide, by decide⟩
  obtain ⟨T18, h18, X18, e18, W18, st18⟩ := stR X17 hx hZ e17 Ar18 (j := (1 : Int32)) hin18 rfl (Sto.ofV Ar18 qc18 V7 (Ins.of_exa ((E_a4.ext E7).wr W12) (ow hw 135 rfl))) (g := (mkF m 22 #[.val (.ref a1), .val (.ref b7), .val (.int (1 : Int32))] [(.ref a4), (.int (1 : Int32)), (.ref b7)])) rfl rfl (hb hby d25_22)
  refine OGot.go st18 ?_
  have N18 := Fr.snoc X18 N17 g_b7
  have O18 := O12.wr W18 g_b7
  have K18 := K12.wr W18 (Or.inr sz_b7)
  have Va18 : Arv Z h18 b7 k7 (.object "java/lang/Object") (3 : Int32) [(.ref a3), (.ref a4), .null] .null := Arv.set Ar18 qc18 Sz18 Ng18 Hh18 Gg18 rfl W18 1 rfl (Nat.le_of_ble_eq_true rfl)
  show OGot p.tables e below (T18.setTop (mkF m 23 #[.val (.ref a1), .val (.ref b7), .val (.int (1 : Int32))] [])) _
  refine OGot.go (fun t k => XS.iinc X18.here hx rfl (hb hby d25_23) rfl (l' := #[.val (.ref a1), .val (.ref b7), .val (.int (2 : Int32))]) rfl k) ?_
  refine OGot.go (fun t k => XS.goto X18.here hx rfl (pc0 := 26) (pc' := 8) rfl (hb hby d25_26) (by decide) (by decide) k) ?_
  refine OGot.go (fun t k => XS.iloadN X18.here hx rfl (hb hby d25_8) rfl k) ?_
  refine OGot.go (fun t k => XS.aloadN X18.here hx rfl (hb hby d25_9) rfl rfl k) ?_
  have F19 : Arv Z h18 a1 k2 (.object "java/lang/Object") (3 : Int32) [(.ref a3), (.ref a4), (.ref a5)] .null := (F14.other W18 ne13)
  obtain ⟨cl20, Ar20, -, Sz20, Ng20, -, -⟩ := id (F19)
  refine OGot.go (fun t k => X18.arraylength hx (by rw [e18]; exact Ar20.1) (State.isArrayOf_alike hZ.alike Ar20.2.1) (g := (mkF m 10 #[.val (.ref a1), .val (.ref b7), .val (.int (2 : Int32))] [(.ref a1), (.int (2 : Int32))])) rfl rfl (hb hby d25_10) _ k) ?_
  rw [len_of Sz20 Ng20]
  show OGot p.tables e below (T18.setTop (mkF m 11 #[.val (.ref a1), .val (.ref b7), .val (.int (2 : Int32))] [(.int (3 : Int32)), (.int (2 : Int32))])) _
  refine OGot.go (fun t k => XS.icmpNo X18.here hx rfl (hb hby d25_11) rfl (by decide) k) ?_
  refine OGot.go (fun t k => XS.aloadN X18.here hx rfl (hb hby d25_14) rfl rfl k) ?_
  refine OGot.go (fun t k => XS.iloadN X18.here hx rfl (hb hby d25_15) rfl k) ?_
  refine OGot.go (fun t k => XS.aloadN X18.here hx rfl (hb hby d25_16) rfl rfl k) ?_
  refine OGot.go (fun t k => XS.iloadN X18.here hx rfl (hb hby d25_17) rfl k) ?_
  show OGot p.tables e below (T18.setTop (mkF m 18 #[.val (.ref a1), .val (.ref b7), .val (.int (2 : Int32))] [(.int (2 : Int32)), (.ref a1), (.int (2 : Int32)), (.ref b7)])) _
  obtain ⟨cl21, Ar21, qc21, Sz21, Ng21, Hh21, Gg21⟩ := id (F19)
  have hin21 : ¬ ((2 : Int32) < 0 ∨ cl21.slots.size ≤ ((2 : Int32)).toNatClampNeg) := inb_of Sz21 ⟨by decide, by decide⟩
  have hat21 : cl21.slots[((2 : Int32)).toNatClampNeg]? = some (.ref a5) := Hh21.at hin21 rfl
  refine OGot.go (fun t k => X18.aaload hx (j := (2 : Int32)) (v := (.ref a5)) (by rw [e18]; exact Ar21.1) (State.isArrayOf_alike hZ.alike Ar21.2.1) rfl Ar21.2.2 hin21 hat21 (g := (mkF m 18 #[.val (.ref a1), .val (.ref b7), .val (.int (2 : Int32))] [(.int (2 : Int32)), (.ref a1), (.int (2 : Int32)), (.ref b7)])) rfl rfl (hb hby d25_18) _ k) ?_
  obtain ⟨_, _, ⟨T22, L22, k22, n22⟩, -, X22, ⟨Lc22, hQ22, l22, y22, z22⟩, st22⟩ := Jvm.LawKit.callS X18 hx (y := (⟨"java/util/Objects", "requireNonNull", "(Ljava/lang/Object;)Ljava/lang/Object;"⟩ : MethodName)) hown (mvT hZ (ow hw 173 rfl)) (mvT hZ (ow hw 174 rfl)) (mvT hZ (ow hw 175 rfl)) (mvT hZ (ow hw 176 rfl)) (by decide) (backOf (W := 2) (rm26 l Z a0 hw [] G a5 h18 n0 O18 ) hZ (ow hw 176 rfl) (ow hw 175 rfl) (by decide) (by decide)) (g := (mkF m 19 #[.val (.ref a1), .val (.ref b7), .val (.int (2 : Int32))] [(.ref a5), (.int (2 : Int32)), (.ref b7)])) rfl (by rw [hml]; rfl) (argsL := [(.ref a5)]) (rest := [(.int (2 : Int32)), (.ref b7)]) (lenOf pd_14 rfl) rfl (by show 2 * 0 + _ ≤ _; exact Nat.le_of_eq rfl) (hb hby d25_19) (fun _ _ => ⟨rfl, e18, (by decide : 1 + 0 ≤ _), (by decide : 3 + 0 ≤ _)⟩)
  dsimp only [Pt.U, Pt.locs, Pt.cells, Pt.slots] at X22 l22 y22 z22 st22 hQ22
  subst l22 y22 z22
  obtain ⟨rfl, N22q, e22⟩ := hQ22
  have N22 := Fr.app N18 N22q
  refine OGot.go st22 ?_
  obtain ⟨cl23, Ar23, qc23, Sz23, Ng23, Hh23, Gg23⟩ := id (Va18)
  have hin23 : ¬ ((2 : Int32) < 0 ∨ cl23.slots.size ≤ ((2 : Int32)).toNatClampNeg) := inb_of Sz23 ⟨by decide, by decide⟩
  obtain ⟨T23, h23, X23, e23, W23, st23⟩ := stR X22 hx hZ e22 Ar23 (j := (2 : Int32)) hin23 rfl (Sto.ofV Ar23 qc23 V7 (Ins.of_exa (((E_a5.ext E7).wr W12).wr W18) (ow hw 135 rfl))) (g := (mkF m 22 #[.val (.ref a1), .val (.ref b7), .val (.int (2 : Int32))] [(.ref a5), (.int (2 : Int32)), (.ref b7)])) rfl rfl (hb hby d25_22)
  refine OGot.go st23 ?_
  have N23 := Fr.snoc X23 N22 g_b7
  have O23 := O18.wr W23 g_b7
  have K23 := K18.wr W23 (Or.inr sz_b7)
  have Va23 : Arv Z h23 b7 k7 (.object "java/lang/Object") (3 : Int32) [(.ref a3), (.ref a4), (.ref a5)] .null := Arv.set Ar23 qc23 Sz23 Ng23 Hh23 Gg23 rfl W23 2 rfl (Nat.le_of_ble_eq_true rfl)
  refine OGot.go (fun t k => XS.iinc X23.here hx rfl (hb hby d25_23) rfl (l' := #[.val (.ref a1), .val (.ref b7), .val (.int (3 : Int32))]) rfl k) ?_
  refine OGot.go (fun t k => XS.goto X23.here hx rfl (pc0 := 26) (pc' := 8) rfl (hb hby d25_26) (by decide) (by decide) k) ?_
  show OGot p.tables e below (T23.setTop (mkF m 8 #[.val (.ref a1), .val (.ref b7), .val (.int (3 : Int32))] [])) _
  refine OGot.go (fun t k => XS.iloadN X23.here hx rfl (hb hby d25_8) rfl k) ?_
  refine OGot.go (fun t k => XS.aloadN X23.here hx rfl (hb hby d25_9) rfl rfl k) ?_
  have F24 : Arv Z h23 a1 k2 (.object "java/lang/Object") (3 : Int32) [(.ref a3), (.ref a4), (.ref a5)] .null := (F19.other W23 ne13)
  obtain ⟨cl25, Ar25, -, Sz25, Ng25, -, -⟩ := id (F24)
  refine OGot.go (fun t k => X23.arraylength hx (by rw [e23]; exact Ar25.1) (State.isArrayOf_alike hZ.alike Ar25.2.1) (g := (mkF m 10 #[.val (.ref a1), .val (.ref b7), .val (.int (3 : Int32))] [(.ref a1), (.int (3 : Int32))])) rfl rfl (hb hby d25_10) _ k) ?_
  rw [len_of Sz25 Ng25]
  refine OGot.go (fun t k => XS.icmpYes X23.here hx rfl (pc0 := 11) (pc' := 29) rfl (hb hby d25_11) rfl (by decide) (by decide) (by decide) k) ?_
  obtain ⟨T26, h26, X26, e26, E26, A26, D26, -, st26⟩ := newO X23 hx hZ hown (ow hw 51 rfl) (ow hw 177 rfl) (ow hw 75 rfl) e23 (g := (mkF m 29 #[.val (.ref a1), .val (.ref b7), .val (.int (3 : Int32))] [])) rfl (hb hby d25_29) (by decide) (by decide)
  obtain ⟨b26, g26⟩ : ∃ z, z = h23.size := ⟨_, rfl⟩
  rw [← g26] at A26 D26 st26
  refine OGot.go st26 ?_
  have g_b26 : n0 ≤ b26 := Nat.le_trans (osz O23) (Nat.le_of_eq g26.symm)
  have sy_b26 : h23.size ≤ b26 := Nat.le_of_eq g26.symm
  have sz_b26 : h0.size ≤ b26 := Nat.le_trans K23.1 sy_b26
  have K26 := K23.ext E26
  have O26 := O23.ext E26
  have F26_elements : Fld Z h26 b26 "java/util/ImmutableCollections$ListN" "elements" "[Ljava/lang/Object;" .null := D26 (Or.inr (ow hw 78 rfl)) (ty := (.array (.object "java/lang/Object"))) (by decide)
  have F26_allowNulls : Fld Z h26 b26 "java/util/ImmutableCollections$ListN" "allowNulls" "Z" (.int (0 : Int32)) := D26 (Or.inr (ow hw 197 rfl)) (ty := .boolean) (by decide)
  show OGot p.tables e below (T26.setTop (mkF m 32 #[.val (.ref a1), .val (.ref b7), .val (.int (3 : Int32))] [(.ref b26)])) _
  refine OGot.go (fun t k => XS.dup X26.here hx rfl (hb hby d25_32) rfl rfl k) ?_
  refine OGot.go (fun t k => XS.aloadN X26.here hx rfl (hb hby d25_33) rfl rfl k) ?_
  refine OGot.go (fun t k => XS.iconst X26.here hx rfl (hb hby d25_34) k) ?_
  obtain ⟨_, _, ⟨T27, L27, k27, n27⟩, -, X27, ⟨Lc27, hQ27, l27, y27, z27⟩, st27⟩ := X26.specialBackNest hx (y := (⟨"java/util/ImmutableCollections$ListN", "<init>", "([Ljava/lang/Object;Z)V"⟩ : MethodName)) rfl hown (omvN hZ (ow hw 178 rfl)) (mvT hZ (ow hw 179 rfl)) (mvT hZ (ow hw 181 rfl)) (by decide) (backOf (W := 1) (rm27 l Z a0 hw [] G b26 b7 h26 n0 O26 A26 F26_elements g_b26 F26_allowNulls) hZ (ow hw 181 rfl) (ow hw 75 rfl) (by decide) (by decide)) (g := (mkF m 35 #[.val (.ref a1), .val (.ref b7), .val (.int (3 : Int32))] [(.int (0 : Int32)), (.ref b7), (.ref b26), (.ref b26)])) rfl (by rw [hml]; rfl) (Steps.refl _) (a := b26) (argsL := [(.ref b7), (.int (0 : Int32))]) (rest := [(.ref b26)]) (lenOf pd_19 rfl) rfl (by show 2 * 0 + _ ≤ _; exact Nat.le_of_eq rfl) (hb hby d25_35) (fun _ _ => ⟨rfl, e26, (by decide : 2 + 0 ≤ _), (by decide : 5 + 0 ≤ _)⟩)
  dsimp only [Pt.U, Pt.locs, Pt.cells, Pt.slots] at X27 l27 y27 z27 st27 hQ27
  subst l27 y27 z27
  obtain ⟨N27q, rfl, K27, Fo27_0, Fo27_1⟩ := hQ27
  have Kc27 := K26.trans K27 (oinS (Or.inr sz_b26) (oinS (Or.inr sz_b26) oin0))
  have O27 := OKeep.old O26 K27 (ogeS g_b26 (ogeS g_b26 oge0))
  have N27 := Fr.app N23 N27q
  refine OGot.on st27 ?_
  show OGot p.tables e below (T27.setTop (mkF m 38 #[.val (.ref a1), .val (.ref b7), .val (.int (3 : Int32))] [(.ref b26)])) _
  obtain ⟨fs, hr, hrun, hended, hW, hsame⟩ := X27.leave (v := some (.ref b26)) (fun h => by rw [Bd.returns] at h; cases h)
  refine ⟨_, _, oretA X27 hx Bd.returns rfl rfl (hb hby d25_38) hr, hrun, hended, _, _, rfl, ?_, ⟨_, rfl⟩, hW, hsame.mono (by decide) (by decide)⟩
  have ne29 : b7 ≠ b26 := (Nat.ne_of_lt (Nat.lt_of_lt_of_le (Nat.lt_of_lt_of_le (Nat.lt_of_lt_of_le (Nat.lt_of_lt_of_le A7.lt (Keep.of_wr W12).1) (Keep.of_wr W18).1) (Keep.of_wr W23).1) sy_b26))
  have F30 : Arv Z T27.heap b7 k7 (.object "java/lang/Object") (3 : Int32) [(.ref a3), (.ref a4), (.ref a5)] .null := (OKeep.arv (Va23.ext E26) K27 (oallS ne29 (oallS ne29 oall0)))
  show Q25 Z m_OA w_EMPTY_ELEMENTDATA w_DEFAULTCAPACITY_EMPTY_ELEMENTDATA w_EMPTY_LIST w_EMPTY_LIST_elements w_EMPTY k_w_EMPTY_ELEMENTDATA k_w_DEFAULTCAPACITY_EMPTY_ELEMENTDATA k_w_EMPTY_LIST_elements a1 k2 a3 a4 a5 h0 n0 _ T27.heap _
  exact ⟨N27, b26, b7, k7, rfl, sz_b26, sz_b7, (Ne.symm ((Nat.ne_of_lt (Nat.lt_of_lt_of_le (Nat.lt_of_lt_of_le (Nat.lt_of_lt_of_le (Nat.lt_of_lt_of_le A7.lt (Keep.of_wr W12).1) (Keep.of_wr W18).1) (Keep.of_wr W23).1) sy_b26)))), Kc27, (OKeep.exa A26 K27), Fo27_1, Fo27_0, (OKeep.exa ((((Ea7.wr W12).wr W18).wr W23).ext E26) K27), F30, V7⟩
theorem d24_63 : decode jdk_40_method_47_code 63 = .ok (.areturn, 1) := by decide +kernel
def Q24_2 (Z : State) (m_OA : Addr) (w_EMPTY_ELEMENTDATA : Addr) (w_DEFAULTCAPACITY_EMPTY_ELEMENTDATA : Addr) (w_EMPTY_LIST : Addr) (w_EMPTY_LIST_elements : Addr) (w_EMPTY : Addr) (k_w_EMPTY_ELEMENTDATA : ClassId) (k_w_DEFAULTCAPACITY_EMPTY_ELEMENTDATA : ClassId) (k_w_EMPTY_LIST_elements : ClassId) (a1 : Addr) (k2 : ClassId) (a3 : Addr) (a4 : Addr) (a5 : Addr) (h0 : Heap) (n0 : Nat) (v : Option Value) (h : Heap) (L : List Loc) : Prop := Fr n0 L ∧ ∃ b26_7 : Addr, ∃ b7_7 : Addr, ∃ k7_7 : ClassId, v = some (.ref b26_7) ∧ h0.size ≤ b26_7 ∧ h0.size ≤ b7_7 ∧ b26_7 ≠ b7_7 ∧ OKeep h0 h [] ∧ Exa Z h b26_7 "java/util/ImmutableCollections$ListN" ∧ Fld Z h b26_7 "java/util/ImmutableCollections$ListN" "allowNulls" "Z" (.int (0 : Int32)) ∧ Fld Z h b26_7 "java/util/ImmutableCollections$ListN" "elements" "[Ljava/lang/Object;" (.ref b7_7) ∧ Exa Z h b7_7 "[Ljava/lang/Object;" ∧ Arv Z h b7_7 k7_7 (.object "java/lang/Object") (3 : Int32) [(.ref a3), (.ref a4), (.ref a5)] .null ∧ Ovr Z k7_7 "java/lang/Object"
theorem ef24_2 (m : MethodId) (x0 : Addr) : entryFrame m #[(.ref x0)] 2 = mkF m 0 #[.val (.ref x0), .unset] [] := by first | (simp [entryFrame, mkF, argsToLocals, Value.category]; done) | rfl
set_option maxRecDepth 65536 in
set_option maxHeartbeats 40000000 in
theorem rm24_2 (l : Launch) (Z : State) (a0 : Array Value) (hw : ∀ d ∈ tables_1, d.before a0 Z = true) (ws : List Jvm.Cond) {m_OA : Addr} {w_EMPTY_ELEMENTDATA : Addr} {w_DEFAULTCAPACITY_EMPTY_ELEMENTDATA : Addr} {w_EMPTY_LIST : Addr} {w_EMPTY_LIST_elements : Addr} {w_EMPTY : Addr} {k_w_EMPTY_ELEMENTDATA : ClassId} {k_w_DEFAULTCAPACITY_EMPTY_ELEMENTDATA : ClassId} {k_w_EMPTY_LIST_elements : ClassId} (G : Glob Z m_OA w_EMPTY_ELEMENTDATA w_DEFAULTCAPACITY_EMPTY_ELEMENTDATA w_EMPTY_LIST w_EMPTY_LIST_elements w_EMPTY k_w_EMPTY_ELEMENTDATA k_w_DEFAULTCAPACITY_EMPTY_ELEMENTDATA k_w_EMPTY_LIST_elements) (a1 : Addr) (k2 : ClassId) (a3 : Addr) (a4 : Addr) (a5 : Addr) (h0 : Heap) (n0 : Nat) (O0 : Old Z n0 h0) (V_a1 : Arv Z h0 a1 k2 (.object "java/lang/Object") (3 : Int32) [(.ref a3), (.ref a4), (.ref a5)] .null) (O_k2 : Ovr Z k2 "java/lang/Object") (E_a3 : Exa Z h0 a3 "com/example/curtail/curtail/Placement$Cell") (E_a1 : Exa Z h0 a1 "[Ljava/lang/Object;") (E_a4 : Exa Z h0 a4 "com/example/curtail/curtail/Placement$Cell") (E_a5 : Exa Z h0 a5 "com/example/curtail/curtail/Placement$Cell") :
    MetFree l (⟨"java/util/List", "of", "([Ljava/lang/Object;)Ljava/util/List;"⟩ : MethodName) (head1 (Jvm.Cond.code (⟨"java/util/List", "of", "([Ljava/lang/Object;)Ljava/util/List;"⟩ : MethodName) jdk_40_method_47_code 2 (some (.object "java/util/List")) :: ws) ({ frames := 6, cells := 2, slots := 5, locals := 77 } : Room)) (fun a U => a = #[(.ref a1)] ∧ Z.Warmed39 U.vm ∧ U.heap = h0) (fun _ _ _ _ _ => True) (fun _ U o U' => ∃ v L, o = .returned v ∧ Q24_2 Z m_OA w_EMPTY_ELEMENTDATA w_DEFAULTCAPACITY_EMPTY_ELEMENTDATA w_EMPTY_LIST w_EMPTY_LIST_elements w_EMPTY k_w_EMPTY_ELEMENTDATA k_w_DEFAULTCAPACITY_EMPTY_ELEMENTDATA k_w_EMPTY_LIST_elements a1 k2 a3 a4 a5 h0 n0 v U'.heap L ∧ FrameEnd U o U' L ({ frames := 6, cells := 2, slots := 5, locals := 77 } : Room).cells ({ frames := 6, cells := 2, slots := 5, locals := 77 } : Room).slots) := by
  refine MetFree.of_bodySF (plainFor_of_name pn_java_util_List) hisR ?_
  intro p e s m args below meth c s₁ Bd hml0 hP hK
  obtain ⟨rfl, hZ, hh⟩ := hP
  have hx := Bd.exec
  have hby := Bd.bytes
  have hml : c.maxLocals = 2 := hml0
  have hown : s.vm.findClass "java/util/List" = some m.cls := findClass_of_methodNamed Bd.named
  have hnm := (name_of_methodNamed Bd.named Bd.method).1
  have X0 : Stand p l e ({ frames := 6, cells := 2, slots := 5, locals := 77 } : Room) s m #[(.ref a1)] below meth c s₁ [] 0 0 := Stand.of_body Bd
  have e0 : s₁.heap = h0 := by rw [← hh, Bd.state]; rfl
  have N0 := Fr.nil n0
  show OGot p.tables e below (s₁.setTop (entryFrame m #[(.ref a1)] 2)) _
  refine OGot.go (fun t k => castTop (ef24_2 m a1) k) ?_
  show OGot p.tables e below (s₁.setTop (mkF m 0 #[.val (.ref a1), .unset] [])) _
  refine OGot.go (fun t k => XS.aloadN X0.here hx rfl (hb hby d24_0) rfl rfl k) ?_
  obtain ⟨cl6, Ar6, -, Sz6, Ng6, -, -⟩ := id (V_a1)
  refine OGot.go (fun t k => X0.arraylength hx (by rw [e0]; exact Ar6.1) (State.isArrayOf_alike hZ.alike Ar6.2.1) (g := (mkF m 1 #[.val (.ref a1), .unset] [(.ref a1)])) rfl rfl (hb hby d24_1) _ k) ?_
  rw [len_of Sz6 Ng6]
  refine OGot.go (fun t k => XS.tswOut X0.here hx rfl (pc0 := 2) (pc' := 59) rfl (hb hby d24_2) rfl (by decide) (by decide) (by decide) k) ?_
  refine OGot.go (fun t k => XS.aloadN X0.here hx rfl (hb hby d24_59) rfl rfl k) ?_
  obtain ⟨_, _, ⟨T7, L7, k7, n7⟩, -, X7, ⟨Lc7, hQ7, l7, y7, z7⟩, st7⟩ := Jvm.LawKit.callS X0 hx (y := (⟨"java/util/ImmutableCollections", "listFromArray", "([Ljava/lang/Object;)Ljava/util/List;"⟩ : MethodName)) hown (mvT hZ (ow hw 169 rfl)) (mvT hZ (ow hw 170 rfl)) (mvT hZ (ow hw 44 rfl)) (mvT hZ (ow hw 171 rfl)) (by decide) (backOf (W := 0) (rm25 l Z a0 hw [] G a1 k2 a3 a4 a5 h0 n0 O0 V_a1 O_k2 E_a3 E_a1 E_a4 E_a5) hZ (ow hw 171 rfl) (ow hw 44 rfl) (by decide) (by decide)) (g := (mkF m 60 #[.val (.ref a1), .unset] [(.ref a1)])) rfl (by rw [hml]; rfl) (argsL := [(.ref a1)]) (rest := []) (lenOf pd_16 rfl) rfl (by show 2 * 0 + _ ≤ _; exact Nat.le_of_eq rfl) (hb hby d24_60) (fun _ _ => ⟨rfl, e0, (by decide : 0 + 2 ≤ _), (by decide : 0 + 5 ≤ _)⟩)
  dsimp only [Pt.U, Pt.locs, Pt.cells, Pt.slots] at X7 l7 y7 z7 st7 hQ7
  subst l7 y7 z7
  obtain ⟨N7q, b26_7, b7_7, k7_7, rfl, szb26_7_7, szb7_7_7, neb26_7_b7_7_7, K7, Fo7_0, Fo7_1, Fo7_2, Fo7_3, Fo7_4, Fo7_5⟩ := hQ7
  have g_b26_7 : n0 ≤ b26_7 := Nat.le_trans (osz O0) szb26_7_7
  have sz_b26_7 : h0.size ≤ b26_7 := Nat.le_trans (OKeep.refl h0 []).1 szb26_7_7
  have g_b7_7 : n0 ≤ b7_7 := Nat.le_trans (osz O0) szb7_7_7
  have sz_b7_7 : h0.size ≤ b7_7 := Nat.le_trans (OKeep.refl h0 []).1 szb7_7_7
  have Kc7 := (OKeep.refl h0 []).trans K7 oin0
  have O7 := OKeep.old O0 K7 oge0
  have N7 := Fr.app N0 N7q
  refine OGot.go st7 ?_
  show OGot p.tables e below (T7.setTop (mkF m 63 #[.val (.ref a1), .unset] [(.ref b26_7)])) _
  obtain ⟨fs, hr, hrun, hended, hW, hsame⟩ := X7.leave (v := some (.ref b26_7)) (fun h => by rw [Bd.returns] at h; cases h)
  refine ⟨_, _, oretA X7 hx Bd.returns rfl rfl (hb hby d24_63) hr, hrun, hended, _, _, rfl, ?_, ⟨_, rfl⟩, hW, hsame.mono (by decide) (by decide)⟩
  show Q24_2 Z m_OA w_EMPTY_ELEMENTDATA w_DEFAULTCAPACITY_EMPTY_ELEMENTDATA w_EMPTY_LIST w_EMPTY_LIST_elements w_EMPTY k_w_EMPTY_ELEMENTDATA k_w_DEFAULTCAPACITY_EMPTY_ELEMENTDATA k_w_EMPTY_LIST_elements a1 k2 a3 a4 a5 h0 n0 _ T7.heap _
  exact ⟨N7, b26_7, b7_7, k7_7, rfl, sz_b26_7, sz_b7_7, neb26_7_b7_7_7, Kc7, Fo7_0, Fo7_1, Fo7_2, Fo7_3, Fo7_4, Fo7_5⟩
def Q8_3 (Z : State) (m_OA : Addr) (w_EMPTY_ELEMENTDATA : Addr) (w_DEFAULTCAPACITY_EMPTY_ELEMENTDATA : Addr) (w_EMPTY_LIST : Addr) (w_EMPTY_LIST_elements : Addr) (w_EMPTY : Addr) (k_w_EMPTY_ELEMENTDATA : ClassId) (k_w_DEFAULTCAPACITY_EMPTY_ELEMENTDATA : ClassId) (k_w_EMPTY_LIST_elements : ClassId) (a1 : Addr) (a5 : Addr) (k6 : ClassId) (a7 : Addr) (a8 : Addr) (a9 : Addr) (h0 : Heap) (n0 : Nat) (v : Option Value) (h : Heap) (L : List Loc) : Prop := Fr n0 L ∧ ∃ b26_7_11 : Addr, ∃ b7_7_11 : Addr, ∃ k7_7_11 : ClassId, v = some (.ref b26_7_11) ∧ h0.size ≤ b26_7_11 ∧ h0.size ≤ b7_7_11 ∧ b26_7_11 ≠ b7_7_11 ∧ OKeep h0 h [] ∧ Exa Z h b26_7_11 "java/util/ImmutableCollections$ListN" ∧ Fld Z h b26_7_11 "java/util/ImmutableCollections$ListN" "allowNulls" "Z" (.int (0 : Int32)) ∧ Fld Z h b26_7_11 "java/util/ImmutableCollections$ListN" "elements" "[Ljava/lang/Object;" (.ref b7_7_11) ∧ Exa Z h b7_7_11 "[Ljava/lang/Object;" ∧ Arv Z h b7_7_11 k7_7_11 (.object "java/lang/Object") (3 : Int32) [(.ref a7), (.ref a8), (.ref a9)] .null ∧ Ovr Z k7_7_11 "java/lang/Object"
theorem ef8_3 (m : MethodId) (x0 : Addr) : entryFrame m #[(.ref x0)] 2 = mkF m 0 #[.val (.ref x0), .unset] [] := by first | (simp [entryFrame, mkF, argsToLocals, Value.category]; done) | rfl
set_option maxRecDepth 65536 in
set_option maxHeartbeats 40000000 in
theorem rm8_3 (l : Launch) (Z : State) (a0 : Array Value) (hw : ∀ d ∈ tables_1, d.before a0 Z = true) (ws : List Jvm.Cond) {m_OA : Addr} {w_EMPTY_ELEMENTDATA : Addr} {w_DEFAULTCAPACITY_EMPTY_ELEMENTDATA : Addr} {w_EMPTY_LIST : Addr} {w_EMPTY_LIST_elements : Addr} {w_EMPTY : Addr} {k_w_EMPTY_ELEMENTDATA : ClassId} {k_w_DEFAULTCAPACITY_EMPTY_ELEMENTDATA : ClassId} {k_w_EMPTY_LIST_elements : ClassId} (G : Glob Z m_OA w_EMPTY_ELEMENTDATA w_DEFAULTCAPACITY_EMPTY_ELEMENTDATA w_EMPTY_LIST w_EMPTY_LIST_elements w_EMPTY k_w_EMPTY_ELEMENTDATA k_w_DEFAULTCAPACITY_EMPTY_ELEMENTDATA k_w_EMPTY_LIST_elements) (a1 : Addr) (a5 : Addr) (k6 : ClassId) (a7 : Addr) (a8 : Addr) (a9 : Addr) (h0 : Heap) (n0 : Nat) (O0 : Old Z n0 h0) (E_a1 : Exa Z h0 a1 "java/util/ArrayList") (F_size_a1 : Fld Z h0 a1 "java/util/ArrayList" "size" "I" (.int (3 : Int32))) (F_elementData_a1 : Fld Z h0 a1 "java/util/ArrayList" "elementData" "[Ljava/lang/Object;" (.ref a5)) (E_a5 : Exa Z h0 a5 "[Ljava/lang/Object;") (V_a5 : Arv Z h0 a5 k6 (.object "java/lang/Object") (10 : Int32) [(.ref a7), (.ref a8), (.ref a9), .null, .null, .null, .null, .null, .null, .null] .null) (O_k6 : Ovr Z k6 "java/lang/Object") (E_a9 : Exa Z h0 a9 "com/example/curtail/curtail/Placement$Cell") (E_a8 : Exa Z h0 a8 "com/example/curtail/curtail/Placement$Cell") (E_a7 : Exa Z h0 a7 "com/example/curtail/curtail/Placement$Cell") :
    MetFree l (⟨"java/util/ImmutableCollections", "listCopy", "(Ljava/util/Collection;)Ljava/util/List;"⟩ : MethodName) (head1 (Jvm.Cond.code (⟨"java/util/ImmutableCollections", "listCopy", "(Ljava/util/Collection;)Ljava/util/List;"⟩ : MethodName) jdk_56_method_3_code 2 (some (.object "java/util/List")) :: ws) ({ frames := 7, cells := 3, slots := 8, locals := 90 } : Room)) (fun a U => a = #[(.ref a1)] ∧ Z.Warmed39 U.vm ∧ U.heap = h0) (fun _ _ _ _ _ => True) (fun _ U o U' => ∃ v L, o = .returned v ∧ Q8_3 Z m_OA w_EMPTY_ELEMENTDATA w_DEFAULTCAPACITY_EMPTY_ELEMENTDATA w_EMPTY_LIST w_EMPTY_LIST_elements w_EMPTY k_w_EMPTY_ELEMENTDATA k_w_DEFAULTCAPACITY_EMPTY_ELEMENTDATA k_w_EMPTY_LIST_elements a1 a5 k6 a7 a8 a9 h0 n0 v U'.heap L ∧ FrameEnd U o U' L ({ frames := 7, cells := 3, slots := 8, locals := 90 } : Room).cells ({ frames := 7, cells := 3, slots := 8, locals := 90 } : Room).slots) := by
  refine MetFree.of_bodySF (plainFor_of_name pn_java_util_ImmutableCollections) hisR ?_
  intro p e s m args below meth c s₁ Bd hml0 hP hK
  obtain ⟨rfl, hZ, hh⟩ := hP
  have hx := Bd.exec
  have hby := Bd.bytes
  have hml : c.maxLocals = 2 := hml0
  have hown : s.vm.findClass "java/util/ImmutableCollections" = some m.cls := findClass_of_methodNamed Bd.named
  have hnm := (name_of_methodNamed Bd.named Bd.method).1
  have X0 : Stand p l e ({ frames := 7, cells := 3, slots := 8, locals := 90 } : Room) s m #[(.ref a1)] below meth c s₁ [] 0 0 := Stand.of_body Bd
  have e0 : s₁.heap = h0 := by rw [← hh, Bd.state]; rfl
  have N0 := Fr.nil n0
  show OGot p.tables e below (s₁.setTop (entryFrame m #[(.ref a1)] 2)) _
  refine OGot.go (fun t k => castTop (ef8_3 m a1) k) ?_
  show OGot p.tables e below (s₁.setTop (mkF m 0 #[.val (.ref a1), .unset] [])) _
  refine OGot.go (fun t k => XS.aloadN X0.here hx rfl (hb hby d8_0) rfl rfl k) ?_
  obtain ⟨T2, X2, e2, st2⟩ := instNo X0 hx hZ hown (ow hw 46 rfl) e0 E_a1 (oNS.no (ow hw 47 rfl) (ow hw 219 rfl) (NS.step (ow hw 47 rfl) (NS.step (ow hw 48 rfl) (NS.step (ow hw 49 rfl) (oNS.root (ow hw 50 rfl) (ow hw 219 rfl) (by decide)) (by decide)) (by decide)) (by decide)) (by decide)) (g := (mkF m 1 #[.val (.ref a1), .unset] [(.ref a1)])) rfl rfl (hb hby d8_1)
  refine OGot.go st2 ?_
  refine OGot.go (fun t k => XS.ifNo X2.here hx rfl (hb hby d8_4) rfl (by decide) k) ?_
  refine OGot.go (fun t k => XS.aloadN X2.here hx rfl (hb hby d8_7) rfl rfl k) ?_
  obtain ⟨T3, X3, e3, st3⟩ := instNo X2 hx hZ hown (ow hw 51 rfl) e2 E_a1 (oNS.no (ow hw 47 rfl) (ow hw 177 rfl) (NS.step (ow hw 47 rfl) (NS.step (ow hw 48 rfl) (NS.step (ow hw 49 rfl) (oNS.root (ow hw 50 rfl) (ow hw 177 rfl) (by decide)) (by decide)) (by decide)) (by decide)) (by decide)) (g := (mkF m 8 #[.val (.ref a1), .unset] [(.ref a1)])) rfl rfl (hb hby d8_8)
  refine OGot.go st3 ?_
  show OGot p.tables e below (T3.setTop (mkF m 11 #[.val (.ref a1), .unset] [(.int (0 : Int32))])) _
  refine OGot.go (fun t k => XS.ifYes X3.here hx rfl (pc0 := 11) (pc' := 31) rfl (hb hby d8_11) rfl (by decide) (by decide) (by decide) k) ?_
  refine OGot.go (fun t k => XS.aloadN X3.here hx rfl (hb hby d8_31) rfl rfl k) ?_
  obtain ⟨cq4, kq4, q4a, q4b, q4c⟩ := isOf hZ e3 E_a1
  obtain ⟨_, _, ⟨T4, L4, k4, n4⟩, -, X4, ⟨Lc4, hQ4, l4, y4, z4⟩, st4⟩ := X3.interfaceBack hx (xi := (⟨"java/util/Collection", "isEmpty", "()Z"⟩ : MethodName)) (y := (⟨"java/util/ArrayList", "isEmpty", "()Z"⟩ : MethodName)) hown (mvT hZ (ow hw 52 rfl)) (mvT hZ (ow hw 53 rfl)) (mvT hZ (ow hw 54 rfl)) (mvT hZ (ow hw 55 rfl)) (mvT hZ (ow hw 56 rfl)) (mvT hZ (ow hw 57 rfl)) (mvT hZ (ow hw 58 rfl)) (mvT hZ (ow hw 59 rfl)) (by decide) (backOf (W := 0) (rm9_3 l Z a0 hw [] G a1 h0 n0 O0 F_size_a1) hZ (ow hw 60 rfl) (ow hw 5 rfl) (by decide) (by decide)) q4a q4b q4c (g := (mkF m 32 #[.val (.ref a1), .unset] [(.ref a1)])) rfl (by rw [hml]; rfl) (Steps.refl _) (argsL := []) (rest := []) (lenOf pd_1 rfl) rfl (by show 2 * 0 + _ ≤ _; exact Nat.le_of_eq rfl) (hb hby d8_32) (fun _ _ => ⟨rfl, e3, (by decide : 0 + 0 ≤ _), (by decide : 0 + 0 ≤ _)⟩)
  dsimp only [Pt.U, Pt.locs, Pt.cells, Pt.slots] at X4 l4 y4 z4 st4 hQ4
  subst l4 y4 z4
  obtain ⟨rfl, N4q, e4⟩ := hQ4
  have N4 := Fr.app N0 N4q
  refine OGot.on st4 ?_
  refine OGot.go (fun t k => XS.ifYes X4.here hx rfl (pc0 := 37) (pc' := 44) rfl (hb hby d8_37) rfl (by decide) (by decide) (by decide) k) ?_
  refine OGot.go (fun t k => XS.aloadN X4.here hx rfl (hb hby d8_44) rfl rfl k) ?_
  show OGot p.tables e below (T4.setTop (mkF m 45 #[.val (.ref a1), .unset] [(.ref a1)])) _
  obtain ⟨cq10, kq10, q10a, q10b, q10c⟩ := isOf hZ e4 E_a1
  obtain ⟨_, _, ⟨T10, L10, k10, n10⟩, -, X10, ⟨Lc10, hQ10, l10, y10, z10⟩, st10⟩ := X4.interfaceBack hx (xi := (⟨"java/util/Collection", "toArray", "()[Ljava/lang/Object;"⟩ : MethodName)) (y := (⟨"java/util/ArrayList", "toArray", "()[Ljava/lang/Object;"⟩ : MethodName)) hown (mvT hZ (ow hw 136 rfl)) (mvT hZ (ow hw 137 rfl)) (mvT hZ (ow hw 138 rfl)) (mvT hZ (ow hw 139 rfl)) (mvT hZ (ow hw 140 rfl)) (mvT hZ (ow hw 141 rfl)) (mvT hZ (ow hw 142 rfl)) (mvT hZ (ow hw 59 rfl)) (by decide) (backOf (W := 0) (rm20_2 l Z a0 hw [] G a1 a5 k6 a7 a8 a9 h0 n0 O0 F_elementData_a1 F_size_a1 E_a5 V_a5 O_k6 E_a9 E_a8 E_a7) hZ (ow hw 143 rfl) (ow hw 5 rfl) (by decide) (by decide)) q10a q10b q10c (g := (mkF m 45 #[.val (.ref a1), .unset] [(.ref a1)])) rfl (by rw [hml]; rfl) (Steps.refl _) (argsL := []) (rest := []) (lenOf pd_9 rfl) rfl (by show 2 * 0 + _ ≤ _; exact Nat.le_of_eq rfl) (hb hby d8_45) (fun _ _ => ⟨rfl, e4, (by decide : 0 + 1 ≤ _), (by decide : 0 + 3 ≤ _)⟩)
  dsimp only [Pt.U, Pt.locs, Pt.cells, Pt.slots] at X10 l10 y10 z10 st10 hQ10
  subst l10 y10 z10
  obtain ⟨N10q, b4_7_9_10, k4_7_9_10, rfl, szb4_7_9_10_10, K10, Fo10_0, Fo10_1, Fo10_2⟩ := hQ10
  have g_b4_7_9_10 : n0 ≤ b4_7_9_10 := Nat.le_trans (osz O0) szb4_7_9_10_10
  have sz_b4_7_9_10 : h0.size ≤ b4_7_9_10 := Nat.le_trans (OKeep.refl h0 []).1 szb4_7_9_10_10
  have Kc10 := (OKeep.refl h0 []).trans K10 oin0
  have O10 := OKeep.old O0 K10 oge0
  have N10 := Fr.app N4 N10q
  refine OGot.on st10 ?_
  obtain ⟨_, _, ⟨T11, L11, k11, n11⟩, -, X11, ⟨Lc11, hQ11, l11, y11, z11⟩, st11⟩ := Jvm.LawKit.callS X10 hx (y := (⟨"java/util/List", "of", "([Ljava/lang/Object;)Ljava/util/List;"⟩ : MethodName)) hown (mvT hZ (ow hw 166 rfl)) (mvT hZ (ow hw 167 rfl)) (mvT hZ (ow hw 40 rfl)) (mvT hZ (ow hw 168 rfl)) (by decide) (backOf (W := 0) (rm24_2 l Z a0 hw [] G b4_7_9_10 k4_7_9_10 a7 a8 a9 T10.heap n0 O10 Fo10_1 Fo10_2 (OKeep.exa E_a7 K10) Fo10_0 (OKeep.exa E_a8 K10) (OKeep.exa E_a9 K10)) hZ (ow hw 168 rfl) (ow hw 40 rfl) (by decide) (by decide)) (g := (mkF m 50 #[.val (.ref a1), .unset] [(.ref b4_7_9_10)])) rfl (by rw [hml]; rfl) (argsL := [(.ref b4_7_9_10)]) (rest := []) (lenOf pd_16 rfl) rfl (by show 2 * 0 + _ ≤ _; exact Nat.le_of_eq rfl) (hb hby d8_50) (fun _ _ => ⟨rfl, rfl, (by decide : 1 + 2 ≤ _), (by decide : 3 + 5 ≤ _)⟩)
  dsimp only [Pt.U, Pt.locs, Pt.cells, Pt.slots] at X11 l11 y11 z11 st11 hQ11
  subst l11 y11 z11
  obtain ⟨N11q, b26_7_11, b7_7_11, k7_7_11, rfl, szb26_7_11_11, szb7_7_11_11, neb26_7_11_b7_7_11_11, K11, Fo11_0, Fo11_1, Fo11_2, Fo11_3, Fo11_4, Fo11_5⟩ := hQ11
  have g_b26_7_11 : n0 ≤ b26_7_11 := Nat.le_trans (osz O10) szb26_7_11_11
  have sz_b26_7_11 : h0.size ≤ b26_7_11 := Nat.le_trans Kc10.1 szb26_7_11_11
  have g_b7_7_11 : n0 ≤ b7_7_11 := Nat.le_trans (osz O10) szb7_7_11_11
  have sz_b7_7_11 : h0.size ≤ b7_7_11 := Nat.le_trans Kc10.1 szb7_7_11_11
  have Kc11 := Kc10.trans K11 oin0
  have O11 := OKeep.old O10 K11 oge0
  have N11 := Fr.app N10 N11q
  refine OGot.go st11 ?_
  show OGot p.tables e below (T11.setTop (mkF m 53 #[.val (.ref a1), .unset] [(.ref b26_7_11)])) _
  obtain ⟨fs, hr, hrun, hended, hW, hsame⟩ := X11.leave (v := some (.ref b26_7_11)) (fun h => by rw [Bd.returns] at h; cases h)
  refine ⟨_, _, oretA X11 hx Bd.returns rfl rfl (hb hby d8_53) hr, hrun, hended, _, _, rfl, ?_, ⟨_, rfl⟩, hW, hsame.mono (by decide) (by decide)⟩
  show Q8_3 Z m_OA w_EMPTY_ELEMENTDATA w_DEFAULTCAPACITY_EMPTY_ELEMENTDATA w_EMPTY_LIST w_EMPTY_LIST_elements w_EMPTY k_w_EMPTY_ELEMENTDATA k_w_DEFAULTCAPACITY_EMPTY_ELEMENTDATA k_w_EMPTY_LIST_elements a1 a5 k6 a7 a8 a9 h0 n0 _ T11.heap _
  exact ⟨N11, b26_7_11, b7_7_11, k7_7_11, rfl, sz_b26_7_11, sz_b7_7_11, neb26_7_11_b7_7_11_11, Kc11, Fo11_0, Fo11_1, Fo11_2, Fo11_3, Fo11_4, Fo11_5⟩
def Q7_3 (Z : State) (m_OA : Addr) (w_EMPTY_ELEMENTDATA : Addr) (w_DEFAULTCAPACITY_EMPTY_ELEMENTDATA : Addr) (w_EMPTY_LIST : Addr) (w_EMPTY_LIST_elements : Addr) (w_EMPTY : Addr) (k_w_EMPTY_ELEMENTDATA : ClassId) (k_w_DEFAULTCAPACITY_EMPTY_ELEMENTDATA : ClassId) (k_w_EMPTY_LIST_elements : ClassId) (a1 : Addr) (a2 : Addr) (k3 : ClassId) (a4 : Addr) (a5 : Addr) (a6 : Addr) (h0 : Heap) (n0 : Nat) (v : Option Value) (h : Heap) (L : List Loc) : Prop := Fr n0 L ∧ ∃ b26_7_11_7 : Addr, ∃ b7_7_11_7 : Addr, ∃ k7_7_11_7 : ClassId, v = some (.ref b26_7_11_7) ∧ h0.size ≤ b26_7_11_7 ∧ h0.size ≤ b7_7_11_7 ∧ b26_7_11_7 ≠ b7_7_11_7 ∧ OKeep h0 h [] ∧ Exa Z h b26_7_11_7 "java/util/ImmutableCollections$ListN" ∧ Fld Z h b26_7_11_7 "java/util/ImmutableCollections$ListN" "allowNulls" "Z" (.int (0 : Int32)) ∧ Fld Z h b26_7_11_7 "java/util/ImmutableCollections$ListN" "elements" "[Ljava/lang/Object;" (.ref b7_7_11_7) ∧ Exa Z h b7_7_11_7 "[Ljava/lang/Object;" ∧ Arv Z h b7_7_11_7 k7_7_11_7 (.object "java/lang/Object") (3 : Int32) [(.ref a4), (.ref a5), (.ref a6)] .null ∧ Ovr Z k7_7_11_7 "java/lang/Object"
theorem ef7_3 (m : MethodId) (x0 : Addr) : entryFrame m #[(.ref x0)] 1 = mkF m 0 #[.val (.ref x0)] [] := by first | (simp [entryFrame, mkF, argsToLocals, Value.category]; done) | rfl
set_option maxRecDepth 65536 in
set_option maxHeartbeats 40000000 in
theorem rm7_3 (l : Launch) (Z : State) (a0 : Array Value) (hw : ∀ d ∈ tables_1, d.before a0 Z = true) (ws : List Jvm.Cond) {m_OA : Addr} {w_EMPTY_ELEMENTDATA : Addr} {w_DEFAULTCAPACITY_EMPTY_ELEMENTDATA : Addr} {w_EMPTY_LIST : Addr} {w_EMPTY_LIST_elements : Addr} {w_EMPTY : Addr} {k_w_EMPTY_ELEMENTDATA : ClassId} {k_w_DEFAULTCAPACITY_EMPTY_ELEMENTDATA : ClassId} {k_w_EMPTY_LIST_elements : ClassId} (G : Glob Z m_OA w_EMPTY_ELEMENTDATA w_DEFAULTCAPACITY_EMPTY_ELEMENTDATA w_EMPTY_LIST w_EMPTY_LIST_elements w_EMPTY k_w_EMPTY_ELEMENTDATA k_w_DEFAULTCAPACITY_EMPTY_ELEMENTDATA k_w_EMPTY_LIST_elements) (a1 : Addr) (a2 : Addr) (k3 : ClassId) (a4 : Addr) (a5 : Addr) (a6 : Addr) (h0 : Heap) (n0 : Nat) (O0 : Old Z n0 h0) (E_a1 : Exa Z h0 a1 "java/util/ArrayList") (F_size_a1 : Fld Z h0 a1 "java/util/ArrayList" "size" "I" (.int (3 : Int32))) (F_elementData_a1 : Fld Z h0 a1 "java/util/ArrayList" "elementData" "[Ljava/lang/Object;" (.ref a2)) (E_a2 : Exa Z h0 a2 "[Ljava/lang/Object;") (V_a2 : Arv Z h0 a2 k3 (.object "java/lang/Object") (10 : Int32) [(.ref a4), (.ref a5), (.ref a6), .null, .null, .null, .null, .null, .null, .null] .null) (O_k3 : Ovr Z k3 "java/lang/Object") (E_a6 : Exa Z h0 a6 "com/example/curtail/curtail/Placement$Cell") (E_a5 : Exa Z h0 a5 "com/example/curtail/curtail/Placement$Cell") (E_a4 : Exa Z h0 a4 "com/example/curtail/curtail/Placement$Cell") :
    MetFree l (⟨"java/util/List", "copyOf", "(Ljava/util/Collection;)Ljava/util/List;"⟩ : MethodName) (head1 (Jvm.Cond.code (⟨"java/util/List", "copyOf", "(Ljava/util/Collection;)Ljava/util/List;"⟩ : MethodName) jdk_40_method_48_code 1 (some (.object "java/util/List")) :: ws) ({ frames := 8, cells := 3, slots := 8, locals := 103 } : Room)) (fun a U => a = #[(.ref a1)] ∧ Z.Warmed39 U.vm ∧ U.heap = h0) (fun _ _ _ _ _ => True) (fun _ U o U' => ∃ v L, o = .returned v ∧ Q7_3 Z m_OA w_EMPTY_ELEMENTDATA w_DEFAULTCAPACITY_EMPTY_ELEMENTDATA w_EMPTY_LIST w_EMPTY_LIST_elements w_EMPTY k_w_EMPTY_ELEMENTDATA k_w_DEFAULTCAPACITY_EMPTY_ELEMENTDATA k_w_EMPTY_LIST_elements a1 a2 k3 a4 a5 a6 h0 n0 v U'.heap L ∧ FrameEnd U o U' L ({ frames := 8, cells := 3, slots := 8, locals := 103 } : Room).cells ({ frames := 8, cells := 3, slots := 8, locals := 103 } : Room).slots) := by
  refine MetFree.of_bodySF (plainFor_of_name pn_java_util_List) hisR ?_
  intro p e s m args below meth c s₁ Bd hml0 hP hK
  obtain ⟨rfl, hZ, hh⟩ := hP
  have hx := Bd.exec
  have hby := Bd.bytes
  have hml : c.maxLocals = 1 := hml0
  have hown : s.vm.findClass "java/util/List" = some m.cls := findClass_of_methodNamed Bd.named
  have hnm := (name_of_methodNamed Bd.named Bd.method).1
  have X0 : Stand p l e ({ frames := 8, cells := 3, slots := 8, locals := 103 } : Room) s m #[(.ref a1)] below meth c s₁ [] 0 0 := Stand.of_body Bd
  have e0 : s₁.heap = h0 := by rw [← hh, Bd.state]; rfl
  have N0 := Fr.nil n0
  show OGot p.tables e below (s₁.setTop (entryFrame m #[(.ref a1)] 1)) _
  refine OGot.go (fun t k => castTop (ef7_3 m a1) k) ?_
  show OGot p.tables e below (s₁.setTop (mkF m 0 #[.val (.ref a1)] [])) _
  refine OGot.go (fun t k => XS.aloadN X0.here hx rfl (hb hby d7_0) rfl rfl k) ?_
  obtain ⟨_, _, ⟨T7, L7, k7, n7⟩, -, X7, ⟨Lc7, hQ7, l7, y7, z7⟩, st7⟩ := Jvm.LawKit.callS X0 hx (y := (⟨"java/util/ImmutableCollections", "listCopy", "(Ljava/util/Collection;)Ljava/util/List;"⟩ : MethodName)) hown (mvT hZ (ow hw 42 rfl)) (mvT hZ (ow hw 43 rfl)) (mvT hZ (ow hw 44 rfl)) (mvT hZ (ow hw 45 rfl)) (by decide) (backOf (W := 0) (rm8_3 l Z a0 hw [] G a1 a2 k3 a4 a5 a6 h0 n0 O0 E_a1 F_size_a1 F_elementData_a1 E_a2 V_a2 O_k3 E_a6 E_a5 E_a4) hZ (ow hw 45 rfl) (ow hw 44 rfl) (by decide) (by decide)) (g := (mkF m 1 #[.val (.ref a1)] [(.ref a1)])) rfl (by rw [hml]; rfl) (argsL := [(.ref a1)]) (rest := []) (lenOf pd_3 rfl) rfl (by show 2 * 0 + _ ≤ _; exact Nat.le_of_eq rfl) (hb hby d7_1) (fun _ _ => ⟨rfl, e0, (by decide : 0 + 3 ≤ _), (by decide : 0 + 8 ≤ _)⟩)
  dsimp only [Pt.U, Pt.locs, Pt.cells, Pt.slots] at X7 l7 y7 z7 st7 hQ7
  subst l7 y7 z7
  obtain ⟨N7q, b26_7_11_7, b7_7_11_7, k7_7_11_7, rfl, szb26_7_11_7_7, szb7_7_11_7_7, neb26_7_11_7_b7_7_11_7_7, K7, Fo7_0, Fo7_1, Fo7_2, Fo7_3, Fo7_4, Fo7_5⟩ := hQ7
  have g_b26_7_11_7 : n0 ≤ b26_7_11_7 := Nat.le_trans (osz O0) szb26_7_11_7_7
  have sz_b26_7_11_7 : h0.size ≤ b26_7_11_7 := Nat.le_trans (OKeep.refl h0 []).1 szb26_7_11_7_7
  have g_b7_7_11_7 : n0 ≤ b7_7_11_7 := Nat.le_trans (osz O0) szb7_7_11_7_7
  have sz_b7_7_11_7 : h0.size ≤ b7_7_11_7 := Nat.le_trans (OKeep.refl h0 []).1 szb7_7_11_7_7
  have Kc7 := (OKeep.refl h0 []).trans K7 oin0
  have O7 := OKeep.old O0 K7 oge0
  have N7 := Fr.app N0 N7q
  refine OGot.go st7 ?_
  show OGot p.tables e below (T7.setTop (mkF m 4 #[.val (.ref a1)] [(.ref b26_7_11_7)])) _
  obtain ⟨fs, hr, hrun, hended, hW, hsame⟩ := X7.leave (v := some (.ref b26_7_11_7)) (fun h => by rw [Bd.returns] at h; cases h)
  refine ⟨_, _, oretA X7 hx Bd.returns rfl rfl (hb hby d7_4) hr, hrun, hended, _, _, rfl, ?_, ⟨_, rfl⟩, hW, hsame.mono (by decide) (by decide)⟩
  show Q7_3 Z m_OA w_EMPTY_ELEMENTDATA w_DEFAULTCAPACITY_EMPTY_ELEMENTDATA w_EMPTY_LIST w_EMPTY_LIST_elements w_EMPTY k_w_EMPTY_ELEMENTDATA k_w_DEFAULTCAPACITY_EMPTY_ELEMENTDATA k_w_EMPTY_LIST_elements a1 a2 k3 a4 a5 a6 h0 n0 _ T7.heap _
  exact ⟨N7, b26_7_11_7, b7_7_11_7, k7_7_11_7, rfl, sz_b26_7_11_7, sz_b7_7_11_7, neb26_7_11_7_b7_7_11_7_7, Kc7, Fo7_0, Fo7_1, Fo7_2, Fo7_3, Fo7_4, Fo7_5⟩
def Q11_1 (Z : State) (m_OA : Addr) (w_EMPTY_ELEMENTDATA : Addr) (w_DEFAULTCAPACITY_EMPTY_ELEMENTDATA : Addr) (w_EMPTY_LIST : Addr) (w_EMPTY_LIST_elements : Addr) (w_EMPTY : Addr) (k_w_EMPTY_ELEMENTDATA : ClassId) (k_w_DEFAULTCAPACITY_EMPTY_ELEMENTDATA : ClassId) (k_w_EMPTY_LIST_elements : ClassId) (a1 : Addr) (a2 : Addr) (k4 : ClassId) (a5 : Addr) (a6 : Addr) (a7 : Addr) (h0 : Heap) (n0 : Nat) (v : Option Value) (h : Heap) (L : List Loc) : Prop := v = some (.int (3 : Int32)) ∧ Fr n0 L ∧ h = h0
theorem ef11_1 (m : MethodId) (x0 : Addr) : entryFrame m #[(.ref x0)] 1 = mkF m 0 #[.val (.ref x0)] [] := by first | (simp [entryFrame, mkF, argsToLocals, Value.category]; done) | rfl
set_option maxRecDepth 65536 in
set_option maxHeartbeats 40000000 in
theorem rm11_1 (l : Launch) (Z : State) (a0 : Array Value) (hw : ∀ d ∈ tables_1, d.before a0 Z = true) (ws : List Jvm.Cond) {m_OA : Addr} {w_EMPTY_ELEMENTDATA : Addr} {w_DEFAULTCAPACITY_EMPTY_ELEMENTDATA : Addr} {w_EMPTY_LIST : Addr} {w_EMPTY_LIST_elements : Addr} {w_EMPTY : Addr} {k_w_EMPTY_ELEMENTDATA : ClassId} {k_w_DEFAULTCAPACITY_EMPTY_ELEMENTDATA : ClassId} {k_w_EMPTY_LIST_elements : ClassId} (G : Glob Z m_OA w_EMPTY_ELEMENTDATA w_DEFAULTCAPACITY_EMPTY_ELEMENTDATA w_EMPTY_LIST w_EMPTY_LIST_elements w_EMPTY k_w_EMPTY_ELEMENTDATA k_w_DEFAULTCAPACITY_EMPTY_ELEMENTDATA k_w_EMPTY_LIST_elements) (a1 : Addr) (a2 : Addr) (k4 : ClassId) (a5 : Addr) (a6 : Addr) (a7 : Addr) (h0 : Heap) (n0 : Nat) (O0 : Old Z n0 h0) (F_elements_a1 : Fld Z h0 a1 "java/util/ImmutableCollections$ListN" "elements" "[Ljava/lang/Object;" (.ref a2)) (V_a2 : Arv Z h0 a2 k4 (.object "java/lang/Object") (3 : Int32) [(.ref a5), (.ref a6), (.ref a7)] .null) (O_k4 : Ovr Z k4 "java/lang/Object") :
    MetFree l (⟨"java/util/ImmutableCollections$ListN", "size", "()I"⟩ : MethodName) (head1 (Jvm.Cond.code (⟨"java/util/ImmutableCollections$ListN", "size", "()I"⟩ : MethodName) jdk_45_method_3_code 1 (some .int) :: ws) ({ frames := 0, cells := 0, slots := 0, locals := 0 } : Room)) (fun a U => a = #[(.ref a1)] ∧ Z.Warmed39 U.vm ∧ U.heap = h0) (fun _ _ _ _ _ => True) (fun _ U o U' => ∃ v L, o = .returned v ∧ Q11_1 Z m_OA w_EMPTY_ELEMENTDATA w_DEFAULTCAPACITY_EMPTY_ELEMENTDATA w_EMPTY_LIST w_EMPTY_LIST_elements w_EMPTY k_w_EMPTY_ELEMENTDATA k_w_DEFAULTCAPACITY_EMPTY_ELEMENTDATA k_w_EMPTY_LIST_elements a1 a2 k4 a5 a6 a7 h0 n0 v U'.heap L ∧ FrameEnd U o U' L ({ frames := 0, cells := 0, slots := 0, locals := 0 } : Room).cells ({ frames := 0, cells := 0, slots := 0, locals := 0 } : Room).slots) := by
  refine MetFree.of_bodySF (plainFor_of_name pn_java_util_ImmutableCollections_ListN) hisR ?_
  intro p e s m args below meth c s₁ Bd hml0 hP hK
  obtain ⟨rfl, hZ, hh⟩ := hP
  have hx := Bd.exec
  have hby := Bd.bytes
  have hml : c.maxLocals = 1 := hml0
  have hown : s.vm.findClass "java/util/ImmutableCollections$ListN" = some m.cls := findClass_of_methodNamed Bd.named
  have hnm := (name_of_methodNamed Bd.named Bd.method).1
  have X0 : Stand p l e ({ frames := 0, cells := 0, slots := 0, locals := 0 } : Room) s m #[(.ref a1)] below meth c s₁ [] 0 0 := Stand.of_body Bd
  have e0 : s₁.heap = h0 := by rw [← hh, Bd.state]; rfl
  have N0 := Fr.nil n0
  show OGot p.tables e below (s₁.setTop (entryFrame m #[(.ref a1)] 1)) _
  refine OGot.go (fun t k => castTop (ef11_1 m a1) k) ?_
  show OGot p.tables e below (s₁.setTop (mkF m 0 #[.val (.ref a1)] [])) _
  refine OGot.go (fun t k => XS.aloadN X0.here hx rfl (hb hby d11_0) rfl rfl k) ?_
  obtain ⟨T3, X3, e3, st3⟩ := getF X0 hx hZ hown (host := "") (Or.inl (ow hw 77 rfl)) Via.refl e0 F_elements_a1 (g := (mkF m 1 #[.val (.ref a1)] [(.ref a1)])) rfl rfl (hb hby d11_1)
  refine OGot.go st3 ?_
  obtain ⟨cl8, Ar8, -, Sz8, Ng8, -, -⟩ := id (V_a2)
  refine OGot.go (fun t k => X3.arraylength hx (by rw [e3]; exact Ar8.1) (State.isArrayOf_alike hZ.alike Ar8.2.1) (g := (mkF m 4 #[.val (.ref a1)] [(.ref a2)])) rfl rfl (hb hby d11_4) _ k) ?_
  rw [len_of Sz8 Ng8]
  show OGot p.tables e below (T3.setTop (mkF m 5 #[.val (.ref a1)] [(.int (3 : Int32))])) _
  obtain ⟨fs, hr, hrun, hended, hW, hsame⟩ := X3.leave (v := some (.int (3 : Int32))) (fun h => by rw [Bd.returns] at h; cases h)
  refine ⟨_, _, retI X3 hx Bd.returns (hb hby d11_5) hr, hrun, hended, _, _, rfl, ?_, ⟨_, rfl⟩, hW, hsame.mono (by decide) (by decide)⟩
  exact (⟨rfl, N0, e3⟩ : Q11_1 Z m_OA w_EMPTY_ELEMENTDATA w_DEFAULTCAPACITY_EMPTY_ELEMENTDATA w_EMPTY_LIST w_EMPTY_LIST_elements w_EMPTY k_w_EMPTY_ELEMENTDATA k_w_DEFAULTCAPACITY_EMPTY_ELEMENTDATA k_w_EMPTY_LIST_elements a1 a2 k4 a5 a6 a7 h0 n0 _ T3.heap _)
theorem d30_0 : decode jdk_45_method_4_code 0 = .ok (.aload_n 0, 1) := by decide +kernel
theorem d30_1 : decode jdk_45_method_4_code 1 = .ok (.getfield 7, 3) := by decide +kernel
theorem d30_4 : decode jdk_45_method_4_code 4 = .ok (.iload_n 1, 1) := by decide +kernel
theorem d30_5 : decode jdk_45_method_4_code 5 = .ok (.aaload, 1) := by decide +kernel
theorem d30_6 : decode jdk_45_method_4_code 6 = .ok (.areturn, 1) := by decide +kernel
def Q30 (Z : State) (m_OA : Addr) (w_EMPTY_ELEMENTDATA : Addr) (w_DEFAULTCAPACITY_EMPTY_ELEMENTDATA : Addr) (w_EMPTY_LIST : Addr) (w_EMPTY_LIST_elements : Addr) (w_EMPTY : Addr) (k_w_EMPTY_ELEMENTDATA : ClassId) (k_w_DEFAULTCAPACITY_EMPTY_ELEMENTDATA : ClassId) (k_w_EMPTY_LIST_elements : ClassId) (a1 : Addr) (a2 : Addr) (k4 : ClassId) (a5 : Addr) (a6 : Addr) (a7 : Addr) (h0 : Heap) (n0 : Nat) (v : Option Value) (h : Heap) (L : List Loc) : Prop := v = some (.ref a6) ∧ Fr n0 L ∧ h = h0
theorem ef30 (m : MethodId) (x0 : Addr) : entryFrame m #[(.ref x0), (.int (1 : Int32))] 2 = mkF m 0 #[.val (.ref x0), .val (.int (1 : Int32))] [] := by first | (simp [entryFrame, mkF, argsToLocals, Value.category]; done) | rfl
set_option maxRecDepth 65536 in
set_option maxHeartbeats 40000000 in
theorem rm30 (l : Launch) (Z : State) (a0 : Array Value) (hw : ∀ d ∈ tables_1, d.before a0 Z = true) (ws : List Jvm.Cond) {m_OA : Addr} {w_EMPTY_ELEMENTDATA : Addr} {w_DEFAULTCAPACITY_EMPTY_ELEMENTDATA : Addr} {w_EMPTY_LIST : Addr} {w_EMPTY_LIST_elements : Addr} {w_EMPTY : Addr} {k_w_EMPTY_ELEMENTDATA : ClassId} {k_w_DEFAULTCAPACITY_EMPTY_ELEMENTDATA : ClassId} {k_w_EMPTY_LIST_elements : ClassId} (G : Glob Z m_OA w_EMPTY_ELEMENTDATA w_DEFAULTCAPACITY_EMPTY_ELEMENTDATA w_EMPTY_LIST w_EMPTY_LIST_elements w_EMPTY k_w_EMPTY_ELEMENTDATA k_w_DEFAULTCAPACITY_EMPTY_ELEMENTDATA k_w_EMPTY_LIST_elements) (a1 : Addr) (a2 : Addr) (k4 : ClassId) (a5 : Addr) (a6 : Addr) (a7 : Addr) (h0 : Heap) (n0 : Nat) (O0 : Old Z n0 h0) (F_elements_a1 : Fld Z h0 a1 "java/util/ImmutableCollections$ListN" "elements" "[Ljava/lang/Object;" (.ref a2)) (V_a2 : Arv Z h0 a2 k4 (.object "java/lang/Object") (3 : Int32) [(.ref a5), (.ref a6), (.ref a7)] .null) (O_k4 : Ovr Z k4 "java/lang/Object") :
    MetFree l (⟨"java/util/ImmutableCollections$ListN", "get", "(I)Ljava/lang/Object;"⟩ : MethodName) (head1 (Jvm.Cond.code (⟨"java/util/ImmutableCollections$ListN", "get", "(I)Ljava/lang/Object;"⟩ : MethodName) jdk_45_method_4_code 2 (some (.object "java/lang/Object")) :: ws) ({ frames := 0, cells := 0, slots := 0, locals := 0 } : Room)) (fun a U => a = #[(.ref a1), (.int (1 : Int32))] ∧ Z.Warmed39 U.vm ∧ U.heap = h0) (fun _ _ _ _ _ => True) (fun _ U o U' => ∃ v L, o = .returned v ∧ Q30 Z m_OA w_EMPTY_ELEMENTDATA w_DEFAULTCAPACITY_EMPTY_ELEMENTDATA w_EMPTY_LIST w_EMPTY_LIST_elements w_EMPTY k_w_EMPTY_ELEMENTDATA k_w_DEFAULTCAPACITY_EMPTY_ELEMENTDATA k_w_EMPTY_LIST_elements a1 a2 k4 a5 a6 a7 h0 n0 v U'.heap L ∧ FrameEnd U o U' L ({ frames := 0, cells := 0, slots := 0, locals := 0 } : Room).cells ({ frames := 0, cells := 0, slots := 0, locals := 0 } : Room).slots) := by
  refine MetFree.of_bodySF (plainFor_of_name pn_java_util_ImmutableCollections_ListN) hisR ?_
  intro p e s m args below meth c s₁ Bd hml0 hP hK
  obtain ⟨rfl, hZ, hh⟩ := hP
  have hx := Bd.exec
  have hby := Bd.bytes
  have hml : c.maxLocals = 2 := hml0
  have hown : s.vm.findClass "java/util/ImmutableCollections$ListN" = some m.cls := findClass_of_methodNamed Bd.named
  have hnm := (name_of_methodNamed Bd.named Bd.method).1
  have X0 : Stand p l e ({ frames := 0, cells := 0, slots := 0, locals := 0 } : Room) s m #[(.ref a1), (.int (1 : Int32))] below meth c s₁ [] 0 0 := Stand.of_body Bd
  have e0 : s₁.heap = h0 := by rw [← hh, Bd.state]; rfl
  have N0 := Fr.nil n0
  show OGot p.tables e below (s₁.setTop (entryFrame m #[(.ref a1), (.int (1 : Int32))] 2)) _
  refine OGot.go (fun t k => castTop (ef30 m a1) k) ?_
  show OGot p.tables e below (s₁.setTop (mkF m 0 #[.val (.ref a1), .val (.int (1 : Int32))] [])) _
  refine OGot.go (fun t k => XS.aloadN X0.here hx rfl (hb hby d30_0) rfl rfl k) ?_
  obtain ⟨T3, X3, e3, st3⟩ := getF X0 hx hZ hown (host := "") (Or.inl (ow hw 77 rfl)) Via.refl e0 F_elements_a1 (g := (mkF m 1 #[.val (.ref a1), .val (.int (1 : Int32))] [(.ref a1)])) rfl rfl (hb hby d30_1)
  refine OGot.go st3 ?_
  refine OGot.go (fun t k => XS.iloadN X3.here hx rfl (hb hby d30_4) rfl k) ?_
  obtain ⟨cl8, Ar8, qc8, Sz8, Ng8, Hh8, Gg8⟩ := id (V_a2)
  have hin8 : ¬ ((1 : Int32) < 0 ∨ cl8.slots.size ≤ ((1 : Int32)).toNatClampNeg) := inb_of Sz8 ⟨by decide, by decide⟩
  have hat8 : cl8.slots[((1 : Int32)).toNatClampNeg]? = some (.ref a6) := Hh8.at hin8 rfl
  refine OGot.go (fun t k => X3.aaload hx (j := (1 : Int32)) (v := (.ref a6)) (by rw [e3]; exact Ar8.1) (State.isArrayOf_alike hZ.alike Ar8.2.1) rfl Ar8.2.2 hin8 hat8 (g := (mkF m 5 #[.val (.ref a1), .val (.int (1 : Int32))] [(.int (1 : Int32)), (.ref a2)])) rfl rfl (hb hby d30_5) _ k) ?_
  show OGot p.tables e below (T3.setTop (mkF m 6 #[.val (.ref a1), .val (.int (1 : Int32))] [(.ref a6)])) _
  obtain ⟨fs, hr, hrun, hended, hW, hsame⟩ := X3.leave (v := some (.ref a6)) (fun h => by rw [Bd.returns] at h; cases h)
  refine ⟨_, _, oretA X3 hx Bd.returns rfl rfl (hb hby d30_6) hr, hrun, hended, _, _, rfl, ?_, ⟨_, rfl⟩, hW, hsame.mono (by decide) (by decide)⟩
  exact (⟨rfl, N0, e3⟩ : Q30 Z m_OA w_EMPTY_ELEMENTDATA w_DEFAULTCAPACITY_EMPTY_ELEMENTDATA w_EMPTY_LIST w_EMPTY_LIST_elements w_EMPTY k_w_EMPTY_ELEMENTDATA k_w_DEFAULTCAPACITY_EMPTY_ELEMENTDATA k_w_EMPTY_LIST_elements a1 a2 k4 a5 a6 a7 h0 n0 _ T3.heap _)
def Q30_1 (Z : State) (m_OA : Addr) (w_EMPTY_ELEMENTDATA : Addr) (w_DEFAULTCAPACITY_EMPTY_ELEMENTDATA : Addr) (w_EMPTY_LIST : Addr) (w_EMPTY_LIST_elements : Addr) (w_EMPTY : Addr) (k_w_EMPTY_ELEMENTDATA : ClassId) (k_w_DEFAULTCAPACITY_EMPTY_ELEMENTDATA : ClassId) (k_w_EMPTY_LIST_elements : ClassId) (a1 : Addr) (a2 : Addr) (k4 : ClassId) (a5 : Addr) (a6 : Addr) (a7 : Addr) (h0 : Heap) (n0 : Nat) (v : Option Value) (h : Heap) (L : List Loc) : Prop := v = some (.ref a5) ∧ Fr n0 L ∧ h = h0
theorem ef30_1 (m : MethodId) (x0 : Addr) : entryFrame m #[(.ref x0), (.int (0 : Int32))] 2 = mkF m 0 #[.val (.ref x0), .val (.int (0 : Int32))] [] := by first | (simp [entryFrame, mkF, argsToLocals, Value.category]; done) | rfl
set_option maxRecDepth 65536 in
set_option maxHeartbeats 40000000 in
theorem rm30_1 (l : Launch) (Z : State) (a0 : Array Value) (hw : ∀ d ∈ tables_1, d.before a0 Z = true) (ws : List Jvm.Cond) {m_OA : Addr} {w_EMPTY_ELEMENTDATA : Addr} {w_DEFAULTCAPACITY_EMPTY_ELEMENTDATA : Addr} {w_EMPTY_LIST : Addr} {w_EMPTY_LIST_elements : Addr} {w_EMPTY : Addr} {k_w_EMPTY_ELEMENTDATA : ClassId} {k_w_DEFAULTCAPACITY_EMPTY_ELEMENTDATA : ClassId} {k_w_EMPTY_LIST_elements : ClassId} (G : Glob Z m_OA w_EMPTY_ELEMENTDATA w_DEFAULTCAPACITY_EMPTY_ELEMENTDATA w_EMPTY_LIST w_EMPTY_LIST_elements w_EMPTY k_w_EMPTY_ELEMENTDATA k_w_DEFAULTCAPACITY_EMPTY_ELEMENTDATA k_w_EMPTY_LIST_elements) (a1 : Addr) (a2 : Addr) (k4 : ClassId) (a5 : Addr) (a6 : Addr) (a7 : Addr) (h0 : Heap) (n0 : Nat) (O0 : Old Z n0 h0) (F_elements_a1 : Fld Z h0 a1 "java/util/ImmutableCollections$ListN" "elements" "[Ljava/lang/Object;" (.ref a2)) (V_a2 : Arv Z h0 a2 k4 (.object "java/lang/Object") (3 : Int32) [(.ref a5), (.ref a6), (.ref a7)] .null) (O_k4 : Ovr Z k4 "java/lang/Object") :
    MetFree l (⟨"java/util/ImmutableCollections$ListN", "get", "(I)Ljava/lang/Object;"⟩ : MethodName) (head1 (Jvm.Cond.code (⟨"java/util/ImmutableCollections$ListN", "get", "(I)Ljava/lang/Object;"⟩ : MethodName) jdk_45_method_4_code 2 (some (.object "java/lang/Object")) :: ws) ({ frames := 0, cells := 0, slots := 0, locals := 0 } : Room)) (fun a U => a = #[(.ref a1), (.int (0 : Int32))] ∧ Z.Warmed39 U.vm ∧ U.heap = h0) (fun _ _ _ _ _ => True) (fun _ U o U' => ∃ v L, o = .returned v ∧ Q30_1 Z m_OA w_EMPTY_ELEMENTDATA w_DEFAULTCAPACITY_EMPTY_ELEMENTDATA w_EMPTY_LIST w_EMPTY_LIST_elements w_EMPTY k_w_EMPTY_ELEMENTDATA k_w_DEFAULTCAPACITY_EMPTY_ELEMENTDATA k_w_EMPTY_LIST_elements a1 a2 k4 a5 a6 a7 h0 n0 v U'.heap L ∧ FrameEnd U o U' L ({ frames := 0, cells := 0, slots := 0, locals := 0 } : Room).cells ({ frames := 0, cells := 0, slots := 0, locals := 0 } : Room).slots) := by
  refine MetFree.of_bodySF (plainFor_of_name pn_java_util_ImmutableCollections_ListN) hisR ?_
  intro p e s m args below meth c s₁ Bd hml0 hP hK
  obtain ⟨rfl, hZ, hh⟩ := hP
  have hx := Bd.exec
  have hby := Bd.bytes
  have hml : c.maxLocals = 2 := hml0
  have hown : s.vm.findClass "java/util/ImmutableCollections$ListN" = some m.cls := findClass_of_methodNamed Bd.named
  have hnm := (name_of_methodNamed Bd.named Bd.method).1
  have X0 : Stand p l e ({ frames := 0, cells := 0, slots := 0, locals := 0 } : Room) s m #[(.ref a1), (.int (0 : Int32))] below meth c s₁ [] 0 0 := Stand.of_body Bd
  have e0 : s₁.heap = h0 := by rw [← hh, Bd.state]; rfl
  have N0 := Fr.nil n0
  show OGot p.tables e below (s₁.setTop (entryFrame m #[(.ref a1), (.int (0 : Int32))] 2)) _
  refine OGot.go (fun t k => castTop (ef30_1 m a1) k) ?_
  show OGot p.tables e below (s₁.setTop (mkF m 0 #[.val (.ref a1), .val (.int (0 : Int32))] [])) _
  refine OGot.go (fun t k => XS.aloadN X0.here hx rfl (hb hby d30_0) rfl rfl k) ?_
  obtain ⟨T3, X3, e3, st3⟩ := getF X0 hx hZ hown (host := "") (Or.inl (ow hw 77 rfl)) Via.refl e0 F_elements_a1 (g := (mkF m 1 #[.val (.ref a1), .val (.int (0 : Int32))] [(.ref a1)])) rfl rfl (hb hby d30_1)
  refine OGot.go st3 ?_
  refine OGot.go (fun t k => XS.iloadN X3.here hx rfl (hb hby d30_4) rfl k) ?_
  obtain ⟨cl8, Ar8, qc8, Sz8, Ng8, Hh8, Gg8⟩ := id (V_a2)
  have hin8 : ¬ ((0 : Int32) < 0 ∨ cl8.slots.size ≤ ((0 : Int32)).toNatClampNeg) := inb_of Sz8 ⟨by decide, by decide⟩
  have hat8 : cl8.slots[((0 : Int32)).toNatClampNeg]? = some (.ref a5) := Hh8.at hin8 rfl
  refine OGot.go (fun t k => X3.aaload hx (j := (0 : Int32)) (v := (.ref a5)) (by rw [e3]; exact Ar8.1) (State.isArrayOf_alike hZ.alike Ar8.2.1) rfl Ar8.2.2 hin8 hat8 (g := (mkF m 5 #[.val (.ref a1), .val (.int (0 : Int32))] [(.int (0 : Int32)), (.ref a2)])) rfl rfl (hb hby d30_5) _ k) ?_
  show OGot p.tables e below (T3.setTop (mkF m 6 #[.val (.ref a1), .val (.int (0 : Int32))] [(.ref a5)])) _
  obtain ⟨fs, hr, hrun, hended, hW, hsame⟩ := X3.leave (v := some (.ref a5)) (fun h => by rw [Bd.returns] at h; cases h)
  refine ⟨_, _, oretA X3 hx Bd.returns rfl rfl (hb hby d30_6) hr, hrun, hended, _, _, rfl, ?_, ⟨_, rfl⟩, hW, hsame.mono (by decide) (by decide)⟩
  exact (⟨rfl, N0, e3⟩ : Q30_1 Z m_OA w_EMPTY_ELEMENTDATA w_DEFAULTCAPACITY_EMPTY_ELEMENTDATA w_EMPTY_LIST w_EMPTY_LIST_elements w_EMPTY k_w_EMPTY_ELEMENTDATA k_w_DEFAULTCAPACITY_EMPTY_ELEMENTDATA k_w_EMPTY_LIST_elements a1 a2 k4 a5 a6 a7 h0 n0 _ T3.heap _)
def Q30_2 (Z : State) (m_OA : Addr) (w_EMPTY_ELEMENTDATA : Addr) (w_DEFAULTCAPACITY_EMPTY_ELEMENTDATA : Addr) (w_EMPTY_LIST : Addr) (w_EMPTY_LIST_elements : Addr) (w_EMPTY : Addr) (k_w_EMPTY_ELEMENTDATA : ClassId) (k_w_DEFAULTCAPACITY_EMPTY_ELEMENTDATA : ClassId) (k_w_EMPTY_LIST_elements : ClassId) (a1 : Addr) (a2 : Addr) (k4 : ClassId) (a5 : Addr) (a6 : Addr) (a7 : Addr) (h0 : Heap) (n0 : Nat) (v : Option Value) (h : Heap) (L : List Loc) : Prop := v = some (.ref a7) ∧ Fr n0 L ∧ h = h0
theorem ef30_2 (m : MethodId) (x0 : Addr) : entryFrame m #[(.ref x0), (.int (2 : Int32))] 2 = mkF m 0 #[.val (.ref x0), .val (.int (2 : Int32))] [] := by first | (simp [entryFrame, mkF, argsToLocals, Value.category]; done) | rfl
set_option maxRecDepth 65536 in
set_option maxHeartbeats 40000000 in
theorem rm30_2 (l : Launch) (Z : State) (a0 : Array Value) (hw : ∀ d ∈ tables_1, d.before a0 Z = true) (ws : List Jvm.Cond) {m_OA : Addr} {w_EMPTY_ELEMENTDATA : Addr} {w_DEFAULTCAPACITY_EMPTY_ELEMENTDATA : Addr} {w_EMPTY_LIST : Addr} {w_EMPTY_LIST_elements : Addr} {w_EMPTY : Addr} {k_w_EMPTY_ELEMENTDATA : ClassId} {k_w_DEFAULTCAPACITY_EMPTY_ELEMENTDATA : ClassId} {k_w_EMPTY_LIST_elements : ClassId} (G : Glob Z m_OA w_EMPTY_ELEMENTDATA w_DEFAULTCAPACITY_EMPTY_ELEMENTDATA w_EMPTY_LIST w_EMPTY_LIST_elements w_EMPTY k_w_EMPTY_ELEMENTDATA k_w_DEFAULTCAPACITY_EMPTY_ELEMENTDATA k_w_EMPTY_LIST_elements) (a1 : Addr) (a2 : Addr) (k4 : ClassId) (a5 : Addr) (a6 : Addr) (a7 : Addr) (h0 : Heap) (n0 : Nat) (O0 : Old Z n0 h0) (F_elements_a1 : Fld Z h0 a1 "java/util/ImmutableCollections$ListN" "elements" "[Ljava/lang/Object;" (.ref a2)) (V_a2 : Arv Z h0 a2 k4 (.object "java/lang/Object") (3 : Int32) [(.ref a5), (.ref a6), (.ref a7)] .null) (O_k4 : Ovr Z k4 "java/lang/Object") :
    MetFree l (⟨"java/util/ImmutableCollections$ListN", "get", "(I)Ljava/lang/Object;"⟩ : MethodName) (head1 (Jvm.Cond.code (⟨"java/util/ImmutableCollections$ListN", "get", "(I)Ljava/lang/Object;"⟩ : MethodName) jdk_45_method_4_code 2 (some (.object "java/lang/Object")) :: ws) ({ frames := 0, cells := 0, slots := 0, locals := 0 } : Room)) (fun a U => a = #[(.ref a1), (.int (2 : Int32))] ∧ Z.Warmed39 U.vm ∧ U.heap = h0) (fun _ _ _ _ _ => True) (fun _ U o U' => ∃ v L, o = .returned v ∧ Q30_2 Z m_OA w_EMPTY_ELEMENTDATA w_DEFAULTCAPACITY_EMPTY_ELEMENTDATA w_EMPTY_LIST w_EMPTY_LIST_elements w_EMPTY k_w_EMPTY_ELEMENTDATA k_w_DEFAULTCAPACITY_EMPTY_ELEMENTDATA k_w_EMPTY_LIST_elements a1 a2 k4 a5 a6 a7 h0 n0 v U'.heap L ∧ FrameEnd U o U' L ({ frames := 0, cells := 0, slots := 0, locals := 0 } : Room).cells ({ frames := 0, cells := 0, slots := 0, locals := 0 } : Room).slots) := by
  refine MetFree.of_bodySF (plainFor_of_name pn_java_util_ImmutableCollections_ListN) hisR ?_
  intro p e s m args below meth c s₁ Bd hml0 hP hK
  obtain ⟨rfl, hZ, hh⟩ := hP
  have hx := Bd.exec
  have hby := Bd.bytes
  have hml : c.maxLocals = 2 := hml0
  have hown : s.vm.findClass "java/util/ImmutableCollections$ListN" = some m.cls := findClass_of_methodNamed Bd.named
  have hnm := (name_of_methodNamed Bd.named Bd.method).1
  have X0 : Stand p l e ({ frames := 0, cells := 0, slots := 0, locals := 0 } : Room) s m #[(.ref a1), (.int (2 : Int32))] below meth c s₁ [] 0 0 := Stand.of_body Bd
  have e0 : s₁.heap = h0 := by rw [← hh, Bd.state]; rfl
  have N0 := Fr.nil n0
  show OGot p.tables e below (s₁.setTop (entryFrame m #[(.ref a1), (.int (2 : Int32))] 2)) _
  refine OGot.go (fun t k => castTop (ef30_2 m a1) k) ?_
  show OGot p.tables e below (s₁.setTop (mkF m 0 #[.val (.ref a1), .val (.int (2 : Int32))] [])) _
  refine OGot.go (fun t k => XS.aloadN X0.here hx rfl (hb hby d30_0) rfl rfl k) ?_
  obtain ⟨T3, X3, e3, st3⟩ := getF X0 hx hZ hown (host := "") (Or.inl (ow hw 77 rfl)) Via.refl e0 F_elements_a1 (g := (mkF m 1 #[.val (.ref a1), .val (.int (2 : Int32))] [(.ref a1)])) rfl rfl (hb hby d30_1)
  refine OGot.go st3 ?_
  refine OGot.go (fun t k => XS.iloadN X3.here hx rfl (hb hby d30_4) rfl k) ?_
  obtain ⟨cl8, Ar8, qc8, Sz8, Ng8, Hh8, Gg8⟩ := id (V_a2)
  have hin8 : ¬ ((2 : Int32) < 0 ∨ cl8.slots.size ≤ ((2 : Int32)).toNatClampNeg) := inb_of Sz8 ⟨by decide, by decide⟩
  have hat8 : cl8.slots[((2 : Int32)).toNatClampNeg]? = some (.ref a7) := Hh8.at hin8 rfl
  refine OGot.go (fun t k => X3.aaload hx (j := (2 : Int32)) (v := (.ref a7)) (by rw [e3]; exact Ar8.1) (State.isArrayOf_alike hZ.alike Ar8.2.1) rfl Ar8.2.2 hin8 hat8 (g := (mkF m 5 #[.val (.ref a1), .val (.int (2 : Int32))] [(.int (2 : Int32)), (.ref a2)])) rfl rfl (hb hby d30_5) _ k) ?_
  show OGot p.tables e below (T3.setTop (mkF m 6 #[.val (.ref a1), .val (.int (2 : Int32))] [(.ref a7)])) _
  obtain ⟨fs, hr, hrun, hended, hW, hsame⟩ := X3.leave (v := some (.ref a7)) (fun h => by rw [Bd.returns] at h; cases h)
  refine ⟨_, _, oretA X3 hx Bd.returns rfl rfl (hb hby d30_6) hr, hrun, hended, _, _, rfl, ?_, ⟨_, rfl⟩, hW, hsame.mono (by decide) (by decide)⟩
  exact (⟨rfl, N0, e3⟩ : Q30_2 Z m_OA w_EMPTY_ELEMENTDATA w_DEFAULTCAPACITY_EMPTY_ELEMENTDATA w_EMPTY_LIST w_EMPTY_LIST_elements w_EMPTY k_w_EMPTY_ELEMENTDATA k_w_DEFAULTCAPACITY_EMPTY_ELEMENTDATA k_w_EMPTY_LIST_elements a1 a2 k4 a5 a6 a7 h0 n0 _ T3.heap _)
def Q5_3 (Z : State) (m_OA : Addr) (w_EMPTY_ELEMENTDATA : Addr) (w_DEFAULTCAPACITY_EMPTY_ELEMENTDATA : Addr) (w_EMPTY_LIST : Addr) (w_EMPTY_LIST_elements : Addr) (w_EMPTY : Addr) (k_w_EMPTY_ELEMENTDATA : ClassId) (k_w_DEFAULTCAPACITY_EMPTY_ELEMENTDATA : ClassId) (k_w_EMPTY_LIST_elements : ClassId) (a1 : Addr) (a2 : Addr) (a4 : Addr) (k5 : ClassId) (a6 : Addr) (a7 : Addr) (a8 : Addr) (p13 : Int32) (p18 : Int32) (p24 : Int32) (h0 : Heap) (n0 : Nat) (v : Option Value) (h : Heap) (L : List Loc) : Prop := Fr n0 L ∧ ∃ b26_7_11_7_9 : Addr, ∃ b7_7_11_7_9 : Addr, ∃ k7_7_11_7_9 : ClassId, v = none ∧ h0.size ≤ b26_7_11_7_9 ∧ h0.size ≤ b7_7_11_7_9 ∧ b26_7_11_7_9 ≠ b7_7_11_7_9 ∧ OKeep h0 h [(a1, Jvm.RoadKit.slotOf Z "com/example/curtail/curtail/Placement" "aCells" "Ljava/util/List;")] ∧ Fld Z h a1 "com/example/curtail/curtail/Placement" "aCells" "Ljava/util/List;" (.ref b26_7_11_7_9) ∧ Exa Z h b26_7_11_7_9 "java/util/ImmutableCollections$ListN" ∧ Fld Z h b26_7_11_7_9 "java/util/ImmutableCollections$ListN" "allowNulls" "Z" (.int (0 : Int32)) ∧ Fld Z h b26_7_11_7_9 "java/util/ImmutableCollections$ListN" "elements" "[Ljava/lang/Object;" (.ref b7_7_11_7_9) ∧ Exa Z h b7_7_11_7_9 "[Ljava/lang/Object;" ∧ Arv Z h b7_7_11_7_9 k7_7_11_7_9 (.object "java/lang/Object") (3 : Int32) [(.ref a6), (.ref a7), (.ref a8)] .null ∧ Ovr Z k7_7_11_7_9 "java/lang/Object"
theorem ef5_3 (m : MethodId) (x0 : Addr) (x1 : Addr) : entryFrame m #[(.ref x0), (.ref x1)] 3 = mkF m 0 #[.val (.ref x0), .val (.ref x1), .unset] [] := by first | (simp [entryFrame, mkF, argsToLocals, Value.category]; done) | rfl
set_option maxRecDepth 65536 in
set_option maxHeartbeats 40000000 in
theorem rm5_3 (l : Launch) (Z : State) (a0 : Array Value) (hw : ∀ d ∈ tables_1, d.before a0 Z = true) (ws : List Jvm.Cond) {m_OA : Addr} {w_EMPTY_ELEMENTDATA : Addr} {w_DEFAULTCAPACITY_EMPTY_ELEMENTDATA : Addr} {w_EMPTY_LIST : Addr} {w_EMPTY_LIST_elements : Addr} {w_EMPTY : Addr} {k_w_EMPTY_ELEMENTDATA : ClassId} {k_w_DEFAULTCAPACITY_EMPTY_ELEMENTDATA : ClassId} {k_w_EMPTY_LIST_elements : ClassId} (G : Glob Z m_OA w_EMPTY_ELEMENTDATA w_DEFAULTCAPACITY_EMPTY_ELEMENTDATA w_EMPTY_LIST w_EMPTY_LIST_elements w_EMPTY k_w_EMPTY_ELEMENTDATA k_w_DEFAULTCAPACITY_EMPTY_ELEMENTDATA k_w_EMPTY_LIST_elements) (a1 : Addr) (a2 : Addr) (a4 : Addr) (k5 : ClassId) (a6 : Addr) (a7 : Addr) (a8 : Addr) (p13 : Int32) (p18 : Int32) (p24 : Int32) (h0 : Heap) (n0 : Nat) (O0 : Old Z n0 h0) (E_a2 : Exa Z h0 a2 "java/util/ArrayList") (F_size_a2 : Fld Z h0 a2 "java/util/ArrayList" "size" "I" (.int (3 : Int32))) (F_elementData_a2 : Fld Z h0 a2 "java/util/ArrayList" "elementData" "[Ljava/lang/Object;" (.ref a4)) (E_a4 : Exa Z h0 a4 "[Ljava/lang/Object;") (V_a4 : Arv Z h0 a4 k5 (.object "java/lang/Object") (10 : Int32) [(.ref a6), (.ref a7), (.ref a8), .null, .null, .null, .null, .null, .null, .null] .null) (O_k5 : Ovr Z k5 "java/lang/Object") (E_a8 : Exa Z h0 a8 "com/example/curtail/curtail/Placement$Cell") (E_a7 : Exa Z h0 a7 "com/example/curtail/curtail/Placement$Cell") (E_a6 : Exa Z h0 a6 "com/example/curtail/curtail/Placement$Cell") (F_nSlot_a7 : Fld Z h0 a7 "com/example/curtail/curtail/Placement$Cell" "nSlot" "I" (.int p13)) (F_nSlot_a6 : Fld Z h0 a6 "com/example/curtail/curtail/Placement$Cell" "nSlot" "I" (.int p18)) (hc_1 : p18 < p13) (F_nSlot_a8 : Fld Z h0 a8 "com/example/curtail/curtail/Placement$Cell" "nSlot" "I" (.int p24)) (hc_2 : p13 < p24) (E_a1 : Exa Z h0 a1 "com/example/curtail/curtail/Placement") (F_aCells_a1 : Fld Z h0 a1 "com/example/curtail/curtail/Placement" "aCells" "Ljava/util/List;" .null) (g_a1 : n0 ≤ a1) :
    MetFree l (⟨"com/example/curtail/curtail/Placement", "<init>", "(Ljava/util/List;)V"⟩ : MethodName) (head1 (Jvm.Cond.code (⟨"com/example/curtail/curtail/Placement", "<init>", "(Ljava/util/List;)V"⟩ : MethodName) prog_14_method_1_code 3 none :: ws) ({ frames := 9, cells := 3, slots := 8, locals := 115 } : Room)) (fun a U => a = #[(.ref a1), (.ref a2)] ∧ Z.Warmed39 U.vm ∧ U.heap = h0) (fun _ _ _ _ _ => True) (fun _ U o U' => ∃ v L, o = .returned v ∧ Q5_3 Z m_OA w_EMPTY_ELEMENTDATA w_DEFAULTCAPACITY_EMPTY_ELEMENTDATA w_EMPTY_LIST w_EMPTY_LIST_elements w_EMPTY k_w_EMPTY_ELEMENTDATA k_w_DEFAULTCAPACITY_EMPTY_ELEMENTDATA k_w_EMPTY_LIST_elements a1 a2 a4 k5 a6 a7 a8 p13 p18 p24 h0 n0 v U'.heap L ∧ FrameEnd U o U' L ({ frames := 9, cells := 3, slots := 8, locals := 115 } : Room).cells ({ frames := 9, cells := 3, slots := 8, locals := 115 } : Room).slots) := by
  refine MetFree.of_bodySF (plainFor_of_name pn_com_example_curtail_curtail_Placement) hisR ?_
  intro p e s m args below meth c s₁ Bd hml0 hP hK
  obtain ⟨rfl, hZ, hh⟩ := hP
  have hx := Bd.exec
  have hby := Bd.bytes
  have hml : c.maxLocals = 3 := hml0
  have hown : s.vm.findClass "com/example/curtail/curtail/Placement" = some m.cls := findClass_of_methodNamed Bd.named
  have hnm := (name_of_methodNamed Bd.named Bd.method).1
  have X0 : Stand p l e ({ frames := 9, cells := 3, slots := 8, locals := 115 } : Room) s m #[(.ref a1), (.ref a2)] below meth c s₁ [] 0 0 := Stand.of_body Bd
  have e0 : s₁.heap = h0 := by rw [← hh, Bd.state]; rfl
  have N0 := Fr.nil n0
  show OGot p.tables e below (s₁.setTop (entryFrame m #[(.ref a1), (.ref a2)] 3)) _
  refine OGot.go (fun t k => castTop (ef5_3 m a1 a2) k) ?_
  show OGot p.tables e below (s₁.setTop (mkF m 0 #[.val (.ref a1), .val (.ref a2), .unset] [])) _
  refine OGot.go (fun t k => XS.aloadN X0.here hx rfl (hb hby d5_0) rfl rfl k) ?_
  obtain ⟨_, _, ⟨T3, L3, k3, n3⟩, -, X3, ⟨Lc3, hQ3, l3, y3, z3⟩, st3⟩ := X0.specialBack hx (y := (⟨"java/lang/Record", "<init>", "()V"⟩ : MethodName)) rfl hown (mvT hZ (ow hw 32 rfl)) (mvT hZ (ow hw 33 rfl)) (mvT hZ (ow hw 36 rfl)) (by decide) (backOf (W := 0) (rm6 l Z a0 hw [] G a1 h0 n0 O0 ) hZ (ow hw 36 rfl) (ow hw 35 rfl) (by decide) (by decide)) (g := (mkF m 1 #[.val (.ref a1), .val (.ref a2), .unset] [(.ref a1)])) rfl (by rw [hml]; rfl) (Steps.refl _) (a := a1) (argsL := []) (rest := []) (lenOf pd_0 rfl) rfl (by show 2 * 0 + _ ≤ _; exact Nat.le_of_eq rfl) (hb hby d5_1) (fun _ _ => ⟨rfl, e0, (by decide : 0 + 0 ≤ _), (by decide : 0 + 0 ≤ _)⟩)
  dsimp only [Pt.U, Pt.locs, Pt.cells, Pt.slots] at X3 l3 y3 z3 st3 hQ3
  subst l3 y3 z3
  obtain ⟨rfl, N3q, e3⟩ := hQ3
  have N3 := Fr.app N0 N3q
  refine OGot.on st3 ?_
  refine OGot.go (fun t k => XS.aloadN X3.here hx rfl (hb hby d5_4) rfl rfl k) ?_
  obtain ⟨_, _, ⟨T9, L9, k9, n9⟩, -, X9, ⟨Lc9, hQ9, l9, y9, z9⟩, st9⟩ := Jvm.LawKit.callS X3 hx (y := (⟨"java/util/List", "copyOf", "(Ljava/util/Collection;)Ljava/util/List;"⟩ : MethodName)) hown (mvT hZ (ow hw 38 rfl)) (mvT hZ (ow hw 39 rfl)) (mvT hZ (ow hw 40 rfl)) (mvT hZ (ow hw 41 rfl)) (by decide) (backOf (W := 0) (rm7_3 l Z a0 hw [] G a2 a4 k5 a6 a7 a8 h0 n0 O0 E_a2 F_size_a2 F_elementData_a2 E_a4 V_a4 O_k5 E_a8 E_a7 E_a6) hZ (ow hw 41 rfl) (ow hw 40 rfl) (by decide) (by decide)) (g := (mkF m 5 #[.val (.ref a1), .val (.ref a2), .unset] [(.ref a2)])) rfl (by rw [hml]; rfl) (argsL := [(.ref a2)]) (rest := []) (lenOf pd_3 rfl) rfl (by show 2 * 0 + _ ≤ _; exact Nat.le_of_eq rfl) (hb hby d5_5) (fun _ _ => ⟨rfl, e3, (by decide : 0 + 3 ≤ _), (by decide : 0 + 8 ≤ _)⟩)
  dsimp only [Pt.U, Pt.locs, Pt.cells, Pt.slots] at X9 l9 y9 z9 st9 hQ9
  subst l9 y9 z9
  obtain ⟨N9q, b26_7_11_7_9, b7_7_11_7_9, k7_7_11_7_9, rfl, szb26_7_11_7_9_9, szb7_7_11_7_9_9, neb26_7_11_7_9_b7_7_11_7_9_9, K9, Fo9_0, Fo9_1, Fo9_2, Fo9_3, Fo9_4, Fo9_5⟩ := hQ9
  have g_b26_7_11_7_9 : n0 ≤ b26_7_11_7_9 := Nat.le_trans (osz O0) szb26_7_11_7_9_9
  have sz_b26_7_11_7_9 : h0.size ≤ b26_7_11_7_9 := Nat.le_trans (OKeep.refl h0 [(a1, Jvm.RoadKit.slotOf Z "com/example/curtail/curtail/Placement" "aCells" "Ljava/util/List;")]).1 szb26_7_11_7_9_9
  have g_b7_7_11_7_9 : n0 ≤ b7_7_11_7_9 := Nat.le_trans (osz O0) szb7_7_11_7_9_9
  have sz_b7_7_11_7_9 : h0.size ≤ b7_7_11_7_9 := Nat.le_trans (OKeep.refl h0 [(a1, Jvm.RoadKit.slotOf Z "com/example/curtail/curtail/Placement" "aCells" "Ljava/util/List;")]).1 szb7_7_11_7_9_9
  have Kc9 := (OKeep.refl h0 [(a1, Jvm.RoadKit.slotOf Z "com/example/curtail/curtail/Placement" "aCells" "Ljava/util/List;")]).trans K9 oin0
  have O9 := OKeep.old O0 K9 oge0
  have N9 := Fr.app N3 N9q
  refine OGot.go st9 ?_
  refine OGot.go (fun t k => XS.astoreN X9.here hx rfl (hb hby d5_8) rfl rfl (l' := #[.val (.ref a1), .val (.ref b26_7_11_7_9), .unset]) rfl k) ?_
  show OGot p.tables e below (T9.setTop (mkF m 9 #[.val (.ref a1), .val (.ref b26_7_11_7_9), .unset] [])) _
  refine OGot.go (fun t k => XS.iconst X9.here hx rfl (hb hby d5_9) k) ?_
  refine OGot.go (fun t k => XS.istoreN X9.here hx rfl (hb hby d5_10) rfl (l' := #[.val (.ref a1), .val (.ref b26_7_11_7_9), .val (.int (1 : Int32))]) rfl k) ?_
  refine OGot.go (fun t k => XS.iloadN X9.here hx rfl (hb hby d5_11) rfl k) ?_
  refine OGot.go (fun t k => XS.aloadN X9.here hx rfl (hb hby d5_12) rfl rfl k) ?_
  obtain ⟨cq10, kq10, q10a, q10b, q10c⟩ := isOf hZ rfl Fo9_0
  obtain ⟨_, _, ⟨T10, L10, k10, n10⟩, -, X10, ⟨Lc10, hQ10, l10, y10, z10⟩, st10⟩ := X9.interfaceBack hx (xi := (⟨"java/util/List", "size", "()I"⟩ : MethodName)) (y := (⟨"java/util/ImmutableCollections$ListN", "size", "()I"⟩ : MethodName)) hown (mvT hZ (ow hw 67 rfl)) (mvT hZ (ow hw 68 rfl)) (mvT hZ (ow hw 69 rfl)) (mvT hZ (ow hw 70 rfl)) (mvT hZ (ow hw 71 rfl)) (mvT hZ (ow hw 72 rfl)) (mvT hZ (ow hw 73 rfl)) (mvT hZ (ow hw 74 rfl)) (by decide) (backOf (W := 1) (rm11_1 l Z a0 hw [] G b26_7_11_7_9 b7_7_11_7_9 k7_7_11_7_9 a6 a7 a8 T9.heap n0 O9 Fo9_2 Fo9_4 Fo9_5) hZ (ow hw 76 rfl) (ow hw 75 rfl) (by decide) (by decide)) q10a q10b q10c (g := (mkF m 13 #[.val (.ref a1), .val (.ref b26_7_11_7_9), .val (.int (1 : Int32))] [(.ref b26_7_11_7_9), (.int (1 : Int32))])) rfl (by rw [hml]; rfl) (Steps.refl _) (argsL := []) (rest := [(.int (1 : Int32))]) (lenOf pd_4 rfl) rfl (by show 2 * 0 + _ ≤ _; exact Nat.le_of_eq rfl) (hb hby d5_13) (fun _ _ => ⟨rfl, rfl, (by decide : 3 + 0 ≤ _), (by decide : 8 + 0 ≤ _)⟩)
  dsimp only [Pt.U, Pt.locs, Pt.cells, Pt.slots] at X10 l10 y10 z10 st10 hQ10
  subst l10 y10 z10
  obtain ⟨rfl, N10q, e10⟩ := hQ10
  have N10 := Fr.app N9 N10q
  refine OGot.on st10 ?_
  show OGot p.tables e below (T10.setTop (mkF m 18 #[.val (.ref a1), .val (.ref b26_7_11_7_9), .val (.int (1 : Int32))] [(.int (3 : Int32)), (.int (1 : Int32))])) _
  refine OGot.go (fun t k => XS.icmpNo X10.here hx rfl (hb hby d5_18) rfl (by decide) k) ?_
  refine OGot.go (fun t k => XS.aloadN X10.here hx rfl (hb hby d5_21) rfl rfl k) ?_
  refine OGot.go (fun t k => XS.iloadN X10.here hx rfl (hb hby d5_22) rfl k) ?_
  obtain ⟨cq11, kq11, q11a, q11b, q11c⟩ := isOf hZ e10 Fo9_0
  obtain ⟨_, _, ⟨T11, L11, k11, n11⟩, -, X11, ⟨Lc11, hQ11, l11, y11, z11⟩, st11⟩ := X10.interfaceBack hx (xi := (⟨"java/util/List", "get", "(I)Ljava/lang/Object;"⟩ : MethodName)) (y := (⟨"java/util/ImmutableCollections$ListN", "get", "(I)Ljava/lang/Object;"⟩ : MethodName)) hown (mvT hZ (ow hw 198 rfl)) (mvT hZ (ow hw 199 rfl)) (mvT hZ (ow hw 200 rfl)) (mvT hZ (ow hw 201 rfl)) (mvT hZ (ow hw 202 rfl)) (mvT hZ (ow hw 203 rfl)) (mvT hZ (ow hw 204 rfl)) (mvT hZ (ow hw 74 rfl)) (by decide) (backOf (W := 0) (rm30 l Z a0 hw [] G b26_7_11_7_9 b7_7_11_7_9 k7_7_11_7_9 a6 a7 a8 T9.heap n0 O9 Fo9_2 Fo9_4 Fo9_5) hZ (ow hw 205 rfl) (ow hw 75 rfl) (by decide) (by decide)) q11a q11b q11c (g := (mkF m 23 #[.val (.ref a1), .val (.ref b26_7_11_7_9), .val (.int (1 : Int32))] [(.int (1 : Int32)), (.ref b26_7_11_7_9)])) rfl (by rw [hml]; rfl) (Steps.refl _) (argsL := [(.int (1 : Int32))]) (rest := []) (lenOf pd_17 rfl) rfl (by show 2 * 0 + _ ≤ _; exact Nat.le_of_eq rfl) (hb hby d5_23) (fun _ _ => ⟨rfl, e10, (by decide : 3 + 0 ≤ _), (by decide : 8 + 0 ≤ _)⟩)
  dsimp only [Pt.U, Pt.locs, Pt.cells, Pt.slots] at X11 l11 y11 z11 st11 hQ11
  subst l11 y11 z11
  obtain ⟨rfl, N11q, e11⟩ := hQ11
  have N11 := Fr.app N10 N11q
  refine OGot.on st11 ?_
  obtain ⟨T12, X12, e12, st12⟩ := castY X11 hx hZ hown (ow hw 206 rfl) e11 (Ins.self (OKeep.exa E_a7 K9)) (g := (mkF m 28 #[.val (.ref a1), .val (.ref b26_7_11_7_9), .val (.int (1 : Int32))] [(.ref a7)])) rfl rfl (hb hby d5_28)
  refine OGot.go st12 ?_
  show OGot p.tables e below (T12.setTop (mkF m 31 #[.val (.ref a1), .val (.ref b26_7_11_7_9), .val (.int (1 : Int32))] [(.ref a7)])) _
  have F15 : Fld Z T9.heap a7 "com/example/curtail/curtail/Placement$Cell" "nSlot" "I" (.int p13) := (OKeep.fld F_nSlot_a7 K9 onin0)
  obtain ⟨cq14, kq14, q14a, q14b, q14c⟩ := isOf hZ e12 (OKeep.exa E_a7 K9)
  obtain ⟨_, _, ⟨T14, L14, k14, n14⟩, -, X14, ⟨Lc14, hQ14, l14, y14, z14⟩, st14⟩ := X12.virtualBack hx (y := (⟨"com/example/curtail/curtail/Placement$Cell", "nSlot", "()I"⟩ : MethodName)) (z := (⟨"com/example/curtail/curtail/Placement$Cell", "nSlot", "()I"⟩ : MethodName)) hown (mvT hZ (ow hw 208 rfl)) (mvT hZ (ow hw 209 rfl)) (notFace_of_selects (args := #[]) (mvT hZ (ow hw 211 rfl))) (mvT hZ (ow hw 211 rfl)) (mvT hZ (ow hw 210 rfl)) (by decide) (backOf (W := 0) (rm31 l Z a0 hw [] G a7 p13 T9.heap n0 O9 F15) hZ (ow hw 212 rfl) (ow hw 98 rfl) (by decide) (by decide)) q14a q14c (g := (mkF m 31 #[.val (.ref a1), .val (.ref b26_7_11_7_9), .val (.int (1 : Int32))] [(.ref a7)])) rfl (by rw [hml]; rfl) (Steps.refl _) (argsL := []) (rest := []) (lenOf pd_4 rfl) rfl (by show 2 * 0 + _ ≤ _; exact Nat.le_of_eq rfl) (hb hby d5_31) (fun _ _ => ⟨rfl, e12, (by decide : 3 + 0 ≤ _), (by decide : 8 + 0 ≤ _)⟩)
  dsimp only [Pt.U, Pt.locs, Pt.cells, Pt.slots] at X14 l14 y14 z14 st14 hQ14
  subst l14 y14 z14
  obtain ⟨rfl, N14q, e14⟩ := hQ14
  have N14 := Fr.app N11 N14q
  refine OGot.on st14 ?_
  refine OGot.go (fun t k => XS.aloadN X14.here hx rfl (hb hby d5_34) rfl rfl k) ?_
  refine OGot.go (fun t k => XS.iloadN X14.here hx rfl (hb hby d5_35) rfl k) ?_
  refine OGot.go (fun t k => XS.iconst X14.here hx rfl (hb hby d5_36) k) ?_
  refine OGot.go (fun t k => XS.isub X14.here hx rfl (hb hby d5_37) rfl k) ?_
  show OGot p.tables e below (T14.setTop (mkF m 38 #[.val (.ref a1), .val (.ref b26_7_11_7_9), .val (.int (1 : Int32))] [(.int ((1 : Int32) - (1 : Int32))), (.ref b26_7_11_7_9), (.int p13)])) _
  rw [show ((1 : Int32) - (1 : Int32)) = (0 : Int32) from by decide]
  show OGot p.tables e below (T14.setTop (mkF m 38 #[.val (.ref a1), .val (.ref b26_7_11_7_9), .val (.int (1 : Int32))] [(.int (0 : Int32)), (.ref b26_7_11_7_9), (.int p13)])) _
  obtain ⟨cq16, kq16, q16a, q16b, q16c⟩ := isOf hZ e14 Fo9_0
  obtain ⟨_, _, ⟨T16, L16, k16, n16⟩, -, X16, ⟨Lc16, hQ16, l16, y16, z16⟩, st16⟩ := X14.interfaceBack hx (xi := (⟨"java/util/List", "get", "(I)Ljava/lang/Object;"⟩ : MethodName)) (y := (⟨"java/util/ImmutableCollections$ListN", "get", "(I)Ljava/lang/Object;"⟩ : MethodName)) hown (mvT hZ (ow hw 198 rfl)) (mvT hZ (ow hw 199 rfl)) (mvT hZ (ow hw 200 rfl)) (mvT hZ (ow hw 201 rfl)) (mvT hZ (ow hw 202 rfl)) (mvT hZ (ow hw 203 rfl)) (mvT hZ (ow hw 204 rfl)) (mvT hZ (ow hw 74 rfl)) (by decide) (backOf (W := 1) (rm30_1 l Z a0 hw [] G b26_7_11_7_9 b7_7_11_7_9 k7_7_11_7_9 a6 a7 a8 T9.heap n0 O9 Fo9_2 Fo9_4 Fo9_5) hZ (ow hw 205 rfl) (ow hw 75 rfl) (by decide) (by decide)) q16a q16b q16c (g := (mkF m 38 #[.val (.ref a1), .val (.ref b26_7_11_7_9), .val (.int (1 : Int32))] [(.int (0 : Int32)), (.ref b26_7_11_7_9), (.int p13)])) rfl (by rw [hml]; rfl) (Steps.refl _) (argsL := [(.int (0 : Int32))]) (rest := [(.int p13)]) (lenOf pd_17 rfl) rfl (by show 2 * 0 + _ ≤ _; exact Nat.le_of_eq rfl) (hb hby d5_38) (fun _ _ => ⟨rfl, e14, (by decide : 3 + 0 ≤ _), (by decide : 8 + 0 ≤ _)⟩)
  dsimp only [Pt.U, Pt.locs, Pt.cells, Pt.slots] at X16 l16 y16 z16 st16 hQ16
  subst l16 y16 z16
  obtain ⟨rfl, N16q, e16⟩ := hQ16
  have N16 := Fr.app N14 N16q
  refine OGot.on st16 ?_
  obtain ⟨T17, X17, e17, st17⟩ := castY X16 hx hZ hown (ow hw 206 rfl) e16 (Ins.self (OKeep.exa E_a6 K9)) (g := (mkF m 43 #[.val (.ref a1), .val (.ref b26_7_11_7_9), .val (.int (1 : Int32))] [(.ref a6), (.int p13)])) rfl rfl (hb hby d5_43)
  refine OGot.go st17 ?_
  have F20 : Fld Z T9.heap a6 "com/example/curtail/curtail/Placement$Cell" "nSlot" "I" (.int p18) := (OKeep.fld F_nSlot_a6 K9 onin0)
  obtain ⟨cq19, kq19, q19a, q19b, q19c⟩ := isOf hZ e17 (OKeep.exa E_a6 K9)
  obtain ⟨_, _, ⟨T19, L19, k19, n19⟩, -, X19, ⟨Lc19, hQ19, l19, y19, z19⟩, st19⟩ := X17.virtualBack hx (y := (⟨"com/example/curtail/curtail/Placement$Cell", "nSlot", "()I"⟩ : MethodName)) (z := (⟨"com/example/curtail/curtail/Placement$Cell", "nSlot", "()I"⟩ : MethodName)) hown (mvT hZ (ow hw 208 rfl)) (mvT hZ (ow hw 209 rfl)) (notFace_of_selects (args := #[]) (mvT hZ (ow hw 211 rfl))) (mvT hZ (ow hw 211 rfl)) (mvT hZ (ow hw 210 rfl)) (by decide) (backOf (W := 1) (rm31 l Z a0 hw [] G a6 p18 T9.heap n0 O9 F20) hZ (ow hw 212 rfl) (ow hw 98 rfl) (by decide) (by decide)) q19a q19c (g := (mkF m 46 #[.val (.ref a1), .val (.ref b26_7_11_7_9), .val (.int (1 : Int32))] [(.ref a6), (.int p13)])) rfl (by rw [hml]; rfl) (Steps.refl _) (argsL := []) (rest := [(.int p13)]) (lenOf pd_4 rfl) rfl (by show 2 * 0 + _ ≤ _; exact Nat.le_of_eq rfl) (hb hby d5_46) (fun _ _ => ⟨rfl, e17, (by decide : 3 + 0 ≤ _), (by decide : 8 + 0 ≤ _)⟩)
  dsimp only [Pt.U, Pt.locs, Pt.cells, Pt.slots] at X19 l19 y19 z19 st19 hQ19
  subst l19 y19 z19
  obtain ⟨rfl, N19q, e19⟩ := hQ19
  have N19 := Fr.app N16 N19q
  refine OGot.on st19 ?_
  refine OGot.go (fun t k => XS.icmpYes X19.here hx rfl (pc0 := 49) (pc' := 69) rfl (hb hby d5_49) rfl (tlt hc_1).2.2.1 (by decide) (by decide) k) ?_
  refine OGot.go (fun t k => XS.iinc X19.here hx rfl (hb hby d5_69) rfl (l' := #[.val (.ref a1), .val (.ref b26_7_11_7_9), .val (.int (2 : Int32))]) rfl k) ?_
  show OGot p.tables e below (T19.setTop (mkF m 72 #[.val (.ref a1), .val (.ref b26_7_11_7_9), .val (.int (2 : Int32))] [])) _
  refine OGot.go (fun t k => XS.goto X19.here hx rfl (pc0 := 72) (pc' := 11) rfl (hb hby d5_72) (by decide) (by decide) k) ?_
  refine OGot.go (fun t k => XS.iloadN X19.here hx rfl (hb hby d5_11) rfl k) ?_
  refine OGot.go (fun t k => XS.aloadN X19.here hx rfl (hb hby d5_12) rfl rfl k) ?_
  obtain ⟨cq21, kq21, q21a, q21b, q21c⟩ := isOf hZ e19 Fo9_0
  obtain ⟨_, _, ⟨T21, L21, k21, n21⟩, -, X21, ⟨Lc21, hQ21, l21, y21, z21⟩, st21⟩ := X19.interfaceBack hx (xi := (⟨"java/util/List", "size", "()I"⟩ : MethodName)) (y := (⟨"java/util/ImmutableCollections$ListN", "size", "()I"⟩ : MethodName)) hown (mvT hZ (ow hw 67 rfl)) (mvT hZ (ow hw 68 rfl)) (mvT hZ (ow hw 69 rfl)) (mvT hZ (ow hw 70 rfl)) (mvT hZ (ow hw 71 rfl)) (mvT hZ (ow hw 72 rfl)) (mvT hZ (ow hw 73 rfl)) (mvT hZ (ow hw 74 rfl)) (by decide) (backOf (W := 1) (rm11_1 l Z a0 hw [] G b26_7_11_7_9 b7_7_11_7_9 k7_7_11_7_9 a6 a7 a8 T9.heap n0 O9 Fo9_2 Fo9_4 Fo9_5) hZ (ow hw 76 rfl) (ow hw 75 rfl) (by decide) (by decide)) q21a q21b q21c (g := (mkF m 13 #[.val (.ref a1), .val (.ref b26_7_11_7_9), .val (.int (2 : Int32))] [(.ref b26_7_11_7_9), (.int (2 : Int32))])) rfl (by rw [hml]; rfl) (Steps.refl _) (argsL := []) (rest := [(.int (2 : Int32))]) (lenOf pd_4 rfl) rfl (by show 2 * 0 + _ ≤ _; exact Nat.le_of_eq rfl) (hb hby d5_13) (fun _ _ => ⟨rfl, e19, (by decide : 3 + 0 ≤ _), (by decide : 8 + 0 ≤ _)⟩)
  dsimp only [Pt.U, Pt.locs, Pt.cells, Pt.slots] at X21 l21 y21 z21 st21 hQ21
  subst l21 y21 z21
  obtain ⟨rfl, N21q, e21⟩ := hQ21
  have N21 := Fr.app N19 N21q
  refine OGot.on st21 ?_
  refine OGot.go (fun t k => XS.icmpNo X21.here hx rfl (hb hby d5_18) rfl (by decide) k) ?_
  show OGot p.tables e below (T21.setTop (mkF m 21 #[.val (.ref a1), .val (.ref b26_7_11_7_9), .val (.int (2 : Int32))] [])) _
  refine OGot.go (fun t k => XS.aloadN X21.here hx rfl (hb hby d5_21) rfl rfl k) ?_
  refine OGot.go (fun t k => XS.iloadN X21.here hx rfl (hb hby d5_22) rfl k) ?_
  obtain ⟨cq22, kq22, q22a, q22b, q22c⟩ := isOf hZ e21 Fo9_0
  obtain ⟨_, _, ⟨T22, L22, k22, n22⟩, -, X22, ⟨Lc22, hQ22, l22, y22, z22⟩, st22⟩ := X21.interfaceBack hx (xi := (⟨"java/util/List", "get", "(I)Ljava/lang/Object;"⟩ : MethodName)) (y := (⟨"java/util/ImmutableCollections$ListN", "get", "(I)Ljava/lang/Object;"⟩ : MethodName)) hown (mvT hZ (ow hw 198 rfl)) (mvT hZ (ow hw 199 rfl)) (mvT hZ (ow hw 200 rfl)) (mvT hZ (ow hw 201 rfl)) (mvT hZ (ow hw 202 rfl)) (mvT hZ (ow hw 203 rfl)) (mvT hZ (ow hw 204 rfl)) (mvT hZ (ow hw 74 rfl)) (by decide) (backOf (W := 0) (rm30_2 l Z a0 hw [] G b26_7_11_7_9 b7_7_11_7_9 k7_7_11_7_9 a6 a7 a8 T9.heap n0 O9 Fo9_2 Fo9_4 Fo9_5) hZ (ow hw 205 rfl) (ow hw 75 rfl) (by decide) (by decide)) q22a q22b q22c (g := (mkF m 23 #[.val (.ref a1), .val (.ref b26_7_11_7_9), .val (.int (2 : Int32))] [(.int (2 : Int32)), (.ref b26_7_11_7_9)])) rfl (by rw [hml]; rfl) (Steps.refl _) (argsL := [(.int (2 : Int32))]) (rest := []) (lenOf pd_17 rfl) rfl (by show 2 * 0 + _ ≤ _; exact Nat.le_of_eq rfl) (hb hby d5_23) (fun _ _ => ⟨rfl, e21, (by decide : 3 + 0 ≤ _), (by decide : 8 + 0 ≤ _)⟩)
  dsimp only [Pt.U, Pt.locs, Pt.cells, Pt.slots] at X22 l22 y22 z22 st22 hQ22
  subst l22 y22 z22
  obtain ⟨rfl, N22q, e22⟩ := hQ22
  have N22 := Fr.app N21 N22q
  refine OGot.on st22 ?_
  obtain ⟨T23, X23, e23, st23⟩ := castY X22 hx hZ hown (ow hw 206 rfl) e22 (Ins.self (OKeep.exa E_a8 K9)) (g := (mkF m 28 #[.val (.ref a1), .val (.ref b26_7_11_7_9), .val (.int (2 : Int32))] [(.ref a8)])) rfl rfl (hb hby d5_28)
  refine OGot.go st23 ?_
  have F26 : Fld Z T9.heap a8 "com/example/curtail/curtail/Placement$Cell" "nSlot" "I" (.int p24) := (OKeep.fld F_nSlot_a8 K9 onin0)
  obtain ⟨cq25, kq25, q25a, q25b, q25c⟩ := isOf hZ e23 (OKeep.exa E_a8 K9)
  obtain ⟨_, _, ⟨T25, L25, k25, n25⟩, -, X25, ⟨Lc25, hQ25, l25, y25, z25⟩, st25⟩ := X23.virtualBack hx (y := (⟨"com/example/curtail/curtail/Placement$Cell", "nSlot", "()I"⟩ : MethodName)) (z := (⟨"com/example/curtail/curtail/Placement$Cell", "nSlot", "()I"⟩ : MethodName)) hown (mvT hZ (ow hw 208 rfl)) (mvT hZ (ow hw 209 rfl)) (notFace_of_selects (args := #[]) (mvT hZ (ow hw 211 rfl))) (mvT hZ (ow hw 211 rfl)) (mvT hZ (ow hw 210 rfl)) (by decide) (backOf (W := 0) (rm31 l Z a0 hw [] G a8 p24 T9.heap n0 O9 F26) hZ (ow hw 212 rfl) (ow hw 98 rfl) (by decide) (by decide)) q25a q25c (g := (mkF m 31 #[.val (.ref a1), .val (.ref b26_7_11_7_9), .val (.int (2 : Int32))] [(.ref a8)])) rfl (by rw [hml]; rfl) (Steps.refl _) (argsL := []) (rest := []) (lenOf pd_4 rfl) rfl (by show 2 * 0 + _ ≤ _; exact Nat.le_of_eq rfl) (hb hby d5_31) (fun _ _ => ⟨rfl, e23, (by decide : 3 + 0 ≤ _), (by decide : 8 + 0 ≤ _)⟩)
  dsimp only [Pt.U, Pt.locs, Pt.cells, Pt.slots] at X25 l25 y25 z25 st25 hQ25
  subst l25 y25 z25
  obtain ⟨rfl, N25q, e25⟩ := hQ25
  have N25 := Fr.app N22 N25q
  refine OGot.on st25 ?_
  show OGot p.tables e below (T25.setTop (mkF m 34 #[.val (.ref a1), .val (.ref b26_7_11_7_9), .val (.int (2 : Int32))] [(.int p24)])) _
  refine OGot.go (fun t k => XS.aloadN X25.here hx rfl (hb hby d5_34) rfl rfl k) ?_
  refine OGot.go (fun t k => XS.iloadN X25.here hx rfl (hb hby d5_35) rfl k) ?_
  refine OGot.go (fun t k => XS.iconst X25.here hx rfl (hb hby d5_36) k) ?_
  refine OGot.go (fun t k => XS.isub X25.here hx rfl (hb hby d5_37) rfl k) ?_
  show OGot p.tables e below (T25.setTop (mkF m 38 #[.val (.ref a1), .val (.ref b26_7_11_7_9), .val (.int (2 : Int32))] [(.int ((2 : Int32) - (1 : Int32))), (.ref b26_7_11_7_9), (.int p24)])) _
  rw [show ((2 : Int32) - (1 : Int32)) = (1 : Int32) from by decide]
  obtain ⟨cq27, kq27, q27a, q27b, q27c⟩ := isOf hZ e25 Fo9_0
  obtain ⟨_, _, ⟨T27, L27, k27, n27⟩, -, X27, ⟨Lc27, hQ27, l27, y27, z27⟩, st27⟩ := X25.interfaceBack hx (xi := (⟨"java/util/List", "get", "(I)Ljava/lang/Object;"⟩ : MethodName)) (y := (⟨"java/util/ImmutableCollections$ListN", "get", "(I)Ljava/lang/Object;"⟩ : MethodName)) hown (mvT hZ (ow hw 198 rfl)) (mvT hZ (ow hw 199 rfl)) (mvT hZ (ow hw 200 rfl)) (mvT hZ (ow hw 201 rfl)) (mvT hZ (ow hw 202 rfl)) (mvT hZ (ow hw 203 rfl)) (mvT hZ (ow hw 204 rfl)) (mvT hZ (ow hw 74 rfl)) (by decide) (backOf (W := 1) (rm30 l Z a0 hw [] G b26_7_11_7_9 b7_7_11_7_9 k7_7_11_7_9 a6 a7 a8 T9.heap n0 O9 Fo9_2 Fo9_4 Fo9_5) hZ (ow hw 205 rfl) (ow hw 75 rfl) (by decide) (by decide)) q27a q27b q27c (g := (mkF m 38 #[.val (.ref a1), .val (.ref b26_7_11_7_9), .val (.int (2 : Int32))] [(.int (1 : Int32)), (.ref b26_7_11_7_9), (.int p24)])) rfl (by rw [hml]; rfl) (Steps.refl _) (argsL := [(.int (1 : Int32))]) (rest := [(.int p24)]) (lenOf pd_17 rfl) rfl (by show 2 * 0 + _ ≤ _; exact Nat.le_of_eq rfl) (hb hby d5_38) (fun _ _ => ⟨rfl, e25, (by decide : 3 + 0 ≤ _), (by decide : 8 + 0 ≤ _)⟩)
  dsimp only [Pt.U, Pt.locs, Pt.cells, Pt.slots] at X27 l27 y27 z27 st27 hQ27
  subst l27 y27 z27
  obtain ⟨rfl, N27q, e27⟩ := hQ27
  have N27 := Fr.app N25 N27q
  refine OGot.on st27 ?_
  show OGot p.tables e below (T27.setTop (mkF m 43 #[.val (.ref a1), .val (.ref b26_7_11_7_9), .val (.int (2 : Int32))] [(.ref a7), (.int p24)])) _
  obtain ⟨T28, X28, e28, st28⟩ := castY X27 hx hZ hown (ow hw 206 rfl) e27 (Ins.self (OKeep.exa E_a7 K9)) (g := (mkF m 43 #[.val (.ref a1), .val (.ref b26_7_11_7_9), .val (.int (2 : Int32))] [(.ref a7), (.int p24)])) rfl rfl (hb hby d5_43)
  refine OGot.go st28 ?_
  obtain ⟨cq29, kq29, q29a, q29b, q29c⟩ := isOf hZ e28 (OKeep.exa E_a7 K9)
  obtain ⟨_, _, ⟨T29, L29, k29, n29⟩, -, X29, ⟨Lc29, hQ29, l29, y29, z29⟩, st29⟩ := X28.virtualBack hx (y := (⟨"com/example/curtail/curtail/Placement$Cell", "nSlot", "()I"⟩ : MethodName)) (z := (⟨"com/example/curtail/curtail/Placement$Cell", "nSlot", "()I"⟩ : MethodName)) hown (mvT hZ (ow hw 208 rfl)) (mvT hZ (ow hw 209 rfl)) (notFace_of_selects (args := #[]) (mvT hZ (ow hw 211 rfl))) (mvT hZ (ow hw 211 rfl)) (mvT hZ (ow hw 210 rfl)) (by decide) (backOf (W := 1) (rm31 l Z a0 hw [] G a7 p13 T9.heap n0 O9 F15) hZ (ow hw 212 rfl) (ow hw 98 rfl) (by decide) (by decide)) q29a q29c (g := (mkF m 46 #[.val (.ref a1), .val (.ref b26_7_11_7_9), .val (.int (2 : Int32))] [(.ref a7), (.int p24)])) rfl (by rw [hml]; rfl) (Steps.refl _) (argsL := []) (rest := [(.int p24)]) (lenOf pd_4 rfl) rfl (by show 2 * 0 + _ ≤ _; exact Nat.le_of_eq rfl) (hb hby d5_46) (fun _ _ => ⟨rfl, e28, (by decide : 3 + 0 ≤ _), (by decide : 8 + 0 ≤ _)⟩)
  dsimp only [Pt.U, Pt.locs, Pt.cells, Pt.slots] at X29 l29 y29 z29 st29 hQ29
  subst l29 y29 z29
  obtain ⟨rfl, N29q, e29⟩ := hQ29
  have N29 := Fr.app N27 N29q
  refine OGot.on st29 ?_
  refine OGot.go (fun t k => XS.icmpYes X29.here hx rfl (pc0 := 49) (pc' := 69) rfl (hb hby d5_49) rfl (tlt hc_2).2.2.1 (by decide) (by decide) k) ?_
  refine OGot.go (fun t k => XS.iinc X29.here hx rfl (hb hby d5_69) rfl (l' := #[.val (.ref a1), .val (.ref b26_7_11_7_9), .val (.int (3 : Int32))]) rfl k) ?_
  refine OGot.go (fun t k => XS.goto X29.here hx rfl (pc0 := 72) (pc' := 11) rfl (hb hby d5_72) (by decide) (by decide) k) ?_
  show OGot p.tables e below (T29.setTop (mkF m 11 #[.val (.ref a1), .val (.ref b26_7_11_7_9), .val (.int (3 : Int32))] [])) _
  refine OGot.go (fun t k => XS.iloadN X29.here hx rfl (hb hby d5_11) rfl k) ?_
  refine OGot.go (fun t k => XS.aloadN X29.here hx rfl (hb hby d5_12) rfl rfl k) ?_
  obtain ⟨cq30, kq30, q30a, q30b, q30c⟩ := isOf hZ e29 Fo9_0
  obtain ⟨_, _, ⟨T30, L30, k30, n30⟩, -, X30, ⟨Lc30, hQ30, l30, y30, z30⟩, st30⟩ := X29.interfaceBack hx (xi := (⟨"java/util/List", "size", "()I"⟩ : MethodName)) (y := (⟨"java/util/ImmutableCollections$ListN", "size", "()I"⟩ : MethodName)) hown (mvT hZ (ow hw 67 rfl)) (mvT hZ (ow hw 68 rfl)) (mvT hZ (ow hw 69 rfl)) (mvT hZ (ow hw 70 rfl)) (mvT hZ (ow hw 71 rfl)) (mvT hZ (ow hw 72 rfl)) (mvT hZ (ow hw 73 rfl)) (mvT hZ (ow hw 74 rfl)) (by decide) (backOf (W := 1) (rm11_1 l Z a0 hw [] G b26_7_11_7_9 b7_7_11_7_9 k7_7_11_7_9 a6 a7 a8 T9.heap n0 O9 Fo9_2 Fo9_4 Fo9_5) hZ (ow hw 76 rfl) (ow hw 75 rfl) (by decide) (by decide)) q30a q30b q30c (g := (mkF m 13 #[.val (.ref a1), .val (.ref b26_7_11_7_9), .val (.int (3 : Int32))] [(.ref b26_7_11_7_9), (.int (3 : Int32))])) rfl (by rw [hml]; rfl) (Steps.refl _) (argsL := []) (rest := [(.int (3 : Int32))]) (lenOf pd_4 rfl) rfl (by show 2 * 0 + _ ≤ _; exact Nat.le_of_eq rfl) (hb hby d5_13) (fun _ _ => ⟨rfl, e29, (by decide : 3 + 0 ≤ _), (by decide : 8 + 0 ≤ _)⟩)
  dsimp only [Pt.U, Pt.locs, Pt.cells, Pt.slots] at X30 l30 y30 z30 st30 hQ30
  subst l30 y30 z30
  obtain ⟨rfl, N30q, e30⟩ := hQ30
  have N30 := Fr.app N29 N30q
  refine OGot.on st30 ?_
  refine OGot.go (fun t k => XS.icmpYes X30.here hx rfl (pc0 := 18) (pc' := 75) rfl (hb hby d5_18) rfl (by decide) (by decide) (by decide) k) ?_
  refine OGot.go (fun t k => XS.aloadN X30.here hx rfl (hb hby d5_75) rfl rfl k) ?_
  show OGot p.tables e below (T30.setTop (mkF m 76 #[.val (.ref a1), .val (.ref b26_7_11_7_9), .val (.int (3 : Int32))] [(.ref a1)])) _
  refine OGot.go (fun t k => XS.aloadN X30.here hx rfl (hb hby d5_76) rfl rfl k) ?_
  have F31 : Fld Z T9.heap a1 "com/example/curtail/curtail/Placement" "aCells" "Ljava/util/List;" .null := (OKeep.fld F_aCells_a1 K9 onin0)
  obtain ⟨T32, h32, X32, e32, W32, st32⟩ := putF X30 hx hZ hown (host := "") (Or.inl (ow hw 79 rfl)) Via.refl e30 F31 (OKeep.exa E_a1 K9) (Or.inr ⟨(ow hw 80 rfl), rfl, hnm⟩) (ow hw 1 rfl) (ty := (.object "java/util/List")) (by decide) rfl rfl (g := (mkF m 77 #[.val (.ref a1), .val (.ref b26_7_11_7_9), .val (.int (3 : Int32))] [(.ref b26_7_11_7_9), (.ref a1)])) rfl rfl (hb hby d5_77)
  refine OGot.go st32 ?_
  have N32 := Fr.snoc X32 N30 g_a1
  have O32 := O9.wr W32 g_a1
  have K32 := Kc9.wr W32 (Or.inl (List.mem_of_getElem? (i := 0) rfl))
  have Fw32 : Fld Z h32 a1 "com/example/curtail/curtail/Placement" "aCells" "Ljava/util/List;" (.ref b26_7_11_7_9) := F31.same W32
  show OGot p.tables e below (T32.setTop (mkF m 80 #[.val (.ref a1), .val (.ref b26_7_11_7_9), .val (.int (3 : Int32))] [])) _
  obtain ⟨fs, hr, hrun, hended, hW, hsame⟩ := X32.leave (v := none) (fun _ => rfl)
  refine ⟨_, _, X32.returnOut hx Bd.returns (hb hby d5_80) hr, hrun, hended, _, _, rfl, ?_, ⟨_, rfl⟩, hW, hsame.mono (by decide) (by decide)⟩
  have ne33 : a1 ≠ b26_7_11_7_9 := (Nat.ne_of_lt (Nat.lt_of_lt_of_le E_a1.lt szb26_7_11_7_9_9))
  have F34 : Fld Z h32 b26_7_11_7_9 "java/util/ImmutableCollections$ListN" "allowNulls" "Z" (.int (0 : Int32)) := (Fo9_1.other W32 (Or.inl (Ne.symm ne33)))
  have F35 : Fld Z h32 b26_7_11_7_9 "java/util/ImmutableCollections$ListN" "elements" "[Ljava/lang/Object;" (.ref b7_7_11_7_9) := (Fo9_2.other W32 (Or.inl (Ne.symm ne33)))
  have ne36 : a1 ≠ b7_7_11_7_9 := (Nat.ne_of_lt (Nat.lt_of_lt_of_le E_a1.lt szb7_7_11_7_9_9))
  have F37 : Arv Z h32 b7_7_11_7_9 k7_7_11_7_9 (.object "java/lang/Object") (3 : Int32) [(.ref a6), (.ref a7), (.ref a8)] .null := (Fo9_4.other W32 (Ne.symm ne36))
  show Q5_3 Z m_OA w_EMPTY_ELEMENTDATA w_DEFAULTCAPACITY_EMPTY_ELEMENTDATA w_EMPTY_LIST w_EMPTY_LIST_elements w_EMPTY k_w_EMPTY_ELEMENTDATA k_w_DEFAULTCAPACITY_EMPTY_ELEMENTDATA k_w_EMPTY_LIST_elements a1 a2 a4 k5 a6 a7 a8 p13 p18 p24 h0 n0 _ T32.heap _
  rw [e32]
  exact ⟨N32, b26_7_11_7_9, b7_7_11_7_9, k7_7_11_7_9, rfl, sz_b26_7_11_7_9, sz_b7_7_11_7_9, neb26_7_11_7_9_b7_7_11_7_9_9, K32, Fw32, (Fo9_0.wr W32), F34, F35, (Fo9_3.wr W32), F37, Fo9_5⟩
theorem d13_12 : decode jdk_45_method_2_code 12 = .ok (.iconst 0, 1) := by decide +kernel
def Q13_1 (Z : State) (m_OA : Addr) (w_EMPTY_ELEMENTDATA : Addr) (w_DEFAULTCAPACITY_EMPTY_ELEMENTDATA : Addr) (w_EMPTY_LIST : Addr) (w_EMPTY_LIST_elements : Addr) (w_EMPTY : Addr) (k_w_EMPTY_ELEMENTDATA : ClassId) (k_w_DEFAULTCAPACITY_EMPTY_ELEMENTDATA : ClassId) (k_w_EMPTY_LIST_elements : ClassId) (a1 : Addr) (a2 : Addr) (k4 : ClassId) (a5 : Addr) (a6 : Addr) (a7 : Addr) (h0 : Heap) (n0 : Nat) (v : Option Value) (h : Heap) (L : List Loc) : Prop := v = some (.int (0 : Int32)) ∧ Fr n0 L ∧ h = h0
theorem ef13_1 (m : MethodId) (x0 : Addr) : entryFrame m #[(.ref x0)] 1 = mkF m 0 #[.val (.ref x0)] [] := by first | (simp [entryFrame, mkF, argsToLocals, Value.category]; done) | rfl
set_option maxRecDepth 65536 in
set_option maxHeartbeats 40000000 in
theorem rm13_1 (l : Launch) (Z : State) (a0 : Array Value) (hw : ∀ d ∈ tables_1, d.before a0 Z = true) (ws : List Jvm.Cond) {m_OA : Addr} {w_EMPTY_ELEMENTDATA : Addr} {w_DEFAULTCAPACITY_EMPTY_ELEMENTDATA : Addr} {w_EMPTY_LIST : Addr} {w_EMPTY_LIST_elements : Addr} {w_EMPTY : Addr} {k_w_EMPTY_ELEMENTDATA : ClassId} {k_w_DEFAULTCAPACITY_EMPTY_ELEMENTDATA : ClassId} {k_w_EMPTY_LIST_elements : ClassId} (G : Glob Z m_OA w_EMPTY_ELEMENTDATA w_DEFAULTCAPACITY_EMPTY_ELEMENTDATA w_EMPTY_LIST w_EMPTY_LIST_elements w_EMPTY k_w_EMPTY_ELEMENTDATA k_w_DEFAULTCAPACITY_EMPTY_ELEMENTDATA k_w_EMPTY_LIST_elements) (a1 : Addr) (a2 : Addr) (k4 : ClassId) (a5 : Addr) (a6 : Addr) (a7 : Addr) (h0 : Heap) (n0 : Nat) (O0 : Old Z n0 h0) (F_elements_a1 : Fld Z h0 a1 "java/util/ImmutableCollections$ListN" "elements" "[Ljava/lang/Object;" (.ref a2)) (V_a2 : Arv Z h0 a2 k4 (.object "java/lang/Object") (3 : Int32) [(.ref a5), (.ref a6), (.ref a7)] .null) (O_k4 : Ovr Z k4 "java/lang/Object") :
    MetFree l (⟨"java/util/ImmutableCollections$ListN", "isEmpty", "()Z"⟩ : MethodName) (head1 (Jvm.Cond.code (⟨"java/util/ImmutableCollections$ListN", "isEmpty", "()Z"⟩ : MethodName) jdk_45_method_2_code 1 (some .boolean) :: ws) ({ frames := 0, cells := 0, slots := 0, locals := 0 } : Room)) (fun a U => a = #[(.ref a1)] ∧ Z.Warmed39 U.vm ∧ U.heap = h0) (fun _ _ _ _ _ => True) (fun _ U o U' => ∃ v L, o = .returned v ∧ Q13_1 Z m_OA w_EMPTY_ELEMENTDATA w_DEFAULTCAPACITY_EMPTY_ELEMENTDATA w_EMPTY_LIST w_EMPTY_LIST_elements w_EMPTY k_w_EMPTY_ELEMENTDATA k_w_DEFAULTCAPACITY_EMPTY_ELEMENTDATA k_w_EMPTY_LIST_elements a1 a2 k4 a5 a6 a7 h0 n0 v U'.heap L ∧ FrameEnd U o U' L ({ frames := 0, cells := 0, slots := 0, locals := 0 } : Room).cells ({ frames := 0, cells := 0, slots := 0, locals := 0 } : Room).slots) := by
  refine MetFree.of_bodySF (plainFor_of_name pn_java_util_ImmutableCollections_ListN) hisR ?_
  intro p e s m args below meth c s₁ Bd hml0 hP hK
  obtain ⟨rfl, hZ, hh⟩ := hP
  have hx := Bd.exec
  have hby := Bd.bytes
  have hml : c.maxLocals = 1 := hml0
  have hown : s.vm.findClass "java/util/ImmutableCollections$ListN" = some m.cls := findClass_of_methodNamed Bd.named
  have hnm := (name_of_methodNamed Bd.named Bd.method).1
  have X0 : Stand p l e ({ frames := 0, cells := 0, slots := 0, locals := 0 } : Room) s m #[(.ref a1)] below meth c s₁ [] 0 0 := Stand.of_body Bd
  have e0 : s₁.heap = h0 := by rw [← hh, Bd.state]; rfl
  have N0 := Fr.nil n0
  show OGot p.tables e below (s₁.setTop (entryFrame m #[(.ref a1)] 1)) _
  refine OGot.go (fun t k => castTop (ef13_1 m a1) k) ?_
  show OGot p.tables e below (s₁.setTop (mkF m 0 #[.val (.ref a1)] [])) _
  refine OGot.go (fun t k => XS.aloadN X0.here hx rfl (hb hby d13_0) rfl rfl k) ?_
  obtain ⟨T3, X3, e3, st3⟩ := getF X0 hx hZ hown (host := "") (Or.inl (ow hw 77 rfl)) Via.refl e0 F_elements_a1 (g := (mkF m 1 #[.val (.ref a1)] [(.ref a1)])) rfl rfl (hb hby d13_1)
  refine OGot.go st3 ?_
  obtain ⟨cl8, Ar8, -, Sz8, Ng8, -, -⟩ := id (V_a2)
  refine OGot.go (fun t k => X3.arraylength hx (by rw [e3]; exact Ar8.1) (State.isArrayOf_alike hZ.alike Ar8.2.1) (g := (mkF m 4 #[.val (.ref a1)] [(.ref a2)])) rfl rfl (hb hby d13_4) _ k) ?_
  rw [len_of Sz8 Ng8]
  refine OGot.go (fun t k => XS.ifYes X3.here hx rfl (pc0 := 5) (pc' := 12) rfl (hb hby d13_5) rfl (by decide) (by decide) (by decide) k) ?_
  refine OGot.go (fun t k => XS.iconst X3.here hx rfl (hb hby d13_12) k) ?_
  show OGot p.tables e below (T3.setTop (mkF m 13 #[.val (.ref a1)] [(.int (0 : Int32))])) _
  obtain ⟨fs, hr, hrun, hended, hW, hsame⟩ := X3.leave (v := some (.int (0 : Int32))) (fun h => by rw [Bd.returns] at h; cases h)
  refine ⟨_, _, retN X3 hx (t := .boolean) Bd.returns (by simp) (hb hby d13_13) hr, hrun, hended, _, _, rfl, ?_, ⟨_, rfl⟩, hW, hsame.mono (by decide) (by decide)⟩
  exact (⟨rfl, N0, e3⟩ : Q13_1 Z m_OA w_EMPTY_ELEMENTDATA w_DEFAULTCAPACITY_EMPTY_ELEMENTDATA w_EMPTY_LIST w_EMPTY_LIST_elements w_EMPTY k_w_EMPTY_ELEMENTDATA k_w_DEFAULTCAPACITY_EMPTY_ELEMENTDATA k_w_EMPTY_LIST_elements a1 a2 k4 a5 a6 a7 h0 n0 _ T3.heap _)
def Q32_2 (Z : State) (m_OA : Addr) (w_EMPTY_ELEMENTDATA : Addr) (w_DEFAULTCAPACITY_EMPTY_ELEMENTDATA : Addr) (w_EMPTY_LIST : Addr) (w_EMPTY_LIST_elements : Addr) (w_EMPTY : Addr) (k_w_EMPTY_ELEMENTDATA : ClassId) (k_w_DEFAULTCAPACITY_EMPTY_ELEMENTDATA : ClassId) (k_w_EMPTY_LIST_elements : ClassId) (a1 : Addr) (a2 : Addr) (a4 : Addr) (k5 : ClassId) (a6 : Addr) (a7 : Addr) (a8 : Addr) (p15 : Int32) (h0 : Heap) (n0 : Nat) (v : Option Value) (h : Heap) (L : List Loc) : Prop := v = some (.int p15) ∧ Fr n0 L ∧ h = h0
theorem ef32_2 (m : MethodId) (x0 : Addr) : entryFrame m #[(.ref x0)] 1 = mkF m 0 #[.val (.ref x0)] [] := by first | (simp [entryFrame, mkF, argsToLocals, Value.category]; done) | rfl
set_option maxRecDepth 65536 in
set_option maxHeartbeats 40000000 in
theorem rm32_2 (l : Launch) (Z : State) (a0 : Array Value) (hw : ∀ d ∈ tables_1, d.before a0 Z = true) (ws : List Jvm.Cond) {m_OA : Addr} {w_EMPTY_ELEMENTDATA : Addr} {w_DEFAULTCAPACITY_EMPTY_ELEMENTDATA : Addr} {w_EMPTY_LIST : Addr} {w_EMPTY_LIST_elements : Addr} {w_EMPTY : Addr} {k_w_EMPTY_ELEMENTDATA : ClassId} {k_w_DEFAULTCAPACITY_EMPTY_ELEMENTDATA : ClassId} {k_w_EMPTY_LIST_elements : ClassId} (G : Glob Z m_OA w_EMPTY_ELEMENTDATA w_DEFAULTCAPACITY_EMPTY_ELEMENTDATA w_EMPTY_LIST w_EMPTY_LIST_elements w_EMPTY k_w_EMPTY_ELEMENTDATA k_w_DEFAULTCAPACITY_EMPTY_ELEMENTDATA k_w_EMPTY_LIST_elements) (a1 : Addr) (a2 : Addr) (a4 : Addr) (k5 : ClassId) (a6 : Addr) (a7 : Addr) (a8 : Addr) (p15 : Int32) (h0 : Heap) (n0 : Nat) (O0 : Old Z n0 h0) (F_aCells_a1 : Fld Z h0 a1 "com/example/curtail/curtail/Placement" "aCells" "Ljava/util/List;" (.ref a2)) (E_a2 : Exa Z h0 a2 "java/util/ImmutableCollections$ListN") (F_elements_a2 : Fld Z h0 a2 "java/util/ImmutableCollections$ListN" "elements" "[Ljava/lang/Object;" (.ref a4)) (V_a4 : Arv Z h0 a4 k5 (.object "java/lang/Object") (3 : Int32) [(.ref a6), (.ref a7), (.ref a8)] .null) (O_k5 : Ovr Z k5 "java/lang/Object") (E_a8 : Exa Z h0 a8 "com/example/curtail/curtail/Placement$Cell") (F_nSlot_a8 : Fld Z h0 a8 "com/example/curtail/curtail/Placement$Cell" "nSlot" "I" (.int p15)) :
    MetFree l (⟨"com/example/curtail/curtail/Placement", "completionSlot", "()I"⟩ : MethodName) (head1 (Jvm.Cond.code (⟨"com/example/curtail/curtail/Placement", "completionSlot", "()I"⟩ : MethodName) prog_14_method_3_code 1 (some .int) :: ws) ({ frames := 1, cells := 0, slots := 0, locals := 13 } : Room)) (fun a U => a = #[(.ref a1)] ∧ Z.Warmed39 U.vm ∧ U.heap = h0) (fun _ _ _ _ _ => True) (fun _ U o U' => ∃ v L, o = .returned v ∧ Q32_2 Z m_OA w_EMPTY_ELEMENTDATA w_DEFAULTCAPACITY_EMPTY_ELEMENTDATA w_EMPTY_LIST w_EMPTY_LIST_elements w_EMPTY k_w_EMPTY_ELEMENTDATA k_w_DEFAULTCAPACITY_EMPTY_ELEMENTDATA k_w_EMPTY_LIST_elements a1 a2 a4 k5 a6 a7 a8 p15 h0 n0 v U'.heap L ∧ FrameEnd U o U' L ({ frames := 1, cells := 0, slots := 0, locals := 13 } : Room).cells ({ frames := 1, cells := 0, slots := 0, locals := 13 } : Room).slots) := by
  refine MetFree.of_bodySF (plainFor_of_name pn_com_example_curtail_curtail_Placement) hisR ?_
  intro p e s m args below meth c s₁ Bd hml0 hP hK
  obtain ⟨rfl, hZ, hh⟩ := hP
  have hx := Bd.exec
  have hby := Bd.bytes
  have hml : c.maxLocals = 1 := hml0
  have hown : s.vm.findClass "com/example/curtail/curtail/Placement" = some m.cls := findClass_of_methodNamed Bd.named
  have hnm := (name_of_methodNamed Bd.named Bd.method).1
  have X0 : Stand p l e ({ frames := 1, cells := 0, slots := 0, locals := 13 } : Room) s m #[(.ref a1)] below meth c s₁ [] 0 0 := Stand.of_body Bd
  have e0 : s₁.heap = h0 := by rw [← hh, Bd.state]; rfl
  have N0 := Fr.nil n0
  show OGot p.tables e below (s₁.setTop (entryFrame m #[(.ref a1)] 1)) _
  refine OGot.go (fun t k => castTop (ef32_2 m a1) k) ?_
  show OGot p.tables e below (s₁.setTop (mkF m 0 #[.val (.ref a1)] [])) _
  refine OGot.go (fun t k => XS.aloadN X0.here hx rfl (hb hby d32_0) rfl rfl k) ?_
  obtain ⟨T3, X3, e3, st3⟩ := getF X0 hx hZ hown (host := "") (Or.inl (ow hw 79 rfl)) Via.refl e0 F_aCells_a1 (g := (mkF m 1 #[.val (.ref a1)] [(.ref a1)])) rfl rfl (hb hby d32_1)
  refine OGot.go st3 ?_
  obtain ⟨cq9, kq9, q9a, q9b, q9c⟩ := isOf hZ e3 E_a2
  obtain ⟨_, _, ⟨T9, L9, k9, n9⟩, -, X9, ⟨Lc9, hQ9, l9, y9, z9⟩, st9⟩ := X3.interfaceBack hx (xi := (⟨"java/util/List", "isEmpty", "()Z"⟩ : MethodName)) (y := (⟨"java/util/ImmutableCollections$ListN", "isEmpty", "()Z"⟩ : MethodName)) hown (mvT hZ (ow hw 86 rfl)) (mvT hZ (ow hw 87 rfl)) (mvT hZ (ow hw 88 rfl)) (mvT hZ (ow hw 89 rfl)) (mvT hZ (ow hw 90 rfl)) (mvT hZ (ow hw 91 rfl)) (mvT hZ (ow hw 92 rfl)) (mvT hZ (ow hw 74 rfl)) (by decide) (backOf (W := 0) (rm13_1 l Z a0 hw [] G a2 a4 k5 a6 a7 a8 h0 n0 O0 F_elements_a2 V_a4 O_k5) hZ (ow hw 93 rfl) (ow hw 75 rfl) (by decide) (by decide)) q9a q9b q9c (g := (mkF m 4 #[.val (.ref a1)] [(.ref a2)])) rfl (by rw [hml]; rfl) (Steps.refl _) (argsL := []) (rest := []) (lenOf pd_1 rfl) rfl (by show 2 * 0 + _ ≤ _; exact Nat.le_of_eq rfl) (hb hby d32_4) (fun _ _ => ⟨rfl, e3, (by decide : 0 + 0 ≤ _), (by decide : 0 + 0 ≤ _)⟩)
  dsimp only [Pt.U, Pt.locs, Pt.cells, Pt.slots] at X9 l9 y9 z9 st9 hQ9
  subst l9 y9 z9
  obtain ⟨rfl, N9q, e9⟩ := hQ9
  have N9 := Fr.app N0 N9q
  refine OGot.on st9 ?_
  refine OGot.go (fun t k => XS.ifYes X9.here hx rfl (pc0 := 9) (pc' := 22) rfl (hb hby d32_9) rfl (by decide) (by decide) (by decide) k) ?_
  refine OGot.go (fun t k => XS.aloadN X9.here hx rfl (hb hby d32_22) rfl rfl k) ?_
  show OGot p.tables e below (T9.setTop (mkF m 23 #[.val (.ref a1)] [(.ref a1)])) _
  obtain ⟨T10, X10, e10, st10⟩ := getF X9 hx hZ hown (host := "") (Or.inl (ow hw 79 rfl)) Via.refl e9 F_aCells_a1 (g := (mkF m 23 #[.val (.ref a1)] [(.ref a1)])) rfl rfl (hb hby d32_23)
  refine OGot.go st10 ?_
  refine OGot.go (fun t k => XS.aloadN X10.here hx rfl (hb hby d32_26) rfl rfl k) ?_
  obtain ⟨T11, X11, e11, st11⟩ := getF X10 hx hZ hown (host := "") (Or.inl (ow hw 79 rfl)) Via.refl e10 F_aCells_a1 (g := (mkF m 27 #[.val (.ref a1)] [(.ref a1), (.ref a2)])) rfl rfl (hb hby d32_27)
  refine OGot.go st11 ?_
  obtain ⟨cq12, kq12, q12a, q12b, q12c⟩ := isOf hZ e11 E_a2
  obtain ⟨_, _, ⟨T12, L12, k12, n12⟩, -, X12, ⟨Lc12, hQ12, l12, y12, z12⟩, st12⟩ := X11.interfaceBack hx (xi := (⟨"java/util/List", "size", "()I"⟩ : MethodName)) (y := (⟨"java/util/ImmutableCollections$ListN", "size", "()I"⟩ : MethodName)) hown (mvT hZ (ow hw 67 rfl)) (mvT hZ (ow hw 68 rfl)) (mvT hZ (ow hw 69 rfl)) (mvT hZ (ow hw 70 rfl)) (mvT hZ (ow hw 71 rfl)) (mvT hZ (ow hw 72 rfl)) (mvT hZ (ow hw 73 rfl)) (mvT hZ (ow hw 74 rfl)) (by decide) (backOf (W := 1) (rm11_1 l Z a0 hw [] G a2 a4 k5 a6 a7 a8 h0 n0 O0 F_elements_a2 V_a4 O_k5) hZ (ow hw 76 rfl) (ow hw 75 rfl) (by decide) (by decide)) q12a q12b q12c (g := (mkF m 30 #[.val (.ref a1)] [(.ref a2), (.ref a2)])) rfl (by rw [hml]; rfl) (Steps.refl _) (argsL := []) (rest := [(.ref a2)]) (lenOf pd_4 rfl) rfl (by show 2 * 0 + _ ≤ _; exact Nat.le_of_eq rfl) (hb hby d32_30) (fun _ _ => ⟨rfl, e11, (by decide : 0 + 0 ≤ _), (by decide : 0 + 0 ≤ _)⟩)
  dsimp only [Pt.U, Pt.locs, Pt.cells, Pt.slots] at X12 l12 y12 z12 st12 hQ12
  subst l12 y12 z12
  obtain ⟨rfl, N12q, e12⟩ := hQ12
  have N12 := Fr.app N9 N12q
  refine OGot.on st12 ?_
  refine OGot.go (fun t k => XS.iconst X12.here hx rfl (hb hby d32_35) k) ?_
  show OGot p.tables e below (T12.setTop (mkF m 36 #[.val (.ref a1)] [(.int (1 : Int32)), (.int (3 : Int32)), (.ref a2)])) _
  refine OGot.go (fun t k => XS.isub X12.here hx rfl (hb hby d32_36) rfl k) ?_
  show OGot p.tables e below (T12.setTop (mkF m 37 #[.val (.ref a1)] [(.int ((3 : Int32) - (1 : Int32))), (.ref a2)])) _
  rw [show ((3 : Int32) - (1 : Int32)) = (2 : Int32) from by decide]
  obtain ⟨cq13, kq13, q13a, q13b, q13c⟩ := isOf hZ e12 E_a2
  obtain ⟨_, _, ⟨T13, L13, k13, n13⟩, -, X13, ⟨Lc13, hQ13, l13, y13, z13⟩, st13⟩ := X12.interfaceBack hx (xi := (⟨"java/util/List", "get", "(I)Ljava/lang/Object;"⟩ : MethodName)) (y := (⟨"java/util/ImmutableCollections$ListN", "get", "(I)Ljava/lang/Object;"⟩ : MethodName)) hown (mvT hZ (ow hw 198 rfl)) (mvT hZ (ow hw 199 rfl)) (mvT hZ (ow hw 200 rfl)) (mvT hZ (ow hw 201 rfl)) (mvT hZ (ow hw 202 rfl)) (mvT hZ (ow hw 203 rfl)) (mvT hZ (ow hw 204 rfl)) (mvT hZ (ow hw 74 rfl)) (by decide) (backOf (W := 0) (rm30_2 l Z a0 hw [] G a2 a4 k5 a6 a7 a8 h0 n0 O0 F_elements_a2 V_a4 O_k5) hZ (ow hw 205 rfl) (ow hw 75 rfl) (by decide) (by decide)) q13a q13b q13c (g := (mkF m 37 #[.val (.ref a1)] [(.int (2 : Int32)), (.ref a2)])) rfl (by rw [hml]; rfl) (Steps.refl _) (argsL := [(.int (2 : Int32))]) (rest := []) (lenOf pd_17 rfl) rfl (by show 2 * 0 + _ ≤ _; exact Nat.le_of_eq rfl) (hb hby d32_37) (fun _ _ => ⟨rfl, e12, (by decide : 0 + 0 ≤ _), (by decide : 0 + 0 ≤ _)⟩)
  dsimp only [Pt.U, Pt.locs, Pt.cells, Pt.slots] at X13 l13 y13 z13 st13 hQ13
  subst l13 y13 z13
  obtain ⟨rfl, N13q, e13⟩ := hQ13
  have N13 := Fr.app N12 N13q
  refine OGot.on st13 ?_
  obtain ⟨T14, X14, e14, st14⟩ := castY X13 hx hZ hown (ow hw 206 rfl) e13 (Ins.self E_a8) (g := (mkF m 42 #[.val (.ref a1)] [(.ref a8)])) rfl rfl (hb hby d32_42)
  refine OGot.go st14 ?_
  obtain ⟨cq16, kq16, q16a, q16b, q16c⟩ := isOf hZ e14 E_a8
  obtain ⟨_, _, ⟨T16, L16, k16, n16⟩, -, X16, ⟨Lc16, hQ16, l16, y16, z16⟩, st16⟩ := X14.virtualBack hx (y := (⟨"com/example/curtail/curtail/Placement$Cell", "nSlot", "()I"⟩ : MethodName)) (z := (⟨"com/example/curtail/curtail/Placement$Cell", "nSlot", "()I"⟩ : MethodName)) hown (mvT hZ (ow hw 208 rfl)) (mvT hZ (ow hw 209 rfl)) (notFace_of_selects (args := #[]) (mvT hZ (ow hw 211 rfl))) (mvT hZ (ow hw 211 rfl)) (mvT hZ (ow hw 210 rfl)) (by decide) (backOf (W := 0) (rm31 l Z a0 hw [] G a8 p15 h0 n0 O0 F_nSlot_a8) hZ (ow hw 212 rfl) (ow hw 98 rfl) (by decide) (by decide)) q16a q16c (g := (mkF m 45 #[.val (.ref a1)] [(.ref a8)])) rfl (by rw [hml]; rfl) (Steps.refl _) (argsL := []) (rest := []) (lenOf pd_4 rfl) rfl (by show 2 * 0 + _ ≤ _; exact Nat.le_of_eq rfl) (hb hby d32_45) (fun _ _ => ⟨rfl, e14, (by decide : 0 + 0 ≤ _), (by decide : 0 + 0 ≤ _)⟩)
  dsimp only [Pt.U, Pt.locs, Pt.cells, Pt.slots] at X16 l16 y16 z16 st16 hQ16
  subst l16 y16 z16
  obtain ⟨rfl, N16q, e16⟩ := hQ16
  have N16 := Fr.app N13 N16q
  refine OGot.on st16 ?_
  show OGot p.tables e below (T16.setTop (mkF m 48 #[.val (.ref a1)] [(.int p15)])) _
  obtain ⟨fs, hr, hrun, hended, hW, hsame⟩ := X16.leave (v := some (.int p15)) (fun h => by rw [Bd.returns] at h; cases h)
  refine ⟨_, _, retI X16 hx Bd.returns (hb hby d32_48) hr, hrun, hended, _, _, rfl, ?_, ⟨_, rfl⟩, hW, hsame.mono (by decide) (by decide)⟩
  exact (⟨rfl, N16, e16⟩ : Q32_2 Z m_OA w_EMPTY_ELEMENTDATA w_DEFAULTCAPACITY_EMPTY_ELEMENTDATA w_EMPTY_LIST w_EMPTY_LIST_elements w_EMPTY k_w_EMPTY_ELEMENTDATA k_w_DEFAULTCAPACITY_EMPTY_ELEMENTDATA k_w_EMPTY_LIST_elements a1 a2 a4 k5 a6 a7 a8 p15 h0 n0 _ T16.heap _)
theorem pn_com_example_curtail_curtail_PlacementCompletionSlotPinLaw : plainName "com/example/curtail/curtail/PlacementCompletionSlotPinLaw" = true := by first | (simp [plainName, overriddenIn]; done) | decide +kernel
def Q0 (Z : State) (m_OA : Addr) (w_EMPTY_ELEMENTDATA : Addr) (w_DEFAULTCAPACITY_EMPTY_ELEMENTDATA : Addr) (w_EMPTY_LIST : Addr) (w_EMPTY_LIST_elements : Addr) (w_EMPTY : Addr) (k_w_EMPTY_ELEMENTDATA : ClassId) (k_w_DEFAULTCAPACITY_EMPTY_ELEMENTDATA : ClassId) (k_w_EMPTY_LIST_elements : ClassId) (p1 : Int32) (p2 : Int32) (p3 : Int32) (p4 : Int32) (p5 : Int32) (h0 : Heap) (n0 : Nat) (v : Option Value) (h : Heap) (L : List Loc) : Prop := v = some (.int (1 : Int32)) ∧ Fr n0 L
theorem ef0 (m : MethodId) (x0 : Int32) (x1 : Int32) (x2 : Int32) (x3 : Int32) (x4 : Int32) : entryFrame m #[(.int x0), (.int x1), (.int x2), (.int x3), (.int x4)] maxLocals = mkF m 0 #[.val (.int x0), .val (.int x1), .val (.int x2), .val (.int x3), .val (.int x4), .unset, .unset, .unset, .unset, .unset, .unset, .unset, .unset, .unset, .unset, .unset] [] := by first | (simp [entryFrame, mkF, argsToLocals, Value.category, maxLocals]; done) | rfl
set_option maxRecDepth 65536 in
set_option maxHeartbeats 40000000 in
theorem rm0 (l : Launch) (Z : State) (a0 : Array Value) (hw : ∀ d ∈ tables_1, d.before a0 Z = true) (ws : List Jvm.Cond) {m_OA : Addr} {w_EMPTY_ELEMENTDATA : Addr} {w_DEFAULTCAPACITY_EMPTY_ELEMENTDATA : Addr} {w_EMPTY_LIST : Addr} {w_EMPTY_LIST_elements : Addr} {w_EMPTY : Addr} {k_w_EMPTY_ELEMENTDATA : ClassId} {k_w_DEFAULTCAPACITY_EMPTY_ELEMENTDATA : ClassId} {k_w_EMPTY_LIST_elements : ClassId} (G : Glob Z m_OA w_EMPTY_ELEMENTDATA w_DEFAULTCAPACITY_EMPTY_ELEMENTDATA w_EMPTY_LIST w_EMPTY_LIST_elements w_EMPTY k_w_EMPTY_ELEMENTDATA k_w_DEFAULTCAPACITY_EMPTY_ELEMENTDATA k_w_EMPTY_LIST_elements) (p1 : Int32) (p2 : Int32) (p3 : Int32) (p4 : Int32) (p5 : Int32) (h0 : Heap) (n0 : Nat) (O0 : Old Z n0 h0) :
    MetFree l x (head1 (Jvm.Cond.code x code maxLocals ret :: ws) room_1) (fun a U => a = #[(.int p1), (.int p2), (.int p3), (.int p4), (.int p5)] ∧ Z.Warmed39 U.vm ∧ U.heap = h0) (fun _ _ _ _ _ => True) (fun _ U o U' => ∃ v L, o = .returned v ∧ Q0 Z m_OA w_EMPTY_ELEMENTDATA w_DEFAULTCAPACITY_EMPTY_ELEMENTDATA w_EMPTY_LIST w_EMPTY_LIST_elements w_EMPTY k_w_EMPTY_ELEMENTDATA k_w_DEFAULTCAPACITY_EMPTY_ELEMENTDATA k_w_EMPTY_LIST_elements p1 p2 p3 p4 p5 h0 n0 v U'.heap L ∧ FrameEnd U o U' L room_1.cells room_1.slots) := by
  refine MetFree.of_bodySF (plainFor_of_name pn_com_example_curtail_curtail_PlacementCompletionSlotPinLaw) hisR ?_
  intro p e s m args below meth c s₁ Bd hml0 hP hK
  obtain ⟨rfl, hZ, hh⟩ := hP
  have hx := Bd.exec
  have hby := Bd.bytes
  have hml : c.maxLocals = 16 := hml0
  have hown : s.vm.findClass "com/example/curtail/curtail/PlacementCompletionSlotPinLaw" = some m.cls := findClass_of_methodNamed Bd.named
  have hnm := (name_of_methodNamed Bd.named Bd.method).1
  have X0 : Stand p l e room_1 s m #[(.int p1), (.int p2), (.int p3), (.int p4), (.int p5)] below meth c s₁ [] 0 0 := Stand.of_body Bd
  have e0 : s₁.heap = h0 := by rw [← hh, Bd.state]; rfl
  have N0 := Fr.nil n0
  show OGot p.tables e below (s₁.setTop (entryFrame m #[(.int p1), (.int p2), (.int p3), (.int p4), (.int p5)] maxLocals)) _
  refine OGot.go (fun t k => castTop (ef0 m p1 p2 p3 p4 p5) k) ?_
  show OGot p.tables e below (s₁.setTop (mkF m 0 #[.val (.int p1), .val (.int p2), .val (.int p3), .val (.int p4), .val (.int p5), .unset, .unset, .unset, .unset, .unset, .unset, .unset, .unset, .unset, .unset, .unset] [])) _
  refine OGot.go (fun t k => XS.iloadN X0.here hx rfl (hb hby at_0) rfl k) ?_
  refine OGot.go (fun t k => XS.iconst X0.here hx rfl (hb hby at_1) k) ?_
  refine OGot.go (fun t k => XS.iand X0.here hx rfl (hb hby at_2) rfl k) ?_
  show OGot p.tables e below (s₁.setTop (mkF m 3 #[.val (.int p1), .val (.int p2), .val (.int p3), .val (.int p4), .val (.int p5), .unset, .unset, .unset, .unset, .unset, .unset, .unset, .unset, .unset, .unset, .unset] [(.int (p1 &&& (3 : Int32)))])) _
  rcases own_and3 p1 with hk6 | hk7 | hk8 | hk9
  · rw [hk6]
    show OGot p.tables e below (s₁.setTop (mkF m 3 #[.val (.int p1), .val (.int p2), .val (.int p3), .val (.int p4), .val (.int p5), .unset, .unset, .unset, .unset, .unset, .unset, .unset, .unset, .unset, .unset, .unset] [(.int (0 : Int32))])) _
    refine OGot.go (fun t k => XS.istore X0.here hx rfl (hb hby at_3) rfl (l' := #[.val (.int p1), .val (.int p2), .val (.int p3), .val (.int p4), .val (.int p5), .val (.int (0 : Int32)), .unset, .unset, .unset, .unset, .unset, .unset, .unset, .unset, .unset, .unset]) rfl k) ?_
    refine OGot.go (fun t k => XS.iload X0.here hx rfl (hb hby at_5) rfl k) ?_
    refine OGot.go (fun t k => XS.ifNo X0.here hx rfl (hb hby at_7) rfl (by decide) k) ?_
    obtain ⟨T10, h10, X10, e10, E10, A10, D10, -, st10⟩ := newO X0 hx hZ hown (ow hw 0 rfl) (ow hw 1 rfl) (ow hw 2 rfl) e0 (g := (mkF m 10 #[.val (.int p1), .val (.int p2), .val (.int p3), .val (.int p4), .val (.int p5), .val (.int (0 : Int32)), .unset, .unset, .unset, .unset, .unset, .unset, .unset, .unset, .unset, .unset] [])) rfl (hb hby at_10) (by decide) (by decide)
    obtain ⟨b10, g10⟩ : ∃ z, z = h0.size := ⟨_, rfl⟩
    rw [← g10] at A10 D10 st10
    refine OGot.go st10 ?_
    have g_b10 : n0 ≤ b10 := Nat.le_trans (osz O0) (Nat.le_of_eq g10.symm)
    have sy_b10 : h0.size ≤ b10 := Nat.le_of_eq g10.symm
    have O10 := O0.ext E10
    have F10_aCells : Fld Z h10 b10 "com/example/curtail/curtail/Placement" "aCells" "Ljava/util/List;" .null := D10 (Or.inr (ow hw 80 rfl)) (ty := (.object "java/util/List")) (by decide)
    refine OGot.go (fun t k => XS.dup X10.here hx rfl (hb hby at_13) rfl rfl k) ?_
    show OGot p.tables e below (T10.setTop (mkF m 14 #[.val (.int p1), .val (.int p2), .val (.int p3), .val (.int p4), .val (.int p5), .val (.int (0 : Int32)), .unset, .unset, .unset, .unset, .unset, .unset, .unset, .unset, .unset, .unset] [(.ref b10), (.ref b10)])) _
    obtain ⟨T11, h11, X11, e11, E11, A11, D11, -, st11⟩ := newO X10 hx hZ hown (ow hw 3 rfl) (ow hw 4 rfl) (ow hw 5 rfl) e10 (g := (mkF m 14 #[.val (.int p1), .val (.int p2), .val (.int p3), .val (.int p4), .val (.int p5), .val (.int (0 : Int32)), .unset, .unset, .unset, .unset, .unset, .unset, .unset, .unset, .unset, .unset] [(.ref b10), (.ref b10)])) rfl (hb hby at_14) (by decide) (by decide)
    obtain ⟨b11, g11⟩ : ∃ z, z = h10.size := ⟨_, rfl⟩
    rw [← g11] at A11 D11 st11
    refine OGot.go st11 ?_
    have g_b11 : n0 ≤ b11 := Nat.le_trans (osz O10) (Nat.le_of_eq g11.symm)
    have sy_b11 : h10.size ≤ b11 := Nat.le_of_eq g11.symm
    have O11 := O10.ext E11
    have F11_modCount : Fld Z h11 b11 "java/util/AbstractList" "modCount" "I" (.int (0 : Int32)) := D11 (Or.inl (ow hw 25 rfl)) (ty := .int) (by decide)
    have F11_elementData : Fld Z h11 b11 "java/util/ArrayList" "elementData" "[Ljava/lang/Object;" .null := D11 (Or.inl (ow hw 28 rfl)) (ty := (.array (.object "java/lang/Object"))) (by decide)
    have F11_size : Fld Z h11 b11 "java/util/ArrayList" "size" "I" (.int (0 : Int32)) := D11 (Or.inl (ow hw 62 rfl)) (ty := .int) (by decide)
    refine OGot.go (fun t k => XS.dup X11.here hx rfl (hb hby at_17) rfl rfl k) ?_
    obtain ⟨_, _, ⟨T12, L12, k12, n12⟩, -, X12, ⟨Lc12, hQ12, l12, y12, z12⟩, st12⟩ := X11.specialBack hx (y := (⟨"java/util/ArrayList", "<init>", "()V"⟩ : MethodName)) rfl hown (mvT hZ (ow hw 6 rfl)) (mvT hZ (ow hw 7 rfl)) (mvT hZ (ow hw 8 rfl)) (by decide) (backOf (W := 3) (rm1 l Z a0 hw [] G b11 h11 n0 O11 A11 F11_modCount g_b11 F11_elementData) hZ (ow hw 8 rfl) (ow hw 5 rfl) (by decide) (by decide)) (g := (mkF m 18 #[.val (.int p1), .val (.int p2), .val (.int p3), .val (.int p4), .val (.int p5), .val (.int (0 : Int32)), .unset, .unset, .unset, .unset, .unset, .unset, .unset, .unset, .unset, .unset] [(.ref b11), (.ref b11), (.ref b10), (.ref b10)])) rfl (by rw [hml]; rfl) (Steps.refl _) (a := b11) (argsL := []) (rest := [(.ref b11), (.ref b10), (.ref b10)]) (lenOf pd_0 rfl) rfl (by show 2 * 0 + _ ≤ _; exact Nat.le_of_eq rfl) (hb hby at_18) (fun _ _ => ⟨rfl, e11, (by decide : 2 + 0 ≤ _), (by decide : 4 + 0 ≤ _)⟩)
    dsimp only [Pt.U, Pt.locs, Pt.cells, Pt.slots] at X12 l12 y12 z12 st12 hQ12
    subst l12 y12 z12
    obtain ⟨N12q, rfl, K12, Fo12_0, Fo12_1⟩ := hQ12
    have O12 := OKeep.old O11 K12 (ogeS g_b11 (ogeS g_b11 oge0))
    have N12 := Fr.app N0 N12q
    refine OGot.on st12 ?_
    have F14 : Fld Z T12.heap b11 "java/util/ArrayList" "size" "I" (.int (0 : Int32)) := (OKeep.fld F11_size K12 (oninS (slot_ne (Or.inl (ow hw 62 rfl)) (Or.inl (ow hw 25 rfl)) (by decide) (t := .int) (t' := .int) (by decide) (by decide)) (oninS (slot_ne (Or.inl (ow hw 62 rfl)) (Or.inl (ow hw 28 rfl)) (by decide) (t := .int) (t' := (.array (.object "java/lang/Object"))) (by decide) (by decide)) onin0)))
    have ne15 : b10 ≠ b11 := (Nat.ne_of_lt (Nat.lt_of_lt_of_le A10.lt sy_b11))
    have F16 : Fld Z T12.heap b10 "com/example/curtail/curtail/Placement" "aCells" "Ljava/util/List;" .null := (OKeep.fld (F10_aCells.ext E11) K12 (oninA ne15 (oninA ne15 onin0)))
    obtain ⟨_, _, ⟨T13, L13, k13, n13⟩, -, X13, ⟨Lc13, hQ13, l13, y13, z13⟩, st13⟩ := X12.specialBack hx (y := (⟨"com/example/curtail/curtail/Placement", "<init>", "(Ljava/util/List;)V"⟩ : MethodName)) rfl hown (mvT hZ (ow hw 29 rfl)) (mvT hZ (ow hw 30 rfl)) (mvT hZ (ow hw 31 rfl)) (by decide) (backOf (W := 1) (rm5 l Z a0 hw [] G b10 b11 T12.heap n0 O12 (OKeep.exa A11 K12) F14 (OKeep.exa (A10.ext E11) K12) F16 g_b10) hZ (ow hw 31 rfl) (ow hw 2 rfl) (by decide) (by decide)) (g := (mkF m 21 #[.val (.int p1), .val (.int p2), .val (.int p3), .val (.int p4), .val (.int p5), .val (.int (0 : Int32)), .unset, .unset, .unset, .unset, .unset, .unset, .unset, .unset, .unset, .unset] [(.ref b11), (.ref b10), (.ref b10)])) rfl (by rw [hml]; rfl) (Steps.refl _) (a := b10) (argsL := [(.ref b11)]) (rest := [(.ref b10)]) (lenOf pd_5 rfl) rfl (by show 2 * 0 + _ ≤ _; exact Nat.le_of_eq rfl) (hb hby at_21) (fun _ _ => ⟨rfl, rfl, (by decide : 2 + 0 ≤ _), (by decide : 4 + 0 ≤ _)⟩)
    dsimp only [Pt.U, Pt.locs, Pt.cells, Pt.slots] at X13 l13 y13 z13 st13 hQ13
    subst l13 y13 z13
    obtain ⟨N13q, rfl, K13, Fo13_0⟩ := hQ13
    have O13 := OKeep.old O12 K13 (ogeS g_b10 oge0)
    have N13 := Fr.app N12 N13q
    refine OGot.on st13 ?_
    refine OGot.go (fun t k => XS.astore X13.here hx rfl (hb hby at_24) rfl rfl (l' := #[.val (.int p1), .val (.int p2), .val (.int p3), .val (.int p4), .val (.int p5), .val (.int (0 : Int32)), .val (.ref b10), .unset, .unset, .unset, .unset, .unset, .unset, .unset, .unset, .unset]) rfl k) ?_
    show OGot p.tables e below (T13.setTop (mkF m 26 #[.val (.int p1), .val (.int p2), .val (.int p3), .val (.int p4), .val (.int p5), .val (.int (0 : Int32)), .val (.ref b10), .unset, .unset, .unset, .unset, .unset, .unset, .unset, .unset, .unset] [])) _
    refine OGot.go (fun t k => XS.aload X13.here hx rfl (hb hby at_26) rfl rfl k) ?_
    obtain ⟨cq17, kq17, q17a, q17b, q17c⟩ := isOf hZ rfl (OKeep.exa (OKeep.exa (A10.ext E11) K12) K13)
    obtain ⟨_, _, ⟨T17, L17, k17, n17⟩, -, X17, ⟨Lc17, hQ17, l17, y17, z17⟩, st17⟩ := X13.virtualBack hx (y := (⟨"com/example/curtail/curtail/Placement", "isAccepted", "()Z"⟩ : MethodName)) (z := (⟨"com/example/curtail/curtail/Placement", "isAccepted", "()Z"⟩ : MethodName)) hown (mvT hZ (ow hw 81 rfl)) (mvT hZ (ow hw 82 rfl)) (notFace_of_selects (args := #[]) (mvT hZ (ow hw 84 rfl))) (mvT hZ (ow hw 84 rfl)) (mvT hZ (ow hw 83 rfl)) (by decide) (backOf (W := 0) (rm12 l Z a0 hw [] G b10 w_EMPTY_LIST w_EMPTY_LIST_elements k_w_EMPTY_LIST_elements T13.heap n0 O13 Fo13_0 (G.2.2.2.2.2.2.1.ext O13.2) (G.2.2.2.2.2.2.2.1.ext O13.2) (G.2.2.2.2.2.2.2.2.2.2.2.2.2.1.ext O13.2)) hZ (ow hw 85 rfl) (ow hw 2 rfl) (by decide) (by decide)) q17a q17c (g := (mkF m 28 #[.val (.int p1), .val (.int p2), .val (.int p3), .val (.int p4), .val (.int p5), .val (.int (0 : Int32)), .val (.ref b10), .unset, .unset, .unset, .unset, .unset, .unset, .unset, .unset, .unset] [(.ref b10)])) rfl (by rw [hml]; rfl) (Steps.refl _) (argsL := []) (rest := []) (lenOf pd_1 rfl) rfl (by show 2 * 0 + _ ≤ _; exact Nat.le_of_eq rfl) (hb hby at_28) (fun _ _ => ⟨rfl, rfl, (by decide : 2 + 0 ≤ _), (by decide : 4 + 0 ≤ _)⟩)
    dsimp only [Pt.U, Pt.locs, Pt.cells, Pt.slots] at X17 l17 y17 z17 st17 hQ17
    subst l17 y17 z17
    obtain ⟨rfl, N17q, e17⟩ := hQ17
    have N17 := Fr.app N13 N17q
    refine OGot.on st17 ?_
    refine OGot.go (fun t k => XS.ifNo X17.here hx rfl (hb hby at_31) rfl (by decide) k) ?_
    refine OGot.go (fun t k => XS.iconst X17.here hx rfl (hb hby at_34) k) ?_
    refine OGot.go (fun t k => XS.goto X17.here hx rfl (pc0 := 35) (pc' := 39) rfl (hb hby at_35) (by decide) (by decide) k) ?_
    show OGot p.tables e below (T17.setTop (mkF m 39 #[.val (.int p1), .val (.int p2), .val (.int p3), .val (.int p4), .val (.int p5), .val (.int (0 : Int32)), .val (.ref b10), .unset, .unset, .unset, .unset, .unset, .unset, .unset, .unset, .unset] [(.int (1 : Int32))])) _
    obtain ⟨fs, hr, hrun, hended, hW, hsame⟩ := X17.leave (v := some (.int (1 : Int32))) (fun h => by rw [Bd.returns] at h; cases h)
    refine ⟨_, _, retN X17 hx (t := .boolean) Bd.returns (by simp) (hb hby at_39) hr, hrun, hended, _, _, rfl, ?_, ⟨_, rfl⟩, hW, hsame.mono (by decide) (by decide)⟩
    exact (⟨rfl, N17⟩ : Q0 Z m_OA w_EMPTY_ELEMENTDATA w_DEFAULTCAPACITY_EMPTY_ELEMENTDATA w_EMPTY_LIST w_EMPTY_LIST_elements w_EMPTY k_w_EMPTY_ELEMENTDATA k_w_DEFAULTCAPACITY_EMPTY_ELEMENTDATA k_w_EMPTY_LIST_elements p1 p2 p3 p4 p5 h0 n0 _ T17.heap _)
  · rw [hk7]
    show OGot p.tables e below (s₁.setTop (mkF m 3 #[.val (.int p1), .val (.int p2), .val (.int p3), .val (.int p4), .val (.int p5), .unset, .unset, .unset, .unset, .unset, .unset, .unset, .unset, .unset, .unset, .unset] [(.int (1 : Int32))])) _
    refine OGot.go (fun t k => XS.istore X0.here hx rfl (hb hby at_3) rfl (l' := #[.val (.int p1), .val (.int p2), .val (.int p3), .val (.int p4), .val (.int p5), .val (.int (1 : Int32)), .unset, .unset, .unset, .unset, .unset, .unset, .unset, .unset, .unset, .unset]) rfl k) ?_
    refine OGot.go (fun t k => XS.iload X0.here hx rfl (hb hby at_5) rfl k) ?_
    refine OGot.go (fun t k => XS.ifYes X0.here hx rfl (pc0 := 7) (pc' := 40) rfl (hb hby at_7) rfl (by decide) (by decide) (by decide) k) ?_
    refine OGot.go (fun t k => XS.iloadN X0.here hx rfl (hb hby at_40) rfl k) ?_
    refine OGot.go (fun t k => XS.i2l X0.here hx rfl (hb hby at_41) rfl k) ?_
    show OGot p.tables e below (s₁.setTop (mkF m 42 #[.val (.int p1), .val (.int p2), .val (.int p3), .val (.int p4), .val (.int p5), .val (.int (1 : Int32)), .unset, .unset, .unset, .unset, .unset, .unset, .unset, .unset, .unset, .unset] [(.long (p2.toInt64))])) _
    refine OGot.go (fun t k => XS.lstore X0.here hx rfl (hb hby at_42) rfl (l' := #[.val (.int p1), .val (.int p2), .val (.int p3), .val (.int p4), .val (.int p5), .val (.int (1 : Int32)), .val (.long (p2.toInt64)), .second, .unset, .unset, .unset, .unset, .unset, .unset, .unset, .unset]) rfl k) ?_
    refine OGot.go (fun t k => XS.lload X0.here hx rfl (hb hby at_44) rfl k) ?_
    refine OGot.go (fun t k => XS.lconst X0.here hx rfl (hb hby at_46) k) ?_
    refine OGot.go (fun t k => XS.ladd X0.here hx rfl (hb hby at_47) rfl k) ?_
    refine OGot.go (fun t k => XS.iloadN X0.here hx rfl (hb hby at_48) rfl k) ?_
    show OGot p.tables e below (s₁.setTop (mkF m 49 #[.val (.int p1), .val (.int p2), .val (.int p3), .val (.int p4), .val (.int p5), .val (.int (1 : Int32)), .val (.long (p2.toInt64)), .second, .unset, .unset, .unset, .unset, .unset, .unset, .unset, .unset] [(.int p3), (.long ((p2.toInt64) + (1 : Int64)))])) _
    refine OGot.go (fun t k => X0.ldcInt hx hown (mvT hZ (ow hw 94 rfl)) (g := (mkF m 49 #[.val (.int p1), .val (.int p2), .val (.int p3), .val (.int p4), .val (.int p5), .val (.int (1 : Int32)), .val (.long (p2.toInt64)), .second, .unset, .unset, .unset, .unset, .unset, .unset, .unset, .unset] [(.int p3), (.long ((p2.toInt64) + (1 : Int64)))])) rfl (hb hby at_49) _ k) ?_
    refine OGot.go (fun t k => XS.iand X0.here hx rfl (hb hby at_51) rfl k) ?_
    refine OGot.go (fun t k => XS.i2l X0.here hx rfl (hb hby at_52) rfl k) ?_
    refine OGot.go (fun t k => XS.ladd X0.here hx rfl (hb hby at_53) rfl k) ?_
    refine OGot.go (fun t k => XS.lstore X0.here hx rfl (hb hby at_54) rfl (l' := #[.val (.int p1), .val (.int p2), .val (.int p3), .val (.int p4), .val (.int p5), .val (.int (1 : Int32)), .val (.long (p2.toInt64)), .second, .val (.long (((p2.toInt64) + (1 : Int64)) + ((p3 &&& (65535 : Int32)).toInt64))), .second, .unset, .unset, .unset, .unset, .unset, .unset]) rfl k) ?_
    show OGot p.tables e below (s₁.setTop (mkF m 56 #[.val (.int p1), .val (.int p2), .val (.int p3), .val (.int p4), .val (.int p5), .val (.int (1 : Int32)), .val (.long (p2.toInt64)), .second, .val (.long (((p2.toInt64) + (1 : Int64)) + ((p3 &&& (65535 : Int32)).toInt64))), .second, .unset, .unset, .unset, .unset, .unset, .unset] [])) _
    refine OGot.go (fun t k => XS.lload X0.here hx rfl (hb hby at_56) rfl k) ?_
    refine OGot.go (fun t k => XS.lconst X0.here hx rfl (hb hby at_58) k) ?_
    refine OGot.go (fun t k => XS.ladd X0.here hx rfl (hb hby at_59) rfl k) ?_
    refine OGot.go (fun t k => XS.iloadN X0.here hx rfl (hb hby at_60) rfl k) ?_
    refine OGot.go (fun t k => X0.ldcInt hx hown (mvT hZ (ow hw 94 rfl)) (g := (mkF m 61 #[.val (.int p1), .val (.int p2), .val (.int p3), .val (.int p4), .val (.int p5), .val (.int (1 : Int32)), .val (.long (p2.toInt64)), .second, .val (.long (((p2.toInt64) + (1 : Int64)) + ((p3 &&& (65535 : Int32)).toInt64))), .second, .unset, .unset, .unset, .unset, .unset, .unset] [(.int p4), (.long ((((p2.toInt64) + (1 : Int64)) + ((p3 &&& (65535 : Int32)).toInt64)) + (1 : Int64)))])) rfl (hb hby at_61) _ k) ?_
    show OGot p.tables e below (s₁.setTop (mkF m 63 #[.val (.int p1), .val (.int p2), .val (.int p3), .val (.int p4), .val (.int p5), .val (.int (1 : Int32)), .val (.long (p2.toInt64)), .second, .val (.long (((p2.toInt64) + (1 : Int64)) + ((p3 &&& (65535 : Int32)).toInt64))), .second, .unset, .unset, .unset, .unset, .unset, .unset] [(.int (65535 : Int32)), (.int p4), (.long ((((p2.toInt64) + (1 : Int64)) + ((p3 &&& (65535 : Int32)).toInt64)) + (1 : Int64)))])) _
    refine OGot.go (fun t k => XS.iand X0.here hx rfl (hb hby at_63) rfl k) ?_
    refine OGot.go (fun t k => XS.i2l X0.here hx rfl (hb hby at_64) rfl k) ?_
    refine OGot.go (fun t k => XS.ladd X0.here hx rfl (hb hby at_65) rfl k) ?_
    refine OGot.go (fun t k => XS.lstore X0.here hx rfl (hb hby at_66) rfl (l' := #[.val (.int p1), .val (.int p2), .val (.int p3), .val (.int p4), .val (.int p5), .val (.int (1 : Int32)), .val (.long (p2.toInt64)), .second, .val (.long (((p2.toInt64) + (1 : Int64)) + ((p3 &&& (65535 : Int32)).toInt64))), .second, .val (.long (((((p2.toInt64) + (1 : Int64)) + ((p3 &&& (65535 : Int32)).toInt64)) + (1 : Int64)) + ((p4 &&& (65535 : Int32)).toInt64))), .second, .unset, .unset, .unset, .unset]) rfl k) ?_
    refine OGot.go (fun t k => XS.iload X0.here hx rfl (hb hby at_68) rfl k) ?_
    show OGot p.tables e below (s₁.setTop (mkF m 70 #[.val (.int p1), .val (.int p2), .val (.int p3), .val (.int p4), .val (.int p5), .val (.int (1 : Int32)), .val (.long (p2.toInt64)), .second, .val (.long (((p2.toInt64) + (1 : Int64)) + ((p3 &&& (65535 : Int32)).toInt64))), .second, .val (.long (((((p2.toInt64) + (1 : Int64)) + ((p3 &&& (65535 : Int32)).toInt64)) + (1 : Int64)) + ((p4 &&& (65535 : Int32)).toInt64))), .second, .unset, .unset, .unset, .unset] [(.int (1 : Int32))])) _
    refine OGot.go (fun t k => XS.iconst X0.here hx rfl (hb hby at_70) k) ?_
    refine OGot.go (fun t k => XS.icmpNo X0.here hx rfl (hb hby at_71) rfl (by decide) k) ?_
    refine OGot.go (fun t k => XS.lload X0.here hx rfl (hb hby at_74) rfl k) ?_
    refine OGot.go (fun t k => XS.lstore X0.here hx rfl (hb hby at_76) rfl (l' := #[.val (.int p1), .val (.int p2), .val (.int p3), .val (.int p4), .val (.int p5), .val (.int (1 : Int32)), .val (.long (p2.toInt64)), .second, .val (.long (((p2.toInt64) + (1 : Int64)) + ((p3 &&& (65535 : Int32)).toInt64))), .second, .val (.long (((((p2.toInt64) + (1 : Int64)) + ((p3 &&& (65535 : Int32)).toInt64)) + (1 : Int64)) + ((p4 &&& (65535 : Int32)).toInt64))), .second, .val (.long (p2.toInt64)), .second, .unset, .unset]) rfl k) ?_
    refine OGot.go (fun t k => XS.goto X0.here hx rfl (pc0 := 78) (pc' := 98) rfl (hb hby at_78) (by decide) (by decide) k) ?_
    show OGot p.tables e below (s₁.setTop (mkF m 98 #[.val (.int p1), .val (.int p2), .val (.int p3), .val (.int p4), .val (.int p5), .val (.int (1 : Int32)), .val (.long (p2.toInt64)), .second, .val (.long (((p2.toInt64) + (1 : Int64)) + ((p3 &&& (65535 : Int32)).toInt64))), .second, .val (.long (((((p2.toInt64) + (1 : Int64)) + ((p3 &&& (65535 : Int32)).toInt64)) + (1 : Int64)) + ((p4 &&& (65535 : Int32)).toInt64))), .second, .val (.long (p2.toInt64)), .second, .unset, .unset] [])) _
    refine OGot.go (fun t k => XS.lload X0.here hx rfl (hb hby at_98) rfl k) ?_
    refine OGot.go (fun t k => X0.ldc2Long hx hown (mvT hZ (ow hw 95 rfl)) (g := (mkF m 100 #[.val (.int p1), .val (.int p2), .val (.int p3), .val (.int p4), .val (.int p5), .val (.int (1 : Int32)), .val (.long (p2.toInt64)), .second, .val (.long (((p2.toInt64) + (1 : Int64)) + ((p3 &&& (65535 : Int32)).toInt64))), .second, .val (.long (((((p2.toInt64) + (1 : Int64)) + ((p3 &&& (65535 : Int32)).toInt64)) + (1 : Int64)) + ((p4 &&& (65535 : Int32)).toInt64))), .second, .val (.long (p2.toInt64)), .second, .unset, .unset] [(.long (p2.toInt64))])) rfl (hb hby at_100) _ k) ?_
    refine OGot.go (fun t k => XS.lcmp X0.here hx rfl (hb hby at_103) rfl k) ?_
    refine OGot.go (fun t k => XS.ifYes X0.here hx rfl (pc0 := 104) (pc' := 109) rfl (hb hby at_104) rfl ((if0 _ _).trans (flt (fun q => (own_d p2) ((lw_gt (p2.toInt64) (2147483647 : Int64)).mp q))).2.2.2) (by decide) (by decide) k) ?_
    obtain ⟨T18, h18, X18, e18, E18, A18, D18, -, st18⟩ := newO X0 hx hZ hown (ow hw 3 rfl) (ow hw 4 rfl) (ow hw 5 rfl) e0 (g := (mkF m 109 #[.val (.int p1), .val (.int p2), .val (.int p3), .val (.int p4), .val (.int p5), .val (.int (1 : Int32)), .val (.long (p2.toInt64)), .second, .val (.long (((p2.toInt64) + (1 : Int64)) + ((p3 &&& (65535 : Int32)).toInt64))), .second, .val (.long (((((p2.toInt64) + (1 : Int64)) + ((p3 &&& (65535 : Int32)).toInt64)) + (1 : Int64)) + ((p4 &&& (65535 : Int32)).toInt64))), .second, .val (.long (p2.toInt64)), .second, .unset, .unset] [])) rfl (hb hby at_109) (by decide) (by decide)
    obtain ⟨b18, g18⟩ : ∃ z, z = h0.size := ⟨_, rfl⟩
    rw [← g18] at A18 D18 st18
    refine OGot.go st18 ?_
    have g_b18 : n0 ≤ b18 := Nat.le_trans (osz O0) (Nat.le_of_eq g18.symm)
    have sy_b18 : h0.size ≤ b18 := Nat.le_of_eq g18.symm
    have O18 := O0.ext E18
    have F18_modCount : Fld Z h18 b18 "java/util/AbstractList" "modCount" "I" (.int (0 : Int32)) := D18 (Or.inl (ow hw 25 rfl)) (ty := .int) (by decide)
    have F18_elementData : Fld Z h18 b18 "java/util/ArrayList" "elementData" "[Ljava/lang/Object;" .null := D18 (Or.inl (ow hw 28 rfl)) (ty := (.array (.object "java/lang/Object"))) (by decide)
    have F18_size : Fld Z h18 b18 "java/util/ArrayList" "size" "I" (.int (0 : Int32)) := D18 (Or.inl (ow hw 62 rfl)) (ty := .int) (by decide)
    show OGot p.tables e below (T18.setTop (mkF m 112 #[.val (.int p1), .val (.int p2), .val (.int p3), .val (.int p4), .val (.int p5), .val (.int (1 : Int32)), .val (.long (p2.toInt64)), .second, .val (.long (((p2.toInt64) + (1 : Int64)) + ((p3 &&& (65535 : Int32)).toInt64))), .second, .val (.long (((((p2.toInt64) + (1 : Int64)) + ((p3 &&& (65535 : Int32)).toInt64)) + (1 : Int64)) + ((p4 &&& (65535 : Int32)).toInt64))), .second, .val (.long (p2.toInt64)), .second, .unset, .unset] [(.ref b18)])) _
    refine OGot.go (fun t k => XS.dup X18.here hx rfl (hb hby at_112) rfl rfl k) ?_
    obtain ⟨_, _, ⟨T19, L19, k19, n19⟩, -, X19, ⟨Lc19, hQ19, l19, y19, z19⟩, st19⟩ := X18.specialBack hx (y := (⟨"java/util/ArrayList", "<init>", "()V"⟩ : MethodName)) rfl hown (mvT hZ (ow hw 6 rfl)) (mvT hZ (ow hw 7 rfl)) (mvT hZ (ow hw 8 rfl)) (by decide) (backOf (W := 1) (rm1 l Z a0 hw [] G b18 h18 n0 O18 A18 F18_modCount g_b18 F18_elementData) hZ (ow hw 8 rfl) (ow hw 5 rfl) (by decide) (by decide)) (g := (mkF m 113 #[.val (.int p1), .val (.int p2), .val (.int p3), .val (.int p4), .val (.int p5), .val (.int (1 : Int32)), .val (.long (p2.toInt64)), .second, .val (.long (((p2.toInt64) + (1 : Int64)) + ((p3 &&& (65535 : Int32)).toInt64))), .second, .val (.long (((((p2.toInt64) + (1 : Int64)) + ((p3 &&& (65535 : Int32)).toInt64)) + (1 : Int64)) + ((p4 &&& (65535 : Int32)).toInt64))), .second, .val (.long (p2.toInt64)), .second, .unset, .unset] [(.ref b18), (.ref b18)])) rfl (by rw [hml]; rfl) (Steps.refl _) (a := b18) (argsL := []) (rest := [(.ref b18)]) (lenOf pd_0 rfl) rfl (by show 2 * 0 + _ ≤ _; exact Nat.le_of_eq rfl) (hb hby at_113) (fun _ _ => ⟨rfl, e18, (by decide : 1 + 0 ≤ _), (by decide : 3 + 0 ≤ _)⟩)
    dsimp only [Pt.U, Pt.locs, Pt.cells, Pt.slots] at X19 l19 y19 z19 st19 hQ19
    subst l19 y19 z19
    obtain ⟨N19q, rfl, K19, Fo19_0, Fo19_1⟩ := hQ19
    have O19 := OKeep.old O18 K19 (ogeS g_b18 (ogeS g_b18 oge0))
    have N19 := Fr.app N0 N19q
    refine OGot.on st19 ?_
    refine OGot.go (fun t k => XS.astore X19.here hx rfl (hb hby at_116) rfl rfl (l' := #[.val (.int p1), .val (.int p2), .val (.int p3), .val (.int p4), .val (.int p5), .val (.int (1 : Int32)), .val (.long (p2.toInt64)), .second, .val (.long (((p2.toInt64) + (1 : Int64)) + ((p3 &&& (65535 : Int32)).toInt64))), .second, .val (.long (((((p2.toInt64) + (1 : Int64)) + ((p3 &&& (65535 : Int32)).toInt64)) + (1 : Int64)) + ((p4 &&& (65535 : Int32)).toInt64))), .second, .val (.long (p2.toInt64)), .second, .val (.ref b18), .unset]) rfl k) ?_
    refine OGot.go (fun t k => XS.aload X19.here hx rfl (hb hby at_118) rfl rfl k) ?_
    obtain ⟨T20, h20, X20, e20, E20, A20, D20, -, st20⟩ := newO X19 hx hZ hown (ow hw 96 rfl) (ow hw 97 rfl) (ow hw 98 rfl) rfl (g := (mkF m 120 #[.val (.int p1), .val (.int p2), .val (.int p3), .val (.int p4), .val (.int p5), .val (.int (1 : Int32)), .val (.long (p2.toInt64)), .second, .val (.long (((p2.toInt64) + (1 : Int64)) + ((p3 &&& (65535 : Int32)).toInt64))), .second, .val (.long (((((p2.toInt64) + (1 : Int64)) + ((p3 &&& (65535 : Int32)).toInt64)) + (1 : Int64)) + ((p4 &&& (65535 : Int32)).toInt64))), .second, .val (.long (p2.toInt64)), .second, .val (.ref b18), .unset] [(.ref b18)])) rfl (hb hby at_120) (by decide) (by decide)
    obtain ⟨b20, g20⟩ : ∃ z, z = T19.heap.size := ⟨_, rfl⟩
    rw [← g20] at A20 D20 st20
    refine OGot.go st20 ?_
    have g_b20 : n0 ≤ b20 := Nat.le_trans (osz O19) (Nat.le_of_eq g20.symm)
    have sy_b20 : T19.heap.size ≤ b20 := Nat.le_of_eq g20.symm
    have O20 := O19.ext E20
    have F20_nSlot : Fld Z h20 b20 "com/example/curtail/curtail/Placement$Cell" "nSlot" "I" (.int (0 : Int32)) := D20 (Or.inr (ow hw 104 rfl)) (ty := .int) (by decide)
    have F20_nCloudlet : Fld Z h20 b20 "com/example/curtail/curtail/Placement$Cell" "nCloudlet" "I" (.int (0 : Int32)) := D20 (Or.inr (ow hw 106 rfl)) (ty := .int) (by decide)
    show OGot p.tables e below (T20.setTop (mkF m 123 #[.val (.int p1), .val (.int p2), .val (.int p3), .val (.int p4), .val (.int p5), .val (.int (1 : Int32)), .val (.long (p2.toInt64)), .second, .val (.long (((p2.toInt64) + (1 : Int64)) + ((p3 &&& (65535 : Int32)).toInt64))), .second, .val (.long (((((p2.toInt64) + (1 : Int64)) + ((p3 &&& (65535 : Int32)).toInt64)) + (1 : Int64)) + ((p4 &&& (65535 : Int32)).toInt64))), .second, .val (.long (p2.toInt64)), .second, .val (.ref b18), .unset] [(.ref b20), (.ref b18)])) _
    refine OGot.go (fun t k => XS.dup X20.here hx rfl (hb hby at_123) rfl rfl k) ?_
    refine OGot.go (fun t k => XS.lload X20.here hx rfl (hb hby at_124) rfl k) ?_
    refine OGot.go (fun t k => XS.l2i X20.here hx rfl (hb hby at_126) rfl k) ?_
    refine OGot.go (fun t k => XS.iload X20.here hx rfl (hb hby at_127) rfl k) ?_
    obtain ⟨_, _, ⟨T21, L21, k21, n21⟩, -, X21, ⟨Lc21, hQ21, l21, y21, z21⟩, st21⟩ := X20.specialBack hx (y := (⟨"com/example/curtail/curtail/Placement$Cell", "<init>", "(II)V"⟩ : MethodName)) rfl hown (mvT hZ (ow hw 99 rfl)) (mvT hZ (ow hw 100 rfl)) (mvT hZ (ow hw 101 rfl)) (by decide) (backOf (W := 2) (rm14 l Z a0 hw [] G b20 ((p2.toInt64).toInt32) p5 h20 n0 O20 A20 F20_nSlot g_b20 F20_nCloudlet) hZ (ow hw 101 rfl) (ow hw 98 rfl) (by decide) (by decide)) (g := (mkF m 129 #[.val (.int p1), .val (.int p2), .val (.int p3), .val (.int p4), .val (.int p5), .val (.int (1 : Int32)), .val (.long (p2.toInt64)), .second, .val (.long (((p2.toInt64) + (1 : Int64)) + ((p3 &&& (65535 : Int32)).toInt64))), .second, .val (.long (((((p2.toInt64) + (1 : Int64)) + ((p3 &&& (65535 : Int32)).toInt64)) + (1 : Int64)) + ((p4 &&& (65535 : Int32)).toInt64))), .second, .val (.long (p2.toInt64)), .second, .val (.ref b18), .unset] [(.int p5), (.int ((p2.toInt64).toInt32)), (.ref b20), (.ref b20), (.ref b18)])) rfl (by rw [hml]; rfl) (Steps.refl _) (a := b20) (argsL := [(.int ((p2.toInt64).toInt32)), (.int p5)]) (rest := [(.ref b20), (.ref b18)]) (lenOf pd_6 rfl) rfl (by show 2 * 0 + _ ≤ _; exact Nat.le_of_eq rfl) (hb hby at_129) (fun _ _ => ⟨rfl, e20, (by decide : 2 + 0 ≤ _), (by decide : 5 + 0 ≤ _)⟩)
    dsimp only [Pt.U, Pt.locs, Pt.cells, Pt.slots] at X21 l21 y21 z21 st21 hQ21
    subst l21 y21 z21
    obtain ⟨N21q, rfl, K21, Fo21_0, Fo21_1⟩ := hQ21
    have O21 := OKeep.old O20 K21 (ogeS g_b20 (ogeS g_b20 oge0))
    have N21 := Fr.app N19 N21q
    refine OGot.on st21 ?_
    show OGot p.tables e below (T21.setTop (mkF m 132 #[.val (.int p1), .val (.int p2), .val (.int p3), .val (.int p4), .val (.int p5), .val (.int (1 : Int32)), .val (.long (p2.toInt64)), .second, .val (.long (((p2.toInt64) + (1 : Int64)) + ((p3 &&& (65535 : Int32)).toInt64))), .second, .val (.long (((((p2.toInt64) + (1 : Int64)) + ((p3 &&& (65535 : Int32)).toInt64)) + (1 : Int64)) + ((p4 &&& (65535 : Int32)).toInt64))), .second, .val (.long (p2.toInt64)), .second, .val (.ref b18), .unset] [(.ref b20), (.ref b18)])) _
    have ne22 : w_DEFAULTCAPACITY_EMPTY_ELEMENTDATA ≠ b18 := (O21.ne G.2.2.2.2.1.lt g_b18)
    have ne24 : b18 ≠ b20 := (Nat.ne_of_lt (Nat.lt_of_lt_of_le (Nat.lt_of_lt_of_le A18.lt K19.1) sy_b20))
    have F25 : Fld Z T21.heap b18 "java/util/AbstractList" "modCount" "I" (.int (0 : Int32)) := (OKeep.fld (Fo19_0.ext E20) K21 (oninA ne24 (oninA ne24 onin0)))
    have F26 : Fld Z T21.heap b18 "java/util/ArrayList" "elementData" "[Ljava/lang/Object;" (.ref w_DEFAULTCAPACITY_EMPTY_ELEMENTDATA) := (OKeep.fld (Fo19_1.ext E20) K21 (oninA ne24 (oninA ne24 onin0)))
    have F27 : Fld Z T21.heap b18 "java/util/ArrayList" "size" "I" (.int (0 : Int32)) := (OKeep.fld ((OKeep.fld F18_size K19 (oninS (slot_ne (Or.inl (ow hw 62 rfl)) (Or.inl (ow hw 25 rfl)) (by decide) (t := .int) (t' := .int) (by decide) (by decide)) (oninS (slot_ne (Or.inl (ow hw 62 rfl)) (Or.inl (ow hw 28 rfl)) (by decide) (t := .int) (t' := (.array (.object "java/lang/Object"))) (by decide) (by decide)) onin0))).ext E20) K21 (oninA ne24 (oninA ne24 onin0)))
    obtain ⟨cq23, kq23, q23a, q23b, q23c⟩ := isOf hZ rfl (OKeep.exa ((OKeep.exa A18 K19).ext E20) K21)
    obtain ⟨_, _, ⟨T23, L23, k23, n23⟩, -, X23, ⟨Lc23, hQ23, l23, y23, z23⟩, st23⟩ := X21.virtualBack hx (y := (⟨"java/util/ArrayList", "add", "(Ljava/lang/Object;)Z"⟩ : MethodName)) (z := (⟨"java/util/ArrayList", "add", "(Ljava/lang/Object;)Z"⟩ : MethodName)) hown (mvT hZ (ow hw 107 rfl)) (mvT hZ (ow hw 108 rfl)) (notFace_of_selects (args := #[]) (mvT hZ (ow hw 110 rfl))) (mvT hZ (ow hw 110 rfl)) (mvT hZ (ow hw 109 rfl)) (by decide) (backOf (W := 0) (rm15 l Z a0 hw [] G b18 b20 w_DEFAULTCAPACITY_EMPTY_ELEMENTDATA k_w_DEFAULTCAPACITY_EMPTY_ELEMENTDATA T21.heap n0 O21 F25 (OKeep.exa ((OKeep.exa A18 K19).ext E20) K21) g_b18 F26 F27 (G.2.2.2.2.2.2.2.2.2.2.2.2.1.ext O21.2) (G.2.2.2.2.1.ext O21.2) rfl (OKeep.exa A20 K21) ne22) hZ (ow hw 111 rfl) (ow hw 5 rfl) (by decide) (by decide)) q23a q23c (g := (mkF m 132 #[.val (.int p1), .val (.int p2), .val (.int p3), .val (.int p4), .val (.int p5), .val (.int (1 : Int32)), .val (.long (p2.toInt64)), .second, .val (.long (((p2.toInt64) + (1 : Int64)) + ((p3 &&& (65535 : Int32)).toInt64))), .second, .val (.long (((((p2.toInt64) + (1 : Int64)) + ((p3 &&& (65535 : Int32)).toInt64)) + (1 : Int64)) + ((p4 &&& (65535 : Int32)).toInt64))), .second, .val (.long (p2.toInt64)), .second, .val (.ref b18), .unset] [(.ref b20), (.ref b18)])) rfl (by rw [hml]; rfl) (Steps.refl _) (argsL := [(.ref b20)]) (rest := []) (lenOf pd_11 rfl) rfl (by show 2 * 0 + _ ≤ _; exact Nat.le_of_eq rfl) (hb hby at_132) (fun _ _ => ⟨rfl, rfl, (by decide : 2 + 1 ≤ _), (by decide : 5 + 10 ≤ _)⟩)
    dsimp only [Pt.U, Pt.locs, Pt.cells, Pt.slots] at X23 l23 y23 z23 st23 hQ23
    subst l23 y23 z23
    obtain ⟨N23q, b9_5_6_11_23, k9_5_6_11_23, rfl, szb9_5_6_11_23_23, K23, Fo23_0, Fo23_1, Fo23_2, Fo23_3, Fo23_4, Fo23_5⟩ := hQ23
    have g_b9_5_6_11_23 : n0 ≤ b9_5_6_11_23 := Nat.le_trans (osz O21) szb9_5_6_11_23_23
    have O23 := OKeep.old O21 K23 (ogeS g_b18 (ogeS g_b18 (ogeS g_b18 oge0)))
    have N23 := Fr.app N21 N23q
    refine OGot.on st23 ?_
    refine OGot.go (fun t k => XS.pop X23.here hx rfl (hb hby at_135) rfl rfl k) ?_
    refine OGot.go (fun t k => XS.iload X23.here hx rfl (hb hby at_136) rfl k) ?_
    refine OGot.go (fun t k => XS.iconst X23.here hx rfl (hb hby at_138) k) ?_
    refine OGot.go (fun t k => XS.icmpYes X23.here hx rfl (pc0 := 139) (pc' := 162) rfl (hb hby at_139) rfl (by decide) (by decide) (by decide) k) ?_
    show OGot p.tables e below (T23.setTop (mkF m 162 #[.val (.int p1), .val (.int p2), .val (.int p3), .val (.int p4), .val (.int p5), .val (.int (1 : Int32)), .val (.long (p2.toInt64)), .second, .val (.long (((p2.toInt64) + (1 : Int64)) + ((p3 &&& (65535 : Int32)).toInt64))), .second, .val (.long (((((p2.toInt64) + (1 : Int64)) + ((p3 &&& (65535 : Int32)).toInt64)) + (1 : Int64)) + ((p4 &&& (65535 : Int32)).toInt64))), .second, .val (.long (p2.toInt64)), .second, .val (.ref b18), .unset] [])) _
    refine OGot.go (fun t k => XS.iload X23.here hx rfl (hb hby at_162) rfl k) ?_
    refine OGot.go (fun t k => XS.iconst X23.here hx rfl (hb hby at_164) k) ?_
    refine OGot.go (fun t k => XS.icmpYes X23.here hx rfl (pc0 := 165) (pc' := 188) rfl (hb hby at_165) rfl (by decide) (by decide) (by decide) k) ?_
    obtain ⟨T28, h28, X28, e28, E28, A28, D28, -, st28⟩ := newO X23 hx hZ hown (ow hw 0 rfl) (ow hw 1 rfl) (ow hw 2 rfl) rfl (g := (mkF m 188 #[.val (.int p1), .val (.int p2), .val (.int p3), .val (.int p4), .val (.int p5), .val (.int (1 : Int32)), .val (.long (p2.toInt64)), .second, .val (.long (((p2.toInt64) + (1 : Int64)) + ((p3 &&& (65535 : Int32)).toInt64))), .second, .val (.long (((((p2.toInt64) + (1 : Int64)) + ((p3 &&& (65535 : Int32)).toInt64)) + (1 : Int64)) + ((p4 &&& (65535 : Int32)).toInt64))), .second, .val (.long (p2.toInt64)), .second, .val (.ref b18), .unset] [])) rfl (hb hby at_188) (by decide) (by decide)
    obtain ⟨b28, g28⟩ : ∃ z, z = T23.heap.size := ⟨_, rfl⟩
    rw [← g28] at A28 D28 st28
    refine OGot.go st28 ?_
    have g_b28 : n0 ≤ b28 := Nat.le_trans (osz O23) (Nat.le_of_eq g28.symm)
    have sy_b28 : T23.heap.size ≤ b28 := Nat.le_of_eq g28.symm
    have O28 := O23.ext E28
    have F28_aCells : Fld Z h28 b28 "com/example/curtail/curtail/Placement" "aCells" "Ljava/util/List;" .null := D28 (Or.inr (ow hw 80 rfl)) (ty := (.object "java/util/List")) (by decide)
    refine OGot.go (fun t k => XS.dup X28.here hx rfl (hb hby at_191) rfl rfl k) ?_
    show OGot p.tables e below (T28.setTop (mkF m 192 #[.val (.int p1), .val (.int p2), .val (.int p3), .val (.int p4), .val (.int p5), .val (.int (1 : Int32)), .val (.long (p2.toInt64)), .second, .val (.long (((p2.toInt64) + (1 : Int64)) + ((p3 &&& (65535 : Int32)).toInt64))), .second, .val (.long (((((p2.toInt64) + (1 : Int64)) + ((p3 &&& (65535 : Int32)).toInt64)) + (1 : Int64)) + ((p4 &&& (65535 : Int32)).toInt64))), .second, .val (.long (p2.toInt64)), .second, .val (.ref b18), .unset] [(.ref b28), (.ref b28)])) _
    refine OGot.go (fun t k => XS.aload X28.here hx rfl (hb hby at_192) rfl rfl k) ?_
    have F30 : Fld Z h28 b18 "java/util/ArrayList" "size" "I" (.int (1 : Int32)) := (Fo23_1.ext E28)
    have F31 : Fld Z h28 b18 "java/util/ArrayList" "elementData" "[Ljava/lang/Object;" (.ref b9_5_6_11_23) := (Fo23_2.ext E28)
    have F32 : Arv Z h28 b9_5_6_11_23 k9_5_6_11_23 (.object "java/lang/Object") (10 : Int32) [(.ref b20), .null, .null, .null, .null, .null, .null, .null, .null, .null] .null := (Fo23_4.ext E28)
    obtain ⟨_, _, ⟨T29, L29, k29, n29⟩, -, X29, ⟨Lc29, hQ29, l29, y29, z29⟩, st29⟩ := X28.specialBack hx (y := (⟨"com/example/curtail/curtail/Placement", "<init>", "(Ljava/util/List;)V"⟩ : MethodName)) rfl hown (mvT hZ (ow hw 29 rfl)) (mvT hZ (ow hw 30 rfl)) (mvT hZ (ow hw 31 rfl)) (by decide) (backOf (W := 1) (rm5_1 l Z a0 hw [] G b28 b18 b9_5_6_11_23 k9_5_6_11_23 b20 h28 n0 O28 ((OKeep.exa (OKeep.exa ((OKeep.exa A18 K19).ext E20) K21) K23).ext E28) F30 F31 (Fo23_3.ext E28) F32 Fo23_5 ((OKeep.exa (OKeep.exa A20 K21) K23).ext E28) A28 F28_aCells g_b28) hZ (ow hw 31 rfl) (ow hw 2 rfl) (by decide) (by decide)) (g := (mkF m 194 #[.val (.int p1), .val (.int p2), .val (.int p3), .val (.int p4), .val (.int p5), .val (.int (1 : Int32)), .val (.long (p2.toInt64)), .second, .val (.long (((p2.toInt64) + (1 : Int64)) + ((p3 &&& (65535 : Int32)).toInt64))), .second, .val (.long (((((p2.toInt64) + (1 : Int64)) + ((p3 &&& (65535 : Int32)).toInt64)) + (1 : Int64)) + ((p4 &&& (65535 : Int32)).toInt64))), .second, .val (.long (p2.toInt64)), .second, .val (.ref b18), .unset] [(.ref b18), (.ref b28), (.ref b28)])) rfl (by rw [hml]; rfl) (Steps.refl _) (a := b28) (argsL := [(.ref b18)]) (rest := [(.ref b28)]) (lenOf pd_5 rfl) rfl (by show 2 * 0 + _ ≤ _; exact Nat.le_of_eq rfl) (hb hby at_194) (fun _ _ => ⟨rfl, e28, (by decide : 4 + 2 ≤ _), (by decide : 16 + 3 ≤ _)⟩)
    dsimp only [Pt.U, Pt.locs, Pt.cells, Pt.slots] at X29 l29 y29 z29 st29 hQ29
    subst l29 y29 z29
    obtain ⟨N29q, b5_9_5_7_29, rfl, szb5_9_5_7_29_29, K29, Fo29_0, Fo29_1, Fo29_2, Fo29_3⟩ := hQ29
    have g_b5_9_5_7_29 : n0 ≤ b5_9_5_7_29 := Nat.le_trans (osz O28) szb5_9_5_7_29_29
    have O29 := OKeep.old O28 K29 (ogeS g_b28 oge0)
    have N29 := Fr.app N23 N29q
    refine OGot.on st29 ?_
    refine OGot.go (fun t k => XS.astore X29.here hx rfl (hb hby at_197) rfl rfl (l' := #[.val (.int p1), .val (.int p2), .val (.int p3), .val (.int p4), .val (.int p5), .val (.int (1 : Int32)), .val (.long (p2.toInt64)), .second, .val (.long (((p2.toInt64) + (1 : Int64)) + ((p3 &&& (65535 : Int32)).toInt64))), .second, .val (.long (((((p2.toInt64) + (1 : Int64)) + ((p3 &&& (65535 : Int32)).toInt64)) + (1 : Int64)) + ((p4 &&& (65535 : Int32)).toInt64))), .second, .val (.long (p2.toInt64)), .second, .val (.ref b18), .val (.ref b28)]) rfl k) ?_
    refine OGot.go (fun t k => XS.aload X29.here hx rfl (hb hby at_199) rfl rfl k) ?_
    have ne34 : b20 ≠ b28 := (Nat.ne_of_lt (Nat.lt_of_lt_of_le (Nat.lt_of_lt_of_le (Nat.lt_of_lt_of_le A20.lt K21.1) K23.1) sy_b28))
    have F35 : Fld Z T29.heap b20 "com/example/curtail/curtail/Placement$Cell" "nSlot" "I" (.int ((p2.toInt64).toInt32)) := (OKeep.fld ((OKeep.fld Fo21_0 K23 (oninA (Ne.symm ne24) (oninA (Ne.symm ne24) (oninA (Ne.symm ne24) onin0)))).ext E28) K29 (oninA ne34 onin0))
    obtain ⟨cq33, kq33, q33a, q33b, q33c⟩ := isOf hZ rfl (OKeep.exa A28 K29)
    obtain ⟨_, _, ⟨T33, L33, k33, n33⟩, -, X33, ⟨Lc33, hQ33, l33, y33, z33⟩, st33⟩ := X29.virtualBack hx (y := (⟨"com/example/curtail/curtail/Placement", "completionSlot", "()I"⟩ : MethodName)) (z := (⟨"com/example/curtail/curtail/Placement", "completionSlot", "()I"⟩ : MethodName)) hown (mvT hZ (ow hw 213 rfl)) (mvT hZ (ow hw 214 rfl)) (notFace_of_selects (args := #[]) (mvT hZ (ow hw 216 rfl))) (mvT hZ (ow hw 216 rfl)) (mvT hZ (ow hw 215 rfl)) (by decide) (backOf (W := 0) (rm32 l Z a0 hw [] G b28 b5_9_5_7_29 w_EMPTY b20 ((p2.toInt64).toInt32) T29.heap n0 O29 Fo29_0 Fo29_1 Fo29_3 (G.2.2.2.2.2.2.2.2.2.2.1.ext O29.2) rfl Fo29_2 (OKeep.exa ((OKeep.exa (OKeep.exa A20 K21) K23).ext E28) K29) F35) hZ (ow hw 217 rfl) (ow hw 2 rfl) (by decide) (by decide)) q33a q33c (g := (mkF m 201 #[.val (.int p1), .val (.int p2), .val (.int p3), .val (.int p4), .val (.int p5), .val (.int (1 : Int32)), .val (.long (p2.toInt64)), .second, .val (.long (((p2.toInt64) + (1 : Int64)) + ((p3 &&& (65535 : Int32)).toInt64))), .second, .val (.long (((((p2.toInt64) + (1 : Int64)) + ((p3 &&& (65535 : Int32)).toInt64)) + (1 : Int64)) + ((p4 &&& (65535 : Int32)).toInt64))), .second, .val (.long (p2.toInt64)), .second, .val (.ref b18), .val (.ref b28)] [(.ref b28)])) rfl (by rw [hml]; rfl) (Steps.refl _) (argsL := []) (rest := []) (lenOf pd_4 rfl) rfl (by show 2 * 0 + _ ≤ _; exact Nat.le_of_eq rfl) (hb hby at_201) (fun _ _ => ⟨rfl, rfl, (by decide : 6 + 0 ≤ _), (by decide : 19 + 0 ≤ _)⟩)
    dsimp only [Pt.U, Pt.locs, Pt.cells, Pt.slots] at X33 l33 y33 z33 st33 hQ33
    subst l33 y33 z33
    obtain ⟨rfl, N33q, e33⟩ := hQ33
    have N33 := Fr.app N29 N33q
    refine OGot.on st33 ?_
    show OGot p.tables e below (T33.setTop (mkF m 204 #[.val (.int p1), .val (.int p2), .val (.int p3), .val (.int p4), .val (.int p5), .val (.int (1 : Int32)), .val (.long (p2.toInt64)), .second, .val (.long (((p2.toInt64) + (1 : Int64)) + ((p3 &&& (65535 : Int32)).toInt64))), .second, .val (.long (((((p2.toInt64) + (1 : Int64)) + ((p3 &&& (65535 : Int32)).toInt64)) + (1 : Int64)) + ((p4 &&& (65535 : Int32)).toInt64))), .second, .val (.long (p2.toInt64)), .second, .val (.ref b18), .val (.ref b28)] [(.int ((p2.toInt64).toInt32))])) _
    refine OGot.go (fun t k => XS.lload X33.here hx rfl (hb hby at_204) rfl k) ?_
    refine OGot.go (fun t k => XS.l2i X33.here hx rfl (hb hby at_206) rfl k) ?_
    refine OGot.go (fun t k => XS.icmpNo X33.here hx rfl (hb hby at_207) rfl (teq rfl).2 k) ?_
    refine OGot.go (fun t k => XS.iconst X33.here hx rfl (hb hby at_210) k) ?_
    refine OGot.go (fun t k => XS.goto X33.here hx rfl (pc0 := 211) (pc' := 215) rfl (hb hby at_211) (by decide) (by decide) k) ?_
    show OGot p.tables e below (T33.setTop (mkF m 215 #[.val (.int p1), .val (.int p2), .val (.int p3), .val (.int p4), .val (.int p5), .val (.int (1 : Int32)), .val (.long (p2.toInt64)), .second, .val (.long (((p2.toInt64) + (1 : Int64)) + ((p3 &&& (65535 : Int32)).toInt64))), .second, .val (.long (((((p2.toInt64) + (1 : Int64)) + ((p3 &&& (65535 : Int32)).toInt64)) + (1 : Int64)) + ((p4 &&& (65535 : Int32)).toInt64))), .second, .val (.long (p2.toInt64)), .second, .val (.ref b18), .val (.ref b28)] [(.int (1 : Int32))])) _
    obtain ⟨fs, hr, hrun, hended, hW, hsame⟩ := X33.leave (v := some (.int (1 : Int32))) (fun h => by rw [Bd.returns] at h; cases h)
    refine ⟨_, _, retN X33 hx (t := .boolean) Bd.returns (by simp) (hb hby at_215) hr, hrun, hended, _, _, rfl, ?_, ⟨_, rfl⟩, hW, hsame.mono (by decide) (by decide)⟩
    exact (⟨rfl, N33⟩ : Q0 Z m_OA w_EMPTY_ELEMENTDATA w_DEFAULTCAPACITY_EMPTY_ELEMENTDATA w_EMPTY_LIST w_EMPTY_LIST_elements w_EMPTY k_w_EMPTY_ELEMENTDATA k_w_DEFAULTCAPACITY_EMPTY_ELEMENTDATA k_w_EMPTY_LIST_elements p1 p2 p3 p4 p5 h0 n0 _ T33.heap _)
  · rw [hk8]
    show OGot p.tables e below (s₁.setTop (mkF m 3 #[.val (.int p1), .val (.int p2), .val (.int p3), .val (.int p4), .val (.int p5), .unset, .unset, .unset, .unset, .unset, .unset, .unset, .unset, .unset, .unset, .unset] [(.int (2 : Int32))])) _
    refine OGot.go (fun t k => XS.istore X0.here hx rfl (hb hby at_3) rfl (l' := #[.val (.int p1), .val (.int p2), .val (.int p3), .val (.int p4), .val (.int p5), .val (.int (2 : Int32)), .unset, .unset, .unset, .unset, .unset, .unset, .unset, .unset, .unset, .unset]) rfl k) ?_
    refine OGot.go (fun t k => XS.iload X0.here hx rfl (hb hby at_5) rfl k) ?_
    refine OGot.go (fun t k => XS.ifYes X0.here hx rfl (pc0 := 7) (pc' := 40) rfl (hb hby at_7) rfl (by decide) (by decide) (by decide) k) ?_
    refine OGot.go (fun t k => XS.iloadN X0.here hx rfl (hb hby at_40) rfl k) ?_
    refine OGot.go (fun t k => XS.i2l X0.here hx rfl (hb hby at_41) rfl k) ?_
    show OGot p.tables e below (s₁.setTop (mkF m 42 #[.val (.int p1), .val (.int p2), .val (.int p3), .val (.int p4), .val (.int p5), .val (.int (2 : Int32)), .unset, .unset, .unset, .unset, .unset, .unset, .unset, .unset, .unset, .unset] [(.long (p2.toInt64))])) _
    refine OGot.go (fun t k => XS.lstore X0.here hx rfl (hb hby at_42) rfl (l' := #[.val (.int p1), .val (.int p2), .val (.int p3), .val (.int p4), .val (.int p5), .val (.int (2 : Int32)), .val (.long (p2.toInt64)), .second, .unset, .unset, .unset, .unset, .unset, .unset, .unset, .unset]) rfl k) ?_
    refine OGot.go (fun t k => XS.lload X0.here hx rfl (hb hby at_44) rfl k) ?_
    refine OGot.go (fun t k => XS.lconst X0.here hx rfl (hb hby at_46) k) ?_
    refine OGot.go (fun t k => XS.ladd X0.here hx rfl (hb hby at_47) rfl k) ?_
    refine OGot.go (fun t k => XS.iloadN X0.here hx rfl (hb hby at_48) rfl k) ?_
    show OGot p.tables e below (s₁.setTop (mkF m 49 #[.val (.int p1), .val (.int p2), .val (.int p3), .val (.int p4), .val (.int p5), .val (.int (2 : Int32)), .val (.long (p2.toInt64)), .second, .unset, .unset, .unset, .unset, .unset, .unset, .unset, .unset] [(.int p3), (.long ((p2.toInt64) + (1 : Int64)))])) _
    refine OGot.go (fun t k => X0.ldcInt hx hown (mvT hZ (ow hw 94 rfl)) (g := (mkF m 49 #[.val (.int p1), .val (.int p2), .val (.int p3), .val (.int p4), .val (.int p5), .val (.int (2 : Int32)), .val (.long (p2.toInt64)), .second, .unset, .unset, .unset, .unset, .unset, .unset, .unset, .unset] [(.int p3), (.long ((p2.toInt64) + (1 : Int64)))])) rfl (hb hby at_49) _ k) ?_
    refine OGot.go (fun t k => XS.iand X0.here hx rfl (hb hby at_51) rfl k) ?_
    refine OGot.go (fun t k => XS.i2l X0.here hx rfl (hb hby at_52) rfl k) ?_
    refine OGot.go (fun t k => XS.ladd X0.here hx rfl (hb hby at_53) rfl k) ?_
    refine OGot.go (fun t k => XS.lstore X0.here hx rfl (hb hby at_54) rfl (l' := #[.val (.int p1), .val (.int p2), .val (.int p3), .val (.int p4), .val (.int p5), .val (.int (2 : Int32)), .val (.long (p2.toInt64)), .second, .val (.long (((p2.toInt64) + (1 : Int64)) + ((p3 &&& (65535 : Int32)).toInt64))), .second, .unset, .unset, .unset, .unset, .unset, .unset]) rfl k) ?_
    show OGot p.tables e below (s₁.setTop (mkF m 56 #[.val (.int p1), .val (.int p2), .val (.int p3), .val (.int p4), .val (.int p5), .val (.int (2 : Int32)), .val (.long (p2.toInt64)), .second, .val (.long (((p2.toInt64) + (1 : Int64)) + ((p3 &&& (65535 : Int32)).toInt64))), .second, .unset, .unset, .unset, .unset, .unset, .unset] [])) _
    refine OGot.go (fun t k => XS.lload X0.here hx rfl (hb hby at_56) rfl k) ?_
    refine OGot.go (fun t k => XS.lconst X0.here hx rfl (hb hby at_58) k) ?_
    refine OGot.go (fun t k => XS.ladd X0.here hx rfl (hb hby at_59) rfl k) ?_
    refine OGot.go (fun t k => XS.iloadN X0.here hx rfl (hb hby at_60) rfl k) ?_
    refine OGot.go (fun t k => X0.ldcInt hx hown (mvT hZ (ow hw 94 rfl)) (g := (mkF m 61 #[.val (.int p1), .val (.int p2), .val (.int p3), .val (.int p4), .val (.int p5), .val (.int (2 : Int32)), .val (.long (p2.toInt64)), .second, .val (.long (((p2.toInt64) + (1 : Int64)) + ((p3 &&& (65535 : Int32)).toInt64))), .second, .unset, .unset, .unset, .unset, .unset, .unset] [(.int p4), (.long ((((p2.toInt64) + (1 : Int64)) + ((p3 &&& (65535 : Int32)).toInt64)) + (1 : Int64)))])) rfl (hb hby at_61) _ k) ?_
    show OGot p.tables e below (s₁.setTop (mkF m 63 #[.val (.int p1), .val (.int p2), .val (.int p3), .val (.int p4), .val (.int p5), .val (.int (2 : Int32)), .val (.long (p2.toInt64)), .second, .val (.long (((p2.toInt64) + (1 : Int64)) + ((p3 &&& (65535 : Int32)).toInt64))), .second, .unset, .unset, .unset, .unset, .unset, .unset] [(.int (65535 : Int32)), (.int p4), (.long ((((p2.toInt64) + (1 : Int64)) + ((p3 &&& (65535 : Int32)).toInt64)) + (1 : Int64)))])) _
    refine OGot.go (fun t k => XS.iand X0.here hx rfl (hb hby at_63) rfl k) ?_
    refine OGot.go (fun t k => XS.i2l X0.here hx rfl (hb hby at_64) rfl k) ?_
    refine OGot.go (fun t k => XS.ladd X0.here hx rfl (hb hby at_65) rfl k) ?_
    refine OGot.go (fun t k => XS.lstore X0.here hx rfl (hb hby at_66) rfl (l' := #[.val (.int p1), .val (.int p2), .val (.int p3), .val (.int p4), .val (.int p5), .val (.int (2 : Int32)), .val (.long (p2.toInt64)), .second, .val (.long (((p2.toInt64) + (1 : Int64)) + ((p3 &&& (65535 : Int32)).toInt64))), .second, .val (.long (((((p2.toInt64) + (1 : Int64)) + ((p3 &&& (65535 : Int32)).toInt64)) + (1 : Int64)) + ((p4 &&& (65535 : Int32)).toInt64))), .second, .unset, .unset, .unset, .unset]) rfl k) ?_
    refine OGot.go (fun t k => XS.iload X0.here hx rfl (hb hby at_68) rfl k) ?_
    show OGot p.tables e below (s₁.setTop (mkF m 70 #[.val (.int p1), .val (.int p2), .val (.int p3), .val (.int p4), .val (.int p5), .val (.int (2 : Int32)), .val (.long (p2.toInt64)), .second, .val (.long (((p2.toInt64) + (1 : Int64)) + ((p3 &&& (65535 : Int32)).toInt64))), .second, .val (.long (((((p2.toInt64) + (1 : Int64)) + ((p3 &&& (65535 : Int32)).toInt64)) + (1 : Int64)) + ((p4 &&& (65535 : Int32)).toInt64))), .second, .unset, .unset, .unset, .unset] [(.int (2 : Int32))])) _
    refine OGot.go (fun t k => XS.iconst X0.here hx rfl (hb hby at_70) k) ?_
    refine OGot.go (fun t k => XS.icmpYes X0.here hx rfl (pc0 := 71) (pc' := 81) rfl (hb hby at_71) rfl (by decide) (by decide) (by decide) k) ?_
    refine OGot.go (fun t k => XS.iload X0.here hx rfl (hb hby at_81) rfl k) ?_
    refine OGot.go (fun t k => XS.iconst X0.here hx rfl (hb hby at_83) k) ?_
    refine OGot.go (fun t k => XS.icmpNo X0.here hx rfl (hb hby at_84) rfl (by decide) k) ?_
    show OGot p.tables e below (s₁.setTop (mkF m 87 #[.val (.int p1), .val (.int p2), .val (.int p3), .val (.int p4), .val (.int p5), .val (.int (2 : Int32)), .val (.long (p2.toInt64)), .second, .val (.long (((p2.toInt64) + (1 : Int64)) + ((p3 &&& (65535 : Int32)).toInt64))), .second, .val (.long (((((p2.toInt64) + (1 : Int64)) + ((p3 &&& (65535 : Int32)).toInt64)) + (1 : Int64)) + ((p4 &&& (65535 : Int32)).toInt64))), .second, .unset, .unset, .unset, .unset] [])) _
    refine OGot.go (fun t k => XS.lload X0.here hx rfl (hb hby at_87) rfl k) ?_
    refine OGot.go (fun t k => XS.lstore X0.here hx rfl (hb hby at_89) rfl (l' := #[.val (.int p1), .val (.int p2), .val (.int p3), .val (.int p4), .val (.int p5), .val (.int (2 : Int32)), .val (.long (p2.toInt64)), .second, .val (.long (((p2.toInt64) + (1 : Int64)) + ((p3 &&& (65535 : Int32)).toInt64))), .second, .val (.long (((((p2.toInt64) + (1 : Int64)) + ((p3 &&& (65535 : Int32)).toInt64)) + (1 : Int64)) + ((p4 &&& (65535 : Int32)).toInt64))), .second, .val (.long (((p2.toInt64) + (1 : Int64)) + ((p3 &&& (65535 : Int32)).toInt64))), .second, .unset, .unset]) rfl k) ?_
    refine OGot.go (fun t k => XS.goto X0.here hx rfl (pc0 := 91) (pc' := 98) rfl (hb hby at_91) (by decide) (by decide) k) ?_
    refine OGot.go (fun t k => XS.lload X0.here hx rfl (hb hby at_98) rfl k) ?_
    refine OGot.go (fun t k => X0.ldc2Long hx hown (mvT hZ (ow hw 95 rfl)) (g := (mkF m 100 #[.val (.int p1), .val (.int p2), .val (.int p3), .val (.int p4), .val (.int p5), .val (.int (2 : Int32)), .val (.long (p2.toInt64)), .second, .val (.long (((p2.toInt64) + (1 : Int64)) + ((p3 &&& (65535 : Int32)).toInt64))), .second, .val (.long (((((p2.toInt64) + (1 : Int64)) + ((p3 &&& (65535 : Int32)).toInt64)) + (1 : Int64)) + ((p4 &&& (65535 : Int32)).toInt64))), .second, .val (.long (((p2.toInt64) + (1 : Int64)) + ((p3 &&& (65535 : Int32)).toInt64))), .second, .unset, .unset] [(.long (((p2.toInt64) + (1 : Int64)) + ((p3 &&& (65535 : Int32)).toInt64)))])) rfl (hb hby at_100) _ k) ?_
    show OGot p.tables e below (s₁.setTop (mkF m 103 #[.val (.int p1), .val (.int p2), .val (.int p3), .val (.int p4), .val (.int p5), .val (.int (2 : Int32)), .val (.long (p2.toInt64)), .second, .val (.long (((p2.toInt64) + (1 : Int64)) + ((p3 &&& (65535 : Int32)).toInt64))), .second, .val (.long (((((p2.toInt64) + (1 : Int64)) + ((p3 &&& (65535 : Int32)).toInt64)) + (1 : Int64)) + ((p4 &&& (65535 : Int32)).toInt64))), .second, .val (.long (((p2.toInt64) + (1 : Int64)) + ((p3 &&& (65535 : Int32)).toInt64))), .second, .unset, .unset] [(.long (2147483647 : Int64)), (.long (((p2.toInt64) + (1 : Int64)) + ((p3 &&& (65535 : Int32)).toInt64)))])) _
    refine OGot.go (fun t k => XS.lcmp X0.here hx rfl (hb hby at_103) rfl k) ?_
    show OGot p.tables e below (s₁.setTop (mkF m 104 #[.val (.int p1), .val (.int p2), .val (.int p3), .val (.int p4), .val (.int p5), .val (.int (2 : Int32)), .val (.long (p2.toInt64)), .second, .val (.long (((p2.toInt64) + (1 : Int64)) + ((p3 &&& (65535 : Int32)).toInt64))), .second, .val (.long (((((p2.toInt64) + (1 : Int64)) + ((p3 &&& (65535 : Int32)).toInt64)) + (1 : Int64)) + ((p4 &&& (65535 : Int32)).toInt64))), .second, .val (.long (((p2.toInt64) + (1 : Int64)) + ((p3 &&& (65535 : Int32)).toInt64))), .second, .unset, .unset] [(.int (lcmpW (((p2.toInt64) + (1 : Int64)) + ((p3 &&& (65535 : Int32)).toInt64)) (2147483647 : Int64)))])) _
    by_cases hs36 : (2147483647 : Int64) < (((p2.toInt64) + (1 : Int64)) + ((p3 &&& (65535 : Int32)).toInt64))
    · refine OGot.go (fun t k => XS.ifNo X0.here hx rfl (hb hby at_104) rfl ((if0 _ _).trans (tlt ((lw_gt (((p2.toInt64) + (1 : Int64)) + ((p3 &&& (65535 : Int32)).toInt64)) (2147483647 : Int64)).mpr hs36)).2.2.2) k) ?_
      refine OGot.go (fun t k => XS.iconst X0.here hx rfl (hb hby at_107) k) ?_
      show OGot p.tables e below (s₁.setTop (mkF m 108 #[.val (.int p1), .val (.int p2), .val (.int p3), .val (.int p4), .val (.int p5), .val (.int (2 : Int32)), .val (.long (p2.toInt64)), .second, .val (.long (((p2.toInt64) + (1 : Int64)) + ((p3 &&& (65535 : Int32)).toInt64))), .second, .val (.long (((((p2.toInt64) + (1 : Int64)) + ((p3 &&& (65535 : Int32)).toInt64)) + (1 : Int64)) + ((p4 &&& (65535 : Int32)).toInt64))), .second, .val (.long (((p2.toInt64) + (1 : Int64)) + ((p3 &&& (65535 : Int32)).toInt64))), .second, .unset, .unset] [(.int (1 : Int32))])) _
      obtain ⟨fs, hr, hrun, hended, hW, hsame⟩ := X0.leave (v := some (.int (1 : Int32))) (fun h => by rw [Bd.returns] at h; cases h)
      refine ⟨_, _, retN X0 hx (t := .boolean) Bd.returns (by simp) (hb hby at_108) hr, hrun, hended, _, _, rfl, ?_, ⟨_, rfl⟩, hW, hsame.mono (by decide) (by decide)⟩
      exact (⟨rfl, N0⟩ : Q0 Z m_OA w_EMPTY_ELEMENTDATA w_DEFAULTCAPACITY_EMPTY_ELEMENTDATA w_EMPTY_LIST w_EMPTY_LIST_elements w_EMPTY k_w_EMPTY_ELEMENTDATA k_w_DEFAULTCAPACITY_EMPTY_ELEMENTDATA k_w_EMPTY_LIST_elements p1 p2 p3 p4 p5 h0 n0 _ s₁.heap _)
    · refine OGot.go (fun t k => XS.ifYes X0.here hx rfl (pc0 := 104) (pc' := 109) rfl (hb hby at_104) rfl ((if0 _ _).trans (flt (fun q => hs36 ((lw_gt (((p2.toInt64) + (1 : Int64)) + ((p3 &&& (65535 : Int32)).toInt64)) (2147483647 : Int64)).mp q))).2.2.2) (by decide) (by decide) k) ?_
      obtain ⟨T37, h37, X37, e37, E37, A37, D37, -, st37⟩ := newO X0 hx hZ hown (ow hw 3 rfl) (ow hw 4 rfl) (ow hw 5 rfl) e0 (g := (mkF m 109 #[.val (.int p1), .val (.int p2), .val (.int p3), .val (.int p4), .val (.int p5), .val (.int (2 : Int32)), .val (.long (p2.toInt64)), .second, .val (.long (((p2.toInt64) + (1 : Int64)) + ((p3 &&& (65535 : Int32)).toInt64))), .second, .val (.long (((((p2.toInt64) + (1 : Int64)) + ((p3 &&& (65535 : Int32)).toInt64)) + (1 : Int64)) + ((p4 &&& (65535 : Int32)).toInt64))), .second, .val (.long (((p2.toInt64) + (1 : Int64)) + ((p3 &&& (65535 : Int32)).toInt64))), .second, .unset, .unset] [])) rfl (hb hby at_109) (by decide) (by decide)
      obtain ⟨b37, g37⟩ : ∃ z, z = h0.size := ⟨_, rfl⟩
      rw [← g37] at A37 D37 st37
      refine OGot.go st37 ?_
      have g_b37 : n0 ≤ b37 := Nat.le_trans (osz O0) (Nat.le_of_eq g37.symm)
      have sy_b37 : h0.size ≤ b37 := Nat.le_of_eq g37.symm
      have O37 := O0.ext E37
      have F37_modCount : Fld Z h37 b37 "java/util/AbstractList" "modCount" "I" (.int (0 : Int32)) := D37 (Or.inl (ow hw 25 rfl)) (ty := .int) (by decide)
      have F37_elementData : Fld Z h37 b37 "java/util/ArrayList" "elementData" "[Ljava/lang/Object;" .null := D37 (Or.inl (ow hw 28 rfl)) (ty := (.array (.object "java/lang/Object"))) (by decide)
      have F37_size : Fld Z h37 b37 "java/util/ArrayList" "size" "I" (.int (0 : Int32)) := D37 (Or.inl (ow hw 62 rfl)) (ty := .int) (by decide)
      refine OGot.go (fun t k => XS.dup X37.here hx rfl (hb hby at_112) rfl rfl k) ?_
      obtain ⟨_, _, ⟨T38, L38, k38, n38⟩, -, X38, ⟨Lc38, hQ38, l38, y38, z38⟩, st38⟩ := X37.specialBack hx (y := (⟨"java/util/ArrayList", "<init>", "()V"⟩ : MethodName)) rfl hown (mvT hZ (ow hw 6 rfl)) (mvT hZ (ow hw 7 rfl)) (mvT hZ (ow hw 8 rfl)) (by decide) (backOf (W := 1) (rm1 l Z a0 hw [] G b37 h37 n0 O37 A37 F37_modCount g_b37 F37_elementData) hZ (ow hw 8 rfl) (ow hw 5 rfl) (by decide) (by decide)) (g := (mkF m 113 #[.val (.int p1), .val (.int p2), .val (.int p3), .val (.int p4), .val (.int p5), .val (.int (2 : Int32)), .val (.long (p2.toInt64)), .second, .val (.long (((p2.toInt64) + (1 : Int64)) + ((p3 &&& (65535 : Int32)).toInt64))), .second, .val (.long (((((p2.toInt64) + (1 : Int64)) + ((p3 &&& (65535 : Int32)).toInt64)) + (1 : Int64)) + ((p4 &&& (65535 : Int32)).toInt64))), .second, .val (.long (((p2.toInt64) + (1 : Int64)) + ((p3 &&& (65535 : Int32)).toInt64))), .second, .unset, .unset] [(.ref b37), (.ref b37)])) rfl (by rw [hml]; rfl) (Steps.refl _) (a := b37) (argsL := []) (rest := [(.ref b37)]) (lenOf pd_0 rfl) rfl (by show 2 * 0 + _ ≤ _; exact Nat.le_of_eq rfl) (hb hby at_113) (fun _ _ => ⟨rfl, e37, (by decide : 1 + 0 ≤ _), (by decide : 3 + 0 ≤ _)⟩)
      dsimp only [Pt.U, Pt.locs, Pt.cells, Pt.slots] at X38 l38 y38 z38 st38 hQ38
      subst l38 y38 z38
      obtain ⟨N38q, rfl, K38, Fo38_0, Fo38_1⟩ := hQ38
      have O38 := OKeep.old O37 K38 (ogeS g_b37 (ogeS g_b37 oge0))
      have N38 := Fr.app N0 N38q
      refine OGot.on st38 ?_
      refine OGot.go (fun t k => XS.astore X38.here hx rfl (hb hby at_116) rfl rfl (l' := #[.val (.int p1), .val (.int p2), .val (.int p3), .val (.int p4), .val (.int p5), .val (.int (2 : Int32)), .val (.long (p2.toInt64)), .second, .val (.long (((p2.toInt64) + (1 : Int64)) + ((p3 &&& (65535 : Int32)).toInt64))), .second, .val (.long (((((p2.toInt64) + (1 : Int64)) + ((p3 &&& (65535 : Int32)).toInt64)) + (1 : Int64)) + ((p4 &&& (65535 : Int32)).toInt64))), .second, .val (.long (((p2.toInt64) + (1 : Int64)) + ((p3 &&& (65535 : Int32)).toInt64))), .second, .val (.ref b37), .unset]) rfl k) ?_
      show OGot p.tables e below (T38.setTop (mkF m 118 #[.val (.int p1), .val (.int p2), .val (.int p3), .val (.int p4), .val (.int p5), .val (.int (2 : Int32)), .val (.long (p2.toInt64)), .second, .val (.long (((p2.toInt64) + (1 : Int64)) + ((p3 &&& (65535 : Int32)).toInt64))), .second, .val (.long (((((p2.toInt64) + (1 : Int64)) + ((p3 &&& (65535 : Int32)).toInt64)) + (1 : Int64)) + ((p4 &&& (65535 : Int32)).toInt64))), .second, .val (.long (((p2.toInt64) + (1 : Int64)) + ((p3 &&& (65535 : Int32)).toInt64))), .second, .val (.ref b37), .unset] [])) _
      refine OGot.go (fun t k => XS.aload X38.here hx rfl (hb hby at_118) rfl rfl k) ?_
      obtain ⟨T39, h39, X39, e39, E39, A39, D39, -, st39⟩ := newO X38 hx hZ hown (ow hw 96 rfl) (ow hw 97 rfl) (ow hw 98 rfl) rfl (g := (mkF m 120 #[.val (.int p1), .val (.int p2), .val (.int p3), .val (.int p4), .val (.int p5), .val (.int (2 : Int32)), .val (.long (p2.toInt64)), .second, .val (.long (((p2.toInt64) + (1 : Int64)) + ((p3 &&& (65535 : Int32)).toInt64))), .second, .val (.long (((((p2.toInt64) + (1 : Int64)) + ((p3 &&& (65535 : Int32)).toInt64)) + (1 : Int64)) + ((p4 &&& (65535 : Int32)).toInt64))), .second, .val (.long (((p2.toInt64) + (1 : Int64)) + ((p3 &&& (65535 : Int32)).toInt64))), .second, .val (.ref b37), .unset] [(.ref b37)])) rfl (hb hby at_120) (by decide) (by decide)
      obtain ⟨b39, g39⟩ : ∃ z, z = T38.heap.size := ⟨_, rfl⟩
      rw [← g39] at A39 D39 st39
      refine OGot.go st39 ?_
      have g_b39 : n0 ≤ b39 := Nat.le_trans (osz O38) (Nat.le_of_eq g39.symm)
      have sy_b39 : T38.heap.size ≤ b39 := Nat.le_of_eq g39.symm
      have O39 := O38.ext E39
      have F39_nSlot : Fld Z h39 b39 "com/example/curtail/curtail/Placement$Cell" "nSlot" "I" (.int (0 : Int32)) := D39 (Or.inr (ow hw 104 rfl)) (ty := .int) (by decide)
      have F39_nCloudlet : Fld Z h39 b39 "com/example/curtail/curtail/Placement$Cell" "nCloudlet" "I" (.int (0 : Int32)) := D39 (Or.inr (ow hw 106 rfl)) (ty := .int) (by decide)
      refine OGot.go (fun t k => XS.dup X39.here hx rfl (hb hby at_123) rfl rfl k) ?_
      refine OGot.go (fun t k => XS.lload X39.here hx rfl (hb hby at_124) rfl k) ?_
      refine OGot.go (fun t k => XS.l2i X39.here hx rfl (hb hby at_126) rfl k) ?_
      show OGot p.tables e below (T39.setTop (mkF m 127 #[.val (.int p1), .val (.int p2), .val (.int p3), .val (.int p4), .val (.int p5), .val (.int (2 : Int32)), .val (.long (p2.toInt64)), .second, .val (.long (((p2.toInt64) + (1 : Int64)) + ((p3 &&& (65535 : Int32)).toInt64))), .second, .val (.long (((((p2.toInt64) + (1 : Int64)) + ((p3 &&& (65535 : Int32)).toInt64)) + (1 : Int64)) + ((p4 &&& (65535 : Int32)).toInt64))), .second, .val (.long (((p2.toInt64) + (1 : Int64)) + ((p3 &&& (65535 : Int32)).toInt64))), .second, .val (.ref b37), .unset] [(.int ((p2.toInt64).toInt32)), (.ref b39), (.ref b39), (.ref b37)])) _
      refine OGot.go (fun t k => XS.iload X39.here hx rfl (hb hby at_127) rfl k) ?_
      obtain ⟨_, _, ⟨T40, L40, k40, n40⟩, -, X40, ⟨Lc40, hQ40, l40, y40, z40⟩, st40⟩ := X39.specialBack hx (y := (⟨"com/example/curtail/curtail/Placement$Cell", "<init>", "(II)V"⟩ : MethodName)) rfl hown (mvT hZ (ow hw 99 rfl)) (mvT hZ (ow hw 100 rfl)) (mvT hZ (ow hw 101 rfl)) (by decide) (backOf (W := 2) (rm14 l Z a0 hw [] G b39 ((p2.toInt64).toInt32) p5 h39 n0 O39 A39 F39_nSlot g_b39 F39_nCloudlet) hZ (ow hw 101 rfl) (ow hw 98 rfl) (by decide) (by decide)) (g := (mkF m 129 #[.val (.int p1), .val (.int p2), .val (.int p3), .val (.int p4), .val (.int p5), .val (.int (2 : Int32)), .val (.long (p2.toInt64)), .second, .val (.long (((p2.toInt64) + (1 : Int64)) + ((p3 &&& (65535 : Int32)).toInt64))), .second, .val (.long (((((p2.toInt64) + (1 : Int64)) + ((p3 &&& (65535 : Int32)).toInt64)) + (1 : Int64)) + ((p4 &&& (65535 : Int32)).toInt64))), .second, .val (.long (((p2.toInt64) + (1 : Int64)) + ((p3 &&& (65535 : Int32)).toInt64))), .second, .val (.ref b37), .unset] [(.int p5), (.int ((p2.toInt64).toInt32)), (.ref b39), (.ref b39), (.ref b37)])) rfl (by rw [hml]; rfl) (Steps.refl _) (a := b39) (argsL := [(.int ((p2.toInt64).toInt32)), (.int p5)]) (rest := [(.ref b39), (.ref b37)]) (lenOf pd_6 rfl) rfl (by show 2 * 0 + _ ≤ _; exact Nat.le_of_eq rfl) (hb hby at_129) (fun _ _ => ⟨rfl, e39, (by decide : 2 + 0 ≤ _), (by decide : 5 + 0 ≤ _)⟩)
      dsimp only [Pt.U, Pt.locs, Pt.cells, Pt.slots] at X40 l40 y40 z40 st40 hQ40
      subst l40 y40 z40
      obtain ⟨N40q, rfl, K40, Fo40_0, Fo40_1⟩ := hQ40
      have O40 := OKeep.old O39 K40 (ogeS g_b39 (ogeS g_b39 oge0))
      have N40 := Fr.app N38 N40q
      refine OGot.on st40 ?_
      have ne41 : w_DEFAULTCAPACITY_EMPTY_ELEMENTDATA ≠ b37 := (O40.ne G.2.2.2.2.1.lt g_b37)
      have ne43 : b37 ≠ b39 := (Nat.ne_of_lt (Nat.lt_of_lt_of_le (Nat.lt_of_lt_of_le A37.lt K38.1) sy_b39))
      have F44 : Fld Z T40.heap b37 "java/util/AbstractList" "modCount" "I" (.int (0 : Int32)) := (OKeep.fld (Fo38_0.ext E39) K40 (oninA ne43 (oninA ne43 onin0)))
      have F45 : Fld Z T40.heap b37 "java/util/ArrayList" "elementData" "[Ljava/lang/Object;" (.ref w_DEFAULTCAPACITY_EMPTY_ELEMENTDATA) := (OKeep.fld (Fo38_1.ext E39) K40 (oninA ne43 (oninA ne43 onin0)))
      have F46 : Fld Z T40.heap b37 "java/util/ArrayList" "size" "I" (.int (0 : Int32)) := (OKeep.fld ((OKeep.fld F37_size K38 (oninS (slot_ne (Or.inl (ow hw 62 rfl)) (Or.inl (ow hw 25 rfl)) (by decide) (t := .int) (t' := .int) (by decide) (by decide)) (oninS (slot_ne (Or.inl (ow hw 62 rfl)) (Or.inl (ow hw 28 rfl)) (by decide) (t := .int) (t' := (.array (.object "java/lang/Object"))) (by decide) (by decide)) onin0))).ext E39) K40 (oninA ne43 (oninA ne43 onin0)))
      obtain ⟨cq42, kq42, q42a, q42b, q42c⟩ := isOf hZ rfl (OKeep.exa ((OKeep.exa A37 K38).ext E39) K40)
      obtain ⟨_, _, ⟨T42, L42, k42, n42⟩, -, X42, ⟨Lc42, hQ42, l42, y42, z42⟩, st42⟩ := X40.virtualBack hx (y := (⟨"java/util/ArrayList", "add", "(Ljava/lang/Object;)Z"⟩ : MethodName)) (z := (⟨"java/util/ArrayList", "add", "(Ljava/lang/Object;)Z"⟩ : MethodName)) hown (mvT hZ (ow hw 107 rfl)) (mvT hZ (ow hw 108 rfl)) (notFace_of_selects (args := #[]) (mvT hZ (ow hw 110 rfl))) (mvT hZ (ow hw 110 rfl)) (mvT hZ (ow hw 109 rfl)) (by decide) (backOf (W := 0) (rm15 l Z a0 hw [] G b37 b39 w_DEFAULTCAPACITY_EMPTY_ELEMENTDATA k_w_DEFAULTCAPACITY_EMPTY_ELEMENTDATA T40.heap n0 O40 F44 (OKeep.exa ((OKeep.exa A37 K38).ext E39) K40) g_b37 F45 F46 (G.2.2.2.2.2.2.2.2.2.2.2.2.1.ext O40.2) (G.2.2.2.2.1.ext O40.2) rfl (OKeep.exa A39 K40) ne41) hZ (ow hw 111 rfl) (ow hw 5 rfl) (by decide) (by decide)) q42a q42c (g := (mkF m 132 #[.val (.int p1), .val (.int p2), .val (.int p3), .val (.int p4), .val (.int p5), .val (.int (2 : Int32)), .val (.long (p2.toInt64)), .second, .val (.long (((p2.toInt64) + (1 : Int64)) + ((p3 &&& (65535 : Int32)).toInt64))), .second, .val (.long (((((p2.toInt64) + (1 : Int64)) + ((p3 &&& (65535 : Int32)).toInt64)) + (1 : Int64)) + ((p4 &&& (65535 : Int32)).toInt64))), .second, .val (.long (((p2.toInt64) + (1 : Int64)) + ((p3 &&& (65535 : Int32)).toInt64))), .second, .val (.ref b37), .unset] [(.ref b39), (.ref b37)])) rfl (by rw [hml]; rfl) (Steps.refl _) (argsL := [(.ref b39)]) (rest := []) (lenOf pd_11 rfl) rfl (by show 2 * 0 + _ ≤ _; exact Nat.le_of_eq rfl) (hb hby at_132) (fun _ _ => ⟨rfl, rfl, (by decide : 2 + 1 ≤ _), (by decide : 5 + 10 ≤ _)⟩)
      dsimp only [Pt.U, Pt.locs, Pt.cells, Pt.slots] at X42 l42 y42 z42 st42 hQ42
      subst l42 y42 z42
      obtain ⟨N42q, b9_5_6_11_42, k9_5_6_11_42, rfl, szb9_5_6_11_42_42, K42, Fo42_0, Fo42_1, Fo42_2, Fo42_3, Fo42_4, Fo42_5⟩ := hQ42
      have g_b9_5_6_11_42 : n0 ≤ b9_5_6_11_42 := Nat.le_trans (osz O40) szb9_5_6_11_42_42
      have O42 := OKeep.old O40 K42 (ogeS g_b37 (ogeS g_b37 (ogeS g_b37 oge0)))
      have N42 := Fr.app N40 N42q
      refine OGot.on st42 ?_
      refine OGot.go (fun t k => XS.pop X42.here hx rfl (hb hby at_135) rfl rfl k) ?_
      refine OGot.go (fun t k => XS.iload X42.here hx rfl (hb hby at_136) rfl k) ?_
      show OGot p.tables e below (T42.setTop (mkF m 138 #[.val (.int p1), .val (.int p2), .val (.int p3), .val (.int p4), .val (.int p5), .val (.int (2 : Int32)), .val (.long (p2.toInt64)), .second, .val (.long (((p2.toInt64) + (1 : Int64)) + ((p3 &&& (65535 : Int32)).toInt64))), .second, .val (.long (((((p2.toInt64) + (1 : Int64)) + ((p3 &&& (65535 : Int32)).toInt64)) + (1 : Int64)) + ((p4 &&& (65535 : Int32)).toInt64))), .second, .val (.long (((p2.toInt64) + (1 : Int64)) + ((p3 &&& (65535 : Int32)).toInt64))), .second, .val (.ref b37), .unset] [(.int (2 : Int32))])) _
      refine OGot.go (fun t k => XS.iconst X42.here hx rfl (hb hby at_138) k) ?_
      refine OGot.go (fun t k => XS.icmpNo X42.here hx rfl (hb hby at_139) rfl (by decide) k) ?_
      refine OGot.go (fun t k => XS.aload X42.here hx rfl (hb hby at_142) rfl rfl k) ?_
      obtain ⟨T47, h47, X47, e47, E47, A47, D47, -, st47⟩ := newO X42 hx hZ hown (ow hw 96 rfl) (ow hw 97 rfl) (ow hw 98 rfl) rfl (g := (mkF m 144 #[.val (.int p1), .val (.int p2), .val (.int p3), .val (.int p4), .val (.int p5), .val (.int (2 : Int32)), .val (.long (p2.toInt64)), .second, .val (.long (((p2.toInt64) + (1 : Int64)) + ((p3 &&& (65535 : Int32)).toInt64))), .second, .val (.long (((((p2.toInt64) + (1 : Int64)) + ((p3 &&& (65535 : Int32)).toInt64)) + (1 : Int64)) + ((p4 &&& (65535 : Int32)).toInt64))), .second, .val (.long (((p2.toInt64) + (1 : Int64)) + ((p3 &&& (65535 : Int32)).toInt64))), .second, .val (.ref b37), .unset] [(.ref b37)])) rfl (hb hby at_144) (by decide) (by decide)
      obtain ⟨b47, g47⟩ : ∃ z, z = T42.heap.size := ⟨_, rfl⟩
      rw [← g47] at A47 D47 st47
      refine OGot.go st47 ?_
      have g_b47 : n0 ≤ b47 := Nat.le_trans (osz O42) (Nat.le_of_eq g47.symm)
      have sy_b47 : T42.heap.size ≤ b47 := Nat.le_of_eq g47.symm
      have O47 := O42.ext E47
      have F47_nSlot : Fld Z h47 b47 "com/example/curtail/curtail/Placement$Cell" "nSlot" "I" (.int (0 : Int32)) := D47 (Or.inr (ow hw 104 rfl)) (ty := .int) (by decide)
      have F47_nCloudlet : Fld Z h47 b47 "com/example/curtail/curtail/Placement$Cell" "nCloudlet" "I" (.int (0 : Int32)) := D47 (Or.inr (ow hw 106 rfl)) (ty := .int) (by decide)
      refine OGot.go (fun t k => XS.dup X47.here hx rfl (hb hby at_147) rfl rfl k) ?_
      show OGot p.tables e below (T47.setTop (mkF m 148 #[.val (.int p1), .val (.int p2), .val (.int p3), .val (.int p4), .val (.int p5), .val (.int (2 : Int32)), .val (.long (p2.toInt64)), .second, .val (.long (((p2.toInt64) + (1 : Int64)) + ((p3 &&& (65535 : Int32)).toInt64))), .second, .val (.long (((((p2.toInt64) + (1 : Int64)) + ((p3 &&& (65535 : Int32)).toInt64)) + (1 : Int64)) + ((p4 &&& (65535 : Int32)).toInt64))), .second, .val (.long (((p2.toInt64) + (1 : Int64)) + ((p3 &&& (65535 : Int32)).toInt64))), .second, .val (.ref b37), .unset] [(.ref b47), (.ref b47), (.ref b37)])) _
      refine OGot.go (fun t k => XS.lload X47.here hx rfl (hb hby at_148) rfl k) ?_
      refine OGot.go (fun t k => XS.l2i X47.here hx rfl (hb hby at_150) rfl k) ?_
      refine OGot.go (fun t k => XS.iload X47.here hx rfl (hb hby at_151) rfl k) ?_
      refine OGot.go (fun t k => XS.iloadN X47.here hx rfl (hb hby at_153) rfl k) ?_
      refine OGot.go (fun t k => XS.ixor X47.here hx rfl (hb hby at_154) rfl k) ?_
      show OGot p.tables e below (T47.setTop (mkF m 155 #[.val (.int p1), .val (.int p2), .val (.int p3), .val (.int p4), .val (.int p5), .val (.int (2 : Int32)), .val (.long (p2.toInt64)), .second, .val (.long (((p2.toInt64) + (1 : Int64)) + ((p3 &&& (65535 : Int32)).toInt64))), .second, .val (.long (((((p2.toInt64) + (1 : Int64)) + ((p3 &&& (65535 : Int32)).toInt64)) + (1 : Int64)) + ((p4 &&& (65535 : Int32)).toInt64))), .second, .val (.long (((p2.toInt64) + (1 : Int64)) + ((p3 &&& (65535 : Int32)).toInt64))), .second, .val (.ref b37), .unset] [(.int (p5 ^^^ p3)), (.int ((((p2.toInt64) + (1 : Int64)) + ((p3 &&& (65535 : Int32)).toInt64)).toInt32)), (.ref b47), (.ref b47), (.ref b37)])) _
      obtain ⟨_, _, ⟨T48, L48, k48, n48⟩, -, X48, ⟨Lc48, hQ48, l48, y48, z48⟩, st48⟩ := X47.specialBack hx (y := (⟨"com/example/curtail/curtail/Placement$Cell", "<init>", "(II)V"⟩ : MethodName)) rfl hown (mvT hZ (ow hw 99 rfl)) (mvT hZ (ow hw 100 rfl)) (mvT hZ (ow hw 101 rfl)) (by decide) (backOf (W := 2) (rm14 l Z a0 hw [] G b47 ((((p2.toInt64) + (1 : Int64)) + ((p3 &&& (65535 : Int32)).toInt64)).toInt32) (p5 ^^^ p3) h47 n0 O47 A47 F47_nSlot g_b47 F47_nCloudlet) hZ (ow hw 101 rfl) (ow hw 98 rfl) (by decide) (by decide)) (g := (mkF m 155 #[.val (.int p1), .val (.int p2), .val (.int p3), .val (.int p4), .val (.int p5), .val (.int (2 : Int32)), .val (.long (p2.toInt64)), .second, .val (.long (((p2.toInt64) + (1 : Int64)) + ((p3 &&& (65535 : Int32)).toInt64))), .second, .val (.long (((((p2.toInt64) + (1 : Int64)) + ((p3 &&& (65535 : Int32)).toInt64)) + (1 : Int64)) + ((p4 &&& (65535 : Int32)).toInt64))), .second, .val (.long (((p2.toInt64) + (1 : Int64)) + ((p3 &&& (65535 : Int32)).toInt64))), .second, .val (.ref b37), .unset] [(.int (p5 ^^^ p3)), (.int ((((p2.toInt64) + (1 : Int64)) + ((p3 &&& (65535 : Int32)).toInt64)).toInt32)), (.ref b47), (.ref b47), (.ref b37)])) rfl (by rw [hml]; rfl) (Steps.refl _) (a := b47) (argsL := [(.int ((((p2.toInt64) + (1 : Int64)) + ((p3 &&& (65535 : Int32)).toInt64)).toInt32)), (.int (p5 ^^^ p3))]) (rest := [(.ref b47), (.ref b37)]) (lenOf pd_6 rfl) rfl (by show 2 * 0 + _ ≤ _; exact Nat.le_of_eq rfl) (hb hby at_155) (fun _ _ => ⟨rfl, e47, (by decide : 4 + 0 ≤ _), (by decide : 17 + 0 ≤ _)⟩)
      dsimp only [Pt.U, Pt.locs, Pt.cells, Pt.slots] at X48 l48 y48 z48 st48 hQ48
      subst l48 y48 z48
      obtain ⟨N48q, rfl, K48, Fo48_0, Fo48_1⟩ := hQ48
      have O48 := OKeep.old O47 K48 (ogeS g_b47 (ogeS g_b47 oge0))
      have N48 := Fr.app N42 N48q
      refine OGot.on st48 ?_
      have ne49 : b37 ≠ b9_5_6_11_42 := (Nat.ne_of_lt (Nat.lt_of_lt_of_le (Nat.lt_of_lt_of_le (Nat.lt_of_lt_of_le (Nat.lt_of_lt_of_le A37.lt K38.1) E39.1) K40.1) szb9_5_6_11_42_42))
      have ne51 : b37 ≠ b47 := (Nat.ne_of_lt (Nat.lt_of_lt_of_le (Nat.lt_of_lt_of_le (Nat.lt_of_lt_of_le (Nat.lt_of_lt_of_le (Nat.lt_of_lt_of_le A37.lt K38.1) E39.1) K40.1) K42.1) sy_b47))
      have F52 : Fld Z T48.heap b37 "java/util/AbstractList" "modCount" "I" (.int (1 : Int32)) := (OKeep.fld (Fo42_0.ext E47) K48 (oninA ne51 (oninA ne51 onin0)))
      have F53 : Fld Z T48.heap b37 "java/util/ArrayList" "elementData" "[Ljava/lang/Object;" (.ref b9_5_6_11_42) := (OKeep.fld (Fo42_2.ext E47) K48 (oninA ne51 (oninA ne51 onin0)))
      have F54 : Fld Z T48.heap b37 "java/util/ArrayList" "size" "I" (.int (1 : Int32)) := (OKeep.fld (Fo42_1.ext E47) K48 (oninA ne51 (oninA ne51 onin0)))
      have ne55 : b9_5_6_11_42 ≠ b47 := (Nat.ne_of_lt (Nat.lt_of_lt_of_le Fo42_3.lt sy_b47))
      have F56 : Arv Z T48.heap b9_5_6_11_42 k9_5_6_11_42 (.object "java/lang/Object") (10 : Int32) [(.ref b39), .null, .null, .null, .null, .null, .null, .null, .null, .null] .null := (OKeep.arv (Fo42_4.ext E47) K48 (oallS ne55 (oallS ne55 oall0)))
      obtain ⟨cq50, kq50, q50a, q50b, q50c⟩ := isOf hZ rfl (OKeep.exa ((OKeep.exa (OKeep.exa ((OKeep.exa A37 K38).ext E39) K40) K42).ext E47) K48)
      obtain ⟨_, _, ⟨T50, L50, k50, n50⟩, -, X50, ⟨Lc50, hQ50, l50, y50, z50⟩, st50⟩ := X48.virtualBack hx (y := (⟨"java/util/ArrayList", "add", "(Ljava/lang/Object;)Z"⟩ : MethodName)) (z := (⟨"java/util/ArrayList", "add", "(Ljava/lang/Object;)Z"⟩ : MethodName)) hown (mvT hZ (ow hw 107 rfl)) (mvT hZ (ow hw 108 rfl)) (notFace_of_selects (args := #[]) (mvT hZ (ow hw 110 rfl))) (mvT hZ (ow hw 110 rfl)) (mvT hZ (ow hw 109 rfl)) (by decide) (backOf (W := 0) (rm15_1 l Z a0 hw [] G b37 b47 b9_5_6_11_42 k9_5_6_11_42 b39 T48.heap n0 O48 F52 (OKeep.exa ((OKeep.exa (OKeep.exa ((OKeep.exa A37 K38).ext E39) K40) K42).ext E47) K48) g_b37 F53 F54 F56 Fo42_5 g_b9_5_6_11_42 (OKeep.exa A47 K48) ne49) hZ (ow hw 111 rfl) (ow hw 5 rfl) (by decide) (by decide)) q50a q50c (g := (mkF m 158 #[.val (.int p1), .val (.int p2), .val (.int p3), .val (.int p4), .val (.int p5), .val (.int (2 : Int32)), .val (.long (p2.toInt64)), .second, .val (.long (((p2.toInt64) + (1 : Int64)) + ((p3 &&& (65535 : Int32)).toInt64))), .second, .val (.long (((((p2.toInt64) + (1 : Int64)) + ((p3 &&& (65535 : Int32)).toInt64)) + (1 : Int64)) + ((p4 &&& (65535 : Int32)).toInt64))), .second, .val (.long (((p2.toInt64) + (1 : Int64)) + ((p3 &&& (65535 : Int32)).toInt64))), .second, .val (.ref b37), .unset] [(.ref b47), (.ref b37)])) rfl (by rw [hml]; rfl) (Steps.refl _) (argsL := [(.ref b47)]) (rest := []) (lenOf pd_11 rfl) rfl (by show 2 * 0 + _ ≤ _; exact Nat.le_of_eq rfl) (hb hby at_158) (fun _ _ => ⟨rfl, rfl, (by decide : 4 + 0 ≤ _), (by decide : 17 + 0 ≤ _)⟩)
      dsimp only [Pt.U, Pt.locs, Pt.cells, Pt.slots] at X50 l50 y50 z50 st50 hQ50
      subst l50 y50 z50
      obtain ⟨N50q, rfl, K50, Fo50_0, Fo50_1, Fo50_2⟩ := hQ50
      have O50 := OKeep.old O48 K50 (ogeS g_b37 (ogeS g_b37 (ogeS g_b9_5_6_11_42 oge0)))
      have N50 := Fr.app N48 N50q
      refine OGot.on st50 ?_
      refine OGot.go (fun t k => XS.pop X50.here hx rfl (hb hby at_161) rfl rfl k) ?_
      refine OGot.go (fun t k => XS.iload X50.here hx rfl (hb hby at_162) rfl k) ?_
      refine OGot.go (fun t k => XS.iconst X50.here hx rfl (hb hby at_164) k) ?_
      show OGot p.tables e below (T50.setTop (mkF m 165 #[.val (.int p1), .val (.int p2), .val (.int p3), .val (.int p4), .val (.int p5), .val (.int (2 : Int32)), .val (.long (p2.toInt64)), .second, .val (.long (((p2.toInt64) + (1 : Int64)) + ((p3 &&& (65535 : Int32)).toInt64))), .second, .val (.long (((((p2.toInt64) + (1 : Int64)) + ((p3 &&& (65535 : Int32)).toInt64)) + (1 : Int64)) + ((p4 &&& (65535 : Int32)).toInt64))), .second, .val (.long (((p2.toInt64) + (1 : Int64)) + ((p3 &&& (65535 : Int32)).toInt64))), .second, .val (.ref b37), .unset] [(.int (3 : Int32)), (.int (2 : Int32))])) _
      refine OGot.go (fun t k => XS.icmpYes X50.here hx rfl (pc0 := 165) (pc' := 188) rfl (hb hby at_165) rfl (by decide) (by decide) (by decide) k) ?_
      obtain ⟨T57, h57, X57, e57, E57, A57, D57, -, st57⟩ := newO X50 hx hZ hown (ow hw 0 rfl) (ow hw 1 rfl) (ow hw 2 rfl) rfl (g := (mkF m 188 #[.val (.int p1), .val (.int p2), .val (.int p3), .val (.int p4), .val (.int p5), .val (.int (2 : Int32)), .val (.long (p2.toInt64)), .second, .val (.long (((p2.toInt64) + (1 : Int64)) + ((p3 &&& (65535 : Int32)).toInt64))), .second, .val (.long (((((p2.toInt64) + (1 : Int64)) + ((p3 &&& (65535 : Int32)).toInt64)) + (1 : Int64)) + ((p4 &&& (65535 : Int32)).toInt64))), .second, .val (.long (((p2.toInt64) + (1 : Int64)) + ((p3 &&& (65535 : Int32)).toInt64))), .second, .val (.ref b37), .unset] [])) rfl (hb hby at_188) (by decide) (by decide)
      obtain ⟨b57, g57⟩ : ∃ z, z = T50.heap.size := ⟨_, rfl⟩
      rw [← g57] at A57 D57 st57
      refine OGot.go st57 ?_
      have g_b57 : n0 ≤ b57 := Nat.le_trans (osz O50) (Nat.le_of_eq g57.symm)
      have sy_b57 : T50.heap.size ≤ b57 := Nat.le_of_eq g57.symm
      have O57 := O50.ext E57
      have F57_aCells : Fld Z h57 b57 "com/example/curtail/curtail/Placement" "aCells" "Ljava/util/List;" .null := D57 (Or.inr (ow hw 80 rfl)) (ty := (.object "java/util/List")) (by decide)
      refine OGot.go (fun t k => XS.dup X57.here hx rfl (hb hby at_191) rfl rfl k) ?_
      refine OGot.go (fun t k => XS.aload X57.here hx rfl (hb hby at_192) rfl rfl k) ?_
      have F59 : Fld Z h57 b37 "java/util/ArrayList" "size" "I" (.int (2 : Int32)) := (Fo50_1.ext E57)
      have F60 : Fld Z h57 b37 "java/util/ArrayList" "elementData" "[Ljava/lang/Object;" (.ref b9_5_6_11_42) := ((OKeep.fld F53 K50 (oninS (slot_ne (Or.inl (ow hw 28 rfl)) (Or.inl (ow hw 25 rfl)) (by decide) (t := (.array (.object "java/lang/Object"))) (t' := .int) (by decide) (by decide)) (oninS (slot_ne (Or.inl (ow hw 28 rfl)) (Or.inl (ow hw 62 rfl)) (by decide) (t := (.array (.object "java/lang/Object"))) (t' := .int) (by decide) (by decide)) (oninA ne49 onin0)))).ext E57)
      have F61 : Arv Z h57 b9_5_6_11_42 k9_5_6_11_42 (.object "java/lang/Object") (10 : Int32) [(.ref b39), (.ref b47), .null, .null, .null, .null, .null, .null, .null, .null] .null := (Fo50_2.ext E57)
      have F62 : Fld Z h57 b47 "com/example/curtail/curtail/Placement$Cell" "nSlot" "I" (.int ((((p2.toInt64) + (1 : Int64)) + ((p3 &&& (65535 : Int32)).toInt64)).toInt32)) := ((OKeep.fld Fo48_0 K50 (oninA (Ne.symm ne51) (oninA (Ne.symm ne51) (oninA (Ne.symm ne55) onin0)))).ext E57)
      have ne63 : b39 ≠ b47 := (Nat.ne_of_lt (Nat.lt_of_lt_of_le (Nat.lt_of_lt_of_le (Nat.lt_of_lt_of_le A39.lt K40.1) K42.1) sy_b47))
      have ne64 : b39 ≠ b9_5_6_11_42 := (Nat.ne_of_lt (Nat.lt_of_lt_of_le (Nat.lt_of_lt_of_le A39.lt K40.1) szb9_5_6_11_42_42))
      have F65 : Fld Z h57 b39 "com/example/curtail/curtail/Placement$Cell" "nSlot" "I" (.int ((p2.toInt64).toInt32)) := ((OKeep.fld (OKeep.fld ((OKeep.fld Fo40_0 K42 (oninA (Ne.symm ne43) (oninA (Ne.symm ne43) (oninA (Ne.symm ne43) onin0)))).ext E47) K48 (oninA ne63 (oninA ne63 onin0))) K50 (oninA (Ne.symm ne43) (oninA (Ne.symm ne43) (oninA ne64 onin0)))).ext E57)
      obtain ⟨_, _, ⟨T58, L58, k58, n58⟩, -, X58, ⟨Lc58, hQ58, l58, y58, z58⟩, st58⟩ := X57.specialBack hx (y := (⟨"com/example/curtail/curtail/Placement", "<init>", "(Ljava/util/List;)V"⟩ : MethodName)) rfl hown (mvT hZ (ow hw 29 rfl)) (mvT hZ (ow hw 30 rfl)) (mvT hZ (ow hw 31 rfl)) (by decide) (backOf (W := 1) (rm5_2 l Z a0 hw [] G b57 b37 b9_5_6_11_42 k9_5_6_11_42 b39 b47 ((((p2.toInt64) + (1 : Int64)) + ((p3 &&& (65535 : Int32)).toInt64)).toInt32) ((p2.toInt64).toInt32) h57 n0 O57 ((OKeep.exa (OKeep.exa ((OKeep.exa (OKeep.exa ((OKeep.exa A37 K38).ext E39) K40) K42).ext E47) K48) K50).ext E57) F59 F60 ((OKeep.exa (OKeep.exa (Fo42_3.ext E47) K48) K50).ext E57) F61 Fo42_5 ((OKeep.exa (OKeep.exa A47 K48) K50).ext E57) ((OKeep.exa (OKeep.exa ((OKeep.exa (OKeep.exa A39 K40) K42).ext E47) K48) K50).ext E57) F62 F65 (own_a p2 p3 p4 hs36) A57 F57_aCells g_b57) hZ (ow hw 31 rfl) (ow hw 2 rfl) (by decide) (by decide)) (g := (mkF m 194 #[.val (.int p1), .val (.int p2), .val (.int p3), .val (.int p4), .val (.int p5), .val (.int (2 : Int32)), .val (.long (p2.toInt64)), .second, .val (.long (((p2.toInt64) + (1 : Int64)) + ((p3 &&& (65535 : Int32)).toInt64))), .second, .val (.long (((((p2.toInt64) + (1 : Int64)) + ((p3 &&& (65535 : Int32)).toInt64)) + (1 : Int64)) + ((p4 &&& (65535 : Int32)).toInt64))), .second, .val (.long (((p2.toInt64) + (1 : Int64)) + ((p3 &&& (65535 : Int32)).toInt64))), .second, .val (.ref b37), .unset] [(.ref b37), (.ref b57), (.ref b57)])) rfl (by rw [hml]; rfl) (Steps.refl _) (a := b57) (argsL := [(.ref b37)]) (rest := [(.ref b57)]) (lenOf pd_5 rfl) rfl (by show 2 * 0 + _ ≤ _; exact Nat.le_of_eq rfl) (hb hby at_194) (fun _ _ => ⟨rfl, e57, (by decide : 5 + 2 ≤ _), (by decide : 18 + 4 ≤ _)⟩)
      dsimp only [Pt.U, Pt.locs, Pt.cells, Pt.slots] at X58 l58 y58 z58 st58 hQ58
      subst l58 y58 z58
      obtain ⟨N58q, b6_10_6_8_58, rfl, szb6_10_6_8_58_58, K58, Fo58_0, Fo58_1, Fo58_2, Fo58_3⟩ := hQ58
      have g_b6_10_6_8_58 : n0 ≤ b6_10_6_8_58 := Nat.le_trans (osz O57) szb6_10_6_8_58_58
      have O58 := OKeep.old O57 K58 (ogeS g_b57 oge0)
      have N58 := Fr.app N50 N58q
      refine OGot.on st58 ?_
      show OGot p.tables e below (T58.setTop (mkF m 197 #[.val (.int p1), .val (.int p2), .val (.int p3), .val (.int p4), .val (.int p5), .val (.int (2 : Int32)), .val (.long (p2.toInt64)), .second, .val (.long (((p2.toInt64) + (1 : Int64)) + ((p3 &&& (65535 : Int32)).toInt64))), .second, .val (.long (((((p2.toInt64) + (1 : Int64)) + ((p3 &&& (65535 : Int32)).toInt64)) + (1 : Int64)) + ((p4 &&& (65535 : Int32)).toInt64))), .second, .val (.long (((p2.toInt64) + (1 : Int64)) + ((p3 &&& (65535 : Int32)).toInt64))), .second, .val (.ref b37), .unset] [(.ref b57)])) _
      refine OGot.go (fun t k => XS.astore X58.here hx rfl (hb hby at_197) rfl rfl (l' := #[.val (.int p1), .val (.int p2), .val (.int p3), .val (.int p4), .val (.int p5), .val (.int (2 : Int32)), .val (.long (p2.toInt64)), .second, .val (.long (((p2.toInt64) + (1 : Int64)) + ((p3 &&& (65535 : Int32)).toInt64))), .second, .val (.long (((((p2.toInt64) + (1 : Int64)) + ((p3 &&& (65535 : Int32)).toInt64)) + (1 : Int64)) + ((p4 &&& (65535 : Int32)).toInt64))), .second, .val (.long (((p2.toInt64) + (1 : Int64)) + ((p3 &&& (65535 : Int32)).toInt64))), .second, .val (.ref b37), .val (.ref b57)]) rfl k) ?_
      refine OGot.go (fun t k => XS.aload X58.here hx rfl (hb hby at_199) rfl rfl k) ?_
      have ne67 : b47 ≠ b57 := (Nat.ne_of_lt (Nat.lt_of_lt_of_le (Nat.lt_of_lt_of_le (Nat.lt_of_lt_of_le A47.lt K48.1) K50.1) sy_b57))
      have F68 : Fld Z T58.heap b47 "com/example/curtail/curtail/Placement$Cell" "nSlot" "I" (.int ((((p2.toInt64) + (1 : Int64)) + ((p3 &&& (65535 : Int32)).toInt64)).toInt32)) := (OKeep.fld F62 K58 (oninA ne67 onin0))
      obtain ⟨cq66, kq66, q66a, q66b, q66c⟩ := isOf hZ rfl (OKeep.exa A57 K58)
      obtain ⟨_, _, ⟨T66, L66, k66, n66⟩, -, X66, ⟨Lc66, hQ66, l66, y66, z66⟩, st66⟩ := X58.virtualBack hx (y := (⟨"com/example/curtail/curtail/Placement", "completionSlot", "()I"⟩ : MethodName)) (z := (⟨"com/example/curtail/curtail/Placement", "completionSlot", "()I"⟩ : MethodName)) hown (mvT hZ (ow hw 213 rfl)) (mvT hZ (ow hw 214 rfl)) (notFace_of_selects (args := #[]) (mvT hZ (ow hw 216 rfl))) (mvT hZ (ow hw 216 rfl)) (mvT hZ (ow hw 215 rfl)) (by decide) (backOf (W := 0) (rm32_1 l Z a0 hw [] G b57 b6_10_6_8_58 b47 ((((p2.toInt64) + (1 : Int64)) + ((p3 &&& (65535 : Int32)).toInt64)).toInt32) T58.heap n0 O58 Fo58_0 Fo58_1 Fo58_3 (OKeep.exa ((OKeep.exa (OKeep.exa A47 K48) K50).ext E57) K58) F68) hZ (ow hw 217 rfl) (ow hw 2 rfl) (by decide) (by decide)) q66a q66c (g := (mkF m 201 #[.val (.int p1), .val (.int p2), .val (.int p3), .val (.int p4), .val (.int p5), .val (.int (2 : Int32)), .val (.long (p2.toInt64)), .second, .val (.long (((p2.toInt64) + (1 : Int64)) + ((p3 &&& (65535 : Int32)).toInt64))), .second, .val (.long (((((p2.toInt64) + (1 : Int64)) + ((p3 &&& (65535 : Int32)).toInt64)) + (1 : Int64)) + ((p4 &&& (65535 : Int32)).toInt64))), .second, .val (.long (((p2.toInt64) + (1 : Int64)) + ((p3 &&& (65535 : Int32)).toInt64))), .second, .val (.ref b37), .val (.ref b57)] [(.ref b57)])) rfl (by rw [hml]; rfl) (Steps.refl _) (argsL := []) (rest := []) (lenOf pd_4 rfl) rfl (by show 2 * 0 + _ ≤ _; exact Nat.le_of_eq rfl) (hb hby at_201) (fun _ _ => ⟨rfl, rfl, (by decide : 7 + 0 ≤ _), (by decide : 22 + 0 ≤ _)⟩)
      dsimp only [Pt.U, Pt.locs, Pt.cells, Pt.slots] at X66 l66 y66 z66 st66 hQ66
      subst l66 y66 z66
      obtain ⟨rfl, N66q, e66⟩ := hQ66
      have N66 := Fr.app N58 N66q
      refine OGot.on st66 ?_
      refine OGot.go (fun t k => XS.lload X66.here hx rfl (hb hby at_204) rfl k) ?_
      refine OGot.go (fun t k => XS.l2i X66.here hx rfl (hb hby at_206) rfl k) ?_
      show OGot p.tables e below (T66.setTop (mkF m 207 #[.val (.int p1), .val (.int p2), .val (.int p3), .val (.int p4), .val (.int p5), .val (.int (2 : Int32)), .val (.long (p2.toInt64)), .second, .val (.long (((p2.toInt64) + (1 : Int64)) + ((p3 &&& (65535 : Int32)).toInt64))), .second, .val (.long (((((p2.toInt64) + (1 : Int64)) + ((p3 &&& (65535 : Int32)).toInt64)) + (1 : Int64)) + ((p4 &&& (65535 : Int32)).toInt64))), .second, .val (.long (((p2.toInt64) + (1 : Int64)) + ((p3 &&& (65535 : Int32)).toInt64))), .second, .val (.ref b37), .val (.ref b57)] [(.int ((((p2.toInt64) + (1 : Int64)) + ((p3 &&& (65535 : Int32)).toInt64)).toInt32)), (.int ((((p2.toInt64) + (1 : Int64)) + ((p3 &&& (65535 : Int32)).toInt64)).toInt32))])) _
      refine OGot.go (fun t k => XS.icmpNo X66.here hx rfl (hb hby at_207) rfl (teq rfl).2 k) ?_
      refine OGot.go (fun t k => XS.iconst X66.here hx rfl (hb hby at_210) k) ?_
      refine OGot.go (fun t k => XS.goto X66.here hx rfl (pc0 := 211) (pc' := 215) rfl (hb hby at_211) (by decide) (by decide) k) ?_
      show OGot p.tables e below (T66.setTop (mkF m 215 #[.val (.int p1), .val (.int p2), .val (.int p3), .val (.int p4), .val (.int p5), .val (.int (2 : Int32)), .val (.long (p2.toInt64)), .second, .val (.long (((p2.toInt64) + (1 : Int64)) + ((p3 &&& (65535 : Int32)).toInt64))), .second, .val (.long (((((p2.toInt64) + (1 : Int64)) + ((p3 &&& (65535 : Int32)).toInt64)) + (1 : Int64)) + ((p4 &&& (65535 : Int32)).toInt64))), .second, .val (.long (((p2.toInt64) + (1 : Int64)) + ((p3 &&& (65535 : Int32)).toInt64))), .second, .val (.ref b37), .val (.ref b57)] [(.int (1 : Int32))])) _
      obtain ⟨fs, hr, hrun, hended, hW, hsame⟩ := X66.leave (v := some (.int (1 : Int32))) (fun h => by rw [Bd.returns] at h; cases h)
      refine ⟨_, _, retN X66 hx (t := .boolean) Bd.returns (by simp) (hb hby at_215) hr, hrun, hended, _, _, rfl, ?_, ⟨_, rfl⟩, hW, hsame.mono (by decide) (by decide)⟩
      exact (⟨rfl, N66⟩ : Q0 Z m_OA w_EMPTY_ELEMENTDATA w_DEFAULTCAPACITY_EMPTY_ELEMENTDATA w_EMPTY_LIST w_EMPTY_LIST_elements w_EMPTY k_w_EMPTY_ELEMENTDATA k_w_DEFAULTCAPACITY_EMPTY_ELEMENTDATA k_w_EMPTY_LIST_elements p1 p2 p3 p4 p5 h0 n0 _ T66.heap _)
  · rw [hk9]
    show OGot p.tables e below (s₁.setTop (mkF m 3 #[.val (.int p1), .val (.int p2), .val (.int p3), .val (.int p4), .val (.int p5), .unset, .unset, .unset, .unset, .unset, .unset, .unset, .unset, .unset, .unset, .unset] [(.int (3 : Int32))])) _
    refine OGot.go (fun t k => XS.istore X0.here hx rfl (hb hby at_3) rfl (l' := #[.val (.int p1), .val (.int p2), .val (.int p3), .val (.int p4), .val (.int p5), .val (.int (3 : Int32)), .unset, .unset, .unset, .unset, .unset, .unset, .unset, .unset, .unset, .unset]) rfl k) ?_
    refine OGot.go (fun t k => XS.iload X0.here hx rfl (hb hby at_5) rfl k) ?_
    refine OGot.go (fun t k => XS.ifYes X0.here hx rfl (pc0 := 7) (pc' := 40) rfl (hb hby at_7) rfl (by decide) (by decide) (by decide) k) ?_
    refine OGot.go (fun t k => XS.iloadN X0.here hx rfl (hb hby at_40) rfl k) ?_
    refine OGot.go (fun t k => XS.i2l X0.here hx rfl (hb hby at_41) rfl k) ?_
    show OGot p.tables e below (s₁.setTop (mkF m 42 #[.val (.int p1), .val (.int p2), .val (.int p3), .val (.int p4), .val (.int p5), .val (.int (3 : Int32)), .unset, .unset, .unset, .unset, .unset, .unset, .unset, .unset, .unset, .unset] [(.long (p2.toInt64))])) _
    refine OGot.go (fun t k => XS.lstore X0.here hx rfl (hb hby at_42) rfl (l' := #[.val (.int p1), .val (.int p2), .val (.int p3), .val (.int p4), .val (.int p5), .val (.int (3 : Int32)), .val (.long (p2.toInt64)), .second, .unset, .unset, .unset, .unset, .unset, .unset, .unset, .unset]) rfl k) ?_
    refine OGot.go (fun t k => XS.lload X0.here hx rfl (hb hby at_44) rfl k) ?_
    refine OGot.go (fun t k => XS.lconst X0.here hx rfl (hb hby at_46) k) ?_
    refine OGot.go (fun t k => XS.ladd X0.here hx rfl (hb hby at_47) rfl k) ?_
    refine OGot.go (fun t k => XS.iloadN X0.here hx rfl (hb hby at_48) rfl k) ?_
    show OGot p.tables e below (s₁.setTop (mkF m 49 #[.val (.int p1), .val (.int p2), .val (.int p3), .val (.int p4), .val (.int p5), .val (.int (3 : Int32)), .val (.long (p2.toInt64)), .second, .unset, .unset, .unset, .unset, .unset, .unset, .unset, .unset] [(.int p3), (.long ((p2.toInt64) + (1 : Int64)))])) _
    refine OGot.go (fun t k => X0.ldcInt hx hown (mvT hZ (ow hw 94 rfl)) (g := (mkF m 49 #[.val (.int p1), .val (.int p2), .val (.int p3), .val (.int p4), .val (.int p5), .val (.int (3 : Int32)), .val (.long (p2.toInt64)), .second, .unset, .unset, .unset, .unset, .unset, .unset, .unset, .unset] [(.int p3), (.long ((p2.toInt64) + (1 : Int64)))])) rfl (hb hby at_49) _ k) ?_
    refine OGot.go (fun t k => XS.iand X0.here hx rfl (hb hby at_51) rfl k) ?_
    refine OGot.go (fun t k => XS.i2l X0.here hx rfl (hb hby at_52) rfl k) ?_
    refine OGot.go (fun t k => XS.ladd X0.here hx rfl (hb hby at_53) rfl k) ?_
    refine OGot.go (fun t k => XS.lstore X0.here hx rfl (hb hby at_54) rfl (l' := #[.val (.int p1), .val (.int p2), .val (.int p3), .val (.int p4), .val (.int p5), .val (.int (3 : Int32)), .val (.long (p2.toInt64)), .second, .val (.long (((p2.toInt64) + (1 : Int64)) + ((p3 &&& (65535 : Int32)).toInt64))), .second, .unset, .unset, .unset, .unset, .unset, .unset]) rfl k) ?_
    show OGot p.tables e below (s₁.setTop (mkF m 56 #[.val (.int p1), .val (.int p2), .val (.int p3), .val (.int p4), .val (.int p5), .val (.int (3 : Int32)), .val (.long (p2.toInt64)), .second, .val (.long (((p2.toInt64) + (1 : Int64)) + ((p3 &&& (65535 : Int32)).toInt64))), .second, .unset, .unset, .unset, .unset, .unset, .unset] [])) _
    refine OGot.go (fun t k => XS.lload X0.here hx rfl (hb hby at_56) rfl k) ?_
    refine OGot.go (fun t k => XS.lconst X0.here hx rfl (hb hby at_58) k) ?_
    refine OGot.go (fun t k => XS.ladd X0.here hx rfl (hb hby at_59) rfl k) ?_
    refine OGot.go (fun t k => XS.iloadN X0.here hx rfl (hb hby at_60) rfl k) ?_
    refine OGot.go (fun t k => X0.ldcInt hx hown (mvT hZ (ow hw 94 rfl)) (g := (mkF m 61 #[.val (.int p1), .val (.int p2), .val (.int p3), .val (.int p4), .val (.int p5), .val (.int (3 : Int32)), .val (.long (p2.toInt64)), .second, .val (.long (((p2.toInt64) + (1 : Int64)) + ((p3 &&& (65535 : Int32)).toInt64))), .second, .unset, .unset, .unset, .unset, .unset, .unset] [(.int p4), (.long ((((p2.toInt64) + (1 : Int64)) + ((p3 &&& (65535 : Int32)).toInt64)) + (1 : Int64)))])) rfl (hb hby at_61) _ k) ?_
    show OGot p.tables e below (s₁.setTop (mkF m 63 #[.val (.int p1), .val (.int p2), .val (.int p3), .val (.int p4), .val (.int p5), .val (.int (3 : Int32)), .val (.long (p2.toInt64)), .second, .val (.long (((p2.toInt64) + (1 : Int64)) + ((p3 &&& (65535 : Int32)).toInt64))), .second, .unset, .unset, .unset, .unset, .unset, .unset] [(.int (65535 : Int32)), (.int p4), (.long ((((p2.toInt64) + (1 : Int64)) + ((p3 &&& (65535 : Int32)).toInt64)) + (1 : Int64)))])) _
    refine OGot.go (fun t k => XS.iand X0.here hx rfl (hb hby at_63) rfl k) ?_
    refine OGot.go (fun t k => XS.i2l X0.here hx rfl (hb hby at_64) rfl k) ?_
    refine OGot.go (fun t k => XS.ladd X0.here hx rfl (hb hby at_65) rfl k) ?_
    refine OGot.go (fun t k => XS.lstore X0.here hx rfl (hb hby at_66) rfl (l' := #[.val (.int p1), .val (.int p2), .val (.int p3), .val (.int p4), .val (.int p5), .val (.int (3 : Int32)), .val (.long (p2.toInt64)), .second, .val (.long (((p2.toInt64) + (1 : Int64)) + ((p3 &&& (65535 : Int32)).toInt64))), .second, .val (.long (((((p2.toInt64) + (1 : Int64)) + ((p3 &&& (65535 : Int32)).toInt64)) + (1 : Int64)) + ((p4 &&& (65535 : Int32)).toInt64))), .second, .unset, .unset, .unset, .unset]) rfl k) ?_
    refine OGot.go (fun t k => XS.iload X0.here hx rfl (hb hby at_68) rfl k) ?_
    show OGot p.tables e below (s₁.setTop (mkF m 70 #[.val (.int p1), .val (.int p2), .val (.int p3), .val (.int p4), .val (.int p5), .val (.int (3 : Int32)), .val (.long (p2.toInt64)), .second, .val (.long (((p2.toInt64) + (1 : Int64)) + ((p3 &&& (65535 : Int32)).toInt64))), .second, .val (.long (((((p2.toInt64) + (1 : Int64)) + ((p3 &&& (65535 : Int32)).toInt64)) + (1 : Int64)) + ((p4 &&& (65535 : Int32)).toInt64))), .second, .unset, .unset, .unset, .unset] [(.int (3 : Int32))])) _
    refine OGot.go (fun t k => XS.iconst X0.here hx rfl (hb hby at_70) k) ?_
    refine OGot.go (fun t k => XS.icmpYes X0.here hx rfl (pc0 := 71) (pc' := 81) rfl (hb hby at_71) rfl (by decide) (by decide) (by decide) k) ?_
    refine OGot.go (fun t k => XS.iload X0.here hx rfl (hb hby at_81) rfl k) ?_
    refine OGot.go (fun t k => XS.iconst X0.here hx rfl (hb hby at_83) k) ?_
    refine OGot.go (fun t k => XS.icmpYes X0.here hx rfl (pc0 := 84) (pc' := 94) rfl (hb hby at_84) rfl (by decide) (by decide) (by decide) k) ?_
    show OGot p.tables e below (s₁.setTop (mkF m 94 #[.val (.int p1), .val (.int p2), .val (.int p3), .val (.int p4), .val (.int p5), .val (.int (3 : Int32)), .val (.long (p2.toInt64)), .second, .val (.long (((p2.toInt64) + (1 : Int64)) + ((p3 &&& (65535 : Int32)).toInt64))), .second, .val (.long (((((p2.toInt64) + (1 : Int64)) + ((p3 &&& (65535 : Int32)).toInt64)) + (1 : Int64)) + ((p4 &&& (65535 : Int32)).toInt64))), .second, .unset, .unset, .unset, .unset] [])) _
    refine OGot.go (fun t k => XS.lload X0.here hx rfl (hb hby at_94) rfl k) ?_
    refine OGot.go (fun t k => XS.lstore X0.here hx rfl (hb hby at_96) rfl (l' := #[.val (.int p1), .val (.int p2), .val (.int p3), .val (.int p4), .val (.int p5), .val (.int (3 : Int32)), .val (.long (p2.toInt64)), .second, .val (.long (((p2.toInt64) + (1 : Int64)) + ((p3 &&& (65535 : Int32)).toInt64))), .second, .val (.long (((((p2.toInt64) + (1 : Int64)) + ((p3 &&& (65535 : Int32)).toInt64)) + (1 : Int64)) + ((p4 &&& (65535 : Int32)).toInt64))), .second, .val (.long (((((p2.toInt64) + (1 : Int64)) + ((p3 &&& (65535 : Int32)).toInt64)) + (1 : Int64)) + ((p4 &&& (65535 : Int32)).toInt64))), .second, .unset, .unset]) rfl k) ?_
    refine OGot.go (fun t k => XS.lload X0.here hx rfl (hb hby at_98) rfl k) ?_
    refine OGot.go (fun t k => X0.ldc2Long hx hown (mvT hZ (ow hw 95 rfl)) (g := (mkF m 100 #[.val (.int p1), .val (.int p2), .val (.int p3), .val (.int p4), .val (.int p5), .val (.int (3 : Int32)), .val (.long (p2.toInt64)), .second, .val (.long (((p2.toInt64) + (1 : Int64)) + ((p3 &&& (65535 : Int32)).toInt64))), .second, .val (.long (((((p2.toInt64) + (1 : Int64)) + ((p3 &&& (65535 : Int32)).toInt64)) + (1 : Int64)) + ((p4 &&& (65535 : Int32)).toInt64))), .second, .val (.long (((((p2.toInt64) + (1 : Int64)) + ((p3 &&& (65535 : Int32)).toInt64)) + (1 : Int64)) + ((p4 &&& (65535 : Int32)).toInt64))), .second, .unset, .unset] [(.long (((((p2.toInt64) + (1 : Int64)) + ((p3 &&& (65535 : Int32)).toInt64)) + (1 : Int64)) + ((p4 &&& (65535 : Int32)).toInt64)))])) rfl (hb hby at_100) _ k) ?_
    refine OGot.go (fun t k => XS.lcmp X0.here hx rfl (hb hby at_103) rfl k) ?_
    show OGot p.tables e below (s₁.setTop (mkF m 104 #[.val (.int p1), .val (.int p2), .val (.int p3), .val (.int p4), .val (.int p5), .val (.int (3 : Int32)), .val (.long (p2.toInt64)), .second, .val (.long (((p2.toInt64) + (1 : Int64)) + ((p3 &&& (65535 : Int32)).toInt64))), .second, .val (.long (((((p2.toInt64) + (1 : Int64)) + ((p3 &&& (65535 : Int32)).toInt64)) + (1 : Int64)) + ((p4 &&& (65535 : Int32)).toInt64))), .second, .val (.long (((((p2.toInt64) + (1 : Int64)) + ((p3 &&& (65535 : Int32)).toInt64)) + (1 : Int64)) + ((p4 &&& (65535 : Int32)).toInt64))), .second, .unset, .unset] [(.int (lcmpW (((((p2.toInt64) + (1 : Int64)) + ((p3 &&& (65535 : Int32)).toInt64)) + (1 : Int64)) + ((p4 &&& (65535 : Int32)).toInt64)) (2147483647 : Int64)))])) _
    by_cases hs69 : (2147483647 : Int64) < (((((p2.toInt64) + (1 : Int64)) + ((p3 &&& (65535 : Int32)).toInt64)) + (1 : Int64)) + ((p4 &&& (65535 : Int32)).toInt64))
    · refine OGot.go (fun t k => XS.ifNo X0.here hx rfl (hb hby at_104) rfl ((if0 _ _).trans (tlt ((lw_gt (((((p2.toInt64) + (1 : Int64)) + ((p3 &&& (65535 : Int32)).toInt64)) + (1 : Int64)) + ((p4 &&& (65535 : Int32)).toInt64)) (2147483647 : Int64)).mpr hs69)).2.2.2) k) ?_
      refine OGot.go (fun t k => XS.iconst X0.here hx rfl (hb hby at_107) k) ?_
      show OGot p.tables e below (s₁.setTop (mkF m 108 #[.val (.int p1), .val (.int p2), .val (.int p3), .val (.int p4), .val (.int p5), .val (.int (3 : Int32)), .val (.long (p2.toInt64)), .second, .val (.long (((p2.toInt64) + (1 : Int64)) + ((p3 &&& (65535 : Int32)).toInt64))), .second, .val (.long (((((p2.toInt64) + (1 : Int64)) + ((p3 &&& (65535 : Int32)).toInt64)) + (1 : Int64)) + ((p4 &&& (65535 : Int32)).toInt64))), .second, .val (.long (((((p2.toInt64) + (1 : Int64)) + ((p3 &&& (65535 : Int32)).toInt64)) + (1 : Int64)) + ((p4 &&& (65535 : Int32)).toInt64))), .second, .unset, .unset] [(.int (1 : Int32))])) _
      obtain ⟨fs, hr, hrun, hended, hW, hsame⟩ := X0.leave (v := some (.int (1 : Int32))) (fun h => by rw [Bd.returns] at h; cases h)
      refine ⟨_, _, retN X0 hx (t := .boolean) Bd.returns (by simp) (hb hby at_108) hr, hrun, hended, _, _, rfl, ?_, ⟨_, rfl⟩, hW, hsame.mono (by decide) (by decide)⟩
      exact (⟨rfl, N0⟩ : Q0 Z m_OA w_EMPTY_ELEMENTDATA w_DEFAULTCAPACITY_EMPTY_ELEMENTDATA w_EMPTY_LIST w_EMPTY_LIST_elements w_EMPTY k_w_EMPTY_ELEMENTDATA k_w_DEFAULTCAPACITY_EMPTY_ELEMENTDATA k_w_EMPTY_LIST_elements p1 p2 p3 p4 p5 h0 n0 _ s₁.heap _)
    · refine OGot.go (fun t k => XS.ifYes X0.here hx rfl (pc0 := 104) (pc' := 109) rfl (hb hby at_104) rfl ((if0 _ _).trans (flt (fun q => hs69 ((lw_gt (((((p2.toInt64) + (1 : Int64)) + ((p3 &&& (65535 : Int32)).toInt64)) + (1 : Int64)) + ((p4 &&& (65535 : Int32)).toInt64)) (2147483647 : Int64)).mp q))).2.2.2) (by decide) (by decide) k) ?_
      obtain ⟨T70, h70, X70, e70, E70, A70, D70, -, st70⟩ := newO X0 hx hZ hown (ow hw 3 rfl) (ow hw 4 rfl) (ow hw 5 rfl) e0 (g := (mkF m 109 #[.val (.int p1), .val (.int p2), .val (.int p3), .val (.int p4), .val (.int p5), .val (.int (3 : Int32)), .val (.long (p2.toInt64)), .second, .val (.long (((p2.toInt64) + (1 : Int64)) + ((p3 &&& (65535 : Int32)).toInt64))), .second, .val (.long (((((p2.toInt64) + (1 : Int64)) + ((p3 &&& (65535 : Int32)).toInt64)) + (1 : Int64)) + ((p4 &&& (65535 : Int32)).toInt64))), .second, .val (.long (((((p2.toInt64) + (1 : Int64)) + ((p3 &&& (65535 : Int32)).toInt64)) + (1 : Int64)) + ((p4 &&& (65535 : Int32)).toInt64))), .second, .unset, .unset] [])) rfl (hb hby at_109) (by decide) (by decide)
      obtain ⟨b70, g70⟩ : ∃ z, z = h0.size := ⟨_, rfl⟩
      rw [← g70] at A70 D70 st70
      refine OGot.go st70 ?_
      have g_b70 : n0 ≤ b70 := Nat.le_trans (osz O0) (Nat.le_of_eq g70.symm)
      have sy_b70 : h0.size ≤ b70 := Nat.le_of_eq g70.symm
      have O70 := O0.ext E70
      have F70_modCount : Fld Z h70 b70 "java/util/AbstractList" "modCount" "I" (.int (0 : Int32)) := D70 (Or.inl (ow hw 25 rfl)) (ty := .int) (by decide)
      have F70_elementData : Fld Z h70 b70 "java/util/ArrayList" "elementData" "[Ljava/lang/Object;" .null := D70 (Or.inl (ow hw 28 rfl)) (ty := (.array (.object "java/lang/Object"))) (by decide)
      have F70_size : Fld Z h70 b70 "java/util/ArrayList" "size" "I" (.int (0 : Int32)) := D70 (Or.inl (ow hw 62 rfl)) (ty := .int) (by decide)
      refine OGot.go (fun t k => XS.dup X70.here hx rfl (hb hby at_112) rfl rfl k) ?_
      obtain ⟨_, _, ⟨T71, L71, k71, n71⟩, -, X71, ⟨Lc71, hQ71, l71, y71, z71⟩, st71⟩ := X70.specialBack hx (y := (⟨"java/util/ArrayList", "<init>", "()V"⟩ : MethodName)) rfl hown (mvT hZ (ow hw 6 rfl)) (mvT hZ (ow hw 7 rfl)) (mvT hZ (ow hw 8 rfl)) (by decide) (backOf (W := 1) (rm1 l Z a0 hw [] G b70 h70 n0 O70 A70 F70_modCount g_b70 F70_elementData) hZ (ow hw 8 rfl) (ow hw 5 rfl) (by decide) (by decide)) (g := (mkF m 113 #[.val (.int p1), .val (.int p2), .val (.int p3), .val (.int p4), .val (.int p5), .val (.int (3 : Int32)), .val (.long (p2.toInt64)), .second, .val (.long (((p2.toInt64) + (1 : Int64)) + ((p3 &&& (65535 : Int32)).toInt64))), .second, .val (.long (((((p2.toInt64) + (1 : Int64)) + ((p3 &&& (65535 : Int32)).toInt64)) + (1 : Int64)) + ((p4 &&& (65535 : Int32)).toInt64))), .second, .val (.long (((((p2.toInt64) + (1 : Int64)) + ((p3 &&& (65535 : Int32)).toInt64)) + (1 : Int64)) + ((p4 &&& (65535 : Int32)).toInt64))), .second, .unset, .unset] [(.ref b70), (.ref b70)])) rfl (by rw [hml]; rfl) (Steps.refl _) (a := b70) (argsL := []) (rest := [(.ref b70)]) (lenOf pd_0 rfl) rfl (by show 2 * 0 + _ ≤ _; exact Nat.le_of_eq rfl) (hb hby at_113) (fun _ _ => ⟨rfl, e70, (by decide : 1 + 0 ≤ _), (by decide : 3 + 0 ≤ _)⟩)
      dsimp only [Pt.U, Pt.locs, Pt.cells, Pt.slots] at X71 l71 y71 z71 st71 hQ71
      subst l71 y71 z71
      obtain ⟨N71q, rfl, K71, Fo71_0, Fo71_1⟩ := hQ71
      have O71 := OKeep.old O70 K71 (ogeS g_b70 (ogeS g_b70 oge0))
      have N71 := Fr.app N0 N71q
      refine OGot.on st71 ?_
      refine OGot.go (fun t k => XS.astore X71.here hx rfl (hb hby at_116) rfl rfl (l' := #[.val (.int p1), .val (.int p2), .val (.int p3), .val (.int p4), .val (.int p5), .val (.int (3 : Int32)), .val (.long (p2.toInt64)), .second, .val (.long (((p2.toInt64) + (1 : Int64)) + ((p3 &&& (65535 : Int32)).toInt64))), .second, .val (.long (((((p2.toInt64) + (1 : Int64)) + ((p3 &&& (65535 : Int32)).toInt64)) + (1 : Int64)) + ((p4 &&& (65535 : Int32)).toInt64))), .second, .val (.long (((((p2.toInt64) + (1 : Int64)) + ((p3 &&& (65535 : Int32)).toInt64)) + (1 : Int64)) + ((p4 &&& (65535 : Int32)).toInt64))), .second, .val (.ref b70), .unset]) rfl k) ?_
      show OGot p.tables e below (T71.setTop (mkF m 118 #[.val (.int p1), .val (.int p2), .val (.int p3), .val (.int p4), .val (.int p5), .val (.int (3 : Int32)), .val (.long (p2.toInt64)), .second, .val (.long (((p2.toInt64) + (1 : Int64)) + ((p3 &&& (65535 : Int32)).toInt64))), .second, .val (.long (((((p2.toInt64) + (1 : Int64)) + ((p3 &&& (65535 : Int32)).toInt64)) + (1 : Int64)) + ((p4 &&& (65535 : Int32)).toInt64))), .second, .val (.long (((((p2.toInt64) + (1 : Int64)) + ((p3 &&& (65535 : Int32)).toInt64)) + (1 : Int64)) + ((p4 &&& (65535 : Int32)).toInt64))), .second, .val (.ref b70), .unset] [])) _
      refine OGot.go (fun t k => XS.aload X71.here hx rfl (hb hby at_118) rfl rfl k) ?_
      obtain ⟨T72, h72, X72, e72, E72, A72, D72, -, st72⟩ := newO X71 hx hZ hown (ow hw 96 rfl) (ow hw 97 rfl) (ow hw 98 rfl) rfl (g := (mkF m 120 #[.val (.int p1), .val (.int p2), .val (.int p3), .val (.int p4), .val (.int p5), .val (.int (3 : Int32)), .val (.long (p2.toInt64)), .second, .val (.long (((p2.toInt64) + (1 : Int64)) + ((p3 &&& (65535 : Int32)).toInt64))), .second, .val (.long (((((p2.toInt64) + (1 : Int64)) + ((p3 &&& (65535 : Int32)).toInt64)) + (1 : Int64)) + ((p4 &&& (65535 : Int32)).toInt64))), .second, .val (.long (((((p2.toInt64) + (1 : Int64)) + ((p3 &&& (65535 : Int32)).toInt64)) + (1 : Int64)) + ((p4 &&& (65535 : Int32)).toInt64))), .second, .val (.ref b70), .unset] [(.ref b70)])) rfl (hb hby at_120) (by decide) (by decide)
      obtain ⟨b72, g72⟩ : ∃ z, z = T71.heap.size := ⟨_, rfl⟩
      rw [← g72] at A72 D72 st72
      refine OGot.go st72 ?_
      have g_b72 : n0 ≤ b72 := Nat.le_trans (osz O71) (Nat.le_of_eq g72.symm)
      have sy_b72 : T71.heap.size ≤ b72 := Nat.le_of_eq g72.symm
      have O72 := O71.ext E72
      have F72_nSlot : Fld Z h72 b72 "com/example/curtail/curtail/Placement$Cell" "nSlot" "I" (.int (0 : Int32)) := D72 (Or.inr (ow hw 104 rfl)) (ty := .int) (by decide)
      have F72_nCloudlet : Fld Z h72 b72 "com/example/curtail/curtail/Placement$Cell" "nCloudlet" "I" (.int (0 : Int32)) := D72 (Or.inr (ow hw 106 rfl)) (ty := .int) (by decide)
      refine OGot.go (fun t k => XS.dup X72.here hx rfl (hb hby at_123) rfl rfl k) ?_
      refine OGot.go (fun t k => XS.lload X72.here hx rfl (hb hby at_124) rfl k) ?_
      refine OGot.go (fun t k => XS.l2i X72.here hx rfl (hb hby at_126) rfl k) ?_
      show OGot p.tables e below (T72.setTop (mkF m 127 #[.val (.int p1), .val (.int p2), .val (.int p3), .val (.int p4), .val (.int p5), .val (.int (3 : Int32)), .val (.long (p2.toInt64)), .second, .val (.long (((p2.toInt64) + (1 : Int64)) + ((p3 &&& (65535 : Int32)).toInt64))), .second, .val (.long (((((p2.toInt64) + (1 : Int64)) + ((p3 &&& (65535 : Int32)).toInt64)) + (1 : Int64)) + ((p4 &&& (65535 : Int32)).toInt64))), .second, .val (.long (((((p2.toInt64) + (1 : Int64)) + ((p3 &&& (65535 : Int32)).toInt64)) + (1 : Int64)) + ((p4 &&& (65535 : Int32)).toInt64))), .second, .val (.ref b70), .unset] [(.int ((p2.toInt64).toInt32)), (.ref b72), (.ref b72), (.ref b70)])) _
      refine OGot.go (fun t k => XS.iload X72.here hx rfl (hb hby at_127) rfl k) ?_
      obtain ⟨_, _, ⟨T73, L73, k73, n73⟩, -, X73, ⟨Lc73, hQ73, l73, y73, z73⟩, st73⟩ := X72.specialBack hx (y := (⟨"com/example/curtail/curtail/Placement$Cell", "<init>", "(II)V"⟩ : MethodName)) rfl hown (mvT hZ (ow hw 99 rfl)) (mvT hZ (ow hw 100 rfl)) (mvT hZ (ow hw 101 rfl)) (by decide) (backOf (W := 2) (rm14 l Z a0 hw [] G b72 ((p2.toInt64).toInt32) p5 h72 n0 O72 A72 F72_nSlot g_b72 F72_nCloudlet) hZ (ow hw 101 rfl) (ow hw 98 rfl) (by decide) (by decide)) (g := (mkF m 129 #[.val (.int p1), .val (.int p2), .val (.int p3), .val (.int p4), .val (.int p5), .val (.int (3 : Int32)), .val (.long (p2.toInt64)), .second, .val (.long (((p2.toInt64) + (1 : Int64)) + ((p3 &&& (65535 : Int32)).toInt64))), .second, .val (.long (((((p2.toInt64) + (1 : Int64)) + ((p3 &&& (65535 : Int32)).toInt64)) + (1 : Int64)) + ((p4 &&& (65535 : Int32)).toInt64))), .second, .val (.long (((((p2.toInt64) + (1 : Int64)) + ((p3 &&& (65535 : Int32)).toInt64)) + (1 : Int64)) + ((p4 &&& (65535 : Int32)).toInt64))), .second, .val (.ref b70), .unset] [(.int p5), (.int ((p2.toInt64).toInt32)), (.ref b72), (.ref b72), (.ref b70)])) rfl (by rw [hml]; rfl) (Steps.refl _) (a := b72) (argsL := [(.int ((p2.toInt64).toInt32)), (.int p5)]) (rest := [(.ref b72), (.ref b70)]) (lenOf pd_6 rfl) rfl (by show 2 * 0 + _ ≤ _; exact Nat.le_of_eq rfl) (hb hby at_129) (fun _ _ => ⟨rfl, e72, (by decide : 2 + 0 ≤ _), (by decide : 5 + 0 ≤ _)⟩)
      dsimp only [Pt.U, Pt.locs, Pt.cells, Pt.slots] at X73 l73 y73 z73 st73 hQ73
      subst l73 y73 z73
      obtain ⟨N73q, rfl, K73, Fo73_0, Fo73_1⟩ := hQ73
      have O73 := OKeep.old O72 K73 (ogeS g_b72 (ogeS g_b72 oge0))
      have N73 := Fr.app N71 N73q
      refine OGot.on st73 ?_
      have ne74 : w_DEFAULTCAPACITY_EMPTY_ELEMENTDATA ≠ b70 := (O73.ne G.2.2.2.2.1.lt g_b70)
      have ne76 : b70 ≠ b72 := (Nat.ne_of_lt (Nat.lt_of_lt_of_le (Nat.lt_of_lt_of_le A70.lt K71.1) sy_b72))
      have F77 : Fld Z T73.heap b70 "java/util/AbstractList" "modCount" "I" (.int (0 : Int32)) := (OKeep.fld (Fo71_0.ext E72) K73 (oninA ne76 (oninA ne76 onin0)))
      have F78 : Fld Z T73.heap b70 "java/util/ArrayList" "elementData" "[Ljava/lang/Object;" (.ref w_DEFAULTCAPACITY_EMPTY_ELEMENTDATA) := (OKeep.fld (Fo71_1.ext E72) K73 (oninA ne76 (oninA ne76 onin0)))
      have F79 : Fld Z T73.heap b70 "java/util/ArrayList" "size" "I" (.int (0 : Int32)) := (OKeep.fld ((OKeep.fld F70_size K71 (oninS (slot_ne (Or.inl (ow hw 62 rfl)) (Or.inl (ow hw 25 rfl)) (by decide) (t := .int) (t' := .int) (by decide) (by decide)) (oninS (slot_ne (Or.inl (ow hw 62 rfl)) (Or.inl (ow hw 28 rfl)) (by decide) (t := .int) (t' := (.array (.object "java/lang/Object"))) (by decide) (by decide)) onin0))).ext E72) K73 (oninA ne76 (oninA ne76 onin0)))
      obtain ⟨cq75, kq75, q75a, q75b, q75c⟩ := isOf hZ rfl (OKeep.exa ((OKeep.exa A70 K71).ext E72) K73)
      obtain ⟨_, _, ⟨T75, L75, k75, n75⟩, -, X75, ⟨Lc75, hQ75, l75, y75, z75⟩, st75⟩ := X73.virtualBack hx (y := (⟨"java/util/ArrayList", "add", "(Ljava/lang/Object;)Z"⟩ : MethodName)) (z := (⟨"java/util/ArrayList", "add", "(Ljava/lang/Object;)Z"⟩ : MethodName)) hown (mvT hZ (ow hw 107 rfl)) (mvT hZ (ow hw 108 rfl)) (notFace_of_selects (args := #[]) (mvT hZ (ow hw 110 rfl))) (mvT hZ (ow hw 110 rfl)) (mvT hZ (ow hw 109 rfl)) (by decide) (backOf (W := 0) (rm15 l Z a0 hw [] G b70 b72 w_DEFAULTCAPACITY_EMPTY_ELEMENTDATA k_w_DEFAULTCAPACITY_EMPTY_ELEMENTDATA T73.heap n0 O73 F77 (OKeep.exa ((OKeep.exa A70 K71).ext E72) K73) g_b70 F78 F79 (G.2.2.2.2.2.2.2.2.2.2.2.2.1.ext O73.2) (G.2.2.2.2.1.ext O73.2) rfl (OKeep.exa A72 K73) ne74) hZ (ow hw 111 rfl) (ow hw 5 rfl) (by decide) (by decide)) q75a q75c (g := (mkF m 132 #[.val (.int p1), .val (.int p2), .val (.int p3), .val (.int p4), .val (.int p5), .val (.int (3 : Int32)), .val (.long (p2.toInt64)), .second, .val (.long (((p2.toInt64) + (1 : Int64)) + ((p3 &&& (65535 : Int32)).toInt64))), .second, .val (.long (((((p2.toInt64) + (1 : Int64)) + ((p3 &&& (65535 : Int32)).toInt64)) + (1 : Int64)) + ((p4 &&& (65535 : Int32)).toInt64))), .second, .val (.long (((((p2.toInt64) + (1 : Int64)) + ((p3 &&& (65535 : Int32)).toInt64)) + (1 : Int64)) + ((p4 &&& (65535 : Int32)).toInt64))), .second, .val (.ref b70), .unset] [(.ref b72), (.ref b70)])) rfl (by rw [hml]; rfl) (Steps.refl _) (argsL := [(.ref b72)]) (rest := []) (lenOf pd_11 rfl) rfl (by show 2 * 0 + _ ≤ _; exact Nat.le_of_eq rfl) (hb hby at_132) (fun _ _ => ⟨rfl, rfl, (by decide : 2 + 1 ≤ _), (by decide : 5 + 10 ≤ _)⟩)
      dsimp only [Pt.U, Pt.locs, Pt.cells, Pt.slots] at X75 l75 y75 z75 st75 hQ75
      subst l75 y75 z75
      obtain ⟨N75q, b9_5_6_11_75, k9_5_6_11_75, rfl, szb9_5_6_11_75_75, K75, Fo75_0, Fo75_1, Fo75_2, Fo75_3, Fo75_4, Fo75_5⟩ := hQ75
      have g_b9_5_6_11_75 : n0 ≤ b9_5_6_11_75 := Nat.le_trans (osz O73) szb9_5_6_11_75_75
      have O75 := OKeep.old O73 K75 (ogeS g_b70 (ogeS g_b70 (ogeS g_b70 oge0)))
      have N75 := Fr.app N73 N75q
      refine OGot.on st75 ?_
      refine OGot.go (fun t k => XS.pop X75.here hx rfl (hb hby at_135) rfl rfl k) ?_
      refine OGot.go (fun t k => XS.iload X75.here hx rfl (hb hby at_136) rfl k) ?_
      show OGot p.tables e below (T75.setTop (mkF m 138 #[.val (.int p1), .val (.int p2), .val (.int p3), .val (.int p4), .val (.int p5), .val (.int (3 : Int32)), .val (.long (p2.toInt64)), .second, .val (.long (((p2.toInt64) + (1 : Int64)) + ((p3 &&& (65535 : Int32)).toInt64))), .second, .val (.long (((((p2.toInt64) + (1 : Int64)) + ((p3 &&& (65535 : Int32)).toInt64)) + (1 : Int64)) + ((p4 &&& (65535 : Int32)).toInt64))), .second, .val (.long (((((p2.toInt64) + (1 : Int64)) + ((p3 &&& (65535 : Int32)).toInt64)) + (1 : Int64)) + ((p4 &&& (65535 : Int32)).toInt64))), .second, .val (.ref b70), .unset] [(.int (3 : Int32))])) _
      refine OGot.go (fun t k => XS.iconst X75.here hx rfl (hb hby at_138) k) ?_
      refine OGot.go (fun t k => XS.icmpNo X75.here hx rfl (hb hby at_139) rfl (by decide) k) ?_
      refine OGot.go (fun t k => XS.aload X75.here hx rfl (hb hby at_142) rfl rfl k) ?_
      obtain ⟨T80, h80, X80, e80, E80, A80, D80, -, st80⟩ := newO X75 hx hZ hown (ow hw 96 rfl) (ow hw 97 rfl) (ow hw 98 rfl) rfl (g := (mkF m 144 #[.val (.int p1), .val (.int p2), .val (.int p3), .val (.int p4), .val (.int p5), .val (.int (3 : Int32)), .val (.long (p2.toInt64)), .second, .val (.long (((p2.toInt64) + (1 : Int64)) + ((p3 &&& (65535 : Int32)).toInt64))), .second, .val (.long (((((p2.toInt64) + (1 : Int64)) + ((p3 &&& (65535 : Int32)).toInt64)) + (1 : Int64)) + ((p4 &&& (65535 : Int32)).toInt64))), .second, .val (.long (((((p2.toInt64) + (1 : Int64)) + ((p3 &&& (65535 : Int32)).toInt64)) + (1 : Int64)) + ((p4 &&& (65535 : Int32)).toInt64))), .second, .val (.ref b70), .unset] [(.ref b70)])) rfl (hb hby at_144) (by decide) (by decide)
      obtain ⟨b80, g80⟩ : ∃ z, z = T75.heap.size := ⟨_, rfl⟩
      rw [← g80] at A80 D80 st80
      refine OGot.go st80 ?_
      have g_b80 : n0 ≤ b80 := Nat.le_trans (osz O75) (Nat.le_of_eq g80.symm)
      have sy_b80 : T75.heap.size ≤ b80 := Nat.le_of_eq g80.symm
      have O80 := O75.ext E80
      have F80_nSlot : Fld Z h80 b80 "com/example/curtail/curtail/Placement$Cell" "nSlot" "I" (.int (0 : Int32)) := D80 (Or.inr (ow hw 104 rfl)) (ty := .int) (by decide)
      have F80_nCloudlet : Fld Z h80 b80 "com/example/curtail/curtail/Placement$Cell" "nCloudlet" "I" (.int (0 : Int32)) := D80 (Or.inr (ow hw 106 rfl)) (ty := .int) (by decide)
      refine OGot.go (fun t k => XS.dup X80.here hx rfl (hb hby at_147) rfl rfl k) ?_
      show OGot p.tables e below (T80.setTop (mkF m 148 #[.val (.int p1), .val (.int p2), .val (.int p3), .val (.int p4), .val (.int p5), .val (.int (3 : Int32)), .val (.long (p2.toInt64)), .second, .val (.long (((p2.toInt64) + (1 : Int64)) + ((p3 &&& (65535 : Int32)).toInt64))), .second, .val (.long (((((p2.toInt64) + (1 : Int64)) + ((p3 &&& (65535 : Int32)).toInt64)) + (1 : Int64)) + ((p4 &&& (65535 : Int32)).toInt64))), .second, .val (.long (((((p2.toInt64) + (1 : Int64)) + ((p3 &&& (65535 : Int32)).toInt64)) + (1 : Int64)) + ((p4 &&& (65535 : Int32)).toInt64))), .second, .val (.ref b70), .unset] [(.ref b80), (.ref b80), (.ref b70)])) _
      refine OGot.go (fun t k => XS.lload X80.here hx rfl (hb hby at_148) rfl k) ?_
      refine OGot.go (fun t k => XS.l2i X80.here hx rfl (hb hby at_150) rfl k) ?_
      refine OGot.go (fun t k => XS.iload X80.here hx rfl (hb hby at_151) rfl k) ?_
      refine OGot.go (fun t k => XS.iloadN X80.here hx rfl (hb hby at_153) rfl k) ?_
      refine OGot.go (fun t k => XS.ixor X80.here hx rfl (hb hby at_154) rfl k) ?_
      show OGot p.tables e below (T80.setTop (mkF m 155 #[.val (.int p1), .val (.int p2), .val (.int p3), .val (.int p4), .val (.int p5), .val (.int (3 : Int32)), .val (.long (p2.toInt64)), .second, .val (.long (((p2.toInt64) + (1 : Int64)) + ((p3 &&& (65535 : Int32)).toInt64))), .second, .val (.long (((((p2.toInt64) + (1 : Int64)) + ((p3 &&& (65535 : Int32)).toInt64)) + (1 : Int64)) + ((p4 &&& (65535 : Int32)).toInt64))), .second, .val (.long (((((p2.toInt64) + (1 : Int64)) + ((p3 &&& (65535 : Int32)).toInt64)) + (1 : Int64)) + ((p4 &&& (65535 : Int32)).toInt64))), .second, .val (.ref b70), .unset] [(.int (p5 ^^^ p3)), (.int ((((p2.toInt64) + (1 : Int64)) + ((p3 &&& (65535 : Int32)).toInt64)).toInt32)), (.ref b80), (.ref b80), (.ref b70)])) _
      obtain ⟨_, _, ⟨T81, L81, k81, n81⟩, -, X81, ⟨Lc81, hQ81, l81, y81, z81⟩, st81⟩ := X80.specialBack hx (y := (⟨"com/example/curtail/curtail/Placement$Cell", "<init>", "(II)V"⟩ : MethodName)) rfl hown (mvT hZ (ow hw 99 rfl)) (mvT hZ (ow hw 100 rfl)) (mvT hZ (ow hw 101 rfl)) (by decide) (backOf (W := 2) (rm14 l Z a0 hw [] G b80 ((((p2.toInt64) + (1 : Int64)) + ((p3 &&& (65535 : Int32)).toInt64)).toInt32) (p5 ^^^ p3) h80 n0 O80 A80 F80_nSlot g_b80 F80_nCloudlet) hZ (ow hw 101 rfl) (ow hw 98 rfl) (by decide) (by decide)) (g := (mkF m 155 #[.val (.int p1), .val (.int p2), .val (.int p3), .val (.int p4), .val (.int p5), .val (.int (3 : Int32)), .val (.long (p2.toInt64)), .second, .val (.long (((p2.toInt64) + (1 : Int64)) + ((p3 &&& (65535 : Int32)).toInt64))), .second, .val (.long (((((p2.toInt64) + (1 : Int64)) + ((p3 &&& (65535 : Int32)).toInt64)) + (1 : Int64)) + ((p4 &&& (65535 : Int32)).toInt64))), .second, .val (.long (((((p2.toInt64) + (1 : Int64)) + ((p3 &&& (65535 : Int32)).toInt64)) + (1 : Int64)) + ((p4 &&& (65535 : Int32)).toInt64))), .second, .val (.ref b70), .unset] [(.int (p5 ^^^ p3)), (.int ((((p2.toInt64) + (1 : Int64)) + ((p3 &&& (65535 : Int32)).toInt64)).toInt32)), (.ref b80), (.ref b80), (.ref b70)])) rfl (by rw [hml]; rfl) (Steps.refl _) (a := b80) (argsL := [(.int ((((p2.toInt64) + (1 : Int64)) + ((p3 &&& (65535 : Int32)).toInt64)).toInt32)), (.int (p5 ^^^ p3))]) (rest := [(.ref b80), (.ref b70)]) (lenOf pd_6 rfl) rfl (by show 2 * 0 + _ ≤ _; exact Nat.le_of_eq rfl) (hb hby at_155) (fun _ _ => ⟨rfl, e80, (by decide : 4 + 0 ≤ _), (by decide : 17 + 0 ≤ _)⟩)
      dsimp only [Pt.U, Pt.locs, Pt.cells, Pt.slots] at X81 l81 y81 z81 st81 hQ81
      subst l81 y81 z81
      obtain ⟨N81q, rfl, K81, Fo81_0, Fo81_1⟩ := hQ81
      have O81 := OKeep.old O80 K81 (ogeS g_b80 (ogeS g_b80 oge0))
      have N81 := Fr.app N75 N81q
      refine OGot.on st81 ?_
      have ne82 : b70 ≠ b9_5_6_11_75 := (Nat.ne_of_lt (Nat.lt_of_lt_of_le (Nat.lt_of_lt_of_le (Nat.lt_of_lt_of_le (Nat.lt_of_lt_of_le A70.lt K71.1) E72.1) K73.1) szb9_5_6_11_75_75))
      have ne84 : b70 ≠ b80 := (Nat.ne_of_lt (Nat.lt_of_lt_of_le (Nat.lt_of_lt_of_le (Nat.lt_of_lt_of_le (Nat.lt_of_lt_of_le (Nat.lt_of_lt_of_le A70.lt K71.1) E72.1) K73.1) K75.1) sy_b80))
      have F85 : Fld Z T81.heap b70 "java/util/AbstractList" "modCount" "I" (.int (1 : Int32)) := (OKeep.fld (Fo75_0.ext E80) K81 (oninA ne84 (oninA ne84 onin0)))
      have F86 : Fld Z T81.heap b70 "java/util/ArrayList" "elementData" "[Ljava/lang/Object;" (.ref b9_5_6_11_75) := (OKeep.fld (Fo75_2.ext E80) K81 (oninA ne84 (oninA ne84 onin0)))
      have F87 : Fld Z T81.heap b70 "java/util/ArrayList" "size" "I" (.int (1 : Int32)) := (OKeep.fld (Fo75_1.ext E80) K81 (oninA ne84 (oninA ne84 onin0)))
      have ne88 : b9_5_6_11_75 ≠ b80 := (Nat.ne_of_lt (Nat.lt_of_lt_of_le Fo75_3.lt sy_b80))
      have F89 : Arv Z T81.heap b9_5_6_11_75 k9_5_6_11_75 (.object "java/lang/Object") (10 : Int32) [(.ref b72), .null, .null, .null, .null, .null, .null, .null, .null, .null] .null := (OKeep.arv (Fo75_4.ext E80) K81 (oallS ne88 (oallS ne88 oall0)))
      obtain ⟨cq83, kq83, q83a, q83b, q83c⟩ := isOf hZ rfl (OKeep.exa ((OKeep.exa (OKeep.exa ((OKeep.exa A70 K71).ext E72) K73) K75).ext E80) K81)
      obtain ⟨_, _, ⟨T83, L83, k83, n83⟩, -, X83, ⟨Lc83, hQ83, l83, y83, z83⟩, st83⟩ := X81.virtualBack hx (y := (⟨"java/util/ArrayList", "add", "(Ljava/lang/Object;)Z"⟩ : MethodName)) (z := (⟨"java/util/ArrayList", "add", "(Ljava/lang/Object;)Z"⟩ : MethodName)) hown (mvT hZ (ow hw 107 rfl)) (mvT hZ (ow hw 108 rfl)) (notFace_of_selects (args := #[]) (mvT hZ (ow hw 110 rfl))) (mvT hZ (ow hw 110 rfl)) (mvT hZ (ow hw 109 rfl)) (by decide) (backOf (W := 0) (rm15_1 l Z a0 hw [] G b70 b80 b9_5_6_11_75 k9_5_6_11_75 b72 T81.heap n0 O81 F85 (OKeep.exa ((OKeep.exa (OKeep.exa ((OKeep.exa A70 K71).ext E72) K73) K75).ext E80) K81) g_b70 F86 F87 F89 Fo75_5 g_b9_5_6_11_75 (OKeep.exa A80 K81) ne82) hZ (ow hw 111 rfl) (ow hw 5 rfl) (by decide) (by decide)) q83a q83c (g := (mkF m 158 #[.val (.int p1), .val (.int p2), .val (.int p3), .val (.int p4), .val (.int p5), .val (.int (3 : Int32)), .val (.long (p2.toInt64)), .second, .val (.long (((p2.toInt64) + (1 : Int64)) + ((p3 &&& (65535 : Int32)).toInt64))), .second, .val (.long (((((p2.toInt64) + (1 : Int64)) + ((p3 &&& (65535 : Int32)).toInt64)) + (1 : Int64)) + ((p4 &&& (65535 : Int32)).toInt64))), .second, .val (.long (((((p2.toInt64) + (1 : Int64)) + ((p3 &&& (65535 : Int32)).toInt64)) + (1 : Int64)) + ((p4 &&& (65535 : Int32)).toInt64))), .second, .val (.ref b70), .unset] [(.ref b80), (.ref b70)])) rfl (by rw [hml]; rfl) (Steps.refl _) (argsL := [(.ref b80)]) (rest := []) (lenOf pd_11 rfl) rfl (by show 2 * 0 + _ ≤ _; exact Nat.le_of_eq rfl) (hb hby at_158) (fun _ _ => ⟨rfl, rfl, (by decide : 4 + 0 ≤ _), (by decide : 17 + 0 ≤ _)⟩)
      dsimp only [Pt.U, Pt.locs, Pt.cells, Pt.slots] at X83 l83 y83 z83 st83 hQ83
      subst l83 y83 z83
      obtain ⟨N83q, rfl, K83, Fo83_0, Fo83_1, Fo83_2⟩ := hQ83
      have O83 := OKeep.old O81 K83 (ogeS g_b70 (ogeS g_b70 (ogeS g_b9_5_6_11_75 oge0)))
      have N83 := Fr.app N81 N83q
      refine OGot.on st83 ?_
      refine OGot.go (fun t k => XS.pop X83.here hx rfl (hb hby at_161) rfl rfl k) ?_
      refine OGot.go (fun t k => XS.iload X83.here hx rfl (hb hby at_162) rfl k) ?_
      refine OGot.go (fun t k => XS.iconst X83.here hx rfl (hb hby at_164) k) ?_
      show OGot p.tables e below (T83.setTop (mkF m 165 #[.val (.int p1), .val (.int p2), .val (.int p3), .val (.int p4), .val (.int p5), .val (.int (3 : Int32)), .val (.long (p2.toInt64)), .second, .val (.long (((p2.toInt64) + (1 : Int64)) + ((p3 &&& (65535 : Int32)).toInt64))), .second, .val (.long (((((p2.toInt64) + (1 : Int64)) + ((p3 &&& (65535 : Int32)).toInt64)) + (1 : Int64)) + ((p4 &&& (65535 : Int32)).toInt64))), .second, .val (.long (((((p2.toInt64) + (1 : Int64)) + ((p3 &&& (65535 : Int32)).toInt64)) + (1 : Int64)) + ((p4 &&& (65535 : Int32)).toInt64))), .second, .val (.ref b70), .unset] [(.int (3 : Int32)), (.int (3 : Int32))])) _
      refine OGot.go (fun t k => XS.icmpNo X83.here hx rfl (hb hby at_165) rfl (by decide) k) ?_
      refine OGot.go (fun t k => XS.aload X83.here hx rfl (hb hby at_168) rfl rfl k) ?_
      obtain ⟨T90, h90, X90, e90, E90, A90, D90, -, st90⟩ := newO X83 hx hZ hown (ow hw 96 rfl) (ow hw 97 rfl) (ow hw 98 rfl) rfl (g := (mkF m 170 #[.val (.int p1), .val (.int p2), .val (.int p3), .val (.int p4), .val (.int p5), .val (.int (3 : Int32)), .val (.long (p2.toInt64)), .second, .val (.long (((p2.toInt64) + (1 : Int64)) + ((p3 &&& (65535 : Int32)).toInt64))), .second, .val (.long (((((p2.toInt64) + (1 : Int64)) + ((p3 &&& (65535 : Int32)).toInt64)) + (1 : Int64)) + ((p4 &&& (65535 : Int32)).toInt64))), .second, .val (.long (((((p2.toInt64) + (1 : Int64)) + ((p3 &&& (65535 : Int32)).toInt64)) + (1 : Int64)) + ((p4 &&& (65535 : Int32)).toInt64))), .second, .val (.ref b70), .unset] [(.ref b70)])) rfl (hb hby at_170) (by decide) (by decide)
      obtain ⟨b90, g90⟩ : ∃ z, z = T83.heap.size := ⟨_, rfl⟩
      rw [← g90] at A90 D90 st90
      refine OGot.go st90 ?_
      have g_b90 : n0 ≤ b90 := Nat.le_trans (osz O83) (Nat.le_of_eq g90.symm)
      have sy_b90 : T83.heap.size ≤ b90 := Nat.le_of_eq g90.symm
      have O90 := O83.ext E90
      have F90_nSlot : Fld Z h90 b90 "com/example/curtail/curtail/Placement$Cell" "nSlot" "I" (.int (0 : Int32)) := D90 (Or.inr (ow hw 104 rfl)) (ty := .int) (by decide)
      have F90_nCloudlet : Fld Z h90 b90 "com/example/curtail/curtail/Placement$Cell" "nCloudlet" "I" (.int (0 : Int32)) := D90 (Or.inr (ow hw 106 rfl)) (ty := .int) (by decide)
      refine OGot.go (fun t k => XS.dup X90.here hx rfl (hb hby at_173) rfl rfl k) ?_
      refine OGot.go (fun t k => XS.lload X90.here hx rfl (hb hby at_174) rfl k) ?_
      show OGot p.tables e below (T90.setTop (mkF m 176 #[.val (.int p1), .val (.int p2), .val (.int p3), .val (.int p4), .val (.int p5), .val (.int (3 : Int32)), .val (.long (p2.toInt64)), .second, .val (.long (((p2.toInt64) + (1 : Int64)) + ((p3 &&& (65535 : Int32)).toInt64))), .second, .val (.long (((((p2.toInt64) + (1 : Int64)) + ((p3 &&& (65535 : Int32)).toInt64)) + (1 : Int64)) + ((p4 &&& (65535 : Int32)).toInt64))), .second, .val (.long (((((p2.toInt64) + (1 : Int64)) + ((p3 &&& (65535 : Int32)).toInt64)) + (1 : Int64)) + ((p4 &&& (65535 : Int32)).toInt64))), .second, .val (.ref b70), .unset] [(.long (((((p2.toInt64) + (1 : Int64)) + ((p3 &&& (65535 : Int32)).toInt64)) + (1 : Int64)) + ((p4 &&& (65535 : Int32)).toInt64))), (.ref b90), (.ref b90), (.ref b70)])) _
      refine OGot.go (fun t k => XS.l2i X90.here hx rfl (hb hby at_176) rfl k) ?_
      refine OGot.go (fun t k => XS.iload X90.here hx rfl (hb hby at_177) rfl k) ?_
      refine OGot.go (fun t k => XS.iloadN X90.here hx rfl (hb hby at_179) rfl k) ?_
      refine OGot.go (fun t k => XS.ixor X90.here hx rfl (hb hby at_180) rfl k) ?_
      obtain ⟨_, _, ⟨T91, L91, k91, n91⟩, -, X91, ⟨Lc91, hQ91, l91, y91, z91⟩, st91⟩ := X90.specialBack hx (y := (⟨"com/example/curtail/curtail/Placement$Cell", "<init>", "(II)V"⟩ : MethodName)) rfl hown (mvT hZ (ow hw 99 rfl)) (mvT hZ (ow hw 100 rfl)) (mvT hZ (ow hw 101 rfl)) (by decide) (backOf (W := 2) (rm14 l Z a0 hw [] G b90 ((((((p2.toInt64) + (1 : Int64)) + ((p3 &&& (65535 : Int32)).toInt64)) + (1 : Int64)) + ((p4 &&& (65535 : Int32)).toInt64)).toInt32) (p5 ^^^ p4) h90 n0 O90 A90 F90_nSlot g_b90 F90_nCloudlet) hZ (ow hw 101 rfl) (ow hw 98 rfl) (by decide) (by decide)) (g := (mkF m 181 #[.val (.int p1), .val (.int p2), .val (.int p3), .val (.int p4), .val (.int p5), .val (.int (3 : Int32)), .val (.long (p2.toInt64)), .second, .val (.long (((p2.toInt64) + (1 : Int64)) + ((p3 &&& (65535 : Int32)).toInt64))), .second, .val (.long (((((p2.toInt64) + (1 : Int64)) + ((p3 &&& (65535 : Int32)).toInt64)) + (1 : Int64)) + ((p4 &&& (65535 : Int32)).toInt64))), .second, .val (.long (((((p2.toInt64) + (1 : Int64)) + ((p3 &&& (65535 : Int32)).toInt64)) + (1 : Int64)) + ((p4 &&& (65535 : Int32)).toInt64))), .second, .val (.ref b70), .unset] [(.int (p5 ^^^ p4)), (.int ((((((p2.toInt64) + (1 : Int64)) + ((p3 &&& (65535 : Int32)).toInt64)) + (1 : Int64)) + ((p4 &&& (65535 : Int32)).toInt64)).toInt32)), (.ref b90), (.ref b90), (.ref b70)])) rfl (by rw [hml]; rfl) (Steps.refl _) (a := b90) (argsL := [(.int ((((((p2.toInt64) + (1 : Int64)) + ((p3 &&& (65535 : Int32)).toInt64)) + (1 : Int64)) + ((p4 &&& (65535 : Int32)).toInt64)).toInt32)), (.int (p5 ^^^ p4))]) (rest := [(.ref b90), (.ref b70)]) (lenOf pd_6 rfl) rfl (by show 2 * 0 + _ ≤ _; exact Nat.le_of_eq rfl) (hb hby at_181) (fun _ _ => ⟨rfl, e90, (by decide : 5 + 0 ≤ _), (by decide : 19 + 0 ≤ _)⟩)
      dsimp only [Pt.U, Pt.locs, Pt.cells, Pt.slots] at X91 l91 y91 z91 st91 hQ91
      subst l91 y91 z91
      obtain ⟨N91q, rfl, K91, Fo91_0, Fo91_1⟩ := hQ91
      have O91 := OKeep.old O90 K91 (ogeS g_b90 (ogeS g_b90 oge0))
      have N91 := Fr.app N83 N91q
      refine OGot.on st91 ?_
      show OGot p.tables e below (T91.setTop (mkF m 184 #[.val (.int p1), .val (.int p2), .val (.int p3), .val (.int p4), .val (.int p5), .val (.int (3 : Int32)), .val (.long (p2.toInt64)), .second, .val (.long (((p2.toInt64) + (1 : Int64)) + ((p3 &&& (65535 : Int32)).toInt64))), .second, .val (.long (((((p2.toInt64) + (1 : Int64)) + ((p3 &&& (65535 : Int32)).toInt64)) + (1 : Int64)) + ((p4 &&& (65535 : Int32)).toInt64))), .second, .val (.long (((((p2.toInt64) + (1 : Int64)) + ((p3 &&& (65535 : Int32)).toInt64)) + (1 : Int64)) + ((p4 &&& (65535 : Int32)).toInt64))), .second, .val (.ref b70), .unset] [(.ref b90), (.ref b70)])) _
      have ne93 : b70 ≠ b90 := (Nat.ne_of_lt (Nat.lt_of_lt_of_le (Nat.lt_of_lt_of_le (Nat.lt_of_lt_of_le (Nat.lt_of_lt_of_le (Nat.lt_of_lt_of_le (Nat.lt_of_lt_of_le (Nat.lt_of_lt_of_le (Nat.lt_of_lt_of_le A70.lt K71.1) E72.1) K73.1) K75.1) E80.1) K81.1) K83.1) sy_b90))
      have F94 : Fld Z T91.heap b70 "java/util/AbstractList" "modCount" "I" (.int (2 : Int32)) := (OKeep.fld (Fo83_0.ext E90) K91 (oninA ne93 (oninA ne93 onin0)))
      have F95 : Fld Z T91.heap b70 "java/util/ArrayList" "elementData" "[Ljava/lang/Object;" (.ref b9_5_6_11_75) := (OKeep.fld ((OKeep.fld F86 K83 (oninS (slot_ne (Or.inl (ow hw 28 rfl)) (Or.inl (ow hw 25 rfl)) (by decide) (t := (.array (.object "java/lang/Object"))) (t' := .int) (by decide) (by decide)) (oninS (slot_ne (Or.inl (ow hw 28 rfl)) (Or.inl (ow hw 62 rfl)) (by decide) (t := (.array (.object "java/lang/Object"))) (t' := .int) (by decide) (by decide)) (oninA ne82 onin0)))).ext E90) K91 (oninA ne93 (oninA ne93 onin0)))
      have F96 : Fld Z T91.heap b70 "java/util/ArrayList" "size" "I" (.int (2 : Int32)) := (OKeep.fld (Fo83_1.ext E90) K91 (oninA ne93 (oninA ne93 onin0)))
      have ne97 : b9_5_6_11_75 ≠ b90 := (Nat.ne_of_lt (Nat.lt_of_lt_of_le (Nat.lt_of_lt_of_le (Nat.lt_of_lt_of_le (Nat.lt_of_lt_of_le Fo75_3.lt E80.1) K81.1) K83.1) sy_b90))
      have F98 : Arv Z T91.heap b9_5_6_11_75 k9_5_6_11_75 (.object "java/lang/Object") (10 : Int32) [(.ref b72), (.ref b80), .null, .null, .null, .null, .null, .null, .null, .null] .null := (OKeep.arv (Fo83_2.ext E90) K91 (oallS ne97 (oallS ne97 oall0)))
      obtain ⟨cq92, kq92, q92a, q92b, q92c⟩ := isOf hZ rfl (OKeep.exa ((OKeep.exa (OKeep.exa ((OKeep.exa (OKeep.exa ((OKeep.exa A70 K71).ext E72) K73) K75).ext E80) K81) K83).ext E90) K91)
      obtain ⟨_, _, ⟨T92, L92, k92, n92⟩, -, X92, ⟨Lc92, hQ92, l92, y92, z92⟩, st92⟩ := X91.virtualBack hx (y := (⟨"java/util/ArrayList", "add", "(Ljava/lang/Object;)Z"⟩ : MethodName)) (z := (⟨"java/util/ArrayList", "add", "(Ljava/lang/Object;)Z"⟩ : MethodName)) hown (mvT hZ (ow hw 107 rfl)) (mvT hZ (ow hw 108 rfl)) (notFace_of_selects (args := #[]) (mvT hZ (ow hw 110 rfl))) (mvT hZ (ow hw 110 rfl)) (mvT hZ (ow hw 109 rfl)) (by decide) (backOf (W := 0) (rm15_2 l Z a0 hw [] G b70 b90 b9_5_6_11_75 k9_5_6_11_75 b72 b80 T91.heap n0 O91 F94 (OKeep.exa ((OKeep.exa (OKeep.exa ((OKeep.exa (OKeep.exa ((OKeep.exa A70 K71).ext E72) K73) K75).ext E80) K81) K83).ext E90) K91) g_b70 F95 F96 F98 Fo75_5 g_b9_5_6_11_75 (OKeep.exa A90 K91) ne82) hZ (ow hw 111 rfl) (ow hw 5 rfl) (by decide) (by decide)) q92a q92c (g := (mkF m 184 #[.val (.int p1), .val (.int p2), .val (.int p3), .val (.int p4), .val (.int p5), .val (.int (3 : Int32)), .val (.long (p2.toInt64)), .second, .val (.long (((p2.toInt64) + (1 : Int64)) + ((p3 &&& (65535 : Int32)).toInt64))), .second, .val (.long (((((p2.toInt64) + (1 : Int64)) + ((p3 &&& (65535 : Int32)).toInt64)) + (1 : Int64)) + ((p4 &&& (65535 : Int32)).toInt64))), .second, .val (.long (((((p2.toInt64) + (1 : Int64)) + ((p3 &&& (65535 : Int32)).toInt64)) + (1 : Int64)) + ((p4 &&& (65535 : Int32)).toInt64))), .second, .val (.ref b70), .unset] [(.ref b90), (.ref b70)])) rfl (by rw [hml]; rfl) (Steps.refl _) (argsL := [(.ref b90)]) (rest := []) (lenOf pd_11 rfl) rfl (by show 2 * 0 + _ ≤ _; exact Nat.le_of_eq rfl) (hb hby at_184) (fun _ _ => ⟨rfl, rfl, (by decide : 5 + 0 ≤ _), (by decide : 19 + 0 ≤ _)⟩)
      dsimp only [Pt.U, Pt.locs, Pt.cells, Pt.slots] at X92 l92 y92 z92 st92 hQ92
      subst l92 y92 z92
      obtain ⟨N92q, rfl, K92, Fo92_0, Fo92_1, Fo92_2⟩ := hQ92
      have O92 := OKeep.old O91 K92 (ogeS g_b70 (ogeS g_b70 (ogeS g_b9_5_6_11_75 oge0)))
      have N92 := Fr.app N91 N92q
      refine OGot.on st92 ?_
      refine OGot.go (fun t k => XS.pop X92.here hx rfl (hb hby at_187) rfl rfl k) ?_
      obtain ⟨T99, h99, X99, e99, E99, A99, D99, -, st99⟩ := newO X92 hx hZ hown (ow hw 0 rfl) (ow hw 1 rfl) (ow hw 2 rfl) rfl (g := (mkF m 188 #[.val (.int p1), .val (.int p2), .val (.int p3), .val (.int p4), .val (.int p5), .val (.int (3 : Int32)), .val (.long (p2.toInt64)), .second, .val (.long (((p2.toInt64) + (1 : Int64)) + ((p3 &&& (65535 : Int32)).toInt64))), .second, .val (.long (((((p2.toInt64) + (1 : Int64)) + ((p3 &&& (65535 : Int32)).toInt64)) + (1 : Int64)) + ((p4 &&& (65535 : Int32)).toInt64))), .second, .val (.long (((((p2.toInt64) + (1 : Int64)) + ((p3 &&& (65535 : Int32)).toInt64)) + (1 : Int64)) + ((p4 &&& (65535 : Int32)).toInt64))), .second, .val (.ref b70), .unset] [])) rfl (hb hby at_188) (by decide) (by decide)
      obtain ⟨b99, g99⟩ : ∃ z, z = T92.heap.size := ⟨_, rfl⟩
      rw [← g99] at A99 D99 st99
      refine OGot.go st99 ?_
      have g_b99 : n0 ≤ b99 := Nat.le_trans (osz O92) (Nat.le_of_eq g99.symm)
      have sy_b99 : T92.heap.size ≤ b99 := Nat.le_of_eq g99.symm
      have O99 := O92.ext E99
      have F99_aCells : Fld Z h99 b99 "com/example/curtail/curtail/Placement" "aCells" "Ljava/util/List;" .null := D99 (Or.inr (ow hw 80 rfl)) (ty := (.object "java/util/List")) (by decide)
      refine OGot.go (fun t k => XS.dup X99.here hx rfl (hb hby at_191) rfl rfl k) ?_
      refine OGot.go (fun t k => XS.aload X99.here hx rfl (hb hby at_192) rfl rfl k) ?_
      show OGot p.tables e below (T99.setTop (mkF m 194 #[.val (.int p1), .val (.int p2), .val (.int p3), .val (.int p4), .val (.int p5), .val (.int (3 : Int32)), .val (.long (p2.toInt64)), .second, .val (.long (((p2.toInt64) + (1 : Int64)) + ((p3 &&& (65535 : Int32)).toInt64))), .second, .val (.long (((((p2.toInt64) + (1 : Int64)) + ((p3 &&& (65535 : Int32)).toInt64)) + (1 : Int64)) + ((p4 &&& (65535 : Int32)).toInt64))), .second, .val (.long (((((p2.toInt64) + (1 : Int64)) + ((p3 &&& (65535 : Int32)).toInt64)) + (1 : Int64)) + ((p4 &&& (65535 : Int32)).toInt64))), .second, .val (.ref b70), .unset] [(.ref b70), (.ref b99), (.ref b99)])) _
      have F101 : Fld Z h99 b70 "java/util/ArrayList" "size" "I" (.int (3 : Int32)) := (Fo92_1.ext E99)
      have F102 : Fld Z h99 b70 "java/util/ArrayList" "elementData" "[Ljava/lang/Object;" (.ref b9_5_6_11_75) := ((OKeep.fld F95 K92 (oninS (slot_ne (Or.inl (ow hw 28 rfl)) (Or.inl (ow hw 25 rfl)) (by decide) (t := (.array (.object "java/lang/Object"))) (t' := .int) (by decide) (by decide)) (oninS (slot_ne (Or.inl (ow hw 28 rfl)) (Or.inl (ow hw 62 rfl)) (by decide) (t := (.array (.object "java/lang/Object"))) (t' := .int) (by decide) (by decide)) (oninA ne82 onin0)))).ext E99)
      have F103 : Arv Z h99 b9_5_6_11_75 k9_5_6_11_75 (.object "java/lang/Object") (10 : Int32) [(.ref b72), (.ref b80), (.ref b90), .null, .null, .null, .null, .null, .null, .null] .null := (Fo92_2.ext E99)
      have ne104 : b80 ≠ b90 := (Nat.ne_of_lt (Nat.lt_of_lt_of_le (Nat.lt_of_lt_of_le (Nat.lt_of_lt_of_le A80.lt K81.1) K83.1) sy_b90))
      have F105 : Fld Z h99 b80 "com/example/curtail/curtail/Placement$Cell" "nSlot" "I" (.int ((((p2.toInt64) + (1 : Int64)) + ((p3 &&& (65535 : Int32)).toInt64)).toInt32)) := ((OKeep.fld (OKeep.fld ((OKeep.fld Fo81_0 K83 (oninA (Ne.symm ne84) (oninA (Ne.symm ne84) (oninA (Ne.symm ne88) onin0)))).ext E90) K91 (oninA ne104 (oninA ne104 onin0))) K92 (oninA (Ne.symm ne84) (oninA (Ne.symm ne84) (oninA (Ne.symm ne88) onin0)))).ext E99)
      have ne106 : b72 ≠ b80 := (Nat.ne_of_lt (Nat.lt_of_lt_of_le (Nat.lt_of_lt_of_le (Nat.lt_of_lt_of_le A72.lt K73.1) K75.1) sy_b80))
      have ne107 : b72 ≠ b9_5_6_11_75 := (Nat.ne_of_lt (Nat.lt_of_lt_of_le (Nat.lt_of_lt_of_le A72.lt K73.1) szb9_5_6_11_75_75))
      have ne108 : b72 ≠ b90 := (Nat.ne_of_lt (Nat.lt_of_lt_of_le (Nat.lt_of_lt_of_le (Nat.lt_of_lt_of_le (Nat.lt_of_lt_of_le (Nat.lt_of_lt_of_le (Nat.lt_of_lt_of_le A72.lt K73.1) K75.1) E80.1) K81.1) K83.1) sy_b90))
      have F109 : Fld Z h99 b72 "com/example/curtail/curtail/Placement$Cell" "nSlot" "I" (.int ((p2.toInt64).toInt32)) := ((OKeep.fld (OKeep.fld ((OKeep.fld (OKeep.fld ((OKeep.fld Fo73_0 K75 (oninA (Ne.symm ne76) (oninA (Ne.symm ne76) (oninA (Ne.symm ne76) onin0)))).ext E80) K81 (oninA ne106 (oninA ne106 onin0))) K83 (oninA (Ne.symm ne76) (oninA (Ne.symm ne76) (oninA ne107 onin0)))).ext E90) K91 (oninA ne108 (oninA ne108 onin0))) K92 (oninA (Ne.symm ne76) (oninA (Ne.symm ne76) (oninA ne107 onin0)))).ext E99)
      have F110 : Fld Z h99 b90 "com/example/curtail/curtail/Placement$Cell" "nSlot" "I" (.int ((((((p2.toInt64) + (1 : Int64)) + ((p3 &&& (65535 : Int32)).toInt64)) + (1 : Int64)) + ((p4 &&& (65535 : Int32)).toInt64)).toInt32)) := ((OKeep.fld Fo91_0 K92 (oninA (Ne.symm ne93) (oninA (Ne.symm ne93) (oninA (Ne.symm ne97) onin0)))).ext E99)
      obtain ⟨_, _, ⟨T100, L100, k100, n100⟩, -, X100, ⟨Lc100, hQ100, l100, y100, z100⟩, st100⟩ := X99.specialBack hx (y := (⟨"com/example/curtail/curtail/Placement", "<init>", "(Ljava/util/List;)V"⟩ : MethodName)) rfl hown (mvT hZ (ow hw 29 rfl)) (mvT hZ (ow hw 30 rfl)) (mvT hZ (ow hw 31 rfl)) (by decide) (backOf (W := 1) (rm5_3 l Z a0 hw [] G b99 b70 b9_5_6_11_75 k9_5_6_11_75 b72 b80 b90 ((((p2.toInt64) + (1 : Int64)) + ((p3 &&& (65535 : Int32)).toInt64)).toInt32) ((p2.toInt64).toInt32) ((((((p2.toInt64) + (1 : Int64)) + ((p3 &&& (65535 : Int32)).toInt64)) + (1 : Int64)) + ((p4 &&& (65535 : Int32)).toInt64)).toInt32) h99 n0 O99 ((OKeep.exa (OKeep.exa ((OKeep.exa (OKeep.exa ((OKeep.exa (OKeep.exa ((OKeep.exa A70 K71).ext E72) K73) K75).ext E80) K81) K83).ext E90) K91) K92).ext E99) F101 F102 ((OKeep.exa (OKeep.exa ((OKeep.exa (OKeep.exa (Fo75_3.ext E80) K81) K83).ext E90) K91) K92).ext E99) F103 Fo75_5 ((OKeep.exa (OKeep.exa A90 K91) K92).ext E99) ((OKeep.exa (OKeep.exa ((OKeep.exa (OKeep.exa A80 K81) K83).ext E90) K91) K92).ext E99) ((OKeep.exa (OKeep.exa ((OKeep.exa (OKeep.exa ((OKeep.exa (OKeep.exa A72 K73) K75).ext E80) K81) K83).ext E90) K91) K92).ext E99) F105 F109 (own_b p2 p3 p4 hs69) F110 (own_c p2 p3 p4 hs69) A99 F99_aCells g_b99) hZ (ow hw 31 rfl) (ow hw 2 rfl) (by decide) (by decide)) (g := (mkF m 194 #[.val (.int p1), .val (.int p2), .val (.int p3), .val (.int p4), .val (.int p5), .val (.int (3 : Int32)), .val (.long (p2.toInt64)), .second, .val (.long (((p2.toInt64) + (1 : Int64)) + ((p3 &&& (65535 : Int32)).toInt64))), .second, .val (.long (((((p2.toInt64) + (1 : Int64)) + ((p3 &&& (65535 : Int32)).toInt64)) + (1 : Int64)) + ((p4 &&& (65535 : Int32)).toInt64))), .second, .val (.long (((((p2.toInt64) + (1 : Int64)) + ((p3 &&& (65535 : Int32)).toInt64)) + (1 : Int64)) + ((p4 &&& (65535 : Int32)).toInt64))), .second, .val (.ref b70), .unset] [(.ref b70), (.ref b99), (.ref b99)])) rfl (by rw [hml]; rfl) (Steps.refl _) (a := b99) (argsL := [(.ref b70)]) (rest := [(.ref b99)]) (lenOf pd_5 rfl) rfl (by show 2 * 0 + _ ≤ _; exact Nat.le_of_eq rfl) (hb hby at_194) (fun _ _ => ⟨rfl, e99, (by decide : 6 + 3 ≤ _), (by decide : 20 + 8 ≤ _)⟩)
      dsimp only [Pt.U, Pt.locs, Pt.cells, Pt.slots] at X100 l100 y100 z100 st100 hQ100
      subst l100 y100 z100
      obtain ⟨N100q, b26_7_11_7_9_100, b7_7_11_7_9_100, k7_7_11_7_9_100, rfl, szb26_7_11_7_9_100_100, szb7_7_11_7_9_100_100, neb26_7_11_7_9_100_b7_7_11_7_9_100_100, K100, Fo100_0, Fo100_1, Fo100_2, Fo100_3, Fo100_4, Fo100_5, Fo100_6⟩ := hQ100
      have g_b26_7_11_7_9_100 : n0 ≤ b26_7_11_7_9_100 := Nat.le_trans (osz O99) szb26_7_11_7_9_100_100
      have g_b7_7_11_7_9_100 : n0 ≤ b7_7_11_7_9_100 := Nat.le_trans (osz O99) szb7_7_11_7_9_100_100
      have O100 := OKeep.old O99 K100 (ogeS g_b99 oge0)
      have N100 := Fr.app N92 N100q
      refine OGot.on st100 ?_
      refine OGot.go (fun t k => XS.astore X100.here hx rfl (hb hby at_197) rfl rfl (l' := #[.val (.int p1), .val (.int p2), .val (.int p3), .val (.int p4), .val (.int p5), .val (.int (3 : Int32)), .val (.long (p2.toInt64)), .second, .val (.long (((p2.toInt64) + (1 : Int64)) + ((p3 &&& (65535 : Int32)).toInt64))), .second, .val (.long (((((p2.toInt64) + (1 : Int64)) + ((p3 &&& (65535 : Int32)).toInt64)) + (1 : Int64)) + ((p4 &&& (65535 : Int32)).toInt64))), .second, .val (.long (((((p2.toInt64) + (1 : Int64)) + ((p3 &&& (65535 : Int32)).toInt64)) + (1 : Int64)) + ((p4 &&& (65535 : Int32)).toInt64))), .second, .val (.ref b70), .val (.ref b99)]) rfl k) ?_
      refine OGot.go (fun t k => XS.aload X100.here hx rfl (hb hby at_199) rfl rfl k) ?_
      have ne112 : b90 ≠ b99 := (Nat.ne_of_lt (Nat.lt_of_lt_of_le (Nat.lt_of_lt_of_le (Nat.lt_of_lt_of_le A90.lt K91.1) K92.1) sy_b99))
      have F113 : Fld Z T100.heap b90 "com/example/curtail/curtail/Placement$Cell" "nSlot" "I" (.int ((((((p2.toInt64) + (1 : Int64)) + ((p3 &&& (65535 : Int32)).toInt64)) + (1 : Int64)) + ((p4 &&& (65535 : Int32)).toInt64)).toInt32)) := (OKeep.fld F110 K100 (oninA ne112 onin0))
      obtain ⟨cq111, kq111, q111a, q111b, q111c⟩ := isOf hZ rfl (OKeep.exa A99 K100)
      obtain ⟨_, _, ⟨T111, L111, k111, n111⟩, -, X111, ⟨Lc111, hQ111, l111, y111, z111⟩, st111⟩ := X100.virtualBack hx (y := (⟨"com/example/curtail/curtail/Placement", "completionSlot", "()I"⟩ : MethodName)) (z := (⟨"com/example/curtail/curtail/Placement", "completionSlot", "()I"⟩ : MethodName)) hown (mvT hZ (ow hw 213 rfl)) (mvT hZ (ow hw 214 rfl)) (notFace_of_selects (args := #[]) (mvT hZ (ow hw 216 rfl))) (mvT hZ (ow hw 216 rfl)) (mvT hZ (ow hw 215 rfl)) (by decide) (backOf (W := 0) (rm32_2 l Z a0 hw [] G b99 b26_7_11_7_9_100 b7_7_11_7_9_100 k7_7_11_7_9_100 b72 b80 b90 ((((((p2.toInt64) + (1 : Int64)) + ((p3 &&& (65535 : Int32)).toInt64)) + (1 : Int64)) + ((p4 &&& (65535 : Int32)).toInt64)).toInt32) T100.heap n0 O100 Fo100_0 Fo100_1 Fo100_3 Fo100_5 Fo100_6 (OKeep.exa ((OKeep.exa (OKeep.exa A90 K91) K92).ext E99) K100) F113) hZ (ow hw 217 rfl) (ow hw 2 rfl) (by decide) (by decide)) q111a q111c (g := (mkF m 201 #[.val (.int p1), .val (.int p2), .val (.int p3), .val (.int p4), .val (.int p5), .val (.int (3 : Int32)), .val (.long (p2.toInt64)), .second, .val (.long (((p2.toInt64) + (1 : Int64)) + ((p3 &&& (65535 : Int32)).toInt64))), .second, .val (.long (((((p2.toInt64) + (1 : Int64)) + ((p3 &&& (65535 : Int32)).toInt64)) + (1 : Int64)) + ((p4 &&& (65535 : Int32)).toInt64))), .second, .val (.long (((((p2.toInt64) + (1 : Int64)) + ((p3 &&& (65535 : Int32)).toInt64)) + (1 : Int64)) + ((p4 &&& (65535 : Int32)).toInt64))), .second, .val (.ref b70), .val (.ref b99)] [(.ref b99)])) rfl (by rw [hml]; rfl) (Steps.refl _) (argsL := []) (rest := []) (lenOf pd_4 rfl) rfl (by show 2 * 0 + _ ≤ _; exact Nat.le_of_eq rfl) (hb hby at_201) (fun _ _ => ⟨rfl, rfl, (by decide : 9 + 0 ≤ _), (by decide : 28 + 0 ≤ _)⟩)
      dsimp only [Pt.U, Pt.locs, Pt.cells, Pt.slots] at X111 l111 y111 z111 st111 hQ111
      subst l111 y111 z111
      obtain ⟨rfl, N111q, e111⟩ := hQ111
      have N111 := Fr.app N100 N111q
      refine OGot.on st111 ?_
      refine OGot.go (fun t k => XS.lload X111.here hx rfl (hb hby at_204) rfl k) ?_
      show OGot p.tables e below (T111.setTop (mkF m 206 #[.val (.int p1), .val (.int p2), .val (.int p3), .val (.int p4), .val (.int p5), .val (.int (3 : Int32)), .val (.long (p2.toInt64)), .second, .val (.long (((p2.toInt64) + (1 : Int64)) + ((p3 &&& (65535 : Int32)).toInt64))), .second, .val (.long (((((p2.toInt64) + (1 : Int64)) + ((p3 &&& (65535 : Int32)).toInt64)) + (1 : Int64)) + ((p4 &&& (65535 : Int32)).toInt64))), .second, .val (.long (((((p2.toInt64) + (1 : Int64)) + ((p3 &&& (65535 : Int32)).toInt64)) + (1 : Int64)) + ((p4 &&& (65535 : Int32)).toInt64))), .second, .val (.ref b70), .val (.ref b99)] [(.long (((((p2.toInt64) + (1 : Int64)) + ((p3 &&& (65535 : Int32)).toInt64)) + (1 : Int64)) + ((p4 &&& (65535 : Int32)).toInt64))), (.int ((((((p2.toInt64) + (1 : Int64)) + ((p3 &&& (65535 : Int32)).toInt64)) + (1 : Int64)) + ((p4 &&& (65535 : Int32)).toInt64)).toInt32))])) _
      refine OGot.go (fun t k => XS.l2i X111.here hx rfl (hb hby at_206) rfl k) ?_
      refine OGot.go (fun t k => XS.icmpNo X111.here hx rfl (hb hby at_207) rfl (teq rfl).2 k) ?_
      refine OGot.go (fun t k => XS.iconst X111.here hx rfl (hb hby at_210) k) ?_
      refine OGot.go (fun t k => XS.goto X111.here hx rfl (pc0 := 211) (pc' := 215) rfl (hb hby at_211) (by decide) (by decide) k) ?_
      show OGot p.tables e below (T111.setTop (mkF m 215 #[.val (.int p1), .val (.int p2), .val (.int p3), .val (.int p4), .val (.int p5), .val (.int (3 : Int32)), .val (.long (p2.toInt64)), .second, .val (.long (((p2.toInt64) + (1 : Int64)) + ((p3 &&& (65535 : Int32)).toInt64))), .second, .val (.long (((((p2.toInt64) + (1 : Int64)) + ((p3 &&& (65535 : Int32)).toInt64)) + (1 : Int64)) + ((p4 &&& (65535 : Int32)).toInt64))), .second, .val (.long (((((p2.toInt64) + (1 : Int64)) + ((p3 &&& (65535 : Int32)).toInt64)) + (1 : Int64)) + ((p4 &&& (65535 : Int32)).toInt64))), .second, .val (.ref b70), .val (.ref b99)] [(.int (1 : Int32))])) _
      obtain ⟨fs, hr, hrun, hended, hW, hsame⟩ := X111.leave (v := some (.int (1 : Int32))) (fun h => by rw [Bd.returns] at h; cases h)
      refine ⟨_, _, retN X111 hx (t := .boolean) Bd.returns (by simp) (hb hby at_215) hr, hrun, hended, _, _, rfl, ?_, ⟨_, rfl⟩, hW, hsame.mono (by decide) (by decide)⟩
      exact (⟨rfl, N111⟩ : Q0 Z m_OA w_EMPTY_ELEMENTDATA w_DEFAULTCAPACITY_EMPTY_ELEMENTDATA w_EMPTY_LIST w_EMPTY_LIST_elements w_EMPTY k_w_EMPTY_ELEMENTDATA k_w_DEFAULTCAPACITY_EMPTY_ELEMENTDATA k_w_EMPTY_LIST_elements p1 p2 p3 p4 p5 h0 n0 _ T111.heap _)
set_option maxRecDepth 65536 in
set_option maxHeartbeats 40000000 in
theorem comes_1 {Post : Tables → Env → Array Value → State → Outcome → State → Prop} (hpost : ∀ tb e args s v u, (limb_1_1.after args s (.returned v) u = true ∧ limb_1_2.after args s (.returned v) u = true ∧ True) → FrameEnd s (.returned v) u (Jvm.fieldLocs frame_1_writes args s ++ Jvm.arrayLocs frame_1_arrays args s ++ Jvm.staticLocs frame_1_statics s) 32 128 → Post tb e args s (.returned v) u) :
    ArmFor flags0 classFile x code maxLocals ret World_1 tables_1 room_1 Calls_1 rest_1 Pre_1 Post := by
  intro l hfl _ _ p e ha hc hk s m args below hf hA hF happ hP
  obtain ⟨hcalls, hrest, hpre⟩ := hP
  obtain ⟨-, -, -, hnamed, -, -, -, hat⟩ := (Spec.applies_iff hf).mp happ
  obtain ⟨hg, hn⟩ := and_e (Cond.before_iff.mp (show (Jvm.Cond.and given_1 narrow_1).before args s = true from hpre))
  obtain ⟨g0, g0r⟩ := and_e hg
  obtain ⟨g1, g1r⟩ := and_e g0r
  obtain ⟨g2, g2r⟩ := and_e g1r
  obtain ⟨g3, g3r⟩ := and_e g2r
  obtain ⟨g4, g4r⟩ := and_e g3r
  obtain ⟨w0, w1, w2, w3, w4, rfl⟩ : ∃ w0 w1 w2 w3 w4 : Value, args = #[w0, w1, w2, w3, w4] := by
    have hs : args.size = 5 := by simpa [Cond.value, given_1] using g0
    obtain ⟨L⟩ := args
    match L, hs with
    | [w0, w1, w2, w3, w4], _ => exact ⟨w0, w1, w2, w3, w4, rfl⟩
  have hw := fun d (hd : d ∈ tables_1) => atoms_spec (ws := Jvm.Cond.code x code maxLocals ret :: tables_1) hat d (List.mem_cons_of_mem _ hd)
  obtain ⟨i0, ei0⟩ := is_v g1
  obtain rfl : w0 = (.int i0) := Option.some.inj ei0
  obtain ⟨i1, ei1⟩ := is_v g2
  obtain rfl : w1 = (.int i1) := Option.some.inj ei1
  obtain ⟨i2, ei2⟩ := is_v g3
  obtain rfl : w2 = (.int i2) := Option.some.inj ei2
  obtain ⟨i3, ei3⟩ := is_v g4
  obtain rfl : w3 = (.int i3) := Option.some.inj ei3
  obtain ⟨i4, ei4⟩ := is_v g4r
  obtain rfl : w4 = (.int i4) := Option.some.inj ei4
  obtain ⟨hsets, hown0⟩ := atoms_of _ (rest_1_c_eq ▸ (show rest_1_c.before _ s = true from hrest))
  have hfit : Fit s := fun {y c} hc i hi => by
    obtain ⟨ha, rfl⟩ := Array.getElem?_eq_some_iff.mp hc
    have q := List.all_eq_true.mp ((Array.all_eq_true_iff_forall_mem.mp hF) _ (Array.getElem_mem ha)) i (List.mem_range.mpr hi)
    simpa [Array.getElem?_eq_getElem hi] using q
  obtain ⟨⟨c_OA, k_OA, m_OA, mq1, mq2, mq3, -⟩, -⟩ := hcalls
  obtain ⟨w_EMPTY_ELEMENTDATA, ev_w_EMPTY_ELEMENTDATA⟩ := exa_v (Cond.before_iff.mp (hsets _ (List.mem_of_getElem? (i := 4) rfl)))
  obtain ⟨w_DEFAULTCAPACITY_EMPTY_ELEMENTDATA, ev_w_DEFAULTCAPACITY_EMPTY_ELEMENTDATA⟩ := exa_v (Cond.before_iff.mp (hsets _ (List.mem_of_getElem? (i := 7) rfl)))
  obtain ⟨w_EMPTY_LIST, ev_w_EMPTY_LIST⟩ := exa_v (Cond.before_iff.mp (hsets _ (List.mem_of_getElem? (i := 11) rfl)))
  obtain ⟨w_EMPTY_LIST_elements, ev_w_EMPTY_LIST_elements⟩ := exa_v (Cond.before_iff.mp (hsets _ (List.mem_of_getElem? (i := 13) rfl)))
  obtain ⟨w_EMPTY, ev_w_EMPTY⟩ := exa_v (Cond.before_iff.mp (hsets _ (List.mem_of_getElem? (i := 18) rfl)))
  obtain ⟨cl_w_EMPTY_ELEMENTDATA, A_w_EMPTY_ELEMENTDATA⟩ := Arr.start ev_w_EMPTY_ELEMENTDATA (Cond.before_iff.mp (hsets _ (List.mem_of_getElem? (i := 3) rfl)))
  obtain ⟨sz_w_EMPTY_ELEMENTDATA, ln_w_EMPTY_ELEMENTDATA⟩ := olen (oeq_int (Cond.before_iff.mp (hsets _ (List.mem_of_getElem? (i := 5) rfl)))) ev_w_EMPTY_ELEMENTDATA (A_w_EMPTY_ELEMENTDATA.fin (Vm.Alike.refl _))
  obtain ⟨k_w_EMPTY_ELEMENTDATA, hk_w_EMPTY_ELEMENTDATA⟩ : ∃ z, z = cl_w_EMPTY_ELEMENTDATA.cls := ⟨_, rfl⟩
  obtain ⟨cl_w_DEFAULTCAPACITY_EMPTY_ELEMENTDATA, A_w_DEFAULTCAPACITY_EMPTY_ELEMENTDATA⟩ := Arr.start ev_w_DEFAULTCAPACITY_EMPTY_ELEMENTDATA (Cond.before_iff.mp (hsets _ (List.mem_of_getElem? (i := 6) rfl)))
  obtain ⟨sz_w_DEFAULTCAPACITY_EMPTY_ELEMENTDATA, ln_w_DEFAULTCAPACITY_EMPTY_ELEMENTDATA⟩ := olen (oeq_int (Cond.before_iff.mp (hsets _ (List.mem_of_getElem? (i := 8) rfl)))) ev_w_DEFAULTCAPACITY_EMPTY_ELEMENTDATA (A_w_DEFAULTCAPACITY_EMPTY_ELEMENTDATA.fin (Vm.Alike.refl _))
  obtain ⟨k_w_DEFAULTCAPACITY_EMPTY_ELEMENTDATA, hk_w_DEFAULTCAPACITY_EMPTY_ELEMENTDATA⟩ : ∃ z, z = cl_w_DEFAULTCAPACITY_EMPTY_ELEMENTDATA.cls := ⟨_, rfl⟩
  obtain ⟨cl_w_EMPTY_LIST_elements, A_w_EMPTY_LIST_elements⟩ := Arr.start ev_w_EMPTY_LIST_elements (Cond.before_iff.mp (hsets _ (List.mem_of_getElem? (i := 12) rfl)))
  obtain ⟨sz_w_EMPTY_LIST_elements, ln_w_EMPTY_LIST_elements⟩ := olen (oeq_int (Cond.before_iff.mp (hsets _ (List.mem_of_getElem? (i := 14) rfl)))) ev_w_EMPTY_LIST_elements (A_w_EMPTY_LIST_elements.fin (Vm.Alike.refl _))
  obtain ⟨k_w_EMPTY_LIST_elements, hk_w_EMPTY_LIST_elements⟩ : ∃ z, z = cl_w_EMPTY_LIST_elements.cls := ⟨_, rfl⟩
  have G : Glob s m_OA w_EMPTY_ELEMENTDATA w_DEFAULTCAPACITY_EMPTY_ELEMENTDATA w_EMPTY_LIST w_EMPTY_LIST_elements w_EMPTY k_w_EMPTY_ELEMENTDATA k_w_DEFAULTCAPACITY_EMPTY_ELEMENTDATA k_w_EMPTY_LIST_elements := ⟨⟨c_OA, k_OA, mq1, mq2, mq3⟩, (Sta.start ev_w_EMPTY_ELEMENTDATA (Or.inl (hsets _ (List.mem_of_getElem? (i := 1) rfl)))), (Exa.start ev_w_EMPTY_ELEMENTDATA (Cond.before_iff.mp (hsets _ (List.mem_of_getElem? (i := 4) rfl)))), (Sta.start ev_w_DEFAULTCAPACITY_EMPTY_ELEMENTDATA (Or.inr ⟨(ow hw 5 rfl), (hsets _ (List.mem_of_getElem? (i := 2) rfl))⟩)), (Exa.start ev_w_DEFAULTCAPACITY_EMPTY_ELEMENTDATA (Cond.before_iff.mp (hsets _ (List.mem_of_getElem? (i := 7) rfl)))), (Sta.start ev_w_EMPTY_LIST (Or.inl (hsets _ (List.mem_of_getElem? (i := 10) rfl)))), (Exa.start ev_w_EMPTY_LIST (Cond.before_iff.mp (hsets _ (List.mem_of_getElem? (i := 11) rfl)))), (Fld.start ((fld_at ev_w_EMPTY_LIST).symm.trans ev_w_EMPTY_LIST_elements)), (Exa.start ev_w_EMPTY_LIST_elements (Cond.before_iff.mp (hsets _ (List.mem_of_getElem? (i := 13) rfl)))), (Sta.start ev_w_EMPTY (Or.inl (hsets _ (List.mem_of_getElem? (i := 17) rfl)))), (Exa.start ev_w_EMPTY (Cond.before_iff.mp (hsets _ (List.mem_of_getElem? (i := 18) rfl)))), (hk_w_EMPTY_ELEMENTDATA ▸ Arv.start hfit A_w_EMPTY_ELEMENTDATA sz_w_EMPTY_ELEMENTDATA ln_w_EMPTY_ELEMENTDATA (by decide) rfl trivial), (hk_w_DEFAULTCAPACITY_EMPTY_ELEMENTDATA ▸ Arv.start hfit A_w_DEFAULTCAPACITY_EMPTY_ELEMENTDATA sz_w_DEFAULTCAPACITY_EMPTY_ELEMENTDATA ln_w_DEFAULTCAPACITY_EMPTY_ELEMENTDATA (by decide) rfl trivial), (hk_w_EMPTY_LIST_elements ▸ Arv.start hfit A_w_EMPTY_LIST_elements sz_w_EMPTY_LIST_elements ln_w_EMPTY_LIST_elements (by decide) rfl trivial), (Fld.start ((fld_at ev_w_EMPTY_LIST).symm.trans (oeq_int (Cond.before_iff.mp (hsets _ (List.mem_of_getElem? (i := 15) rfl)))))), (Sta.start (oeq_int (Cond.before_iff.mp (hsets _ (List.mem_of_getElem? (i := 21) rfl)))) (Or.inl (hsets _ (List.mem_of_getElem? (i := 20) rfl))))⟩
  obtain ⟨n, o, h1, h2, h3, _, L, rfl, ⟨rfl, N⟩, hq⟩ := rm0 l s _ hw tables_1 G i0 i1 i2 i3 i4 s.heap s.heap.size (Old.start s) p e ha hc hk s m _ below hf ((Spec.applies_iff_loose hf).mp happ).1 ⟨rfl, State.Warmed39.refl s, rfl⟩ trivial
  refine ⟨n, _, h1, h2, h3, hpost _ _ _ _ _ _ ⟨Cond.after_iff.mpr rfl, Cond.after_iff.mpr (eq_i res_at (Term.int_eval (1)) rfl), trivial⟩ ⟨hq.1, hq.2.1, (hq.2.2.sift fun y hy => Or.inr (N y hy)).mono (by decide) (by decide)⟩⟩
theorem main_1_1 : Claimed_1_1 := comes_1 fun _ _ _ _ _ _ h hF => ⟨h.1, hF⟩
theorem main_1_2 : Claimed_1_2 := comes_1 fun _ _ _ _ _ _ h hF => ⟨h.2.1, hF⟩
end Jvm.Pilot.@@N@@
namespace Jvm.Pilot.@@N@@
open Jvm Jvm.ClassFile Sem Op Lib Jvm.Free Jvm.Stand Jvm.Pilot.@@N@@.Jvm.D
/-! MADE BY PROGRAM (witnessworld.py) out of the Statement's table words and the real class files: 29 classes; the members and pool entries that the words name. The judged class is class 1, her method 1. -/
namespace start1
open Jvm.ClassFile
def u (s : String) : CpInfo := .utf8 (stringToUtf16 s)
/-- a pool by its gaps: so many unusable entries, then the entry; so many at the end -/
def gap : Nat → List CpInfo → List CpInfo
  | 0, r => r
  | n + 1, r => .unusable :: gap n r
def poolList (es : List (Nat × CpInfo)) (last : Nat) : List CpInfo := es.foldr (fun e r => gap e.1 (e.2 :: r)) (gap last [])
def pool (es : List (Nat × CpInfo)) (last : Nat) : Array CpInfo := ⟨poolList es last⟩
def fileOf (pool : Array CpInfo) (this : Nat) (attrs : Array Attribute := #[]) (ms : Array MethodInfo := #[]) (fl : Nat := 33) (sup : Nat := 0) (ifs : Array Nat := #[]) (fds : Array FieldInfo := #[]) : ClassFile where
  minorVersion := 0
  majorVersion := 65
  constantPool := pool
  accessFlags := fl
  thisClass := this
  superClass := sup
  interfaces := ifs
  fields := fds
  methods := ms
  attributes := attrs
def plain (name : String) (sup : Option ClassId) : Class where
  name := name
  kind := .ordinary
  loader := none
  accessFlags := 33
  super := sup
  interfaces := #[]
  cf := none
  fields := #[]
  methods := #[]
  instanceTypes := #[]
  staticTypes := #[]
  resolved := #[]
  callSites := []
  init := .initialized
  statics := none
  mirror := none

def pool0 : Array CpInfo := pool [(5, u "<init>"), (0, u "()V"), (1, .class_ 10), (1, u "java/lang/Object"), (0, u "getClass"), (0, u "()Ljava/lang/Class;")] 111

def k0c0 : Code := { maxStack := 0, maxLocals := 1, code := object_method_1_code, exceptionTable := #[], attributes := #[] }
def k0m0 : Method := { name := "<init>", desc := "()V", sig := { parameters := [], returnType := none }, accessFlags := 1, code := some k0c0 }
def k0m1 : Method := { name := "getClass", desc := "()Ljava/lang/Class;", sig := { parameters := [], returnType := some (.object "java/lang/Class") }, accessFlags := 273, code := none }
/-- java/lang/Object -/
def k0 : Class := { plain "java/lang/Object" none with
  accessFlags := 33
  interfaces := #[]
  cf := some (fileOf pool0 8 #[] #[{ accessFlags := 1, nameIndex := 5, descriptorIndex := 6, attributes := #[] }, { accessFlags := 273, nameIndex := 11, descriptorIndex := 12, attributes := #[] }] 33 0 #[] #[])
  fields := #[]
  methods := #[k0m0, k0m1]
  instanceTypes := #[]
  staticTypes := #[]
  resolved := Array.replicate 124 none
  statics := none }

def pool1 : Array CpInfo := pool [(2, .class_ 4), (0, .nameAndType 5 6), (0, u "java/lang/Object"), (0, u "<init>"), (0, u "()V"), (0, .class_ 8), (0, u "com/example/curtail/curtail/Placement"), (0, .class_ 10), (0, u "java/util/ArrayList"), (0, .methodref 9 3), (0, .methodref 7 13), (0, .nameAndType 5 14), (0, u "(Ljava/util/List;)V"), (0, .methodref 7 16), (0, .nameAndType 17 18), (0, u "isAccepted"), (0, u "()Z"), (0, .integer 65535), (2, .long 2147483647), (1, .class_ 25), (0, u "com/example/curtail/curtail/Placement$Cell"), (0, .methodref 24 27), (0, .nameAndType 5 28), (0, u "(II)V"), (0, .methodref 9 30), (0, .nameAndType 31 32), (0, u "add"), (0, u "(Ljava/lang/Object;)Z"), (0, .methodref 7 34), (0, .nameAndType 35 36), (0, u "completionSlot"), (0, u "()I"), (0, .class_ 38), (0, u "com/example/curtail/curtail/PlacementCompletionSlotPinLaw"), (2, u "law"), (0, u "(IIIII)Z")] 5

def k1m0 : Method := { name := "<init>", desc := "()V", sig := { parameters := [], returnType := none }, accessFlags := 1, code := none }
def k1c1 : Code := { maxStack := 6, maxLocals := 16, code := code, exceptionTable := #[], attributes := #[] }
def k1m1 : Method := { name := "law", desc := "(IIIII)Z", sig := { parameters := [.int, .int, .int, .int, .int], returnType := some .boolean }, accessFlags := 9, code := some k1c1 }
/-- com/example/curtail/curtail/PlacementCompletionSlotPinLaw -/
def k1 : Class := { plain "com/example/curtail/curtail/PlacementCompletionSlotPinLaw" (some 0) with
  accessFlags := 49
  interfaces := #[]
  cf := some (fileOf pool1 37 #[] #[{ accessFlags := 1, nameIndex := 5, descriptorIndex := 6, attributes := #[] }, { accessFlags := 9, nameIndex := 41, descriptorIndex := 42, attributes := #[] }] 49 2 #[] #[])
  fields := #[]
  methods := #[k1m0, k1m1]
  instanceTypes := #[]
  staticTypes := #[]
  resolved := Array.replicate 48 none
  statics := none }

def pool2 : Array CpInfo := pool [(1, .methodref 2 3), (0, .class_ 4), (0, .nameAndType 5 6), (0, u "java/lang/Object"), (0, u "<init>"), (0, u "()V"), (0, .class_ 8), (0, u "java/lang/Record")] 13

def k2c0 : Code := { maxStack := 1, maxLocals := 1, code := jdk_30_method_1_code, exceptionTable := #[], attributes := #[] }
def k2m0 : Method := { name := "<init>", desc := "()V", sig := { parameters := [], returnType := none }, accessFlags := 4, code := some k2c0 }
/-- java/lang/Record -/
def k2 : Class := { plain "java/lang/Record" (some 0) with
  accessFlags := 1057
  interfaces := #[]
  cf := some (fileOf pool2 7 #[] #[{ accessFlags := 4, nameIndex := 5, descriptorIndex := 6, attributes := #[] }] 1057 2 #[] #[])
  fields := #[]
  methods := #[k2m0]
  instanceTypes := #[]
  staticTypes := #[]
  resolved := Array.replicate 22 none
  statics := none }

def pool3 : Array CpInfo := pool [(1, .methodref 2 3), (0, .class_ 4), (0, .nameAndType 5 6), (0, u "java/lang/Record"), (0, u "<init>"), (0, u "()V"), (0, .interfaceMethodref 8 9), (0, .class_ 10), (0, .nameAndType 11 12), (0, u "java/util/List"), (0, u "copyOf"), (0, u "(Ljava/util/Collection;)Ljava/util/List;"), (0, .interfaceMethodref 8 14), (0, .nameAndType 15 16), (0, u "size"), (0, u "()I"), (0, .interfaceMethodref 8 18), (0, .nameAndType 19 20), (0, u "get"), (0, u "(I)Ljava/lang/Object;"), (0, .class_ 22), (0, u "com/example/curtail/curtail/Placement$Cell"), (0, .methodref 21 24), (0, .nameAndType 25 16), (0, u "nSlot"), (15, .fieldref 42 43), (0, .class_ 44), (0, .nameAndType 45 46), (0, u "com/example/curtail/curtail/Placement"), (0, u "aCells"), (0, u "Ljava/util/List;"), (0, .interfaceMethodref 8 48), (0, .nameAndType 49 50), (0, u "isEmpty"), (0, u "()Z"), (23, u "(Ljava/util/List;)V"), (2, u "REJECTED"), (0, u "Lcom/example/curtail/curtail/Placement;"), (7, u "isAccepted"), (0, u "completionSlot")] 33

def k3c0 : Code := { maxStack := 4, maxLocals := 3, code := prog_14_method_1_code, exceptionTable := #[], attributes := #[] }
def k3m0 : Method := { name := "<init>", desc := "(Ljava/util/List;)V", sig := { parameters := [(.object "java/util/List")], returnType := none }, accessFlags := 1, code := some k3c0 }
def k3c1 : Code := { maxStack := 1, maxLocals := 1, code := prog_14_method_2_code, exceptionTable := #[], attributes := #[] }
def k3m1 : Method := { name := "isAccepted", desc := "()Z", sig := { parameters := [], returnType := some .boolean }, accessFlags := 1, code := some k3c1 }
def k3c2 : Code := { maxStack := 3, maxLocals := 1, code := prog_14_method_3_code, exceptionTable := #[], attributes := #[] }
def k3m2 : Method := { name := "completionSlot", desc := "()I", sig := { parameters := [], returnType := some .int }, accessFlags := 1, code := some k3c2 }
/-- com/example/curtail/curtail/Placement -/
def k3 : Class := { plain "com/example/curtail/curtail/Placement" (some 2) with
  accessFlags := 49
  interfaces := #[]
  cf := some (fileOf pool3 42 #[.nestMembers #[21]] #[{ accessFlags := 1, nameIndex := 5, descriptorIndex := 74, attributes := #[] }, { accessFlags := 1, nameIndex := 86, descriptorIndex := 50, attributes := #[] }, { accessFlags := 1, nameIndex := 87, descriptorIndex := 16, attributes := #[] }] 49 2 #[] #[{ accessFlags := 18, nameIndex := 45, descriptorIndex := 46, attributes := #[] }, { accessFlags := 25, nameIndex := 77, descriptorIndex := 78, attributes := #[] }])
  fields := #[{ name := "aCells", type := (.object "java/util/List"), accessFlags := 18, slot := 0, constantValue := 0 }, { name := "REJECTED", type := (.object "com/example/curtail/curtail/Placement"), accessFlags := 25, slot := 0, constantValue := 0 }]
  methods := #[k3m0, k3m1, k3m2]
  instanceTypes := #[(.object "java/util/List")]
  staticTypes := #[(.object "com/example/curtail/curtail/Placement")]
  resolved := Array.replicate 121 none
  statics := none }

def pool4 : Array CpInfo := pool [(8, .class_ 10), (1, u "java/lang/Iterable"), (24, .class_ 36), (0, u "java/lang/Object")] 25

/-- java/lang/Iterable -/
def k4 : Class := { plain "java/lang/Iterable" (some 0) with
  accessFlags := 1537
  interfaces := #[]
  cf := some (fileOf pool4 8 #[] #[] 1537 35 #[] #[])
  fields := #[]
  methods := #[]
  instanceTypes := #[]
  staticTypes := #[]
  resolved := Array.replicate 62 none
  statics := none }

def pool5 : Array CpInfo := pool [(10, .class_ 12), (1, u "java/util/Collection"), (0, u "toArray"), (16, u "()Z"), (29, .class_ 61), (0, u "java/lang/Object"), (0, .class_ 63), (0, u "java/lang/Iterable"), (2, u "isEmpty"), (3, u "()[Ljava/lang/Object;")] 44

def k5m0 : Method := { name := "isEmpty", desc := "()Z", sig := { parameters := [], returnType := some .boolean }, accessFlags := 1025, code := none }
def k5m1 : Method := { name := "toArray", desc := "()[Ljava/lang/Object;", sig := { parameters := [], returnType := some (.array (.object "java/lang/Object")) }, accessFlags := 1025, code := none }
/-- java/util/Collection -/
def k5 : Class := { plain "java/util/Collection" (some 0) with
  accessFlags := 1537
  interfaces := #[4]
  cf := some (fileOf pool5 10 #[] #[{ accessFlags := 1025, nameIndex := 66, descriptorIndex := 30, attributes := #[] }, { accessFlags := 1025, nameIndex := 13, descriptorIndex := 70, attributes := #[] }] 1537 60 #[62] #[])
  fields := #[]
  methods := #[k5m0, k5m1]
  instanceTypes := #[]
  staticTypes := #[]
  resolved := Array.replicate 115 none
  statics := none }

def pool6 : Array CpInfo := pool [(1, .methodref 2 3), (0, .class_ 4), (0, .nameAndType 5 6), (0, u "java/lang/Object"), (0, u "<init>"), (0, u "()V"), (1, .class_ 10), (1, u "java/util/AbstractCollection"), (66, .class_ 78), (0, u "java/util/Collection")] 81

def k6c0 : Code := { maxStack := 1, maxLocals := 1, code := jdk_22_method_1_code, exceptionTable := #[], attributes := #[] }
def k6m0 : Method := { name := "<init>", desc := "()V", sig := { parameters := [], returnType := none }, accessFlags := 4, code := some k6c0 }
/-- java/util/AbstractCollection -/
def k6 : Class := { plain "java/util/AbstractCollection" (some 0) with
  accessFlags := 1057
  interfaces := #[5]
  cf := some (fileOf pool6 8 #[] #[{ accessFlags := 4, nameIndex := 5, descriptorIndex := 6, attributes := #[] }] 1057 2 #[77] #[])
  fields := #[]
  methods := #[k6m0]
  instanceTypes := #[]
  staticTypes := #[]
  resolved := Array.replicate 160 none
  statics := none }

def pool7 : Array CpInfo := pool [(8, .class_ 10), (1, u "java/util/SequencedCollection"), (15, .class_ 27), (0, u "java/lang/Object"), (0, .class_ 29), (0, u "java/util/Collection")] 27

/-- java/util/SequencedCollection -/
def k7 : Class := { plain "java/util/SequencedCollection" (some 0) with
  accessFlags := 1537
  interfaces := #[5]
  cf := some (fileOf pool7 8 #[] #[] 1537 26 #[28] #[])
  fields := #[]
  methods := #[]
  instanceTypes := #[]
  staticTypes := #[]
  resolved := Array.replicate 57 none
  statics := none }

def pool8 : Array CpInfo := pool [(8, .class_ 10), (1, u "java/util/List"), (7, u "()Z"), (12, u "(Ljava/lang/Object;)V"), (16, u "<init>"), (18, u "isEmpty"), (7, u "get"), (0, u "(I)Ljava/lang/Object;"), (2, u "size"), (0, u "()I"), (7, u "of"), (1, .fieldref 91 92), (0, .class_ 93), (0, .nameAndType 94 95), (0, u "java/util/ImmutableCollections"), (0, u "EMPTY_LIST"), (0, u "Ljava/util/ImmutableCollections$ListN;"), (0, .class_ 97), (0, u "java/util/ImmutableCollections$List12"), (0, .methodref 96 99), (0, .nameAndType 48 31), (0, .methodref 96 101), (0, .nameAndType 48 102), (0, u "(Ljava/lang/Object;Ljava/lang/Object;)V"), (0, .class_ 104), (0, u "java/lang/Object"), (3, u "([Ljava/lang/Object;)Ljava/util/List;"), (0, .methodref 91 110), (0, .nameAndType 111 108), (0, u "listFromArray"), (0, .methodref 91 113), (0, .nameAndType 114 115), (0, u "listCopy"), (0, u "(Ljava/util/Collection;)Ljava/util/List;"), (3, u "()Ljava/util/List;"), (0, .class_ 121), (0, u "java/util/SequencedCollection"), (112, u "copyOf")] 16

def k8m0 : Method := { name := "size", desc := "()I", sig := { parameters := [], returnType := some .int }, accessFlags := 1025, code := none }
def k8m1 : Method := { name := "isEmpty", desc := "()Z", sig := { parameters := [], returnType := some .boolean }, accessFlags := 1025, code := none }
def k8m2 : Method := { name := "get", desc := "(I)Ljava/lang/Object;", sig := { parameters := [.int], returnType := some (.object "java/lang/Object") }, accessFlags := 1025, code := none }
def k8c3 : Code := { maxStack := 1, maxLocals := 0, code := jdk_40_method_36_code, exceptionTable := #[], attributes := #[] }
def k8m3 : Method := { name := "of", desc := "()Ljava/util/List;", sig := { parameters := [], returnType := some (.object "java/util/List") }, accessFlags := 9, code := some k8c3 }
def k8c4 : Code := { maxStack := 5, maxLocals := 2, code := jdk_40_method_47_code, exceptionTable := #[], attributes := #[] }
def k8m4 : Method := { name := "of", desc := "([Ljava/lang/Object;)Ljava/util/List;", sig := { parameters := [(.array (.object "java/lang/Object"))], returnType := some (.object "java/util/List") }, accessFlags := 137, code := some k8c4 }
def k8c5 : Code := { maxStack := 1, maxLocals := 1, code := jdk_40_method_48_code, exceptionTable := #[], attributes := #[] }
def k8m5 : Method := { name := "copyOf", desc := "(Ljava/util/Collection;)Ljava/util/List;", sig := { parameters := [(.object "java/util/Collection")], returnType := some (.object "java/util/List") }, accessFlags := 9, code := some k8c5 }
/-- java/util/List -/
def k8 : Class := { plain "java/util/List" (some 0) with
  accessFlags := 1537
  interfaces := #[7]
  cf := some (fileOf pool8 8 #[] #[{ accessFlags := 1025, nameIndex := 79, descriptorIndex := 80, attributes := #[] }, { accessFlags := 1025, nameIndex := 67, descriptorIndex := 18, attributes := #[] }, { accessFlags := 1025, nameIndex := 75, descriptorIndex := 76, attributes := #[] }, { accessFlags := 9, nameIndex := 88, descriptorIndex := 119, attributes := #[] }, { accessFlags := 137, nameIndex := 88, descriptorIndex := 108, attributes := #[] }, { accessFlags := 9, nameIndex := 234, descriptorIndex := 115, attributes := #[] }] 1537 103 #[120] #[])
  fields := #[]
  methods := #[k8m0, k8m1, k8m2, k8m3, k8m4, k8m5]
  instanceTypes := #[]
  staticTypes := #[]
  resolved := Array.replicate 251 none
  statics := none }

def pool9 : Array CpInfo := pool [(1, .methodref 2 3), (0, .class_ 4), (0, .nameAndType 5 6), (0, u "java/util/AbstractCollection"), (0, u "<init>"), (0, u "()V"), (0, .fieldref 8 9), (0, .class_ 10), (0, .nameAndType 11 12), (0, u "java/util/AbstractList"), (0, u "modCount"), (0, u "I"), (64, .class_ 78), (0, u "java/util/AbstractList$Itr"), (3, .class_ 83), (0, u "java/util/AbstractList$ListItr"), (9, .class_ 94), (0, u "java/util/AbstractList$RandomAccessSubList"), (3, .class_ 99), (0, u "java/util/AbstractList$SubList"), (33, .class_ 134), (0, u "java/util/List"), (73, .class_ 209), (0, u "java/util/AbstractList$SubList$1"), (0, .class_ 211), (0, u "java/util/AbstractList$RandomAccessSpliterator")] 6

def k9c0 : Code := { maxStack := 2, maxLocals := 1, code := jdk_39_method_1_code, exceptionTable := #[], attributes := #[] }
def k9m0 : Method := { name := "<init>", desc := "()V", sig := { parameters := [], returnType := none }, accessFlags := 4, code := some k9c0 }
/-- java/util/AbstractList -/
def k9 : Class := { plain "java/util/AbstractList" (some 6) with
  accessFlags := 1057
  interfaces := #[8]
  cf := some (fileOf pool9 8 #[.nestMembers #[93, 98, 208, 210, 82, 77]] #[{ accessFlags := 4, nameIndex := 5, descriptorIndex := 6, attributes := #[] }] 1057 2 #[133] #[{ accessFlags := 132, nameIndex := 11, descriptorIndex := 12, attributes := #[] }])
  fields := #[{ name := "modCount", type := .int, accessFlags := 132, slot := 0, constantValue := 0 }]
  methods := #[k9m0]
  instanceTypes := #[.int]
  staticTypes := #[]
  resolved := Array.replicate 218 none
  statics := none }

def pool10 : Array CpInfo := pool [(1, .class_ 2), (0, u "java/util/RandomAccess"), (0, .class_ 4), (0, u "java/lang/Object")] 2

/-- java/util/RandomAccess -/
def k10 : Class := { plain "java/util/RandomAccess" (some 0) with
  accessFlags := 1537
  interfaces := #[]
  cf := some (fileOf pool10 1 #[] #[] 1537 3 #[] #[])
  fields := #[]
  methods := #[]
  instanceTypes := #[]
  staticTypes := #[]
  resolved := Array.replicate 7 none
  statics := none }

def pool11 : Array CpInfo := pool [(1, .class_ 2), (0, u "java/lang/Cloneable"), (0, .class_ 4), (0, u "java/lang/Object")] 2

/-- java/lang/Cloneable -/
def k11 : Class := { plain "java/lang/Cloneable" (some 0) with
  accessFlags := 1537
  interfaces := #[]
  cf := some (fileOf pool11 1 #[] #[] 1537 3 #[] #[])
  fields := #[]
  methods := #[]
  instanceTypes := #[]
  staticTypes := #[]
  resolved := Array.replicate 7 none
  statics := none }

def pool12 : Array CpInfo := pool [(1, .class_ 2), (0, u "java/io/Serializable"), (0, .class_ 4), (0, u "java/lang/Object")] 2

/-- java/io/Serializable -/
def k12 : Class := { plain "java/io/Serializable" (some 0) with
  accessFlags := 1537
  interfaces := #[]
  cf := some (fileOf pool12 1 #[] #[] 1537 3 #[] #[])
  fields := #[]
  methods := #[]
  instanceTypes := #[]
  staticTypes := #[]
  resolved := Array.replicate 7 none
  statics := none }

def pool13 : Array CpInfo := pool [(1, .methodref 2 3), (0, .class_ 4), (0, .nameAndType 5 6), (0, u "java/util/AbstractList"), (0, u "<init>"), (0, u "()V"), (0, .class_ 8), (0, u "java/lang/Object"), (0, .fieldref 10 11), (0, .class_ 12), (0, .nameAndType 13 14), (0, u "java/util/ArrayList"), (0, u "elementData"), (0, u "[Ljava/lang/Object;"), (2, u "EMPTY_ELEMENTDATA"), (21, .fieldref 10 40), (0, .nameAndType 41 14), (0, u "DEFAULTCAPACITY_EMPTY_ELEMENTDATA"), (4, u "toArray"), (0, u "()[Ljava/lang/Object;"), (0, .fieldref 10 49), (0, .nameAndType 50 51), (0, u "size"), (0, u "I"), (6, .class_ 60), (1, u "java/util/Arrays"), (0, u "copyOf"), (1, .fieldref 10 64), (0, .nameAndType 65 51), (0, u "modCount"), (0, .methodref 58 67), (0, .nameAndType 61 68), (0, u "([Ljava/lang/Object;I)[Ljava/lang/Object;"), (0, .methodref 10 70), (0, .nameAndType 71 72), (0, u "grow"), (0, u "(I)[Ljava/lang/Object;"), (6, .methodref 80 81), (0, .class_ 82), (0, .nameAndType 83 84), (0, u "java/lang/Math"), (0, u "max"), (0, u "(II)I"), (11, u "(Ljava/lang/Object;)Z"), (32, .methodref 10 130), (0, .nameAndType 71 47), (0, .methodref 10 132), (0, .nameAndType 133 134), (0, u "add"), (0, u "(Ljava/lang/Object;[Ljava/lang/Object;I)V"), (13, .class_ 149), (0, u "java/util/List"), (23, u "()Z"), (88, .class_ 263), (0, u "java/util/ArrayList$ListItr"), (3, .class_ 268), (0, u "java/util/ArrayList$Itr"), (7, .class_ 277), (0, u "java/util/ArrayList$SubList"), (12, .class_ 291), (0, u "java/util/ArrayList$ArrayListSpliterator"), (37, .class_ 330), (0, u "java/util/RandomAccess"), (0, .class_ 332), (0, u "java/lang/Cloneable"), (0, .class_ 334), (0, u "java/io/Serializable"), (0, u "serialVersionUID"), (0, u "J"), (3, u "DEFAULT_CAPACITY"), (22, u "isEmpty"), (136, .class_ 501), (0, u "java/util/ArrayList$SubList$2"), (0, .class_ 503), (0, u "java/util/ArrayList$SubList$1")] 5

def k13c0 : Code := { maxStack := 2, maxLocals := 1, code := jdk_38_method_2_code, exceptionTable := #[], attributes := #[] }
def k13m0 : Method := { name := "<init>", desc := "()V", sig := { parameters := [], returnType := none }, accessFlags := 1, code := some k13c0 }
def k13c1 : Code := { maxStack := 4, maxLocals := 4, code := jdk_38_method_6_code, exceptionTable := #[], attributes := #[] }
def k13m1 : Method := { name := "grow", desc := "(I)[Ljava/lang/Object;", sig := { parameters := [.int], returnType := some (.array (.object "java/lang/Object")) }, accessFlags := 2, code := some k13c1 }
def k13c2 : Code := { maxStack := 3, maxLocals := 1, code := jdk_38_method_7_code, exceptionTable := #[], attributes := #[] }
def k13m2 : Method := { name := "grow", desc := "()[Ljava/lang/Object;", sig := { parameters := [], returnType := some (.array (.object "java/lang/Object")) }, accessFlags := 2, code := some k13c2 }
def k13c3 : Code := { maxStack := 1, maxLocals := 1, code := jdk_38_method_9_code, exceptionTable := #[], attributes := #[] }
def k13m3 : Method := { name := "isEmpty", desc := "()Z", sig := { parameters := [], returnType := some .boolean }, accessFlags := 1, code := some k13c3 }
def k13c4 : Code := { maxStack := 2, maxLocals := 1, code := jdk_38_method_16_code, exceptionTable := #[], attributes := #[] }
def k13m4 : Method := { name := "toArray", desc := "()[Ljava/lang/Object;", sig := { parameters := [], returnType := some (.array (.object "java/lang/Object")) }, accessFlags := 1, code := some k13c4 }
def k13c5 : Code := { maxStack := 3, maxLocals := 4, code := jdk_38_method_24_code, exceptionTable := #[], attributes := #[] }
def k13m5 : Method := { name := "add", desc := "(Ljava/lang/Object;[Ljava/lang/Object;I)V", sig := { parameters := [(.object "java/lang/Object"), (.array (.object "java/lang/Object")), .int], returnType := none }, accessFlags := 2, code := some k13c5 }
def k13c6 : Code := { maxStack := 4, maxLocals := 2, code := jdk_38_method_25_code, exceptionTable := #[], attributes := #[] }
def k13m6 : Method := { name := "add", desc := "(Ljava/lang/Object;)Z", sig := { parameters := [(.object "java/lang/Object")], returnType := some .boolean }, accessFlags := 1, code := some k13c6 }
/-- java/util/ArrayList -/
def k13 : Class := { plain "java/util/ArrayList" (some 9) with
  accessFlags := 33
  interfaces := #[8, 10, 11, 12]
  cf := some (fileOf pool13 10 #[.nestMembers #[290, 276, 500, 502, 262, 267]] #[{ accessFlags := 1, nameIndex := 5, descriptorIndex := 6, attributes := #[] }, { accessFlags := 2, nameIndex := 71, descriptorIndex := 72, attributes := #[] }, { accessFlags := 2, nameIndex := 71, descriptorIndex := 47, attributes := #[] }, { accessFlags := 1, nameIndex := 363, descriptorIndex := 173, attributes := #[] }, { accessFlags := 1, nameIndex := 46, descriptorIndex := 47, attributes := #[] }, { accessFlags := 2, nameIndex := 133, descriptorIndex := 134, attributes := #[] }, { accessFlags := 1, nameIndex := 133, descriptorIndex := 96, attributes := #[] }] 33 2 #[148, 329, 331, 333] #[{ accessFlags := 26, nameIndex := 335, descriptorIndex := 336, attributes := #[] }, { accessFlags := 26, nameIndex := 340, descriptorIndex := 51, attributes := #[] }, { accessFlags := 26, nameIndex := 17, descriptorIndex := 14, attributes := #[] }, { accessFlags := 26, nameIndex := 41, descriptorIndex := 14, attributes := #[] }, { accessFlags := 128, nameIndex := 13, descriptorIndex := 14, attributes := #[] }, { accessFlags := 2, nameIndex := 50, descriptorIndex := 51, attributes := #[] }])
  fields := #[{ name := "serialVersionUID", type := .long, accessFlags := 26, slot := 0, constantValue := 0 }, { name := "DEFAULT_CAPACITY", type := .int, accessFlags := 26, slot := 1, constantValue := 0 }, { name := "EMPTY_ELEMENTDATA", type := (.array (.object "java/lang/Object")), accessFlags := 26, slot := 2, constantValue := 0 }, { name := "DEFAULTCAPACITY_EMPTY_ELEMENTDATA", type := (.array (.object "java/lang/Object")), accessFlags := 26, slot := 3, constantValue := 0 }, { name := "elementData", type := (.array (.object "java/lang/Object")), accessFlags := 128, slot := 1, constantValue := 0 }, { name := "size", type := .int, accessFlags := 2, slot := 2, constantValue := 0 }]
  methods := #[k13m0, k13m1, k13m2, k13m3, k13m4, k13m5, k13m6]
  instanceTypes := #[.int, (.array (.object "java/lang/Object")), .int]
  staticTypes := #[.long, .int, (.array (.object "java/lang/Object")), (.array (.object "java/lang/Object"))]
  resolved := Array.replicate 509 none
  statics := some 0 }

def pool14 : Array CpInfo := pool [(2, .class_ 4), (1, u "java/lang/Object"), (0, u "<init>"), (0, u "()V"), (3, .class_ 11), (0, u "java/util/ImmutableCollections$List12"), (0, .class_ 13), (0, u "java/util/ImmutableCollections$ListN"), (3, u "Z"), (0, .class_ 19), (0, u "java/util/List"), (0, .interfaceMethodref 21 22), (0, .class_ 23), (0, .nameAndType 24 25), (0, u "java/util/Collection"), (0, u "isEmpty"), (0, u "()Z"), (0, .interfaceMethodref 18 27), (0, .nameAndType 28 29), (0, u "of"), (0, u "()Ljava/util/List;"), (0, .interfaceMethodref 21 31), (0, .nameAndType 32 33), (0, u "toArray"), (0, u "()[Ljava/lang/Object;"), (0, .interfaceMethodref 18 35), (0, .nameAndType 28 36), (0, u "([Ljava/lang/Object;)Ljava/util/List;"), (0, .methodref 38 39), (0, .class_ 40), (0, .nameAndType 41 42), (0, u "java/util/Objects"), (0, u "requireNonNull"), (0, u "(Ljava/lang/Object;)Ljava/lang/Object;"), (0, .methodref 12 44), (0, .nameAndType 5 45), (0, u "([Ljava/lang/Object;Z)V"), (1, .class_ 49), (1, u "java/util/ImmutableCollections"), (0, u "$assertionsDisabled"), (5, u "[Ljava/lang/Object;"), (5, u "EMPTY_LIST"), (0, u "Ljava/util/ImmutableCollections$ListN;"), (8, u "EMPTY_LIST_NULLS"), (22, u "SALT32L"), (0, u "J"), (2, u "REVERSE"), (6, u "archivedObjects"), (2, u "EMPTY"), (0, u "Ljava/lang/Object;"), (0, .class_ 112), (0, u "java/util/ImmutableCollections$SetN"), (5, u "EMPTY_SET"), (0, u "Ljava/util/ImmutableCollections$SetN;"), (0, .class_ 121), (0, u "java/util/ImmutableCollections$MapN"), (3, u "EMPTY_MAP"), (0, u "Ljava/util/ImmutableCollections$MapN;"), (4, u "EXPAND_FACTOR"), (0, u "I"), (9, u "listCopy"), (0, u "(Ljava/util/Collection;)Ljava/util/List;"), (7, u "listFromArray"), (17, .class_ 170), (0, u "java/util/ImmutableCollections$MapN$MapNIterator"), (0, .class_ 172), (0, u "java/util/ImmutableCollections$MapN$1"), (0, .class_ 174), (0, u "java/util/ImmutableCollections$Map1"), (0, .class_ 176), (0, u "java/util/ImmutableCollections$AbstractImmutableMap"), (0, .class_ 178), (0, u "java/util/ImmutableCollections$SetN$SetNIterator"), (0, .class_ 180), (0, u "java/util/ImmutableCollections$Set12"), (0, .class_ 182), (0, u "java/util/ImmutableCollections$Set12$1"), (0, .class_ 184), (0, u "java/util/ImmutableCollections$AbstractImmutableSet"), (0, .class_ 186), (0, u "java/util/ImmutableCollections$SubList"), (0, .class_ 188), (0, u "java/util/ImmutableCollections$ListItr"), (0, .class_ 190), (0, u "java/util/ImmutableCollections$AbstractImmutableList"), (0, .class_ 192), (0, u "java/util/ImmutableCollections$AbstractImmutableCollection"), (0, .class_ 194), (0, u "java/util/ImmutableCollections$Access"), (0, .class_ 196), (0, u "java/util/ImmutableCollections$Access$1")] 16

def k14m0 : Method := { name := "<init>", desc := "()V", sig := { parameters := [], returnType := none }, accessFlags := 2, code := none }
def k14c1 : Code := { maxStack := 1, maxLocals := 2, code := jdk_56_method_3_code, exceptionTable := #[], attributes := #[] }
def k14m1 : Method := { name := "listCopy", desc := "(Ljava/util/Collection;)Ljava/util/List;", sig := { parameters := [(.object "java/util/Collection")], returnType := some (.object "java/util/List") }, accessFlags := 8, code := some k14c1 }
def k14c2 : Code := { maxStack := 4, maxLocals := 3, code := jdk_56_method_4_code, exceptionTable := #[], attributes := #[] }
def k14m2 : Method := { name := "listFromArray", desc := "([Ljava/lang/Object;)Ljava/util/List;", sig := { parameters := [(.array (.object "java/lang/Object"))], returnType := some (.object "java/util/List") }, accessFlags := 136, code := some k14c2 }
/-- java/util/ImmutableCollections -/
def k14 : Class := { plain "java/util/ImmutableCollections" (some 0) with
  accessFlags := 32
  interfaces := #[]
  cf := some (fileOf pool14 47 #[.nestMembers #[120, 169, 171, 173, 175, 111, 177, 179, 181, 183, 12, 10, 185, 187, 189, 191, 193, 195]] #[{ accessFlags := 2, nameIndex := 5, descriptorIndex := 6, attributes := #[] }, { accessFlags := 8, nameIndex := 142, descriptorIndex := 143, attributes := #[] }, { accessFlags := 136, nameIndex := 151, descriptorIndex := 36, attributes := #[] }] 32 2 #[] #[{ accessFlags := 26, nameIndex := 95, descriptorIndex := 96, attributes := #[] }, { accessFlags := 26, nameIndex := 99, descriptorIndex := 17, attributes := #[] }, { accessFlags := 10, nameIndex := 106, descriptorIndex := 56, attributes := #[] }, { accessFlags := 26, nameIndex := 109, descriptorIndex := 110, attributes := #[] }, { accessFlags := 24, nameIndex := 62, descriptorIndex := 63, attributes := #[] }, { accessFlags := 24, nameIndex := 72, descriptorIndex := 63, attributes := #[] }, { accessFlags := 24, nameIndex := 118, descriptorIndex := 119, attributes := #[] }, { accessFlags := 24, nameIndex := 125, descriptorIndex := 126, attributes := #[] }, { accessFlags := 24, nameIndex := 131, descriptorIndex := 132, attributes := #[] }, { accessFlags := 4120, nameIndex := 50, descriptorIndex := 17, attributes := #[] }])
  fields := #[{ name := "SALT32L", type := .long, accessFlags := 26, slot := 0, constantValue := 0 }, { name := "REVERSE", type := .boolean, accessFlags := 26, slot := 1, constantValue := 0 }, { name := "archivedObjects", type := (.array (.object "java/lang/Object")), accessFlags := 10, slot := 2, constantValue := 0 }, { name := "EMPTY", type := (.object "java/lang/Object"), accessFlags := 26, slot := 3, constantValue := 0 }, { name := "EMPTY_LIST", type := (.object "java/util/ImmutableCollections$ListN"), accessFlags := 24, slot := 4, constantValue := 0 }, { name := "EMPTY_LIST_NULLS", type := (.object "java/util/ImmutableCollections$ListN"), accessFlags := 24, slot := 5, constantValue := 0 }, { name := "EMPTY_SET", type := (.object "java/util/ImmutableCollections$SetN"), accessFlags := 24, slot := 6, constantValue := 0 }, { name := "EMPTY_MAP", type := (.object "java/util/ImmutableCollections$MapN"), accessFlags := 24, slot := 7, constantValue := 0 }, { name := "EXPAND_FACTOR", type := .int, accessFlags := 24, slot := 8, constantValue := 0 }, { name := "$assertionsDisabled", type := .boolean, accessFlags := 4120, slot := 9, constantValue := 0 }]
  methods := #[k14m0, k14m1, k14m2]
  instanceTypes := #[]
  staticTypes := #[.long, .boolean, (.array (.object "java/lang/Object")), (.object "java/lang/Object"), (.object "java/util/ImmutableCollections$ListN"), (.object "java/util/ImmutableCollections$ListN"), (.object "java/util/ImmutableCollections$SetN"), (.object "java/util/ImmutableCollections$MapN"), .int, .boolean]
  resolved := Array.replicate 213 none
  statics := some 1 }

def pool15 : Array CpInfo := pool [(1, .methodref 2 3), (0, .class_ 4), (0, .nameAndType 5 6), (0, u "java/util/AbstractCollection"), (0, u "<init>"), (0, u "()V"), (1, .class_ 10), (1, u "java/util/ImmutableCollections"), (2, .class_ 14), (0, u "java/util/ImmutableCollections$AbstractImmutableCollection")] 41

def k15c0 : Code := { maxStack := 1, maxLocals := 1, code := jdk_47_method_1_code, exceptionTable := #[], attributes := #[] }
def k15m0 : Method := { name := "<init>", desc := "()V", sig := { parameters := [], returnType := none }, accessFlags := 0, code := some k15c0 }
/-- java/util/ImmutableCollections$AbstractImmutableCollection -/
def k15 : Class := { plain "java/util/ImmutableCollections$AbstractImmutableCollection" (some 6) with
  accessFlags := 1056
  interfaces := #[]
  cf := some (fileOf pool15 13 #[.nestHost 8] #[{ accessFlags := 0, nameIndex := 5, descriptorIndex := 6, attributes := #[] }] 1056 2 #[] #[])
  fields := #[]
  methods := #[k15m0]
  instanceTypes := #[]
  staticTypes := #[]
  resolved := Array.replicate 56 none
  statics := none }

def pool16 : Array CpInfo := pool [(1, .methodref 2 3), (0, .class_ 4), (0, .nameAndType 5 6), (0, u "java/util/ImmutableCollections$AbstractImmutableCollection"), (0, u "<init>"), (0, u "()V"), (1, .class_ 10), (1, u "java/util/ImmutableCollections"), (3, .class_ 16), (1, u "java/util/ImmutableCollections$AbstractImmutableList"), (60, .class_ 78), (0, u "java/util/List"), (45, .class_ 125), (0, u "java/util/RandomAccess")] 70

def k16c0 : Code := { maxStack := 1, maxLocals := 1, code := jdk_46_method_1_code, exceptionTable := #[], attributes := #[] }
def k16m0 : Method := { name := "<init>", desc := "()V", sig := { parameters := [], returnType := none }, accessFlags := 0, code := some k16c0 }
/-- java/util/ImmutableCollections$AbstractImmutableList -/
def k16 : Class := { plain "java/util/ImmutableCollections$AbstractImmutableList" (some 15) with
  accessFlags := 1056
  interfaces := #[8, 10]
  cf := some (fileOf pool16 14 #[.nestHost 8] #[{ accessFlags := 0, nameIndex := 5, descriptorIndex := 6, attributes := #[] }] 1056 2 #[77, 124] #[])
  fields := #[]
  methods := #[k16m0]
  instanceTypes := #[]
  staticTypes := #[]
  resolved := Array.replicate 196 none
  statics := none }

def pool17 : Array CpInfo := pool [(1, .methodref 2 3), (0, .class_ 4), (0, .nameAndType 5 6), (0, u "java/util/ImmutableCollections$AbstractImmutableList"), (0, u "<init>"), (0, u "()V"), (0, .methodref 8 9), (0, .class_ 10), (0, .nameAndType 11 12), (0, u "java/util/Objects"), (0, u "requireNonNull"), (0, u "(Ljava/lang/Object;)Ljava/lang/Object;"), (0, .fieldref 14 15), (0, .class_ 16), (0, .nameAndType 17 18), (0, u "java/util/ImmutableCollections$List12"), (0, u "e0"), (0, u "Ljava/lang/Object;"), (0, .fieldref 20 21), (0, .class_ 22), (0, .nameAndType 23 18), (0, u "java/util/ImmutableCollections"), (0, u "EMPTY"), (0, .fieldref 14 25), (0, .nameAndType 26 18), (0, u "e1"), (24, u "size"), (0, u "()I"), (17, .class_ 71), (0, u "java/io/Serializable"), (4, u "(Ljava/lang/Object;)V"), (8, u "(Ljava/lang/Object;Ljava/lang/Object;)V"), (2, u "isEmpty"), (0, u "()Z"), (0, u "get"), (0, u "(I)Ljava/lang/Object;")] 33

def k17c0 : Code := { maxStack := 2, maxLocals := 2, code := jdk_44_method_1_code, exceptionTable := #[], attributes := #[] }
def k17m0 : Method := { name := "<init>", desc := "(Ljava/lang/Object;)V", sig := { parameters := [(.object "java/lang/Object")], returnType := none }, accessFlags := 0, code := some k17c0 }
def k17c1 : Code := { maxStack := 2, maxLocals := 3, code := jdk_44_method_2_code, exceptionTable := #[], attributes := #[] }
def k17m1 : Method := { name := "<init>", desc := "(Ljava/lang/Object;Ljava/lang/Object;)V", sig := { parameters := [(.object "java/lang/Object"), (.object "java/lang/Object")], returnType := none }, accessFlags := 0, code := some k17c1 }
def k17c2 : Code := { maxStack := 2, maxLocals := 1, code := jdk_44_method_3_code, exceptionTable := #[], attributes := #[] }
def k17m2 : Method := { name := "size", desc := "()I", sig := { parameters := [], returnType := some .int }, accessFlags := 1, code := some k17c2 }
def k17c3 : Code := { maxStack := 1, maxLocals := 1, code := jdk_44_method_4_code, exceptionTable := #[], attributes := #[] }
def k17m3 : Method := { name := "isEmpty", desc := "()Z", sig := { parameters := [], returnType := some .boolean }, accessFlags := 1, code := some k17c3 }
def k17c4 : Code := { maxStack := 2, maxLocals := 2, code := jdk_44_method_5_code, exceptionTable := #[], attributes := #[] }
def k17m4 : Method := { name := "get", desc := "(I)Ljava/lang/Object;", sig := { parameters := [.int], returnType := some (.object "java/lang/Object") }, accessFlags := 1, code := some k17c4 }
/-- java/util/ImmutableCollections$List12 -/
def k17 : Class := { plain "java/util/ImmutableCollections$List12" (some 16) with
  accessFlags := 48
  interfaces := #[12]
  cf := some (fileOf pool17 14 #[.nestHost 20] #[{ accessFlags := 0, nameIndex := 5, descriptorIndex := 76, attributes := #[] }, { accessFlags := 0, nameIndex := 5, descriptorIndex := 85, attributes := #[] }, { accessFlags := 1, nameIndex := 51, descriptorIndex := 52, attributes := #[] }, { accessFlags := 1, nameIndex := 88, descriptorIndex := 89, attributes := #[] }, { accessFlags := 1, nameIndex := 90, descriptorIndex := 91, attributes := #[] }] 48 2 #[70] #[{ accessFlags := 18, nameIndex := 17, descriptorIndex := 18, attributes := #[] }, { accessFlags := 18, nameIndex := 26, descriptorIndex := 18, attributes := #[] }])
  fields := #[{ name := "e0", type := (.object "java/lang/Object"), accessFlags := 18, slot := 0, constantValue := 0 }, { name := "e1", type := (.object "java/lang/Object"), accessFlags := 18, slot := 1, constantValue := 0 }]
  methods := #[k17m0, k17m1, k17m2, k17m3, k17m4]
  instanceTypes := #[(.object "java/lang/Object"), (.object "java/lang/Object")]
  staticTypes := #[]
  resolved := Array.replicate 125 none
  statics := none }

def pool18 : Array CpInfo := pool [(1, .methodref 2 3), (0, .class_ 4), (0, .nameAndType 5 6), (0, u "java/util/ImmutableCollections$AbstractImmutableList"), (0, u "<init>"), (0, u "()V"), (0, .fieldref 8 9), (0, .class_ 10), (0, .nameAndType 11 12), (0, u "java/util/ImmutableCollections$ListN"), (0, u "elements"), (0, u "[Ljava/lang/Object;"), (0, .fieldref 8 14), (0, .nameAndType 15 16), (0, u "allowNulls"), (0, u "Z"), (42, .class_ 60), (0, u "java/io/Serializable"), (4, u "([Ljava/lang/Object;Z)V"), (8, u "isEmpty"), (0, u "()Z"), (1, u "size"), (0, u "()I"), (0, u "get"), (0, u "(I)Ljava/lang/Object;"), (33, .class_ 115), (0, u "java/util/ImmutableCollections")] 3

def k18c0 : Code := { maxStack := 2, maxLocals := 3, code := jdk_45_method_1_code, exceptionTable := #[], attributes := #[] }
def k18m0 : Method := { name := "<init>", desc := "([Ljava/lang/Object;Z)V", sig := { parameters := [(.array (.object "java/lang/Object")), .boolean], returnType := none }, accessFlags := 2, code := some k18c0 }
def k18c1 : Code := { maxStack := 1, maxLocals := 1, code := jdk_45_method_2_code, exceptionTable := #[], attributes := #[] }
def k18m1 : Method := { name := "isEmpty", desc := "()Z", sig := { parameters := [], returnType := some .boolean }, accessFlags := 1, code := some k18c1 }
def k18c2 : Code := { maxStack := 1, maxLocals := 1, code := jdk_45_method_3_code, exceptionTable := #[], attributes := #[] }
def k18m2 : Method := { name := "size", desc := "()I", sig := { parameters := [], returnType := some .int }, accessFlags := 1, code := some k18c2 }
def k18c3 : Code := { maxStack := 2, maxLocals := 2, code := jdk_45_method_4_code, exceptionTable := #[], attributes := #[] }
def k18m3 : Method := { name := "get", desc := "(I)Ljava/lang/Object;", sig := { parameters := [.int], returnType := some (.object "java/lang/Object") }, accessFlags := 1, code := some k18c3 }
/-- java/util/ImmutableCollections$ListN -/
def k18 : Class := { plain "java/util/ImmutableCollections$ListN" (some 16) with
  accessFlags := 48
  interfaces := #[12]
  cf := some (fileOf pool18 8 #[.nestHost 114] #[{ accessFlags := 2, nameIndex := 5, descriptorIndex := 65, attributes := #[] }, { accessFlags := 1, nameIndex := 74, descriptorIndex := 75, attributes := #[] }, { accessFlags := 1, nameIndex := 77, descriptorIndex := 78, attributes := #[] }, { accessFlags := 1, nameIndex := 79, descriptorIndex := 80, attributes := #[] }] 48 2 #[59] #[{ accessFlags := 18, nameIndex := 11, descriptorIndex := 12, attributes := #[] }, { accessFlags := 18, nameIndex := 15, descriptorIndex := 16, attributes := #[] }])
  fields := #[{ name := "elements", type := (.array (.object "java/lang/Object")), accessFlags := 18, slot := 0, constantValue := 0 }, { name := "allowNulls", type := .boolean, accessFlags := 18, slot := 1, constantValue := 0 }]
  methods := #[k18m0, k18m1, k18m2, k18m3]
  instanceTypes := #[(.array (.object "java/lang/Object")), .boolean]
  staticTypes := #[]
  resolved := Array.replicate 119 none
  statics := none }

def pool19 : Array CpInfo := pool [(1, .methodref 2 3), (0, .class_ 4), (0, .nameAndType 5 6), (0, u "java/lang/Record"), (0, u "<init>"), (0, u "()V"), (0, .fieldref 8 9), (0, .class_ 10), (0, .nameAndType 11 12), (0, u "com/example/curtail/curtail/Placement$Cell"), (0, u "nSlot"), (0, u "I"), (0, .fieldref 8 14), (0, .nameAndType 15 12), (0, u "nCloudlet"), (12, u "(II)V"), (4, u "()I"), (4, .class_ 39), (0, u "com/example/curtail/curtail/Placement")] 20

def k19c0 : Code := { maxStack := 2, maxLocals := 3, code := prog_15_method_1_code, exceptionTable := #[], attributes := #[] }
def k19m0 : Method := { name := "<init>", desc := "(II)V", sig := { parameters := [.int, .int], returnType := none }, accessFlags := 1, code := some k19c0 }
def k19c1 : Code := { maxStack := 1, maxLocals := 1, code := prog_15_method_5_code, exceptionTable := #[], attributes := #[] }
def k19m1 : Method := { name := "nSlot", desc := "()I", sig := { parameters := [], returnType := some .int }, accessFlags := 1, code := some k19c1 }
/-- com/example/curtail/curtail/Placement$Cell -/
def k19 : Class := { plain "com/example/curtail/curtail/Placement$Cell" (some 2) with
  accessFlags := 49
  interfaces := #[]
  cf := some (fileOf pool19 8 #[.nestHost 38] #[{ accessFlags := 1, nameIndex := 5, descriptorIndex := 28, attributes := #[] }, { accessFlags := 1, nameIndex := 11, descriptorIndex := 33, attributes := #[] }] 49 2 #[] #[{ accessFlags := 18, nameIndex := 11, descriptorIndex := 12, attributes := #[] }, { accessFlags := 18, nameIndex := 15, descriptorIndex := 12, attributes := #[] }])
  fields := #[{ name := "nSlot", type := .int, accessFlags := 18, slot := 0, constantValue := 0 }, { name := "nCloudlet", type := .int, accessFlags := 18, slot := 1, constantValue := 0 }]
  methods := #[k19m0, k19m1]
  instanceTypes := #[.int, .int]
  staticTypes := #[]
  resolved := Array.replicate 60 none
  statics := none }

def pool20 : Array CpInfo := pool [(1, .class_ 2), (0, u "java/lang/Math"), (1, .class_ 6), (1, u "java/lang/Object"), (0, u "<init>"), (0, u "()V"), (89, .class_ 100), (1, u "java/lang/Math$RandomNumberGeneratorHolder"), (71, u "negativeZeroFloatBits"), (0, u "J"), (2, u "negativeZeroDoubleBits"), (21, u "max"), (2, u "min"), (43, u "$assertionsDisabled"), (0, u "Z"), (88, u "(II)I"), (2, u "twoToTheDoubleScaleDown"), (0, u "D"), (4, u "twoToTheDoubleScaleUp"), (9, u "E"), (3, u "PI"), (2, u "TAU"), (2, u "DEGREES_TO_RADIANS"), (0, u "RADIANS_TO_DEGREES")] 94

def k20m0 : Method := { name := "<init>", desc := "()V", sig := { parameters := [], returnType := none }, accessFlags := 2, code := none }
def k20c1 : Code := { maxStack := 2, maxLocals := 2, code := jdk_29_method_65_code, exceptionTable := #[], attributes := #[] }
def k20m1 : Method := { name := "max", desc := "(II)I", sig := { parameters := [.int, .int], returnType := some .int }, accessFlags := 9, code := some k20c1 }
def k20c2 : Code := { maxStack := 2, maxLocals := 2, code := jdk_29_method_69_code, exceptionTable := #[], attributes := #[] }
def k20m2 : Method := { name := "min", desc := "(II)I", sig := { parameters := [.int, .int], returnType := some .int }, accessFlags := 9, code := some k20c2 }
/-- java/lang/Math -/
def k20 : Class := { plain "java/lang/Math" (some 0) with
  accessFlags := 49
  interfaces := #[]
  cf := some (fileOf pool20 1 #[.nestMembers #[98]] #[{ accessFlags := 2, nameIndex := 7, descriptorIndex := 8, attributes := #[] }, { accessFlags := 9, nameIndex := 198, descriptorIndex := 335, attributes := #[] }, { accessFlags := 9, nameIndex := 201, descriptorIndex := 335, attributes := #[] }] 49 4 #[] #[{ accessFlags := 25, nameIndex := 354, descriptorIndex := 339, attributes := #[] }, { accessFlags := 25, nameIndex := 358, descriptorIndex := 339, attributes := #[] }, { accessFlags := 25, nameIndex := 361, descriptorIndex := 339, attributes := #[] }, { accessFlags := 26, nameIndex := 364, descriptorIndex := 339, attributes := #[] }, { accessFlags := 26, nameIndex := 365, descriptorIndex := 339, attributes := #[] }, { accessFlags := 26, nameIndex := 172, descriptorIndex := 173, attributes := #[] }, { accessFlags := 26, nameIndex := 176, descriptorIndex := 173, attributes := #[] }, { accessFlags := 8, nameIndex := 344, descriptorIndex := 339, attributes := #[] }, { accessFlags := 8, nameIndex := 338, descriptorIndex := 339, attributes := #[] }, { accessFlags := 4120, nameIndex := 245, descriptorIndex := 246, attributes := #[] }])
  fields := #[{ name := "E", type := .double, accessFlags := 25, slot := 0, constantValue := 0 }, { name := "PI", type := .double, accessFlags := 25, slot := 1, constantValue := 0 }, { name := "TAU", type := .double, accessFlags := 25, slot := 2, constantValue := 0 }, { name := "DEGREES_TO_RADIANS", type := .double, accessFlags := 26, slot := 3, constantValue := 0 }, { name := "RADIANS_TO_DEGREES", type := .double, accessFlags := 26, slot := 4, constantValue := 0 }, { name := "negativeZeroFloatBits", type := .long, accessFlags := 26, slot := 5, constantValue := 0 }, { name := "negativeZeroDoubleBits", type := .long, accessFlags := 26, slot := 6, constantValue := 0 }, { name := "twoToTheDoubleScaleUp", type := .double, accessFlags := 8, slot := 7, constantValue := 0 }, { name := "twoToTheDoubleScaleDown", type := .double, accessFlags := 8, slot := 8, constantValue := 0 }, { name := "$assertionsDisabled", type := .boolean, accessFlags := 4120, slot := 9, constantValue := 0 }]
  methods := #[k20m0, k20m1, k20m2]
  instanceTypes := #[]
  staticTypes := #[.double, .double, .double, .double, .double, .long, .long, .double, .double, .boolean]
  resolved := Array.replicate 460 none
  statics := none }

def pool21 : Array CpInfo := pool [(2, .class_ 4), (1, u "java/lang/Object"), (0, u "<init>"), (0, u "()V"), (7, .class_ 16), (1, u "java/util/Arrays"), (57, .class_ 76), (1, u "java/util/Arrays$NaturalOrder"), (9, .methodref 2 87), (0, .nameAndType 88 89), (0, u "getClass"), (0, u "()Ljava/lang/Class;"), (20, .class_ 111), (0, u "[Ljava/lang/Object;"), (1, .class_ 115), (1, u "java/util/Arrays$LegacyMergeSort"), (1, u "Z"), (32, .methodref 151 152), (0, .class_ 153), (0, .nameAndType 154 155), (0, u "java/lang/System"), (0, u "arraycopy"), (0, u "(Ljava/lang/Object;ILjava/lang/Object;II)V"), (144, .methodref 14 301), (0, .nameAndType 302 303), (0, u "copyOf"), (0, u "([Ljava/lang/Object;ILjava/lang/Class;)[Ljava/lang/Object;"), (0, .methodref 305 306), (0, .class_ 307), (0, .nameAndType 308 309), (0, u "java/lang/Math"), (0, u "min"), (0, u "(II)I"), (65, .class_ 376), (0, u "java/util/Arrays$ArrayList"), (68, u "$assertionsDisabled"), (269, u "MIN_ARRAY_SORT_GRAN"), (0, u "I"), (2, u "INSERTIONSORT_THRESHOLD"), (140, u "([Ljava/lang/Object;I)[Ljava/lang/Object;"), (114, .class_ 976), (0, u "java/util/Arrays$ArrayItr")] 52

def k21m0 : Method := { name := "<init>", desc := "()V", sig := { parameters := [], returnType := none }, accessFlags := 2, code := none }
def k21c1 : Code := { maxStack := 3, maxLocals := 2, code := jdk_65_method_119_code, exceptionTable := #[], attributes := #[] }
def k21m1 : Method := { name := "copyOf", desc := "([Ljava/lang/Object;I)[Ljava/lang/Object;", sig := { parameters := [(.array (.object "java/lang/Object")), .int], returnType := some (.array (.object "java/lang/Object")) }, accessFlags := 9, code := some k21c1 }
def k21c2 : Code := { maxStack := 6, maxLocals := 4, code := jdk_65_method_120_code, exceptionTable := #[], attributes := #[] }
def k21m2 : Method := { name := "copyOf", desc := "([Ljava/lang/Object;ILjava/lang/Class;)[Ljava/lang/Object;", sig := { parameters := [(.array (.object "java/lang/Object")), .int, (.object "java/lang/Class")], returnType := some (.array (.object "java/lang/Object")) }, accessFlags := 9, code := some k21c2 }
/-- java/util/Arrays -/
def k21 : Class := { plain "java/util/Arrays" (some 0) with
  accessFlags := 49
  interfaces := #[]
  cf := some (fileOf pool21 14 #[.nestMembers #[975, 375, 113, 74]] #[{ accessFlags := 2, nameIndex := 5, descriptorIndex := 6, attributes := #[] }, { accessFlags := 9, nameIndex := 302, descriptorIndex := 860, attributes := #[] }, { accessFlags := 9, nameIndex := 302, descriptorIndex := 303, attributes := #[] }] 49 2 #[] #[{ accessFlags := 26, nameIndex := 715, descriptorIndex := 716, attributes := #[] }, { accessFlags := 26, nameIndex := 719, descriptorIndex := 716, attributes := #[] }, { accessFlags := 4120, nameIndex := 445, descriptorIndex := 117, attributes := #[] }])
  fields := #[{ name := "MIN_ARRAY_SORT_GRAN", type := .int, accessFlags := 26, slot := 0, constantValue := 0 }, { name := "INSERTIONSORT_THRESHOLD", type := .int, accessFlags := 26, slot := 1, constantValue := 0 }, { name := "$assertionsDisabled", type := .boolean, accessFlags := 4120, slot := 2, constantValue := 0 }]
  methods := #[k21m0, k21m1, k21m2]
  instanceTypes := #[]
  staticTypes := #[.int, .int, .boolean]
  resolved := Array.replicate 1029 none
  statics := none }

def pool22 : Array CpInfo := pool [(2, .class_ 4), (1, u "java/lang/Object"), (0, u "<init>"), (0, u "()V"), (1, .class_ 10), (1, u "java/lang/System"), (0, u "allowSecurityManager"), (0, u "I"), (16, u "cons"), (0, u "Ljava/io/Console;"), (77, .class_ 110), (1, u "java/lang/System$CallersHolder"), (43, u "initialErrStream"), (0, u "Ljava/io/PrintStream;"), (19, u "security"), (0, u "Ljava/lang/SecurityManager;"), (31, .class_ 209), (0, u "java/lang/System$1"), (7, u "props"), (0, u "Ljava/util/Properties;"), (2, u "lineSeparator"), (0, u "Ljava/lang/String;"), (96, .class_ 321), (1, u "java/lang/System$LoggerFinder"), (5, .class_ 328), (0, u "java/lang/System$Logger"), (67, u "err"), (2, u "out"), (91, u "notSupportedJnuEncoding"), (15, u "in"), (17, u "initialIn"), (0, u "Ljava/io/InputStream;"), (35, u "bootLayer"), (0, u "Ljava/lang/ModuleLayer;"), (99, .class_ 664), (0, u "java/lang/System$2"), (9, u "NEVER"), (2, u "MAYBE"), (49, u "arraycopy"), (0, u "(Ljava/lang/Object;ILjava/lang/Object;II)V"), (72, .class_ 802), (0, u "java/lang/System$Logger$Level")] 31

def k22m0 : Method := { name := "<init>", desc := "()V", sig := { parameters := [], returnType := none }, accessFlags := 2, code := none }
def k22m1 : Method := { name := "arraycopy", desc := "(Ljava/lang/Object;ILjava/lang/Object;II)V", sig := { parameters := [(.object "java/lang/Object"), .int, (.object "java/lang/Object"), .int, .int], returnType := none }, accessFlags := 265, code := none }
/-- java/lang/System -/
def k22 : Class := { plain "java/lang/System" (some 0) with
  accessFlags := 49
  interfaces := #[]
  cf := some (fileOf pool22 8 #[.nestMembers #[319, 327, 801, 108, 663, 208]] #[{ accessFlags := 2, nameIndex := 5, descriptorIndex := 6, attributes := #[] }, { accessFlags := 265, nameIndex := 727, descriptorIndex := 728, attributes := #[] }] 49 2 #[] #[{ accessFlags := 25, nameIndex := 507, descriptorIndex := 526, attributes := #[] }, { accessFlags := 25, nameIndex := 399, descriptorIndex := 155, attributes := #[] }, { accessFlags := 25, nameIndex := 396, descriptorIndex := 155, attributes := #[] }, { accessFlags := 10, nameIndex := 525, descriptorIndex := 526, attributes := #[] }, { accessFlags := 26, nameIndex := 674, descriptorIndex := 12, attributes := #[] }, { accessFlags := 26, nameIndex := 677, descriptorIndex := 12, attributes := #[] }, { accessFlags := 10, nameIndex := 11, descriptorIndex := 12, attributes := #[] }, { accessFlags := 74, nameIndex := 175, descriptorIndex := 176, attributes := #[] }, { accessFlags := 10, nameIndex := 491, descriptorIndex := 222, attributes := #[] }, { accessFlags := 74, nameIndex := 29, descriptorIndex := 30, attributes := #[] }, { accessFlags := 74, nameIndex := 154, descriptorIndex := 155, attributes := #[] }, { accessFlags := 10, nameIndex := 217, descriptorIndex := 218, attributes := #[] }, { accessFlags := 10, nameIndex := 221, descriptorIndex := 222, attributes := #[] }, { accessFlags := 8, nameIndex := 562, descriptorIndex := 563, attributes := #[] }])
  fields := #[{ name := "in", type := (.object "java/io/InputStream"), accessFlags := 25, slot := 0, constantValue := 0 }, { name := "out", type := (.object "java/io/PrintStream"), accessFlags := 25, slot := 1, constantValue := 0 }, { name := "err", type := (.object "java/io/PrintStream"), accessFlags := 25, slot := 2, constantValue := 0 }, { name := "initialIn", type := (.object "java/io/InputStream"), accessFlags := 10, slot := 3, constantValue := 0 }, { name := "NEVER", type := .int, accessFlags := 26, slot := 4, constantValue := 0 }, { name := "MAYBE", type := .int, accessFlags := 26, slot := 5, constantValue := 0 }, { name := "allowSecurityManager", type := .int, accessFlags := 10, slot := 6, constantValue := 0 }, { name := "security", type := (.object "java/lang/SecurityManager"), accessFlags := 74, slot := 7, constantValue := 0 }, { name := "notSupportedJnuEncoding", type := (.object "java/lang/String"), accessFlags := 10, slot := 8, constantValue := 0 }, { name := "cons", type := (.object "java/io/Console"), accessFlags := 74, slot := 9, constantValue := 0 }, { name := "initialErrStream", type := (.object "java/io/PrintStream"), accessFlags := 74, slot := 10, constantValue := 0 }, { name := "props", type := (.object "java/util/Properties"), accessFlags := 10, slot := 11, constantValue := 0 }, { name := "lineSeparator", type := (.object "java/lang/String"), accessFlags := 10, slot := 12, constantValue := 0 }, { name := "bootLayer", type := (.object "java/lang/ModuleLayer"), accessFlags := 8, slot := 13, constantValue := 0 }]
  methods := #[k22m0, k22m1]
  instanceTypes := #[]
  staticTypes := #[(.object "java/io/InputStream"), (.object "java/io/PrintStream"), (.object "java/io/PrintStream"), (.object "java/io/InputStream"), .int, .int, .int, (.object "java/lang/SecurityManager"), (.object "java/lang/String"), (.object "java/io/Console"), (.object "java/io/PrintStream"), (.object "java/util/Properties"), (.object "java/lang/String"), (.object "java/lang/ModuleLayer")]
  resolved := Array.replicate 834 none
  statics := none }

def pool23 : Array CpInfo := pool [(2, .class_ 4), (1, u "java/lang/Object"), (0, u "<init>"), (0, u "()V"), (35, .class_ 44), (1, u "java/util/Objects"), (0, u "requireNonNull"), (0, u "(Ljava/lang/Object;)Ljava/lang/Object;")] 137

def k23m0 : Method := { name := "<init>", desc := "()V", sig := { parameters := [], returnType := none }, accessFlags := 2, code := none }
def k23c1 : Code := { maxStack := 2, maxLocals := 1, code := jdk_31_method_10_code, exceptionTable := #[], attributes := #[] }
def k23m1 : Method := { name := "requireNonNull", desc := "(Ljava/lang/Object;)Ljava/lang/Object;", sig := { parameters := [(.object "java/lang/Object")], returnType := some (.object "java/lang/Object") }, accessFlags := 9, code := some k23c1 }
/-- java/util/Objects -/
def k23 : Class := { plain "java/util/Objects" (some 0) with
  accessFlags := 49
  interfaces := #[]
  cf := some (fileOf pool23 42 #[] #[{ accessFlags := 2, nameIndex := 5, descriptorIndex := 6, attributes := #[] }, { accessFlags := 9, nameIndex := 45, descriptorIndex := 46, attributes := #[] }] 49 2 #[] #[])
  fields := #[]
  methods := #[k23m0, k23m1]
  instanceTypes := #[]
  staticTypes := #[]
  resolved := Array.replicate 184 none
  statics := none }

/-- the primitive byte -/
def k24 : Class := { plain "byte" none with kind := .primitive 'B', accessFlags := 0x411 }
/-- [B -/
def k25 : Class := { plain "[B" (some 0) with kind := .array 24 .byte, interfaces := #[11, 12], accessFlags := 1041 }

/-- the primitive int -/
def k26 : Class := { plain "int" none with kind := .primitive 'I', accessFlags := 0x411 }
/-- [I -/
def k27 : Class := { plain "[I" (some 0) with kind := .array 26 .int, interfaces := #[11, 12], accessFlags := 1041 }

/-- [Ljava/lang/Object; -/
def k28 : Class := { plain "[Ljava/lang/Object;" (some 0) with mirror := some 7, kind := .array 0 (.object "java/lang/Object"), interfaces := #[11, 12], accessFlags := 1041 }

def heap : Heap := #[{ cls := 13, slots := #[.long 0, .int 0, .ref 2, .ref 3], vm := .statics 13 },
  { cls := 14, slots := #[.long 0, .int 0, .null, .ref 6, .ref 5, .null, .null, .null, .int 0, .int 1], vm := .statics 14 },
  { cls := 28, slots := #[], vm := .none },
  { cls := 28, slots := #[], vm := .none },
  { cls := 28, slots := #[], vm := .none },
  { cls := 18, slots := #[.ref 4, .int 0], vm := .none },
  { cls := 0, slots := #[], vm := .none },
  { cls := 0, slots := #[], vm := .mirror 28 }]
def classes : Array Class := #[k0, k1, k2, k3, k4, k5, k6, k7, k8, k9, k10, k11, k12, k13, k14, k15, k16, k17, k18, k19, k20, k21, k22, k23, k24, k25, k26, k27, k28]
def interned : List (Array UInt16 × Addr) := []
def slotsUsed : Nat := 16
def theMethod : MethodId := ⟨1, 1⟩
def args0 : Array Value := #[.int 5, .int 6, .int 7, .int 8, .int 9]
def aboutOver (below : List Frame) : State where
  vm := { classes := classes, interned := interned.toArray }
  heap := heap
  slotsUsed := slotsUsed
  threads := #[{ frames := .invoking theMethod args0 :: below }]
def below0 : List Frame := [.native { method := ⟨0, 0⟩, args := #[] }]
def about1 : State := aboutOver below0
def p0 : Program := .bare "" "" ""
def e0 : Env := launch0.env 0 0 0
theorem w_frames : about1.frames = Frame.invoking theMethod args0 :: below0 := rfl
set_option maxRecDepth 65536 in
theorem w_args : argsFit about1.vm theMethod args0 = true := by decide +kernel
set_option maxRecDepth 65536 in
theorem w_heap : heapFits about1 = true := by decide +kernel
set_option maxRecDepth 65536 in
theorem w_runnable : about1.curStatus? = some .runnable := by decide +kernel
set_option maxRecDepth 65536 in
theorem w_alone : about1.alone = true := by decide +kernel
set_option maxRecDepth 65536 in
theorem w_named : about1.methodNamed? x = some theMethod := by decide +kernel
set_option maxRecDepth 65536 in
theorem w_hears : about1.hears theMethod below0 = true := by decide +kernel
set_option maxRecDepth 65536 in
theorem w_ripe : about1.ripe theMethod args0 below0 = true := by decide +kernel
theorem w_running : about1.status = .running := rfl
set_option maxRecDepth 65536 in
theorem w_room : about1.hasRoom e0.platform room_1 = true :=
  launch0.hasRoom_least _ room_1 (by decide +kernel) (by decide +kernel) (by decide +kernel) (by decide +kernel) (by decide +kernel) (by decide +kernel)
theorem allAtoms_all (ts : List Jvm.Cond) (a : Array Jvm.Value) (st : Jvm.State) : (allAtoms ts).before a st = ts.all (fun c => c.before a st) := by
  induction ts with
  | nil => rfl
  | cons c t ih =>
    show (Jvm.Cond.and c (allAtoms t)).before a st = _
    rw [Jvm.Cond.before_and, ih, List.all_cons]
def words1 : List Jvm.Cond := Jvm.Cond.code x code maxLocals ret :: tables_1
/-- a 'code' word, met by the world's own term for the bytes: nothing is compared byte by byte -/
theorem code_word {y : MethodName} {bytes : ByteArray} {mx : Nat} {rt : Option FieldType} {a : Array Value} {s : State} {m : MethodId} {meth : Method} {c : Code} (h1 : s.methodNamed? y = some m) (h2 : s.vm.method? m = some meth) (h3 : meth.code = some c) (h4 : c.code = bytes)
    (h5 : (c.maxLocals == mx && c.exceptionTable.isEmpty && decide (c.maxStack ≤ mostOperands) && decide (meth.sig.returnType = rt) && !meth.locks && decide (parseMethodDescriptor y.desc = some meth.sig)) = true) : (Jvm.Cond.code y bytes mx rt).before a s = true := by
  simp only [Bool.and_eq_true, beq_iff_eq, Bool.not_eq_true', decide_eq_true_eq] at h5
  obtain ⟨⟨⟨⟨⟨g1, g2⟩, g3⟩, g4⟩, g5⟩, g6⟩ := h5
  simp [Cond.before, Cond.holds, Cond.value, h1, h2, h3, h4, g1, g2, g3, g4, g5, g6]
def isCode : Jvm.Cond → Bool
  | .code _ _ _ _ => true
  | _ => false
theorem all_split {L : List Jvm.Cond} {P : Jvm.Cond → Bool} (h1 : L.all (fun c => isCode c || P c) = true) (h2 : ∀ c ∈ L.filter isCode, P c = true) : L.all P = true := by
  refine List.all_eq_true.mpr fun c hc => ?_
  have h := List.all_eq_true.mp h1 c hc
  rcases Bool.eq_false_or_eq_true (isCode c) with hi | hi
  · exact h2 c (List.mem_filter.mpr ⟨hc, hi⟩)
  · simpa [hi] using h
set_option maxRecDepth 65536 in
theorem w_c0 : (Jvm.Cond.code x code maxLocals ret).before args0 about1 = true := code_word (m := ⟨1, 1⟩) (meth := k1m1) (c := k1c1) (by decide +kernel) rfl rfl rfl (by decide +kernel)
set_option maxRecDepth 65536 in
theorem w_c1 : (Jvm.Cond.code ({ cls := "java/util/ArrayList", name := "<init>", desc := "()V" } : Jvm.MethodName) jdk_38_method_2_code (1 : Nat) (Option.none : Option Jvm.ClassFile.FieldType)).before args0 about1 = true := code_word (m := ⟨13, 0⟩) (meth := k13m0) (c := k13c0) (by decide +kernel) rfl rfl rfl (by decide +kernel)
set_option maxRecDepth 65536 in
theorem w_c2 : (Jvm.Cond.code ({ cls := "java/util/AbstractList", name := "<init>", desc := "()V" } : Jvm.MethodName) jdk_39_method_1_code (1 : Nat) (Option.none : Option Jvm.ClassFile.FieldType)).before args0 about1 = true := code_word (m := ⟨9, 0⟩) (meth := k9m0) (c := k9c0) (by decide +kernel) rfl rfl rfl (by decide +kernel)
set_option maxRecDepth 65536 in
theorem w_c3 : (Jvm.Cond.code ({ cls := "java/util/AbstractCollection", name := "<init>", desc := "()V" } : Jvm.MethodName) jdk_22_method_1_code (1 : Nat) (Option.none : Option Jvm.ClassFile.FieldType)).before args0 about1 = true := code_word (m := ⟨6, 0⟩) (meth := k6m0) (c := k6c0) (by decide +kernel) rfl rfl rfl (by decide +kernel)
set_option maxRecDepth 65536 in
theorem w_c4 : (Jvm.Cond.code ({ cls := "java/lang/Object", name := "<init>", desc := "()V" } : Jvm.MethodName) object_method_1_code (1 : Nat) (Option.none : Option Jvm.ClassFile.FieldType)).before args0 about1 = true := code_word (m := ⟨0, 0⟩) (meth := k0m0) (c := k0c0) (by decide +kernel) rfl rfl rfl (by decide +kernel)
set_option maxRecDepth 65536 in
theorem w_c5 : (Jvm.Cond.code ({ cls := "com/example/curtail/curtail/Placement", name := "<init>", desc := "(Ljava/util/List;)V" } : Jvm.MethodName) prog_14_method_1_code (3 : Nat) (Option.none : Option Jvm.ClassFile.FieldType)).before args0 about1 = true := code_word (m := ⟨3, 0⟩) (meth := k3m0) (c := k3c0) (by decide +kernel) rfl rfl rfl (by decide +kernel)
set_option maxRecDepth 65536 in
theorem w_c6 : (Jvm.Cond.code ({ cls := "java/lang/Record", name := "<init>", desc := "()V" } : Jvm.MethodName) jdk_30_method_1_code (1 : Nat) (Option.none : Option Jvm.ClassFile.FieldType)).before args0 about1 = true := code_word (m := ⟨2, 0⟩) (meth := k2m0) (c := k2c0) (by decide +kernel) rfl rfl rfl (by decide +kernel)
set_option maxRecDepth 65536 in
theorem w_c7 : (Jvm.Cond.code ({ cls := "java/util/List", name := "copyOf", desc := "(Ljava/util/Collection;)Ljava/util/List;" } : Jvm.MethodName) jdk_40_method_48_code (1 : Nat) (Option.some (Jvm.ClassFile.FieldType.object "java/util/List"))).before args0 about1 = true := code_word (m := ⟨8, 5⟩) (meth := k8m5) (c := k8c5) (by decide +kernel) rfl rfl rfl (by decide +kernel)
set_option maxRecDepth 65536 in
theorem w_c8 : (Jvm.Cond.code ({ cls := "java/util/ImmutableCollections", name := "listCopy", desc := "(Ljava/util/Collection;)Ljava/util/List;" } : Jvm.MethodName) jdk_56_method_3_code (2 : Nat) (Option.some (Jvm.ClassFile.FieldType.object "java/util/List"))).before args0 about1 = true := code_word (m := ⟨14, 1⟩) (meth := k14m1) (c := k14c1) (by decide +kernel) rfl rfl rfl (by decide +kernel)
set_option maxRecDepth 65536 in
theorem w_c9 : (Jvm.Cond.code ({ cls := "java/util/ArrayList", name := "isEmpty", desc := "()Z" } : Jvm.MethodName) jdk_38_method_9_code (1 : Nat) (Option.some Jvm.ClassFile.FieldType.boolean)).before args0 about1 = true := code_word (m := ⟨13, 3⟩) (meth := k13m3) (c := k13c3) (by decide +kernel) rfl rfl rfl (by decide +kernel)
set_option maxRecDepth 65536 in
theorem w_c10 : (Jvm.Cond.code ({ cls := "java/util/List", name := "of", desc := "()Ljava/util/List;" } : Jvm.MethodName) jdk_40_method_36_code (0 : Nat) (Option.some (Jvm.ClassFile.FieldType.object "java/util/List"))).before args0 about1 = true := code_word (m := ⟨8, 3⟩) (meth := k8m3) (c := k8c3) (by decide +kernel) rfl rfl rfl (by decide +kernel)
set_option maxRecDepth 65536 in
theorem w_c11 : (Jvm.Cond.code ({ cls := "java/util/ImmutableCollections$ListN", name := "size", desc := "()I" } : Jvm.MethodName) jdk_45_method_3_code (1 : Nat) (Option.some Jvm.ClassFile.FieldType.int)).before args0 about1 = true := code_word (m := ⟨18, 2⟩) (meth := k18m2) (c := k18c2) (by decide +kernel) rfl rfl rfl (by decide +kernel)
set_option maxRecDepth 65536 in
theorem w_c12 : (Jvm.Cond.code ({ cls := "com/example/curtail/curtail/Placement", name := "isAccepted", desc := "()Z" } : Jvm.MethodName) prog_14_method_2_code (1 : Nat) (Option.some Jvm.ClassFile.FieldType.boolean)).before args0 about1 = true := code_word (m := ⟨3, 1⟩) (meth := k3m1) (c := k3c1) (by decide +kernel) rfl rfl rfl (by decide +kernel)
set_option maxRecDepth 65536 in
theorem w_c13 : (Jvm.Cond.code ({ cls := "java/util/ImmutableCollections$ListN", name := "isEmpty", desc := "()Z" } : Jvm.MethodName) jdk_45_method_2_code (1 : Nat) (Option.some Jvm.ClassFile.FieldType.boolean)).before args0 about1 = true := code_word (m := ⟨18, 1⟩) (meth := k18m1) (c := k18c1) (by decide +kernel) rfl rfl rfl (by decide +kernel)
set_option maxRecDepth 65536 in
theorem w_c14 : (Jvm.Cond.code ({ cls := "com/example/curtail/curtail/Placement$Cell", name := "<init>", desc := "(II)V" } : Jvm.MethodName) prog_15_method_1_code (3 : Nat) (Option.none : Option Jvm.ClassFile.FieldType)).before args0 about1 = true := code_word (m := ⟨19, 0⟩) (meth := k19m0) (c := k19c0) (by decide +kernel) rfl rfl rfl (by decide +kernel)
set_option maxRecDepth 65536 in
theorem w_c15 : (Jvm.Cond.code ({ cls := "java/util/ArrayList", name := "add", desc := "(Ljava/lang/Object;)Z" } : Jvm.MethodName) jdk_38_method_25_code (2 : Nat) (Option.some Jvm.ClassFile.FieldType.boolean)).before args0 about1 = true := code_word (m := ⟨13, 6⟩) (meth := k13m6) (c := k13c6) (by decide +kernel) rfl rfl rfl (by decide +kernel)
set_option maxRecDepth 65536 in
theorem w_c16 : (Jvm.Cond.code ({ cls := "java/util/ArrayList", name := "add", desc := "(Ljava/lang/Object;[Ljava/lang/Object;I)V" } : Jvm.MethodName) jdk_38_method_24_code (4 : Nat) (Option.none : Option Jvm.ClassFile.FieldType)).before args0 about1 = true := code_word (m := ⟨13, 5⟩) (meth := k13m5) (c := k13c5) (by decide +kernel) rfl rfl rfl (by decide +kernel)
set_option maxRecDepth 65536 in
theorem w_c17 : (Jvm.Cond.code ({ cls := "java/util/ArrayList", name := "grow", desc := "()[Ljava/lang/Object;" } : Jvm.MethodName) jdk_38_method_7_code (1 : Nat) (Option.some (Jvm.ClassFile.FieldType.array (Jvm.ClassFile.FieldType.object "java/lang/Object")))).before args0 about1 = true := code_word (m := ⟨13, 2⟩) (meth := k13m2) (c := k13c2) (by decide +kernel) rfl rfl rfl (by decide +kernel)
set_option maxRecDepth 65536 in
theorem w_c18 : (Jvm.Cond.code ({ cls := "java/util/ArrayList", name := "grow", desc := "(I)[Ljava/lang/Object;" } : Jvm.MethodName) jdk_38_method_6_code (4 : Nat) (Option.some (Jvm.ClassFile.FieldType.array (Jvm.ClassFile.FieldType.object "java/lang/Object")))).before args0 about1 = true := code_word (m := ⟨13, 1⟩) (meth := k13m1) (c := k13c1) (by decide +kernel) rfl rfl rfl (by decide +kernel)
set_option maxRecDepth 65536 in
theorem w_c19 : (Jvm.Cond.code ({ cls := "java/lang/Math", name := "max", desc := "(II)I" } : Jvm.MethodName) jdk_29_method_65_code (2 : Nat) (Option.some Jvm.ClassFile.FieldType.int)).before args0 about1 = true := code_word (m := ⟨20, 1⟩) (meth := k20m1) (c := k20c1) (by decide +kernel) rfl rfl rfl (by decide +kernel)
set_option maxRecDepth 65536 in
theorem w_c20 : (Jvm.Cond.code ({ cls := "java/util/ArrayList", name := "toArray", desc := "()[Ljava/lang/Object;" } : Jvm.MethodName) jdk_38_method_16_code (1 : Nat) (Option.some (Jvm.ClassFile.FieldType.array (Jvm.ClassFile.FieldType.object "java/lang/Object")))).before args0 about1 = true := code_word (m := ⟨13, 4⟩) (meth := k13m4) (c := k13c4) (by decide +kernel) rfl rfl rfl (by decide +kernel)
set_option maxRecDepth 65536 in
theorem w_c21 : (Jvm.Cond.code ({ cls := "java/util/Arrays", name := "copyOf", desc := "([Ljava/lang/Object;I)[Ljava/lang/Object;" } : Jvm.MethodName) jdk_65_method_119_code (2 : Nat) (Option.some (Jvm.ClassFile.FieldType.array (Jvm.ClassFile.FieldType.object "java/lang/Object")))).before args0 about1 = true := code_word (m := ⟨21, 1⟩) (meth := k21m1) (c := k21c1) (by decide +kernel) rfl rfl rfl (by decide +kernel)
set_option maxRecDepth 65536 in
theorem w_c22 : (Jvm.Cond.code ({ cls := "java/util/Arrays", name := "copyOf", desc := "([Ljava/lang/Object;ILjava/lang/Class;)[Ljava/lang/Object;" } : Jvm.MethodName) jdk_65_method_120_code (4 : Nat) (Option.some (Jvm.ClassFile.FieldType.array (Jvm.ClassFile.FieldType.object "java/lang/Object")))).before args0 about1 = true := code_word (m := ⟨21, 2⟩) (meth := k21m2) (c := k21c2) (by decide +kernel) rfl rfl rfl (by decide +kernel)
set_option maxRecDepth 65536 in
theorem w_c23 : (Jvm.Cond.code ({ cls := "java/lang/Math", name := "min", desc := "(II)I" } : Jvm.MethodName) jdk_29_method_69_code (2 : Nat) (Option.some Jvm.ClassFile.FieldType.int)).before args0 about1 = true := code_word (m := ⟨20, 2⟩) (meth := k20m2) (c := k20c2) (by decide +kernel) rfl rfl rfl (by decide +kernel)
set_option maxRecDepth 65536 in
theorem w_c24 : (Jvm.Cond.code ({ cls := "java/util/List", name := "of", desc := "([Ljava/lang/Object;)Ljava/util/List;" } : Jvm.MethodName) jdk_40_method_47_code (2 : Nat) (Option.some (Jvm.ClassFile.FieldType.object "java/util/List"))).before args0 about1 = true := code_word (m := ⟨8, 4⟩) (meth := k8m4) (c := k8c4) (by decide +kernel) rfl rfl rfl (by decide +kernel)
set_option maxRecDepth 65536 in
theorem w_c25 : (Jvm.Cond.code ({ cls := "java/util/ImmutableCollections", name := "listFromArray", desc := "([Ljava/lang/Object;)Ljava/util/List;" } : Jvm.MethodName) jdk_56_method_4_code (3 : Nat) (Option.some (Jvm.ClassFile.FieldType.object "java/util/List"))).before args0 about1 = true := code_word (m := ⟨14, 2⟩) (meth := k14m2) (c := k14c2) (by decide +kernel) rfl rfl rfl (by decide +kernel)
set_option maxRecDepth 65536 in
theorem w_c26 : (Jvm.Cond.code ({ cls := "java/util/Objects", name := "requireNonNull", desc := "(Ljava/lang/Object;)Ljava/lang/Object;" } : Jvm.MethodName) jdk_31_method_10_code (1 : Nat) (Option.some (Jvm.ClassFile.FieldType.object "java/lang/Object"))).before args0 about1 = true := code_word (m := ⟨23, 1⟩) (meth := k23m1) (c := k23c1) (by decide +kernel) rfl rfl rfl (by decide +kernel)
set_option maxRecDepth 65536 in
theorem w_c27 : (Jvm.Cond.code ({ cls := "java/util/ImmutableCollections$ListN", name := "<init>", desc := "([Ljava/lang/Object;Z)V" } : Jvm.MethodName) jdk_45_method_1_code (3 : Nat) (Option.none : Option Jvm.ClassFile.FieldType)).before args0 about1 = true := code_word (m := ⟨18, 0⟩) (meth := k18m0) (c := k18c0) (by decide +kernel) rfl rfl rfl (by decide +kernel)
set_option maxRecDepth 65536 in
theorem w_c28 : (Jvm.Cond.code ({ cls := "java/util/ImmutableCollections$AbstractImmutableList", name := "<init>", desc := "()V" } : Jvm.MethodName) jdk_46_method_1_code (1 : Nat) (Option.none : Option Jvm.ClassFile.FieldType)).before args0 about1 = true := code_word (m := ⟨16, 0⟩) (meth := k16m0) (c := k16c0) (by decide +kernel) rfl rfl rfl (by decide +kernel)
set_option maxRecDepth 65536 in
theorem w_c29 : (Jvm.Cond.code ({ cls := "java/util/ImmutableCollections$AbstractImmutableCollection", name := "<init>", desc := "()V" } : Jvm.MethodName) jdk_47_method_1_code (1 : Nat) (Option.none : Option Jvm.ClassFile.FieldType)).before args0 about1 = true := code_word (m := ⟨15, 0⟩) (meth := k15m0) (c := k15c0) (by decide +kernel) rfl rfl rfl (by decide +kernel)
set_option maxRecDepth 65536 in
theorem w_c30 : (Jvm.Cond.code ({ cls := "java/util/ImmutableCollections$ListN", name := "get", desc := "(I)Ljava/lang/Object;" } : Jvm.MethodName) jdk_45_method_4_code (2 : Nat) (Option.some (Jvm.ClassFile.FieldType.object "java/lang/Object"))).before args0 about1 = true := code_word (m := ⟨18, 3⟩) (meth := k18m3) (c := k18c3) (by decide +kernel) rfl rfl rfl (by decide +kernel)
set_option maxRecDepth 65536 in
theorem w_c31 : (Jvm.Cond.code ({ cls := "com/example/curtail/curtail/Placement$Cell", name := "nSlot", desc := "()I" } : Jvm.MethodName) prog_15_method_5_code (1 : Nat) (Option.some Jvm.ClassFile.FieldType.int)).before args0 about1 = true := code_word (m := ⟨19, 1⟩) (meth := k19m1) (c := k19c1) (by decide +kernel) rfl rfl rfl (by decide +kernel)
set_option maxRecDepth 65536 in
theorem w_c32 : (Jvm.Cond.code ({ cls := "com/example/curtail/curtail/Placement", name := "completionSlot", desc := "()I" } : Jvm.MethodName) prog_14_method_3_code (1 : Nat) (Option.some Jvm.ClassFile.FieldType.int)).before args0 about1 = true := code_word (m := ⟨3, 2⟩) (meth := k3m2) (c := k3c2) (by decide +kernel) rfl rfl rfl (by decide +kernel)
set_option maxRecDepth 65536 in
theorem w_c33 : (Jvm.Cond.code ({ cls := "java/util/ImmutableCollections$List12", name := "<init>", desc := "(Ljava/lang/Object;Ljava/lang/Object;)V" } : Jvm.MethodName) jdk_44_method_2_code (3 : Nat) (Option.none : Option Jvm.ClassFile.FieldType)).before args0 about1 = true := code_word (m := ⟨17, 1⟩) (meth := k17m1) (c := k17c1) (by decide +kernel) rfl rfl rfl (by decide +kernel)
set_option maxRecDepth 65536 in
theorem w_c34 : (Jvm.Cond.code ({ cls := "java/util/ImmutableCollections$List12", name := "size", desc := "()I" } : Jvm.MethodName) jdk_44_method_3_code (1 : Nat) (Option.some Jvm.ClassFile.FieldType.int)).before args0 about1 = true := code_word (m := ⟨17, 2⟩) (meth := k17m2) (c := k17c2) (by decide +kernel) rfl rfl rfl (by decide +kernel)
set_option maxRecDepth 65536 in
theorem w_c35 : (Jvm.Cond.code ({ cls := "java/util/ImmutableCollections$List12", name := "get", desc := "(I)Ljava/lang/Object;" } : Jvm.MethodName) jdk_44_method_5_code (2 : Nat) (Option.some (Jvm.ClassFile.FieldType.object "java/lang/Object"))).before args0 about1 = true := code_word (m := ⟨17, 4⟩) (meth := k17m4) (c := k17c4) (by decide +kernel) rfl rfl rfl (by decide +kernel)
set_option maxRecDepth 65536 in
theorem w_c36 : (Jvm.Cond.code ({ cls := "java/util/ImmutableCollections$List12", name := "isEmpty", desc := "()Z" } : Jvm.MethodName) jdk_44_method_4_code (1 : Nat) (Option.some Jvm.ClassFile.FieldType.boolean)).before args0 about1 = true := code_word (m := ⟨17, 3⟩) (meth := k17m3) (c := k17c3) (by decide +kernel) rfl rfl rfl (by decide +kernel)
set_option maxRecDepth 65536 in
theorem w_c37 : (Jvm.Cond.code ({ cls := "java/util/ImmutableCollections$List12", name := "<init>", desc := "(Ljava/lang/Object;)V" } : Jvm.MethodName) jdk_44_method_1_code (2 : Nat) (Option.none : Option Jvm.ClassFile.FieldType)).before args0 about1 = true := code_word (m := ⟨17, 0⟩) (meth := k17m0) (c := k17c0) (by decide +kernel) rfl rfl rfl (by decide +kernel)
def codes1 : List Jvm.Cond := [Jvm.Cond.code x code maxLocals ret, Jvm.Cond.code ({ cls := "java/util/ArrayList", name := "<init>", desc := "()V" } : Jvm.MethodName) jdk_38_method_2_code (1 : Nat) (Option.none : Option Jvm.ClassFile.FieldType), Jvm.Cond.code ({ cls := "java/util/AbstractList", name := "<init>", desc := "()V" } : Jvm.MethodName) jdk_39_method_1_code (1 : Nat) (Option.none : Option Jvm.ClassFile.FieldType), Jvm.Cond.code ({ cls := "java/util/AbstractCollection", name := "<init>", desc := "()V" } : Jvm.MethodName) jdk_22_method_1_code (1 : Nat) (Option.none : Option Jvm.ClassFile.FieldType), Jvm.Cond.code ({ cls := "java/lang/Object", name := "<init>", desc := "()V" } : Jvm.MethodName) object_method_1_code (1 : Nat) (Option.none : Option Jvm.ClassFile.FieldType), Jvm.Cond.code ({ cls := "com/example/curtail/curtail/Placement", name := "<init>", desc := "(Ljava/util/List;)V" } : Jvm.MethodName) prog_14_method_1_code (3 : Nat) (Option.none : Option Jvm.ClassFile.FieldType), Jvm.Cond.code ({ cls := "java/lang/Record", name := "<init>", desc := "()V" } : Jvm.MethodName) jdk_30_method_1_code (1 : Nat) (Option.none : Option Jvm.ClassFile.FieldType), Jvm.Cond.code ({ cls := "java/util/List", name := "copyOf", desc := "(Ljava/util/Collection;)Ljava/util/List;" } : Jvm.MethodName) jdk_40_method_48_code (1 : Nat) (Option.some (Jvm.ClassFile.FieldType.object "java/util/List")), Jvm.Cond.code ({ cls := "java/util/ImmutableCollections", name := "listCopy", desc := "(Ljava/util/Collection;)Ljava/util/List;" } : Jvm.MethodName) jdk_56_method_3_code (2 : Nat) (Option.some (Jvm.ClassFile.FieldType.object "java/util/List")), Jvm.Cond.code ({ cls := "java/util/ArrayList", name := "isEmpty", desc := "()Z" } : Jvm.MethodName) jdk_38_method_9_code (1 : Nat) (Option.some Jvm.ClassFile.FieldType.boolean), Jvm.Cond.code ({ cls := "java/util/List", name := "of", desc := "()Ljava/util/List;" } : Jvm.MethodName) jdk_40_method_36_code (0 : Nat) (Option.some (Jvm.ClassFile.FieldType.object "java/util/List")), Jvm.Cond.code ({ cls := "java/util/ImmutableCollections$ListN", name := "size", desc := "()I" } : Jvm.MethodName) jdk_45_method_3_code (1 : Nat) (Option.some Jvm.ClassFile.FieldType.int), Jvm.Cond.code ({ cls := "com/example/curtail/curtail/Placement", name := "isAccepted", desc := "()Z" } : Jvm.MethodName) prog_14_method_2_code (1 : Nat) (Option.some Jvm.ClassFile.FieldType.boolean), Jvm.Cond.code ({ cls := "java/util/ImmutableCollections$ListN", name := "isEmpty", desc := "()Z" } : Jvm.MethodName) jdk_45_method_2_code (1 : Nat) (Option.some Jvm.ClassFile.FieldType.boolean), Jvm.Cond.code ({ cls := "com/example/curtail/curtail/Placement$Cell", name := "<init>", desc := "(II)V" } : Jvm.MethodName) prog_15_method_1_code (3 : Nat) (Option.none : Option Jvm.ClassFile.FieldType), Jvm.Cond.code ({ cls := "java/util/ArrayList", name := "add", desc := "(Ljava/lang/Object;)Z" } : Jvm.MethodName) jdk_38_method_25_code (2 : Nat) (Option.some Jvm.ClassFile.FieldType.boolean), Jvm.Cond.code ({ cls := "java/util/ArrayList", name := "add", desc := "(Ljava/lang/Object;[Ljava/lang/Object;I)V" } : Jvm.MethodName) jdk_38_method_24_code (4 : Nat) (Option.none : Option Jvm.ClassFile.FieldType), Jvm.Cond.code ({ cls := "java/util/ArrayList", name := "grow", desc := "()[Ljava/lang/Object;" } : Jvm.MethodName) jdk_38_method_7_code (1 : Nat) (Option.some (Jvm.ClassFile.FieldType.array (Jvm.ClassFile.FieldType.object "java/lang/Object"))), Jvm.Cond.code ({ cls := "java/util/ArrayList", name := "grow", desc := "(I)[Ljava/lang/Object;" } : Jvm.MethodName) jdk_38_method_6_code (4 : Nat) (Option.some (Jvm.ClassFile.FieldType.array (Jvm.ClassFile.FieldType.object "java/lang/Object"))), Jvm.Cond.code ({ cls := "java/lang/Math", name := "max", desc := "(II)I" } : Jvm.MethodName) jdk_29_method_65_code (2 : Nat) (Option.some Jvm.ClassFile.FieldType.int), Jvm.Cond.code ({ cls := "java/util/ArrayList", name := "toArray", desc := "()[Ljava/lang/Object;" } : Jvm.MethodName) jdk_38_method_16_code (1 : Nat) (Option.some (Jvm.ClassFile.FieldType.array (Jvm.ClassFile.FieldType.object "java/lang/Object"))), Jvm.Cond.code ({ cls := "java/util/Arrays", name := "copyOf", desc := "([Ljava/lang/Object;I)[Ljava/lang/Object;" } : Jvm.MethodName) jdk_65_method_119_code (2 : Nat) (Option.some (Jvm.ClassFile.FieldType.array (Jvm.ClassFile.FieldType.object "java/lang/Object"))), Jvm.Cond.code ({ cls := "java/util/Arrays", name := "copyOf", desc := "([Ljava/lang/Object;ILjava/lang/Class;)[Ljava/lang/Object;" } : Jvm.MethodName) jdk_65_method_120_code (4 : Nat) (Option.some (Jvm.ClassFile.FieldType.array (Jvm.ClassFile.FieldType.object "java/lang/Object"))), Jvm.Cond.code ({ cls := "java/lang/Math", name := "min", desc := "(II)I" } : Jvm.MethodName) jdk_29_method_69_code (2 : Nat) (Option.some Jvm.ClassFile.FieldType.int), Jvm.Cond.code ({ cls := "java/util/List", name := "of", desc := "([Ljava/lang/Object;)Ljava/util/List;" } : Jvm.MethodName) jdk_40_method_47_code (2 : Nat) (Option.some (Jvm.ClassFile.FieldType.object "java/util/List")), Jvm.Cond.code ({ cls := "java/util/ImmutableCollections", name := "listFromArray", desc := "([Ljava/lang/Object;)Ljava/util/List;" } : Jvm.MethodName) jdk_56_method_4_code (3 : Nat) (Option.some (Jvm.ClassFile.FieldType.object "java/util/List")), Jvm.Cond.code ({ cls := "java/util/Objects", name := "requireNonNull", desc := "(Ljava/lang/Object;)Ljava/lang/Object;" } : Jvm.MethodName) jdk_31_method_10_code (1 : Nat) (Option.some (Jvm.ClassFile.FieldType.object "java/lang/Object")), Jvm.Cond.code ({ cls := "java/util/ImmutableCollections$ListN", name := "<init>", desc := "([Ljava/lang/Object;Z)V" } : Jvm.MethodName) jdk_45_method_1_code (3 : Nat) (Option.none : Option Jvm.ClassFile.FieldType), Jvm.Cond.code ({ cls := "java/util/ImmutableCollections$AbstractImmutableList", name := "<init>", desc := "()V" } : Jvm.MethodName) jdk_46_method_1_code (1 : Nat) (Option.none : Option Jvm.ClassFile.FieldType), Jvm.Cond.code ({ cls := "java/util/ImmutableCollections$AbstractImmutableCollection", name := "<init>", desc := "()V" } : Jvm.MethodName) jdk_47_method_1_code (1 : Nat) (Option.none : Option Jvm.ClassFile.FieldType), Jvm.Cond.code ({ cls := "java/util/ImmutableCollections$ListN", name := "get", desc := "(I)Ljava/lang/Object;" } : Jvm.MethodName) jdk_45_method_4_code (2 : Nat) (Option.some (Jvm.ClassFile.FieldType.object "java/lang/Object")), Jvm.Cond.code ({ cls := "com/example/curtail/curtail/Placement$Cell", name := "nSlot", desc := "()I" } : Jvm.MethodName) prog_15_method_5_code (1 : Nat) (Option.some Jvm.ClassFile.FieldType.int), Jvm.Cond.code ({ cls := "com/example/curtail/curtail/Placement", name := "completionSlot", desc := "()I" } : Jvm.MethodName) prog_14_method_3_code (1 : Nat) (Option.some Jvm.ClassFile.FieldType.int), Jvm.Cond.code ({ cls := "java/util/ImmutableCollections$List12", name := "<init>", desc := "(Ljava/lang/Object;Ljava/lang/Object;)V" } : Jvm.MethodName) jdk_44_method_2_code (3 : Nat) (Option.none : Option Jvm.ClassFile.FieldType), Jvm.Cond.code ({ cls := "java/util/ImmutableCollections$List12", name := "size", desc := "()I" } : Jvm.MethodName) jdk_44_method_3_code (1 : Nat) (Option.some Jvm.ClassFile.FieldType.int), Jvm.Cond.code ({ cls := "java/util/ImmutableCollections$List12", name := "get", desc := "(I)Ljava/lang/Object;" } : Jvm.MethodName) jdk_44_method_5_code (2 : Nat) (Option.some (Jvm.ClassFile.FieldType.object "java/lang/Object")), Jvm.Cond.code ({ cls := "java/util/ImmutableCollections$List12", name := "isEmpty", desc := "()Z" } : Jvm.MethodName) jdk_44_method_4_code (1 : Nat) (Option.some Jvm.ClassFile.FieldType.boolean), Jvm.Cond.code ({ cls := "java/util/ImmutableCollections$List12", name := "<init>", desc := "(Ljava/lang/Object;)V" } : Jvm.MethodName) jdk_44_method_1_code (2 : Nat) (Option.none : Option Jvm.ClassFile.FieldType)]
set_option maxRecDepth 65536 in
theorem codes_eq : words1.filter isCode = codes1 := rfl
theorem w_codes : ∀ c ∈ words1.filter isCode, c.before args0 about1 = true := by
  rw [codes_eq]
  intro c hc
  simp only [codes1, List.mem_cons, List.not_mem_nil, or_false] at hc
  rcases hc with rfl | rfl | rfl | rfl | rfl | rfl | rfl | rfl | rfl | rfl | rfl | rfl | rfl | rfl | rfl | rfl | rfl | rfl | rfl | rfl | rfl | rfl | rfl | rfl | rfl | rfl | rfl | rfl | rfl | rfl | rfl | rfl | rfl | rfl | rfl | rfl | rfl | rfl
  · exact w_c0
  · exact w_c1
  · exact w_c2
  · exact w_c3
  · exact w_c4
  · exact w_c5
  · exact w_c6
  · exact w_c7
  · exact w_c8
  · exact w_c9
  · exact w_c10
  · exact w_c11
  · exact w_c12
  · exact w_c13
  · exact w_c14
  · exact w_c15
  · exact w_c16
  · exact w_c17
  · exact w_c18
  · exact w_c19
  · exact w_c20
  · exact w_c21
  · exact w_c22
  · exact w_c23
  · exact w_c24
  · exact w_c25
  · exact w_c26
  · exact w_c27
  · exact w_c28
  · exact w_c29
  · exact w_c30
  · exact w_c31
  · exact w_c32
  · exact w_c33
  · exact w_c34
  · exact w_c35
  · exact w_c36
  · exact w_c37
set_option maxRecDepth 65536 in
theorem w_t1 : (words1.take 24).all (fun c => isCode c || c.before args0 about1) = true := by decide +kernel
set_option maxRecDepth 65536 in
theorem w_t2 : ((words1.drop 24).take 24).all (fun c => isCode c || c.before args0 about1) = true := by decide +kernel
set_option maxRecDepth 65536 in
theorem w_t3 : (((words1.drop 24).drop 24).take 24).all (fun c => isCode c || c.before args0 about1) = true := by decide +kernel
set_option maxRecDepth 65536 in
theorem w_t4 : ((((words1.drop 24).drop 24).drop 24).take 24).all (fun c => isCode c || c.before args0 about1) = true := by decide +kernel
set_option maxRecDepth 65536 in
theorem w_t5 : (((((words1.drop 24).drop 24).drop 24).drop 24).take 24).all (fun c => isCode c || c.before args0 about1) = true := by decide +kernel
set_option maxRecDepth 65536 in
theorem w_t6 : ((((((words1.drop 24).drop 24).drop 24).drop 24).drop 24).take 24).all (fun c => isCode c || c.before args0 about1) = true := by decide +kernel
set_option maxRecDepth 65536 in
theorem w_t7 : (((((((words1.drop 24).drop 24).drop 24).drop 24).drop 24).drop 24).take 24).all (fun c => isCode c || c.before args0 about1) = true := by decide +kernel
set_option maxRecDepth 65536 in
theorem w_t8 : ((((((((words1.drop 24).drop 24).drop 24).drop 24).drop 24).drop 24).drop 24).take 24).all (fun c => isCode c || c.before args0 about1) = true := by decide +kernel
set_option maxRecDepth 65536 in
theorem w_t9 : (((((((((words1.drop 24).drop 24).drop 24).drop 24).drop 24).drop 24).drop 24).drop 24).take 24).all (fun c => isCode c || c.before args0 about1) = true := by decide +kernel
set_option maxRecDepth 65536 in
theorem w_t10 : ((((((((((words1.drop 24).drop 24).drop 24).drop 24).drop 24).drop 24).drop 24).drop 24).drop 24).take 24).all (fun c => isCode c || c.before args0 about1) = true := by decide +kernel
set_option maxRecDepth 65536 in
theorem w_t11 : ((((((((((words1.drop 24).drop 24).drop 24).drop 24).drop 24).drop 24).drop 24).drop 24).drop 24).drop 24).all (fun c => isCode c || c.before args0 about1) = true := by decide +kernel
theorem w_tables : (allAtoms (Jvm.Cond.code x code maxLocals ret :: tables_1)).before args0 about1 = true := by
  rw [allAtoms_all]
  show words1.all (fun c => c.before args0 about1) = true
  refine all_split ?_ w_codes
  rw [← List.take_append_drop 24 words1, List.all_append, w_t1, ← List.take_append_drop 24 (words1.drop 24), List.all_append, w_t2, ← List.take_append_drop 24 ((words1.drop 24).drop 24), List.all_append, w_t3, ← List.take_append_drop 24 (((words1.drop 24).drop 24).drop 24), List.all_append, w_t4, ← List.take_append_drop 24 ((((words1.drop 24).drop 24).drop 24).drop 24), List.all_append, w_t5, ← List.take_append_drop 24 (((((words1.drop 24).drop 24).drop 24).drop 24).drop 24), List.all_append, w_t6, ← List.take_append_drop 24 ((((((words1.drop 24).drop 24).drop 24).drop 24).drop 24).drop 24), List.all_append, w_t7, ← List.take_append_drop 24 (((((((words1.drop 24).drop 24).drop 24).drop 24).drop 24).drop 24).drop 24), List.all_append, w_t8, ← List.take_append_drop 24 ((((((((words1.drop 24).drop 24).drop 24).drop 24).drop 24).drop 24).drop 24).drop 24), List.all_append, w_t9, ← List.take_append_drop 24 (((((((((words1.drop 24).drop 24).drop 24).drop 24).drop 24).drop 24).drop 24).drop 24).drop 24), List.all_append, w_t10, w_t11]
  rfl
set_option maxRecDepth 65536 in
theorem w_rest : rest_1_c.before args0 about1 = true := by decide +kernel
set_option maxRecDepth 65536 in
theorem w_case : (Jvm.Cond.and given_1 narrow_1).before args0 about1 = true := by decide +kernel
theorem w_applies : (headSpec (Jvm.Cond.code x code maxLocals ret :: tables_1) room_1).applies x e0.platform about1 = true :=
  (Spec.applies_iff w_frames).mpr ⟨w_running, w_runnable, w_alone, w_named, w_hears, w_ripe, w_room, w_tables⟩
theorem atStart : AtStart classFile x code maxLocals ret World_1 tables_1 room_1 Calls_1 rest_1 Pre_1 launch0 p0 e0 about1 theMethod args0 below0 :=
  ⟨lists_1, trivial, launch0.admits_env _ _ _, launch0.least_env, fairChoices_fair.cas, fairChoices_fair.clock, w_frames, w_args, w_heap, w_applies, ⟨⟨28, k28, 7, by decide +kernel, rfl, rfl, _, rfl, rfl⟩, trivial⟩, w_rest, w_case⟩
end start1
theorem witness_1 : WitnessClaimed_1 := ⟨start1.p0, start1.e0, start1.about1, start1.theMethod, start1.args0, start1.below0, start1.atStart⟩
end Jvm.Pilot.@@N@@
