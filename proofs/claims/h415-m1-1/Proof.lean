import JvmDerived
import JvmDerived.Pilot.@@N@@Statement
import JvmDerived.Pilot.@@N@@Code
set_option linter.unusedVariables false
set_option linter.unusedSimpArgs false
namespace Jvm.Pilot.@@N@@
open Jvm Jvm.ClassFile Sem Op Lib Jvm.Free Jvm.Stand Jvm.LawKit Jvm.RoadKit Bundle Jvm.Pilot.@@N@@.Jvm.D
section OwnKit
variable {p : Program} {l : Launch} {e : Env} {R : Room} {s : State} {m : MethodId} {args : Array Value} {below : List Frame} {meth : Method} {c : Code} {T : State} {locs : List Loc} {cells slots : Nat}
theorem retI (X : Stand p l e R s m args below meth c T locs cells slots) (hx : p.tables.exec = Jvm.exec) {pc : Nat} {Ls : Array Slot} {z : Int32} {rest : List Value} (hret : meth.sig.returnType = some .int) (hd : decode c.code pc = .ok (.ireturn, 1)) {fs : List Frame}
    (hl : ∀ (f : JFrame) (acts : List Action), f.method = m → f.locked = none → f.entered = [] → (doReturn e (T.setTop f) acts (some (.int z))).1 = T.setFrames fs) : Steps p.tables e below (T.setTop (mkF m pc Ls (.int z :: rest))) (T.setFrames fs) :=
  retOut X hx hret rfl (Or.inl ⟨rfl, Or.inl rfl, z, rfl⟩) hd hl
theorem oretJ (X : Stand p l e R s m args below meth c T locs cells slots) (hx : p.tables.exec = Jvm.exec) {pc : Nat} {Ls : Array Slot} {z : Int64} {rest : List Value} (hret : meth.sig.returnType = some .long) (hd : decode c.code pc = .ok (.lreturn, 1)) {fs : List Frame}
    (hl : ∀ (f : JFrame) (acts : List Action), f.method = m → f.locked = none → f.entered = [] → (doReturn e (T.setTop f) acts (some (.long z))).1 = T.setFrames fs) : Steps p.tables e below (T.setTop (mkF m pc Ls (.long z :: rest))) (T.setFrames fs) :=
  retOut X hx hret rfl (Or.inr (Or.inl ⟨rfl, rfl, z, rfl⟩)) hd hl
theorem oretA (X : Stand p l e R s m args below meth c T locs cells slots) (hx : p.tables.exec = Jvm.exec) {pc : Nat} {Ls : Array Slot} {w : Value} {t : FieldType} {rest : List Value} (hret : meth.sig.returnType = some t) (ht : t.isReference = true) (hw : w.isRef = true) (hd : decode c.code pc = .ok (.areturn, 1)) {fs : List Frame}
    (hl : ∀ (f : JFrame) (acts : List Action), f.method = m → f.locked = none → f.entered = [] → (doReturn e (T.setTop f) acts (some w)).1 = T.setFrames fs) : Steps p.tables e below (T.setTop (mkF m pc Ls (w :: rest))) (T.setFrames fs) :=
  retOut X hx hret (by rcases ref_cases hw with rfl | ⟨a, rfl⟩ <;> cases t <;> rfl) (Or.inr (Or.inr (Or.inr (Or.inr ⟨rfl, ht, hw⟩)))) hd hl
end OwnKit
/-- the run that stands at A comes to an end of which P holds -/
def OGot (tb : Tables) (e : Env) (below : List Frame) (A : State) (P : State → Outcome → Prop) : Prop := ∃ U o, Steps tb e below A U ∧ P U o
theorem OGot.go {tb : Tables} {e : Env} {below : List Frame} {A B : State} {P : State → Outcome → Prop} (st : ∀ t, Steps tb e below B t → Steps tb e below A t) (h : OGot tb e below B P) : OGot tb e below A P := by
  obtain ⟨U, o, h1, h2⟩ := h
  exact ⟨U, o, st U h1, h2⟩
theorem OGot.on {tb : Tables} {e : Env} {below : List Frame} {A B : State} {P : State → Outcome → Prop} (st : Steps tb e below A B) (h : OGot tb e below B P) : OGot tb e below A P := by
  obtain ⟨U, o, h1, h2⟩ := h
  exact ⟨U, o, st.trans h1, h2⟩
section OwnFacts
variable {Z : State} {h h' h0 : Heap} {a b : Addr} {C n d : String} {v : Value} {sl : Nat} {n0 : Nat} {ws ws' : List (Addr × Nat)} {k : ClassId} {ty : FieldType} {z : Int32} {vs : List Value} {dv : Value}
theorem osz (X : Old Z n0 h) : n0 ≤ h.size := X.1 ▸ X.2.1
theorem oheap {U : State} {P : Heap → Prop} (q : U.heap = h) (x : P h) : P U.heap := q ▸ x
/-- what stood in h0 stands in h, but for the places at ws -/
def OKeep (h0 h : Heap) (ws : List (Addr × Nat)) : Prop := h0.size ≤ h.size ∧ ∀ (x : Addr) (c : Cell), h0[x]? = some c → ∃ c' : Cell, h[x]? = some c' ∧ c'.cls = c.cls ∧ c'.vm = c.vm ∧ c'.slots.size = c.slots.size ∧ (∀ i, (x, i) ∉ ws → c'.slots[i]? = c.slots[i]?) ∧ ((∀ i, (x, i) ∉ ws) → c' = c)
theorem OKeep.refl (h : Heap) (ws : List (Addr × Nat)) : OKeep h h ws := ⟨Nat.le_refl _, fun _ c q => ⟨c, q, rfl, rfl, rfl, fun _ _ => rfl, fun _ => rfl⟩⟩
theorem OKeep.ext (K : OKeep h0 h ws) (E : Ext h h') : OKeep h0 h' ws := ⟨Nat.le_trans K.1 E.1, fun x c q => by
  obtain ⟨c', q', r⟩ := K.2 x c q
  exact ⟨c', E.2 x c' q', r⟩⟩
theorem OKeep.trans (K : OKeep h0 h ws) (K' : OKeep h h' ws') (q : ∀ x ∈ ws', x ∈ ws ∨ h0.size ≤ x.1) : OKeep h0 h' ws := by
  refine ⟨Nat.le_trans K.1 K'.1, fun x c hx => ?_⟩
  have lt : x < h0.size := (Array.getElem?_eq_some_iff.mp hx).1
  have out : ∀ i, (x, i) ∉ ws → (x, i) ∉ ws' := fun i r z => (q _ z).elim r fun y => Nat.not_lt.mpr y lt
  obtain ⟨c1, q1, r1, r2, r3, r4, r5⟩ := K.2 x c hx
  obtain ⟨c2, q2, t1, t2, t3, t4, t5⟩ := K'.2 x c1 q1
  exact ⟨c2, q2, t1.trans r1, t2.trans r2, t3.trans r3, fun i r => (t4 i (out i r)).trans (r4 i r), fun r => (t5 fun i => out i (r i)).trans (r5 r)⟩
theorem OKeep.of_wr (W : Wr h h' a sl v) : OKeep h h' [(a, sl)] := by
  refine ⟨Nat.le_of_eq W.size.symm, fun x c q => ?_⟩
  obtain ⟨c', e1, e2, e3, e4, e5, e6, -⟩ := wr_at W q
  refine ⟨c', e1, e2, e3, e4, fun i r => ?_, fun r => e5 fun z => r sl (by simp [z])⟩
  by_cases z : x = a
  · subst z
    exact e6 i fun y => r (by simp [y])
  · rw [e5 z]
theorem OKeep.wr (K : OKeep h0 h ws) (W : Wr h h' a sl v) (q : (a, sl) ∈ ws ∨ h0.size ≤ a) : OKeep h0 h' ws := K.trans (OKeep.of_wr W) fun x hx => by cases List.mem_singleton.mp hx; exact q
theorem oslot {x : ClassId × Class × Nat × Field} (h2 : Z.fieldFound? C n d = some x) : Jvm.RoadKit.slotOf Z C n d = x.2.2.2.slot := by
  show ((Z.fieldFound? C n d).map (·.2.2.2.slot)).getD 0 = _
  rw [h2]; rfl
theorem OKeep.fld (F : Fld Z h a C n d v) (K : OKeep h h' ws) (q : (a, Jvm.RoadKit.slotOf Z C n d) ∉ ws) : Fld Z h' a C n d v := by
  obtain ⟨cell, cf, k, i, f, h1, h2, h3, h4, h5, h6, h7⟩ := F
  obtain ⟨c', r, r1, r2, -, r4, -⟩ := K.2 a cell h1
  exact ⟨c', cf, k, i, f, r, h2, h3, by rw [r2]; exact h4, by rw [r2]; exact h5, by rw [r1]; exact h6, by rw [r4 f.slot (fun y => q (by rw [oslot h2]; exact y))]; exact h7⟩
theorem OKeep.exa (F : Exa Z h a C) (K : OKeep h h' ws) : Exa Z h' a C := by
  obtain ⟨cell, k, h1, h2, h3, h4, h5⟩ := F
  obtain ⟨c', q, r1, r2, r3, -, -⟩ := K.2 a cell h1
  exact ⟨c', k, q, r1 ▸ h2, r1 ▸ h3, r2 ▸ h4, r3 ▸ h5⟩
theorem OKeep.arv (F : Arv Z h a k ty z vs dv) (K : OKeep h h' ws) (q : ∀ x ∈ ws, a ≠ x.1) : Arv Z h' a k ty z vs dv := by
  obtain ⟨c, A, r⟩ := F
  obtain ⟨c', e1, -, -, -, -, e5⟩ := K.2 a c A.1
  cases e5 fun i y => q _ y rfl
  exact ⟨c, ⟨e1, A.2⟩, r⟩
theorem OKeep.old (X : Old Z n0 h) (K : OKeep h h' ws) (q : ∀ x ∈ ws, n0 ≤ x.1) : Old Z n0 h' := ⟨X.1, Nat.le_trans X.2.1 K.1, fun x c r => by
  obtain ⟨c', e1, -, -, -, -, e5⟩ := K.2 x c (X.2.2 x c r)
  cases e5 fun i y => absurd (X.1 ▸ (Array.getElem?_eq_some_iff.mp r).1) (Nat.not_lt.mpr (q _ y))
  exact e1⟩
theorem onin0 {x : Addr × Nat} : x ∉ ([] : List (Addr × Nat)) := fun q => nomatch q
theorem oninA {t : Nat} {L : List (Addr × Nat)} (q : a ≠ b) (r : (a, sl) ∉ L) : (a, sl) ∉ (b, t) :: L := fun y => (List.mem_cons.mp y).elim (fun u => q (congrArg Prod.fst u)) r
theorem oninS {t : Nat} {L : List (Addr × Nat)} (q : sl ≠ t) (r : (a, sl) ∉ L) : (a, sl) ∉ (b, t) :: L := fun y => (List.mem_cons.mp y).elim (fun u => q (congrArg Prod.snd u)) r
theorem oall0 : ∀ x ∈ ([] : List (Addr × Nat)), a ≠ x.1 := fun _ q => nomatch q
theorem oallS {t : Nat} {L : List (Addr × Nat)} (q : a ≠ b) (r : ∀ x ∈ L, a ≠ x.1) : ∀ x ∈ (b, t) :: L, a ≠ x.1 := fun x y => (List.mem_cons.mp y).elim (fun u => by subst u; exact q) (r x)
theorem oge0 : ∀ x ∈ ([] : List (Addr × Nat)), n0 ≤ x.1 := fun _ q => nomatch q
theorem ogeS {t : Nat} {L : List (Addr × Nat)} (q : n0 ≤ b) (r : ∀ x ∈ L, n0 ≤ x.1) : ∀ x ∈ (b, t) :: L, n0 ≤ x.1 := fun x y => (List.mem_cons.mp y).elim (fun u => by subst u; exact q) (r x)
theorem oin0 {P : Addr × Nat → Prop} : ∀ x ∈ ([] : List (Addr × Nat)), P x := fun _ q => nomatch q
theorem oinS {P : Addr × Nat → Prop} {y : Addr × Nat} {L : List (Addr × Nat)} (q : P y) (r : ∀ x ∈ L, P x) : ∀ x ∈ y :: L, P x := fun x u => (List.mem_cons.mp u).elim (fun w => w ▸ q) (r x)
theorem oeq_int {args : Array Value} {first s : State} {o : Option Outcome} {idx : List Nat} {t : Term} {w : Int32} (q : (Jvm.Cond.eq t (.int w)).value args first o s idx = some true) : t.eval args first o idx s = some (.int w) := by
  simp only [Jvm.Cond.value, Term.eval] at q
  cases ht : t.eval args first o idx s with
  | none => simp [ht] at q
  | some x => cases x <;> simp [ht] at q ⊢; exact q
theorem oeq_ref {args : Array Value} {first s : State} {o : Option Outcome} {idx : List Nat} {t u : Term} {w : Addr} (q : (Jvm.Cond.eq t u).value args first o s idx = some true) (r : u.eval args first o idx s = some (.ref w)) : t.eval args first o idx s = some (.ref w) := by
  obtain ⟨x, y, e1, e2, k1, k2⟩ := cmp_v (Or.inl q)
  cases r.symm.trans e2
  rcases ref_cases k2.2 with rfl | ⟨z, rfl⟩
  · have := eq_R e1 e2 rfl rfl
    rw [q] at this
    simp at this
  · have := gotT (eq_R e1 e2 rfl rfl) q
    rw [e1, this]
theorem one_int {args : Array Value} {first s : State} {o : Option Outcome} {idx : List Nat} {t : Term} {w : Int32} (r : t.eval args first o idx s = some (.int w)) (q : (Jvm.Cond.not (.eq t (.int 0))).value args first o s idx = some true) : ¬ (w = (0 : Int32)) := by
  have := not_v q
  exact gotF (Cond.eq_ints r rfl) this
theorem olen {args : Array Value} {first s : State} {o : Option Outcome} {idx : List Nat} {t : Term} {cl : Cell} {w : Int32} (q : (Term.length t).eval args first o idx s = some (.int w)) (ht : t.eval args first o idx s = some (.ref a)) (ha : s.arrayAt? a = some cl) : cl.slots.size < 2 ^ 31 ∧ cl.slots.size.toInt32 = w := by
  simp only [Term.eval, ht, ha, Option.bind_eq_bind, Option.bind_some] at q
  by_cases y : cl.slots.size < 2 ^ 31
  · exact ⟨y, by simpa [y] using q⟩
  · simp [y] at q
theorem osub128 {args : Array Value} {j : Int32} (hj : ¬ j < 0) : (Term.sub (.index 0) (.int 128)).eval args Z none [j.toNatClampNeg] Z = some (.int (j - 128)) := by
  have e := idx_at (args := args) (first := Z) (s := Z) (o := none) hj
  simp only [Term.eval] at e ⊢
  simp [e]
  exact (back32 hj).1
def obox (c : Cell) (j : Int32) : Addr := match c.slots[j.toNatClampNeg]? with
  | some (.ref b) => b
  | _ => 0
theorem obox_at {cl : Cell} {K dd : String} {w : Int32} {val : Int32 → Value} (B : Bxs Z a cl K dd w val) {j : Int32} (hj : ¬ (j < 0 ∨ cl.slots.size ≤ j.toNatClampNeg)) : cl.slots[j.toNatClampNeg]? = some (.ref (obox cl j)) ∧ Exa Z Z.heap (obox cl j) K ∧ Fld Z Z.heap (obox cl j) K "value" dd (val j) := by
  obtain ⟨b, h1, h2, h3⟩ := B.2.2.2 j hj
  have e : obox cl j = b := by unfold obox; rw [h1]
  rw [e]; exact ⟨h1, h2, h3⟩
theorem oNS.root {a0 : Array Value} {O K : String} {i : Nat} (w : (Cond.noSuperclass O).before a0 Z = true) (wk : (Cond.instantiable K i).before a0 Z = true) (hn : O ≠ K) : NS Z O K := by
  obtain ⟨c, k, h1, h2, h3, -, -⟩ := Cond.noSuperclass_spec w
  obtain ⟨t, kt, g1, -⟩ := Cond.instantiable_spec wk
  have ne := ids_ne h1 g1 hn
  refine ⟨c, t, h1, g1, fun fuel => ?_⟩
  cases fuel with
  | zero => rfl
  | succ f => simp [Vm.isSubclassAux, ne, h2, h3]
theorem oNS.no {a0 : Array Value} {C S K : String} {i : Nat} (w : (Cond.superclass C S).before a0 Z = true) (wk : (Cond.instantiable K i).before a0 Z = true) (q : NS Z C K) (hn : C ≠ K) : ∃ c t, Z.vm.findClass C = some c ∧ Z.vm.findClass K = some t ∧ Z.vm.assignable c t = false := by
  obtain ⟨c, t, h0, g0, n3⟩ := q
  obtain ⟨p, k, kp, h1, h2, h3, h4, h5, -, h7⟩ := Cond.superclass_spec h0 w
  obtain ⟨t', k', g1, g2, g3, g4, -⟩ := Cond.instantiable_spec wk
  cases g0.symm.trans g1
  have ne := ids_ne h0 g0 hn
  have g7 : k'.isInterface = false := (Bool.or_eq_false_iff.mp g4).1
  refine ⟨c, t, h0, g0, ?_⟩
  show Z.vm.assignableAux (255 + 1) c t = false
  simp [Vm.assignableAux, ne, h2, g2, h5, g3, g7, Vm.isSubclass, n3]
end OwnFacts
theorem ow {Z : State} {a0 : Array Value} (hw : ∀ d ∈ tables_1, d.before a0 Z = true) (i : Nat) {d : Jvm.Cond} (h : tables_1[i]? = some d) : d.before a0 Z = true := hw _ (List.mem_of_getElem? h)
theorem own_rem15 (x : Int32) : ((x &&& (2147483647 : Int32)) % (15 : Int32)) = (0 : Int32) ∨ ((x &&& (2147483647 : Int32)) % (15 : Int32)) = (1 : Int32) ∨ ((x &&& (2147483647 : Int32)) % (15 : Int32)) = (2 : Int32) ∨ ((x &&& (2147483647 : Int32)) % (15 : Int32)) = (3 : Int32) ∨ ((x &&& (2147483647 : Int32)) % (15 : Int32)) = (4 : Int32) ∨ ((x &&& (2147483647 : Int32)) % (15 : Int32)) = (5 : Int32) ∨ ((x &&& (2147483647 : Int32)) % (15 : Int32)) = (6 : Int32) ∨ ((x &&& (2147483647 : Int32)) % (15 : Int32)) = (7 : Int32) ∨ ((x &&& (2147483647 : Int32)) % (15 : Int32)) = (8 : Int32) ∨ ((x &&& (2147483647 : Int32)) % (15 : Int32)) = (9 : Int32) ∨ ((x &&& (2147483647 : Int32)) % (15 : Int32)) = (10 : Int32) ∨ ((x &&& (2147483647 : Int32)) % (15 : Int32)) = (11 : Int32) ∨ ((x &&& (2147483647 : Int32)) % (15 : Int32)) = (12 : Int32) ∨ ((x &&& (2147483647 : Int32)) % (15 : Int32)) = (13 : Int32) ∨ ((x &&& (2147483647 : Int32)) % (15 : Int32)) = (14 : Int32) := by
  have e1 : (x &&& (2147483647 : Int32)).toInt = x.toInt % ((2 ^ 31 : Nat) : Int) := c_mask x 2147483647 31 (by decide) (by decide)
  have p : ((2 ^ 31 : Nat) : Int) = 2147483648 := rfl
  rw [p] at e1
  have e : ((x &&& (2147483647 : Int32)) % (15 : Int32)).toInt = (x &&& (2147483647 : Int32)).toInt % 15 := (c_irem (x &&& (2147483647 : Int32)) (15 : Int32) 15 (by decide)).1 (by omega)
  simp only [← Int32.toInt_inj, e]
  have : (0 : Int32).toInt = 0 ∧ (1 : Int32).toInt = 1 ∧ (2 : Int32).toInt = 2 ∧ (3 : Int32).toInt = 3 ∧ (4 : Int32).toInt = 4 ∧ (5 : Int32).toInt = 5 ∧ (6 : Int32).toInt = 6 ∧ (7 : Int32).toInt = 7 ∧ (8 : Int32).toInt = 8 ∧ (9 : Int32).toInt = 9 ∧ (10 : Int32).toInt = 10 ∧ (11 : Int32).toInt = 11 ∧ (12 : Int32).toInt = 12 ∧ (13 : Int32).toInt = 13 ∧ (14 : Int32).toInt = 14 := by decide
  omega
def Glob (Z : State) (w_START_EVENT : Addr) (w_RECEPTION : Addr) (w_MESSAGE_START_EVENT : Addr) (w_MESSAGE_BOUNDARY_EVENT : Addr) (w_TERMINATE_END_EVENT : Addr) (w_LINK_THROW_EVENT : Addr) (w_BOUNDARY_EVENT : Addr) (w_LINK_CATCH_EVENT : Addr) (w_END_EVENT : Addr) (w_EVENT_BASED_GATEWAY : Addr) (w_INCLUSIVE_GATEWAY : Addr) (w_EXCLUSIVE_GATEWAY : Addr) (w_SUB_PROCESS : Addr) (w_ACTIVITY : Addr) (w_PARALLEL_GATEWAY : Addr) : Prop := Sta Z Z.heap "com/example/chorale/chorale/FlowGraph$Kind" "START_EVENT" "Lcom/example/chorale/chorale/FlowGraph$Kind;" (.ref w_START_EVENT) ∧ Exa Z Z.heap w_START_EVENT "com/example/chorale/chorale/FlowGraph$Kind" ∧ Sta Z Z.heap "com/example/chorale/chorale/FlowGraph$Kind" "RECEPTION" "Lcom/example/chorale/chorale/FlowGraph$Kind;" (.ref w_RECEPTION) ∧ Exa Z Z.heap w_RECEPTION "com/example/chorale/chorale/FlowGraph$Kind" ∧ Sta Z Z.heap "com/example/chorale/chorale/FlowGraph$Kind" "MESSAGE_START_EVENT" "Lcom/example/chorale/chorale/FlowGraph$Kind;" (.ref w_MESSAGE_START_EVENT) ∧ Exa Z Z.heap w_MESSAGE_START_EVENT "com/example/chorale/chorale/FlowGraph$Kind" ∧ Sta Z Z.heap "com/example/chorale/chorale/FlowGraph$Kind" "MESSAGE_BOUNDARY_EVENT" "Lcom/example/chorale/chorale/FlowGraph$Kind;" (.ref w_MESSAGE_BOUNDARY_EVENT) ∧ Exa Z Z.heap w_MESSAGE_BOUNDARY_EVENT "com/example/chorale/chorale/FlowGraph$Kind" ∧ Sta Z Z.heap "com/example/chorale/chorale/FlowGraph$Kind" "TERMINATE_END_EVENT" "Lcom/example/chorale/chorale/FlowGraph$Kind;" (.ref w_TERMINATE_END_EVENT) ∧ Exa Z Z.heap w_TERMINATE_END_EVENT "com/example/chorale/chorale/FlowGraph$Kind" ∧ Sta Z Z.heap "com/example/chorale/chorale/FlowGraph$Kind" "LINK_THROW_EVENT" "Lcom/example/chorale/chorale/FlowGraph$Kind;" (.ref w_LINK_THROW_EVENT) ∧ Exa Z Z.heap w_LINK_THROW_EVENT "com/example/chorale/chorale/FlowGraph$Kind" ∧ Sta Z Z.heap "com/example/chorale/chorale/FlowGraph$Kind" "BOUNDARY_EVENT" "Lcom/example/chorale/chorale/FlowGraph$Kind;" (.ref w_BOUNDARY_EVENT) ∧ Exa Z Z.heap w_BOUNDARY_EVENT "com/example/chorale/chorale/FlowGraph$Kind" ∧ Sta Z Z.heap "com/example/chorale/chorale/FlowGraph$Kind" "LINK_CATCH_EVENT" "Lcom/example/chorale/chorale/FlowGraph$Kind;" (.ref w_LINK_CATCH_EVENT) ∧ Exa Z Z.heap w_LINK_CATCH_EVENT "com/example/chorale/chorale/FlowGraph$Kind" ∧ Sta Z Z.heap "com/example/chorale/chorale/FlowGraph$Kind" "END_EVENT" "Lcom/example/chorale/chorale/FlowGraph$Kind;" (.ref w_END_EVENT) ∧ Exa Z Z.heap w_END_EVENT "com/example/chorale/chorale/FlowGraph$Kind" ∧ Sta Z Z.heap "com/example/chorale/chorale/FlowGraph$Kind" "EVENT_BASED_GATEWAY" "Lcom/example/chorale/chorale/FlowGraph$Kind;" (.ref w_EVENT_BASED_GATEWAY) ∧ Exa Z Z.heap w_EVENT_BASED_GATEWAY "com/example/chorale/chorale/FlowGraph$Kind" ∧ Sta Z Z.heap "com/example/chorale/chorale/FlowGraph$Kind" "INCLUSIVE_GATEWAY" "Lcom/example/chorale/chorale/FlowGraph$Kind;" (.ref w_INCLUSIVE_GATEWAY) ∧ Exa Z Z.heap w_INCLUSIVE_GATEWAY "com/example/chorale/chorale/FlowGraph$Kind" ∧ Sta Z Z.heap "com/example/chorale/chorale/FlowGraph$Kind" "EXCLUSIVE_GATEWAY" "Lcom/example/chorale/chorale/FlowGraph$Kind;" (.ref w_EXCLUSIVE_GATEWAY) ∧ Exa Z Z.heap w_EXCLUSIVE_GATEWAY "com/example/chorale/chorale/FlowGraph$Kind" ∧ Sta Z Z.heap "com/example/chorale/chorale/FlowGraph$Kind" "SUB_PROCESS" "Lcom/example/chorale/chorale/FlowGraph$Kind;" (.ref w_SUB_PROCESS) ∧ Exa Z Z.heap w_SUB_PROCESS "com/example/chorale/chorale/FlowGraph$Kind" ∧ Sta Z Z.heap "com/example/chorale/chorale/FlowGraph$Kind" "ACTIVITY" "Lcom/example/chorale/chorale/FlowGraph$Kind;" (.ref w_ACTIVITY) ∧ Exa Z Z.heap w_ACTIVITY "com/example/chorale/chorale/FlowGraph$Kind" ∧ Sta Z Z.heap "com/example/chorale/chorale/FlowGraph$Kind" "PARALLEL_GATEWAY" "Lcom/example/chorale/chorale/FlowGraph$Kind;" (.ref w_PARALLEL_GATEWAY) ∧ Exa Z Z.heap w_PARALLEL_GATEWAY "com/example/chorale/chorale/FlowGraph$Kind" ∧ Fld Z Z.heap w_START_EVENT "java/lang/Enum" "ordinal" "I" (.int (0 : Int32)) ∧ Fld Z Z.heap w_RECEPTION "java/lang/Enum" "ordinal" "I" (.int (7 : Int32)) ∧ Fld Z Z.heap w_MESSAGE_START_EVENT "java/lang/Enum" "ordinal" "I" (.int (1 : Int32)) ∧ Fld Z Z.heap w_MESSAGE_BOUNDARY_EVENT "java/lang/Enum" "ordinal" "I" (.int (14 : Int32)) ∧ Fld Z Z.heap w_TERMINATE_END_EVENT "java/lang/Enum" "ordinal" "I" (.int (3 : Int32)) ∧ Fld Z Z.heap w_LINK_THROW_EVENT "java/lang/Enum" "ordinal" "I" (.int (5 : Int32)) ∧ Fld Z Z.heap w_BOUNDARY_EVENT "java/lang/Enum" "ordinal" "I" (.int (13 : Int32)) ∧ Fld Z Z.heap w_LINK_CATCH_EVENT "java/lang/Enum" "ordinal" "I" (.int (6 : Int32)) ∧ Fld Z Z.heap w_END_EVENT "java/lang/Enum" "ordinal" "I" (.int (2 : Int32)) ∧ Fld Z Z.heap w_EVENT_BASED_GATEWAY "java/lang/Enum" "ordinal" "I" (.int (11 : Int32)) ∧ Fld Z Z.heap w_INCLUSIVE_GATEWAY "java/lang/Enum" "ordinal" "I" (.int (10 : Int32)) ∧ Fld Z Z.heap w_EXCLUSIVE_GATEWAY "java/lang/Enum" "ordinal" "I" (.int (8 : Int32)) ∧ Fld Z Z.heap w_SUB_PROCESS "java/lang/Enum" "ordinal" "I" (.int (12 : Int32)) ∧ Fld Z Z.heap w_ACTIVITY "java/lang/Enum" "ordinal" "I" (.int (4 : Int32)) ∧ Fld Z Z.heap w_PARALLEL_GATEWAY "java/lang/Enum" "ordinal" "I" (.int (9 : Int32))
theorem d1_0 : decode method_2_code 0 = .ok (.iload_n 0, 1) := by decide +kernel
theorem d1_1 : decode method_2_code 1 = .ok (.ifCond .ne 7, 3) := by decide +kernel
theorem d1_4 : decode method_2_code 4 = .ok (.getstatic 7, 3) := by decide +kernel
theorem d1_7 : decode method_2_code 7 = .ok (.areturn, 1) := by decide +kernel
theorem pn_com_example_chorale_chorale_KindReceivesPinLaw : plainName "com/example/chorale/chorale/KindReceivesPinLaw" = true := by first | (simp [plainName, overriddenIn]; done) | decide +kernel
def Q1 (Z : State) (w_START_EVENT : Addr) (w_RECEPTION : Addr) (w_MESSAGE_START_EVENT : Addr) (w_MESSAGE_BOUNDARY_EVENT : Addr) (w_TERMINATE_END_EVENT : Addr) (w_LINK_THROW_EVENT : Addr) (w_BOUNDARY_EVENT : Addr) (w_LINK_CATCH_EVENT : Addr) (w_END_EVENT : Addr) (w_EVENT_BASED_GATEWAY : Addr) (w_INCLUSIVE_GATEWAY : Addr) (w_EXCLUSIVE_GATEWAY : Addr) (w_SUB_PROCESS : Addr) (w_ACTIVITY : Addr) (w_PARALLEL_GATEWAY : Addr)  (h0 : Heap) (n0 : Nat) (v : Option Value) (h : Heap) (L : List Loc) : Prop := v = some (.ref w_START_EVENT) ∧ Fr n0 L ∧ h = h0
theorem ef1 (m : MethodId)  : entryFrame m #[(.int (0 : Int32))] 1 = mkF m 0 #[.val (.int (0 : Int32))] [] := by first | (simp [entryFrame, mkF, argsToLocals, Value.category]; done) | rfl
set_option maxRecDepth 65536 in
set_option maxHeartbeats 40000000 in
theorem rm1 (l : Launch) (Z : State) (a0 : Array Value) (hw : ∀ d ∈ tables_1, d.before a0 Z = true) (ws : List Jvm.Cond) {w_START_EVENT : Addr} {w_RECEPTION : Addr} {w_MESSAGE_START_EVENT : Addr} {w_MESSAGE_BOUNDARY_EVENT : Addr} {w_TERMINATE_END_EVENT : Addr} {w_LINK_THROW_EVENT : Addr} {w_BOUNDARY_EVENT : Addr} {w_LINK_CATCH_EVENT : Addr} {w_END_EVENT : Addr} {w_EVENT_BASED_GATEWAY : Addr} {w_INCLUSIVE_GATEWAY : Addr} {w_EXCLUSIVE_GATEWAY : Addr} {w_SUB_PROCESS : Addr} {w_ACTIVITY : Addr} {w_PARALLEL_GATEWAY : Addr} (G : Glob Z w_START_EVENT w_RECEPTION w_MESSAGE_START_EVENT w_MESSAGE_BOUNDARY_EVENT w_TERMINATE_END_EVENT w_LINK_THROW_EVENT w_BOUNDARY_EVENT w_LINK_CATCH_EVENT w_END_EVENT w_EVENT_BASED_GATEWAY w_INCLUSIVE_GATEWAY w_EXCLUSIVE_GATEWAY w_SUB_PROCESS w_ACTIVITY w_PARALLEL_GATEWAY)  (h0 : Heap) (n0 : Nat) (O0 : Old Z n0 h0) :
    MetFree l (⟨"com/example/chorale/chorale/KindReceivesPinLaw", "kindAt", "(I)Lcom/example/chorale/chorale/FlowGraph$Kind;"⟩ : MethodName) (head1 (Jvm.Cond.code (⟨"com/example/chorale/chorale/KindReceivesPinLaw", "kindAt", "(I)Lcom/example/chorale/chorale/FlowGraph$Kind;"⟩ : MethodName) method_2_code 1 (some (.object "com/example/chorale/chorale/FlowGraph$Kind")) :: ws) ({ frames := 0, cells := 0, slots := 0, locals := 0 } : Room)) (fun a U => a = #[(.int (0 : Int32))] ∧ Z.Warmed39 U.vm ∧ U.heap = h0) (fun _ _ _ _ _ => True) (fun _ U o U' => ∃ v L, o = .returned v ∧ Q1 Z w_START_EVENT w_RECEPTION w_MESSAGE_START_EVENT w_MESSAGE_BOUNDARY_EVENT w_TERMINATE_END_EVENT w_LINK_THROW_EVENT w_BOUNDARY_EVENT w_LINK_CATCH_EVENT w_END_EVENT w_EVENT_BASED_GATEWAY w_INCLUSIVE_GATEWAY w_EXCLUSIVE_GATEWAY w_SUB_PROCESS w_ACTIVITY w_PARALLEL_GATEWAY  h0 n0 v U'.heap L ∧ FrameEnd U o U' L ({ frames := 0, cells := 0, slots := 0, locals := 0 } : Room).cells ({ frames := 0, cells := 0, slots := 0, locals := 0 } : Room).slots) := by
  refine MetFree.of_bodySF (plainFor_of_name pn_com_example_chorale_chorale_KindReceivesPinLaw) hisR ?_
  intro p e s m args below meth c s₁ Bd hml0 hP hK
  obtain ⟨rfl, hZ, hh⟩ := hP
  have hx := Bd.exec
  have hby := Bd.bytes
  have hml : c.maxLocals = 1 := hml0
  have hown : s.vm.findClass "com/example/chorale/chorale/KindReceivesPinLaw" = some m.cls := findClass_of_methodNamed Bd.named
  have hnm := (name_of_methodNamed Bd.named Bd.method).1
  have X0 : Stand p l e ({ frames := 0, cells := 0, slots := 0, locals := 0 } : Room) s m #[(.int (0 : Int32))] below meth c s₁ [] 0 0 := Stand.of_body Bd
  have e0 : s₁.heap = h0 := by rw [← hh, Bd.state]; rfl
  have N0 := Fr.nil n0
  show OGot p.tables e below (s₁.setTop (entryFrame m #[(.int (0 : Int32))] 1)) _
  refine OGot.go (fun t k => castTop (ef1 m ) k) ?_
  show OGot p.tables e below (s₁.setTop (mkF m 0 #[.val (.int (0 : Int32))] [])) _
  refine OGot.go (fun t k => XS.iloadN X0.here hx rfl (hb hby d1_0) rfl k) ?_
  show OGot p.tables e below (s₁.setTop (mkF m 1 #[.val (.int (0 : Int32))] [(.int (0 : Int32))])) _
  refine OGot.go (fun t k => XS.ifNo X0.here hx rfl (hb hby d1_1) rfl (by decide) k) ?_
  show OGot p.tables e below (s₁.setTop (mkF m 4 #[.val (.int (0 : Int32))] [])) _
  obtain ⟨T1, X1, e1, st1⟩ := getS2 X0 hx hZ hown (host := "") (Or.inl (ow hw 6 rfl)) Via.refl e0 (G.1.ext O0.2) (g := (mkF m 4 #[.val (.int (0 : Int32))] [])) rfl (hb hby d1_4)
  refine OGot.go st1 ?_
  show OGot p.tables e below (T1.setTop (mkF m 7 #[.val (.int (0 : Int32))] [(.ref w_START_EVENT)])) _
  obtain ⟨fs, hr, hrun, hended, hW, hsame⟩ := X1.leave (v := some (.ref w_START_EVENT)) (fun h => by rw [Bd.returns] at h; cases h)
  refine ⟨_, _, oretA X1 hx Bd.returns rfl rfl (hb hby d1_7) hr, hrun, hended, _, _, rfl, ?_, ⟨_, rfl⟩, hW, hsame.mono (by decide) (by decide)⟩
  exact (⟨rfl, N0, e1⟩ : Q1 Z w_START_EVENT w_RECEPTION w_MESSAGE_START_EVENT w_MESSAGE_BOUNDARY_EVENT w_TERMINATE_END_EVENT w_LINK_THROW_EVENT w_BOUNDARY_EVENT w_LINK_CATCH_EVENT w_END_EVENT w_EVENT_BASED_GATEWAY w_INCLUSIVE_GATEWAY w_EXCLUSIVE_GATEWAY w_SUB_PROCESS w_ACTIVITY w_PARALLEL_GATEWAY  h0 n0 _ T1.heap _)
theorem pd_0 : parseMethodDescriptor "(I)Lcom/example/chorale/chorale/FlowGraph$Kind;" = some ⟨[.int], some (.object "com/example/chorale/chorale/FlowGraph$Kind")⟩ := by decide +kernel
theorem d2_0 : decode prog_73_method_4_code 0 = .ok (.aload_n 0, 1) := by decide +kernel
theorem d2_1 : decode prog_73_method_4_code 1 = .ok (.getstatic 25, 3) := by decide +kernel
theorem d2_4 : decode prog_73_method_4_code 4 = .ok (.if_acmp .eq 17, 3) := by decide +kernel
theorem d2_7 : decode prog_73_method_4_code 7 = .ok (.aload_n 0, 1) := by decide +kernel
theorem d2_8 : decode prog_73_method_4_code 8 = .ok (.getstatic 7, 3) := by decide +kernel
theorem d2_11 : decode prog_73_method_4_code 11 = .ok (.if_acmp .eq 10, 3) := by decide +kernel
theorem d2_14 : decode prog_73_method_4_code 14 = .ok (.aload_n 0, 1) := by decide +kernel
theorem d2_15 : decode prog_73_method_4_code 15 = .ok (.getstatic 46, 3) := by decide +kernel
theorem d2_18 : decode prog_73_method_4_code 18 = .ok (.if_acmp .ne 7, 3) := by decide +kernel
theorem d2_25 : decode prog_73_method_4_code 25 = .ok (.iconst 0, 1) := by decide +kernel
theorem d2_26 : decode prog_73_method_4_code 26 = .ok (.ireturn, 1) := by decide +kernel
theorem pn_com_example_chorale_chorale_FlowGraph_Kind : plainName "com/example/chorale/chorale/FlowGraph$Kind" = true := by first | (simp [plainName, overriddenIn]; done) | decide +kernel
def Q2 (Z : State) (w_START_EVENT : Addr) (w_RECEPTION : Addr) (w_MESSAGE_START_EVENT : Addr) (w_MESSAGE_BOUNDARY_EVENT : Addr) (w_TERMINATE_END_EVENT : Addr) (w_LINK_THROW_EVENT : Addr) (w_BOUNDARY_EVENT : Addr) (w_LINK_CATCH_EVENT : Addr) (w_END_EVENT : Addr) (w_EVENT_BASED_GATEWAY : Addr) (w_INCLUSIVE_GATEWAY : Addr) (w_EXCLUSIVE_GATEWAY : Addr) (w_SUB_PROCESS : Addr) (w_ACTIVITY : Addr) (w_PARALLEL_GATEWAY : Addr)  (h0 : Heap) (n0 : Nat) (v : Option Value) (h : Heap) (L : List Loc) : Prop := v = some (.int (0 : Int32)) ∧ Fr n0 L ∧ h = h0
theorem ef2 (m : MethodId) (x0 : Addr) : entryFrame m #[(.ref x0)] 1 = mkF m 0 #[.val (.ref x0)] [] := by first | (simp [entryFrame, mkF, argsToLocals, Value.category]; done) | rfl
set_option maxRecDepth 65536 in
set_option maxHeartbeats 40000000 in
theorem rm2 (l : Launch) (Z : State) (a0 : Array Value) (hw : ∀ d ∈ tables_1, d.before a0 Z = true) (ws : List Jvm.Cond) {w_START_EVENT : Addr} {w_RECEPTION : Addr} {w_MESSAGE_START_EVENT : Addr} {w_MESSAGE_BOUNDARY_EVENT : Addr} {w_TERMINATE_END_EVENT : Addr} {w_LINK_THROW_EVENT : Addr} {w_BOUNDARY_EVENT : Addr} {w_LINK_CATCH_EVENT : Addr} {w_END_EVENT : Addr} {w_EVENT_BASED_GATEWAY : Addr} {w_INCLUSIVE_GATEWAY : Addr} {w_EXCLUSIVE_GATEWAY : Addr} {w_SUB_PROCESS : Addr} {w_ACTIVITY : Addr} {w_PARALLEL_GATEWAY : Addr} (G : Glob Z w_START_EVENT w_RECEPTION w_MESSAGE_START_EVENT w_MESSAGE_BOUNDARY_EVENT w_TERMINATE_END_EVENT w_LINK_THROW_EVENT w_BOUNDARY_EVENT w_LINK_CATCH_EVENT w_END_EVENT w_EVENT_BASED_GATEWAY w_INCLUSIVE_GATEWAY w_EXCLUSIVE_GATEWAY w_SUB_PROCESS w_ACTIVITY w_PARALLEL_GATEWAY)  (h0 : Heap) (n0 : Nat) (O0 : Old Z n0 h0) :
    MetFree l (⟨"com/example/chorale/chorale/FlowGraph$Kind", "receives", "()Z"⟩ : MethodName) (head1 (Jvm.Cond.code (⟨"com/example/chorale/chorale/FlowGraph$Kind", "receives", "()Z"⟩ : MethodName) prog_73_method_4_code 1 (some .boolean) :: ws) ({ frames := 0, cells := 0, slots := 0, locals := 0 } : Room)) (fun a U => a = #[(.ref w_START_EVENT)] ∧ Z.Warmed39 U.vm ∧ U.heap = h0) (fun _ _ _ _ _ => True) (fun _ U o U' => ∃ v L, o = .returned v ∧ Q2 Z w_START_EVENT w_RECEPTION w_MESSAGE_START_EVENT w_MESSAGE_BOUNDARY_EVENT w_TERMINATE_END_EVENT w_LINK_THROW_EVENT w_BOUNDARY_EVENT w_LINK_CATCH_EVENT w_END_EVENT w_EVENT_BASED_GATEWAY w_INCLUSIVE_GATEWAY w_EXCLUSIVE_GATEWAY w_SUB_PROCESS w_ACTIVITY w_PARALLEL_GATEWAY  h0 n0 v U'.heap L ∧ FrameEnd U o U' L ({ frames := 0, cells := 0, slots := 0, locals := 0 } : Room).cells ({ frames := 0, cells := 0, slots := 0, locals := 0 } : Room).slots) := by
  refine MetFree.of_bodySF (plainFor_of_name pn_com_example_chorale_chorale_FlowGraph_Kind) hisR ?_
  intro p e s m args below meth c s₁ Bd hml0 hP hK
  obtain ⟨rfl, hZ, hh⟩ := hP
  have hx := Bd.exec
  have hby := Bd.bytes
  have hml : c.maxLocals = 1 := hml0
  have hown : s.vm.findClass "com/example/chorale/chorale/FlowGraph$Kind" = some m.cls := findClass_of_methodNamed Bd.named
  have hnm := (name_of_methodNamed Bd.named Bd.method).1
  have X0 : Stand p l e ({ frames := 0, cells := 0, slots := 0, locals := 0 } : Room) s m #[(.ref w_START_EVENT)] below meth c s₁ [] 0 0 := Stand.of_body Bd
  have e0 : s₁.heap = h0 := by rw [← hh, Bd.state]; rfl
  have N0 := Fr.nil n0
  show OGot p.tables e below (s₁.setTop (entryFrame m #[(.ref w_START_EVENT)] 1)) _
  refine OGot.go (fun t k => castTop (ef2 m w_START_EVENT) k) ?_
  show OGot p.tables e below (s₁.setTop (mkF m 0 #[.val (.ref w_START_EVENT)] [])) _
  refine OGot.go (fun t k => XS.aloadN X0.here hx rfl (hb hby d2_0) rfl rfl k) ?_
  show OGot p.tables e below (s₁.setTop (mkF m 1 #[.val (.ref w_START_EVENT)] [(.ref w_START_EVENT)])) _
  obtain ⟨T2, X2, e2, st2⟩ := getS2 X0 hx hZ hown (host := "") (Or.inl (ow hw 14 rfl)) Via.refl e0 (G.2.2.1.ext O0.2) (g := (mkF m 1 #[.val (.ref w_START_EVENT)] [(.ref w_START_EVENT)])) rfl (hb hby d2_1)
  refine OGot.go st2 ?_
  show OGot p.tables e below (T2.setTop (mkF m 4 #[.val (.ref w_START_EVENT)] [(.ref w_RECEPTION), (.ref w_START_EVENT)])) _
  have ne3 : w_START_EVENT ≠ w_RECEPTION := (Fld.ne G.2.2.2.2.2.2.2.2.2.2.2.2.2.2.2.2.2.2.2.2.2.2.2.2.2.2.2.2.2.2.1 G.2.2.2.2.2.2.2.2.2.2.2.2.2.2.2.2.2.2.2.2.2.2.2.2.2.2.2.2.2.2.2.1 (by decide))
  refine OGot.go (fun t k => Jvm.RoadKit.acmp (g := (mkF m 4 #[.val (.ref w_START_EVENT)] [(.ref w_RECEPTION), (.ref w_START_EVENT)])) X2 hx rfl rfl rfl (pc0 := 4) (pc' := 7) (same := false) rfl (hb hby d2_4) rfl (decide_eq_false fun q => ne3 (Value.ref.inj q)) (by decide) (by decide) k) ?_
  show OGot p.tables e below (T2.setTop (mkF m 7 #[.val (.ref w_START_EVENT)] [])) _
  refine OGot.go (fun t k => XS.aloadN X2.here hx rfl (hb hby d2_7) rfl rfl k) ?_
  show OGot p.tables e below (T2.setTop (mkF m 8 #[.val (.ref w_START_EVENT)] [(.ref w_START_EVENT)])) _
  obtain ⟨T4, X4, e4, st4⟩ := getS2 X2 hx hZ hown (host := "") (Or.inl (ow hw 16 rfl)) Via.refl e2 (G.2.2.2.2.1.ext O0.2) (g := (mkF m 8 #[.val (.ref w_START_EVENT)] [(.ref w_START_EVENT)])) rfl (hb hby d2_8)
  refine OGot.go st4 ?_
  show OGot p.tables e below (T4.setTop (mkF m 11 #[.val (.ref w_START_EVENT)] [(.ref w_MESSAGE_START_EVENT), (.ref w_START_EVENT)])) _
  have ne5 : w_START_EVENT ≠ w_MESSAGE_START_EVENT := (Fld.ne G.2.2.2.2.2.2.2.2.2.2.2.2.2.2.2.2.2.2.2.2.2.2.2.2.2.2.2.2.2.2.1 G.2.2.2.2.2.2.2.2.2.2.2.2.2.2.2.2.2.2.2.2.2.2.2.2.2.2.2.2.2.2.2.2.1 (by decide))
  refine OGot.go (fun t k => Jvm.RoadKit.acmp (g := (mkF m 11 #[.val (.ref w_START_EVENT)] [(.ref w_MESSAGE_START_EVENT), (.ref w_START_EVENT)])) X4 hx rfl rfl rfl (pc0 := 11) (pc' := 14) (same := false) rfl (hb hby d2_11) rfl (decide_eq_false fun q => ne5 (Value.ref.inj q)) (by decide) (by decide) k) ?_
  show OGot p.tables e below (T4.setTop (mkF m 14 #[.val (.ref w_START_EVENT)] [])) _
  refine OGot.go (fun t k => XS.aloadN X4.here hx rfl (hb hby d2_14) rfl rfl k) ?_
  show OGot p.tables e below (T4.setTop (mkF m 15 #[.val (.ref w_START_EVENT)] [(.ref w_START_EVENT)])) _
  obtain ⟨T6, X6, e6, st6⟩ := getS2 X4 hx hZ hown (host := "") (Or.inl (ow hw 18 rfl)) Via.refl e4 (G.2.2.2.2.2.2.1.ext O0.2) (g := (mkF m 15 #[.val (.ref w_START_EVENT)] [(.ref w_START_EVENT)])) rfl (hb hby d2_15)
  refine OGot.go st6 ?_
  show OGot p.tables e below (T6.setTop (mkF m 18 #[.val (.ref w_START_EVENT)] [(.ref w_MESSAGE_BOUNDARY_EVENT), (.ref w_START_EVENT)])) _
  have ne7 : w_START_EVENT ≠ w_MESSAGE_BOUNDARY_EVENT := (Fld.ne G.2.2.2.2.2.2.2.2.2.2.2.2.2.2.2.2.2.2.2.2.2.2.2.2.2.2.2.2.2.2.1 G.2.2.2.2.2.2.2.2.2.2.2.2.2.2.2.2.2.2.2.2.2.2.2.2.2.2.2.2.2.2.2.2.2.1 (by decide))
  refine OGot.go (fun t k => Jvm.RoadKit.acmp (g := (mkF m 18 #[.val (.ref w_START_EVENT)] [(.ref w_MESSAGE_BOUNDARY_EVENT), (.ref w_START_EVENT)])) X6 hx rfl rfl rfl (pc0 := 18) (pc' := 25) (same := false) rfl (hb hby d2_18) rfl (decide_eq_false fun q => ne7 (Value.ref.inj q)) (by decide) (by decide) k) ?_
  show OGot p.tables e below (T6.setTop (mkF m 25 #[.val (.ref w_START_EVENT)] [])) _
  refine OGot.go (fun t k => XS.iconst X6.here hx rfl (hb hby d2_25) k) ?_
  show OGot p.tables e below (T6.setTop (mkF m 26 #[.val (.ref w_START_EVENT)] [(.int (0 : Int32))])) _
  obtain ⟨fs, hr, hrun, hended, hW, hsame⟩ := X6.leave (v := some (.int (0 : Int32))) (fun h => by rw [Bd.returns] at h; cases h)
  refine ⟨_, _, retN X6 hx (t := .boolean) Bd.returns (by simp) (hb hby d2_26) hr, hrun, hended, _, _, rfl, ?_, ⟨_, rfl⟩, hW, hsame.mono (by decide) (by decide)⟩
  exact (⟨rfl, N0, e6⟩ : Q2 Z w_START_EVENT w_RECEPTION w_MESSAGE_START_EVENT w_MESSAGE_BOUNDARY_EVENT w_TERMINATE_END_EVENT w_LINK_THROW_EVENT w_BOUNDARY_EVENT w_LINK_CATCH_EVENT w_END_EVENT w_EVENT_BASED_GATEWAY w_INCLUSIVE_GATEWAY w_EXCLUSIVE_GATEWAY w_SUB_PROCESS w_ACTIVITY w_PARALLEL_GATEWAY  h0 n0 _ T6.heap _)
theorem pd_1 : parseMethodDescriptor "()Z" = some ⟨[], some .boolean⟩ := by decide +kernel
theorem d1_8 : decode method_2_code 8 = .ok (.iload_n 0, 1) := by decide +kernel
theorem d1_9 : decode method_2_code 9 = .ok (.iconst 1, 1) := by decide +kernel
theorem d1_10 : decode method_2_code 10 = .ok (.if_icmp .ne 7, 3) := by decide +kernel
theorem d1_13 : decode method_2_code 13 = .ok (.getstatic 13, 3) := by decide +kernel
theorem d1_16 : decode method_2_code 16 = .ok (.areturn, 1) := by decide +kernel
def Q1_1 (Z : State) (w_START_EVENT : Addr) (w_RECEPTION : Addr) (w_MESSAGE_START_EVENT : Addr) (w_MESSAGE_BOUNDARY_EVENT : Addr) (w_TERMINATE_END_EVENT : Addr) (w_LINK_THROW_EVENT : Addr) (w_BOUNDARY_EVENT : Addr) (w_LINK_CATCH_EVENT : Addr) (w_END_EVENT : Addr) (w_EVENT_BASED_GATEWAY : Addr) (w_INCLUSIVE_GATEWAY : Addr) (w_EXCLUSIVE_GATEWAY : Addr) (w_SUB_PROCESS : Addr) (w_ACTIVITY : Addr) (w_PARALLEL_GATEWAY : Addr)  (h0 : Heap) (n0 : Nat) (v : Option Value) (h : Heap) (L : List Loc) : Prop := v = some (.ref w_MESSAGE_START_EVENT) ∧ Fr n0 L ∧ h = h0
theorem ef1_1 (m : MethodId)  : entryFrame m #[(.int (1 : Int32))] 1 = mkF m 0 #[.val (.int (1 : Int32))] [] := by first | (simp [entryFrame, mkF, argsToLocals, Value.category]; done) | rfl
set_option maxRecDepth 65536 in
set_option maxHeartbeats 40000000 in
theorem rm1_1 (l : Launch) (Z : State) (a0 : Array Value) (hw : ∀ d ∈ tables_1, d.before a0 Z = true) (ws : List Jvm.Cond) {w_START_EVENT : Addr} {w_RECEPTION : Addr} {w_MESSAGE_START_EVENT : Addr} {w_MESSAGE_BOUNDARY_EVENT : Addr} {w_TERMINATE_END_EVENT : Addr} {w_LINK_THROW_EVENT : Addr} {w_BOUNDARY_EVENT : Addr} {w_LINK_CATCH_EVENT : Addr} {w_END_EVENT : Addr} {w_EVENT_BASED_GATEWAY : Addr} {w_INCLUSIVE_GATEWAY : Addr} {w_EXCLUSIVE_GATEWAY : Addr} {w_SUB_PROCESS : Addr} {w_ACTIVITY : Addr} {w_PARALLEL_GATEWAY : Addr} (G : Glob Z w_START_EVENT w_RECEPTION w_MESSAGE_START_EVENT w_MESSAGE_BOUNDARY_EVENT w_TERMINATE_END_EVENT w_LINK_THROW_EVENT w_BOUNDARY_EVENT w_LINK_CATCH_EVENT w_END_EVENT w_EVENT_BASED_GATEWAY w_INCLUSIVE_GATEWAY w_EXCLUSIVE_GATEWAY w_SUB_PROCESS w_ACTIVITY w_PARALLEL_GATEWAY)  (h0 : Heap) (n0 : Nat) (O0 : Old Z n0 h0) :
    MetFree l (⟨"com/example/chorale/chorale/KindReceivesPinLaw", "kindAt", "(I)Lcom/example/chorale/chorale/FlowGraph$Kind;"⟩ : MethodName) (head1 (Jvm.Cond.code (⟨"com/example/chorale/chorale/KindReceivesPinLaw", "kindAt", "(I)Lcom/example/chorale/chorale/FlowGraph$Kind;"⟩ : MethodName) method_2_code 1 (some (.object "com/example/chorale/chorale/FlowGraph$Kind")) :: ws) ({ frames := 0, cells := 0, slots := 0, locals := 0 } : Room)) (fun a U => a = #[(.int (1 : Int32))] ∧ Z.Warmed39 U.vm ∧ U.heap = h0) (fun _ _ _ _ _ => True) (fun _ U o U' => ∃ v L, o = .returned v ∧ Q1_1 Z w_START_EVENT w_RECEPTION w_MESSAGE_START_EVENT w_MESSAGE_BOUNDARY_EVENT w_TERMINATE_END_EVENT w_LINK_THROW_EVENT w_BOUNDARY_EVENT w_LINK_CATCH_EVENT w_END_EVENT w_EVENT_BASED_GATEWAY w_INCLUSIVE_GATEWAY w_EXCLUSIVE_GATEWAY w_SUB_PROCESS w_ACTIVITY w_PARALLEL_GATEWAY  h0 n0 v U'.heap L ∧ FrameEnd U o U' L ({ frames := 0, cells := 0, slots := 0, locals := 0 } : Room).cells ({ frames := 0, cells := 0, slots := 0, locals := 0 } : Room).slots) := by
  refine MetFree.of_bodySF (plainFor_of_name pn_com_example_chorale_chorale_KindReceivesPinLaw) hisR ?_
  intro p e s m args below meth c s₁ Bd hml0 hP hK
  obtain ⟨rfl, hZ, hh⟩ := hP
  have hx := Bd.exec
  have hby := Bd.bytes
  have hml : c.maxLocals = 1 := hml0
  have hown : s.vm.findClass "com/example/chorale/chorale/KindReceivesPinLaw" = some m.cls := findClass_of_methodNamed Bd.named
  have hnm := (name_of_methodNamed Bd.named Bd.method).1
  have X0 : Stand p l e ({ frames := 0, cells := 0, slots := 0, locals := 0 } : Room) s m #[(.int (1 : Int32))] below meth c s₁ [] 0 0 := Stand.of_body Bd
  have e0 : s₁.heap = h0 := by rw [← hh, Bd.state]; rfl
  have N0 := Fr.nil n0
  show OGot p.tables e below (s₁.setTop (entryFrame m #[(.int (1 : Int32))] 1)) _
  refine OGot.go (fun t k => castTop (ef1_1 m ) k) ?_
  show OGot p.tables e below (s₁.setTop (mkF m 0 #[.val (.int (1 : Int32))] [])) _
  refine OGot.go (fun t k => XS.iloadN X0.here hx rfl (hb hby d1_0) rfl k) ?_
  show OGot p.tables e below (s₁.setTop (mkF m 1 #[.val (.int (1 : Int32))] [(.int (1 : Int32))])) _
  refine OGot.go (fun t k => XS.ifYes X0.here hx rfl (pc0 := 1) (pc' := 8) rfl (hb hby d1_1) rfl (by decide) (by decide) (by decide) k) ?_
  show OGot p.tables e below (s₁.setTop (mkF m 8 #[.val (.int (1 : Int32))] [])) _
  refine OGot.go (fun t k => XS.iloadN X0.here hx rfl (hb hby d1_8) rfl k) ?_
  show OGot p.tables e below (s₁.setTop (mkF m 9 #[.val (.int (1 : Int32))] [(.int (1 : Int32))])) _
  refine OGot.go (fun t k => XS.iconst X0.here hx rfl (hb hby d1_9) k) ?_
  show OGot p.tables e below (s₁.setTop (mkF m 10 #[.val (.int (1 : Int32))] [(.int (1 : Int32)), (.int (1 : Int32))])) _
  refine OGot.go (fun t k => XS.icmpNo X0.here hx rfl (hb hby d1_10) rfl (by decide) k) ?_
  show OGot p.tables e below (s₁.setTop (mkF m 13 #[.val (.int (1 : Int32))] [])) _
  obtain ⟨T1, X1, e1, st1⟩ := getS2 X0 hx hZ hown (host := "") (Or.inl (ow hw 38 rfl)) Via.refl e0 (G.2.2.2.2.1.ext O0.2) (g := (mkF m 13 #[.val (.int (1 : Int32))] [])) rfl (hb hby d1_13)
  refine OGot.go st1 ?_
  show OGot p.tables e below (T1.setTop (mkF m 16 #[.val (.int (1 : Int32))] [(.ref w_MESSAGE_START_EVENT)])) _
  obtain ⟨fs, hr, hrun, hended, hW, hsame⟩ := X1.leave (v := some (.ref w_MESSAGE_START_EVENT)) (fun h => by rw [Bd.returns] at h; cases h)
  refine ⟨_, _, oretA X1 hx Bd.returns rfl rfl (hb hby d1_16) hr, hrun, hended, _, _, rfl, ?_, ⟨_, rfl⟩, hW, hsame.mono (by decide) (by decide)⟩
  exact (⟨rfl, N0, e1⟩ : Q1_1 Z w_START_EVENT w_RECEPTION w_MESSAGE_START_EVENT w_MESSAGE_BOUNDARY_EVENT w_TERMINATE_END_EVENT w_LINK_THROW_EVENT w_BOUNDARY_EVENT w_LINK_CATCH_EVENT w_END_EVENT w_EVENT_BASED_GATEWAY w_INCLUSIVE_GATEWAY w_EXCLUSIVE_GATEWAY w_SUB_PROCESS w_ACTIVITY w_PARALLEL_GATEWAY  h0 n0 _ T1.heap _)
theorem d2_21 : decode prog_73_method_4_code 21 = .ok (.iconst 1, 1) := by decide +kernel
theorem d2_22 : decode prog_73_method_4_code 22 = .ok (.goto 4, 3) := by decide +kernel
def Q2_1 (Z : State) (w_START_EVENT : Addr) (w_RECEPTION : Addr) (w_MESSAGE_START_EVENT : Addr) (w_MESSAGE_BOUNDARY_EVENT : Addr) (w_TERMINATE_END_EVENT : Addr) (w_LINK_THROW_EVENT : Addr) (w_BOUNDARY_EVENT : Addr) (w_LINK_CATCH_EVENT : Addr) (w_END_EVENT : Addr) (w_EVENT_BASED_GATEWAY : Addr) (w_INCLUSIVE_GATEWAY : Addr) (w_EXCLUSIVE_GATEWAY : Addr) (w_SUB_PROCESS : Addr) (w_ACTIVITY : Addr) (w_PARALLEL_GATEWAY : Addr)  (h0 : Heap) (n0 : Nat) (v : Option Value) (h : Heap) (L : List Loc) : Prop := v = some (.int (1 : Int32)) ∧ Fr n0 L ∧ h = h0
theorem ef2_1 (m : MethodId) (x0 : Addr) : entryFrame m #[(.ref x0)] 1 = mkF m 0 #[.val (.ref x0)] [] := by first | (simp [entryFrame, mkF, argsToLocals, Value.category]; done) | rfl
set_option maxRecDepth 65536 in
set_option maxHeartbeats 40000000 in
theorem rm2_1 (l : Launch) (Z : State) (a0 : Array Value) (hw : ∀ d ∈ tables_1, d.before a0 Z = true) (ws : List Jvm.Cond) {w_START_EVENT : Addr} {w_RECEPTION : Addr} {w_MESSAGE_START_EVENT : Addr} {w_MESSAGE_BOUNDARY_EVENT : Addr} {w_TERMINATE_END_EVENT : Addr} {w_LINK_THROW_EVENT : Addr} {w_BOUNDARY_EVENT : Addr} {w_LINK_CATCH_EVENT : Addr} {w_END_EVENT : Addr} {w_EVENT_BASED_GATEWAY : Addr} {w_INCLUSIVE_GATEWAY : Addr} {w_EXCLUSIVE_GATEWAY : Addr} {w_SUB_PROCESS : Addr} {w_ACTIVITY : Addr} {w_PARALLEL_GATEWAY : Addr} (G : Glob Z w_START_EVENT w_RECEPTION w_MESSAGE_START_EVENT w_MESSAGE_BOUNDARY_EVENT w_TERMINATE_END_EVENT w_LINK_THROW_EVENT w_BOUNDARY_EVENT w_LINK_CATCH_EVENT w_END_EVENT w_EVENT_BASED_GATEWAY w_INCLUSIVE_GATEWAY w_EXCLUSIVE_GATEWAY w_SUB_PROCESS w_ACTIVITY w_PARALLEL_GATEWAY)  (h0 : Heap) (n0 : Nat) (O0 : Old Z n0 h0) :
    MetFree l (⟨"com/example/chorale/chorale/FlowGraph$Kind", "receives", "()Z"⟩ : MethodName) (head1 (Jvm.Cond.code (⟨"com/example/chorale/chorale/FlowGraph$Kind", "receives", "()Z"⟩ : MethodName) prog_73_method_4_code 1 (some .boolean) :: ws) ({ frames := 0, cells := 0, slots := 0, locals := 0 } : Room)) (fun a U => a = #[(.ref w_MESSAGE_START_EVENT)] ∧ Z.Warmed39 U.vm ∧ U.heap = h0) (fun _ _ _ _ _ => True) (fun _ U o U' => ∃ v L, o = .returned v ∧ Q2_1 Z w_START_EVENT w_RECEPTION w_MESSAGE_START_EVENT w_MESSAGE_BOUNDARY_EVENT w_TERMINATE_END_EVENT w_LINK_THROW_EVENT w_BOUNDARY_EVENT w_LINK_CATCH_EVENT w_END_EVENT w_EVENT_BASED_GATEWAY w_INCLUSIVE_GATEWAY w_EXCLUSIVE_GATEWAY w_SUB_PROCESS w_ACTIVITY w_PARALLEL_GATEWAY  h0 n0 v U'.heap L ∧ FrameEnd U o U' L ({ frames := 0, cells := 0, slots := 0, locals := 0 } : Room).cells ({ frames := 0, cells := 0, slots := 0, locals := 0 } : Room).slots) := by
  refine MetFree.of_bodySF (plainFor_of_name pn_com_example_chorale_chorale_FlowGraph_Kind) hisR ?_
  intro p e s m args below meth c s₁ Bd hml0 hP hK
  obtain ⟨rfl, hZ, hh⟩ := hP
  have hx := Bd.exec
  have hby := Bd.bytes
  have hml : c.maxLocals = 1 := hml0
  have hown : s.vm.findClass "com/example/chorale/chorale/FlowGraph$Kind" = some m.cls := findClass_of_methodNamed Bd.named
  have hnm := (name_of_methodNamed Bd.named Bd.method).1
  have X0 : Stand p l e ({ frames := 0, cells := 0, slots := 0, locals := 0 } : Room) s m #[(.ref w_MESSAGE_START_EVENT)] below meth c s₁ [] 0 0 := Stand.of_body Bd
  have e0 : s₁.heap = h0 := by rw [← hh, Bd.state]; rfl
  have N0 := Fr.nil n0
  show OGot p.tables e below (s₁.setTop (entryFrame m #[(.ref w_MESSAGE_START_EVENT)] 1)) _
  refine OGot.go (fun t k => castTop (ef2_1 m w_MESSAGE_START_EVENT) k) ?_
  show OGot p.tables e below (s₁.setTop (mkF m 0 #[.val (.ref w_MESSAGE_START_EVENT)] [])) _
  refine OGot.go (fun t k => XS.aloadN X0.here hx rfl (hb hby d2_0) rfl rfl k) ?_
  show OGot p.tables e below (s₁.setTop (mkF m 1 #[.val (.ref w_MESSAGE_START_EVENT)] [(.ref w_MESSAGE_START_EVENT)])) _
  obtain ⟨T2, X2, e2, st2⟩ := getS2 X0 hx hZ hown (host := "") (Or.inl (ow hw 14 rfl)) Via.refl e0 (G.2.2.1.ext O0.2) (g := (mkF m 1 #[.val (.ref w_MESSAGE_START_EVENT)] [(.ref w_MESSAGE_START_EVENT)])) rfl (hb hby d2_1)
  refine OGot.go st2 ?_
  show OGot p.tables e below (T2.setTop (mkF m 4 #[.val (.ref w_MESSAGE_START_EVENT)] [(.ref w_RECEPTION), (.ref w_MESSAGE_START_EVENT)])) _
  have ne3 : w_MESSAGE_START_EVENT ≠ w_RECEPTION := (Fld.ne G.2.2.2.2.2.2.2.2.2.2.2.2.2.2.2.2.2.2.2.2.2.2.2.2.2.2.2.2.2.2.2.2.1 G.2.2.2.2.2.2.2.2.2.2.2.2.2.2.2.2.2.2.2.2.2.2.2.2.2.2.2.2.2.2.2.1 (by decide))
  refine OGot.go (fun t k => Jvm.RoadKit.acmp (g := (mkF m 4 #[.val (.ref w_MESSAGE_START_EVENT)] [(.ref w_RECEPTION), (.ref w_MESSAGE_START_EVENT)])) X2 hx rfl rfl rfl (pc0 := 4) (pc' := 7) (same := false) rfl (hb hby d2_4) rfl (decide_eq_false fun q => ne3 (Value.ref.inj q)) (by decide) (by decide) k) ?_
  show OGot p.tables e below (T2.setTop (mkF m 7 #[.val (.ref w_MESSAGE_START_EVENT)] [])) _
  refine OGot.go (fun t k => XS.aloadN X2.here hx rfl (hb hby d2_7) rfl rfl k) ?_
  show OGot p.tables e below (T2.setTop (mkF m 8 #[.val (.ref w_MESSAGE_START_EVENT)] [(.ref w_MESSAGE_START_EVENT)])) _
  obtain ⟨T4, X4, e4, st4⟩ := getS2 X2 hx hZ hown (host := "") (Or.inl (ow hw 16 rfl)) Via.refl e2 (G.2.2.2.2.1.ext O0.2) (g := (mkF m 8 #[.val (.ref w_MESSAGE_START_EVENT)] [(.ref w_MESSAGE_START_EVENT)])) rfl (hb hby d2_8)
  refine OGot.go st4 ?_
  show OGot p.tables e below (T4.setTop (mkF m 11 #[.val (.ref w_MESSAGE_START_EVENT)] [(.ref w_MESSAGE_START_EVENT), (.ref w_MESSAGE_START_EVENT)])) _
  refine OGot.go (fun t k => Jvm.RoadKit.acmp (g := (mkF m 11 #[.val (.ref w_MESSAGE_START_EVENT)] [(.ref w_MESSAGE_START_EVENT), (.ref w_MESSAGE_START_EVENT)])) X4 hx rfl rfl rfl (pc0 := 11) (pc' := 21) (same := true) rfl (hb hby d2_11) rfl (decide_eq_true rfl) (by decide) (by decide) k) ?_
  show OGot p.tables e below (T4.setTop (mkF m 21 #[.val (.ref w_MESSAGE_START_EVENT)] [])) _
  refine OGot.go (fun t k => XS.iconst X4.here hx rfl (hb hby d2_21) k) ?_
  show OGot p.tables e below (T4.setTop (mkF m 22 #[.val (.ref w_MESSAGE_START_EVENT)] [(.int (1 : Int32))])) _
  refine OGot.go (fun t k => XS.goto X4.here hx rfl (pc0 := 22) (pc' := 26) rfl (hb hby d2_22) (by decide) (by decide) k) ?_
  show OGot p.tables e below (T4.setTop (mkF m 26 #[.val (.ref w_MESSAGE_START_EVENT)] [(.int (1 : Int32))])) _
  obtain ⟨fs, hr, hrun, hended, hW, hsame⟩ := X4.leave (v := some (.int (1 : Int32))) (fun h => by rw [Bd.returns] at h; cases h)
  refine ⟨_, _, retN X4 hx (t := .boolean) Bd.returns (by simp) (hb hby d2_26) hr, hrun, hended, _, _, rfl, ?_, ⟨_, rfl⟩, hW, hsame.mono (by decide) (by decide)⟩
  exact (⟨rfl, N0, e4⟩ : Q2_1 Z w_START_EVENT w_RECEPTION w_MESSAGE_START_EVENT w_MESSAGE_BOUNDARY_EVENT w_TERMINATE_END_EVENT w_LINK_THROW_EVENT w_BOUNDARY_EVENT w_LINK_CATCH_EVENT w_END_EVENT w_EVENT_BASED_GATEWAY w_INCLUSIVE_GATEWAY w_EXCLUSIVE_GATEWAY w_SUB_PROCESS w_ACTIVITY w_PARALLEL_GATEWAY  h0 n0 _ T4.heap _)
theorem d1_17 : decode method_2_code 17 = .ok (.iload_n 0, 1) := by decide +kernel
theorem d1_18 : decode method_2_code 18 = .ok (.iconst 2, 1) := by decide +kernel
theorem d1_19 : decode method_2_code 19 = .ok (.if_icmp .ne 7, 3) := by decide +kernel
theorem d1_22 : decode method_2_code 22 = .ok (.getstatic 16, 3) := by decide +kernel
theorem d1_25 : decode method_2_code 25 = .ok (.areturn, 1) := by decide +kernel
def Q1_2 (Z : State) (w_START_EVENT : Addr) (w_RECEPTION : Addr) (w_MESSAGE_START_EVENT : Addr) (w_MESSAGE_BOUNDARY_EVENT : Addr) (w_TERMINATE_END_EVENT : Addr) (w_LINK_THROW_EVENT : Addr) (w_BOUNDARY_EVENT : Addr) (w_LINK_CATCH_EVENT : Addr) (w_END_EVENT : Addr) (w_EVENT_BASED_GATEWAY : Addr) (w_INCLUSIVE_GATEWAY : Addr) (w_EXCLUSIVE_GATEWAY : Addr) (w_SUB_PROCESS : Addr) (w_ACTIVITY : Addr) (w_PARALLEL_GATEWAY : Addr)  (h0 : Heap) (n0 : Nat) (v : Option Value) (h : Heap) (L : List Loc) : Prop := v = some (.ref w_END_EVENT) ∧ Fr n0 L ∧ h = h0
theorem ef1_2 (m : MethodId)  : entryFrame m #[(.int (2 : Int32))] 1 = mkF m 0 #[.val (.int (2 : Int32))] [] := by first | (simp [entryFrame, mkF, argsToLocals, Value.category]; done) | rfl
set_option maxRecDepth 65536 in
set_option maxHeartbeats 40000000 in
theorem rm1_2 (l : Launch) (Z : State) (a0 : Array Value) (hw : ∀ d ∈ tables_1, d.before a0 Z = true) (ws : List Jvm.Cond) {w_START_EVENT : Addr} {w_RECEPTION : Addr} {w_MESSAGE_START_EVENT : Addr} {w_MESSAGE_BOUNDARY_EVENT : Addr} {w_TERMINATE_END_EVENT : Addr} {w_LINK_THROW_EVENT : Addr} {w_BOUNDARY_EVENT : Addr} {w_LINK_CATCH_EVENT : Addr} {w_END_EVENT : Addr} {w_EVENT_BASED_GATEWAY : Addr} {w_INCLUSIVE_GATEWAY : Addr} {w_EXCLUSIVE_GATEWAY : Addr} {w_SUB_PROCESS : Addr} {w_ACTIVITY : Addr} {w_PARALLEL_GATEWAY : Addr} (G : Glob Z w_START_EVENT w_RECEPTION w_MESSAGE_START_EVENT w_MESSAGE_BOUNDARY_EVENT w_TERMINATE_END_EVENT w_LINK_THROW_EVENT w_BOUNDARY_EVENT w_LINK_CATCH_EVENT w_END_EVENT w_EVENT_BASED_GATEWAY w_INCLUSIVE_GATEWAY w_EXCLUSIVE_GATEWAY w_SUB_PROCESS w_ACTIVITY w_PARALLEL_GATEWAY)  (h0 : Heap) (n0 : Nat) (O0 : Old Z n0 h0) :
    MetFree l (⟨"com/example/chorale/chorale/KindReceivesPinLaw", "kindAt", "(I)Lcom/example/chorale/chorale/FlowGraph$Kind;"⟩ : MethodName) (head1 (Jvm.Cond.code (⟨"com/example/chorale/chorale/KindReceivesPinLaw", "kindAt", "(I)Lcom/example/chorale/chorale/FlowGraph$Kind;"⟩ : MethodName) method_2_code 1 (some (.object "com/example/chorale/chorale/FlowGraph$Kind")) :: ws) ({ frames := 0, cells := 0, slots := 0, locals := 0 } : Room)) (fun a U => a = #[(.int (2 : Int32))] ∧ Z.Warmed39 U.vm ∧ U.heap = h0) (fun _ _ _ _ _ => True) (fun _ U o U' => ∃ v L, o = .returned v ∧ Q1_2 Z w_START_EVENT w_RECEPTION w_MESSAGE_START_EVENT w_MESSAGE_BOUNDARY_EVENT w_TERMINATE_END_EVENT w_LINK_THROW_EVENT w_BOUNDARY_EVENT w_LINK_CATCH_EVENT w_END_EVENT w_EVENT_BASED_GATEWAY w_INCLUSIVE_GATEWAY w_EXCLUSIVE_GATEWAY w_SUB_PROCESS w_ACTIVITY w_PARALLEL_GATEWAY  h0 n0 v U'.heap L ∧ FrameEnd U o U' L ({ frames := 0, cells := 0, slots := 0, locals := 0 } : Room).cells ({ frames := 0, cells := 0, slots := 0, locals := 0 } : Room).slots) := by
  refine MetFree.of_bodySF (plainFor_of_name pn_com_example_chorale_chorale_KindReceivesPinLaw) hisR ?_
  intro p e s m args below meth c s₁ Bd hml0 hP hK
  obtain ⟨rfl, hZ, hh⟩ := hP
  have hx := Bd.exec
  have hby := Bd.bytes
  have hml : c.maxLocals = 1 := hml0
  have hown : s.vm.findClass "com/example/chorale/chorale/KindReceivesPinLaw" = some m.cls := findClass_of_methodNamed Bd.named
  have hnm := (name_of_methodNamed Bd.named Bd.method).1
  have X0 : Stand p l e ({ frames := 0, cells := 0, slots := 0, locals := 0 } : Room) s m #[(.int (2 : Int32))] below meth c s₁ [] 0 0 := Stand.of_body Bd
  have e0 : s₁.heap = h0 := by rw [← hh, Bd.state]; rfl
  have N0 := Fr.nil n0
  show OGot p.tables e below (s₁.setTop (entryFrame m #[(.int (2 : Int32))] 1)) _
  refine OGot.go (fun t k => castTop (ef1_2 m ) k) ?_
  show OGot p.tables e below (s₁.setTop (mkF m 0 #[.val (.int (2 : Int32))] [])) _
  refine OGot.go (fun t k => XS.iloadN X0.here hx rfl (hb hby d1_0) rfl k) ?_
  show OGot p.tables e below (s₁.setTop (mkF m 1 #[.val (.int (2 : Int32))] [(.int (2 : Int32))])) _
  refine OGot.go (fun t k => XS.ifYes X0.here hx rfl (pc0 := 1) (pc' := 8) rfl (hb hby d1_1) rfl (by decide) (by decide) (by decide) k) ?_
  show OGot p.tables e below (s₁.setTop (mkF m 8 #[.val (.int (2 : Int32))] [])) _
  refine OGot.go (fun t k => XS.iloadN X0.here hx rfl (hb hby d1_8) rfl k) ?_
  show OGot p.tables e below (s₁.setTop (mkF m 9 #[.val (.int (2 : Int32))] [(.int (2 : Int32))])) _
  refine OGot.go (fun t k => XS.iconst X0.here hx rfl (hb hby d1_9) k) ?_
  show OGot p.tables e below (s₁.setTop (mkF m 10 #[.val (.int (2 : Int32))] [(.int (1 : Int32)), (.int (2 : Int32))])) _
  refine OGot.go (fun t k => XS.icmpYes X0.here hx rfl (pc0 := 10) (pc' := 17) rfl (hb hby d1_10) rfl (by decide) (by decide) (by decide) k) ?_
  show OGot p.tables e below (s₁.setTop (mkF m 17 #[.val (.int (2 : Int32))] [])) _
  refine OGot.go (fun t k => XS.iloadN X0.here hx rfl (hb hby d1_17) rfl k) ?_
  show OGot p.tables e below (s₁.setTop (mkF m 18 #[.val (.int (2 : Int32))] [(.int (2 : Int32))])) _
  refine OGot.go (fun t k => XS.iconst X0.here hx rfl (hb hby d1_18) k) ?_
  show OGot p.tables e below (s₁.setTop (mkF m 19 #[.val (.int (2 : Int32))] [(.int (2 : Int32)), (.int (2 : Int32))])) _
  refine OGot.go (fun t k => XS.icmpNo X0.here hx rfl (hb hby d1_19) rfl (by decide) k) ?_
  show OGot p.tables e below (s₁.setTop (mkF m 22 #[.val (.int (2 : Int32))] [])) _
  obtain ⟨T1, X1, e1, st1⟩ := getS2 X0 hx hZ hown (host := "") (Or.inl (ow hw 30 rfl)) Via.refl e0 (G.2.2.2.2.2.2.2.2.2.2.2.2.2.2.2.2.1.ext O0.2) (g := (mkF m 22 #[.val (.int (2 : Int32))] [])) rfl (hb hby d1_22)
  refine OGot.go st1 ?_
  show OGot p.tables e below (T1.setTop (mkF m 25 #[.val (.int (2 : Int32))] [(.ref w_END_EVENT)])) _
  obtain ⟨fs, hr, hrun, hended, hW, hsame⟩ := X1.leave (v := some (.ref w_END_EVENT)) (fun h => by rw [Bd.returns] at h; cases h)
  refine ⟨_, _, oretA X1 hx Bd.returns rfl rfl (hb hby d1_25) hr, hrun, hended, _, _, rfl, ?_, ⟨_, rfl⟩, hW, hsame.mono (by decide) (by decide)⟩
  exact (⟨rfl, N0, e1⟩ : Q1_2 Z w_START_EVENT w_RECEPTION w_MESSAGE_START_EVENT w_MESSAGE_BOUNDARY_EVENT w_TERMINATE_END_EVENT w_LINK_THROW_EVENT w_BOUNDARY_EVENT w_LINK_CATCH_EVENT w_END_EVENT w_EVENT_BASED_GATEWAY w_INCLUSIVE_GATEWAY w_EXCLUSIVE_GATEWAY w_SUB_PROCESS w_ACTIVITY w_PARALLEL_GATEWAY  h0 n0 _ T1.heap _)
def Q2_2 (Z : State) (w_START_EVENT : Addr) (w_RECEPTION : Addr) (w_MESSAGE_START_EVENT : Addr) (w_MESSAGE_BOUNDARY_EVENT : Addr) (w_TERMINATE_END_EVENT : Addr) (w_LINK_THROW_EVENT : Addr) (w_BOUNDARY_EVENT : Addr) (w_LINK_CATCH_EVENT : Addr) (w_END_EVENT : Addr) (w_EVENT_BASED_GATEWAY : Addr) (w_INCLUSIVE_GATEWAY : Addr) (w_EXCLUSIVE_GATEWAY : Addr) (w_SUB_PROCESS : Addr) (w_ACTIVITY : Addr) (w_PARALLEL_GATEWAY : Addr)  (h0 : Heap) (n0 : Nat) (v : Option Value) (h : Heap) (L : List Loc) : Prop := v = some (.int (0 : Int32)) ∧ Fr n0 L ∧ h = h0
theorem ef2_2 (m : MethodId) (x0 : Addr) : entryFrame m #[(.ref x0)] 1 = mkF m 0 #[.val (.ref x0)] [] := by first | (simp [entryFrame, mkF, argsToLocals, Value.category]; done) | rfl
set_option maxRecDepth 65536 in
set_option maxHeartbeats 40000000 in
theorem rm2_2 (l : Launch) (Z : State) (a0 : Array Value) (hw : ∀ d ∈ tables_1, d.before a0 Z = true) (ws : List Jvm.Cond) {w_START_EVENT : Addr} {w_RECEPTION : Addr} {w_MESSAGE_START_EVENT : Addr} {w_MESSAGE_BOUNDARY_EVENT : Addr} {w_TERMINATE_END_EVENT : Addr} {w_LINK_THROW_EVENT : Addr} {w_BOUNDARY_EVENT : Addr} {w_LINK_CATCH_EVENT : Addr} {w_END_EVENT : Addr} {w_EVENT_BASED_GATEWAY : Addr} {w_INCLUSIVE_GATEWAY : Addr} {w_EXCLUSIVE_GATEWAY : Addr} {w_SUB_PROCESS : Addr} {w_ACTIVITY : Addr} {w_PARALLEL_GATEWAY : Addr} (G : Glob Z w_START_EVENT w_RECEPTION w_MESSAGE_START_EVENT w_MESSAGE_BOUNDARY_EVENT w_TERMINATE_END_EVENT w_LINK_THROW_EVENT w_BOUNDARY_EVENT w_LINK_CATCH_EVENT w_END_EVENT w_EVENT_BASED_GATEWAY w_INCLUSIVE_GATEWAY w_EXCLUSIVE_GATEWAY w_SUB_PROCESS w_ACTIVITY w_PARALLEL_GATEWAY)  (h0 : Heap) (n0 : Nat) (O0 : Old Z n0 h0) :
    MetFree l (⟨"com/example/chorale/chorale/FlowGraph$Kind", "receives", "()Z"⟩ : MethodName) (head1 (Jvm.Cond.code (⟨"com/example/chorale/chorale/FlowGraph$Kind", "receives", "()Z"⟩ : MethodName) prog_73_method_4_code 1 (some .boolean) :: ws) ({ frames := 0, cells := 0, slots := 0, locals := 0 } : Room)) (fun a U => a = #[(.ref w_END_EVENT)] ∧ Z.Warmed39 U.vm ∧ U.heap = h0) (fun _ _ _ _ _ => True) (fun _ U o U' => ∃ v L, o = .returned v ∧ Q2_2 Z w_START_EVENT w_RECEPTION w_MESSAGE_START_EVENT w_MESSAGE_BOUNDARY_EVENT w_TERMINATE_END_EVENT w_LINK_THROW_EVENT w_BOUNDARY_EVENT w_LINK_CATCH_EVENT w_END_EVENT w_EVENT_BASED_GATEWAY w_INCLUSIVE_GATEWAY w_EXCLUSIVE_GATEWAY w_SUB_PROCESS w_ACTIVITY w_PARALLEL_GATEWAY  h0 n0 v U'.heap L ∧ FrameEnd U o U' L ({ frames := 0, cells := 0, slots := 0, locals := 0 } : Room).cells ({ frames := 0, cells := 0, slots := 0, locals := 0 } : Room).slots) := by
  refine MetFree.of_bodySF (plainFor_of_name pn_com_example_chorale_chorale_FlowGraph_Kind) hisR ?_
  intro p e s m args below meth c s₁ Bd hml0 hP hK
  obtain ⟨rfl, hZ, hh⟩ := hP
  have hx := Bd.exec
  have hby := Bd.bytes
  have hml : c.maxLocals = 1 := hml0
  have hown : s.vm.findClass "com/example/chorale/chorale/FlowGraph$Kind" = some m.cls := findClass_of_methodNamed Bd.named
  have hnm := (name_of_methodNamed Bd.named Bd.method).1
  have X0 : Stand p l e ({ frames := 0, cells := 0, slots := 0, locals := 0 } : Room) s m #[(.ref w_END_EVENT)] below meth c s₁ [] 0 0 := Stand.of_body Bd
  have e0 : s₁.heap = h0 := by rw [← hh, Bd.state]; rfl
  have N0 := Fr.nil n0
  show OGot p.tables e below (s₁.setTop (entryFrame m #[(.ref w_END_EVENT)] 1)) _
  refine OGot.go (fun t k => castTop (ef2_2 m w_END_EVENT) k) ?_
  show OGot p.tables e below (s₁.setTop (mkF m 0 #[.val (.ref w_END_EVENT)] [])) _
  refine OGot.go (fun t k => XS.aloadN X0.here hx rfl (hb hby d2_0) rfl rfl k) ?_
  show OGot p.tables e below (s₁.setTop (mkF m 1 #[.val (.ref w_END_EVENT)] [(.ref w_END_EVENT)])) _
  obtain ⟨T2, X2, e2, st2⟩ := getS2 X0 hx hZ hown (host := "") (Or.inl (ow hw 14 rfl)) Via.refl e0 (G.2.2.1.ext O0.2) (g := (mkF m 1 #[.val (.ref w_END_EVENT)] [(.ref w_END_EVENT)])) rfl (hb hby d2_1)
  refine OGot.go st2 ?_
  show OGot p.tables e below (T2.setTop (mkF m 4 #[.val (.ref w_END_EVENT)] [(.ref w_RECEPTION), (.ref w_END_EVENT)])) _
  have ne3 : w_END_EVENT ≠ w_RECEPTION := (Fld.ne G.2.2.2.2.2.2.2.2.2.2.2.2.2.2.2.2.2.2.2.2.2.2.2.2.2.2.2.2.2.2.2.2.2.2.2.2.2.2.1 G.2.2.2.2.2.2.2.2.2.2.2.2.2.2.2.2.2.2.2.2.2.2.2.2.2.2.2.2.2.2.2.1 (by decide))
  refine OGot.go (fun t k => Jvm.RoadKit.acmp (g := (mkF m 4 #[.val (.ref w_END_EVENT)] [(.ref w_RECEPTION), (.ref w_END_EVENT)])) X2 hx rfl rfl rfl (pc0 := 4) (pc' := 7) (same := false) rfl (hb hby d2_4) rfl (decide_eq_false fun q => ne3 (Value.ref.inj q)) (by decide) (by decide) k) ?_
  show OGot p.tables e below (T2.setTop (mkF m 7 #[.val (.ref w_END_EVENT)] [])) _
  refine OGot.go (fun t k => XS.aloadN X2.here hx rfl (hb hby d2_7) rfl rfl k) ?_
  show OGot p.tables e below (T2.setTop (mkF m 8 #[.val (.ref w_END_EVENT)] [(.ref w_END_EVENT)])) _
  obtain ⟨T4, X4, e4, st4⟩ := getS2 X2 hx hZ hown (host := "") (Or.inl (ow hw 16 rfl)) Via.refl e2 (G.2.2.2.2.1.ext O0.2) (g := (mkF m 8 #[.val (.ref w_END_EVENT)] [(.ref w_END_EVENT)])) rfl (hb hby d2_8)
  refine OGot.go st4 ?_
  show OGot p.tables e below (T4.setTop (mkF m 11 #[.val (.ref w_END_EVENT)] [(.ref w_MESSAGE_START_EVENT), (.ref w_END_EVENT)])) _
  have ne5 : w_END_EVENT ≠ w_MESSAGE_START_EVENT := (Fld.ne G.2.2.2.2.2.2.2.2.2.2.2.2.2.2.2.2.2.2.2.2.2.2.2.2.2.2.2.2.2.2.2.2.2.2.2.2.2.2.1 G.2.2.2.2.2.2.2.2.2.2.2.2.2.2.2.2.2.2.2.2.2.2.2.2.2.2.2.2.2.2.2.2.1 (by decide))
  refine OGot.go (fun t k => Jvm.RoadKit.acmp (g := (mkF m 11 #[.val (.ref w_END_EVENT)] [(.ref w_MESSAGE_START_EVENT), (.ref w_END_EVENT)])) X4 hx rfl rfl rfl (pc0 := 11) (pc' := 14) (same := false) rfl (hb hby d2_11) rfl (decide_eq_false fun q => ne5 (Value.ref.inj q)) (by decide) (by decide) k) ?_
  show OGot p.tables e below (T4.setTop (mkF m 14 #[.val (.ref w_END_EVENT)] [])) _
  refine OGot.go (fun t k => XS.aloadN X4.here hx rfl (hb hby d2_14) rfl rfl k) ?_
  show OGot p.tables e below (T4.setTop (mkF m 15 #[.val (.ref w_END_EVENT)] [(.ref w_END_EVENT)])) _
  obtain ⟨T6, X6, e6, st6⟩ := getS2 X4 hx hZ hown (host := "") (Or.inl (ow hw 18 rfl)) Via.refl e4 (G.2.2.2.2.2.2.1.ext O0.2) (g := (mkF m 15 #[.val (.ref w_END_EVENT)] [(.ref w_END_EVENT)])) rfl (hb hby d2_15)
  refine OGot.go st6 ?_
  show OGot p.tables e below (T6.setTop (mkF m 18 #[.val (.ref w_END_EVENT)] [(.ref w_MESSAGE_BOUNDARY_EVENT), (.ref w_END_EVENT)])) _
  have ne7 : w_END_EVENT ≠ w_MESSAGE_BOUNDARY_EVENT := (Fld.ne G.2.2.2.2.2.2.2.2.2.2.2.2.2.2.2.2.2.2.2.2.2.2.2.2.2.2.2.2.2.2.2.2.2.2.2.2.2.2.1 G.2.2.2.2.2.2.2.2.2.2.2.2.2.2.2.2.2.2.2.2.2.2.2.2.2.2.2.2.2.2.2.2.2.1 (by decide))
  refine OGot.go (fun t k => Jvm.RoadKit.acmp (g := (mkF m 18 #[.val (.ref w_END_EVENT)] [(.ref w_MESSAGE_BOUNDARY_EVENT), (.ref w_END_EVENT)])) X6 hx rfl rfl rfl (pc0 := 18) (pc' := 25) (same := false) rfl (hb hby d2_18) rfl (decide_eq_false fun q => ne7 (Value.ref.inj q)) (by decide) (by decide) k) ?_
  show OGot p.tables e below (T6.setTop (mkF m 25 #[.val (.ref w_END_EVENT)] [])) _
  refine OGot.go (fun t k => XS.iconst X6.here hx rfl (hb hby d2_25) k) ?_
  show OGot p.tables e below (T6.setTop (mkF m 26 #[.val (.ref w_END_EVENT)] [(.int (0 : Int32))])) _
  obtain ⟨fs, hr, hrun, hended, hW, hsame⟩ := X6.leave (v := some (.int (0 : Int32))) (fun h => by rw [Bd.returns] at h; cases h)
  refine ⟨_, _, retN X6 hx (t := .boolean) Bd.returns (by simp) (hb hby d2_26) hr, hrun, hended, _, _, rfl, ?_, ⟨_, rfl⟩, hW, hsame.mono (by decide) (by decide)⟩
  exact (⟨rfl, N0, e6⟩ : Q2_2 Z w_START_EVENT w_RECEPTION w_MESSAGE_START_EVENT w_MESSAGE_BOUNDARY_EVENT w_TERMINATE_END_EVENT w_LINK_THROW_EVENT w_BOUNDARY_EVENT w_LINK_CATCH_EVENT w_END_EVENT w_EVENT_BASED_GATEWAY w_INCLUSIVE_GATEWAY w_EXCLUSIVE_GATEWAY w_SUB_PROCESS w_ACTIVITY w_PARALLEL_GATEWAY  h0 n0 _ T6.heap _)
theorem d1_26 : decode method_2_code 26 = .ok (.iload_n 0, 1) := by decide +kernel
theorem d1_27 : decode method_2_code 27 = .ok (.iconst 3, 1) := by decide +kernel
theorem d1_28 : decode method_2_code 28 = .ok (.if_icmp .ne 7, 3) := by decide +kernel
theorem d1_31 : decode method_2_code 31 = .ok (.getstatic 19, 3) := by decide +kernel
theorem d1_34 : decode method_2_code 34 = .ok (.areturn, 1) := by decide +kernel
def Q1_3 (Z : State) (w_START_EVENT : Addr) (w_RECEPTION : Addr) (w_MESSAGE_START_EVENT : Addr) (w_MESSAGE_BOUNDARY_EVENT : Addr) (w_TERMINATE_END_EVENT : Addr) (w_LINK_THROW_EVENT : Addr) (w_BOUNDARY_EVENT : Addr) (w_LINK_CATCH_EVENT : Addr) (w_END_EVENT : Addr) (w_EVENT_BASED_GATEWAY : Addr) (w_INCLUSIVE_GATEWAY : Addr) (w_EXCLUSIVE_GATEWAY : Addr) (w_SUB_PROCESS : Addr) (w_ACTIVITY : Addr) (w_PARALLEL_GATEWAY : Addr)  (h0 : Heap) (n0 : Nat) (v : Option Value) (h : Heap) (L : List Loc) : Prop := v = some (.ref w_TERMINATE_END_EVENT) ∧ Fr n0 L ∧ h = h0
theorem ef1_3 (m : MethodId)  : entryFrame m #[(.int (3 : Int32))] 1 = mkF m 0 #[.val (.int (3 : Int32))] [] := by first | (simp [entryFrame, mkF, argsToLocals, Value.category]; done) | rfl
set_option maxRecDepth 65536 in
set_option maxHeartbeats 40000000 in
theorem rm1_3 (l : Launch) (Z : State) (a0 : Array Value) (hw : ∀ d ∈ tables_1, d.before a0 Z = true) (ws : List Jvm.Cond) {w_START_EVENT : Addr} {w_RECEPTION : Addr} {w_MESSAGE_START_EVENT : Addr} {w_MESSAGE_BOUNDARY_EVENT : Addr} {w_TERMINATE_END_EVENT : Addr} {w_LINK_THROW_EVENT : Addr} {w_BOUNDARY_EVENT : Addr} {w_LINK_CATCH_EVENT : Addr} {w_END_EVENT : Addr} {w_EVENT_BASED_GATEWAY : Addr} {w_INCLUSIVE_GATEWAY : Addr} {w_EXCLUSIVE_GATEWAY : Addr} {w_SUB_PROCESS : Addr} {w_ACTIVITY : Addr} {w_PARALLEL_GATEWAY : Addr} (G : Glob Z w_START_EVENT w_RECEPTION w_MESSAGE_START_EVENT w_MESSAGE_BOUNDARY_EVENT w_TERMINATE_END_EVENT w_LINK_THROW_EVENT w_BOUNDARY_EVENT w_LINK_CATCH_EVENT w_END_EVENT w_EVENT_BASED_GATEWAY w_INCLUSIVE_GATEWAY w_EXCLUSIVE_GATEWAY w_SUB_PROCESS w_ACTIVITY w_PARALLEL_GATEWAY)  (h0 : Heap) (n0 : Nat) (O0 : Old Z n0 h0) :
    MetFree l (⟨"com/example/chorale/chorale/KindReceivesPinLaw", "kindAt", "(I)Lcom/example/chorale/chorale/FlowGraph$Kind;"⟩ : MethodName) (head1 (Jvm.Cond.code (⟨"com/example/chorale/chorale/KindReceivesPinLaw", "kindAt", "(I)Lcom/example/chorale/chorale/FlowGraph$Kind;"⟩ : MethodName) method_2_code 1 (some (.object "com/example/chorale/chorale/FlowGraph$Kind")) :: ws) ({ frames := 0, cells := 0, slots := 0, locals := 0 } : Room)) (fun a U => a = #[(.int (3 : Int32))] ∧ Z.Warmed39 U.vm ∧ U.heap = h0) (fun _ _ _ _ _ => True) (fun _ U o U' => ∃ v L, o = .returned v ∧ Q1_3 Z w_START_EVENT w_RECEPTION w_MESSAGE_START_EVENT w_MESSAGE_BOUNDARY_EVENT w_TERMINATE_END_EVENT w_LINK_THROW_EVENT w_BOUNDARY_EVENT w_LINK_CATCH_EVENT w_END_EVENT w_EVENT_BASED_GATEWAY w_INCLUSIVE_GATEWAY w_EXCLUSIVE_GATEWAY w_SUB_PROCESS w_ACTIVITY w_PARALLEL_GATEWAY  h0 n0 v U'.heap L ∧ FrameEnd U o U' L ({ frames := 0, cells := 0, slots := 0, locals := 0 } : Room).cells ({ frames := 0, cells := 0, slots := 0, locals := 0 } : Room).slots) := by
  refine MetFree.of_bodySF (plainFor_of_name pn_com_example_chorale_chorale_KindReceivesPinLaw) hisR ?_
  intro p e s m args below meth c s₁ Bd hml0 hP hK
  obtain ⟨rfl, hZ, hh⟩ := hP
  have hx := Bd.exec
  have hby := Bd.bytes
  have hml : c.maxLocals = 1 := hml0
  have hown : s.vm.findClass "com/example/chorale/chorale/KindReceivesPinLaw" = some m.cls := findClass_of_methodNamed Bd.named
  have hnm := (name_of_methodNamed Bd.named Bd.method).1
  have X0 : Stand p l e ({ frames := 0, cells := 0, slots := 0, locals := 0 } : Room) s m #[(.int (3 : Int32))] below meth c s₁ [] 0 0 := Stand.of_body Bd
  have e0 : s₁.heap = h0 := by rw [← hh, Bd.state]; rfl
  have N0 := Fr.nil n0
  show OGot p.tables e below (s₁.setTop (entryFrame m #[(.int (3 : Int32))] 1)) _
  refine OGot.go (fun t k => castTop (ef1_3 m ) k) ?_
  show OGot p.tables e below (s₁.setTop (mkF m 0 #[.val (.int (3 : Int32))] [])) _
  refine OGot.go (fun t k => XS.iloadN X0.here hx rfl (hb hby d1_0) rfl k) ?_
  show OGot p.tables e below (s₁.setTop (mkF m 1 #[.val (.int (3 : Int32))] [(.int (3 : Int32))])) _
  refine OGot.go (fun t k => XS.ifYes X0.here hx rfl (pc0 := 1) (pc' := 8) rfl (hb hby d1_1) rfl (by decide) (by decide) (by decide) k) ?_
  show OGot p.tables e below (s₁.setTop (mkF m 8 #[.val (.int (3 : Int32))] [])) _
  refine OGot.go (fun t k => XS.iloadN X0.here hx rfl (hb hby d1_8) rfl k) ?_
  show OGot p.tables e below (s₁.setTop (mkF m 9 #[.val (.int (3 : Int32))] [(.int (3 : Int32))])) _
  refine OGot.go (fun t k => XS.iconst X0.here hx rfl (hb hby d1_9) k) ?_
  show OGot p.tables e below (s₁.setTop (mkF m 10 #[.val (.int (3 : Int32))] [(.int (1 : Int32)), (.int (3 : Int32))])) _
  refine OGot.go (fun t k => XS.icmpYes X0.here hx rfl (pc0 := 10) (pc' := 17) rfl (hb hby d1_10) rfl (by decide) (by decide) (by decide) k) ?_
  show OGot p.tables e below (s₁.setTop (mkF m 17 #[.val (.int (3 : Int32))] [])) _
  refine OGot.go (fun t k => XS.iloadN X0.here hx rfl (hb hby d1_17) rfl k) ?_
  show OGot p.tables e below (s₁.setTop (mkF m 18 #[.val (.int (3 : Int32))] [(.int (3 : Int32))])) _
  refine OGot.go (fun t k => XS.iconst X0.here hx rfl (hb hby d1_18) k) ?_
  show OGot p.tables e below (s₁.setTop (mkF m 19 #[.val (.int (3 : Int32))] [(.int (2 : Int32)), (.int (3 : Int32))])) _
  refine OGot.go (fun t k => XS.icmpYes X0.here hx rfl (pc0 := 19) (pc' := 26) rfl (hb hby d1_19) rfl (by decide) (by decide) (by decide) k) ?_
  show OGot p.tables e below (s₁.setTop (mkF m 26 #[.val (.int (3 : Int32))] [])) _
  refine OGot.go (fun t k => XS.iloadN X0.here hx rfl (hb hby d1_26) rfl k) ?_
  show OGot p.tables e below (s₁.setTop (mkF m 27 #[.val (.int (3 : Int32))] [(.int (3 : Int32))])) _
  refine OGot.go (fun t k => XS.iconst X0.here hx rfl (hb hby d1_27) k) ?_
  show OGot p.tables e below (s₁.setTop (mkF m 28 #[.val (.int (3 : Int32))] [(.int (3 : Int32)), (.int (3 : Int32))])) _
  refine OGot.go (fun t k => XS.icmpNo X0.here hx rfl (hb hby d1_28) rfl (by decide) k) ?_
  show OGot p.tables e below (s₁.setTop (mkF m 31 #[.val (.int (3 : Int32))] [])) _
  obtain ⟨T1, X1, e1, st1⟩ := getS2 X0 hx hZ hown (host := "") (Or.inl (ow hw 20 rfl)) Via.refl e0 (G.2.2.2.2.2.2.2.2.1.ext O0.2) (g := (mkF m 31 #[.val (.int (3 : Int32))] [])) rfl (hb hby d1_31)
  refine OGot.go st1 ?_
  show OGot p.tables e below (T1.setTop (mkF m 34 #[.val (.int (3 : Int32))] [(.ref w_TERMINATE_END_EVENT)])) _
  obtain ⟨fs, hr, hrun, hended, hW, hsame⟩ := X1.leave (v := some (.ref w_TERMINATE_END_EVENT)) (fun h => by rw [Bd.returns] at h; cases h)
  refine ⟨_, _, oretA X1 hx Bd.returns rfl rfl (hb hby d1_34) hr, hrun, hended, _, _, rfl, ?_, ⟨_, rfl⟩, hW, hsame.mono (by decide) (by decide)⟩
  exact (⟨rfl, N0, e1⟩ : Q1_3 Z w_START_EVENT w_RECEPTION w_MESSAGE_START_EVENT w_MESSAGE_BOUNDARY_EVENT w_TERMINATE_END_EVENT w_LINK_THROW_EVENT w_BOUNDARY_EVENT w_LINK_CATCH_EVENT w_END_EVENT w_EVENT_BASED_GATEWAY w_INCLUSIVE_GATEWAY w_EXCLUSIVE_GATEWAY w_SUB_PROCESS w_ACTIVITY w_PARALLEL_GATEWAY  h0 n0 _ T1.heap _)
def Q2_3 (Z : State) (w_START_EVENT : Addr) (w_RECEPTION : Addr) (w_MESSAGE_START_EVENT : Addr) (w_MESSAGE_BOUNDARY_EVENT : Addr) (w_TERMINATE_END_EVENT : Addr) (w_LINK_THROW_EVENT : Addr) (w_BOUNDARY_EVENT : Addr) (w_LINK_CATCH_EVENT : Addr) (w_END_EVENT : Addr) (w_EVENT_BASED_GATEWAY : Addr) (w_INCLUSIVE_GATEWAY : Addr) (w_EXCLUSIVE_GATEWAY : Addr) (w_SUB_PROCESS : Addr) (w_ACTIVITY : Addr) (w_PARALLEL_GATEWAY : Addr)  (h0 : Heap) (n0 : Nat) (v : Option Value) (h : Heap) (L : List Loc) : Prop := v = some (.int (0 : Int32)) ∧ Fr n0 L ∧ h = h0
theorem ef2_3 (m : MethodId) (x0 : Addr) : entryFrame m #[(.ref x0)] 1 = mkF m 0 #[.val (.ref x0)] [] := by first | (simp [entryFrame, mkF, argsToLocals, Value.category]; done) | rfl
set_option maxRecDepth 65536 in
set_option maxHeartbeats 40000000 in
theorem rm2_3 (l : Launch) (Z : State) (a0 : Array Value) (hw : ∀ d ∈ tables_1, d.before a0 Z = true) (ws : List Jvm.Cond) {w_START_EVENT : Addr} {w_RECEPTION : Addr} {w_MESSAGE_START_EVENT : Addr} {w_MESSAGE_BOUNDARY_EVENT : Addr} {w_TERMINATE_END_EVENT : Addr} {w_LINK_THROW_EVENT : Addr} {w_BOUNDARY_EVENT : Addr} {w_LINK_CATCH_EVENT : Addr} {w_END_EVENT : Addr} {w_EVENT_BASED_GATEWAY : Addr} {w_INCLUSIVE_GATEWAY : Addr} {w_EXCLUSIVE_GATEWAY : Addr} {w_SUB_PROCESS : Addr} {w_ACTIVITY : Addr} {w_PARALLEL_GATEWAY : Addr} (G : Glob Z w_START_EVENT w_RECEPTION w_MESSAGE_START_EVENT w_MESSAGE_BOUNDARY_EVENT w_TERMINATE_END_EVENT w_LINK_THROW_EVENT w_BOUNDARY_EVENT w_LINK_CATCH_EVENT w_END_EVENT w_EVENT_BASED_GATEWAY w_INCLUSIVE_GATEWAY w_EXCLUSIVE_GATEWAY w_SUB_PROCESS w_ACTIVITY w_PARALLEL_GATEWAY)  (h0 : Heap) (n0 : Nat) (O0 : Old Z n0 h0) :
    MetFree l (⟨"com/example/chorale/chorale/FlowGraph$Kind", "receives", "()Z"⟩ : MethodName) (head1 (Jvm.Cond.code (⟨"com/example/chorale/chorale/FlowGraph$Kind", "receives", "()Z"⟩ : MethodName) prog_73_method_4_code 1 (some .boolean) :: ws) ({ frames := 0, cells := 0, slots := 0, locals := 0 } : Room)) (fun a U => a = #[(.ref w_TERMINATE_END_EVENT)] ∧ Z.Warmed39 U.vm ∧ U.heap = h0) (fun _ _ _ _ _ => True) (fun _ U o U' => ∃ v L, o = .returned v ∧ Q2_3 Z w_START_EVENT w_RECEPTION w_MESSAGE_START_EVENT w_MESSAGE_BOUNDARY_EVENT w_TERMINATE_END_EVENT w_LINK_THROW_EVENT w_BOUNDARY_EVENT w_LINK_CATCH_EVENT w_END_EVENT w_EVENT_BASED_GATEWAY w_INCLUSIVE_GATEWAY w_EXCLUSIVE_GATEWAY w_SUB_PROCESS w_ACTIVITY w_PARALLEL_GATEWAY  h0 n0 v U'.heap L ∧ FrameEnd U o U' L ({ frames := 0, cells := 0, slots := 0, locals := 0 } : Room).cells ({ frames := 0, cells := 0, slots := 0, locals := 0 } : Room).slots) := by
  refine MetFree.of_bodySF (plainFor_of_name pn_com_example_chorale_chorale_FlowGraph_Kind) hisR ?_
  intro p e s m args below meth c s₁ Bd hml0 hP hK
  obtain ⟨rfl, hZ, hh⟩ := hP
  have hx := Bd.exec
  have hby := Bd.bytes
  have hml : c.maxLocals = 1 := hml0
  have hown : s.vm.findClass "com/example/chorale/chorale/FlowGraph$Kind" = some m.cls := findClass_of_methodNamed Bd.named
  have hnm := (name_of_methodNamed Bd.named Bd.method).1
  have X0 : Stand p l e ({ frames := 0, cells := 0, slots := 0, locals := 0 } : Room) s m #[(.ref w_TERMINATE_END_EVENT)] below meth c s₁ [] 0 0 := Stand.of_body Bd
  have e0 : s₁.heap = h0 := by rw [← hh, Bd.state]; rfl
  have N0 := Fr.nil n0
  show OGot p.tables e below (s₁.setTop (entryFrame m #[(.ref w_TERMINATE_END_EVENT)] 1)) _
  refine OGot.go (fun t k => castTop (ef2_3 m w_TERMINATE_END_EVENT) k) ?_
  show OGot p.tables e below (s₁.setTop (mkF m 0 #[.val (.ref w_TERMINATE_END_EVENT)] [])) _
  refine OGot.go (fun t k => XS.aloadN X0.here hx rfl (hb hby d2_0) rfl rfl k) ?_
  show OGot p.tables e below (s₁.setTop (mkF m 1 #[.val (.ref w_TERMINATE_END_EVENT)] [(.ref w_TERMINATE_END_EVENT)])) _
  obtain ⟨T2, X2, e2, st2⟩ := getS2 X0 hx hZ hown (host := "") (Or.inl (ow hw 14 rfl)) Via.refl e0 (G.2.2.1.ext O0.2) (g := (mkF m 1 #[.val (.ref w_TERMINATE_END_EVENT)] [(.ref w_TERMINATE_END_EVENT)])) rfl (hb hby d2_1)
  refine OGot.go st2 ?_
  show OGot p.tables e below (T2.setTop (mkF m 4 #[.val (.ref w_TERMINATE_END_EVENT)] [(.ref w_RECEPTION), (.ref w_TERMINATE_END_EVENT)])) _
  have ne3 : w_TERMINATE_END_EVENT ≠ w_RECEPTION := (Fld.ne G.2.2.2.2.2.2.2.2.2.2.2.2.2.2.2.2.2.2.2.2.2.2.2.2.2.2.2.2.2.2.2.2.2.2.1 G.2.2.2.2.2.2.2.2.2.2.2.2.2.2.2.2.2.2.2.2.2.2.2.2.2.2.2.2.2.2.2.1 (by decide))
  refine OGot.go (fun t k => Jvm.RoadKit.acmp (g := (mkF m 4 #[.val (.ref w_TERMINATE_END_EVENT)] [(.ref w_RECEPTION), (.ref w_TERMINATE_END_EVENT)])) X2 hx rfl rfl rfl (pc0 := 4) (pc' := 7) (same := false) rfl (hb hby d2_4) rfl (decide_eq_false fun q => ne3 (Value.ref.inj q)) (by decide) (by decide) k) ?_
  show OGot p.tables e below (T2.setTop (mkF m 7 #[.val (.ref w_TERMINATE_END_EVENT)] [])) _
  refine OGot.go (fun t k => XS.aloadN X2.here hx rfl (hb hby d2_7) rfl rfl k) ?_
  show OGot p.tables e below (T2.setTop (mkF m 8 #[.val (.ref w_TERMINATE_END_EVENT)] [(.ref w_TERMINATE_END_EVENT)])) _
  obtain ⟨T4, X4, e4, st4⟩ := getS2 X2 hx hZ hown (host := "") (Or.inl (ow hw 16 rfl)) Via.refl e2 (G.2.2.2.2.1.ext O0.2) (g := (mkF m 8 #[.val (.ref w_TERMINATE_END_EVENT)] [(.ref w_TERMINATE_END_EVENT)])) rfl (hb hby d2_8)
  refine OGot.go st4 ?_
  show OGot p.tables e below (T4.setTop (mkF m 11 #[.val (.ref w_TERMINATE_END_EVENT)] [(.ref w_MESSAGE_START_EVENT), (.ref w_TERMINATE_END_EVENT)])) _
  have ne5 : w_TERMINATE_END_EVENT ≠ w_MESSAGE_START_EVENT := (Fld.ne G.2.2.2.2.2.2.2.2.2.2.2.2.2.2.2.2.2.2.2.2.2.2.2.2.2.2.2.2.2.2.2.2.2.2.1 G.2.2.2.2.2.2.2.2.2.2.2.2.2.2.2.2.2.2.2.2.2.2.2.2.2.2.2.2.2.2.2.2.1 (by decide))
  refine OGot.go (fun t k => Jvm.RoadKit.acmp (g := (mkF m 11 #[.val (.ref w_TERMINATE_END_EVENT)] [(.ref w_MESSAGE_START_EVENT), (.ref w_TERMINATE_END_EVENT)])) X4 hx rfl rfl rfl (pc0 := 11) (pc' := 14) (same := false) rfl (hb hby d2_11) rfl (decide_eq_false fun q => ne5 (Value.ref.inj q)) (by decide) (by decide) k) ?_
  show OGot p.tables e below (T4.setTop (mkF m 14 #[.val (.ref w_TERMINATE_END_EVENT)] [])) _
  refine OGot.go (fun t k => XS.aloadN X4.here hx rfl (hb hby d2_14) rfl rfl k) ?_
  show OGot p.tables e below (T4.setTop (mkF m 15 #[.val (.ref w_TERMINATE_END_EVENT)] [(.ref w_TERMINATE_END_EVENT)])) _
  obtain ⟨T6, X6, e6, st6⟩ := getS2 X4 hx hZ hown (host := "") (Or.inl (ow hw 18 rfl)) Via.refl e4 (G.2.2.2.2.2.2.1.ext O0.2) (g := (mkF m 15 #[.val (.ref w_TERMINATE_END_EVENT)] [(.ref w_TERMINATE_END_EVENT)])) rfl (hb hby d2_15)
  refine OGot.go st6 ?_
  show OGot p.tables e below (T6.setTop (mkF m 18 #[.val (.ref w_TERMINATE_END_EVENT)] [(.ref w_MESSAGE_BOUNDARY_EVENT), (.ref w_TERMINATE_END_EVENT)])) _
  have ne7 : w_TERMINATE_END_EVENT ≠ w_MESSAGE_BOUNDARY_EVENT := (Fld.ne G.2.2.2.2.2.2.2.2.2.2.2.2.2.2.2.2.2.2.2.2.2.2.2.2.2.2.2.2.2.2.2.2.2.2.1 G.2.2.2.2.2.2.2.2.2.2.2.2.2.2.2.2.2.2.2.2.2.2.2.2.2.2.2.2.2.2.2.2.2.1 (by decide))
  refine OGot.go (fun t k => Jvm.RoadKit.acmp (g := (mkF m 18 #[.val (.ref w_TERMINATE_END_EVENT)] [(.ref w_MESSAGE_BOUNDARY_EVENT), (.ref w_TERMINATE_END_EVENT)])) X6 hx rfl rfl rfl (pc0 := 18) (pc' := 25) (same := false) rfl (hb hby d2_18) rfl (decide_eq_false fun q => ne7 (Value.ref.inj q)) (by decide) (by decide) k) ?_
  show OGot p.tables e below (T6.setTop (mkF m 25 #[.val (.ref w_TERMINATE_END_EVENT)] [])) _
  refine OGot.go (fun t k => XS.iconst X6.here hx rfl (hb hby d2_25) k) ?_
  show OGot p.tables e below (T6.setTop (mkF m 26 #[.val (.ref w_TERMINATE_END_EVENT)] [(.int (0 : Int32))])) _
  obtain ⟨fs, hr, hrun, hended, hW, hsame⟩ := X6.leave (v := some (.int (0 : Int32))) (fun h => by rw [Bd.returns] at h; cases h)
  refine ⟨_, _, retN X6 hx (t := .boolean) Bd.returns (by simp) (hb hby d2_26) hr, hrun, hended, _, _, rfl, ?_, ⟨_, rfl⟩, hW, hsame.mono (by decide) (by decide)⟩
  exact (⟨rfl, N0, e6⟩ : Q2_3 Z w_START_EVENT w_RECEPTION w_MESSAGE_START_EVENT w_MESSAGE_BOUNDARY_EVENT w_TERMINATE_END_EVENT w_LINK_THROW_EVENT w_BOUNDARY_EVENT w_LINK_CATCH_EVENT w_END_EVENT w_EVENT_BASED_GATEWAY w_INCLUSIVE_GATEWAY w_EXCLUSIVE_GATEWAY w_SUB_PROCESS w_ACTIVITY w_PARALLEL_GATEWAY  h0 n0 _ T6.heap _)
theorem d1_35 : decode method_2_code 35 = .ok (.iload_n 0, 1) := by decide +kernel
theorem d1_36 : decode method_2_code 36 = .ok (.iconst 4, 1) := by decide +kernel
theorem d1_37 : decode method_2_code 37 = .ok (.if_icmp .ne 7, 3) := by decide +kernel
theorem d1_40 : decode method_2_code 40 = .ok (.getstatic 22, 3) := by decide +kernel
theorem d1_43 : decode method_2_code 43 = .ok (.areturn, 1) := by decide +kernel
def Q1_4 (Z : State) (w_START_EVENT : Addr) (w_RECEPTION : Addr) (w_MESSAGE_START_EVENT : Addr) (w_MESSAGE_BOUNDARY_EVENT : Addr) (w_TERMINATE_END_EVENT : Addr) (w_LINK_THROW_EVENT : Addr) (w_BOUNDARY_EVENT : Addr) (w_LINK_CATCH_EVENT : Addr) (w_END_EVENT : Addr) (w_EVENT_BASED_GATEWAY : Addr) (w_INCLUSIVE_GATEWAY : Addr) (w_EXCLUSIVE_GATEWAY : Addr) (w_SUB_PROCESS : Addr) (w_ACTIVITY : Addr) (w_PARALLEL_GATEWAY : Addr)  (h0 : Heap) (n0 : Nat) (v : Option Value) (h : Heap) (L : List Loc) : Prop := v = some (.ref w_ACTIVITY) ∧ Fr n0 L ∧ h = h0
theorem ef1_4 (m : MethodId)  : entryFrame m #[(.int (4 : Int32))] 1 = mkF m 0 #[.val (.int (4 : Int32))] [] := by first | (simp [entryFrame, mkF, argsToLocals, Value.category]; done) | rfl
set_option maxRecDepth 65536 in
set_option maxHeartbeats 40000000 in
theorem rm1_4 (l : Launch) (Z : State) (a0 : Array Value) (hw : ∀ d ∈ tables_1, d.before a0 Z = true) (ws : List Jvm.Cond) {w_START_EVENT : Addr} {w_RECEPTION : Addr} {w_MESSAGE_START_EVENT : Addr} {w_MESSAGE_BOUNDARY_EVENT : Addr} {w_TERMINATE_END_EVENT : Addr} {w_LINK_THROW_EVENT : Addr} {w_BOUNDARY_EVENT : Addr} {w_LINK_CATCH_EVENT : Addr} {w_END_EVENT : Addr} {w_EVENT_BASED_GATEWAY : Addr} {w_INCLUSIVE_GATEWAY : Addr} {w_EXCLUSIVE_GATEWAY : Addr} {w_SUB_PROCESS : Addr} {w_ACTIVITY : Addr} {w_PARALLEL_GATEWAY : Addr} (G : Glob Z w_START_EVENT w_RECEPTION w_MESSAGE_START_EVENT w_MESSAGE_BOUNDARY_EVENT w_TERMINATE_END_EVENT w_LINK_THROW_EVENT w_BOUNDARY_EVENT w_LINK_CATCH_EVENT w_END_EVENT w_EVENT_BASED_GATEWAY w_INCLUSIVE_GATEWAY w_EXCLUSIVE_GATEWAY w_SUB_PROCESS w_ACTIVITY w_PARALLEL_GATEWAY)  (h0 : Heap) (n0 : Nat) (O0 : Old Z n0 h0) :
    MetFree l (⟨"com/example/chorale/chorale/KindReceivesPinLaw", "kindAt", "(I)Lcom/example/chorale/chorale/FlowGraph$Kind;"⟩ : MethodName) (head1 (Jvm.Cond.code (⟨"com/example/chorale/chorale/KindReceivesPinLaw", "kindAt", "(I)Lcom/example/chorale/chorale/FlowGraph$Kind;"⟩ : MethodName) method_2_code 1 (some (.object "com/example/chorale/chorale/FlowGraph$Kind")) :: ws) ({ frames := 0, cells := 0, slots := 0, locals := 0 } : Room)) (fun a U => a = #[(.int (4 : Int32))] ∧ Z.Warmed39 U.vm ∧ U.heap = h0) (fun _ _ _ _ _ => True) (fun _ U o U' => ∃ v L, o = .returned v ∧ Q1_4 Z w_START_EVENT w_RECEPTION w_MESSAGE_START_EVENT w_MESSAGE_BOUNDARY_EVENT w_TERMINATE_END_EVENT w_LINK_THROW_EVENT w_BOUNDARY_EVENT w_LINK_CATCH_EVENT w_END_EVENT w_EVENT_BASED_GATEWAY w_INCLUSIVE_GATEWAY w_EXCLUSIVE_GATEWAY w_SUB_PROCESS w_ACTIVITY w_PARALLEL_GATEWAY  h0 n0 v U'.heap L ∧ FrameEnd U o U' L ({ frames := 0, cells := 0, slots := 0, locals := 0 } : Room).cells ({ frames := 0, cells := 0, slots := 0, locals := 0 } : Room).slots) := by
  refine MetFree.of_bodySF (plainFor_of_name pn_com_example_chorale_chorale_KindReceivesPinLaw) hisR ?_
  intro p e s m args below meth c s₁ Bd hml0 hP hK
  obtain ⟨rfl, hZ, hh⟩ := hP
  have hx := Bd.exec
  have hby := Bd.bytes
  have hml : c.maxLocals = 1 := hml0
  have hown : s.vm.findClass "com/example/chorale/chorale/KindReceivesPinLaw" = some m.cls := findClass_of_methodNamed Bd.named
  have hnm := (name_of_methodNamed Bd.named Bd.method).1
  have X0 : Stand p l e ({ frames := 0, cells := 0, slots := 0, locals := 0 } : Room) s m #[(.int (4 : Int32))] below meth c s₁ [] 0 0 := Stand.of_body Bd
  have e0 : s₁.heap = h0 := by rw [← hh, Bd.state]; rfl
  have N0 := Fr.nil n0
  show OGot p.tables e below (s₁.setTop (entryFrame m #[(.int (4 : Int32))] 1)) _
  refine OGot.go (fun t k => castTop (ef1_4 m ) k) ?_
  show OGot p.tables e below (s₁.setTop (mkF m 0 #[.val (.int (4 : Int32))] [])) _
  refine OGot.go (fun t k => XS.iloadN X0.here hx rfl (hb hby d1_0) rfl k) ?_
  show OGot p.tables e below (s₁.setTop (mkF m 1 #[.val (.int (4 : Int32))] [(.int (4 : Int32))])) _
  refine OGot.go (fun t k => XS.ifYes X0.here hx rfl (pc0 := 1) (pc' := 8) rfl (hb hby d1_1) rfl (by decide) (by decide) (by decide) k) ?_
  show OGot p.tables e below (s₁.setTop (mkF m 8 #[.val (.int (4 : Int32))] [])) _
  refine OGot.go (fun t k => XS.iloadN X0.here hx rfl (hb hby d1_8) rfl k) ?_
  show OGot p.tables e below (s₁.setTop (mkF m 9 #[.val (.int (4 : Int32))] [(.int (4 : Int32))])) _
  refine OGot.go (fun t k => XS.iconst X0.here hx rfl (hb hby d1_9) k) ?_
  show OGot p.tables e below (s₁.setTop (mkF m 10 #[.val (.int (4 : Int32))] [(.int (1 : Int32)), (.int (4 : Int32))])) _
  refine OGot.go (fun t k => XS.icmpYes X0.here hx rfl (pc0 := 10) (pc' := 17) rfl (hb hby d1_10) rfl (by decide) (by decide) (by decide) k) ?_
  show OGot p.tables e below (s₁.setTop (mkF m 17 #[.val (.int (4 : Int32))] [])) _
  refine OGot.go (fun t k => XS.iloadN X0.here hx rfl (hb hby d1_17) rfl k) ?_
  show OGot p.tables e below (s₁.setTop (mkF m 18 #[.val (.int (4 : Int32))] [(.int (4 : Int32))])) _
  refine OGot.go (fun t k => XS.iconst X0.here hx rfl (hb hby d1_18) k) ?_
  show OGot p.tables e below (s₁.setTop (mkF m 19 #[.val (.int (4 : Int32))] [(.int (2 : Int32)), (.int (4 : Int32))])) _
  refine OGot.go (fun t k => XS.icmpYes X0.here hx rfl (pc0 := 19) (pc' := 26) rfl (hb hby d1_19) rfl (by decide) (by decide) (by decide) k) ?_
  show OGot p.tables e below (s₁.setTop (mkF m 26 #[.val (.int (4 : Int32))] [])) _
  refine OGot.go (fun t k => XS.iloadN X0.here hx rfl (hb hby d1_26) rfl k) ?_
  show OGot p.tables e below (s₁.setTop (mkF m 27 #[.val (.int (4 : Int32))] [(.int (4 : Int32))])) _
  refine OGot.go (fun t k => XS.iconst X0.here hx rfl (hb hby d1_27) k) ?_
  show OGot p.tables e below (s₁.setTop (mkF m 28 #[.val (.int (4 : Int32))] [(.int (3 : Int32)), (.int (4 : Int32))])) _
  refine OGot.go (fun t k => XS.icmpYes X0.here hx rfl (pc0 := 28) (pc' := 35) rfl (hb hby d1_28) rfl (by decide) (by decide) (by decide) k) ?_
  show OGot p.tables e below (s₁.setTop (mkF m 35 #[.val (.int (4 : Int32))] [])) _
  refine OGot.go (fun t k => XS.iloadN X0.here hx rfl (hb hby d1_35) rfl k) ?_
  show OGot p.tables e below (s₁.setTop (mkF m 36 #[.val (.int (4 : Int32))] [(.int (4 : Int32))])) _
  refine OGot.go (fun t k => XS.iconst X0.here hx rfl (hb hby d1_36) k) ?_
  show OGot p.tables e below (s₁.setTop (mkF m 37 #[.val (.int (4 : Int32))] [(.int (4 : Int32)), (.int (4 : Int32))])) _
  refine OGot.go (fun t k => XS.icmpNo X0.here hx rfl (hb hby d1_37) rfl (by decide) k) ?_
  show OGot p.tables e below (s₁.setTop (mkF m 40 #[.val (.int (4 : Int32))] [])) _
  obtain ⟨T1, X1, e1, st1⟩ := getS2 X0 hx hZ hown (host := "") (Or.inl (ow hw 41 rfl)) Via.refl e0 (G.2.2.2.2.2.2.2.2.2.2.2.2.2.2.2.2.2.2.2.2.2.2.2.2.2.2.1.ext O0.2) (g := (mkF m 40 #[.val (.int (4 : Int32))] [])) rfl (hb hby d1_40)
  refine OGot.go st1 ?_
  show OGot p.tables e below (T1.setTop (mkF m 43 #[.val (.int (4 : Int32))] [(.ref w_ACTIVITY)])) _
  obtain ⟨fs, hr, hrun, hended, hW, hsame⟩ := X1.leave (v := some (.ref w_ACTIVITY)) (fun h => by rw [Bd.returns] at h; cases h)
  refine ⟨_, _, oretA X1 hx Bd.returns rfl rfl (hb hby d1_43) hr, hrun, hended, _, _, rfl, ?_, ⟨_, rfl⟩, hW, hsame.mono (by decide) (by decide)⟩
  exact (⟨rfl, N0, e1⟩ : Q1_4 Z w_START_EVENT w_RECEPTION w_MESSAGE_START_EVENT w_MESSAGE_BOUNDARY_EVENT w_TERMINATE_END_EVENT w_LINK_THROW_EVENT w_BOUNDARY_EVENT w_LINK_CATCH_EVENT w_END_EVENT w_EVENT_BASED_GATEWAY w_INCLUSIVE_GATEWAY w_EXCLUSIVE_GATEWAY w_SUB_PROCESS w_ACTIVITY w_PARALLEL_GATEWAY  h0 n0 _ T1.heap _)
def Q2_4 (Z : State) (w_START_EVENT : Addr) (w_RECEPTION : Addr) (w_MESSAGE_START_EVENT : Addr) (w_MESSAGE_BOUNDARY_EVENT : Addr) (w_TERMINATE_END_EVENT : Addr) (w_LINK_THROW_EVENT : Addr) (w_BOUNDARY_EVENT : Addr) (w_LINK_CATCH_EVENT : Addr) (w_END_EVENT : Addr) (w_EVENT_BASED_GATEWAY : Addr) (w_INCLUSIVE_GATEWAY : Addr) (w_EXCLUSIVE_GATEWAY : Addr) (w_SUB_PROCESS : Addr) (w_ACTIVITY : Addr) (w_PARALLEL_GATEWAY : Addr)  (h0 : Heap) (n0 : Nat) (v : Option Value) (h : Heap) (L : List Loc) : Prop := v = some (.int (0 : Int32)) ∧ Fr n0 L ∧ h = h0
theorem ef2_4 (m : MethodId) (x0 : Addr) : entryFrame m #[(.ref x0)] 1 = mkF m 0 #[.val (.ref x0)] [] := by first | (simp [entryFrame, mkF, argsToLocals, Value.category]; done) | rfl
set_option maxRecDepth 65536 in
set_option maxHeartbeats 40000000 in
theorem rm2_4 (l : Launch) (Z : State) (a0 : Array Value) (hw : ∀ d ∈ tables_1, d.before a0 Z = true) (ws : List Jvm.Cond) {w_START_EVENT : Addr} {w_RECEPTION : Addr} {w_MESSAGE_START_EVENT : Addr} {w_MESSAGE_BOUNDARY_EVENT : Addr} {w_TERMINATE_END_EVENT : Addr} {w_LINK_THROW_EVENT : Addr} {w_BOUNDARY_EVENT : Addr} {w_LINK_CATCH_EVENT : Addr} {w_END_EVENT : Addr} {w_EVENT_BASED_GATEWAY : Addr} {w_INCLUSIVE_GATEWAY : Addr} {w_EXCLUSIVE_GATEWAY : Addr} {w_SUB_PROCESS : Addr} {w_ACTIVITY : Addr} {w_PARALLEL_GATEWAY : Addr} (G : Glob Z w_START_EVENT w_RECEPTION w_MESSAGE_START_EVENT w_MESSAGE_BOUNDARY_EVENT w_TERMINATE_END_EVENT w_LINK_THROW_EVENT w_BOUNDARY_EVENT w_LINK_CATCH_EVENT w_END_EVENT w_EVENT_BASED_GATEWAY w_INCLUSIVE_GATEWAY w_EXCLUSIVE_GATEWAY w_SUB_PROCESS w_ACTIVITY w_PARALLEL_GATEWAY)  (h0 : Heap) (n0 : Nat) (O0 : Old Z n0 h0) :
    MetFree l (⟨"com/example/chorale/chorale/FlowGraph$Kind", "receives", "()Z"⟩ : MethodName) (head1 (Jvm.Cond.code (⟨"com/example/chorale/chorale/FlowGraph$Kind", "receives", "()Z"⟩ : MethodName) prog_73_method_4_code 1 (some .boolean) :: ws) ({ frames := 0, cells := 0, slots := 0, locals := 0 } : Room)) (fun a U => a = #[(.ref w_ACTIVITY)] ∧ Z.Warmed39 U.vm ∧ U.heap = h0) (fun _ _ _ _ _ => True) (fun _ U o U' => ∃ v L, o = .returned v ∧ Q2_4 Z w_START_EVENT w_RECEPTION w_MESSAGE_START_EVENT w_MESSAGE_BOUNDARY_EVENT w_TERMINATE_END_EVENT w_LINK_THROW_EVENT w_BOUNDARY_EVENT w_LINK_CATCH_EVENT w_END_EVENT w_EVENT_BASED_GATEWAY w_INCLUSIVE_GATEWAY w_EXCLUSIVE_GATEWAY w_SUB_PROCESS w_ACTIVITY w_PARALLEL_GATEWAY  h0 n0 v U'.heap L ∧ FrameEnd U o U' L ({ frames := 0, cells := 0, slots := 0, locals := 0 } : Room).cells ({ frames := 0, cells := 0, slots := 0, locals := 0 } : Room).slots) := by
  refine MetFree.of_bodySF (plainFor_of_name pn_com_example_chorale_chorale_FlowGraph_Kind) hisR ?_
  intro p e s m args below meth c s₁ Bd hml0 hP hK
  obtain ⟨rfl, hZ, hh⟩ := hP
  have hx := Bd.exec
  have hby := Bd.bytes
  have hml : c.maxLocals = 1 := hml0
  have hown : s.vm.findClass "com/example/chorale/chorale/FlowGraph$Kind" = some m.cls := findClass_of_methodNamed Bd.named
  have hnm := (name_of_methodNamed Bd.named Bd.method).1
  have X0 : Stand p l e ({ frames := 0, cells := 0, slots := 0, locals := 0 } : Room) s m #[(.ref w_ACTIVITY)] below meth c s₁ [] 0 0 := Stand.of_body Bd
  have e0 : s₁.heap = h0 := by rw [← hh, Bd.state]; rfl
  have N0 := Fr.nil n0
  show OGot p.tables e below (s₁.setTop (entryFrame m #[(.ref w_ACTIVITY)] 1)) _
  refine OGot.go (fun t k => castTop (ef2_4 m w_ACTIVITY) k) ?_
  show OGot p.tables e below (s₁.setTop (mkF m 0 #[.val (.ref w_ACTIVITY)] [])) _
  refine OGot.go (fun t k => XS.aloadN X0.here hx rfl (hb hby d2_0) rfl rfl k) ?_
  show OGot p.tables e below (s₁.setTop (mkF m 1 #[.val (.ref w_ACTIVITY)] [(.ref w_ACTIVITY)])) _
  obtain ⟨T2, X2, e2, st2⟩ := getS2 X0 hx hZ hown (host := "") (Or.inl (ow hw 14 rfl)) Via.refl e0 (G.2.2.1.ext O0.2) (g := (mkF m 1 #[.val (.ref w_ACTIVITY)] [(.ref w_ACTIVITY)])) rfl (hb hby d2_1)
  refine OGot.go st2 ?_
  show OGot p.tables e below (T2.setTop (mkF m 4 #[.val (.ref w_ACTIVITY)] [(.ref w_RECEPTION), (.ref w_ACTIVITY)])) _
  have ne3 : w_ACTIVITY ≠ w_RECEPTION := (Fld.ne G.2.2.2.2.2.2.2.2.2.2.2.2.2.2.2.2.2.2.2.2.2.2.2.2.2.2.2.2.2.2.2.2.2.2.2.2.2.2.2.2.2.2.2.1 G.2.2.2.2.2.2.2.2.2.2.2.2.2.2.2.2.2.2.2.2.2.2.2.2.2.2.2.2.2.2.2.1 (by decide))
  refine OGot.go (fun t k => Jvm.RoadKit.acmp (g := (mkF m 4 #[.val (.ref w_ACTIVITY)] [(.ref w_RECEPTION), (.ref w_ACTIVITY)])) X2 hx rfl rfl rfl (pc0 := 4) (pc' := 7) (same := false) rfl (hb hby d2_4) rfl (decide_eq_false fun q => ne3 (Value.ref.inj q)) (by decide) (by decide) k) ?_
  show OGot p.tables e below (T2.setTop (mkF m 7 #[.val (.ref w_ACTIVITY)] [])) _
  refine OGot.go (fun t k => XS.aloadN X2.here hx rfl (hb hby d2_7) rfl rfl k) ?_
  show OGot p.tables e below (T2.setTop (mkF m 8 #[.val (.ref w_ACTIVITY)] [(.ref w_ACTIVITY)])) _
  obtain ⟨T4, X4, e4, st4⟩ := getS2 X2 hx hZ hown (host := "") (Or.inl (ow hw 16 rfl)) Via.refl e2 (G.2.2.2.2.1.ext O0.2) (g := (mkF m 8 #[.val (.ref w_ACTIVITY)] [(.ref w_ACTIVITY)])) rfl (hb hby d2_8)
  refine OGot.go st4 ?_
  show OGot p.tables e below (T4.setTop (mkF m 11 #[.val (.ref w_ACTIVITY)] [(.ref w_MESSAGE_START_EVENT), (.ref w_ACTIVITY)])) _
  have ne5 : w_ACTIVITY ≠ w_MESSAGE_START_EVENT := (Fld.ne G.2.2.2.2.2.2.2.2.2.2.2.2.2.2.2.2.2.2.2.2.2.2.2.2.2.2.2.2.2.2.2.2.2.2.2.2.2.2.2.2.2.2.2.1 G.2.2.2.2.2.2.2.2.2.2.2.2.2.2.2.2.2.2.2.2.2.2.2.2.2.2.2.2.2.2.2.2.1 (by decide))
  refine OGot.go (fun t k => Jvm.RoadKit.acmp (g := (mkF m 11 #[.val (.ref w_ACTIVITY)] [(.ref w_MESSAGE_START_EVENT), (.ref w_ACTIVITY)])) X4 hx rfl rfl rfl (pc0 := 11) (pc' := 14) (same := false) rfl (hb hby d2_11) rfl (decide_eq_false fun q => ne5 (Value.ref.inj q)) (by decide) (by decide) k) ?_
  show OGot p.tables e below (T4.setTop (mkF m 14 #[.val (.ref w_ACTIVITY)] [])) _
  refine OGot.go (fun t k => XS.aloadN X4.here hx rfl (hb hby d2_14) rfl rfl k) ?_
  show OGot p.tables e below (T4.setTop (mkF m 15 #[.val (.ref w_ACTIVITY)] [(.ref w_ACTIVITY)])) _
  obtain ⟨T6, X6, e6, st6⟩ := getS2 X4 hx hZ hown (host := "") (Or.inl (ow hw 18 rfl)) Via.refl e4 (G.2.2.2.2.2.2.1.ext O0.2) (g := (mkF m 15 #[.val (.ref w_ACTIVITY)] [(.ref w_ACTIVITY)])) rfl (hb hby d2_15)
  refine OGot.go st6 ?_
  show OGot p.tables e below (T6.setTop (mkF m 18 #[.val (.ref w_ACTIVITY)] [(.ref w_MESSAGE_BOUNDARY_EVENT), (.ref w_ACTIVITY)])) _
  have ne7 : w_ACTIVITY ≠ w_MESSAGE_BOUNDARY_EVENT := (Fld.ne G.2.2.2.2.2.2.2.2.2.2.2.2.2.2.2.2.2.2.2.2.2.2.2.2.2.2.2.2.2.2.2.2.2.2.2.2.2.2.2.2.2.2.2.1 G.2.2.2.2.2.2.2.2.2.2.2.2.2.2.2.2.2.2.2.2.2.2.2.2.2.2.2.2.2.2.2.2.2.1 (by decide))
  refine OGot.go (fun t k => Jvm.RoadKit.acmp (g := (mkF m 18 #[.val (.ref w_ACTIVITY)] [(.ref w_MESSAGE_BOUNDARY_EVENT), (.ref w_ACTIVITY)])) X6 hx rfl rfl rfl (pc0 := 18) (pc' := 25) (same := false) rfl (hb hby d2_18) rfl (decide_eq_false fun q => ne7 (Value.ref.inj q)) (by decide) (by decide) k) ?_
  show OGot p.tables e below (T6.setTop (mkF m 25 #[.val (.ref w_ACTIVITY)] [])) _
  refine OGot.go (fun t k => XS.iconst X6.here hx rfl (hb hby d2_25) k) ?_
  show OGot p.tables e below (T6.setTop (mkF m 26 #[.val (.ref w_ACTIVITY)] [(.int (0 : Int32))])) _
  obtain ⟨fs, hr, hrun, hended, hW, hsame⟩ := X6.leave (v := some (.int (0 : Int32))) (fun h => by rw [Bd.returns] at h; cases h)
  refine ⟨_, _, retN X6 hx (t := .boolean) Bd.returns (by simp) (hb hby d2_26) hr, hrun, hended, _, _, rfl, ?_, ⟨_, rfl⟩, hW, hsame.mono (by decide) (by decide)⟩
  exact (⟨rfl, N0, e6⟩ : Q2_4 Z w_START_EVENT w_RECEPTION w_MESSAGE_START_EVENT w_MESSAGE_BOUNDARY_EVENT w_TERMINATE_END_EVENT w_LINK_THROW_EVENT w_BOUNDARY_EVENT w_LINK_CATCH_EVENT w_END_EVENT w_EVENT_BASED_GATEWAY w_INCLUSIVE_GATEWAY w_EXCLUSIVE_GATEWAY w_SUB_PROCESS w_ACTIVITY w_PARALLEL_GATEWAY  h0 n0 _ T6.heap _)
theorem d1_44 : decode method_2_code 44 = .ok (.iload_n 0, 1) := by decide +kernel
theorem d1_45 : decode method_2_code 45 = .ok (.iconst 5, 1) := by decide +kernel
theorem d1_46 : decode method_2_code 46 = .ok (.if_icmp .ne 7, 3) := by decide +kernel
theorem d1_49 : decode method_2_code 49 = .ok (.getstatic 25, 3) := by decide +kernel
theorem d1_52 : decode method_2_code 52 = .ok (.areturn, 1) := by decide +kernel
def Q1_5 (Z : State) (w_START_EVENT : Addr) (w_RECEPTION : Addr) (w_MESSAGE_START_EVENT : Addr) (w_MESSAGE_BOUNDARY_EVENT : Addr) (w_TERMINATE_END_EVENT : Addr) (w_LINK_THROW_EVENT : Addr) (w_BOUNDARY_EVENT : Addr) (w_LINK_CATCH_EVENT : Addr) (w_END_EVENT : Addr) (w_EVENT_BASED_GATEWAY : Addr) (w_INCLUSIVE_GATEWAY : Addr) (w_EXCLUSIVE_GATEWAY : Addr) (w_SUB_PROCESS : Addr) (w_ACTIVITY : Addr) (w_PARALLEL_GATEWAY : Addr)  (h0 : Heap) (n0 : Nat) (v : Option Value) (h : Heap) (L : List Loc) : Prop := v = some (.ref w_LINK_THROW_EVENT) ∧ Fr n0 L ∧ h = h0
theorem ef1_5 (m : MethodId)  : entryFrame m #[(.int (5 : Int32))] 1 = mkF m 0 #[.val (.int (5 : Int32))] [] := by first | (simp [entryFrame, mkF, argsToLocals, Value.category]; done) | rfl
set_option maxRecDepth 65536 in
set_option maxHeartbeats 40000000 in
theorem rm1_5 (l : Launch) (Z : State) (a0 : Array Value) (hw : ∀ d ∈ tables_1, d.before a0 Z = true) (ws : List Jvm.Cond) {w_START_EVENT : Addr} {w_RECEPTION : Addr} {w_MESSAGE_START_EVENT : Addr} {w_MESSAGE_BOUNDARY_EVENT : Addr} {w_TERMINATE_END_EVENT : Addr} {w_LINK_THROW_EVENT : Addr} {w_BOUNDARY_EVENT : Addr} {w_LINK_CATCH_EVENT : Addr} {w_END_EVENT : Addr} {w_EVENT_BASED_GATEWAY : Addr} {w_INCLUSIVE_GATEWAY : Addr} {w_EXCLUSIVE_GATEWAY : Addr} {w_SUB_PROCESS : Addr} {w_ACTIVITY : Addr} {w_PARALLEL_GATEWAY : Addr} (G : Glob Z w_START_EVENT w_RECEPTION w_MESSAGE_START_EVENT w_MESSAGE_BOUNDARY_EVENT w_TERMINATE_END_EVENT w_LINK_THROW_EVENT w_BOUNDARY_EVENT w_LINK_CATCH_EVENT w_END_EVENT w_EVENT_BASED_GATEWAY w_INCLUSIVE_GATEWAY w_EXCLUSIVE_GATEWAY w_SUB_PROCESS w_ACTIVITY w_PARALLEL_GATEWAY)  (h0 : Heap) (n0 : Nat) (O0 : Old Z n0 h0) :
    MetFree l (⟨"com/example/chorale/chorale/KindReceivesPinLaw", "kindAt", "(I)Lcom/example/chorale/chorale/FlowGraph$Kind;"⟩ : MethodName) (head1 (Jvm.Cond.code (⟨"com/example/chorale/chorale/KindReceivesPinLaw", "kindAt", "(I)Lcom/example/chorale/chorale/FlowGraph$Kind;"⟩ : MethodName) method_2_code 1 (some (.object "com/example/chorale/chorale/FlowGraph$Kind")) :: ws) ({ frames := 0, cells := 0, slots := 0, locals := 0 } : Room)) (fun a U => a = #[(.int (5 : Int32))] ∧ Z.Warmed39 U.vm ∧ U.heap = h0) (fun _ _ _ _ _ => True) (fun _ U o U' => ∃ v L, o = .returned v ∧ Q1_5 Z w_START_EVENT w_RECEPTION w_MESSAGE_START_EVENT w_MESSAGE_BOUNDARY_EVENT w_TERMINATE_END_EVENT w_LINK_THROW_EVENT w_BOUNDARY_EVENT w_LINK_CATCH_EVENT w_END_EVENT w_EVENT_BASED_GATEWAY w_INCLUSIVE_GATEWAY w_EXCLUSIVE_GATEWAY w_SUB_PROCESS w_ACTIVITY w_PARALLEL_GATEWAY  h0 n0 v U'.heap L ∧ FrameEnd U o U' L ({ frames := 0, cells := 0, slots := 0, locals := 0 } : Room).cells ({ frames := 0, cells := 0, slots := 0, locals := 0 } : Room).slots) := by
  refine MetFree.of_bodySF (plainFor_of_name pn_com_example_chorale_chorale_KindReceivesPinLaw) hisR ?_
  intro p e s m args below meth c s₁ Bd hml0 hP hK
  obtain ⟨rfl, hZ, hh⟩ := hP
  have hx := Bd.exec
  have hby := Bd.bytes
  have hml : c.maxLocals = 1 := hml0
  have hown : s.vm.findClass "com/example/chorale/chorale/KindReceivesPinLaw" = some m.cls := findClass_of_methodNamed Bd.named
  have hnm := (name_of_methodNamed Bd.named Bd.method).1
  have X0 : Stand p l e ({ frames := 0, cells := 0, slots := 0, locals := 0 } : Room) s m #[(.int (5 : Int32))] below meth c s₁ [] 0 0 := Stand.of_body Bd
  have e0 : s₁.heap = h0 := by rw [← hh, Bd.state]; rfl
  have N0 := Fr.nil n0
  show OGot p.tables e below (s₁.setTop (entryFrame m #[(.int (5 : Int32))] 1)) _
  refine OGot.go (fun t k => castTop (ef1_5 m ) k) ?_
  show OGot p.tables e below (s₁.setTop (mkF m 0 #[.val (.int (5 : Int32))] [])) _
  refine OGot.go (fun t k => XS.iloadN X0.here hx rfl (hb hby d1_0) rfl k) ?_
  show OGot p.tables e below (s₁.setTop (mkF m 1 #[.val (.int (5 : Int32))] [(.int (5 : Int32))])) _
  refine OGot.go (fun t k => XS.ifYes X0.here hx rfl (pc0 := 1) (pc' := 8) rfl (hb hby d1_1) rfl (by decide) (by decide) (by decide) k) ?_
  show OGot p.tables e below (s₁.setTop (mkF m 8 #[.val (.int (5 : Int32))] [])) _
  refine OGot.go (fun t k => XS.iloadN X0.here hx rfl (hb hby d1_8) rfl k) ?_
  show OGot p.tables e below (s₁.setTop (mkF m 9 #[.val (.int (5 : Int32))] [(.int (5 : Int32))])) _
  refine OGot.go (fun t k => XS.iconst X0.here hx rfl (hb hby d1_9) k) ?_
  show OGot p.tables e below (s₁.setTop (mkF m 10 #[.val (.int (5 : Int32))] [(.int (1 : Int32)), (.int (5 : Int32))])) _
  refine OGot.go (fun t k => XS.icmpYes X0.here hx rfl (pc0 := 10) (pc' := 17) rfl (hb hby d1_10) rfl (by decide) (by decide) (by decide) k) ?_
  show OGot p.tables e below (s₁.setTop (mkF m 17 #[.val (.int (5 : Int32))] [])) _
  refine OGot.go (fun t k => XS.iloadN X0.here hx rfl (hb hby d1_17) rfl k) ?_
  show OGot p.tables e below (s₁.setTop (mkF m 18 #[.val (.int (5 : Int32))] [(.int (5 : Int32))])) _
  refine OGot.go (fun t k => XS.iconst X0.here hx rfl (hb hby d1_18) k) ?_
  show OGot p.tables e below (s₁.setTop (mkF m 19 #[.val (.int (5 : Int32))] [(.int (2 : Int32)), (.int (5 : Int32))])) _
  refine OGot.go (fun t k => XS.icmpYes X0.here hx rfl (pc0 := 19) (pc' := 26) rfl (hb hby d1_19) rfl (by decide) (by decide) (by decide) k) ?_
  show OGot p.tables e below (s₁.setTop (mkF m 26 #[.val (.int (5 : Int32))] [])) _
  refine OGot.go (fun t k => XS.iloadN X0.here hx rfl (hb hby d1_26) rfl k) ?_
  show OGot p.tables e below (s₁.setTop (mkF m 27 #[.val (.int (5 : Int32))] [(.int (5 : Int32))])) _
  refine OGot.go (fun t k => XS.iconst X0.here hx rfl (hb hby d1_27) k) ?_
  show OGot p.tables e below (s₁.setTop (mkF m 28 #[.val (.int (5 : Int32))] [(.int (3 : Int32)), (.int (5 : Int32))])) _
  refine OGot.go (fun t k => XS.icmpYes X0.here hx rfl (pc0 := 28) (pc' := 35) rfl (hb hby d1_28) rfl (by decide) (by decide) (by decide) k) ?_
  show OGot p.tables e below (s₁.setTop (mkF m 35 #[.val (.int (5 : Int32))] [])) _
  refine OGot.go (fun t k => XS.iloadN X0.here hx rfl (hb hby d1_35) rfl k) ?_
  show OGot p.tables e below (s₁.setTop (mkF m 36 #[.val (.int (5 : Int32))] [(.int (5 : Int32))])) _
  refine OGot.go (fun t k => XS.iconst X0.here hx rfl (hb hby d1_36) k) ?_
  show OGot p.tables e below (s₁.setTop (mkF m 37 #[.val (.int (5 : Int32))] [(.int (4 : Int32)), (.int (5 : Int32))])) _
  refine OGot.go (fun t k => XS.icmpYes X0.here hx rfl (pc0 := 37) (pc' := 44) rfl (hb hby d1_37) rfl (by decide) (by decide) (by decide) k) ?_
  show OGot p.tables e below (s₁.setTop (mkF m 44 #[.val (.int (5 : Int32))] [])) _
  refine OGot.go (fun t k => XS.iloadN X0.here hx rfl (hb hby d1_44) rfl k) ?_
  show OGot p.tables e below (s₁.setTop (mkF m 45 #[.val (.int (5 : Int32))] [(.int (5 : Int32))])) _
  refine OGot.go (fun t k => XS.iconst X0.here hx rfl (hb hby d1_45) k) ?_
  show OGot p.tables e below (s₁.setTop (mkF m 46 #[.val (.int (5 : Int32))] [(.int (5 : Int32)), (.int (5 : Int32))])) _
  refine OGot.go (fun t k => XS.icmpNo X0.here hx rfl (hb hby d1_46) rfl (by decide) k) ?_
  show OGot p.tables e below (s₁.setTop (mkF m 49 #[.val (.int (5 : Int32))] [])) _
  obtain ⟨T1, X1, e1, st1⟩ := getS2 X0 hx hZ hown (host := "") (Or.inl (ow hw 22 rfl)) Via.refl e0 (G.2.2.2.2.2.2.2.2.2.2.1.ext O0.2) (g := (mkF m 49 #[.val (.int (5 : Int32))] [])) rfl (hb hby d1_49)
  refine OGot.go st1 ?_
  show OGot p.tables e below (T1.setTop (mkF m 52 #[.val (.int (5 : Int32))] [(.ref w_LINK_THROW_EVENT)])) _
  obtain ⟨fs, hr, hrun, hended, hW, hsame⟩ := X1.leave (v := some (.ref w_LINK_THROW_EVENT)) (fun h => by rw [Bd.returns] at h; cases h)
  refine ⟨_, _, oretA X1 hx Bd.returns rfl rfl (hb hby d1_52) hr, hrun, hended, _, _, rfl, ?_, ⟨_, rfl⟩, hW, hsame.mono (by decide) (by decide)⟩
  exact (⟨rfl, N0, e1⟩ : Q1_5 Z w_START_EVENT w_RECEPTION w_MESSAGE_START_EVENT w_MESSAGE_BOUNDARY_EVENT w_TERMINATE_END_EVENT w_LINK_THROW_EVENT w_BOUNDARY_EVENT w_LINK_CATCH_EVENT w_END_EVENT w_EVENT_BASED_GATEWAY w_INCLUSIVE_GATEWAY w_EXCLUSIVE_GATEWAY w_SUB_PROCESS w_ACTIVITY w_PARALLEL_GATEWAY  h0 n0 _ T1.heap _)
def Q2_5 (Z : State) (w_START_EVENT : Addr) (w_RECEPTION : Addr) (w_MESSAGE_START_EVENT : Addr) (w_MESSAGE_BOUNDARY_EVENT : Addr) (w_TERMINATE_END_EVENT : Addr) (w_LINK_THROW_EVENT : Addr) (w_BOUNDARY_EVENT : Addr) (w_LINK_CATCH_EVENT : Addr) (w_END_EVENT : Addr) (w_EVENT_BASED_GATEWAY : Addr) (w_INCLUSIVE_GATEWAY : Addr) (w_EXCLUSIVE_GATEWAY : Addr) (w_SUB_PROCESS : Addr) (w_ACTIVITY : Addr) (w_PARALLEL_GATEWAY : Addr)  (h0 : Heap) (n0 : Nat) (v : Option Value) (h : Heap) (L : List Loc) : Prop := v = some (.int (0 : Int32)) ∧ Fr n0 L ∧ h = h0
theorem ef2_5 (m : MethodId) (x0 : Addr) : entryFrame m #[(.ref x0)] 1 = mkF m 0 #[.val (.ref x0)] [] := by first | (simp [entryFrame, mkF, argsToLocals, Value.category]; done) | rfl
set_option maxRecDepth 65536 in
set_option maxHeartbeats 40000000 in
theorem rm2_5 (l : Launch) (Z : State) (a0 : Array Value) (hw : ∀ d ∈ tables_1, d.before a0 Z = true) (ws : List Jvm.Cond) {w_START_EVENT : Addr} {w_RECEPTION : Addr} {w_MESSAGE_START_EVENT : Addr} {w_MESSAGE_BOUNDARY_EVENT : Addr} {w_TERMINATE_END_EVENT : Addr} {w_LINK_THROW_EVENT : Addr} {w_BOUNDARY_EVENT : Addr} {w_LINK_CATCH_EVENT : Addr} {w_END_EVENT : Addr} {w_EVENT_BASED_GATEWAY : Addr} {w_INCLUSIVE_GATEWAY : Addr} {w_EXCLUSIVE_GATEWAY : Addr} {w_SUB_PROCESS : Addr} {w_ACTIVITY : Addr} {w_PARALLEL_GATEWAY : Addr} (G : Glob Z w_START_EVENT w_RECEPTION w_MESSAGE_START_EVENT w_MESSAGE_BOUNDARY_EVENT w_TERMINATE_END_EVENT w_LINK_THROW_EVENT w_BOUNDARY_EVENT w_LINK_CATCH_EVENT w_END_EVENT w_EVENT_BASED_GATEWAY w_INCLUSIVE_GATEWAY w_EXCLUSIVE_GATEWAY w_SUB_PROCESS w_ACTIVITY w_PARALLEL_GATEWAY)  (h0 : Heap) (n0 : Nat) (O0 : Old Z n0 h0) :
    MetFree l (⟨"com/example/chorale/chorale/FlowGraph$Kind", "receives", "()Z"⟩ : MethodName) (head1 (Jvm.Cond.code (⟨"com/example/chorale/chorale/FlowGraph$Kind", "receives", "()Z"⟩ : MethodName) prog_73_method_4_code 1 (some .boolean) :: ws) ({ frames := 0, cells := 0, slots := 0, locals := 0 } : Room)) (fun a U => a = #[(.ref w_LINK_THROW_EVENT)] ∧ Z.Warmed39 U.vm ∧ U.heap = h0) (fun _ _ _ _ _ => True) (fun _ U o U' => ∃ v L, o = .returned v ∧ Q2_5 Z w_START_EVENT w_RECEPTION w_MESSAGE_START_EVENT w_MESSAGE_BOUNDARY_EVENT w_TERMINATE_END_EVENT w_LINK_THROW_EVENT w_BOUNDARY_EVENT w_LINK_CATCH_EVENT w_END_EVENT w_EVENT_BASED_GATEWAY w_INCLUSIVE_GATEWAY w_EXCLUSIVE_GATEWAY w_SUB_PROCESS w_ACTIVITY w_PARALLEL_GATEWAY  h0 n0 v U'.heap L ∧ FrameEnd U o U' L ({ frames := 0, cells := 0, slots := 0, locals := 0 } : Room).cells ({ frames := 0, cells := 0, slots := 0, locals := 0 } : Room).slots) := by
  refine MetFree.of_bodySF (plainFor_of_name pn_com_example_chorale_chorale_FlowGraph_Kind) hisR ?_
  intro p e s m args below meth c s₁ Bd hml0 hP hK
  obtain ⟨rfl, hZ, hh⟩ := hP
  have hx := Bd.exec
  have hby := Bd.bytes
  have hml : c.maxLocals = 1 := hml0
  have hown : s.vm.findClass "com/example/chorale/chorale/FlowGraph$Kind" = some m.cls := findClass_of_methodNamed Bd.named
  have hnm := (name_of_methodNamed Bd.named Bd.method).1
  have X0 : Stand p l e ({ frames := 0, cells := 0, slots := 0, locals := 0 } : Room) s m #[(.ref w_LINK_THROW_EVENT)] below meth c s₁ [] 0 0 := Stand.of_body Bd
  have e0 : s₁.heap = h0 := by rw [← hh, Bd.state]; rfl
  have N0 := Fr.nil n0
  show OGot p.tables e below (s₁.setTop (entryFrame m #[(.ref w_LINK_THROW_EVENT)] 1)) _
  refine OGot.go (fun t k => castTop (ef2_5 m w_LINK_THROW_EVENT) k) ?_
  show OGot p.tables e below (s₁.setTop (mkF m 0 #[.val (.ref w_LINK_THROW_EVENT)] [])) _
  refine OGot.go (fun t k => XS.aloadN X0.here hx rfl (hb hby d2_0) rfl rfl k) ?_
  show OGot p.tables e below (s₁.setTop (mkF m 1 #[.val (.ref w_LINK_THROW_EVENT)] [(.ref w_LINK_THROW_EVENT)])) _
  obtain ⟨T2, X2, e2, st2⟩ := getS2 X0 hx hZ hown (host := "") (Or.inl (ow hw 14 rfl)) Via.refl e0 (G.2.2.1.ext O0.2) (g := (mkF m 1 #[.val (.ref w_LINK_THROW_EVENT)] [(.ref w_LINK_THROW_EVENT)])) rfl (hb hby d2_1)
  refine OGot.go st2 ?_
  show OGot p.tables e below (T2.setTop (mkF m 4 #[.val (.ref w_LINK_THROW_EVENT)] [(.ref w_RECEPTION), (.ref w_LINK_THROW_EVENT)])) _
  have ne3 : w_LINK_THROW_EVENT ≠ w_RECEPTION := (Fld.ne G.2.2.2.2.2.2.2.2.2.2.2.2.2.2.2.2.2.2.2.2.2.2.2.2.2.2.2.2.2.2.2.2.2.2.2.1 G.2.2.2.2.2.2.2.2.2.2.2.2.2.2.2.2.2.2.2.2.2.2.2.2.2.2.2.2.2.2.2.1 (by decide))
  refine OGot.go (fun t k => Jvm.RoadKit.acmp (g := (mkF m 4 #[.val (.ref w_LINK_THROW_EVENT)] [(.ref w_RECEPTION), (.ref w_LINK_THROW_EVENT)])) X2 hx rfl rfl rfl (pc0 := 4) (pc' := 7) (same := false) rfl (hb hby d2_4) rfl (decide_eq_false fun q => ne3 (Value.ref.inj q)) (by decide) (by decide) k) ?_
  show OGot p.tables e below (T2.setTop (mkF m 7 #[.val (.ref w_LINK_THROW_EVENT)] [])) _
  refine OGot.go (fun t k => XS.aloadN X2.here hx rfl (hb hby d2_7) rfl rfl k) ?_
  show OGot p.tables e below (T2.setTop (mkF m 8 #[.val (.ref w_LINK_THROW_EVENT)] [(.ref w_LINK_THROW_EVENT)])) _
  obtain ⟨T4, X4, e4, st4⟩ := getS2 X2 hx hZ hown (host := "") (Or.inl (ow hw 16 rfl)) Via.refl e2 (G.2.2.2.2.1.ext O0.2) (g := (mkF m 8 #[.val (.ref w_LINK_THROW_EVENT)] [(.ref w_LINK_THROW_EVENT)])) rfl (hb hby d2_8)
  refine OGot.go st4 ?_
  show OGot p.tables e below (T4.setTop (mkF m 11 #[.val (.ref w_LINK_THROW_EVENT)] [(.ref w_MESSAGE_START_EVENT), (.ref w_LINK_THROW_EVENT)])) _
  have ne5 : w_LINK_THROW_EVENT ≠ w_MESSAGE_START_EVENT := (Fld.ne G.2.2.2.2.2.2.2.2.2.2.2.2.2.2.2.2.2.2.2.2.2.2.2.2.2.2.2.2.2.2.2.2.2.2.2.1 G.2.2.2.2.2.2.2.2.2.2.2.2.2.2.2.2.2.2.2.2.2.2.2.2.2.2.2.2.2.2.2.2.1 (by decide))
  refine OGot.go (fun t k => Jvm.RoadKit.acmp (g := (mkF m 11 #[.val (.ref w_LINK_THROW_EVENT)] [(.ref w_MESSAGE_START_EVENT), (.ref w_LINK_THROW_EVENT)])) X4 hx rfl rfl rfl (pc0 := 11) (pc' := 14) (same := false) rfl (hb hby d2_11) rfl (decide_eq_false fun q => ne5 (Value.ref.inj q)) (by decide) (by decide) k) ?_
  show OGot p.tables e below (T4.setTop (mkF m 14 #[.val (.ref w_LINK_THROW_EVENT)] [])) _
  refine OGot.go (fun t k => XS.aloadN X4.here hx rfl (hb hby d2_14) rfl rfl k) ?_
  show OGot p.tables e below (T4.setTop (mkF m 15 #[.val (.ref w_LINK_THROW_EVENT)] [(.ref w_LINK_THROW_EVENT)])) _
  obtain ⟨T6, X6, e6, st6⟩ := getS2 X4 hx hZ hown (host := "") (Or.inl (ow hw 18 rfl)) Via.refl e4 (G.2.2.2.2.2.2.1.ext O0.2) (g := (mkF m 15 #[.val (.ref w_LINK_THROW_EVENT)] [(.ref w_LINK_THROW_EVENT)])) rfl (hb hby d2_15)
  refine OGot.go st6 ?_
  show OGot p.tables e below (T6.setTop (mkF m 18 #[.val (.ref w_LINK_THROW_EVENT)] [(.ref w_MESSAGE_BOUNDARY_EVENT), (.ref w_LINK_THROW_EVENT)])) _
  have ne7 : w_LINK_THROW_EVENT ≠ w_MESSAGE_BOUNDARY_EVENT := (Fld.ne G.2.2.2.2.2.2.2.2.2.2.2.2.2.2.2.2.2.2.2.2.2.2.2.2.2.2.2.2.2.2.2.2.2.2.2.1 G.2.2.2.2.2.2.2.2.2.2.2.2.2.2.2.2.2.2.2.2.2.2.2.2.2.2.2.2.2.2.2.2.2.1 (by decide))
  refine OGot.go (fun t k => Jvm.RoadKit.acmp (g := (mkF m 18 #[.val (.ref w_LINK_THROW_EVENT)] [(.ref w_MESSAGE_BOUNDARY_EVENT), (.ref w_LINK_THROW_EVENT)])) X6 hx rfl rfl rfl (pc0 := 18) (pc' := 25) (same := false) rfl (hb hby d2_18) rfl (decide_eq_false fun q => ne7 (Value.ref.inj q)) (by decide) (by decide) k) ?_
  show OGot p.tables e below (T6.setTop (mkF m 25 #[.val (.ref w_LINK_THROW_EVENT)] [])) _
  refine OGot.go (fun t k => XS.iconst X6.here hx rfl (hb hby d2_25) k) ?_
  show OGot p.tables e below (T6.setTop (mkF m 26 #[.val (.ref w_LINK_THROW_EVENT)] [(.int (0 : Int32))])) _
  obtain ⟨fs, hr, hrun, hended, hW, hsame⟩ := X6.leave (v := some (.int (0 : Int32))) (fun h => by rw [Bd.returns] at h; cases h)
  refine ⟨_, _, retN X6 hx (t := .boolean) Bd.returns (by simp) (hb hby d2_26) hr, hrun, hended, _, _, rfl, ?_, ⟨_, rfl⟩, hW, hsame.mono (by decide) (by decide)⟩
  exact (⟨rfl, N0, e6⟩ : Q2_5 Z w_START_EVENT w_RECEPTION w_MESSAGE_START_EVENT w_MESSAGE_BOUNDARY_EVENT w_TERMINATE_END_EVENT w_LINK_THROW_EVENT w_BOUNDARY_EVENT w_LINK_CATCH_EVENT w_END_EVENT w_EVENT_BASED_GATEWAY w_INCLUSIVE_GATEWAY w_EXCLUSIVE_GATEWAY w_SUB_PROCESS w_ACTIVITY w_PARALLEL_GATEWAY  h0 n0 _ T6.heap _)
theorem d1_53 : decode method_2_code 53 = .ok (.iload_n 0, 1) := by decide +kernel
theorem d1_54 : decode method_2_code 54 = .ok (.bipush 6, 2) := by decide +kernel
theorem d1_56 : decode method_2_code 56 = .ok (.if_icmp .ne 7, 3) := by decide +kernel
theorem d1_59 : decode method_2_code 59 = .ok (.getstatic 28, 3) := by decide +kernel
theorem d1_62 : decode method_2_code 62 = .ok (.areturn, 1) := by decide +kernel
def Q1_6 (Z : State) (w_START_EVENT : Addr) (w_RECEPTION : Addr) (w_MESSAGE_START_EVENT : Addr) (w_MESSAGE_BOUNDARY_EVENT : Addr) (w_TERMINATE_END_EVENT : Addr) (w_LINK_THROW_EVENT : Addr) (w_BOUNDARY_EVENT : Addr) (w_LINK_CATCH_EVENT : Addr) (w_END_EVENT : Addr) (w_EVENT_BASED_GATEWAY : Addr) (w_INCLUSIVE_GATEWAY : Addr) (w_EXCLUSIVE_GATEWAY : Addr) (w_SUB_PROCESS : Addr) (w_ACTIVITY : Addr) (w_PARALLEL_GATEWAY : Addr)  (h0 : Heap) (n0 : Nat) (v : Option Value) (h : Heap) (L : List Loc) : Prop := v = some (.ref w_LINK_CATCH_EVENT) ∧ Fr n0 L ∧ h = h0
theorem ef1_6 (m : MethodId)  : entryFrame m #[(.int (6 : Int32))] 1 = mkF m 0 #[.val (.int (6 : Int32))] [] := by first | (simp [entryFrame, mkF, argsToLocals, Value.category]; done) | rfl
set_option maxRecDepth 65536 in
set_option maxHeartbeats 40000000 in
theorem rm1_6 (l : Launch) (Z : State) (a0 : Array Value) (hw : ∀ d ∈ tables_1, d.before a0 Z = true) (ws : List Jvm.Cond) {w_START_EVENT : Addr} {w_RECEPTION : Addr} {w_MESSAGE_START_EVENT : Addr} {w_MESSAGE_BOUNDARY_EVENT : Addr} {w_TERMINATE_END_EVENT : Addr} {w_LINK_THROW_EVENT : Addr} {w_BOUNDARY_EVENT : Addr} {w_LINK_CATCH_EVENT : Addr} {w_END_EVENT : Addr} {w_EVENT_BASED_GATEWAY : Addr} {w_INCLUSIVE_GATEWAY : Addr} {w_EXCLUSIVE_GATEWAY : Addr} {w_SUB_PROCESS : Addr} {w_ACTIVITY : Addr} {w_PARALLEL_GATEWAY : Addr} (G : Glob Z w_START_EVENT w_RECEPTION w_MESSAGE_START_EVENT w_MESSAGE_BOUNDARY_EVENT w_TERMINATE_END_EVENT w_LINK_THROW_EVENT w_BOUNDARY_EVENT w_LINK_CATCH_EVENT w_END_EVENT w_EVENT_BASED_GATEWAY w_INCLUSIVE_GATEWAY w_EXCLUSIVE_GATEWAY w_SUB_PROCESS w_ACTIVITY w_PARALLEL_GATEWAY)  (h0 : Heap) (n0 : Nat) (O0 : Old Z n0 h0) :
    MetFree l (⟨"com/example/chorale/chorale/KindReceivesPinLaw", "kindAt", "(I)Lcom/example/chorale/chorale/FlowGraph$Kind;"⟩ : MethodName) (head1 (Jvm.Cond.code (⟨"com/example/chorale/chorale/KindReceivesPinLaw", "kindAt", "(I)Lcom/example/chorale/chorale/FlowGraph$Kind;"⟩ : MethodName) method_2_code 1 (some (.object "com/example/chorale/chorale/FlowGraph$Kind")) :: ws) ({ frames := 0, cells := 0, slots := 0, locals := 0 } : Room)) (fun a U => a = #[(.int (6 : Int32))] ∧ Z.Warmed39 U.vm ∧ U.heap = h0) (fun _ _ _ _ _ => True) (fun _ U o U' => ∃ v L, o = .returned v ∧ Q1_6 Z w_START_EVENT w_RECEPTION w_MESSAGE_START_EVENT w_MESSAGE_BOUNDARY_EVENT w_TERMINATE_END_EVENT w_LINK_THROW_EVENT w_BOUNDARY_EVENT w_LINK_CATCH_EVENT w_END_EVENT w_EVENT_BASED_GATEWAY w_INCLUSIVE_GATEWAY w_EXCLUSIVE_GATEWAY w_SUB_PROCESS w_ACTIVITY w_PARALLEL_GATEWAY  h0 n0 v U'.heap L ∧ FrameEnd U o U' L ({ frames := 0, cells := 0, slots := 0, locals := 0 } : Room).cells ({ frames := 0, cells := 0, slots := 0, locals := 0 } : Room).slots) := by
  refine MetFree.of_bodySF (plainFor_of_name pn_com_example_chorale_chorale_KindReceivesPinLaw) hisR ?_
  intro p e s m args below meth c s₁ Bd hml0 hP hK
  obtain ⟨rfl, hZ, hh⟩ := hP
  have hx := Bd.exec
  have hby := Bd.bytes
  have hml : c.maxLocals = 1 := hml0
  have hown : s.vm.findClass "com/example/chorale/chorale/KindReceivesPinLaw" = some m.cls := findClass_of_methodNamed Bd.named
  have hnm := (name_of_methodNamed Bd.named Bd.method).1
  have X0 : Stand p l e ({ frames := 0, cells := 0, slots := 0, locals := 0 } : Room) s m #[(.int (6 : Int32))] below meth c s₁ [] 0 0 := Stand.of_body Bd
  have e0 : s₁.heap = h0 := by rw [← hh, Bd.state]; rfl
  have N0 := Fr.nil n0
  show OGot p.tables e below (s₁.setTop (entryFrame m #[(.int (6 : Int32))] 1)) _
  refine OGot.go (fun t k => castTop (ef1_6 m ) k) ?_
  show OGot p.tables e below (s₁.setTop (mkF m 0 #[.val (.int (6 : Int32))] [])) _
  refine OGot.go (fun t k => XS.iloadN X0.here hx rfl (hb hby d1_0) rfl k) ?_
  show OGot p.tables e below (s₁.setTop (mkF m 1 #[.val (.int (6 : Int32))] [(.int (6 : Int32))])) _
  refine OGot.go (fun t k => XS.ifYes X0.here hx rfl (pc0 := 1) (pc' := 8) rfl (hb hby d1_1) rfl (by decide) (by decide) (by decide) k) ?_
  show OGot p.tables e below (s₁.setTop (mkF m 8 #[.val (.int (6 : Int32))] [])) _
  refine OGot.go (fun t k => XS.iloadN X0.here hx rfl (hb hby d1_8) rfl k) ?_
  show OGot p.tables e below (s₁.setTop (mkF m 9 #[.val (.int (6 : Int32))] [(.int (6 : Int32))])) _
  refine OGot.go (fun t k => XS.iconst X0.here hx rfl (hb hby d1_9) k) ?_
  show OGot p.tables e below (s₁.setTop (mkF m 10 #[.val (.int (6 : Int32))] [(.int (1 : Int32)), (.int (6 : Int32))])) _
  refine OGot.go (fun t k => XS.icmpYes X0.here hx rfl (pc0 := 10) (pc' := 17) rfl (hb hby d1_10) rfl (by decide) (by decide) (by decide) k) ?_
  show OGot p.tables e below (s₁.setTop (mkF m 17 #[.val (.int (6 : Int32))] [])) _
  refine OGot.go (fun t k => XS.iloadN X0.here hx rfl (hb hby d1_17) rfl k) ?_
  show OGot p.tables e below (s₁.setTop (mkF m 18 #[.val (.int (6 : Int32))] [(.int (6 : Int32))])) _
  refine OGot.go (fun t k => XS.iconst X0.here hx rfl (hb hby d1_18) k) ?_
  show OGot p.tables e below (s₁.setTop (mkF m 19 #[.val (.int (6 : Int32))] [(.int (2 : Int32)), (.int (6 : Int32))])) _
  refine OGot.go (fun t k => XS.icmpYes X0.here hx rfl (pc0 := 19) (pc' := 26) rfl (hb hby d1_19) rfl (by decide) (by decide) (by decide) k) ?_
  show OGot p.tables e below (s₁.setTop (mkF m 26 #[.val (.int (6 : Int32))] [])) _
  refine OGot.go (fun t k => XS.iloadN X0.here hx rfl (hb hby d1_26) rfl k) ?_
  show OGot p.tables e below (s₁.setTop (mkF m 27 #[.val (.int (6 : Int32))] [(.int (6 : Int32))])) _
  refine OGot.go (fun t k => XS.iconst X0.here hx rfl (hb hby d1_27) k) ?_
  show OGot p.tables e below (s₁.setTop (mkF m 28 #[.val (.int (6 : Int32))] [(.int (3 : Int32)), (.int (6 : Int32))])) _
  refine OGot.go (fun t k => XS.icmpYes X0.here hx rfl (pc0 := 28) (pc' := 35) rfl (hb hby d1_28) rfl (by decide) (by decide) (by decide) k) ?_
  show OGot p.tables e below (s₁.setTop (mkF m 35 #[.val (.int (6 : Int32))] [])) _
  refine OGot.go (fun t k => XS.iloadN X0.here hx rfl (hb hby d1_35) rfl k) ?_
  show OGot p.tables e below (s₁.setTop (mkF m 36 #[.val (.int (6 : Int32))] [(.int (6 : Int32))])) _
  refine OGot.go (fun t k => XS.iconst X0.here hx rfl (hb hby d1_36) k) ?_
  show OGot p.tables e below (s₁.setTop (mkF m 37 #[.val (.int (6 : Int32))] [(.int (4 : Int32)), (.int (6 : Int32))])) _
  refine OGot.go (fun t k => XS.icmpYes X0.here hx rfl (pc0 := 37) (pc' := 44) rfl (hb hby d1_37) rfl (by decide) (by decide) (by decide) k) ?_
  show OGot p.tables e below (s₁.setTop (mkF m 44 #[.val (.int (6 : Int32))] [])) _
  refine OGot.go (fun t k => XS.iloadN X0.here hx rfl (hb hby d1_44) rfl k) ?_
  show OGot p.tables e below (s₁.setTop (mkF m 45 #[.val (.int (6 : Int32))] [(.int (6 : Int32))])) _
  refine OGot.go (fun t k => XS.iconst X0.here hx rfl (hb hby d1_45) k) ?_
  show OGot p.tables e below (s₁.setTop (mkF m 46 #[.val (.int (6 : Int32))] [(.int (5 : Int32)), (.int (6 : Int32))])) _
  refine OGot.go (fun t k => XS.icmpYes X0.here hx rfl (pc0 := 46) (pc' := 53) rfl (hb hby d1_46) rfl (by decide) (by decide) (by decide) k) ?_
  show OGot p.tables e below (s₁.setTop (mkF m 53 #[.val (.int (6 : Int32))] [])) _
  refine OGot.go (fun t k => XS.iloadN X0.here hx rfl (hb hby d1_53) rfl k) ?_
  show OGot p.tables e below (s₁.setTop (mkF m 54 #[.val (.int (6 : Int32))] [(.int (6 : Int32))])) _
  refine OGot.go (fun t k => XS.bipush X0.here hx rfl (hb hby d1_54) k) ?_
  show OGot p.tables e below (s₁.setTop (mkF m 56 #[.val (.int (6 : Int32))] [(.int (6 : Int32)), (.int (6 : Int32))])) _
  refine OGot.go (fun t k => XS.icmpNo X0.here hx rfl (hb hby d1_56) rfl (by decide) k) ?_
  show OGot p.tables e below (s₁.setTop (mkF m 59 #[.val (.int (6 : Int32))] [])) _
  obtain ⟨T1, X1, e1, st1⟩ := getS2 X0 hx hZ hown (host := "") (Or.inl (ow hw 26 rfl)) Via.refl e0 (G.2.2.2.2.2.2.2.2.2.2.2.2.2.2.1.ext O0.2) (g := (mkF m 59 #[.val (.int (6 : Int32))] [])) rfl (hb hby d1_59)
  refine OGot.go st1 ?_
  show OGot p.tables e below (T1.setTop (mkF m 62 #[.val (.int (6 : Int32))] [(.ref w_LINK_CATCH_EVENT)])) _
  obtain ⟨fs, hr, hrun, hended, hW, hsame⟩ := X1.leave (v := some (.ref w_LINK_CATCH_EVENT)) (fun h => by rw [Bd.returns] at h; cases h)
  refine ⟨_, _, oretA X1 hx Bd.returns rfl rfl (hb hby d1_62) hr, hrun, hended, _, _, rfl, ?_, ⟨_, rfl⟩, hW, hsame.mono (by decide) (by decide)⟩
  exact (⟨rfl, N0, e1⟩ : Q1_6 Z w_START_EVENT w_RECEPTION w_MESSAGE_START_EVENT w_MESSAGE_BOUNDARY_EVENT w_TERMINATE_END_EVENT w_LINK_THROW_EVENT w_BOUNDARY_EVENT w_LINK_CATCH_EVENT w_END_EVENT w_EVENT_BASED_GATEWAY w_INCLUSIVE_GATEWAY w_EXCLUSIVE_GATEWAY w_SUB_PROCESS w_ACTIVITY w_PARALLEL_GATEWAY  h0 n0 _ T1.heap _)
def Q2_6 (Z : State) (w_START_EVENT : Addr) (w_RECEPTION : Addr) (w_MESSAGE_START_EVENT : Addr) (w_MESSAGE_BOUNDARY_EVENT : Addr) (w_TERMINATE_END_EVENT : Addr) (w_LINK_THROW_EVENT : Addr) (w_BOUNDARY_EVENT : Addr) (w_LINK_CATCH_EVENT : Addr) (w_END_EVENT : Addr) (w_EVENT_BASED_GATEWAY : Addr) (w_INCLUSIVE_GATEWAY : Addr) (w_EXCLUSIVE_GATEWAY : Addr) (w_SUB_PROCESS : Addr) (w_ACTIVITY : Addr) (w_PARALLEL_GATEWAY : Addr)  (h0 : Heap) (n0 : Nat) (v : Option Value) (h : Heap) (L : List Loc) : Prop := v = some (.int (0 : Int32)) ∧ Fr n0 L ∧ h = h0
theorem ef2_6 (m : MethodId) (x0 : Addr) : entryFrame m #[(.ref x0)] 1 = mkF m 0 #[.val (.ref x0)] [] := by first | (simp [entryFrame, mkF, argsToLocals, Value.category]; done) | rfl
set_option maxRecDepth 65536 in
set_option maxHeartbeats 40000000 in
theorem rm2_6 (l : Launch) (Z : State) (a0 : Array Value) (hw : ∀ d ∈ tables_1, d.before a0 Z = true) (ws : List Jvm.Cond) {w_START_EVENT : Addr} {w_RECEPTION : Addr} {w_MESSAGE_START_EVENT : Addr} {w_MESSAGE_BOUNDARY_EVENT : Addr} {w_TERMINATE_END_EVENT : Addr} {w_LINK_THROW_EVENT : Addr} {w_BOUNDARY_EVENT : Addr} {w_LINK_CATCH_EVENT : Addr} {w_END_EVENT : Addr} {w_EVENT_BASED_GATEWAY : Addr} {w_INCLUSIVE_GATEWAY : Addr} {w_EXCLUSIVE_GATEWAY : Addr} {w_SUB_PROCESS : Addr} {w_ACTIVITY : Addr} {w_PARALLEL_GATEWAY : Addr} (G : Glob Z w_START_EVENT w_RECEPTION w_MESSAGE_START_EVENT w_MESSAGE_BOUNDARY_EVENT w_TERMINATE_END_EVENT w_LINK_THROW_EVENT w_BOUNDARY_EVENT w_LINK_CATCH_EVENT w_END_EVENT w_EVENT_BASED_GATEWAY w_INCLUSIVE_GATEWAY w_EXCLUSIVE_GATEWAY w_SUB_PROCESS w_ACTIVITY w_PARALLEL_GATEWAY)  (h0 : Heap) (n0 : Nat) (O0 : Old Z n0 h0) :
    MetFree l (⟨"com/example/chorale/chorale/FlowGraph$Kind", "receives", "()Z"⟩ : MethodName) (head1 (Jvm.Cond.code (⟨"com/example/chorale/chorale/FlowGraph$Kind", "receives", "()Z"⟩ : MethodName) prog_73_method_4_code 1 (some .boolean) :: ws) ({ frames := 0, cells := 0, slots := 0, locals := 0 } : Room)) (fun a U => a = #[(.ref w_LINK_CATCH_EVENT)] ∧ Z.Warmed39 U.vm ∧ U.heap = h0) (fun _ _ _ _ _ => True) (fun _ U o U' => ∃ v L, o = .returned v ∧ Q2_6 Z w_START_EVENT w_RECEPTION w_MESSAGE_START_EVENT w_MESSAGE_BOUNDARY_EVENT w_TERMINATE_END_EVENT w_LINK_THROW_EVENT w_BOUNDARY_EVENT w_LINK_CATCH_EVENT w_END_EVENT w_EVENT_BASED_GATEWAY w_INCLUSIVE_GATEWAY w_EXCLUSIVE_GATEWAY w_SUB_PROCESS w_ACTIVITY w_PARALLEL_GATEWAY  h0 n0 v U'.heap L ∧ FrameEnd U o U' L ({ frames := 0, cells := 0, slots := 0, locals := 0 } : Room).cells ({ frames := 0, cells := 0, slots := 0, locals := 0 } : Room).slots) := by
  refine MetFree.of_bodySF (plainFor_of_name pn_com_example_chorale_chorale_FlowGraph_Kind) hisR ?_
  intro p e s m args below meth c s₁ Bd hml0 hP hK
  obtain ⟨rfl, hZ, hh⟩ := hP
  have hx := Bd.exec
  have hby := Bd.bytes
  have hml : c.maxLocals = 1 := hml0
  have hown : s.vm.findClass "com/example/chorale/chorale/FlowGraph$Kind" = some m.cls := findClass_of_methodNamed Bd.named
  have hnm := (name_of_methodNamed Bd.named Bd.method).1
  have X0 : Stand p l e ({ frames := 0, cells := 0, slots := 0, locals := 0 } : Room) s m #[(.ref w_LINK_CATCH_EVENT)] below meth c s₁ [] 0 0 := Stand.of_body Bd
  have e0 : s₁.heap = h0 := by rw [← hh, Bd.state]; rfl
  have N0 := Fr.nil n0
  show OGot p.tables e below (s₁.setTop (entryFrame m #[(.ref w_LINK_CATCH_EVENT)] 1)) _
  refine OGot.go (fun t k => castTop (ef2_6 m w_LINK_CATCH_EVENT) k) ?_
  show OGot p.tables e below (s₁.setTop (mkF m 0 #[.val (.ref w_LINK_CATCH_EVENT)] [])) _
  refine OGot.go (fun t k => XS.aloadN X0.here hx rfl (hb hby d2_0) rfl rfl k) ?_
  show OGot p.tables e below (s₁.setTop (mkF m 1 #[.val (.ref w_LINK_CATCH_EVENT)] [(.ref w_LINK_CATCH_EVENT)])) _
  obtain ⟨T2, X2, e2, st2⟩ := getS2 X0 hx hZ hown (host := "") (Or.inl (ow hw 14 rfl)) Via.refl e0 (G.2.2.1.ext O0.2) (g := (mkF m 1 #[.val (.ref w_LINK_CATCH_EVENT)] [(.ref w_LINK_CATCH_EVENT)])) rfl (hb hby d2_1)
  refine OGot.go st2 ?_
  show OGot p.tables e below (T2.setTop (mkF m 4 #[.val (.ref w_LINK_CATCH_EVENT)] [(.ref w_RECEPTION), (.ref w_LINK_CATCH_EVENT)])) _
  have ne3 : w_LINK_CATCH_EVENT ≠ w_RECEPTION := (Fld.ne G.2.2.2.2.2.2.2.2.2.2.2.2.2.2.2.2.2.2.2.2.2.2.2.2.2.2.2.2.2.2.2.2.2.2.2.2.2.1 G.2.2.2.2.2.2.2.2.2.2.2.2.2.2.2.2.2.2.2.2.2.2.2.2.2.2.2.2.2.2.2.1 (by decide))
  refine OGot.go (fun t k => Jvm.RoadKit.acmp (g := (mkF m 4 #[.val (.ref w_LINK_CATCH_EVENT)] [(.ref w_RECEPTION), (.ref w_LINK_CATCH_EVENT)])) X2 hx rfl rfl rfl (pc0 := 4) (pc' := 7) (same := false) rfl (hb hby d2_4) rfl (decide_eq_false fun q => ne3 (Value.ref.inj q)) (by decide) (by decide) k) ?_
  show OGot p.tables e below (T2.setTop (mkF m 7 #[.val (.ref w_LINK_CATCH_EVENT)] [])) _
  refine OGot.go (fun t k => XS.aloadN X2.here hx rfl (hb hby d2_7) rfl rfl k) ?_
  show OGot p.tables e below (T2.setTop (mkF m 8 #[.val (.ref w_LINK_CATCH_EVENT)] [(.ref w_LINK_CATCH_EVENT)])) _
  obtain ⟨T4, X4, e4, st4⟩ := getS2 X2 hx hZ hown (host := "") (Or.inl (ow hw 16 rfl)) Via.refl e2 (G.2.2.2.2.1.ext O0.2) (g := (mkF m 8 #[.val (.ref w_LINK_CATCH_EVENT)] [(.ref w_LINK_CATCH_EVENT)])) rfl (hb hby d2_8)
  refine OGot.go st4 ?_
  show OGot p.tables e below (T4.setTop (mkF m 11 #[.val (.ref w_LINK_CATCH_EVENT)] [(.ref w_MESSAGE_START_EVENT), (.ref w_LINK_CATCH_EVENT)])) _
  have ne5 : w_LINK_CATCH_EVENT ≠ w_MESSAGE_START_EVENT := (Fld.ne G.2.2.2.2.2.2.2.2.2.2.2.2.2.2.2.2.2.2.2.2.2.2.2.2.2.2.2.2.2.2.2.2.2.2.2.2.2.1 G.2.2.2.2.2.2.2.2.2.2.2.2.2.2.2.2.2.2.2.2.2.2.2.2.2.2.2.2.2.2.2.2.1 (by decide))
  refine OGot.go (fun t k => Jvm.RoadKit.acmp (g := (mkF m 11 #[.val (.ref w_LINK_CATCH_EVENT)] [(.ref w_MESSAGE_START_EVENT), (.ref w_LINK_CATCH_EVENT)])) X4 hx rfl rfl rfl (pc0 := 11) (pc' := 14) (same := false) rfl (hb hby d2_11) rfl (decide_eq_false fun q => ne5 (Value.ref.inj q)) (by decide) (by decide) k) ?_
  show OGot p.tables e below (T4.setTop (mkF m 14 #[.val (.ref w_LINK_CATCH_EVENT)] [])) _
  refine OGot.go (fun t k => XS.aloadN X4.here hx rfl (hb hby d2_14) rfl rfl k) ?_
  show OGot p.tables e below (T4.setTop (mkF m 15 #[.val (.ref w_LINK_CATCH_EVENT)] [(.ref w_LINK_CATCH_EVENT)])) _
  obtain ⟨T6, X6, e6, st6⟩ := getS2 X4 hx hZ hown (host := "") (Or.inl (ow hw 18 rfl)) Via.refl e4 (G.2.2.2.2.2.2.1.ext O0.2) (g := (mkF m 15 #[.val (.ref w_LINK_CATCH_EVENT)] [(.ref w_LINK_CATCH_EVENT)])) rfl (hb hby d2_15)
  refine OGot.go st6 ?_
  show OGot p.tables e below (T6.setTop (mkF m 18 #[.val (.ref w_LINK_CATCH_EVENT)] [(.ref w_MESSAGE_BOUNDARY_EVENT), (.ref w_LINK_CATCH_EVENT)])) _
  have ne7 : w_LINK_CATCH_EVENT ≠ w_MESSAGE_BOUNDARY_EVENT := (Fld.ne G.2.2.2.2.2.2.2.2.2.2.2.2.2.2.2.2.2.2.2.2.2.2.2.2.2.2.2.2.2.2.2.2.2.2.2.2.2.1 G.2.2.2.2.2.2.2.2.2.2.2.2.2.2.2.2.2.2.2.2.2.2.2.2.2.2.2.2.2.2.2.2.2.1 (by decide))
  refine OGot.go (fun t k => Jvm.RoadKit.acmp (g := (mkF m 18 #[.val (.ref w_LINK_CATCH_EVENT)] [(.ref w_MESSAGE_BOUNDARY_EVENT), (.ref w_LINK_CATCH_EVENT)])) X6 hx rfl rfl rfl (pc0 := 18) (pc' := 25) (same := false) rfl (hb hby d2_18) rfl (decide_eq_false fun q => ne7 (Value.ref.inj q)) (by decide) (by decide) k) ?_
  show OGot p.tables e below (T6.setTop (mkF m 25 #[.val (.ref w_LINK_CATCH_EVENT)] [])) _
  refine OGot.go (fun t k => XS.iconst X6.here hx rfl (hb hby d2_25) k) ?_
  show OGot p.tables e below (T6.setTop (mkF m 26 #[.val (.ref w_LINK_CATCH_EVENT)] [(.int (0 : Int32))])) _
  obtain ⟨fs, hr, hrun, hended, hW, hsame⟩ := X6.leave (v := some (.int (0 : Int32))) (fun h => by rw [Bd.returns] at h; cases h)
  refine ⟨_, _, retN X6 hx (t := .boolean) Bd.returns (by simp) (hb hby d2_26) hr, hrun, hended, _, _, rfl, ?_, ⟨_, rfl⟩, hW, hsame.mono (by decide) (by decide)⟩
  exact (⟨rfl, N0, e6⟩ : Q2_6 Z w_START_EVENT w_RECEPTION w_MESSAGE_START_EVENT w_MESSAGE_BOUNDARY_EVENT w_TERMINATE_END_EVENT w_LINK_THROW_EVENT w_BOUNDARY_EVENT w_LINK_CATCH_EVENT w_END_EVENT w_EVENT_BASED_GATEWAY w_INCLUSIVE_GATEWAY w_EXCLUSIVE_GATEWAY w_SUB_PROCESS w_ACTIVITY w_PARALLEL_GATEWAY  h0 n0 _ T6.heap _)
theorem d1_63 : decode method_2_code 63 = .ok (.iload_n 0, 1) := by decide +kernel
theorem d1_64 : decode method_2_code 64 = .ok (.bipush 7, 2) := by decide +kernel
theorem d1_66 : decode method_2_code 66 = .ok (.if_icmp .ne 7, 3) := by decide +kernel
theorem d1_69 : decode method_2_code 69 = .ok (.getstatic 31, 3) := by decide +kernel
theorem d1_72 : decode method_2_code 72 = .ok (.areturn, 1) := by decide +kernel
def Q1_7 (Z : State) (w_START_EVENT : Addr) (w_RECEPTION : Addr) (w_MESSAGE_START_EVENT : Addr) (w_MESSAGE_BOUNDARY_EVENT : Addr) (w_TERMINATE_END_EVENT : Addr) (w_LINK_THROW_EVENT : Addr) (w_BOUNDARY_EVENT : Addr) (w_LINK_CATCH_EVENT : Addr) (w_END_EVENT : Addr) (w_EVENT_BASED_GATEWAY : Addr) (w_INCLUSIVE_GATEWAY : Addr) (w_EXCLUSIVE_GATEWAY : Addr) (w_SUB_PROCESS : Addr) (w_ACTIVITY : Addr) (w_PARALLEL_GATEWAY : Addr)  (h0 : Heap) (n0 : Nat) (v : Option Value) (h : Heap) (L : List Loc) : Prop := v = some (.ref w_RECEPTION) ∧ Fr n0 L ∧ h = h0
theorem ef1_7 (m : MethodId)  : entryFrame m #[(.int (7 : Int32))] 1 = mkF m 0 #[.val (.int (7 : Int32))] [] := by first | (simp [entryFrame, mkF, argsToLocals, Value.category]; done) | rfl
set_option maxRecDepth 65536 in
set_option maxHeartbeats 40000000 in
theorem rm1_7 (l : Launch) (Z : State) (a0 : Array Value) (hw : ∀ d ∈ tables_1, d.before a0 Z = true) (ws : List Jvm.Cond) {w_START_EVENT : Addr} {w_RECEPTION : Addr} {w_MESSAGE_START_EVENT : Addr} {w_MESSAGE_BOUNDARY_EVENT : Addr} {w_TERMINATE_END_EVENT : Addr} {w_LINK_THROW_EVENT : Addr} {w_BOUNDARY_EVENT : Addr} {w_LINK_CATCH_EVENT : Addr} {w_END_EVENT : Addr} {w_EVENT_BASED_GATEWAY : Addr} {w_INCLUSIVE_GATEWAY : Addr} {w_EXCLUSIVE_GATEWAY : Addr} {w_SUB_PROCESS : Addr} {w_ACTIVITY : Addr} {w_PARALLEL_GATEWAY : Addr} (G : Glob Z w_START_EVENT w_RECEPTION w_MESSAGE_START_EVENT w_MESSAGE_BOUNDARY_EVENT w_TERMINATE_END_EVENT w_LINK_THROW_EVENT w_BOUNDARY_EVENT w_LINK_CATCH_EVENT w_END_EVENT w_EVENT_BASED_GATEWAY w_INCLUSIVE_GATEWAY w_EXCLUSIVE_GATEWAY w_SUB_PROCESS w_ACTIVITY w_PARALLEL_GATEWAY)  (h0 : Heap) (n0 : Nat) (O0 : Old Z n0 h0) :
    MetFree l (⟨"com/example/chorale/chorale/KindReceivesPinLaw", "kindAt", "(I)Lcom/example/chorale/chorale/FlowGraph$Kind;"⟩ : MethodName) (head1 (Jvm.Cond.code (⟨"com/example/chorale/chorale/KindReceivesPinLaw", "kindAt", "(I)Lcom/example/chorale/chorale/FlowGraph$Kind;"⟩ : MethodName) method_2_code 1 (some (.object "com/example/chorale/chorale/FlowGraph$Kind")) :: ws) ({ frames := 0, cells := 0, slots := 0, locals := 0 } : Room)) (fun a U => a = #[(.int (7 : Int32))] ∧ Z.Warmed39 U.vm ∧ U.heap = h0) (fun _ _ _ _ _ => True) (fun _ U o U' => ∃ v L, o = .returned v ∧ Q1_7 Z w_START_EVENT w_RECEPTION w_MESSAGE_START_EVENT w_MESSAGE_BOUNDARY_EVENT w_TERMINATE_END_EVENT w_LINK_THROW_EVENT w_BOUNDARY_EVENT w_LINK_CATCH_EVENT w_END_EVENT w_EVENT_BASED_GATEWAY w_INCLUSIVE_GATEWAY w_EXCLUSIVE_GATEWAY w_SUB_PROCESS w_ACTIVITY w_PARALLEL_GATEWAY  h0 n0 v U'.heap L ∧ FrameEnd U o U' L ({ frames := 0, cells := 0, slots := 0, locals := 0 } : Room).cells ({ frames := 0, cells := 0, slots := 0, locals := 0 } : Room).slots) := by
  refine MetFree.of_bodySF (plainFor_of_name pn_com_example_chorale_chorale_KindReceivesPinLaw) hisR ?_
  intro p e s m args below meth c s₁ Bd hml0 hP hK
  obtain ⟨rfl, hZ, hh⟩ := hP
  have hx := Bd.exec
  have hby := Bd.bytes
  have hml : c.maxLocals = 1 := hml0
  have hown : s.vm.findClass "com/example/chorale/chorale/KindReceivesPinLaw" = some m.cls := findClass_of_methodNamed Bd.named
  have hnm := (name_of_methodNamed Bd.named Bd.method).1
  have X0 : Stand p l e ({ frames := 0, cells := 0, slots := 0, locals := 0 } : Room) s m #[(.int (7 : Int32))] below meth c s₁ [] 0 0 := Stand.of_body Bd
  have e0 : s₁.heap = h0 := by rw [← hh, Bd.state]; rfl
  have N0 := Fr.nil n0
  show OGot p.tables e below (s₁.setTop (entryFrame m #[(.int (7 : Int32))] 1)) _
  refine OGot.go (fun t k => castTop (ef1_7 m ) k) ?_
  show OGot p.tables e below (s₁.setTop (mkF m 0 #[.val (.int (7 : Int32))] [])) _
  refine OGot.go (fun t k => XS.iloadN X0.here hx rfl (hb hby d1_0) rfl k) ?_
  show OGot p.tables e below (s₁.setTop (mkF m 1 #[.val (.int (7 : Int32))] [(.int (7 : Int32))])) _
  refine OGot.go (fun t k => XS.ifYes X0.here hx rfl (pc0 := 1) (pc' := 8) rfl (hb hby d1_1) rfl (by decide) (by decide) (by decide) k) ?_
  show OGot p.tables e below (s₁.setTop (mkF m 8 #[.val (.int (7 : Int32))] [])) _
  refine OGot.go (fun t k => XS.iloadN X0.here hx rfl (hb hby d1_8) rfl k) ?_
  show OGot p.tables e below (s₁.setTop (mkF m 9 #[.val (.int (7 : Int32))] [(.int (7 : Int32))])) _
  refine OGot.go (fun t k => XS.iconst X0.here hx rfl (hb hby d1_9) k) ?_
  show OGot p.tables e below (s₁.setTop (mkF m 10 #[.val (.int (7 : Int32))] [(.int (1 : Int32)), (.int (7 : Int32))])) _
  refine OGot.go (fun t k => XS.icmpYes X0.here hx rfl (pc0 := 10) (pc' := 17) rfl (hb hby d1_10) rfl (by decide) (by decide) (by decide) k) ?_
  show OGot p.tables e below (s₁.setTop (mkF m 17 #[.val (.int (7 : Int32))] [])) _
  refine OGot.go (fun t k => XS.iloadN X0.here hx rfl (hb hby d1_17) rfl k) ?_
  show OGot p.tables e below (s₁.setTop (mkF m 18 #[.val (.int (7 : Int32))] [(.int (7 : Int32))])) _
  refine OGot.go (fun t k => XS.iconst X0.here hx rfl (hb hby d1_18) k) ?_
  show OGot p.tables e below (s₁.setTop (mkF m 19 #[.val (.int (7 : Int32))] [(.int (2 : Int32)), (.int (7 : Int32))])) _
  refine OGot.go (fun t k => XS.icmpYes X0.here hx rfl (pc0 := 19) (pc' := 26) rfl (hb hby d1_19) rfl (by decide) (by decide) (by decide) k) ?_
  show OGot p.tables e below (s₁.setTop (mkF m 26 #[.val (.int (7 : Int32))] [])) _
  refine OGot.go (fun t k => XS.iloadN X0.here hx rfl (hb hby d1_26) rfl k) ?_
  show OGot p.tables e below (s₁.setTop (mkF m 27 #[.val (.int (7 : Int32))] [(.int (7 : Int32))])) _
  refine OGot.go (fun t k => XS.iconst X0.here hx rfl (hb hby d1_27) k) ?_
  show OGot p.tables e below (s₁.setTop (mkF m 28 #[.val (.int (7 : Int32))] [(.int (3 : Int32)), (.int (7 : Int32))])) _
  refine OGot.go (fun t k => XS.icmpYes X0.here hx rfl (pc0 := 28) (pc' := 35) rfl (hb hby d1_28) rfl (by decide) (by decide) (by decide) k) ?_
  show OGot p.tables e below (s₁.setTop (mkF m 35 #[.val (.int (7 : Int32))] [])) _
  refine OGot.go (fun t k => XS.iloadN X0.here hx rfl (hb hby d1_35) rfl k) ?_
  show OGot p.tables e below (s₁.setTop (mkF m 36 #[.val (.int (7 : Int32))] [(.int (7 : Int32))])) _
  refine OGot.go (fun t k => XS.iconst X0.here hx rfl (hb hby d1_36) k) ?_
  show OGot p.tables e below (s₁.setTop (mkF m 37 #[.val (.int (7 : Int32))] [(.int (4 : Int32)), (.int (7 : Int32))])) _
  refine OGot.go (fun t k => XS.icmpYes X0.here hx rfl (pc0 := 37) (pc' := 44) rfl (hb hby d1_37) rfl (by decide) (by decide) (by decide) k) ?_
  show OGot p.tables e below (s₁.setTop (mkF m 44 #[.val (.int (7 : Int32))] [])) _
  refine OGot.go (fun t k => XS.iloadN X0.here hx rfl (hb hby d1_44) rfl k) ?_
  show OGot p.tables e below (s₁.setTop (mkF m 45 #[.val (.int (7 : Int32))] [(.int (7 : Int32))])) _
  refine OGot.go (fun t k => XS.iconst X0.here hx rfl (hb hby d1_45) k) ?_
  show OGot p.tables e below (s₁.setTop (mkF m 46 #[.val (.int (7 : Int32))] [(.int (5 : Int32)), (.int (7 : Int32))])) _
  refine OGot.go (fun t k => XS.icmpYes X0.here hx rfl (pc0 := 46) (pc' := 53) rfl (hb hby d1_46) rfl (by decide) (by decide) (by decide) k) ?_
  show OGot p.tables e below (s₁.setTop (mkF m 53 #[.val (.int (7 : Int32))] [])) _
  refine OGot.go (fun t k => XS.iloadN X0.here hx rfl (hb hby d1_53) rfl k) ?_
  show OGot p.tables e below (s₁.setTop (mkF m 54 #[.val (.int (7 : Int32))] [(.int (7 : Int32))])) _
  refine OGot.go (fun t k => XS.bipush X0.here hx rfl (hb hby d1_54) k) ?_
  show OGot p.tables e below (s₁.setTop (mkF m 56 #[.val (.int (7 : Int32))] [(.int (6 : Int32)), (.int (7 : Int32))])) _
  refine OGot.go (fun t k => XS.icmpYes X0.here hx rfl (pc0 := 56) (pc' := 63) rfl (hb hby d1_56) rfl (by decide) (by decide) (by decide) k) ?_
  show OGot p.tables e below (s₁.setTop (mkF m 63 #[.val (.int (7 : Int32))] [])) _
  refine OGot.go (fun t k => XS.iloadN X0.here hx rfl (hb hby d1_63) rfl k) ?_
  show OGot p.tables e below (s₁.setTop (mkF m 64 #[.val (.int (7 : Int32))] [(.int (7 : Int32))])) _
  refine OGot.go (fun t k => XS.bipush X0.here hx rfl (hb hby d1_64) k) ?_
  show OGot p.tables e below (s₁.setTop (mkF m 66 #[.val (.int (7 : Int32))] [(.int (7 : Int32)), (.int (7 : Int32))])) _
  refine OGot.go (fun t k => XS.icmpNo X0.here hx rfl (hb hby d1_66) rfl (by decide) k) ?_
  show OGot p.tables e below (s₁.setTop (mkF m 69 #[.val (.int (7 : Int32))] [])) _
  obtain ⟨T1, X1, e1, st1⟩ := getS2 X0 hx hZ hown (host := "") (Or.inl (ow hw 29 rfl)) Via.refl e0 (G.2.2.1.ext O0.2) (g := (mkF m 69 #[.val (.int (7 : Int32))] [])) rfl (hb hby d1_69)
  refine OGot.go st1 ?_
  show OGot p.tables e below (T1.setTop (mkF m 72 #[.val (.int (7 : Int32))] [(.ref w_RECEPTION)])) _
  obtain ⟨fs, hr, hrun, hended, hW, hsame⟩ := X1.leave (v := some (.ref w_RECEPTION)) (fun h => by rw [Bd.returns] at h; cases h)
  refine ⟨_, _, oretA X1 hx Bd.returns rfl rfl (hb hby d1_72) hr, hrun, hended, _, _, rfl, ?_, ⟨_, rfl⟩, hW, hsame.mono (by decide) (by decide)⟩
  exact (⟨rfl, N0, e1⟩ : Q1_7 Z w_START_EVENT w_RECEPTION w_MESSAGE_START_EVENT w_MESSAGE_BOUNDARY_EVENT w_TERMINATE_END_EVENT w_LINK_THROW_EVENT w_BOUNDARY_EVENT w_LINK_CATCH_EVENT w_END_EVENT w_EVENT_BASED_GATEWAY w_INCLUSIVE_GATEWAY w_EXCLUSIVE_GATEWAY w_SUB_PROCESS w_ACTIVITY w_PARALLEL_GATEWAY  h0 n0 _ T1.heap _)
def Q2_7 (Z : State) (w_START_EVENT : Addr) (w_RECEPTION : Addr) (w_MESSAGE_START_EVENT : Addr) (w_MESSAGE_BOUNDARY_EVENT : Addr) (w_TERMINATE_END_EVENT : Addr) (w_LINK_THROW_EVENT : Addr) (w_BOUNDARY_EVENT : Addr) (w_LINK_CATCH_EVENT : Addr) (w_END_EVENT : Addr) (w_EVENT_BASED_GATEWAY : Addr) (w_INCLUSIVE_GATEWAY : Addr) (w_EXCLUSIVE_GATEWAY : Addr) (w_SUB_PROCESS : Addr) (w_ACTIVITY : Addr) (w_PARALLEL_GATEWAY : Addr)  (h0 : Heap) (n0 : Nat) (v : Option Value) (h : Heap) (L : List Loc) : Prop := v = some (.int (1 : Int32)) ∧ Fr n0 L ∧ h = h0
theorem ef2_7 (m : MethodId) (x0 : Addr) : entryFrame m #[(.ref x0)] 1 = mkF m 0 #[.val (.ref x0)] [] := by first | (simp [entryFrame, mkF, argsToLocals, Value.category]; done) | rfl
set_option maxRecDepth 65536 in
set_option maxHeartbeats 40000000 in
theorem rm2_7 (l : Launch) (Z : State) (a0 : Array Value) (hw : ∀ d ∈ tables_1, d.before a0 Z = true) (ws : List Jvm.Cond) {w_START_EVENT : Addr} {w_RECEPTION : Addr} {w_MESSAGE_START_EVENT : Addr} {w_MESSAGE_BOUNDARY_EVENT : Addr} {w_TERMINATE_END_EVENT : Addr} {w_LINK_THROW_EVENT : Addr} {w_BOUNDARY_EVENT : Addr} {w_LINK_CATCH_EVENT : Addr} {w_END_EVENT : Addr} {w_EVENT_BASED_GATEWAY : Addr} {w_INCLUSIVE_GATEWAY : Addr} {w_EXCLUSIVE_GATEWAY : Addr} {w_SUB_PROCESS : Addr} {w_ACTIVITY : Addr} {w_PARALLEL_GATEWAY : Addr} (G : Glob Z w_START_EVENT w_RECEPTION w_MESSAGE_START_EVENT w_MESSAGE_BOUNDARY_EVENT w_TERMINATE_END_EVENT w_LINK_THROW_EVENT w_BOUNDARY_EVENT w_LINK_CATCH_EVENT w_END_EVENT w_EVENT_BASED_GATEWAY w_INCLUSIVE_GATEWAY w_EXCLUSIVE_GATEWAY w_SUB_PROCESS w_ACTIVITY w_PARALLEL_GATEWAY)  (h0 : Heap) (n0 : Nat) (O0 : Old Z n0 h0) :
    MetFree l (⟨"com/example/chorale/chorale/FlowGraph$Kind", "receives", "()Z"⟩ : MethodName) (head1 (Jvm.Cond.code (⟨"com/example/chorale/chorale/FlowGraph$Kind", "receives", "()Z"⟩ : MethodName) prog_73_method_4_code 1 (some .boolean) :: ws) ({ frames := 0, cells := 0, slots := 0, locals := 0 } : Room)) (fun a U => a = #[(.ref w_RECEPTION)] ∧ Z.Warmed39 U.vm ∧ U.heap = h0) (fun _ _ _ _ _ => True) (fun _ U o U' => ∃ v L, o = .returned v ∧ Q2_7 Z w_START_EVENT w_RECEPTION w_MESSAGE_START_EVENT w_MESSAGE_BOUNDARY_EVENT w_TERMINATE_END_EVENT w_LINK_THROW_EVENT w_BOUNDARY_EVENT w_LINK_CATCH_EVENT w_END_EVENT w_EVENT_BASED_GATEWAY w_INCLUSIVE_GATEWAY w_EXCLUSIVE_GATEWAY w_SUB_PROCESS w_ACTIVITY w_PARALLEL_GATEWAY  h0 n0 v U'.heap L ∧ FrameEnd U o U' L ({ frames := 0, cells := 0, slots := 0, locals := 0 } : Room).cells ({ frames := 0, cells := 0, slots := 0, locals := 0 } : Room).slots) := by
  refine MetFree.of_bodySF (plainFor_of_name pn_com_example_chorale_chorale_FlowGraph_Kind) hisR ?_
  intro p e s m args below meth c s₁ Bd hml0 hP hK
  obtain ⟨rfl, hZ, hh⟩ := hP
  have hx := Bd.exec
  have hby := Bd.bytes
  have hml : c.maxLocals = 1 := hml0
  have hown : s.vm.findClass "com/example/chorale/chorale/FlowGraph$Kind" = some m.cls := findClass_of_methodNamed Bd.named
  have hnm := (name_of_methodNamed Bd.named Bd.method).1
  have X0 : Stand p l e ({ frames := 0, cells := 0, slots := 0, locals := 0 } : Room) s m #[(.ref w_RECEPTION)] below meth c s₁ [] 0 0 := Stand.of_body Bd
  have e0 : s₁.heap = h0 := by rw [← hh, Bd.state]; rfl
  have N0 := Fr.nil n0
  show OGot p.tables e below (s₁.setTop (entryFrame m #[(.ref w_RECEPTION)] 1)) _
  refine OGot.go (fun t k => castTop (ef2_7 m w_RECEPTION) k) ?_
  show OGot p.tables e below (s₁.setTop (mkF m 0 #[.val (.ref w_RECEPTION)] [])) _
  refine OGot.go (fun t k => XS.aloadN X0.here hx rfl (hb hby d2_0) rfl rfl k) ?_
  show OGot p.tables e below (s₁.setTop (mkF m 1 #[.val (.ref w_RECEPTION)] [(.ref w_RECEPTION)])) _
  obtain ⟨T2, X2, e2, st2⟩ := getS2 X0 hx hZ hown (host := "") (Or.inl (ow hw 14 rfl)) Via.refl e0 (G.2.2.1.ext O0.2) (g := (mkF m 1 #[.val (.ref w_RECEPTION)] [(.ref w_RECEPTION)])) rfl (hb hby d2_1)
  refine OGot.go st2 ?_
  show OGot p.tables e below (T2.setTop (mkF m 4 #[.val (.ref w_RECEPTION)] [(.ref w_RECEPTION), (.ref w_RECEPTION)])) _
  refine OGot.go (fun t k => Jvm.RoadKit.acmp (g := (mkF m 4 #[.val (.ref w_RECEPTION)] [(.ref w_RECEPTION), (.ref w_RECEPTION)])) X2 hx rfl rfl rfl (pc0 := 4) (pc' := 21) (same := true) rfl (hb hby d2_4) rfl (decide_eq_true rfl) (by decide) (by decide) k) ?_
  show OGot p.tables e below (T2.setTop (mkF m 21 #[.val (.ref w_RECEPTION)] [])) _
  refine OGot.go (fun t k => XS.iconst X2.here hx rfl (hb hby d2_21) k) ?_
  show OGot p.tables e below (T2.setTop (mkF m 22 #[.val (.ref w_RECEPTION)] [(.int (1 : Int32))])) _
  refine OGot.go (fun t k => XS.goto X2.here hx rfl (pc0 := 22) (pc' := 26) rfl (hb hby d2_22) (by decide) (by decide) k) ?_
  show OGot p.tables e below (T2.setTop (mkF m 26 #[.val (.ref w_RECEPTION)] [(.int (1 : Int32))])) _
  obtain ⟨fs, hr, hrun, hended, hW, hsame⟩ := X2.leave (v := some (.int (1 : Int32))) (fun h => by rw [Bd.returns] at h; cases h)
  refine ⟨_, _, retN X2 hx (t := .boolean) Bd.returns (by simp) (hb hby d2_26) hr, hrun, hended, _, _, rfl, ?_, ⟨_, rfl⟩, hW, hsame.mono (by decide) (by decide)⟩
  exact (⟨rfl, N0, e2⟩ : Q2_7 Z w_START_EVENT w_RECEPTION w_MESSAGE_START_EVENT w_MESSAGE_BOUNDARY_EVENT w_TERMINATE_END_EVENT w_LINK_THROW_EVENT w_BOUNDARY_EVENT w_LINK_CATCH_EVENT w_END_EVENT w_EVENT_BASED_GATEWAY w_INCLUSIVE_GATEWAY w_EXCLUSIVE_GATEWAY w_SUB_PROCESS w_ACTIVITY w_PARALLEL_GATEWAY  h0 n0 _ T2.heap _)
theorem d1_73 : decode method_2_code 73 = .ok (.iload_n 0, 1) := by decide +kernel
theorem d1_74 : decode method_2_code 74 = .ok (.bipush 8, 2) := by decide +kernel
theorem d1_76 : decode method_2_code 76 = .ok (.if_icmp .ne 7, 3) := by decide +kernel
theorem d1_79 : decode method_2_code 79 = .ok (.getstatic 34, 3) := by decide +kernel
theorem d1_82 : decode method_2_code 82 = .ok (.areturn, 1) := by decide +kernel
def Q1_8 (Z : State) (w_START_EVENT : Addr) (w_RECEPTION : Addr) (w_MESSAGE_START_EVENT : Addr) (w_MESSAGE_BOUNDARY_EVENT : Addr) (w_TERMINATE_END_EVENT : Addr) (w_LINK_THROW_EVENT : Addr) (w_BOUNDARY_EVENT : Addr) (w_LINK_CATCH_EVENT : Addr) (w_END_EVENT : Addr) (w_EVENT_BASED_GATEWAY : Addr) (w_INCLUSIVE_GATEWAY : Addr) (w_EXCLUSIVE_GATEWAY : Addr) (w_SUB_PROCESS : Addr) (w_ACTIVITY : Addr) (w_PARALLEL_GATEWAY : Addr)  (h0 : Heap) (n0 : Nat) (v : Option Value) (h : Heap) (L : List Loc) : Prop := v = some (.ref w_EXCLUSIVE_GATEWAY) ∧ Fr n0 L ∧ h = h0
theorem ef1_8 (m : MethodId)  : entryFrame m #[(.int (8 : Int32))] 1 = mkF m 0 #[.val (.int (8 : Int32))] [] := by first | (simp [entryFrame, mkF, argsToLocals, Value.category]; done) | rfl
set_option maxRecDepth 65536 in
set_option maxHeartbeats 40000000 in
theorem rm1_8 (l : Launch) (Z : State) (a0 : Array Value) (hw : ∀ d ∈ tables_1, d.before a0 Z = true) (ws : List Jvm.Cond) {w_START_EVENT : Addr} {w_RECEPTION : Addr} {w_MESSAGE_START_EVENT : Addr} {w_MESSAGE_BOUNDARY_EVENT : Addr} {w_TERMINATE_END_EVENT : Addr} {w_LINK_THROW_EVENT : Addr} {w_BOUNDARY_EVENT : Addr} {w_LINK_CATCH_EVENT : Addr} {w_END_EVENT : Addr} {w_EVENT_BASED_GATEWAY : Addr} {w_INCLUSIVE_GATEWAY : Addr} {w_EXCLUSIVE_GATEWAY : Addr} {w_SUB_PROCESS : Addr} {w_ACTIVITY : Addr} {w_PARALLEL_GATEWAY : Addr} (G : Glob Z w_START_EVENT w_RECEPTION w_MESSAGE_START_EVENT w_MESSAGE_BOUNDARY_EVENT w_TERMINATE_END_EVENT w_LINK_THROW_EVENT w_BOUNDARY_EVENT w_LINK_CATCH_EVENT w_END_EVENT w_EVENT_BASED_GATEWAY w_INCLUSIVE_GATEWAY w_EXCLUSIVE_GATEWAY w_SUB_PROCESS w_ACTIVITY w_PARALLEL_GATEWAY)  (h0 : Heap) (n0 : Nat) (O0 : Old Z n0 h0) :
    MetFree l (⟨"com/example/chorale/chorale/KindReceivesPinLaw", "kindAt", "(I)Lcom/example/chorale/chorale/FlowGraph$Kind;"⟩ : MethodName) (head1 (Jvm.Cond.code (⟨"com/example/chorale/chorale/KindReceivesPinLaw", "kindAt", "(I)Lcom/example/chorale/chorale/FlowGraph$Kind;"⟩ : MethodName) method_2_code 1 (some (.object "com/example/chorale/chorale/FlowGraph$Kind")) :: ws) ({ frames := 0, cells := 0, slots := 0, locals := 0 } : Room)) (fun a U => a = #[(.int (8 : Int32))] ∧ Z.Warmed39 U.vm ∧ U.heap = h0) (fun _ _ _ _ _ => True) (fun _ U o U' => ∃ v L, o = .returned v ∧ Q1_8 Z w_START_EVENT w_RECEPTION w_MESSAGE_START_EVENT w_MESSAGE_BOUNDARY_EVENT w_TERMINATE_END_EVENT w_LINK_THROW_EVENT w_BOUNDARY_EVENT w_LINK_CATCH_EVENT w_END_EVENT w_EVENT_BASED_GATEWAY w_INCLUSIVE_GATEWAY w_EXCLUSIVE_GATEWAY w_SUB_PROCESS w_ACTIVITY w_PARALLEL_GATEWAY  h0 n0 v U'.heap L ∧ FrameEnd U o U' L ({ frames := 0, cells := 0, slots := 0, locals := 0 } : Room).cells ({ frames := 0, cells := 0, slots := 0, locals := 0 } : Room).slots) := by
  refine MetFree.of_bodySF (plainFor_of_name pn_com_example_chorale_chorale_KindReceivesPinLaw) hisR ?_
  intro p e s m args below meth c s₁ Bd hml0 hP hK
  obtain ⟨rfl, hZ, hh⟩ := hP
  have hx := Bd.exec
  have hby := Bd.bytes
  have hml : c.maxLocals = 1 := hml0
  have hown : s.vm.findClass "com/example/chorale/chorale/KindReceivesPinLaw" = some m.cls := findClass_of_methodNamed Bd.named
  have hnm := (name_of_methodNamed Bd.named Bd.method).1
  have X0 : Stand p l e ({ frames := 0, cells := 0, slots := 0, locals := 0 } : Room) s m #[(.int (8 : Int32))] below meth c s₁ [] 0 0 := Stand.of_body Bd
  have e0 : s₁.heap = h0 := by rw [← hh, Bd.state]; rfl
  have N0 := Fr.nil n0
  show OGot p.tables e below (s₁.setTop (entryFrame m #[(.int (8 : Int32))] 1)) _
  refine OGot.go (fun t k => castTop (ef1_8 m ) k) ?_
  show OGot p.tables e below (s₁.setTop (mkF m 0 #[.val (.int (8 : Int32))] [])) _
  refine OGot.go (fun t k => XS.iloadN X0.here hx rfl (hb hby d1_0) rfl k) ?_
  show OGot p.tables e below (s₁.setTop (mkF m 1 #[.val (.int (8 : Int32))] [(.int (8 : Int32))])) _
  refine OGot.go (fun t k => XS.ifYes X0.here hx rfl (pc0 := 1) (pc' := 8) rfl (hb hby d1_1) rfl (by decide) (by decide) (by decide) k) ?_
  show OGot p.tables e below (s₁.setTop (mkF m 8 #[.val (.int (8 : Int32))] [])) _
  refine OGot.go (fun t k => XS.iloadN X0.here hx rfl (hb hby d1_8) rfl k) ?_
  show OGot p.tables e below (s₁.setTop (mkF m 9 #[.val (.int (8 : Int32))] [(.int (8 : Int32))])) _
  refine OGot.go (fun t k => XS.iconst X0.here hx rfl (hb hby d1_9) k) ?_
  show OGot p.tables e below (s₁.setTop (mkF m 10 #[.val (.int (8 : Int32))] [(.int (1 : Int32)), (.int (8 : Int32))])) _
  refine OGot.go (fun t k => XS.icmpYes X0.here hx rfl (pc0 := 10) (pc' := 17) rfl (hb hby d1_10) rfl (by decide) (by decide) (by decide) k) ?_
  show OGot p.tables e below (s₁.setTop (mkF m 17 #[.val (.int (8 : Int32))] [])) _
  refine OGot.go (fun t k => XS.iloadN X0.here hx rfl (hb hby d1_17) rfl k) ?_
  show OGot p.tables e below (s₁.setTop (mkF m 18 #[.val (.int (8 : Int32))] [(.int (8 : Int32))])) _
  refine OGot.go (fun t k => XS.iconst X0.here hx rfl (hb hby d1_18) k) ?_
  show OGot p.tables e below (s₁.setTop (mkF m 19 #[.val (.int (8 : Int32))] [(.int (2 : Int32)), (.int (8 : Int32))])) _
  refine OGot.go (fun t k => XS.icmpYes X0.here hx rfl (pc0 := 19) (pc' := 26) rfl (hb hby d1_19) rfl (by decide) (by decide) (by decide) k) ?_
  show OGot p.tables e below (s₁.setTop (mkF m 26 #[.val (.int (8 : Int32))] [])) _
  refine OGot.go (fun t k => XS.iloadN X0.here hx rfl (hb hby d1_26) rfl k) ?_
  show OGot p.tables e below (s₁.setTop (mkF m 27 #[.val (.int (8 : Int32))] [(.int (8 : Int32))])) _
  refine OGot.go (fun t k => XS.iconst X0.here hx rfl (hb hby d1_27) k) ?_
  show OGot p.tables e below (s₁.setTop (mkF m 28 #[.val (.int (8 : Int32))] [(.int (3 : Int32)), (.int (8 : Int32))])) _
  refine OGot.go (fun t k => XS.icmpYes X0.here hx rfl (pc0 := 28) (pc' := 35) rfl (hb hby d1_28) rfl (by decide) (by decide) (by decide) k) ?_
  show OGot p.tables e below (s₁.setTop (mkF m 35 #[.val (.int (8 : Int32))] [])) _
  refine OGot.go (fun t k => XS.iloadN X0.here hx rfl (hb hby d1_35) rfl k) ?_
  show OGot p.tables e below (s₁.setTop (mkF m 36 #[.val (.int (8 : Int32))] [(.int (8 : Int32))])) _
  refine OGot.go (fun t k => XS.iconst X0.here hx rfl (hb hby d1_36) k) ?_
  show OGot p.tables e below (s₁.setTop (mkF m 37 #[.val (.int (8 : Int32))] [(.int (4 : Int32)), (.int (8 : Int32))])) _
  refine OGot.go (fun t k => XS.icmpYes X0.here hx rfl (pc0 := 37) (pc' := 44) rfl (hb hby d1_37) rfl (by decide) (by decide) (by decide) k) ?_
  show OGot p.tables e below (s₁.setTop (mkF m 44 #[.val (.int (8 : Int32))] [])) _
  refine OGot.go (fun t k => XS.iloadN X0.here hx rfl (hb hby d1_44) rfl k) ?_
  show OGot p.tables e below (s₁.setTop (mkF m 45 #[.val (.int (8 : Int32))] [(.int (8 : Int32))])) _
  refine OGot.go (fun t k => XS.iconst X0.here hx rfl (hb hby d1_45) k) ?_
  show OGot p.tables e below (s₁.setTop (mkF m 46 #[.val (.int (8 : Int32))] [(.int (5 : Int32)), (.int (8 : Int32))])) _
  refine OGot.go (fun t k => XS.icmpYes X0.here hx rfl (pc0 := 46) (pc' := 53) rfl (hb hby d1_46) rfl (by decide) (by decide) (by decide) k) ?_
  show OGot p.tables e below (s₁.setTop (mkF m 53 #[.val (.int (8 : Int32))] [])) _
  refine OGot.go (fun t k => XS.iloadN X0.here hx rfl (hb hby d1_53) rfl k) ?_
  show OGot p.tables e below (s₁.setTop (mkF m 54 #[.val (.int (8 : Int32))] [(.int (8 : Int32))])) _
  refine OGot.go (fun t k => XS.bipush X0.here hx rfl (hb hby d1_54) k) ?_
  show OGot p.tables e below (s₁.setTop (mkF m 56 #[.val (.int (8 : Int32))] [(.int (6 : Int32)), (.int (8 : Int32))])) _
  refine OGot.go (fun t k => XS.icmpYes X0.here hx rfl (pc0 := 56) (pc' := 63) rfl (hb hby d1_56) rfl (by decide) (by decide) (by decide) k) ?_
  show OGot p.tables e below (s₁.setTop (mkF m 63 #[.val (.int (8 : Int32))] [])) _
  refine OGot.go (fun t k => XS.iloadN X0.here hx rfl (hb hby d1_63) rfl k) ?_
  show OGot p.tables e below (s₁.setTop (mkF m 64 #[.val (.int (8 : Int32))] [(.int (8 : Int32))])) _
  refine OGot.go (fun t k => XS.bipush X0.here hx rfl (hb hby d1_64) k) ?_
  show OGot p.tables e below (s₁.setTop (mkF m 66 #[.val (.int (8 : Int32))] [(.int (7 : Int32)), (.int (8 : Int32))])) _
  refine OGot.go (fun t k => XS.icmpYes X0.here hx rfl (pc0 := 66) (pc' := 73) rfl (hb hby d1_66) rfl (by decide) (by decide) (by decide) k) ?_
  show OGot p.tables e below (s₁.setTop (mkF m 73 #[.val (.int (8 : Int32))] [])) _
  refine OGot.go (fun t k => XS.iloadN X0.here hx rfl (hb hby d1_73) rfl k) ?_
  show OGot p.tables e below (s₁.setTop (mkF m 74 #[.val (.int (8 : Int32))] [(.int (8 : Int32))])) _
  refine OGot.go (fun t k => XS.bipush X0.here hx rfl (hb hby d1_74) k) ?_
  show OGot p.tables e below (s₁.setTop (mkF m 76 #[.val (.int (8 : Int32))] [(.int (8 : Int32)), (.int (8 : Int32))])) _
  refine OGot.go (fun t k => XS.icmpNo X0.here hx rfl (hb hby d1_76) rfl (by decide) k) ?_
  show OGot p.tables e below (s₁.setTop (mkF m 79 #[.val (.int (8 : Int32))] [])) _
  obtain ⟨T1, X1, e1, st1⟩ := getS2 X0 hx hZ hown (host := "") (Or.inl (ow hw 36 rfl)) Via.refl e0 (G.2.2.2.2.2.2.2.2.2.2.2.2.2.2.2.2.2.2.2.2.2.2.1.ext O0.2) (g := (mkF m 79 #[.val (.int (8 : Int32))] [])) rfl (hb hby d1_79)
  refine OGot.go st1 ?_
  show OGot p.tables e below (T1.setTop (mkF m 82 #[.val (.int (8 : Int32))] [(.ref w_EXCLUSIVE_GATEWAY)])) _
  obtain ⟨fs, hr, hrun, hended, hW, hsame⟩ := X1.leave (v := some (.ref w_EXCLUSIVE_GATEWAY)) (fun h => by rw [Bd.returns] at h; cases h)
  refine ⟨_, _, oretA X1 hx Bd.returns rfl rfl (hb hby d1_82) hr, hrun, hended, _, _, rfl, ?_, ⟨_, rfl⟩, hW, hsame.mono (by decide) (by decide)⟩
  exact (⟨rfl, N0, e1⟩ : Q1_8 Z w_START_EVENT w_RECEPTION w_MESSAGE_START_EVENT w_MESSAGE_BOUNDARY_EVENT w_TERMINATE_END_EVENT w_LINK_THROW_EVENT w_BOUNDARY_EVENT w_LINK_CATCH_EVENT w_END_EVENT w_EVENT_BASED_GATEWAY w_INCLUSIVE_GATEWAY w_EXCLUSIVE_GATEWAY w_SUB_PROCESS w_ACTIVITY w_PARALLEL_GATEWAY  h0 n0 _ T1.heap _)
def Q2_8 (Z : State) (w_START_EVENT : Addr) (w_RECEPTION : Addr) (w_MESSAGE_START_EVENT : Addr) (w_MESSAGE_BOUNDARY_EVENT : Addr) (w_TERMINATE_END_EVENT : Addr) (w_LINK_THROW_EVENT : Addr) (w_BOUNDARY_EVENT : Addr) (w_LINK_CATCH_EVENT : Addr) (w_END_EVENT : Addr) (w_EVENT_BASED_GATEWAY : Addr) (w_INCLUSIVE_GATEWAY : Addr) (w_EXCLUSIVE_GATEWAY : Addr) (w_SUB_PROCESS : Addr) (w_ACTIVITY : Addr) (w_PARALLEL_GATEWAY : Addr)  (h0 : Heap) (n0 : Nat) (v : Option Value) (h : Heap) (L : List Loc) : Prop := v = some (.int (0 : Int32)) ∧ Fr n0 L ∧ h = h0
theorem ef2_8 (m : MethodId) (x0 : Addr) : entryFrame m #[(.ref x0)] 1 = mkF m 0 #[.val (.ref x0)] [] := by first | (simp [entryFrame, mkF, argsToLocals, Value.category]; done) | rfl
set_option maxRecDepth 65536 in
set_option maxHeartbeats 40000000 in
theorem rm2_8 (l : Launch) (Z : State) (a0 : Array Value) (hw : ∀ d ∈ tables_1, d.before a0 Z = true) (ws : List Jvm.Cond) {w_START_EVENT : Addr} {w_RECEPTION : Addr} {w_MESSAGE_START_EVENT : Addr} {w_MESSAGE_BOUNDARY_EVENT : Addr} {w_TERMINATE_END_EVENT : Addr} {w_LINK_THROW_EVENT : Addr} {w_BOUNDARY_EVENT : Addr} {w_LINK_CATCH_EVENT : Addr} {w_END_EVENT : Addr} {w_EVENT_BASED_GATEWAY : Addr} {w_INCLUSIVE_GATEWAY : Addr} {w_EXCLUSIVE_GATEWAY : Addr} {w_SUB_PROCESS : Addr} {w_ACTIVITY : Addr} {w_PARALLEL_GATEWAY : Addr} (G : Glob Z w_START_EVENT w_RECEPTION w_MESSAGE_START_EVENT w_MESSAGE_BOUNDARY_EVENT w_TERMINATE_END_EVENT w_LINK_THROW_EVENT w_BOUNDARY_EVENT w_LINK_CATCH_EVENT w_END_EVENT w_EVENT_BASED_GATEWAY w_INCLUSIVE_GATEWAY w_EXCLUSIVE_GATEWAY w_SUB_PROCESS w_ACTIVITY w_PARALLEL_GATEWAY)  (h0 : Heap) (n0 : Nat) (O0 : Old Z n0 h0) :
    MetFree l (⟨"com/example/chorale/chorale/FlowGraph$Kind", "receives", "()Z"⟩ : MethodName) (head1 (Jvm.Cond.code (⟨"com/example/chorale/chorale/FlowGraph$Kind", "receives", "()Z"⟩ : MethodName) prog_73_method_4_code 1 (some .boolean) :: ws) ({ frames := 0, cells := 0, slots := 0, locals := 0 } : Room)) (fun a U => a = #[(.ref w_EXCLUSIVE_GATEWAY)] ∧ Z.Warmed39 U.vm ∧ U.heap = h0) (fun _ _ _ _ _ => True) (fun _ U o U' => ∃ v L, o = .returned v ∧ Q2_8 Z w_START_EVENT w_RECEPTION w_MESSAGE_START_EVENT w_MESSAGE_BOUNDARY_EVENT w_TERMINATE_END_EVENT w_LINK_THROW_EVENT w_BOUNDARY_EVENT w_LINK_CATCH_EVENT w_END_EVENT w_EVENT_BASED_GATEWAY w_INCLUSIVE_GATEWAY w_EXCLUSIVE_GATEWAY w_SUB_PROCESS w_ACTIVITY w_PARALLEL_GATEWAY  h0 n0 v U'.heap L ∧ FrameEnd U o U' L ({ frames := 0, cells := 0, slots := 0, locals := 0 } : Room).cells ({ frames := 0, cells := 0, slots := 0, locals := 0 } : Room).slots) := by
  refine MetFree.of_bodySF (plainFor_of_name pn_com_example_chorale_chorale_FlowGraph_Kind) hisR ?_
  intro p e s m args below meth c s₁ Bd hml0 hP hK
  obtain ⟨rfl, hZ, hh⟩ := hP
  have hx := Bd.exec
  have hby := Bd.bytes
  have hml : c.maxLocals = 1 := hml0
  have hown : s.vm.findClass "com/example/chorale/chorale/FlowGraph$Kind" = some m.cls := findClass_of_methodNamed Bd.named
  have hnm := (name_of_methodNamed Bd.named Bd.method).1
  have X0 : Stand p l e ({ frames := 0, cells := 0, slots := 0, locals := 0 } : Room) s m #[(.ref w_EXCLUSIVE_GATEWAY)] below meth c s₁ [] 0 0 := Stand.of_body Bd
  have e0 : s₁.heap = h0 := by rw [← hh, Bd.state]; rfl
  have N0 := Fr.nil n0
  show OGot p.tables e below (s₁.setTop (entryFrame m #[(.ref w_EXCLUSIVE_GATEWAY)] 1)) _
  refine OGot.go (fun t k => castTop (ef2_8 m w_EXCLUSIVE_GATEWAY) k) ?_
  show OGot p.tables e below (s₁.setTop (mkF m 0 #[.val (.ref w_EXCLUSIVE_GATEWAY)] [])) _
  refine OGot.go (fun t k => XS.aloadN X0.here hx rfl (hb hby d2_0) rfl rfl k) ?_
  show OGot p.tables e below (s₁.setTop (mkF m 1 #[.val (.ref w_EXCLUSIVE_GATEWAY)] [(.ref w_EXCLUSIVE_GATEWAY)])) _
  obtain ⟨T2, X2, e2, st2⟩ := getS2 X0 hx hZ hown (host := "") (Or.inl (ow hw 14 rfl)) Via.refl e0 (G.2.2.1.ext O0.2) (g := (mkF m 1 #[.val (.ref w_EXCLUSIVE_GATEWAY)] [(.ref w_EXCLUSIVE_GATEWAY)])) rfl (hb hby d2_1)
  refine OGot.go st2 ?_
  show OGot p.tables e below (T2.setTop (mkF m 4 #[.val (.ref w_EXCLUSIVE_GATEWAY)] [(.ref w_RECEPTION), (.ref w_EXCLUSIVE_GATEWAY)])) _
  have ne3 : w_EXCLUSIVE_GATEWAY ≠ w_RECEPTION := (Fld.ne G.2.2.2.2.2.2.2.2.2.2.2.2.2.2.2.2.2.2.2.2.2.2.2.2.2.2.2.2.2.2.2.2.2.2.2.2.2.2.2.2.2.1 G.2.2.2.2.2.2.2.2.2.2.2.2.2.2.2.2.2.2.2.2.2.2.2.2.2.2.2.2.2.2.2.1 (by decide))
  refine OGot.go (fun t k => Jvm.RoadKit.acmp (g := (mkF m 4 #[.val (.ref w_EXCLUSIVE_GATEWAY)] [(.ref w_RECEPTION), (.ref w_EXCLUSIVE_GATEWAY)])) X2 hx rfl rfl rfl (pc0 := 4) (pc' := 7) (same := false) rfl (hb hby d2_4) rfl (decide_eq_false fun q => ne3 (Value.ref.inj q)) (by decide) (by decide) k) ?_
  show OGot p.tables e below (T2.setTop (mkF m 7 #[.val (.ref w_EXCLUSIVE_GATEWAY)] [])) _
  refine OGot.go (fun t k => XS.aloadN X2.here hx rfl (hb hby d2_7) rfl rfl k) ?_
  show OGot p.tables e below (T2.setTop (mkF m 8 #[.val (.ref w_EXCLUSIVE_GATEWAY)] [(.ref w_EXCLUSIVE_GATEWAY)])) _
  obtain ⟨T4, X4, e4, st4⟩ := getS2 X2 hx hZ hown (host := "") (Or.inl (ow hw 16 rfl)) Via.refl e2 (G.2.2.2.2.1.ext O0.2) (g := (mkF m 8 #[.val (.ref w_EXCLUSIVE_GATEWAY)] [(.ref w_EXCLUSIVE_GATEWAY)])) rfl (hb hby d2_8)
  refine OGot.go st4 ?_
  show OGot p.tables e below (T4.setTop (mkF m 11 #[.val (.ref w_EXCLUSIVE_GATEWAY)] [(.ref w_MESSAGE_START_EVENT), (.ref w_EXCLUSIVE_GATEWAY)])) _
  have ne5 : w_EXCLUSIVE_GATEWAY ≠ w_MESSAGE_START_EVENT := (Fld.ne G.2.2.2.2.2.2.2.2.2.2.2.2.2.2.2.2.2.2.2.2.2.2.2.2.2.2.2.2.2.2.2.2.2.2.2.2.2.2.2.2.2.1 G.2.2.2.2.2.2.2.2.2.2.2.2.2.2.2.2.2.2.2.2.2.2.2.2.2.2.2.2.2.2.2.2.1 (by decide))
  refine OGot.go (fun t k => Jvm.RoadKit.acmp (g := (mkF m 11 #[.val (.ref w_EXCLUSIVE_GATEWAY)] [(.ref w_MESSAGE_START_EVENT), (.ref w_EXCLUSIVE_GATEWAY)])) X4 hx rfl rfl rfl (pc0 := 11) (pc' := 14) (same := false) rfl (hb hby d2_11) rfl (decide_eq_false fun q => ne5 (Value.ref.inj q)) (by decide) (by decide) k) ?_
  show OGot p.tables e below (T4.setTop (mkF m 14 #[.val (.ref w_EXCLUSIVE_GATEWAY)] [])) _
  refine OGot.go (fun t k => XS.aloadN X4.here hx rfl (hb hby d2_14) rfl rfl k) ?_
  show OGot p.tables e below (T4.setTop (mkF m 15 #[.val (.ref w_EXCLUSIVE_GATEWAY)] [(.ref w_EXCLUSIVE_GATEWAY)])) _
  obtain ⟨T6, X6, e6, st6⟩ := getS2 X4 hx hZ hown (host := "") (Or.inl (ow hw 18 rfl)) Via.refl e4 (G.2.2.2.2.2.2.1.ext O0.2) (g := (mkF m 15 #[.val (.ref w_EXCLUSIVE_GATEWAY)] [(.ref w_EXCLUSIVE_GATEWAY)])) rfl (hb hby d2_15)
  refine OGot.go st6 ?_
  show OGot p.tables e below (T6.setTop (mkF m 18 #[.val (.ref w_EXCLUSIVE_GATEWAY)] [(.ref w_MESSAGE_BOUNDARY_EVENT), (.ref w_EXCLUSIVE_GATEWAY)])) _
  have ne7 : w_EXCLUSIVE_GATEWAY ≠ w_MESSAGE_BOUNDARY_EVENT := (Fld.ne G.2.2.2.2.2.2.2.2.2.2.2.2.2.2.2.2.2.2.2.2.2.2.2.2.2.2.2.2.2.2.2.2.2.2.2.2.2.2.2.2.2.1 G.2.2.2.2.2.2.2.2.2.2.2.2.2.2.2.2.2.2.2.2.2.2.2.2.2.2.2.2.2.2.2.2.2.1 (by decide))
  refine OGot.go (fun t k => Jvm.RoadKit.acmp (g := (mkF m 18 #[.val (.ref w_EXCLUSIVE_GATEWAY)] [(.ref w_MESSAGE_BOUNDARY_EVENT), (.ref w_EXCLUSIVE_GATEWAY)])) X6 hx rfl rfl rfl (pc0 := 18) (pc' := 25) (same := false) rfl (hb hby d2_18) rfl (decide_eq_false fun q => ne7 (Value.ref.inj q)) (by decide) (by decide) k) ?_
  show OGot p.tables e below (T6.setTop (mkF m 25 #[.val (.ref w_EXCLUSIVE_GATEWAY)] [])) _
  refine OGot.go (fun t k => XS.iconst X6.here hx rfl (hb hby d2_25) k) ?_
  show OGot p.tables e below (T6.setTop (mkF m 26 #[.val (.ref w_EXCLUSIVE_GATEWAY)] [(.int (0 : Int32))])) _
  obtain ⟨fs, hr, hrun, hended, hW, hsame⟩ := X6.leave (v := some (.int (0 : Int32))) (fun h => by rw [Bd.returns] at h; cases h)
  refine ⟨_, _, retN X6 hx (t := .boolean) Bd.returns (by simp) (hb hby d2_26) hr, hrun, hended, _, _, rfl, ?_, ⟨_, rfl⟩, hW, hsame.mono (by decide) (by decide)⟩
  exact (⟨rfl, N0, e6⟩ : Q2_8 Z w_START_EVENT w_RECEPTION w_MESSAGE_START_EVENT w_MESSAGE_BOUNDARY_EVENT w_TERMINATE_END_EVENT w_LINK_THROW_EVENT w_BOUNDARY_EVENT w_LINK_CATCH_EVENT w_END_EVENT w_EVENT_BASED_GATEWAY w_INCLUSIVE_GATEWAY w_EXCLUSIVE_GATEWAY w_SUB_PROCESS w_ACTIVITY w_PARALLEL_GATEWAY  h0 n0 _ T6.heap _)
theorem d1_83 : decode method_2_code 83 = .ok (.iload_n 0, 1) := by decide +kernel
theorem d1_84 : decode method_2_code 84 = .ok (.bipush 9, 2) := by decide +kernel
theorem d1_86 : decode method_2_code 86 = .ok (.if_icmp .ne 7, 3) := by decide +kernel
theorem d1_89 : decode method_2_code 89 = .ok (.getstatic 37, 3) := by decide +kernel
theorem d1_92 : decode method_2_code 92 = .ok (.areturn, 1) := by decide +kernel
def Q1_9 (Z : State) (w_START_EVENT : Addr) (w_RECEPTION : Addr) (w_MESSAGE_START_EVENT : Addr) (w_MESSAGE_BOUNDARY_EVENT : Addr) (w_TERMINATE_END_EVENT : Addr) (w_LINK_THROW_EVENT : Addr) (w_BOUNDARY_EVENT : Addr) (w_LINK_CATCH_EVENT : Addr) (w_END_EVENT : Addr) (w_EVENT_BASED_GATEWAY : Addr) (w_INCLUSIVE_GATEWAY : Addr) (w_EXCLUSIVE_GATEWAY : Addr) (w_SUB_PROCESS : Addr) (w_ACTIVITY : Addr) (w_PARALLEL_GATEWAY : Addr)  (h0 : Heap) (n0 : Nat) (v : Option Value) (h : Heap) (L : List Loc) : Prop := v = some (.ref w_PARALLEL_GATEWAY) ∧ Fr n0 L ∧ h = h0
theorem ef1_9 (m : MethodId)  : entryFrame m #[(.int (9 : Int32))] 1 = mkF m 0 #[.val (.int (9 : Int32))] [] := by first | (simp [entryFrame, mkF, argsToLocals, Value.category]; done) | rfl
set_option maxRecDepth 65536 in
set_option maxHeartbeats 40000000 in
theorem rm1_9 (l : Launch) (Z : State) (a0 : Array Value) (hw : ∀ d ∈ tables_1, d.before a0 Z = true) (ws : List Jvm.Cond) {w_START_EVENT : Addr} {w_RECEPTION : Addr} {w_MESSAGE_START_EVENT : Addr} {w_MESSAGE_BOUNDARY_EVENT : Addr} {w_TERMINATE_END_EVENT : Addr} {w_LINK_THROW_EVENT : Addr} {w_BOUNDARY_EVENT : Addr} {w_LINK_CATCH_EVENT : Addr} {w_END_EVENT : Addr} {w_EVENT_BASED_GATEWAY : Addr} {w_INCLUSIVE_GATEWAY : Addr} {w_EXCLUSIVE_GATEWAY : Addr} {w_SUB_PROCESS : Addr} {w_ACTIVITY : Addr} {w_PARALLEL_GATEWAY : Addr} (G : Glob Z w_START_EVENT w_RECEPTION w_MESSAGE_START_EVENT w_MESSAGE_BOUNDARY_EVENT w_TERMINATE_END_EVENT w_LINK_THROW_EVENT w_BOUNDARY_EVENT w_LINK_CATCH_EVENT w_END_EVENT w_EVENT_BASED_GATEWAY w_INCLUSIVE_GATEWAY w_EXCLUSIVE_GATEWAY w_SUB_PROCESS w_ACTIVITY w_PARALLEL_GATEWAY)  (h0 : Heap) (n0 : Nat) (O0 : Old Z n0 h0) :
    MetFree l (⟨"com/example/chorale/chorale/KindReceivesPinLaw", "kindAt", "(I)Lcom/example/chorale/chorale/FlowGraph$Kind;"⟩ : MethodName) (head1 (Jvm.Cond.code (⟨"com/example/chorale/chorale/KindReceivesPinLaw", "kindAt", "(I)Lcom/example/chorale/chorale/FlowGraph$Kind;"⟩ : MethodName) method_2_code 1 (some (.object "com/example/chorale/chorale/FlowGraph$Kind")) :: ws) ({ frames := 0, cells := 0, slots := 0, locals := 0 } : Room)) (fun a U => a = #[(.int (9 : Int32))] ∧ Z.Warmed39 U.vm ∧ U.heap = h0) (fun _ _ _ _ _ => True) (fun _ U o U' => ∃ v L, o = .returned v ∧ Q1_9 Z w_START_EVENT w_RECEPTION w_MESSAGE_START_EVENT w_MESSAGE_BOUNDARY_EVENT w_TERMINATE_END_EVENT w_LINK_THROW_EVENT w_BOUNDARY_EVENT w_LINK_CATCH_EVENT w_END_EVENT w_EVENT_BASED_GATEWAY w_INCLUSIVE_GATEWAY w_EXCLUSIVE_GATEWAY w_SUB_PROCESS w_ACTIVITY w_PARALLEL_GATEWAY  h0 n0 v U'.heap L ∧ FrameEnd U o U' L ({ frames := 0, cells := 0, slots := 0, locals := 0 } : Room).cells ({ frames := 0, cells := 0, slots := 0, locals := 0 } : Room).slots) := by
  refine MetFree.of_bodySF (plainFor_of_name pn_com_example_chorale_chorale_KindReceivesPinLaw) hisR ?_
  intro p e s m args below meth c s₁ Bd hml0 hP hK
  obtain ⟨rfl, hZ, hh⟩ := hP
  have hx := Bd.exec
  have hby := Bd.bytes
  have hml : c.maxLocals = 1 := hml0
  have hown : s.vm.findClass "com/example/chorale/chorale/KindReceivesPinLaw" = some m.cls := findClass_of_methodNamed Bd.named
  have hnm := (name_of_methodNamed Bd.named Bd.method).1
  have X0 : Stand p l e ({ frames := 0, cells := 0, slots := 0, locals := 0 } : Room) s m #[(.int (9 : Int32))] below meth c s₁ [] 0 0 := Stand.of_body Bd
  have e0 : s₁.heap = h0 := by rw [← hh, Bd.state]; rfl
  have N0 := Fr.nil n0
  show OGot p.tables e below (s₁.setTop (entryFrame m #[(.int (9 : Int32))] 1)) _
  refine OGot.go (fun t k => castTop (ef1_9 m ) k) ?_
  show OGot p.tables e below (s₁.setTop (mkF m 0 #[.val (.int (9 : Int32))] [])) _
  refine OGot.go (fun t k => XS.iloadN X0.here hx rfl (hb hby d1_0) rfl k) ?_
  show OGot p.tables e below (s₁.setTop (mkF m 1 #[.val (.int (9 : Int32))] [(.int (9 : Int32))])) _
  refine OGot.go (fun t k => XS.ifYes X0.here hx rfl (pc0 := 1) (pc' := 8) rfl (hb hby d1_1) rfl (by decide) (by decide) (by decide) k) ?_
  show OGot p.tables e below (s₁.setTop (mkF m 8 #[.val (.int (9 : Int32))] [])) _
  refine OGot.go (fun t k => XS.iloadN X0.here hx rfl (hb hby d1_8) rfl k) ?_
  show OGot p.tables e below (s₁.setTop (mkF m 9 #[.val (.int (9 : Int32))] [(.int (9 : Int32))])) _
  refine OGot.go (fun t k => XS.iconst X0.here hx rfl (hb hby d1_9) k) ?_
  show OGot p.tables e below (s₁.setTop (mkF m 10 #[.val (.int (9 : Int32))] [(.int (1 : Int32)), (.int (9 : Int32))])) _
  refine OGot.go (fun t k => XS.icmpYes X0.here hx rfl (pc0 := 10) (pc' := 17) rfl (hb hby d1_10) rfl (by decide) (by decide) (by decide) k) ?_
  show OGot p.tables e below (s₁.setTop (mkF m 17 #[.val (.int (9 : Int32))] [])) _
  refine OGot.go (fun t k => XS.iloadN X0.here hx rfl (hb hby d1_17) rfl k) ?_
  show OGot p.tables e below (s₁.setTop (mkF m 18 #[.val (.int (9 : Int32))] [(.int (9 : Int32))])) _
  refine OGot.go (fun t k => XS.iconst X0.here hx rfl (hb hby d1_18) k) ?_
  show OGot p.tables e below (s₁.setTop (mkF m 19 #[.val (.int (9 : Int32))] [(.int (2 : Int32)), (.int (9 : Int32))])) _
  refine OGot.go (fun t k => XS.icmpYes X0.here hx rfl (pc0 := 19) (pc' := 26) rfl (hb hby d1_19) rfl (by decide) (by decide) (by decide) k) ?_
  show OGot p.tables e below (s₁.setTop (mkF m 26 #[.val (.int (9 : Int32))] [])) _
  refine OGot.go (fun t k => XS.iloadN X0.here hx rfl (hb hby d1_26) rfl k) ?_
  show OGot p.tables e below (s₁.setTop (mkF m 27 #[.val (.int (9 : Int32))] [(.int (9 : Int32))])) _
  refine OGot.go (fun t k => XS.iconst X0.here hx rfl (hb hby d1_27) k) ?_
  show OGot p.tables e below (s₁.setTop (mkF m 28 #[.val (.int (9 : Int32))] [(.int (3 : Int32)), (.int (9 : Int32))])) _
  refine OGot.go (fun t k => XS.icmpYes X0.here hx rfl (pc0 := 28) (pc' := 35) rfl (hb hby d1_28) rfl (by decide) (by decide) (by decide) k) ?_
  show OGot p.tables e below (s₁.setTop (mkF m 35 #[.val (.int (9 : Int32))] [])) _
  refine OGot.go (fun t k => XS.iloadN X0.here hx rfl (hb hby d1_35) rfl k) ?_
  show OGot p.tables e below (s₁.setTop (mkF m 36 #[.val (.int (9 : Int32))] [(.int (9 : Int32))])) _
  refine OGot.go (fun t k => XS.iconst X0.here hx rfl (hb hby d1_36) k) ?_
  show OGot p.tables e below (s₁.setTop (mkF m 37 #[.val (.int (9 : Int32))] [(.int (4 : Int32)), (.int (9 : Int32))])) _
  refine OGot.go (fun t k => XS.icmpYes X0.here hx rfl (pc0 := 37) (pc' := 44) rfl (hb hby d1_37) rfl (by decide) (by decide) (by decide) k) ?_
  show OGot p.tables e below (s₁.setTop (mkF m 44 #[.val (.int (9 : Int32))] [])) _
  refine OGot.go (fun t k => XS.iloadN X0.here hx rfl (hb hby d1_44) rfl k) ?_
  show OGot p.tables e below (s₁.setTop (mkF m 45 #[.val (.int (9 : Int32))] [(.int (9 : Int32))])) _
  refine OGot.go (fun t k => XS.iconst X0.here hx rfl (hb hby d1_45) k) ?_
  show OGot p.tables e below (s₁.setTop (mkF m 46 #[.val (.int (9 : Int32))] [(.int (5 : Int32)), (.int (9 : Int32))])) _
  refine OGot.go (fun t k => XS.icmpYes X0.here hx rfl (pc0 := 46) (pc' := 53) rfl (hb hby d1_46) rfl (by decide) (by decide) (by decide) k) ?_
  show OGot p.tables e below (s₁.setTop (mkF m 53 #[.val (.int (9 : Int32))] [])) _
  refine OGot.go (fun t k => XS.iloadN X0.here hx rfl (hb hby d1_53) rfl k) ?_
  show OGot p.tables e below (s₁.setTop (mkF m 54 #[.val (.int (9 : Int32))] [(.int (9 : Int32))])) _
  refine OGot.go (fun t k => XS.bipush X0.here hx rfl (hb hby d1_54) k) ?_
  show OGot p.tables e below (s₁.setTop (mkF m 56 #[.val (.int (9 : Int32))] [(.int (6 : Int32)), (.int (9 : Int32))])) _
  refine OGot.go (fun t k => XS.icmpYes X0.here hx rfl (pc0 := 56) (pc' := 63) rfl (hb hby d1_56) rfl (by decide) (by decide) (by decide) k) ?_
  show OGot p.tables e below (s₁.setTop (mkF m 63 #[.val (.int (9 : Int32))] [])) _
  refine OGot.go (fun t k => XS.iloadN X0.here hx rfl (hb hby d1_63) rfl k) ?_
  show OGot p.tables e below (s₁.setTop (mkF m 64 #[.val (.int (9 : Int32))] [(.int (9 : Int32))])) _
  refine OGot.go (fun t k => XS.bipush X0.here hx rfl (hb hby d1_64) k) ?_
  show OGot p.tables e below (s₁.setTop (mkF m 66 #[.val (.int (9 : Int32))] [(.int (7 : Int32)), (.int (9 : Int32))])) _
  refine OGot.go (fun t k => XS.icmpYes X0.here hx rfl (pc0 := 66) (pc' := 73) rfl (hb hby d1_66) rfl (by decide) (by decide) (by decide) k) ?_
  show OGot p.tables e below (s₁.setTop (mkF m 73 #[.val (.int (9 : Int32))] [])) _
  refine OGot.go (fun t k => XS.iloadN X0.here hx rfl (hb hby d1_73) rfl k) ?_
  show OGot p.tables e below (s₁.setTop (mkF m 74 #[.val (.int (9 : Int32))] [(.int (9 : Int32))])) _
  refine OGot.go (fun t k => XS.bipush X0.here hx rfl (hb hby d1_74) k) ?_
  show OGot p.tables e below (s₁.setTop (mkF m 76 #[.val (.int (9 : Int32))] [(.int (8 : Int32)), (.int (9 : Int32))])) _
  refine OGot.go (fun t k => XS.icmpYes X0.here hx rfl (pc0 := 76) (pc' := 83) rfl (hb hby d1_76) rfl (by decide) (by decide) (by decide) k) ?_
  show OGot p.tables e below (s₁.setTop (mkF m 83 #[.val (.int (9 : Int32))] [])) _
  refine OGot.go (fun t k => XS.iloadN X0.here hx rfl (hb hby d1_83) rfl k) ?_
  show OGot p.tables e below (s₁.setTop (mkF m 84 #[.val (.int (9 : Int32))] [(.int (9 : Int32))])) _
  refine OGot.go (fun t k => XS.bipush X0.here hx rfl (hb hby d1_84) k) ?_
  show OGot p.tables e below (s₁.setTop (mkF m 86 #[.val (.int (9 : Int32))] [(.int (9 : Int32)), (.int (9 : Int32))])) _
  refine OGot.go (fun t k => XS.icmpNo X0.here hx rfl (hb hby d1_86) rfl (by decide) k) ?_
  show OGot p.tables e below (s₁.setTop (mkF m 89 #[.val (.int (9 : Int32))] [])) _
  obtain ⟨T1, X1, e1, st1⟩ := getS2 X0 hx hZ hown (host := "") (Or.inl (ow hw 43 rfl)) Via.refl e0 (G.2.2.2.2.2.2.2.2.2.2.2.2.2.2.2.2.2.2.2.2.2.2.2.2.2.2.2.2.1.ext O0.2) (g := (mkF m 89 #[.val (.int (9 : Int32))] [])) rfl (hb hby d1_89)
  refine OGot.go st1 ?_
  show OGot p.tables e below (T1.setTop (mkF m 92 #[.val (.int (9 : Int32))] [(.ref w_PARALLEL_GATEWAY)])) _
  obtain ⟨fs, hr, hrun, hended, hW, hsame⟩ := X1.leave (v := some (.ref w_PARALLEL_GATEWAY)) (fun h => by rw [Bd.returns] at h; cases h)
  refine ⟨_, _, oretA X1 hx Bd.returns rfl rfl (hb hby d1_92) hr, hrun, hended, _, _, rfl, ?_, ⟨_, rfl⟩, hW, hsame.mono (by decide) (by decide)⟩
  exact (⟨rfl, N0, e1⟩ : Q1_9 Z w_START_EVENT w_RECEPTION w_MESSAGE_START_EVENT w_MESSAGE_BOUNDARY_EVENT w_TERMINATE_END_EVENT w_LINK_THROW_EVENT w_BOUNDARY_EVENT w_LINK_CATCH_EVENT w_END_EVENT w_EVENT_BASED_GATEWAY w_INCLUSIVE_GATEWAY w_EXCLUSIVE_GATEWAY w_SUB_PROCESS w_ACTIVITY w_PARALLEL_GATEWAY  h0 n0 _ T1.heap _)
def Q2_9 (Z : State) (w_START_EVENT : Addr) (w_RECEPTION : Addr) (w_MESSAGE_START_EVENT : Addr) (w_MESSAGE_BOUNDARY_EVENT : Addr) (w_TERMINATE_END_EVENT : Addr) (w_LINK_THROW_EVENT : Addr) (w_BOUNDARY_EVENT : Addr) (w_LINK_CATCH_EVENT : Addr) (w_END_EVENT : Addr) (w_EVENT_BASED_GATEWAY : Addr) (w_INCLUSIVE_GATEWAY : Addr) (w_EXCLUSIVE_GATEWAY : Addr) (w_SUB_PROCESS : Addr) (w_ACTIVITY : Addr) (w_PARALLEL_GATEWAY : Addr)  (h0 : Heap) (n0 : Nat) (v : Option Value) (h : Heap) (L : List Loc) : Prop := v = some (.int (0 : Int32)) ∧ Fr n0 L ∧ h = h0
theorem ef2_9 (m : MethodId) (x0 : Addr) : entryFrame m #[(.ref x0)] 1 = mkF m 0 #[.val (.ref x0)] [] := by first | (simp [entryFrame, mkF, argsToLocals, Value.category]; done) | rfl
set_option maxRecDepth 65536 in
set_option maxHeartbeats 40000000 in
theorem rm2_9 (l : Launch) (Z : State) (a0 : Array Value) (hw : ∀ d ∈ tables_1, d.before a0 Z = true) (ws : List Jvm.Cond) {w_START_EVENT : Addr} {w_RECEPTION : Addr} {w_MESSAGE_START_EVENT : Addr} {w_MESSAGE_BOUNDARY_EVENT : Addr} {w_TERMINATE_END_EVENT : Addr} {w_LINK_THROW_EVENT : Addr} {w_BOUNDARY_EVENT : Addr} {w_LINK_CATCH_EVENT : Addr} {w_END_EVENT : Addr} {w_EVENT_BASED_GATEWAY : Addr} {w_INCLUSIVE_GATEWAY : Addr} {w_EXCLUSIVE_GATEWAY : Addr} {w_SUB_PROCESS : Addr} {w_ACTIVITY : Addr} {w_PARALLEL_GATEWAY : Addr} (G : Glob Z w_START_EVENT w_RECEPTION w_MESSAGE_START_EVENT w_MESSAGE_BOUNDARY_EVENT w_TERMINATE_END_EVENT w_LINK_THROW_EVENT w_BOUNDARY_EVENT w_LINK_CATCH_EVENT w_END_EVENT w_EVENT_BASED_GATEWAY w_INCLUSIVE_GATEWAY w_EXCLUSIVE_GATEWAY w_SUB_PROCESS w_ACTIVITY w_PARALLEL_GATEWAY)  (h0 : Heap) (n0 : Nat) (O0 : Old Z n0 h0) :
    MetFree l (⟨"com/example/chorale/chorale/FlowGraph$Kind", "receives", "()Z"⟩ : MethodName) (head1 (Jvm.Cond.code (⟨"com/example/chorale/chorale/FlowGraph$Kind", "receives", "()Z"⟩ : MethodName) prog_73_method_4_code 1 (some .boolean) :: ws) ({ frames := 0, cells := 0, slots := 0, locals := 0 } : Room)) (fun a U => a = #[(.ref w_PARALLEL_GATEWAY)] ∧ Z.Warmed39 U.vm ∧ U.heap = h0) (fun _ _ _ _ _ => True) (fun _ U o U' => ∃ v L, o = .returned v ∧ Q2_9 Z w_START_EVENT w_RECEPTION w_MESSAGE_START_EVENT w_MESSAGE_BOUNDARY_EVENT w_TERMINATE_END_EVENT w_LINK_THROW_EVENT w_BOUNDARY_EVENT w_LINK_CATCH_EVENT w_END_EVENT w_EVENT_BASED_GATEWAY w_INCLUSIVE_GATEWAY w_EXCLUSIVE_GATEWAY w_SUB_PROCESS w_ACTIVITY w_PARALLEL_GATEWAY  h0 n0 v U'.heap L ∧ FrameEnd U o U' L ({ frames := 0, cells := 0, slots := 0, locals := 0 } : Room).cells ({ frames := 0, cells := 0, slots := 0, locals := 0 } : Room).slots) := by
  refine MetFree.of_bodySF (plainFor_of_name pn_com_example_chorale_chorale_FlowGraph_Kind) hisR ?_
  intro p e s m args below meth c s₁ Bd hml0 hP hK
  obtain ⟨rfl, hZ, hh⟩ := hP
  have hx := Bd.exec
  have hby := Bd.bytes
  have hml : c.maxLocals = 1 := hml0
  have hown : s.vm.findClass "com/example/chorale/chorale/FlowGraph$Kind" = some m.cls := findClass_of_methodNamed Bd.named
  have hnm := (name_of_methodNamed Bd.named Bd.method).1
  have X0 : Stand p l e ({ frames := 0, cells := 0, slots := 0, locals := 0 } : Room) s m #[(.ref w_PARALLEL_GATEWAY)] below meth c s₁ [] 0 0 := Stand.of_body Bd
  have e0 : s₁.heap = h0 := by rw [← hh, Bd.state]; rfl
  have N0 := Fr.nil n0
  show OGot p.tables e below (s₁.setTop (entryFrame m #[(.ref w_PARALLEL_GATEWAY)] 1)) _
  refine OGot.go (fun t k => castTop (ef2_9 m w_PARALLEL_GATEWAY) k) ?_
  show OGot p.tables e below (s₁.setTop (mkF m 0 #[.val (.ref w_PARALLEL_GATEWAY)] [])) _
  refine OGot.go (fun t k => XS.aloadN X0.here hx rfl (hb hby d2_0) rfl rfl k) ?_
  show OGot p.tables e below (s₁.setTop (mkF m 1 #[.val (.ref w_PARALLEL_GATEWAY)] [(.ref w_PARALLEL_GATEWAY)])) _
  obtain ⟨T2, X2, e2, st2⟩ := getS2 X0 hx hZ hown (host := "") (Or.inl (ow hw 14 rfl)) Via.refl e0 (G.2.2.1.ext O0.2) (g := (mkF m 1 #[.val (.ref w_PARALLEL_GATEWAY)] [(.ref w_PARALLEL_GATEWAY)])) rfl (hb hby d2_1)
  refine OGot.go st2 ?_
  show OGot p.tables e below (T2.setTop (mkF m 4 #[.val (.ref w_PARALLEL_GATEWAY)] [(.ref w_RECEPTION), (.ref w_PARALLEL_GATEWAY)])) _
  have ne3 : w_PARALLEL_GATEWAY ≠ w_RECEPTION := (Fld.ne G.2.2.2.2.2.2.2.2.2.2.2.2.2.2.2.2.2.2.2.2.2.2.2.2.2.2.2.2.2.2.2.2.2.2.2.2.2.2.2.2.2.2.2.2 G.2.2.2.2.2.2.2.2.2.2.2.2.2.2.2.2.2.2.2.2.2.2.2.2.2.2.2.2.2.2.2.1 (by decide))
  refine OGot.go (fun t k => Jvm.RoadKit.acmp (g := (mkF m 4 #[.val (.ref w_PARALLEL_GATEWAY)] [(.ref w_RECEPTION), (.ref w_PARALLEL_GATEWAY)])) X2 hx rfl rfl rfl (pc0 := 4) (pc' := 7) (same := false) rfl (hb hby d2_4) rfl (decide_eq_false fun q => ne3 (Value.ref.inj q)) (by decide) (by decide) k) ?_
  show OGot p.tables e below (T2.setTop (mkF m 7 #[.val (.ref w_PARALLEL_GATEWAY)] [])) _
  refine OGot.go (fun t k => XS.aloadN X2.here hx rfl (hb hby d2_7) rfl rfl k) ?_
  show OGot p.tables e below (T2.setTop (mkF m 8 #[.val (.ref w_PARALLEL_GATEWAY)] [(.ref w_PARALLEL_GATEWAY)])) _
  obtain ⟨T4, X4, e4, st4⟩ := getS2 X2 hx hZ hown (host := "") (Or.inl (ow hw 16 rfl)) Via.refl e2 (G.2.2.2.2.1.ext O0.2) (g := (mkF m 8 #[.val (.ref w_PARALLEL_GATEWAY)] [(.ref w_PARALLEL_GATEWAY)])) rfl (hb hby d2_8)
  refine OGot.go st4 ?_
  show OGot p.tables e below (T4.setTop (mkF m 11 #[.val (.ref w_PARALLEL_GATEWAY)] [(.ref w_MESSAGE_START_EVENT), (.ref w_PARALLEL_GATEWAY)])) _
  have ne5 : w_PARALLEL_GATEWAY ≠ w_MESSAGE_START_EVENT := (Fld.ne G.2.2.2.2.2.2.2.2.2.2.2.2.2.2.2.2.2.2.2.2.2.2.2.2.2.2.2.2.2.2.2.2.2.2.2.2.2.2.2.2.2.2.2.2 G.2.2.2.2.2.2.2.2.2.2.2.2.2.2.2.2.2.2.2.2.2.2.2.2.2.2.2.2.2.2.2.2.1 (by decide))
  refine OGot.go (fun t k => Jvm.RoadKit.acmp (g := (mkF m 11 #[.val (.ref w_PARALLEL_GATEWAY)] [(.ref w_MESSAGE_START_EVENT), (.ref w_PARALLEL_GATEWAY)])) X4 hx rfl rfl rfl (pc0 := 11) (pc' := 14) (same := false) rfl (hb hby d2_11) rfl (decide_eq_false fun q => ne5 (Value.ref.inj q)) (by decide) (by decide) k) ?_
  show OGot p.tables e below (T4.setTop (mkF m 14 #[.val (.ref w_PARALLEL_GATEWAY)] [])) _
  refine OGot.go (fun t k => XS.aloadN X4.here hx rfl (hb hby d2_14) rfl rfl k) ?_
  show OGot p.tables e below (T4.setTop (mkF m 15 #[.val (.ref w_PARALLEL_GATEWAY)] [(.ref w_PARALLEL_GATEWAY)])) _
  obtain ⟨T6, X6, e6, st6⟩ := getS2 X4 hx hZ hown (host := "") (Or.inl (ow hw 18 rfl)) Via.refl e4 (G.2.2.2.2.2.2.1.ext O0.2) (g := (mkF m 15 #[.val (.ref w_PARALLEL_GATEWAY)] [(.ref w_PARALLEL_GATEWAY)])) rfl (hb hby d2_15)
  refine OGot.go st6 ?_
  show OGot p.tables e below (T6.setTop (mkF m 18 #[.val (.ref w_PARALLEL_GATEWAY)] [(.ref w_MESSAGE_BOUNDARY_EVENT), (.ref w_PARALLEL_GATEWAY)])) _
  have ne7 : w_PARALLEL_GATEWAY ≠ w_MESSAGE_BOUNDARY_EVENT := (Fld.ne G.2.2.2.2.2.2.2.2.2.2.2.2.2.2.2.2.2.2.2.2.2.2.2.2.2.2.2.2.2.2.2.2.2.2.2.2.2.2.2.2.2.2.2.2 G.2.2.2.2.2.2.2.2.2.2.2.2.2.2.2.2.2.2.2.2.2.2.2.2.2.2.2.2.2.2.2.2.2.1 (by decide))
  refine OGot.go (fun t k => Jvm.RoadKit.acmp (g := (mkF m 18 #[.val (.ref w_PARALLEL_GATEWAY)] [(.ref w_MESSAGE_BOUNDARY_EVENT), (.ref w_PARALLEL_GATEWAY)])) X6 hx rfl rfl rfl (pc0 := 18) (pc' := 25) (same := false) rfl (hb hby d2_18) rfl (decide_eq_false fun q => ne7 (Value.ref.inj q)) (by decide) (by decide) k) ?_
  show OGot p.tables e below (T6.setTop (mkF m 25 #[.val (.ref w_PARALLEL_GATEWAY)] [])) _
  refine OGot.go (fun t k => XS.iconst X6.here hx rfl (hb hby d2_25) k) ?_
  show OGot p.tables e below (T6.setTop (mkF m 26 #[.val (.ref w_PARALLEL_GATEWAY)] [(.int (0 : Int32))])) _
  obtain ⟨fs, hr, hrun, hended, hW, hsame⟩ := X6.leave (v := some (.int (0 : Int32))) (fun h => by rw [Bd.returns] at h; cases h)
  refine ⟨_, _, retN X6 hx (t := .boolean) Bd.returns (by simp) (hb hby d2_26) hr, hrun, hended, _, _, rfl, ?_, ⟨_, rfl⟩, hW, hsame.mono (by decide) (by decide)⟩
  exact (⟨rfl, N0, e6⟩ : Q2_9 Z w_START_EVENT w_RECEPTION w_MESSAGE_START_EVENT w_MESSAGE_BOUNDARY_EVENT w_TERMINATE_END_EVENT w_LINK_THROW_EVENT w_BOUNDARY_EVENT w_LINK_CATCH_EVENT w_END_EVENT w_EVENT_BASED_GATEWAY w_INCLUSIVE_GATEWAY w_EXCLUSIVE_GATEWAY w_SUB_PROCESS w_ACTIVITY w_PARALLEL_GATEWAY  h0 n0 _ T6.heap _)
theorem d1_93 : decode method_2_code 93 = .ok (.iload_n 0, 1) := by decide +kernel
theorem d1_94 : decode method_2_code 94 = .ok (.bipush 10, 2) := by decide +kernel
theorem d1_96 : decode method_2_code 96 = .ok (.if_icmp .ne 7, 3) := by decide +kernel
theorem d1_99 : decode method_2_code 99 = .ok (.getstatic 40, 3) := by decide +kernel
theorem d1_102 : decode method_2_code 102 = .ok (.areturn, 1) := by decide +kernel
def Q1_10 (Z : State) (w_START_EVENT : Addr) (w_RECEPTION : Addr) (w_MESSAGE_START_EVENT : Addr) (w_MESSAGE_BOUNDARY_EVENT : Addr) (w_TERMINATE_END_EVENT : Addr) (w_LINK_THROW_EVENT : Addr) (w_BOUNDARY_EVENT : Addr) (w_LINK_CATCH_EVENT : Addr) (w_END_EVENT : Addr) (w_EVENT_BASED_GATEWAY : Addr) (w_INCLUSIVE_GATEWAY : Addr) (w_EXCLUSIVE_GATEWAY : Addr) (w_SUB_PROCESS : Addr) (w_ACTIVITY : Addr) (w_PARALLEL_GATEWAY : Addr)  (h0 : Heap) (n0 : Nat) (v : Option Value) (h : Heap) (L : List Loc) : Prop := v = some (.ref w_INCLUSIVE_GATEWAY) ∧ Fr n0 L ∧ h = h0
theorem ef1_10 (m : MethodId)  : entryFrame m #[(.int (10 : Int32))] 1 = mkF m 0 #[.val (.int (10 : Int32))] [] := by first | (simp [entryFrame, mkF, argsToLocals, Value.category]; done) | rfl
set_option maxRecDepth 65536 in
set_option maxHeartbeats 40000000 in
theorem rm1_10 (l : Launch) (Z : State) (a0 : Array Value) (hw : ∀ d ∈ tables_1, d.before a0 Z = true) (ws : List Jvm.Cond) {w_START_EVENT : Addr} {w_RECEPTION : Addr} {w_MESSAGE_START_EVENT : Addr} {w_MESSAGE_BOUNDARY_EVENT : Addr} {w_TERMINATE_END_EVENT : Addr} {w_LINK_THROW_EVENT : Addr} {w_BOUNDARY_EVENT : Addr} {w_LINK_CATCH_EVENT : Addr} {w_END_EVENT : Addr} {w_EVENT_BASED_GATEWAY : Addr} {w_INCLUSIVE_GATEWAY : Addr} {w_EXCLUSIVE_GATEWAY : Addr} {w_SUB_PROCESS : Addr} {w_ACTIVITY : Addr} {w_PARALLEL_GATEWAY : Addr} (G : Glob Z w_START_EVENT w_RECEPTION w_MESSAGE_START_EVENT w_MESSAGE_BOUNDARY_EVENT w_TERMINATE_END_EVENT w_LINK_THROW_EVENT w_BOUNDARY_EVENT w_LINK_CATCH_EVENT w_END_EVENT w_EVENT_BASED_GATEWAY w_INCLUSIVE_GATEWAY w_EXCLUSIVE_GATEWAY w_SUB_PROCESS w_ACTIVITY w_PARALLEL_GATEWAY)  (h0 : Heap) (n0 : Nat) (O0 : Old Z n0 h0) :
    MetFree l (⟨"com/example/chorale/chorale/KindReceivesPinLaw", "kindAt", "(I)Lcom/example/chorale/chorale/FlowGraph$Kind;"⟩ : MethodName) (head1 (Jvm.Cond.code (⟨"com/example/chorale/chorale/KindReceivesPinLaw", "kindAt", "(I)Lcom/example/chorale/chorale/FlowGraph$Kind;"⟩ : MethodName) method_2_code 1 (some (.object "com/example/chorale/chorale/FlowGraph$Kind")) :: ws) ({ frames := 0, cells := 0, slots := 0, locals := 0 } : Room)) (fun a U => a = #[(.int (10 : Int32))] ∧ Z.Warmed39 U.vm ∧ U.heap = h0) (fun _ _ _ _ _ => True) (fun _ U o U' => ∃ v L, o = .returned v ∧ Q1_10 Z w_START_EVENT w_RECEPTION w_MESSAGE_START_EVENT w_MESSAGE_BOUNDARY_EVENT w_TERMINATE_END_EVENT w_LINK_THROW_EVENT w_BOUNDARY_EVENT w_LINK_CATCH_EVENT w_END_EVENT w_EVENT_BASED_GATEWAY w_INCLUSIVE_GATEWAY w_EXCLUSIVE_GATEWAY w_SUB_PROCESS w_ACTIVITY w_PARALLEL_GATEWAY  h0 n0 v U'.heap L ∧ FrameEnd U o U' L ({ frames := 0, cells := 0, slots := 0, locals := 0 } : Room).cells ({ frames := 0, cells := 0, slots := 0, locals := 0 } : Room).slots) := by
  refine MetFree.of_bodySF (plainFor_of_name pn_com_example_chorale_chorale_KindReceivesPinLaw) hisR ?_
  intro p e s m args below meth c s₁ Bd hml0 hP hK
  obtain ⟨rfl, hZ, hh⟩ := hP
  have hx := Bd.exec
  have hby := Bd.bytes
  have hml : c.maxLocals = 1 := hml0
  have hown : s.vm.findClass "com/example/chorale/chorale/KindReceivesPinLaw" = some m.cls := findClass_of_methodNamed Bd.named
  have hnm := (name_of_methodNamed Bd.named Bd.method).1
  have X0 : Stand p l e ({ frames := 0, cells := 0, slots := 0, locals := 0 } : Room) s m #[(.int (10 : Int32))] below meth c s₁ [] 0 0 := Stand.of_body Bd
  have e0 : s₁.heap = h0 := by rw [← hh, Bd.state]; rfl
  have N0 := Fr.nil n0
  show OGot p.tables e below (s₁.setTop (entryFrame m #[(.int (10 : Int32))] 1)) _
  refine OGot.go (fun t k => castTop (ef1_10 m ) k) ?_
  show OGot p.tables e below (s₁.setTop (mkF m 0 #[.val (.int (10 : Int32))] [])) _
  refine OGot.go (fun t k => XS.iloadN X0.here hx rfl (hb hby d1_0) rfl k) ?_
  show OGot p.tables e below (s₁.setTop (mkF m 1 #[.val (.int (10 : Int32))] [(.int (10 : Int32))])) _
  refine OGot.go (fun t k => XS.ifYes X0.here hx rfl (pc0 := 1) (pc' := 8) rfl (hb hby d1_1) rfl (by decide) (by decide) (by decide) k) ?_
  show OGot p.tables e below (s₁.setTop (mkF m 8 #[.val (.int (10 : Int32))] [])) _
  refine OGot.go (fun t k => XS.iloadN X0.here hx rfl (hb hby d1_8) rfl k) ?_
  show OGot p.tables e below (s₁.setTop (mkF m 9 #[.val (.int (10 : Int32))] [(.int (10 : Int32))])) _
  refine OGot.go (fun t k => XS.iconst X0.here hx rfl (hb hby d1_9) k) ?_
  show OGot p.tables e below (s₁.setTop (mkF m 10 #[.val (.int (10 : Int32))] [(.int (1 : Int32)), (.int (10 : Int32))])) _
  refine OGot.go (fun t k => XS.icmpYes X0.here hx rfl (pc0 := 10) (pc' := 17) rfl (hb hby d1_10) rfl (by decide) (by decide) (by decide) k) ?_
  show OGot p.tables e below (s₁.setTop (mkF m 17 #[.val (.int (10 : Int32))] [])) _
  refine OGot.go (fun t k => XS.iloadN X0.here hx rfl (hb hby d1_17) rfl k) ?_
  show OGot p.tables e below (s₁.setTop (mkF m 18 #[.val (.int (10 : Int32))] [(.int (10 : Int32))])) _
  refine OGot.go (fun t k => XS.iconst X0.here hx rfl (hb hby d1_18) k) ?_
  show OGot p.tables e below (s₁.setTop (mkF m 19 #[.val (.int (10 : Int32))] [(.int (2 : Int32)), (.int (10 : Int32))])) _
  refine OGot.go (fun t k => XS.icmpYes X0.here hx rfl (pc0 := 19) (pc' := 26) rfl (hb hby d1_19) rfl (by decide) (by decide) (by decide) k) ?_
  show OGot p.tables e below (s₁.setTop (mkF m 26 #[.val (.int (10 : Int32))] [])) _
  refine OGot.go (fun t k => XS.iloadN X0.here hx rfl (hb hby d1_26) rfl k) ?_
  show OGot p.tables e below (s₁.setTop (mkF m 27 #[.val (.int (10 : Int32))] [(.int (10 : Int32))])) _
  refine OGot.go (fun t k => XS.iconst X0.here hx rfl (hb hby d1_27) k) ?_
  show OGot p.tables e below (s₁.setTop (mkF m 28 #[.val (.int (10 : Int32))] [(.int (3 : Int32)), (.int (10 : Int32))])) _
  refine OGot.go (fun t k => XS.icmpYes X0.here hx rfl (pc0 := 28) (pc' := 35) rfl (hb hby d1_28) rfl (by decide) (by decide) (by decide) k) ?_
  show OGot p.tables e below (s₁.setTop (mkF m 35 #[.val (.int (10 : Int32))] [])) _
  refine OGot.go (fun t k => XS.iloadN X0.here hx rfl (hb hby d1_35) rfl k) ?_
  show OGot p.tables e below (s₁.setTop (mkF m 36 #[.val (.int (10 : Int32))] [(.int (10 : Int32))])) _
  refine OGot.go (fun t k => XS.iconst X0.here hx rfl (hb hby d1_36) k) ?_
  show OGot p.tables e below (s₁.setTop (mkF m 37 #[.val (.int (10 : Int32))] [(.int (4 : Int32)), (.int (10 : Int32))])) _
  refine OGot.go (fun t k => XS.icmpYes X0.here hx rfl (pc0 := 37) (pc' := 44) rfl (hb hby d1_37) rfl (by decide) (by decide) (by decide) k) ?_
  show OGot p.tables e below (s₁.setTop (mkF m 44 #[.val (.int (10 : Int32))] [])) _
  refine OGot.go (fun t k => XS.iloadN X0.here hx rfl (hb hby d1_44) rfl k) ?_
  show OGot p.tables e below (s₁.setTop (mkF m 45 #[.val (.int (10 : Int32))] [(.int (10 : Int32))])) _
  refine OGot.go (fun t k => XS.iconst X0.here hx rfl (hb hby d1_45) k) ?_
  show OGot p.tables e below (s₁.setTop (mkF m 46 #[.val (.int (10 : Int32))] [(.int (5 : Int32)), (.int (10 : Int32))])) _
  refine OGot.go (fun t k => XS.icmpYes X0.here hx rfl (pc0 := 46) (pc' := 53) rfl (hb hby d1_46) rfl (by decide) (by decide) (by decide) k) ?_
  show OGot p.tables e below (s₁.setTop (mkF m 53 #[.val (.int (10 : Int32))] [])) _
  refine OGot.go (fun t k => XS.iloadN X0.here hx rfl (hb hby d1_53) rfl k) ?_
  show OGot p.tables e below (s₁.setTop (mkF m 54 #[.val (.int (10 : Int32))] [(.int (10 : Int32))])) _
  refine OGot.go (fun t k => XS.bipush X0.here hx rfl (hb hby d1_54) k) ?_
  show OGot p.tables e below (s₁.setTop (mkF m 56 #[.val (.int (10 : Int32))] [(.int (6 : Int32)), (.int (10 : Int32))])) _
  refine OGot.go (fun t k => XS.icmpYes X0.here hx rfl (pc0 := 56) (pc' := 63) rfl (hb hby d1_56) rfl (by decide) (by decide) (by decide) k) ?_
  show OGot p.tables e below (s₁.setTop (mkF m 63 #[.val (.int (10 : Int32))] [])) _
  refine OGot.go (fun t k => XS.iloadN X0.here hx rfl (hb hby d1_63) rfl k) ?_
  show OGot p.tables e below (s₁.setTop (mkF m 64 #[.val (.int (10 : Int32))] [(.int (10 : Int32))])) _
  refine OGot.go (fun t k => XS.bipush X0.here hx rfl (hb hby d1_64) k) ?_
  show OGot p.tables e below (s₁.setTop (mkF m 66 #[.val (.int (10 : Int32))] [(.int (7 : Int32)), (.int (10 : Int32))])) _
  refine OGot.go (fun t k => XS.icmpYes X0.here hx rfl (pc0 := 66) (pc' := 73) rfl (hb hby d1_66) rfl (by decide) (by decide) (by decide) k) ?_
  show OGot p.tables e below (s₁.setTop (mkF m 73 #[.val (.int (10 : Int32))] [])) _
  refine OGot.go (fun t k => XS.iloadN X0.here hx rfl (hb hby d1_73) rfl k) ?_
  show OGot p.tables e below (s₁.setTop (mkF m 74 #[.val (.int (10 : Int32))] [(.int (10 : Int32))])) _
  refine OGot.go (fun t k => XS.bipush X0.here hx rfl (hb hby d1_74) k) ?_
  show OGot p.tables e below (s₁.setTop (mkF m 76 #[.val (.int (10 : Int32))] [(.int (8 : Int32)), (.int (10 : Int32))])) _
  refine OGot.go (fun t k => XS.icmpYes X0.here hx rfl (pc0 := 76) (pc' := 83) rfl (hb hby d1_76) rfl (by decide) (by decide) (by decide) k) ?_
  show OGot p.tables e below (s₁.setTop (mkF m 83 #[.val (.int (10 : Int32))] [])) _
  refine OGot.go (fun t k => XS.iloadN X0.here hx rfl (hb hby d1_83) rfl k) ?_
  show OGot p.tables e below (s₁.setTop (mkF m 84 #[.val (.int (10 : Int32))] [(.int (10 : Int32))])) _
  refine OGot.go (fun t k => XS.bipush X0.here hx rfl (hb hby d1_84) k) ?_
  show OGot p.tables e below (s₁.setTop (mkF m 86 #[.val (.int (10 : Int32))] [(.int (9 : Int32)), (.int (10 : Int32))])) _
  refine OGot.go (fun t k => XS.icmpYes X0.here hx rfl (pc0 := 86) (pc' := 93) rfl (hb hby d1_86) rfl (by decide) (by decide) (by decide) k) ?_
  show OGot p.tables e below (s₁.setTop (mkF m 93 #[.val (.int (10 : Int32))] [])) _
  refine OGot.go (fun t k => XS.iloadN X0.here hx rfl (hb hby d1_93) rfl k) ?_
  show OGot p.tables e below (s₁.setTop (mkF m 94 #[.val (.int (10 : Int32))] [(.int (10 : Int32))])) _
  refine OGot.go (fun t k => XS.bipush X0.here hx rfl (hb hby d1_94) k) ?_
  show OGot p.tables e below (s₁.setTop (mkF m 96 #[.val (.int (10 : Int32))] [(.int (10 : Int32)), (.int (10 : Int32))])) _
  refine OGot.go (fun t k => XS.icmpNo X0.here hx rfl (hb hby d1_96) rfl (by decide) k) ?_
  show OGot p.tables e below (s₁.setTop (mkF m 99 #[.val (.int (10 : Int32))] [])) _
  obtain ⟨T1, X1, e1, st1⟩ := getS2 X0 hx hZ hown (host := "") (Or.inl (ow hw 34 rfl)) Via.refl e0 (G.2.2.2.2.2.2.2.2.2.2.2.2.2.2.2.2.2.2.2.2.1.ext O0.2) (g := (mkF m 99 #[.val (.int (10 : Int32))] [])) rfl (hb hby d1_99)
  refine OGot.go st1 ?_
  show OGot p.tables e below (T1.setTop (mkF m 102 #[.val (.int (10 : Int32))] [(.ref w_INCLUSIVE_GATEWAY)])) _
  obtain ⟨fs, hr, hrun, hended, hW, hsame⟩ := X1.leave (v := some (.ref w_INCLUSIVE_GATEWAY)) (fun h => by rw [Bd.returns] at h; cases h)
  refine ⟨_, _, oretA X1 hx Bd.returns rfl rfl (hb hby d1_102) hr, hrun, hended, _, _, rfl, ?_, ⟨_, rfl⟩, hW, hsame.mono (by decide) (by decide)⟩
  exact (⟨rfl, N0, e1⟩ : Q1_10 Z w_START_EVENT w_RECEPTION w_MESSAGE_START_EVENT w_MESSAGE_BOUNDARY_EVENT w_TERMINATE_END_EVENT w_LINK_THROW_EVENT w_BOUNDARY_EVENT w_LINK_CATCH_EVENT w_END_EVENT w_EVENT_BASED_GATEWAY w_INCLUSIVE_GATEWAY w_EXCLUSIVE_GATEWAY w_SUB_PROCESS w_ACTIVITY w_PARALLEL_GATEWAY  h0 n0 _ T1.heap _)
def Q2_10 (Z : State) (w_START_EVENT : Addr) (w_RECEPTION : Addr) (w_MESSAGE_START_EVENT : Addr) (w_MESSAGE_BOUNDARY_EVENT : Addr) (w_TERMINATE_END_EVENT : Addr) (w_LINK_THROW_EVENT : Addr) (w_BOUNDARY_EVENT : Addr) (w_LINK_CATCH_EVENT : Addr) (w_END_EVENT : Addr) (w_EVENT_BASED_GATEWAY : Addr) (w_INCLUSIVE_GATEWAY : Addr) (w_EXCLUSIVE_GATEWAY : Addr) (w_SUB_PROCESS : Addr) (w_ACTIVITY : Addr) (w_PARALLEL_GATEWAY : Addr)  (h0 : Heap) (n0 : Nat) (v : Option Value) (h : Heap) (L : List Loc) : Prop := v = some (.int (0 : Int32)) ∧ Fr n0 L ∧ h = h0
theorem ef2_10 (m : MethodId) (x0 : Addr) : entryFrame m #[(.ref x0)] 1 = mkF m 0 #[.val (.ref x0)] [] := by first | (simp [entryFrame, mkF, argsToLocals, Value.category]; done) | rfl
set_option maxRecDepth 65536 in
set_option maxHeartbeats 40000000 in
theorem rm2_10 (l : Launch) (Z : State) (a0 : Array Value) (hw : ∀ d ∈ tables_1, d.before a0 Z = true) (ws : List Jvm.Cond) {w_START_EVENT : Addr} {w_RECEPTION : Addr} {w_MESSAGE_START_EVENT : Addr} {w_MESSAGE_BOUNDARY_EVENT : Addr} {w_TERMINATE_END_EVENT : Addr} {w_LINK_THROW_EVENT : Addr} {w_BOUNDARY_EVENT : Addr} {w_LINK_CATCH_EVENT : Addr} {w_END_EVENT : Addr} {w_EVENT_BASED_GATEWAY : Addr} {w_INCLUSIVE_GATEWAY : Addr} {w_EXCLUSIVE_GATEWAY : Addr} {w_SUB_PROCESS : Addr} {w_ACTIVITY : Addr} {w_PARALLEL_GATEWAY : Addr} (G : Glob Z w_START_EVENT w_RECEPTION w_MESSAGE_START_EVENT w_MESSAGE_BOUNDARY_EVENT w_TERMINATE_END_EVENT w_LINK_THROW_EVENT w_BOUNDARY_EVENT w_LINK_CATCH_EVENT w_END_EVENT w_EVENT_BASED_GATEWAY w_INCLUSIVE_GATEWAY w_EXCLUSIVE_GATEWAY w_SUB_PROCESS w_ACTIVITY w_PARALLEL_GATEWAY)  (h0 : Heap) (n0 : Nat) (O0 : Old Z n0 h0) :
    MetFree l (⟨"com/example/chorale/chorale/FlowGraph$Kind", "receives", "()Z"⟩ : MethodName) (head1 (Jvm.Cond.code (⟨"com/example/chorale/chorale/FlowGraph$Kind", "receives", "()Z"⟩ : MethodName) prog_73_method_4_code 1 (some .boolean) :: ws) ({ frames := 0, cells := 0, slots := 0, locals := 0 } : Room)) (fun a U => a = #[(.ref w_INCLUSIVE_GATEWAY)] ∧ Z.Warmed39 U.vm ∧ U.heap = h0) (fun _ _ _ _ _ => True) (fun _ U o U' => ∃ v L, o = .returned v ∧ Q2_10 Z w_START_EVENT w_RECEPTION w_MESSAGE_START_EVENT w_MESSAGE_BOUNDARY_EVENT w_TERMINATE_END_EVENT w_LINK_THROW_EVENT w_BOUNDARY_EVENT w_LINK_CATCH_EVENT w_END_EVENT w_EVENT_BASED_GATEWAY w_INCLUSIVE_GATEWAY w_EXCLUSIVE_GATEWAY w_SUB_PROCESS w_ACTIVITY w_PARALLEL_GATEWAY  h0 n0 v U'.heap L ∧ FrameEnd U o U' L ({ frames := 0, cells := 0, slots := 0, locals := 0 } : Room).cells ({ frames := 0, cells := 0, slots := 0, locals := 0 } : Room).slots) := by
  refine MetFree.of_bodySF (plainFor_of_name pn_com_example_chorale_chorale_FlowGraph_Kind) hisR ?_
  intro p e s m args below meth c s₁ Bd hml0 hP hK
  obtain ⟨rfl, hZ, hh⟩ := hP
  have hx := Bd.exec
  have hby := Bd.bytes
  have hml : c.maxLocals = 1 := hml0
  have hown : s.vm.findClass "com/example/chorale/chorale/FlowGraph$Kind" = some m.cls := findClass_of_methodNamed Bd.named
  have hnm := (name_of_methodNamed Bd.named Bd.method).1
  have X0 : Stand p l e ({ frames := 0, cells := 0, slots := 0, locals := 0 } : Room) s m #[(.ref w_INCLUSIVE_GATEWAY)] below meth c s₁ [] 0 0 := Stand.of_body Bd
  have e0 : s₁.heap = h0 := by rw [← hh, Bd.state]; rfl
  have N0 := Fr.nil n0
  show OGot p.tables e below (s₁.setTop (entryFrame m #[(.ref w_INCLUSIVE_GATEWAY)] 1)) _
  refine OGot.go (fun t k => castTop (ef2_10 m w_INCLUSIVE_GATEWAY) k) ?_
  show OGot p.tables e below (s₁.setTop (mkF m 0 #[.val (.ref w_INCLUSIVE_GATEWAY)] [])) _
  refine OGot.go (fun t k => XS.aloadN X0.here hx rfl (hb hby d2_0) rfl rfl k) ?_
  show OGot p.tables e below (s₁.setTop (mkF m 1 #[.val (.ref w_INCLUSIVE_GATEWAY)] [(.ref w_INCLUSIVE_GATEWAY)])) _
  obtain ⟨T2, X2, e2, st2⟩ := getS2 X0 hx hZ hown (host := "") (Or.inl (ow hw 14 rfl)) Via.refl e0 (G.2.2.1.ext O0.2) (g := (mkF m 1 #[.val (.ref w_INCLUSIVE_GATEWAY)] [(.ref w_INCLUSIVE_GATEWAY)])) rfl (hb hby d2_1)
  refine OGot.go st2 ?_
  show OGot p.tables e below (T2.setTop (mkF m 4 #[.val (.ref w_INCLUSIVE_GATEWAY)] [(.ref w_RECEPTION), (.ref w_INCLUSIVE_GATEWAY)])) _
  have ne3 : w_INCLUSIVE_GATEWAY ≠ w_RECEPTION := (Fld.ne G.2.2.2.2.2.2.2.2.2.2.2.2.2.2.2.2.2.2.2.2.2.2.2.2.2.2.2.2.2.2.2.2.2.2.2.2.2.2.2.2.1 G.2.2.2.2.2.2.2.2.2.2.2.2.2.2.2.2.2.2.2.2.2.2.2.2.2.2.2.2.2.2.2.1 (by decide))
  refine OGot.go (fun t k => Jvm.RoadKit.acmp (g := (mkF m 4 #[.val (.ref w_INCLUSIVE_GATEWAY)] [(.ref w_RECEPTION), (.ref w_INCLUSIVE_GATEWAY)])) X2 hx rfl rfl rfl (pc0 := 4) (pc' := 7) (same := false) rfl (hb hby d2_4) rfl (decide_eq_false fun q => ne3 (Value.ref.inj q)) (by decide) (by decide) k) ?_
  show OGot p.tables e below (T2.setTop (mkF m 7 #[.val (.ref w_INCLUSIVE_GATEWAY)] [])) _
  refine OGot.go (fun t k => XS.aloadN X2.here hx rfl (hb hby d2_7) rfl rfl k) ?_
  show OGot p.tables e below (T2.setTop (mkF m 8 #[.val (.ref w_INCLUSIVE_GATEWAY)] [(.ref w_INCLUSIVE_GATEWAY)])) _
  obtain ⟨T4, X4, e4, st4⟩ := getS2 X2 hx hZ hown (host := "") (Or.inl (ow hw 16 rfl)) Via.refl e2 (G.2.2.2.2.1.ext O0.2) (g := (mkF m 8 #[.val (.ref w_INCLUSIVE_GATEWAY)] [(.ref w_INCLUSIVE_GATEWAY)])) rfl (hb hby d2_8)
  refine OGot.go st4 ?_
  show OGot p.tables e below (T4.setTop (mkF m 11 #[.val (.ref w_INCLUSIVE_GATEWAY)] [(.ref w_MESSAGE_START_EVENT), (.ref w_INCLUSIVE_GATEWAY)])) _
  have ne5 : w_INCLUSIVE_GATEWAY ≠ w_MESSAGE_START_EVENT := (Fld.ne G.2.2.2.2.2.2.2.2.2.2.2.2.2.2.2.2.2.2.2.2.2.2.2.2.2.2.2.2.2.2.2.2.2.2.2.2.2.2.2.2.1 G.2.2.2.2.2.2.2.2.2.2.2.2.2.2.2.2.2.2.2.2.2.2.2.2.2.2.2.2.2.2.2.2.1 (by decide))
  refine OGot.go (fun t k => Jvm.RoadKit.acmp (g := (mkF m 11 #[.val (.ref w_INCLUSIVE_GATEWAY)] [(.ref w_MESSAGE_START_EVENT), (.ref w_INCLUSIVE_GATEWAY)])) X4 hx rfl rfl rfl (pc0 := 11) (pc' := 14) (same := false) rfl (hb hby d2_11) rfl (decide_eq_false fun q => ne5 (Value.ref.inj q)) (by decide) (by decide) k) ?_
  show OGot p.tables e below (T4.setTop (mkF m 14 #[.val (.ref w_INCLUSIVE_GATEWAY)] [])) _
  refine OGot.go (fun t k => XS.aloadN X4.here hx rfl (hb hby d2_14) rfl rfl k) ?_
  show OGot p.tables e below (T4.setTop (mkF m 15 #[.val (.ref w_INCLUSIVE_GATEWAY)] [(.ref w_INCLUSIVE_GATEWAY)])) _
  obtain ⟨T6, X6, e6, st6⟩ := getS2 X4 hx hZ hown (host := "") (Or.inl (ow hw 18 rfl)) Via.refl e4 (G.2.2.2.2.2.2.1.ext O0.2) (g := (mkF m 15 #[.val (.ref w_INCLUSIVE_GATEWAY)] [(.ref w_INCLUSIVE_GATEWAY)])) rfl (hb hby d2_15)
  refine OGot.go st6 ?_
  show OGot p.tables e below (T6.setTop (mkF m 18 #[.val (.ref w_INCLUSIVE_GATEWAY)] [(.ref w_MESSAGE_BOUNDARY_EVENT), (.ref w_INCLUSIVE_GATEWAY)])) _
  have ne7 : w_INCLUSIVE_GATEWAY ≠ w_MESSAGE_BOUNDARY_EVENT := (Fld.ne G.2.2.2.2.2.2.2.2.2.2.2.2.2.2.2.2.2.2.2.2.2.2.2.2.2.2.2.2.2.2.2.2.2.2.2.2.2.2.2.2.1 G.2.2.2.2.2.2.2.2.2.2.2.2.2.2.2.2.2.2.2.2.2.2.2.2.2.2.2.2.2.2.2.2.2.1 (by decide))
  refine OGot.go (fun t k => Jvm.RoadKit.acmp (g := (mkF m 18 #[.val (.ref w_INCLUSIVE_GATEWAY)] [(.ref w_MESSAGE_BOUNDARY_EVENT), (.ref w_INCLUSIVE_GATEWAY)])) X6 hx rfl rfl rfl (pc0 := 18) (pc' := 25) (same := false) rfl (hb hby d2_18) rfl (decide_eq_false fun q => ne7 (Value.ref.inj q)) (by decide) (by decide) k) ?_
  show OGot p.tables e below (T6.setTop (mkF m 25 #[.val (.ref w_INCLUSIVE_GATEWAY)] [])) _
  refine OGot.go (fun t k => XS.iconst X6.here hx rfl (hb hby d2_25) k) ?_
  show OGot p.tables e below (T6.setTop (mkF m 26 #[.val (.ref w_INCLUSIVE_GATEWAY)] [(.int (0 : Int32))])) _
  obtain ⟨fs, hr, hrun, hended, hW, hsame⟩ := X6.leave (v := some (.int (0 : Int32))) (fun h => by rw [Bd.returns] at h; cases h)
  refine ⟨_, _, retN X6 hx (t := .boolean) Bd.returns (by simp) (hb hby d2_26) hr, hrun, hended, _, _, rfl, ?_, ⟨_, rfl⟩, hW, hsame.mono (by decide) (by decide)⟩
  exact (⟨rfl, N0, e6⟩ : Q2_10 Z w_START_EVENT w_RECEPTION w_MESSAGE_START_EVENT w_MESSAGE_BOUNDARY_EVENT w_TERMINATE_END_EVENT w_LINK_THROW_EVENT w_BOUNDARY_EVENT w_LINK_CATCH_EVENT w_END_EVENT w_EVENT_BASED_GATEWAY w_INCLUSIVE_GATEWAY w_EXCLUSIVE_GATEWAY w_SUB_PROCESS w_ACTIVITY w_PARALLEL_GATEWAY  h0 n0 _ T6.heap _)
theorem d1_103 : decode method_2_code 103 = .ok (.iload_n 0, 1) := by decide +kernel
theorem d1_104 : decode method_2_code 104 = .ok (.bipush 11, 2) := by decide +kernel
theorem d1_106 : decode method_2_code 106 = .ok (.if_icmp .ne 7, 3) := by decide +kernel
theorem d1_109 : decode method_2_code 109 = .ok (.getstatic 43, 3) := by decide +kernel
theorem d1_112 : decode method_2_code 112 = .ok (.areturn, 1) := by decide +kernel
def Q1_11 (Z : State) (w_START_EVENT : Addr) (w_RECEPTION : Addr) (w_MESSAGE_START_EVENT : Addr) (w_MESSAGE_BOUNDARY_EVENT : Addr) (w_TERMINATE_END_EVENT : Addr) (w_LINK_THROW_EVENT : Addr) (w_BOUNDARY_EVENT : Addr) (w_LINK_CATCH_EVENT : Addr) (w_END_EVENT : Addr) (w_EVENT_BASED_GATEWAY : Addr) (w_INCLUSIVE_GATEWAY : Addr) (w_EXCLUSIVE_GATEWAY : Addr) (w_SUB_PROCESS : Addr) (w_ACTIVITY : Addr) (w_PARALLEL_GATEWAY : Addr)  (h0 : Heap) (n0 : Nat) (v : Option Value) (h : Heap) (L : List Loc) : Prop := v = some (.ref w_EVENT_BASED_GATEWAY) ∧ Fr n0 L ∧ h = h0
theorem ef1_11 (m : MethodId)  : entryFrame m #[(.int (11 : Int32))] 1 = mkF m 0 #[.val (.int (11 : Int32))] [] := by first | (simp [entryFrame, mkF, argsToLocals, Value.category]; done) | rfl
set_option maxRecDepth 65536 in
set_option maxHeartbeats 40000000 in
theorem rm1_11 (l : Launch) (Z : State) (a0 : Array Value) (hw : ∀ d ∈ tables_1, d.before a0 Z = true) (ws : List Jvm.Cond) {w_START_EVENT : Addr} {w_RECEPTION : Addr} {w_MESSAGE_START_EVENT : Addr} {w_MESSAGE_BOUNDARY_EVENT : Addr} {w_TERMINATE_END_EVENT : Addr} {w_LINK_THROW_EVENT : Addr} {w_BOUNDARY_EVENT : Addr} {w_LINK_CATCH_EVENT : Addr} {w_END_EVENT : Addr} {w_EVENT_BASED_GATEWAY : Addr} {w_INCLUSIVE_GATEWAY : Addr} {w_EXCLUSIVE_GATEWAY : Addr} {w_SUB_PROCESS : Addr} {w_ACTIVITY : Addr} {w_PARALLEL_GATEWAY : Addr} (G : Glob Z w_START_EVENT w_RECEPTION w_MESSAGE_START_EVENT w_MESSAGE_BOUNDARY_EVENT w_TERMINATE_END_EVENT w_LINK_THROW_EVENT w_BOUNDARY_EVENT w_LINK_CATCH_EVENT w_END_EVENT w_EVENT_BASED_GATEWAY w_INCLUSIVE_GATEWAY w_EXCLUSIVE_GATEWAY w_SUB_PROCESS w_ACTIVITY w_PARALLEL_GATEWAY)  (h0 : Heap) (n0 : Nat) (O0 : Old Z n0 h0) :
    MetFree l (⟨"com/example/chorale/chorale/KindReceivesPinLaw", "kindAt", "(I)Lcom/example/chorale/chorale/FlowGraph$Kind;"⟩ : MethodName) (head1 (Jvm.Cond.code (⟨"com/example/chorale/chorale/KindReceivesPinLaw", "kindAt", "(I)Lcom/example/chorale/chorale/FlowGraph$Kind;"⟩ : MethodName) method_2_code 1 (some (.object "com/example/chorale/chorale/FlowGraph$Kind")) :: ws) ({ frames := 0, cells := 0, slots := 0, locals := 0 } : Room)) (fun a U => a = #[(.int (11 : Int32))] ∧ Z.Warmed39 U.vm ∧ U.heap = h0) (fun _ _ _ _ _ => True) (fun _ U o U' => ∃ v L, o = .returned v ∧ Q1_11 Z w_START_EVENT w_RECEPTION w_MESSAGE_START_EVENT w_MESSAGE_BOUNDARY_EVENT w_TERMINATE_END_EVENT w_LINK_THROW_EVENT w_BOUNDARY_EVENT w_LINK_CATCH_EVENT w_END_EVENT w_EVENT_BASED_GATEWAY w_INCLUSIVE_GATEWAY w_EXCLUSIVE_GATEWAY w_SUB_PROCESS w_ACTIVITY w_PARALLEL_GATEWAY  h0 n0 v U'.heap L ∧ FrameEnd U o U' L ({ frames := 0, cells := 0, slots := 0, locals := 0 } : Room).cells ({ frames := 0, cells := 0, slots := 0, locals := 0 } : Room).slots) := by
  refine MetFree.of_bodySF (plainFor_of_name pn_com_example_chorale_chorale_KindReceivesPinLaw) hisR ?_
  intro p e s m args below meth c s₁ Bd hml0 hP hK
  obtain ⟨rfl, hZ, hh⟩ := hP
  have hx := Bd.exec
  have hby := Bd.bytes
  have hml : c.maxLocals = 1 := hml0
  have hown : s.vm.findClass "com/example/chorale/chorale/KindReceivesPinLaw" = some m.cls := findClass_of_methodNamed Bd.named
  have hnm := (name_of_methodNamed Bd.named Bd.method).1
  have X0 : Stand p l e ({ frames := 0, cells := 0, slots := 0, locals := 0 } : Room) s m #[(.int (11 : Int32))] below meth c s₁ [] 0 0 := Stand.of_body Bd
  have e0 : s₁.heap = h0 := by rw [← hh, Bd.state]; rfl
  have N0 := Fr.nil n0
  show OGot p.tables e below (s₁.setTop (entryFrame m #[(.int (11 : Int32))] 1)) _
  refine OGot.go (fun t k => castTop (ef1_11 m ) k) ?_
  show OGot p.tables e below (s₁.setTop (mkF m 0 #[.val (.int (11 : Int32))] [])) _
  refine OGot.go (fun t k => XS.iloadN X0.here hx rfl (hb hby d1_0) rfl k) ?_
  show OGot p.tables e below (s₁.setTop (mkF m 1 #[.val (.int (11 : Int32))] [(.int (11 : Int32))])) _
  refine OGot.go (fun t k => XS.ifYes X0.here hx rfl (pc0 := 1) (pc' := 8) rfl (hb hby d1_1) rfl (by decide) (by decide) (by decide) k) ?_
  show OGot p.tables e below (s₁.setTop (mkF m 8 #[.val (.int (11 : Int32))] [])) _
  refine OGot.go (fun t k => XS.iloadN X0.here hx rfl (hb hby d1_8) rfl k) ?_
  show OGot p.tables e below (s₁.setTop (mkF m 9 #[.val (.int (11 : Int32))] [(.int (11 : Int32))])) _
  refine OGot.go (fun t k => XS.iconst X0.here hx rfl (hb hby d1_9) k) ?_
  show OGot p.tables e below (s₁.setTop (mkF m 10 #[.val (.int (11 : Int32))] [(.int (1 : Int32)), (.int (11 : Int32))])) _
  refine OGot.go (fun t k => XS.icmpYes X0.here hx rfl (pc0 := 10) (pc' := 17) rfl (hb hby d1_10) rfl (by decide) (by decide) (by decide) k) ?_
  show OGot p.tables e below (s₁.setTop (mkF m 17 #[.val (.int (11 : Int32))] [])) _
  refine OGot.go (fun t k => XS.iloadN X0.here hx rfl (hb hby d1_17) rfl k) ?_
  show OGot p.tables e below (s₁.setTop (mkF m 18 #[.val (.int (11 : Int32))] [(.int (11 : Int32))])) _
  refine OGot.go (fun t k => XS.iconst X0.here hx rfl (hb hby d1_18) k) ?_
  show OGot p.tables e below (s₁.setTop (mkF m 19 #[.val (.int (11 : Int32))] [(.int (2 : Int32)), (.int (11 : Int32))])) _
  refine OGot.go (fun t k => XS.icmpYes X0.here hx rfl (pc0 := 19) (pc' := 26) rfl (hb hby d1_19) rfl (by decide) (by decide) (by decide) k) ?_
  show OGot p.tables e below (s₁.setTop (mkF m 26 #[.val (.int (11 : Int32))] [])) _
  refine OGot.go (fun t k => XS.iloadN X0.here hx rfl (hb hby d1_26) rfl k) ?_
  show OGot p.tables e below (s₁.setTop (mkF m 27 #[.val (.int (11 : Int32))] [(.int (11 : Int32))])) _
  refine OGot.go (fun t k => XS.iconst X0.here hx rfl (hb hby d1_27) k) ?_
  show OGot p.tables e below (s₁.setTop (mkF m 28 #[.val (.int (11 : Int32))] [(.int (3 : Int32)), (.int (11 : Int32))])) _
  refine OGot.go (fun t k => XS.icmpYes X0.here hx rfl (pc0 := 28) (pc' := 35) rfl (hb hby d1_28) rfl (by decide) (by decide) (by decide) k) ?_
  show OGot p.tables e below (s₁.setTop (mkF m 35 #[.val (.int (11 : Int32))] [])) _
  refine OGot.go (fun t k => XS.iloadN X0.here hx rfl (hb hby d1_35) rfl k) ?_
  show OGot p.tables e below (s₁.setTop (mkF m 36 #[.val (.int (11 : Int32))] [(.int (11 : Int32))])) _
  refine OGot.go (fun t k => XS.iconst X0.here hx rfl (hb hby d1_36) k) ?_
  show OGot p.tables e below (s₁.setTop (mkF m 37 #[.val (.int (11 : Int32))] [(.int (4 : Int32)), (.int (11 : Int32))])) _
  refine OGot.go (fun t k => XS.icmpYes X0.here hx rfl (pc0 := 37) (pc' := 44) rfl (hb hby d1_37) rfl (by decide) (by decide) (by decide) k) ?_
  show OGot p.tables e below (s₁.setTop (mkF m 44 #[.val (.int (11 : Int32))] [])) _
  refine OGot.go (fun t k => XS.iloadN X0.here hx rfl (hb hby d1_44) rfl k) ?_
  show OGot p.tables e below (s₁.setTop (mkF m 45 #[.val (.int (11 : Int32))] [(.int (11 : Int32))])) _
  refine OGot.go (fun t k => XS.iconst X0.here hx rfl (hb hby d1_45) k) ?_
  show OGot p.tables e below (s₁.setTop (mkF m 46 #[.val (.int (11 : Int32))] [(.int (5 : Int32)), (.int (11 : Int32))])) _
  refine OGot.go (fun t k => XS.icmpYes X0.here hx rfl (pc0 := 46) (pc' := 53) rfl (hb hby d1_46) rfl (by decide) (by decide) (by decide) k) ?_
  show OGot p.tables e below (s₁.setTop (mkF m 53 #[.val (.int (11 : Int32))] [])) _
  refine OGot.go (fun t k => XS.iloadN X0.here hx rfl (hb hby d1_53) rfl k) ?_
  show OGot p.tables e below (s₁.setTop (mkF m 54 #[.val (.int (11 : Int32))] [(.int (11 : Int32))])) _
  refine OGot.go (fun t k => XS.bipush X0.here hx rfl (hb hby d1_54) k) ?_
  show OGot p.tables e below (s₁.setTop (mkF m 56 #[.val (.int (11 : Int32))] [(.int (6 : Int32)), (.int (11 : Int32))])) _
  refine OGot.go (fun t k => XS.icmpYes X0.here hx rfl (pc0 := 56) (pc' := 63) rfl (hb hby d1_56) rfl (by decide) (by decide) (by decide) k) ?_
  show OGot p.tables e below (s₁.setTop (mkF m 63 #[.val (.int (11 : Int32))] [])) _
  refine OGot.go (fun t k => XS.iloadN X0.here hx rfl (hb hby d1_63) rfl k) ?_
  show OGot p.tables e below (s₁.setTop (mkF m 64 #[.val (.int (11 : Int32))] [(.int (11 : Int32))])) _
  refine OGot.go (fun t k => XS.bipush X0.here hx rfl (hb hby d1_64) k) ?_
  show OGot p.tables e below (s₁.setTop (mkF m 66 #[.val (.int (11 : Int32))] [(.int (7 : Int32)), (.int (11 : Int32))])) _
  refine OGot.go (fun t k => XS.icmpYes X0.here hx rfl (pc0 := 66) (pc' := 73) rfl (hb hby d1_66) rfl (by decide) (by decide) (by decide) k) ?_
  show OGot p.tables e below (s₁.setTop (mkF m 73 #[.val (.int (11 : Int32))] [])) _
  refine OGot.go (fun t k => XS.iloadN X0.here hx rfl (hb hby d1_73) rfl k) ?_
  show OGot p.tables e below (s₁.setTop (mkF m 74 #[.val (.int (11 : Int32))] [(.int (11 : Int32))])) _
  refine OGot.go (fun t k => XS.bipush X0.here hx rfl (hb hby d1_74) k) ?_
  show OGot p.tables e below (s₁.setTop (mkF m 76 #[.val (.int (11 : Int32))] [(.int (8 : Int32)), (.int (11 : Int32))])) _
  refine OGot.go (fun t k => XS.icmpYes X0.here hx rfl (pc0 := 76) (pc' := 83) rfl (hb hby d1_76) rfl (by decide) (by decide) (by decide) k) ?_
  show OGot p.tables e below (s₁.setTop (mkF m 83 #[.val (.int (11 : Int32))] [])) _
  refine OGot.go (fun t k => XS.iloadN X0.here hx rfl (hb hby d1_83) rfl k) ?_
  show OGot p.tables e below (s₁.setTop (mkF m 84 #[.val (.int (11 : Int32))] [(.int (11 : Int32))])) _
  refine OGot.go (fun t k => XS.bipush X0.here hx rfl (hb hby d1_84) k) ?_
  show OGot p.tables e below (s₁.setTop (mkF m 86 #[.val (.int (11 : Int32))] [(.int (9 : Int32)), (.int (11 : Int32))])) _
  refine OGot.go (fun t k => XS.icmpYes X0.here hx rfl (pc0 := 86) (pc' := 93) rfl (hb hby d1_86) rfl (by decide) (by decide) (by decide) k) ?_
  show OGot p.tables e below (s₁.setTop (mkF m 93 #[.val (.int (11 : Int32))] [])) _
  refine OGot.go (fun t k => XS.iloadN X0.here hx rfl (hb hby d1_93) rfl k) ?_
  show OGot p.tables e below (s₁.setTop (mkF m 94 #[.val (.int (11 : Int32))] [(.int (11 : Int32))])) _
  refine OGot.go (fun t k => XS.bipush X0.here hx rfl (hb hby d1_94) k) ?_
  show OGot p.tables e below (s₁.setTop (mkF m 96 #[.val (.int (11 : Int32))] [(.int (10 : Int32)), (.int (11 : Int32))])) _
  refine OGot.go (fun t k => XS.icmpYes X0.here hx rfl (pc0 := 96) (pc' := 103) rfl (hb hby d1_96) rfl (by decide) (by decide) (by decide) k) ?_
  show OGot p.tables e below (s₁.setTop (mkF m 103 #[.val (.int (11 : Int32))] [])) _
  refine OGot.go (fun t k => XS.iloadN X0.here hx rfl (hb hby d1_103) rfl k) ?_
  show OGot p.tables e below (s₁.setTop (mkF m 104 #[.val (.int (11 : Int32))] [(.int (11 : Int32))])) _
  refine OGot.go (fun t k => XS.bipush X0.here hx rfl (hb hby d1_104) k) ?_
  show OGot p.tables e below (s₁.setTop (mkF m 106 #[.val (.int (11 : Int32))] [(.int (11 : Int32)), (.int (11 : Int32))])) _
  refine OGot.go (fun t k => XS.icmpNo X0.here hx rfl (hb hby d1_106) rfl (by decide) k) ?_
  show OGot p.tables e below (s₁.setTop (mkF m 109 #[.val (.int (11 : Int32))] [])) _
  obtain ⟨T1, X1, e1, st1⟩ := getS2 X0 hx hZ hown (host := "") (Or.inl (ow hw 32 rfl)) Via.refl e0 (G.2.2.2.2.2.2.2.2.2.2.2.2.2.2.2.2.2.2.1.ext O0.2) (g := (mkF m 109 #[.val (.int (11 : Int32))] [])) rfl (hb hby d1_109)
  refine OGot.go st1 ?_
  show OGot p.tables e below (T1.setTop (mkF m 112 #[.val (.int (11 : Int32))] [(.ref w_EVENT_BASED_GATEWAY)])) _
  obtain ⟨fs, hr, hrun, hended, hW, hsame⟩ := X1.leave (v := some (.ref w_EVENT_BASED_GATEWAY)) (fun h => by rw [Bd.returns] at h; cases h)
  refine ⟨_, _, oretA X1 hx Bd.returns rfl rfl (hb hby d1_112) hr, hrun, hended, _, _, rfl, ?_, ⟨_, rfl⟩, hW, hsame.mono (by decide) (by decide)⟩
  exact (⟨rfl, N0, e1⟩ : Q1_11 Z w_START_EVENT w_RECEPTION w_MESSAGE_START_EVENT w_MESSAGE_BOUNDARY_EVENT w_TERMINATE_END_EVENT w_LINK_THROW_EVENT w_BOUNDARY_EVENT w_LINK_CATCH_EVENT w_END_EVENT w_EVENT_BASED_GATEWAY w_INCLUSIVE_GATEWAY w_EXCLUSIVE_GATEWAY w_SUB_PROCESS w_ACTIVITY w_PARALLEL_GATEWAY  h0 n0 _ T1.heap _)
def Q2_11 (Z : State) (w_START_EVENT : Addr) (w_RECEPTION : Addr) (w_MESSAGE_START_EVENT : Addr) (w_MESSAGE_BOUNDARY_EVENT : Addr) (w_TERMINATE_END_EVENT : Addr) (w_LINK_THROW_EVENT : Addr) (w_BOUNDARY_EVENT : Addr) (w_LINK_CATCH_EVENT : Addr) (w_END_EVENT : Addr) (w_EVENT_BASED_GATEWAY : Addr) (w_INCLUSIVE_GATEWAY : Addr) (w_EXCLUSIVE_GATEWAY : Addr) (w_SUB_PROCESS : Addr) (w_ACTIVITY : Addr) (w_PARALLEL_GATEWAY : Addr)  (h0 : Heap) (n0 : Nat) (v : Option Value) (h : Heap) (L : List Loc) : Prop := v = some (.int (0 : Int32)) ∧ Fr n0 L ∧ h = h0
theorem ef2_11 (m : MethodId) (x0 : Addr) : entryFrame m #[(.ref x0)] 1 = mkF m 0 #[.val (.ref x0)] [] := by first | (simp [entryFrame, mkF, argsToLocals, Value.category]; done) | rfl
set_option maxRecDepth 65536 in
set_option maxHeartbeats 40000000 in
theorem rm2_11 (l : Launch) (Z : State) (a0 : Array Value) (hw : ∀ d ∈ tables_1, d.before a0 Z = true) (ws : List Jvm.Cond) {w_START_EVENT : Addr} {w_RECEPTION : Addr} {w_MESSAGE_START_EVENT : Addr} {w_MESSAGE_BOUNDARY_EVENT : Addr} {w_TERMINATE_END_EVENT : Addr} {w_LINK_THROW_EVENT : Addr} {w_BOUNDARY_EVENT : Addr} {w_LINK_CATCH_EVENT : Addr} {w_END_EVENT : Addr} {w_EVENT_BASED_GATEWAY : Addr} {w_INCLUSIVE_GATEWAY : Addr} {w_EXCLUSIVE_GATEWAY : Addr} {w_SUB_PROCESS : Addr} {w_ACTIVITY : Addr} {w_PARALLEL_GATEWAY : Addr} (G : Glob Z w_START_EVENT w_RECEPTION w_MESSAGE_START_EVENT w_MESSAGE_BOUNDARY_EVENT w_TERMINATE_END_EVENT w_LINK_THROW_EVENT w_BOUNDARY_EVENT w_LINK_CATCH_EVENT w_END_EVENT w_EVENT_BASED_GATEWAY w_INCLUSIVE_GATEWAY w_EXCLUSIVE_GATEWAY w_SUB_PROCESS w_ACTIVITY w_PARALLEL_GATEWAY)  (h0 : Heap) (n0 : Nat) (O0 : Old Z n0 h0) :
    MetFree l (⟨"com/example/chorale/chorale/FlowGraph$Kind", "receives", "()Z"⟩ : MethodName) (head1 (Jvm.Cond.code (⟨"com/example/chorale/chorale/FlowGraph$Kind", "receives", "()Z"⟩ : MethodName) prog_73_method_4_code 1 (some .boolean) :: ws) ({ frames := 0, cells := 0, slots := 0, locals := 0 } : Room)) (fun a U => a = #[(.ref w_EVENT_BASED_GATEWAY)] ∧ Z.Warmed39 U.vm ∧ U.heap = h0) (fun _ _ _ _ _ => True) (fun _ U o U' => ∃ v L, o = .returned v ∧ Q2_11 Z w_START_EVENT w_RECEPTION w_MESSAGE_START_EVENT w_MESSAGE_BOUNDARY_EVENT w_TERMINATE_END_EVENT w_LINK_THROW_EVENT w_BOUNDARY_EVENT w_LINK_CATCH_EVENT w_END_EVENT w_EVENT_BASED_GATEWAY w_INCLUSIVE_GATEWAY w_EXCLUSIVE_GATEWAY w_SUB_PROCESS w_ACTIVITY w_PARALLEL_GATEWAY  h0 n0 v U'.heap L ∧ FrameEnd U o U' L ({ frames := 0, cells := 0, slots := 0, locals := 0 } : Room).cells ({ frames := 0, cells := 0, slots := 0, locals := 0 } : Room).slots) := by
  refine MetFree.of_bodySF (plainFor_of_name pn_com_example_chorale_chorale_FlowGraph_Kind) hisR ?_
  intro p e s m args below meth c s₁ Bd hml0 hP hK
  obtain ⟨rfl, hZ, hh⟩ := hP
  have hx := Bd.exec
  have hby := Bd.bytes
  have hml : c.maxLocals = 1 := hml0
  have hown : s.vm.findClass "com/example/chorale/chorale/FlowGraph$Kind" = some m.cls := findClass_of_methodNamed Bd.named
  have hnm := (name_of_methodNamed Bd.named Bd.method).1
  have X0 : Stand p l e ({ frames := 0, cells := 0, slots := 0, locals := 0 } : Room) s m #[(.ref w_EVENT_BASED_GATEWAY)] below meth c s₁ [] 0 0 := Stand.of_body Bd
  have e0 : s₁.heap = h0 := by rw [← hh, Bd.state]; rfl
  have N0 := Fr.nil n0
  show OGot p.tables e below (s₁.setTop (entryFrame m #[(.ref w_EVENT_BASED_GATEWAY)] 1)) _
  refine OGot.go (fun t k => castTop (ef2_11 m w_EVENT_BASED_GATEWAY) k) ?_
  show OGot p.tables e below (s₁.setTop (mkF m 0 #[.val (.ref w_EVENT_BASED_GATEWAY)] [])) _
  refine OGot.go (fun t k => XS.aloadN X0.here hx rfl (hb hby d2_0) rfl rfl k) ?_
  show OGot p.tables e below (s₁.setTop (mkF m 1 #[.val (.ref w_EVENT_BASED_GATEWAY)] [(.ref w_EVENT_BASED_GATEWAY)])) _
  obtain ⟨T2, X2, e2, st2⟩ := getS2 X0 hx hZ hown (host := "") (Or.inl (ow hw 14 rfl)) Via.refl e0 (G.2.2.1.ext O0.2) (g := (mkF m 1 #[.val (.ref w_EVENT_BASED_GATEWAY)] [(.ref w_EVENT_BASED_GATEWAY)])) rfl (hb hby d2_1)
  refine OGot.go st2 ?_
  show OGot p.tables e below (T2.setTop (mkF m 4 #[.val (.ref w_EVENT_BASED_GATEWAY)] [(.ref w_RECEPTION), (.ref w_EVENT_BASED_GATEWAY)])) _
  have ne3 : w_EVENT_BASED_GATEWAY ≠ w_RECEPTION := (Fld.ne G.2.2.2.2.2.2.2.2.2.2.2.2.2.2.2.2.2.2.2.2.2.2.2.2.2.2.2.2.2.2.2.2.2.2.2.2.2.2.2.1 G.2.2.2.2.2.2.2.2.2.2.2.2.2.2.2.2.2.2.2.2.2.2.2.2.2.2.2.2.2.2.2.1 (by decide))
  refine OGot.go (fun t k => Jvm.RoadKit.acmp (g := (mkF m 4 #[.val (.ref w_EVENT_BASED_GATEWAY)] [(.ref w_RECEPTION), (.ref w_EVENT_BASED_GATEWAY)])) X2 hx rfl rfl rfl (pc0 := 4) (pc' := 7) (same := false) rfl (hb hby d2_4) rfl (decide_eq_false fun q => ne3 (Value.ref.inj q)) (by decide) (by decide) k) ?_
  show OGot p.tables e below (T2.setTop (mkF m 7 #[.val (.ref w_EVENT_BASED_GATEWAY)] [])) _
  refine OGot.go (fun t k => XS.aloadN X2.here hx rfl (hb hby d2_7) rfl rfl k) ?_
  show OGot p.tables e below (T2.setTop (mkF m 8 #[.val (.ref w_EVENT_BASED_GATEWAY)] [(.ref w_EVENT_BASED_GATEWAY)])) _
  obtain ⟨T4, X4, e4, st4⟩ := getS2 X2 hx hZ hown (host := "") (Or.inl (ow hw 16 rfl)) Via.refl e2 (G.2.2.2.2.1.ext O0.2) (g := (mkF m 8 #[.val (.ref w_EVENT_BASED_GATEWAY)] [(.ref w_EVENT_BASED_GATEWAY)])) rfl (hb hby d2_8)
  refine OGot.go st4 ?_
  show OGot p.tables e below (T4.setTop (mkF m 11 #[.val (.ref w_EVENT_BASED_GATEWAY)] [(.ref w_MESSAGE_START_EVENT), (.ref w_EVENT_BASED_GATEWAY)])) _
  have ne5 : w_EVENT_BASED_GATEWAY ≠ w_MESSAGE_START_EVENT := (Fld.ne G.2.2.2.2.2.2.2.2.2.2.2.2.2.2.2.2.2.2.2.2.2.2.2.2.2.2.2.2.2.2.2.2.2.2.2.2.2.2.2.1 G.2.2.2.2.2.2.2.2.2.2.2.2.2.2.2.2.2.2.2.2.2.2.2.2.2.2.2.2.2.2.2.2.1 (by decide))
  refine OGot.go (fun t k => Jvm.RoadKit.acmp (g := (mkF m 11 #[.val (.ref w_EVENT_BASED_GATEWAY)] [(.ref w_MESSAGE_START_EVENT), (.ref w_EVENT_BASED_GATEWAY)])) X4 hx rfl rfl rfl (pc0 := 11) (pc' := 14) (same := false) rfl (hb hby d2_11) rfl (decide_eq_false fun q => ne5 (Value.ref.inj q)) (by decide) (by decide) k) ?_
  show OGot p.tables e below (T4.setTop (mkF m 14 #[.val (.ref w_EVENT_BASED_GATEWAY)] [])) _
  refine OGot.go (fun t k => XS.aloadN X4.here hx rfl (hb hby d2_14) rfl rfl k) ?_
  show OGot p.tables e below (T4.setTop (mkF m 15 #[.val (.ref w_EVENT_BASED_GATEWAY)] [(.ref w_EVENT_BASED_GATEWAY)])) _
  obtain ⟨T6, X6, e6, st6⟩ := getS2 X4 hx hZ hown (host := "") (Or.inl (ow hw 18 rfl)) Via.refl e4 (G.2.2.2.2.2.2.1.ext O0.2) (g := (mkF m 15 #[.val (.ref w_EVENT_BASED_GATEWAY)] [(.ref w_EVENT_BASED_GATEWAY)])) rfl (hb hby d2_15)
  refine OGot.go st6 ?_
  show OGot p.tables e below (T6.setTop (mkF m 18 #[.val (.ref w_EVENT_BASED_GATEWAY)] [(.ref w_MESSAGE_BOUNDARY_EVENT), (.ref w_EVENT_BASED_GATEWAY)])) _
  have ne7 : w_EVENT_BASED_GATEWAY ≠ w_MESSAGE_BOUNDARY_EVENT := (Fld.ne G.2.2.2.2.2.2.2.2.2.2.2.2.2.2.2.2.2.2.2.2.2.2.2.2.2.2.2.2.2.2.2.2.2.2.2.2.2.2.2.1 G.2.2.2.2.2.2.2.2.2.2.2.2.2.2.2.2.2.2.2.2.2.2.2.2.2.2.2.2.2.2.2.2.2.1 (by decide))
  refine OGot.go (fun t k => Jvm.RoadKit.acmp (g := (mkF m 18 #[.val (.ref w_EVENT_BASED_GATEWAY)] [(.ref w_MESSAGE_BOUNDARY_EVENT), (.ref w_EVENT_BASED_GATEWAY)])) X6 hx rfl rfl rfl (pc0 := 18) (pc' := 25) (same := false) rfl (hb hby d2_18) rfl (decide_eq_false fun q => ne7 (Value.ref.inj q)) (by decide) (by decide) k) ?_
  show OGot p.tables e below (T6.setTop (mkF m 25 #[.val (.ref w_EVENT_BASED_GATEWAY)] [])) _
  refine OGot.go (fun t k => XS.iconst X6.here hx rfl (hb hby d2_25) k) ?_
  show OGot p.tables e below (T6.setTop (mkF m 26 #[.val (.ref w_EVENT_BASED_GATEWAY)] [(.int (0 : Int32))])) _
  obtain ⟨fs, hr, hrun, hended, hW, hsame⟩ := X6.leave (v := some (.int (0 : Int32))) (fun h => by rw [Bd.returns] at h; cases h)
  refine ⟨_, _, retN X6 hx (t := .boolean) Bd.returns (by simp) (hb hby d2_26) hr, hrun, hended, _, _, rfl, ?_, ⟨_, rfl⟩, hW, hsame.mono (by decide) (by decide)⟩
  exact (⟨rfl, N0, e6⟩ : Q2_11 Z w_START_EVENT w_RECEPTION w_MESSAGE_START_EVENT w_MESSAGE_BOUNDARY_EVENT w_TERMINATE_END_EVENT w_LINK_THROW_EVENT w_BOUNDARY_EVENT w_LINK_CATCH_EVENT w_END_EVENT w_EVENT_BASED_GATEWAY w_INCLUSIVE_GATEWAY w_EXCLUSIVE_GATEWAY w_SUB_PROCESS w_ACTIVITY w_PARALLEL_GATEWAY  h0 n0 _ T6.heap _)
theorem d1_113 : decode method_2_code 113 = .ok (.iload_n 0, 1) := by decide +kernel
theorem d1_114 : decode method_2_code 114 = .ok (.bipush 12, 2) := by decide +kernel
theorem d1_116 : decode method_2_code 116 = .ok (.if_icmp .ne 7, 3) := by decide +kernel
theorem d1_119 : decode method_2_code 119 = .ok (.getstatic 46, 3) := by decide +kernel
theorem d1_122 : decode method_2_code 122 = .ok (.areturn, 1) := by decide +kernel
def Q1_12 (Z : State) (w_START_EVENT : Addr) (w_RECEPTION : Addr) (w_MESSAGE_START_EVENT : Addr) (w_MESSAGE_BOUNDARY_EVENT : Addr) (w_TERMINATE_END_EVENT : Addr) (w_LINK_THROW_EVENT : Addr) (w_BOUNDARY_EVENT : Addr) (w_LINK_CATCH_EVENT : Addr) (w_END_EVENT : Addr) (w_EVENT_BASED_GATEWAY : Addr) (w_INCLUSIVE_GATEWAY : Addr) (w_EXCLUSIVE_GATEWAY : Addr) (w_SUB_PROCESS : Addr) (w_ACTIVITY : Addr) (w_PARALLEL_GATEWAY : Addr)  (h0 : Heap) (n0 : Nat) (v : Option Value) (h : Heap) (L : List Loc) : Prop := v = some (.ref w_SUB_PROCESS) ∧ Fr n0 L ∧ h = h0
theorem ef1_12 (m : MethodId)  : entryFrame m #[(.int (12 : Int32))] 1 = mkF m 0 #[.val (.int (12 : Int32))] [] := by first | (simp [entryFrame, mkF, argsToLocals, Value.category]; done) | rfl
set_option maxRecDepth 65536 in
set_option maxHeartbeats 40000000 in
theorem rm1_12 (l : Launch) (Z : State) (a0 : Array Value) (hw : ∀ d ∈ tables_1, d.before a0 Z = true) (ws : List Jvm.Cond) {w_START_EVENT : Addr} {w_RECEPTION : Addr} {w_MESSAGE_START_EVENT : Addr} {w_MESSAGE_BOUNDARY_EVENT : Addr} {w_TERMINATE_END_EVENT : Addr} {w_LINK_THROW_EVENT : Addr} {w_BOUNDARY_EVENT : Addr} {w_LINK_CATCH_EVENT : Addr} {w_END_EVENT : Addr} {w_EVENT_BASED_GATEWAY : Addr} {w_INCLUSIVE_GATEWAY : Addr} {w_EXCLUSIVE_GATEWAY : Addr} {w_SUB_PROCESS : Addr} {w_ACTIVITY : Addr} {w_PARALLEL_GATEWAY : Addr} (G : Glob Z w_START_EVENT w_RECEPTION w_MESSAGE_START_EVENT w_MESSAGE_BOUNDARY_EVENT w_TERMINATE_END_EVENT w_LINK_THROW_EVENT w_BOUNDARY_EVENT w_LINK_CATCH_EVENT w_END_EVENT w_EVENT_BASED_GATEWAY w_INCLUSIVE_GATEWAY w_EXCLUSIVE_GATEWAY w_SUB_PROCESS w_ACTIVITY w_PARALLEL_GATEWAY)  (h0 : Heap) (n0 : Nat) (O0 : Old Z n0 h0) :
    MetFree l (⟨"com/example/chorale/chorale/KindReceivesPinLaw", "kindAt", "(I)Lcom/example/chorale/chorale/FlowGraph$Kind;"⟩ : MethodName) (head1 (Jvm.Cond.code (⟨"com/example/chorale/chorale/KindReceivesPinLaw", "kindAt", "(I)Lcom/example/chorale/chorale/FlowGraph$Kind;"⟩ : MethodName) method_2_code 1 (some (.object "com/example/chorale/chorale/FlowGraph$Kind")) :: ws) ({ frames := 0, cells := 0, slots := 0, locals := 0 } : Room)) (fun a U => a = #[(.int (12 : Int32))] ∧ Z.Warmed39 U.vm ∧ U.heap = h0) (fun _ _ _ _ _ => True) (fun _ U o U' => ∃ v L, o = .returned v ∧ Q1_12 Z w_START_EVENT w_RECEPTION w_MESSAGE_START_EVENT w_MESSAGE_BOUNDARY_EVENT w_TERMINATE_END_EVENT w_LINK_THROW_EVENT w_BOUNDARY_EVENT w_LINK_CATCH_EVENT w_END_EVENT w_EVENT_BASED_GATEWAY w_INCLUSIVE_GATEWAY w_EXCLUSIVE_GATEWAY w_SUB_PROCESS w_ACTIVITY w_PARALLEL_GATEWAY  h0 n0 v U'.heap L ∧ FrameEnd U o U' L ({ frames := 0, cells := 0, slots := 0, locals := 0 } : Room).cells ({ frames := 0, cells := 0, slots := 0, locals := 0 } : Room).slots) := by
  refine MetFree.of_bodySF (plainFor_of_name pn_com_example_chorale_chorale_KindReceivesPinLaw) hisR ?_
  intro p e s m args below meth c s₁ Bd hml0 hP hK
  obtain ⟨rfl, hZ, hh⟩ := hP
  have hx := Bd.exec
  have hby := Bd.bytes
  have hml : c.maxLocals = 1 := hml0
  have hown : s.vm.findClass "com/example/chorale/chorale/KindReceivesPinLaw" = some m.cls := findClass_of_methodNamed Bd.named
  have hnm := (name_of_methodNamed Bd.named Bd.method).1
  have X0 : Stand p l e ({ frames := 0, cells := 0, slots := 0, locals := 0 } : Room) s m #[(.int (12 : Int32))] below meth c s₁ [] 0 0 := Stand.of_body Bd
  have e0 : s₁.heap = h0 := by rw [← hh, Bd.state]; rfl
  have N0 := Fr.nil n0
  show OGot p.tables e below (s₁.setTop (entryFrame m #[(.int (12 : Int32))] 1)) _
  refine OGot.go (fun t k => castTop (ef1_12 m ) k) ?_
  show OGot p.tables e below (s₁.setTop (mkF m 0 #[.val (.int (12 : Int32))] [])) _
  refine OGot.go (fun t k => XS.iloadN X0.here hx rfl (hb hby d1_0) rfl k) ?_
  show OGot p.tables e below (s₁.setTop (mkF m 1 #[.val (.int (12 : Int32))] [(.int (12 : Int32))])) _
  refine OGot.go (fun t k => XS.ifYes X0.here hx rfl (pc0 := 1) (pc' := 8) rfl (hb hby d1_1) rfl (by decide) (by decide) (by decide) k) ?_
  show OGot p.tables e below (s₁.setTop (mkF m 8 #[.val (.int (12 : Int32))] [])) _
  refine OGot.go (fun t k => XS.iloadN X0.here hx rfl (hb hby d1_8) rfl k) ?_
  show OGot p.tables e below (s₁.setTop (mkF m 9 #[.val (.int (12 : Int32))] [(.int (12 : Int32))])) _
  refine OGot.go (fun t k => XS.iconst X0.here hx rfl (hb hby d1_9) k) ?_
  show OGot p.tables e below (s₁.setTop (mkF m 10 #[.val (.int (12 : Int32))] [(.int (1 : Int32)), (.int (12 : Int32))])) _
  refine OGot.go (fun t k => XS.icmpYes X0.here hx rfl (pc0 := 10) (pc' := 17) rfl (hb hby d1_10) rfl (by decide) (by decide) (by decide) k) ?_
  show OGot p.tables e below (s₁.setTop (mkF m 17 #[.val (.int (12 : Int32))] [])) _
  refine OGot.go (fun t k => XS.iloadN X0.here hx rfl (hb hby d1_17) rfl k) ?_
  show OGot p.tables e below (s₁.setTop (mkF m 18 #[.val (.int (12 : Int32))] [(.int (12 : Int32))])) _
  refine OGot.go (fun t k => XS.iconst X0.here hx rfl (hb hby d1_18) k) ?_
  show OGot p.tables e below (s₁.setTop (mkF m 19 #[.val (.int (12 : Int32))] [(.int (2 : Int32)), (.int (12 : Int32))])) _
  refine OGot.go (fun t k => XS.icmpYes X0.here hx rfl (pc0 := 19) (pc' := 26) rfl (hb hby d1_19) rfl (by decide) (by decide) (by decide) k) ?_
  show OGot p.tables e below (s₁.setTop (mkF m 26 #[.val (.int (12 : Int32))] [])) _
  refine OGot.go (fun t k => XS.iloadN X0.here hx rfl (hb hby d1_26) rfl k) ?_
  show OGot p.tables e below (s₁.setTop (mkF m 27 #[.val (.int (12 : Int32))] [(.int (12 : Int32))])) _
  refine OGot.go (fun t k => XS.iconst X0.here hx rfl (hb hby d1_27) k) ?_
  show OGot p.tables e below (s₁.setTop (mkF m 28 #[.val (.int (12 : Int32))] [(.int (3 : Int32)), (.int (12 : Int32))])) _
  refine OGot.go (fun t k => XS.icmpYes X0.here hx rfl (pc0 := 28) (pc' := 35) rfl (hb hby d1_28) rfl (by decide) (by decide) (by decide) k) ?_
  show OGot p.tables e below (s₁.setTop (mkF m 35 #[.val (.int (12 : Int32))] [])) _
  refine OGot.go (fun t k => XS.iloadN X0.here hx rfl (hb hby d1_35) rfl k) ?_
  show OGot p.tables e below (s₁.setTop (mkF m 36 #[.val (.int (12 : Int32))] [(.int (12 : Int32))])) _
  refine OGot.go (fun t k => XS.iconst X0.here hx rfl (hb hby d1_36) k) ?_
  show OGot p.tables e below (s₁.setTop (mkF m 37 #[.val (.int (12 : Int32))] [(.int (4 : Int32)), (.int (12 : Int32))])) _
  refine OGot.go (fun t k => XS.icmpYes X0.here hx rfl (pc0 := 37) (pc' := 44) rfl (hb hby d1_37) rfl (by decide) (by decide) (by decide) k) ?_
  show OGot p.tables e below (s₁.setTop (mkF m 44 #[.val (.int (12 : Int32))] [])) _
  refine OGot.go (fun t k => XS.iloadN X0.here hx rfl (hb hby d1_44) rfl k) ?_
  show OGot p.tables e below (s₁.setTop (mkF m 45 #[.val (.int (12 : Int32))] [(.int (12 : Int32))])) _
  refine OGot.go (fun t k => XS.iconst X0.here hx rfl (hb hby d1_45) k) ?_
  show OGot p.tables e below (s₁.setTop (mkF m 46 #[.val (.int (12 : Int32))] [(.int (5 : Int32)), (.int (12 : Int32))])) _
  refine OGot.go (fun t k => XS.icmpYes X0.here hx rfl (pc0 := 46) (pc' := 53) rfl (hb hby d1_46) rfl (by decide) (by decide) (by decide) k) ?_
  show OGot p.tables e below (s₁.setTop (mkF m 53 #[.val (.int (12 : Int32))] [])) _
  refine OGot.go (fun t k => XS.iloadN X0.here hx rfl (hb hby d1_53) rfl k) ?_
  show OGot p.tables e below (s₁.setTop (mkF m 54 #[.val (.int (12 : Int32))] [(.int (12 : Int32))])) _
  refine OGot.go (fun t k => XS.bipush X0.here hx rfl (hb hby d1_54) k) ?_
  show OGot p.tables e below (s₁.setTop (mkF m 56 #[.val (.int (12 : Int32))] [(.int (6 : Int32)), (.int (12 : Int32))])) _
  refine OGot.go (fun t k => XS.icmpYes X0.here hx rfl (pc0 := 56) (pc' := 63) rfl (hb hby d1_56) rfl (by decide) (by decide) (by decide) k) ?_
  show OGot p.tables e below (s₁.setTop (mkF m 63 #[.val (.int (12 : Int32))] [])) _
  refine OGot.go (fun t k => XS.iloadN X0.here hx rfl (hb hby d1_63) rfl k) ?_
  show OGot p.tables e below (s₁.setTop (mkF m 64 #[.val (.int (12 : Int32))] [(.int (12 : Int32))])) _
  refine OGot.go (fun t k => XS.bipush X0.here hx rfl (hb hby d1_64) k) ?_
  show OGot p.tables e below (s₁.setTop (mkF m 66 #[.val (.int (12 : Int32))] [(.int (7 : Int32)), (.int (12 : Int32))])) _
  refine OGot.go (fun t k => XS.icmpYes X0.here hx rfl (pc0 := 66) (pc' := 73) rfl (hb hby d1_66) rfl (by decide) (by decide) (by decide) k) ?_
  show OGot p.tables e below (s₁.setTop (mkF m 73 #[.val (.int (12 : Int32))] [])) _
  refine OGot.go (fun t k => XS.iloadN X0.here hx rfl (hb hby d1_73) rfl k) ?_
  show OGot p.tables e below (s₁.setTop (mkF m 74 #[.val (.int (12 : Int32))] [(.int (12 : Int32))])) _
  refine OGot.go (fun t k => XS.bipush X0.here hx rfl (hb hby d1_74) k) ?_
  show OGot p.tables e below (s₁.setTop (mkF m 76 #[.val (.int (12 : Int32))] [(.int (8 : Int32)), (.int (12 : Int32))])) _
  refine OGot.go (fun t k => XS.icmpYes X0.here hx rfl (pc0 := 76) (pc' := 83) rfl (hb hby d1_76) rfl (by decide) (by decide) (by decide) k) ?_
  show OGot p.tables e below (s₁.setTop (mkF m 83 #[.val (.int (12 : Int32))] [])) _
  refine OGot.go (fun t k => XS.iloadN X0.here hx rfl (hb hby d1_83) rfl k) ?_
  show OGot p.tables e below (s₁.setTop (mkF m 84 #[.val (.int (12 : Int32))] [(.int (12 : Int32))])) _
  refine OGot.go (fun t k => XS.bipush X0.here hx rfl (hb hby d1_84) k) ?_
  show OGot p.tables e below (s₁.setTop (mkF m 86 #[.val (.int (12 : Int32))] [(.int (9 : Int32)), (.int (12 : Int32))])) _
  refine OGot.go (fun t k => XS.icmpYes X0.here hx rfl (pc0 := 86) (pc' := 93) rfl (hb hby d1_86) rfl (by decide) (by decide) (by decide) k) ?_
  show OGot p.tables e below (s₁.setTop (mkF m 93 #[.val (.int (12 : Int32))] [])) _
  refine OGot.go (fun t k => XS.iloadN X0.here hx rfl (hb hby d1_93) rfl k) ?_
  show OGot p.tables e below (s₁.setTop (mkF m 94 #[.val (.int (12 : Int32))] [(.int (12 : Int32))])) _
  refine OGot.go (fun t k => XS.bipush X0.here hx rfl (hb hby d1_94) k) ?_
  show OGot p.tables e below (s₁.setTop (mkF m 96 #[.val (.int (12 : Int32))] [(.int (10 : Int32)), (.int (12 : Int32))])) _
  refine OGot.go (fun t k => XS.icmpYes X0.here hx rfl (pc0 := 96) (pc' := 103) rfl (hb hby d1_96) rfl (by decide) (by decide) (by decide) k) ?_
  show OGot p.tables e below (s₁.setTop (mkF m 103 #[.val (.int (12 : Int32))] [])) _
  refine OGot.go (fun t k => XS.iloadN X0.here hx rfl (hb hby d1_103) rfl k) ?_
  show OGot p.tables e below (s₁.setTop (mkF m 104 #[.val (.int (12 : Int32))] [(.int (12 : Int32))])) _
  refine OGot.go (fun t k => XS.bipush X0.here hx rfl (hb hby d1_104) k) ?_
  show OGot p.tables e below (s₁.setTop (mkF m 106 #[.val (.int (12 : Int32))] [(.int (11 : Int32)), (.int (12 : Int32))])) _
  refine OGot.go (fun t k => XS.icmpYes X0.here hx rfl (pc0 := 106) (pc' := 113) rfl (hb hby d1_106) rfl (by decide) (by decide) (by decide) k) ?_
  show OGot p.tables e below (s₁.setTop (mkF m 113 #[.val (.int (12 : Int32))] [])) _
  refine OGot.go (fun t k => XS.iloadN X0.here hx rfl (hb hby d1_113) rfl k) ?_
  show OGot p.tables e below (s₁.setTop (mkF m 114 #[.val (.int (12 : Int32))] [(.int (12 : Int32))])) _
  refine OGot.go (fun t k => XS.bipush X0.here hx rfl (hb hby d1_114) k) ?_
  show OGot p.tables e below (s₁.setTop (mkF m 116 #[.val (.int (12 : Int32))] [(.int (12 : Int32)), (.int (12 : Int32))])) _
  refine OGot.go (fun t k => XS.icmpNo X0.here hx rfl (hb hby d1_116) rfl (by decide) k) ?_
  show OGot p.tables e below (s₁.setTop (mkF m 119 #[.val (.int (12 : Int32))] [])) _
  obtain ⟨T1, X1, e1, st1⟩ := getS2 X0 hx hZ hown (host := "") (Or.inl (ow hw 39 rfl)) Via.refl e0 (G.2.2.2.2.2.2.2.2.2.2.2.2.2.2.2.2.2.2.2.2.2.2.2.2.1.ext O0.2) (g := (mkF m 119 #[.val (.int (12 : Int32))] [])) rfl (hb hby d1_119)
  refine OGot.go st1 ?_
  show OGot p.tables e below (T1.setTop (mkF m 122 #[.val (.int (12 : Int32))] [(.ref w_SUB_PROCESS)])) _
  obtain ⟨fs, hr, hrun, hended, hW, hsame⟩ := X1.leave (v := some (.ref w_SUB_PROCESS)) (fun h => by rw [Bd.returns] at h; cases h)
  refine ⟨_, _, oretA X1 hx Bd.returns rfl rfl (hb hby d1_122) hr, hrun, hended, _, _, rfl, ?_, ⟨_, rfl⟩, hW, hsame.mono (by decide) (by decide)⟩
  exact (⟨rfl, N0, e1⟩ : Q1_12 Z w_START_EVENT w_RECEPTION w_MESSAGE_START_EVENT w_MESSAGE_BOUNDARY_EVENT w_TERMINATE_END_EVENT w_LINK_THROW_EVENT w_BOUNDARY_EVENT w_LINK_CATCH_EVENT w_END_EVENT w_EVENT_BASED_GATEWAY w_INCLUSIVE_GATEWAY w_EXCLUSIVE_GATEWAY w_SUB_PROCESS w_ACTIVITY w_PARALLEL_GATEWAY  h0 n0 _ T1.heap _)
def Q2_12 (Z : State) (w_START_EVENT : Addr) (w_RECEPTION : Addr) (w_MESSAGE_START_EVENT : Addr) (w_MESSAGE_BOUNDARY_EVENT : Addr) (w_TERMINATE_END_EVENT : Addr) (w_LINK_THROW_EVENT : Addr) (w_BOUNDARY_EVENT : Addr) (w_LINK_CATCH_EVENT : Addr) (w_END_EVENT : Addr) (w_EVENT_BASED_GATEWAY : Addr) (w_INCLUSIVE_GATEWAY : Addr) (w_EXCLUSIVE_GATEWAY : Addr) (w_SUB_PROCESS : Addr) (w_ACTIVITY : Addr) (w_PARALLEL_GATEWAY : Addr)  (h0 : Heap) (n0 : Nat) (v : Option Value) (h : Heap) (L : List Loc) : Prop := v = some (.int (0 : Int32)) ∧ Fr n0 L ∧ h = h0
theorem ef2_12 (m : MethodId) (x0 : Addr) : entryFrame m #[(.ref x0)] 1 = mkF m 0 #[.val (.ref x0)] [] := by first | (simp [entryFrame, mkF, argsToLocals, Value.category]; done) | rfl
set_option maxRecDepth 65536 in
set_option maxHeartbeats 40000000 in
theorem rm2_12 (l : Launch) (Z : State) (a0 : Array Value) (hw : ∀ d ∈ tables_1, d.before a0 Z = true) (ws : List Jvm.Cond) {w_START_EVENT : Addr} {w_RECEPTION : Addr} {w_MESSAGE_START_EVENT : Addr} {w_MESSAGE_BOUNDARY_EVENT : Addr} {w_TERMINATE_END_EVENT : Addr} {w_LINK_THROW_EVENT : Addr} {w_BOUNDARY_EVENT : Addr} {w_LINK_CATCH_EVENT : Addr} {w_END_EVENT : Addr} {w_EVENT_BASED_GATEWAY : Addr} {w_INCLUSIVE_GATEWAY : Addr} {w_EXCLUSIVE_GATEWAY : Addr} {w_SUB_PROCESS : Addr} {w_ACTIVITY : Addr} {w_PARALLEL_GATEWAY : Addr} (G : Glob Z w_START_EVENT w_RECEPTION w_MESSAGE_START_EVENT w_MESSAGE_BOUNDARY_EVENT w_TERMINATE_END_EVENT w_LINK_THROW_EVENT w_BOUNDARY_EVENT w_LINK_CATCH_EVENT w_END_EVENT w_EVENT_BASED_GATEWAY w_INCLUSIVE_GATEWAY w_EXCLUSIVE_GATEWAY w_SUB_PROCESS w_ACTIVITY w_PARALLEL_GATEWAY)  (h0 : Heap) (n0 : Nat) (O0 : Old Z n0 h0) :
    MetFree l (⟨"com/example/chorale/chorale/FlowGraph$Kind", "receives", "()Z"⟩ : MethodName) (head1 (Jvm.Cond.code (⟨"com/example/chorale/chorale/FlowGraph$Kind", "receives", "()Z"⟩ : MethodName) prog_73_method_4_code 1 (some .boolean) :: ws) ({ frames := 0, cells := 0, slots := 0, locals := 0 } : Room)) (fun a U => a = #[(.ref w_SUB_PROCESS)] ∧ Z.Warmed39 U.vm ∧ U.heap = h0) (fun _ _ _ _ _ => True) (fun _ U o U' => ∃ v L, o = .returned v ∧ Q2_12 Z w_START_EVENT w_RECEPTION w_MESSAGE_START_EVENT w_MESSAGE_BOUNDARY_EVENT w_TERMINATE_END_EVENT w_LINK_THROW_EVENT w_BOUNDARY_EVENT w_LINK_CATCH_EVENT w_END_EVENT w_EVENT_BASED_GATEWAY w_INCLUSIVE_GATEWAY w_EXCLUSIVE_GATEWAY w_SUB_PROCESS w_ACTIVITY w_PARALLEL_GATEWAY  h0 n0 v U'.heap L ∧ FrameEnd U o U' L ({ frames := 0, cells := 0, slots := 0, locals := 0 } : Room).cells ({ frames := 0, cells := 0, slots := 0, locals := 0 } : Room).slots) := by
  refine MetFree.of_bodySF (plainFor_of_name pn_com_example_chorale_chorale_FlowGraph_Kind) hisR ?_
  intro p e s m args below meth c s₁ Bd hml0 hP hK
  obtain ⟨rfl, hZ, hh⟩ := hP
  have hx := Bd.exec
  have hby := Bd.bytes
  have hml : c.maxLocals = 1 := hml0
  have hown : s.vm.findClass "com/example/chorale/chorale/FlowGraph$Kind" = some m.cls := findClass_of_methodNamed Bd.named
  have hnm := (name_of_methodNamed Bd.named Bd.method).1
  have X0 : Stand p l e ({ frames := 0, cells := 0, slots := 0, locals := 0 } : Room) s m #[(.ref w_SUB_PROCESS)] below meth c s₁ [] 0 0 := Stand.of_body Bd
  have e0 : s₁.heap = h0 := by rw [← hh, Bd.state]; rfl
  have N0 := Fr.nil n0
  show OGot p.tables e below (s₁.setTop (entryFrame m #[(.ref w_SUB_PROCESS)] 1)) _
  refine OGot.go (fun t k => castTop (ef2_12 m w_SUB_PROCESS) k) ?_
  show OGot p.tables e below (s₁.setTop (mkF m 0 #[.val (.ref w_SUB_PROCESS)] [])) _
  refine OGot.go (fun t k => XS.aloadN X0.here hx rfl (hb hby d2_0) rfl rfl k) ?_
  show OGot p.tables e below (s₁.setTop (mkF m 1 #[.val (.ref w_SUB_PROCESS)] [(.ref w_SUB_PROCESS)])) _
  obtain ⟨T2, X2, e2, st2⟩ := getS2 X0 hx hZ hown (host := "") (Or.inl (ow hw 14 rfl)) Via.refl e0 (G.2.2.1.ext O0.2) (g := (mkF m 1 #[.val (.ref w_SUB_PROCESS)] [(.ref w_SUB_PROCESS)])) rfl (hb hby d2_1)
  refine OGot.go st2 ?_
  show OGot p.tables e below (T2.setTop (mkF m 4 #[.val (.ref w_SUB_PROCESS)] [(.ref w_RECEPTION), (.ref w_SUB_PROCESS)])) _
  have ne3 : w_SUB_PROCESS ≠ w_RECEPTION := (Fld.ne G.2.2.2.2.2.2.2.2.2.2.2.2.2.2.2.2.2.2.2.2.2.2.2.2.2.2.2.2.2.2.2.2.2.2.2.2.2.2.2.2.2.2.1 G.2.2.2.2.2.2.2.2.2.2.2.2.2.2.2.2.2.2.2.2.2.2.2.2.2.2.2.2.2.2.2.1 (by decide))
  refine OGot.go (fun t k => Jvm.RoadKit.acmp (g := (mkF m 4 #[.val (.ref w_SUB_PROCESS)] [(.ref w_RECEPTION), (.ref w_SUB_PROCESS)])) X2 hx rfl rfl rfl (pc0 := 4) (pc' := 7) (same := false) rfl (hb hby d2_4) rfl (decide_eq_false fun q => ne3 (Value.ref.inj q)) (by decide) (by decide) k) ?_
  show OGot p.tables e below (T2.setTop (mkF m 7 #[.val (.ref w_SUB_PROCESS)] [])) _
  refine OGot.go (fun t k => XS.aloadN X2.here hx rfl (hb hby d2_7) rfl rfl k) ?_
  show OGot p.tables e below (T2.setTop (mkF m 8 #[.val (.ref w_SUB_PROCESS)] [(.ref w_SUB_PROCESS)])) _
  obtain ⟨T4, X4, e4, st4⟩ := getS2 X2 hx hZ hown (host := "") (Or.inl (ow hw 16 rfl)) Via.refl e2 (G.2.2.2.2.1.ext O0.2) (g := (mkF m 8 #[.val (.ref w_SUB_PROCESS)] [(.ref w_SUB_PROCESS)])) rfl (hb hby d2_8)
  refine OGot.go st4 ?_
  show OGot p.tables e below (T4.setTop (mkF m 11 #[.val (.ref w_SUB_PROCESS)] [(.ref w_MESSAGE_START_EVENT), (.ref w_SUB_PROCESS)])) _
  have ne5 : w_SUB_PROCESS ≠ w_MESSAGE_START_EVENT := (Fld.ne G.2.2.2.2.2.2.2.2.2.2.2.2.2.2.2.2.2.2.2.2.2.2.2.2.2.2.2.2.2.2.2.2.2.2.2.2.2.2.2.2.2.2.1 G.2.2.2.2.2.2.2.2.2.2.2.2.2.2.2.2.2.2.2.2.2.2.2.2.2.2.2.2.2.2.2.2.1 (by decide))
  refine OGot.go (fun t k => Jvm.RoadKit.acmp (g := (mkF m 11 #[.val (.ref w_SUB_PROCESS)] [(.ref w_MESSAGE_START_EVENT), (.ref w_SUB_PROCESS)])) X4 hx rfl rfl rfl (pc0 := 11) (pc' := 14) (same := false) rfl (hb hby d2_11) rfl (decide_eq_false fun q => ne5 (Value.ref.inj q)) (by decide) (by decide) k) ?_
  show OGot p.tables e below (T4.setTop (mkF m 14 #[.val (.ref w_SUB_PROCESS)] [])) _
  refine OGot.go (fun t k => XS.aloadN X4.here hx rfl (hb hby d2_14) rfl rfl k) ?_
  show OGot p.tables e below (T4.setTop (mkF m 15 #[.val (.ref w_SUB_PROCESS)] [(.ref w_SUB_PROCESS)])) _
  obtain ⟨T6, X6, e6, st6⟩ := getS2 X4 hx hZ hown (host := "") (Or.inl (ow hw 18 rfl)) Via.refl e4 (G.2.2.2.2.2.2.1.ext O0.2) (g := (mkF m 15 #[.val (.ref w_SUB_PROCESS)] [(.ref w_SUB_PROCESS)])) rfl (hb hby d2_15)
  refine OGot.go st6 ?_
  show OGot p.tables e below (T6.setTop (mkF m 18 #[.val (.ref w_SUB_PROCESS)] [(.ref w_MESSAGE_BOUNDARY_EVENT), (.ref w_SUB_PROCESS)])) _
  have ne7 : w_SUB_PROCESS ≠ w_MESSAGE_BOUNDARY_EVENT := (Fld.ne G.2.2.2.2.2.2.2.2.2.2.2.2.2.2.2.2.2.2.2.2.2.2.2.2.2.2.2.2.2.2.2.2.2.2.2.2.2.2.2.2.2.2.1 G.2.2.2.2.2.2.2.2.2.2.2.2.2.2.2.2.2.2.2.2.2.2.2.2.2.2.2.2.2.2.2.2.2.1 (by decide))
  refine OGot.go (fun t k => Jvm.RoadKit.acmp (g := (mkF m 18 #[.val (.ref w_SUB_PROCESS)] [(.ref w_MESSAGE_BOUNDARY_EVENT), (.ref w_SUB_PROCESS)])) X6 hx rfl rfl rfl (pc0 := 18) (pc' := 25) (same := false) rfl (hb hby d2_18) rfl (decide_eq_false fun q => ne7 (Value.ref.inj q)) (by decide) (by decide) k) ?_
  show OGot p.tables e below (T6.setTop (mkF m 25 #[.val (.ref w_SUB_PROCESS)] [])) _
  refine OGot.go (fun t k => XS.iconst X6.here hx rfl (hb hby d2_25) k) ?_
  show OGot p.tables e below (T6.setTop (mkF m 26 #[.val (.ref w_SUB_PROCESS)] [(.int (0 : Int32))])) _
  obtain ⟨fs, hr, hrun, hended, hW, hsame⟩ := X6.leave (v := some (.int (0 : Int32))) (fun h => by rw [Bd.returns] at h; cases h)
  refine ⟨_, _, retN X6 hx (t := .boolean) Bd.returns (by simp) (hb hby d2_26) hr, hrun, hended, _, _, rfl, ?_, ⟨_, rfl⟩, hW, hsame.mono (by decide) (by decide)⟩
  exact (⟨rfl, N0, e6⟩ : Q2_12 Z w_START_EVENT w_RECEPTION w_MESSAGE_START_EVENT w_MESSAGE_BOUNDARY_EVENT w_TERMINATE_END_EVENT w_LINK_THROW_EVENT w_BOUNDARY_EVENT w_LINK_CATCH_EVENT w_END_EVENT w_EVENT_BASED_GATEWAY w_INCLUSIVE_GATEWAY w_EXCLUSIVE_GATEWAY w_SUB_PROCESS w_ACTIVITY w_PARALLEL_GATEWAY  h0 n0 _ T6.heap _)
theorem d1_123 : decode method_2_code 123 = .ok (.iload_n 0, 1) := by decide +kernel
theorem d1_124 : decode method_2_code 124 = .ok (.bipush 13, 2) := by decide +kernel
theorem d1_126 : decode method_2_code 126 = .ok (.if_icmp .ne 7, 3) := by decide +kernel
theorem d1_129 : decode method_2_code 129 = .ok (.getstatic 49, 3) := by decide +kernel
theorem d1_132 : decode method_2_code 132 = .ok (.areturn, 1) := by decide +kernel
def Q1_13 (Z : State) (w_START_EVENT : Addr) (w_RECEPTION : Addr) (w_MESSAGE_START_EVENT : Addr) (w_MESSAGE_BOUNDARY_EVENT : Addr) (w_TERMINATE_END_EVENT : Addr) (w_LINK_THROW_EVENT : Addr) (w_BOUNDARY_EVENT : Addr) (w_LINK_CATCH_EVENT : Addr) (w_END_EVENT : Addr) (w_EVENT_BASED_GATEWAY : Addr) (w_INCLUSIVE_GATEWAY : Addr) (w_EXCLUSIVE_GATEWAY : Addr) (w_SUB_PROCESS : Addr) (w_ACTIVITY : Addr) (w_PARALLEL_GATEWAY : Addr)  (h0 : Heap) (n0 : Nat) (v : Option Value) (h : Heap) (L : List Loc) : Prop := v = some (.ref w_BOUNDARY_EVENT) ∧ Fr n0 L ∧ h = h0
theorem ef1_13 (m : MethodId)  : entryFrame m #[(.int (13 : Int32))] 1 = mkF m 0 #[.val (.int (13 : Int32))] [] := by first | (simp [entryFrame, mkF, argsToLocals, Value.category]; done) | rfl
set_option maxRecDepth 65536 in
set_option maxHeartbeats 40000000 in
theorem rm1_13 (l : Launch) (Z : State) (a0 : Array Value) (hw : ∀ d ∈ tables_1, d.before a0 Z = true) (ws : List Jvm.Cond) {w_START_EVENT : Addr} {w_RECEPTION : Addr} {w_MESSAGE_START_EVENT : Addr} {w_MESSAGE_BOUNDARY_EVENT : Addr} {w_TERMINATE_END_EVENT : Addr} {w_LINK_THROW_EVENT : Addr} {w_BOUNDARY_EVENT : Addr} {w_LINK_CATCH_EVENT : Addr} {w_END_EVENT : Addr} {w_EVENT_BASED_GATEWAY : Addr} {w_INCLUSIVE_GATEWAY : Addr} {w_EXCLUSIVE_GATEWAY : Addr} {w_SUB_PROCESS : Addr} {w_ACTIVITY : Addr} {w_PARALLEL_GATEWAY : Addr} (G : Glob Z w_START_EVENT w_RECEPTION w_MESSAGE_START_EVENT w_MESSAGE_BOUNDARY_EVENT w_TERMINATE_END_EVENT w_LINK_THROW_EVENT w_BOUNDARY_EVENT w_LINK_CATCH_EVENT w_END_EVENT w_EVENT_BASED_GATEWAY w_INCLUSIVE_GATEWAY w_EXCLUSIVE_GATEWAY w_SUB_PROCESS w_ACTIVITY w_PARALLEL_GATEWAY)  (h0 : Heap) (n0 : Nat) (O0 : Old Z n0 h0) :
    MetFree l (⟨"com/example/chorale/chorale/KindReceivesPinLaw", "kindAt", "(I)Lcom/example/chorale/chorale/FlowGraph$Kind;"⟩ : MethodName) (head1 (Jvm.Cond.code (⟨"com/example/chorale/chorale/KindReceivesPinLaw", "kindAt", "(I)Lcom/example/chorale/chorale/FlowGraph$Kind;"⟩ : MethodName) method_2_code 1 (some (.object "com/example/chorale/chorale/FlowGraph$Kind")) :: ws) ({ frames := 0, cells := 0, slots := 0, locals := 0 } : Room)) (fun a U => a = #[(.int (13 : Int32))] ∧ Z.Warmed39 U.vm ∧ U.heap = h0) (fun _ _ _ _ _ => True) (fun _ U o U' => ∃ v L, o = .returned v ∧ Q1_13 Z w_START_EVENT w_RECEPTION w_MESSAGE_START_EVENT w_MESSAGE_BOUNDARY_EVENT w_TERMINATE_END_EVENT w_LINK_THROW_EVENT w_BOUNDARY_EVENT w_LINK_CATCH_EVENT w_END_EVENT w_EVENT_BASED_GATEWAY w_INCLUSIVE_GATEWAY w_EXCLUSIVE_GATEWAY w_SUB_PROCESS w_ACTIVITY w_PARALLEL_GATEWAY  h0 n0 v U'.heap L ∧ FrameEnd U o U' L ({ frames := 0, cells := 0, slots := 0, locals := 0 } : Room).cells ({ frames := 0, cells := 0, slots := 0, locals := 0 } : Room).slots) := by
  refine MetFree.of_bodySF (plainFor_of_name pn_com_example_chorale_chorale_KindReceivesPinLaw) hisR ?_
  intro p e s m args below meth c s₁ Bd hml0 hP hK
  obtain ⟨rfl, hZ, hh⟩ := hP
  have hx := Bd.exec
  have hby := Bd.bytes
  have hml : c.maxLocals = 1 := hml0
  have hown : s.vm.findClass "com/example/chorale/chorale/KindReceivesPinLaw" = some m.cls := findClass_of_methodNamed Bd.named
  have hnm := (name_of_methodNamed Bd.named Bd.method).1
  have X0 : Stand p l e ({ frames := 0, cells := 0, slots := 0, locals := 0 } : Room) s m #[(.int (13 : Int32))] below meth c s₁ [] 0 0 := Stand.of_body Bd
  have e0 : s₁.heap = h0 := by rw [← hh, Bd.state]; rfl
  have N0 := Fr.nil n0
  show OGot p.tables e below (s₁.setTop (entryFrame m #[(.int (13 : Int32))] 1)) _
  refine OGot.go (fun t k => castTop (ef1_13 m ) k) ?_
  show OGot p.tables e below (s₁.setTop (mkF m 0 #[.val (.int (13 : Int32))] [])) _
  refine OGot.go (fun t k => XS.iloadN X0.here hx rfl (hb hby d1_0) rfl k) ?_
  show OGot p.tables e below (s₁.setTop (mkF m 1 #[.val (.int (13 : Int32))] [(.int (13 : Int32))])) _
  refine OGot.go (fun t k => XS.ifYes X0.here hx rfl (pc0 := 1) (pc' := 8) rfl (hb hby d1_1) rfl (by decide) (by decide) (by decide) k) ?_
  show OGot p.tables e below (s₁.setTop (mkF m 8 #[.val (.int (13 : Int32))] [])) _
  refine OGot.go (fun t k => XS.iloadN X0.here hx rfl (hb hby d1_8) rfl k) ?_
  show OGot p.tables e below (s₁.setTop (mkF m 9 #[.val (.int (13 : Int32))] [(.int (13 : Int32))])) _
  refine OGot.go (fun t k => XS.iconst X0.here hx rfl (hb hby d1_9) k) ?_
  show OGot p.tables e below (s₁.setTop (mkF m 10 #[.val (.int (13 : Int32))] [(.int (1 : Int32)), (.int (13 : Int32))])) _
  refine OGot.go (fun t k => XS.icmpYes X0.here hx rfl (pc0 := 10) (pc' := 17) rfl (hb hby d1_10) rfl (by decide) (by decide) (by decide) k) ?_
  show OGot p.tables e below (s₁.setTop (mkF m 17 #[.val (.int (13 : Int32))] [])) _
  refine OGot.go (fun t k => XS.iloadN X0.here hx rfl (hb hby d1_17) rfl k) ?_
  show OGot p.tables e below (s₁.setTop (mkF m 18 #[.val (.int (13 : Int32))] [(.int (13 : Int32))])) _
  refine OGot.go (fun t k => XS.iconst X0.here hx rfl (hb hby d1_18) k) ?_
  show OGot p.tables e below (s₁.setTop (mkF m 19 #[.val (.int (13 : Int32))] [(.int (2 : Int32)), (.int (13 : Int32))])) _
  refine OGot.go (fun t k => XS.icmpYes X0.here hx rfl (pc0 := 19) (pc' := 26) rfl (hb hby d1_19) rfl (by decide) (by decide) (by decide) k) ?_
  show OGot p.tables e below (s₁.setTop (mkF m 26 #[.val (.int (13 : Int32))] [])) _
  refine OGot.go (fun t k => XS.iloadN X0.here hx rfl (hb hby d1_26) rfl k) ?_
  show OGot p.tables e below (s₁.setTop (mkF m 27 #[.val (.int (13 : Int32))] [(.int (13 : Int32))])) _
  refine OGot.go (fun t k => XS.iconst X0.here hx rfl (hb hby d1_27) k) ?_
  show OGot p.tables e below (s₁.setTop (mkF m 28 #[.val (.int (13 : Int32))] [(.int (3 : Int32)), (.int (13 : Int32))])) _
  refine OGot.go (fun t k => XS.icmpYes X0.here hx rfl (pc0 := 28) (pc' := 35) rfl (hb hby d1_28) rfl (by decide) (by decide) (by decide) k) ?_
  show OGot p.tables e below (s₁.setTop (mkF m 35 #[.val (.int (13 : Int32))] [])) _
  refine OGot.go (fun t k => XS.iloadN X0.here hx rfl (hb hby d1_35) rfl k) ?_
  show OGot p.tables e below (s₁.setTop (mkF m 36 #[.val (.int (13 : Int32))] [(.int (13 : Int32))])) _
  refine OGot.go (fun t k => XS.iconst X0.here hx rfl (hb hby d1_36) k) ?_
  show OGot p.tables e below (s₁.setTop (mkF m 37 #[.val (.int (13 : Int32))] [(.int (4 : Int32)), (.int (13 : Int32))])) _
  refine OGot.go (fun t k => XS.icmpYes X0.here hx rfl (pc0 := 37) (pc' := 44) rfl (hb hby d1_37) rfl (by decide) (by decide) (by decide) k) ?_
  show OGot p.tables e below (s₁.setTop (mkF m 44 #[.val (.int (13 : Int32))] [])) _
  refine OGot.go (fun t k => XS.iloadN X0.here hx rfl (hb hby d1_44) rfl k) ?_
  show OGot p.tables e below (s₁.setTop (mkF m 45 #[.val (.int (13 : Int32))] [(.int (13 : Int32))])) _
  refine OGot.go (fun t k => XS.iconst X0.here hx rfl (hb hby d1_45) k) ?_
  show OGot p.tables e below (s₁.setTop (mkF m 46 #[.val (.int (13 : Int32))] [(.int (5 : Int32)), (.int (13 : Int32))])) _
  refine OGot.go (fun t k => XS.icmpYes X0.here hx rfl (pc0 := 46) (pc' := 53) rfl (hb hby d1_46) rfl (by decide) (by decide) (by decide) k) ?_
  show OGot p.tables e below (s₁.setTop (mkF m 53 #[.val (.int (13 : Int32))] [])) _
  refine OGot.go (fun t k => XS.iloadN X0.here hx rfl (hb hby d1_53) rfl k) ?_
  show OGot p.tables e below (s₁.setTop (mkF m 54 #[.val (.int (13 : Int32))] [(.int (13 : Int32))])) _
  refine OGot.go (fun t k => XS.bipush X0.here hx rfl (hb hby d1_54) k) ?_
  show OGot p.tables e below (s₁.setTop (mkF m 56 #[.val (.int (13 : Int32))] [(.int (6 : Int32)), (.int (13 : Int32))])) _
  refine OGot.go (fun t k => XS.icmpYes X0.here hx rfl (pc0 := 56) (pc' := 63) rfl (hb hby d1_56) rfl (by decide) (by decide) (by decide) k) ?_
  show OGot p.tables e below (s₁.setTop (mkF m 63 #[.val (.int (13 : Int32))] [])) _
  refine OGot.go (fun t k => XS.iloadN X0.here hx rfl (hb hby d1_63) rfl k) ?_
  show OGot p.tables e below (s₁.setTop (mkF m 64 #[.val (.int (13 : Int32))] [(.int (13 : Int32))])) _
  refine OGot.go (fun t k => XS.bipush X0.here hx rfl (hb hby d1_64) k) ?_
  show OGot p.tables e below (s₁.setTop (mkF m 66 #[.val (.int (13 : Int32))] [(.int (7 : Int32)), (.int (13 : Int32))])) _
  refine OGot.go (fun t k => XS.icmpYes X0.here hx rfl (pc0 := 66) (pc' := 73) rfl (hb hby d1_66) rfl (by decide) (by decide) (by decide) k) ?_
  show OGot p.tables e below (s₁.setTop (mkF m 73 #[.val (.int (13 : Int32))] [])) _
  refine OGot.go (fun t k => XS.iloadN X0.here hx rfl (hb hby d1_73) rfl k) ?_
  show OGot p.tables e below (s₁.setTop (mkF m 74 #[.val (.int (13 : Int32))] [(.int (13 : Int32))])) _
  refine OGot.go (fun t k => XS.bipush X0.here hx rfl (hb hby d1_74) k) ?_
  show OGot p.tables e below (s₁.setTop (mkF m 76 #[.val (.int (13 : Int32))] [(.int (8 : Int32)), (.int (13 : Int32))])) _
  refine OGot.go (fun t k => XS.icmpYes X0.here hx rfl (pc0 := 76) (pc' := 83) rfl (hb hby d1_76) rfl (by decide) (by decide) (by decide) k) ?_
  show OGot p.tables e below (s₁.setTop (mkF m 83 #[.val (.int (13 : Int32))] [])) _
  refine OGot.go (fun t k => XS.iloadN X0.here hx rfl (hb hby d1_83) rfl k) ?_
  show OGot p.tables e below (s₁.setTop (mkF m 84 #[.val (.int (13 : Int32))] [(.int (13 : Int32))])) _
  refine OGot.go (fun t k => XS.bipush X0.here hx rfl (hb hby d1_84) k) ?_
  show OGot p.tables e below (s₁.setTop (mkF m 86 #[.val (.int (13 : Int32))] [(.int (9 : Int32)), (.int (13 : Int32))])) _
  refine OGot.go (fun t k => XS.icmpYes X0.here hx rfl (pc0 := 86) (pc' := 93) rfl (hb hby d1_86) rfl (by decide) (by decide) (by decide) k) ?_
  show OGot p.tables e below (s₁.setTop (mkF m 93 #[.val (.int (13 : Int32))] [])) _
  refine OGot.go (fun t k => XS.iloadN X0.here hx rfl (hb hby d1_93) rfl k) ?_
  show OGot p.tables e below (s₁.setTop (mkF m 94 #[.val (.int (13 : Int32))] [(.int (13 : Int32))])) _
  refine OGot.go (fun t k => XS.bipush X0.here hx rfl (hb hby d1_94) k) ?_
  show OGot p.tables e below (s₁.setTop (mkF m 96 #[.val (.int (13 : Int32))] [(.int (10 : Int32)), (.int (13 : Int32))])) _
  refine OGot.go (fun t k => XS.icmpYes X0.here hx rfl (pc0 := 96) (pc' := 103) rfl (hb hby d1_96) rfl (by decide) (by decide) (by decide) k) ?_
  show OGot p.tables e below (s₁.setTop (mkF m 103 #[.val (.int (13 : Int32))] [])) _
  refine OGot.go (fun t k => XS.iloadN X0.here hx rfl (hb hby d1_103) rfl k) ?_
  show OGot p.tables e below (s₁.setTop (mkF m 104 #[.val (.int (13 : Int32))] [(.int (13 : Int32))])) _
  refine OGot.go (fun t k => XS.bipush X0.here hx rfl (hb hby d1_104) k) ?_
  show OGot p.tables e below (s₁.setTop (mkF m 106 #[.val (.int (13 : Int32))] [(.int (11 : Int32)), (.int (13 : Int32))])) _
  refine OGot.go (fun t k => XS.icmpYes X0.here hx rfl (pc0 := 106) (pc' := 113) rfl (hb hby d1_106) rfl (by decide) (by decide) (by decide) k) ?_
  show OGot p.tables e below (s₁.setTop (mkF m 113 #[.val (.int (13 : Int32))] [])) _
  refine OGot.go (fun t k => XS.iloadN X0.here hx rfl (hb hby d1_113) rfl k) ?_
  show OGot p.tables e below (s₁.setTop (mkF m 114 #[.val (.int (13 : Int32))] [(.int (13 : Int32))])) _
  refine OGot.go (fun t k => XS.bipush X0.here hx rfl (hb hby d1_114) k) ?_
  show OGot p.tables e below (s₁.setTop (mkF m 116 #[.val (.int (13 : Int32))] [(.int (12 : Int32)), (.int (13 : Int32))])) _
  refine OGot.go (fun t k => XS.icmpYes X0.here hx rfl (pc0 := 116) (pc' := 123) rfl (hb hby d1_116) rfl (by decide) (by decide) (by decide) k) ?_
  show OGot p.tables e below (s₁.setTop (mkF m 123 #[.val (.int (13 : Int32))] [])) _
  refine OGot.go (fun t k => XS.iloadN X0.here hx rfl (hb hby d1_123) rfl k) ?_
  show OGot p.tables e below (s₁.setTop (mkF m 124 #[.val (.int (13 : Int32))] [(.int (13 : Int32))])) _
  refine OGot.go (fun t k => XS.bipush X0.here hx rfl (hb hby d1_124) k) ?_
  show OGot p.tables e below (s₁.setTop (mkF m 126 #[.val (.int (13 : Int32))] [(.int (13 : Int32)), (.int (13 : Int32))])) _
  refine OGot.go (fun t k => XS.icmpNo X0.here hx rfl (hb hby d1_126) rfl (by decide) k) ?_
  show OGot p.tables e below (s₁.setTop (mkF m 129 #[.val (.int (13 : Int32))] [])) _
  obtain ⟨T1, X1, e1, st1⟩ := getS2 X0 hx hZ hown (host := "") (Or.inl (ow hw 24 rfl)) Via.refl e0 (G.2.2.2.2.2.2.2.2.2.2.2.2.1.ext O0.2) (g := (mkF m 129 #[.val (.int (13 : Int32))] [])) rfl (hb hby d1_129)
  refine OGot.go st1 ?_
  show OGot p.tables e below (T1.setTop (mkF m 132 #[.val (.int (13 : Int32))] [(.ref w_BOUNDARY_EVENT)])) _
  obtain ⟨fs, hr, hrun, hended, hW, hsame⟩ := X1.leave (v := some (.ref w_BOUNDARY_EVENT)) (fun h => by rw [Bd.returns] at h; cases h)
  refine ⟨_, _, oretA X1 hx Bd.returns rfl rfl (hb hby d1_132) hr, hrun, hended, _, _, rfl, ?_, ⟨_, rfl⟩, hW, hsame.mono (by decide) (by decide)⟩
  exact (⟨rfl, N0, e1⟩ : Q1_13 Z w_START_EVENT w_RECEPTION w_MESSAGE_START_EVENT w_MESSAGE_BOUNDARY_EVENT w_TERMINATE_END_EVENT w_LINK_THROW_EVENT w_BOUNDARY_EVENT w_LINK_CATCH_EVENT w_END_EVENT w_EVENT_BASED_GATEWAY w_INCLUSIVE_GATEWAY w_EXCLUSIVE_GATEWAY w_SUB_PROCESS w_ACTIVITY w_PARALLEL_GATEWAY  h0 n0 _ T1.heap _)
def Q2_13 (Z : State) (w_START_EVENT : Addr) (w_RECEPTION : Addr) (w_MESSAGE_START_EVENT : Addr) (w_MESSAGE_BOUNDARY_EVENT : Addr) (w_TERMINATE_END_EVENT : Addr) (w_LINK_THROW_EVENT : Addr) (w_BOUNDARY_EVENT : Addr) (w_LINK_CATCH_EVENT : Addr) (w_END_EVENT : Addr) (w_EVENT_BASED_GATEWAY : Addr) (w_INCLUSIVE_GATEWAY : Addr) (w_EXCLUSIVE_GATEWAY : Addr) (w_SUB_PROCESS : Addr) (w_ACTIVITY : Addr) (w_PARALLEL_GATEWAY : Addr)  (h0 : Heap) (n0 : Nat) (v : Option Value) (h : Heap) (L : List Loc) : Prop := v = some (.int (0 : Int32)) ∧ Fr n0 L ∧ h = h0
theorem ef2_13 (m : MethodId) (x0 : Addr) : entryFrame m #[(.ref x0)] 1 = mkF m 0 #[.val (.ref x0)] [] := by first | (simp [entryFrame, mkF, argsToLocals, Value.category]; done) | rfl
set_option maxRecDepth 65536 in
set_option maxHeartbeats 40000000 in
theorem rm2_13 (l : Launch) (Z : State) (a0 : Array Value) (hw : ∀ d ∈ tables_1, d.before a0 Z = true) (ws : List Jvm.Cond) {w_START_EVENT : Addr} {w_RECEPTION : Addr} {w_MESSAGE_START_EVENT : Addr} {w_MESSAGE_BOUNDARY_EVENT : Addr} {w_TERMINATE_END_EVENT : Addr} {w_LINK_THROW_EVENT : Addr} {w_BOUNDARY_EVENT : Addr} {w_LINK_CATCH_EVENT : Addr} {w_END_EVENT : Addr} {w_EVENT_BASED_GATEWAY : Addr} {w_INCLUSIVE_GATEWAY : Addr} {w_EXCLUSIVE_GATEWAY : Addr} {w_SUB_PROCESS : Addr} {w_ACTIVITY : Addr} {w_PARALLEL_GATEWAY : Addr} (G : Glob Z w_START_EVENT w_RECEPTION w_MESSAGE_START_EVENT w_MESSAGE_BOUNDARY_EVENT w_TERMINATE_END_EVENT w_LINK_THROW_EVENT w_BOUNDARY_EVENT w_LINK_CATCH_EVENT w_END_EVENT w_EVENT_BASED_GATEWAY w_INCLUSIVE_GATEWAY w_EXCLUSIVE_GATEWAY w_SUB_PROCESS w_ACTIVITY w_PARALLEL_GATEWAY)  (h0 : Heap) (n0 : Nat) (O0 : Old Z n0 h0) :
    MetFree l (⟨"com/example/chorale/chorale/FlowGraph$Kind", "receives", "()Z"⟩ : MethodName) (head1 (Jvm.Cond.code (⟨"com/example/chorale/chorale/FlowGraph$Kind", "receives", "()Z"⟩ : MethodName) prog_73_method_4_code 1 (some .boolean) :: ws) ({ frames := 0, cells := 0, slots := 0, locals := 0 } : Room)) (fun a U => a = #[(.ref w_BOUNDARY_EVENT)] ∧ Z.Warmed39 U.vm ∧ U.heap = h0) (fun _ _ _ _ _ => True) (fun _ U o U' => ∃ v L, o = .returned v ∧ Q2_13 Z w_START_EVENT w_RECEPTION w_MESSAGE_START_EVENT w_MESSAGE_BOUNDARY_EVENT w_TERMINATE_END_EVENT w_LINK_THROW_EVENT w_BOUNDARY_EVENT w_LINK_CATCH_EVENT w_END_EVENT w_EVENT_BASED_GATEWAY w_INCLUSIVE_GATEWAY w_EXCLUSIVE_GATEWAY w_SUB_PROCESS w_ACTIVITY w_PARALLEL_GATEWAY  h0 n0 v U'.heap L ∧ FrameEnd U o U' L ({ frames := 0, cells := 0, slots := 0, locals := 0 } : Room).cells ({ frames := 0, cells := 0, slots := 0, locals := 0 } : Room).slots) := by
  refine MetFree.of_bodySF (plainFor_of_name pn_com_example_chorale_chorale_FlowGraph_Kind) hisR ?_
  intro p e s m args below meth c s₁ Bd hml0 hP hK
  obtain ⟨rfl, hZ, hh⟩ := hP
  have hx := Bd.exec
  have hby := Bd.bytes
  have hml : c.maxLocals = 1 := hml0
  have hown : s.vm.findClass "com/example/chorale/chorale/FlowGraph$Kind" = some m.cls := findClass_of_methodNamed Bd.named
  have hnm := (name_of_methodNamed Bd.named Bd.method).1
  have X0 : Stand p l e ({ frames := 0, cells := 0, slots := 0, locals := 0 } : Room) s m #[(.ref w_BOUNDARY_EVENT)] below meth c s₁ [] 0 0 := Stand.of_body Bd
  have e0 : s₁.heap = h0 := by rw [← hh, Bd.state]; rfl
  have N0 := Fr.nil n0
  show OGot p.tables e below (s₁.setTop (entryFrame m #[(.ref w_BOUNDARY_EVENT)] 1)) _
  refine OGot.go (fun t k => castTop (ef2_13 m w_BOUNDARY_EVENT) k) ?_
  show OGot p.tables e below (s₁.setTop (mkF m 0 #[.val (.ref w_BOUNDARY_EVENT)] [])) _
  refine OGot.go (fun t k => XS.aloadN X0.here hx rfl (hb hby d2_0) rfl rfl k) ?_
  show OGot p.tables e below (s₁.setTop (mkF m 1 #[.val (.ref w_BOUNDARY_EVENT)] [(.ref w_BOUNDARY_EVENT)])) _
  obtain ⟨T2, X2, e2, st2⟩ := getS2 X0 hx hZ hown (host := "") (Or.inl (ow hw 14 rfl)) Via.refl e0 (G.2.2.1.ext O0.2) (g := (mkF m 1 #[.val (.ref w_BOUNDARY_EVENT)] [(.ref w_BOUNDARY_EVENT)])) rfl (hb hby d2_1)
  refine OGot.go st2 ?_
  show OGot p.tables e below (T2.setTop (mkF m 4 #[.val (.ref w_BOUNDARY_EVENT)] [(.ref w_RECEPTION), (.ref w_BOUNDARY_EVENT)])) _
  have ne3 : w_BOUNDARY_EVENT ≠ w_RECEPTION := (Fld.ne G.2.2.2.2.2.2.2.2.2.2.2.2.2.2.2.2.2.2.2.2.2.2.2.2.2.2.2.2.2.2.2.2.2.2.2.2.1 G.2.2.2.2.2.2.2.2.2.2.2.2.2.2.2.2.2.2.2.2.2.2.2.2.2.2.2.2.2.2.2.1 (by decide))
  refine OGot.go (fun t k => Jvm.RoadKit.acmp (g := (mkF m 4 #[.val (.ref w_BOUNDARY_EVENT)] [(.ref w_RECEPTION), (.ref w_BOUNDARY_EVENT)])) X2 hx rfl rfl rfl (pc0 := 4) (pc' := 7) (same := false) rfl (hb hby d2_4) rfl (decide_eq_false fun q => ne3 (Value.ref.inj q)) (by decide) (by decide) k) ?_
  show OGot p.tables e below (T2.setTop (mkF m 7 #[.val (.ref w_BOUNDARY_EVENT)] [])) _
  refine OGot.go (fun t k => XS.aloadN X2.here hx rfl (hb hby d2_7) rfl rfl k) ?_
  show OGot p.tables e below (T2.setTop (mkF m 8 #[.val (.ref w_BOUNDARY_EVENT)] [(.ref w_BOUNDARY_EVENT)])) _
  obtain ⟨T4, X4, e4, st4⟩ := getS2 X2 hx hZ hown (host := "") (Or.inl (ow hw 16 rfl)) Via.refl e2 (G.2.2.2.2.1.ext O0.2) (g := (mkF m 8 #[.val (.ref w_BOUNDARY_EVENT)] [(.ref w_BOUNDARY_EVENT)])) rfl (hb hby d2_8)
  refine OGot.go st4 ?_
  show OGot p.tables e below (T4.setTop (mkF m 11 #[.val (.ref w_BOUNDARY_EVENT)] [(.ref w_MESSAGE_START_EVENT), (.ref w_BOUNDARY_EVENT)])) _
  have ne5 : w_BOUNDARY_EVENT ≠ w_MESSAGE_START_EVENT := (Fld.ne G.2.2.2.2.2.2.2.2.2.2.2.2.2.2.2.2.2.2.2.2.2.2.2.2.2.2.2.2.2.2.2.2.2.2.2.2.1 G.2.2.2.2.2.2.2.2.2.2.2.2.2.2.2.2.2.2.2.2.2.2.2.2.2.2.2.2.2.2.2.2.1 (by decide))
  refine OGot.go (fun t k => Jvm.RoadKit.acmp (g := (mkF m 11 #[.val (.ref w_BOUNDARY_EVENT)] [(.ref w_MESSAGE_START_EVENT), (.ref w_BOUNDARY_EVENT)])) X4 hx rfl rfl rfl (pc0 := 11) (pc' := 14) (same := false) rfl (hb hby d2_11) rfl (decide_eq_false fun q => ne5 (Value.ref.inj q)) (by decide) (by decide) k) ?_
  show OGot p.tables e below (T4.setTop (mkF m 14 #[.val (.ref w_BOUNDARY_EVENT)] [])) _
  refine OGot.go (fun t k => XS.aloadN X4.here hx rfl (hb hby d2_14) rfl rfl k) ?_
  show OGot p.tables e below (T4.setTop (mkF m 15 #[.val (.ref w_BOUNDARY_EVENT)] [(.ref w_BOUNDARY_EVENT)])) _
  obtain ⟨T6, X6, e6, st6⟩ := getS2 X4 hx hZ hown (host := "") (Or.inl (ow hw 18 rfl)) Via.refl e4 (G.2.2.2.2.2.2.1.ext O0.2) (g := (mkF m 15 #[.val (.ref w_BOUNDARY_EVENT)] [(.ref w_BOUNDARY_EVENT)])) rfl (hb hby d2_15)
  refine OGot.go st6 ?_
  show OGot p.tables e below (T6.setTop (mkF m 18 #[.val (.ref w_BOUNDARY_EVENT)] [(.ref w_MESSAGE_BOUNDARY_EVENT), (.ref w_BOUNDARY_EVENT)])) _
  have ne7 : w_BOUNDARY_EVENT ≠ w_MESSAGE_BOUNDARY_EVENT := (Fld.ne G.2.2.2.2.2.2.2.2.2.2.2.2.2.2.2.2.2.2.2.2.2.2.2.2.2.2.2.2.2.2.2.2.2.2.2.2.1 G.2.2.2.2.2.2.2.2.2.2.2.2.2.2.2.2.2.2.2.2.2.2.2.2.2.2.2.2.2.2.2.2.2.1 (by decide))
  refine OGot.go (fun t k => Jvm.RoadKit.acmp (g := (mkF m 18 #[.val (.ref w_BOUNDARY_EVENT)] [(.ref w_MESSAGE_BOUNDARY_EVENT), (.ref w_BOUNDARY_EVENT)])) X6 hx rfl rfl rfl (pc0 := 18) (pc' := 25) (same := false) rfl (hb hby d2_18) rfl (decide_eq_false fun q => ne7 (Value.ref.inj q)) (by decide) (by decide) k) ?_
  show OGot p.tables e below (T6.setTop (mkF m 25 #[.val (.ref w_BOUNDARY_EVENT)] [])) _
  refine OGot.go (fun t k => XS.iconst X6.here hx rfl (hb hby d2_25) k) ?_
  show OGot p.tables e below (T6.setTop (mkF m 26 #[.val (.ref w_BOUNDARY_EVENT)] [(.int (0 : Int32))])) _
  obtain ⟨fs, hr, hrun, hended, hW, hsame⟩ := X6.leave (v := some (.int (0 : Int32))) (fun h => by rw [Bd.returns] at h; cases h)
  refine ⟨_, _, retN X6 hx (t := .boolean) Bd.returns (by simp) (hb hby d2_26) hr, hrun, hended, _, _, rfl, ?_, ⟨_, rfl⟩, hW, hsame.mono (by decide) (by decide)⟩
  exact (⟨rfl, N0, e6⟩ : Q2_13 Z w_START_EVENT w_RECEPTION w_MESSAGE_START_EVENT w_MESSAGE_BOUNDARY_EVENT w_TERMINATE_END_EVENT w_LINK_THROW_EVENT w_BOUNDARY_EVENT w_LINK_CATCH_EVENT w_END_EVENT w_EVENT_BASED_GATEWAY w_INCLUSIVE_GATEWAY w_EXCLUSIVE_GATEWAY w_SUB_PROCESS w_ACTIVITY w_PARALLEL_GATEWAY  h0 n0 _ T6.heap _)
theorem d1_133 : decode method_2_code 133 = .ok (.getstatic 52, 3) := by decide +kernel
theorem d1_136 : decode method_2_code 136 = .ok (.areturn, 1) := by decide +kernel
def Q1_14 (Z : State) (w_START_EVENT : Addr) (w_RECEPTION : Addr) (w_MESSAGE_START_EVENT : Addr) (w_MESSAGE_BOUNDARY_EVENT : Addr) (w_TERMINATE_END_EVENT : Addr) (w_LINK_THROW_EVENT : Addr) (w_BOUNDARY_EVENT : Addr) (w_LINK_CATCH_EVENT : Addr) (w_END_EVENT : Addr) (w_EVENT_BASED_GATEWAY : Addr) (w_INCLUSIVE_GATEWAY : Addr) (w_EXCLUSIVE_GATEWAY : Addr) (w_SUB_PROCESS : Addr) (w_ACTIVITY : Addr) (w_PARALLEL_GATEWAY : Addr)  (h0 : Heap) (n0 : Nat) (v : Option Value) (h : Heap) (L : List Loc) : Prop := v = some (.ref w_MESSAGE_BOUNDARY_EVENT) ∧ Fr n0 L ∧ h = h0
theorem ef1_14 (m : MethodId)  : entryFrame m #[(.int (14 : Int32))] 1 = mkF m 0 #[.val (.int (14 : Int32))] [] := by first | (simp [entryFrame, mkF, argsToLocals, Value.category]; done) | rfl
set_option maxRecDepth 65536 in
set_option maxHeartbeats 40000000 in
theorem rm1_14 (l : Launch) (Z : State) (a0 : Array Value) (hw : ∀ d ∈ tables_1, d.before a0 Z = true) (ws : List Jvm.Cond) {w_START_EVENT : Addr} {w_RECEPTION : Addr} {w_MESSAGE_START_EVENT : Addr} {w_MESSAGE_BOUNDARY_EVENT : Addr} {w_TERMINATE_END_EVENT : Addr} {w_LINK_THROW_EVENT : Addr} {w_BOUNDARY_EVENT : Addr} {w_LINK_CATCH_EVENT : Addr} {w_END_EVENT : Addr} {w_EVENT_BASED_GATEWAY : Addr} {w_INCLUSIVE_GATEWAY : Addr} {w_EXCLUSIVE_GATEWAY : Addr} {w_SUB_PROCESS : Addr} {w_ACTIVITY : Addr} {w_PARALLEL_GATEWAY : Addr} (G : Glob Z w_START_EVENT w_RECEPTION w_MESSAGE_START_EVENT w_MESSAGE_BOUNDARY_EVENT w_TERMINATE_END_EVENT w_LINK_THROW_EVENT w_BOUNDARY_EVENT w_LINK_CATCH_EVENT w_END_EVENT w_EVENT_BASED_GATEWAY w_INCLUSIVE_GATEWAY w_EXCLUSIVE_GATEWAY w_SUB_PROCESS w_ACTIVITY w_PARALLEL_GATEWAY)  (h0 : Heap) (n0 : Nat) (O0 : Old Z n0 h0) :
    MetFree l (⟨"com/example/chorale/chorale/KindReceivesPinLaw", "kindAt", "(I)Lcom/example/chorale/chorale/FlowGraph$Kind;"⟩ : MethodName) (head1 (Jvm.Cond.code (⟨"com/example/chorale/chorale/KindReceivesPinLaw", "kindAt", "(I)Lcom/example/chorale/chorale/FlowGraph$Kind;"⟩ : MethodName) method_2_code 1 (some (.object "com/example/chorale/chorale/FlowGraph$Kind")) :: ws) ({ frames := 0, cells := 0, slots := 0, locals := 0 } : Room)) (fun a U => a = #[(.int (14 : Int32))] ∧ Z.Warmed39 U.vm ∧ U.heap = h0) (fun _ _ _ _ _ => True) (fun _ U o U' => ∃ v L, o = .returned v ∧ Q1_14 Z w_START_EVENT w_RECEPTION w_MESSAGE_START_EVENT w_MESSAGE_BOUNDARY_EVENT w_TERMINATE_END_EVENT w_LINK_THROW_EVENT w_BOUNDARY_EVENT w_LINK_CATCH_EVENT w_END_EVENT w_EVENT_BASED_GATEWAY w_INCLUSIVE_GATEWAY w_EXCLUSIVE_GATEWAY w_SUB_PROCESS w_ACTIVITY w_PARALLEL_GATEWAY  h0 n0 v U'.heap L ∧ FrameEnd U o U' L ({ frames := 0, cells := 0, slots := 0, locals := 0 } : Room).cells ({ frames := 0, cells := 0, slots := 0, locals := 0 } : Room).slots) := by
  refine MetFree.of_bodySF (plainFor_of_name pn_com_example_chorale_chorale_KindReceivesPinLaw) hisR ?_
  intro p e s m args below meth c s₁ Bd hml0 hP hK
  obtain ⟨rfl, hZ, hh⟩ := hP
  have hx := Bd.exec
  have hby := Bd.bytes
  have hml : c.maxLocals = 1 := hml0
  have hown : s.vm.findClass "com/example/chorale/chorale/KindReceivesPinLaw" = some m.cls := findClass_of_methodNamed Bd.named
  have hnm := (name_of_methodNamed Bd.named Bd.method).1
  have X0 : Stand p l e ({ frames := 0, cells := 0, slots := 0, locals := 0 } : Room) s m #[(.int (14 : Int32))] below meth c s₁ [] 0 0 := Stand.of_body Bd
  have e0 : s₁.heap = h0 := by rw [← hh, Bd.state]; rfl
  have N0 := Fr.nil n0
  show OGot p.tables e below (s₁.setTop (entryFrame m #[(.int (14 : Int32))] 1)) _
  refine OGot.go (fun t k => castTop (ef1_14 m ) k) ?_
  show OGot p.tables e below (s₁.setTop (mkF m 0 #[.val (.int (14 : Int32))] [])) _
  refine OGot.go (fun t k => XS.iloadN X0.here hx rfl (hb hby d1_0) rfl k) ?_
  show OGot p.tables e below (s₁.setTop (mkF m 1 #[.val (.int (14 : Int32))] [(.int (14 : Int32))])) _
  refine OGot.go (fun t k => XS.ifYes X0.here hx rfl (pc0 := 1) (pc' := 8) rfl (hb hby d1_1) rfl (by decide) (by decide) (by decide) k) ?_
  show OGot p.tables e below (s₁.setTop (mkF m 8 #[.val (.int (14 : Int32))] [])) _
  refine OGot.go (fun t k => XS.iloadN X0.here hx rfl (hb hby d1_8) rfl k) ?_
  show OGot p.tables e below (s₁.setTop (mkF m 9 #[.val (.int (14 : Int32))] [(.int (14 : Int32))])) _
  refine OGot.go (fun t k => XS.iconst X0.here hx rfl (hb hby d1_9) k) ?_
  show OGot p.tables e below (s₁.setTop (mkF m 10 #[.val (.int (14 : Int32))] [(.int (1 : Int32)), (.int (14 : Int32))])) _
  refine OGot.go (fun t k => XS.icmpYes X0.here hx rfl (pc0 := 10) (pc' := 17) rfl (hb hby d1_10) rfl (by decide) (by decide) (by decide) k) ?_
  show OGot p.tables e below (s₁.setTop (mkF m 17 #[.val (.int (14 : Int32))] [])) _
  refine OGot.go (fun t k => XS.iloadN X0.here hx rfl (hb hby d1_17) rfl k) ?_
  show OGot p.tables e below (s₁.setTop (mkF m 18 #[.val (.int (14 : Int32))] [(.int (14 : Int32))])) _
  refine OGot.go (fun t k => XS.iconst X0.here hx rfl (hb hby d1_18) k) ?_
  show OGot p.tables e below (s₁.setTop (mkF m 19 #[.val (.int (14 : Int32))] [(.int (2 : Int32)), (.int (14 : Int32))])) _
  refine OGot.go (fun t k => XS.icmpYes X0.here hx rfl (pc0 := 19) (pc' := 26) rfl (hb hby d1_19) rfl (by decide) (by decide) (by decide) k) ?_
  show OGot p.tables e below (s₁.setTop (mkF m 26 #[.val (.int (14 : Int32))] [])) _
  refine OGot.go (fun t k => XS.iloadN X0.here hx rfl (hb hby d1_26) rfl k) ?_
  show OGot p.tables e below (s₁.setTop (mkF m 27 #[.val (.int (14 : Int32))] [(.int (14 : Int32))])) _
  refine OGot.go (fun t k => XS.iconst X0.here hx rfl (hb hby d1_27) k) ?_
  show OGot p.tables e below (s₁.setTop (mkF m 28 #[.val (.int (14 : Int32))] [(.int (3 : Int32)), (.int (14 : Int32))])) _
  refine OGot.go (fun t k => XS.icmpYes X0.here hx rfl (pc0 := 28) (pc' := 35) rfl (hb hby d1_28) rfl (by decide) (by decide) (by decide) k) ?_
  show OGot p.tables e below (s₁.setTop (mkF m 35 #[.val (.int (14 : Int32))] [])) _
  refine OGot.go (fun t k => XS.iloadN X0.here hx rfl (hb hby d1_35) rfl k) ?_
  show OGot p.tables e below (s₁.setTop (mkF m 36 #[.val (.int (14 : Int32))] [(.int (14 : Int32))])) _
  refine OGot.go (fun t k => XS.iconst X0.here hx rfl (hb hby d1_36) k) ?_
  show OGot p.tables e below (s₁.setTop (mkF m 37 #[.val (.int (14 : Int32))] [(.int (4 : Int32)), (.int (14 : Int32))])) _
  refine OGot.go (fun t k => XS.icmpYes X0.here hx rfl (pc0 := 37) (pc' := 44) rfl (hb hby d1_37) rfl (by decide) (by decide) (by decide) k) ?_
  show OGot p.tables e below (s₁.setTop (mkF m 44 #[.val (.int (14 : Int32))] [])) _
  refine OGot.go (fun t k => XS.iloadN X0.here hx rfl (hb hby d1_44) rfl k) ?_
  show OGot p.tables e below (s₁.setTop (mkF m 45 #[.val (.int (14 : Int32))] [(.int (14 : Int32))])) _
  refine OGot.go (fun t k => XS.iconst X0.here hx rfl (hb hby d1_45) k) ?_
  show OGot p.tables e below (s₁.setTop (mkF m 46 #[.val (.int (14 : Int32))] [(.int (5 : Int32)), (.int (14 : Int32))])) _
  refine OGot.go (fun t k => XS.icmpYes X0.here hx rfl (pc0 := 46) (pc' := 53) rfl (hb hby d1_46) rfl (by decide) (by decide) (by decide) k) ?_
  show OGot p.tables e below (s₁.setTop (mkF m 53 #[.val (.int (14 : Int32))] [])) _
  refine OGot.go (fun t k => XS.iloadN X0.here hx rfl (hb hby d1_53) rfl k) ?_
  show OGot p.tables e below (s₁.setTop (mkF m 54 #[.val (.int (14 : Int32))] [(.int (14 : Int32))])) _
  refine OGot.go (fun t k => XS.bipush X0.here hx rfl (hb hby d1_54) k) ?_
  show OGot p.tables e below (s₁.setTop (mkF m 56 #[.val (.int (14 : Int32))] [(.int (6 : Int32)), (.int (14 : Int32))])) _
  refine OGot.go (fun t k => XS.icmpYes X0.here hx rfl (pc0 := 56) (pc' := 63) rfl (hb hby d1_56) rfl (by decide) (by decide) (by decide) k) ?_
  show OGot p.tables e below (s₁.setTop (mkF m 63 #[.val (.int (14 : Int32))] [])) _
  refine OGot.go (fun t k => XS.iloadN X0.here hx rfl (hb hby d1_63) rfl k) ?_
  show OGot p.tables e below (s₁.setTop (mkF m 64 #[.val (.int (14 : Int32))] [(.int (14 : Int32))])) _
  refine OGot.go (fun t k => XS.bipush X0.here hx rfl (hb hby d1_64) k) ?_
  show OGot p.tables e below (s₁.setTop (mkF m 66 #[.val (.int (14 : Int32))] [(.int (7 : Int32)), (.int (14 : Int32))])) _
  refine OGot.go (fun t k => XS.icmpYes X0.here hx rfl (pc0 := 66) (pc' := 73) rfl (hb hby d1_66) rfl (by decide) (by decide) (by decide) k) ?_
  show OGot p.tables e below (s₁.setTop (mkF m 73 #[.val (.int (14 : Int32))] [])) _
  refine OGot.go (fun t k => XS.iloadN X0.here hx rfl (hb hby d1_73) rfl k) ?_
  show OGot p.tables e below (s₁.setTop (mkF m 74 #[.val (.int (14 : Int32))] [(.int (14 : Int32))])) _
  refine OGot.go (fun t k => XS.bipush X0.here hx rfl (hb hby d1_74) k) ?_
  show OGot p.tables e below (s₁.setTop (mkF m 76 #[.val (.int (14 : Int32))] [(.int (8 : Int32)), (.int (14 : Int32))])) _
  refine OGot.go (fun t k => XS.icmpYes X0.here hx rfl (pc0 := 76) (pc' := 83) rfl (hb hby d1_76) rfl (by decide) (by decide) (by decide) k) ?_
  show OGot p.tables e below (s₁.setTop (mkF m 83 #[.val (.int (14 : Int32))] [])) _
  refine OGot.go (fun t k => XS.iloadN X0.here hx rfl (hb hby d1_83) rfl k) ?_
  show OGot p.tables e below (s₁.setTop (mkF m 84 #[.val (.int (14 : Int32))] [(.int (14 : Int32))])) _
  refine OGot.go (fun t k => XS.bipush X0.here hx rfl (hb hby d1_84) k) ?_
  show OGot p.tables e below (s₁.setTop (mkF m 86 #[.val (.int (14 : Int32))] [(.int (9 : Int32)), (.int (14 : Int32))])) _
  refine OGot.go (fun t k => XS.icmpYes X0.here hx rfl (pc0 := 86) (pc' := 93) rfl (hb hby d1_86) rfl (by decide) (by decide) (by decide) k) ?_
  show OGot p.tables e below (s₁.setTop (mkF m 93 #[.val (.int (14 : Int32))] [])) _
  refine OGot.go (fun t k => XS.iloadN X0.here hx rfl (hb hby d1_93) rfl k) ?_
  show OGot p.tables e below (s₁.setTop (mkF m 94 #[.val (.int (14 : Int32))] [(.int (14 : Int32))])) _
  refine OGot.go (fun t k => XS.bipush X0.here hx rfl (hb hby d1_94) k) ?_
  show OGot p.tables e below (s₁.setTop (mkF m 96 #[.val (.int (14 : Int32))] [(.int (10 : Int32)), (.int (14 : Int32))])) _
  refine OGot.go (fun t k => XS.icmpYes X0.here hx rfl (pc0 := 96) (pc' := 103) rfl (hb hby d1_96) rfl (by decide) (by decide) (by decide) k) ?_
  show OGot p.tables e below (s₁.setTop (mkF m 103 #[.val (.int (14 : Int32))] [])) _
  refine OGot.go (fun t k => XS.iloadN X0.here hx rfl (hb hby d1_103) rfl k) ?_
  show OGot p.tables e below (s₁.setTop (mkF m 104 #[.val (.int (14 : Int32))] [(.int (14 : Int32))])) _
  refine OGot.go (fun t k => XS.bipush X0.here hx rfl (hb hby d1_104) k) ?_
  show OGot p.tables e below (s₁.setTop (mkF m 106 #[.val (.int (14 : Int32))] [(.int (11 : Int32)), (.int (14 : Int32))])) _
  refine OGot.go (fun t k => XS.icmpYes X0.here hx rfl (pc0 := 106) (pc' := 113) rfl (hb hby d1_106) rfl (by decide) (by decide) (by decide) k) ?_
  show OGot p.tables e below (s₁.setTop (mkF m 113 #[.val (.int (14 : Int32))] [])) _
  refine OGot.go (fun t k => XS.iloadN X0.here hx rfl (hb hby d1_113) rfl k) ?_
  show OGot p.tables e below (s₁.setTop (mkF m 114 #[.val (.int (14 : Int32))] [(.int (14 : Int32))])) _
  refine OGot.go (fun t k => XS.bipush X0.here hx rfl (hb hby d1_114) k) ?_
  show OGot p.tables e below (s₁.setTop (mkF m 116 #[.val (.int (14 : Int32))] [(.int (12 : Int32)), (.int (14 : Int32))])) _
  refine OGot.go (fun t k => XS.icmpYes X0.here hx rfl (pc0 := 116) (pc' := 123) rfl (hb hby d1_116) rfl (by decide) (by decide) (by decide) k) ?_
  show OGot p.tables e below (s₁.setTop (mkF m 123 #[.val (.int (14 : Int32))] [])) _
  refine OGot.go (fun t k => XS.iloadN X0.here hx rfl (hb hby d1_123) rfl k) ?_
  show OGot p.tables e below (s₁.setTop (mkF m 124 #[.val (.int (14 : Int32))] [(.int (14 : Int32))])) _
  refine OGot.go (fun t k => XS.bipush X0.here hx rfl (hb hby d1_124) k) ?_
  show OGot p.tables e below (s₁.setTop (mkF m 126 #[.val (.int (14 : Int32))] [(.int (13 : Int32)), (.int (14 : Int32))])) _
  refine OGot.go (fun t k => XS.icmpYes X0.here hx rfl (pc0 := 126) (pc' := 133) rfl (hb hby d1_126) rfl (by decide) (by decide) (by decide) k) ?_
  show OGot p.tables e below (s₁.setTop (mkF m 133 #[.val (.int (14 : Int32))] [])) _
  obtain ⟨T1, X1, e1, st1⟩ := getS2 X0 hx hZ hown (host := "") (Or.inl (ow hw 28 rfl)) Via.refl e0 (G.2.2.2.2.2.2.1.ext O0.2) (g := (mkF m 133 #[.val (.int (14 : Int32))] [])) rfl (hb hby d1_133)
  refine OGot.go st1 ?_
  show OGot p.tables e below (T1.setTop (mkF m 136 #[.val (.int (14 : Int32))] [(.ref w_MESSAGE_BOUNDARY_EVENT)])) _
  obtain ⟨fs, hr, hrun, hended, hW, hsame⟩ := X1.leave (v := some (.ref w_MESSAGE_BOUNDARY_EVENT)) (fun h => by rw [Bd.returns] at h; cases h)
  refine ⟨_, _, oretA X1 hx Bd.returns rfl rfl (hb hby d1_136) hr, hrun, hended, _, _, rfl, ?_, ⟨_, rfl⟩, hW, hsame.mono (by decide) (by decide)⟩
  exact (⟨rfl, N0, e1⟩ : Q1_14 Z w_START_EVENT w_RECEPTION w_MESSAGE_START_EVENT w_MESSAGE_BOUNDARY_EVENT w_TERMINATE_END_EVENT w_LINK_THROW_EVENT w_BOUNDARY_EVENT w_LINK_CATCH_EVENT w_END_EVENT w_EVENT_BASED_GATEWAY w_INCLUSIVE_GATEWAY w_EXCLUSIVE_GATEWAY w_SUB_PROCESS w_ACTIVITY w_PARALLEL_GATEWAY  h0 n0 _ T1.heap _)
def Q2_14 (Z : State) (w_START_EVENT : Addr) (w_RECEPTION : Addr) (w_MESSAGE_START_EVENT : Addr) (w_MESSAGE_BOUNDARY_EVENT : Addr) (w_TERMINATE_END_EVENT : Addr) (w_LINK_THROW_EVENT : Addr) (w_BOUNDARY_EVENT : Addr) (w_LINK_CATCH_EVENT : Addr) (w_END_EVENT : Addr) (w_EVENT_BASED_GATEWAY : Addr) (w_INCLUSIVE_GATEWAY : Addr) (w_EXCLUSIVE_GATEWAY : Addr) (w_SUB_PROCESS : Addr) (w_ACTIVITY : Addr) (w_PARALLEL_GATEWAY : Addr)  (h0 : Heap) (n0 : Nat) (v : Option Value) (h : Heap) (L : List Loc) : Prop := v = some (.int (1 : Int32)) ∧ Fr n0 L ∧ h = h0
theorem ef2_14 (m : MethodId) (x0 : Addr) : entryFrame m #[(.ref x0)] 1 = mkF m 0 #[.val (.ref x0)] [] := by first | (simp [entryFrame, mkF, argsToLocals, Value.category]; done) | rfl
set_option maxRecDepth 65536 in
set_option maxHeartbeats 40000000 in
theorem rm2_14 (l : Launch) (Z : State) (a0 : Array Value) (hw : ∀ d ∈ tables_1, d.before a0 Z = true) (ws : List Jvm.Cond) {w_START_EVENT : Addr} {w_RECEPTION : Addr} {w_MESSAGE_START_EVENT : Addr} {w_MESSAGE_BOUNDARY_EVENT : Addr} {w_TERMINATE_END_EVENT : Addr} {w_LINK_THROW_EVENT : Addr} {w_BOUNDARY_EVENT : Addr} {w_LINK_CATCH_EVENT : Addr} {w_END_EVENT : Addr} {w_EVENT_BASED_GATEWAY : Addr} {w_INCLUSIVE_GATEWAY : Addr} {w_EXCLUSIVE_GATEWAY : Addr} {w_SUB_PROCESS : Addr} {w_ACTIVITY : Addr} {w_PARALLEL_GATEWAY : Addr} (G : Glob Z w_START_EVENT w_RECEPTION w_MESSAGE_START_EVENT w_MESSAGE_BOUNDARY_EVENT w_TERMINATE_END_EVENT w_LINK_THROW_EVENT w_BOUNDARY_EVENT w_LINK_CATCH_EVENT w_END_EVENT w_EVENT_BASED_GATEWAY w_INCLUSIVE_GATEWAY w_EXCLUSIVE_GATEWAY w_SUB_PROCESS w_ACTIVITY w_PARALLEL_GATEWAY)  (h0 : Heap) (n0 : Nat) (O0 : Old Z n0 h0) :
    MetFree l (⟨"com/example/chorale/chorale/FlowGraph$Kind", "receives", "()Z"⟩ : MethodName) (head1 (Jvm.Cond.code (⟨"com/example/chorale/chorale/FlowGraph$Kind", "receives", "()Z"⟩ : MethodName) prog_73_method_4_code 1 (some .boolean) :: ws) ({ frames := 0, cells := 0, slots := 0, locals := 0 } : Room)) (fun a U => a = #[(.ref w_MESSAGE_BOUNDARY_EVENT)] ∧ Z.Warmed39 U.vm ∧ U.heap = h0) (fun _ _ _ _ _ => True) (fun _ U o U' => ∃ v L, o = .returned v ∧ Q2_14 Z w_START_EVENT w_RECEPTION w_MESSAGE_START_EVENT w_MESSAGE_BOUNDARY_EVENT w_TERMINATE_END_EVENT w_LINK_THROW_EVENT w_BOUNDARY_EVENT w_LINK_CATCH_EVENT w_END_EVENT w_EVENT_BASED_GATEWAY w_INCLUSIVE_GATEWAY w_EXCLUSIVE_GATEWAY w_SUB_PROCESS w_ACTIVITY w_PARALLEL_GATEWAY  h0 n0 v U'.heap L ∧ FrameEnd U o U' L ({ frames := 0, cells := 0, slots := 0, locals := 0 } : Room).cells ({ frames := 0, cells := 0, slots := 0, locals := 0 } : Room).slots) := by
  refine MetFree.of_bodySF (plainFor_of_name pn_com_example_chorale_chorale_FlowGraph_Kind) hisR ?_
  intro p e s m args below meth c s₁ Bd hml0 hP hK
  obtain ⟨rfl, hZ, hh⟩ := hP
  have hx := Bd.exec
  have hby := Bd.bytes
  have hml : c.maxLocals = 1 := hml0
  have hown : s.vm.findClass "com/example/chorale/chorale/FlowGraph$Kind" = some m.cls := findClass_of_methodNamed Bd.named
  have hnm := (name_of_methodNamed Bd.named Bd.method).1
  have X0 : Stand p l e ({ frames := 0, cells := 0, slots := 0, locals := 0 } : Room) s m #[(.ref w_MESSAGE_BOUNDARY_EVENT)] below meth c s₁ [] 0 0 := Stand.of_body Bd
  have e0 : s₁.heap = h0 := by rw [← hh, Bd.state]; rfl
  have N0 := Fr.nil n0
  show OGot p.tables e below (s₁.setTop (entryFrame m #[(.ref w_MESSAGE_BOUNDARY_EVENT)] 1)) _
  refine OGot.go (fun t k => castTop (ef2_14 m w_MESSAGE_BOUNDARY_EVENT) k) ?_
  show OGot p.tables e below (s₁.setTop (mkF m 0 #[.val (.ref w_MESSAGE_BOUNDARY_EVENT)] [])) _
  refine OGot.go (fun t k => XS.aloadN X0.here hx rfl (hb hby d2_0) rfl rfl k) ?_
  show OGot p.tables e below (s₁.setTop (mkF m 1 #[.val (.ref w_MESSAGE_BOUNDARY_EVENT)] [(.ref w_MESSAGE_BOUNDARY_EVENT)])) _
  obtain ⟨T2, X2, e2, st2⟩ := getS2 X0 hx hZ hown (host := "") (Or.inl (ow hw 14 rfl)) Via.refl e0 (G.2.2.1.ext O0.2) (g := (mkF m 1 #[.val (.ref w_MESSAGE_BOUNDARY_EVENT)] [(.ref w_MESSAGE_BOUNDARY_EVENT)])) rfl (hb hby d2_1)
  refine OGot.go st2 ?_
  show OGot p.tables e below (T2.setTop (mkF m 4 #[.val (.ref w_MESSAGE_BOUNDARY_EVENT)] [(.ref w_RECEPTION), (.ref w_MESSAGE_BOUNDARY_EVENT)])) _
  have ne3 : w_MESSAGE_BOUNDARY_EVENT ≠ w_RECEPTION := (Fld.ne G.2.2.2.2.2.2.2.2.2.2.2.2.2.2.2.2.2.2.2.2.2.2.2.2.2.2.2.2.2.2.2.2.2.1 G.2.2.2.2.2.2.2.2.2.2.2.2.2.2.2.2.2.2.2.2.2.2.2.2.2.2.2.2.2.2.2.1 (by decide))
  refine OGot.go (fun t k => Jvm.RoadKit.acmp (g := (mkF m 4 #[.val (.ref w_MESSAGE_BOUNDARY_EVENT)] [(.ref w_RECEPTION), (.ref w_MESSAGE_BOUNDARY_EVENT)])) X2 hx rfl rfl rfl (pc0 := 4) (pc' := 7) (same := false) rfl (hb hby d2_4) rfl (decide_eq_false fun q => ne3 (Value.ref.inj q)) (by decide) (by decide) k) ?_
  show OGot p.tables e below (T2.setTop (mkF m 7 #[.val (.ref w_MESSAGE_BOUNDARY_EVENT)] [])) _
  refine OGot.go (fun t k => XS.aloadN X2.here hx rfl (hb hby d2_7) rfl rfl k) ?_
  show OGot p.tables e below (T2.setTop (mkF m 8 #[.val (.ref w_MESSAGE_BOUNDARY_EVENT)] [(.ref w_MESSAGE_BOUNDARY_EVENT)])) _
  obtain ⟨T4, X4, e4, st4⟩ := getS2 X2 hx hZ hown (host := "") (Or.inl (ow hw 16 rfl)) Via.refl e2 (G.2.2.2.2.1.ext O0.2) (g := (mkF m 8 #[.val (.ref w_MESSAGE_BOUNDARY_EVENT)] [(.ref w_MESSAGE_BOUNDARY_EVENT)])) rfl (hb hby d2_8)
  refine OGot.go st4 ?_
  show OGot p.tables e below (T4.setTop (mkF m 11 #[.val (.ref w_MESSAGE_BOUNDARY_EVENT)] [(.ref w_MESSAGE_START_EVENT), (.ref w_MESSAGE_BOUNDARY_EVENT)])) _
  have ne5 : w_MESSAGE_BOUNDARY_EVENT ≠ w_MESSAGE_START_EVENT := (Fld.ne G.2.2.2.2.2.2.2.2.2.2.2.2.2.2.2.2.2.2.2.2.2.2.2.2.2.2.2.2.2.2.2.2.2.1 G.2.2.2.2.2.2.2.2.2.2.2.2.2.2.2.2.2.2.2.2.2.2.2.2.2.2.2.2.2.2.2.2.1 (by decide))
  refine OGot.go (fun t k => Jvm.RoadKit.acmp (g := (mkF m 11 #[.val (.ref w_MESSAGE_BOUNDARY_EVENT)] [(.ref w_MESSAGE_START_EVENT), (.ref w_MESSAGE_BOUNDARY_EVENT)])) X4 hx rfl rfl rfl (pc0 := 11) (pc' := 14) (same := false) rfl (hb hby d2_11) rfl (decide_eq_false fun q => ne5 (Value.ref.inj q)) (by decide) (by decide) k) ?_
  show OGot p.tables e below (T4.setTop (mkF m 14 #[.val (.ref w_MESSAGE_BOUNDARY_EVENT)] [])) _
  refine OGot.go (fun t k => XS.aloadN X4.here hx rfl (hb hby d2_14) rfl rfl k) ?_
  show OGot p.tables e below (T4.setTop (mkF m 15 #[.val (.ref w_MESSAGE_BOUNDARY_EVENT)] [(.ref w_MESSAGE_BOUNDARY_EVENT)])) _
  obtain ⟨T6, X6, e6, st6⟩ := getS2 X4 hx hZ hown (host := "") (Or.inl (ow hw 18 rfl)) Via.refl e4 (G.2.2.2.2.2.2.1.ext O0.2) (g := (mkF m 15 #[.val (.ref w_MESSAGE_BOUNDARY_EVENT)] [(.ref w_MESSAGE_BOUNDARY_EVENT)])) rfl (hb hby d2_15)
  refine OGot.go st6 ?_
  show OGot p.tables e below (T6.setTop (mkF m 18 #[.val (.ref w_MESSAGE_BOUNDARY_EVENT)] [(.ref w_MESSAGE_BOUNDARY_EVENT), (.ref w_MESSAGE_BOUNDARY_EVENT)])) _
  refine OGot.go (fun t k => Jvm.RoadKit.acmp (g := (mkF m 18 #[.val (.ref w_MESSAGE_BOUNDARY_EVENT)] [(.ref w_MESSAGE_BOUNDARY_EVENT), (.ref w_MESSAGE_BOUNDARY_EVENT)])) X6 hx rfl rfl rfl (pc0 := 18) (pc' := 21) (same := true) rfl (hb hby d2_18) rfl (decide_eq_true rfl) (by decide) (by decide) k) ?_
  show OGot p.tables e below (T6.setTop (mkF m 21 #[.val (.ref w_MESSAGE_BOUNDARY_EVENT)] [])) _
  refine OGot.go (fun t k => XS.iconst X6.here hx rfl (hb hby d2_21) k) ?_
  show OGot p.tables e below (T6.setTop (mkF m 22 #[.val (.ref w_MESSAGE_BOUNDARY_EVENT)] [(.int (1 : Int32))])) _
  refine OGot.go (fun t k => XS.goto X6.here hx rfl (pc0 := 22) (pc' := 26) rfl (hb hby d2_22) (by decide) (by decide) k) ?_
  show OGot p.tables e below (T6.setTop (mkF m 26 #[.val (.ref w_MESSAGE_BOUNDARY_EVENT)] [(.int (1 : Int32))])) _
  obtain ⟨fs, hr, hrun, hended, hW, hsame⟩ := X6.leave (v := some (.int (1 : Int32))) (fun h => by rw [Bd.returns] at h; cases h)
  refine ⟨_, _, retN X6 hx (t := .boolean) Bd.returns (by simp) (hb hby d2_26) hr, hrun, hended, _, _, rfl, ?_, ⟨_, rfl⟩, hW, hsame.mono (by decide) (by decide)⟩
  exact (⟨rfl, N0, e6⟩ : Q2_14 Z w_START_EVENT w_RECEPTION w_MESSAGE_START_EVENT w_MESSAGE_BOUNDARY_EVENT w_TERMINATE_END_EVENT w_LINK_THROW_EVENT w_BOUNDARY_EVENT w_LINK_CATCH_EVENT w_END_EVENT w_EVENT_BASED_GATEWAY w_INCLUSIVE_GATEWAY w_EXCLUSIVE_GATEWAY w_SUB_PROCESS w_ACTIVITY w_PARALLEL_GATEWAY  h0 n0 _ T6.heap _)
def Q0 (Z : State) (w_START_EVENT : Addr) (w_RECEPTION : Addr) (w_MESSAGE_START_EVENT : Addr) (w_MESSAGE_BOUNDARY_EVENT : Addr) (w_TERMINATE_END_EVENT : Addr) (w_LINK_THROW_EVENT : Addr) (w_BOUNDARY_EVENT : Addr) (w_LINK_CATCH_EVENT : Addr) (w_END_EVENT : Addr) (w_EVENT_BASED_GATEWAY : Addr) (w_INCLUSIVE_GATEWAY : Addr) (w_EXCLUSIVE_GATEWAY : Addr) (w_SUB_PROCESS : Addr) (w_ACTIVITY : Addr) (w_PARALLEL_GATEWAY : Addr) (p1 : Int32) (h0 : Heap) (n0 : Nat) (v : Option Value) (h : Heap) (L : List Loc) : Prop := v = some (.int (1 : Int32)) ∧ Fr n0 L
theorem ef0 (m : MethodId) (x0 : Int32) : entryFrame m #[(.int x0)] maxLocals = mkF m 0 #[.val (.int x0), .unset, .unset] [] := by first | (simp [entryFrame, mkF, argsToLocals, Value.category, maxLocals]; done) | rfl
set_option maxRecDepth 65536 in
set_option maxHeartbeats 40000000 in
theorem rm0 (l : Launch) (Z : State) (a0 : Array Value) (hw : ∀ d ∈ tables_1, d.before a0 Z = true) (ws : List Jvm.Cond) {w_START_EVENT : Addr} {w_RECEPTION : Addr} {w_MESSAGE_START_EVENT : Addr} {w_MESSAGE_BOUNDARY_EVENT : Addr} {w_TERMINATE_END_EVENT : Addr} {w_LINK_THROW_EVENT : Addr} {w_BOUNDARY_EVENT : Addr} {w_LINK_CATCH_EVENT : Addr} {w_END_EVENT : Addr} {w_EVENT_BASED_GATEWAY : Addr} {w_INCLUSIVE_GATEWAY : Addr} {w_EXCLUSIVE_GATEWAY : Addr} {w_SUB_PROCESS : Addr} {w_ACTIVITY : Addr} {w_PARALLEL_GATEWAY : Addr} (G : Glob Z w_START_EVENT w_RECEPTION w_MESSAGE_START_EVENT w_MESSAGE_BOUNDARY_EVENT w_TERMINATE_END_EVENT w_LINK_THROW_EVENT w_BOUNDARY_EVENT w_LINK_CATCH_EVENT w_END_EVENT w_EVENT_BASED_GATEWAY w_INCLUSIVE_GATEWAY w_EXCLUSIVE_GATEWAY w_SUB_PROCESS w_ACTIVITY w_PARALLEL_GATEWAY) (p1 : Int32) (h0 : Heap) (n0 : Nat) (O0 : Old Z n0 h0) :
    MetFree l x (head1 (Jvm.Cond.code x code maxLocals ret :: ws) room_1) (fun a U => a = #[(.int p1)] ∧ Z.Warmed39 U.vm ∧ U.heap = h0) (fun _ _ _ _ _ => True) (fun _ U o U' => ∃ v L, o = .returned v ∧ Q0 Z w_START_EVENT w_RECEPTION w_MESSAGE_START_EVENT w_MESSAGE_BOUNDARY_EVENT w_TERMINATE_END_EVENT w_LINK_THROW_EVENT w_BOUNDARY_EVENT w_LINK_CATCH_EVENT w_END_EVENT w_EVENT_BASED_GATEWAY w_INCLUSIVE_GATEWAY w_EXCLUSIVE_GATEWAY w_SUB_PROCESS w_ACTIVITY w_PARALLEL_GATEWAY p1 h0 n0 v U'.heap L ∧ FrameEnd U o U' L room_1.cells room_1.slots) := by
  refine MetFree.of_bodySF (plainFor_of_name pn_com_example_chorale_chorale_KindReceivesPinLaw) hisR ?_
  intro p e s m args below meth c s₁ Bd hml0 hP hK
  obtain ⟨rfl, hZ, hh⟩ := hP
  have hx := Bd.exec
  have hby := Bd.bytes
  have hml : c.maxLocals = 3 := hml0
  have hown : s.vm.findClass "com/example/chorale/chorale/KindReceivesPinLaw" = some m.cls := findClass_of_methodNamed Bd.named
  have hnm := (name_of_methodNamed Bd.named Bd.method).1
  have X0 : Stand p l e room_1 s m #[(.int p1)] below meth c s₁ [] 0 0 := Stand.of_body Bd
  have e0 : s₁.heap = h0 := by rw [← hh, Bd.state]; rfl
  have N0 := Fr.nil n0
  show OGot p.tables e below (s₁.setTop (entryFrame m #[(.int p1)] maxLocals)) _
  refine OGot.go (fun t k => castTop (ef0 m p1) k) ?_
  show OGot p.tables e below (s₁.setTop (mkF m 0 #[.val (.int p1), .unset, .unset] [])) _
  refine OGot.go (fun t k => XS.iloadN X0.here hx rfl (hb hby at_0) rfl k) ?_
  show OGot p.tables e below (s₁.setTop (mkF m 1 #[.val (.int p1), .unset, .unset] [(.int p1)])) _
  refine OGot.go (fun t k => X0.ldcInt hx hown (mvT hZ (ow hw 0 rfl)) (g := (mkF m 1 #[.val (.int p1), .unset, .unset] [(.int p1)])) rfl (hb hby at_1) _ k) ?_
  show OGot p.tables e below (s₁.setTop (mkF m 3 #[.val (.int p1), .unset, .unset] [(.int (2147483647 : Int32)), (.int p1)])) _
  refine OGot.go (fun t k => XS.iand X0.here hx rfl (hb hby at_3) rfl k) ?_
  show OGot p.tables e below (s₁.setTop (mkF m 4 #[.val (.int p1), .unset, .unset] [(.int (p1 &&& (2147483647 : Int32)))])) _
  refine OGot.go (fun t k => XS.bipush X0.here hx rfl (hb hby at_4) k) ?_
  show OGot p.tables e below (s₁.setTop (mkF m 6 #[.val (.int p1), .unset, .unset] [(.int (15 : Int32)), (.int (p1 &&& (2147483647 : Int32)))])) _
  refine OGot.go (fun t k => iremM X0 hx rfl (hb hby at_6) rfl (by decide) k) ?_
  show OGot p.tables e below (s₁.setTop (mkF m 7 #[.val (.int p1), .unset, .unset] [(.int ((p1 &&& (2147483647 : Int32)) % (15 : Int32)))])) _
  refine OGot.go (fun t k => XS.istoreN X0.here hx rfl (hb hby at_7) rfl (l' := #[.val (.int p1), .val (.int ((p1 &&& (2147483647 : Int32)) % (15 : Int32))), .unset]) rfl k) ?_
  show OGot p.tables e below (s₁.setTop (mkF m 8 #[.val (.int p1), .val (.int ((p1 &&& (2147483647 : Int32)) % (15 : Int32))), .unset] [])) _
  refine OGot.go (fun t k => XS.bipush X0.here hx rfl (hb hby at_8) k) ?_
  show OGot p.tables e below (s₁.setTop (mkF m 10 #[.val (.int p1), .val (.int ((p1 &&& (2147483647 : Int32)) % (15 : Int32))), .unset] [(.int (15 : Int32))])) _
  obtain ⟨T2, h2, k2, X2, e2, E2, A2, st2⟩ := newP X0 hx hZ (ow hw 1 rfl) e0 (g := (mkF m 10 #[.val (.int p1), .val (.int ((p1 &&& (2147483647 : Int32)) % (15 : Int32))), .unset] [(.int (15 : Int32))])) rfl (hb hby at_10) rfl (by decide) (cap := 15) (by decide) (by decide) (by decide) (by decide)
  obtain ⟨b2, g2⟩ : ∃ z, z = h0.size := ⟨_, rfl⟩
  rw [← g2] at A2 st2
  refine OGot.go st2 ?_
  have g_b2 : n0 ≤ b2 := Nat.le_trans (osz O0) (Nat.le_of_eq g2.symm)
  have sy_b2 : h0.size ≤ b2 := Nat.le_of_eq g2.symm
  have O2 := O0.ext E2
  have Va2 : Arv Z h2 b2 k2 .boolean (15 : Int32) [(.int (0 : Int32)), (.int (0 : Int32)), (.int (0 : Int32)), (.int (0 : Int32)), (.int (0 : Int32)), (.int (0 : Int32)), (.int (0 : Int32)), (.int (0 : Int32)), (.int (0 : Int32)), (.int (0 : Int32)), (.int (0 : Int32)), (.int (0 : Int32)), (.int (0 : Int32)), (.int (0 : Int32)), (.int (0 : Int32))] (.int (0 : Int32)) := (Arv.new A2 (by decide)).pad (pad_rep [] (.int (0 : Int32)) 15)
  show OGot p.tables e below (T2.setTop (mkF m 12 #[.val (.int p1), .val (.int ((p1 &&& (2147483647 : Int32)) % (15 : Int32))), .unset] [(.ref b2)])) _
  refine OGot.go (fun t k => XS.dup X2.here hx rfl (hb hby at_12) rfl rfl k) ?_
  show OGot p.tables e below (T2.setTop (mkF m 13 #[.val (.int p1), .val (.int ((p1 &&& (2147483647 : Int32)) % (15 : Int32))), .unset] [(.ref b2), (.ref b2)])) _
  refine OGot.go (fun t k => XS.iconst X2.here hx rfl (hb hby at_13) k) ?_
  show OGot p.tables e below (T2.setTop (mkF m 14 #[.val (.int p1), .val (.int ((p1 &&& (2147483647 : Int32)) % (15 : Int32))), .unset] [(.int (0 : Int32)), (.ref b2), (.ref b2)])) _
  refine OGot.go (fun t k => XS.iconst X2.here hx rfl (hb hby at_14) k) ?_
  show OGot p.tables e below (T2.setTop (mkF m 15 #[.val (.int p1), .val (.int ((p1 &&& (2147483647 : Int32)) % (15 : Int32))), .unset] [(.int (0 : Int32)), (.int (0 : Int32)), (.ref b2), (.ref b2)])) _
  obtain ⟨cl3, Ar3, qc3, Sz3, Ng3, Hh3, Gg3⟩ := Va2
  have hin3 : ¬ ((0 : Int32) < 0 ∨ cl3.slots.size ≤ ((0 : Int32)).toNatClampNeg) := inb_of Sz3 ⟨by decide, by decide⟩
  obtain ⟨T3, h3, X3, e3, W3, st3⟩ := stZ X2 hx hZ e2 Ar3 (j := (0 : Int32)) hin3 (g := (mkF m 15 #[.val (.int p1), .val (.int ((p1 &&& (2147483647 : Int32)) % (15 : Int32))), .unset] [(.int (0 : Int32)), (.int (0 : Int32)), (.ref b2), (.ref b2)])) rfl rfl (hb hby at_15)
  refine OGot.go st3 ?_
  have N3 := Fr.snoc X3 N0 g_b2
  have O3 := O2.wr W3 g_b2
  have Va3 : Arv Z h3 b2 k2 .boolean (15 : Int32) [(.int (0 : Int32)), (.int (0 : Int32)), (.int (0 : Int32)), (.int (0 : Int32)), (.int (0 : Int32)), (.int (0 : Int32)), (.int (0 : Int32)), (.int (0 : Int32)), (.int (0 : Int32)), (.int (0 : Int32)), (.int (0 : Int32)), (.int (0 : Int32)), (.int (0 : Int32)), (.int (0 : Int32)), (.int (0 : Int32))] (.int (0 : Int32)) := Arv.set Ar3 qc3 Sz3 Ng3 Hh3 Gg3 (fits_nar_bool (0 : Int32)) W3 0 rfl (Nat.le_of_ble_eq_true rfl)
  show OGot p.tables e below (T3.setTop (mkF m 16 #[.val (.int p1), .val (.int ((p1 &&& (2147483647 : Int32)) % (15 : Int32))), .unset] [(.ref b2)])) _
  refine OGot.go (fun t k => XS.dup X3.here hx rfl (hb hby at_16) rfl rfl k) ?_
  show OGot p.tables e below (T3.setTop (mkF m 17 #[.val (.int p1), .val (.int ((p1 &&& (2147483647 : Int32)) % (15 : Int32))), .unset] [(.ref b2), (.ref b2)])) _
  refine OGot.go (fun t k => XS.iconst X3.here hx rfl (hb hby at_17) k) ?_
  show OGot p.tables e below (T3.setTop (mkF m 18 #[.val (.int p1), .val (.int ((p1 &&& (2147483647 : Int32)) % (15 : Int32))), .unset] [(.int (1 : Int32)), (.ref b2), (.ref b2)])) _
  refine OGot.go (fun t k => XS.iconst X3.here hx rfl (hb hby at_18) k) ?_
  show OGot p.tables e below (T3.setTop (mkF m 19 #[.val (.int p1), .val (.int ((p1 &&& (2147483647 : Int32)) % (15 : Int32))), .unset] [(.int (1 : Int32)), (.int (1 : Int32)), (.ref b2), (.ref b2)])) _
  obtain ⟨cl4, Ar4, qc4, Sz4, Ng4, Hh4, Gg4⟩ := Va3
  have hin4 : ¬ ((1 : Int32) < 0 ∨ cl4.slots.size ≤ ((1 : Int32)).toNatClampNeg) := inb_of Sz4 ⟨by decide, by decide⟩
  obtain ⟨T4, h4, X4, e4, W4, st4⟩ := stZ X3 hx hZ e3 Ar4 (j := (1 : Int32)) hin4 (g := (mkF m 19 #[.val (.int p1), .val (.int ((p1 &&& (2147483647 : Int32)) % (15 : Int32))), .unset] [(.int (1 : Int32)), (.int (1 : Int32)), (.ref b2), (.ref b2)])) rfl rfl (hb hby at_19)
  refine OGot.go st4 ?_
  have N4 := Fr.snoc X4 N3 g_b2
  have O4 := O3.wr W4 g_b2
  have Va4 : Arv Z h4 b2 k2 .boolean (15 : Int32) [(.int (0 : Int32)), (.int (1 : Int32)), (.int (0 : Int32)), (.int (0 : Int32)), (.int (0 : Int32)), (.int (0 : Int32)), (.int (0 : Int32)), (.int (0 : Int32)), (.int (0 : Int32)), (.int (0 : Int32)), (.int (0 : Int32)), (.int (0 : Int32)), (.int (0 : Int32)), (.int (0 : Int32)), (.int (0 : Int32))] (.int (0 : Int32)) := Arv.set Ar4 qc4 Sz4 Ng4 Hh4 Gg4 (fits_nar_bool (1 : Int32)) W4 1 rfl (Nat.le_of_ble_eq_true rfl)
  show OGot p.tables e below (T4.setTop (mkF m 20 #[.val (.int p1), .val (.int ((p1 &&& (2147483647 : Int32)) % (15 : Int32))), .unset] [(.ref b2)])) _
  refine OGot.go (fun t k => XS.dup X4.here hx rfl (hb hby at_20) rfl rfl k) ?_
  show OGot p.tables e below (T4.setTop (mkF m 21 #[.val (.int p1), .val (.int ((p1 &&& (2147483647 : Int32)) % (15 : Int32))), .unset] [(.ref b2), (.ref b2)])) _
  refine OGot.go (fun t k => XS.iconst X4.here hx rfl (hb hby at_21) k) ?_
  show OGot p.tables e below (T4.setTop (mkF m 22 #[.val (.int p1), .val (.int ((p1 &&& (2147483647 : Int32)) % (15 : Int32))), .unset] [(.int (2 : Int32)), (.ref b2), (.ref b2)])) _
  refine OGot.go (fun t k => XS.iconst X4.here hx rfl (hb hby at_22) k) ?_
  show OGot p.tables e below (T4.setTop (mkF m 23 #[.val (.int p1), .val (.int ((p1 &&& (2147483647 : Int32)) % (15 : Int32))), .unset] [(.int (0 : Int32)), (.int (2 : Int32)), (.ref b2), (.ref b2)])) _
  obtain ⟨cl5, Ar5, qc5, Sz5, Ng5, Hh5, Gg5⟩ := Va4
  have hin5 : ¬ ((2 : Int32) < 0 ∨ cl5.slots.size ≤ ((2 : Int32)).toNatClampNeg) := inb_of Sz5 ⟨by decide, by decide⟩
  obtain ⟨T5, h5, X5, e5, W5, st5⟩ := stZ X4 hx hZ e4 Ar5 (j := (2 : Int32)) hin5 (g := (mkF m 23 #[.val (.int p1), .val (.int ((p1 &&& (2147483647 : Int32)) % (15 : Int32))), .unset] [(.int (0 : Int32)), (.int (2 : Int32)), (.ref b2), (.ref b2)])) rfl rfl (hb hby at_23)
  refine OGot.go st5 ?_
  have N5 := Fr.snoc X5 N4 g_b2
  have O5 := O4.wr W5 g_b2
  have Va5 : Arv Z h5 b2 k2 .boolean (15 : Int32) [(.int (0 : Int32)), (.int (1 : Int32)), (.int (0 : Int32)), (.int (0 : Int32)), (.int (0 : Int32)), (.int (0 : Int32)), (.int (0 : Int32)), (.int (0 : Int32)), (.int (0 : Int32)), (.int (0 : Int32)), (.int (0 : Int32)), (.int (0 : Int32)), (.int (0 : Int32)), (.int (0 : Int32)), (.int (0 : Int32))] (.int (0 : Int32)) := Arv.set Ar5 qc5 Sz5 Ng5 Hh5 Gg5 (fits_nar_bool (0 : Int32)) W5 2 rfl (Nat.le_of_ble_eq_true rfl)
  show OGot p.tables e below (T5.setTop (mkF m 24 #[.val (.int p1), .val (.int ((p1 &&& (2147483647 : Int32)) % (15 : Int32))), .unset] [(.ref b2)])) _
  refine OGot.go (fun t k => XS.dup X5.here hx rfl (hb hby at_24) rfl rfl k) ?_
  show OGot p.tables e below (T5.setTop (mkF m 25 #[.val (.int p1), .val (.int ((p1 &&& (2147483647 : Int32)) % (15 : Int32))), .unset] [(.ref b2), (.ref b2)])) _
  refine OGot.go (fun t k => XS.iconst X5.here hx rfl (hb hby at_25) k) ?_
  show OGot p.tables e below (T5.setTop (mkF m 26 #[.val (.int p1), .val (.int ((p1 &&& (2147483647 : Int32)) % (15 : Int32))), .unset] [(.int (3 : Int32)), (.ref b2), (.ref b2)])) _
  refine OGot.go (fun t k => XS.iconst X5.here hx rfl (hb hby at_26) k) ?_
  show OGot p.tables e below (T5.setTop (mkF m 27 #[.val (.int p1), .val (.int ((p1 &&& (2147483647 : Int32)) % (15 : Int32))), .unset] [(.int (0 : Int32)), (.int (3 : Int32)), (.ref b2), (.ref b2)])) _
  obtain ⟨cl6, Ar6, qc6, Sz6, Ng6, Hh6, Gg6⟩ := Va5
  have hin6 : ¬ ((3 : Int32) < 0 ∨ cl6.slots.size ≤ ((3 : Int32)).toNatClampNeg) := inb_of Sz6 ⟨by decide, by decide⟩
  obtain ⟨T6, h6, X6, e6, W6, st6⟩ := stZ X5 hx hZ e5 Ar6 (j := (3 : Int32)) hin6 (g := (mkF m 27 #[.val (.int p1), .val (.int ((p1 &&& (2147483647 : Int32)) % (15 : Int32))), .unset] [(.int (0 : Int32)), (.int (3 : Int32)), (.ref b2), (.ref b2)])) rfl rfl (hb hby at_27)
  refine OGot.go st6 ?_
  have N6 := Fr.snoc X6 N5 g_b2
  have O6 := O5.wr W6 g_b2
  have Va6 : Arv Z h6 b2 k2 .boolean (15 : Int32) [(.int (0 : Int32)), (.int (1 : Int32)), (.int (0 : Int32)), (.int (0 : Int32)), (.int (0 : Int32)), (.int (0 : Int32)), (.int (0 : Int32)), (.int (0 : Int32)), (.int (0 : Int32)), (.int (0 : Int32)), (.int (0 : Int32)), (.int (0 : Int32)), (.int (0 : Int32)), (.int (0 : Int32)), (.int (0 : Int32))] (.int (0 : Int32)) := Arv.set Ar6 qc6 Sz6 Ng6 Hh6 Gg6 (fits_nar_bool (0 : Int32)) W6 3 rfl (Nat.le_of_ble_eq_true rfl)
  show OGot p.tables e below (T6.setTop (mkF m 28 #[.val (.int p1), .val (.int ((p1 &&& (2147483647 : Int32)) % (15 : Int32))), .unset] [(.ref b2)])) _
  refine OGot.go (fun t k => XS.dup X6.here hx rfl (hb hby at_28) rfl rfl k) ?_
  show OGot p.tables e below (T6.setTop (mkF m 29 #[.val (.int p1), .val (.int ((p1 &&& (2147483647 : Int32)) % (15 : Int32))), .unset] [(.ref b2), (.ref b2)])) _
  refine OGot.go (fun t k => XS.iconst X6.here hx rfl (hb hby at_29) k) ?_
  show OGot p.tables e below (T6.setTop (mkF m 30 #[.val (.int p1), .val (.int ((p1 &&& (2147483647 : Int32)) % (15 : Int32))), .unset] [(.int (4 : Int32)), (.ref b2), (.ref b2)])) _
  refine OGot.go (fun t k => XS.iconst X6.here hx rfl (hb hby at_30) k) ?_
  show OGot p.tables e below (T6.setTop (mkF m 31 #[.val (.int p1), .val (.int ((p1 &&& (2147483647 : Int32)) % (15 : Int32))), .unset] [(.int (0 : Int32)), (.int (4 : Int32)), (.ref b2), (.ref b2)])) _
  obtain ⟨cl7, Ar7, qc7, Sz7, Ng7, Hh7, Gg7⟩ := Va6
  have hin7 : ¬ ((4 : Int32) < 0 ∨ cl7.slots.size ≤ ((4 : Int32)).toNatClampNeg) := inb_of Sz7 ⟨by decide, by decide⟩
  obtain ⟨T7, h7, X7, e7, W7, st7⟩ := stZ X6 hx hZ e6 Ar7 (j := (4 : Int32)) hin7 (g := (mkF m 31 #[.val (.int p1), .val (.int ((p1 &&& (2147483647 : Int32)) % (15 : Int32))), .unset] [(.int (0 : Int32)), (.int (4 : Int32)), (.ref b2), (.ref b2)])) rfl rfl (hb hby at_31)
  refine OGot.go st7 ?_
  have N7 := Fr.snoc X7 N6 g_b2
  have O7 := O6.wr W7 g_b2
  have Va7 : Arv Z h7 b2 k2 .boolean (15 : Int32) [(.int (0 : Int32)), (.int (1 : Int32)), (.int (0 : Int32)), (.int (0 : Int32)), (.int (0 : Int32)), (.int (0 : Int32)), (.int (0 : Int32)), (.int (0 : Int32)), (.int (0 : Int32)), (.int (0 : Int32)), (.int (0 : Int32)), (.int (0 : Int32)), (.int (0 : Int32)), (.int (0 : Int32)), (.int (0 : Int32))] (.int (0 : Int32)) := Arv.set Ar7 qc7 Sz7 Ng7 Hh7 Gg7 (fits_nar_bool (0 : Int32)) W7 4 rfl (Nat.le_of_ble_eq_true rfl)
  show OGot p.tables e below (T7.setTop (mkF m 32 #[.val (.int p1), .val (.int ((p1 &&& (2147483647 : Int32)) % (15 : Int32))), .unset] [(.ref b2)])) _
  refine OGot.go (fun t k => XS.dup X7.here hx rfl (hb hby at_32) rfl rfl k) ?_
  show OGot p.tables e below (T7.setTop (mkF m 33 #[.val (.int p1), .val (.int ((p1 &&& (2147483647 : Int32)) % (15 : Int32))), .unset] [(.ref b2), (.ref b2)])) _
  refine OGot.go (fun t k => XS.iconst X7.here hx rfl (hb hby at_33) k) ?_
  show OGot p.tables e below (T7.setTop (mkF m 34 #[.val (.int p1), .val (.int ((p1 &&& (2147483647 : Int32)) % (15 : Int32))), .unset] [(.int (5 : Int32)), (.ref b2), (.ref b2)])) _
  refine OGot.go (fun t k => XS.iconst X7.here hx rfl (hb hby at_34) k) ?_
  show OGot p.tables e below (T7.setTop (mkF m 35 #[.val (.int p1), .val (.int ((p1 &&& (2147483647 : Int32)) % (15 : Int32))), .unset] [(.int (0 : Int32)), (.int (5 : Int32)), (.ref b2), (.ref b2)])) _
  obtain ⟨cl8, Ar8, qc8, Sz8, Ng8, Hh8, Gg8⟩ := Va7
  have hin8 : ¬ ((5 : Int32) < 0 ∨ cl8.slots.size ≤ ((5 : Int32)).toNatClampNeg) := inb_of Sz8 ⟨by decide, by decide⟩
  obtain ⟨T8, h8, X8, e8, W8, st8⟩ := stZ X7 hx hZ e7 Ar8 (j := (5 : Int32)) hin8 (g := (mkF m 35 #[.val (.int p1), .val (.int ((p1 &&& (2147483647 : Int32)) % (15 : Int32))), .unset] [(.int (0 : Int32)), (.int (5 : Int32)), (.ref b2), (.ref b2)])) rfl rfl (hb hby at_35)
  refine OGot.go st8 ?_
  have N8 := Fr.snoc X8 N7 g_b2
  have O8 := O7.wr W8 g_b2
  have Va8 : Arv Z h8 b2 k2 .boolean (15 : Int32) [(.int (0 : Int32)), (.int (1 : Int32)), (.int (0 : Int32)), (.int (0 : Int32)), (.int (0 : Int32)), (.int (0 : Int32)), (.int (0 : Int32)), (.int (0 : Int32)), (.int (0 : Int32)), (.int (0 : Int32)), (.int (0 : Int32)), (.int (0 : Int32)), (.int (0 : Int32)), (.int (0 : Int32)), (.int (0 : Int32))] (.int (0 : Int32)) := Arv.set Ar8 qc8 Sz8 Ng8 Hh8 Gg8 (fits_nar_bool (0 : Int32)) W8 5 rfl (Nat.le_of_ble_eq_true rfl)
  show OGot p.tables e below (T8.setTop (mkF m 36 #[.val (.int p1), .val (.int ((p1 &&& (2147483647 : Int32)) % (15 : Int32))), .unset] [(.ref b2)])) _
  refine OGot.go (fun t k => XS.dup X8.here hx rfl (hb hby at_36) rfl rfl k) ?_
  show OGot p.tables e below (T8.setTop (mkF m 37 #[.val (.int p1), .val (.int ((p1 &&& (2147483647 : Int32)) % (15 : Int32))), .unset] [(.ref b2), (.ref b2)])) _
  refine OGot.go (fun t k => XS.bipush X8.here hx rfl (hb hby at_37) k) ?_
  show OGot p.tables e below (T8.setTop (mkF m 39 #[.val (.int p1), .val (.int ((p1 &&& (2147483647 : Int32)) % (15 : Int32))), .unset] [(.int (6 : Int32)), (.ref b2), (.ref b2)])) _
  refine OGot.go (fun t k => XS.iconst X8.here hx rfl (hb hby at_39) k) ?_
  show OGot p.tables e below (T8.setTop (mkF m 40 #[.val (.int p1), .val (.int ((p1 &&& (2147483647 : Int32)) % (15 : Int32))), .unset] [(.int (0 : Int32)), (.int (6 : Int32)), (.ref b2), (.ref b2)])) _
  obtain ⟨cl9, Ar9, qc9, Sz9, Ng9, Hh9, Gg9⟩ := Va8
  have hin9 : ¬ ((6 : Int32) < 0 ∨ cl9.slots.size ≤ ((6 : Int32)).toNatClampNeg) := inb_of Sz9 ⟨by decide, by decide⟩
  obtain ⟨T9, h9, X9, e9, W9, st9⟩ := stZ X8 hx hZ e8 Ar9 (j := (6 : Int32)) hin9 (g := (mkF m 40 #[.val (.int p1), .val (.int ((p1 &&& (2147483647 : Int32)) % (15 : Int32))), .unset] [(.int (0 : Int32)), (.int (6 : Int32)), (.ref b2), (.ref b2)])) rfl rfl (hb hby at_40)
  refine OGot.go st9 ?_
  have N9 := Fr.snoc X9 N8 g_b2
  have O9 := O8.wr W9 g_b2
  have Va9 : Arv Z h9 b2 k2 .boolean (15 : Int32) [(.int (0 : Int32)), (.int (1 : Int32)), (.int (0 : Int32)), (.int (0 : Int32)), (.int (0 : Int32)), (.int (0 : Int32)), (.int (0 : Int32)), (.int (0 : Int32)), (.int (0 : Int32)), (.int (0 : Int32)), (.int (0 : Int32)), (.int (0 : Int32)), (.int (0 : Int32)), (.int (0 : Int32)), (.int (0 : Int32))] (.int (0 : Int32)) := Arv.set Ar9 qc9 Sz9 Ng9 Hh9 Gg9 (fits_nar_bool (0 : Int32)) W9 6 rfl (Nat.le_of_ble_eq_true rfl)
  show OGot p.tables e below (T9.setTop (mkF m 41 #[.val (.int p1), .val (.int ((p1 &&& (2147483647 : Int32)) % (15 : Int32))), .unset] [(.ref b2)])) _
  refine OGot.go (fun t k => XS.dup X9.here hx rfl (hb hby at_41) rfl rfl k) ?_
  show OGot p.tables e below (T9.setTop (mkF m 42 #[.val (.int p1), .val (.int ((p1 &&& (2147483647 : Int32)) % (15 : Int32))), .unset] [(.ref b2), (.ref b2)])) _
  refine OGot.go (fun t k => XS.bipush X9.here hx rfl (hb hby at_42) k) ?_
  show OGot p.tables e below (T9.setTop (mkF m 44 #[.val (.int p1), .val (.int ((p1 &&& (2147483647 : Int32)) % (15 : Int32))), .unset] [(.int (7 : Int32)), (.ref b2), (.ref b2)])) _
  refine OGot.go (fun t k => XS.iconst X9.here hx rfl (hb hby at_44) k) ?_
  show OGot p.tables e below (T9.setTop (mkF m 45 #[.val (.int p1), .val (.int ((p1 &&& (2147483647 : Int32)) % (15 : Int32))), .unset] [(.int (1 : Int32)), (.int (7 : Int32)), (.ref b2), (.ref b2)])) _
  obtain ⟨cl10, Ar10, qc10, Sz10, Ng10, Hh10, Gg10⟩ := Va9
  have hin10 : ¬ ((7 : Int32) < 0 ∨ cl10.slots.size ≤ ((7 : Int32)).toNatClampNeg) := inb_of Sz10 ⟨by decide, by decide⟩
  obtain ⟨T10, h10, X10, e10, W10, st10⟩ := stZ X9 hx hZ e9 Ar10 (j := (7 : Int32)) hin10 (g := (mkF m 45 #[.val (.int p1), .val (.int ((p1 &&& (2147483647 : Int32)) % (15 : Int32))), .unset] [(.int (1 : Int32)), (.int (7 : Int32)), (.ref b2), (.ref b2)])) rfl rfl (hb hby at_45)
  refine OGot.go st10 ?_
  have N10 := Fr.snoc X10 N9 g_b2
  have O10 := O9.wr W10 g_b2
  have Va10 : Arv Z h10 b2 k2 .boolean (15 : Int32) [(.int (0 : Int32)), (.int (1 : Int32)), (.int (0 : Int32)), (.int (0 : Int32)), (.int (0 : Int32)), (.int (0 : Int32)), (.int (0 : Int32)), (.int (1 : Int32)), (.int (0 : Int32)), (.int (0 : Int32)), (.int (0 : Int32)), (.int (0 : Int32)), (.int (0 : Int32)), (.int (0 : Int32)), (.int (0 : Int32))] (.int (0 : Int32)) := Arv.set Ar10 qc10 Sz10 Ng10 Hh10 Gg10 (fits_nar_bool (1 : Int32)) W10 7 rfl (Nat.le_of_ble_eq_true rfl)
  show OGot p.tables e below (T10.setTop (mkF m 46 #[.val (.int p1), .val (.int ((p1 &&& (2147483647 : Int32)) % (15 : Int32))), .unset] [(.ref b2)])) _
  refine OGot.go (fun t k => XS.dup X10.here hx rfl (hb hby at_46) rfl rfl k) ?_
  show OGot p.tables e below (T10.setTop (mkF m 47 #[.val (.int p1), .val (.int ((p1 &&& (2147483647 : Int32)) % (15 : Int32))), .unset] [(.ref b2), (.ref b2)])) _
  refine OGot.go (fun t k => XS.bipush X10.here hx rfl (hb hby at_47) k) ?_
  show OGot p.tables e below (T10.setTop (mkF m 49 #[.val (.int p1), .val (.int ((p1 &&& (2147483647 : Int32)) % (15 : Int32))), .unset] [(.int (8 : Int32)), (.ref b2), (.ref b2)])) _
  refine OGot.go (fun t k => XS.iconst X10.here hx rfl (hb hby at_49) k) ?_
  show OGot p.tables e below (T10.setTop (mkF m 50 #[.val (.int p1), .val (.int ((p1 &&& (2147483647 : Int32)) % (15 : Int32))), .unset] [(.int (0 : Int32)), (.int (8 : Int32)), (.ref b2), (.ref b2)])) _
  obtain ⟨cl11, Ar11, qc11, Sz11, Ng11, Hh11, Gg11⟩ := Va10
  have hin11 : ¬ ((8 : Int32) < 0 ∨ cl11.slots.size ≤ ((8 : Int32)).toNatClampNeg) := inb_of Sz11 ⟨by decide, by decide⟩
  obtain ⟨T11, h11, X11, e11, W11, st11⟩ := stZ X10 hx hZ e10 Ar11 (j := (8 : Int32)) hin11 (g := (mkF m 50 #[.val (.int p1), .val (.int ((p1 &&& (2147483647 : Int32)) % (15 : Int32))), .unset] [(.int (0 : Int32)), (.int (8 : Int32)), (.ref b2), (.ref b2)])) rfl rfl (hb hby at_50)
  refine OGot.go st11 ?_
  have N11 := Fr.snoc X11 N10 g_b2
  have O11 := O10.wr W11 g_b2
  have Va11 : Arv Z h11 b2 k2 .boolean (15 : Int32) [(.int (0 : Int32)), (.int (1 : Int32)), (.int (0 : Int32)), (.int (0 : Int32)), (.int (0 : Int32)), (.int (0 : Int32)), (.int (0 : Int32)), (.int (1 : Int32)), (.int (0 : Int32)), (.int (0 : Int32)), (.int (0 : Int32)), (.int (0 : Int32)), (.int (0 : Int32)), (.int (0 : Int32)), (.int (0 : Int32))] (.int (0 : Int32)) := Arv.set Ar11 qc11 Sz11 Ng11 Hh11 Gg11 (fits_nar_bool (0 : Int32)) W11 8 rfl (Nat.le_of_ble_eq_true rfl)
  show OGot p.tables e below (T11.setTop (mkF m 51 #[.val (.int p1), .val (.int ((p1 &&& (2147483647 : Int32)) % (15 : Int32))), .unset] [(.ref b2)])) _
  refine OGot.go (fun t k => XS.dup X11.here hx rfl (hb hby at_51) rfl rfl k) ?_
  show OGot p.tables e below (T11.setTop (mkF m 52 #[.val (.int p1), .val (.int ((p1 &&& (2147483647 : Int32)) % (15 : Int32))), .unset] [(.ref b2), (.ref b2)])) _
  refine OGot.go (fun t k => XS.bipush X11.here hx rfl (hb hby at_52) k) ?_
  show OGot p.tables e below (T11.setTop (mkF m 54 #[.val (.int p1), .val (.int ((p1 &&& (2147483647 : Int32)) % (15 : Int32))), .unset] [(.int (9 : Int32)), (.ref b2), (.ref b2)])) _
  refine OGot.go (fun t k => XS.iconst X11.here hx rfl (hb hby at_54) k) ?_
  show OGot p.tables e below (T11.setTop (mkF m 55 #[.val (.int p1), .val (.int ((p1 &&& (2147483647 : Int32)) % (15 : Int32))), .unset] [(.int (0 : Int32)), (.int (9 : Int32)), (.ref b2), (.ref b2)])) _
  obtain ⟨cl12, Ar12, qc12, Sz12, Ng12, Hh12, Gg12⟩ := Va11
  have hin12 : ¬ ((9 : Int32) < 0 ∨ cl12.slots.size ≤ ((9 : Int32)).toNatClampNeg) := inb_of Sz12 ⟨by decide, by decide⟩
  obtain ⟨T12, h12, X12, e12, W12, st12⟩ := stZ X11 hx hZ e11 Ar12 (j := (9 : Int32)) hin12 (g := (mkF m 55 #[.val (.int p1), .val (.int ((p1 &&& (2147483647 : Int32)) % (15 : Int32))), .unset] [(.int (0 : Int32)), (.int (9 : Int32)), (.ref b2), (.ref b2)])) rfl rfl (hb hby at_55)
  refine OGot.go st12 ?_
  have N12 := Fr.snoc X12 N11 g_b2
  have O12 := O11.wr W12 g_b2
  have Va12 : Arv Z h12 b2 k2 .boolean (15 : Int32) [(.int (0 : Int32)), (.int (1 : Int32)), (.int (0 : Int32)), (.int (0 : Int32)), (.int (0 : Int32)), (.int (0 : Int32)), (.int (0 : Int32)), (.int (1 : Int32)), (.int (0 : Int32)), (.int (0 : Int32)), (.int (0 : Int32)), (.int (0 : Int32)), (.int (0 : Int32)), (.int (0 : Int32)), (.int (0 : Int32))] (.int (0 : Int32)) := Arv.set Ar12 qc12 Sz12 Ng12 Hh12 Gg12 (fits_nar_bool (0 : Int32)) W12 9 rfl (Nat.le_of_ble_eq_true rfl)
  show OGot p.tables e below (T12.setTop (mkF m 56 #[.val (.int p1), .val (.int ((p1 &&& (2147483647 : Int32)) % (15 : Int32))), .unset] [(.ref b2)])) _
  refine OGot.go (fun t k => XS.dup X12.here hx rfl (hb hby at_56) rfl rfl k) ?_
  show OGot p.tables e below (T12.setTop (mkF m 57 #[.val (.int p1), .val (.int ((p1 &&& (2147483647 : Int32)) % (15 : Int32))), .unset] [(.ref b2), (.ref b2)])) _
  refine OGot.go (fun t k => XS.bipush X12.here hx rfl (hb hby at_57) k) ?_
  show OGot p.tables e below (T12.setTop (mkF m 59 #[.val (.int p1), .val (.int ((p1 &&& (2147483647 : Int32)) % (15 : Int32))), .unset] [(.int (10 : Int32)), (.ref b2), (.ref b2)])) _
  refine OGot.go (fun t k => XS.iconst X12.here hx rfl (hb hby at_59) k) ?_
  show OGot p.tables e below (T12.setTop (mkF m 60 #[.val (.int p1), .val (.int ((p1 &&& (2147483647 : Int32)) % (15 : Int32))), .unset] [(.int (0 : Int32)), (.int (10 : Int32)), (.ref b2), (.ref b2)])) _
  obtain ⟨cl13, Ar13, qc13, Sz13, Ng13, Hh13, Gg13⟩ := Va12
  have hin13 : ¬ ((10 : Int32) < 0 ∨ cl13.slots.size ≤ ((10 : Int32)).toNatClampNeg) := inb_of Sz13 ⟨by decide, by decide⟩
  obtain ⟨T13, h13, X13, e13, W13, st13⟩ := stZ X12 hx hZ e12 Ar13 (j := (10 : Int32)) hin13 (g := (mkF m 60 #[.val (.int p1), .val (.int ((p1 &&& (2147483647 : Int32)) % (15 : Int32))), .unset] [(.int (0 : Int32)), (.int (10 : Int32)), (.ref b2), (.ref b2)])) rfl rfl (hb hby at_60)
  refine OGot.go st13 ?_
  have N13 := Fr.snoc X13 N12 g_b2
  have O13 := O12.wr W13 g_b2
  have Va13 : Arv Z h13 b2 k2 .boolean (15 : Int32) [(.int (0 : Int32)), (.int (1 : Int32)), (.int (0 : Int32)), (.int (0 : Int32)), (.int (0 : Int32)), (.int (0 : Int32)), (.int (0 : Int32)), (.int (1 : Int32)), (.int (0 : Int32)), (.int (0 : Int32)), (.int (0 : Int32)), (.int (0 : Int32)), (.int (0 : Int32)), (.int (0 : Int32)), (.int (0 : Int32))] (.int (0 : Int32)) := Arv.set Ar13 qc13 Sz13 Ng13 Hh13 Gg13 (fits_nar_bool (0 : Int32)) W13 10 rfl (Nat.le_of_ble_eq_true rfl)
  show OGot p.tables e below (T13.setTop (mkF m 61 #[.val (.int p1), .val (.int ((p1 &&& (2147483647 : Int32)) % (15 : Int32))), .unset] [(.ref b2)])) _
  refine OGot.go (fun t k => XS.dup X13.here hx rfl (hb hby at_61) rfl rfl k) ?_
  show OGot p.tables e below (T13.setTop (mkF m 62 #[.val (.int p1), .val (.int ((p1 &&& (2147483647 : Int32)) % (15 : Int32))), .unset] [(.ref b2), (.ref b2)])) _
  refine OGot.go (fun t k => XS.bipush X13.here hx rfl (hb hby at_62) k) ?_
  show OGot p.tables e below (T13.setTop (mkF m 64 #[.val (.int p1), .val (.int ((p1 &&& (2147483647 : Int32)) % (15 : Int32))), .unset] [(.int (11 : Int32)), (.ref b2), (.ref b2)])) _
  refine OGot.go (fun t k => XS.iconst X13.here hx rfl (hb hby at_64) k) ?_
  show OGot p.tables e below (T13.setTop (mkF m 65 #[.val (.int p1), .val (.int ((p1 &&& (2147483647 : Int32)) % (15 : Int32))), .unset] [(.int (0 : Int32)), (.int (11 : Int32)), (.ref b2), (.ref b2)])) _
  obtain ⟨cl14, Ar14, qc14, Sz14, Ng14, Hh14, Gg14⟩ := Va13
  have hin14 : ¬ ((11 : Int32) < 0 ∨ cl14.slots.size ≤ ((11 : Int32)).toNatClampNeg) := inb_of Sz14 ⟨by decide, by decide⟩
  obtain ⟨T14, h14, X14, e14, W14, st14⟩ := stZ X13 hx hZ e13 Ar14 (j := (11 : Int32)) hin14 (g := (mkF m 65 #[.val (.int p1), .val (.int ((p1 &&& (2147483647 : Int32)) % (15 : Int32))), .unset] [(.int (0 : Int32)), (.int (11 : Int32)), (.ref b2), (.ref b2)])) rfl rfl (hb hby at_65)
  refine OGot.go st14 ?_
  have N14 := Fr.snoc X14 N13 g_b2
  have O14 := O13.wr W14 g_b2
  have Va14 : Arv Z h14 b2 k2 .boolean (15 : Int32) [(.int (0 : Int32)), (.int (1 : Int32)), (.int (0 : Int32)), (.int (0 : Int32)), (.int (0 : Int32)), (.int (0 : Int32)), (.int (0 : Int32)), (.int (1 : Int32)), (.int (0 : Int32)), (.int (0 : Int32)), (.int (0 : Int32)), (.int (0 : Int32)), (.int (0 : Int32)), (.int (0 : Int32)), (.int (0 : Int32))] (.int (0 : Int32)) := Arv.set Ar14 qc14 Sz14 Ng14 Hh14 Gg14 (fits_nar_bool (0 : Int32)) W14 11 rfl (Nat.le_of_ble_eq_true rfl)
  show OGot p.tables e below (T14.setTop (mkF m 66 #[.val (.int p1), .val (.int ((p1 &&& (2147483647 : Int32)) % (15 : Int32))), .unset] [(.ref b2)])) _
  refine OGot.go (fun t k => XS.dup X14.here hx rfl (hb hby at_66) rfl rfl k) ?_
  show OGot p.tables e below (T14.setTop (mkF m 67 #[.val (.int p1), .val (.int ((p1 &&& (2147483647 : Int32)) % (15 : Int32))), .unset] [(.ref b2), (.ref b2)])) _
  refine OGot.go (fun t k => XS.bipush X14.here hx rfl (hb hby at_67) k) ?_
  show OGot p.tables e below (T14.setTop (mkF m 69 #[.val (.int p1), .val (.int ((p1 &&& (2147483647 : Int32)) % (15 : Int32))), .unset] [(.int (12 : Int32)), (.ref b2), (.ref b2)])) _
  refine OGot.go (fun t k => XS.iconst X14.here hx rfl (hb hby at_69) k) ?_
  show OGot p.tables e below (T14.setTop (mkF m 70 #[.val (.int p1), .val (.int ((p1 &&& (2147483647 : Int32)) % (15 : Int32))), .unset] [(.int (0 : Int32)), (.int (12 : Int32)), (.ref b2), (.ref b2)])) _
  obtain ⟨cl15, Ar15, qc15, Sz15, Ng15, Hh15, Gg15⟩ := Va14
  have hin15 : ¬ ((12 : Int32) < 0 ∨ cl15.slots.size ≤ ((12 : Int32)).toNatClampNeg) := inb_of Sz15 ⟨by decide, by decide⟩
  obtain ⟨T15, h15, X15, e15, W15, st15⟩ := stZ X14 hx hZ e14 Ar15 (j := (12 : Int32)) hin15 (g := (mkF m 70 #[.val (.int p1), .val (.int ((p1 &&& (2147483647 : Int32)) % (15 : Int32))), .unset] [(.int (0 : Int32)), (.int (12 : Int32)), (.ref b2), (.ref b2)])) rfl rfl (hb hby at_70)
  refine OGot.go st15 ?_
  have N15 := Fr.snoc X15 N14 g_b2
  have O15 := O14.wr W15 g_b2
  have Va15 : Arv Z h15 b2 k2 .boolean (15 : Int32) [(.int (0 : Int32)), (.int (1 : Int32)), (.int (0 : Int32)), (.int (0 : Int32)), (.int (0 : Int32)), (.int (0 : Int32)), (.int (0 : Int32)), (.int (1 : Int32)), (.int (0 : Int32)), (.int (0 : Int32)), (.int (0 : Int32)), (.int (0 : Int32)), (.int (0 : Int32)), (.int (0 : Int32)), (.int (0 : Int32))] (.int (0 : Int32)) := Arv.set Ar15 qc15 Sz15 Ng15 Hh15 Gg15 (fits_nar_bool (0 : Int32)) W15 12 rfl (Nat.le_of_ble_eq_true rfl)
  show OGot p.tables e below (T15.setTop (mkF m 71 #[.val (.int p1), .val (.int ((p1 &&& (2147483647 : Int32)) % (15 : Int32))), .unset] [(.ref b2)])) _
  refine OGot.go (fun t k => XS.dup X15.here hx rfl (hb hby at_71) rfl rfl k) ?_
  show OGot p.tables e below (T15.setTop (mkF m 72 #[.val (.int p1), .val (.int ((p1 &&& (2147483647 : Int32)) % (15 : Int32))), .unset] [(.ref b2), (.ref b2)])) _
  refine OGot.go (fun t k => XS.bipush X15.here hx rfl (hb hby at_72) k) ?_
  show OGot p.tables e below (T15.setTop (mkF m 74 #[.val (.int p1), .val (.int ((p1 &&& (2147483647 : Int32)) % (15 : Int32))), .unset] [(.int (13 : Int32)), (.ref b2), (.ref b2)])) _
  refine OGot.go (fun t k => XS.iconst X15.here hx rfl (hb hby at_74) k) ?_
  show OGot p.tables e below (T15.setTop (mkF m 75 #[.val (.int p1), .val (.int ((p1 &&& (2147483647 : Int32)) % (15 : Int32))), .unset] [(.int (0 : Int32)), (.int (13 : Int32)), (.ref b2), (.ref b2)])) _
  obtain ⟨cl16, Ar16, qc16, Sz16, Ng16, Hh16, Gg16⟩ := Va15
  have hin16 : ¬ ((13 : Int32) < 0 ∨ cl16.slots.size ≤ ((13 : Int32)).toNatClampNeg) := inb_of Sz16 ⟨by decide, by decide⟩
  obtain ⟨T16, h16, X16, e16, W16, st16⟩ := stZ X15 hx hZ e15 Ar16 (j := (13 : Int32)) hin16 (g := (mkF m 75 #[.val (.int p1), .val (.int ((p1 &&& (2147483647 : Int32)) % (15 : Int32))), .unset] [(.int (0 : Int32)), (.int (13 : Int32)), (.ref b2), (.ref b2)])) rfl rfl (hb hby at_75)
  refine OGot.go st16 ?_
  have N16 := Fr.snoc X16 N15 g_b2
  have O16 := O15.wr W16 g_b2
  have Va16 : Arv Z h16 b2 k2 .boolean (15 : Int32) [(.int (0 : Int32)), (.int (1 : Int32)), (.int (0 : Int32)), (.int (0 : Int32)), (.int (0 : Int32)), (.int (0 : Int32)), (.int (0 : Int32)), (.int (1 : Int32)), (.int (0 : Int32)), (.int (0 : Int32)), (.int (0 : Int32)), (.int (0 : Int32)), (.int (0 : Int32)), (.int (0 : Int32)), (.int (0 : Int32))] (.int (0 : Int32)) := Arv.set Ar16 qc16 Sz16 Ng16 Hh16 Gg16 (fits_nar_bool (0 : Int32)) W16 13 rfl (Nat.le_of_ble_eq_true rfl)
  show OGot p.tables e below (T16.setTop (mkF m 76 #[.val (.int p1), .val (.int ((p1 &&& (2147483647 : Int32)) % (15 : Int32))), .unset] [(.ref b2)])) _
  refine OGot.go (fun t k => XS.dup X16.here hx rfl (hb hby at_76) rfl rfl k) ?_
  show OGot p.tables e below (T16.setTop (mkF m 77 #[.val (.int p1), .val (.int ((p1 &&& (2147483647 : Int32)) % (15 : Int32))), .unset] [(.ref b2), (.ref b2)])) _
  refine OGot.go (fun t k => XS.bipush X16.here hx rfl (hb hby at_77) k) ?_
  show OGot p.tables e below (T16.setTop (mkF m 79 #[.val (.int p1), .val (.int ((p1 &&& (2147483647 : Int32)) % (15 : Int32))), .unset] [(.int (14 : Int32)), (.ref b2), (.ref b2)])) _
  refine OGot.go (fun t k => XS.iconst X16.here hx rfl (hb hby at_79) k) ?_
  show OGot p.tables e below (T16.setTop (mkF m 80 #[.val (.int p1), .val (.int ((p1 &&& (2147483647 : Int32)) % (15 : Int32))), .unset] [(.int (1 : Int32)), (.int (14 : Int32)), (.ref b2), (.ref b2)])) _
  obtain ⟨cl17, Ar17, qc17, Sz17, Ng17, Hh17, Gg17⟩ := Va16
  have hin17 : ¬ ((14 : Int32) < 0 ∨ cl17.slots.size ≤ ((14 : Int32)).toNatClampNeg) := inb_of Sz17 ⟨by decide, by decide⟩
  obtain ⟨T17, h17, X17, e17, W17, st17⟩ := stZ X16 hx hZ e16 Ar17 (j := (14 : Int32)) hin17 (g := (mkF m 80 #[.val (.int p1), .val (.int ((p1 &&& (2147483647 : Int32)) % (15 : Int32))), .unset] [(.int (1 : Int32)), (.int (14 : Int32)), (.ref b2), (.ref b2)])) rfl rfl (hb hby at_80)
  refine OGot.go st17 ?_
  have N17 := Fr.snoc X17 N16 g_b2
  have O17 := O16.wr W17 g_b2
  have Va17 : Arv Z h17 b2 k2 .boolean (15 : Int32) [(.int (0 : Int32)), (.int (1 : Int32)), (.int (0 : Int32)), (.int (0 : Int32)), (.int (0 : Int32)), (.int (0 : Int32)), (.int (0 : Int32)), (.int (1 : Int32)), (.int (0 : Int32)), (.int (0 : Int32)), (.int (0 : Int32)), (.int (0 : Int32)), (.int (0 : Int32)), (.int (0 : Int32)), (.int (1 : Int32))] (.int (0 : Int32)) := Arv.set Ar17 qc17 Sz17 Ng17 Hh17 Gg17 (fits_nar_bool (1 : Int32)) W17 14 rfl (Nat.le_of_ble_eq_true rfl)
  show OGot p.tables e below (T17.setTop (mkF m 81 #[.val (.int p1), .val (.int ((p1 &&& (2147483647 : Int32)) % (15 : Int32))), .unset] [(.ref b2)])) _
  refine OGot.go (fun t k => XS.astoreN X17.here hx rfl (hb hby at_81) rfl rfl (l' := #[.val (.int p1), .val (.int ((p1 &&& (2147483647 : Int32)) % (15 : Int32))), .val (.ref b2)]) rfl k) ?_
  show OGot p.tables e below (T17.setTop (mkF m 82 #[.val (.int p1), .val (.int ((p1 &&& (2147483647 : Int32)) % (15 : Int32))), .val (.ref b2)] [])) _
  refine OGot.go (fun t k => XS.iloadN X17.here hx rfl (hb hby at_82) rfl k) ?_
  show OGot p.tables e below (T17.setTop (mkF m 83 #[.val (.int p1), .val (.int ((p1 &&& (2147483647 : Int32)) % (15 : Int32))), .val (.ref b2)] [(.int ((p1 &&& (2147483647 : Int32)) % (15 : Int32)))])) _
  rcases own_rem15 p1 with hk18 | hk19 | hk20 | hk21 | hk22 | hk23 | hk24 | hk25 | hk26 | hk27 | hk28 | hk29 | hk30 | hk31 | hk32
  · rw [hk18]
    show OGot p.tables e below (T17.setTop (mkF m 83 #[.val (.int p1), .val (.int (0 : Int32)), .val (.ref b2)] [(.int (0 : Int32))])) _
    obtain ⟨_, _, ⟨T33, L33, k33, n33⟩, -, X33, ⟨Lc33, hQ33, l33, y33, z33⟩, st33⟩ := Jvm.LawKit.callS X17 hx (y := (⟨"com/example/chorale/chorale/KindReceivesPinLaw", "kindAt", "(I)Lcom/example/chorale/chorale/FlowGraph$Kind;"⟩ : MethodName)) hown (mvT hZ (ow hw 2 rfl)) (mvT hZ (ow hw 3 rfl)) (mvT hZ (ow hw 4 rfl)) (mvT hZ (ow hw 5 rfl)) (by decide) (backOf (W := 0) (rm1 l Z a0 hw [] G  h17 n0 O17 ) hZ (ow hw 5 rfl) (ow hw 4 rfl) (by decide) (by decide)) (g := (mkF m 83 #[.val (.int p1), .val (.int (0 : Int32)), .val (.ref b2)] [(.int (0 : Int32))])) rfl (by rw [hml]; rfl) (argsL := [(.int (0 : Int32))]) (rest := []) (lenOf pd_0 rfl) rfl (by show 2 * 0 + _ ≤ _; exact Nat.le_of_eq rfl) (hb hby at_83) (fun _ _ => ⟨rfl, e17, (by decide : 1 + 0 ≤ _), (by decide : 15 + 0 ≤ _)⟩)
    dsimp only [Pt.U, Pt.locs, Pt.cells, Pt.slots] at X33 l33 y33 z33 st33 hQ33
    subst l33 y33 z33
    obtain ⟨rfl, N33q, e33⟩ := hQ33
    have N33 := Fr.app N17 N33q
    refine OGot.go st33 ?_
    show OGot p.tables e below (T33.setTop (mkF m 86 #[.val (.int p1), .val (.int (0 : Int32)), .val (.ref b2)] [(.ref w_START_EVENT)])) _
    obtain ⟨cq34, kq34, q34a, q34b, q34c⟩ := isOf hZ e33 (G.2.1.ext O17.2)
    obtain ⟨_, _, ⟨T34, L34, k34, n34⟩, -, X34, ⟨Lc34, hQ34, l34, y34, z34⟩, st34⟩ := X33.virtualBack hx (y := (⟨"com/example/chorale/chorale/FlowGraph$Kind", "receives", "()Z"⟩ : MethodName)) (z := (⟨"com/example/chorale/chorale/FlowGraph$Kind", "receives", "()Z"⟩ : MethodName)) hown (mvT hZ (ow hw 9 rfl)) (mvT hZ (ow hw 10 rfl)) (notFace_of_selects (args := #[]) (mvT hZ (ow hw 12 rfl))) (mvT hZ (ow hw 12 rfl)) (mvT hZ (ow hw 11 rfl)) (by decide) (backOf (W := 0) (rm2 l Z a0 hw [] G  h17 n0 O17 ) hZ (ow hw 13 rfl) (ow hw 7 rfl) (by decide) (by decide)) q34a q34c (g := (mkF m 86 #[.val (.int p1), .val (.int (0 : Int32)), .val (.ref b2)] [(.ref w_START_EVENT)])) rfl (by rw [hml]; rfl) (Steps.refl _) (argsL := []) (rest := []) (lenOf pd_1 rfl) rfl (by show 2 * 0 + _ ≤ _; exact Nat.le_of_eq rfl) (hb hby at_86) (fun _ _ => ⟨rfl, e33, (by decide : 1 + 0 ≤ _), (by decide : 15 + 0 ≤ _)⟩)
    dsimp only [Pt.U, Pt.locs, Pt.cells, Pt.slots] at X34 l34 y34 z34 st34 hQ34
    subst l34 y34 z34
    obtain ⟨rfl, N34q, e34⟩ := hQ34
    have N34 := Fr.app N33 N34q
    refine OGot.on st34 ?_
    show OGot p.tables e below (T34.setTop (mkF m 89 #[.val (.int p1), .val (.int (0 : Int32)), .val (.ref b2)] [(.int (0 : Int32))])) _
    refine OGot.go (fun t k => XS.aloadN X34.here hx rfl (hb hby at_89) rfl rfl k) ?_
    show OGot p.tables e below (T34.setTop (mkF m 90 #[.val (.int p1), .val (.int (0 : Int32)), .val (.ref b2)] [(.ref b2), (.int (0 : Int32))])) _
    refine OGot.go (fun t k => XS.iloadN X34.here hx rfl (hb hby at_90) rfl k) ?_
    show OGot p.tables e below (T34.setTop (mkF m 91 #[.val (.int p1), .val (.int (0 : Int32)), .val (.ref b2)] [(.int (0 : Int32)), (.ref b2), (.int (0 : Int32))])) _
    obtain ⟨cl35, Ar35, qc35, Sz35, Ng35, Hh35, Gg35⟩ := Va17
    have hin35 : ¬ ((0 : Int32) < 0 ∨ cl35.slots.size ≤ ((0 : Int32)).toNatClampNeg) := inb_of Sz35 ⟨by decide, by decide⟩
    have hat35 : cl35.slots[((0 : Int32)).toNatClampNeg]? = some (.int (0 : Int32)) := Hh35.at hin35 rfl
    refine OGot.go (fun t k => X34.baloadBooleans hx (j := (0 : Int32)) (v := (.int (0 : Int32))) (by rw [e34]; exact Ar35.1) (State.isArrayOf_alike hZ.alike Ar35.2.1) Ar35.2.2 hin35 hat35 (g := (mkF m 91 #[.val (.int p1), .val (.int (0 : Int32)), .val (.ref b2)] [(.int (0 : Int32)), (.ref b2), (.int (0 : Int32))])) rfl rfl (hb hby at_91) _ k) ?_
    show OGot p.tables e below (T34.setTop (mkF m 92 #[.val (.int p1), .val (.int (0 : Int32)), .val (.ref b2)] [(.int (0 : Int32)), (.int (0 : Int32))])) _
    refine OGot.go (fun t k => XS.icmpNo X34.here hx rfl (hb hby at_92) rfl (by decide) k) ?_
    show OGot p.tables e below (T34.setTop (mkF m 95 #[.val (.int p1), .val (.int (0 : Int32)), .val (.ref b2)] [])) _
    refine OGot.go (fun t k => XS.iconst X34.here hx rfl (hb hby at_95) k) ?_
    show OGot p.tables e below (T34.setTop (mkF m 96 #[.val (.int p1), .val (.int (0 : Int32)), .val (.ref b2)] [(.int (1 : Int32))])) _
    refine OGot.go (fun t k => XS.goto X34.here hx rfl (pc0 := 96) (pc' := 100) rfl (hb hby at_96) (by decide) (by decide) k) ?_
    show OGot p.tables e below (T34.setTop (mkF m 100 #[.val (.int p1), .val (.int (0 : Int32)), .val (.ref b2)] [(.int (1 : Int32))])) _
    obtain ⟨fs, hr, hrun, hended, hW, hsame⟩ := X34.leave (v := some (.int (1 : Int32))) (fun h => by rw [Bd.returns] at h; cases h)
    refine ⟨_, _, retN X34 hx (t := .boolean) Bd.returns (by simp) (hb hby at_100) hr, hrun, hended, _, _, rfl, ?_, ⟨_, rfl⟩, hW, hsame.mono (by decide) (by decide)⟩
    exact (⟨rfl, N34⟩ : Q0 Z w_START_EVENT w_RECEPTION w_MESSAGE_START_EVENT w_MESSAGE_BOUNDARY_EVENT w_TERMINATE_END_EVENT w_LINK_THROW_EVENT w_BOUNDARY_EVENT w_LINK_CATCH_EVENT w_END_EVENT w_EVENT_BASED_GATEWAY w_INCLUSIVE_GATEWAY w_EXCLUSIVE_GATEWAY w_SUB_PROCESS w_ACTIVITY w_PARALLEL_GATEWAY p1 h0 n0 _ T34.heap _)
  · rw [hk19]
    show OGot p.tables e below (T17.setTop (mkF m 83 #[.val (.int p1), .val (.int (1 : Int32)), .val (.ref b2)] [(.int (1 : Int32))])) _
    obtain ⟨_, _, ⟨T36, L36, k36, n36⟩, -, X36, ⟨Lc36, hQ36, l36, y36, z36⟩, st36⟩ := Jvm.LawKit.callS X17 hx (y := (⟨"com/example/chorale/chorale/KindReceivesPinLaw", "kindAt", "(I)Lcom/example/chorale/chorale/FlowGraph$Kind;"⟩ : MethodName)) hown (mvT hZ (ow hw 2 rfl)) (mvT hZ (ow hw 3 rfl)) (mvT hZ (ow hw 4 rfl)) (mvT hZ (ow hw 5 rfl)) (by decide) (backOf (W := 0) (rm1_1 l Z a0 hw [] G  h17 n0 O17 ) hZ (ow hw 5 rfl) (ow hw 4 rfl) (by decide) (by decide)) (g := (mkF m 83 #[.val (.int p1), .val (.int (1 : Int32)), .val (.ref b2)] [(.int (1 : Int32))])) rfl (by rw [hml]; rfl) (argsL := [(.int (1 : Int32))]) (rest := []) (lenOf pd_0 rfl) rfl (by show 2 * 0 + _ ≤ _; exact Nat.le_of_eq rfl) (hb hby at_83) (fun _ _ => ⟨rfl, e17, (by decide : 1 + 0 ≤ _), (by decide : 15 + 0 ≤ _)⟩)
    dsimp only [Pt.U, Pt.locs, Pt.cells, Pt.slots] at X36 l36 y36 z36 st36 hQ36
    subst l36 y36 z36
    obtain ⟨rfl, N36q, e36⟩ := hQ36
    have N36 := Fr.app N17 N36q
    refine OGot.go st36 ?_
    show OGot p.tables e below (T36.setTop (mkF m 86 #[.val (.int p1), .val (.int (1 : Int32)), .val (.ref b2)] [(.ref w_MESSAGE_START_EVENT)])) _
    obtain ⟨cq37, kq37, q37a, q37b, q37c⟩ := isOf hZ e36 (G.2.2.2.2.2.1.ext O17.2)
    obtain ⟨_, _, ⟨T37, L37, k37, n37⟩, -, X37, ⟨Lc37, hQ37, l37, y37, z37⟩, st37⟩ := X36.virtualBack hx (y := (⟨"com/example/chorale/chorale/FlowGraph$Kind", "receives", "()Z"⟩ : MethodName)) (z := (⟨"com/example/chorale/chorale/FlowGraph$Kind", "receives", "()Z"⟩ : MethodName)) hown (mvT hZ (ow hw 9 rfl)) (mvT hZ (ow hw 10 rfl)) (notFace_of_selects (args := #[]) (mvT hZ (ow hw 12 rfl))) (mvT hZ (ow hw 12 rfl)) (mvT hZ (ow hw 11 rfl)) (by decide) (backOf (W := 0) (rm2_1 l Z a0 hw [] G  h17 n0 O17 ) hZ (ow hw 13 rfl) (ow hw 7 rfl) (by decide) (by decide)) q37a q37c (g := (mkF m 86 #[.val (.int p1), .val (.int (1 : Int32)), .val (.ref b2)] [(.ref w_MESSAGE_START_EVENT)])) rfl (by rw [hml]; rfl) (Steps.refl _) (argsL := []) (rest := []) (lenOf pd_1 rfl) rfl (by show 2 * 0 + _ ≤ _; exact Nat.le_of_eq rfl) (hb hby at_86) (fun _ _ => ⟨rfl, e36, (by decide : 1 + 0 ≤ _), (by decide : 15 + 0 ≤ _)⟩)
    dsimp only [Pt.U, Pt.locs, Pt.cells, Pt.slots] at X37 l37 y37 z37 st37 hQ37
    subst l37 y37 z37
    obtain ⟨rfl, N37q, e37⟩ := hQ37
    have N37 := Fr.app N36 N37q
    refine OGot.on st37 ?_
    show OGot p.tables e below (T37.setTop (mkF m 89 #[.val (.int p1), .val (.int (1 : Int32)), .val (.ref b2)] [(.int (1 : Int32))])) _
    refine OGot.go (fun t k => XS.aloadN X37.here hx rfl (hb hby at_89) rfl rfl k) ?_
    show OGot p.tables e below (T37.setTop (mkF m 90 #[.val (.int p1), .val (.int (1 : Int32)), .val (.ref b2)] [(.ref b2), (.int (1 : Int32))])) _
    refine OGot.go (fun t k => XS.iloadN X37.here hx rfl (hb hby at_90) rfl k) ?_
    show OGot p.tables e below (T37.setTop (mkF m 91 #[.val (.int p1), .val (.int (1 : Int32)), .val (.ref b2)] [(.int (1 : Int32)), (.ref b2), (.int (1 : Int32))])) _
    obtain ⟨cl38, Ar38, qc38, Sz38, Ng38, Hh38, Gg38⟩ := Va17
    have hin38 : ¬ ((1 : Int32) < 0 ∨ cl38.slots.size ≤ ((1 : Int32)).toNatClampNeg) := inb_of Sz38 ⟨by decide, by decide⟩
    have hat38 : cl38.slots[((1 : Int32)).toNatClampNeg]? = some (.int (1 : Int32)) := Hh38.at hin38 rfl
    refine OGot.go (fun t k => X37.baloadBooleans hx (j := (1 : Int32)) (v := (.int (1 : Int32))) (by rw [e37]; exact Ar38.1) (State.isArrayOf_alike hZ.alike Ar38.2.1) Ar38.2.2 hin38 hat38 (g := (mkF m 91 #[.val (.int p1), .val (.int (1 : Int32)), .val (.ref b2)] [(.int (1 : Int32)), (.ref b2), (.int (1 : Int32))])) rfl rfl (hb hby at_91) _ k) ?_
    show OGot p.tables e below (T37.setTop (mkF m 92 #[.val (.int p1), .val (.int (1 : Int32)), .val (.ref b2)] [(.int (1 : Int32)), (.int (1 : Int32))])) _
    refine OGot.go (fun t k => XS.icmpNo X37.here hx rfl (hb hby at_92) rfl (by decide) k) ?_
    show OGot p.tables e below (T37.setTop (mkF m 95 #[.val (.int p1), .val (.int (1 : Int32)), .val (.ref b2)] [])) _
    refine OGot.go (fun t k => XS.iconst X37.here hx rfl (hb hby at_95) k) ?_
    show OGot p.tables e below (T37.setTop (mkF m 96 #[.val (.int p1), .val (.int (1 : Int32)), .val (.ref b2)] [(.int (1 : Int32))])) _
    refine OGot.go (fun t k => XS.goto X37.here hx rfl (pc0 := 96) (pc' := 100) rfl (hb hby at_96) (by decide) (by decide) k) ?_
    show OGot p.tables e below (T37.setTop (mkF m 100 #[.val (.int p1), .val (.int (1 : Int32)), .val (.ref b2)] [(.int (1 : Int32))])) _
    obtain ⟨fs, hr, hrun, hended, hW, hsame⟩ := X37.leave (v := some (.int (1 : Int32))) (fun h => by rw [Bd.returns] at h; cases h)
    refine ⟨_, _, retN X37 hx (t := .boolean) Bd.returns (by simp) (hb hby at_100) hr, hrun, hended, _, _, rfl, ?_, ⟨_, rfl⟩, hW, hsame.mono (by decide) (by decide)⟩
    exact (⟨rfl, N37⟩ : Q0 Z w_START_EVENT w_RECEPTION w_MESSAGE_START_EVENT w_MESSAGE_BOUNDARY_EVENT w_TERMINATE_END_EVENT w_LINK_THROW_EVENT w_BOUNDARY_EVENT w_LINK_CATCH_EVENT w_END_EVENT w_EVENT_BASED_GATEWAY w_INCLUSIVE_GATEWAY w_EXCLUSIVE_GATEWAY w_SUB_PROCESS w_ACTIVITY w_PARALLEL_GATEWAY p1 h0 n0 _ T37.heap _)
  · rw [hk20]
    show OGot p.tables e below (T17.setTop (mkF m 83 #[.val (.int p1), .val (.int (2 : Int32)), .val (.ref b2)] [(.int (2 : Int32))])) _
    obtain ⟨_, _, ⟨T39, L39, k39, n39⟩, -, X39, ⟨Lc39, hQ39, l39, y39, z39⟩, st39⟩ := Jvm.LawKit.callS X17 hx (y := (⟨"com/example/chorale/chorale/KindReceivesPinLaw", "kindAt", "(I)Lcom/example/chorale/chorale/FlowGraph$Kind;"⟩ : MethodName)) hown (mvT hZ (ow hw 2 rfl)) (mvT hZ (ow hw 3 rfl)) (mvT hZ (ow hw 4 rfl)) (mvT hZ (ow hw 5 rfl)) (by decide) (backOf (W := 0) (rm1_2 l Z a0 hw [] G  h17 n0 O17 ) hZ (ow hw 5 rfl) (ow hw 4 rfl) (by decide) (by decide)) (g := (mkF m 83 #[.val (.int p1), .val (.int (2 : Int32)), .val (.ref b2)] [(.int (2 : Int32))])) rfl (by rw [hml]; rfl) (argsL := [(.int (2 : Int32))]) (rest := []) (lenOf pd_0 rfl) rfl (by show 2 * 0 + _ ≤ _; exact Nat.le_of_eq rfl) (hb hby at_83) (fun _ _ => ⟨rfl, e17, (by decide : 1 + 0 ≤ _), (by decide : 15 + 0 ≤ _)⟩)
    dsimp only [Pt.U, Pt.locs, Pt.cells, Pt.slots] at X39 l39 y39 z39 st39 hQ39
    subst l39 y39 z39
    obtain ⟨rfl, N39q, e39⟩ := hQ39
    have N39 := Fr.app N17 N39q
    refine OGot.go st39 ?_
    show OGot p.tables e below (T39.setTop (mkF m 86 #[.val (.int p1), .val (.int (2 : Int32)), .val (.ref b2)] [(.ref w_END_EVENT)])) _
    obtain ⟨cq40, kq40, q40a, q40b, q40c⟩ := isOf hZ e39 (G.2.2.2.2.2.2.2.2.2.2.2.2.2.2.2.2.2.1.ext O17.2)
    obtain ⟨_, _, ⟨T40, L40, k40, n40⟩, -, X40, ⟨Lc40, hQ40, l40, y40, z40⟩, st40⟩ := X39.virtualBack hx (y := (⟨"com/example/chorale/chorale/FlowGraph$Kind", "receives", "()Z"⟩ : MethodName)) (z := (⟨"com/example/chorale/chorale/FlowGraph$Kind", "receives", "()Z"⟩ : MethodName)) hown (mvT hZ (ow hw 9 rfl)) (mvT hZ (ow hw 10 rfl)) (notFace_of_selects (args := #[]) (mvT hZ (ow hw 12 rfl))) (mvT hZ (ow hw 12 rfl)) (mvT hZ (ow hw 11 rfl)) (by decide) (backOf (W := 0) (rm2_2 l Z a0 hw [] G  h17 n0 O17 ) hZ (ow hw 13 rfl) (ow hw 7 rfl) (by decide) (by decide)) q40a q40c (g := (mkF m 86 #[.val (.int p1), .val (.int (2 : Int32)), .val (.ref b2)] [(.ref w_END_EVENT)])) rfl (by rw [hml]; rfl) (Steps.refl _) (argsL := []) (rest := []) (lenOf pd_1 rfl) rfl (by show 2 * 0 + _ ≤ _; exact Nat.le_of_eq rfl) (hb hby at_86) (fun _ _ => ⟨rfl, e39, (by decide : 1 + 0 ≤ _), (by decide : 15 + 0 ≤ _)⟩)
    dsimp only [Pt.U, Pt.locs, Pt.cells, Pt.slots] at X40 l40 y40 z40 st40 hQ40
    subst l40 y40 z40
    obtain ⟨rfl, N40q, e40⟩ := hQ40
    have N40 := Fr.app N39 N40q
    refine OGot.on st40 ?_
    show OGot p.tables e below (T40.setTop (mkF m 89 #[.val (.int p1), .val (.int (2 : Int32)), .val (.ref b2)] [(.int (0 : Int32))])) _
    refine OGot.go (fun t k => XS.aloadN X40.here hx rfl (hb hby at_89) rfl rfl k) ?_
    show OGot p.tables e below (T40.setTop (mkF m 90 #[.val (.int p1), .val (.int (2 : Int32)), .val (.ref b2)] [(.ref b2), (.int (0 : Int32))])) _
    refine OGot.go (fun t k => XS.iloadN X40.here hx rfl (hb hby at_90) rfl k) ?_
    show OGot p.tables e below (T40.setTop (mkF m 91 #[.val (.int p1), .val (.int (2 : Int32)), .val (.ref b2)] [(.int (2 : Int32)), (.ref b2), (.int (0 : Int32))])) _
    obtain ⟨cl41, Ar41, qc41, Sz41, Ng41, Hh41, Gg41⟩ := Va17
    have hin41 : ¬ ((2 : Int32) < 0 ∨ cl41.slots.size ≤ ((2 : Int32)).toNatClampNeg) := inb_of Sz41 ⟨by decide, by decide⟩
    have hat41 : cl41.slots[((2 : Int32)).toNatClampNeg]? = some (.int (0 : Int32)) := Hh41.at hin41 rfl
    refine OGot.go (fun t k => X40.baloadBooleans hx (j := (2 : Int32)) (v := (.int (0 : Int32))) (by rw [e40]; exact Ar41.1) (State.isArrayOf_alike hZ.alike Ar41.2.1) Ar41.2.2 hin41 hat41 (g := (mkF m 91 #[.val (.int p1), .val (.int (2 : Int32)), .val (.ref b2)] [(.int (2 : Int32)), (.ref b2), (.int (0 : Int32))])) rfl rfl (hb hby at_91) _ k) ?_
    show OGot p.tables e below (T40.setTop (mkF m 92 #[.val (.int p1), .val (.int (2 : Int32)), .val (.ref b2)] [(.int (0 : Int32)), (.int (0 : Int32))])) _
    refine OGot.go (fun t k => XS.icmpNo X40.here hx rfl (hb hby at_92) rfl (by decide) k) ?_
    show OGot p.tables e below (T40.setTop (mkF m 95 #[.val (.int p1), .val (.int (2 : Int32)), .val (.ref b2)] [])) _
    refine OGot.go (fun t k => XS.iconst X40.here hx rfl (hb hby at_95) k) ?_
    show OGot p.tables e below (T40.setTop (mkF m 96 #[.val (.int p1), .val (.int (2 : Int32)), .val (.ref b2)] [(.int (1 : Int32))])) _
    refine OGot.go (fun t k => XS.goto X40.here hx rfl (pc0 := 96) (pc' := 100) rfl (hb hby at_96) (by decide) (by decide) k) ?_
    show OGot p.tables e below (T40.setTop (mkF m 100 #[.val (.int p1), .val (.int (2 : Int32)), .val (.ref b2)] [(.int (1 : Int32))])) _
    obtain ⟨fs, hr, hrun, hended, hW, hsame⟩ := X40.leave (v := some (.int (1 : Int32))) (fun h => by rw [Bd.returns] at h; cases h)
    refine ⟨_, _, retN X40 hx (t := .boolean) Bd.returns (by simp) (hb hby at_100) hr, hrun, hended, _, _, rfl, ?_, ⟨_, rfl⟩, hW, hsame.mono (by decide) (by decide)⟩
    exact (⟨rfl, N40⟩ : Q0 Z w_START_EVENT w_RECEPTION w_MESSAGE_START_EVENT w_MESSAGE_BOUNDARY_EVENT w_TERMINATE_END_EVENT w_LINK_THROW_EVENT w_BOUNDARY_EVENT w_LINK_CATCH_EVENT w_END_EVENT w_EVENT_BASED_GATEWAY w_INCLUSIVE_GATEWAY w_EXCLUSIVE_GATEWAY w_SUB_PROCESS w_ACTIVITY w_PARALLEL_GATEWAY p1 h0 n0 _ T40.heap _)
  · rw [hk21]
    show OGot p.tables e below (T17.setTop (mkF m 83 #[.val (.int p1), .val (.int (3 : Int32)), .val (.ref b2)] [(.int (3 : Int32))])) _
    obtain ⟨_, _, ⟨T42, L42, k42, n42⟩, -, X42, ⟨Lc42, hQ42, l42, y42, z42⟩, st42⟩ := Jvm.LawKit.callS X17 hx (y := (⟨"com/example/chorale/chorale/KindReceivesPinLaw", "kindAt", "(I)Lcom/example/chorale/chorale/FlowGraph$Kind;"⟩ : MethodName)) hown (mvT hZ (ow hw 2 rfl)) (mvT hZ (ow hw 3 rfl)) (mvT hZ (ow hw 4 rfl)) (mvT hZ (ow hw 5 rfl)) (by decide) (backOf (W := 0) (rm1_3 l Z a0 hw [] G  h17 n0 O17 ) hZ (ow hw 5 rfl) (ow hw 4 rfl) (by decide) (by decide)) (g := (mkF m 83 #[.val (.int p1), .val (.int (3 : Int32)), .val (.ref b2)] [(.int (3 : Int32))])) rfl (by rw [hml]; rfl) (argsL := [(.int (3 : Int32))]) (rest := []) (lenOf pd_0 rfl) rfl (by show 2 * 0 + _ ≤ _; exact Nat.le_of_eq rfl) (hb hby at_83) (fun _ _ => ⟨rfl, e17, (by decide : 1 + 0 ≤ _), (by decide : 15 + 0 ≤ _)⟩)
    dsimp only [Pt.U, Pt.locs, Pt.cells, Pt.slots] at X42 l42 y42 z42 st42 hQ42
    subst l42 y42 z42
    obtain ⟨rfl, N42q, e42⟩ := hQ42
    have N42 := Fr.app N17 N42q
    refine OGot.go st42 ?_
    show OGot p.tables e below (T42.setTop (mkF m 86 #[.val (.int p1), .val (.int (3 : Int32)), .val (.ref b2)] [(.ref w_TERMINATE_END_EVENT)])) _
    obtain ⟨cq43, kq43, q43a, q43b, q43c⟩ := isOf hZ e42 (G.2.2.2.2.2.2.2.2.2.1.ext O17.2)
    obtain ⟨_, _, ⟨T43, L43, k43, n43⟩, -, X43, ⟨Lc43, hQ43, l43, y43, z43⟩, st43⟩ := X42.virtualBack hx (y := (⟨"com/example/chorale/chorale/FlowGraph$Kind", "receives", "()Z"⟩ : MethodName)) (z := (⟨"com/example/chorale/chorale/FlowGraph$Kind", "receives", "()Z"⟩ : MethodName)) hown (mvT hZ (ow hw 9 rfl)) (mvT hZ (ow hw 10 rfl)) (notFace_of_selects (args := #[]) (mvT hZ (ow hw 12 rfl))) (mvT hZ (ow hw 12 rfl)) (mvT hZ (ow hw 11 rfl)) (by decide) (backOf (W := 0) (rm2_3 l Z a0 hw [] G  h17 n0 O17 ) hZ (ow hw 13 rfl) (ow hw 7 rfl) (by decide) (by decide)) q43a q43c (g := (mkF m 86 #[.val (.int p1), .val (.int (3 : Int32)), .val (.ref b2)] [(.ref w_TERMINATE_END_EVENT)])) rfl (by rw [hml]; rfl) (Steps.refl _) (argsL := []) (rest := []) (lenOf pd_1 rfl) rfl (by show 2 * 0 + _ ≤ _; exact Nat.le_of_eq rfl) (hb hby at_86) (fun _ _ => ⟨rfl, e42, (by decide : 1 + 0 ≤ _), (by decide : 15 + 0 ≤ _)⟩)
    dsimp only [Pt.U, Pt.locs, Pt.cells, Pt.slots] at X43 l43 y43 z43 st43 hQ43
    subst l43 y43 z43
    obtain ⟨rfl, N43q, e43⟩ := hQ43
    have N43 := Fr.app N42 N43q
    refine OGot.on st43 ?_
    show OGot p.tables e below (T43.setTop (mkF m 89 #[.val (.int p1), .val (.int (3 : Int32)), .val (.ref b2)] [(.int (0 : Int32))])) _
    refine OGot.go (fun t k => XS.aloadN X43.here hx rfl (hb hby at_89) rfl rfl k) ?_
    show OGot p.tables e below (T43.setTop (mkF m 90 #[.val (.int p1), .val (.int (3 : Int32)), .val (.ref b2)] [(.ref b2), (.int (0 : Int32))])) _
    refine OGot.go (fun t k => XS.iloadN X43.here hx rfl (hb hby at_90) rfl k) ?_
    show OGot p.tables e below (T43.setTop (mkF m 91 #[.val (.int p1), .val (.int (3 : Int32)), .val (.ref b2)] [(.int (3 : Int32)), (.ref b2), (.int (0 : Int32))])) _
    obtain ⟨cl44, Ar44, qc44, Sz44, Ng44, Hh44, Gg44⟩ := Va17
    have hin44 : ¬ ((3 : Int32) < 0 ∨ cl44.slots.size ≤ ((3 : Int32)).toNatClampNeg) := inb_of Sz44 ⟨by decide, by decide⟩
    have hat44 : cl44.slots[((3 : Int32)).toNatClampNeg]? = some (.int (0 : Int32)) := Hh44.at hin44 rfl
    refine OGot.go (fun t k => X43.baloadBooleans hx (j := (3 : Int32)) (v := (.int (0 : Int32))) (by rw [e43]; exact Ar44.1) (State.isArrayOf_alike hZ.alike Ar44.2.1) Ar44.2.2 hin44 hat44 (g := (mkF m 91 #[.val (.int p1), .val (.int (3 : Int32)), .val (.ref b2)] [(.int (3 : Int32)), (.ref b2), (.int (0 : Int32))])) rfl rfl (hb hby at_91) _ k) ?_
    show OGot p.tables e below (T43.setTop (mkF m 92 #[.val (.int p1), .val (.int (3 : Int32)), .val (.ref b2)] [(.int (0 : Int32)), (.int (0 : Int32))])) _
    refine OGot.go (fun t k => XS.icmpNo X43.here hx rfl (hb hby at_92) rfl (by decide) k) ?_
    show OGot p.tables e below (T43.setTop (mkF m 95 #[.val (.int p1), .val (.int (3 : Int32)), .val (.ref b2)] [])) _
    refine OGot.go (fun t k => XS.iconst X43.here hx rfl (hb hby at_95) k) ?_
    show OGot p.tables e below (T43.setTop (mkF m 96 #[.val (.int p1), .val (.int (3 : Int32)), .val (.ref b2)] [(.int (1 : Int32))])) _
    refine OGot.go (fun t k => XS.goto X43.here hx rfl (pc0 := 96) (pc' := 100) rfl (hb hby at_96) (by decide) (by decide) k) ?_
    show OGot p.tables e below (T43.setTop (mkF m 100 #[.val (.int p1), .val (.int (3 : Int32)), .val (.ref b2)] [(.int (1 : Int32))])) _
    obtain ⟨fs, hr, hrun, hended, hW, hsame⟩ := X43.leave (v := some (.int (1 : Int32))) (fun h => by rw [Bd.returns] at h; cases h)
    refine ⟨_, _, retN X43 hx (t := .boolean) Bd.returns (by simp) (hb hby at_100) hr, hrun, hended, _, _, rfl, ?_, ⟨_, rfl⟩, hW, hsame.mono (by decide) (by decide)⟩
    exact (⟨rfl, N43⟩ : Q0 Z w_START_EVENT w_RECEPTION w_MESSAGE_START_EVENT w_MESSAGE_BOUNDARY_EVENT w_TERMINATE_END_EVENT w_LINK_THROW_EVENT w_BOUNDARY_EVENT w_LINK_CATCH_EVENT w_END_EVENT w_EVENT_BASED_GATEWAY w_INCLUSIVE_GATEWAY w_EXCLUSIVE_GATEWAY w_SUB_PROCESS w_ACTIVITY w_PARALLEL_GATEWAY p1 h0 n0 _ T43.heap _)
  · rw [hk22]
    show OGot p.tables e below (T17.setTop (mkF m 83 #[.val (.int p1), .val (.int (4 : Int32)), .val (.ref b2)] [(.int (4 : Int32))])) _
    obtain ⟨_, _, ⟨T45, L45, k45, n45⟩, -, X45, ⟨Lc45, hQ45, l45, y45, z45⟩, st45⟩ := Jvm.LawKit.callS X17 hx (y := (⟨"com/example/chorale/chorale/KindReceivesPinLaw", "kindAt", "(I)Lcom/example/chorale/chorale/FlowGraph$Kind;"⟩ : MethodName)) hown (mvT hZ (ow hw 2 rfl)) (mvT hZ (ow hw 3 rfl)) (mvT hZ (ow hw 4 rfl)) (mvT hZ (ow hw 5 rfl)) (by decide) (backOf (W := 0) (rm1_4 l Z a0 hw [] G  h17 n0 O17 ) hZ (ow hw 5 rfl) (ow hw 4 rfl) (by decide) (by decide)) (g := (mkF m 83 #[.val (.int p1), .val (.int (4 : Int32)), .val (.ref b2)] [(.int (4 : Int32))])) rfl (by rw [hml]; rfl) (argsL := [(.int (4 : Int32))]) (rest := []) (lenOf pd_0 rfl) rfl (by show 2 * 0 + _ ≤ _; exact Nat.le_of_eq rfl) (hb hby at_83) (fun _ _ => ⟨rfl, e17, (by decide : 1 + 0 ≤ _), (by decide : 15 + 0 ≤ _)⟩)
    dsimp only [Pt.U, Pt.locs, Pt.cells, Pt.slots] at X45 l45 y45 z45 st45 hQ45
    subst l45 y45 z45
    obtain ⟨rfl, N45q, e45⟩ := hQ45
    have N45 := Fr.app N17 N45q
    refine OGot.go st45 ?_
    show OGot p.tables e below (T45.setTop (mkF m 86 #[.val (.int p1), .val (.int (4 : Int32)), .val (.ref b2)] [(.ref w_ACTIVITY)])) _
    obtain ⟨cq46, kq46, q46a, q46b, q46c⟩ := isOf hZ e45 (G.2.2.2.2.2.2.2.2.2.2.2.2.2.2.2.2.2.2.2.2.2.2.2.2.2.2.2.1.ext O17.2)
    obtain ⟨_, _, ⟨T46, L46, k46, n46⟩, -, X46, ⟨Lc46, hQ46, l46, y46, z46⟩, st46⟩ := X45.virtualBack hx (y := (⟨"com/example/chorale/chorale/FlowGraph$Kind", "receives", "()Z"⟩ : MethodName)) (z := (⟨"com/example/chorale/chorale/FlowGraph$Kind", "receives", "()Z"⟩ : MethodName)) hown (mvT hZ (ow hw 9 rfl)) (mvT hZ (ow hw 10 rfl)) (notFace_of_selects (args := #[]) (mvT hZ (ow hw 12 rfl))) (mvT hZ (ow hw 12 rfl)) (mvT hZ (ow hw 11 rfl)) (by decide) (backOf (W := 0) (rm2_4 l Z a0 hw [] G  h17 n0 O17 ) hZ (ow hw 13 rfl) (ow hw 7 rfl) (by decide) (by decide)) q46a q46c (g := (mkF m 86 #[.val (.int p1), .val (.int (4 : Int32)), .val (.ref b2)] [(.ref w_ACTIVITY)])) rfl (by rw [hml]; rfl) (Steps.refl _) (argsL := []) (rest := []) (lenOf pd_1 rfl) rfl (by show 2 * 0 + _ ≤ _; exact Nat.le_of_eq rfl) (hb hby at_86) (fun _ _ => ⟨rfl, e45, (by decide : 1 + 0 ≤ _), (by decide : 15 + 0 ≤ _)⟩)
    dsimp only [Pt.U, Pt.locs, Pt.cells, Pt.slots] at X46 l46 y46 z46 st46 hQ46
    subst l46 y46 z46
    obtain ⟨rfl, N46q, e46⟩ := hQ46
    have N46 := Fr.app N45 N46q
    refine OGot.on st46 ?_
    show OGot p.tables e below (T46.setTop (mkF m 89 #[.val (.int p1), .val (.int (4 : Int32)), .val (.ref b2)] [(.int (0 : Int32))])) _
    refine OGot.go (fun t k => XS.aloadN X46.here hx rfl (hb hby at_89) rfl rfl k) ?_
    show OGot p.tables e below (T46.setTop (mkF m 90 #[.val (.int p1), .val (.int (4 : Int32)), .val (.ref b2)] [(.ref b2), (.int (0 : Int32))])) _
    refine OGot.go (fun t k => XS.iloadN X46.here hx rfl (hb hby at_90) rfl k) ?_
    show OGot p.tables e below (T46.setTop (mkF m 91 #[.val (.int p1), .val (.int (4 : Int32)), .val (.ref b2)] [(.int (4 : Int32)), (.ref b2), (.int (0 : Int32))])) _
    obtain ⟨cl47, Ar47, qc47, Sz47, Ng47, Hh47, Gg47⟩ := Va17
    have hin47 : ¬ ((4 : Int32) < 0 ∨ cl47.slots.size ≤ ((4 : Int32)).toNatClampNeg) := inb_of Sz47 ⟨by decide, by decide⟩
    have hat47 : cl47.slots[((4 : Int32)).toNatClampNeg]? = some (.int (0 : Int32)) := Hh47.at hin47 rfl
    refine OGot.go (fun t k => X46.baloadBooleans hx (j := (4 : Int32)) (v := (.int (0 : Int32))) (by rw [e46]; exact Ar47.1) (State.isArrayOf_alike hZ.alike Ar47.2.1) Ar47.2.2 hin47 hat47 (g := (mkF m 91 #[.val (.int p1), .val (.int (4 : Int32)), .val (.ref b2)] [(.int (4 : Int32)), (.ref b2), (.int (0 : Int32))])) rfl rfl (hb hby at_91) _ k) ?_
    show OGot p.tables e below (T46.setTop (mkF m 92 #[.val (.int p1), .val (.int (4 : Int32)), .val (.ref b2)] [(.int (0 : Int32)), (.int (0 : Int32))])) _
    refine OGot.go (fun t k => XS.icmpNo X46.here hx rfl (hb hby at_92) rfl (by decide) k) ?_
    show OGot p.tables e below (T46.setTop (mkF m 95 #[.val (.int p1), .val (.int (4 : Int32)), .val (.ref b2)] [])) _
    refine OGot.go (fun t k => XS.iconst X46.here hx rfl (hb hby at_95) k) ?_
    show OGot p.tables e below (T46.setTop (mkF m 96 #[.val (.int p1), .val (.int (4 : Int32)), .val (.ref b2)] [(.int (1 : Int32))])) _
    refine OGot.go (fun t k => XS.goto X46.here hx rfl (pc0 := 96) (pc' := 100) rfl (hb hby at_96) (by decide) (by decide) k) ?_
    show OGot p.tables e below (T46.setTop (mkF m 100 #[.val (.int p1), .val (.int (4 : Int32)), .val (.ref b2)] [(.int (1 : Int32))])) _
    obtain ⟨fs, hr, hrun, hended, hW, hsame⟩ := X46.leave (v := some (.int (1 : Int32))) (fun h => by rw [Bd.returns] at h; cases h)
    refine ⟨_, _, retN X46 hx (t := .boolean) Bd.returns (by simp) (hb hby at_100) hr, hrun, hended, _, _, rfl, ?_, ⟨_, rfl⟩, hW, hsame.mono (by decide) (by decide)⟩
    exact (⟨rfl, N46⟩ : Q0 Z w_START_EVENT w_RECEPTION w_MESSAGE_START_EVENT w_MESSAGE_BOUNDARY_EVENT w_TERMINATE_END_EVENT w_LINK_THROW_EVENT w_BOUNDARY_EVENT w_LINK_CATCH_EVENT w_END_EVENT w_EVENT_BASED_GATEWAY w_INCLUSIVE_GATEWAY w_EXCLUSIVE_GATEWAY w_SUB_PROCESS w_ACTIVITY w_PARALLEL_GATEWAY p1 h0 n0 _ T46.heap _)
  · rw [hk23]
    show OGot p.tables e below (T17.setTop (mkF m 83 #[.val (.int p1), .val (.int (5 : Int32)), .val (.ref b2)] [(.int (5 : Int32))])) _
    obtain ⟨_, _, ⟨T48, L48, k48, n48⟩, -, X48, ⟨Lc48, hQ48, l48, y48, z48⟩, st48⟩ := Jvm.LawKit.callS X17 hx (y := (⟨"com/example/chorale/chorale/KindReceivesPinLaw", "kindAt", "(I)Lcom/example/chorale/chorale/FlowGraph$Kind;"⟩ : MethodName)) hown (mvT hZ (ow hw 2 rfl)) (mvT hZ (ow hw 3 rfl)) (mvT hZ (ow hw 4 rfl)) (mvT hZ (ow hw 5 rfl)) (by decide) (backOf (W := 0) (rm1_5 l Z a0 hw [] G  h17 n0 O17 ) hZ (ow hw 5 rfl) (ow hw 4 rfl) (by decide) (by decide)) (g := (mkF m 83 #[.val (.int p1), .val (.int (5 : Int32)), .val (.ref b2)] [(.int (5 : Int32))])) rfl (by rw [hml]; rfl) (argsL := [(.int (5 : Int32))]) (rest := []) (lenOf pd_0 rfl) rfl (by show 2 * 0 + _ ≤ _; exact Nat.le_of_eq rfl) (hb hby at_83) (fun _ _ => ⟨rfl, e17, (by decide : 1 + 0 ≤ _), (by decide : 15 + 0 ≤ _)⟩)
    dsimp only [Pt.U, Pt.locs, Pt.cells, Pt.slots] at X48 l48 y48 z48 st48 hQ48
    subst l48 y48 z48
    obtain ⟨rfl, N48q, e48⟩ := hQ48
    have N48 := Fr.app N17 N48q
    refine OGot.go st48 ?_
    show OGot p.tables e below (T48.setTop (mkF m 86 #[.val (.int p1), .val (.int (5 : Int32)), .val (.ref b2)] [(.ref w_LINK_THROW_EVENT)])) _
    obtain ⟨cq49, kq49, q49a, q49b, q49c⟩ := isOf hZ e48 (G.2.2.2.2.2.2.2.2.2.2.2.1.ext O17.2)
    obtain ⟨_, _, ⟨T49, L49, k49, n49⟩, -, X49, ⟨Lc49, hQ49, l49, y49, z49⟩, st49⟩ := X48.virtualBack hx (y := (⟨"com/example/chorale/chorale/FlowGraph$Kind", "receives", "()Z"⟩ : MethodName)) (z := (⟨"com/example/chorale/chorale/FlowGraph$Kind", "receives", "()Z"⟩ : MethodName)) hown (mvT hZ (ow hw 9 rfl)) (mvT hZ (ow hw 10 rfl)) (notFace_of_selects (args := #[]) (mvT hZ (ow hw 12 rfl))) (mvT hZ (ow hw 12 rfl)) (mvT hZ (ow hw 11 rfl)) (by decide) (backOf (W := 0) (rm2_5 l Z a0 hw [] G  h17 n0 O17 ) hZ (ow hw 13 rfl) (ow hw 7 rfl) (by decide) (by decide)) q49a q49c (g := (mkF m 86 #[.val (.int p1), .val (.int (5 : Int32)), .val (.ref b2)] [(.ref w_LINK_THROW_EVENT)])) rfl (by rw [hml]; rfl) (Steps.refl _) (argsL := []) (rest := []) (lenOf pd_1 rfl) rfl (by show 2 * 0 + _ ≤ _; exact Nat.le_of_eq rfl) (hb hby at_86) (fun _ _ => ⟨rfl, e48, (by decide : 1 + 0 ≤ _), (by decide : 15 + 0 ≤ _)⟩)
    dsimp only [Pt.U, Pt.locs, Pt.cells, Pt.slots] at X49 l49 y49 z49 st49 hQ49
    subst l49 y49 z49
    obtain ⟨rfl, N49q, e49⟩ := hQ49
    have N49 := Fr.app N48 N49q
    refine OGot.on st49 ?_
    show OGot p.tables e below (T49.setTop (mkF m 89 #[.val (.int p1), .val (.int (5 : Int32)), .val (.ref b2)] [(.int (0 : Int32))])) _
    refine OGot.go (fun t k => XS.aloadN X49.here hx rfl (hb hby at_89) rfl rfl k) ?_
    show OGot p.tables e below (T49.setTop (mkF m 90 #[.val (.int p1), .val (.int (5 : Int32)), .val (.ref b2)] [(.ref b2), (.int (0 : Int32))])) _
    refine OGot.go (fun t k => XS.iloadN X49.here hx rfl (hb hby at_90) rfl k) ?_
    show OGot p.tables e below (T49.setTop (mkF m 91 #[.val (.int p1), .val (.int (5 : Int32)), .val (.ref b2)] [(.int (5 : Int32)), (.ref b2), (.int (0 : Int32))])) _
    obtain ⟨cl50, Ar50, qc50, Sz50, Ng50, Hh50, Gg50⟩ := Va17
    have hin50 : ¬ ((5 : Int32) < 0 ∨ cl50.slots.size ≤ ((5 : Int32)).toNatClampNeg) := inb_of Sz50 ⟨by decide, by decide⟩
    have hat50 : cl50.slots[((5 : Int32)).toNatClampNeg]? = some (.int (0 : Int32)) := Hh50.at hin50 rfl
    refine OGot.go (fun t k => X49.baloadBooleans hx (j := (5 : Int32)) (v := (.int (0 : Int32))) (by rw [e49]; exact Ar50.1) (State.isArrayOf_alike hZ.alike Ar50.2.1) Ar50.2.2 hin50 hat50 (g := (mkF m 91 #[.val (.int p1), .val (.int (5 : Int32)), .val (.ref b2)] [(.int (5 : Int32)), (.ref b2), (.int (0 : Int32))])) rfl rfl (hb hby at_91) _ k) ?_
    show OGot p.tables e below (T49.setTop (mkF m 92 #[.val (.int p1), .val (.int (5 : Int32)), .val (.ref b2)] [(.int (0 : Int32)), (.int (0 : Int32))])) _
    refine OGot.go (fun t k => XS.icmpNo X49.here hx rfl (hb hby at_92) rfl (by decide) k) ?_
    show OGot p.tables e below (T49.setTop (mkF m 95 #[.val (.int p1), .val (.int (5 : Int32)), .val (.ref b2)] [])) _
    refine OGot.go (fun t k => XS.iconst X49.here hx rfl (hb hby at_95) k) ?_
    show OGot p.tables e below (T49.setTop (mkF m 96 #[.val (.int p1), .val (.int (5 : Int32)), .val (.ref b2)] [(.int (1 : Int32))])) _
    refine OGot.go (fun t k => XS.goto X49.here hx rfl (pc0 := 96) (pc' := 100) rfl (hb hby at_96) (by decide) (by decide) k) ?_
    show OGot p.tables e below (T49.setTop (mkF m 100 #[.val (.int p1), .val (.int (5 : Int32)), .val (.ref b2)] [(.int (1 : Int32))])) _
    obtain ⟨fs, hr, hrun, hended, hW, hsame⟩ := X49.leave (v := some (.int (1 : Int32))) (fun h => by rw [Bd.returns] at h; cases h)
    refine ⟨_, _, retN X49 hx (t := .boolean) Bd.returns (by simp) (hb hby at_100) hr, hrun, hended, _, _, rfl, ?_, ⟨_, rfl⟩, hW, hsame.mono (by decide) (by decide)⟩
    exact (⟨rfl, N49⟩ : Q0 Z w_START_EVENT w_RECEPTION w_MESSAGE_START_EVENT w_MESSAGE_BOUNDARY_EVENT w_TERMINATE_END_EVENT w_LINK_THROW_EVENT w_BOUNDARY_EVENT w_LINK_CATCH_EVENT w_END_EVENT w_EVENT_BASED_GATEWAY w_INCLUSIVE_GATEWAY w_EXCLUSIVE_GATEWAY w_SUB_PROCESS w_ACTIVITY w_PARALLEL_GATEWAY p1 h0 n0 _ T49.heap _)
  · rw [hk24]
    show OGot p.tables e below (T17.setTop (mkF m 83 #[.val (.int p1), .val (.int (6 : Int32)), .val (.ref b2)] [(.int (6 : Int32))])) _
    obtain ⟨_, _, ⟨T51, L51, k51, n51⟩, -, X51, ⟨Lc51, hQ51, l51, y51, z51⟩, st51⟩ := Jvm.LawKit.callS X17 hx (y := (⟨"com/example/chorale/chorale/KindReceivesPinLaw", "kindAt", "(I)Lcom/example/chorale/chorale/FlowGraph$Kind;"⟩ : MethodName)) hown (mvT hZ (ow hw 2 rfl)) (mvT hZ (ow hw 3 rfl)) (mvT hZ (ow hw 4 rfl)) (mvT hZ (ow hw 5 rfl)) (by decide) (backOf (W := 0) (rm1_6 l Z a0 hw [] G  h17 n0 O17 ) hZ (ow hw 5 rfl) (ow hw 4 rfl) (by decide) (by decide)) (g := (mkF m 83 #[.val (.int p1), .val (.int (6 : Int32)), .val (.ref b2)] [(.int (6 : Int32))])) rfl (by rw [hml]; rfl) (argsL := [(.int (6 : Int32))]) (rest := []) (lenOf pd_0 rfl) rfl (by show 2 * 0 + _ ≤ _; exact Nat.le_of_eq rfl) (hb hby at_83) (fun _ _ => ⟨rfl, e17, (by decide : 1 + 0 ≤ _), (by decide : 15 + 0 ≤ _)⟩)
    dsimp only [Pt.U, Pt.locs, Pt.cells, Pt.slots] at X51 l51 y51 z51 st51 hQ51
    subst l51 y51 z51
    obtain ⟨rfl, N51q, e51⟩ := hQ51
    have N51 := Fr.app N17 N51q
    refine OGot.go st51 ?_
    show OGot p.tables e below (T51.setTop (mkF m 86 #[.val (.int p1), .val (.int (6 : Int32)), .val (.ref b2)] [(.ref w_LINK_CATCH_EVENT)])) _
    obtain ⟨cq52, kq52, q52a, q52b, q52c⟩ := isOf hZ e51 (G.2.2.2.2.2.2.2.2.2.2.2.2.2.2.2.1.ext O17.2)
    obtain ⟨_, _, ⟨T52, L52, k52, n52⟩, -, X52, ⟨Lc52, hQ52, l52, y52, z52⟩, st52⟩ := X51.virtualBack hx (y := (⟨"com/example/chorale/chorale/FlowGraph$Kind", "receives", "()Z"⟩ : MethodName)) (z := (⟨"com/example/chorale/chorale/FlowGraph$Kind", "receives", "()Z"⟩ : MethodName)) hown (mvT hZ (ow hw 9 rfl)) (mvT hZ (ow hw 10 rfl)) (notFace_of_selects (args := #[]) (mvT hZ (ow hw 12 rfl))) (mvT hZ (ow hw 12 rfl)) (mvT hZ (ow hw 11 rfl)) (by decide) (backOf (W := 0) (rm2_6 l Z a0 hw [] G  h17 n0 O17 ) hZ (ow hw 13 rfl) (ow hw 7 rfl) (by decide) (by decide)) q52a q52c (g := (mkF m 86 #[.val (.int p1), .val (.int (6 : Int32)), .val (.ref b2)] [(.ref w_LINK_CATCH_EVENT)])) rfl (by rw [hml]; rfl) (Steps.refl _) (argsL := []) (rest := []) (lenOf pd_1 rfl) rfl (by show 2 * 0 + _ ≤ _; exact Nat.le_of_eq rfl) (hb hby at_86) (fun _ _ => ⟨rfl, e51, (by decide : 1 + 0 ≤ _), (by decide : 15 + 0 ≤ _)⟩)
    dsimp only [Pt.U, Pt.locs, Pt.cells, Pt.slots] at X52 l52 y52 z52 st52 hQ52
    subst l52 y52 z52
    obtain ⟨rfl, N52q, e52⟩ := hQ52
    have N52 := Fr.app N51 N52q
    refine OGot.on st52 ?_
    show OGot p.tables e below (T52.setTop (mkF m 89 #[.val (.int p1), .val (.int (6 : Int32)), .val (.ref b2)] [(.int (0 : Int32))])) _
    refine OGot.go (fun t k => XS.aloadN X52.here hx rfl (hb hby at_89) rfl rfl k) ?_
    show OGot p.tables e below (T52.setTop (mkF m 90 #[.val (.int p1), .val (.int (6 : Int32)), .val (.ref b2)] [(.ref b2), (.int (0 : Int32))])) _
    refine OGot.go (fun t k => XS.iloadN X52.here hx rfl (hb hby at_90) rfl k) ?_
    show OGot p.tables e below (T52.setTop (mkF m 91 #[.val (.int p1), .val (.int (6 : Int32)), .val (.ref b2)] [(.int (6 : Int32)), (.ref b2), (.int (0 : Int32))])) _
    obtain ⟨cl53, Ar53, qc53, Sz53, Ng53, Hh53, Gg53⟩ := Va17
    have hin53 : ¬ ((6 : Int32) < 0 ∨ cl53.slots.size ≤ ((6 : Int32)).toNatClampNeg) := inb_of Sz53 ⟨by decide, by decide⟩
    have hat53 : cl53.slots[((6 : Int32)).toNatClampNeg]? = some (.int (0 : Int32)) := Hh53.at hin53 rfl
    refine OGot.go (fun t k => X52.baloadBooleans hx (j := (6 : Int32)) (v := (.int (0 : Int32))) (by rw [e52]; exact Ar53.1) (State.isArrayOf_alike hZ.alike Ar53.2.1) Ar53.2.2 hin53 hat53 (g := (mkF m 91 #[.val (.int p1), .val (.int (6 : Int32)), .val (.ref b2)] [(.int (6 : Int32)), (.ref b2), (.int (0 : Int32))])) rfl rfl (hb hby at_91) _ k) ?_
    show OGot p.tables e below (T52.setTop (mkF m 92 #[.val (.int p1), .val (.int (6 : Int32)), .val (.ref b2)] [(.int (0 : Int32)), (.int (0 : Int32))])) _
    refine OGot.go (fun t k => XS.icmpNo X52.here hx rfl (hb hby at_92) rfl (by decide) k) ?_
    show OGot p.tables e below (T52.setTop (mkF m 95 #[.val (.int p1), .val (.int (6 : Int32)), .val (.ref b2)] [])) _
    refine OGot.go (fun t k => XS.iconst X52.here hx rfl (hb hby at_95) k) ?_
    show OGot p.tables e below (T52.setTop (mkF m 96 #[.val (.int p1), .val (.int (6 : Int32)), .val (.ref b2)] [(.int (1 : Int32))])) _
    refine OGot.go (fun t k => XS.goto X52.here hx rfl (pc0 := 96) (pc' := 100) rfl (hb hby at_96) (by decide) (by decide) k) ?_
    show OGot p.tables e below (T52.setTop (mkF m 100 #[.val (.int p1), .val (.int (6 : Int32)), .val (.ref b2)] [(.int (1 : Int32))])) _
    obtain ⟨fs, hr, hrun, hended, hW, hsame⟩ := X52.leave (v := some (.int (1 : Int32))) (fun h => by rw [Bd.returns] at h; cases h)
    refine ⟨_, _, retN X52 hx (t := .boolean) Bd.returns (by simp) (hb hby at_100) hr, hrun, hended, _, _, rfl, ?_, ⟨_, rfl⟩, hW, hsame.mono (by decide) (by decide)⟩
    exact (⟨rfl, N52⟩ : Q0 Z w_START_EVENT w_RECEPTION w_MESSAGE_START_EVENT w_MESSAGE_BOUNDARY_EVENT w_TERMINATE_END_EVENT w_LINK_THROW_EVENT w_BOUNDARY_EVENT w_LINK_CATCH_EVENT w_END_EVENT w_EVENT_BASED_GATEWAY w_INCLUSIVE_GATEWAY w_EXCLUSIVE_GATEWAY w_SUB_PROCESS w_ACTIVITY w_PARALLEL_GATEWAY p1 h0 n0 _ T52.heap _)
  · rw [hk25]
    show OGot p.tables e below (T17.setTop (mkF m 83 #[.val (.int p1), .val (.int (7 : Int32)), .val (.ref b2)] [(.int (7 : Int32))])) _
    obtain ⟨_, _, ⟨T54, L54, k54, n54⟩, -, X54, ⟨Lc54, hQ54, l54, y54, z54⟩, st54⟩ := Jvm.LawKit.callS X17 hx (y := (⟨"com/example/chorale/chorale/KindReceivesPinLaw", "kindAt", "(I)Lcom/example/chorale/chorale/FlowGraph$Kind;"⟩ : MethodName)) hown (mvT hZ (ow hw 2 rfl)) (mvT hZ (ow hw 3 rfl)) (mvT hZ (ow hw 4 rfl)) (mvT hZ (ow hw 5 rfl)) (by decide) (backOf (W := 0) (rm1_7 l Z a0 hw [] G  h17 n0 O17 ) hZ (ow hw 5 rfl) (ow hw 4 rfl) (by decide) (by decide)) (g := (mkF m 83 #[.val (.int p1), .val (.int (7 : Int32)), .val (.ref b2)] [(.int (7 : Int32))])) rfl (by rw [hml]; rfl) (argsL := [(.int (7 : Int32))]) (rest := []) (lenOf pd_0 rfl) rfl (by show 2 * 0 + _ ≤ _; exact Nat.le_of_eq rfl) (hb hby at_83) (fun _ _ => ⟨rfl, e17, (by decide : 1 + 0 ≤ _), (by decide : 15 + 0 ≤ _)⟩)
    dsimp only [Pt.U, Pt.locs, Pt.cells, Pt.slots] at X54 l54 y54 z54 st54 hQ54
    subst l54 y54 z54
    obtain ⟨rfl, N54q, e54⟩ := hQ54
    have N54 := Fr.app N17 N54q
    refine OGot.go st54 ?_
    show OGot p.tables e below (T54.setTop (mkF m 86 #[.val (.int p1), .val (.int (7 : Int32)), .val (.ref b2)] [(.ref w_RECEPTION)])) _
    obtain ⟨cq55, kq55, q55a, q55b, q55c⟩ := isOf hZ e54 (G.2.2.2.1.ext O17.2)
    obtain ⟨_, _, ⟨T55, L55, k55, n55⟩, -, X55, ⟨Lc55, hQ55, l55, y55, z55⟩, st55⟩ := X54.virtualBack hx (y := (⟨"com/example/chorale/chorale/FlowGraph$Kind", "receives", "()Z"⟩ : MethodName)) (z := (⟨"com/example/chorale/chorale/FlowGraph$Kind", "receives", "()Z"⟩ : MethodName)) hown (mvT hZ (ow hw 9 rfl)) (mvT hZ (ow hw 10 rfl)) (notFace_of_selects (args := #[]) (mvT hZ (ow hw 12 rfl))) (mvT hZ (ow hw 12 rfl)) (mvT hZ (ow hw 11 rfl)) (by decide) (backOf (W := 0) (rm2_7 l Z a0 hw [] G  h17 n0 O17 ) hZ (ow hw 13 rfl) (ow hw 7 rfl) (by decide) (by decide)) q55a q55c (g := (mkF m 86 #[.val (.int p1), .val (.int (7 : Int32)), .val (.ref b2)] [(.ref w_RECEPTION)])) rfl (by rw [hml]; rfl) (Steps.refl _) (argsL := []) (rest := []) (lenOf pd_1 rfl) rfl (by show 2 * 0 + _ ≤ _; exact Nat.le_of_eq rfl) (hb hby at_86) (fun _ _ => ⟨rfl, e54, (by decide : 1 + 0 ≤ _), (by decide : 15 + 0 ≤ _)⟩)
    dsimp only [Pt.U, Pt.locs, Pt.cells, Pt.slots] at X55 l55 y55 z55 st55 hQ55
    subst l55 y55 z55
    obtain ⟨rfl, N55q, e55⟩ := hQ55
    have N55 := Fr.app N54 N55q
    refine OGot.on st55 ?_
    show OGot p.tables e below (T55.setTop (mkF m 89 #[.val (.int p1), .val (.int (7 : Int32)), .val (.ref b2)] [(.int (1 : Int32))])) _
    refine OGot.go (fun t k => XS.aloadN X55.here hx rfl (hb hby at_89) rfl rfl k) ?_
    show OGot p.tables e below (T55.setTop (mkF m 90 #[.val (.int p1), .val (.int (7 : Int32)), .val (.ref b2)] [(.ref b2), (.int (1 : Int32))])) _
    refine OGot.go (fun t k => XS.iloadN X55.here hx rfl (hb hby at_90) rfl k) ?_
    show OGot p.tables e below (T55.setTop (mkF m 91 #[.val (.int p1), .val (.int (7 : Int32)), .val (.ref b2)] [(.int (7 : Int32)), (.ref b2), (.int (1 : Int32))])) _
    obtain ⟨cl56, Ar56, qc56, Sz56, Ng56, Hh56, Gg56⟩ := Va17
    have hin56 : ¬ ((7 : Int32) < 0 ∨ cl56.slots.size ≤ ((7 : Int32)).toNatClampNeg) := inb_of Sz56 ⟨by decide, by decide⟩
    have hat56 : cl56.slots[((7 : Int32)).toNatClampNeg]? = some (.int (1 : Int32)) := Hh56.at hin56 rfl
    refine OGot.go (fun t k => X55.baloadBooleans hx (j := (7 : Int32)) (v := (.int (1 : Int32))) (by rw [e55]; exact Ar56.1) (State.isArrayOf_alike hZ.alike Ar56.2.1) Ar56.2.2 hin56 hat56 (g := (mkF m 91 #[.val (.int p1), .val (.int (7 : Int32)), .val (.ref b2)] [(.int (7 : Int32)), (.ref b2), (.int (1 : Int32))])) rfl rfl (hb hby at_91) _ k) ?_
    show OGot p.tables e below (T55.setTop (mkF m 92 #[.val (.int p1), .val (.int (7 : Int32)), .val (.ref b2)] [(.int (1 : Int32)), (.int (1 : Int32))])) _
    refine OGot.go (fun t k => XS.icmpNo X55.here hx rfl (hb hby at_92) rfl (by decide) k) ?_
    show OGot p.tables e below (T55.setTop (mkF m 95 #[.val (.int p1), .val (.int (7 : Int32)), .val (.ref b2)] [])) _
    refine OGot.go (fun t k => XS.iconst X55.here hx rfl (hb hby at_95) k) ?_
    show OGot p.tables e below (T55.setTop (mkF m 96 #[.val (.int p1), .val (.int (7 : Int32)), .val (.ref b2)] [(.int (1 : Int32))])) _
    refine OGot.go (fun t k => XS.goto X55.here hx rfl (pc0 := 96) (pc' := 100) rfl (hb hby at_96) (by decide) (by decide) k) ?_
    show OGot p.tables e below (T55.setTop (mkF m 100 #[.val (.int p1), .val (.int (7 : Int32)), .val (.ref b2)] [(.int (1 : Int32))])) _
    obtain ⟨fs, hr, hrun, hended, hW, hsame⟩ := X55.leave (v := some (.int (1 : Int32))) (fun h => by rw [Bd.returns] at h; cases h)
    refine ⟨_, _, retN X55 hx (t := .boolean) Bd.returns (by simp) (hb hby at_100) hr, hrun, hended, _, _, rfl, ?_, ⟨_, rfl⟩, hW, hsame.mono (by decide) (by decide)⟩
    exact (⟨rfl, N55⟩ : Q0 Z w_START_EVENT w_RECEPTION w_MESSAGE_START_EVENT w_MESSAGE_BOUNDARY_EVENT w_TERMINATE_END_EVENT w_LINK_THROW_EVENT w_BOUNDARY_EVENT w_LINK_CATCH_EVENT w_END_EVENT w_EVENT_BASED_GATEWAY w_INCLUSIVE_GATEWAY w_EXCLUSIVE_GATEWAY w_SUB_PROCESS w_ACTIVITY w_PARALLEL_GATEWAY p1 h0 n0 _ T55.heap _)
  · rw [hk26]
    show OGot p.tables e below (T17.setTop (mkF m 83 #[.val (.int p1), .val (.int (8 : Int32)), .val (.ref b2)] [(.int (8 : Int32))])) _
    obtain ⟨_, _, ⟨T57, L57, k57, n57⟩, -, X57, ⟨Lc57, hQ57, l57, y57, z57⟩, st57⟩ := Jvm.LawKit.callS X17 hx (y := (⟨"com/example/chorale/chorale/KindReceivesPinLaw", "kindAt", "(I)Lcom/example/chorale/chorale/FlowGraph$Kind;"⟩ : MethodName)) hown (mvT hZ (ow hw 2 rfl)) (mvT hZ (ow hw 3 rfl)) (mvT hZ (ow hw 4 rfl)) (mvT hZ (ow hw 5 rfl)) (by decide) (backOf (W := 0) (rm1_8 l Z a0 hw [] G  h17 n0 O17 ) hZ (ow hw 5 rfl) (ow hw 4 rfl) (by decide) (by decide)) (g := (mkF m 83 #[.val (.int p1), .val (.int (8 : Int32)), .val (.ref b2)] [(.int (8 : Int32))])) rfl (by rw [hml]; rfl) (argsL := [(.int (8 : Int32))]) (rest := []) (lenOf pd_0 rfl) rfl (by show 2 * 0 + _ ≤ _; exact Nat.le_of_eq rfl) (hb hby at_83) (fun _ _ => ⟨rfl, e17, (by decide : 1 + 0 ≤ _), (by decide : 15 + 0 ≤ _)⟩)
    dsimp only [Pt.U, Pt.locs, Pt.cells, Pt.slots] at X57 l57 y57 z57 st57 hQ57
    subst l57 y57 z57
    obtain ⟨rfl, N57q, e57⟩ := hQ57
    have N57 := Fr.app N17 N57q
    refine OGot.go st57 ?_
    show OGot p.tables e below (T57.setTop (mkF m 86 #[.val (.int p1), .val (.int (8 : Int32)), .val (.ref b2)] [(.ref w_EXCLUSIVE_GATEWAY)])) _
    obtain ⟨cq58, kq58, q58a, q58b, q58c⟩ := isOf hZ e57 (G.2.2.2.2.2.2.2.2.2.2.2.2.2.2.2.2.2.2.2.2.2.2.2.1.ext O17.2)
    obtain ⟨_, _, ⟨T58, L58, k58, n58⟩, -, X58, ⟨Lc58, hQ58, l58, y58, z58⟩, st58⟩ := X57.virtualBack hx (y := (⟨"com/example/chorale/chorale/FlowGraph$Kind", "receives", "()Z"⟩ : MethodName)) (z := (⟨"com/example/chorale/chorale/FlowGraph$Kind", "receives", "()Z"⟩ : MethodName)) hown (mvT hZ (ow hw 9 rfl)) (mvT hZ (ow hw 10 rfl)) (notFace_of_selects (args := #[]) (mvT hZ (ow hw 12 rfl))) (mvT hZ (ow hw 12 rfl)) (mvT hZ (ow hw 11 rfl)) (by decide) (backOf (W := 0) (rm2_8 l Z a0 hw [] G  h17 n0 O17 ) hZ (ow hw 13 rfl) (ow hw 7 rfl) (by decide) (by decide)) q58a q58c (g := (mkF m 86 #[.val (.int p1), .val (.int (8 : Int32)), .val (.ref b2)] [(.ref w_EXCLUSIVE_GATEWAY)])) rfl (by rw [hml]; rfl) (Steps.refl _) (argsL := []) (rest := []) (lenOf pd_1 rfl) rfl (by show 2 * 0 + _ ≤ _; exact Nat.le_of_eq rfl) (hb hby at_86) (fun _ _ => ⟨rfl, e57, (by decide : 1 + 0 ≤ _), (by decide : 15 + 0 ≤ _)⟩)
    dsimp only [Pt.U, Pt.locs, Pt.cells, Pt.slots] at X58 l58 y58 z58 st58 hQ58
    subst l58 y58 z58
    obtain ⟨rfl, N58q, e58⟩ := hQ58
    have N58 := Fr.app N57 N58q
    refine OGot.on st58 ?_
    show OGot p.tables e below (T58.setTop (mkF m 89 #[.val (.int p1), .val (.int (8 : Int32)), .val (.ref b2)] [(.int (0 : Int32))])) _
    refine OGot.go (fun t k => XS.aloadN X58.here hx rfl (hb hby at_89) rfl rfl k) ?_
    show OGot p.tables e below (T58.setTop (mkF m 90 #[.val (.int p1), .val (.int (8 : Int32)), .val (.ref b2)] [(.ref b2), (.int (0 : Int32))])) _
    refine OGot.go (fun t k => XS.iloadN X58.here hx rfl (hb hby at_90) rfl k) ?_
    show OGot p.tables e below (T58.setTop (mkF m 91 #[.val (.int p1), .val (.int (8 : Int32)), .val (.ref b2)] [(.int (8 : Int32)), (.ref b2), (.int (0 : Int32))])) _
    obtain ⟨cl59, Ar59, qc59, Sz59, Ng59, Hh59, Gg59⟩ := Va17
    have hin59 : ¬ ((8 : Int32) < 0 ∨ cl59.slots.size ≤ ((8 : Int32)).toNatClampNeg) := inb_of Sz59 ⟨by decide, by decide⟩
    have hat59 : cl59.slots[((8 : Int32)).toNatClampNeg]? = some (.int (0 : Int32)) := Hh59.at hin59 rfl
    refine OGot.go (fun t k => X58.baloadBooleans hx (j := (8 : Int32)) (v := (.int (0 : Int32))) (by rw [e58]; exact Ar59.1) (State.isArrayOf_alike hZ.alike Ar59.2.1) Ar59.2.2 hin59 hat59 (g := (mkF m 91 #[.val (.int p1), .val (.int (8 : Int32)), .val (.ref b2)] [(.int (8 : Int32)), (.ref b2), (.int (0 : Int32))])) rfl rfl (hb hby at_91) _ k) ?_
    show OGot p.tables e below (T58.setTop (mkF m 92 #[.val (.int p1), .val (.int (8 : Int32)), .val (.ref b2)] [(.int (0 : Int32)), (.int (0 : Int32))])) _
    refine OGot.go (fun t k => XS.icmpNo X58.here hx rfl (hb hby at_92) rfl (by decide) k) ?_
    show OGot p.tables e below (T58.setTop (mkF m 95 #[.val (.int p1), .val (.int (8 : Int32)), .val (.ref b2)] [])) _
    refine OGot.go (fun t k => XS.iconst X58.here hx rfl (hb hby at_95) k) ?_
    show OGot p.tables e below (T58.setTop (mkF m 96 #[.val (.int p1), .val (.int (8 : Int32)), .val (.ref b2)] [(.int (1 : Int32))])) _
    refine OGot.go (fun t k => XS.goto X58.here hx rfl (pc0 := 96) (pc' := 100) rfl (hb hby at_96) (by decide) (by decide) k) ?_
    show OGot p.tables e below (T58.setTop (mkF m 100 #[.val (.int p1), .val (.int (8 : Int32)), .val (.ref b2)] [(.int (1 : Int32))])) _
    obtain ⟨fs, hr, hrun, hended, hW, hsame⟩ := X58.leave (v := some (.int (1 : Int32))) (fun h => by rw [Bd.returns] at h; cases h)
    refine ⟨_, _, retN X58 hx (t := .boolean) Bd.returns (by simp) (hb hby at_100) hr, hrun, hended, _, _, rfl, ?_, ⟨_, rfl⟩, hW, hsame.mono (by decide) (by decide)⟩
    exact (⟨rfl, N58⟩ : Q0 Z w_START_EVENT w_RECEPTION w_MESSAGE_START_EVENT w_MESSAGE_BOUNDARY_EVENT w_TERMINATE_END_EVENT w_LINK_THROW_EVENT w_BOUNDARY_EVENT w_LINK_CATCH_EVENT w_END_EVENT w_EVENT_BASED_GATEWAY w_INCLUSIVE_GATEWAY w_EXCLUSIVE_GATEWAY w_SUB_PROCESS w_ACTIVITY w_PARALLEL_GATEWAY p1 h0 n0 _ T58.heap _)
  · rw [hk27]
    show OGot p.tables e below (T17.setTop (mkF m 83 #[.val (.int p1), .val (.int (9 : Int32)), .val (.ref b2)] [(.int (9 : Int32))])) _
    obtain ⟨_, _, ⟨T60, L60, k60, n60⟩, -, X60, ⟨Lc60, hQ60, l60, y60, z60⟩, st60⟩ := Jvm.LawKit.callS X17 hx (y := (⟨"com/example/chorale/chorale/KindReceivesPinLaw", "kindAt", "(I)Lcom/example/chorale/chorale/FlowGraph$Kind;"⟩ : MethodName)) hown (mvT hZ (ow hw 2 rfl)) (mvT hZ (ow hw 3 rfl)) (mvT hZ (ow hw 4 rfl)) (mvT hZ (ow hw 5 rfl)) (by decide) (backOf (W := 0) (rm1_9 l Z a0 hw [] G  h17 n0 O17 ) hZ (ow hw 5 rfl) (ow hw 4 rfl) (by decide) (by decide)) (g := (mkF m 83 #[.val (.int p1), .val (.int (9 : Int32)), .val (.ref b2)] [(.int (9 : Int32))])) rfl (by rw [hml]; rfl) (argsL := [(.int (9 : Int32))]) (rest := []) (lenOf pd_0 rfl) rfl (by show 2 * 0 + _ ≤ _; exact Nat.le_of_eq rfl) (hb hby at_83) (fun _ _ => ⟨rfl, e17, (by decide : 1 + 0 ≤ _), (by decide : 15 + 0 ≤ _)⟩)
    dsimp only [Pt.U, Pt.locs, Pt.cells, Pt.slots] at X60 l60 y60 z60 st60 hQ60
    subst l60 y60 z60
    obtain ⟨rfl, N60q, e60⟩ := hQ60
    have N60 := Fr.app N17 N60q
    refine OGot.go st60 ?_
    show OGot p.tables e below (T60.setTop (mkF m 86 #[.val (.int p1), .val (.int (9 : Int32)), .val (.ref b2)] [(.ref w_PARALLEL_GATEWAY)])) _
    obtain ⟨cq61, kq61, q61a, q61b, q61c⟩ := isOf hZ e60 (G.2.2.2.2.2.2.2.2.2.2.2.2.2.2.2.2.2.2.2.2.2.2.2.2.2.2.2.2.2.1.ext O17.2)
    obtain ⟨_, _, ⟨T61, L61, k61, n61⟩, -, X61, ⟨Lc61, hQ61, l61, y61, z61⟩, st61⟩ := X60.virtualBack hx (y := (⟨"com/example/chorale/chorale/FlowGraph$Kind", "receives", "()Z"⟩ : MethodName)) (z := (⟨"com/example/chorale/chorale/FlowGraph$Kind", "receives", "()Z"⟩ : MethodName)) hown (mvT hZ (ow hw 9 rfl)) (mvT hZ (ow hw 10 rfl)) (notFace_of_selects (args := #[]) (mvT hZ (ow hw 12 rfl))) (mvT hZ (ow hw 12 rfl)) (mvT hZ (ow hw 11 rfl)) (by decide) (backOf (W := 0) (rm2_9 l Z a0 hw [] G  h17 n0 O17 ) hZ (ow hw 13 rfl) (ow hw 7 rfl) (by decide) (by decide)) q61a q61c (g := (mkF m 86 #[.val (.int p1), .val (.int (9 : Int32)), .val (.ref b2)] [(.ref w_PARALLEL_GATEWAY)])) rfl (by rw [hml]; rfl) (Steps.refl _) (argsL := []) (rest := []) (lenOf pd_1 rfl) rfl (by show 2 * 0 + _ ≤ _; exact Nat.le_of_eq rfl) (hb hby at_86) (fun _ _ => ⟨rfl, e60, (by decide : 1 + 0 ≤ _), (by decide : 15 + 0 ≤ _)⟩)
    dsimp only [Pt.U, Pt.locs, Pt.cells, Pt.slots] at X61 l61 y61 z61 st61 hQ61
    subst l61 y61 z61
    obtain ⟨rfl, N61q, e61⟩ := hQ61
    have N61 := Fr.app N60 N61q
    refine OGot.on st61 ?_
    show OGot p.tables e below (T61.setTop (mkF m 89 #[.val (.int p1), .val (.int (9 : Int32)), .val (.ref b2)] [(.int (0 : Int32))])) _
    refine OGot.go (fun t k => XS.aloadN X61.here hx rfl (hb hby at_89) rfl rfl k) ?_
    show OGot p.tables e below (T61.setTop (mkF m 90 #[.val (.int p1), .val (.int (9 : Int32)), .val (.ref b2)] [(.ref b2), (.int (0 : Int32))])) _
    refine OGot.go (fun t k => XS.iloadN X61.here hx rfl (hb hby at_90) rfl k) ?_
    show OGot p.tables e below (T61.setTop (mkF m 91 #[.val (.int p1), .val (.int (9 : Int32)), .val (.ref b2)] [(.int (9 : Int32)), (.ref b2), (.int (0 : Int32))])) _
    obtain ⟨cl62, Ar62, qc62, Sz62, Ng62, Hh62, Gg62⟩ := Va17
    have hin62 : ¬ ((9 : Int32) < 0 ∨ cl62.slots.size ≤ ((9 : Int32)).toNatClampNeg) := inb_of Sz62 ⟨by decide, by decide⟩
    have hat62 : cl62.slots[((9 : Int32)).toNatClampNeg]? = some (.int (0 : Int32)) := Hh62.at hin62 rfl
    refine OGot.go (fun t k => X61.baloadBooleans hx (j := (9 : Int32)) (v := (.int (0 : Int32))) (by rw [e61]; exact Ar62.1) (State.isArrayOf_alike hZ.alike Ar62.2.1) Ar62.2.2 hin62 hat62 (g := (mkF m 91 #[.val (.int p1), .val (.int (9 : Int32)), .val (.ref b2)] [(.int (9 : Int32)), (.ref b2), (.int (0 : Int32))])) rfl rfl (hb hby at_91) _ k) ?_
    show OGot p.tables e below (T61.setTop (mkF m 92 #[.val (.int p1), .val (.int (9 : Int32)), .val (.ref b2)] [(.int (0 : Int32)), (.int (0 : Int32))])) _
    refine OGot.go (fun t k => XS.icmpNo X61.here hx rfl (hb hby at_92) rfl (by decide) k) ?_
    show OGot p.tables e below (T61.setTop (mkF m 95 #[.val (.int p1), .val (.int (9 : Int32)), .val (.ref b2)] [])) _
    refine OGot.go (fun t k => XS.iconst X61.here hx rfl (hb hby at_95) k) ?_
    show OGot p.tables e below (T61.setTop (mkF m 96 #[.val (.int p1), .val (.int (9 : Int32)), .val (.ref b2)] [(.int (1 : Int32))])) _
    refine OGot.go (fun t k => XS.goto X61.here hx rfl (pc0 := 96) (pc' := 100) rfl (hb hby at_96) (by decide) (by decide) k) ?_
    show OGot p.tables e below (T61.setTop (mkF m 100 #[.val (.int p1), .val (.int (9 : Int32)), .val (.ref b2)] [(.int (1 : Int32))])) _
    obtain ⟨fs, hr, hrun, hended, hW, hsame⟩ := X61.leave (v := some (.int (1 : Int32))) (fun h => by rw [Bd.returns] at h; cases h)
    refine ⟨_, _, retN X61 hx (t := .boolean) Bd.returns (by simp) (hb hby at_100) hr, hrun, hended, _, _, rfl, ?_, ⟨_, rfl⟩, hW, hsame.mono (by decide) (by decide)⟩
    exact (⟨rfl, N61⟩ : Q0 Z w_START_EVENT w_RECEPTION w_MESSAGE_START_EVENT w_MESSAGE_BOUNDARY_EVENT w_TERMINATE_END_EVENT w_LINK_THROW_EVENT w_BOUNDARY_EVENT w_LINK_CATCH_EVENT w_END_EVENT w_EVENT_BASED_GATEWAY w_INCLUSIVE_GATEWAY w_EXCLUSIVE_GATEWAY w_SUB_PROCESS w_ACTIVITY w_PARALLEL_GATEWAY p1 h0 n0 _ T61.heap _)
  · rw [hk28]
    show OGot p.tables e below (T17.setTop (mkF m 83 #[.val (.int p1), .val (.int (10 : Int32)), .val (.ref b2)] [(.int (10 : Int32))])) _
    obtain ⟨_, _, ⟨T63, L63, k63, n63⟩, -, X63, ⟨Lc63, hQ63, l63, y63, z63⟩, st63⟩ := Jvm.LawKit.callS X17 hx (y := (⟨"com/example/chorale/chorale/KindReceivesPinLaw", "kindAt", "(I)Lcom/example/chorale/chorale/FlowGraph$Kind;"⟩ : MethodName)) hown (mvT hZ (ow hw 2 rfl)) (mvT hZ (ow hw 3 rfl)) (mvT hZ (ow hw 4 rfl)) (mvT hZ (ow hw 5 rfl)) (by decide) (backOf (W := 0) (rm1_10 l Z a0 hw [] G  h17 n0 O17 ) hZ (ow hw 5 rfl) (ow hw 4 rfl) (by decide) (by decide)) (g := (mkF m 83 #[.val (.int p1), .val (.int (10 : Int32)), .val (.ref b2)] [(.int (10 : Int32))])) rfl (by rw [hml]; rfl) (argsL := [(.int (10 : Int32))]) (rest := []) (lenOf pd_0 rfl) rfl (by show 2 * 0 + _ ≤ _; exact Nat.le_of_eq rfl) (hb hby at_83) (fun _ _ => ⟨rfl, e17, (by decide : 1 + 0 ≤ _), (by decide : 15 + 0 ≤ _)⟩)
    dsimp only [Pt.U, Pt.locs, Pt.cells, Pt.slots] at X63 l63 y63 z63 st63 hQ63
    subst l63 y63 z63
    obtain ⟨rfl, N63q, e63⟩ := hQ63
    have N63 := Fr.app N17 N63q
    refine OGot.go st63 ?_
    show OGot p.tables e below (T63.setTop (mkF m 86 #[.val (.int p1), .val (.int (10 : Int32)), .val (.ref b2)] [(.ref w_INCLUSIVE_GATEWAY)])) _
    obtain ⟨cq64, kq64, q64a, q64b, q64c⟩ := isOf hZ e63 (G.2.2.2.2.2.2.2.2.2.2.2.2.2.2.2.2.2.2.2.2.2.1.ext O17.2)
    obtain ⟨_, _, ⟨T64, L64, k64, n64⟩, -, X64, ⟨Lc64, hQ64, l64, y64, z64⟩, st64⟩ := X63.virtualBack hx (y := (⟨"com/example/chorale/chorale/FlowGraph$Kind", "receives", "()Z"⟩ : MethodName)) (z := (⟨"com/example/chorale/chorale/FlowGraph$Kind", "receives", "()Z"⟩ : MethodName)) hown (mvT hZ (ow hw 9 rfl)) (mvT hZ (ow hw 10 rfl)) (notFace_of_selects (args := #[]) (mvT hZ (ow hw 12 rfl))) (mvT hZ (ow hw 12 rfl)) (mvT hZ (ow hw 11 rfl)) (by decide) (backOf (W := 0) (rm2_10 l Z a0 hw [] G  h17 n0 O17 ) hZ (ow hw 13 rfl) (ow hw 7 rfl) (by decide) (by decide)) q64a q64c (g := (mkF m 86 #[.val (.int p1), .val (.int (10 : Int32)), .val (.ref b2)] [(.ref w_INCLUSIVE_GATEWAY)])) rfl (by rw [hml]; rfl) (Steps.refl _) (argsL := []) (rest := []) (lenOf pd_1 rfl) rfl (by show 2 * 0 + _ ≤ _; exact Nat.le_of_eq rfl) (hb hby at_86) (fun _ _ => ⟨rfl, e63, (by decide : 1 + 0 ≤ _), (by decide : 15 + 0 ≤ _)⟩)
    dsimp only [Pt.U, Pt.locs, Pt.cells, Pt.slots] at X64 l64 y64 z64 st64 hQ64
    subst l64 y64 z64
    obtain ⟨rfl, N64q, e64⟩ := hQ64
    have N64 := Fr.app N63 N64q
    refine OGot.on st64 ?_
    show OGot p.tables e below (T64.setTop (mkF m 89 #[.val (.int p1), .val (.int (10 : Int32)), .val (.ref b2)] [(.int (0 : Int32))])) _
    refine OGot.go (fun t k => XS.aloadN X64.here hx rfl (hb hby at_89) rfl rfl k) ?_
    show OGot p.tables e below (T64.setTop (mkF m 90 #[.val (.int p1), .val (.int (10 : Int32)), .val (.ref b2)] [(.ref b2), (.int (0 : Int32))])) _
    refine OGot.go (fun t k => XS.iloadN X64.here hx rfl (hb hby at_90) rfl k) ?_
    show OGot p.tables e below (T64.setTop (mkF m 91 #[.val (.int p1), .val (.int (10 : Int32)), .val (.ref b2)] [(.int (10 : Int32)), (.ref b2), (.int (0 : Int32))])) _
    obtain ⟨cl65, Ar65, qc65, Sz65, Ng65, Hh65, Gg65⟩ := Va17
    have hin65 : ¬ ((10 : Int32) < 0 ∨ cl65.slots.size ≤ ((10 : Int32)).toNatClampNeg) := inb_of Sz65 ⟨by decide, by decide⟩
    have hat65 : cl65.slots[((10 : Int32)).toNatClampNeg]? = some (.int (0 : Int32)) := Hh65.at hin65 rfl
    refine OGot.go (fun t k => X64.baloadBooleans hx (j := (10 : Int32)) (v := (.int (0 : Int32))) (by rw [e64]; exact Ar65.1) (State.isArrayOf_alike hZ.alike Ar65.2.1) Ar65.2.2 hin65 hat65 (g := (mkF m 91 #[.val (.int p1), .val (.int (10 : Int32)), .val (.ref b2)] [(.int (10 : Int32)), (.ref b2), (.int (0 : Int32))])) rfl rfl (hb hby at_91) _ k) ?_
    show OGot p.tables e below (T64.setTop (mkF m 92 #[.val (.int p1), .val (.int (10 : Int32)), .val (.ref b2)] [(.int (0 : Int32)), (.int (0 : Int32))])) _
    refine OGot.go (fun t k => XS.icmpNo X64.here hx rfl (hb hby at_92) rfl (by decide) k) ?_
    show OGot p.tables e below (T64.setTop (mkF m 95 #[.val (.int p1), .val (.int (10 : Int32)), .val (.ref b2)] [])) _
    refine OGot.go (fun t k => XS.iconst X64.here hx rfl (hb hby at_95) k) ?_
    show OGot p.tables e below (T64.setTop (mkF m 96 #[.val (.int p1), .val (.int (10 : Int32)), .val (.ref b2)] [(.int (1 : Int32))])) _
    refine OGot.go (fun t k => XS.goto X64.here hx rfl (pc0 := 96) (pc' := 100) rfl (hb hby at_96) (by decide) (by decide) k) ?_
    show OGot p.tables e below (T64.setTop (mkF m 100 #[.val (.int p1), .val (.int (10 : Int32)), .val (.ref b2)] [(.int (1 : Int32))])) _
    obtain ⟨fs, hr, hrun, hended, hW, hsame⟩ := X64.leave (v := some (.int (1 : Int32))) (fun h => by rw [Bd.returns] at h; cases h)
    refine ⟨_, _, retN X64 hx (t := .boolean) Bd.returns (by simp) (hb hby at_100) hr, hrun, hended, _, _, rfl, ?_, ⟨_, rfl⟩, hW, hsame.mono (by decide) (by decide)⟩
    exact (⟨rfl, N64⟩ : Q0 Z w_START_EVENT w_RECEPTION w_MESSAGE_START_EVENT w_MESSAGE_BOUNDARY_EVENT w_TERMINATE_END_EVENT w_LINK_THROW_EVENT w_BOUNDARY_EVENT w_LINK_CATCH_EVENT w_END_EVENT w_EVENT_BASED_GATEWAY w_INCLUSIVE_GATEWAY w_EXCLUSIVE_GATEWAY w_SUB_PROCESS w_ACTIVITY w_PARALLEL_GATEWAY p1 h0 n0 _ T64.heap _)
  · rw [hk29]
    show OGot p.tables e below (T17.setTop (mkF m 83 #[.val (.int p1), .val (.int (11 : Int32)), .val (.ref b2)] [(.int (11 : Int32))])) _
    obtain ⟨_, _, ⟨T66, L66, k66, n66⟩, -, X66, ⟨Lc66, hQ66, l66, y66, z66⟩, st66⟩ := Jvm.LawKit.callS X17 hx (y := (⟨"com/example/chorale/chorale/KindReceivesPinLaw", "kindAt", "(I)Lcom/example/chorale/chorale/FlowGraph$Kind;"⟩ : MethodName)) hown (mvT hZ (ow hw 2 rfl)) (mvT hZ (ow hw 3 rfl)) (mvT hZ (ow hw 4 rfl)) (mvT hZ (ow hw 5 rfl)) (by decide) (backOf (W := 0) (rm1_11 l Z a0 hw [] G  h17 n0 O17 ) hZ (ow hw 5 rfl) (ow hw 4 rfl) (by decide) (by decide)) (g := (mkF m 83 #[.val (.int p1), .val (.int (11 : Int32)), .val (.ref b2)] [(.int (11 : Int32))])) rfl (by rw [hml]; rfl) (argsL := [(.int (11 : Int32))]) (rest := []) (lenOf pd_0 rfl) rfl (by show 2 * 0 + _ ≤ _; exact Nat.le_of_eq rfl) (hb hby at_83) (fun _ _ => ⟨rfl, e17, (by decide : 1 + 0 ≤ _), (by decide : 15 + 0 ≤ _)⟩)
    dsimp only [Pt.U, Pt.locs, Pt.cells, Pt.slots] at X66 l66 y66 z66 st66 hQ66
    subst l66 y66 z66
    obtain ⟨rfl, N66q, e66⟩ := hQ66
    have N66 := Fr.app N17 N66q
    refine OGot.go st66 ?_
    show OGot p.tables e below (T66.setTop (mkF m 86 #[.val (.int p1), .val (.int (11 : Int32)), .val (.ref b2)] [(.ref w_EVENT_BASED_GATEWAY)])) _
    obtain ⟨cq67, kq67, q67a, q67b, q67c⟩ := isOf hZ e66 (G.2.2.2.2.2.2.2.2.2.2.2.2.2.2.2.2.2.2.2.1.ext O17.2)
    obtain ⟨_, _, ⟨T67, L67, k67, n67⟩, -, X67, ⟨Lc67, hQ67, l67, y67, z67⟩, st67⟩ := X66.virtualBack hx (y := (⟨"com/example/chorale/chorale/FlowGraph$Kind", "receives", "()Z"⟩ : MethodName)) (z := (⟨"com/example/chorale/chorale/FlowGraph$Kind", "receives", "()Z"⟩ : MethodName)) hown (mvT hZ (ow hw 9 rfl)) (mvT hZ (ow hw 10 rfl)) (notFace_of_selects (args := #[]) (mvT hZ (ow hw 12 rfl))) (mvT hZ (ow hw 12 rfl)) (mvT hZ (ow hw 11 rfl)) (by decide) (backOf (W := 0) (rm2_11 l Z a0 hw [] G  h17 n0 O17 ) hZ (ow hw 13 rfl) (ow hw 7 rfl) (by decide) (by decide)) q67a q67c (g := (mkF m 86 #[.val (.int p1), .val (.int (11 : Int32)), .val (.ref b2)] [(.ref w_EVENT_BASED_GATEWAY)])) rfl (by rw [hml]; rfl) (Steps.refl _) (argsL := []) (rest := []) (lenOf pd_1 rfl) rfl (by show 2 * 0 + _ ≤ _; exact Nat.le_of_eq rfl) (hb hby at_86) (fun _ _ => ⟨rfl, e66, (by decide : 1 + 0 ≤ _), (by decide : 15 + 0 ≤ _)⟩)
    dsimp only [Pt.U, Pt.locs, Pt.cells, Pt.slots] at X67 l67 y67 z67 st67 hQ67
    subst l67 y67 z67
    obtain ⟨rfl, N67q, e67⟩ := hQ67
    have N67 := Fr.app N66 N67q
    refine OGot.on st67 ?_
    show OGot p.tables e below (T67.setTop (mkF m 89 #[.val (.int p1), .val (.int (11 : Int32)), .val (.ref b2)] [(.int (0 : Int32))])) _
    refine OGot.go (fun t k => XS.aloadN X67.here hx rfl (hb hby at_89) rfl rfl k) ?_
    show OGot p.tables e below (T67.setTop (mkF m 90 #[.val (.int p1), .val (.int (11 : Int32)), .val (.ref b2)] [(.ref b2), (.int (0 : Int32))])) _
    refine OGot.go (fun t k => XS.iloadN X67.here hx rfl (hb hby at_90) rfl k) ?_
    show OGot p.tables e below (T67.setTop (mkF m 91 #[.val (.int p1), .val (.int (11 : Int32)), .val (.ref b2)] [(.int (11 : Int32)), (.ref b2), (.int (0 : Int32))])) _
    obtain ⟨cl68, Ar68, qc68, Sz68, Ng68, Hh68, Gg68⟩ := Va17
    have hin68 : ¬ ((11 : Int32) < 0 ∨ cl68.slots.size ≤ ((11 : Int32)).toNatClampNeg) := inb_of Sz68 ⟨by decide, by decide⟩
    have hat68 : cl68.slots[((11 : Int32)).toNatClampNeg]? = some (.int (0 : Int32)) := Hh68.at hin68 rfl
    refine OGot.go (fun t k => X67.baloadBooleans hx (j := (11 : Int32)) (v := (.int (0 : Int32))) (by rw [e67]; exact Ar68.1) (State.isArrayOf_alike hZ.alike Ar68.2.1) Ar68.2.2 hin68 hat68 (g := (mkF m 91 #[.val (.int p1), .val (.int (11 : Int32)), .val (.ref b2)] [(.int (11 : Int32)), (.ref b2), (.int (0 : Int32))])) rfl rfl (hb hby at_91) _ k) ?_
    show OGot p.tables e below (T67.setTop (mkF m 92 #[.val (.int p1), .val (.int (11 : Int32)), .val (.ref b2)] [(.int (0 : Int32)), (.int (0 : Int32))])) _
    refine OGot.go (fun t k => XS.icmpNo X67.here hx rfl (hb hby at_92) rfl (by decide) k) ?_
    show OGot p.tables e below (T67.setTop (mkF m 95 #[.val (.int p1), .val (.int (11 : Int32)), .val (.ref b2)] [])) _
    refine OGot.go (fun t k => XS.iconst X67.here hx rfl (hb hby at_95) k) ?_
    show OGot p.tables e below (T67.setTop (mkF m 96 #[.val (.int p1), .val (.int (11 : Int32)), .val (.ref b2)] [(.int (1 : Int32))])) _
    refine OGot.go (fun t k => XS.goto X67.here hx rfl (pc0 := 96) (pc' := 100) rfl (hb hby at_96) (by decide) (by decide) k) ?_
    show OGot p.tables e below (T67.setTop (mkF m 100 #[.val (.int p1), .val (.int (11 : Int32)), .val (.ref b2)] [(.int (1 : Int32))])) _
    obtain ⟨fs, hr, hrun, hended, hW, hsame⟩ := X67.leave (v := some (.int (1 : Int32))) (fun h => by rw [Bd.returns] at h; cases h)
    refine ⟨_, _, retN X67 hx (t := .boolean) Bd.returns (by simp) (hb hby at_100) hr, hrun, hended, _, _, rfl, ?_, ⟨_, rfl⟩, hW, hsame.mono (by decide) (by decide)⟩
    exact (⟨rfl, N67⟩ : Q0 Z w_START_EVENT w_RECEPTION w_MESSAGE_START_EVENT w_MESSAGE_BOUNDARY_EVENT w_TERMINATE_END_EVENT w_LINK_THROW_EVENT w_BOUNDARY_EVENT w_LINK_CATCH_EVENT w_END_EVENT w_EVENT_BASED_GATEWAY w_INCLUSIVE_GATEWAY w_EXCLUSIVE_GATEWAY w_SUB_PROCESS w_ACTIVITY w_PARALLEL_GATEWAY p1 h0 n0 _ T67.heap _)
  · rw [hk30]
    show OGot p.tables e below (T17.setTop (mkF m 83 #[.val (.int p1), .val (.int (12 : Int32)), .val (.ref b2)] [(.int (12 : Int32))])) _
    obtain ⟨_, _, ⟨T69, L69, k69, n69⟩, -, X69, ⟨Lc69, hQ69, l69, y69, z69⟩, st69⟩ := Jvm.LawKit.callS X17 hx (y := (⟨"com/example/chorale/chorale/KindReceivesPinLaw", "kindAt", "(I)Lcom/example/chorale/chorale/FlowGraph$Kind;"⟩ : MethodName)) hown (mvT hZ (ow hw 2 rfl)) (mvT hZ (ow hw 3 rfl)) (mvT hZ (ow hw 4 rfl)) (mvT hZ (ow hw 5 rfl)) (by decide) (backOf (W := 0) (rm1_12 l Z a0 hw [] G  h17 n0 O17 ) hZ (ow hw 5 rfl) (ow hw 4 rfl) (by decide) (by decide)) (g := (mkF m 83 #[.val (.int p1), .val (.int (12 : Int32)), .val (.ref b2)] [(.int (12 : Int32))])) rfl (by rw [hml]; rfl) (argsL := [(.int (12 : Int32))]) (rest := []) (lenOf pd_0 rfl) rfl (by show 2 * 0 + _ ≤ _; exact Nat.le_of_eq rfl) (hb hby at_83) (fun _ _ => ⟨rfl, e17, (by decide : 1 + 0 ≤ _), (by decide : 15 + 0 ≤ _)⟩)
    dsimp only [Pt.U, Pt.locs, Pt.cells, Pt.slots] at X69 l69 y69 z69 st69 hQ69
    subst l69 y69 z69
    obtain ⟨rfl, N69q, e69⟩ := hQ69
    have N69 := Fr.app N17 N69q
    refine OGot.go st69 ?_
    show OGot p.tables e below (T69.setTop (mkF m 86 #[.val (.int p1), .val (.int (12 : Int32)), .val (.ref b2)] [(.ref w_SUB_PROCESS)])) _
    obtain ⟨cq70, kq70, q70a, q70b, q70c⟩ := isOf hZ e69 (G.2.2.2.2.2.2.2.2.2.2.2.2.2.2.2.2.2.2.2.2.2.2.2.2.2.1.ext O17.2)
    obtain ⟨_, _, ⟨T70, L70, k70, n70⟩, -, X70, ⟨Lc70, hQ70, l70, y70, z70⟩, st70⟩ := X69.virtualBack hx (y := (⟨"com/example/chorale/chorale/FlowGraph$Kind", "receives", "()Z"⟩ : MethodName)) (z := (⟨"com/example/chorale/chorale/FlowGraph$Kind", "receives", "()Z"⟩ : MethodName)) hown (mvT hZ (ow hw 9 rfl)) (mvT hZ (ow hw 10 rfl)) (notFace_of_selects (args := #[]) (mvT hZ (ow hw 12 rfl))) (mvT hZ (ow hw 12 rfl)) (mvT hZ (ow hw 11 rfl)) (by decide) (backOf (W := 0) (rm2_12 l Z a0 hw [] G  h17 n0 O17 ) hZ (ow hw 13 rfl) (ow hw 7 rfl) (by decide) (by decide)) q70a q70c (g := (mkF m 86 #[.val (.int p1), .val (.int (12 : Int32)), .val (.ref b2)] [(.ref w_SUB_PROCESS)])) rfl (by rw [hml]; rfl) (Steps.refl _) (argsL := []) (rest := []) (lenOf pd_1 rfl) rfl (by show 2 * 0 + _ ≤ _; exact Nat.le_of_eq rfl) (hb hby at_86) (fun _ _ => ⟨rfl, e69, (by decide : 1 + 0 ≤ _), (by decide : 15 + 0 ≤ _)⟩)
    dsimp only [Pt.U, Pt.locs, Pt.cells, Pt.slots] at X70 l70 y70 z70 st70 hQ70
    subst l70 y70 z70
    obtain ⟨rfl, N70q, e70⟩ := hQ70
    have N70 := Fr.app N69 N70q
    refine OGot.on st70 ?_
    show OGot p.tables e below (T70.setTop (mkF m 89 #[.val (.int p1), .val (.int (12 : Int32)), .val (.ref b2)] [(.int (0 : Int32))])) _
    refine OGot.go (fun t k => XS.aloadN X70.here hx rfl (hb hby at_89) rfl rfl k) ?_
    show OGot p.tables e below (T70.setTop (mkF m 90 #[.val (.int p1), .val (.int (12 : Int32)), .val (.ref b2)] [(.ref b2), (.int (0 : Int32))])) _
    refine OGot.go (fun t k => XS.iloadN X70.here hx rfl (hb hby at_90) rfl k) ?_
    show OGot p.tables e below (T70.setTop (mkF m 91 #[.val (.int p1), .val (.int (12 : Int32)), .val (.ref b2)] [(.int (12 : Int32)), (.ref b2), (.int (0 : Int32))])) _
    obtain ⟨cl71, Ar71, qc71, Sz71, Ng71, Hh71, Gg71⟩ := Va17
    have hin71 : ¬ ((12 : Int32) < 0 ∨ cl71.slots.size ≤ ((12 : Int32)).toNatClampNeg) := inb_of Sz71 ⟨by decide, by decide⟩
    have hat71 : cl71.slots[((12 : Int32)).toNatClampNeg]? = some (.int (0 : Int32)) := Hh71.at hin71 rfl
    refine OGot.go (fun t k => X70.baloadBooleans hx (j := (12 : Int32)) (v := (.int (0 : Int32))) (by rw [e70]; exact Ar71.1) (State.isArrayOf_alike hZ.alike Ar71.2.1) Ar71.2.2 hin71 hat71 (g := (mkF m 91 #[.val (.int p1), .val (.int (12 : Int32)), .val (.ref b2)] [(.int (12 : Int32)), (.ref b2), (.int (0 : Int32))])) rfl rfl (hb hby at_91) _ k) ?_
    show OGot p.tables e below (T70.setTop (mkF m 92 #[.val (.int p1), .val (.int (12 : Int32)), .val (.ref b2)] [(.int (0 : Int32)), (.int (0 : Int32))])) _
    refine OGot.go (fun t k => XS.icmpNo X70.here hx rfl (hb hby at_92) rfl (by decide) k) ?_
    show OGot p.tables e below (T70.setTop (mkF m 95 #[.val (.int p1), .val (.int (12 : Int32)), .val (.ref b2)] [])) _
    refine OGot.go (fun t k => XS.iconst X70.here hx rfl (hb hby at_95) k) ?_
    show OGot p.tables e below (T70.setTop (mkF m 96 #[.val (.int p1), .val (.int (12 : Int32)), .val (.ref b2)] [(.int (1 : Int32))])) _
    refine OGot.go (fun t k => XS.goto X70.here hx rfl (pc0 := 96) (pc' := 100) rfl (hb hby at_96) (by decide) (by decide) k) ?_
    show OGot p.tables e below (T70.setTop (mkF m 100 #[.val (.int p1), .val (.int (12 : Int32)), .val (.ref b2)] [(.int (1 : Int32))])) _
    obtain ⟨fs, hr, hrun, hended, hW, hsame⟩ := X70.leave (v := some (.int (1 : Int32))) (fun h => by rw [Bd.returns] at h; cases h)
    refine ⟨_, _, retN X70 hx (t := .boolean) Bd.returns (by simp) (hb hby at_100) hr, hrun, hended, _, _, rfl, ?_, ⟨_, rfl⟩, hW, hsame.mono (by decide) (by decide)⟩
    exact (⟨rfl, N70⟩ : Q0 Z w_START_EVENT w_RECEPTION w_MESSAGE_START_EVENT w_MESSAGE_BOUNDARY_EVENT w_TERMINATE_END_EVENT w_LINK_THROW_EVENT w_BOUNDARY_EVENT w_LINK_CATCH_EVENT w_END_EVENT w_EVENT_BASED_GATEWAY w_INCLUSIVE_GATEWAY w_EXCLUSIVE_GATEWAY w_SUB_PROCESS w_ACTIVITY w_PARALLEL_GATEWAY p1 h0 n0 _ T70.heap _)
  · rw [hk31]
    show OGot p.tables e below (T17.setTop (mkF m 83 #[.val (.int p1), .val (.int (13 : Int32)), .val (.ref b2)] [(.int (13 : Int32))])) _
    obtain ⟨_, _, ⟨T72, L72, k72, n72⟩, -, X72, ⟨Lc72, hQ72, l72, y72, z72⟩, st72⟩ := Jvm.LawKit.callS X17 hx (y := (⟨"com/example/chorale/chorale/KindReceivesPinLaw", "kindAt", "(I)Lcom/example/chorale/chorale/FlowGraph$Kind;"⟩ : MethodName)) hown (mvT hZ (ow hw 2 rfl)) (mvT hZ (ow hw 3 rfl)) (mvT hZ (ow hw 4 rfl)) (mvT hZ (ow hw 5 rfl)) (by decide) (backOf (W := 0) (rm1_13 l Z a0 hw [] G  h17 n0 O17 ) hZ (ow hw 5 rfl) (ow hw 4 rfl) (by decide) (by decide)) (g := (mkF m 83 #[.val (.int p1), .val (.int (13 : Int32)), .val (.ref b2)] [(.int (13 : Int32))])) rfl (by rw [hml]; rfl) (argsL := [(.int (13 : Int32))]) (rest := []) (lenOf pd_0 rfl) rfl (by show 2 * 0 + _ ≤ _; exact Nat.le_of_eq rfl) (hb hby at_83) (fun _ _ => ⟨rfl, e17, (by decide : 1 + 0 ≤ _), (by decide : 15 + 0 ≤ _)⟩)
    dsimp only [Pt.U, Pt.locs, Pt.cells, Pt.slots] at X72 l72 y72 z72 st72 hQ72
    subst l72 y72 z72
    obtain ⟨rfl, N72q, e72⟩ := hQ72
    have N72 := Fr.app N17 N72q
    refine OGot.go st72 ?_
    show OGot p.tables e below (T72.setTop (mkF m 86 #[.val (.int p1), .val (.int (13 : Int32)), .val (.ref b2)] [(.ref w_BOUNDARY_EVENT)])) _
    obtain ⟨cq73, kq73, q73a, q73b, q73c⟩ := isOf hZ e72 (G.2.2.2.2.2.2.2.2.2.2.2.2.2.1.ext O17.2)
    obtain ⟨_, _, ⟨T73, L73, k73, n73⟩, -, X73, ⟨Lc73, hQ73, l73, y73, z73⟩, st73⟩ := X72.virtualBack hx (y := (⟨"com/example/chorale/chorale/FlowGraph$Kind", "receives", "()Z"⟩ : MethodName)) (z := (⟨"com/example/chorale/chorale/FlowGraph$Kind", "receives", "()Z"⟩ : MethodName)) hown (mvT hZ (ow hw 9 rfl)) (mvT hZ (ow hw 10 rfl)) (notFace_of_selects (args := #[]) (mvT hZ (ow hw 12 rfl))) (mvT hZ (ow hw 12 rfl)) (mvT hZ (ow hw 11 rfl)) (by decide) (backOf (W := 0) (rm2_13 l Z a0 hw [] G  h17 n0 O17 ) hZ (ow hw 13 rfl) (ow hw 7 rfl) (by decide) (by decide)) q73a q73c (g := (mkF m 86 #[.val (.int p1), .val (.int (13 : Int32)), .val (.ref b2)] [(.ref w_BOUNDARY_EVENT)])) rfl (by rw [hml]; rfl) (Steps.refl _) (argsL := []) (rest := []) (lenOf pd_1 rfl) rfl (by show 2 * 0 + _ ≤ _; exact Nat.le_of_eq rfl) (hb hby at_86) (fun _ _ => ⟨rfl, e72, (by decide : 1 + 0 ≤ _), (by decide : 15 + 0 ≤ _)⟩)
    dsimp only [Pt.U, Pt.locs, Pt.cells, Pt.slots] at X73 l73 y73 z73 st73 hQ73
    subst l73 y73 z73
    obtain ⟨rfl, N73q, e73⟩ := hQ73
    have N73 := Fr.app N72 N73q
    refine OGot.on st73 ?_
    show OGot p.tables e below (T73.setTop (mkF m 89 #[.val (.int p1), .val (.int (13 : Int32)), .val (.ref b2)] [(.int (0 : Int32))])) _
    refine OGot.go (fun t k => XS.aloadN X73.here hx rfl (hb hby at_89) rfl rfl k) ?_
    show OGot p.tables e below (T73.setTop (mkF m 90 #[.val (.int p1), .val (.int (13 : Int32)), .val (.ref b2)] [(.ref b2), (.int (0 : Int32))])) _
    refine OGot.go (fun t k => XS.iloadN X73.here hx rfl (hb hby at_90) rfl k) ?_
    show OGot p.tables e below (T73.setTop (mkF m 91 #[.val (.int p1), .val (.int (13 : Int32)), .val (.ref b2)] [(.int (13 : Int32)), (.ref b2), (.int (0 : Int32))])) _
    obtain ⟨cl74, Ar74, qc74, Sz74, Ng74, Hh74, Gg74⟩ := Va17
    have hin74 : ¬ ((13 : Int32) < 0 ∨ cl74.slots.size ≤ ((13 : Int32)).toNatClampNeg) := inb_of Sz74 ⟨by decide, by decide⟩
    have hat74 : cl74.slots[((13 : Int32)).toNatClampNeg]? = some (.int (0 : Int32)) := Hh74.at hin74 rfl
    refine OGot.go (fun t k => X73.baloadBooleans hx (j := (13 : Int32)) (v := (.int (0 : Int32))) (by rw [e73]; exact Ar74.1) (State.isArrayOf_alike hZ.alike Ar74.2.1) Ar74.2.2 hin74 hat74 (g := (mkF m 91 #[.val (.int p1), .val (.int (13 : Int32)), .val (.ref b2)] [(.int (13 : Int32)), (.ref b2), (.int (0 : Int32))])) rfl rfl (hb hby at_91) _ k) ?_
    show OGot p.tables e below (T73.setTop (mkF m 92 #[.val (.int p1), .val (.int (13 : Int32)), .val (.ref b2)] [(.int (0 : Int32)), (.int (0 : Int32))])) _
    refine OGot.go (fun t k => XS.icmpNo X73.here hx rfl (hb hby at_92) rfl (by decide) k) ?_
    show OGot p.tables e below (T73.setTop (mkF m 95 #[.val (.int p1), .val (.int (13 : Int32)), .val (.ref b2)] [])) _
    refine OGot.go (fun t k => XS.iconst X73.here hx rfl (hb hby at_95) k) ?_
    show OGot p.tables e below (T73.setTop (mkF m 96 #[.val (.int p1), .val (.int (13 : Int32)), .val (.ref b2)] [(.int (1 : Int32))])) _
    refine OGot.go (fun t k => XS.goto X73.here hx rfl (pc0 := 96) (pc' := 100) rfl (hb hby at_96) (by decide) (by decide) k) ?_
    show OGot p.tables e below (T73.setTop (mkF m 100 #[.val (.int p1), .val (.int (13 : Int32)), .val (.ref b2)] [(.int (1 : Int32))])) _
    obtain ⟨fs, hr, hrun, hended, hW, hsame⟩ := X73.leave (v := some (.int (1 : Int32))) (fun h => by rw [Bd.returns] at h; cases h)
    refine ⟨_, _, retN X73 hx (t := .boolean) Bd.returns (by simp) (hb hby at_100) hr, hrun, hended, _, _, rfl, ?_, ⟨_, rfl⟩, hW, hsame.mono (by decide) (by decide)⟩
    exact (⟨rfl, N73⟩ : Q0 Z w_START_EVENT w_RECEPTION w_MESSAGE_START_EVENT w_MESSAGE_BOUNDARY_EVENT w_TERMINATE_END_EVENT w_LINK_THROW_EVENT w_BOUNDARY_EVENT w_LINK_CATCH_EVENT w_END_EVENT w_EVENT_BASED_GATEWAY w_INCLUSIVE_GATEWAY w_EXCLUSIVE_GATEWAY w_SUB_PROCESS w_ACTIVITY w_PARALLEL_GATEWAY p1 h0 n0 _ T73.heap _)
  · rw [hk32]
    show OGot p.tables e below (T17.setTop (mkF m 83 #[.val (.int p1), .val (.int (14 : Int32)), .val (.ref b2)] [(.int (14 : Int32))])) _
    obtain ⟨_, _, ⟨T75, L75, k75, n75⟩, -, X75, ⟨Lc75, hQ75, l75, y75, z75⟩, st75⟩ := Jvm.LawKit.callS X17 hx (y := (⟨"com/example/chorale/chorale/KindReceivesPinLaw", "kindAt", "(I)Lcom/example/chorale/chorale/FlowGraph$Kind;"⟩ : MethodName)) hown (mvT hZ (ow hw 2 rfl)) (mvT hZ (ow hw 3 rfl)) (mvT hZ (ow hw 4 rfl)) (mvT hZ (ow hw 5 rfl)) (by decide) (backOf (W := 0) (rm1_14 l Z a0 hw [] G  h17 n0 O17 ) hZ (ow hw 5 rfl) (ow hw 4 rfl) (by decide) (by decide)) (g := (mkF m 83 #[.val (.int p1), .val (.int (14 : Int32)), .val (.ref b2)] [(.int (14 : Int32))])) rfl (by rw [hml]; rfl) (argsL := [(.int (14 : Int32))]) (rest := []) (lenOf pd_0 rfl) rfl (by show 2 * 0 + _ ≤ _; exact Nat.le_of_eq rfl) (hb hby at_83) (fun _ _ => ⟨rfl, e17, (by decide : 1 + 0 ≤ _), (by decide : 15 + 0 ≤ _)⟩)
    dsimp only [Pt.U, Pt.locs, Pt.cells, Pt.slots] at X75 l75 y75 z75 st75 hQ75
    subst l75 y75 z75
    obtain ⟨rfl, N75q, e75⟩ := hQ75
    have N75 := Fr.app N17 N75q
    refine OGot.go st75 ?_
    show OGot p.tables e below (T75.setTop (mkF m 86 #[.val (.int p1), .val (.int (14 : Int32)), .val (.ref b2)] [(.ref w_MESSAGE_BOUNDARY_EVENT)])) _
    obtain ⟨cq76, kq76, q76a, q76b, q76c⟩ := isOf hZ e75 (G.2.2.2.2.2.2.2.1.ext O17.2)
    obtain ⟨_, _, ⟨T76, L76, k76, n76⟩, -, X76, ⟨Lc76, hQ76, l76, y76, z76⟩, st76⟩ := X75.virtualBack hx (y := (⟨"com/example/chorale/chorale/FlowGraph$Kind", "receives", "()Z"⟩ : MethodName)) (z := (⟨"com/example/chorale/chorale/FlowGraph$Kind", "receives", "()Z"⟩ : MethodName)) hown (mvT hZ (ow hw 9 rfl)) (mvT hZ (ow hw 10 rfl)) (notFace_of_selects (args := #[]) (mvT hZ (ow hw 12 rfl))) (mvT hZ (ow hw 12 rfl)) (mvT hZ (ow hw 11 rfl)) (by decide) (backOf (W := 0) (rm2_14 l Z a0 hw [] G  h17 n0 O17 ) hZ (ow hw 13 rfl) (ow hw 7 rfl) (by decide) (by decide)) q76a q76c (g := (mkF m 86 #[.val (.int p1), .val (.int (14 : Int32)), .val (.ref b2)] [(.ref w_MESSAGE_BOUNDARY_EVENT)])) rfl (by rw [hml]; rfl) (Steps.refl _) (argsL := []) (rest := []) (lenOf pd_1 rfl) rfl (by show 2 * 0 + _ ≤ _; exact Nat.le_of_eq rfl) (hb hby at_86) (fun _ _ => ⟨rfl, e75, (by decide : 1 + 0 ≤ _), (by decide : 15 + 0 ≤ _)⟩)
    dsimp only [Pt.U, Pt.locs, Pt.cells, Pt.slots] at X76 l76 y76 z76 st76 hQ76
    subst l76 y76 z76
    obtain ⟨rfl, N76q, e76⟩ := hQ76
    have N76 := Fr.app N75 N76q
    refine OGot.on st76 ?_
    show OGot p.tables e below (T76.setTop (mkF m 89 #[.val (.int p1), .val (.int (14 : Int32)), .val (.ref b2)] [(.int (1 : Int32))])) _
    refine OGot.go (fun t k => XS.aloadN X76.here hx rfl (hb hby at_89) rfl rfl k) ?_
    show OGot p.tables e below (T76.setTop (mkF m 90 #[.val (.int p1), .val (.int (14 : Int32)), .val (.ref b2)] [(.ref b2), (.int (1 : Int32))])) _
    refine OGot.go (fun t k => XS.iloadN X76.here hx rfl (hb hby at_90) rfl k) ?_
    show OGot p.tables e below (T76.setTop (mkF m 91 #[.val (.int p1), .val (.int (14 : Int32)), .val (.ref b2)] [(.int (14 : Int32)), (.ref b2), (.int (1 : Int32))])) _
    obtain ⟨cl77, Ar77, qc77, Sz77, Ng77, Hh77, Gg77⟩ := Va17
    have hin77 : ¬ ((14 : Int32) < 0 ∨ cl77.slots.size ≤ ((14 : Int32)).toNatClampNeg) := inb_of Sz77 ⟨by decide, by decide⟩
    have hat77 : cl77.slots[((14 : Int32)).toNatClampNeg]? = some (.int (1 : Int32)) := Hh77.at hin77 rfl
    refine OGot.go (fun t k => X76.baloadBooleans hx (j := (14 : Int32)) (v := (.int (1 : Int32))) (by rw [e76]; exact Ar77.1) (State.isArrayOf_alike hZ.alike Ar77.2.1) Ar77.2.2 hin77 hat77 (g := (mkF m 91 #[.val (.int p1), .val (.int (14 : Int32)), .val (.ref b2)] [(.int (14 : Int32)), (.ref b2), (.int (1 : Int32))])) rfl rfl (hb hby at_91) _ k) ?_
    show OGot p.tables e below (T76.setTop (mkF m 92 #[.val (.int p1), .val (.int (14 : Int32)), .val (.ref b2)] [(.int (1 : Int32)), (.int (1 : Int32))])) _
    refine OGot.go (fun t k => XS.icmpNo X76.here hx rfl (hb hby at_92) rfl (by decide) k) ?_
    show OGot p.tables e below (T76.setTop (mkF m 95 #[.val (.int p1), .val (.int (14 : Int32)), .val (.ref b2)] [])) _
    refine OGot.go (fun t k => XS.iconst X76.here hx rfl (hb hby at_95) k) ?_
    show OGot p.tables e below (T76.setTop (mkF m 96 #[.val (.int p1), .val (.int (14 : Int32)), .val (.ref b2)] [(.int (1 : Int32))])) _
    refine OGot.go (fun t k => XS.goto X76.here hx rfl (pc0 := 96) (pc' := 100) rfl (hb hby at_96) (by decide) (by decide) k) ?_
    show OGot p.tables e below (T76.setTop (mkF m 100 #[.val (.int p1), .val (.int (14 : Int32)), .val (.ref b2)] [(.int (1 : Int32))])) _
    obtain ⟨fs, hr, hrun, hended, hW, hsame⟩ := X76.leave (v := some (.int (1 : Int32))) (fun h => by rw [Bd.returns] at h; cases h)
    refine ⟨_, _, retN X76 hx (t := .boolean) Bd.returns (by simp) (hb hby at_100) hr, hrun, hended, _, _, rfl, ?_, ⟨_, rfl⟩, hW, hsame.mono (by decide) (by decide)⟩
    exact (⟨rfl, N76⟩ : Q0 Z w_START_EVENT w_RECEPTION w_MESSAGE_START_EVENT w_MESSAGE_BOUNDARY_EVENT w_TERMINATE_END_EVENT w_LINK_THROW_EVENT w_BOUNDARY_EVENT w_LINK_CATCH_EVENT w_END_EVENT w_EVENT_BASED_GATEWAY w_INCLUSIVE_GATEWAY w_EXCLUSIVE_GATEWAY w_SUB_PROCESS w_ACTIVITY w_PARALLEL_GATEWAY p1 h0 n0 _ T76.heap _)
set_option maxRecDepth 65536 in
set_option maxHeartbeats 40000000 in
theorem comes_1 {Post : Tables → Env → Array Value → State → Outcome → State → Prop} (hpost : ∀ tb e args s v u, (limb_1_1.after args s (.returned v) u = true ∧ limb_1_2.after args s (.returned v) u = true ∧ True) → FrameEnd s (.returned v) u (Jvm.fieldLocs frame_1_writes args s ++ Jvm.arrayLocs frame_1_arrays args s ++ Jvm.staticLocs frame_1_statics s) 16 128 → Post tb e args s (.returned v) u) :
    ArmFor flags0 classFile x code maxLocals ret World_1 tables_1 room_1 Calls_1 rest_1 Pre_1 Post := by
  intro l hfl _ _ p e ha hc hk s m args below hf hA hF happ hP
  obtain ⟨hcalls, hrest, hpre⟩ := hP
  obtain ⟨-, -, -, hnamed, -, -, -, hat⟩ := (Spec.applies_iff hf).mp happ
  obtain ⟨hg, hn⟩ := and_e (Cond.before_iff.mp (show (Jvm.Cond.and given_1 narrow_1).before args s = true from hpre))
  obtain ⟨g0, g0r⟩ := and_e hg
  obtain ⟨w0, rfl⟩ : ∃ w0 : Value, args = #[w0] := by
    have hs : args.size = 1 := by simpa [Cond.value, given_1] using g0
    obtain ⟨L⟩ := args
    match L, hs with
    | [w0], _ => exact ⟨w0, rfl⟩
  have hw := fun d (hd : d ∈ tables_1) => atoms_spec (ws := Jvm.Cond.code x code maxLocals ret :: tables_1) hat d (List.mem_cons_of_mem _ hd)
  obtain ⟨i0, ei0⟩ := is_v g0r
  obtain rfl : w0 = (.int i0) := Option.some.inj ei0
  obtain ⟨m0, m0r⟩ := and_e hn
  obtain ⟨m1, m1r⟩ := and_e m0r
  obtain ⟨m2, m2r⟩ := and_e m1r
  obtain ⟨m3, m3r⟩ := and_e m2r
  obtain ⟨m4, m4r⟩ := and_e m3r
  obtain ⟨m5, m5r⟩ := and_e m4r
  obtain ⟨m6, m6r⟩ := and_e m5r
  obtain ⟨m7, m7r⟩ := and_e m6r
  obtain ⟨m8, m8r⟩ := and_e m7r
  obtain ⟨m9, m9r⟩ := and_e m8r
  obtain ⟨m10, m10r⟩ := and_e m9r
  obtain ⟨m11, m11r⟩ := and_e m10r
  obtain ⟨m12, m12r⟩ := and_e m11r
  obtain ⟨m13, m13r⟩ := and_e m12r
  obtain ⟨m14, m14r⟩ := and_e m13r
  obtain ⟨m15, m15r⟩ := and_e m14r
  obtain ⟨m16, m16r⟩ := and_e m15r
  obtain ⟨m17, m17r⟩ := and_e m16r
  obtain ⟨m18, m18r⟩ := and_e m17r
  obtain ⟨m19, m19r⟩ := and_e m18r
  obtain ⟨m20, m20r⟩ := and_e m19r
  obtain ⟨m21, m21r⟩ := and_e m20r
  obtain ⟨m22, m22r⟩ := and_e m21r
  obtain ⟨m23, m23r⟩ := and_e m22r
  obtain ⟨m24, m24r⟩ := and_e m23r
  obtain ⟨m25, m25r⟩ := and_e m24r
  obtain ⟨m26, m26r⟩ := and_e m25r
  obtain ⟨m27, m27r⟩ := and_e m26r
  obtain ⟨m28, m28r⟩ := and_e m27r
  obtain ⟨w_START_EVENT, ev_w_START_EVENT⟩ := exa_v m0
  obtain ⟨w_RECEPTION, ev_w_RECEPTION⟩ := exa_v m1
  obtain ⟨w_MESSAGE_START_EVENT, ev_w_MESSAGE_START_EVENT⟩ := exa_v m4
  obtain ⟨w_MESSAGE_BOUNDARY_EVENT, ev_w_MESSAGE_BOUNDARY_EVENT⟩ := exa_v m6
  obtain ⟨w_TERMINATE_END_EVENT, ev_w_TERMINATE_END_EVENT⟩ := exa_v m8
  obtain ⟨w_LINK_THROW_EVENT, ev_w_LINK_THROW_EVENT⟩ := exa_v m10
  obtain ⟨w_BOUNDARY_EVENT, ev_w_BOUNDARY_EVENT⟩ := exa_v m12
  obtain ⟨w_LINK_CATCH_EVENT, ev_w_LINK_CATCH_EVENT⟩ := exa_v m14
  obtain ⟨w_END_EVENT, ev_w_END_EVENT⟩ := exa_v m16
  obtain ⟨w_EVENT_BASED_GATEWAY, ev_w_EVENT_BASED_GATEWAY⟩ := exa_v m18
  obtain ⟨w_INCLUSIVE_GATEWAY, ev_w_INCLUSIVE_GATEWAY⟩ := exa_v m20
  obtain ⟨w_EXCLUSIVE_GATEWAY, ev_w_EXCLUSIVE_GATEWAY⟩ := exa_v m22
  obtain ⟨w_SUB_PROCESS, ev_w_SUB_PROCESS⟩ := exa_v m24
  obtain ⟨w_ACTIVITY, ev_w_ACTIVITY⟩ := exa_v m26
  obtain ⟨w_PARALLEL_GATEWAY, ev_w_PARALLEL_GATEWAY⟩ := exa_v m28
  have G : Glob s w_START_EVENT w_RECEPTION w_MESSAGE_START_EVENT w_MESSAGE_BOUNDARY_EVENT w_TERMINATE_END_EVENT w_LINK_THROW_EVENT w_BOUNDARY_EVENT w_LINK_CATCH_EVENT w_END_EVENT w_EVENT_BASED_GATEWAY w_INCLUSIVE_GATEWAY w_EXCLUSIVE_GATEWAY w_SUB_PROCESS w_ACTIVITY w_PARALLEL_GATEWAY := ⟨(Sta.start ev_w_START_EVENT (Or.inr ⟨(ow hw 7 rfl), (ow hw 8 rfl)⟩)), (Exa.start ev_w_START_EVENT m0), (Sta.start ev_w_RECEPTION (Or.inr ⟨(ow hw 7 rfl), (ow hw 15 rfl)⟩)), (Exa.start ev_w_RECEPTION m1), (Sta.start ev_w_MESSAGE_START_EVENT (Or.inr ⟨(ow hw 7 rfl), (ow hw 17 rfl)⟩)), (Exa.start ev_w_MESSAGE_START_EVENT m4), (Sta.start ev_w_MESSAGE_BOUNDARY_EVENT (Or.inr ⟨(ow hw 7 rfl), (ow hw 19 rfl)⟩)), (Exa.start ev_w_MESSAGE_BOUNDARY_EVENT m6), (Sta.start ev_w_TERMINATE_END_EVENT (Or.inr ⟨(ow hw 7 rfl), (ow hw 21 rfl)⟩)), (Exa.start ev_w_TERMINATE_END_EVENT m8), (Sta.start ev_w_LINK_THROW_EVENT (Or.inr ⟨(ow hw 7 rfl), (ow hw 23 rfl)⟩)), (Exa.start ev_w_LINK_THROW_EVENT m10), (Sta.start ev_w_BOUNDARY_EVENT (Or.inr ⟨(ow hw 7 rfl), (ow hw 25 rfl)⟩)), (Exa.start ev_w_BOUNDARY_EVENT m12), (Sta.start ev_w_LINK_CATCH_EVENT (Or.inr ⟨(ow hw 7 rfl), (ow hw 27 rfl)⟩)), (Exa.start ev_w_LINK_CATCH_EVENT m14), (Sta.start ev_w_END_EVENT (Or.inr ⟨(ow hw 7 rfl), (ow hw 31 rfl)⟩)), (Exa.start ev_w_END_EVENT m16), (Sta.start ev_w_EVENT_BASED_GATEWAY (Or.inr ⟨(ow hw 7 rfl), (ow hw 33 rfl)⟩)), (Exa.start ev_w_EVENT_BASED_GATEWAY m18), (Sta.start ev_w_INCLUSIVE_GATEWAY (Or.inr ⟨(ow hw 7 rfl), (ow hw 35 rfl)⟩)), (Exa.start ev_w_INCLUSIVE_GATEWAY m20), (Sta.start ev_w_EXCLUSIVE_GATEWAY (Or.inr ⟨(ow hw 7 rfl), (ow hw 37 rfl)⟩)), (Exa.start ev_w_EXCLUSIVE_GATEWAY m22), (Sta.start ev_w_SUB_PROCESS (Or.inr ⟨(ow hw 7 rfl), (ow hw 40 rfl)⟩)), (Exa.start ev_w_SUB_PROCESS m24), (Sta.start ev_w_ACTIVITY (Or.inr ⟨(ow hw 7 rfl), (ow hw 42 rfl)⟩)), (Exa.start ev_w_ACTIVITY m26), (Sta.start ev_w_PARALLEL_GATEWAY (Or.inr ⟨(ow hw 7 rfl), (ow hw 44 rfl)⟩)), (Exa.start ev_w_PARALLEL_GATEWAY m28), (Fld.start ((fld_at ev_w_START_EVENT).symm.trans (oeq_int m2))), (Fld.start ((fld_at ev_w_RECEPTION).symm.trans (oeq_int m3))), (Fld.start ((fld_at ev_w_MESSAGE_START_EVENT).symm.trans (oeq_int m5))), (Fld.start ((fld_at ev_w_MESSAGE_BOUNDARY_EVENT).symm.trans (oeq_int m7))), (Fld.start ((fld_at ev_w_TERMINATE_END_EVENT).symm.trans (oeq_int m9))), (Fld.start ((fld_at ev_w_LINK_THROW_EVENT).symm.trans (oeq_int m11))), (Fld.start ((fld_at ev_w_BOUNDARY_EVENT).symm.trans (oeq_int m13))), (Fld.start ((fld_at ev_w_LINK_CATCH_EVENT).symm.trans (oeq_int m15))), (Fld.start ((fld_at ev_w_END_EVENT).symm.trans (oeq_int m17))), (Fld.start ((fld_at ev_w_EVENT_BASED_GATEWAY).symm.trans (oeq_int m19))), (Fld.start ((fld_at ev_w_INCLUSIVE_GATEWAY).symm.trans (oeq_int m21))), (Fld.start ((fld_at ev_w_EXCLUSIVE_GATEWAY).symm.trans (oeq_int m23))), (Fld.start ((fld_at ev_w_SUB_PROCESS).symm.trans (oeq_int m25))), (Fld.start ((fld_at ev_w_ACTIVITY).symm.trans (oeq_int m27))), (Fld.start ((fld_at ev_w_PARALLEL_GATEWAY).symm.trans (oeq_int m28r)))⟩
  obtain ⟨n, o, h1, h2, h3, _, L, rfl, ⟨rfl, N⟩, hq⟩ := rm0 l s _ hw tables_1 G i0 s.heap s.heap.size (Old.start s) p e ha hc hk s m _ below hf ((Spec.applies_iff_loose hf).mp happ).1 ⟨rfl, State.Warmed39.refl s, rfl⟩ trivial
  refine ⟨n, _, h1, h2, h3, hpost _ _ _ _ _ _ ⟨Cond.after_iff.mpr rfl, Cond.after_iff.mpr (eq_i res_at (Term.int_eval (1)) rfl), trivial⟩ ⟨hq.1, hq.2.1, (hq.2.2.sift fun y hy => Or.inr (N y hy)).mono (by decide) (by decide)⟩⟩
theorem main_1_1 : Claimed_1_1 := comes_1 fun _ _ _ _ _ _ h hF => ⟨h.1, hF⟩
theorem main_1_2 : Claimed_1_2 := comes_1 fun _ _ _ _ _ _ h hF => ⟨h.2.1, hF⟩
end Jvm.Pilot.@@N@@
namespace Jvm.Pilot.@@N@@
open Jvm Jvm.ClassFile Sem Op Lib Jvm.Free Jvm.Stand Jvm.Pilot.@@N@@.Jvm.D
/-! MADE BY PROGRAM (witnessworld.py) out of the Statement's table words and the real class files: 14 classes; the members and pool entries that the words name. The judged class is class 1, her method 2. -/
namespace start1
open Jvm.ClassFile
def u (s : String) : CpInfo := .utf8 (stringToUtf16 s)
/-- a pool by its gaps: so many unusable entries, then the entry; so many at the end -/
def gap : Nat → List CpInfo → List CpInfo
  | 0, r => r
  | n + 1, r => .unusable :: gap n r
def poolList (es : List (Nat × CpInfo)) (last : Nat) : List CpInfo := es.foldr (fun e r => gap e.1 (e.2 :: r)) (gap last [])
def pool (es : List (Nat × CpInfo)) (last : Nat) : Array CpInfo := ⟨poolList es last⟩
def fileOf (pool : Array CpInfo) (this : Nat) (attrs : Array Attribute := #[]) (ms : Array MethodInfo := #[]) (fl : Nat := 33) (sup : Nat := 0) (ifs : Array Nat := #[]) (fds : Array FieldInfo := #[]) : ClassFile where
  minorVersion := 0
  majorVersion := 65
  constantPool := pool
  accessFlags := fl
  thisClass := this
  superClass := sup
  interfaces := ifs
  fields := fds
  methods := ms
  attributes := attrs
def plain (name : String) (sup : Option ClassId) : Class where
  name := name
  kind := .ordinary
  loader := none
  accessFlags := 33
  super := sup
  interfaces := #[]
  cf := none
  fields := #[]
  methods := #[]
  instanceTypes := #[]
  staticTypes := #[]
  resolved := #[]
  callSites := []
  init := .initialized
  statics := none
  mirror := none

def pool0 : Array CpInfo := pool [(5, u "<init>"), (0, u "()V"), (1, .class_ 10), (1, u "java/lang/Object")] 113

def k0m0 : Method := { name := "<init>", desc := "()V", sig := { parameters := [], returnType := none }, accessFlags := 1, code := none }
/-- java/lang/Object -/
def k0 : Class := { plain "java/lang/Object" none with
  accessFlags := 33
  interfaces := #[]
  cf := some (fileOf pool0 8 #[] #[{ accessFlags := 1, nameIndex := 5, descriptorIndex := 6, attributes := #[] }] 33 0 #[] #[])
  fields := #[]
  methods := #[k0m0]
  instanceTypes := #[]
  staticTypes := #[]
  resolved := Array.replicate 124 none
  statics := none }

def pool1 : Array CpInfo := pool [(2, .class_ 4), (1, u "java/lang/Object"), (0, u "<init>"), (0, u "()V"), (0, .fieldref 8 9), (0, .class_ 10), (0, .nameAndType 11 12), (0, u "com/example/chorale/chorale/FlowGraph$Kind"), (0, u "START_EVENT"), (0, u "Lcom/example/chorale/chorale/FlowGraph$Kind;"), (0, .fieldref 8 14), (0, .nameAndType 15 12), (0, u "MESSAGE_START_EVENT"), (0, .fieldref 8 17), (0, .nameAndType 18 12), (0, u "END_EVENT"), (0, .fieldref 8 20), (0, .nameAndType 21 12), (0, u "TERMINATE_END_EVENT"), (0, .fieldref 8 23), (0, .nameAndType 24 12), (0, u "ACTIVITY"), (0, .fieldref 8 26), (0, .nameAndType 27 12), (0, u "LINK_THROW_EVENT"), (0, .fieldref 8 29), (0, .nameAndType 30 12), (0, u "LINK_CATCH_EVENT"), (0, .fieldref 8 32), (0, .nameAndType 33 12), (0, u "RECEPTION"), (0, .fieldref 8 35), (0, .nameAndType 36 12), (0, u "EXCLUSIVE_GATEWAY"), (0, .fieldref 8 38), (0, .nameAndType 39 12), (0, u "PARALLEL_GATEWAY"), (0, .fieldref 8 41), (0, .nameAndType 42 12), (0, u "INCLUSIVE_GATEWAY"), (0, .fieldref 8 44), (0, .nameAndType 45 12), (0, u "EVENT_BASED_GATEWAY"), (0, .fieldref 8 47), (0, .nameAndType 48 12), (0, u "SUB_PROCESS"), (0, .fieldref 8 50), (0, .nameAndType 51 12), (0, u "BOUNDARY_EVENT"), (0, .fieldref 8 53), (0, .nameAndType 54 12), (0, u "MESSAGE_BOUNDARY_EVENT"), (0, .integer 2147483647), (0, .methodref 57 58), (0, .class_ 59), (0, .nameAndType 60 61), (0, u "com/example/chorale/chorale/KindReceivesPinLaw"), (0, u "kindAt"), (0, u "(I)Lcom/example/chorale/chorale/FlowGraph$Kind;"), (0, .methodref 8 63), (0, .nameAndType 64 65), (0, u "receives"), (0, u "()Z"), (3, u "law"), (0, u "(I)Z")] 8

def k1m0 : Method := { name := "<init>", desc := "()V", sig := { parameters := [], returnType := none }, accessFlags := 1, code := none }
def k1c1 : Code := { maxStack := 2, maxLocals := 1, code := method_2_code, exceptionTable := #[], attributes := #[] }
def k1m1 : Method := { name := "kindAt", desc := "(I)Lcom/example/chorale/chorale/FlowGraph$Kind;", sig := { parameters := [.int], returnType := some (.object "com/example/chorale/chorale/FlowGraph$Kind") }, accessFlags := 10, code := some k1c1 }
def k1c2 : Code := { maxStack := 4, maxLocals := 3, code := code, exceptionTable := #[], attributes := #[] }
def k1m2 : Method := { name := "law", desc := "(I)Z", sig := { parameters := [.int], returnType := some .boolean }, accessFlags := 9, code := some k1c2 }
/-- com/example/chorale/chorale/KindReceivesPinLaw -/
def k1 : Class := { plain "com/example/chorale/chorale/KindReceivesPinLaw" (some 0) with
  accessFlags := 49
  interfaces := #[]
  cf := some (fileOf pool1 57 #[] #[{ accessFlags := 1, nameIndex := 5, descriptorIndex := 6, attributes := #[] }, { accessFlags := 10, nameIndex := 60, descriptorIndex := 61, attributes := #[] }, { accessFlags := 9, nameIndex := 69, descriptorIndex := 70, attributes := #[] }] 49 2 #[] #[])
  fields := #[]
  methods := #[k1m0, k1m1, k1m2]
  instanceTypes := #[]
  staticTypes := #[]
  resolved := Array.replicate 79 none
  statics := none }

def pool2 : Array CpInfo := pool [(1, .class_ 2), (0, u "java/lang/constant/Constable"), (0, .class_ 4), (0, u "java/lang/Object")] 6

/-- java/lang/constant/Constable -/
def k2 : Class := { plain "java/lang/constant/Constable" (some 0) with
  accessFlags := 1537
  interfaces := #[]
  cf := some (fileOf pool2 1 #[] #[] 1537 3 #[] #[])
  fields := #[]
  methods := #[]
  instanceTypes := #[]
  staticTypes := #[]
  resolved := Array.replicate 11 none
  statics := none }

def pool3 : Array CpInfo := pool [(1, .class_ 2), (0, u "java/lang/Comparable"), (0, .class_ 4), (0, u "java/lang/Object")] 7

/-- java/lang/Comparable -/
def k3 : Class := { plain "java/lang/Comparable" (some 0) with
  accessFlags := 1537
  interfaces := #[]
  cf := some (fileOf pool3 1 #[] #[] 1537 3 #[] #[])
  fields := #[]
  methods := #[]
  instanceTypes := #[]
  staticTypes := #[]
  resolved := Array.replicate 12 none
  statics := none }

def pool4 : Array CpInfo := pool [(1, .class_ 2), (0, u "java/io/Serializable"), (0, .class_ 4), (0, u "java/lang/Object")] 2

/-- java/io/Serializable -/
def k4 : Class := { plain "java/io/Serializable" (some 0) with
  accessFlags := 1537
  interfaces := #[]
  cf := some (fileOf pool4 1 #[] #[] 1537 3 #[] #[])
  fields := #[]
  methods := #[]
  instanceTypes := #[]
  staticTypes := #[]
  resolved := Array.replicate 7 none
  statics := none }

def pool5 : Array CpInfo := pool [(2, .class_ 4), (1, u "java/lang/Enum"), (0, u "name"), (0, u "Ljava/lang/String;"), (2, u "ordinal"), (0, u "I"), (1, .class_ 14), (1, u "java/lang/Object"), (4, u "hash"), (86, .class_ 108), (1, u "java/lang/Enum$EnumDesc"), (2, .class_ 112), (0, u "java/lang/constant/Constable"), (0, .class_ 114), (0, u "java/lang/Comparable"), (0, .class_ 116), (0, u "java/io/Serializable")] 87

/-- java/lang/Enum -/
def k5 : Class := { plain "java/lang/Enum" (some 0) with
  accessFlags := 1057
  interfaces := #[2, 3, 4]
  cf := some (fileOf pool5 2 #[.nestMembers #[106]] #[] 1057 12 #[111, 113, 115] #[{ accessFlags := 18, nameIndex := 5, descriptorIndex := 6, attributes := #[] }, { accessFlags := 18, nameIndex := 9, descriptorIndex := 10, attributes := #[] }, { accessFlags := 2, nameIndex := 19, descriptorIndex := 10, attributes := #[] }])
  fields := #[{ name := "name", type := (.object "java/lang/String"), accessFlags := 18, slot := 0, constantValue := 0 }, { name := "ordinal", type := .int, accessFlags := 18, slot := 1, constantValue := 0 }, { name := "hash", type := .int, accessFlags := 2, slot := 2, constantValue := 0 }]
  methods := #[]
  instanceTypes := #[(.object "java/lang/String"), .int, .int]
  staticTypes := #[]
  resolved := Array.replicate 204 none
  statics := none }

def pool6 : Array CpInfo := pool [(1, .class_ 2), (0, u "com/example/chorale/chorale/FlowGraph$Kind"), (2, u "START_EVENT"), (0, u "Lcom/example/chorale/chorale/FlowGraph$Kind;"), (0, .fieldref 1 8), (0, .nameAndType 9 6), (0, u "MESSAGE_START_EVENT"), (2, u "END_EVENT"), (2, u "TERMINATE_END_EVENT"), (2, u "ACTIVITY"), (2, u "LINK_THROW_EVENT"), (2, u "LINK_CATCH_EVENT"), (0, .fieldref 1 26), (0, .nameAndType 27 6), (0, u "RECEPTION"), (2, u "EXCLUSIVE_GATEWAY"), (2, u "PARALLEL_GATEWAY"), (2, u "INCLUSIVE_GATEWAY"), (2, u "EVENT_BASED_GATEWAY"), (2, u "SUB_PROCESS"), (2, u "BOUNDARY_EVENT"), (0, .fieldref 1 47), (0, .nameAndType 48 6), (0, u "MESSAGE_BOUNDARY_EVENT"), (2, u "$VALUES"), (0, u "[Lcom/example/chorale/chorale/FlowGraph$Kind;"), (6, .class_ 61), (1, u "java/lang/Enum"), (9, u "()Z"), (27, u "receives"), (9, .class_ 110), (0, u "com/example/chorale/chorale/FlowGraph")] 2

def k6c0 : Code := { maxStack := 2, maxLocals := 1, code := prog_73_method_4_code, exceptionTable := #[], attributes := #[] }
def k6m0 : Method := { name := "receives", desc := "()Z", sig := { parameters := [], returnType := some .boolean }, accessFlags := 0, code := some k6c0 }
/-- com/example/chorale/chorale/FlowGraph$Kind -/
def k6 : Class := { plain "com/example/chorale/chorale/FlowGraph$Kind" (some 5) with
  accessFlags := 16432
  interfaces := #[]
  cf := some (fileOf pool6 1 #[.nestHost 109] #[{ accessFlags := 0, nameIndex := 99, descriptorIndex := 71, attributes := #[] }] 16432 59 #[] #[{ accessFlags := 16409, nameIndex := 5, descriptorIndex := 6, attributes := #[] }, { accessFlags := 16409, nameIndex := 9, descriptorIndex := 6, attributes := #[] }, { accessFlags := 16409, nameIndex := 12, descriptorIndex := 6, attributes := #[] }, { accessFlags := 16409, nameIndex := 15, descriptorIndex := 6, attributes := #[] }, { accessFlags := 16409, nameIndex := 18, descriptorIndex := 6, attributes := #[] }, { accessFlags := 16409, nameIndex := 21, descriptorIndex := 6, attributes := #[] }, { accessFlags := 16409, nameIndex := 24, descriptorIndex := 6, attributes := #[] }, { accessFlags := 16409, nameIndex := 27, descriptorIndex := 6, attributes := #[] }, { accessFlags := 16409, nameIndex := 30, descriptorIndex := 6, attributes := #[] }, { accessFlags := 16409, nameIndex := 33, descriptorIndex := 6, attributes := #[] }, { accessFlags := 16409, nameIndex := 36, descriptorIndex := 6, attributes := #[] }, { accessFlags := 16409, nameIndex := 39, descriptorIndex := 6, attributes := #[] }, { accessFlags := 16409, nameIndex := 42, descriptorIndex := 6, attributes := #[] }, { accessFlags := 16409, nameIndex := 45, descriptorIndex := 6, attributes := #[] }, { accessFlags := 16409, nameIndex := 48, descriptorIndex := 6, attributes := #[] }, { accessFlags := 4122, nameIndex := 51, descriptorIndex := 52, attributes := #[] }])
  fields := #[{ name := "START_EVENT", type := (.object "com/example/chorale/chorale/FlowGraph$Kind"), accessFlags := 16409, slot := 0, constantValue := 0 }, { name := "MESSAGE_START_EVENT", type := (.object "com/example/chorale/chorale/FlowGraph$Kind"), accessFlags := 16409, slot := 1, constantValue := 0 }, { name := "END_EVENT", type := (.object "com/example/chorale/chorale/FlowGraph$Kind"), accessFlags := 16409, slot := 2, constantValue := 0 }, { name := "TERMINATE_END_EVENT", type := (.object "com/example/chorale/chorale/FlowGraph$Kind"), accessFlags := 16409, slot := 3, constantValue := 0 }, { name := "ACTIVITY", type := (.object "com/example/chorale/chorale/FlowGraph$Kind"), accessFlags := 16409, slot := 4, constantValue := 0 }, { name := "LINK_THROW_EVENT", type := (.object "com/example/chorale/chorale/FlowGraph$Kind"), accessFlags := 16409, slot := 5, constantValue := 0 }, { name := "LINK_CATCH_EVENT", type := (.object "com/example/chorale/chorale/FlowGraph$Kind"), accessFlags := 16409, slot := 6, constantValue := 0 }, { name := "RECEPTION", type := (.object "com/example/chorale/chorale/FlowGraph$Kind"), accessFlags := 16409, slot := 7, constantValue := 0 }, { name := "EXCLUSIVE_GATEWAY", type := (.object "com/example/chorale/chorale/FlowGraph$Kind"), accessFlags := 16409, slot := 8, constantValue := 0 }, { name := "PARALLEL_GATEWAY", type := (.object "com/example/chorale/chorale/FlowGraph$Kind"), accessFlags := 16409, slot := 9, constantValue := 0 }, { name := "INCLUSIVE_GATEWAY", type := (.object "com/example/chorale/chorale/FlowGraph$Kind"), accessFlags := 16409, slot := 10, constantValue := 0 }, { name := "EVENT_BASED_GATEWAY", type := (.object "com/example/chorale/chorale/FlowGraph$Kind"), accessFlags := 16409, slot := 11, constantValue := 0 }, { name := "SUB_PROCESS", type := (.object "com/example/chorale/chorale/FlowGraph$Kind"), accessFlags := 16409, slot := 12, constantValue := 0 }, { name := "BOUNDARY_EVENT", type := (.object "com/example/chorale/chorale/FlowGraph$Kind"), accessFlags := 16409, slot := 13, constantValue := 0 }, { name := "MESSAGE_BOUNDARY_EVENT", type := (.object "com/example/chorale/chorale/FlowGraph$Kind"), accessFlags := 16409, slot := 14, constantValue := 0 }, { name := "$VALUES", type := (.array (.object "com/example/chorale/chorale/FlowGraph$Kind")), accessFlags := 4122, slot := 15, constantValue := 0 }]
  methods := #[k6m0]
  instanceTypes := #[(.object "java/lang/String"), .int, .int]
  staticTypes := #[(.object "com/example/chorale/chorale/FlowGraph$Kind"), (.object "com/example/chorale/chorale/FlowGraph$Kind"), (.object "com/example/chorale/chorale/FlowGraph$Kind"), (.object "com/example/chorale/chorale/FlowGraph$Kind"), (.object "com/example/chorale/chorale/FlowGraph$Kind"), (.object "com/example/chorale/chorale/FlowGraph$Kind"), (.object "com/example/chorale/chorale/FlowGraph$Kind"), (.object "com/example/chorale/chorale/FlowGraph$Kind"), (.object "com/example/chorale/chorale/FlowGraph$Kind"), (.object "com/example/chorale/chorale/FlowGraph$Kind"), (.object "com/example/chorale/chorale/FlowGraph$Kind"), (.object "com/example/chorale/chorale/FlowGraph$Kind"), (.object "com/example/chorale/chorale/FlowGraph$Kind"), (.object "com/example/chorale/chorale/FlowGraph$Kind"), (.object "com/example/chorale/chorale/FlowGraph$Kind"), (.array (.object "com/example/chorale/chorale/FlowGraph$Kind"))]
  resolved := Array.replicate 113 none
  statics := some 0 }

def pool7 : Array CpInfo := pool [(1, u "java/lang/Cloneable"), (0, .class_ 1), (0, u "java/lang/Object"), (0, .class_ 3)] 3

/-- java/lang/Cloneable -/
def k7 : Class := { plain "java/lang/Cloneable" (some 0) with
  accessFlags := 1537
  interfaces := #[]
  cf := some (fileOf pool7 2 #[] #[] 1537 4 #[] #[])
  fields := #[]
  methods := #[]
  instanceTypes := #[]
  staticTypes := #[]
  resolved := Array.replicate 8 none
  statics := none }

/-- the primitive boolean -/
def k8 : Class := { plain "boolean" none with kind := .primitive 'Z', accessFlags := 0x411 }
/-- [Z -/
def k9 : Class := { plain "[Z" (some 0) with kind := .array 8 .boolean, interfaces := #[7, 4], accessFlags := 1041 }

/-- the primitive byte -/
def k10 : Class := { plain "byte" none with kind := .primitive 'B', accessFlags := 0x411 }
/-- [B -/
def k11 : Class := { plain "[B" (some 0) with kind := .array 10 .byte, interfaces := #[7, 4], accessFlags := 1041 }

/-- the primitive int -/
def k12 : Class := { plain "int" none with kind := .primitive 'I', accessFlags := 0x411 }
/-- [I -/
def k13 : Class := { plain "[I" (some 0) with kind := .array 12 .int, interfaces := #[7, 4], accessFlags := 1041 }

def heap : Heap := #[{ cls := 6, slots := #[.ref 1, .ref 3, .ref 9, .ref 5, .ref 14, .ref 6, .ref 8, .ref 2, .ref 12, .ref 15, .ref 11, .ref 10, .ref 13, .ref 7, .ref 4, .null], vm := .statics 6 },
  { cls := 6, slots := #[.null, .int 0, .int 0], vm := .none },
  { cls := 6, slots := #[.null, .int 7, .int 0], vm := .none },
  { cls := 6, slots := #[.null, .int 1, .int 0], vm := .none },
  { cls := 6, slots := #[.null, .int 14, .int 0], vm := .none },
  { cls := 6, slots := #[.null, .int 3, .int 0], vm := .none },
  { cls := 6, slots := #[.null, .int 5, .int 0], vm := .none },
  { cls := 6, slots := #[.null, .int 13, .int 0], vm := .none },
  { cls := 6, slots := #[.null, .int 6, .int 0], vm := .none },
  { cls := 6, slots := #[.null, .int 2, .int 0], vm := .none },
  { cls := 6, slots := #[.null, .int 11, .int 0], vm := .none },
  { cls := 6, slots := #[.null, .int 10, .int 0], vm := .none },
  { cls := 6, slots := #[.null, .int 8, .int 0], vm := .none },
  { cls := 6, slots := #[.null, .int 12, .int 0], vm := .none },
  { cls := 6, slots := #[.null, .int 4, .int 0], vm := .none },
  { cls := 6, slots := #[.null, .int 9, .int 0], vm := .none }]
def classes : Array Class := #[k0, k1, k2, k3, k4, k5, k6, k7, k8, k9, k10, k11, k12, k13]
def interned : List (Array UInt16 × Addr) := []
def slotsUsed : Nat := 61
def theMethod : MethodId := ⟨1, 2⟩
def args0 : Array Value := #[.int 5]
def aboutOver (below : List Frame) : State where
  vm := { classes := classes, interned := interned.toArray }
  heap := heap
  slotsUsed := slotsUsed
  threads := #[{ frames := .invoking theMethod args0 :: below }]
def below0 : List Frame := [.native { method := ⟨0, 0⟩, args := #[] }]
def about1 : State := aboutOver below0
def p0 : Program := .bare "" "" ""
def e0 : Env := launch0.env 0 0 0
theorem w_frames : about1.frames = Frame.invoking theMethod args0 :: below0 := rfl
set_option maxRecDepth 65536 in
theorem w_args : argsFit about1.vm theMethod args0 = true := by decide +kernel
set_option maxRecDepth 65536 in
theorem w_heap : heapFits about1 = true := by decide +kernel
set_option maxRecDepth 65536 in
theorem w_runnable : about1.curStatus? = some .runnable := by decide +kernel
set_option maxRecDepth 65536 in
theorem w_alone : about1.alone = true := by decide +kernel
set_option maxRecDepth 65536 in
theorem w_named : about1.methodNamed? x = some theMethod := by decide +kernel
set_option maxRecDepth 65536 in
theorem w_hears : about1.hears theMethod below0 = true := by decide +kernel
set_option maxRecDepth 65536 in
theorem w_ripe : about1.ripe theMethod args0 below0 = true := by decide +kernel
theorem w_running : about1.status = .running := rfl
set_option maxRecDepth 65536 in
theorem w_room : about1.hasRoom e0.platform room_1 = true :=
  launch0.hasRoom_least _ room_1 (by decide +kernel) (by decide +kernel) (by decide +kernel) (by decide +kernel) (by decide +kernel) (by decide +kernel)
theorem allAtoms_all (ts : List Jvm.Cond) (a : Array Jvm.Value) (st : Jvm.State) : (allAtoms ts).before a st = ts.all (fun c => c.before a st) := by
  induction ts with
  | nil => rfl
  | cons c t ih =>
    show (Jvm.Cond.and c (allAtoms t)).before a st = _
    rw [Jvm.Cond.before_and, ih, List.all_cons]
def words1 : List Jvm.Cond := Jvm.Cond.code x code maxLocals ret :: tables_1
/-- a 'code' word, met by the world's own term for the bytes: nothing is compared byte by byte -/
theorem code_word {y : MethodName} {bytes : ByteArray} {mx : Nat} {rt : Option FieldType} {a : Array Value} {s : State} {m : MethodId} {meth : Method} {c : Code} (h1 : s.methodNamed? y = some m) (h2 : s.vm.method? m = some meth) (h3 : meth.code = some c) (h4 : c.code = bytes)
    (h5 : (c.maxLocals == mx && c.exceptionTable.isEmpty && decide (c.maxStack ≤ mostOperands) && decide (meth.sig.returnType = rt) && !meth.locks && decide (parseMethodDescriptor y.desc = some meth.sig)) = true) : (Jvm.Cond.code y bytes mx rt).before a s = true := by
  simp only [Bool.and_eq_true, beq_iff_eq, Bool.not_eq_true', decide_eq_true_eq] at h5
  obtain ⟨⟨⟨⟨⟨g1, g2⟩, g3⟩, g4⟩, g5⟩, g6⟩ := h5
  simp [Cond.before, Cond.holds, Cond.value, h1, h2, h3, h4, g1, g2, g3, g4, g5, g6]
def isCode : Jvm.Cond → Bool
  | .code _ _ _ _ => true
  | _ => false
theorem all_split {L : List Jvm.Cond} {P : Jvm.Cond → Bool} (h1 : L.all (fun c => isCode c || P c) = true) (h2 : ∀ c ∈ L.filter isCode, P c = true) : L.all P = true := by
  refine List.all_eq_true.mpr fun c hc => ?_
  have h := List.all_eq_true.mp h1 c hc
  rcases Bool.eq_false_or_eq_true (isCode c) with hi | hi
  · exact h2 c (List.mem_filter.mpr ⟨hc, hi⟩)
  · simpa [hi] using h
set_option maxRecDepth 65536 in
theorem w_c0 : (Jvm.Cond.code x code maxLocals ret).before args0 about1 = true := code_word (m := ⟨1, 2⟩) (meth := k1m2) (c := k1c2) (by decide +kernel) rfl rfl rfl (by decide +kernel)
set_option maxRecDepth 65536 in
theorem w_c1 : (Jvm.Cond.code ({ cls := "com/example/chorale/chorale/KindReceivesPinLaw", name := "kindAt", desc := "(I)Lcom/example/chorale/chorale/FlowGraph$Kind;" } : Jvm.MethodName) method_2_code (1 : Nat) (Option.some (Jvm.ClassFile.FieldType.object "com/example/chorale/chorale/FlowGraph$Kind"))).before args0 about1 = true := code_word (m := ⟨1, 1⟩) (meth := k1m1) (c := k1c1) (by decide +kernel) rfl rfl rfl (by decide +kernel)
set_option maxRecDepth 65536 in
theorem w_c2 : (Jvm.Cond.code ({ cls := "com/example/chorale/chorale/FlowGraph$Kind", name := "receives", desc := "()Z" } : Jvm.MethodName) prog_73_method_4_code (1 : Nat) (Option.some Jvm.ClassFile.FieldType.boolean)).before args0 about1 = true := code_word (m := ⟨6, 0⟩) (meth := k6m0) (c := k6c0) (by decide +kernel) rfl rfl rfl (by decide +kernel)
def codes1 : List Jvm.Cond := [Jvm.Cond.code x code maxLocals ret, Jvm.Cond.code ({ cls := "com/example/chorale/chorale/KindReceivesPinLaw", name := "kindAt", desc := "(I)Lcom/example/chorale/chorale/FlowGraph$Kind;" } : Jvm.MethodName) method_2_code (1 : Nat) (Option.some (Jvm.ClassFile.FieldType.object "com/example/chorale/chorale/FlowGraph$Kind")), Jvm.Cond.code ({ cls := "com/example/chorale/chorale/FlowGraph$Kind", name := "receives", desc := "()Z" } : Jvm.MethodName) prog_73_method_4_code (1 : Nat) (Option.some Jvm.ClassFile.FieldType.boolean)]
set_option maxRecDepth 65536 in
theorem codes_eq : words1.filter isCode = codes1 := rfl
theorem w_codes : ∀ c ∈ words1.filter isCode, c.before args0 about1 = true := by
  rw [codes_eq]
  intro c hc
  simp only [codes1, List.mem_cons, List.not_mem_nil, or_false] at hc
  rcases hc with rfl | rfl | rfl
  · exact w_c0
  · exact w_c1
  · exact w_c2
set_option maxRecDepth 65536 in
theorem w_t1 : (words1.take 24).all (fun c => isCode c || c.before args0 about1) = true := by decide +kernel
set_option maxRecDepth 65536 in
theorem w_t2 : (words1.drop 24).all (fun c => isCode c || c.before args0 about1) = true := by decide +kernel
theorem w_tables : (allAtoms (Jvm.Cond.code x code maxLocals ret :: tables_1)).before args0 about1 = true := by
  rw [allAtoms_all]
  show words1.all (fun c => c.before args0 about1) = true
  refine all_split ?_ w_codes
  rw [← List.take_append_drop 24 words1, List.all_append, w_t1, w_t2]
  rfl
set_option maxRecDepth 65536 in
theorem w_case : (Jvm.Cond.and given_1 narrow_1).before args0 about1 = true := by decide +kernel
theorem w_applies : (headSpec (Jvm.Cond.code x code maxLocals ret :: tables_1) room_1).applies x e0.platform about1 = true :=
  (Spec.applies_iff w_frames).mpr ⟨w_running, w_runnable, w_alone, w_named, w_hears, w_ripe, w_room, w_tables⟩
theorem atStart : AtStart classFile x code maxLocals ret World_1 tables_1 room_1 Calls_1 rest_1 Pre_1 launch0 p0 e0 about1 theMethod args0 below0 :=
  ⟨lists_1, trivial, launch0.admits_env _ _ _, launch0.least_env, fairChoices_fair.cas, fairChoices_fair.clock, w_frames, w_args, w_heap, w_applies, trivial, trivial, w_case⟩
end start1
theorem witness_1 : WitnessClaimed_1 := ⟨start1.p0, start1.e0, start1.about1, start1.theMethod, start1.args0, start1.below0, start1.atStart⟩
end Jvm.Pilot.@@N@@
