import JvmDerived
import JvmDerived.Pilot.@@N@@Statement
import JvmDerived.Pilot.@@N@@Code
set_option linter.unusedVariables false
set_option linter.unusedSimpArgs false
namespace Jvm.Pilot.@@N@@
open Jvm Jvm.ClassFile Sem Op Lib Jvm.Free Jvm.Stand Jvm.LawKit Jvm.RoadKit Bundle Jvm.Pilot.@@N@@.Jvm.D
section OwnKit
variable {p : Program} {l : Launch} {e : Env} {R : Room} {s : State} {m : MethodId} {args : Array Value} {below : List Frame} {meth : Method} {c : Code} {T : State} {locs : List Loc} {cells slots : Nat}
theorem retI (X : Stand p l e R s m args below meth c T locs cells slots) (hx : p.tables.exec = Jvm.exec) {pc : Nat} {Ls : Array Slot} {z : Int32} {rest : List Value} (hret : meth.sig.returnType = some .int) (hd : decode c.code pc = .ok (.ireturn, 1)) {fs : List Frame}
    (hl : ∀ (f : JFrame) (acts : List Action), f.method = m → f.locked = none → f.entered = [] → (doReturn e (T.setTop f) acts (some (.int z))).1 = T.setFrames fs) : Steps p.tables e below (T.setTop (mkF m pc Ls (.int z :: rest))) (T.setFrames fs) :=
  retOut X hx hret rfl (Or.inl ⟨rfl, Or.inl rfl, z, rfl⟩) hd hl
theorem oretJ (X : Stand p l e R s m args below meth c T locs cells slots) (hx : p.tables.exec = Jvm.exec) {pc : Nat} {Ls : Array Slot} {z : Int64} {rest : List Value} (hret : meth.sig.returnType = some .long) (hd : decode c.code pc = .ok (.lreturn, 1)) {fs : List Frame}
    (hl : ∀ (f : JFrame) (acts : List Action), f.method = m → f.locked = none → f.entered = [] → (doReturn e (T.setTop f) acts (some (.long z))).1 = T.setFrames fs) : Steps p.tables e below (T.setTop (mkF m pc Ls (.long z :: rest))) (T.setFrames fs) :=
  retOut X hx hret rfl (Or.inr (Or.inl ⟨rfl, rfl, z, rfl⟩)) hd hl
theorem oretA (X : Stand p l e R s m args below meth c T locs cells slots) (hx : p.tables.exec = Jvm.exec) {pc : Nat} {Ls : Array Slot} {w : Value} {t : FieldType} {rest : List Value} (hret : meth.sig.returnType = some t) (ht : t.isReference = true) (hw : w.isRef = true) (hd : decode c.code pc = .ok (.areturn, 1)) {fs : List Frame}
    (hl : ∀ (f : JFrame) (acts : List Action), f.method = m → f.locked = none → f.entered = [] → (doReturn e (T.setTop f) acts (some w)).1 = T.setFrames fs) : Steps p.tables e below (T.setTop (mkF m pc Ls (w :: rest))) (T.setFrames fs) :=
  retOut X hx hret (by rcases ref_cases hw with rfl | ⟨a, rfl⟩ <;> cases t <;> rfl) (Or.inr (Or.inr (Or.inr (Or.inr ⟨rfl, ht, hw⟩)))) hd hl
end OwnKit
/-- the run that stands at A comes to an end of which P holds -/
def OGot (tb : Tables) (e : Env) (below : List Frame) (A : State) (P : State → Outcome → Prop) : Prop := ∃ U o, Steps tb e below A U ∧ P U o
theorem OGot.go {tb : Tables} {e : Env} {below : List Frame} {A B : State} {P : State → Outcome → Prop} (st : ∀ t, Steps tb e below B t → Steps tb e below A t) (h : OGot tb e below B P) : OGot tb e below A P := by
  obtain ⟨U, o, h1, h2⟩ := h
  exact ⟨U, o, st U h1, h2⟩
theorem OGot.on {tb : Tables} {e : Env} {below : List Frame} {A B : State} {P : State → Outcome → Prop} (st : Steps tb e below A B) (h : OGot tb e below B P) : OGot tb e below A P := by
  obtain ⟨U, o, h1, h2⟩ := h
  exact ⟨U, o, st.trans h1, h2⟩
section OwnFacts
variable {Z : State} {h h' h0 : Heap} {a b : Addr} {C n d : String} {v : Value} {sl : Nat} {n0 : Nat} {ws ws' : List (Addr × Nat)} {k : ClassId} {ty : FieldType} {z : Int32} {vs : List Value} {dv : Value}
theorem osz (X : Old Z n0 h) : n0 ≤ h.size := X.1 ▸ X.2.1
theorem oheap {U : State} {P : Heap → Prop} (q : U.heap = h) (x : P h) : P U.heap := q ▸ x
/-- what stood in h0 stands in h, but for the places at ws -/
def OKeep (h0 h : Heap) (ws : List (Addr × Nat)) : Prop := h0.size ≤ h.size ∧ ∀ (x : Addr) (c : Cell), h0[x]? = some c → ∃ c' : Cell, h[x]? = some c' ∧ c'.cls = c.cls ∧ c'.vm = c.vm ∧ c'.slots.size = c.slots.size ∧ (∀ i, (x, i) ∉ ws → c'.slots[i]? = c.slots[i]?) ∧ ((∀ i, (x, i) ∉ ws) → c' = c)
theorem OKeep.refl (h : Heap) (ws : List (Addr × Nat)) : OKeep h h ws := ⟨Nat.le_refl _, fun _ c q => ⟨c, q, rfl, rfl, rfl, fun _ _ => rfl, fun _ => rfl⟩⟩
theorem OKeep.ext (K : OKeep h0 h ws) (E : Ext h h') : OKeep h0 h' ws := ⟨Nat.le_trans K.1 E.1, fun x c q => by
  obtain ⟨c', q', r⟩ := K.2 x c q
  exact ⟨c', E.2 x c' q', r⟩⟩
theorem OKeep.trans (K : OKeep h0 h ws) (K' : OKeep h h' ws') (q : ∀ x ∈ ws', x ∈ ws ∨ h0.size ≤ x.1) : OKeep h0 h' ws := by
  refine ⟨Nat.le_trans K.1 K'.1, fun x c hx => ?_⟩
  have lt : x < h0.size := (Array.getElem?_eq_some_iff.mp hx).1
  have out : ∀ i, (x, i) ∉ ws → (x, i) ∉ ws' := fun i r z => (q _ z).elim r fun y => Nat.not_lt.mpr y lt
  obtain ⟨c1, q1, r1, r2, r3, r4, r5⟩ := K.2 x c hx
  obtain ⟨c2, q2, t1, t2, t3, t4, t5⟩ := K'.2 x c1 q1
  exact ⟨c2, q2, t1.trans r1, t2.trans r2, t3.trans r3, fun i r => (t4 i (out i r)).trans (r4 i r), fun r => (t5 fun i => out i (r i)).trans (r5 r)⟩
theorem OKeep.of_wr (W : Wr h h' a sl v) : OKeep h h' [(a, sl)] := by
  refine ⟨Nat.le_of_eq W.size.symm, fun x c q => ?_⟩
  obtain ⟨c', e1, e2, e3, e4, e5, e6, -⟩ := wr_at W q
  refine ⟨c', e1, e2, e3, e4, fun i r => ?_, fun r => e5 fun z => r sl (by simp [z])⟩
  by_cases z : x = a
  · subst z
    exact e6 i fun y => r (by simp [y])
  · rw [e5 z]
theorem OKeep.wr (K : OKeep h0 h ws) (W : Wr h h' a sl v) (q : (a, sl) ∈ ws ∨ h0.size ≤ a) : OKeep h0 h' ws := K.trans (OKeep.of_wr W) fun x hx => by cases List.mem_singleton.mp hx; exact q
theorem oslot {x : ClassId × Class × Nat × Field} (h2 : Z.fieldFound? C n d = some x) : Jvm.RoadKit.slotOf Z C n d = x.2.2.2.slot := by
  show ((Z.fieldFound? C n d).map (·.2.2.2.slot)).getD 0 = _
  rw [h2]; rfl
theorem OKeep.fld (F : Fld Z h a C n d v) (K : OKeep h h' ws) (q : (a, Jvm.RoadKit.slotOf Z C n d) ∉ ws) : Fld Z h' a C n d v := by
  obtain ⟨cell, cf, k, i, f, h1, h2, h3, h4, h5, h6, h7⟩ := F
  obtain ⟨c', r, r1, r2, -, r4, -⟩ := K.2 a cell h1
  exact ⟨c', cf, k, i, f, r, h2, h3, by rw [r2]; exact h4, by rw [r2]; exact h5, by rw [r1]; exact h6, by rw [r4 f.slot (fun y => q (by rw [oslot h2]; exact y))]; exact h7⟩
theorem OKeep.exa (F : Exa Z h a C) (K : OKeep h h' ws) : Exa Z h' a C := by
  obtain ⟨cell, k, h1, h2, h3, h4, h5⟩ := F
  obtain ⟨c', q, r1, r2, r3, -, -⟩ := K.2 a cell h1
  exact ⟨c', k, q, r1 ▸ h2, r1 ▸ h3, r2 ▸ h4, r3 ▸ h5⟩
theorem OKeep.arv (F : Arv Z h a k ty z vs dv) (K : OKeep h h' ws) (q : ∀ x ∈ ws, a ≠ x.1) : Arv Z h' a k ty z vs dv := by
  obtain ⟨c, A, r⟩ := F
  obtain ⟨c', e1, -, -, -, -, e5⟩ := K.2 a c A.1
  cases e5 fun i y => q _ y rfl
  exact ⟨c, ⟨e1, A.2⟩, r⟩
theorem OKeep.old (X : Old Z n0 h) (K : OKeep h h' ws) (q : ∀ x ∈ ws, n0 ≤ x.1) : Old Z n0 h' := ⟨X.1, Nat.le_trans X.2.1 K.1, fun x c r => by
  obtain ⟨c', e1, -, -, -, -, e5⟩ := K.2 x c (X.2.2 x c r)
  cases e5 fun i y => absurd (X.1 ▸ (Array.getElem?_eq_some_iff.mp r).1) (Nat.not_lt.mpr (q _ y))
  exact e1⟩
theorem onin0 {x : Addr × Nat} : x ∉ ([] : List (Addr × Nat)) := fun q => nomatch q
theorem oninA {t : Nat} {L : List (Addr × Nat)} (q : a ≠ b) (r : (a, sl) ∉ L) : (a, sl) ∉ (b, t) :: L := fun y => (List.mem_cons.mp y).elim (fun u => q (congrArg Prod.fst u)) r
theorem oninS {t : Nat} {L : List (Addr × Nat)} (q : sl ≠ t) (r : (a, sl) ∉ L) : (a, sl) ∉ (b, t) :: L := fun y => (List.mem_cons.mp y).elim (fun u => q (congrArg Prod.snd u)) r
theorem oall0 : ∀ x ∈ ([] : List (Addr × Nat)), a ≠ x.1 := fun _ q => nomatch q
theorem oallS {t : Nat} {L : List (Addr × Nat)} (q : a ≠ b) (r : ∀ x ∈ L, a ≠ x.1) : ∀ x ∈ (b, t) :: L, a ≠ x.1 := fun x y => (List.mem_cons.mp y).elim (fun u => by subst u; exact q) (r x)
theorem oge0 : ∀ x ∈ ([] : List (Addr × Nat)), n0 ≤ x.1 := fun _ q => nomatch q
theorem ogeS {t : Nat} {L : List (Addr × Nat)} (q : n0 ≤ b) (r : ∀ x ∈ L, n0 ≤ x.1) : ∀ x ∈ (b, t) :: L, n0 ≤ x.1 := fun x y => (List.mem_cons.mp y).elim (fun u => by subst u; exact q) (r x)
theorem oin0 {P : Addr × Nat → Prop} : ∀ x ∈ ([] : List (Addr × Nat)), P x := fun _ q => nomatch q
theorem oinS {P : Addr × Nat → Prop} {y : Addr × Nat} {L : List (Addr × Nat)} (q : P y) (r : ∀ x ∈ L, P x) : ∀ x ∈ y :: L, P x := fun x u => (List.mem_cons.mp u).elim (fun w => w ▸ q) (r x)
theorem oeq_int {args : Array Value} {first s : State} {o : Option Outcome} {idx : List Nat} {t : Term} {w : Int32} (q : (Jvm.Cond.eq t (.int w)).value args first o s idx = some true) : t.eval args first o idx s = some (.int w) := by
  simp only [Jvm.Cond.value, Term.eval] at q
  cases ht : t.eval args first o idx s with
  | none => simp [ht] at q
  | some x => cases x <;> simp [ht] at q ⊢; exact q
theorem oeq_ref {args : Array Value} {first s : State} {o : Option Outcome} {idx : List Nat} {t u : Term} {w : Addr} (q : (Jvm.Cond.eq t u).value args first o s idx = some true) (r : u.eval args first o idx s = some (.ref w)) : t.eval args first o idx s = some (.ref w) := by
  obtain ⟨x, y, e1, e2, k1, k2⟩ := cmp_v (Or.inl q)
  cases r.symm.trans e2
  rcases ref_cases k2.2 with rfl | ⟨z, rfl⟩
  · have := eq_R e1 e2 rfl rfl
    rw [q] at this
    simp at this
  · have := gotT (eq_R e1 e2 rfl rfl) q
    rw [e1, this]
theorem one_int {args : Array Value} {first s : State} {o : Option Outcome} {idx : List Nat} {t : Term} {w : Int32} (r : t.eval args first o idx s = some (.int w)) (q : (Jvm.Cond.not (.eq t (.int 0))).value args first o s idx = some true) : ¬ (w = (0 : Int32)) := by
  have := not_v q
  exact gotF (Cond.eq_ints r rfl) this
theorem olen {args : Array Value} {first s : State} {o : Option Outcome} {idx : List Nat} {t : Term} {cl : Cell} {w : Int32} (q : (Term.length t).eval args first o idx s = some (.int w)) (ht : t.eval args first o idx s = some (.ref a)) (ha : s.arrayAt? a = some cl) : cl.slots.size < 2 ^ 31 ∧ cl.slots.size.toInt32 = w := by
  simp only [Term.eval, ht, ha, Option.bind_eq_bind, Option.bind_some] at q
  by_cases y : cl.slots.size < 2 ^ 31
  · exact ⟨y, by simpa [y] using q⟩
  · simp [y] at q
theorem osub128 {args : Array Value} {j : Int32} (hj : ¬ j < 0) : (Term.sub (.index 0) (.int 128)).eval args Z none [j.toNatClampNeg] Z = some (.int (j - 128)) := by
  have e := idx_at (args := args) (first := Z) (s := Z) (o := none) hj
  simp only [Term.eval] at e ⊢
  simp [e]
  exact (back32 hj).1
def obox (c : Cell) (j : Int32) : Addr := match c.slots[j.toNatClampNeg]? with
  | some (.ref b) => b
  | _ => 0
theorem obox_at {cl : Cell} {K dd : String} {w : Int32} {val : Int32 → Value} (B : Bxs Z a cl K dd w val) {j : Int32} (hj : ¬ (j < 0 ∨ cl.slots.size ≤ j.toNatClampNeg)) : cl.slots[j.toNatClampNeg]? = some (.ref (obox cl j)) ∧ Exa Z Z.heap (obox cl j) K ∧ Fld Z Z.heap (obox cl j) K "value" dd (val j) := by
  obtain ⟨b, h1, h2, h3⟩ := B.2.2.2 j hj
  have e : obox cl j = b := by unfold obox; rw [h1]
  rw [e]; exact ⟨h1, h2, h3⟩
theorem oNS.root {a0 : Array Value} {O K : String} {i : Nat} (w : (Cond.noSuperclass O).before a0 Z = true) (wk : (Cond.instantiable K i).before a0 Z = true) (hn : O ≠ K) : NS Z O K := by
  obtain ⟨c, k, h1, h2, h3, -, -⟩ := Cond.noSuperclass_spec w
  obtain ⟨t, kt, g1, -⟩ := Cond.instantiable_spec wk
  have ne := ids_ne h1 g1 hn
  refine ⟨c, t, h1, g1, fun fuel => ?_⟩
  cases fuel with
  | zero => rfl
  | succ f => simp [Vm.isSubclassAux, ne, h2, h3]
theorem oNS.no {a0 : Array Value} {C S K : String} {i : Nat} (w : (Cond.superclass C S).before a0 Z = true) (wk : (Cond.instantiable K i).before a0 Z = true) (q : NS Z C K) (hn : C ≠ K) : ∃ c t, Z.vm.findClass C = some c ∧ Z.vm.findClass K = some t ∧ Z.vm.assignable c t = false := by
  obtain ⟨c, t, h0, g0, n3⟩ := q
  obtain ⟨p, k, kp, h1, h2, h3, h4, h5, -, h7⟩ := Cond.superclass_spec h0 w
  obtain ⟨t', k', g1, g2, g3, g4, -⟩ := Cond.instantiable_spec wk
  cases g0.symm.trans g1
  have ne := ids_ne h0 g0 hn
  have g7 : k'.isInterface = false := (Bool.or_eq_false_iff.mp g4).1
  refine ⟨c, t, h0, g0, ?_⟩
  show Z.vm.assignableAux (255 + 1) c t = false
  simp [Vm.assignableAux, ne, h2, g2, h5, g3, g7, Vm.isSubclass, n3]
end OwnFacts
theorem ow {Z : State} {a0 : Array Value} (hw : ∀ d ∈ tables_1, d.before a0 Z = true) (i : Nat) {d : Jvm.Cond} (h : tables_1[i]? = some d) : d.before a0 Z = true := hw _ (List.mem_of_getElem? h)
theorem own_rem15 (x : Int32) : ((x &&& (2147483647 : Int32)) % (15 : Int32)) = (0 : Int32) ∨ ((x &&& (2147483647 : Int32)) % (15 : Int32)) = (1 : Int32) ∨ ((x &&& (2147483647 : Int32)) % (15 : Int32)) = (2 : Int32) ∨ ((x &&& (2147483647 : Int32)) % (15 : Int32)) = (3 : Int32) ∨ ((x &&& (2147483647 : Int32)) % (15 : Int32)) = (4 : Int32) ∨ ((x &&& (2147483647 : Int32)) % (15 : Int32)) = (5 : Int32) ∨ ((x &&& (2147483647 : Int32)) % (15 : Int32)) = (6 : Int32) ∨ ((x &&& (2147483647 : Int32)) % (15 : Int32)) = (7 : Int32) ∨ ((x &&& (2147483647 : Int32)) % (15 : Int32)) = (8 : Int32) ∨ ((x &&& (2147483647 : Int32)) % (15 : Int32)) = (9 : Int32) ∨ ((x &&& (2147483647 : Int32)) % (15 : Int32)) = (10 : Int32) ∨ ((x &&& (2147483647 : Int32)) % (15 : Int32)) = (11 : Int32) ∨ ((x &&& (2147483647 : Int32)) % (15 : Int32)) = (12 : Int32) ∨ ((x &&& (2147483647 : Int32)) % (15 : Int32)) = (13 : Int32) ∨ ((x &&& (2147483647 : Int32)) % (15 : Int32)) = (14 : Int32) := by
  have e1 : (x &&& (2147483647 : Int32)).toInt = x.toInt % ((2 ^ 31 : Nat) : Int) := c_mask x 2147483647 31 (by decide) (by decide)
  have p : ((2 ^ 31 : Nat) : Int) = 2147483648 := rfl
  rw [p] at e1
  have e : ((x &&& (2147483647 : Int32)) % (15 : Int32)).toInt = (x &&& (2147483647 : Int32)).toInt % 15 := (c_irem (x &&& (2147483647 : Int32)) (15 : Int32) 15 (by decide)).1 (by omega)
  simp only [← Int32.toInt_inj, e]
  have : (0 : Int32).toInt = 0 ∧ (1 : Int32).toInt = 1 ∧ (2 : Int32).toInt = 2 ∧ (3 : Int32).toInt = 3 ∧ (4 : Int32).toInt = 4 ∧ (5 : Int32).toInt = 5 ∧ (6 : Int32).toInt = 6 ∧ (7 : Int32).toInt = 7 ∧ (8 : Int32).toInt = 8 ∧ (9 : Int32).toInt = 9 ∧ (10 : Int32).toInt = 10 ∧ (11 : Int32).toInt = 11 ∧ (12 : Int32).toInt = 12 ∧ (13 : Int32).toInt = 13 ∧ (14 : Int32).toInt = 14 := by decide
  omega
def Glob (Z : State) (w_START_EVENT : Addr) (w_BOUNDARY_EVENT : Addr) (w_MESSAGE_BOUNDARY_EVENT : Addr) (w_TERMINATE_END_EVENT : Addr) (w_LINK_THROW_EVENT : Addr) (w_LINK_CATCH_EVENT : Addr) (w_RECEPTION : Addr) (w_END_EVENT : Addr) (w_EVENT_BASED_GATEWAY : Addr) (w_INCLUSIVE_GATEWAY : Addr) (w_EXCLUSIVE_GATEWAY : Addr) (w_MESSAGE_START_EVENT : Addr) (w_SUB_PROCESS : Addr) (w_ACTIVITY : Addr) (w_PARALLEL_GATEWAY : Addr) : Prop := Sta Z Z.heap "com/example/chorale/chorale/FlowGraph$Kind" "START_EVENT" "Lcom/example/chorale/chorale/FlowGraph$Kind;" (.ref w_START_EVENT) ∧ Exa Z Z.heap w_START_EVENT "com/example/chorale/chorale/FlowGraph$Kind" ∧ Sta Z Z.heap "com/example/chorale/chorale/FlowGraph$Kind" "BOUNDARY_EVENT" "Lcom/example/chorale/chorale/FlowGraph$Kind;" (.ref w_BOUNDARY_EVENT) ∧ Exa Z Z.heap w_BOUNDARY_EVENT "com/example/chorale/chorale/FlowGraph$Kind" ∧ Sta Z Z.heap "com/example/chorale/chorale/FlowGraph$Kind" "MESSAGE_BOUNDARY_EVENT" "Lcom/example/chorale/chorale/FlowGraph$Kind;" (.ref w_MESSAGE_BOUNDARY_EVENT) ∧ Exa Z Z.heap w_MESSAGE_BOUNDARY_EVENT "com/example/chorale/chorale/FlowGraph$Kind" ∧ Sta Z Z.heap "com/example/chorale/chorale/FlowGraph$Kind" "TERMINATE_END_EVENT" "Lcom/example/chorale/chorale/FlowGraph$Kind;" (.ref w_TERMINATE_END_EVENT) ∧ Exa Z Z.heap w_TERMINATE_END_EVENT "com/example/chorale/chorale/FlowGraph$Kind" ∧ Sta Z Z.heap "com/example/chorale/chorale/FlowGraph$Kind" "LINK_THROW_EVENT" "Lcom/example/chorale/chorale/FlowGraph$Kind;" (.ref w_LINK_THROW_EVENT) ∧ Exa Z Z.heap w_LINK_THROW_EVENT "com/example/chorale/chorale/FlowGraph$Kind" ∧ Sta Z Z.heap "com/example/chorale/chorale/FlowGraph$Kind" "LINK_CATCH_EVENT" "Lcom/example/chorale/chorale/FlowGraph$Kind;" (.ref w_LINK_CATCH_EVENT) ∧ Exa Z Z.heap w_LINK_CATCH_EVENT "com/example/chorale/chorale/FlowGraph$Kind" ∧ Sta Z Z.heap "com/example/chorale/chorale/FlowGraph$Kind" "RECEPTION" "Lcom/example/chorale/chorale/FlowGraph$Kind;" (.ref w_RECEPTION) ∧ Exa Z Z.heap w_RECEPTION "com/example/chorale/chorale/FlowGraph$Kind" ∧ Sta Z Z.heap "com/example/chorale/chorale/FlowGraph$Kind" "END_EVENT" "Lcom/example/chorale/chorale/FlowGraph$Kind;" (.ref w_END_EVENT) ∧ Exa Z Z.heap w_END_EVENT "com/example/chorale/chorale/FlowGraph$Kind" ∧ Sta Z Z.heap "com/example/chorale/chorale/FlowGraph$Kind" "EVENT_BASED_GATEWAY" "Lcom/example/chorale/chorale/FlowGraph$Kind;" (.ref w_EVENT_BASED_GATEWAY) ∧ Exa Z Z.heap w_EVENT_BASED_GATEWAY "com/example/chorale/chorale/FlowGraph$Kind" ∧ Sta Z Z.heap "com/example/chorale/chorale/FlowGraph$Kind" "INCLUSIVE_GATEWAY" "Lcom/example/chorale/chorale/FlowGraph$Kind;" (.ref w_INCLUSIVE_GATEWAY) ∧ Exa Z Z.heap w_INCLUSIVE_GATEWAY "com/example/chorale/chorale/FlowGraph$Kind" ∧ Sta Z Z.heap "com/example/chorale/chorale/FlowGraph$Kind" "EXCLUSIVE_GATEWAY" "Lcom/example/chorale/chorale/FlowGraph$Kind;" (.ref w_EXCLUSIVE_GATEWAY) ∧ Exa Z Z.heap w_EXCLUSIVE_GATEWAY "com/example/chorale/chorale/FlowGraph$Kind" ∧ Sta Z Z.heap "com/example/chorale/chorale/FlowGraph$Kind" "MESSAGE_START_EVENT" "Lcom/example/chorale/chorale/FlowGraph$Kind;" (.ref w_MESSAGE_START_EVENT) ∧ Exa Z Z.heap w_MESSAGE_START_EVENT "com/example/chorale/chorale/FlowGraph$Kind" ∧ Sta Z Z.heap "com/example/chorale/chorale/FlowGraph$Kind" "SUB_PROCESS" "Lcom/example/chorale/chorale/FlowGraph$Kind;" (.ref w_SUB_PROCESS) ∧ Exa Z Z.heap w_SUB_PROCESS "com/example/chorale/chorale/FlowGraph$Kind" ∧ Sta Z Z.heap "com/example/chorale/chorale/FlowGraph$Kind" "ACTIVITY" "Lcom/example/chorale/chorale/FlowGraph$Kind;" (.ref w_ACTIVITY) ∧ Exa Z Z.heap w_ACTIVITY "com/example/chorale/chorale/FlowGraph$Kind" ∧ Sta Z Z.heap "com/example/chorale/chorale/FlowGraph$Kind" "PARALLEL_GATEWAY" "Lcom/example/chorale/chorale/FlowGraph$Kind;" (.ref w_PARALLEL_GATEWAY) ∧ Exa Z Z.heap w_PARALLEL_GATEWAY "com/example/chorale/chorale/FlowGraph$Kind" ∧ Fld Z Z.heap w_START_EVENT "java/lang/Enum" "ordinal" "I" (.int (0 : Int32)) ∧ Fld Z Z.heap w_BOUNDARY_EVENT "java/lang/Enum" "ordinal" "I" (.int (13 : Int32)) ∧ Fld Z Z.heap w_MESSAGE_BOUNDARY_EVENT "java/lang/Enum" "ordinal" "I" (.int (14 : Int32)) ∧ Fld Z Z.heap w_TERMINATE_END_EVENT "java/lang/Enum" "ordinal" "I" (.int (3 : Int32)) ∧ Fld Z Z.heap w_LINK_THROW_EVENT "java/lang/Enum" "ordinal" "I" (.int (5 : Int32)) ∧ Fld Z Z.heap w_LINK_CATCH_EVENT "java/lang/Enum" "ordinal" "I" (.int (6 : Int32)) ∧ Fld Z Z.heap w_RECEPTION "java/lang/Enum" "ordinal" "I" (.int (7 : Int32)) ∧ Fld Z Z.heap w_END_EVENT "java/lang/Enum" "ordinal" "I" (.int (2 : Int32)) ∧ Fld Z Z.heap w_EVENT_BASED_GATEWAY "java/lang/Enum" "ordinal" "I" (.int (11 : Int32)) ∧ Fld Z Z.heap w_INCLUSIVE_GATEWAY "java/lang/Enum" "ordinal" "I" (.int (10 : Int32)) ∧ Fld Z Z.heap w_EXCLUSIVE_GATEWAY "java/lang/Enum" "ordinal" "I" (.int (8 : Int32)) ∧ Fld Z Z.heap w_MESSAGE_START_EVENT "java/lang/Enum" "ordinal" "I" (.int (1 : Int32)) ∧ Fld Z Z.heap w_SUB_PROCESS "java/lang/Enum" "ordinal" "I" (.int (12 : Int32)) ∧ Fld Z Z.heap w_ACTIVITY "java/lang/Enum" "ordinal" "I" (.int (4 : Int32)) ∧ Fld Z Z.heap w_PARALLEL_GATEWAY "java/lang/Enum" "ordinal" "I" (.int (9 : Int32))
theorem d1_0 : decode method_2_code 0 = .ok (.iload_n 0, 1) := by decide +kernel
theorem d1_1 : decode method_2_code 1 = .ok (.ifCond .ne 7, 3) := by decide +kernel
theorem d1_4 : decode method_2_code 4 = .ok (.getstatic 7, 3) := by decide +kernel
theorem d1_7 : decode method_2_code 7 = .ok (.areturn, 1) := by decide +kernel
theorem pn_com_example_chorale_chorale_KindAttachesPinLaw : plainName "com/example/chorale/chorale/KindAttachesPinLaw" = true := by first | (simp [plainName, overriddenIn]; done) | decide +kernel
def Q1 (Z : State) (w_START_EVENT : Addr) (w_BOUNDARY_EVENT : Addr) (w_MESSAGE_BOUNDARY_EVENT : Addr) (w_TERMINATE_END_EVENT : Addr) (w_LINK_THROW_EVENT : Addr) (w_LINK_CATCH_EVENT : Addr) (w_RECEPTION : Addr) (w_END_EVENT : Addr) (w_EVENT_BASED_GATEWAY : Addr) (w_INCLUSIVE_GATEWAY : Addr) (w_EXCLUSIVE_GATEWAY : Addr) (w_MESSAGE_START_EVENT : Addr) (w_SUB_PROCESS : Addr) (w_ACTIVITY : Addr) (w_PARALLEL_GATEWAY : Addr)  (h0 : Heap) (n0 : Nat) (v : Option Value) (h : Heap) (L : List Loc) : Prop := v = some (.ref w_START_EVENT) ∧ Fr n0 L ∧ h = h0
theorem ef1 (m : MethodId)  : entryFrame m #[(.int (0 : Int32))] 1 = mkF m 0 #[.val (.int (0 : Int32))] [] := by first | (simp [entryFrame, mkF, argsToLocals, Value.category]; done) | rfl
set_option maxRecDepth 65536 in
set_option maxHeartbeats 40000000 in
theorem rm1 (l : Launch) (Z : State) (a0 : Array Value) (hw : ∀ d ∈ tables_1, d.before a0 Z = true) (ws : List Jvm.Cond) {w_START_EVENT : Addr} {w_BOUNDARY_EVENT : Addr} {w_MESSAGE_BOUNDARY_EVENT : Addr} {w_TERMINATE_END_EVENT : Addr} {w_LINK_THROW_EVENT : Addr} {w_LINK_CATCH_EVENT : Addr} {w_RECEPTION : Addr} {w_END_EVENT : Addr} {w_EVENT_BASED_GATEWAY : Addr} {w_INCLUSIVE_GATEWAY : Addr} {w_EXCLUSIVE_GATEWAY : Addr} {w_MESSAGE_START_EVENT : Addr} {w_SUB_PROCESS : Addr} {w_ACTIVITY : Addr} {w_PARALLEL_GATEWAY : Addr} (G : Glob Z w_START_EVENT w_BOUNDARY_EVENT w_MESSAGE_BOUNDARY_EVENT w_TERMINATE_END_EVENT w_LINK_THROW_EVENT w_LINK_CATCH_EVENT w_RECEPTION w_END_EVENT w_EVENT_BASED_GATEWAY w_INCLUSIVE_GATEWAY w_EXCLUSIVE_GATEWAY w_MESSAGE_START_EVENT w_SUB_PROCESS w_ACTIVITY w_PARALLEL_GATEWAY)  (h0 : Heap) (n0 : Nat) (O0 : Old Z n0 h0) :
    MetFree l (⟨"com/example/chorale/chorale/KindAttachesPinLaw", "kindAt", "(I)Lcom/example/chorale/chorale/FlowGraph$Kind;"⟩ : MethodName) (head1 (Jvm.Cond.code (⟨"com/example/chorale/chorale/KindAttachesPinLaw", "kindAt", "(I)Lcom/example/chorale/chorale/FlowGraph$Kind;"⟩ : MethodName) method_2_code 1 (some (.object "com/example/chorale/chorale/FlowGraph$Kind")) :: ws) ({ frames := 0, cells := 0, slots := 0, locals := 0 } : Room)) (fun a U => a = #[(.int (0 : Int32))] ∧ Z.Warmed39 U.vm ∧ U.heap = h0) (fun _ _ _ _ _ => True) (fun _ U o U' => ∃ v L, o = .returned v ∧ Q1 Z w_START_EVENT w_BOUNDARY_EVENT w_MESSAGE_BOUNDARY_EVENT w_TERMINATE_END_EVENT w_LINK_THROW_EVENT w_LINK_CATCH_EVENT w_RECEPTION w_END_EVENT w_EVENT_BASED_GATEWAY w_INCLUSIVE_GATEWAY w_EXCLUSIVE_GATEWAY w_MESSAGE_START_EVENT w_SUB_PROCESS w_ACTIVITY w_PARALLEL_GATEWAY  h0 n0 v U'.heap L ∧ FrameEnd U o U' L ({ frames := 0, cells := 0, slots := 0, locals := 0 } : Room).cells ({ frames := 0, cells := 0, slots := 0, locals := 0 } : Room).slots) := by
  refine MetFree.of_bodySF (plainFor_of_name pn_com_example_chorale_chorale_KindAttachesPinLaw) hisR ?_
  intro p e s m args below meth c s₁ Bd hml0 hP hK
  obtain ⟨rfl, hZ, hh⟩ := hP
  have hx := Bd.exec
  have hby := Bd.bytes
  have hml : c.maxLocals = 1 := hml0
  have hown : s.vm.findClass "com/example/chorale/chorale/KindAttachesPinLaw" = some m.cls := findClass_of_methodNamed Bd.named
  have hnm := (name_of_methodNamed Bd.named Bd.method).1
  have X0 : Stand p l e ({ frames := 0, cells := 0, slots := 0, locals := 0 } : Room) s m #[(.int (0 : Int32))] below meth c s₁ [] 0 0 := Stand.of_body Bd
  have e0 : s₁.heap = h0 := by rw [← hh, Bd.state]; rfl
  have N0 := Fr.nil n0
  show OGot p.tables e below (s₁.setTop (entryFrame m #[(.int (0 : Int32))] 1)) _
  refine OGot.go (fun t k => castTop (ef1 m ) k) ?_
  show OGot p.tables e below (s₁.setTop (mkF m 0 #[.val (.int (0 : Int32))] [])) _
  refine OGot.go (fun t k => XS.iloadN X0.here hx rfl (hb hby d1_0) rfl k) ?_
  show OGot p.tables e below (s₁.setTop (mkF m 1 #[.val (.int (0 : Int32))] [(.int (0 : Int32))])) _
  refine OGot.go (fun t k => XS.ifNo X0.here hx rfl (hb hby d1_1) rfl (by decide) k) ?_
  show OGot p.tables e below (s₁.setTop (mkF m 4 #[.val (.int (0 : Int32))] [])) _
  obtain ⟨T1, X1, e1, st1⟩ := getS2 X0 hx hZ hown (host := "") (Or.inl (ow hw 5 rfl)) Via.refl e0 (G.1.ext O0.2) (g := (mkF m 4 #[.val (.int (0 : Int32))] [])) rfl (hb hby d1_4)
  refine OGot.go st1 ?_
  show OGot p.tables e below (T1.setTop (mkF m 7 #[.val (.int (0 : Int32))] [(.ref w_START_EVENT)])) _
  obtain ⟨fs, hr, hrun, hended, hW, hsame⟩ := X1.leave (v := some (.ref w_START_EVENT)) (fun h => by rw [Bd.returns] at h; cases h)
  refine ⟨_, _, oretA X1 hx Bd.returns rfl rfl (hb hby d1_7) hr, hrun, hended, _, _, rfl, ?_, ⟨_, rfl⟩, hW, hsame.mono (by decide) (by decide)⟩
  exact (⟨rfl, N0, e1⟩ : Q1 Z w_START_EVENT w_BOUNDARY_EVENT w_MESSAGE_BOUNDARY_EVENT w_TERMINATE_END_EVENT w_LINK_THROW_EVENT w_LINK_CATCH_EVENT w_RECEPTION w_END_EVENT w_EVENT_BASED_GATEWAY w_INCLUSIVE_GATEWAY w_EXCLUSIVE_GATEWAY w_MESSAGE_START_EVENT w_SUB_PROCESS w_ACTIVITY w_PARALLEL_GATEWAY  h0 n0 _ T1.heap _)
theorem pd_0 : parseMethodDescriptor "(I)Lcom/example/chorale/chorale/FlowGraph$Kind;" = some ⟨[.int], some (.object "com/example/chorale/chorale/FlowGraph$Kind")⟩ := by decide +kernel
theorem d2_0 : decode prog_73_method_5_code 0 = .ok (.aload_n 0, 1) := by decide +kernel
theorem d2_1 : decode prog_73_method_5_code 1 = .ok (.getstatic 43, 3) := by decide +kernel
theorem d2_4 : decode prog_73_method_5_code 4 = .ok (.if_acmp .eq 10, 3) := by decide +kernel
theorem d2_7 : decode prog_73_method_5_code 7 = .ok (.aload_n 0, 1) := by decide +kernel
theorem d2_8 : decode prog_73_method_5_code 8 = .ok (.getstatic 46, 3) := by decide +kernel
theorem d2_11 : decode prog_73_method_5_code 11 = .ok (.if_acmp .ne 7, 3) := by decide +kernel
theorem d2_18 : decode prog_73_method_5_code 18 = .ok (.iconst 0, 1) := by decide +kernel
theorem d2_19 : decode prog_73_method_5_code 19 = .ok (.ireturn, 1) := by decide +kernel
theorem pn_com_example_chorale_chorale_FlowGraph_Kind : plainName "com/example/chorale/chorale/FlowGraph$Kind" = true := by first | (simp [plainName, overriddenIn]; done) | decide +kernel
def Q2 (Z : State) (w_START_EVENT : Addr) (w_BOUNDARY_EVENT : Addr) (w_MESSAGE_BOUNDARY_EVENT : Addr) (w_TERMINATE_END_EVENT : Addr) (w_LINK_THROW_EVENT : Addr) (w_LINK_CATCH_EVENT : Addr) (w_RECEPTION : Addr) (w_END_EVENT : Addr) (w_EVENT_BASED_GATEWAY : Addr) (w_INCLUSIVE_GATEWAY : Addr) (w_EXCLUSIVE_GATEWAY : Addr) (w_MESSAGE_START_EVENT : Addr) (w_SUB_PROCESS : Addr) (w_ACTIVITY : Addr) (w_PARALLEL_GATEWAY : Addr)  (h0 : Heap) (n0 : Nat) (v : Option Value) (h : Heap) (L : List Loc) : Prop := v = some (.int (0 : Int32)) ∧ Fr n0 L ∧ h = h0
theorem ef2 (m : MethodId) (x0 : Addr) : entryFrame m #[(.ref x0)] 1 = mkF m 0 #[.val (.ref x0)] [] := by first | (simp [entryFrame, mkF, argsToLocals, Value.category]; done) | rfl
set_option maxRecDepth 65536 in
set_option maxHeartbeats 40000000 in
theorem rm2 (l : Launch) (Z : State) (a0 : Array Value) (hw : ∀ d ∈ tables_1, d.before a0 Z = true) (ws : List Jvm.Cond) {w_START_EVENT : Addr} {w_BOUNDARY_EVENT : Addr} {w_MESSAGE_BOUNDARY_EVENT : Addr} {w_TERMINATE_END_EVENT : Addr} {w_LINK_THROW_EVENT : Addr} {w_LINK_CATCH_EVENT : Addr} {w_RECEPTION : Addr} {w_END_EVENT : Addr} {w_EVENT_BASED_GATEWAY : Addr} {w_INCLUSIVE_GATEWAY : Addr} {w_EXCLUSIVE_GATEWAY : Addr} {w_MESSAGE_START_EVENT : Addr} {w_SUB_PROCESS : Addr} {w_ACTIVITY : Addr} {w_PARALLEL_GATEWAY : Addr} (G : Glob Z w_START_EVENT w_BOUNDARY_EVENT w_MESSAGE_BOUNDARY_EVENT w_TERMINATE_END_EVENT w_LINK_THROW_EVENT w_LINK_CATCH_EVENT w_RECEPTION w_END_EVENT w_EVENT_BASED_GATEWAY w_INCLUSIVE_GATEWAY w_EXCLUSIVE_GATEWAY w_MESSAGE_START_EVENT w_SUB_PROCESS w_ACTIVITY w_PARALLEL_GATEWAY)  (h0 : Heap) (n0 : Nat) (O0 : Old Z n0 h0) :
    MetFree l (⟨"com/example/chorale/chorale/FlowGraph$Kind", "attaches", "()Z"⟩ : MethodName) (head1 (Jvm.Cond.code (⟨"com/example/chorale/chorale/FlowGraph$Kind", "attaches", "()Z"⟩ : MethodName) prog_73_method_5_code 1 (some .boolean) :: ws) ({ frames := 0, cells := 0, slots := 0, locals := 0 } : Room)) (fun a U => a = #[(.ref w_START_EVENT)] ∧ Z.Warmed39 U.vm ∧ U.heap = h0) (fun _ _ _ _ _ => True) (fun _ U o U' => ∃ v L, o = .returned v ∧ Q2 Z w_START_EVENT w_BOUNDARY_EVENT w_MESSAGE_BOUNDARY_EVENT w_TERMINATE_END_EVENT w_LINK_THROW_EVENT w_LINK_CATCH_EVENT w_RECEPTION w_END_EVENT w_EVENT_BASED_GATEWAY w_INCLUSIVE_GATEWAY w_EXCLUSIVE_GATEWAY w_MESSAGE_START_EVENT w_SUB_PROCESS w_ACTIVITY w_PARALLEL_GATEWAY  h0 n0 v U'.heap L ∧ FrameEnd U o U' L ({ frames := 0, cells := 0, slots := 0, locals := 0 } : Room).cells ({ frames := 0, cells := 0, slots := 0, locals := 0 } : Room).slots) := by
  refine MetFree.of_bodySF (plainFor_of_name pn_com_example_chorale_chorale_FlowGraph_Kind) hisR ?_
  intro p e s m args below meth c s₁ Bd hml0 hP hK
  obtain ⟨rfl, hZ, hh⟩ := hP
  have hx := Bd.exec
  have hby := Bd.bytes
  have hml : c.maxLocals = 1 := hml0
  have hown : s.vm.findClass "com/example/chorale/chorale/FlowGraph$Kind" = some m.cls := findClass_of_methodNamed Bd.named
  have hnm := (name_of_methodNamed Bd.named Bd.method).1
  have X0 : Stand p l e ({ frames := 0, cells := 0, slots := 0, locals := 0 } : Room) s m #[(.ref w_START_EVENT)] below meth c s₁ [] 0 0 := Stand.of_body Bd
  have e0 : s₁.heap = h0 := by rw [← hh, Bd.state]; rfl
  have N0 := Fr.nil n0
  show OGot p.tables e below (s₁.setTop (entryFrame m #[(.ref w_START_EVENT)] 1)) _
  refine OGot.go (fun t k => castTop (ef2 m w_START_EVENT) k) ?_
  show OGot p.tables e below (s₁.setTop (mkF m 0 #[.val (.ref w_START_EVENT)] [])) _
  refine OGot.go (fun t k => XS.aloadN X0.here hx rfl (hb hby d2_0) rfl rfl k) ?_
  show OGot p.tables e below (s₁.setTop (mkF m 1 #[.val (.ref w_START_EVENT)] [(.ref w_START_EVENT)])) _
  obtain ⟨T2, X2, e2, st2⟩ := getS2 X0 hx hZ hown (host := "") (Or.inl (ow hw 13 rfl)) Via.refl e0 (G.2.2.1.ext O0.2) (g := (mkF m 1 #[.val (.ref w_START_EVENT)] [(.ref w_START_EVENT)])) rfl (hb hby d2_1)
  refine OGot.go st2 ?_
  show OGot p.tables e below (T2.setTop (mkF m 4 #[.val (.ref w_START_EVENT)] [(.ref w_BOUNDARY_EVENT), (.ref w_START_EVENT)])) _
  have ne3 : w_START_EVENT ≠ w_BOUNDARY_EVENT := (Fld.ne G.2.2.2.2.2.2.2.2.2.2.2.2.2.2.2.2.2.2.2.2.2.2.2.2.2.2.2.2.2.2.1 G.2.2.2.2.2.2.2.2.2.2.2.2.2.2.2.2.2.2.2.2.2.2.2.2.2.2.2.2.2.2.2.1 (by decide))
  refine OGot.go (fun t k => Jvm.RoadKit.acmp (g := (mkF m 4 #[.val (.ref w_START_EVENT)] [(.ref w_BOUNDARY_EVENT), (.ref w_START_EVENT)])) X2 hx rfl rfl rfl (pc0 := 4) (pc' := 7) (same := false) rfl (hb hby d2_4) rfl (decide_eq_false fun q => ne3 (Value.ref.inj q)) (by decide) (by decide) k) ?_
  show OGot p.tables e below (T2.setTop (mkF m 7 #[.val (.ref w_START_EVENT)] [])) _
  refine OGot.go (fun t k => XS.aloadN X2.here hx rfl (hb hby d2_7) rfl rfl k) ?_
  show OGot p.tables e below (T2.setTop (mkF m 8 #[.val (.ref w_START_EVENT)] [(.ref w_START_EVENT)])) _
  obtain ⟨T4, X4, e4, st4⟩ := getS2 X2 hx hZ hown (host := "") (Or.inl (ow hw 15 rfl)) Via.refl e2 (G.2.2.2.2.1.ext O0.2) (g := (mkF m 8 #[.val (.ref w_START_EVENT)] [(.ref w_START_EVENT)])) rfl (hb hby d2_8)
  refine OGot.go st4 ?_
  show OGot p.tables e below (T4.setTop (mkF m 11 #[.val (.ref w_START_EVENT)] [(.ref w_MESSAGE_BOUNDARY_EVENT), (.ref w_START_EVENT)])) _
  have ne5 : w_START_EVENT ≠ w_MESSAGE_BOUNDARY_EVENT := (Fld.ne G.2.2.2.2.2.2.2.2.2.2.2.2.2.2.2.2.2.2.2.2.2.2.2.2.2.2.2.2.2.2.1 G.2.2.2.2.2.2.2.2.2.2.2.2.2.2.2.2.2.2.2.2.2.2.2.2.2.2.2.2.2.2.2.2.1 (by decide))
  refine OGot.go (fun t k => Jvm.RoadKit.acmp (g := (mkF m 11 #[.val (.ref w_START_EVENT)] [(.ref w_MESSAGE_BOUNDARY_EVENT), (.ref w_START_EVENT)])) X4 hx rfl rfl rfl (pc0 := 11) (pc' := 18) (same := false) rfl (hb hby d2_11) rfl (decide_eq_false fun q => ne5 (Value.ref.inj q)) (by decide) (by decide) k) ?_
  show OGot p.tables e below (T4.setTop (mkF m 18 #[.val (.ref w_START_EVENT)] [])) _
  refine OGot.go (fun t k => XS.iconst X4.here hx rfl (hb hby d2_18) k) ?_
  show OGot p.tables e below (T4.setTop (mkF m 19 #[.val (.ref w_START_EVENT)] [(.int (0 : Int32))])) _
  obtain ⟨fs, hr, hrun, hended, hW, hsame⟩ := X4.leave (v := some (.int (0 : Int32))) (fun h => by rw [Bd.returns] at h; cases h)
  refine ⟨_, _, retN X4 hx (t := .boolean) Bd.returns (by simp) (hb hby d2_19) hr, hrun, hended, _, _, rfl, ?_, ⟨_, rfl⟩, hW, hsame.mono (by decide) (by decide)⟩
  exact (⟨rfl, N0, e4⟩ : Q2 Z w_START_EVENT w_BOUNDARY_EVENT w_MESSAGE_BOUNDARY_EVENT w_TERMINATE_END_EVENT w_LINK_THROW_EVENT w_LINK_CATCH_EVENT w_RECEPTION w_END_EVENT w_EVENT_BASED_GATEWAY w_INCLUSIVE_GATEWAY w_EXCLUSIVE_GATEWAY w_MESSAGE_START_EVENT w_SUB_PROCESS w_ACTIVITY w_PARALLEL_GATEWAY  h0 n0 _ T4.heap _)
theorem pd_1 : parseMethodDescriptor "()Z" = some ⟨[], some .boolean⟩ := by decide +kernel
theorem d3_0 : decode method_3_code 0 = .ok (.iconst 0, 1) := by decide +kernel
theorem d3_1 : decode method_3_code 1 = .ok (.istore_n 1, 1) := by decide +kernel
theorem d3_2 : decode method_3_code 2 = .ok (.iload_n 0, 1) := by decide +kernel
theorem d3_3 : decode method_3_code 3 = .ok (.bipush 13, 2) := by decide +kernel
theorem d3_5 : decode method_3_code 5 = .ok (.if_icmp .ne 5, 3) := by decide +kernel
theorem d3_10 : decode method_3_code 10 = .ok (.iload_n 0, 1) := by decide +kernel
theorem d3_11 : decode method_3_code 11 = .ok (.bipush 14, 2) := by decide +kernel
theorem d3_13 : decode method_3_code 13 = .ok (.if_icmp .ne 5, 3) := by decide +kernel
theorem d3_18 : decode method_3_code 18 = .ok (.iload_n 1, 1) := by decide +kernel
theorem d3_19 : decode method_3_code 19 = .ok (.ireturn, 1) := by decide +kernel
def Q3 (Z : State) (w_START_EVENT : Addr) (w_BOUNDARY_EVENT : Addr) (w_MESSAGE_BOUNDARY_EVENT : Addr) (w_TERMINATE_END_EVENT : Addr) (w_LINK_THROW_EVENT : Addr) (w_LINK_CATCH_EVENT : Addr) (w_RECEPTION : Addr) (w_END_EVENT : Addr) (w_EVENT_BASED_GATEWAY : Addr) (w_INCLUSIVE_GATEWAY : Addr) (w_EXCLUSIVE_GATEWAY : Addr) (w_MESSAGE_START_EVENT : Addr) (w_SUB_PROCESS : Addr) (w_ACTIVITY : Addr) (w_PARALLEL_GATEWAY : Addr)  (h0 : Heap) (n0 : Nat) (v : Option Value) (h : Heap) (L : List Loc) : Prop := v = some (.int (0 : Int32)) ∧ Fr n0 L ∧ h = h0
theorem ef3 (m : MethodId)  : entryFrame m #[(.int (0 : Int32))] 2 = mkF m 0 #[.val (.int (0 : Int32)), .unset] [] := by first | (simp [entryFrame, mkF, argsToLocals, Value.category]; done) | rfl
set_option maxRecDepth 65536 in
set_option maxHeartbeats 40000000 in
theorem rm3 (l : Launch) (Z : State) (a0 : Array Value) (hw : ∀ d ∈ tables_1, d.before a0 Z = true) (ws : List Jvm.Cond) {w_START_EVENT : Addr} {w_BOUNDARY_EVENT : Addr} {w_MESSAGE_BOUNDARY_EVENT : Addr} {w_TERMINATE_END_EVENT : Addr} {w_LINK_THROW_EVENT : Addr} {w_LINK_CATCH_EVENT : Addr} {w_RECEPTION : Addr} {w_END_EVENT : Addr} {w_EVENT_BASED_GATEWAY : Addr} {w_INCLUSIVE_GATEWAY : Addr} {w_EXCLUSIVE_GATEWAY : Addr} {w_MESSAGE_START_EVENT : Addr} {w_SUB_PROCESS : Addr} {w_ACTIVITY : Addr} {w_PARALLEL_GATEWAY : Addr} (G : Glob Z w_START_EVENT w_BOUNDARY_EVENT w_MESSAGE_BOUNDARY_EVENT w_TERMINATE_END_EVENT w_LINK_THROW_EVENT w_LINK_CATCH_EVENT w_RECEPTION w_END_EVENT w_EVENT_BASED_GATEWAY w_INCLUSIVE_GATEWAY w_EXCLUSIVE_GATEWAY w_MESSAGE_START_EVENT w_SUB_PROCESS w_ACTIVITY w_PARALLEL_GATEWAY)  (h0 : Heap) (n0 : Nat) (O0 : Old Z n0 h0) :
    MetFree l (⟨"com/example/chorale/chorale/KindAttachesPinLaw", "isBoundaryIndex", "(I)Z"⟩ : MethodName) (head1 (Jvm.Cond.code (⟨"com/example/chorale/chorale/KindAttachesPinLaw", "isBoundaryIndex", "(I)Z"⟩ : MethodName) method_3_code 2 (some .boolean) :: ws) ({ frames := 0, cells := 0, slots := 0, locals := 0 } : Room)) (fun a U => a = #[(.int (0 : Int32))] ∧ Z.Warmed39 U.vm ∧ U.heap = h0) (fun _ _ _ _ _ => True) (fun _ U o U' => ∃ v L, o = .returned v ∧ Q3 Z w_START_EVENT w_BOUNDARY_EVENT w_MESSAGE_BOUNDARY_EVENT w_TERMINATE_END_EVENT w_LINK_THROW_EVENT w_LINK_CATCH_EVENT w_RECEPTION w_END_EVENT w_EVENT_BASED_GATEWAY w_INCLUSIVE_GATEWAY w_EXCLUSIVE_GATEWAY w_MESSAGE_START_EVENT w_SUB_PROCESS w_ACTIVITY w_PARALLEL_GATEWAY  h0 n0 v U'.heap L ∧ FrameEnd U o U' L ({ frames := 0, cells := 0, slots := 0, locals := 0 } : Room).cells ({ frames := 0, cells := 0, slots := 0, locals := 0 } : Room).slots) := by
  refine MetFree.of_bodySF (plainFor_of_name pn_com_example_chorale_chorale_KindAttachesPinLaw) hisR ?_
  intro p e s m args below meth c s₁ Bd hml0 hP hK
  obtain ⟨rfl, hZ, hh⟩ := hP
  have hx := Bd.exec
  have hby := Bd.bytes
  have hml : c.maxLocals = 2 := hml0
  have hown : s.vm.findClass "com/example/chorale/chorale/KindAttachesPinLaw" = some m.cls := findClass_of_methodNamed Bd.named
  have hnm := (name_of_methodNamed Bd.named Bd.method).1
  have X0 : Stand p l e ({ frames := 0, cells := 0, slots := 0, locals := 0 } : Room) s m #[(.int (0 : Int32))] below meth c s₁ [] 0 0 := Stand.of_body Bd
  have e0 : s₁.heap = h0 := by rw [← hh, Bd.state]; rfl
  have N0 := Fr.nil n0
  show OGot p.tables e below (s₁.setTop (entryFrame m #[(.int (0 : Int32))] 2)) _
  refine OGot.go (fun t k => castTop (ef3 m ) k) ?_
  show OGot p.tables e below (s₁.setTop (mkF m 0 #[.val (.int (0 : Int32)), .unset] [])) _
  refine OGot.go (fun t k => XS.iconst X0.here hx rfl (hb hby d3_0) k) ?_
  show OGot p.tables e below (s₁.setTop (mkF m 1 #[.val (.int (0 : Int32)), .unset] [(.int (0 : Int32))])) _
  refine OGot.go (fun t k => XS.istoreN X0.here hx rfl (hb hby d3_1) rfl (l' := #[.val (.int (0 : Int32)), .val (.int (0 : Int32))]) rfl k) ?_
  show OGot p.tables e below (s₁.setTop (mkF m 2 #[.val (.int (0 : Int32)), .val (.int (0 : Int32))] [])) _
  refine OGot.go (fun t k => XS.iloadN X0.here hx rfl (hb hby d3_2) rfl k) ?_
  show OGot p.tables e below (s₁.setTop (mkF m 3 #[.val (.int (0 : Int32)), .val (.int (0 : Int32))] [(.int (0 : Int32))])) _
  refine OGot.go (fun t k => XS.bipush X0.here hx rfl (hb hby d3_3) k) ?_
  show OGot p.tables e below (s₁.setTop (mkF m 5 #[.val (.int (0 : Int32)), .val (.int (0 : Int32))] [(.int (13 : Int32)), (.int (0 : Int32))])) _
  refine OGot.go (fun t k => XS.icmpYes X0.here hx rfl (pc0 := 5) (pc' := 10) rfl (hb hby d3_5) rfl (by decide) (by decide) (by decide) k) ?_
  show OGot p.tables e below (s₁.setTop (mkF m 10 #[.val (.int (0 : Int32)), .val (.int (0 : Int32))] [])) _
  refine OGot.go (fun t k => XS.iloadN X0.here hx rfl (hb hby d3_10) rfl k) ?_
  show OGot p.tables e below (s₁.setTop (mkF m 11 #[.val (.int (0 : Int32)), .val (.int (0 : Int32))] [(.int (0 : Int32))])) _
  refine OGot.go (fun t k => XS.bipush X0.here hx rfl (hb hby d3_11) k) ?_
  show OGot p.tables e below (s₁.setTop (mkF m 13 #[.val (.int (0 : Int32)), .val (.int (0 : Int32))] [(.int (14 : Int32)), (.int (0 : Int32))])) _
  refine OGot.go (fun t k => XS.icmpYes X0.here hx rfl (pc0 := 13) (pc' := 18) rfl (hb hby d3_13) rfl (by decide) (by decide) (by decide) k) ?_
  show OGot p.tables e below (s₁.setTop (mkF m 18 #[.val (.int (0 : Int32)), .val (.int (0 : Int32))] [])) _
  refine OGot.go (fun t k => XS.iloadN X0.here hx rfl (hb hby d3_18) rfl k) ?_
  show OGot p.tables e below (s₁.setTop (mkF m 19 #[.val (.int (0 : Int32)), .val (.int (0 : Int32))] [(.int (0 : Int32))])) _
  obtain ⟨fs, hr, hrun, hended, hW, hsame⟩ := X0.leave (v := some (.int (0 : Int32))) (fun h => by rw [Bd.returns] at h; cases h)
  refine ⟨_, _, retN X0 hx (t := .boolean) Bd.returns (by simp) (hb hby d3_19) hr, hrun, hended, _, _, rfl, ?_, ⟨_, rfl⟩, hW, hsame.mono (by decide) (by decide)⟩
  exact (⟨rfl, N0, e0⟩ : Q3 Z w_START_EVENT w_BOUNDARY_EVENT w_MESSAGE_BOUNDARY_EVENT w_TERMINATE_END_EVENT w_LINK_THROW_EVENT w_LINK_CATCH_EVENT w_RECEPTION w_END_EVENT w_EVENT_BASED_GATEWAY w_INCLUSIVE_GATEWAY w_EXCLUSIVE_GATEWAY w_MESSAGE_START_EVENT w_SUB_PROCESS w_ACTIVITY w_PARALLEL_GATEWAY  h0 n0 _ s₁.heap _)
theorem pd_2 : parseMethodDescriptor "(I)Z" = some ⟨[.int], some .boolean⟩ := by decide +kernel
theorem d1_8 : decode method_2_code 8 = .ok (.iload_n 0, 1) := by decide +kernel
theorem d1_9 : decode method_2_code 9 = .ok (.iconst 1, 1) := by decide +kernel
theorem d1_10 : decode method_2_code 10 = .ok (.if_icmp .ne 7, 3) := by decide +kernel
theorem d1_13 : decode method_2_code 13 = .ok (.getstatic 13, 3) := by decide +kernel
theorem d1_16 : decode method_2_code 16 = .ok (.areturn, 1) := by decide +kernel
def Q1_1 (Z : State) (w_START_EVENT : Addr) (w_BOUNDARY_EVENT : Addr) (w_MESSAGE_BOUNDARY_EVENT : Addr) (w_TERMINATE_END_EVENT : Addr) (w_LINK_THROW_EVENT : Addr) (w_LINK_CATCH_EVENT : Addr) (w_RECEPTION : Addr) (w_END_EVENT : Addr) (w_EVENT_BASED_GATEWAY : Addr) (w_INCLUSIVE_GATEWAY : Addr) (w_EXCLUSIVE_GATEWAY : Addr) (w_MESSAGE_START_EVENT : Addr) (w_SUB_PROCESS : Addr) (w_ACTIVITY : Addr) (w_PARALLEL_GATEWAY : Addr)  (h0 : Heap) (n0 : Nat) (v : Option Value) (h : Heap) (L : List Loc) : Prop := v = some (.ref w_MESSAGE_START_EVENT) ∧ Fr n0 L ∧ h = h0
theorem ef1_1 (m : MethodId)  : entryFrame m #[(.int (1 : Int32))] 1 = mkF m 0 #[.val (.int (1 : Int32))] [] := by first | (simp [entryFrame, mkF, argsToLocals, Value.category]; done) | rfl
set_option maxRecDepth 65536 in
set_option maxHeartbeats 40000000 in
theorem rm1_1 (l : Launch) (Z : State) (a0 : Array Value) (hw : ∀ d ∈ tables_1, d.before a0 Z = true) (ws : List Jvm.Cond) {w_START_EVENT : Addr} {w_BOUNDARY_EVENT : Addr} {w_MESSAGE_BOUNDARY_EVENT : Addr} {w_TERMINATE_END_EVENT : Addr} {w_LINK_THROW_EVENT : Addr} {w_LINK_CATCH_EVENT : Addr} {w_RECEPTION : Addr} {w_END_EVENT : Addr} {w_EVENT_BASED_GATEWAY : Addr} {w_INCLUSIVE_GATEWAY : Addr} {w_EXCLUSIVE_GATEWAY : Addr} {w_MESSAGE_START_EVENT : Addr} {w_SUB_PROCESS : Addr} {w_ACTIVITY : Addr} {w_PARALLEL_GATEWAY : Addr} (G : Glob Z w_START_EVENT w_BOUNDARY_EVENT w_MESSAGE_BOUNDARY_EVENT w_TERMINATE_END_EVENT w_LINK_THROW_EVENT w_LINK_CATCH_EVENT w_RECEPTION w_END_EVENT w_EVENT_BASED_GATEWAY w_INCLUSIVE_GATEWAY w_EXCLUSIVE_GATEWAY w_MESSAGE_START_EVENT w_SUB_PROCESS w_ACTIVITY w_PARALLEL_GATEWAY)  (h0 : Heap) (n0 : Nat) (O0 : Old Z n0 h0) :
    MetFree l (⟨"com/example/chorale/chorale/KindAttachesPinLaw", "kindAt", "(I)Lcom/example/chorale/chorale/FlowGraph$Kind;"⟩ : MethodName) (head1 (Jvm.Cond.code (⟨"com/example/chorale/chorale/KindAttachesPinLaw", "kindAt", "(I)Lcom/example/chorale/chorale/FlowGraph$Kind;"⟩ : MethodName) method_2_code 1 (some (.object "com/example/chorale/chorale/FlowGraph$Kind")) :: ws) ({ frames := 0, cells := 0, slots := 0, locals := 0 } : Room)) (fun a U => a = #[(.int (1 : Int32))] ∧ Z.Warmed39 U.vm ∧ U.heap = h0) (fun _ _ _ _ _ => True) (fun _ U o U' => ∃ v L, o = .returned v ∧ Q1_1 Z w_START_EVENT w_BOUNDARY_EVENT w_MESSAGE_BOUNDARY_EVENT w_TERMINATE_END_EVENT w_LINK_THROW_EVENT w_LINK_CATCH_EVENT w_RECEPTION w_END_EVENT w_EVENT_BASED_GATEWAY w_INCLUSIVE_GATEWAY w_EXCLUSIVE_GATEWAY w_MESSAGE_START_EVENT w_SUB_PROCESS w_ACTIVITY w_PARALLEL_GATEWAY  h0 n0 v U'.heap L ∧ FrameEnd U o U' L ({ frames := 0, cells := 0, slots := 0, locals := 0 } : Room).cells ({ frames := 0, cells := 0, slots := 0, locals := 0 } : Room).slots) := by
  refine MetFree.of_bodySF (plainFor_of_name pn_com_example_chorale_chorale_KindAttachesPinLaw) hisR ?_
  intro p e s m args below meth c s₁ Bd hml0 hP hK
  obtain ⟨rfl, hZ, hh⟩ := hP
  have hx := Bd.exec
  have hby := Bd.bytes
  have hml : c.maxLocals = 1 := hml0
  have hown : s.vm.findClass "com/example/chorale/chorale/KindAttachesPinLaw" = some m.cls := findClass_of_methodNamed Bd.named
  have hnm := (name_of_methodNamed Bd.named Bd.method).1
  have X0 : Stand p l e ({ frames := 0, cells := 0, slots := 0, locals := 0 } : Room) s m #[(.int (1 : Int32))] below meth c s₁ [] 0 0 := Stand.of_body Bd
  have e0 : s₁.heap = h0 := by rw [← hh, Bd.state]; rfl
  have N0 := Fr.nil n0
  show OGot p.tables e below (s₁.setTop (entryFrame m #[(.int (1 : Int32))] 1)) _
  refine OGot.go (fun t k => castTop (ef1_1 m ) k) ?_
  show OGot p.tables e below (s₁.setTop (mkF m 0 #[.val (.int (1 : Int32))] [])) _
  refine OGot.go (fun t k => XS.iloadN X0.here hx rfl (hb hby d1_0) rfl k) ?_
  show OGot p.tables e below (s₁.setTop (mkF m 1 #[.val (.int (1 : Int32))] [(.int (1 : Int32))])) _
  refine OGot.go (fun t k => XS.ifYes X0.here hx rfl (pc0 := 1) (pc' := 8) rfl (hb hby d1_1) rfl (by decide) (by decide) (by decide) k) ?_
  show OGot p.tables e below (s₁.setTop (mkF m 8 #[.val (.int (1 : Int32))] [])) _
  refine OGot.go (fun t k => XS.iloadN X0.here hx rfl (hb hby d1_8) rfl k) ?_
  show OGot p.tables e below (s₁.setTop (mkF m 9 #[.val (.int (1 : Int32))] [(.int (1 : Int32))])) _
  refine OGot.go (fun t k => XS.iconst X0.here hx rfl (hb hby d1_9) k) ?_
  show OGot p.tables e below (s₁.setTop (mkF m 10 #[.val (.int (1 : Int32))] [(.int (1 : Int32)), (.int (1 : Int32))])) _
  refine OGot.go (fun t k => XS.icmpNo X0.here hx rfl (hb hby d1_10) rfl (by decide) k) ?_
  show OGot p.tables e below (s₁.setTop (mkF m 13 #[.val (.int (1 : Int32))] [])) _
  obtain ⟨T1, X1, e1, st1⟩ := getS2 X0 hx hZ hown (host := "") (Or.inl (ow hw 44 rfl)) Via.refl e0 (G.2.2.2.2.2.2.2.2.2.2.2.2.2.2.2.2.2.2.2.2.2.2.1.ext O0.2) (g := (mkF m 13 #[.val (.int (1 : Int32))] [])) rfl (hb hby d1_13)
  refine OGot.go st1 ?_
  show OGot p.tables e below (T1.setTop (mkF m 16 #[.val (.int (1 : Int32))] [(.ref w_MESSAGE_START_EVENT)])) _
  obtain ⟨fs, hr, hrun, hended, hW, hsame⟩ := X1.leave (v := some (.ref w_MESSAGE_START_EVENT)) (fun h => by rw [Bd.returns] at h; cases h)
  refine ⟨_, _, oretA X1 hx Bd.returns rfl rfl (hb hby d1_16) hr, hrun, hended, _, _, rfl, ?_, ⟨_, rfl⟩, hW, hsame.mono (by decide) (by decide)⟩
  exact (⟨rfl, N0, e1⟩ : Q1_1 Z w_START_EVENT w_BOUNDARY_EVENT w_MESSAGE_BOUNDARY_EVENT w_TERMINATE_END_EVENT w_LINK_THROW_EVENT w_LINK_CATCH_EVENT w_RECEPTION w_END_EVENT w_EVENT_BASED_GATEWAY w_INCLUSIVE_GATEWAY w_EXCLUSIVE_GATEWAY w_MESSAGE_START_EVENT w_SUB_PROCESS w_ACTIVITY w_PARALLEL_GATEWAY  h0 n0 _ T1.heap _)
def Q2_1 (Z : State) (w_START_EVENT : Addr) (w_BOUNDARY_EVENT : Addr) (w_MESSAGE_BOUNDARY_EVENT : Addr) (w_TERMINATE_END_EVENT : Addr) (w_LINK_THROW_EVENT : Addr) (w_LINK_CATCH_EVENT : Addr) (w_RECEPTION : Addr) (w_END_EVENT : Addr) (w_EVENT_BASED_GATEWAY : Addr) (w_INCLUSIVE_GATEWAY : Addr) (w_EXCLUSIVE_GATEWAY : Addr) (w_MESSAGE_START_EVENT : Addr) (w_SUB_PROCESS : Addr) (w_ACTIVITY : Addr) (w_PARALLEL_GATEWAY : Addr)  (h0 : Heap) (n0 : Nat) (v : Option Value) (h : Heap) (L : List Loc) : Prop := v = some (.int (0 : Int32)) ∧ Fr n0 L ∧ h = h0
theorem ef2_1 (m : MethodId) (x0 : Addr) : entryFrame m #[(.ref x0)] 1 = mkF m 0 #[.val (.ref x0)] [] := by first | (simp [entryFrame, mkF, argsToLocals, Value.category]; done) | rfl
set_option maxRecDepth 65536 in
set_option maxHeartbeats 40000000 in
theorem rm2_1 (l : Launch) (Z : State) (a0 : Array Value) (hw : ∀ d ∈ tables_1, d.before a0 Z = true) (ws : List Jvm.Cond) {w_START_EVENT : Addr} {w_BOUNDARY_EVENT : Addr} {w_MESSAGE_BOUNDARY_EVENT : Addr} {w_TERMINATE_END_EVENT : Addr} {w_LINK_THROW_EVENT : Addr} {w_LINK_CATCH_EVENT : Addr} {w_RECEPTION : Addr} {w_END_EVENT : Addr} {w_EVENT_BASED_GATEWAY : Addr} {w_INCLUSIVE_GATEWAY : Addr} {w_EXCLUSIVE_GATEWAY : Addr} {w_MESSAGE_START_EVENT : Addr} {w_SUB_PROCESS : Addr} {w_ACTIVITY : Addr} {w_PARALLEL_GATEWAY : Addr} (G : Glob Z w_START_EVENT w_BOUNDARY_EVENT w_MESSAGE_BOUNDARY_EVENT w_TERMINATE_END_EVENT w_LINK_THROW_EVENT w_LINK_CATCH_EVENT w_RECEPTION w_END_EVENT w_EVENT_BASED_GATEWAY w_INCLUSIVE_GATEWAY w_EXCLUSIVE_GATEWAY w_MESSAGE_START_EVENT w_SUB_PROCESS w_ACTIVITY w_PARALLEL_GATEWAY)  (h0 : Heap) (n0 : Nat) (O0 : Old Z n0 h0) :
    MetFree l (⟨"com/example/chorale/chorale/FlowGraph$Kind", "attaches", "()Z"⟩ : MethodName) (head1 (Jvm.Cond.code (⟨"com/example/chorale/chorale/FlowGraph$Kind", "attaches", "()Z"⟩ : MethodName) prog_73_method_5_code 1 (some .boolean) :: ws) ({ frames := 0, cells := 0, slots := 0, locals := 0 } : Room)) (fun a U => a = #[(.ref w_MESSAGE_START_EVENT)] ∧ Z.Warmed39 U.vm ∧ U.heap = h0) (fun _ _ _ _ _ => True) (fun _ U o U' => ∃ v L, o = .returned v ∧ Q2_1 Z w_START_EVENT w_BOUNDARY_EVENT w_MESSAGE_BOUNDARY_EVENT w_TERMINATE_END_EVENT w_LINK_THROW_EVENT w_LINK_CATCH_EVENT w_RECEPTION w_END_EVENT w_EVENT_BASED_GATEWAY w_INCLUSIVE_GATEWAY w_EXCLUSIVE_GATEWAY w_MESSAGE_START_EVENT w_SUB_PROCESS w_ACTIVITY w_PARALLEL_GATEWAY  h0 n0 v U'.heap L ∧ FrameEnd U o U' L ({ frames := 0, cells := 0, slots := 0, locals := 0 } : Room).cells ({ frames := 0, cells := 0, slots := 0, locals := 0 } : Room).slots) := by
  refine MetFree.of_bodySF (plainFor_of_name pn_com_example_chorale_chorale_FlowGraph_Kind) hisR ?_
  intro p e s m args below meth c s₁ Bd hml0 hP hK
  obtain ⟨rfl, hZ, hh⟩ := hP
  have hx := Bd.exec
  have hby := Bd.bytes
  have hml : c.maxLocals = 1 := hml0
  have hown : s.vm.findClass "com/example/chorale/chorale/FlowGraph$Kind" = some m.cls := findClass_of_methodNamed Bd.named
  have hnm := (name_of_methodNamed Bd.named Bd.method).1
  have X0 : Stand p l e ({ frames := 0, cells := 0, slots := 0, locals := 0 } : Room) s m #[(.ref w_MESSAGE_START_EVENT)] below meth c s₁ [] 0 0 := Stand.of_body Bd
  have e0 : s₁.heap = h0 := by rw [← hh, Bd.state]; rfl
  have N0 := Fr.nil n0
  show OGot p.tables e below (s₁.setTop (entryFrame m #[(.ref w_MESSAGE_START_EVENT)] 1)) _
  refine OGot.go (fun t k => castTop (ef2_1 m w_MESSAGE_START_EVENT) k) ?_
  show OGot p.tables e below (s₁.setTop (mkF m 0 #[.val (.ref w_MESSAGE_START_EVENT)] [])) _
  refine OGot.go (fun t k => XS.aloadN X0.here hx rfl (hb hby d2_0) rfl rfl k) ?_
  show OGot p.tables e below (s₁.setTop (mkF m 1 #[.val (.ref w_MESSAGE_START_EVENT)] [(.ref w_MESSAGE_START_EVENT)])) _
  obtain ⟨T2, X2, e2, st2⟩ := getS2 X0 hx hZ hown (host := "") (Or.inl (ow hw 13 rfl)) Via.refl e0 (G.2.2.1.ext O0.2) (g := (mkF m 1 #[.val (.ref w_MESSAGE_START_EVENT)] [(.ref w_MESSAGE_START_EVENT)])) rfl (hb hby d2_1)
  refine OGot.go st2 ?_
  show OGot p.tables e below (T2.setTop (mkF m 4 #[.val (.ref w_MESSAGE_START_EVENT)] [(.ref w_BOUNDARY_EVENT), (.ref w_MESSAGE_START_EVENT)])) _
  have ne3 : w_MESSAGE_START_EVENT ≠ w_BOUNDARY_EVENT := (Fld.ne G.2.2.2.2.2.2.2.2.2.2.2.2.2.2.2.2.2.2.2.2.2.2.2.2.2.2.2.2.2.2.2.2.2.2.2.2.2.2.2.2.2.1 G.2.2.2.2.2.2.2.2.2.2.2.2.2.2.2.2.2.2.2.2.2.2.2.2.2.2.2.2.2.2.2.1 (by decide))
  refine OGot.go (fun t k => Jvm.RoadKit.acmp (g := (mkF m 4 #[.val (.ref w_MESSAGE_START_EVENT)] [(.ref w_BOUNDARY_EVENT), (.ref w_MESSAGE_START_EVENT)])) X2 hx rfl rfl rfl (pc0 := 4) (pc' := 7) (same := false) rfl (hb hby d2_4) rfl (decide_eq_false fun q => ne3 (Value.ref.inj q)) (by decide) (by decide) k) ?_
  show OGot p.tables e below (T2.setTop (mkF m 7 #[.val (.ref w_MESSAGE_START_EVENT)] [])) _
  refine OGot.go (fun t k => XS.aloadN X2.here hx rfl (hb hby d2_7) rfl rfl k) ?_
  show OGot p.tables e below (T2.setTop (mkF m 8 #[.val (.ref w_MESSAGE_START_EVENT)] [(.ref w_MESSAGE_START_EVENT)])) _
  obtain ⟨T4, X4, e4, st4⟩ := getS2 X2 hx hZ hown (host := "") (Or.inl (ow hw 15 rfl)) Via.refl e2 (G.2.2.2.2.1.ext O0.2) (g := (mkF m 8 #[.val (.ref w_MESSAGE_START_EVENT)] [(.ref w_MESSAGE_START_EVENT)])) rfl (hb hby d2_8)
  refine OGot.go st4 ?_
  show OGot p.tables e below (T4.setTop (mkF m 11 #[.val (.ref w_MESSAGE_START_EVENT)] [(.ref w_MESSAGE_BOUNDARY_EVENT), (.ref w_MESSAGE_START_EVENT)])) _
  have ne5 : w_MESSAGE_START_EVENT ≠ w_MESSAGE_BOUNDARY_EVENT := (Fld.ne G.2.2.2.2.2.2.2.2.2.2.2.2.2.2.2.2.2.2.2.2.2.2.2.2.2.2.2.2.2.2.2.2.2.2.2.2.2.2.2.2.2.1 G.2.2.2.2.2.2.2.2.2.2.2.2.2.2.2.2.2.2.2.2.2.2.2.2.2.2.2.2.2.2.2.2.1 (by decide))
  refine OGot.go (fun t k => Jvm.RoadKit.acmp (g := (mkF m 11 #[.val (.ref w_MESSAGE_START_EVENT)] [(.ref w_MESSAGE_BOUNDARY_EVENT), (.ref w_MESSAGE_START_EVENT)])) X4 hx rfl rfl rfl (pc0 := 11) (pc' := 18) (same := false) rfl (hb hby d2_11) rfl (decide_eq_false fun q => ne5 (Value.ref.inj q)) (by decide) (by decide) k) ?_
  show OGot p.tables e below (T4.setTop (mkF m 18 #[.val (.ref w_MESSAGE_START_EVENT)] [])) _
  refine OGot.go (fun t k => XS.iconst X4.here hx rfl (hb hby d2_18) k) ?_
  show OGot p.tables e below (T4.setTop (mkF m 19 #[.val (.ref w_MESSAGE_START_EVENT)] [(.int (0 : Int32))])) _
  obtain ⟨fs, hr, hrun, hended, hW, hsame⟩ := X4.leave (v := some (.int (0 : Int32))) (fun h => by rw [Bd.returns] at h; cases h)
  refine ⟨_, _, retN X4 hx (t := .boolean) Bd.returns (by simp) (hb hby d2_19) hr, hrun, hended, _, _, rfl, ?_, ⟨_, rfl⟩, hW, hsame.mono (by decide) (by decide)⟩
  exact (⟨rfl, N0, e4⟩ : Q2_1 Z w_START_EVENT w_BOUNDARY_EVENT w_MESSAGE_BOUNDARY_EVENT w_TERMINATE_END_EVENT w_LINK_THROW_EVENT w_LINK_CATCH_EVENT w_RECEPTION w_END_EVENT w_EVENT_BASED_GATEWAY w_INCLUSIVE_GATEWAY w_EXCLUSIVE_GATEWAY w_MESSAGE_START_EVENT w_SUB_PROCESS w_ACTIVITY w_PARALLEL_GATEWAY  h0 n0 _ T4.heap _)
def Q3_1 (Z : State) (w_START_EVENT : Addr) (w_BOUNDARY_EVENT : Addr) (w_MESSAGE_BOUNDARY_EVENT : Addr) (w_TERMINATE_END_EVENT : Addr) (w_LINK_THROW_EVENT : Addr) (w_LINK_CATCH_EVENT : Addr) (w_RECEPTION : Addr) (w_END_EVENT : Addr) (w_EVENT_BASED_GATEWAY : Addr) (w_INCLUSIVE_GATEWAY : Addr) (w_EXCLUSIVE_GATEWAY : Addr) (w_MESSAGE_START_EVENT : Addr) (w_SUB_PROCESS : Addr) (w_ACTIVITY : Addr) (w_PARALLEL_GATEWAY : Addr)  (h0 : Heap) (n0 : Nat) (v : Option Value) (h : Heap) (L : List Loc) : Prop := v = some (.int (0 : Int32)) ∧ Fr n0 L ∧ h = h0
theorem ef3_1 (m : MethodId)  : entryFrame m #[(.int (1 : Int32))] 2 = mkF m 0 #[.val (.int (1 : Int32)), .unset] [] := by first | (simp [entryFrame, mkF, argsToLocals, Value.category]; done) | rfl
set_option maxRecDepth 65536 in
set_option maxHeartbeats 40000000 in
theorem rm3_1 (l : Launch) (Z : State) (a0 : Array Value) (hw : ∀ d ∈ tables_1, d.before a0 Z = true) (ws : List Jvm.Cond) {w_START_EVENT : Addr} {w_BOUNDARY_EVENT : Addr} {w_MESSAGE_BOUNDARY_EVENT : Addr} {w_TERMINATE_END_EVENT : Addr} {w_LINK_THROW_EVENT : Addr} {w_LINK_CATCH_EVENT : Addr} {w_RECEPTION : Addr} {w_END_EVENT : Addr} {w_EVENT_BASED_GATEWAY : Addr} {w_INCLUSIVE_GATEWAY : Addr} {w_EXCLUSIVE_GATEWAY : Addr} {w_MESSAGE_START_EVENT : Addr} {w_SUB_PROCESS : Addr} {w_ACTIVITY : Addr} {w_PARALLEL_GATEWAY : Addr} (G : Glob Z w_START_EVENT w_BOUNDARY_EVENT w_MESSAGE_BOUNDARY_EVENT w_TERMINATE_END_EVENT w_LINK_THROW_EVENT w_LINK_CATCH_EVENT w_RECEPTION w_END_EVENT w_EVENT_BASED_GATEWAY w_INCLUSIVE_GATEWAY w_EXCLUSIVE_GATEWAY w_MESSAGE_START_EVENT w_SUB_PROCESS w_ACTIVITY w_PARALLEL_GATEWAY)  (h0 : Heap) (n0 : Nat) (O0 : Old Z n0 h0) :
    MetFree l (⟨"com/example/chorale/chorale/KindAttachesPinLaw", "isBoundaryIndex", "(I)Z"⟩ : MethodName) (head1 (Jvm.Cond.code (⟨"com/example/chorale/chorale/KindAttachesPinLaw", "isBoundaryIndex", "(I)Z"⟩ : MethodName) method_3_code 2 (some .boolean) :: ws) ({ frames := 0, cells := 0, slots := 0, locals := 0 } : Room)) (fun a U => a = #[(.int (1 : Int32))] ∧ Z.Warmed39 U.vm ∧ U.heap = h0) (fun _ _ _ _ _ => True) (fun _ U o U' => ∃ v L, o = .returned v ∧ Q3_1 Z w_START_EVENT w_BOUNDARY_EVENT w_MESSAGE_BOUNDARY_EVENT w_TERMINATE_END_EVENT w_LINK_THROW_EVENT w_LINK_CATCH_EVENT w_RECEPTION w_END_EVENT w_EVENT_BASED_GATEWAY w_INCLUSIVE_GATEWAY w_EXCLUSIVE_GATEWAY w_MESSAGE_START_EVENT w_SUB_PROCESS w_ACTIVITY w_PARALLEL_GATEWAY  h0 n0 v U'.heap L ∧ FrameEnd U o U' L ({ frames := 0, cells := 0, slots := 0, locals := 0 } : Room).cells ({ frames := 0, cells := 0, slots := 0, locals := 0 } : Room).slots) := by
  refine MetFree.of_bodySF (plainFor_of_name pn_com_example_chorale_chorale_KindAttachesPinLaw) hisR ?_
  intro p e s m args below meth c s₁ Bd hml0 hP hK
  obtain ⟨rfl, hZ, hh⟩ := hP
  have hx := Bd.exec
  have hby := Bd.bytes
  have hml : c.maxLocals = 2 := hml0
  have hown : s.vm.findClass "com/example/chorale/chorale/KindAttachesPinLaw" = some m.cls := findClass_of_methodNamed Bd.named
  have hnm := (name_of_methodNamed Bd.named Bd.method).1
  have X0 : Stand p l e ({ frames := 0, cells := 0, slots := 0, locals := 0 } : Room) s m #[(.int (1 : Int32))] below meth c s₁ [] 0 0 := Stand.of_body Bd
  have e0 : s₁.heap = h0 := by rw [← hh, Bd.state]; rfl
  have N0 := Fr.nil n0
  show OGot p.tables e below (s₁.setTop (entryFrame m #[(.int (1 : Int32))] 2)) _
  refine OGot.go (fun t k => castTop (ef3_1 m ) k) ?_
  show OGot p.tables e below (s₁.setTop (mkF m 0 #[.val (.int (1 : Int32)), .unset] [])) _
  refine OGot.go (fun t k => XS.iconst X0.here hx rfl (hb hby d3_0) k) ?_
  show OGot p.tables e below (s₁.setTop (mkF m 1 #[.val (.int (1 : Int32)), .unset] [(.int (0 : Int32))])) _
  refine OGot.go (fun t k => XS.istoreN X0.here hx rfl (hb hby d3_1) rfl (l' := #[.val (.int (1 : Int32)), .val (.int (0 : Int32))]) rfl k) ?_
  show OGot p.tables e below (s₁.setTop (mkF m 2 #[.val (.int (1 : Int32)), .val (.int (0 : Int32))] [])) _
  refine OGot.go (fun t k => XS.iloadN X0.here hx rfl (hb hby d3_2) rfl k) ?_
  show OGot p.tables e below (s₁.setTop (mkF m 3 #[.val (.int (1 : Int32)), .val (.int (0 : Int32))] [(.int (1 : Int32))])) _
  refine OGot.go (fun t k => XS.bipush X0.here hx rfl (hb hby d3_3) k) ?_
  show OGot p.tables e below (s₁.setTop (mkF m 5 #[.val (.int (1 : Int32)), .val (.int (0 : Int32))] [(.int (13 : Int32)), (.int (1 : Int32))])) _
  refine OGot.go (fun t k => XS.icmpYes X0.here hx rfl (pc0 := 5) (pc' := 10) rfl (hb hby d3_5) rfl (by decide) (by decide) (by decide) k) ?_
  show OGot p.tables e below (s₁.setTop (mkF m 10 #[.val (.int (1 : Int32)), .val (.int (0 : Int32))] [])) _
  refine OGot.go (fun t k => XS.iloadN X0.here hx rfl (hb hby d3_10) rfl k) ?_
  show OGot p.tables e below (s₁.setTop (mkF m 11 #[.val (.int (1 : Int32)), .val (.int (0 : Int32))] [(.int (1 : Int32))])) _
  refine OGot.go (fun t k => XS.bipush X0.here hx rfl (hb hby d3_11) k) ?_
  show OGot p.tables e below (s₁.setTop (mkF m 13 #[.val (.int (1 : Int32)), .val (.int (0 : Int32))] [(.int (14 : Int32)), (.int (1 : Int32))])) _
  refine OGot.go (fun t k => XS.icmpYes X0.here hx rfl (pc0 := 13) (pc' := 18) rfl (hb hby d3_13) rfl (by decide) (by decide) (by decide) k) ?_
  show OGot p.tables e below (s₁.setTop (mkF m 18 #[.val (.int (1 : Int32)), .val (.int (0 : Int32))] [])) _
  refine OGot.go (fun t k => XS.iloadN X0.here hx rfl (hb hby d3_18) rfl k) ?_
  show OGot p.tables e below (s₁.setTop (mkF m 19 #[.val (.int (1 : Int32)), .val (.int (0 : Int32))] [(.int (0 : Int32))])) _
  obtain ⟨fs, hr, hrun, hended, hW, hsame⟩ := X0.leave (v := some (.int (0 : Int32))) (fun h => by rw [Bd.returns] at h; cases h)
  refine ⟨_, _, retN X0 hx (t := .boolean) Bd.returns (by simp) (hb hby d3_19) hr, hrun, hended, _, _, rfl, ?_, ⟨_, rfl⟩, hW, hsame.mono (by decide) (by decide)⟩
  exact (⟨rfl, N0, e0⟩ : Q3_1 Z w_START_EVENT w_BOUNDARY_EVENT w_MESSAGE_BOUNDARY_EVENT w_TERMINATE_END_EVENT w_LINK_THROW_EVENT w_LINK_CATCH_EVENT w_RECEPTION w_END_EVENT w_EVENT_BASED_GATEWAY w_INCLUSIVE_GATEWAY w_EXCLUSIVE_GATEWAY w_MESSAGE_START_EVENT w_SUB_PROCESS w_ACTIVITY w_PARALLEL_GATEWAY  h0 n0 _ s₁.heap _)
theorem d1_17 : decode method_2_code 17 = .ok (.iload_n 0, 1) := by decide +kernel
theorem d1_18 : decode method_2_code 18 = .ok (.iconst 2, 1) := by decide +kernel
theorem d1_19 : decode method_2_code 19 = .ok (.if_icmp .ne 7, 3) := by decide +kernel
theorem d1_22 : decode method_2_code 22 = .ok (.getstatic 16, 3) := by decide +kernel
theorem d1_25 : decode method_2_code 25 = .ok (.areturn, 1) := by decide +kernel
def Q1_2 (Z : State) (w_START_EVENT : Addr) (w_BOUNDARY_EVENT : Addr) (w_MESSAGE_BOUNDARY_EVENT : Addr) (w_TERMINATE_END_EVENT : Addr) (w_LINK_THROW_EVENT : Addr) (w_LINK_CATCH_EVENT : Addr) (w_RECEPTION : Addr) (w_END_EVENT : Addr) (w_EVENT_BASED_GATEWAY : Addr) (w_INCLUSIVE_GATEWAY : Addr) (w_EXCLUSIVE_GATEWAY : Addr) (w_MESSAGE_START_EVENT : Addr) (w_SUB_PROCESS : Addr) (w_ACTIVITY : Addr) (w_PARALLEL_GATEWAY : Addr)  (h0 : Heap) (n0 : Nat) (v : Option Value) (h : Heap) (L : List Loc) : Prop := v = some (.ref w_END_EVENT) ∧ Fr n0 L ∧ h = h0
theorem ef1_2 (m : MethodId)  : entryFrame m #[(.int (2 : Int32))] 1 = mkF m 0 #[.val (.int (2 : Int32))] [] := by first | (simp [entryFrame, mkF, argsToLocals, Value.category]; done) | rfl
set_option maxRecDepth 65536 in
set_option maxHeartbeats 40000000 in
theorem rm1_2 (l : Launch) (Z : State) (a0 : Array Value) (hw : ∀ d ∈ tables_1, d.before a0 Z = true) (ws : List Jvm.Cond) {w_START_EVENT : Addr} {w_BOUNDARY_EVENT : Addr} {w_MESSAGE_BOUNDARY_EVENT : Addr} {w_TERMINATE_END_EVENT : Addr} {w_LINK_THROW_EVENT : Addr} {w_LINK_CATCH_EVENT : Addr} {w_RECEPTION : Addr} {w_END_EVENT : Addr} {w_EVENT_BASED_GATEWAY : Addr} {w_INCLUSIVE_GATEWAY : Addr} {w_EXCLUSIVE_GATEWAY : Addr} {w_MESSAGE_START_EVENT : Addr} {w_SUB_PROCESS : Addr} {w_ACTIVITY : Addr} {w_PARALLEL_GATEWAY : Addr} (G : Glob Z w_START_EVENT w_BOUNDARY_EVENT w_MESSAGE_BOUNDARY_EVENT w_TERMINATE_END_EVENT w_LINK_THROW_EVENT w_LINK_CATCH_EVENT w_RECEPTION w_END_EVENT w_EVENT_BASED_GATEWAY w_INCLUSIVE_GATEWAY w_EXCLUSIVE_GATEWAY w_MESSAGE_START_EVENT w_SUB_PROCESS w_ACTIVITY w_PARALLEL_GATEWAY)  (h0 : Heap) (n0 : Nat) (O0 : Old Z n0 h0) :
    MetFree l (⟨"com/example/chorale/chorale/KindAttachesPinLaw", "kindAt", "(I)Lcom/example/chorale/chorale/FlowGraph$Kind;"⟩ : MethodName) (head1 (Jvm.Cond.code (⟨"com/example/chorale/chorale/KindAttachesPinLaw", "kindAt", "(I)Lcom/example/chorale/chorale/FlowGraph$Kind;"⟩ : MethodName) method_2_code 1 (some (.object "com/example/chorale/chorale/FlowGraph$Kind")) :: ws) ({ frames := 0, cells := 0, slots := 0, locals := 0 } : Room)) (fun a U => a = #[(.int (2 : Int32))] ∧ Z.Warmed39 U.vm ∧ U.heap = h0) (fun _ _ _ _ _ => True) (fun _ U o U' => ∃ v L, o = .returned v ∧ Q1_2 Z w_START_EVENT w_BOUNDARY_EVENT w_MESSAGE_BOUNDARY_EVENT w_TERMINATE_END_EVENT w_LINK_THROW_EVENT w_LINK_CATCH_EVENT w_RECEPTION w_END_EVENT w_EVENT_BASED_GATEWAY w_INCLUSIVE_GATEWAY w_EXCLUSIVE_GATEWAY w_MESSAGE_START_EVENT w_SUB_PROCESS w_ACTIVITY w_PARALLEL_GATEWAY  h0 n0 v U'.heap L ∧ FrameEnd U o U' L ({ frames := 0, cells := 0, slots := 0, locals := 0 } : Room).cells ({ frames := 0, cells := 0, slots := 0, locals := 0 } : Room).slots) := by
  refine MetFree.of_bodySF (plainFor_of_name pn_com_example_chorale_chorale_KindAttachesPinLaw) hisR ?_
  intro p e s m args below meth c s₁ Bd hml0 hP hK
  obtain ⟨rfl, hZ, hh⟩ := hP
  have hx := Bd.exec
  have hby := Bd.bytes
  have hml : c.maxLocals = 1 := hml0
  have hown : s.vm.findClass "com/example/chorale/chorale/KindAttachesPinLaw" = some m.cls := findClass_of_methodNamed Bd.named
  have hnm := (name_of_methodNamed Bd.named Bd.method).1
  have X0 : Stand p l e ({ frames := 0, cells := 0, slots := 0, locals := 0 } : Room) s m #[(.int (2 : Int32))] below meth c s₁ [] 0 0 := Stand.of_body Bd
  have e0 : s₁.heap = h0 := by rw [← hh, Bd.state]; rfl
  have N0 := Fr.nil n0
  show OGot p.tables e below (s₁.setTop (entryFrame m #[(.int (2 : Int32))] 1)) _
  refine OGot.go (fun t k => castTop (ef1_2 m ) k) ?_
  show OGot p.tables e below (s₁.setTop (mkF m 0 #[.val (.int (2 : Int32))] [])) _
  refine OGot.go (fun t k => XS.iloadN X0.here hx rfl (hb hby d1_0) rfl k) ?_
  show OGot p.tables e below (s₁.setTop (mkF m 1 #[.val (.int (2 : Int32))] [(.int (2 : Int32))])) _
  refine OGot.go (fun t k => XS.ifYes X0.here hx rfl (pc0 := 1) (pc' := 8) rfl (hb hby d1_1) rfl (by decide) (by decide) (by decide) k) ?_
  show OGot p.tables e below (s₁.setTop (mkF m 8 #[.val (.int (2 : Int32))] [])) _
  refine OGot.go (fun t k => XS.iloadN X0.here hx rfl (hb hby d1_8) rfl k) ?_
  show OGot p.tables e below (s₁.setTop (mkF m 9 #[.val (.int (2 : Int32))] [(.int (2 : Int32))])) _
  refine OGot.go (fun t k => XS.iconst X0.here hx rfl (hb hby d1_9) k) ?_
  show OGot p.tables e below (s₁.setTop (mkF m 10 #[.val (.int (2 : Int32))] [(.int (1 : Int32)), (.int (2 : Int32))])) _
  refine OGot.go (fun t k => XS.icmpYes X0.here hx rfl (pc0 := 10) (pc' := 17) rfl (hb hby d1_10) rfl (by decide) (by decide) (by decide) k) ?_
  show OGot p.tables e below (s₁.setTop (mkF m 17 #[.val (.int (2 : Int32))] [])) _
  refine OGot.go (fun t k => XS.iloadN X0.here hx rfl (hb hby d1_17) rfl k) ?_
  show OGot p.tables e below (s₁.setTop (mkF m 18 #[.val (.int (2 : Int32))] [(.int (2 : Int32))])) _
  refine OGot.go (fun t k => XS.iconst X0.here hx rfl (hb hby d1_18) k) ?_
  show OGot p.tables e below (s₁.setTop (mkF m 19 #[.val (.int (2 : Int32))] [(.int (2 : Int32)), (.int (2 : Int32))])) _
  refine OGot.go (fun t k => XS.icmpNo X0.here hx rfl (hb hby d1_19) rfl (by decide) k) ?_
  show OGot p.tables e below (s₁.setTop (mkF m 22 #[.val (.int (2 : Int32))] [])) _
  obtain ⟨T1, X1, e1, st1⟩ := getS2 X0 hx hZ hown (host := "") (Or.inl (ow hw 36 rfl)) Via.refl e0 (G.2.2.2.2.2.2.2.2.2.2.2.2.2.2.1.ext O0.2) (g := (mkF m 22 #[.val (.int (2 : Int32))] [])) rfl (hb hby d1_22)
  refine OGot.go st1 ?_
  show OGot p.tables e below (T1.setTop (mkF m 25 #[.val (.int (2 : Int32))] [(.ref w_END_EVENT)])) _
  obtain ⟨fs, hr, hrun, hended, hW, hsame⟩ := X1.leave (v := some (.ref w_END_EVENT)) (fun h => by rw [Bd.returns] at h; cases h)
  refine ⟨_, _, oretA X1 hx Bd.returns rfl rfl (hb hby d1_25) hr, hrun, hended, _, _, rfl, ?_, ⟨_, rfl⟩, hW, hsame.mono (by decide) (by decide)⟩
  exact (⟨rfl, N0, e1⟩ : Q1_2 Z w_START_EVENT w_BOUNDARY_EVENT w_MESSAGE_BOUNDARY_EVENT w_TERMINATE_END_EVENT w_LINK_THROW_EVENT w_LINK_CATCH_EVENT w_RECEPTION w_END_EVENT w_EVENT_BASED_GATEWAY w_INCLUSIVE_GATEWAY w_EXCLUSIVE_GATEWAY w_MESSAGE_START_EVENT w_SUB_PROCESS w_ACTIVITY w_PARALLEL_GATEWAY  h0 n0 _ T1.heap _)
def Q2_2 (Z : State) (w_START_EVENT : Addr) (w_BOUNDARY_EVENT : Addr) (w_MESSAGE_BOUNDARY_EVENT : Addr) (w_TERMINATE_END_EVENT : Addr) (w_LINK_THROW_EVENT : Addr) (w_LINK_CATCH_EVENT : Addr) (w_RECEPTION : Addr) (w_END_EVENT : Addr) (w_EVENT_BASED_GATEWAY : Addr) (w_INCLUSIVE_GATEWAY : Addr) (w_EXCLUSIVE_GATEWAY : Addr) (w_MESSAGE_START_EVENT : Addr) (w_SUB_PROCESS : Addr) (w_ACTIVITY : Addr) (w_PARALLEL_GATEWAY : Addr)  (h0 : Heap) (n0 : Nat) (v : Option Value) (h : Heap) (L : List Loc) : Prop := v = some (.int (0 : Int32)) ∧ Fr n0 L ∧ h = h0
theorem ef2_2 (m : MethodId) (x0 : Addr) : entryFrame m #[(.ref x0)] 1 = mkF m 0 #[.val (.ref x0)] [] := by first | (simp [entryFrame, mkF, argsToLocals, Value.category]; done) | rfl
set_option maxRecDepth 65536 in
set_option maxHeartbeats 40000000 in
theorem rm2_2 (l : Launch) (Z : State) (a0 : Array Value) (hw : ∀ d ∈ tables_1, d.before a0 Z = true) (ws : List Jvm.Cond) {w_START_EVENT : Addr} {w_BOUNDARY_EVENT : Addr} {w_MESSAGE_BOUNDARY_EVENT : Addr} {w_TERMINATE_END_EVENT : Addr} {w_LINK_THROW_EVENT : Addr} {w_LINK_CATCH_EVENT : Addr} {w_RECEPTION : Addr} {w_END_EVENT : Addr} {w_EVENT_BASED_GATEWAY : Addr} {w_INCLUSIVE_GATEWAY : Addr} {w_EXCLUSIVE_GATEWAY : Addr} {w_MESSAGE_START_EVENT : Addr} {w_SUB_PROCESS : Addr} {w_ACTIVITY : Addr} {w_PARALLEL_GATEWAY : Addr} (G : Glob Z w_START_EVENT w_BOUNDARY_EVENT w_MESSAGE_BOUNDARY_EVENT w_TERMINATE_END_EVENT w_LINK_THROW_EVENT w_LINK_CATCH_EVENT w_RECEPTION w_END_EVENT w_EVENT_BASED_GATEWAY w_INCLUSIVE_GATEWAY w_EXCLUSIVE_GATEWAY w_MESSAGE_START_EVENT w_SUB_PROCESS w_ACTIVITY w_PARALLEL_GATEWAY)  (h0 : Heap) (n0 : Nat) (O0 : Old Z n0 h0) :
    MetFree l (⟨"com/example/chorale/chorale/FlowGraph$Kind", "attaches", "()Z"⟩ : MethodName) (head1 (Jvm.Cond.code (⟨"com/example/chorale/chorale/FlowGraph$Kind", "attaches", "()Z"⟩ : MethodName) prog_73_method_5_code 1 (some .boolean) :: ws) ({ frames := 0, cells := 0, slots := 0, locals := 0 } : Room)) (fun a U => a = #[(.ref w_END_EVENT)] ∧ Z.Warmed39 U.vm ∧ U.heap = h0) (fun _ _ _ _ _ => True) (fun _ U o U' => ∃ v L, o = .returned v ∧ Q2_2 Z w_START_EVENT w_BOUNDARY_EVENT w_MESSAGE_BOUNDARY_EVENT w_TERMINATE_END_EVENT w_LINK_THROW_EVENT w_LINK_CATCH_EVENT w_RECEPTION w_END_EVENT w_EVENT_BASED_GATEWAY w_INCLUSIVE_GATEWAY w_EXCLUSIVE_GATEWAY w_MESSAGE_START_EVENT w_SUB_PROCESS w_ACTIVITY w_PARALLEL_GATEWAY  h0 n0 v U'.heap L ∧ FrameEnd U o U' L ({ frames := 0, cells := 0, slots := 0, locals := 0 } : Room).cells ({ frames := 0, cells := 0, slots := 0, locals := 0 } : Room).slots) := by
  refine MetFree.of_bodySF (plainFor_of_name pn_com_example_chorale_chorale_FlowGraph_Kind) hisR ?_
  intro p e s m args below meth c s₁ Bd hml0 hP hK
  obtain ⟨rfl, hZ, hh⟩ := hP
  have hx := Bd.exec
  have hby := Bd.bytes
  have hml : c.maxLocals = 1 := hml0
  have hown : s.vm.findClass "com/example/chorale/chorale/FlowGraph$Kind" = some m.cls := findClass_of_methodNamed Bd.named
  have hnm := (name_of_methodNamed Bd.named Bd.method).1
  have X0 : Stand p l e ({ frames := 0, cells := 0, slots := 0, locals := 0 } : Room) s m #[(.ref w_END_EVENT)] below meth c s₁ [] 0 0 := Stand.of_body Bd
  have e0 : s₁.heap = h0 := by rw [← hh, Bd.state]; rfl
  have N0 := Fr.nil n0
  show OGot p.tables e below (s₁.setTop (entryFrame m #[(.ref w_END_EVENT)] 1)) _
  refine OGot.go (fun t k => castTop (ef2_2 m w_END_EVENT) k) ?_
  show OGot p.tables e below (s₁.setTop (mkF m 0 #[.val (.ref w_END_EVENT)] [])) _
  refine OGot.go (fun t k => XS.aloadN X0.here hx rfl (hb hby d2_0) rfl rfl k) ?_
  show OGot p.tables e below (s₁.setTop (mkF m 1 #[.val (.ref w_END_EVENT)] [(.ref w_END_EVENT)])) _
  obtain ⟨T2, X2, e2, st2⟩ := getS2 X0 hx hZ hown (host := "") (Or.inl (ow hw 13 rfl)) Via.refl e0 (G.2.2.1.ext O0.2) (g := (mkF m 1 #[.val (.ref w_END_EVENT)] [(.ref w_END_EVENT)])) rfl (hb hby d2_1)
  refine OGot.go st2 ?_
  show OGot p.tables e below (T2.setTop (mkF m 4 #[.val (.ref w_END_EVENT)] [(.ref w_BOUNDARY_EVENT), (.ref w_END_EVENT)])) _
  have ne3 : w_END_EVENT ≠ w_BOUNDARY_EVENT := (Fld.ne G.2.2.2.2.2.2.2.2.2.2.2.2.2.2.2.2.2.2.2.2.2.2.2.2.2.2.2.2.2.2.2.2.2.2.2.2.2.1 G.2.2.2.2.2.2.2.2.2.2.2.2.2.2.2.2.2.2.2.2.2.2.2.2.2.2.2.2.2.2.2.1 (by decide))
  refine OGot.go (fun t k => Jvm.RoadKit.acmp (g := (mkF m 4 #[.val (.ref w_END_EVENT)] [(.ref w_BOUNDARY_EVENT), (.ref w_END_EVENT)])) X2 hx rfl rfl rfl (pc0 := 4) (pc' := 7) (same := false) rfl (hb hby d2_4) rfl (decide_eq_false fun q => ne3 (Value.ref.inj q)) (by decide) (by decide) k) ?_
  show OGot p.tables e below (T2.setTop (mkF m 7 #[.val (.ref w_END_EVENT)] [])) _
  refine OGot.go (fun t k => XS.aloadN X2.here hx rfl (hb hby d2_7) rfl rfl k) ?_
  show OGot p.tables e below (T2.setTop (mkF m 8 #[.val (.ref w_END_EVENT)] [(.ref w_END_EVENT)])) _
  obtain ⟨T4, X4, e4, st4⟩ := getS2 X2 hx hZ hown (host := "") (Or.inl (ow hw 15 rfl)) Via.refl e2 (G.2.2.2.2.1.ext O0.2) (g := (mkF m 8 #[.val (.ref w_END_EVENT)] [(.ref w_END_EVENT)])) rfl (hb hby d2_8)
  refine OGot.go st4 ?_
  show OGot p.tables e below (T4.setTop (mkF m 11 #[.val (.ref w_END_EVENT)] [(.ref w_MESSAGE_BOUNDARY_EVENT), (.ref w_END_EVENT)])) _
  have ne5 : w_END_EVENT ≠ w_MESSAGE_BOUNDARY_EVENT := (Fld.ne G.2.2.2.2.2.2.2.2.2.2.2.2.2.2.2.2.2.2.2.2.2.2.2.2.2.2.2.2.2.2.2.2.2.2.2.2.2.1 G.2.2.2.2.2.2.2.2.2.2.2.2.2.2.2.2.2.2.2.2.2.2.2.2.2.2.2.2.2.2.2.2.1 (by decide))
  refine OGot.go (fun t k => Jvm.RoadKit.acmp (g := (mkF m 11 #[.val (.ref w_END_EVENT)] [(.ref w_MESSAGE_BOUNDARY_EVENT), (.ref w_END_EVENT)])) X4 hx rfl rfl rfl (pc0 := 11) (pc' := 18) (same := false) rfl (hb hby d2_11) rfl (decide_eq_false fun q => ne5 (Value.ref.inj q)) (by decide) (by decide) k) ?_
  show OGot p.tables e below (T4.setTop (mkF m 18 #[.val (.ref w_END_EVENT)] [])) _
  refine OGot.go (fun t k => XS.iconst X4.here hx rfl (hb hby d2_18) k) ?_
  show OGot p.tables e below (T4.setTop (mkF m 19 #[.val (.ref w_END_EVENT)] [(.int (0 : Int32))])) _
  obtain ⟨fs, hr, hrun, hended, hW, hsame⟩ := X4.leave (v := some (.int (0 : Int32))) (fun h => by rw [Bd.returns] at h; cases h)
  refine ⟨_, _, retN X4 hx (t := .boolean) Bd.returns (by simp) (hb hby d2_19) hr, hrun, hended, _, _, rfl, ?_, ⟨_, rfl⟩, hW, hsame.mono (by decide) (by decide)⟩
  exact (⟨rfl, N0, e4⟩ : Q2_2 Z w_START_EVENT w_BOUNDARY_EVENT w_MESSAGE_BOUNDARY_EVENT w_TERMINATE_END_EVENT w_LINK_THROW_EVENT w_LINK_CATCH_EVENT w_RECEPTION w_END_EVENT w_EVENT_BASED_GATEWAY w_INCLUSIVE_GATEWAY w_EXCLUSIVE_GATEWAY w_MESSAGE_START_EVENT w_SUB_PROCESS w_ACTIVITY w_PARALLEL_GATEWAY  h0 n0 _ T4.heap _)
def Q3_2 (Z : State) (w_START_EVENT : Addr) (w_BOUNDARY_EVENT : Addr) (w_MESSAGE_BOUNDARY_EVENT : Addr) (w_TERMINATE_END_EVENT : Addr) (w_LINK_THROW_EVENT : Addr) (w_LINK_CATCH_EVENT : Addr) (w_RECEPTION : Addr) (w_END_EVENT : Addr) (w_EVENT_BASED_GATEWAY : Addr) (w_INCLUSIVE_GATEWAY : Addr) (w_EXCLUSIVE_GATEWAY : Addr) (w_MESSAGE_START_EVENT : Addr) (w_SUB_PROCESS : Addr) (w_ACTIVITY : Addr) (w_PARALLEL_GATEWAY : Addr)  (h0 : Heap) (n0 : Nat) (v : Option Value) (h : Heap) (L : List Loc) : Prop := v = some (.int (0 : Int32)) ∧ Fr n0 L ∧ h = h0
theorem ef3_2 (m : MethodId)  : entryFrame m #[(.int (2 : Int32))] 2 = mkF m 0 #[.val (.int (2 : Int32)), .unset] [] := by first | (simp [entryFrame, mkF, argsToLocals, Value.category]; done) | rfl
set_option maxRecDepth 65536 in
set_option maxHeartbeats 40000000 in
theorem rm3_2 (l : Launch) (Z : State) (a0 : Array Value) (hw : ∀ d ∈ tables_1, d.before a0 Z = true) (ws : List Jvm.Cond) {w_START_EVENT : Addr} {w_BOUNDARY_EVENT : Addr} {w_MESSAGE_BOUNDARY_EVENT : Addr} {w_TERMINATE_END_EVENT : Addr} {w_LINK_THROW_EVENT : Addr} {w_LINK_CATCH_EVENT : Addr} {w_RECEPTION : Addr} {w_END_EVENT : Addr} {w_EVENT_BASED_GATEWAY : Addr} {w_INCLUSIVE_GATEWAY : Addr} {w_EXCLUSIVE_GATEWAY : Addr} {w_MESSAGE_START_EVENT : Addr} {w_SUB_PROCESS : Addr} {w_ACTIVITY : Addr} {w_PARALLEL_GATEWAY : Addr} (G : Glob Z w_START_EVENT w_BOUNDARY_EVENT w_MESSAGE_BOUNDARY_EVENT w_TERMINATE_END_EVENT w_LINK_THROW_EVENT w_LINK_CATCH_EVENT w_RECEPTION w_END_EVENT w_EVENT_BASED_GATEWAY w_INCLUSIVE_GATEWAY w_EXCLUSIVE_GATEWAY w_MESSAGE_START_EVENT w_SUB_PROCESS w_ACTIVITY w_PARALLEL_GATEWAY)  (h0 : Heap) (n0 : Nat) (O0 : Old Z n0 h0) :
    MetFree l (⟨"com/example/chorale/chorale/KindAttachesPinLaw", "isBoundaryIndex", "(I)Z"⟩ : MethodName) (head1 (Jvm.Cond.code (⟨"com/example/chorale/chorale/KindAttachesPinLaw", "isBoundaryIndex", "(I)Z"⟩ : MethodName) method_3_code 2 (some .boolean) :: ws) ({ frames := 0, cells := 0, slots := 0, locals := 0 } : Room)) (fun a U => a = #[(.int (2 : Int32))] ∧ Z.Warmed39 U.vm ∧ U.heap = h0) (fun _ _ _ _ _ => True) (fun _ U o U' => ∃ v L, o = .returned v ∧ Q3_2 Z w_START_EVENT w_BOUNDARY_EVENT w_MESSAGE_BOUNDARY_EVENT w_TERMINATE_END_EVENT w_LINK_THROW_EVENT w_LINK_CATCH_EVENT w_RECEPTION w_END_EVENT w_EVENT_BASED_GATEWAY w_INCLUSIVE_GATEWAY w_EXCLUSIVE_GATEWAY w_MESSAGE_START_EVENT w_SUB_PROCESS w_ACTIVITY w_PARALLEL_GATEWAY  h0 n0 v U'.heap L ∧ FrameEnd U o U' L ({ frames := 0, cells := 0, slots := 0, locals := 0 } : Room).cells ({ frames := 0, cells := 0, slots := 0, locals := 0 } : Room).slots) := by
  refine MetFree.of_bodySF (plainFor_of_name pn_com_example_chorale_chorale_KindAttachesPinLaw) hisR ?_
  intro p e s m args below meth c s₁ Bd hml0 hP hK
  obtain ⟨rfl, hZ, hh⟩ := hP
  have hx := Bd.exec
  have hby := Bd.bytes
  have hml : c.maxLocals = 2 := hml0
  have hown : s.vm.findClass "com/example/chorale/chorale/KindAttachesPinLaw" = some m.cls := findClass_of_methodNamed Bd.named
  have hnm := (name_of_methodNamed Bd.named Bd.method).1
  have X0 : Stand p l e ({ frames := 0, cells := 0, slots := 0, locals := 0 } : Room) s m #[(.int (2 : Int32))] below meth c s₁ [] 0 0 := Stand.of_body Bd
  have e0 : s₁.heap = h0 := by rw [← hh, Bd.state]; rfl
  have N0 := Fr.nil n0
  show OGot p.tables e below (s₁.setTop (entryFrame m #[(.int (2 : Int32))] 2)) _
  refine OGot.go (fun t k => castTop (ef3_2 m ) k) ?_
  show OGot p.tables e below (s₁.setTop (mkF m 0 #[.val (.int (2 : Int32)), .unset] [])) _
  refine OGot.go (fun t k => XS.iconst X0.here hx rfl (hb hby d3_0) k) ?_
  show OGot p.tables e below (s₁.setTop (mkF m 1 #[.val (.int (2 : Int32)), .unset] [(.int (0 : Int32))])) _
  refine OGot.go (fun t k => XS.istoreN X0.here hx rfl (hb hby d3_1) rfl (l' := #[.val (.int (2 : Int32)), .val (.int (0 : Int32))]) rfl k) ?_
  show OGot p.tables e below (s₁.setTop (mkF m 2 #[.val (.int (2 : Int32)), .val (.int (0 : Int32))] [])) _
  refine OGot.go (fun t k => XS.iloadN X0.here hx rfl (hb hby d3_2) rfl k) ?_
  show OGot p.tables e below (s₁.setTop (mkF m 3 #[.val (.int (2 : Int32)), .val (.int (0 : Int32))] [(.int (2 : Int32))])) _
  refine OGot.go (fun t k => XS.bipush X0.here hx rfl (hb hby d3_3) k) ?_
  show OGot p.tables e below (s₁.setTop (mkF m 5 #[.val (.int (2 : Int32)), .val (.int (0 : Int32))] [(.int (13 : Int32)), (.int (2 : Int32))])) _
  refine OGot.go (fun t k => XS.icmpYes X0.here hx rfl (pc0 := 5) (pc' := 10) rfl (hb hby d3_5) rfl (by decide) (by decide) (by decide) k) ?_
  show OGot p.tables e below (s₁.setTop (mkF m 10 #[.val (.int (2 : Int32)), .val (.int (0 : Int32))] [])) _
  refine OGot.go (fun t k => XS.iloadN X0.here hx rfl (hb hby d3_10) rfl k) ?_
  show OGot p.tables e below (s₁.setTop (mkF m 11 #[.val (.int (2 : Int32)), .val (.int (0 : Int32))] [(.int (2 : Int32))])) _
  refine OGot.go (fun t k => XS.bipush X0.here hx rfl (hb hby d3_11) k) ?_
  show OGot p.tables e below (s₁.setTop (mkF m 13 #[.val (.int (2 : Int32)), .val (.int (0 : Int32))] [(.int (14 : Int32)), (.int (2 : Int32))])) _
  refine OGot.go (fun t k => XS.icmpYes X0.here hx rfl (pc0 := 13) (pc' := 18) rfl (hb hby d3_13) rfl (by decide) (by decide) (by decide) k) ?_
  show OGot p.tables e below (s₁.setTop (mkF m 18 #[.val (.int (2 : Int32)), .val (.int (0 : Int32))] [])) _
  refine OGot.go (fun t k => XS.iloadN X0.here hx rfl (hb hby d3_18) rfl k) ?_
  show OGot p.tables e below (s₁.setTop (mkF m 19 #[.val (.int (2 : Int32)), .val (.int (0 : Int32))] [(.int (0 : Int32))])) _
  obtain ⟨fs, hr, hrun, hended, hW, hsame⟩ := X0.leave (v := some (.int (0 : Int32))) (fun h => by rw [Bd.returns] at h; cases h)
  refine ⟨_, _, retN X0 hx (t := .boolean) Bd.returns (by simp) (hb hby d3_19) hr, hrun, hended, _, _, rfl, ?_, ⟨_, rfl⟩, hW, hsame.mono (by decide) (by decide)⟩
  exact (⟨rfl, N0, e0⟩ : Q3_2 Z w_START_EVENT w_BOUNDARY_EVENT w_MESSAGE_BOUNDARY_EVENT w_TERMINATE_END_EVENT w_LINK_THROW_EVENT w_LINK_CATCH_EVENT w_RECEPTION w_END_EVENT w_EVENT_BASED_GATEWAY w_INCLUSIVE_GATEWAY w_EXCLUSIVE_GATEWAY w_MESSAGE_START_EVENT w_SUB_PROCESS w_ACTIVITY w_PARALLEL_GATEWAY  h0 n0 _ s₁.heap _)
theorem d1_26 : decode method_2_code 26 = .ok (.iload_n 0, 1) := by decide +kernel
theorem d1_27 : decode method_2_code 27 = .ok (.iconst 3, 1) := by decide +kernel
theorem d1_28 : decode method_2_code 28 = .ok (.if_icmp .ne 7, 3) := by decide +kernel
theorem d1_31 : decode method_2_code 31 = .ok (.getstatic 19, 3) := by decide +kernel
theorem d1_34 : decode method_2_code 34 = .ok (.areturn, 1) := by decide +kernel
def Q1_3 (Z : State) (w_START_EVENT : Addr) (w_BOUNDARY_EVENT : Addr) (w_MESSAGE_BOUNDARY_EVENT : Addr) (w_TERMINATE_END_EVENT : Addr) (w_LINK_THROW_EVENT : Addr) (w_LINK_CATCH_EVENT : Addr) (w_RECEPTION : Addr) (w_END_EVENT : Addr) (w_EVENT_BASED_GATEWAY : Addr) (w_INCLUSIVE_GATEWAY : Addr) (w_EXCLUSIVE_GATEWAY : Addr) (w_MESSAGE_START_EVENT : Addr) (w_SUB_PROCESS : Addr) (w_ACTIVITY : Addr) (w_PARALLEL_GATEWAY : Addr)  (h0 : Heap) (n0 : Nat) (v : Option Value) (h : Heap) (L : List Loc) : Prop := v = some (.ref w_TERMINATE_END_EVENT) ∧ Fr n0 L ∧ h = h0
theorem ef1_3 (m : MethodId)  : entryFrame m #[(.int (3 : Int32))] 1 = mkF m 0 #[.val (.int (3 : Int32))] [] := by first | (simp [entryFrame, mkF, argsToLocals, Value.category]; done) | rfl
set_option maxRecDepth 65536 in
set_option maxHeartbeats 40000000 in
theorem rm1_3 (l : Launch) (Z : State) (a0 : Array Value) (hw : ∀ d ∈ tables_1, d.before a0 Z = true) (ws : List Jvm.Cond) {w_START_EVENT : Addr} {w_BOUNDARY_EVENT : Addr} {w_MESSAGE_BOUNDARY_EVENT : Addr} {w_TERMINATE_END_EVENT : Addr} {w_LINK_THROW_EVENT : Addr} {w_LINK_CATCH_EVENT : Addr} {w_RECEPTION : Addr} {w_END_EVENT : Addr} {w_EVENT_BASED_GATEWAY : Addr} {w_INCLUSIVE_GATEWAY : Addr} {w_EXCLUSIVE_GATEWAY : Addr} {w_MESSAGE_START_EVENT : Addr} {w_SUB_PROCESS : Addr} {w_ACTIVITY : Addr} {w_PARALLEL_GATEWAY : Addr} (G : Glob Z w_START_EVENT w_BOUNDARY_EVENT w_MESSAGE_BOUNDARY_EVENT w_TERMINATE_END_EVENT w_LINK_THROW_EVENT w_LINK_CATCH_EVENT w_RECEPTION w_END_EVENT w_EVENT_BASED_GATEWAY w_INCLUSIVE_GATEWAY w_EXCLUSIVE_GATEWAY w_MESSAGE_START_EVENT w_SUB_PROCESS w_ACTIVITY w_PARALLEL_GATEWAY)  (h0 : Heap) (n0 : Nat) (O0 : Old Z n0 h0) :
    MetFree l (⟨"com/example/chorale/chorale/KindAttachesPinLaw", "kindAt", "(I)Lcom/example/chorale/chorale/FlowGraph$Kind;"⟩ : MethodName) (head1 (Jvm.Cond.code (⟨"com/example/chorale/chorale/KindAttachesPinLaw", "kindAt", "(I)Lcom/example/chorale/chorale/FlowGraph$Kind;"⟩ : MethodName) method_2_code 1 (some (.object "com/example/chorale/chorale/FlowGraph$Kind")) :: ws) ({ frames := 0, cells := 0, slots := 0, locals := 0 } : Room)) (fun a U => a = #[(.int (3 : Int32))] ∧ Z.Warmed39 U.vm ∧ U.heap = h0) (fun _ _ _ _ _ => True) (fun _ U o U' => ∃ v L, o = .returned v ∧ Q1_3 Z w_START_EVENT w_BOUNDARY_EVENT w_MESSAGE_BOUNDARY_EVENT w_TERMINATE_END_EVENT w_LINK_THROW_EVENT w_LINK_CATCH_EVENT w_RECEPTION w_END_EVENT w_EVENT_BASED_GATEWAY w_INCLUSIVE_GATEWAY w_EXCLUSIVE_GATEWAY w_MESSAGE_START_EVENT w_SUB_PROCESS w_ACTIVITY w_PARALLEL_GATEWAY  h0 n0 v U'.heap L ∧ FrameEnd U o U' L ({ frames := 0, cells := 0, slots := 0, locals := 0 } : Room).cells ({ frames := 0, cells := 0, slots := 0, locals := 0 } : Room).slots) := by
  refine MetFree.of_bodySF (plainFor_of_name pn_com_example_chorale_chorale_KindAttachesPinLaw) hisR ?_
  intro p e s m args below meth c s₁ Bd hml0 hP hK
  obtain ⟨rfl, hZ, hh⟩ := hP
  have hx := Bd.exec
  have hby := Bd.bytes
  have hml : c.maxLocals = 1 := hml0
  have hown : s.vm.findClass "com/example/chorale/chorale/KindAttachesPinLaw" = some m.cls := findClass_of_methodNamed Bd.named
  have hnm := (name_of_methodNamed Bd.named Bd.method).1
  have X0 : Stand p l e ({ frames := 0, cells := 0, slots := 0, locals := 0 } : Room) s m #[(.int (3 : Int32))] below meth c s₁ [] 0 0 := Stand.of_body Bd
  have e0 : s₁.heap = h0 := by rw [← hh, Bd.state]; rfl
  have N0 := Fr.nil n0
  show OGot p.tables e below (s₁.setTop (entryFrame m #[(.int (3 : Int32))] 1)) _
  refine OGot.go (fun t k => castTop (ef1_3 m ) k) ?_
  show OGot p.tables e below (s₁.setTop (mkF m 0 #[.val (.int (3 : Int32))] [])) _
  refine OGot.go (fun t k => XS.iloadN X0.here hx rfl (hb hby d1_0) rfl k) ?_
  show OGot p.tables e below (s₁.setTop (mkF m 1 #[.val (.int (3 : Int32))] [(.int (3 : Int32))])) _
  refine OGot.go (fun t k => XS.ifYes X0.here hx rfl (pc0 := 1) (pc' := 8) rfl (hb hby d1_1) rfl (by decide) (by decide) (by decide) k) ?_
  show OGot p.tables e below (s₁.setTop (mkF m 8 #[.val (.int (3 : Int32))] [])) _
  refine OGot.go (fun t k => XS.iloadN X0.here hx rfl (hb hby d1_8) rfl k) ?_
  show OGot p.tables e below (s₁.setTop (mkF m 9 #[.val (.int (3 : Int32))] [(.int (3 : Int32))])) _
  refine OGot.go (fun t k => XS.iconst X0.here hx rfl (hb hby d1_9) k) ?_
  show OGot p.tables e below (s₁.setTop (mkF m 10 #[.val (.int (3 : Int32))] [(.int (1 : Int32)), (.int (3 : Int32))])) _
  refine OGot.go (fun t k => XS.icmpYes X0.here hx rfl (pc0 := 10) (pc' := 17) rfl (hb hby d1_10) rfl (by decide) (by decide) (by decide) k) ?_
  show OGot p.tables e below (s₁.setTop (mkF m 17 #[.val (.int (3 : Int32))] [])) _
  refine OGot.go (fun t k => XS.iloadN X0.here hx rfl (hb hby d1_17) rfl k) ?_
  show OGot p.tables e below (s₁.setTop (mkF m 18 #[.val (.int (3 : Int32))] [(.int (3 : Int32))])) _
  refine OGot.go (fun t k => XS.iconst X0.here hx rfl (hb hby d1_18) k) ?_
  show OGot p.tables e below (s₁.setTop (mkF m 19 #[.val (.int (3 : Int32))] [(.int (2 : Int32)), (.int (3 : Int32))])) _
  refine OGot.go (fun t k => XS.icmpYes X0.here hx rfl (pc0 := 19) (pc' := 26) rfl (hb hby d1_19) rfl (by decide) (by decide) (by decide) k) ?_
  show OGot p.tables e below (s₁.setTop (mkF m 26 #[.val (.int (3 : Int32))] [])) _
  refine OGot.go (fun t k => XS.iloadN X0.here hx rfl (hb hby d1_26) rfl k) ?_
  show OGot p.tables e below (s₁.setTop (mkF m 27 #[.val (.int (3 : Int32))] [(.int (3 : Int32))])) _
  refine OGot.go (fun t k => XS.iconst X0.here hx rfl (hb hby d1_27) k) ?_
  show OGot p.tables e below (s₁.setTop (mkF m 28 #[.val (.int (3 : Int32))] [(.int (3 : Int32)), (.int (3 : Int32))])) _
  refine OGot.go (fun t k => XS.icmpNo X0.here hx rfl (hb hby d1_28) rfl (by decide) k) ?_
  show OGot p.tables e below (s₁.setTop (mkF m 31 #[.val (.int (3 : Int32))] [])) _
  obtain ⟨T1, X1, e1, st1⟩ := getS2 X0 hx hZ hown (host := "") (Or.inl (ow hw 20 rfl)) Via.refl e0 (G.2.2.2.2.2.2.1.ext O0.2) (g := (mkF m 31 #[.val (.int (3 : Int32))] [])) rfl (hb hby d1_31)
  refine OGot.go st1 ?_
  show OGot p.tables e below (T1.setTop (mkF m 34 #[.val (.int (3 : Int32))] [(.ref w_TERMINATE_END_EVENT)])) _
  obtain ⟨fs, hr, hrun, hended, hW, hsame⟩ := X1.leave (v := some (.ref w_TERMINATE_END_EVENT)) (fun h => by rw [Bd.returns] at h; cases h)
  refine ⟨_, _, oretA X1 hx Bd.returns rfl rfl (hb hby d1_34) hr, hrun, hended, _, _, rfl, ?_, ⟨_, rfl⟩, hW, hsame.mono (by decide) (by decide)⟩
  exact (⟨rfl, N0, e1⟩ : Q1_3 Z w_START_EVENT w_BOUNDARY_EVENT w_MESSAGE_BOUNDARY_EVENT w_TERMINATE_END_EVENT w_LINK_THROW_EVENT w_LINK_CATCH_EVENT w_RECEPTION w_END_EVENT w_EVENT_BASED_GATEWAY w_INCLUSIVE_GATEWAY w_EXCLUSIVE_GATEWAY w_MESSAGE_START_EVENT w_SUB_PROCESS w_ACTIVITY w_PARALLEL_GATEWAY  h0 n0 _ T1.heap _)
def Q2_3 (Z : State) (w_START_EVENT : Addr) (w_BOUNDARY_EVENT : Addr) (w_MESSAGE_BOUNDARY_EVENT : Addr) (w_TERMINATE_END_EVENT : Addr) (w_LINK_THROW_EVENT : Addr) (w_LINK_CATCH_EVENT : Addr) (w_RECEPTION : Addr) (w_END_EVENT : Addr) (w_EVENT_BASED_GATEWAY : Addr) (w_INCLUSIVE_GATEWAY : Addr) (w_EXCLUSIVE_GATEWAY : Addr) (w_MESSAGE_START_EVENT : Addr) (w_SUB_PROCESS : Addr) (w_ACTIVITY : Addr) (w_PARALLEL_GATEWAY : Addr)  (h0 : Heap) (n0 : Nat) (v : Option Value) (h : Heap) (L : List Loc) : Prop := v = some (.int (0 : Int32)) ∧ Fr n0 L ∧ h = h0
theorem ef2_3 (m : MethodId) (x0 : Addr) : entryFrame m #[(.ref x0)] 1 = mkF m 0 #[.val (.ref x0)] [] := by first | (simp [entryFrame, mkF, argsToLocals, Value.category]; done) | rfl
set_option maxRecDepth 65536 in
set_option maxHeartbeats 40000000 in
theorem rm2_3 (l : Launch) (Z : State) (a0 : Array Value) (hw : ∀ d ∈ tables_1, d.before a0 Z = true) (ws : List Jvm.Cond) {w_START_EVENT : Addr} {w_BOUNDARY_EVENT : Addr} {w_MESSAGE_BOUNDARY_EVENT : Addr} {w_TERMINATE_END_EVENT : Addr} {w_LINK_THROW_EVENT : Addr} {w_LINK_CATCH_EVENT : Addr} {w_RECEPTION : Addr} {w_END_EVENT : Addr} {w_EVENT_BASED_GATEWAY : Addr} {w_INCLUSIVE_GATEWAY : Addr} {w_EXCLUSIVE_GATEWAY : Addr} {w_MESSAGE_START_EVENT : Addr} {w_SUB_PROCESS : Addr} {w_ACTIVITY : Addr} {w_PARALLEL_GATEWAY : Addr} (G : Glob Z w_START_EVENT w_BOUNDARY_EVENT w_MESSAGE_BOUNDARY_EVENT w_TERMINATE_END_EVENT w_LINK_THROW_EVENT w_LINK_CATCH_EVENT w_RECEPTION w_END_EVENT w_EVENT_BASED_GATEWAY w_INCLUSIVE_GATEWAY w_EXCLUSIVE_GATEWAY w_MESSAGE_START_EVENT w_SUB_PROCESS w_ACTIVITY w_PARALLEL_GATEWAY)  (h0 : Heap) (n0 : Nat) (O0 : Old Z n0 h0) :
    MetFree l (⟨"com/example/chorale/chorale/FlowGraph$Kind", "attaches", "()Z"⟩ : MethodName) (head1 (Jvm.Cond.code (⟨"com/example/chorale/chorale/FlowGraph$Kind", "attaches", "()Z"⟩ : MethodName) prog_73_method_5_code 1 (some .boolean) :: ws) ({ frames := 0, cells := 0, slots := 0, locals := 0 } : Room)) (fun a U => a = #[(.ref w_TERMINATE_END_EVENT)] ∧ Z.Warmed39 U.vm ∧ U.heap = h0) (fun _ _ _ _ _ => True) (fun _ U o U' => ∃ v L, o = .returned v ∧ Q2_3 Z w_START_EVENT w_BOUNDARY_EVENT w_MESSAGE_BOUNDARY_EVENT w_TERMINATE_END_EVENT w_LINK_THROW_EVENT w_LINK_CATCH_EVENT w_RECEPTION w_END_EVENT w_EVENT_BASED_GATEWAY w_INCLUSIVE_GATEWAY w_EXCLUSIVE_GATEWAY w_MESSAGE_START_EVENT w_SUB_PROCESS w_ACTIVITY w_PARALLEL_GATEWAY  h0 n0 v U'.heap L ∧ FrameEnd U o U' L ({ frames := 0, cells := 0, slots := 0, locals := 0 } : Room).cells ({ frames := 0, cells := 0, slots := 0, locals := 0 } : Room).slots) := by
  refine MetFree.of_bodySF (plainFor_of_name pn_com_example_chorale_chorale_FlowGraph_Kind) hisR ?_
  intro p e s m args below meth c s₁ Bd hml0 hP hK
  obtain ⟨rfl, hZ, hh⟩ := hP
  have hx := Bd.exec
  have hby := Bd.bytes
  have hml : c.maxLocals = 1 := hml0
  have hown : s.vm.findClass "com/example/chorale/chorale/FlowGraph$Kind" = some m.cls := findClass_of_methodNamed Bd.named
  have hnm := (name_of_methodNamed Bd.named Bd.method).1
  have X0 : Stand p l e ({ frames := 0, cells := 0, slots := 0, locals := 0 } : Room) s m #[(.ref w_TERMINATE_END_EVENT)] below meth c s₁ [] 0 0 := Stand.of_body Bd
  have e0 : s₁.heap = h0 := by rw [← hh, Bd.state]; rfl
  have N0 := Fr.nil n0
  show OGot p.tables e below (s₁.setTop (entryFrame m #[(.ref w_TERMINATE_END_EVENT)] 1)) _
  refine OGot.go (fun t k => castTop (ef2_3 m w_TERMINATE_END_EVENT) k) ?_
  show OGot p.tables e below (s₁.setTop (mkF m 0 #[.val (.ref w_TERMINATE_END_EVENT)] [])) _
  refine OGot.go (fun t k => XS.aloadN X0.here hx rfl (hb hby d2_0) rfl rfl k) ?_
  show OGot p.tables e below (s₁.setTop (mkF m 1 #[.val (.ref w_TERMINATE_END_EVENT)] [(.ref w_TERMINATE_END_EVENT)])) _
  obtain ⟨T2, X2, e2, st2⟩ := getS2 X0 hx hZ hown (host := "") (Or.inl (ow hw 13 rfl)) Via.refl e0 (G.2.2.1.ext O0.2) (g := (mkF m 1 #[.val (.ref w_TERMINATE_END_EVENT)] [(.ref w_TERMINATE_END_EVENT)])) rfl (hb hby d2_1)
  refine OGot.go st2 ?_
  show OGot p.tables e below (T2.setTop (mkF m 4 #[.val (.ref w_TERMINATE_END_EVENT)] [(.ref w_BOUNDARY_EVENT), (.ref w_TERMINATE_END_EVENT)])) _
  have ne3 : w_TERMINATE_END_EVENT ≠ w_BOUNDARY_EVENT := (Fld.ne G.2.2.2.2.2.2.2.2.2.2.2.2.2.2.2.2.2.2.2.2.2.2.2.2.2.2.2.2.2.2.2.2.2.1 G.2.2.2.2.2.2.2.2.2.2.2.2.2.2.2.2.2.2.2.2.2.2.2.2.2.2.2.2.2.2.2.1 (by decide))
  refine OGot.go (fun t k => Jvm.RoadKit.acmp (g := (mkF m 4 #[.val (.ref w_TERMINATE_END_EVENT)] [(.ref w_BOUNDARY_EVENT), (.ref w_TERMINATE_END_EVENT)])) X2 hx rfl rfl rfl (pc0 := 4) (pc' := 7) (same := false) rfl (hb hby d2_4) rfl (decide_eq_false fun q => ne3 (Value.ref.inj q)) (by decide) (by decide) k) ?_
  show OGot p.tables e below (T2.setTop (mkF m 7 #[.val (.ref w_TERMINATE_END_EVENT)] [])) _
  refine OGot.go (fun t k => XS.aloadN X2.here hx rfl (hb hby d2_7) rfl rfl k) ?_
  show OGot p.tables e below (T2.setTop (mkF m 8 #[.val (.ref w_TERMINATE_END_EVENT)] [(.ref w_TERMINATE_END_EVENT)])) _
  obtain ⟨T4, X4, e4, st4⟩ := getS2 X2 hx hZ hown (host := "") (Or.inl (ow hw 15 rfl)) Via.refl e2 (G.2.2.2.2.1.ext O0.2) (g := (mkF m 8 #[.val (.ref w_TERMINATE_END_EVENT)] [(.ref w_TERMINATE_END_EVENT)])) rfl (hb hby d2_8)
  refine OGot.go st4 ?_
  show OGot p.tables e below (T4.setTop (mkF m 11 #[.val (.ref w_TERMINATE_END_EVENT)] [(.ref w_MESSAGE_BOUNDARY_EVENT), (.ref w_TERMINATE_END_EVENT)])) _
  have ne5 : w_TERMINATE_END_EVENT ≠ w_MESSAGE_BOUNDARY_EVENT := (Fld.ne G.2.2.2.2.2.2.2.2.2.2.2.2.2.2.2.2.2.2.2.2.2.2.2.2.2.2.2.2.2.2.2.2.2.1 G.2.2.2.2.2.2.2.2.2.2.2.2.2.2.2.2.2.2.2.2.2.2.2.2.2.2.2.2.2.2.2.2.1 (by decide))
  refine OGot.go (fun t k => Jvm.RoadKit.acmp (g := (mkF m 11 #[.val (.ref w_TERMINATE_END_EVENT)] [(.ref w_MESSAGE_BOUNDARY_EVENT), (.ref w_TERMINATE_END_EVENT)])) X4 hx rfl rfl rfl (pc0 := 11) (pc' := 18) (same := false) rfl (hb hby d2_11) rfl (decide_eq_false fun q => ne5 (Value.ref.inj q)) (by decide) (by decide) k) ?_
  show OGot p.tables e below (T4.setTop (mkF m 18 #[.val (.ref w_TERMINATE_END_EVENT)] [])) _
  refine OGot.go (fun t k => XS.iconst X4.here hx rfl (hb hby d2_18) k) ?_
  show OGot p.tables e below (T4.setTop (mkF m 19 #[.val (.ref w_TERMINATE_END_EVENT)] [(.int (0 : Int32))])) _
  obtain ⟨fs, hr, hrun, hended, hW, hsame⟩ := X4.leave (v := some (.int (0 : Int32))) (fun h => by rw [Bd.returns] at h; cases h)
  refine ⟨_, _, retN X4 hx (t := .boolean) Bd.returns (by simp) (hb hby d2_19) hr, hrun, hended, _, _, rfl, ?_, ⟨_, rfl⟩, hW, hsame.mono (by decide) (by decide)⟩
  exact (⟨rfl, N0, e4⟩ : Q2_3 Z w_START_EVENT w_BOUNDARY_EVENT w_MESSAGE_BOUNDARY_EVENT w_TERMINATE_END_EVENT w_LINK_THROW_EVENT w_LINK_CATCH_EVENT w_RECEPTION w_END_EVENT w_EVENT_BASED_GATEWAY w_INCLUSIVE_GATEWAY w_EXCLUSIVE_GATEWAY w_MESSAGE_START_EVENT w_SUB_PROCESS w_ACTIVITY w_PARALLEL_GATEWAY  h0 n0 _ T4.heap _)
def Q3_3 (Z : State) (w_START_EVENT : Addr) (w_BOUNDARY_EVENT : Addr) (w_MESSAGE_BOUNDARY_EVENT : Addr) (w_TERMINATE_END_EVENT : Addr) (w_LINK_THROW_EVENT : Addr) (w_LINK_CATCH_EVENT : Addr) (w_RECEPTION : Addr) (w_END_EVENT : Addr) (w_EVENT_BASED_GATEWAY : Addr) (w_INCLUSIVE_GATEWAY : Addr) (w_EXCLUSIVE_GATEWAY : Addr) (w_MESSAGE_START_EVENT : Addr) (w_SUB_PROCESS : Addr) (w_ACTIVITY : Addr) (w_PARALLEL_GATEWAY : Addr)  (h0 : Heap) (n0 : Nat) (v : Option Value) (h : Heap) (L : List Loc) : Prop := v = some (.int (0 : Int32)) ∧ Fr n0 L ∧ h = h0
theorem ef3_3 (m : MethodId)  : entryFrame m #[(.int (3 : Int32))] 2 = mkF m 0 #[.val (.int (3 : Int32)), .unset] [] := by first | (simp [entryFrame, mkF, argsToLocals, Value.category]; done) | rfl
set_option maxRecDepth 65536 in
set_option maxHeartbeats 40000000 in
theorem rm3_3 (l : Launch) (Z : State) (a0 : Array Value) (hw : ∀ d ∈ tables_1, d.before a0 Z = true) (ws : List Jvm.Cond) {w_START_EVENT : Addr} {w_BOUNDARY_EVENT : Addr} {w_MESSAGE_BOUNDARY_EVENT : Addr} {w_TERMINATE_END_EVENT : Addr} {w_LINK_THROW_EVENT : Addr} {w_LINK_CATCH_EVENT : Addr} {w_RECEPTION : Addr} {w_END_EVENT : Addr} {w_EVENT_BASED_GATEWAY : Addr} {w_INCLUSIVE_GATEWAY : Addr} {w_EXCLUSIVE_GATEWAY : Addr} {w_MESSAGE_START_EVENT : Addr} {w_SUB_PROCESS : Addr} {w_ACTIVITY : Addr} {w_PARALLEL_GATEWAY : Addr} (G : Glob Z w_START_EVENT w_BOUNDARY_EVENT w_MESSAGE_BOUNDARY_EVENT w_TERMINATE_END_EVENT w_LINK_THROW_EVENT w_LINK_CATCH_EVENT w_RECEPTION w_END_EVENT w_EVENT_BASED_GATEWAY w_INCLUSIVE_GATEWAY w_EXCLUSIVE_GATEWAY w_MESSAGE_START_EVENT w_SUB_PROCESS w_ACTIVITY w_PARALLEL_GATEWAY)  (h0 : Heap) (n0 : Nat) (O0 : Old Z n0 h0) :
    MetFree l (⟨"com/example/chorale/chorale/KindAttachesPinLaw", "isBoundaryIndex", "(I)Z"⟩ : MethodName) (head1 (Jvm.Cond.code (⟨"com/example/chorale/chorale/KindAttachesPinLaw", "isBoundaryIndex", "(I)Z"⟩ : MethodName) method_3_code 2 (some .boolean) :: ws) ({ frames := 0, cells := 0, slots := 0, locals := 0 } : Room)) (fun a U => a = #[(.int (3 : Int32))] ∧ Z.Warmed39 U.vm ∧ U.heap = h0) (fun _ _ _ _ _ => True) (fun _ U o U' => ∃ v L, o = .returned v ∧ Q3_3 Z w_START_EVENT w_BOUNDARY_EVENT w_MESSAGE_BOUNDARY_EVENT w_TERMINATE_END_EVENT w_LINK_THROW_EVENT w_LINK_CATCH_EVENT w_RECEPTION w_END_EVENT w_EVENT_BASED_GATEWAY w_INCLUSIVE_GATEWAY w_EXCLUSIVE_GATEWAY w_MESSAGE_START_EVENT w_SUB_PROCESS w_ACTIVITY w_PARALLEL_GATEWAY  h0 n0 v U'.heap L ∧ FrameEnd U o U' L ({ frames := 0, cells := 0, slots := 0, locals := 0 } : Room).cells ({ frames := 0, cells := 0, slots := 0, locals := 0 } : Room).slots) := by
  refine MetFree.of_bodySF (plainFor_of_name pn_com_example_chorale_chorale_KindAttachesPinLaw) hisR ?_
  intro p e s m args below meth c s₁ Bd hml0 hP hK
  obtain ⟨rfl, hZ, hh⟩ := hP
  have hx := Bd.exec
  have hby := Bd.bytes
  have hml : c.maxLocals = 2 := hml0
  have hown : s.vm.findClass "com/example/chorale/chorale/KindAttachesPinLaw" = some m.cls := findClass_of_methodNamed Bd.named
  have hnm := (name_of_methodNamed Bd.named Bd.method).1
  have X0 : Stand p l e ({ frames := 0, cells := 0, slots := 0, locals := 0 } : Room) s m #[(.int (3 : Int32))] below meth c s₁ [] 0 0 := Stand.of_body Bd
  have e0 : s₁.heap = h0 := by rw [← hh, Bd.state]; rfl
  have N0 := Fr.nil n0
  show OGot p.tables e below (s₁.setTop (entryFrame m #[(.int (3 : Int32))] 2)) _
  refine OGot.go (fun t k => castTop (ef3_3 m ) k) ?_
  show OGot p.tables e below (s₁.setTop (mkF m 0 #[.val (.int (3 : Int32)), .unset] [])) _
  refine OGot.go (fun t k => XS.iconst X0.here hx rfl (hb hby d3_0) k) ?_
  show OGot p.tables e below (s₁.setTop (mkF m 1 #[.val (.int (3 : Int32)), .unset] [(.int (0 : Int32))])) _
  refine OGot.go (fun t k => XS.istoreN X0.here hx rfl (hb hby d3_1) rfl (l' := #[.val (.int (3 : Int32)), .val (.int (0 : Int32))]) rfl k) ?_
  show OGot p.tables e below (s₁.setTop (mkF m 2 #[.val (.int (3 : Int32)), .val (.int (0 : Int32))] [])) _
  refine OGot.go (fun t k => XS.iloadN X0.here hx rfl (hb hby d3_2) rfl k) ?_
  show OGot p.tables e below (s₁.setTop (mkF m 3 #[.val (.int (3 : Int32)), .val (.int (0 : Int32))] [(.int (3 : Int32))])) _
  refine OGot.go (fun t k => XS.bipush X0.here hx rfl (hb hby d3_3) k) ?_
  show OGot p.tables e below (s₁.setTop (mkF m 5 #[.val (.int (3 : Int32)), .val (.int (0 : Int32))] [(.int (13 : Int32)), (.int (3 : Int32))])) _
  refine OGot.go (fun t k => XS.icmpYes X0.here hx rfl (pc0 := 5) (pc' := 10) rfl (hb hby d3_5) rfl (by decide) (by decide) (by decide) k) ?_
  show OGot p.tables e below (s₁.setTop (mkF m 10 #[.val (.int (3 : Int32)), .val (.int (0 : Int32))] [])) _
  refine OGot.go (fun t k => XS.iloadN X0.here hx rfl (hb hby d3_10) rfl k) ?_
  show OGot p.tables e below (s₁.setTop (mkF m 11 #[.val (.int (3 : Int32)), .val (.int (0 : Int32))] [(.int (3 : Int32))])) _
  refine OGot.go (fun t k => XS.bipush X0.here hx rfl (hb hby d3_11) k) ?_
  show OGot p.tables e below (s₁.setTop (mkF m 13 #[.val (.int (3 : Int32)), .val (.int (0 : Int32))] [(.int (14 : Int32)), (.int (3 : Int32))])) _
  refine OGot.go (fun t k => XS.icmpYes X0.here hx rfl (pc0 := 13) (pc' := 18) rfl (hb hby d3_13) rfl (by decide) (by decide) (by decide) k) ?_
  show OGot p.tables e below (s₁.setTop (mkF m 18 #[.val (.int (3 : Int32)), .val (.int (0 : Int32))] [])) _
  refine OGot.go (fun t k => XS.iloadN X0.here hx rfl (hb hby d3_18) rfl k) ?_
  show OGot p.tables e below (s₁.setTop (mkF m 19 #[.val (.int (3 : Int32)), .val (.int (0 : Int32))] [(.int (0 : Int32))])) _
  obtain ⟨fs, hr, hrun, hended, hW, hsame⟩ := X0.leave (v := some (.int (0 : Int32))) (fun h => by rw [Bd.returns] at h; cases h)
  refine ⟨_, _, retN X0 hx (t := .boolean) Bd.returns (by simp) (hb hby d3_19) hr, hrun, hended, _, _, rfl, ?_, ⟨_, rfl⟩, hW, hsame.mono (by decide) (by decide)⟩
  exact (⟨rfl, N0, e0⟩ : Q3_3 Z w_START_EVENT w_BOUNDARY_EVENT w_MESSAGE_BOUNDARY_EVENT w_TERMINATE_END_EVENT w_LINK_THROW_EVENT w_LINK_CATCH_EVENT w_RECEPTION w_END_EVENT w_EVENT_BASED_GATEWAY w_INCLUSIVE_GATEWAY w_EXCLUSIVE_GATEWAY w_MESSAGE_START_EVENT w_SUB_PROCESS w_ACTIVITY w_PARALLEL_GATEWAY  h0 n0 _ s₁.heap _)
theorem d1_35 : decode method_2_code 35 = .ok (.iload_n 0, 1) := by decide +kernel
theorem d1_36 : decode method_2_code 36 = .ok (.iconst 4, 1) := by decide +kernel
theorem d1_37 : decode method_2_code 37 = .ok (.if_icmp .ne 7, 3) := by decide +kernel
theorem d1_40 : decode method_2_code 40 = .ok (.getstatic 22, 3) := by decide +kernel
theorem d1_43 : decode method_2_code 43 = .ok (.areturn, 1) := by decide +kernel
def Q1_4 (Z : State) (w_START_EVENT : Addr) (w_BOUNDARY_EVENT : Addr) (w_MESSAGE_BOUNDARY_EVENT : Addr) (w_TERMINATE_END_EVENT : Addr) (w_LINK_THROW_EVENT : Addr) (w_LINK_CATCH_EVENT : Addr) (w_RECEPTION : Addr) (w_END_EVENT : Addr) (w_EVENT_BASED_GATEWAY : Addr) (w_INCLUSIVE_GATEWAY : Addr) (w_EXCLUSIVE_GATEWAY : Addr) (w_MESSAGE_START_EVENT : Addr) (w_SUB_PROCESS : Addr) (w_ACTIVITY : Addr) (w_PARALLEL_GATEWAY : Addr)  (h0 : Heap) (n0 : Nat) (v : Option Value) (h : Heap) (L : List Loc) : Prop := v = some (.ref w_ACTIVITY) ∧ Fr n0 L ∧ h = h0
theorem ef1_4 (m : MethodId)  : entryFrame m #[(.int (4 : Int32))] 1 = mkF m 0 #[.val (.int (4 : Int32))] [] := by first | (simp [entryFrame, mkF, argsToLocals, Value.category]; done) | rfl
set_option maxRecDepth 65536 in
set_option maxHeartbeats 40000000 in
theorem rm1_4 (l : Launch) (Z : State) (a0 : Array Value) (hw : ∀ d ∈ tables_1, d.before a0 Z = true) (ws : List Jvm.Cond) {w_START_EVENT : Addr} {w_BOUNDARY_EVENT : Addr} {w_MESSAGE_BOUNDARY_EVENT : Addr} {w_TERMINATE_END_EVENT : Addr} {w_LINK_THROW_EVENT : Addr} {w_LINK_CATCH_EVENT : Addr} {w_RECEPTION : Addr} {w_END_EVENT : Addr} {w_EVENT_BASED_GATEWAY : Addr} {w_INCLUSIVE_GATEWAY : Addr} {w_EXCLUSIVE_GATEWAY : Addr} {w_MESSAGE_START_EVENT : Addr} {w_SUB_PROCESS : Addr} {w_ACTIVITY : Addr} {w_PARALLEL_GATEWAY : Addr} (G : Glob Z w_START_EVENT w_BOUNDARY_EVENT w_MESSAGE_BOUNDARY_EVENT w_TERMINATE_END_EVENT w_LINK_THROW_EVENT w_LINK_CATCH_EVENT w_RECEPTION w_END_EVENT w_EVENT_BASED_GATEWAY w_INCLUSIVE_GATEWAY w_EXCLUSIVE_GATEWAY w_MESSAGE_START_EVENT w_SUB_PROCESS w_ACTIVITY w_PARALLEL_GATEWAY)  (h0 : Heap) (n0 : Nat) (O0 : Old Z n0 h0) :
    MetFree l (⟨"com/example/chorale/chorale/KindAttachesPinLaw", "kindAt", "(I)Lcom/example/chorale/chorale/FlowGraph$Kind;"⟩ : MethodName) (head1 (Jvm.Cond.code (⟨"com/example/chorale/chorale/KindAttachesPinLaw", "kindAt", "(I)Lcom/example/chorale/chorale/FlowGraph$Kind;"⟩ : MethodName) method_2_code 1 (some (.object "com/example/chorale/chorale/FlowGraph$Kind")) :: ws) ({ frames := 0, cells := 0, slots := 0, locals := 0 } : Room)) (fun a U => a = #[(.int (4 : Int32))] ∧ Z.Warmed39 U.vm ∧ U.heap = h0) (fun _ _ _ _ _ => True) (fun _ U o U' => ∃ v L, o = .returned v ∧ Q1_4 Z w_START_EVENT w_BOUNDARY_EVENT w_MESSAGE_BOUNDARY_EVENT w_TERMINATE_END_EVENT w_LINK_THROW_EVENT w_LINK_CATCH_EVENT w_RECEPTION w_END_EVENT w_EVENT_BASED_GATEWAY w_INCLUSIVE_GATEWAY w_EXCLUSIVE_GATEWAY w_MESSAGE_START_EVENT w_SUB_PROCESS w_ACTIVITY w_PARALLEL_GATEWAY  h0 n0 v U'.heap L ∧ FrameEnd U o U' L ({ frames := 0, cells := 0, slots := 0, locals := 0 } : Room).cells ({ frames := 0, cells := 0, slots := 0, locals := 0 } : Room).slots) := by
  refine MetFree.of_bodySF (plainFor_of_name pn_com_example_chorale_chorale_KindAttachesPinLaw) hisR ?_
  intro p e s m args below meth c s₁ Bd hml0 hP hK
  obtain ⟨rfl, hZ, hh⟩ := hP
  have hx := Bd.exec
  have hby := Bd.bytes
  have hml : c.maxLocals = 1 := hml0
  have hown : s.vm.findClass "com/example/chorale/chorale/KindAttachesPinLaw" = some m.cls := findClass_of_methodNamed Bd.named
  have hnm := (name_of_methodNamed Bd.named Bd.method).1
  have X0 : Stand p l e ({ frames := 0, cells := 0, slots := 0, locals := 0 } : Room) s m #[(.int (4 : Int32))] below meth c s₁ [] 0 0 := Stand.of_body Bd
  have e0 : s₁.heap = h0 := by rw [← hh, Bd.state]; rfl
  have N0 := Fr.nil n0
  show OGot p.tables e below (s₁.setTop (entryFrame m #[(.int (4 : Int32))] 1)) _
  refine OGot.go (fun t k => castTop (ef1_4 m ) k) ?_
  show OGot p.tables e below (s₁.setTop (mkF m 0 #[.val (.int (4 : Int32))] [])) _
  refine OGot.go (fun t k => XS.iloadN X0.here hx rfl (hb hby d1_0) rfl k) ?_
  show OGot p.tables e below (s₁.setTop (mkF m 1 #[.val (.int (4 : Int32))] [(.int (4 : Int32))])) _
  refine OGot.go (fun t k => XS.ifYes X0.here hx rfl (pc0 := 1) (pc' := 8) rfl (hb hby d1_1) rfl (by decide) (by decide) (by decide) k) ?_
  show OGot p.tables e below (s₁.setTop (mkF m 8 #[.val (.int (4 : Int32))] [])) _
  refine OGot.go (fun t k => XS.iloadN X0.here hx rfl (hb hby d1_8) rfl k) ?_
  show OGot p.tables e below (s₁.setTop (mkF m 9 #[.val (.int (4 : Int32))] [(.int (4 : Int32))])) _
  refine OGot.go (fun t k => XS.iconst X0.here hx rfl (hb hby d1_9) k) ?_
  show OGot p.tables e below (s₁.setTop (mkF m 10 #[.val (.int (4 : Int32))] [(.int (1 : Int32)), (.int (4 : Int32))])) _
  refine OGot.go (fun t k => XS.icmpYes X0.here hx rfl (pc0 := 10) (pc' := 17) rfl (hb hby d1_10) rfl (by decide) (by decide) (by decide) k) ?_
  show OGot p.tables e below (s₁.setTop (mkF m 17 #[.val (.int (4 : Int32))] [])) _
  refine OGot.go (fun t k => XS.iloadN X0.here hx rfl (hb hby d1_17) rfl k) ?_
  show OGot p.tables e below (s₁.setTop (mkF m 18 #[.val (.int (4 : Int32))] [(.int (4 : Int32))])) _
  refine OGot.go (fun t k => XS.iconst X0.here hx rfl (hb hby d1_18) k) ?_
  show OGot p.tables e below (s₁.setTop (mkF m 19 #[.val (.int (4 : Int32))] [(.int (2 : Int32)), (.int (4 : Int32))])) _
  refine OGot.go (fun t k => XS.icmpYes X0.here hx rfl (pc0 := 19) (pc' := 26) rfl (hb hby d1_19) rfl (by decide) (by decide) (by decide) k) ?_
  show OGot p.tables e below (s₁.setTop (mkF m 26 #[.val (.int (4 : Int32))] [])) _
  refine OGot.go (fun t k => XS.iloadN X0.here hx rfl (hb hby d1_26) rfl k) ?_
  show OGot p.tables e below (s₁.setTop (mkF m 27 #[.val (.int (4 : Int32))] [(.int (4 : Int32))])) _
  refine OGot.go (fun t k => XS.iconst X0.here hx rfl (hb hby d1_27) k) ?_
  show OGot p.tables e below (s₁.setTop (mkF m 28 #[.val (.int (4 : Int32))] [(.int (3 : Int32)), (.int (4 : Int32))])) _
  refine OGot.go (fun t k => XS.icmpYes X0.here hx rfl (pc0 := 28) (pc' := 35) rfl (hb hby d1_28) rfl (by decide) (by decide) (by decide) k) ?_
  show OGot p.tables e below (s₁.setTop (mkF m 35 #[.val (.int (4 : Int32))] [])) _
  refine OGot.go (fun t k => XS.iloadN X0.here hx rfl (hb hby d1_35) rfl k) ?_
  show OGot p.tables e below (s₁.setTop (mkF m 36 #[.val (.int (4 : Int32))] [(.int (4 : Int32))])) _
  refine OGot.go (fun t k => XS.iconst X0.here hx rfl (hb hby d1_36) k) ?_
  show OGot p.tables e below (s₁.setTop (mkF m 37 #[.val (.int (4 : Int32))] [(.int (4 : Int32)), (.int (4 : Int32))])) _
  refine OGot.go (fun t k => XS.icmpNo X0.here hx rfl (hb hby d1_37) rfl (by decide) k) ?_
  show OGot p.tables e below (s₁.setTop (mkF m 40 #[.val (.int (4 : Int32))] [])) _
  obtain ⟨T1, X1, e1, st1⟩ := getS2 X0 hx hZ hown (host := "") (Or.inl (ow hw 48 rfl)) Via.refl e0 (G.2.2.2.2.2.2.2.2.2.2.2.2.2.2.2.2.2.2.2.2.2.2.2.2.2.2.1.ext O0.2) (g := (mkF m 40 #[.val (.int (4 : Int32))] [])) rfl (hb hby d1_40)
  refine OGot.go st1 ?_
  show OGot p.tables e below (T1.setTop (mkF m 43 #[.val (.int (4 : Int32))] [(.ref w_ACTIVITY)])) _
  obtain ⟨fs, hr, hrun, hended, hW, hsame⟩ := X1.leave (v := some (.ref w_ACTIVITY)) (fun h => by rw [Bd.returns] at h; cases h)
  refine ⟨_, _, oretA X1 hx Bd.returns rfl rfl (hb hby d1_43) hr, hrun, hended, _, _, rfl, ?_, ⟨_, rfl⟩, hW, hsame.mono (by decide) (by decide)⟩
  exact (⟨rfl, N0, e1⟩ : Q1_4 Z w_START_EVENT w_BOUNDARY_EVENT w_MESSAGE_BOUNDARY_EVENT w_TERMINATE_END_EVENT w_LINK_THROW_EVENT w_LINK_CATCH_EVENT w_RECEPTION w_END_EVENT w_EVENT_BASED_GATEWAY w_INCLUSIVE_GATEWAY w_EXCLUSIVE_GATEWAY w_MESSAGE_START_EVENT w_SUB_PROCESS w_ACTIVITY w_PARALLEL_GATEWAY  h0 n0 _ T1.heap _)
def Q2_4 (Z : State) (w_START_EVENT : Addr) (w_BOUNDARY_EVENT : Addr) (w_MESSAGE_BOUNDARY_EVENT : Addr) (w_TERMINATE_END_EVENT : Addr) (w_LINK_THROW_EVENT : Addr) (w_LINK_CATCH_EVENT : Addr) (w_RECEPTION : Addr) (w_END_EVENT : Addr) (w_EVENT_BASED_GATEWAY : Addr) (w_INCLUSIVE_GATEWAY : Addr) (w_EXCLUSIVE_GATEWAY : Addr) (w_MESSAGE_START_EVENT : Addr) (w_SUB_PROCESS : Addr) (w_ACTIVITY : Addr) (w_PARALLEL_GATEWAY : Addr)  (h0 : Heap) (n0 : Nat) (v : Option Value) (h : Heap) (L : List Loc) : Prop := v = some (.int (0 : Int32)) ∧ Fr n0 L ∧ h = h0
theorem ef2_4 (m : MethodId) (x0 : Addr) : entryFrame m #[(.ref x0)] 1 = mkF m 0 #[.val (.ref x0)] [] := by first | (simp [entryFrame, mkF, argsToLocals, Value.category]; done) | rfl
set_option maxRecDepth 65536 in
set_option maxHeartbeats 40000000 in
theorem rm2_4 (l : Launch) (Z : State) (a0 : Array Value) (hw : ∀ d ∈ tables_1, d.before a0 Z = true) (ws : List Jvm.Cond) {w_START_EVENT : Addr} {w_BOUNDARY_EVENT : Addr} {w_MESSAGE_BOUNDARY_EVENT : Addr} {w_TERMINATE_END_EVENT : Addr} {w_LINK_THROW_EVENT : Addr} {w_LINK_CATCH_EVENT : Addr} {w_RECEPTION : Addr} {w_END_EVENT : Addr} {w_EVENT_BASED_GATEWAY : Addr} {w_INCLUSIVE_GATEWAY : Addr} {w_EXCLUSIVE_GATEWAY : Addr} {w_MESSAGE_START_EVENT : Addr} {w_SUB_PROCESS : Addr} {w_ACTIVITY : Addr} {w_PARALLEL_GATEWAY : Addr} (G : Glob Z w_START_EVENT w_BOUNDARY_EVENT w_MESSAGE_BOUNDARY_EVENT w_TERMINATE_END_EVENT w_LINK_THROW_EVENT w_LINK_CATCH_EVENT w_RECEPTION w_END_EVENT w_EVENT_BASED_GATEWAY w_INCLUSIVE_GATEWAY w_EXCLUSIVE_GATEWAY w_MESSAGE_START_EVENT w_SUB_PROCESS w_ACTIVITY w_PARALLEL_GATEWAY)  (h0 : Heap) (n0 : Nat) (O0 : Old Z n0 h0) :
    MetFree l (⟨"com/example/chorale/chorale/FlowGraph$Kind", "attaches", "()Z"⟩ : MethodName) (head1 (Jvm.Cond.code (⟨"com/example/chorale/chorale/FlowGraph$Kind", "attaches", "()Z"⟩ : MethodName) prog_73_method_5_code 1 (some .boolean) :: ws) ({ frames := 0, cells := 0, slots := 0, locals := 0 } : Room)) (fun a U => a = #[(.ref w_ACTIVITY)] ∧ Z.Warmed39 U.vm ∧ U.heap = h0) (fun _ _ _ _ _ => True) (fun _ U o U' => ∃ v L, o = .returned v ∧ Q2_4 Z w_START_EVENT w_BOUNDARY_EVENT w_MESSAGE_BOUNDARY_EVENT w_TERMINATE_END_EVENT w_LINK_THROW_EVENT w_LINK_CATCH_EVENT w_RECEPTION w_END_EVENT w_EVENT_BASED_GATEWAY w_INCLUSIVE_GATEWAY w_EXCLUSIVE_GATEWAY w_MESSAGE_START_EVENT w_SUB_PROCESS w_ACTIVITY w_PARALLEL_GATEWAY  h0 n0 v U'.heap L ∧ FrameEnd U o U' L ({ frames := 0, cells := 0, slots := 0, locals := 0 } : Room).cells ({ frames := 0, cells := 0, slots := 0, locals := 0 } : Room).slots) := by
  refine MetFree.of_bodySF (plainFor_of_name pn_com_example_chorale_chorale_FlowGraph_Kind) hisR ?_
  intro p e s m args below meth c s₁ Bd hml0 hP hK
  obtain ⟨rfl, hZ, hh⟩ := hP
  have hx := Bd.exec
  have hby := Bd.bytes
  have hml : c.maxLocals = 1 := hml0
  have hown : s.vm.findClass "com/example/chorale/chorale/FlowGraph$Kind" = some m.cls := findClass_of_methodNamed Bd.named
  have hnm := (name_of_methodNamed Bd.named Bd.method).1
  have X0 : Stand p l e ({ frames := 0, cells := 0, slots := 0, locals := 0 } : Room) s m #[(.ref w_ACTIVITY)] below meth c s₁ [] 0 0 := Stand.of_body Bd
  have e0 : s₁.heap = h0 := by rw [← hh, Bd.state]; rfl
  have N0 := Fr.nil n0
  show OGot p.tables e below (s₁.setTop (entryFrame m #[(.ref w_ACTIVITY)] 1)) _
  refine OGot.go (fun t k => castTop (ef2_4 m w_ACTIVITY) k) ?_
  show OGot p.tables e below (s₁.setTop (mkF m 0 #[.val (.ref w_ACTIVITY)] [])) _
  refine OGot.go (fun t k => XS.aloadN X0.here hx rfl (hb hby d2_0) rfl rfl k) ?_
  show OGot p.tables e below (s₁.setTop (mkF m 1 #[.val (.ref w_ACTIVITY)] [(.ref w_ACTIVITY)])) _
  obtain ⟨T2, X2, e2, st2⟩ := getS2 X0 hx hZ hown (host := "") (Or.inl (ow hw 13 rfl)) Via.refl e0 (G.2.2.1.ext O0.2) (g := (mkF m 1 #[.val (.ref w_ACTIVITY)] [(.ref w_ACTIVITY)])) rfl (hb hby d2_1)
  refine OGot.go st2 ?_
  show OGot p.tables e below (T2.setTop (mkF m 4 #[.val (.ref w_ACTIVITY)] [(.ref w_BOUNDARY_EVENT), (.ref w_ACTIVITY)])) _
  have ne3 : w_ACTIVITY ≠ w_BOUNDARY_EVENT := (Fld.ne G.2.2.2.2.2.2.2.2.2.2.2.2.2.2.2.2.2.2.2.2.2.2.2.2.2.2.2.2.2.2.2.2.2.2.2.2.2.2.2.2.2.2.2.1 G.2.2.2.2.2.2.2.2.2.2.2.2.2.2.2.2.2.2.2.2.2.2.2.2.2.2.2.2.2.2.2.1 (by decide))
  refine OGot.go (fun t k => Jvm.RoadKit.acmp (g := (mkF m 4 #[.val (.ref w_ACTIVITY)] [(.ref w_BOUNDARY_EVENT), (.ref w_ACTIVITY)])) X2 hx rfl rfl rfl (pc0 := 4) (pc' := 7) (same := false) rfl (hb hby d2_4) rfl (decide_eq_false fun q => ne3 (Value.ref.inj q)) (by decide) (by decide) k) ?_
  show OGot p.tables e below (T2.setTop (mkF m 7 #[.val (.ref w_ACTIVITY)] [])) _
  refine OGot.go (fun t k => XS.aloadN X2.here hx rfl (hb hby d2_7) rfl rfl k) ?_
  show OGot p.tables e below (T2.setTop (mkF m 8 #[.val (.ref w_ACTIVITY)] [(.ref w_ACTIVITY)])) _
  obtain ⟨T4, X4, e4, st4⟩ := getS2 X2 hx hZ hown (host := "") (Or.inl (ow hw 15 rfl)) Via.refl e2 (G.2.2.2.2.1.ext O0.2) (g := (mkF m 8 #[.val (.ref w_ACTIVITY)] [(.ref w_ACTIVITY)])) rfl (hb hby d2_8)
  refine OGot.go st4 ?_
  show OGot p.tables e below (T4.setTop (mkF m 11 #[.val (.ref w_ACTIVITY)] [(.ref w_MESSAGE_BOUNDARY_EVENT), (.ref w_ACTIVITY)])) _
  have ne5 : w_ACTIVITY ≠ w_MESSAGE_BOUNDARY_EVENT := (Fld.ne G.2.2.2.2.2.2.2.2.2.2.2.2.2.2.2.2.2.2.2.2.2.2.2.2.2.2.2.2.2.2.2.2.2.2.2.2.2.2.2.2.2.2.2.1 G.2.2.2.2.2.2.2.2.2.2.2.2.2.2.2.2.2.2.2.2.2.2.2.2.2.2.2.2.2.2.2.2.1 (by decide))
  refine OGot.go (fun t k => Jvm.RoadKit.acmp (g := (mkF m 11 #[.val (.ref w_ACTIVITY)] [(.ref w_MESSAGE_BOUNDARY_EVENT), (.ref w_ACTIVITY)])) X4 hx rfl rfl rfl (pc0 := 11) (pc' := 18) (same := false) rfl (hb hby d2_11) rfl (decide_eq_false fun q => ne5 (Value.ref.inj q)) (by decide) (by decide) k) ?_
  show OGot p.tables e below (T4.setTop (mkF m 18 #[.val (.ref w_ACTIVITY)] [])) _
  refine OGot.go (fun t k => XS.iconst X4.here hx rfl (hb hby d2_18) k) ?_
  show OGot p.tables e below (T4.setTop (mkF m 19 #[.val (.ref w_ACTIVITY)] [(.int (0 : Int32))])) _
  obtain ⟨fs, hr, hrun, hended, hW, hsame⟩ := X4.leave (v := some (.int (0 : Int32))) (fun h => by rw [Bd.returns] at h; cases h)
  refine ⟨_, _, retN X4 hx (t := .boolean) Bd.returns (by simp) (hb hby d2_19) hr, hrun, hended, _, _, rfl, ?_, ⟨_, rfl⟩, hW, hsame.mono (by decide) (by decide)⟩
  exact (⟨rfl, N0, e4⟩ : Q2_4 Z w_START_EVENT w_BOUNDARY_EVENT w_MESSAGE_BOUNDARY_EVENT w_TERMINATE_END_EVENT w_LINK_THROW_EVENT w_LINK_CATCH_EVENT w_RECEPTION w_END_EVENT w_EVENT_BASED_GATEWAY w_INCLUSIVE_GATEWAY w_EXCLUSIVE_GATEWAY w_MESSAGE_START_EVENT w_SUB_PROCESS w_ACTIVITY w_PARALLEL_GATEWAY  h0 n0 _ T4.heap _)
def Q3_4 (Z : State) (w_START_EVENT : Addr) (w_BOUNDARY_EVENT : Addr) (w_MESSAGE_BOUNDARY_EVENT : Addr) (w_TERMINATE_END_EVENT : Addr) (w_LINK_THROW_EVENT : Addr) (w_LINK_CATCH_EVENT : Addr) (w_RECEPTION : Addr) (w_END_EVENT : Addr) (w_EVENT_BASED_GATEWAY : Addr) (w_INCLUSIVE_GATEWAY : Addr) (w_EXCLUSIVE_GATEWAY : Addr) (w_MESSAGE_START_EVENT : Addr) (w_SUB_PROCESS : Addr) (w_ACTIVITY : Addr) (w_PARALLEL_GATEWAY : Addr)  (h0 : Heap) (n0 : Nat) (v : Option Value) (h : Heap) (L : List Loc) : Prop := v = some (.int (0 : Int32)) ∧ Fr n0 L ∧ h = h0
theorem ef3_4 (m : MethodId)  : entryFrame m #[(.int (4 : Int32))] 2 = mkF m 0 #[.val (.int (4 : Int32)), .unset] [] := by first | (simp [entryFrame, mkF, argsToLocals, Value.category]; done) | rfl
set_option maxRecDepth 65536 in
set_option maxHeartbeats 40000000 in
theorem rm3_4 (l : Launch) (Z : State) (a0 : Array Value) (hw : ∀ d ∈ tables_1, d.before a0 Z = true) (ws : List Jvm.Cond) {w_START_EVENT : Addr} {w_BOUNDARY_EVENT : Addr} {w_MESSAGE_BOUNDARY_EVENT : Addr} {w_TERMINATE_END_EVENT : Addr} {w_LINK_THROW_EVENT : Addr} {w_LINK_CATCH_EVENT : Addr} {w_RECEPTION : Addr} {w_END_EVENT : Addr} {w_EVENT_BASED_GATEWAY : Addr} {w_INCLUSIVE_GATEWAY : Addr} {w_EXCLUSIVE_GATEWAY : Addr} {w_MESSAGE_START_EVENT : Addr} {w_SUB_PROCESS : Addr} {w_ACTIVITY : Addr} {w_PARALLEL_GATEWAY : Addr} (G : Glob Z w_START_EVENT w_BOUNDARY_EVENT w_MESSAGE_BOUNDARY_EVENT w_TERMINATE_END_EVENT w_LINK_THROW_EVENT w_LINK_CATCH_EVENT w_RECEPTION w_END_EVENT w_EVENT_BASED_GATEWAY w_INCLUSIVE_GATEWAY w_EXCLUSIVE_GATEWAY w_MESSAGE_START_EVENT w_SUB_PROCESS w_ACTIVITY w_PARALLEL_GATEWAY)  (h0 : Heap) (n0 : Nat) (O0 : Old Z n0 h0) :
    MetFree l (⟨"com/example/chorale/chorale/KindAttachesPinLaw", "isBoundaryIndex", "(I)Z"⟩ : MethodName) (head1 (Jvm.Cond.code (⟨"com/example/chorale/chorale/KindAttachesPinLaw", "isBoundaryIndex", "(I)Z"⟩ : MethodName) method_3_code 2 (some .boolean) :: ws) ({ frames := 0, cells := 0, slots := 0, locals := 0 } : Room)) (fun a U => a = #[(.int (4 : Int32))] ∧ Z.Warmed39 U.vm ∧ U.heap = h0) (fun _ _ _ _ _ => True) (fun _ U o U' => ∃ v L, o = .returned v ∧ Q3_4 Z w_START_EVENT w_BOUNDARY_EVENT w_MESSAGE_BOUNDARY_EVENT w_TERMINATE_END_EVENT w_LINK_THROW_EVENT w_LINK_CATCH_EVENT w_RECEPTION w_END_EVENT w_EVENT_BASED_GATEWAY w_INCLUSIVE_GATEWAY w_EXCLUSIVE_GATEWAY w_MESSAGE_START_EVENT w_SUB_PROCESS w_ACTIVITY w_PARALLEL_GATEWAY  h0 n0 v U'.heap L ∧ FrameEnd U o U' L ({ frames := 0, cells := 0, slots := 0, locals := 0 } : Room).cells ({ frames := 0, cells := 0, slots := 0, locals := 0 } : Room).slots) := by
  refine MetFree.of_bodySF (plainFor_of_name pn_com_example_chorale_chorale_KindAttachesPinLaw) hisR ?_
  intro p e s m args below meth c s₁ Bd hml0 hP hK
  obtain ⟨rfl, hZ, hh⟩ := hP
  have hx := Bd.exec
  have hby := Bd.bytes
  have hml : c.maxLocals = 2 := hml0
  have hown : s.vm.findClass "com/example/chorale/chorale/KindAttachesPinLaw" = some m.cls := findClass_of_methodNamed Bd.named
  have hnm := (name_of_methodNamed Bd.named Bd.method).1
  have X0 : Stand p l e ({ frames := 0, cells := 0, slots := 0, locals := 0 } : Room) s m #[(.int (4 : Int32))] below meth c s₁ [] 0 0 := Stand.of_body Bd
  have e0 : s₁.heap = h0 := by rw [← hh, Bd.state]; rfl
  have N0 := Fr.nil n0
  show OGot p.tables e below (s₁.setTop (entryFrame m #[(.int (4 : Int32))] 2)) _
  refine OGot.go (fun t k => castTop (ef3_4 m ) k) ?_
  show OGot p.tables e below (s₁.setTop (mkF m 0 #[.val (.int (4 : Int32)), .unset] [])) _
  refine OGot.go (fun t k => XS.iconst X0.here hx rfl (hb hby d3_0) k) ?_
  show OGot p.tables e below (s₁.setTop (mkF m 1 #[.val (.int (4 : Int32)), .unset] [(.int (0 : Int32))])) _
  refine OGot.go (fun t k => XS.istoreN X0.here hx rfl (hb hby d3_1) rfl (l' := #[.val (.int (4 : Int32)), .val (.int (0 : Int32))]) rfl k) ?_
  show OGot p.tables e below (s₁.setTop (mkF m 2 #[.val (.int (4 : Int32)), .val (.int (0 : Int32))] [])) _
  refine OGot.go (fun t k => XS.iloadN X0.here hx rfl (hb hby d3_2) rfl k) ?_
  show OGot p.tables e below (s₁.setTop (mkF m 3 #[.val (.int (4 : Int32)), .val (.int (0 : Int32))] [(.int (4 : Int32))])) _
  refine OGot.go (fun t k => XS.bipush X0.here hx rfl (hb hby d3_3) k) ?_
  show OGot p.tables e below (s₁.setTop (mkF m 5 #[.val (.int (4 : Int32)), .val (.int (0 : Int32))] [(.int (13 : Int32)), (.int (4 : Int32))])) _
  refine OGot.go (fun t k => XS.icmpYes X0.here hx rfl (pc0 := 5) (pc' := 10) rfl (hb hby d3_5) rfl (by decide) (by decide) (by decide) k) ?_
  show OGot p.tables e below (s₁.setTop (mkF m 10 #[.val (.int (4 : Int32)), .val (.int (0 : Int32))] [])) _
  refine OGot.go (fun t k => XS.iloadN X0.here hx rfl (hb hby d3_10) rfl k) ?_
  show OGot p.tables e below (s₁.setTop (mkF m 11 #[.val (.int (4 : Int32)), .val (.int (0 : Int32))] [(.int (4 : Int32))])) _
  refine OGot.go (fun t k => XS.bipush X0.here hx rfl (hb hby d3_11) k) ?_
  show OGot p.tables e below (s₁.setTop (mkF m 13 #[.val (.int (4 : Int32)), .val (.int (0 : Int32))] [(.int (14 : Int32)), (.int (4 : Int32))])) _
  refine OGot.go (fun t k => XS.icmpYes X0.here hx rfl (pc0 := 13) (pc' := 18) rfl (hb hby d3_13) rfl (by decide) (by decide) (by decide) k) ?_
  show OGot p.tables e below (s₁.setTop (mkF m 18 #[.val (.int (4 : Int32)), .val (.int (0 : Int32))] [])) _
  refine OGot.go (fun t k => XS.iloadN X0.here hx rfl (hb hby d3_18) rfl k) ?_
  show OGot p.tables e below (s₁.setTop (mkF m 19 #[.val (.int (4 : Int32)), .val (.int (0 : Int32))] [(.int (0 : Int32))])) _
  obtain ⟨fs, hr, hrun, hended, hW, hsame⟩ := X0.leave (v := some (.int (0 : Int32))) (fun h => by rw [Bd.returns] at h; cases h)
  refine ⟨_, _, retN X0 hx (t := .boolean) Bd.returns (by simp) (hb hby d3_19) hr, hrun, hended, _, _, rfl, ?_, ⟨_, rfl⟩, hW, hsame.mono (by decide) (by decide)⟩
  exact (⟨rfl, N0, e0⟩ : Q3_4 Z w_START_EVENT w_BOUNDARY_EVENT w_MESSAGE_BOUNDARY_EVENT w_TERMINATE_END_EVENT w_LINK_THROW_EVENT w_LINK_CATCH_EVENT w_RECEPTION w_END_EVENT w_EVENT_BASED_GATEWAY w_INCLUSIVE_GATEWAY w_EXCLUSIVE_GATEWAY w_MESSAGE_START_EVENT w_SUB_PROCESS w_ACTIVITY w_PARALLEL_GATEWAY  h0 n0 _ s₁.heap _)
theorem d1_44 : decode method_2_code 44 = .ok (.iload_n 0, 1) := by decide +kernel
theorem d1_45 : decode method_2_code 45 = .ok (.iconst 5, 1) := by decide +kernel
theorem d1_46 : decode method_2_code 46 = .ok (.if_icmp .ne 7, 3) := by decide +kernel
theorem d1_49 : decode method_2_code 49 = .ok (.getstatic 25, 3) := by decide +kernel
theorem d1_52 : decode method_2_code 52 = .ok (.areturn, 1) := by decide +kernel
def Q1_5 (Z : State) (w_START_EVENT : Addr) (w_BOUNDARY_EVENT : Addr) (w_MESSAGE_BOUNDARY_EVENT : Addr) (w_TERMINATE_END_EVENT : Addr) (w_LINK_THROW_EVENT : Addr) (w_LINK_CATCH_EVENT : Addr) (w_RECEPTION : Addr) (w_END_EVENT : Addr) (w_EVENT_BASED_GATEWAY : Addr) (w_INCLUSIVE_GATEWAY : Addr) (w_EXCLUSIVE_GATEWAY : Addr) (w_MESSAGE_START_EVENT : Addr) (w_SUB_PROCESS : Addr) (w_ACTIVITY : Addr) (w_PARALLEL_GATEWAY : Addr)  (h0 : Heap) (n0 : Nat) (v : Option Value) (h : Heap) (L : List Loc) : Prop := v = some (.ref w_LINK_THROW_EVENT) ∧ Fr n0 L ∧ h = h0
theorem ef1_5 (m : MethodId)  : entryFrame m #[(.int (5 : Int32))] 1 = mkF m 0 #[.val (.int (5 : Int32))] [] := by first | (simp [entryFrame, mkF, argsToLocals, Value.category]; done) | rfl
set_option maxRecDepth 65536 in
set_option maxHeartbeats 40000000 in
theorem rm1_5 (l : Launch) (Z : State) (a0 : Array Value) (hw : ∀ d ∈ tables_1, d.before a0 Z = true) (ws : List Jvm.Cond) {w_START_EVENT : Addr} {w_BOUNDARY_EVENT : Addr} {w_MESSAGE_BOUNDARY_EVENT : Addr} {w_TERMINATE_END_EVENT : Addr} {w_LINK_THROW_EVENT : Addr} {w_LINK_CATCH_EVENT : Addr} {w_RECEPTION : Addr} {w_END_EVENT : Addr} {w_EVENT_BASED_GATEWAY : Addr} {w_INCLUSIVE_GATEWAY : Addr} {w_EXCLUSIVE_GATEWAY : Addr} {w_MESSAGE_START_EVENT : Addr} {w_SUB_PROCESS : Addr} {w_ACTIVITY : Addr} {w_PARALLEL_GATEWAY : Addr} (G : Glob Z w_START_EVENT w_BOUNDARY_EVENT w_MESSAGE_BOUNDARY_EVENT w_TERMINATE_END_EVENT w_LINK_THROW_EVENT w_LINK_CATCH_EVENT w_RECEPTION w_END_EVENT w_EVENT_BASED_GATEWAY w_INCLUSIVE_GATEWAY w_EXCLUSIVE_GATEWAY w_MESSAGE_START_EVENT w_SUB_PROCESS w_ACTIVITY w_PARALLEL_GATEWAY)  (h0 : Heap) (n0 : Nat) (O0 : Old Z n0 h0) :
    MetFree l (⟨"com/example/chorale/chorale/KindAttachesPinLaw", "kindAt", "(I)Lcom/example/chorale/chorale/FlowGraph$Kind;"⟩ : MethodName) (head1 (Jvm.Cond.code (⟨"com/example/chorale/chorale/KindAttachesPinLaw", "kindAt", "(I)Lcom/example/chorale/chorale/FlowGraph$Kind;"⟩ : MethodName) method_2_code 1 (some (.object "com/example/chorale/chorale/FlowGraph$Kind")) :: ws) ({ frames := 0, cells := 0, slots := 0, locals := 0 } : Room)) (fun a U => a = #[(.int (5 : Int32))] ∧ Z.Warmed39 U.vm ∧ U.heap = h0) (fun _ _ _ _ _ => True) (fun _ U o U' => ∃ v L, o = .returned v ∧ Q1_5 Z w_START_EVENT w_BOUNDARY_EVENT w_MESSAGE_BOUNDARY_EVENT w_TERMINATE_END_EVENT w_LINK_THROW_EVENT w_LINK_CATCH_EVENT w_RECEPTION w_END_EVENT w_EVENT_BASED_GATEWAY w_INCLUSIVE_GATEWAY w_EXCLUSIVE_GATEWAY w_MESSAGE_START_EVENT w_SUB_PROCESS w_ACTIVITY w_PARALLEL_GATEWAY  h0 n0 v U'.heap L ∧ FrameEnd U o U' L ({ frames := 0, cells := 0, slots := 0, locals := 0 } : Room).cells ({ frames := 0, cells := 0, slots := 0, locals := 0 } : Room).slots) := by
  refine MetFree.of_bodySF (plainFor_of_name pn_com_example_chorale_chorale_KindAttachesPinLaw) hisR ?_
  intro p e s m args below meth c s₁ Bd hml0 hP hK
  obtain ⟨rfl, hZ, hh⟩ := hP
  have hx := Bd.exec
  have hby := Bd.bytes
  have hml : c.maxLocals = 1 := hml0
  have hown : s.vm.findClass "com/example/chorale/chorale/KindAttachesPinLaw" = some m.cls := findClass_of_methodNamed Bd.named
  have hnm := (name_of_methodNamed Bd.named Bd.method).1
  have X0 : Stand p l e ({ frames := 0, cells := 0, slots := 0, locals := 0 } : Room) s m #[(.int (5 : Int32))] below meth c s₁ [] 0 0 := Stand.of_body Bd
  have e0 : s₁.heap = h0 := by rw [← hh, Bd.state]; rfl
  have N0 := Fr.nil n0
  show OGot p.tables e below (s₁.setTop (entryFrame m #[(.int (5 : Int32))] 1)) _
  refine OGot.go (fun t k => castTop (ef1_5 m ) k) ?_
  show OGot p.tables e below (s₁.setTop (mkF m 0 #[.val (.int (5 : Int32))] [])) _
  refine OGot.go (fun t k => XS.iloadN X0.here hx rfl (hb hby d1_0) rfl k) ?_
  show OGot p.tables e below (s₁.setTop (mkF m 1 #[.val (.int (5 : Int32))] [(.int (5 : Int32))])) _
  refine OGot.go (fun t k => XS.ifYes X0.here hx rfl (pc0 := 1) (pc' := 8) rfl (hb hby d1_1) rfl (by decide) (by decide) (by decide) k) ?_
  show OGot p.tables e below (s₁.setTop (mkF m 8 #[.val (.int (5 : Int32))] [])) _
  refine OGot.go (fun t k => XS.iloadN X0.here hx rfl (hb hby d1_8) rfl k) ?_
  show OGot p.tables e below (s₁.setTop (mkF m 9 #[.val (.int (5 : Int32))] [(.int (5 : Int32))])) _
  refine OGot.go (fun t k => XS.iconst X0.here hx rfl (hb hby d1_9) k) ?_
  show OGot p.tables e below (s₁.setTop (mkF m 10 #[.val (.int (5 : Int32))] [(.int (1 : Int32)), (.int (5 : Int32))])) _
  refine OGot.go (fun t k => XS.icmpYes X0.here hx rfl (pc0 := 10) (pc' := 17) rfl (hb hby d1_10) rfl (by decide) (by decide) (by decide) k) ?_
  show OGot p.tables e below (s₁.setTop (mkF m 17 #[.val (.int (5 : Int32))] [])) _
  refine OGot.go (fun t k => XS.iloadN X0.here hx rfl (hb hby d1_17) rfl k) ?_
  show OGot p.tables e below (s₁.setTop (mkF m 18 #[.val (.int (5 : Int32))] [(.int (5 : Int32))])) _
  refine OGot.go (fun t k => XS.iconst X0.here hx rfl (hb hby d1_18) k) ?_
  show OGot p.tables e below (s₁.setTop (mkF m 19 #[.val (.int (5 : Int32))] [(.int (2 : Int32)), (.int (5 : Int32))])) _
  refine OGot.go (fun t k => XS.icmpYes X0.here hx rfl (pc0 := 19) (pc' := 26) rfl (hb hby d1_19) rfl (by decide) (by decide) (by decide) k) ?_
  show OGot p.tables e below (s₁.setTop (mkF m 26 #[.val (.int (5 : Int32))] [])) _
  refine OGot.go (fun t k => XS.iloadN X0.here hx rfl (hb hby d1_26) rfl k) ?_
  show OGot p.tables e below (s₁.setTop (mkF m 27 #[.val (.int (5 : Int32))] [(.int (5 : Int32))])) _
  refine OGot.go (fun t k => XS.iconst X0.here hx rfl (hb hby d1_27) k) ?_
  show OGot p.tables e below (s₁.setTop (mkF m 28 #[.val (.int (5 : Int32))] [(.int (3 : Int32)), (.int (5 : Int32))])) _
  refine OGot.go (fun t k => XS.icmpYes X0.here hx rfl (pc0 := 28) (pc' := 35) rfl (hb hby d1_28) rfl (by decide) (by decide) (by decide) k) ?_
  show OGot p.tables e below (s₁.setTop (mkF m 35 #[.val (.int (5 : Int32))] [])) _
  refine OGot.go (fun t k => XS.iloadN X0.here hx rfl (hb hby d1_35) rfl k) ?_
  show OGot p.tables e below (s₁.setTop (mkF m 36 #[.val (.int (5 : Int32))] [(.int (5 : Int32))])) _
  refine OGot.go (fun t k => XS.iconst X0.here hx rfl (hb hby d1_36) k) ?_
  show OGot p.tables e below (s₁.setTop (mkF m 37 #[.val (.int (5 : Int32))] [(.int (4 : Int32)), (.int (5 : Int32))])) _
  refine OGot.go (fun t k => XS.icmpYes X0.here hx rfl (pc0 := 37) (pc' := 44) rfl (hb hby d1_37) rfl (by decide) (by decide) (by decide) k) ?_
  show OGot p.tables e below (s₁.setTop (mkF m 44 #[.val (.int (5 : Int32))] [])) _
  refine OGot.go (fun t k => XS.iloadN X0.here hx rfl (hb hby d1_44) rfl k) ?_
  show OGot p.tables e below (s₁.setTop (mkF m 45 #[.val (.int (5 : Int32))] [(.int (5 : Int32))])) _
  refine OGot.go (fun t k => XS.iconst X0.here hx rfl (hb hby d1_45) k) ?_
  show OGot p.tables e below (s₁.setTop (mkF m 46 #[.val (.int (5 : Int32))] [(.int (5 : Int32)), (.int (5 : Int32))])) _
  refine OGot.go (fun t k => XS.icmpNo X0.here hx rfl (hb hby d1_46) rfl (by decide) k) ?_
  show OGot p.tables e below (s₁.setTop (mkF m 49 #[.val (.int (5 : Int32))] [])) _
  obtain ⟨T1, X1, e1, st1⟩ := getS2 X0 hx hZ hown (host := "") (Or.inl (ow hw 22 rfl)) Via.refl e0 (G.2.2.2.2.2.2.2.2.1.ext O0.2) (g := (mkF m 49 #[.val (.int (5 : Int32))] [])) rfl (hb hby d1_49)
  refine OGot.go st1 ?_
  show OGot p.tables e below (T1.setTop (mkF m 52 #[.val (.int (5 : Int32))] [(.ref w_LINK_THROW_EVENT)])) _
  obtain ⟨fs, hr, hrun, hended, hW, hsame⟩ := X1.leave (v := some (.ref w_LINK_THROW_EVENT)) (fun h => by rw [Bd.returns] at h; cases h)
  refine ⟨_, _, oretA X1 hx Bd.returns rfl rfl (hb hby d1_52) hr, hrun, hended, _, _, rfl, ?_, ⟨_, rfl⟩, hW, hsame.mono (by decide) (by decide)⟩
  exact (⟨rfl, N0, e1⟩ : Q1_5 Z w_START_EVENT w_BOUNDARY_EVENT w_MESSAGE_BOUNDARY_EVENT w_TERMINATE_END_EVENT w_LINK_THROW_EVENT w_LINK_CATCH_EVENT w_RECEPTION w_END_EVENT w_EVENT_BASED_GATEWAY w_INCLUSIVE_GATEWAY w_EXCLUSIVE_GATEWAY w_MESSAGE_START_EVENT w_SUB_PROCESS w_ACTIVITY w_PARALLEL_GATEWAY  h0 n0 _ T1.heap _)
def Q2_5 (Z : State) (w_START_EVENT : Addr) (w_BOUNDARY_EVENT : Addr) (w_MESSAGE_BOUNDARY_EVENT : Addr) (w_TERMINATE_END_EVENT : Addr) (w_LINK_THROW_EVENT : Addr) (w_LINK_CATCH_EVENT : Addr) (w_RECEPTION : Addr) (w_END_EVENT : Addr) (w_EVENT_BASED_GATEWAY : Addr) (w_INCLUSIVE_GATEWAY : Addr) (w_EXCLUSIVE_GATEWAY : Addr) (w_MESSAGE_START_EVENT : Addr) (w_SUB_PROCESS : Addr) (w_ACTIVITY : Addr) (w_PARALLEL_GATEWAY : Addr)  (h0 : Heap) (n0 : Nat) (v : Option Value) (h : Heap) (L : List Loc) : Prop := v = some (.int (0 : Int32)) ∧ Fr n0 L ∧ h = h0
theorem ef2_5 (m : MethodId) (x0 : Addr) : entryFrame m #[(.ref x0)] 1 = mkF m 0 #[.val (.ref x0)] [] := by first | (simp [entryFrame, mkF, argsToLocals, Value.category]; done) | rfl
set_option maxRecDepth 65536 in
set_option maxHeartbeats 40000000 in
theorem rm2_5 (l : Launch) (Z : State) (a0 : Array Value) (hw : ∀ d ∈ tables_1, d.before a0 Z = true) (ws : List Jvm.Cond) {w_START_EVENT : Addr} {w_BOUNDARY_EVENT : Addr} {w_MESSAGE_BOUNDARY_EVENT : Addr} {w_TERMINATE_END_EVENT : Addr} {w_LINK_THROW_EVENT : Addr} {w_LINK_CATCH_EVENT : Addr} {w_RECEPTION : Addr} {w_END_EVENT : Addr} {w_EVENT_BASED_GATEWAY : Addr} {w_INCLUSIVE_GATEWAY : Addr} {w_EXCLUSIVE_GATEWAY : Addr} {w_MESSAGE_START_EVENT : Addr} {w_SUB_PROCESS : Addr} {w_ACTIVITY : Addr} {w_PARALLEL_GATEWAY : Addr} (G : Glob Z w_START_EVENT w_BOUNDARY_EVENT w_MESSAGE_BOUNDARY_EVENT w_TERMINATE_END_EVENT w_LINK_THROW_EVENT w_LINK_CATCH_EVENT w_RECEPTION w_END_EVENT w_EVENT_BASED_GATEWAY w_INCLUSIVE_GATEWAY w_EXCLUSIVE_GATEWAY w_MESSAGE_START_EVENT w_SUB_PROCESS w_ACTIVITY w_PARALLEL_GATEWAY)  (h0 : Heap) (n0 : Nat) (O0 : Old Z n0 h0) :
    MetFree l (⟨"com/example/chorale/chorale/FlowGraph$Kind", "attaches", "()Z"⟩ : MethodName) (head1 (Jvm.Cond.code (⟨"com/example/chorale/chorale/FlowGraph$Kind", "attaches", "()Z"⟩ : MethodName) prog_73_method_5_code 1 (some .boolean) :: ws) ({ frames := 0, cells := 0, slots := 0, locals := 0 } : Room)) (fun a U => a = #[(.ref w_LINK_THROW_EVENT)] ∧ Z.Warmed39 U.vm ∧ U.heap = h0) (fun _ _ _ _ _ => True) (fun _ U o U' => ∃ v L, o = .returned v ∧ Q2_5 Z w_START_EVENT w_BOUNDARY_EVENT w_MESSAGE_BOUNDARY_EVENT w_TERMINATE_END_EVENT w_LINK_THROW_EVENT w_LINK_CATCH_EVENT w_RECEPTION w_END_EVENT w_EVENT_BASED_GATEWAY w_INCLUSIVE_GATEWAY w_EXCLUSIVE_GATEWAY w_MESSAGE_START_EVENT w_SUB_PROCESS w_ACTIVITY w_PARALLEL_GATEWAY  h0 n0 v U'.heap L ∧ FrameEnd U o U' L ({ frames := 0, cells := 0, slots := 0, locals := 0 } : Room).cells ({ frames := 0, cells := 0, slots := 0, locals := 0 } : Room).slots) := by
  refine MetFree.of_bodySF (plainFor_of_name pn_com_example_chorale_chorale_FlowGraph_Kind) hisR ?_
  intro p e s m args below meth c s₁ Bd hml0 hP hK
  obtain ⟨rfl, hZ, hh⟩ := hP
  have hx := Bd.exec
  have hby := Bd.bytes
  have hml : c.maxLocals = 1 := hml0
  have hown : s.vm.findClass "com/example/chorale/chorale/FlowGraph$Kind" = some m.cls := findClass_of_methodNamed Bd.named
  have hnm := (name_of_methodNamed Bd.named Bd.method).1
  have X0 : Stand p l e ({ frames := 0, cells := 0, slots := 0, locals := 0 } : Room) s m #[(.ref w_LINK_THROW_EVENT)] below meth c s₁ [] 0 0 := Stand.of_body Bd
  have e0 : s₁.heap = h0 := by rw [← hh, Bd.state]; rfl
  have N0 := Fr.nil n0
  show OGot p.tables e below (s₁.setTop (entryFrame m #[(.ref w_LINK_THROW_EVENT)] 1)) _
  refine OGot.go (fun t k => castTop (ef2_5 m w_LINK_THROW_EVENT) k) ?_
  show OGot p.tables e below (s₁.setTop (mkF m 0 #[.val (.ref w_LINK_THROW_EVENT)] [])) _
  refine OGot.go (fun t k => XS.aloadN X0.here hx rfl (hb hby d2_0) rfl rfl k) ?_
  show OGot p.tables e below (s₁.setTop (mkF m 1 #[.val (.ref w_LINK_THROW_EVENT)] [(.ref w_LINK_THROW_EVENT)])) _
  obtain ⟨T2, X2, e2, st2⟩ := getS2 X0 hx hZ hown (host := "") (Or.inl (ow hw 13 rfl)) Via.refl e0 (G.2.2.1.ext O0.2) (g := (mkF m 1 #[.val (.ref w_LINK_THROW_EVENT)] [(.ref w_LINK_THROW_EVENT)])) rfl (hb hby d2_1)
  refine OGot.go st2 ?_
  show OGot p.tables e below (T2.setTop (mkF m 4 #[.val (.ref w_LINK_THROW_EVENT)] [(.ref w_BOUNDARY_EVENT), (.ref w_LINK_THROW_EVENT)])) _
  have ne3 : w_LINK_THROW_EVENT ≠ w_BOUNDARY_EVENT := (Fld.ne G.2.2.2.2.2.2.2.2.2.2.2.2.2.2.2.2.2.2.2.2.2.2.2.2.2.2.2.2.2.2.2.2.2.2.1 G.2.2.2.2.2.2.2.2.2.2.2.2.2.2.2.2.2.2.2.2.2.2.2.2.2.2.2.2.2.2.2.1 (by decide))
  refine OGot.go (fun t k => Jvm.RoadKit.acmp (g := (mkF m 4 #[.val (.ref w_LINK_THROW_EVENT)] [(.ref w_BOUNDARY_EVENT), (.ref w_LINK_THROW_EVENT)])) X2 hx rfl rfl rfl (pc0 := 4) (pc' := 7) (same := false) rfl (hb hby d2_4) rfl (decide_eq_false fun q => ne3 (Value.ref.inj q)) (by decide) (by decide) k) ?_
  show OGot p.tables e below (T2.setTop (mkF m 7 #[.val (.ref w_LINK_THROW_EVENT)] [])) _
  refine OGot.go (fun t k => XS.aloadN X2.here hx rfl (hb hby d2_7) rfl rfl k) ?_
  show OGot p.tables e below (T2.setTop (mkF m 8 #[.val (.ref w_LINK_THROW_EVENT)] [(.ref w_LINK_THROW_EVENT)])) _
  obtain ⟨T4, X4, e4, st4⟩ := getS2 X2 hx hZ hown (host := "") (Or.inl (ow hw 15 rfl)) Via.refl e2 (G.2.2.2.2.1.ext O0.2) (g := (mkF m 8 #[.val (.ref w_LINK_THROW_EVENT)] [(.ref w_LINK_THROW_EVENT)])) rfl (hb hby d2_8)
  refine OGot.go st4 ?_
  show OGot p.tables e below (T4.setTop (mkF m 11 #[.val (.ref w_LINK_THROW_EVENT)] [(.ref w_MESSAGE_BOUNDARY_EVENT), (.ref w_LINK_THROW_EVENT)])) _
  have ne5 : w_LINK_THROW_EVENT ≠ w_MESSAGE_BOUNDARY_EVENT := (Fld.ne G.2.2.2.2.2.2.2.2.2.2.2.2.2.2.2.2.2.2.2.2.2.2.2.2.2.2.2.2.2.2.2.2.2.2.1 G.2.2.2.2.2.2.2.2.2.2.2.2.2.2.2.2.2.2.2.2.2.2.2.2.2.2.2.2.2.2.2.2.1 (by decide))
  refine OGot.go (fun t k => Jvm.RoadKit.acmp (g := (mkF m 11 #[.val (.ref w_LINK_THROW_EVENT)] [(.ref w_MESSAGE_BOUNDARY_EVENT), (.ref w_LINK_THROW_EVENT)])) X4 hx rfl rfl rfl (pc0 := 11) (pc' := 18) (same := false) rfl (hb hby d2_11) rfl (decide_eq_false fun q => ne5 (Value.ref.inj q)) (by decide) (by decide) k) ?_
  show OGot p.tables e below (T4.setTop (mkF m 18 #[.val (.ref w_LINK_THROW_EVENT)] [])) _
  refine OGot.go (fun t k => XS.iconst X4.here hx rfl (hb hby d2_18) k) ?_
  show OGot p.tables e below (T4.setTop (mkF m 19 #[.val (.ref w_LINK_THROW_EVENT)] [(.int (0 : Int32))])) _
  obtain ⟨fs, hr, hrun, hended, hW, hsame⟩ := X4.leave (v := some (.int (0 : Int32))) (fun h => by rw [Bd.returns] at h; cases h)
  refine ⟨_, _, retN X4 hx (t := .boolean) Bd.returns (by simp) (hb hby d2_19) hr, hrun, hended, _, _, rfl, ?_, ⟨_, rfl⟩, hW, hsame.mono (by decide) (by decide)⟩
  exact (⟨rfl, N0, e4⟩ : Q2_5 Z w_START_EVENT w_BOUNDARY_EVENT w_MESSAGE_BOUNDARY_EVENT w_TERMINATE_END_EVENT w_LINK_THROW_EVENT w_LINK_CATCH_EVENT w_RECEPTION w_END_EVENT w_EVENT_BASED_GATEWAY w_INCLUSIVE_GATEWAY w_EXCLUSIVE_GATEWAY w_MESSAGE_START_EVENT w_SUB_PROCESS w_ACTIVITY w_PARALLEL_GATEWAY  h0 n0 _ T4.heap _)
def Q3_5 (Z : State) (w_START_EVENT : Addr) (w_BOUNDARY_EVENT : Addr) (w_MESSAGE_BOUNDARY_EVENT : Addr) (w_TERMINATE_END_EVENT : Addr) (w_LINK_THROW_EVENT : Addr) (w_LINK_CATCH_EVENT : Addr) (w_RECEPTION : Addr) (w_END_EVENT : Addr) (w_EVENT_BASED_GATEWAY : Addr) (w_INCLUSIVE_GATEWAY : Addr) (w_EXCLUSIVE_GATEWAY : Addr) (w_MESSAGE_START_EVENT : Addr) (w_SUB_PROCESS : Addr) (w_ACTIVITY : Addr) (w_PARALLEL_GATEWAY : Addr)  (h0 : Heap) (n0 : Nat) (v : Option Value) (h : Heap) (L : List Loc) : Prop := v = some (.int (0 : Int32)) ∧ Fr n0 L ∧ h = h0
theorem ef3_5 (m : MethodId)  : entryFrame m #[(.int (5 : Int32))] 2 = mkF m 0 #[.val (.int (5 : Int32)), .unset] [] := by first | (simp [entryFrame, mkF, argsToLocals, Value.category]; done) | rfl
set_option maxRecDepth 65536 in
set_option maxHeartbeats 40000000 in
theorem rm3_5 (l : Launch) (Z : State) (a0 : Array Value) (hw : ∀ d ∈ tables_1, d.before a0 Z = true) (ws : List Jvm.Cond) {w_START_EVENT : Addr} {w_BOUNDARY_EVENT : Addr} {w_MESSAGE_BOUNDARY_EVENT : Addr} {w_TERMINATE_END_EVENT : Addr} {w_LINK_THROW_EVENT : Addr} {w_LINK_CATCH_EVENT : Addr} {w_RECEPTION : Addr} {w_END_EVENT : Addr} {w_EVENT_BASED_GATEWAY : Addr} {w_INCLUSIVE_GATEWAY : Addr} {w_EXCLUSIVE_GATEWAY : Addr} {w_MESSAGE_START_EVENT : Addr} {w_SUB_PROCESS : Addr} {w_ACTIVITY : Addr} {w_PARALLEL_GATEWAY : Addr} (G : Glob Z w_START_EVENT w_BOUNDARY_EVENT w_MESSAGE_BOUNDARY_EVENT w_TERMINATE_END_EVENT w_LINK_THROW_EVENT w_LINK_CATCH_EVENT w_RECEPTION w_END_EVENT w_EVENT_BASED_GATEWAY w_INCLUSIVE_GATEWAY w_EXCLUSIVE_GATEWAY w_MESSAGE_START_EVENT w_SUB_PROCESS w_ACTIVITY w_PARALLEL_GATEWAY)  (h0 : Heap) (n0 : Nat) (O0 : Old Z n0 h0) :
    MetFree l (⟨"com/example/chorale/chorale/KindAttachesPinLaw", "isBoundaryIndex", "(I)Z"⟩ : MethodName) (head1 (Jvm.Cond.code (⟨"com/example/chorale/chorale/KindAttachesPinLaw", "isBoundaryIndex", "(I)Z"⟩ : MethodName) method_3_code 2 (some .boolean) :: ws) ({ frames := 0, cells := 0, slots := 0, locals := 0 } : Room)) (fun a U => a = #[(.int (5 : Int32))] ∧ Z.Warmed39 U.vm ∧ U.heap = h0) (fun _ _ _ _ _ => True) (fun _ U o U' => ∃ v L, o = .returned v ∧ Q3_5 Z w_START_EVENT w_BOUNDARY_EVENT w_MESSAGE_BOUNDARY_EVENT w_TERMINATE_END_EVENT w_LINK_THROW_EVENT w_LINK_CATCH_EVENT w_RECEPTION w_END_EVENT w_EVENT_BASED_GATEWAY w_INCLUSIVE_GATEWAY w_EXCLUSIVE_GATEWAY w_MESSAGE_START_EVENT w_SUB_PROCESS w_ACTIVITY w_PARALLEL_GATEWAY  h0 n0 v U'.heap L ∧ FrameEnd U o U' L ({ frames := 0, cells := 0, slots := 0, locals := 0 } : Room).cells ({ frames := 0, cells := 0, slots := 0, locals := 0 } : Room).slots) := by
  refine MetFree.of_bodySF (plainFor_of_name pn_com_example_chorale_chorale_KindAttachesPinLaw) hisR ?_
  intro p e s m args below meth c s₁ Bd hml0 hP hK
  obtain ⟨rfl, hZ, hh⟩ := hP
  have hx := Bd.exec
  have hby := Bd.bytes
  have hml : c.maxLocals = 2 := hml0
  have hown : s.vm.findClass "com/example/chorale/chorale/KindAttachesPinLaw" = some m.cls := findClass_of_methodNamed Bd.named
  have hnm := (name_of_methodNamed Bd.named Bd.method).1
  have X0 : Stand p l e ({ frames := 0, cells := 0, slots := 0, locals := 0 } : Room) s m #[(.int (5 : Int32))] below meth c s₁ [] 0 0 := Stand.of_body Bd
  have e0 : s₁.heap = h0 := by rw [← hh, Bd.state]; rfl
  have N0 := Fr.nil n0
  show OGot p.tables e below (s₁.setTop (entryFrame m #[(.int (5 : Int32))] 2)) _
  refine OGot.go (fun t k => castTop (ef3_5 m ) k) ?_
  show OGot p.tables e below (s₁.setTop (mkF m 0 #[.val (.int (5 : Int32)), .unset] [])) _
  refine OGot.go (fun t k => XS.iconst X0.here hx rfl (hb hby d3_0) k) ?_
  show OGot p.tables e below (s₁.setTop (mkF m 1 #[.val (.int (5 : Int32)), .unset] [(.int (0 : Int32))])) _
  refine OGot.go (fun t k => XS.istoreN X0.here hx rfl (hb hby d3_1) rfl (l' := #[.val (.int (5 : Int32)), .val (.int (0 : Int32))]) rfl k) ?_
  show OGot p.tables e below (s₁.setTop (mkF m 2 #[.val (.int (5 : Int32)), .val (.int (0 : Int32))] [])) _
  refine OGot.go (fun t k => XS.iloadN X0.here hx rfl (hb hby d3_2) rfl k) ?_
  show OGot p.tables e below (s₁.setTop (mkF m 3 #[.val (.int (5 : Int32)), .val (.int (0 : Int32))] [(.int (5 : Int32))])) _
  refine OGot.go (fun t k => XS.bipush X0.here hx rfl (hb hby d3_3) k) ?_
  show OGot p.tables e below (s₁.setTop (mkF m 5 #[.val (.int (5 : Int32)), .val (.int (0 : Int32))] [(.int (13 : Int32)), (.int (5 : Int32))])) _
  refine OGot.go (fun t k => XS.icmpYes X0.here hx rfl (pc0 := 5) (pc' := 10) rfl (hb hby d3_5) rfl (by decide) (by decide) (by decide) k) ?_
  show OGot p.tables e below (s₁.setTop (mkF m 10 #[.val (.int (5 : Int32)), .val (.int (0 : Int32))] [])) _
  refine OGot.go (fun t k => XS.iloadN X0.here hx rfl (hb hby d3_10) rfl k) ?_
  show OGot p.tables e below (s₁.setTop (mkF m 11 #[.val (.int (5 : Int32)), .val (.int (0 : Int32))] [(.int (5 : Int32))])) _
  refine OGot.go (fun t k => XS.bipush X0.here hx rfl (hb hby d3_11) k) ?_
  show OGot p.tables e below (s₁.setTop (mkF m 13 #[.val (.int (5 : Int32)), .val (.int (0 : Int32))] [(.int (14 : Int32)), (.int (5 : Int32))])) _
  refine OGot.go (fun t k => XS.icmpYes X0.here hx rfl (pc0 := 13) (pc' := 18) rfl (hb hby d3_13) rfl (by decide) (by decide) (by decide) k) ?_
  show OGot p.tables e below (s₁.setTop (mkF m 18 #[.val (.int (5 : Int32)), .val (.int (0 : Int32))] [])) _
  refine OGot.go (fun t k => XS.iloadN X0.here hx rfl (hb hby d3_18) rfl k) ?_
  show OGot p.tables e below (s₁.setTop (mkF m 19 #[.val (.int (5 : Int32)), .val (.int (0 : Int32))] [(.int (0 : Int32))])) _
  obtain ⟨fs, hr, hrun, hended, hW, hsame⟩ := X0.leave (v := some (.int (0 : Int32))) (fun h => by rw [Bd.returns] at h; cases h)
  refine ⟨_, _, retN X0 hx (t := .boolean) Bd.returns (by simp) (hb hby d3_19) hr, hrun, hended, _, _, rfl, ?_, ⟨_, rfl⟩, hW, hsame.mono (by decide) (by decide)⟩
  exact (⟨rfl, N0, e0⟩ : Q3_5 Z w_START_EVENT w_BOUNDARY_EVENT w_MESSAGE_BOUNDARY_EVENT w_TERMINATE_END_EVENT w_LINK_THROW_EVENT w_LINK_CATCH_EVENT w_RECEPTION w_END_EVENT w_EVENT_BASED_GATEWAY w_INCLUSIVE_GATEWAY w_EXCLUSIVE_GATEWAY w_MESSAGE_START_EVENT w_SUB_PROCESS w_ACTIVITY w_PARALLEL_GATEWAY  h0 n0 _ s₁.heap _)
theorem d1_53 : decode method_2_code 53 = .ok (.iload_n 0, 1) := by decide +kernel
theorem d1_54 : decode method_2_code 54 = .ok (.bipush 6, 2) := by decide +kernel
theorem d1_56 : decode method_2_code 56 = .ok (.if_icmp .ne 7, 3) := by decide +kernel
theorem d1_59 : decode method_2_code 59 = .ok (.getstatic 28, 3) := by decide +kernel
theorem d1_62 : decode method_2_code 62 = .ok (.areturn, 1) := by decide +kernel
def Q1_6 (Z : State) (w_START_EVENT : Addr) (w_BOUNDARY_EVENT : Addr) (w_MESSAGE_BOUNDARY_EVENT : Addr) (w_TERMINATE_END_EVENT : Addr) (w_LINK_THROW_EVENT : Addr) (w_LINK_CATCH_EVENT : Addr) (w_RECEPTION : Addr) (w_END_EVENT : Addr) (w_EVENT_BASED_GATEWAY : Addr) (w_INCLUSIVE_GATEWAY : Addr) (w_EXCLUSIVE_GATEWAY : Addr) (w_MESSAGE_START_EVENT : Addr) (w_SUB_PROCESS : Addr) (w_ACTIVITY : Addr) (w_PARALLEL_GATEWAY : Addr)  (h0 : Heap) (n0 : Nat) (v : Option Value) (h : Heap) (L : List Loc) : Prop := v = some (.ref w_LINK_CATCH_EVENT) ∧ Fr n0 L ∧ h = h0
theorem ef1_6 (m : MethodId)  : entryFrame m #[(.int (6 : Int32))] 1 = mkF m 0 #[.val (.int (6 : Int32))] [] := by first | (simp [entryFrame, mkF, argsToLocals, Value.category]; done) | rfl
set_option maxRecDepth 65536 in
set_option maxHeartbeats 40000000 in
theorem rm1_6 (l : Launch) (Z : State) (a0 : Array Value) (hw : ∀ d ∈ tables_1, d.before a0 Z = true) (ws : List Jvm.Cond) {w_START_EVENT : Addr} {w_BOUNDARY_EVENT : Addr} {w_MESSAGE_BOUNDARY_EVENT : Addr} {w_TERMINATE_END_EVENT : Addr} {w_LINK_THROW_EVENT : Addr} {w_LINK_CATCH_EVENT : Addr} {w_RECEPTION : Addr} {w_END_EVENT : Addr} {w_EVENT_BASED_GATEWAY : Addr} {w_INCLUSIVE_GATEWAY : Addr} {w_EXCLUSIVE_GATEWAY : Addr} {w_MESSAGE_START_EVENT : Addr} {w_SUB_PROCESS : Addr} {w_ACTIVITY : Addr} {w_PARALLEL_GATEWAY : Addr} (G : Glob Z w_START_EVENT w_BOUNDARY_EVENT w_MESSAGE_BOUNDARY_EVENT w_TERMINATE_END_EVENT w_LINK_THROW_EVENT w_LINK_CATCH_EVENT w_RECEPTION w_END_EVENT w_EVENT_BASED_GATEWAY w_INCLUSIVE_GATEWAY w_EXCLUSIVE_GATEWAY w_MESSAGE_START_EVENT w_SUB_PROCESS w_ACTIVITY w_PARALLEL_GATEWAY)  (h0 : Heap) (n0 : Nat) (O0 : Old Z n0 h0) :
    MetFree l (⟨"com/example/chorale/chorale/KindAttachesPinLaw", "kindAt", "(I)Lcom/example/chorale/chorale/FlowGraph$Kind;"⟩ : MethodName) (head1 (Jvm.Cond.code (⟨"com/example/chorale/chorale/KindAttachesPinLaw", "kindAt", "(I)Lcom/example/chorale/chorale/FlowGraph$Kind;"⟩ : MethodName) method_2_code 1 (some (.object "com/example/chorale/chorale/FlowGraph$Kind")) :: ws) ({ frames := 0, cells := 0, slots := 0, locals := 0 } : Room)) (fun a U => a = #[(.int (6 : Int32))] ∧ Z.Warmed39 U.vm ∧ U.heap = h0) (fun _ _ _ _ _ => True) (fun _ U o U' => ∃ v L, o = .returned v ∧ Q1_6 Z w_START_EVENT w_BOUNDARY_EVENT w_MESSAGE_BOUNDARY_EVENT w_TERMINATE_END_EVENT w_LINK_THROW_EVENT w_LINK_CATCH_EVENT w_RECEPTION w_END_EVENT w_EVENT_BASED_GATEWAY w_INCLUSIVE_GATEWAY w_EXCLUSIVE_GATEWAY w_MESSAGE_START_EVENT w_SUB_PROCESS w_ACTIVITY w_PARALLEL_GATEWAY  h0 n0 v U'.heap L ∧ FrameEnd U o U' L ({ frames := 0, cells := 0, slots := 0, locals := 0 } : Room).cells ({ frames := 0, cells := 0, slots := 0, locals := 0 } : Room).slots) := by
  refine MetFree.of_bodySF (plainFor_of_name pn_com_example_chorale_chorale_KindAttachesPinLaw) hisR ?_
  intro p e s m args below meth c s₁ Bd hml0 hP hK
  obtain ⟨rfl, hZ, hh⟩ := hP
  have hx := Bd.exec
  have hby := Bd.bytes
  have hml : c.maxLocals = 1 := hml0
  have hown : s.vm.findClass "com/example/chorale/chorale/KindAttachesPinLaw" = some m.cls := findClass_of_methodNamed Bd.named
  have hnm := (name_of_methodNamed Bd.named Bd.method).1
  have X0 : Stand p l e ({ frames := 0, cells := 0, slots := 0, locals := 0 } : Room) s m #[(.int (6 : Int32))] below meth c s₁ [] 0 0 := Stand.of_body Bd
  have e0 : s₁.heap = h0 := by rw [← hh, Bd.state]; rfl
  have N0 := Fr.nil n0
  show OGot p.tables e below (s₁.setTop (entryFrame m #[(.int (6 : Int32))] 1)) _
  refine OGot.go (fun t k => castTop (ef1_6 m ) k) ?_
  show OGot p.tables e below (s₁.setTop (mkF m 0 #[.val (.int (6 : Int32))] [])) _
  refine OGot.go (fun t k => XS.iloadN X0.here hx rfl (hb hby d1_0) rfl k) ?_
  show OGot p.tables e below (s₁.setTop (mkF m 1 #[.val (.int (6 : Int32))] [(.int (6 : Int32))])) _
  refine OGot.go (fun t k => XS.ifYes X0.here hx rfl (pc0 := 1) (pc' := 8) rfl (hb hby d1_1) rfl (by decide) (by decide) (by decide) k) ?_
  show OGot p.tables e below (s₁.setTop (mkF m 8 #[.val (.int (6 : Int32))] [])) _
  refine OGot.go (fun t k => XS.iloadN X0.here hx rfl (hb hby d1_8) rfl k) ?_
  show OGot p.tables e below (s₁.setTop (mkF m 9 #[.val (.int (6 : Int32))] [(.int (6 : Int32))])) _
  refine OGot.go (fun t k => XS.iconst X0.here hx rfl (hb hby d1_9) k) ?_
  show OGot p.tables e below (s₁.setTop (mkF m 10 #[.val (.int (6 : Int32))] [(.int (1 : Int32)), (.int (6 : Int32))])) _
  refine OGot.go (fun t k => XS.icmpYes X0.here hx rfl (pc0 := 10) (pc' := 17) rfl (hb hby d1_10) rfl (by decide) (by decide) (by decide) k) ?_
  show OGot p.tables e below (s₁.setTop (mkF m 17 #[.val (.int (6 : Int32))] [])) _
  refine OGot.go (fun t k => XS.iloadN X0.here hx rfl (hb hby d1_17) rfl k) ?_
  show OGot p.tables e below (s₁.setTop (mkF m 18 #[.val (.int (6 : Int32))] [(.int (6 : Int32))])) _
  refine OGot.go (fun t k => XS.iconst X0.here hx rfl (hb hby d1_18) k) ?_
  show OGot p.tables e below (s₁.setTop (mkF m 19 #[.val (.int (6 : Int32))] [(.int (2 : Int32)), (.int (6 : Int32))])) _
  refine OGot.go (fun t k => XS.icmpYes X0.here hx rfl (pc0 := 19) (pc' := 26) rfl (hb hby d1_19) rfl (by decide) (by decide) (by decide) k) ?_
  show OGot p.tables e below (s₁.setTop (mkF m 26 #[.val (.int (6 : Int32))] [])) _
  refine OGot.go (fun t k => XS.iloadN X0.here hx rfl (hb hby d1_26) rfl k) ?_
  show OGot p.tables e below (s₁.setTop (mkF m 27 #[.val (.int (6 : Int32))] [(.int (6 : Int32))])) _
  refine OGot.go (fun t k => XS.iconst X0.here hx rfl (hb hby d1_27) k) ?_
  show OGot p.tables e below (s₁.setTop (mkF m 28 #[.val (.int (6 : Int32))] [(.int (3 : Int32)), (.int (6 : Int32))])) _
  refine OGot.go (fun t k => XS.icmpYes X0.here hx rfl (pc0 := 28) (pc' := 35) rfl (hb hby d1_28) rfl (by decide) (by decide) (by decide) k) ?_
  show OGot p.tables e below (s₁.setTop (mkF m 35 #[.val (.int (6 : Int32))] [])) _
  refine OGot.go (fun t k => XS.iloadN X0.here hx rfl (hb hby d1_35) rfl k) ?_
  show OGot p.tables e below (s₁.setTop (mkF m 36 #[.val (.int (6 : Int32))] [(.int (6 : Int32))])) _
  refine OGot.go (fun t k => XS.iconst X0.here hx rfl (hb hby d1_36) k) ?_
  show OGot p.tables e below (s₁.setTop (mkF m 37 #[.val (.int (6 : Int32))] [(.int (4 : Int32)), (.int (6 : Int32))])) _
  refine OGot.go (fun t k => XS.icmpYes X0.here hx rfl (pc0 := 37) (pc' := 44) rfl (hb hby d1_37) rfl (by decide) (by decide) (by decide) k) ?_
  show OGot p.tables e below (s₁.setTop (mkF m 44 #[.val (.int (6 : Int32))] [])) _
  refine OGot.go (fun t k => XS.iloadN X0.here hx rfl (hb hby d1_44) rfl k) ?_
  show OGot p.tables e below (s₁.setTop (mkF m 45 #[.val (.int (6 : Int32))] [(.int (6 : Int32))])) _
  refine OGot.go (fun t k => XS.iconst X0.here hx rfl (hb hby d1_45) k) ?_
  show OGot p.tables e below (s₁.setTop (mkF m 46 #[.val (.int (6 : Int32))] [(.int (5 : Int32)), (.int (6 : Int32))])) _
  refine OGot.go (fun t k => XS.icmpYes X0.here hx rfl (pc0 := 46) (pc' := 53) rfl (hb hby d1_46) rfl (by decide) (by decide) (by decide) k) ?_
  show OGot p.tables e below (s₁.setTop (mkF m 53 #[.val (.int (6 : Int32))] [])) _
  refine OGot.go (fun t k => XS.iloadN X0.here hx rfl (hb hby d1_53) rfl k) ?_
  show OGot p.tables e below (s₁.setTop (mkF m 54 #[.val (.int (6 : Int32))] [(.int (6 : Int32))])) _
  refine OGot.go (fun t k => XS.bipush X0.here hx rfl (hb hby d1_54) k) ?_
  show OGot p.tables e below (s₁.setTop (mkF m 56 #[.val (.int (6 : Int32))] [(.int (6 : Int32)), (.int (6 : Int32))])) _
  refine OGot.go (fun t k => XS.icmpNo X0.here hx rfl (hb hby d1_56) rfl (by decide) k) ?_
  show OGot p.tables e below (s₁.setTop (mkF m 59 #[.val (.int (6 : Int32))] [])) _
  obtain ⟨T1, X1, e1, st1⟩ := getS2 X0 hx hZ hown (host := "") (Or.inl (ow hw 31 rfl)) Via.refl e0 (G.2.2.2.2.2.2.2.2.2.2.1.ext O0.2) (g := (mkF m 59 #[.val (.int (6 : Int32))] [])) rfl (hb hby d1_59)
  refine OGot.go st1 ?_
  show OGot p.tables e below (T1.setTop (mkF m 62 #[.val (.int (6 : Int32))] [(.ref w_LINK_CATCH_EVENT)])) _
  obtain ⟨fs, hr, hrun, hended, hW, hsame⟩ := X1.leave (v := some (.ref w_LINK_CATCH_EVENT)) (fun h => by rw [Bd.returns] at h; cases h)
  refine ⟨_, _, oretA X1 hx Bd.returns rfl rfl (hb hby d1_62) hr, hrun, hended, _, _, rfl, ?_, ⟨_, rfl⟩, hW, hsame.mono (by decide) (by decide)⟩
  exact (⟨rfl, N0, e1⟩ : Q1_6 Z w_START_EVENT w_BOUNDARY_EVENT w_MESSAGE_BOUNDARY_EVENT w_TERMINATE_END_EVENT w_LINK_THROW_EVENT w_LINK_CATCH_EVENT w_RECEPTION w_END_EVENT w_EVENT_BASED_GATEWAY w_INCLUSIVE_GATEWAY w_EXCLUSIVE_GATEWAY w_MESSAGE_START_EVENT w_SUB_PROCESS w_ACTIVITY w_PARALLEL_GATEWAY  h0 n0 _ T1.heap _)
def Q2_6 (Z : State) (w_START_EVENT : Addr) (w_BOUNDARY_EVENT : Addr) (w_MESSAGE_BOUNDARY_EVENT : Addr) (w_TERMINATE_END_EVENT : Addr) (w_LINK_THROW_EVENT : Addr) (w_LINK_CATCH_EVENT : Addr) (w_RECEPTION : Addr) (w_END_EVENT : Addr) (w_EVENT_BASED_GATEWAY : Addr) (w_INCLUSIVE_GATEWAY : Addr) (w_EXCLUSIVE_GATEWAY : Addr) (w_MESSAGE_START_EVENT : Addr) (w_SUB_PROCESS : Addr) (w_ACTIVITY : Addr) (w_PARALLEL_GATEWAY : Addr)  (h0 : Heap) (n0 : Nat) (v : Option Value) (h : Heap) (L : List Loc) : Prop := v = some (.int (0 : Int32)) ∧ Fr n0 L ∧ h = h0
theorem ef2_6 (m : MethodId) (x0 : Addr) : entryFrame m #[(.ref x0)] 1 = mkF m 0 #[.val (.ref x0)] [] := by first | (simp [entryFrame, mkF, argsToLocals, Value.category]; done) | rfl
set_option maxRecDepth 65536 in
set_option maxHeartbeats 40000000 in
theorem rm2_6 (l : Launch) (Z : State) (a0 : Array Value) (hw : ∀ d ∈ tables_1, d.before a0 Z = true) (ws : List Jvm.Cond) {w_START_EVENT : Addr} {w_BOUNDARY_EVENT : Addr} {w_MESSAGE_BOUNDARY_EVENT : Addr} {w_TERMINATE_END_EVENT : Addr} {w_LINK_THROW_EVENT : Addr} {w_LINK_CATCH_EVENT : Addr} {w_RECEPTION : Addr} {w_END_EVENT : Addr} {w_EVENT_BASED_GATEWAY : Addr} {w_INCLUSIVE_GATEWAY : Addr} {w_EXCLUSIVE_GATEWAY : Addr} {w_MESSAGE_START_EVENT : Addr} {w_SUB_PROCESS : Addr} {w_ACTIVITY : Addr} {w_PARALLEL_GATEWAY : Addr} (G : Glob Z w_START_EVENT w_BOUNDARY_EVENT w_MESSAGE_BOUNDARY_EVENT w_TERMINATE_END_EVENT w_LINK_THROW_EVENT w_LINK_CATCH_EVENT w_RECEPTION w_END_EVENT w_EVENT_BASED_GATEWAY w_INCLUSIVE_GATEWAY w_EXCLUSIVE_GATEWAY w_MESSAGE_START_EVENT w_SUB_PROCESS w_ACTIVITY w_PARALLEL_GATEWAY)  (h0 : Heap) (n0 : Nat) (O0 : Old Z n0 h0) :
    MetFree l (⟨"com/example/chorale/chorale/FlowGraph$Kind", "attaches", "()Z"⟩ : MethodName) (head1 (Jvm.Cond.code (⟨"com/example/chorale/chorale/FlowGraph$Kind", "attaches", "()Z"⟩ : MethodName) prog_73_method_5_code 1 (some .boolean) :: ws) ({ frames := 0, cells := 0, slots := 0, locals := 0 } : Room)) (fun a U => a = #[(.ref w_LINK_CATCH_EVENT)] ∧ Z.Warmed39 U.vm ∧ U.heap = h0) (fun _ _ _ _ _ => True) (fun _ U o U' => ∃ v L, o = .returned v ∧ Q2_6 Z w_START_EVENT w_BOUNDARY_EVENT w_MESSAGE_BOUNDARY_EVENT w_TERMINATE_END_EVENT w_LINK_THROW_EVENT w_LINK_CATCH_EVENT w_RECEPTION w_END_EVENT w_EVENT_BASED_GATEWAY w_INCLUSIVE_GATEWAY w_EXCLUSIVE_GATEWAY w_MESSAGE_START_EVENT w_SUB_PROCESS w_ACTIVITY w_PARALLEL_GATEWAY  h0 n0 v U'.heap L ∧ FrameEnd U o U' L ({ frames := 0, cells := 0, slots := 0, locals := 0 } : Room).cells ({ frames := 0, cells := 0, slots := 0, locals := 0 } : Room).slots) := by
  refine MetFree.of_bodySF (plainFor_of_name pn_com_example_chorale_chorale_FlowGraph_Kind) hisR ?_
  intro p e s m args below meth c s₁ Bd hml0 hP hK
  obtain ⟨rfl, hZ, hh⟩ := hP
  have hx := Bd.exec
  have hby := Bd.bytes
  have hml : c.maxLocals = 1 := hml0
  have hown : s.vm.findClass "com/example/chorale/chorale/FlowGraph$Kind" = some m.cls := findClass_of_methodNamed Bd.named
  have hnm := (name_of_methodNamed Bd.named Bd.method).1
  have X0 : Stand p l e ({ frames := 0, cells := 0, slots := 0, locals := 0 } : Room) s m #[(.ref w_LINK_CATCH_EVENT)] below meth c s₁ [] 0 0 := Stand.of_body Bd
  have e0 : s₁.heap = h0 := by rw [← hh, Bd.state]; rfl
  have N0 := Fr.nil n0
  show OGot p.tables e below (s₁.setTop (entryFrame m #[(.ref w_LINK_CATCH_EVENT)] 1)) _
  refine OGot.go (fun t k => castTop (ef2_6 m w_LINK_CATCH_EVENT) k) ?_
  show OGot p.tables e below (s₁.setTop (mkF m 0 #[.val (.ref w_LINK_CATCH_EVENT)] [])) _
  refine OGot.go (fun t k => XS.aloadN X0.here hx rfl (hb hby d2_0) rfl rfl k) ?_
  show OGot p.tables e below (s₁.setTop (mkF m 1 #[.val (.ref w_LINK_CATCH_EVENT)] [(.ref w_LINK_CATCH_EVENT)])) _
  obtain ⟨T2, X2, e2, st2⟩ := getS2 X0 hx hZ hown (host := "") (Or.inl (ow hw 13 rfl)) Via.refl e0 (G.2.2.1.ext O0.2) (g := (mkF m 1 #[.val (.ref w_LINK_CATCH_EVENT)] [(.ref w_LINK_CATCH_EVENT)])) rfl (hb hby d2_1)
  refine OGot.go st2 ?_
  show OGot p.tables e below (T2.setTop (mkF m 4 #[.val (.ref w_LINK_CATCH_EVENT)] [(.ref w_BOUNDARY_EVENT), (.ref w_LINK_CATCH_EVENT)])) _
  have ne3 : w_LINK_CATCH_EVENT ≠ w_BOUNDARY_EVENT := (Fld.ne G.2.2.2.2.2.2.2.2.2.2.2.2.2.2.2.2.2.2.2.2.2.2.2.2.2.2.2.2.2.2.2.2.2.2.2.1 G.2.2.2.2.2.2.2.2.2.2.2.2.2.2.2.2.2.2.2.2.2.2.2.2.2.2.2.2.2.2.2.1 (by decide))
  refine OGot.go (fun t k => Jvm.RoadKit.acmp (g := (mkF m 4 #[.val (.ref w_LINK_CATCH_EVENT)] [(.ref w_BOUNDARY_EVENT), (.ref w_LINK_CATCH_EVENT)])) X2 hx rfl rfl rfl (pc0 := 4) (pc' := 7) (same := false) rfl (hb hby d2_4) rfl (decide_eq_false fun q => ne3 (Value.ref.inj q)) (by decide) (by decide) k) ?_
  show OGot p.tables e below (T2.setTop (mkF m 7 #[.val (.ref w_LINK_CATCH_EVENT)] [])) _
  refine OGot.go (fun t k => XS.aloadN X2.here hx rfl (hb hby d2_7) rfl rfl k) ?_
  show OGot p.tables e below (T2.setTop (mkF m 8 #[.val (.ref w_LINK_CATCH_EVENT)] [(.ref w_LINK_CATCH_EVENT)])) _
  obtain ⟨T4, X4, e4, st4⟩ := getS2 X2 hx hZ hown (host := "") (Or.inl (ow hw 15 rfl)) Via.refl e2 (G.2.2.2.2.1.ext O0.2) (g := (mkF m 8 #[.val (.ref w_LINK_CATCH_EVENT)] [(.ref w_LINK_CATCH_EVENT)])) rfl (hb hby d2_8)
  refine OGot.go st4 ?_
  show OGot p.tables e below (T4.setTop (mkF m 11 #[.val (.ref w_LINK_CATCH_EVENT)] [(.ref w_MESSAGE_BOUNDARY_EVENT), (.ref w_LINK_CATCH_EVENT)])) _
  have ne5 : w_LINK_CATCH_EVENT ≠ w_MESSAGE_BOUNDARY_EVENT := (Fld.ne G.2.2.2.2.2.2.2.2.2.2.2.2.2.2.2.2.2.2.2.2.2.2.2.2.2.2.2.2.2.2.2.2.2.2.2.1 G.2.2.2.2.2.2.2.2.2.2.2.2.2.2.2.2.2.2.2.2.2.2.2.2.2.2.2.2.2.2.2.2.1 (by decide))
  refine OGot.go (fun t k => Jvm.RoadKit.acmp (g := (mkF m 11 #[.val (.ref w_LINK_CATCH_EVENT)] [(.ref w_MESSAGE_BOUNDARY_EVENT), (.ref w_LINK_CATCH_EVENT)])) X4 hx rfl rfl rfl (pc0 := 11) (pc' := 18) (same := false) rfl (hb hby d2_11) rfl (decide_eq_false fun q => ne5 (Value.ref.inj q)) (by decide) (by decide) k) ?_
  show OGot p.tables e below (T4.setTop (mkF m 18 #[.val (.ref w_LINK_CATCH_EVENT)] [])) _
  refine OGot.go (fun t k => XS.iconst X4.here hx rfl (hb hby d2_18) k) ?_
  show OGot p.tables e below (T4.setTop (mkF m 19 #[.val (.ref w_LINK_CATCH_EVENT)] [(.int (0 : Int32))])) _
  obtain ⟨fs, hr, hrun, hended, hW, hsame⟩ := X4.leave (v := some (.int (0 : Int32))) (fun h => by rw [Bd.returns] at h; cases h)
  refine ⟨_, _, retN X4 hx (t := .boolean) Bd.returns (by simp) (hb hby d2_19) hr, hrun, hended, _, _, rfl, ?_, ⟨_, rfl⟩, hW, hsame.mono (by decide) (by decide)⟩
  exact (⟨rfl, N0, e4⟩ : Q2_6 Z w_START_EVENT w_BOUNDARY_EVENT w_MESSAGE_BOUNDARY_EVENT w_TERMINATE_END_EVENT w_LINK_THROW_EVENT w_LINK_CATCH_EVENT w_RECEPTION w_END_EVENT w_EVENT_BASED_GATEWAY w_INCLUSIVE_GATEWAY w_EXCLUSIVE_GATEWAY w_MESSAGE_START_EVENT w_SUB_PROCESS w_ACTIVITY w_PARALLEL_GATEWAY  h0 n0 _ T4.heap _)
def Q3_6 (Z : State) (w_START_EVENT : Addr) (w_BOUNDARY_EVENT : Addr) (w_MESSAGE_BOUNDARY_EVENT : Addr) (w_TERMINATE_END_EVENT : Addr) (w_LINK_THROW_EVENT : Addr) (w_LINK_CATCH_EVENT : Addr) (w_RECEPTION : Addr) (w_END_EVENT : Addr) (w_EVENT_BASED_GATEWAY : Addr) (w_INCLUSIVE_GATEWAY : Addr) (w_EXCLUSIVE_GATEWAY : Addr) (w_MESSAGE_START_EVENT : Addr) (w_SUB_PROCESS : Addr) (w_ACTIVITY : Addr) (w_PARALLEL_GATEWAY : Addr)  (h0 : Heap) (n0 : Nat) (v : Option Value) (h : Heap) (L : List Loc) : Prop := v = some (.int (0 : Int32)) ∧ Fr n0 L ∧ h = h0
theorem ef3_6 (m : MethodId)  : entryFrame m #[(.int (6 : Int32))] 2 = mkF m 0 #[.val (.int (6 : Int32)), .unset] [] := by first | (simp [entryFrame, mkF, argsToLocals, Value.category]; done) | rfl
set_option maxRecDepth 65536 in
set_option maxHeartbeats 40000000 in
theorem rm3_6 (l : Launch) (Z : State) (a0 : Array Value) (hw : ∀ d ∈ tables_1, d.before a0 Z = true) (ws : List Jvm.Cond) {w_START_EVENT : Addr} {w_BOUNDARY_EVENT : Addr} {w_MESSAGE_BOUNDARY_EVENT : Addr} {w_TERMINATE_END_EVENT : Addr} {w_LINK_THROW_EVENT : Addr} {w_LINK_CATCH_EVENT : Addr} {w_RECEPTION : Addr} {w_END_EVENT : Addr} {w_EVENT_BASED_GATEWAY : Addr} {w_INCLUSIVE_GATEWAY : Addr} {w_EXCLUSIVE_GATEWAY : Addr} {w_MESSAGE_START_EVENT : Addr} {w_SUB_PROCESS : Addr} {w_ACTIVITY : Addr} {w_PARALLEL_GATEWAY : Addr} (G : Glob Z w_START_EVENT w_BOUNDARY_EVENT w_MESSAGE_BOUNDARY_EVENT w_TERMINATE_END_EVENT w_LINK_THROW_EVENT w_LINK_CATCH_EVENT w_RECEPTION w_END_EVENT w_EVENT_BASED_GATEWAY w_INCLUSIVE_GATEWAY w_EXCLUSIVE_GATEWAY w_MESSAGE_START_EVENT w_SUB_PROCESS w_ACTIVITY w_PARALLEL_GATEWAY)  (h0 : Heap) (n0 : Nat) (O0 : Old Z n0 h0) :
    MetFree l (⟨"com/example/chorale/chorale/KindAttachesPinLaw", "isBoundaryIndex", "(I)Z"⟩ : MethodName) (head1 (Jvm.Cond.code (⟨"com/example/chorale/chorale/KindAttachesPinLaw", "isBoundaryIndex", "(I)Z"⟩ : MethodName) method_3_code 2 (some .boolean) :: ws) ({ frames := 0, cells := 0, slots := 0, locals := 0 } : Room)) (fun a U => a = #[(.int (6 : Int32))] ∧ Z.Warmed39 U.vm ∧ U.heap = h0) (fun _ _ _ _ _ => True) (fun _ U o U' => ∃ v L, o = .returned v ∧ Q3_6 Z w_START_EVENT w_BOUNDARY_EVENT w_MESSAGE_BOUNDARY_EVENT w_TERMINATE_END_EVENT w_LINK_THROW_EVENT w_LINK_CATCH_EVENT w_RECEPTION w_END_EVENT w_EVENT_BASED_GATEWAY w_INCLUSIVE_GATEWAY w_EXCLUSIVE_GATEWAY w_MESSAGE_START_EVENT w_SUB_PROCESS w_ACTIVITY w_PARALLEL_GATEWAY  h0 n0 v U'.heap L ∧ FrameEnd U o U' L ({ frames := 0, cells := 0, slots := 0, locals := 0 } : Room).cells ({ frames := 0, cells := 0, slots := 0, locals := 0 } : Room).slots) := by
  refine MetFree.of_bodySF (plainFor_of_name pn_com_example_chorale_chorale_KindAttachesPinLaw) hisR ?_
  intro p e s m args below meth c s₁ Bd hml0 hP hK
  obtain ⟨rfl, hZ, hh⟩ := hP
  have hx := Bd.exec
  have hby := Bd.bytes
  have hml : c.maxLocals = 2 := hml0
  have hown : s.vm.findClass "com/example/chorale/chorale/KindAttachesPinLaw" = some m.cls := findClass_of_methodNamed Bd.named
  have hnm := (name_of_methodNamed Bd.named Bd.method).1
  have X0 : Stand p l e ({ frames := 0, cells := 0, slots := 0, locals := 0 } : Room) s m #[(.int (6 : Int32))] below meth c s₁ [] 0 0 := Stand.of_body Bd
  have e0 : s₁.heap = h0 := by rw [← hh, Bd.state]; rfl
  have N0 := Fr.nil n0
  show OGot p.tables e below (s₁.setTop (entryFrame m #[(.int (6 : Int32))] 2)) _
  refine OGot.go (fun t k => castTop (ef3_6 m ) k) ?_
  show OGot p.tables e below (s₁.setTop (mkF m 0 #[.val (.int (6 : Int32)), .unset] [])) _
  refine OGot.go (fun t k => XS.iconst X0.here hx rfl (hb hby d3_0) k) ?_
  show OGot p.tables e below (s₁.setTop (mkF m 1 #[.val (.int (6 : Int32)), .unset] [(.int (0 : Int32))])) _
  refine OGot.go (fun t k => XS.istoreN X0.here hx rfl (hb hby d3_1) rfl (l' := #[.val (.int (6 : Int32)), .val (.int (0 : Int32))]) rfl k) ?_
  show OGot p.tables e below (s₁.setTop (mkF m 2 #[.val (.int (6 : Int32)), .val (.int (0 : Int32))] [])) _
  refine OGot.go (fun t k => XS.iloadN X0.here hx rfl (hb hby d3_2) rfl k) ?_
  show OGot p.tables e below (s₁.setTop (mkF m 3 #[.val (.int (6 : Int32)), .val (.int (0 : Int32))] [(.int (6 : Int32))])) _
  refine OGot.go (fun t k => XS.bipush X0.here hx rfl (hb hby d3_3) k) ?_
  show OGot p.tables e below (s₁.setTop (mkF m 5 #[.val (.int (6 : Int32)), .val (.int (0 : Int32))] [(.int (13 : Int32)), (.int (6 : Int32))])) _
  refine OGot.go (fun t k => XS.icmpYes X0.here hx rfl (pc0 := 5) (pc' := 10) rfl (hb hby d3_5) rfl (by decide) (by decide) (by decide) k) ?_
  show OGot p.tables e below (s₁.setTop (mkF m 10 #[.val (.int (6 : Int32)), .val (.int (0 : Int32))] [])) _
  refine OGot.go (fun t k => XS.iloadN X0.here hx rfl (hb hby d3_10) rfl k) ?_
  show OGot p.tables e below (s₁.setTop (mkF m 11 #[.val (.int (6 : Int32)), .val (.int (0 : Int32))] [(.int (6 : Int32))])) _
  refine OGot.go (fun t k => XS.bipush X0.here hx rfl (hb hby d3_11) k) ?_
  show OGot p.tables e below (s₁.setTop (mkF m 13 #[.val (.int (6 : Int32)), .val (.int (0 : Int32))] [(.int (14 : Int32)), (.int (6 : Int32))])) _
  refine OGot.go (fun t k => XS.icmpYes X0.here hx rfl (pc0 := 13) (pc' := 18) rfl (hb hby d3_13) rfl (by decide) (by decide) (by decide) k) ?_
  show OGot p.tables e below (s₁.setTop (mkF m 18 #[.val (.int (6 : Int32)), .val (.int (0 : Int32))] [])) _
  refine OGot.go (fun t k => XS.iloadN X0.here hx rfl (hb hby d3_18) rfl k) ?_
  show OGot p.tables e below (s₁.setTop (mkF m 19 #[.val (.int (6 : Int32)), .val (.int (0 : Int32))] [(.int (0 : Int32))])) _
  obtain ⟨fs, hr, hrun, hended, hW, hsame⟩ := X0.leave (v := some (.int (0 : Int32))) (fun h => by rw [Bd.returns] at h; cases h)
  refine ⟨_, _, retN X0 hx (t := .boolean) Bd.returns (by simp) (hb hby d3_19) hr, hrun, hended, _, _, rfl, ?_, ⟨_, rfl⟩, hW, hsame.mono (by decide) (by decide)⟩
  exact (⟨rfl, N0, e0⟩ : Q3_6 Z w_START_EVENT w_BOUNDARY_EVENT w_MESSAGE_BOUNDARY_EVENT w_TERMINATE_END_EVENT w_LINK_THROW_EVENT w_LINK_CATCH_EVENT w_RECEPTION w_END_EVENT w_EVENT_BASED_GATEWAY w_INCLUSIVE_GATEWAY w_EXCLUSIVE_GATEWAY w_MESSAGE_START_EVENT w_SUB_PROCESS w_ACTIVITY w_PARALLEL_GATEWAY  h0 n0 _ s₁.heap _)
theorem d1_63 : decode method_2_code 63 = .ok (.iload_n 0, 1) := by decide +kernel
theorem d1_64 : decode method_2_code 64 = .ok (.bipush 7, 2) := by decide +kernel
theorem d1_66 : decode method_2_code 66 = .ok (.if_icmp .ne 7, 3) := by decide +kernel
theorem d1_69 : decode method_2_code 69 = .ok (.getstatic 31, 3) := by decide +kernel
theorem d1_72 : decode method_2_code 72 = .ok (.areturn, 1) := by decide +kernel
def Q1_7 (Z : State) (w_START_EVENT : Addr) (w_BOUNDARY_EVENT : Addr) (w_MESSAGE_BOUNDARY_EVENT : Addr) (w_TERMINATE_END_EVENT : Addr) (w_LINK_THROW_EVENT : Addr) (w_LINK_CATCH_EVENT : Addr) (w_RECEPTION : Addr) (w_END_EVENT : Addr) (w_EVENT_BASED_GATEWAY : Addr) (w_INCLUSIVE_GATEWAY : Addr) (w_EXCLUSIVE_GATEWAY : Addr) (w_MESSAGE_START_EVENT : Addr) (w_SUB_PROCESS : Addr) (w_ACTIVITY : Addr) (w_PARALLEL_GATEWAY : Addr)  (h0 : Heap) (n0 : Nat) (v : Option Value) (h : Heap) (L : List Loc) : Prop := v = some (.ref w_RECEPTION) ∧ Fr n0 L ∧ h = h0
theorem ef1_7 (m : MethodId)  : entryFrame m #[(.int (7 : Int32))] 1 = mkF m 0 #[.val (.int (7 : Int32))] [] := by first | (simp [entryFrame, mkF, argsToLocals, Value.category]; done) | rfl
set_option maxRecDepth 65536 in
set_option maxHeartbeats 40000000 in
theorem rm1_7 (l : Launch) (Z : State) (a0 : Array Value) (hw : ∀ d ∈ tables_1, d.before a0 Z = true) (ws : List Jvm.Cond) {w_START_EVENT : Addr} {w_BOUNDARY_EVENT : Addr} {w_MESSAGE_BOUNDARY_EVENT : Addr} {w_TERMINATE_END_EVENT : Addr} {w_LINK_THROW_EVENT : Addr} {w_LINK_CATCH_EVENT : Addr} {w_RECEPTION : Addr} {w_END_EVENT : Addr} {w_EVENT_BASED_GATEWAY : Addr} {w_INCLUSIVE_GATEWAY : Addr} {w_EXCLUSIVE_GATEWAY : Addr} {w_MESSAGE_START_EVENT : Addr} {w_SUB_PROCESS : Addr} {w_ACTIVITY : Addr} {w_PARALLEL_GATEWAY : Addr} (G : Glob Z w_START_EVENT w_BOUNDARY_EVENT w_MESSAGE_BOUNDARY_EVENT w_TERMINATE_END_EVENT w_LINK_THROW_EVENT w_LINK_CATCH_EVENT w_RECEPTION w_END_EVENT w_EVENT_BASED_GATEWAY w_INCLUSIVE_GATEWAY w_EXCLUSIVE_GATEWAY w_MESSAGE_START_EVENT w_SUB_PROCESS w_ACTIVITY w_PARALLEL_GATEWAY)  (h0 : Heap) (n0 : Nat) (O0 : Old Z n0 h0) :
    MetFree l (⟨"com/example/chorale/chorale/KindAttachesPinLaw", "kindAt", "(I)Lcom/example/chorale/chorale/FlowGraph$Kind;"⟩ : MethodName) (head1 (Jvm.Cond.code (⟨"com/example/chorale/chorale/KindAttachesPinLaw", "kindAt", "(I)Lcom/example/chorale/chorale/FlowGraph$Kind;"⟩ : MethodName) method_2_code 1 (some (.object "com/example/chorale/chorale/FlowGraph$Kind")) :: ws) ({ frames := 0, cells := 0, slots := 0, locals := 0 } : Room)) (fun a U => a = #[(.int (7 : Int32))] ∧ Z.Warmed39 U.vm ∧ U.heap = h0) (fun _ _ _ _ _ => True) (fun _ U o U' => ∃ v L, o = .returned v ∧ Q1_7 Z w_START_EVENT w_BOUNDARY_EVENT w_MESSAGE_BOUNDARY_EVENT w_TERMINATE_END_EVENT w_LINK_THROW_EVENT w_LINK_CATCH_EVENT w_RECEPTION w_END_EVENT w_EVENT_BASED_GATEWAY w_INCLUSIVE_GATEWAY w_EXCLUSIVE_GATEWAY w_MESSAGE_START_EVENT w_SUB_PROCESS w_ACTIVITY w_PARALLEL_GATEWAY  h0 n0 v U'.heap L ∧ FrameEnd U o U' L ({ frames := 0, cells := 0, slots := 0, locals := 0 } : Room).cells ({ frames := 0, cells := 0, slots := 0, locals := 0 } : Room).slots) := by
  refine MetFree.of_bodySF (plainFor_of_name pn_com_example_chorale_chorale_KindAttachesPinLaw) hisR ?_
  intro p e s m args below meth c s₁ Bd hml0 hP hK
  obtain ⟨rfl, hZ, hh⟩ := hP
  have hx := Bd.exec
  have hby := Bd.bytes
  have hml : c.maxLocals = 1 := hml0
  have hown : s.vm.findClass "com/example/chorale/chorale/KindAttachesPinLaw" = some m.cls := findClass_of_methodNamed Bd.named
  have hnm := (name_of_methodNamed Bd.named Bd.method).1
  have X0 : Stand p l e ({ frames := 0, cells := 0, slots := 0, locals := 0 } : Room) s m #[(.int (7 : Int32))] below meth c s₁ [] 0 0 := Stand.of_body Bd
  have e0 : s₁.heap = h0 := by rw [← hh, Bd.state]; rfl
  have N0 := Fr.nil n0
  show OGot p.tables e below (s₁.setTop (entryFrame m #[(.int (7 : Int32))] 1)) _
  refine OGot.go (fun t k => castTop (ef1_7 m ) k) ?_
  show OGot p.tables e below (s₁.setTop (mkF m 0 #[.val (.int (7 : Int32))] [])) _
  refine OGot.go (fun t k => XS.iloadN X0.here hx rfl (hb hby d1_0) rfl k) ?_
  show OGot p.tables e below (s₁.setTop (mkF m 1 #[.val (.int (7 : Int32))] [(.int (7 : Int32))])) _
  refine OGot.go (fun t k => XS.ifYes X0.here hx rfl (pc0 := 1) (pc' := 8) rfl (hb hby d1_1) rfl (by decide) (by decide) (by decide) k) ?_
  show OGot p.tables e below (s₁.setTop (mkF m 8 #[.val (.int (7 : Int32))] [])) _
  refine OGot.go (fun t k => XS.iloadN X0.here hx rfl (hb hby d1_8) rfl k) ?_
  show OGot p.tables e below (s₁.setTop (mkF m 9 #[.val (.int (7 : Int32))] [(.int (7 : Int32))])) _
  refine OGot.go (fun t k => XS.iconst X0.here hx rfl (hb hby d1_9) k) ?_
  show OGot p.tables e below (s₁.setTop (mkF m 10 #[.val (.int (7 : Int32))] [(.int (1 : Int32)), (.int (7 : Int32))])) _
  refine OGot.go (fun t k => XS.icmpYes X0.here hx rfl (pc0 := 10) (pc' := 17) rfl (hb hby d1_10) rfl (by decide) (by decide) (by decide) k) ?_
  show OGot p.tables e below (s₁.setTop (mkF m 17 #[.val (.int (7 : Int32))] [])) _
  refine OGot.go (fun t k => XS.iloadN X0.here hx rfl (hb hby d1_17) rfl k) ?_
  show OGot p.tables e below (s₁.setTop (mkF m 18 #[.val (.int (7 : Int32))] [(.int (7 : Int32))])) _
  refine OGot.go (fun t k => XS.iconst X0.here hx rfl (hb hby d1_18) k) ?_
  show OGot p.tables e below (s₁.setTop (mkF m 19 #[.val (.int (7 : Int32))] [(.int (2 : Int32)), (.int (7 : Int32))])) _
  refine OGot.go (fun t k => XS.icmpYes X0.here hx rfl (pc0 := 19) (pc' := 26) rfl (hb hby d1_19) rfl (by decide) (by decide) (by decide) k) ?_
  show OGot p.tables e below (s₁.setTop (mkF m 26 #[.val (.int (7 : Int32))] [])) _
  refine OGot.go (fun t k => XS.iloadN X0.here hx rfl (hb hby d1_26) rfl k) ?_
  show OGot p.tables e below (s₁.setTop (mkF m 27 #[.val (.int (7 : Int32))] [(.int (7 : Int32))])) _
  refine OGot.go (fun t k => XS.iconst X0.here hx rfl (hb hby d1_27) k) ?_
  show OGot p.tables e below (s₁.setTop (mkF m 28 #[.val (.int (7 : Int32))] [(.int (3 : Int32)), (.int (7 : Int32))])) _
  refine OGot.go (fun t k => XS.icmpYes X0.here hx rfl (pc0 := 28) (pc' := 35) rfl (hb hby d1_28) rfl (by decide) (by decide) (by decide) k) ?_
  show OGot p.tables e below (s₁.setTop (mkF m 35 #[.val (.int (7 : Int32))] [])) _
  refine OGot.go (fun t k => XS.iloadN X0.here hx rfl (hb hby d1_35) rfl k) ?_
  show OGot p.tables e below (s₁.setTop (mkF m 36 #[.val (.int (7 : Int32))] [(.int (7 : Int32))])) _
  refine OGot.go (fun t k => XS.iconst X0.here hx rfl (hb hby d1_36) k) ?_
  show OGot p.tables e below (s₁.setTop (mkF m 37 #[.val (.int (7 : Int32))] [(.int (4 : Int32)), (.int (7 : Int32))])) _
  refine OGot.go (fun t k => XS.icmpYes X0.here hx rfl (pc0 := 37) (pc' := 44) rfl (hb hby d1_37) rfl (by decide) (by decide) (by decide) k) ?_
  show OGot p.tables e below (s₁.setTop (mkF m 44 #[.val (.int (7 : Int32))] [])) _
  refine OGot.go (fun t k => XS.iloadN X0.here hx rfl (hb hby d1_44) rfl k) ?_
  show OGot p.tables e below (s₁.setTop (mkF m 45 #[.val (.int (7 : Int32))] [(.int (7 : Int32))])) _
  refine OGot.go (fun t k => XS.iconst X0.here hx rfl (hb hby d1_45) k) ?_
  show OGot p.tables e below (s₁.setTop (mkF m 46 #[.val (.int (7 : Int32))] [(.int (5 : Int32)), (.int (7 : Int32))])) _
  refine OGot.go (fun t k => XS.icmpYes X0.here hx rfl (pc0 := 46) (pc' := 53) rfl (hb hby d1_46) rfl (by decide) (by decide) (by decide) k) ?_
  show OGot p.tables e below (s₁.setTop (mkF m 53 #[.val (.int (7 : Int32))] [])) _
  refine OGot.go (fun t k => XS.iloadN X0.here hx rfl (hb hby d1_53) rfl k) ?_
  show OGot p.tables e below (s₁.setTop (mkF m 54 #[.val (.int (7 : Int32))] [(.int (7 : Int32))])) _
  refine OGot.go (fun t k => XS.bipush X0.here hx rfl (hb hby d1_54) k) ?_
  show OGot p.tables e below (s₁.setTop (mkF m 56 #[.val (.int (7 : Int32))] [(.int (6 : Int32)), (.int (7 : Int32))])) _
  refine OGot.go (fun t k => XS.icmpYes X0.here hx rfl (pc0 := 56) (pc' := 63) rfl (hb hby d1_56) rfl (by decide) (by decide) (by decide) k) ?_
  show OGot p.tables e below (s₁.setTop (mkF m 63 #[.val (.int (7 : Int32))] [])) _
  refine OGot.go (fun t k => XS.iloadN X0.here hx rfl (hb hby d1_63) rfl k) ?_
  show OGot p.tables e below (s₁.setTop (mkF m 64 #[.val (.int (7 : Int32))] [(.int (7 : Int32))])) _
  refine OGot.go (fun t k => XS.bipush X0.here hx rfl (hb hby d1_64) k) ?_
  show OGot p.tables e below (s₁.setTop (mkF m 66 #[.val (.int (7 : Int32))] [(.int (7 : Int32)), (.int (7 : Int32))])) _
  refine OGot.go (fun t k => XS.icmpNo X0.here hx rfl (hb hby d1_66) rfl (by decide) k) ?_
  show OGot p.tables e below (s₁.setTop (mkF m 69 #[.val (.int (7 : Int32))] [])) _
  obtain ⟨T1, X1, e1, st1⟩ := getS2 X0 hx hZ hown (host := "") (Or.inl (ow hw 34 rfl)) Via.refl e0 (G.2.2.2.2.2.2.2.2.2.2.2.2.1.ext O0.2) (g := (mkF m 69 #[.val (.int (7 : Int32))] [])) rfl (hb hby d1_69)
  refine OGot.go st1 ?_
  show OGot p.tables e below (T1.setTop (mkF m 72 #[.val (.int (7 : Int32))] [(.ref w_RECEPTION)])) _
  obtain ⟨fs, hr, hrun, hended, hW, hsame⟩ := X1.leave (v := some (.ref w_RECEPTION)) (fun h => by rw [Bd.returns] at h; cases h)
  refine ⟨_, _, oretA X1 hx Bd.returns rfl rfl (hb hby d1_72) hr, hrun, hended, _, _, rfl, ?_, ⟨_, rfl⟩, hW, hsame.mono (by decide) (by decide)⟩
  exact (⟨rfl, N0, e1⟩ : Q1_7 Z w_START_EVENT w_BOUNDARY_EVENT w_MESSAGE_BOUNDARY_EVENT w_TERMINATE_END_EVENT w_LINK_THROW_EVENT w_LINK_CATCH_EVENT w_RECEPTION w_END_EVENT w_EVENT_BASED_GATEWAY w_INCLUSIVE_GATEWAY w_EXCLUSIVE_GATEWAY w_MESSAGE_START_EVENT w_SUB_PROCESS w_ACTIVITY w_PARALLEL_GATEWAY  h0 n0 _ T1.heap _)
def Q2_7 (Z : State) (w_START_EVENT : Addr) (w_BOUNDARY_EVENT : Addr) (w_MESSAGE_BOUNDARY_EVENT : Addr) (w_TERMINATE_END_EVENT : Addr) (w_LINK_THROW_EVENT : Addr) (w_LINK_CATCH_EVENT : Addr) (w_RECEPTION : Addr) (w_END_EVENT : Addr) (w_EVENT_BASED_GATEWAY : Addr) (w_INCLUSIVE_GATEWAY : Addr) (w_EXCLUSIVE_GATEWAY : Addr) (w_MESSAGE_START_EVENT : Addr) (w_SUB_PROCESS : Addr) (w_ACTIVITY : Addr) (w_PARALLEL_GATEWAY : Addr)  (h0 : Heap) (n0 : Nat) (v : Option Value) (h : Heap) (L : List Loc) : Prop := v = some (.int (0 : Int32)) ∧ Fr n0 L ∧ h = h0
theorem ef2_7 (m : MethodId) (x0 : Addr) : entryFrame m #[(.ref x0)] 1 = mkF m 0 #[.val (.ref x0)] [] := by first | (simp [entryFrame, mkF, argsToLocals, Value.category]; done) | rfl
set_option maxRecDepth 65536 in
set_option maxHeartbeats 40000000 in
theorem rm2_7 (l : Launch) (Z : State) (a0 : Array Value) (hw : ∀ d ∈ tables_1, d.before a0 Z = true) (ws : List Jvm.Cond) {w_START_EVENT : Addr} {w_BOUNDARY_EVENT : Addr} {w_MESSAGE_BOUNDARY_EVENT : Addr} {w_TERMINATE_END_EVENT : Addr} {w_LINK_THROW_EVENT : Addr} {w_LINK_CATCH_EVENT : Addr} {w_RECEPTION : Addr} {w_END_EVENT : Addr} {w_EVENT_BASED_GATEWAY : Addr} {w_INCLUSIVE_GATEWAY : Addr} {w_EXCLUSIVE_GATEWAY : Addr} {w_MESSAGE_START_EVENT : Addr} {w_SUB_PROCESS : Addr} {w_ACTIVITY : Addr} {w_PARALLEL_GATEWAY : Addr} (G : Glob Z w_START_EVENT w_BOUNDARY_EVENT w_MESSAGE_BOUNDARY_EVENT w_TERMINATE_END_EVENT w_LINK_THROW_EVENT w_LINK_CATCH_EVENT w_RECEPTION w_END_EVENT w_EVENT_BASED_GATEWAY w_INCLUSIVE_GATEWAY w_EXCLUSIVE_GATEWAY w_MESSAGE_START_EVENT w_SUB_PROCESS w_ACTIVITY w_PARALLEL_GATEWAY)  (h0 : Heap) (n0 : Nat) (O0 : Old Z n0 h0) :
    MetFree l (⟨"com/example/chorale/chorale/FlowGraph$Kind", "attaches", "()Z"⟩ : MethodName) (head1 (Jvm.Cond.code (⟨"com/example/chorale/chorale/FlowGraph$Kind", "attaches", "()Z"⟩ : MethodName) prog_73_method_5_code 1 (some .boolean) :: ws) ({ frames := 0, cells := 0, slots := 0, locals := 0 } : Room)) (fun a U => a = #[(.ref w_RECEPTION)] ∧ Z.Warmed39 U.vm ∧ U.heap = h0) (fun _ _ _ _ _ => True) (fun _ U o U' => ∃ v L, o = .returned v ∧ Q2_7 Z w_START_EVENT w_BOUNDARY_EVENT w_MESSAGE_BOUNDARY_EVENT w_TERMINATE_END_EVENT w_LINK_THROW_EVENT w_LINK_CATCH_EVENT w_RECEPTION w_END_EVENT w_EVENT_BASED_GATEWAY w_INCLUSIVE_GATEWAY w_EXCLUSIVE_GATEWAY w_MESSAGE_START_EVENT w_SUB_PROCESS w_ACTIVITY w_PARALLEL_GATEWAY  h0 n0 v U'.heap L ∧ FrameEnd U o U' L ({ frames := 0, cells := 0, slots := 0, locals := 0 } : Room).cells ({ frames := 0, cells := 0, slots := 0, locals := 0 } : Room).slots) := by
  refine MetFree.of_bodySF (plainFor_of_name pn_com_example_chorale_chorale_FlowGraph_Kind) hisR ?_
  intro p e s m args below meth c s₁ Bd hml0 hP hK
  obtain ⟨rfl, hZ, hh⟩ := hP
  have hx := Bd.exec
  have hby := Bd.bytes
  have hml : c.maxLocals = 1 := hml0
  have hown : s.vm.findClass "com/example/chorale/chorale/FlowGraph$Kind" = some m.cls := findClass_of_methodNamed Bd.named
  have hnm := (name_of_methodNamed Bd.named Bd.method).1
  have X0 : Stand p l e ({ frames := 0, cells := 0, slots := 0, locals := 0 } : Room) s m #[(.ref w_RECEPTION)] below meth c s₁ [] 0 0 := Stand.of_body Bd
  have e0 : s₁.heap = h0 := by rw [← hh, Bd.state]; rfl
  have N0 := Fr.nil n0
  show OGot p.tables e below (s₁.setTop (entryFrame m #[(.ref w_RECEPTION)] 1)) _
  refine OGot.go (fun t k => castTop (ef2_7 m w_RECEPTION) k) ?_
  show OGot p.tables e below (s₁.setTop (mkF m 0 #[.val (.ref w_RECEPTION)] [])) _
  refine OGot.go (fun t k => XS.aloadN X0.here hx rfl (hb hby d2_0) rfl rfl k) ?_
  show OGot p.tables e below (s₁.setTop (mkF m 1 #[.val (.ref w_RECEPTION)] [(.ref w_RECEPTION)])) _
  obtain ⟨T2, X2, e2, st2⟩ := getS2 X0 hx hZ hown (host := "") (Or.inl (ow hw 13 rfl)) Via.refl e0 (G.2.2.1.ext O0.2) (g := (mkF m 1 #[.val (.ref w_RECEPTION)] [(.ref w_RECEPTION)])) rfl (hb hby d2_1)
  refine OGot.go st2 ?_
  show OGot p.tables e below (T2.setTop (mkF m 4 #[.val (.ref w_RECEPTION)] [(.ref w_BOUNDARY_EVENT), (.ref w_RECEPTION)])) _
  have ne3 : w_RECEPTION ≠ w_BOUNDARY_EVENT := (Fld.ne G.2.2.2.2.2.2.2.2.2.2.2.2.2.2.2.2.2.2.2.2.2.2.2.2.2.2.2.2.2.2.2.2.2.2.2.2.1 G.2.2.2.2.2.2.2.2.2.2.2.2.2.2.2.2.2.2.2.2.2.2.2.2.2.2.2.2.2.2.2.1 (by decide))
  refine OGot.go (fun t k => Jvm.RoadKit.acmp (g := (mkF m 4 #[.val (.ref w_RECEPTION)] [(.ref w_BOUNDARY_EVENT), (.ref w_RECEPTION)])) X2 hx rfl rfl rfl (pc0 := 4) (pc' := 7) (same := false) rfl (hb hby d2_4) rfl (decide_eq_false fun q => ne3 (Value.ref.inj q)) (by decide) (by decide) k) ?_
  show OGot p.tables e below (T2.setTop (mkF m 7 #[.val (.ref w_RECEPTION)] [])) _
  refine OGot.go (fun t k => XS.aloadN X2.here hx rfl (hb hby d2_7) rfl rfl k) ?_
  show OGot p.tables e below (T2.setTop (mkF m 8 #[.val (.ref w_RECEPTION)] [(.ref w_RECEPTION)])) _
  obtain ⟨T4, X4, e4, st4⟩ := getS2 X2 hx hZ hown (host := "") (Or.inl (ow hw 15 rfl)) Via.refl e2 (G.2.2.2.2.1.ext O0.2) (g := (mkF m 8 #[.val (.ref w_RECEPTION)] [(.ref w_RECEPTION)])) rfl (hb hby d2_8)
  refine OGot.go st4 ?_
  show OGot p.tables e below (T4.setTop (mkF m 11 #[.val (.ref w_RECEPTION)] [(.ref w_MESSAGE_BOUNDARY_EVENT), (.ref w_RECEPTION)])) _
  have ne5 : w_RECEPTION ≠ w_MESSAGE_BOUNDARY_EVENT := (Fld.ne G.2.2.2.2.2.2.2.2.2.2.2.2.2.2.2.2.2.2.2.2.2.2.2.2.2.2.2.2.2.2.2.2.2.2.2.2.1 G.2.2.2.2.2.2.2.2.2.2.2.2.2.2.2.2.2.2.2.2.2.2.2.2.2.2.2.2.2.2.2.2.1 (by decide))
  refine OGot.go (fun t k => Jvm.RoadKit.acmp (g := (mkF m 11 #[.val (.ref w_RECEPTION)] [(.ref w_MESSAGE_BOUNDARY_EVENT), (.ref w_RECEPTION)])) X4 hx rfl rfl rfl (pc0 := 11) (pc' := 18) (same := false) rfl (hb hby d2_11) rfl (decide_eq_false fun q => ne5 (Value.ref.inj q)) (by decide) (by decide) k) ?_
  show OGot p.tables e below (T4.setTop (mkF m 18 #[.val (.ref w_RECEPTION)] [])) _
  refine OGot.go (fun t k => XS.iconst X4.here hx rfl (hb hby d2_18) k) ?_
  show OGot p.tables e below (T4.setTop (mkF m 19 #[.val (.ref w_RECEPTION)] [(.int (0 : Int32))])) _
  obtain ⟨fs, hr, hrun, hended, hW, hsame⟩ := X4.leave (v := some (.int (0 : Int32))) (fun h => by rw [Bd.returns] at h; cases h)
  refine ⟨_, _, retN X4 hx (t := .boolean) Bd.returns (by simp) (hb hby d2_19) hr, hrun, hended, _, _, rfl, ?_, ⟨_, rfl⟩, hW, hsame.mono (by decide) (by decide)⟩
  exact (⟨rfl, N0, e4⟩ : Q2_7 Z w_START_EVENT w_BOUNDARY_EVENT w_MESSAGE_BOUNDARY_EVENT w_TERMINATE_END_EVENT w_LINK_THROW_EVENT w_LINK_CATCH_EVENT w_RECEPTION w_END_EVENT w_EVENT_BASED_GATEWAY w_INCLUSIVE_GATEWAY w_EXCLUSIVE_GATEWAY w_MESSAGE_START_EVENT w_SUB_PROCESS w_ACTIVITY w_PARALLEL_GATEWAY  h0 n0 _ T4.heap _)
def Q3_7 (Z : State) (w_START_EVENT : Addr) (w_BOUNDARY_EVENT : Addr) (w_MESSAGE_BOUNDARY_EVENT : Addr) (w_TERMINATE_END_EVENT : Addr) (w_LINK_THROW_EVENT : Addr) (w_LINK_CATCH_EVENT : Addr) (w_RECEPTION : Addr) (w_END_EVENT : Addr) (w_EVENT_BASED_GATEWAY : Addr) (w_INCLUSIVE_GATEWAY : Addr) (w_EXCLUSIVE_GATEWAY : Addr) (w_MESSAGE_START_EVENT : Addr) (w_SUB_PROCESS : Addr) (w_ACTIVITY : Addr) (w_PARALLEL_GATEWAY : Addr)  (h0 : Heap) (n0 : Nat) (v : Option Value) (h : Heap) (L : List Loc) : Prop := v = some (.int (0 : Int32)) ∧ Fr n0 L ∧ h = h0
theorem ef3_7 (m : MethodId)  : entryFrame m #[(.int (7 : Int32))] 2 = mkF m 0 #[.val (.int (7 : Int32)), .unset] [] := by first | (simp [entryFrame, mkF, argsToLocals, Value.category]; done) | rfl
set_option maxRecDepth 65536 in
set_option maxHeartbeats 40000000 in
theorem rm3_7 (l : Launch) (Z : State) (a0 : Array Value) (hw : ∀ d ∈ tables_1, d.before a0 Z = true) (ws : List Jvm.Cond) {w_START_EVENT : Addr} {w_BOUNDARY_EVENT : Addr} {w_MESSAGE_BOUNDARY_EVENT : Addr} {w_TERMINATE_END_EVENT : Addr} {w_LINK_THROW_EVENT : Addr} {w_LINK_CATCH_EVENT : Addr} {w_RECEPTION : Addr} {w_END_EVENT : Addr} {w_EVENT_BASED_GATEWAY : Addr} {w_INCLUSIVE_GATEWAY : Addr} {w_EXCLUSIVE_GATEWAY : Addr} {w_MESSAGE_START_EVENT : Addr} {w_SUB_PROCESS : Addr} {w_ACTIVITY : Addr} {w_PARALLEL_GATEWAY : Addr} (G : Glob Z w_START_EVENT w_BOUNDARY_EVENT w_MESSAGE_BOUNDARY_EVENT w_TERMINATE_END_EVENT w_LINK_THROW_EVENT w_LINK_CATCH_EVENT w_RECEPTION w_END_EVENT w_EVENT_BASED_GATEWAY w_INCLUSIVE_GATEWAY w_EXCLUSIVE_GATEWAY w_MESSAGE_START_EVENT w_SUB_PROCESS w_ACTIVITY w_PARALLEL_GATEWAY)  (h0 : Heap) (n0 : Nat) (O0 : Old Z n0 h0) :
    MetFree l (⟨"com/example/chorale/chorale/KindAttachesPinLaw", "isBoundaryIndex", "(I)Z"⟩ : MethodName) (head1 (Jvm.Cond.code (⟨"com/example/chorale/chorale/KindAttachesPinLaw", "isBoundaryIndex", "(I)Z"⟩ : MethodName) method_3_code 2 (some .boolean) :: ws) ({ frames := 0, cells := 0, slots := 0, locals := 0 } : Room)) (fun a U => a = #[(.int (7 : Int32))] ∧ Z.Warmed39 U.vm ∧ U.heap = h0) (fun _ _ _ _ _ => True) (fun _ U o U' => ∃ v L, o = .returned v ∧ Q3_7 Z w_START_EVENT w_BOUNDARY_EVENT w_MESSAGE_BOUNDARY_EVENT w_TERMINATE_END_EVENT w_LINK_THROW_EVENT w_LINK_CATCH_EVENT w_RECEPTION w_END_EVENT w_EVENT_BASED_GATEWAY w_INCLUSIVE_GATEWAY w_EXCLUSIVE_GATEWAY w_MESSAGE_START_EVENT w_SUB_PROCESS w_ACTIVITY w_PARALLEL_GATEWAY  h0 n0 v U'.heap L ∧ FrameEnd U o U' L ({ frames := 0, cells := 0, slots := 0, locals := 0 } : Room).cells ({ frames := 0, cells := 0, slots := 0, locals := 0 } : Room).slots) := by
  refine MetFree.of_bodySF (plainFor_of_name pn_com_example_chorale_chorale_KindAttachesPinLaw) hisR ?_
  intro p e s m args below meth c s₁ Bd hml0 hP hK
  obtain ⟨rfl, hZ, hh⟩ := hP
  have hx := Bd.exec
  have hby := Bd.bytes
  have hml : c.maxLocals = 2 := hml0
  have hown : s.vm.findClass "com/example/chorale/chorale/KindAttachesPinLaw" = some m.cls := findClass_of_methodNamed Bd.named
  have hnm := (name_of_methodNamed Bd.named Bd.method).1
  have X0 : Stand p l e ({ frames := 0, cells := 0, slots := 0, locals := 0 } : Room) s m #[(.int (7 : Int32))] below meth c s₁ [] 0 0 := Stand.of_body Bd
  have e0 : s₁.heap = h0 := by rw [← hh, Bd.state]; rfl
  have N0 := Fr.nil n0
  show OGot p.tables e below (s₁.setTop (entryFrame m #[(.int (7 : Int32))] 2)) _
  refine OGot.go (fun t k => castTop (ef3_7 m ) k) ?_
  show OGot p.tables e below (s₁.setTop (mkF m 0 #[.val (.int (7 : Int32)), .unset] [])) _
  refine OGot.go (fun t k => XS.iconst X0.here hx rfl (hb hby d3_0) k) ?_
  show OGot p.tables e below (s₁.setTop (mkF m 1 #[.val (.int (7 : Int32)), .unset] [(.int (0 : Int32))])) _
  refine OGot.go (fun t k => XS.istoreN X0.here hx rfl (hb hby d3_1) rfl (l' := #[.val (.int (7 : Int32)), .val (.int (0 : Int32))]) rfl k) ?_
  show OGot p.tables e below (s₁.setTop (mkF m 2 #[.val (.int (7 : Int32)), .val (.int (0 : Int32))] [])) _
  refine OGot.go (fun t k => XS.iloadN X0.here hx rfl (hb hby d3_2) rfl k) ?_
  show OGot p.tables e below (s₁.setTop (mkF m 3 #[.val (.int (7 : Int32)), .val (.int (0 : Int32))] [(.int (7 : Int32))])) _
  refine OGot.go (fun t k => XS.bipush X0.here hx rfl (hb hby d3_3) k) ?_
  show OGot p.tables e below (s₁.setTop (mkF m 5 #[.val (.int (7 : Int32)), .val (.int (0 : Int32))] [(.int (13 : Int32)), (.int (7 : Int32))])) _
  refine OGot.go (fun t k => XS.icmpYes X0.here hx rfl (pc0 := 5) (pc' := 10) rfl (hb hby d3_5) rfl (by decide) (by decide) (by decide) k) ?_
  show OGot p.tables e below (s₁.setTop (mkF m 10 #[.val (.int (7 : Int32)), .val (.int (0 : Int32))] [])) _
  refine OGot.go (fun t k => XS.iloadN X0.here hx rfl (hb hby d3_10) rfl k) ?_
  show OGot p.tables e below (s₁.setTop (mkF m 11 #[.val (.int (7 : Int32)), .val (.int (0 : Int32))] [(.int (7 : Int32))])) _
  refine OGot.go (fun t k => XS.bipush X0.here hx rfl (hb hby d3_11) k) ?_
  show OGot p.tables e below (s₁.setTop (mkF m 13 #[.val (.int (7 : Int32)), .val (.int (0 : Int32))] [(.int (14 : Int32)), (.int (7 : Int32))])) _
  refine OGot.go (fun t k => XS.icmpYes X0.here hx rfl (pc0 := 13) (pc' := 18) rfl (hb hby d3_13) rfl (by decide) (by decide) (by decide) k) ?_
  show OGot p.tables e below (s₁.setTop (mkF m 18 #[.val (.int (7 : Int32)), .val (.int (0 : Int32))] [])) _
  refine OGot.go (fun t k => XS.iloadN X0.here hx rfl (hb hby d3_18) rfl k) ?_
  show OGot p.tables e below (s₁.setTop (mkF m 19 #[.val (.int (7 : Int32)), .val (.int (0 : Int32))] [(.int (0 : Int32))])) _
  obtain ⟨fs, hr, hrun, hended, hW, hsame⟩ := X0.leave (v := some (.int (0 : Int32))) (fun h => by rw [Bd.returns] at h; cases h)
  refine ⟨_, _, retN X0 hx (t := .boolean) Bd.returns (by simp) (hb hby d3_19) hr, hrun, hended, _, _, rfl, ?_, ⟨_, rfl⟩, hW, hsame.mono (by decide) (by decide)⟩
  exact (⟨rfl, N0, e0⟩ : Q3_7 Z w_START_EVENT w_BOUNDARY_EVENT w_MESSAGE_BOUNDARY_EVENT w_TERMINATE_END_EVENT w_LINK_THROW_EVENT w_LINK_CATCH_EVENT w_RECEPTION w_END_EVENT w_EVENT_BASED_GATEWAY w_INCLUSIVE_GATEWAY w_EXCLUSIVE_GATEWAY w_MESSAGE_START_EVENT w_SUB_PROCESS w_ACTIVITY w_PARALLEL_GATEWAY  h0 n0 _ s₁.heap _)
theorem d1_73 : decode method_2_code 73 = .ok (.iload_n 0, 1) := by decide +kernel
theorem d1_74 : decode method_2_code 74 = .ok (.bipush 8, 2) := by decide +kernel
theorem d1_76 : decode method_2_code 76 = .ok (.if_icmp .ne 7, 3) := by decide +kernel
theorem d1_79 : decode method_2_code 79 = .ok (.getstatic 34, 3) := by decide +kernel
theorem d1_82 : decode method_2_code 82 = .ok (.areturn, 1) := by decide +kernel
def Q1_8 (Z : State) (w_START_EVENT : Addr) (w_BOUNDARY_EVENT : Addr) (w_MESSAGE_BOUNDARY_EVENT : Addr) (w_TERMINATE_END_EVENT : Addr) (w_LINK_THROW_EVENT : Addr) (w_LINK_CATCH_EVENT : Addr) (w_RECEPTION : Addr) (w_END_EVENT : Addr) (w_EVENT_BASED_GATEWAY : Addr) (w_INCLUSIVE_GATEWAY : Addr) (w_EXCLUSIVE_GATEWAY : Addr) (w_MESSAGE_START_EVENT : Addr) (w_SUB_PROCESS : Addr) (w_ACTIVITY : Addr) (w_PARALLEL_GATEWAY : Addr)  (h0 : Heap) (n0 : Nat) (v : Option Value) (h : Heap) (L : List Loc) : Prop := v = some (.ref w_EXCLUSIVE_GATEWAY) ∧ Fr n0 L ∧ h = h0
theorem ef1_8 (m : MethodId)  : entryFrame m #[(.int (8 : Int32))] 1 = mkF m 0 #[.val (.int (8 : Int32))] [] := by first | (simp [entryFrame, mkF, argsToLocals, Value.category]; done) | rfl
set_option maxRecDepth 65536 in
set_option maxHeartbeats 40000000 in
theorem rm1_8 (l : Launch) (Z : State) (a0 : Array Value) (hw : ∀ d ∈ tables_1, d.before a0 Z = true) (ws : List Jvm.Cond) {w_START_EVENT : Addr} {w_BOUNDARY_EVENT : Addr} {w_MESSAGE_BOUNDARY_EVENT : Addr} {w_TERMINATE_END_EVENT : Addr} {w_LINK_THROW_EVENT : Addr} {w_LINK_CATCH_EVENT : Addr} {w_RECEPTION : Addr} {w_END_EVENT : Addr} {w_EVENT_BASED_GATEWAY : Addr} {w_INCLUSIVE_GATEWAY : Addr} {w_EXCLUSIVE_GATEWAY : Addr} {w_MESSAGE_START_EVENT : Addr} {w_SUB_PROCESS : Addr} {w_ACTIVITY : Addr} {w_PARALLEL_GATEWAY : Addr} (G : Glob Z w_START_EVENT w_BOUNDARY_EVENT w_MESSAGE_BOUNDARY_EVENT w_TERMINATE_END_EVENT w_LINK_THROW_EVENT w_LINK_CATCH_EVENT w_RECEPTION w_END_EVENT w_EVENT_BASED_GATEWAY w_INCLUSIVE_GATEWAY w_EXCLUSIVE_GATEWAY w_MESSAGE_START_EVENT w_SUB_PROCESS w_ACTIVITY w_PARALLEL_GATEWAY)  (h0 : Heap) (n0 : Nat) (O0 : Old Z n0 h0) :
    MetFree l (⟨"com/example/chorale/chorale/KindAttachesPinLaw", "kindAt", "(I)Lcom/example/chorale/chorale/FlowGraph$Kind;"⟩ : MethodName) (head1 (Jvm.Cond.code (⟨"com/example/chorale/chorale/KindAttachesPinLaw", "kindAt", "(I)Lcom/example/chorale/chorale/FlowGraph$Kind;"⟩ : MethodName) method_2_code 1 (some (.object "com/example/chorale/chorale/FlowGraph$Kind")) :: ws) ({ frames := 0, cells := 0, slots := 0, locals := 0 } : Room)) (fun a U => a = #[(.int (8 : Int32))] ∧ Z.Warmed39 U.vm ∧ U.heap = h0) (fun _ _ _ _ _ => True) (fun _ U o U' => ∃ v L, o = .returned v ∧ Q1_8 Z w_START_EVENT w_BOUNDARY_EVENT w_MESSAGE_BOUNDARY_EVENT w_TERMINATE_END_EVENT w_LINK_THROW_EVENT w_LINK_CATCH_EVENT w_RECEPTION w_END_EVENT w_EVENT_BASED_GATEWAY w_INCLUSIVE_GATEWAY w_EXCLUSIVE_GATEWAY w_MESSAGE_START_EVENT w_SUB_PROCESS w_ACTIVITY w_PARALLEL_GATEWAY  h0 n0 v U'.heap L ∧ FrameEnd U o U' L ({ frames := 0, cells := 0, slots := 0, locals := 0 } : Room).cells ({ frames := 0, cells := 0, slots := 0, locals := 0 } : Room).slots) := by
  refine MetFree.of_bodySF (plainFor_of_name pn_com_example_chorale_chorale_KindAttachesPinLaw) hisR ?_
  intro p e s m args below meth c s₁ Bd hml0 hP hK
  obtain ⟨rfl, hZ, hh⟩ := hP
  have hx := Bd.exec
  have hby := Bd.bytes
  have hml : c.maxLocals = 1 := hml0
  have hown : s.vm.findClass "com/example/chorale/chorale/KindAttachesPinLaw" = some m.cls := findClass_of_methodNamed Bd.named
  have hnm := (name_of_methodNamed Bd.named Bd.method).1
  have X0 : Stand p l e ({ frames := 0, cells := 0, slots := 0, locals := 0 } : Room) s m #[(.int (8 : Int32))] below meth c s₁ [] 0 0 := Stand.of_body Bd
  have e0 : s₁.heap = h0 := by rw [← hh, Bd.state]; rfl
  have N0 := Fr.nil n0
  show OGot p.tables e below (s₁.setTop (entryFrame m #[(.int (8 : Int32))] 1)) _
  refine OGot.go (fun t k => castTop (ef1_8 m ) k) ?_
  show OGot p.tables e below (s₁.setTop (mkF m 0 #[.val (.int (8 : Int32))] [])) _
  refine OGot.go (fun t k => XS.iloadN X0.here hx rfl (hb hby d1_0) rfl k) ?_
  show OGot p.tables e below (s₁.setTop (mkF m 1 #[.val (.int (8 : Int32))] [(.int (8 : Int32))])) _
  refine OGot.go (fun t k => XS.ifYes X0.here hx rfl (pc0 := 1) (pc' := 8) rfl (hb hby d1_1) rfl (by decide) (by decide) (by decide) k) ?_
  show OGot p.tables e below (s₁.setTop (mkF m 8 #[.val (.int (8 : Int32))] [])) _
  refine OGot.go (fun t k => XS.iloadN X0.here hx rfl (hb hby d1_8) rfl k) ?_
  show OGot p.tables e below (s₁.setTop (mkF m 9 #[.val (.int (8 : Int32))] [(.int (8 : Int32))])) _
  refine OGot.go (fun t k => XS.iconst X0.here hx rfl (hb hby d1_9) k) ?_
  show OGot p.tables e below (s₁.setTop (mkF m 10 #[.val (.int (8 : Int32))] [(.int (1 : Int32)), (.int (8 : Int32))])) _
  refine OGot.go (fun t k => XS.icmpYes X0.here hx rfl (pc0 := 10) (pc' := 17) rfl (hb hby d1_10) rfl (by decide) (by decide) (by decide) k) ?_
  show OGot p.tables e below (s₁.setTop (mkF m 17 #[.val (.int (8 : Int32))] [])) _
  refine OGot.go (fun t k => XS.iloadN X0.here hx rfl (hb hby d1_17) rfl k) ?_
  show OGot p.tables e below (s₁.setTop (mkF m 18 #[.val (.int (8 : Int32))] [(.int (8 : Int32))])) _
  refine OGot.go (fun t k => XS.iconst X0.here hx rfl (hb hby d1_18) k) ?_
  show OGot p.tables e below (s₁.setTop (mkF m 19 #[.val (.int (8 : Int32))] [(.int (2 : Int32)), (.int (8 : Int32))])) _
  refine OGot.go (fun t k => XS.icmpYes X0.here hx rfl (pc0 := 19) (pc' := 26) rfl (hb hby d1_19) rfl (by decide) (by decide) (by decide) k) ?_
  show OGot p.tables e below (s₁.setTop (mkF m 26 #[.val (.int (8 : Int32))] [])) _
  refine OGot.go (fun t k => XS.iloadN X0.here hx rfl (hb hby d1_26) rfl k) ?_
  show OGot p.tables e below (s₁.setTop (mkF m 27 #[.val (.int (8 : Int32))] [(.int (8 : Int32))])) _
  refine OGot.go (fun t k => XS.iconst X0.here hx rfl (hb hby d1_27) k) ?_
  show OGot p.tables e below (s₁.setTop (mkF m 28 #[.val (.int (8 : Int32))] [(.int (3 : Int32)), (.int (8 : Int32))])) _
  refine OGot.go (fun t k => XS.icmpYes X0.here hx rfl (pc0 := 28) (pc' := 35) rfl (hb hby d1_28) rfl (by decide) (by decide) (by decide) k) ?_
  show OGot p.tables e below (s₁.setTop (mkF m 35 #[.val (.int (8 : Int32))] [])) _
  refine OGot.go (fun t k => XS.iloadN X0.here hx rfl (hb hby d1_35) rfl k) ?_
  show OGot p.tables e below (s₁.setTop (mkF m 36 #[.val (.int (8 : Int32))] [(.int (8 : Int32))])) _
  refine OGot.go (fun t k => XS.iconst X0.here hx rfl (hb hby d1_36) k) ?_
  show OGot p.tables e below (s₁.setTop (mkF m 37 #[.val (.int (8 : Int32))] [(.int (4 : Int32)), (.int (8 : Int32))])) _
  refine OGot.go (fun t k => XS.icmpYes X0.here hx rfl (pc0 := 37) (pc' := 44) rfl (hb hby d1_37) rfl (by decide) (by decide) (by decide) k) ?_
  show OGot p.tables e below (s₁.setTop (mkF m 44 #[.val (.int (8 : Int32))] [])) _
  refine OGot.go (fun t k => XS.iloadN X0.here hx rfl (hb hby d1_44) rfl k) ?_
  show OGot p.tables e below (s₁.setTop (mkF m 45 #[.val (.int (8 : Int32))] [(.int (8 : Int32))])) _
  refine OGot.go (fun t k => XS.iconst X0.here hx rfl (hb hby d1_45) k) ?_
  show OGot p.tables e below (s₁.setTop (mkF m 46 #[.val (.int (8 : Int32))] [(.int (5 : Int32)), (.int (8 : Int32))])) _
  refine OGot.go (fun t k => XS.icmpYes X0.here hx rfl (pc0 := 46) (pc' := 53) rfl (hb hby d1_46) rfl (by decide) (by decide) (by decide) k) ?_
  show OGot p.tables e below (s₁.setTop (mkF m 53 #[.val (.int (8 : Int32))] [])) _
  refine OGot.go (fun t k => XS.iloadN X0.here hx rfl (hb hby d1_53) rfl k) ?_
  show OGot p.tables e below (s₁.setTop (mkF m 54 #[.val (.int (8 : Int32))] [(.int (8 : Int32))])) _
  refine OGot.go (fun t k => XS.bipush X0.here hx rfl (hb hby d1_54) k) ?_
  show OGot p.tables e below (s₁.setTop (mkF m 56 #[.val (.int (8 : Int32))] [(.int (6 : Int32)), (.int (8 : Int32))])) _
  refine OGot.go (fun t k => XS.icmpYes X0.here hx rfl (pc0 := 56) (pc' := 63) rfl (hb hby d1_56) rfl (by decide) (by decide) (by decide) k) ?_
  show OGot p.tables e below (s₁.setTop (mkF m 63 #[.val (.int (8 : Int32))] [])) _
  refine OGot.go (fun t k => XS.iloadN X0.here hx rfl (hb hby d1_63) rfl k) ?_
  show OGot p.tables e below (s₁.setTop (mkF m 64 #[.val (.int (8 : Int32))] [(.int (8 : Int32))])) _
  refine OGot.go (fun t k => XS.bipush X0.here hx rfl (hb hby d1_64) k) ?_
  show OGot p.tables e below (s₁.setTop (mkF m 66 #[.val (.int (8 : Int32))] [(.int (7 : Int32)), (.int (8 : Int32))])) _
  refine OGot.go (fun t k => XS.icmpYes X0.here hx rfl (pc0 := 66) (pc' := 73) rfl (hb hby d1_66) rfl (by decide) (by decide) (by decide) k) ?_
  show OGot p.tables e below (s₁.setTop (mkF m 73 #[.val (.int (8 : Int32))] [])) _
  refine OGot.go (fun t k => XS.iloadN X0.here hx rfl (hb hby d1_73) rfl k) ?_
  show OGot p.tables e below (s₁.setTop (mkF m 74 #[.val (.int (8 : Int32))] [(.int (8 : Int32))])) _
  refine OGot.go (fun t k => XS.bipush X0.here hx rfl (hb hby d1_74) k) ?_
  show OGot p.tables e below (s₁.setTop (mkF m 76 #[.val (.int (8 : Int32))] [(.int (8 : Int32)), (.int (8 : Int32))])) _
  refine OGot.go (fun t k => XS.icmpNo X0.here hx rfl (hb hby d1_76) rfl (by decide) k) ?_
  show OGot p.tables e below (s₁.setTop (mkF m 79 #[.val (.int (8 : Int32))] [])) _
  obtain ⟨T1, X1, e1, st1⟩ := getS2 X0 hx hZ hown (host := "") (Or.inl (ow hw 42 rfl)) Via.refl e0 (G.2.2.2.2.2.2.2.2.2.2.2.2.2.2.2.2.2.2.2.2.1.ext O0.2) (g := (mkF m 79 #[.val (.int (8 : Int32))] [])) rfl (hb hby d1_79)
  refine OGot.go st1 ?_
  show OGot p.tables e below (T1.setTop (mkF m 82 #[.val (.int (8 : Int32))] [(.ref w_EXCLUSIVE_GATEWAY)])) _
  obtain ⟨fs, hr, hrun, hended, hW, hsame⟩ := X1.leave (v := some (.ref w_EXCLUSIVE_GATEWAY)) (fun h => by rw [Bd.returns] at h; cases h)
  refine ⟨_, _, oretA X1 hx Bd.returns rfl rfl (hb hby d1_82) hr, hrun, hended, _, _, rfl, ?_, ⟨_, rfl⟩, hW, hsame.mono (by decide) (by decide)⟩
  exact (⟨rfl, N0, e1⟩ : Q1_8 Z w_START_EVENT w_BOUNDARY_EVENT w_MESSAGE_BOUNDARY_EVENT w_TERMINATE_END_EVENT w_LINK_THROW_EVENT w_LINK_CATCH_EVENT w_RECEPTION w_END_EVENT w_EVENT_BASED_GATEWAY w_INCLUSIVE_GATEWAY w_EXCLUSIVE_GATEWAY w_MESSAGE_START_EVENT w_SUB_PROCESS w_ACTIVITY w_PARALLEL_GATEWAY  h0 n0 _ T1.heap _)
def Q2_8 (Z : State) (w_START_EVENT : Addr) (w_BOUNDARY_EVENT : Addr) (w_MESSAGE_BOUNDARY_EVENT : Addr) (w_TERMINATE_END_EVENT : Addr) (w_LINK_THROW_EVENT : Addr) (w_LINK_CATCH_EVENT : Addr) (w_RECEPTION : Addr) (w_END_EVENT : Addr) (w_EVENT_BASED_GATEWAY : Addr) (w_INCLUSIVE_GATEWAY : Addr) (w_EXCLUSIVE_GATEWAY : Addr) (w_MESSAGE_START_EVENT : Addr) (w_SUB_PROCESS : Addr) (w_ACTIVITY : Addr) (w_PARALLEL_GATEWAY : Addr)  (h0 : Heap) (n0 : Nat) (v : Option Value) (h : Heap) (L : List Loc) : Prop := v = some (.int (0 : Int32)) ∧ Fr n0 L ∧ h = h0
theorem ef2_8 (m : MethodId) (x0 : Addr) : entryFrame m #[(.ref x0)] 1 = mkF m 0 #[.val (.ref x0)] [] := by first | (simp [entryFrame, mkF, argsToLocals, Value.category]; done) | rfl
set_option maxRecDepth 65536 in
set_option maxHeartbeats 40000000 in
theorem rm2_8 (l : Launch) (Z : State) (a0 : Array Value) (hw : ∀ d ∈ tables_1, d.before a0 Z = true) (ws : List Jvm.Cond) {w_START_EVENT : Addr} {w_BOUNDARY_EVENT : Addr} {w_MESSAGE_BOUNDARY_EVENT : Addr} {w_TERMINATE_END_EVENT : Addr} {w_LINK_THROW_EVENT : Addr} {w_LINK_CATCH_EVENT : Addr} {w_RECEPTION : Addr} {w_END_EVENT : Addr} {w_EVENT_BASED_GATEWAY : Addr} {w_INCLUSIVE_GATEWAY : Addr} {w_EXCLUSIVE_GATEWAY : Addr} {w_MESSAGE_START_EVENT : Addr} {w_SUB_PROCESS : Addr} {w_ACTIVITY : Addr} {w_PARALLEL_GATEWAY : Addr} (G : Glob Z w_START_EVENT w_BOUNDARY_EVENT w_MESSAGE_BOUNDARY_EVENT w_TERMINATE_END_EVENT w_LINK_THROW_EVENT w_LINK_CATCH_EVENT w_RECEPTION w_END_EVENT w_EVENT_BASED_GATEWAY w_INCLUSIVE_GATEWAY w_EXCLUSIVE_GATEWAY w_MESSAGE_START_EVENT w_SUB_PROCESS w_ACTIVITY w_PARALLEL_GATEWAY)  (h0 : Heap) (n0 : Nat) (O0 : Old Z n0 h0) :
    MetFree l (⟨"com/example/chorale/chorale/FlowGraph$Kind", "attaches", "()Z"⟩ : MethodName) (head1 (Jvm.Cond.code (⟨"com/example/chorale/chorale/FlowGraph$Kind", "attaches", "()Z"⟩ : MethodName) prog_73_method_5_code 1 (some .boolean) :: ws) ({ frames := 0, cells := 0, slots := 0, locals := 0 } : Room)) (fun a U => a = #[(.ref w_EXCLUSIVE_GATEWAY)] ∧ Z.Warmed39 U.vm ∧ U.heap = h0) (fun _ _ _ _ _ => True) (fun _ U o U' => ∃ v L, o = .returned v ∧ Q2_8 Z w_START_EVENT w_BOUNDARY_EVENT w_MESSAGE_BOUNDARY_EVENT w_TERMINATE_END_EVENT w_LINK_THROW_EVENT w_LINK_CATCH_EVENT w_RECEPTION w_END_EVENT w_EVENT_BASED_GATEWAY w_INCLUSIVE_GATEWAY w_EXCLUSIVE_GATEWAY w_MESSAGE_START_EVENT w_SUB_PROCESS w_ACTIVITY w_PARALLEL_GATEWAY  h0 n0 v U'.heap L ∧ FrameEnd U o U' L ({ frames := 0, cells := 0, slots := 0, locals := 0 } : Room).cells ({ frames := 0, cells := 0, slots := 0, locals := 0 } : Room).slots) := by
  refine MetFree.of_bodySF (plainFor_of_name pn_com_example_chorale_chorale_FlowGraph_Kind) hisR ?_
  intro p e s m args below meth c s₁ Bd hml0 hP hK
  obtain ⟨rfl, hZ, hh⟩ := hP
  have hx := Bd.exec
  have hby := Bd.bytes
  have hml : c.maxLocals = 1 := hml0
  have hown : s.vm.findClass "com/example/chorale/chorale/FlowGraph$Kind" = some m.cls := findClass_of_methodNamed Bd.named
  have hnm := (name_of_methodNamed Bd.named Bd.method).1
  have X0 : Stand p l e ({ frames := 0, cells := 0, slots := 0, locals := 0 } : Room) s m #[(.ref w_EXCLUSIVE_GATEWAY)] below meth c s₁ [] 0 0 := Stand.of_body Bd
  have e0 : s₁.heap = h0 := by rw [← hh, Bd.state]; rfl
  have N0 := Fr.nil n0
  show OGot p.tables e below (s₁.setTop (entryFrame m #[(.ref w_EXCLUSIVE_GATEWAY)] 1)) _
  refine OGot.go (fun t k => castTop (ef2_8 m w_EXCLUSIVE_GATEWAY) k) ?_
  show OGot p.tables e below (s₁.setTop (mkF m 0 #[.val (.ref w_EXCLUSIVE_GATEWAY)] [])) _
  refine OGot.go (fun t k => XS.aloadN X0.here hx rfl (hb hby d2_0) rfl rfl k) ?_
  show OGot p.tables e below (s₁.setTop (mkF m 1 #[.val (.ref w_EXCLUSIVE_GATEWAY)] [(.ref w_EXCLUSIVE_GATEWAY)])) _
  obtain ⟨T2, X2, e2, st2⟩ := getS2 X0 hx hZ hown (host := "") (Or.inl (ow hw 13 rfl)) Via.refl e0 (G.2.2.1.ext O0.2) (g := (mkF m 1 #[.val (.ref w_EXCLUSIVE_GATEWAY)] [(.ref w_EXCLUSIVE_GATEWAY)])) rfl (hb hby d2_1)
  refine OGot.go st2 ?_
  show OGot p.tables e below (T2.setTop (mkF m 4 #[.val (.ref w_EXCLUSIVE_GATEWAY)] [(.ref w_BOUNDARY_EVENT), (.ref w_EXCLUSIVE_GATEWAY)])) _
  have ne3 : w_EXCLUSIVE_GATEWAY ≠ w_BOUNDARY_EVENT := (Fld.ne G.2.2.2.2.2.2.2.2.2.2.2.2.2.2.2.2.2.2.2.2.2.2.2.2.2.2.2.2.2.2.2.2.2.2.2.2.2.2.2.2.1 G.2.2.2.2.2.2.2.2.2.2.2.2.2.2.2.2.2.2.2.2.2.2.2.2.2.2.2.2.2.2.2.1 (by decide))
  refine OGot.go (fun t k => Jvm.RoadKit.acmp (g := (mkF m 4 #[.val (.ref w_EXCLUSIVE_GATEWAY)] [(.ref w_BOUNDARY_EVENT), (.ref w_EXCLUSIVE_GATEWAY)])) X2 hx rfl rfl rfl (pc0 := 4) (pc' := 7) (same := false) rfl (hb hby d2_4) rfl (decide_eq_false fun q => ne3 (Value.ref.inj q)) (by decide) (by decide) k) ?_
  show OGot p.tables e below (T2.setTop (mkF m 7 #[.val (.ref w_EXCLUSIVE_GATEWAY)] [])) _
  refine OGot.go (fun t k => XS.aloadN X2.here hx rfl (hb hby d2_7) rfl rfl k) ?_
  show OGot p.tables e below (T2.setTop (mkF m 8 #[.val (.ref w_EXCLUSIVE_GATEWAY)] [(.ref w_EXCLUSIVE_GATEWAY)])) _
  obtain ⟨T4, X4, e4, st4⟩ := getS2 X2 hx hZ hown (host := "") (Or.inl (ow hw 15 rfl)) Via.refl e2 (G.2.2.2.2.1.ext O0.2) (g := (mkF m 8 #[.val (.ref w_EXCLUSIVE_GATEWAY)] [(.ref w_EXCLUSIVE_GATEWAY)])) rfl (hb hby d2_8)
  refine OGot.go st4 ?_
  show OGot p.tables e below (T4.setTop (mkF m 11 #[.val (.ref w_EXCLUSIVE_GATEWAY)] [(.ref w_MESSAGE_BOUNDARY_EVENT), (.ref w_EXCLUSIVE_GATEWAY)])) _
  have ne5 : w_EXCLUSIVE_GATEWAY ≠ w_MESSAGE_BOUNDARY_EVENT := (Fld.ne G.2.2.2.2.2.2.2.2.2.2.2.2.2.2.2.2.2.2.2.2.2.2.2.2.2.2.2.2.2.2.2.2.2.2.2.2.2.2.2.2.1 G.2.2.2.2.2.2.2.2.2.2.2.2.2.2.2.2.2.2.2.2.2.2.2.2.2.2.2.2.2.2.2.2.1 (by decide))
  refine OGot.go (fun t k => Jvm.RoadKit.acmp (g := (mkF m 11 #[.val (.ref w_EXCLUSIVE_GATEWAY)] [(.ref w_MESSAGE_BOUNDARY_EVENT), (.ref w_EXCLUSIVE_GATEWAY)])) X4 hx rfl rfl rfl (pc0 := 11) (pc' := 18) (same := false) rfl (hb hby d2_11) rfl (decide_eq_false fun q => ne5 (Value.ref.inj q)) (by decide) (by decide) k) ?_
  show OGot p.tables e below (T4.setTop (mkF m 18 #[.val (.ref w_EXCLUSIVE_GATEWAY)] [])) _
  refine OGot.go (fun t k => XS.iconst X4.here hx rfl (hb hby d2_18) k) ?_
  show OGot p.tables e below (T4.setTop (mkF m 19 #[.val (.ref w_EXCLUSIVE_GATEWAY)] [(.int (0 : Int32))])) _
  obtain ⟨fs, hr, hrun, hended, hW, hsame⟩ := X4.leave (v := some (.int (0 : Int32))) (fun h => by rw [Bd.returns] at h; cases h)
  refine ⟨_, _, retN X4 hx (t := .boolean) Bd.returns (by simp) (hb hby d2_19) hr, hrun, hended, _, _, rfl, ?_, ⟨_, rfl⟩, hW, hsame.mono (by decide) (by decide)⟩
  exact (⟨rfl, N0, e4⟩ : Q2_8 Z w_START_EVENT w_BOUNDARY_EVENT w_MESSAGE_BOUNDARY_EVENT w_TERMINATE_END_EVENT w_LINK_THROW_EVENT w_LINK_CATCH_EVENT w_RECEPTION w_END_EVENT w_EVENT_BASED_GATEWAY w_INCLUSIVE_GATEWAY w_EXCLUSIVE_GATEWAY w_MESSAGE_START_EVENT w_SUB_PROCESS w_ACTIVITY w_PARALLEL_GATEWAY  h0 n0 _ T4.heap _)
def Q3_8 (Z : State) (w_START_EVENT : Addr) (w_BOUNDARY_EVENT : Addr) (w_MESSAGE_BOUNDARY_EVENT : Addr) (w_TERMINATE_END_EVENT : Addr) (w_LINK_THROW_EVENT : Addr) (w_LINK_CATCH_EVENT : Addr) (w_RECEPTION : Addr) (w_END_EVENT : Addr) (w_EVENT_BASED_GATEWAY : Addr) (w_INCLUSIVE_GATEWAY : Addr) (w_EXCLUSIVE_GATEWAY : Addr) (w_MESSAGE_START_EVENT : Addr) (w_SUB_PROCESS : Addr) (w_ACTIVITY : Addr) (w_PARALLEL_GATEWAY : Addr)  (h0 : Heap) (n0 : Nat) (v : Option Value) (h : Heap) (L : List Loc) : Prop := v = some (.int (0 : Int32)) ∧ Fr n0 L ∧ h = h0
theorem ef3_8 (m : MethodId)  : entryFrame m #[(.int (8 : Int32))] 2 = mkF m 0 #[.val (.int (8 : Int32)), .unset] [] := by first | (simp [entryFrame, mkF, argsToLocals, Value.category]; done) | rfl
set_option maxRecDepth 65536 in
set_option maxHeartbeats 40000000 in
theorem rm3_8 (l : Launch) (Z : State) (a0 : Array Value) (hw : ∀ d ∈ tables_1, d.before a0 Z = true) (ws : List Jvm.Cond) {w_START_EVENT : Addr} {w_BOUNDARY_EVENT : Addr} {w_MESSAGE_BOUNDARY_EVENT : Addr} {w_TERMINATE_END_EVENT : Addr} {w_LINK_THROW_EVENT : Addr} {w_LINK_CATCH_EVENT : Addr} {w_RECEPTION : Addr} {w_END_EVENT : Addr} {w_EVENT_BASED_GATEWAY : Addr} {w_INCLUSIVE_GATEWAY : Addr} {w_EXCLUSIVE_GATEWAY : Addr} {w_MESSAGE_START_EVENT : Addr} {w_SUB_PROCESS : Addr} {w_ACTIVITY : Addr} {w_PARALLEL_GATEWAY : Addr} (G : Glob Z w_START_EVENT w_BOUNDARY_EVENT w_MESSAGE_BOUNDARY_EVENT w_TERMINATE_END_EVENT w_LINK_THROW_EVENT w_LINK_CATCH_EVENT w_RECEPTION w_END_EVENT w_EVENT_BASED_GATEWAY w_INCLUSIVE_GATEWAY w_EXCLUSIVE_GATEWAY w_MESSAGE_START_EVENT w_SUB_PROCESS w_ACTIVITY w_PARALLEL_GATEWAY)  (h0 : Heap) (n0 : Nat) (O0 : Old Z n0 h0) :
    MetFree l (⟨"com/example/chorale/chorale/KindAttachesPinLaw", "isBoundaryIndex", "(I)Z"⟩ : MethodName) (head1 (Jvm.Cond.code (⟨"com/example/chorale/chorale/KindAttachesPinLaw", "isBoundaryIndex", "(I)Z"⟩ : MethodName) method_3_code 2 (some .boolean) :: ws) ({ frames := 0, cells := 0, slots := 0, locals := 0 } : Room)) (fun a U => a = #[(.int (8 : Int32))] ∧ Z.Warmed39 U.vm ∧ U.heap = h0) (fun _ _ _ _ _ => True) (fun _ U o U' => ∃ v L, o = .returned v ∧ Q3_8 Z w_START_EVENT w_BOUNDARY_EVENT w_MESSAGE_BOUNDARY_EVENT w_TERMINATE_END_EVENT w_LINK_THROW_EVENT w_LINK_CATCH_EVENT w_RECEPTION w_END_EVENT w_EVENT_BASED_GATEWAY w_INCLUSIVE_GATEWAY w_EXCLUSIVE_GATEWAY w_MESSAGE_START_EVENT w_SUB_PROCESS w_ACTIVITY w_PARALLEL_GATEWAY  h0 n0 v U'.heap L ∧ FrameEnd U o U' L ({ frames := 0, cells := 0, slots := 0, locals := 0 } : Room).cells ({ frames := 0, cells := 0, slots := 0, locals := 0 } : Room).slots) := by
  refine MetFree.of_bodySF (plainFor_of_name pn_com_example_chorale_chorale_KindAttachesPinLaw) hisR ?_
  intro p e s m args below meth c s₁ Bd hml0 hP hK
  obtain ⟨rfl, hZ, hh⟩ := hP
  have hx := Bd.exec
  have hby := Bd.bytes
  have hml : c.maxLocals = 2 := hml0
  have hown : s.vm.findClass "com/example/chorale/chorale/KindAttachesPinLaw" = some m.cls := findClass_of_methodNamed Bd.named
  have hnm := (name_of_methodNamed Bd.named Bd.method).1
  have X0 : Stand p l e ({ frames := 0, cells := 0, slots := 0, locals := 0 } : Room) s m #[(.int (8 : Int32))] below meth c s₁ [] 0 0 := Stand.of_body Bd
  have e0 : s₁.heap = h0 := by rw [← hh, Bd.state]; rfl
  have N0 := Fr.nil n0
  show OGot p.tables e below (s₁.setTop (entryFrame m #[(.int (8 : Int32))] 2)) _
  refine OGot.go (fun t k => castTop (ef3_8 m ) k) ?_
  show OGot p.tables e below (s₁.setTop (mkF m 0 #[.val (.int (8 : Int32)), .unset] [])) _
  refine OGot.go (fun t k => XS.iconst X0.here hx rfl (hb hby d3_0) k) ?_
  show OGot p.tables e below (s₁.setTop (mkF m 1 #[.val (.int (8 : Int32)), .unset] [(.int (0 : Int32))])) _
  refine OGot.go (fun t k => XS.istoreN X0.here hx rfl (hb hby d3_1) rfl (l' := #[.val (.int (8 : Int32)), .val (.int (0 : Int32))]) rfl k) ?_
  show OGot p.tables e below (s₁.setTop (mkF m 2 #[.val (.int (8 : Int32)), .val (.int (0 : Int32))] [])) _
  refine OGot.go (fun t k => XS.iloadN X0.here hx rfl (hb hby d3_2) rfl k) ?_
  show OGot p.tables e below (s₁.setTop (mkF m 3 #[.val (.int (8 : Int32)), .val (.int (0 : Int32))] [(.int (8 : Int32))])) _
  refine OGot.go (fun t k => XS.bipush X0.here hx rfl (hb hby d3_3) k) ?_
  show OGot p.tables e below (s₁.setTop (mkF m 5 #[.val (.int (8 : Int32)), .val (.int (0 : Int32))] [(.int (13 : Int32)), (.int (8 : Int32))])) _
  refine OGot.go (fun t k => XS.icmpYes X0.here hx rfl (pc0 := 5) (pc' := 10) rfl (hb hby d3_5) rfl (by decide) (by decide) (by decide) k) ?_
  show OGot p.tables e below (s₁.setTop (mkF m 10 #[.val (.int (8 : Int32)), .val (.int (0 : Int32))] [])) _
  refine OGot.go (fun t k => XS.iloadN X0.here hx rfl (hb hby d3_10) rfl k) ?_
  show OGot p.tables e below (s₁.setTop (mkF m 11 #[.val (.int (8 : Int32)), .val (.int (0 : Int32))] [(.int (8 : Int32))])) _
  refine OGot.go (fun t k => XS.bipush X0.here hx rfl (hb hby d3_11) k) ?_
  show OGot p.tables e below (s₁.setTop (mkF m 13 #[.val (.int (8 : Int32)), .val (.int (0 : Int32))] [(.int (14 : Int32)), (.int (8 : Int32))])) _
  refine OGot.go (fun t k => XS.icmpYes X0.here hx rfl (pc0 := 13) (pc' := 18) rfl (hb hby d3_13) rfl (by decide) (by decide) (by decide) k) ?_
  show OGot p.tables e below (s₁.setTop (mkF m 18 #[.val (.int (8 : Int32)), .val (.int (0 : Int32))] [])) _
  refine OGot.go (fun t k => XS.iloadN X0.here hx rfl (hb hby d3_18) rfl k) ?_
  show OGot p.tables e below (s₁.setTop (mkF m 19 #[.val (.int (8 : Int32)), .val (.int (0 : Int32))] [(.int (0 : Int32))])) _
  obtain ⟨fs, hr, hrun, hended, hW, hsame⟩ := X0.leave (v := some (.int (0 : Int32))) (fun h => by rw [Bd.returns] at h; cases h)
  refine ⟨_, _, retN X0 hx (t := .boolean) Bd.returns (by simp) (hb hby d3_19) hr, hrun, hended, _, _, rfl, ?_, ⟨_, rfl⟩, hW, hsame.mono (by decide) (by decide)⟩
  exact (⟨rfl, N0, e0⟩ : Q3_8 Z w_START_EVENT w_BOUNDARY_EVENT w_MESSAGE_BOUNDARY_EVENT w_TERMINATE_END_EVENT w_LINK_THROW_EVENT w_LINK_CATCH_EVENT w_RECEPTION w_END_EVENT w_EVENT_BASED_GATEWAY w_INCLUSIVE_GATEWAY w_EXCLUSIVE_GATEWAY w_MESSAGE_START_EVENT w_SUB_PROCESS w_ACTIVITY w_PARALLEL_GATEWAY  h0 n0 _ s₁.heap _)
theorem d1_83 : decode method_2_code 83 = .ok (.iload_n 0, 1) := by decide +kernel
theorem d1_84 : decode method_2_code 84 = .ok (.bipush 9, 2) := by decide +kernel
theorem d1_86 : decode method_2_code 86 = .ok (.if_icmp .ne 7, 3) := by decide +kernel
theorem d1_89 : decode method_2_code 89 = .ok (.getstatic 37, 3) := by decide +kernel
theorem d1_92 : decode method_2_code 92 = .ok (.areturn, 1) := by decide +kernel
def Q1_9 (Z : State) (w_START_EVENT : Addr) (w_BOUNDARY_EVENT : Addr) (w_MESSAGE_BOUNDARY_EVENT : Addr) (w_TERMINATE_END_EVENT : Addr) (w_LINK_THROW_EVENT : Addr) (w_LINK_CATCH_EVENT : Addr) (w_RECEPTION : Addr) (w_END_EVENT : Addr) (w_EVENT_BASED_GATEWAY : Addr) (w_INCLUSIVE_GATEWAY : Addr) (w_EXCLUSIVE_GATEWAY : Addr) (w_MESSAGE_START_EVENT : Addr) (w_SUB_PROCESS : Addr) (w_ACTIVITY : Addr) (w_PARALLEL_GATEWAY : Addr)  (h0 : Heap) (n0 : Nat) (v : Option Value) (h : Heap) (L : List Loc) : Prop := v = some (.ref w_PARALLEL_GATEWAY) ∧ Fr n0 L ∧ h = h0
theorem ef1_9 (m : MethodId)  : entryFrame m #[(.int (9 : Int32))] 1 = mkF m 0 #[.val (.int (9 : Int32))] [] := by first | (simp [entryFrame, mkF, argsToLocals, Value.category]; done) | rfl
set_option maxRecDepth 65536 in
set_option maxHeartbeats 40000000 in
theorem rm1_9 (l : Launch) (Z : State) (a0 : Array Value) (hw : ∀ d ∈ tables_1, d.before a0 Z = true) (ws : List Jvm.Cond) {w_START_EVENT : Addr} {w_BOUNDARY_EVENT : Addr} {w_MESSAGE_BOUNDARY_EVENT : Addr} {w_TERMINATE_END_EVENT : Addr} {w_LINK_THROW_EVENT : Addr} {w_LINK_CATCH_EVENT : Addr} {w_RECEPTION : Addr} {w_END_EVENT : Addr} {w_EVENT_BASED_GATEWAY : Addr} {w_INCLUSIVE_GATEWAY : Addr} {w_EXCLUSIVE_GATEWAY : Addr} {w_MESSAGE_START_EVENT : Addr} {w_SUB_PROCESS : Addr} {w_ACTIVITY : Addr} {w_PARALLEL_GATEWAY : Addr} (G : Glob Z w_START_EVENT w_BOUNDARY_EVENT w_MESSAGE_BOUNDARY_EVENT w_TERMINATE_END_EVENT w_LINK_THROW_EVENT w_LINK_CATCH_EVENT w_RECEPTION w_END_EVENT w_EVENT_BASED_GATEWAY w_INCLUSIVE_GATEWAY w_EXCLUSIVE_GATEWAY w_MESSAGE_START_EVENT w_SUB_PROCESS w_ACTIVITY w_PARALLEL_GATEWAY)  (h0 : Heap) (n0 : Nat) (O0 : Old Z n0 h0) :
    MetFree l (⟨"com/example/chorale/chorale/KindAttachesPinLaw", "kindAt", "(I)Lcom/example/chorale/chorale/FlowGraph$Kind;"⟩ : MethodName) (head1 (Jvm.Cond.code (⟨"com/example/chorale/chorale/KindAttachesPinLaw", "kindAt", "(I)Lcom/example/chorale/chorale/FlowGraph$Kind;"⟩ : MethodName) method_2_code 1 (some (.object "com/example/chorale/chorale/FlowGraph$Kind")) :: ws) ({ frames := 0, cells := 0, slots := 0, locals := 0 } : Room)) (fun a U => a = #[(.int (9 : Int32))] ∧ Z.Warmed39 U.vm ∧ U.heap = h0) (fun _ _ _ _ _ => True) (fun _ U o U' => ∃ v L, o = .returned v ∧ Q1_9 Z w_START_EVENT w_BOUNDARY_EVENT w_MESSAGE_BOUNDARY_EVENT w_TERMINATE_END_EVENT w_LINK_THROW_EVENT w_LINK_CATCH_EVENT w_RECEPTION w_END_EVENT w_EVENT_BASED_GATEWAY w_INCLUSIVE_GATEWAY w_EXCLUSIVE_GATEWAY w_MESSAGE_START_EVENT w_SUB_PROCESS w_ACTIVITY w_PARALLEL_GATEWAY  h0 n0 v U'.heap L ∧ FrameEnd U o U' L ({ frames := 0, cells := 0, slots := 0, locals := 0 } : Room).cells ({ frames := 0, cells := 0, slots := 0, locals := 0 } : Room).slots) := by
  refine MetFree.of_bodySF (plainFor_of_name pn_com_example_chorale_chorale_KindAttachesPinLaw) hisR ?_
  intro p e s m args below meth c s₁ Bd hml0 hP hK
  obtain ⟨rfl, hZ, hh⟩ := hP
  have hx := Bd.exec
  have hby := Bd.bytes
  have hml : c.maxLocals = 1 := hml0
  have hown : s.vm.findClass "com/example/chorale/chorale/KindAttachesPinLaw" = some m.cls := findClass_of_methodNamed Bd.named
  have hnm := (name_of_methodNamed Bd.named Bd.method).1
  have X0 : Stand p l e ({ frames := 0, cells := 0, slots := 0, locals := 0 } : Room) s m #[(.int (9 : Int32))] below meth c s₁ [] 0 0 := Stand.of_body Bd
  have e0 : s₁.heap = h0 := by rw [← hh, Bd.state]; rfl
  have N0 := Fr.nil n0
  show OGot p.tables e below (s₁.setTop (entryFrame m #[(.int (9 : Int32))] 1)) _
  refine OGot.go (fun t k => castTop (ef1_9 m ) k) ?_
  show OGot p.tables e below (s₁.setTop (mkF m 0 #[.val (.int (9 : Int32))] [])) _
  refine OGot.go (fun t k => XS.iloadN X0.here hx rfl (hb hby d1_0) rfl k) ?_
  show OGot p.tables e below (s₁.setTop (mkF m 1 #[.val (.int (9 : Int32))] [(.int (9 : Int32))])) _
  refine OGot.go (fun t k => XS.ifYes X0.here hx rfl (pc0 := 1) (pc' := 8) rfl (hb hby d1_1) rfl (by decide) (by decide) (by decide) k) ?_
  show OGot p.tables e below (s₁.setTop (mkF m 8 #[.val (.int (9 : Int32))] [])) _
  refine OGot.go (fun t k => XS.iloadN X0.here hx rfl (hb hby d1_8) rfl k) ?_
  show OGot p.tables e below (s₁.setTop (mkF m 9 #[.val (.int (9 : Int32))] [(.int (9 : Int32))])) _
  refine OGot.go (fun t k => XS.iconst X0.here hx rfl (hb hby d1_9) k) ?_
  show OGot p.tables e below (s₁.setTop (mkF m 10 #[.val (.int (9 : Int32))] [(.int (1 : Int32)), (.int (9 : Int32))])) _
  refine OGot.go (fun t k => XS.icmpYes X0.here hx rfl (pc0 := 10) (pc' := 17) rfl (hb hby d1_10) rfl (by decide) (by decide) (by decide) k) ?_
  show OGot p.tables e below (s₁.setTop (mkF m 17 #[.val (.int (9 : Int32))] [])) _
  refine OGot.go (fun t k => XS.iloadN X0.here hx rfl (hb hby d1_17) rfl k) ?_
  show OGot p.tables e below (s₁.setTop (mkF m 18 #[.val (.int (9 : Int32))] [(.int (9 : Int32))])) _
  refine OGot.go (fun t k => XS.iconst X0.here hx rfl (hb hby d1_18) k) ?_
  show OGot p.tables e below (s₁.setTop (mkF m 19 #[.val (.int (9 : Int32))] [(.int (2 : Int32)), (.int (9 : Int32))])) _
  refine OGot.go (fun t k => XS.icmpYes X0.here hx rfl (pc0 := 19) (pc' := 26) rfl (hb hby d1_19) rfl (by decide) (by decide) (by decide) k) ?_
  show OGot p.tables e below (s₁.setTop (mkF m 26 #[.val (.int (9 : Int32))] [])) _
  refine OGot.go (fun t k => XS.iloadN X0.here hx rfl (hb hby d1_26) rfl k) ?_
  show OGot p.tables e below (s₁.setTop (mkF m 27 #[.val (.int (9 : Int32))] [(.int (9 : Int32))])) _
  refine OGot.go (fun t k => XS.iconst X0.here hx rfl (hb hby d1_27) k) ?_
  show OGot p.tables e below (s₁.setTop (mkF m 28 #[.val (.int (9 : Int32))] [(.int (3 : Int32)), (.int (9 : Int32))])) _
  refine OGot.go (fun t k => XS.icmpYes X0.here hx rfl (pc0 := 28) (pc' := 35) rfl (hb hby d1_28) rfl (by decide) (by decide) (by decide) k) ?_
  show OGot p.tables e below (s₁.setTop (mkF m 35 #[.val (.int (9 : Int32))] [])) _
  refine OGot.go (fun t k => XS.iloadN X0.here hx rfl (hb hby d1_35) rfl k) ?_
  show OGot p.tables e below (s₁.setTop (mkF m 36 #[.val (.int (9 : Int32))] [(.int (9 : Int32))])) _
  refine OGot.go (fun t k => XS.iconst X0.here hx rfl (hb hby d1_36) k) ?_
  show OGot p.tables e below (s₁.setTop (mkF m 37 #[.val (.int (9 : Int32))] [(.int (4 : Int32)), (.int (9 : Int32))])) _
  refine OGot.go (fun t k => XS.icmpYes X0.here hx rfl (pc0 := 37) (pc' := 44) rfl (hb hby d1_37) rfl (by decide) (by decide) (by decide) k) ?_
  show OGot p.tables e below (s₁.setTop (mkF m 44 #[.val (.int (9 : Int32))] [])) _
  refine OGot.go (fun t k => XS.iloadN X0.here hx rfl (hb hby d1_44) rfl k) ?_
  show OGot p.tables e below (s₁.setTop (mkF m 45 #[.val (.int (9 : Int32))] [(.int (9 : Int32))])) _
  refine OGot.go (fun t k => XS.iconst X0.here hx rfl (hb hby d1_45) k) ?_
  show OGot p.tables e below (s₁.setTop (mkF m 46 #[.val (.int (9 : Int32))] [(.int (5 : Int32)), (.int (9 : Int32))])) _
  refine OGot.go (fun t k => XS.icmpYes X0.here hx rfl (pc0 := 46) (pc' := 53) rfl (hb hby d1_46) rfl (by decide) (by decide) (by decide) k) ?_
  show OGot p.tables e below (s₁.setTop (mkF m 53 #[.val (.int (9 : Int32))] [])) _
  refine OGot.go (fun t k => XS.iloadN X0.here hx rfl (hb hby d1_53) rfl k) ?_
  show OGot p.tables e below (s₁.setTop (mkF m 54 #[.val (.int (9 : Int32))] [(.int (9 : Int32))])) _
  refine OGot.go (fun t k => XS.bipush X0.here hx rfl (hb hby d1_54) k) ?_
  show OGot p.tables e below (s₁.setTop (mkF m 56 #[.val (.int (9 : Int32))] [(.int (6 : Int32)), (.int (9 : Int32))])) _
  refine OGot.go (fun t k => XS.icmpYes X0.here hx rfl (pc0 := 56) (pc' := 63) rfl (hb hby d1_56) rfl (by decide) (by decide) (by decide) k) ?_
  show OGot p.tables e below (s₁.setTop (mkF m 63 #[.val (.int (9 : Int32))] [])) _
  refine OGot.go (fun t k => XS.iloadN X0.here hx rfl (hb hby d1_63) rfl k) ?_
  show OGot p.tables e below (s₁.setTop (mkF m 64 #[.val (.int (9 : Int32))] [(.int (9 : Int32))])) _
  refine OGot.go (fun t k => XS.bipush X0.here hx rfl (hb hby d1_64) k) ?_
  show OGot p.tables e below (s₁.setTop (mkF m 66 #[.val (.int (9 : Int32))] [(.int (7 : Int32)), (.int (9 : Int32))])) _
  refine OGot.go (fun t k => XS.icmpYes X0.here hx rfl (pc0 := 66) (pc' := 73) rfl (hb hby d1_66) rfl (by decide) (by decide) (by decide) k) ?_
  show OGot p.tables e below (s₁.setTop (mkF m 73 #[.val (.int (9 : Int32))] [])) _
  refine OGot.go (fun t k => XS.iloadN X0.here hx rfl (hb hby d1_73) rfl k) ?_
  show OGot p.tables e below (s₁.setTop (mkF m 74 #[.val (.int (9 : Int32))] [(.int (9 : Int32))])) _
  refine OGot.go (fun t k => XS.bipush X0.here hx rfl (hb hby d1_74) k) ?_
  show OGot p.tables e below (s₁.setTop (mkF m 76 #[.val (.int (9 : Int32))] [(.int (8 : Int32)), (.int (9 : Int32))])) _
  refine OGot.go (fun t k => XS.icmpYes X0.here hx rfl (pc0 := 76) (pc' := 83) rfl (hb hby d1_76) rfl (by decide) (by decide) (by decide) k) ?_
  show OGot p.tables e below (s₁.setTop (mkF m 83 #[.val (.int (9 : Int32))] [])) _
  refine OGot.go (fun t k => XS.iloadN X0.here hx rfl (hb hby d1_83) rfl k) ?_
  show OGot p.tables e below (s₁.setTop (mkF m 84 #[.val (.int (9 : Int32))] [(.int (9 : Int32))])) _
  refine OGot.go (fun t k => XS.bipush X0.here hx rfl (hb hby d1_84) k) ?_
  show OGot p.tables e below (s₁.setTop (mkF m 86 #[.val (.int (9 : Int32))] [(.int (9 : Int32)), (.int (9 : Int32))])) _
  refine OGot.go (fun t k => XS.icmpNo X0.here hx rfl (hb hby d1_86) rfl (by decide) k) ?_
  show OGot p.tables e below (s₁.setTop (mkF m 89 #[.val (.int (9 : Int32))] [])) _
  obtain ⟨T1, X1, e1, st1⟩ := getS2 X0 hx hZ hown (host := "") (Or.inl (ow hw 50 rfl)) Via.refl e0 (G.2.2.2.2.2.2.2.2.2.2.2.2.2.2.2.2.2.2.2.2.2.2.2.2.2.2.2.2.1.ext O0.2) (g := (mkF m 89 #[.val (.int (9 : Int32))] [])) rfl (hb hby d1_89)
  refine OGot.go st1 ?_
  show OGot p.tables e below (T1.setTop (mkF m 92 #[.val (.int (9 : Int32))] [(.ref w_PARALLEL_GATEWAY)])) _
  obtain ⟨fs, hr, hrun, hended, hW, hsame⟩ := X1.leave (v := some (.ref w_PARALLEL_GATEWAY)) (fun h => by rw [Bd.returns] at h; cases h)
  refine ⟨_, _, oretA X1 hx Bd.returns rfl rfl (hb hby d1_92) hr, hrun, hended, _, _, rfl, ?_, ⟨_, rfl⟩, hW, hsame.mono (by decide) (by decide)⟩
  exact (⟨rfl, N0, e1⟩ : Q1_9 Z w_START_EVENT w_BOUNDARY_EVENT w_MESSAGE_BOUNDARY_EVENT w_TERMINATE_END_EVENT w_LINK_THROW_EVENT w_LINK_CATCH_EVENT w_RECEPTION w_END_EVENT w_EVENT_BASED_GATEWAY w_INCLUSIVE_GATEWAY w_EXCLUSIVE_GATEWAY w_MESSAGE_START_EVENT w_SUB_PROCESS w_ACTIVITY w_PARALLEL_GATEWAY  h0 n0 _ T1.heap _)
def Q2_9 (Z : State) (w_START_EVENT : Addr) (w_BOUNDARY_EVENT : Addr) (w_MESSAGE_BOUNDARY_EVENT : Addr) (w_TERMINATE_END_EVENT : Addr) (w_LINK_THROW_EVENT : Addr) (w_LINK_CATCH_EVENT : Addr) (w_RECEPTION : Addr) (w_END_EVENT : Addr) (w_EVENT_BASED_GATEWAY : Addr) (w_INCLUSIVE_GATEWAY : Addr) (w_EXCLUSIVE_GATEWAY : Addr) (w_MESSAGE_START_EVENT : Addr) (w_SUB_PROCESS : Addr) (w_ACTIVITY : Addr) (w_PARALLEL_GATEWAY : Addr)  (h0 : Heap) (n0 : Nat) (v : Option Value) (h : Heap) (L : List Loc) : Prop := v = some (.int (0 : Int32)) ∧ Fr n0 L ∧ h = h0
theorem ef2_9 (m : MethodId) (x0 : Addr) : entryFrame m #[(.ref x0)] 1 = mkF m 0 #[.val (.ref x0)] [] := by first | (simp [entryFrame, mkF, argsToLocals, Value.category]; done) | rfl
set_option maxRecDepth 65536 in
set_option maxHeartbeats 40000000 in
theorem rm2_9 (l : Launch) (Z : State) (a0 : Array Value) (hw : ∀ d ∈ tables_1, d.before a0 Z = true) (ws : List Jvm.Cond) {w_START_EVENT : Addr} {w_BOUNDARY_EVENT : Addr} {w_MESSAGE_BOUNDARY_EVENT : Addr} {w_TERMINATE_END_EVENT : Addr} {w_LINK_THROW_EVENT : Addr} {w_LINK_CATCH_EVENT : Addr} {w_RECEPTION : Addr} {w_END_EVENT : Addr} {w_EVENT_BASED_GATEWAY : Addr} {w_INCLUSIVE_GATEWAY : Addr} {w_EXCLUSIVE_GATEWAY : Addr} {w_MESSAGE_START_EVENT : Addr} {w_SUB_PROCESS : Addr} {w_ACTIVITY : Addr} {w_PARALLEL_GATEWAY : Addr} (G : Glob Z w_START_EVENT w_BOUNDARY_EVENT w_MESSAGE_BOUNDARY_EVENT w_TERMINATE_END_EVENT w_LINK_THROW_EVENT w_LINK_CATCH_EVENT w_RECEPTION w_END_EVENT w_EVENT_BASED_GATEWAY w_INCLUSIVE_GATEWAY w_EXCLUSIVE_GATEWAY w_MESSAGE_START_EVENT w_SUB_PROCESS w_ACTIVITY w_PARALLEL_GATEWAY)  (h0 : Heap) (n0 : Nat) (O0 : Old Z n0 h0) :
    MetFree l (⟨"com/example/chorale/chorale/FlowGraph$Kind", "attaches", "()Z"⟩ : MethodName) (head1 (Jvm.Cond.code (⟨"com/example/chorale/chorale/FlowGraph$Kind", "attaches", "()Z"⟩ : MethodName) prog_73_method_5_code 1 (some .boolean) :: ws) ({ frames := 0, cells := 0, slots := 0, locals := 0 } : Room)) (fun a U => a = #[(.ref w_PARALLEL_GATEWAY)] ∧ Z.Warmed39 U.vm ∧ U.heap = h0) (fun _ _ _ _ _ => True) (fun _ U o U' => ∃ v L, o = .returned v ∧ Q2_9 Z w_START_EVENT w_BOUNDARY_EVENT w_MESSAGE_BOUNDARY_EVENT w_TERMINATE_END_EVENT w_LINK_THROW_EVENT w_LINK_CATCH_EVENT w_RECEPTION w_END_EVENT w_EVENT_BASED_GATEWAY w_INCLUSIVE_GATEWAY w_EXCLUSIVE_GATEWAY w_MESSAGE_START_EVENT w_SUB_PROCESS w_ACTIVITY w_PARALLEL_GATEWAY  h0 n0 v U'.heap L ∧ FrameEnd U o U' L ({ frames := 0, cells := 0, slots := 0, locals := 0 } : Room).cells ({ frames := 0, cells := 0, slots := 0, locals := 0 } : Room).slots) := by
  refine MetFree.of_bodySF (plainFor_of_name pn_com_example_chorale_chorale_FlowGraph_Kind) hisR ?_
  intro p e s m args below meth c s₁ Bd hml0 hP hK
  obtain ⟨rfl, hZ, hh⟩ := hP
  have hx := Bd.exec
  have hby := Bd.bytes
  have hml : c.maxLocals = 1 := hml0
  have hown : s.vm.findClass "com/example/chorale/chorale/FlowGraph$Kind" = some m.cls := findClass_of_methodNamed Bd.named
  have hnm := (name_of_methodNamed Bd.named Bd.method).1
  have X0 : Stand p l e ({ frames := 0, cells := 0, slots := 0, locals := 0 } : Room) s m #[(.ref w_PARALLEL_GATEWAY)] below meth c s₁ [] 0 0 := Stand.of_body Bd
  have e0 : s₁.heap = h0 := by rw [← hh, Bd.state]; rfl
  have N0 := Fr.nil n0
  show OGot p.tables e below (s₁.setTop (entryFrame m #[(.ref w_PARALLEL_GATEWAY)] 1)) _
  refine OGot.go (fun t k => castTop (ef2_9 m w_PARALLEL_GATEWAY) k) ?_
  show OGot p.tables e below (s₁.setTop (mkF m 0 #[.val (.ref w_PARALLEL_GATEWAY)] [])) _
  refine OGot.go (fun t k => XS.aloadN X0.here hx rfl (hb hby d2_0) rfl rfl k) ?_
  show OGot p.tables e below (s₁.setTop (mkF m 1 #[.val (.ref w_PARALLEL_GATEWAY)] [(.ref w_PARALLEL_GATEWAY)])) _
  obtain ⟨T2, X2, e2, st2⟩ := getS2 X0 hx hZ hown (host := "") (Or.inl (ow hw 13 rfl)) Via.refl e0 (G.2.2.1.ext O0.2) (g := (mkF m 1 #[.val (.ref w_PARALLEL_GATEWAY)] [(.ref w_PARALLEL_GATEWAY)])) rfl (hb hby d2_1)
  refine OGot.go st2 ?_
  show OGot p.tables e below (T2.setTop (mkF m 4 #[.val (.ref w_PARALLEL_GATEWAY)] [(.ref w_BOUNDARY_EVENT), (.ref w_PARALLEL_GATEWAY)])) _
  have ne3 : w_PARALLEL_GATEWAY ≠ w_BOUNDARY_EVENT := (Fld.ne G.2.2.2.2.2.2.2.2.2.2.2.2.2.2.2.2.2.2.2.2.2.2.2.2.2.2.2.2.2.2.2.2.2.2.2.2.2.2.2.2.2.2.2.2 G.2.2.2.2.2.2.2.2.2.2.2.2.2.2.2.2.2.2.2.2.2.2.2.2.2.2.2.2.2.2.2.1 (by decide))
  refine OGot.go (fun t k => Jvm.RoadKit.acmp (g := (mkF m 4 #[.val (.ref w_PARALLEL_GATEWAY)] [(.ref w_BOUNDARY_EVENT), (.ref w_PARALLEL_GATEWAY)])) X2 hx rfl rfl rfl (pc0 := 4) (pc' := 7) (same := false) rfl (hb hby d2_4) rfl (decide_eq_false fun q => ne3 (Value.ref.inj q)) (by decide) (by decide) k) ?_
  show OGot p.tables e below (T2.setTop (mkF m 7 #[.val (.ref w_PARALLEL_GATEWAY)] [])) _
  refine OGot.go (fun t k => XS.aloadN X2.here hx rfl (hb hby d2_7) rfl rfl k) ?_
  show OGot p.tables e below (T2.setTop (mkF m 8 #[.val (.ref w_PARALLEL_GATEWAY)] [(.ref w_PARALLEL_GATEWAY)])) _
  obtain ⟨T4, X4, e4, st4⟩ := getS2 X2 hx hZ hown (host := "") (Or.inl (ow hw 15 rfl)) Via.refl e2 (G.2.2.2.2.1.ext O0.2) (g := (mkF m 8 #[.val (.ref w_PARALLEL_GATEWAY)] [(.ref w_PARALLEL_GATEWAY)])) rfl (hb hby d2_8)
  refine OGot.go st4 ?_
  show OGot p.tables e below (T4.setTop (mkF m 11 #[.val (.ref w_PARALLEL_GATEWAY)] [(.ref w_MESSAGE_BOUNDARY_EVENT), (.ref w_PARALLEL_GATEWAY)])) _
  have ne5 : w_PARALLEL_GATEWAY ≠ w_MESSAGE_BOUNDARY_EVENT := (Fld.ne G.2.2.2.2.2.2.2.2.2.2.2.2.2.2.2.2.2.2.2.2.2.2.2.2.2.2.2.2.2.2.2.2.2.2.2.2.2.2.2.2.2.2.2.2 G.2.2.2.2.2.2.2.2.2.2.2.2.2.2.2.2.2.2.2.2.2.2.2.2.2.2.2.2.2.2.2.2.1 (by decide))
  refine OGot.go (fun t k => Jvm.RoadKit.acmp (g := (mkF m 11 #[.val (.ref w_PARALLEL_GATEWAY)] [(.ref w_MESSAGE_BOUNDARY_EVENT), (.ref w_PARALLEL_GATEWAY)])) X4 hx rfl rfl rfl (pc0 := 11) (pc' := 18) (same := false) rfl (hb hby d2_11) rfl (decide_eq_false fun q => ne5 (Value.ref.inj q)) (by decide) (by decide) k) ?_
  show OGot p.tables e below (T4.setTop (mkF m 18 #[.val (.ref w_PARALLEL_GATEWAY)] [])) _
  refine OGot.go (fun t k => XS.iconst X4.here hx rfl (hb hby d2_18) k) ?_
  show OGot p.tables e below (T4.setTop (mkF m 19 #[.val (.ref w_PARALLEL_GATEWAY)] [(.int (0 : Int32))])) _
  obtain ⟨fs, hr, hrun, hended, hW, hsame⟩ := X4.leave (v := some (.int (0 : Int32))) (fun h => by rw [Bd.returns] at h; cases h)
  refine ⟨_, _, retN X4 hx (t := .boolean) Bd.returns (by simp) (hb hby d2_19) hr, hrun, hended, _, _, rfl, ?_, ⟨_, rfl⟩, hW, hsame.mono (by decide) (by decide)⟩
  exact (⟨rfl, N0, e4⟩ : Q2_9 Z w_START_EVENT w_BOUNDARY_EVENT w_MESSAGE_BOUNDARY_EVENT w_TERMINATE_END_EVENT w_LINK_THROW_EVENT w_LINK_CATCH_EVENT w_RECEPTION w_END_EVENT w_EVENT_BASED_GATEWAY w_INCLUSIVE_GATEWAY w_EXCLUSIVE_GATEWAY w_MESSAGE_START_EVENT w_SUB_PROCESS w_ACTIVITY w_PARALLEL_GATEWAY  h0 n0 _ T4.heap _)
def Q3_9 (Z : State) (w_START_EVENT : Addr) (w_BOUNDARY_EVENT : Addr) (w_MESSAGE_BOUNDARY_EVENT : Addr) (w_TERMINATE_END_EVENT : Addr) (w_LINK_THROW_EVENT : Addr) (w_LINK_CATCH_EVENT : Addr) (w_RECEPTION : Addr) (w_END_EVENT : Addr) (w_EVENT_BASED_GATEWAY : Addr) (w_INCLUSIVE_GATEWAY : Addr) (w_EXCLUSIVE_GATEWAY : Addr) (w_MESSAGE_START_EVENT : Addr) (w_SUB_PROCESS : Addr) (w_ACTIVITY : Addr) (w_PARALLEL_GATEWAY : Addr)  (h0 : Heap) (n0 : Nat) (v : Option Value) (h : Heap) (L : List Loc) : Prop := v = some (.int (0 : Int32)) ∧ Fr n0 L ∧ h = h0
theorem ef3_9 (m : MethodId)  : entryFrame m #[(.int (9 : Int32))] 2 = mkF m 0 #[.val (.int (9 : Int32)), .unset] [] := by first | (simp [entryFrame, mkF, argsToLocals, Value.category]; done) | rfl
set_option maxRecDepth 65536 in
set_option maxHeartbeats 40000000 in
theorem rm3_9 (l : Launch) (Z : State) (a0 : Array Value) (hw : ∀ d ∈ tables_1, d.before a0 Z = true) (ws : List Jvm.Cond) {w_START_EVENT : Addr} {w_BOUNDARY_EVENT : Addr} {w_MESSAGE_BOUNDARY_EVENT : Addr} {w_TERMINATE_END_EVENT : Addr} {w_LINK_THROW_EVENT : Addr} {w_LINK_CATCH_EVENT : Addr} {w_RECEPTION : Addr} {w_END_EVENT : Addr} {w_EVENT_BASED_GATEWAY : Addr} {w_INCLUSIVE_GATEWAY : Addr} {w_EXCLUSIVE_GATEWAY : Addr} {w_MESSAGE_START_EVENT : Addr} {w_SUB_PROCESS : Addr} {w_ACTIVITY : Addr} {w_PARALLEL_GATEWAY : Addr} (G : Glob Z w_START_EVENT w_BOUNDARY_EVENT w_MESSAGE_BOUNDARY_EVENT w_TERMINATE_END_EVENT w_LINK_THROW_EVENT w_LINK_CATCH_EVENT w_RECEPTION w_END_EVENT w_EVENT_BASED_GATEWAY w_INCLUSIVE_GATEWAY w_EXCLUSIVE_GATEWAY w_MESSAGE_START_EVENT w_SUB_PROCESS w_ACTIVITY w_PARALLEL_GATEWAY)  (h0 : Heap) (n0 : Nat) (O0 : Old Z n0 h0) :
    MetFree l (⟨"com/example/chorale/chorale/KindAttachesPinLaw", "isBoundaryIndex", "(I)Z"⟩ : MethodName) (head1 (Jvm.Cond.code (⟨"com/example/chorale/chorale/KindAttachesPinLaw", "isBoundaryIndex", "(I)Z"⟩ : MethodName) method_3_code 2 (some .boolean) :: ws) ({ frames := 0, cells := 0, slots := 0, locals := 0 } : Room)) (fun a U => a = #[(.int (9 : Int32))] ∧ Z.Warmed39 U.vm ∧ U.heap = h0) (fun _ _ _ _ _ => True) (fun _ U o U' => ∃ v L, o = .returned v ∧ Q3_9 Z w_START_EVENT w_BOUNDARY_EVENT w_MESSAGE_BOUNDARY_EVENT w_TERMINATE_END_EVENT w_LINK_THROW_EVENT w_LINK_CATCH_EVENT w_RECEPTION w_END_EVENT w_EVENT_BASED_GATEWAY w_INCLUSIVE_GATEWAY w_EXCLUSIVE_GATEWAY w_MESSAGE_START_EVENT w_SUB_PROCESS w_ACTIVITY w_PARALLEL_GATEWAY  h0 n0 v U'.heap L ∧ FrameEnd U o U' L ({ frames := 0, cells := 0, slots := 0, locals := 0 } : Room).cells ({ frames := 0, cells := 0, slots := 0, locals := 0 } : Room).slots) := by
  refine MetFree.of_bodySF (plainFor_of_name pn_com_example_chorale_chorale_KindAttachesPinLaw) hisR ?_
  intro p e s m args below meth c s₁ Bd hml0 hP hK
  obtain ⟨rfl, hZ, hh⟩ := hP
  have hx := Bd.exec
  have hby := Bd.bytes
  have hml : c.maxLocals = 2 := hml0
  have hown : s.vm.findClass "com/example/chorale/chorale/KindAttachesPinLaw" = some m.cls := findClass_of_methodNamed Bd.named
  have hnm := (name_of_methodNamed Bd.named Bd.method).1
  have X0 : Stand p l e ({ frames := 0, cells := 0, slots := 0, locals := 0 } : Room) s m #[(.int (9 : Int32))] below meth c s₁ [] 0 0 := Stand.of_body Bd
  have e0 : s₁.heap = h0 := by rw [← hh, Bd.state]; rfl
  have N0 := Fr.nil n0
  show OGot p.tables e below (s₁.setTop (entryFrame m #[(.int (9 : Int32))] 2)) _
  refine OGot.go (fun t k => castTop (ef3_9 m ) k) ?_
  show OGot p.tables e below (s₁.setTop (mkF m 0 #[.val (.int (9 : Int32)), .unset] [])) _
  refine OGot.go (fun t k => XS.iconst X0.here hx rfl (hb hby d3_0) k) ?_
  show OGot p.tables e below (s₁.setTop (mkF m 1 #[.val (.int (9 : Int32)), .unset] [(.int (0 : Int32))])) _
  refine OGot.go (fun t k => XS.istoreN X0.here hx rfl (hb hby d3_1) rfl (l' := #[.val (.int (9 : Int32)), .val (.int (0 : Int32))]) rfl k) ?_
  show OGot p.tables e below (s₁.setTop (mkF m 2 #[.val (.int (9 : Int32)), .val (.int (0 : Int32))] [])) _
  refine OGot.go (fun t k => XS.iloadN X0.here hx rfl (hb hby d3_2) rfl k) ?_
  show OGot p.tables e below (s₁.setTop (mkF m 3 #[.val (.int (9 : Int32)), .val (.int (0 : Int32))] [(.int (9 : Int32))])) _
  refine OGot.go (fun t k => XS.bipush X0.here hx rfl (hb hby d3_3) k) ?_
  show OGot p.tables e below (s₁.setTop (mkF m 5 #[.val (.int (9 : Int32)), .val (.int (0 : Int32))] [(.int (13 : Int32)), (.int (9 : Int32))])) _
  refine OGot.go (fun t k => XS.icmpYes X0.here hx rfl (pc0 := 5) (pc' := 10) rfl (hb hby d3_5) rfl (by decide) (by decide) (by decide) k) ?_
  show OGot p.tables e below (s₁.setTop (mkF m 10 #[.val (.int (9 : Int32)), .val (.int (0 : Int32))] [])) _
  refine OGot.go (fun t k => XS.iloadN X0.here hx rfl (hb hby d3_10) rfl k) ?_
  show OGot p.tables e below (s₁.setTop (mkF m 11 #[.val (.int (9 : Int32)), .val (.int (0 : Int32))] [(.int (9 : Int32))])) _
  refine OGot.go (fun t k => XS.bipush X0.here hx rfl (hb hby d3_11) k) ?_
  show OGot p.tables e below (s₁.setTop (mkF m 13 #[.val (.int (9 : Int32)), .val (.int (0 : Int32))] [(.int (14 : Int32)), (.int (9 : Int32))])) _
  refine OGot.go (fun t k => XS.icmpYes X0.here hx rfl (pc0 := 13) (pc' := 18) rfl (hb hby d3_13) rfl (by decide) (by decide) (by decide) k) ?_
  show OGot p.tables e below (s₁.setTop (mkF m 18 #[.val (.int (9 : Int32)), .val (.int (0 : Int32))] [])) _
  refine OGot.go (fun t k => XS.iloadN X0.here hx rfl (hb hby d3_18) rfl k) ?_
  show OGot p.tables e below (s₁.setTop (mkF m 19 #[.val (.int (9 : Int32)), .val (.int (0 : Int32))] [(.int (0 : Int32))])) _
  obtain ⟨fs, hr, hrun, hended, hW, hsame⟩ := X0.leave (v := some (.int (0 : Int32))) (fun h => by rw [Bd.returns] at h; cases h)
  refine ⟨_, _, retN X0 hx (t := .boolean) Bd.returns (by simp) (hb hby d3_19) hr, hrun, hended, _, _, rfl, ?_, ⟨_, rfl⟩, hW, hsame.mono (by decide) (by decide)⟩
  exact (⟨rfl, N0, e0⟩ : Q3_9 Z w_START_EVENT w_BOUNDARY_EVENT w_MESSAGE_BOUNDARY_EVENT w_TERMINATE_END_EVENT w_LINK_THROW_EVENT w_LINK_CATCH_EVENT w_RECEPTION w_END_EVENT w_EVENT_BASED_GATEWAY w_INCLUSIVE_GATEWAY w_EXCLUSIVE_GATEWAY w_MESSAGE_START_EVENT w_SUB_PROCESS w_ACTIVITY w_PARALLEL_GATEWAY  h0 n0 _ s₁.heap _)
theorem d1_93 : decode method_2_code 93 = .ok (.iload_n 0, 1) := by decide +kernel
theorem d1_94 : decode method_2_code 94 = .ok (.bipush 10, 2) := by decide +kernel
theorem d1_96 : decode method_2_code 96 = .ok (.if_icmp .ne 7, 3) := by decide +kernel
theorem d1_99 : decode method_2_code 99 = .ok (.getstatic 40, 3) := by decide +kernel
theorem d1_102 : decode method_2_code 102 = .ok (.areturn, 1) := by decide +kernel
def Q1_10 (Z : State) (w_START_EVENT : Addr) (w_BOUNDARY_EVENT : Addr) (w_MESSAGE_BOUNDARY_EVENT : Addr) (w_TERMINATE_END_EVENT : Addr) (w_LINK_THROW_EVENT : Addr) (w_LINK_CATCH_EVENT : Addr) (w_RECEPTION : Addr) (w_END_EVENT : Addr) (w_EVENT_BASED_GATEWAY : Addr) (w_INCLUSIVE_GATEWAY : Addr) (w_EXCLUSIVE_GATEWAY : Addr) (w_MESSAGE_START_EVENT : Addr) (w_SUB_PROCESS : Addr) (w_ACTIVITY : Addr) (w_PARALLEL_GATEWAY : Addr)  (h0 : Heap) (n0 : Nat) (v : Option Value) (h : Heap) (L : List Loc) : Prop := v = some (.ref w_INCLUSIVE_GATEWAY) ∧ Fr n0 L ∧ h = h0
theorem ef1_10 (m : MethodId)  : entryFrame m #[(.int (10 : Int32))] 1 = mkF m 0 #[.val (.int (10 : Int32))] [] := by first | (simp [entryFrame, mkF, argsToLocals, Value.category]; done) | rfl
set_option maxRecDepth 65536 in
set_option maxHeartbeats 40000000 in
theorem rm1_10 (l : Launch) (Z : State) (a0 : Array Value) (hw : ∀ d ∈ tables_1, d.before a0 Z = true) (ws : List Jvm.Cond) {w_START_EVENT : Addr} {w_BOUNDARY_EVENT : Addr} {w_MESSAGE_BOUNDARY_EVENT : Addr} {w_TERMINATE_END_EVENT : Addr} {w_LINK_THROW_EVENT : Addr} {w_LINK_CATCH_EVENT : Addr} {w_RECEPTION : Addr} {w_END_EVENT : Addr} {w_EVENT_BASED_GATEWAY : Addr} {w_INCLUSIVE_GATEWAY : Addr} {w_EXCLUSIVE_GATEWAY : Addr} {w_MESSAGE_START_EVENT : Addr} {w_SUB_PROCESS : Addr} {w_ACTIVITY : Addr} {w_PARALLEL_GATEWAY : Addr} (G : Glob Z w_START_EVENT w_BOUNDARY_EVENT w_MESSAGE_BOUNDARY_EVENT w_TERMINATE_END_EVENT w_LINK_THROW_EVENT w_LINK_CATCH_EVENT w_RECEPTION w_END_EVENT w_EVENT_BASED_GATEWAY w_INCLUSIVE_GATEWAY w_EXCLUSIVE_GATEWAY w_MESSAGE_START_EVENT w_SUB_PROCESS w_ACTIVITY w_PARALLEL_GATEWAY)  (h0 : Heap) (n0 : Nat) (O0 : Old Z n0 h0) :
    MetFree l (⟨"com/example/chorale/chorale/KindAttachesPinLaw", "kindAt", "(I)Lcom/example/chorale/chorale/FlowGraph$Kind;"⟩ : MethodName) (head1 (Jvm.Cond.code (⟨"com/example/chorale/chorale/KindAttachesPinLaw", "kindAt", "(I)Lcom/example/chorale/chorale/FlowGraph$Kind;"⟩ : MethodName) method_2_code 1 (some (.object "com/example/chorale/chorale/FlowGraph$Kind")) :: ws) ({ frames := 0, cells := 0, slots := 0, locals := 0 } : Room)) (fun a U => a = #[(.int (10 : Int32))] ∧ Z.Warmed39 U.vm ∧ U.heap = h0) (fun _ _ _ _ _ => True) (fun _ U o U' => ∃ v L, o = .returned v ∧ Q1_10 Z w_START_EVENT w_BOUNDARY_EVENT w_MESSAGE_BOUNDARY_EVENT w_TERMINATE_END_EVENT w_LINK_THROW_EVENT w_LINK_CATCH_EVENT w_RECEPTION w_END_EVENT w_EVENT_BASED_GATEWAY w_INCLUSIVE_GATEWAY w_EXCLUSIVE_GATEWAY w_MESSAGE_START_EVENT w_SUB_PROCESS w_ACTIVITY w_PARALLEL_GATEWAY  h0 n0 v U'.heap L ∧ FrameEnd U o U' L ({ frames := 0, cells := 0, slots := 0, locals := 0 } : Room).cells ({ frames := 0, cells := 0, slots := 0, locals := 0 } : Room).slots) := by
  refine MetFree.of_bodySF (plainFor_of_name pn_com_example_chorale_chorale_KindAttachesPinLaw) hisR ?_
  intro p e s m args below meth c s₁ Bd hml0 hP hK
  obtain ⟨rfl, hZ, hh⟩ := hP
  have hx := Bd.exec
  have hby := Bd.bytes
  have hml : c.maxLocals = 1 := hml0
  have hown : s.vm.findClass "com/example/chorale/chorale/KindAttachesPinLaw" = some m.cls := findClass_of_methodNamed Bd.named
  have hnm := (name_of_methodNamed Bd.named Bd.method).1
  have X0 : Stand p l e ({ frames := 0, cells := 0, slots := 0, locals := 0 } : Room) s m #[(.int (10 : Int32))] below meth c s₁ [] 0 0 := Stand.of_body Bd
  have e0 : s₁.heap = h0 := by rw [← hh, Bd.state]; rfl
  have N0 := Fr.nil n0
  show OGot p.tables e below (s₁.setTop (entryFrame m #[(.int (10 : Int32))] 1)) _
  refine OGot.go (fun t k => castTop (ef1_10 m ) k) ?_
  show OGot p.tables e below (s₁.setTop (mkF m 0 #[.val (.int (10 : Int32))] [])) _
  refine OGot.go (fun t k => XS.iloadN X0.here hx rfl (hb hby d1_0) rfl k) ?_
  show OGot p.tables e below (s₁.setTop (mkF m 1 #[.val (.int (10 : Int32))] [(.int (10 : Int32))])) _
  refine OGot.go (fun t k => XS.ifYes X0.here hx rfl (pc0 := 1) (pc' := 8) rfl (hb hby d1_1) rfl (by decide) (by decide) (by decide) k) ?_
  show OGot p.tables e below (s₁.setTop (mkF m 8 #[.val (.int (10 : Int32))] [])) _
  refine OGot.go (fun t k => XS.iloadN X0.here hx rfl (hb hby d1_8) rfl k) ?_
  show OGot p.tables e below (s₁.setTop (mkF m 9 #[.val (.int (10 : Int32))] [(.int (10 : Int32))])) _
  refine OGot.go (fun t k => XS.iconst X0.here hx rfl (hb hby d1_9) k) ?_
  show OGot p.tables e below (s₁.setTop (mkF m 10 #[.val (.int (10 : Int32))] [(.int (1 : Int32)), (.int (10 : Int32))])) _
  refine OGot.go (fun t k => XS.icmpYes X0.here hx rfl (pc0 := 10) (pc' := 17) rfl (hb hby d1_10) rfl (by decide) (by decide) (by decide) k) ?_
  show OGot p.tables e below (s₁.setTop (mkF m 17 #[.val (.int (10 : Int32))] [])) _
  refine OGot.go (fun t k => XS.iloadN X0.here hx rfl (hb hby d1_17) rfl k) ?_
  show OGot p.tables e below (s₁.setTop (mkF m 18 #[.val (.int (10 : Int32))] [(.int (10 : Int32))])) _
  refine OGot.go (fun t k => XS.iconst X0.here hx rfl (hb hby d1_18) k) ?_
  show OGot p.tables e below (s₁.setTop (mkF m 19 #[.val (.int (10 : Int32))] [(.int (2 : Int32)), (.int (10 : Int32))])) _
  refine OGot.go (fun t k => XS.icmpYes X0.here hx rfl (pc0 := 19) (pc' := 26) rfl (hb hby d1_19) rfl (by decide) (by decide) (by decide) k) ?_
  show OGot p.tables e below (s₁.setTop (mkF m 26 #[.val (.int (10 : Int32))] [])) _
  refine OGot.go (fun t k => XS.iloadN X0.here hx rfl (hb hby d1_26) rfl k) ?_
  show OGot p.tables e below (s₁.setTop (mkF m 27 #[.val (.int (10 : Int32))] [(.int (10 : Int32))])) _
  refine OGot.go (fun t k => XS.iconst X0.here hx rfl (hb hby d1_27) k) ?_
  show OGot p.tables e below (s₁.setTop (mkF m 28 #[.val (.int (10 : Int32))] [(.int (3 : Int32)), (.int (10 : Int32))])) _
  refine OGot.go (fun t k => XS.icmpYes X0.here hx rfl (pc0 := 28) (pc' := 35) rfl (hb hby d1_28) rfl (by decide) (by decide) (by decide) k) ?_
  show OGot p.tables e below (s₁.setTop (mkF m 35 #[.val (.int (10 : Int32))] [])) _
  refine OGot.go (fun t k => XS.iloadN X0.here hx rfl (hb hby d1_35) rfl k) ?_
  show OGot p.tables e below (s₁.setTop (mkF m 36 #[.val (.int (10 : Int32))] [(.int (10 : Int32))])) _
  refine OGot.go (fun t k => XS.iconst X0.here hx rfl (hb hby d1_36) k) ?_
  show OGot p.tables e below (s₁.setTop (mkF m 37 #[.val (.int (10 : Int32))] [(.int (4 : Int32)), (.int (10 : Int32))])) _
  refine OGot.go (fun t k => XS.icmpYes X0.here hx rfl (pc0 := 37) (pc' := 44) rfl (hb hby d1_37) rfl (by decide) (by decide) (by decide) k) ?_
  show OGot p.tables e below (s₁.setTop (mkF m 44 #[.val (.int (10 : Int32))] [])) _
  refine OGot.go (fun t k => XS.iloadN X0.here hx rfl (hb hby d1_44) rfl k) ?_
  show OGot p.tables e below (s₁.setTop (mkF m 45 #[.val (.int (10 : Int32))] [(.int (10 : Int32))])) _
  refine OGot.go (fun t k => XS.iconst X0.here hx rfl (hb hby d1_45) k) ?_
  show OGot p.tables e below (s₁.setTop (mkF m 46 #[.val (.int (10 : Int32))] [(.int (5 : Int32)), (.int (10 : Int32))])) _
  refine OGot.go (fun t k => XS.icmpYes X0.here hx rfl (pc0 := 46) (pc' := 53) rfl (hb hby d1_46) rfl (by decide) (by decide) (by decide) k) ?_
  show OGot p.tables e below (s₁.setTop (mkF m 53 #[.val (.int (10 : Int32))] [])) _
  refine OGot.go (fun t k => XS.iloadN X0.here hx rfl (hb hby d1_53) rfl k) ?_
  show OGot p.tables e below (s₁.setTop (mkF m 54 #[.val (.int (10 : Int32))] [(.int (10 : Int32))])) _
  refine OGot.go (fun t k => XS.bipush X0.here hx rfl (hb hby d1_54) k) ?_
  show OGot p.tables e below (s₁.setTop (mkF m 56 #[.val (.int (10 : Int32))] [(.int (6 : Int32)), (.int (10 : Int32))])) _
  refine OGot.go (fun t k => XS.icmpYes X0.here hx rfl (pc0 := 56) (pc' := 63) rfl (hb hby d1_56) rfl (by decide) (by decide) (by decide) k) ?_
  show OGot p.tables e below (s₁.setTop (mkF m 63 #[.val (.int (10 : Int32))] [])) _
  refine OGot.go (fun t k => XS.iloadN X0.here hx rfl (hb hby d1_63) rfl k) ?_
  show OGot p.tables e below (s₁.setTop (mkF m 64 #[.val (.int (10 : Int32))] [(.int (10 : Int32))])) _
  refine OGot.go (fun t k => XS.bipush X0.here hx rfl (hb hby d1_64) k) ?_
  show OGot p.tables e below (s₁.setTop (mkF m 66 #[.val (.int (10 : Int32))] [(.int (7 : Int32)), (.int (10 : Int32))])) _
  refine OGot.go (fun t k => XS.icmpYes X0.here hx rfl (pc0 := 66) (pc' := 73) rfl (hb hby d1_66) rfl (by decide) (by decide) (by decide) k) ?_
  show OGot p.tables e below (s₁.setTop (mkF m 73 #[.val (.int (10 : Int32))] [])) _
  refine OGot.go (fun t k => XS.iloadN X0.here hx rfl (hb hby d1_73) rfl k) ?_
  show OGot p.tables e below (s₁.setTop (mkF m 74 #[.val (.int (10 : Int32))] [(.int (10 : Int32))])) _
  refine OGot.go (fun t k => XS.bipush X0.here hx rfl (hb hby d1_74) k) ?_
  show OGot p.tables e below (s₁.setTop (mkF m 76 #[.val (.int (10 : Int32))] [(.int (8 : Int32)), (.int (10 : Int32))])) _
  refine OGot.go (fun t k => XS.icmpYes X0.here hx rfl (pc0 := 76) (pc' := 83) rfl (hb hby d1_76) rfl (by decide) (by decide) (by decide) k) ?_
  show OGot p.tables e below (s₁.setTop (mkF m 83 #[.val (.int (10 : Int32))] [])) _
  refine OGot.go (fun t k => XS.iloadN X0.here hx rfl (hb hby d1_83) rfl k) ?_
  show OGot p.tables e below (s₁.setTop (mkF m 84 #[.val (.int (10 : Int32))] [(.int (10 : Int32))])) _
  refine OGot.go (fun t k => XS.bipush X0.here hx rfl (hb hby d1_84) k) ?_
  show OGot p.tables e below (s₁.setTop (mkF m 86 #[.val (.int (10 : Int32))] [(.int (9 : Int32)), (.int (10 : Int32))])) _
  refine OGot.go (fun t k => XS.icmpYes X0.here hx rfl (pc0 := 86) (pc' := 93) rfl (hb hby d1_86) rfl (by decide) (by decide) (by decide) k) ?_
  show OGot p.tables e below (s₁.setTop (mkF m 93 #[.val (.int (10 : Int32))] [])) _
  refine OGot.go (fun t k => XS.iloadN X0.here hx rfl (hb hby d1_93) rfl k) ?_
  show OGot p.tables e below (s₁.setTop (mkF m 94 #[.val (.int (10 : Int32))] [(.int (10 : Int32))])) _
  refine OGot.go (fun t k => XS.bipush X0.here hx rfl (hb hby d1_94) k) ?_
  show OGot p.tables e below (s₁.setTop (mkF m 96 #[.val (.int (10 : Int32))] [(.int (10 : Int32)), (.int (10 : Int32))])) _
  refine OGot.go (fun t k => XS.icmpNo X0.here hx rfl (hb hby d1_96) rfl (by decide) k) ?_
  show OGot p.tables e below (s₁.setTop (mkF m 99 #[.val (.int (10 : Int32))] [])) _
  obtain ⟨T1, X1, e1, st1⟩ := getS2 X0 hx hZ hown (host := "") (Or.inl (ow hw 40 rfl)) Via.refl e0 (G.2.2.2.2.2.2.2.2.2.2.2.2.2.2.2.2.2.2.1.ext O0.2) (g := (mkF m 99 #[.val (.int (10 : Int32))] [])) rfl (hb hby d1_99)
  refine OGot.go st1 ?_
  show OGot p.tables e below (T1.setTop (mkF m 102 #[.val (.int (10 : Int32))] [(.ref w_INCLUSIVE_GATEWAY)])) _
  obtain ⟨fs, hr, hrun, hended, hW, hsame⟩ := X1.leave (v := some (.ref w_INCLUSIVE_GATEWAY)) (fun h => by rw [Bd.returns] at h; cases h)
  refine ⟨_, _, oretA X1 hx Bd.returns rfl rfl (hb hby d1_102) hr, hrun, hended, _, _, rfl, ?_, ⟨_, rfl⟩, hW, hsame.mono (by decide) (by decide)⟩
  exact (⟨rfl, N0, e1⟩ : Q1_10 Z w_START_EVENT w_BOUNDARY_EVENT w_MESSAGE_BOUNDARY_EVENT w_TERMINATE_END_EVENT w_LINK_THROW_EVENT w_LINK_CATCH_EVENT w_RECEPTION w_END_EVENT w_EVENT_BASED_GATEWAY w_INCLUSIVE_GATEWAY w_EXCLUSIVE_GATEWAY w_MESSAGE_START_EVENT w_SUB_PROCESS w_ACTIVITY w_PARALLEL_GATEWAY  h0 n0 _ T1.heap _)
def Q2_10 (Z : State) (w_START_EVENT : Addr) (w_BOUNDARY_EVENT : Addr) (w_MESSAGE_BOUNDARY_EVENT : Addr) (w_TERMINATE_END_EVENT : Addr) (w_LINK_THROW_EVENT : Addr) (w_LINK_CATCH_EVENT : Addr) (w_RECEPTION : Addr) (w_END_EVENT : Addr) (w_EVENT_BASED_GATEWAY : Addr) (w_INCLUSIVE_GATEWAY : Addr) (w_EXCLUSIVE_GATEWAY : Addr) (w_MESSAGE_START_EVENT : Addr) (w_SUB_PROCESS : Addr) (w_ACTIVITY : Addr) (w_PARALLEL_GATEWAY : Addr)  (h0 : Heap) (n0 : Nat) (v : Option Value) (h : Heap) (L : List Loc) : Prop := v = some (.int (0 : Int32)) ∧ Fr n0 L ∧ h = h0
theorem ef2_10 (m : MethodId) (x0 : Addr) : entryFrame m #[(.ref x0)] 1 = mkF m 0 #[.val (.ref x0)] [] := by first | (simp [entryFrame, mkF, argsToLocals, Value.category]; done) | rfl
set_option maxRecDepth 65536 in
set_option maxHeartbeats 40000000 in
theorem rm2_10 (l : Launch) (Z : State) (a0 : Array Value) (hw : ∀ d ∈ tables_1, d.before a0 Z = true) (ws : List Jvm.Cond) {w_START_EVENT : Addr} {w_BOUNDARY_EVENT : Addr} {w_MESSAGE_BOUNDARY_EVENT : Addr} {w_TERMINATE_END_EVENT : Addr} {w_LINK_THROW_EVENT : Addr} {w_LINK_CATCH_EVENT : Addr} {w_RECEPTION : Addr} {w_END_EVENT : Addr} {w_EVENT_BASED_GATEWAY : Addr} {w_INCLUSIVE_GATEWAY : Addr} {w_EXCLUSIVE_GATEWAY : Addr} {w_MESSAGE_START_EVENT : Addr} {w_SUB_PROCESS : Addr} {w_ACTIVITY : Addr} {w_PARALLEL_GATEWAY : Addr} (G : Glob Z w_START_EVENT w_BOUNDARY_EVENT w_MESSAGE_BOUNDARY_EVENT w_TERMINATE_END_EVENT w_LINK_THROW_EVENT w_LINK_CATCH_EVENT w_RECEPTION w_END_EVENT w_EVENT_BASED_GATEWAY w_INCLUSIVE_GATEWAY w_EXCLUSIVE_GATEWAY w_MESSAGE_START_EVENT w_SUB_PROCESS w_ACTIVITY w_PARALLEL_GATEWAY)  (h0 : Heap) (n0 : Nat) (O0 : Old Z n0 h0) :
    MetFree l (⟨"com/example/chorale/chorale/FlowGraph$Kind", "attaches", "()Z"⟩ : MethodName) (head1 (Jvm.Cond.code (⟨"com/example/chorale/chorale/FlowGraph$Kind", "attaches", "()Z"⟩ : MethodName) prog_73_method_5_code 1 (some .boolean) :: ws) ({ frames := 0, cells := 0, slots := 0, locals := 0 } : Room)) (fun a U => a = #[(.ref w_INCLUSIVE_GATEWAY)] ∧ Z.Warmed39 U.vm ∧ U.heap = h0) (fun _ _ _ _ _ => True) (fun _ U o U' => ∃ v L, o = .returned v ∧ Q2_10 Z w_START_EVENT w_BOUNDARY_EVENT w_MESSAGE_BOUNDARY_EVENT w_TERMINATE_END_EVENT w_LINK_THROW_EVENT w_LINK_CATCH_EVENT w_RECEPTION w_END_EVENT w_EVENT_BASED_GATEWAY w_INCLUSIVE_GATEWAY w_EXCLUSIVE_GATEWAY w_MESSAGE_START_EVENT w_SUB_PROCESS w_ACTIVITY w_PARALLEL_GATEWAY  h0 n0 v U'.heap L ∧ FrameEnd U o U' L ({ frames := 0, cells := 0, slots := 0, locals := 0 } : Room).cells ({ frames := 0, cells := 0, slots := 0, locals := 0 } : Room).slots) := by
  refine MetFree.of_bodySF (plainFor_of_name pn_com_example_chorale_chorale_FlowGraph_Kind) hisR ?_
  intro p e s m args below meth c s₁ Bd hml0 hP hK
  obtain ⟨rfl, hZ, hh⟩ := hP
  have hx := Bd.exec
  have hby := Bd.bytes
  have hml : c.maxLocals = 1 := hml0
  have hown : s.vm.findClass "com/example/chorale/chorale/FlowGraph$Kind" = some m.cls := findClass_of_methodNamed Bd.named
  have hnm := (name_of_methodNamed Bd.named Bd.method).1
  have X0 : Stand p l e ({ frames := 0, cells := 0, slots := 0, locals := 0 } : Room) s m #[(.ref w_INCLUSIVE_GATEWAY)] below meth c s₁ [] 0 0 := Stand.of_body Bd
  have e0 : s₁.heap = h0 := by rw [← hh, Bd.state]; rfl
  have N0 := Fr.nil n0
  show OGot p.tables e below (s₁.setTop (entryFrame m #[(.ref w_INCLUSIVE_GATEWAY)] 1)) _
  refine OGot.go (fun t k => castTop (ef2_10 m w_INCLUSIVE_GATEWAY) k) ?_
  show OGot p.tables e below (s₁.setTop (mkF m 0 #[.val (.ref w_INCLUSIVE_GATEWAY)] [])) _
  refine OGot.go (fun t k => XS.aloadN X0.here hx rfl (hb hby d2_0) rfl rfl k) ?_
  show OGot p.tables e below (s₁.setTop (mkF m 1 #[.val (.ref w_INCLUSIVE_GATEWAY)] [(.ref w_INCLUSIVE_GATEWAY)])) _
  obtain ⟨T2, X2, e2, st2⟩ := getS2 X0 hx hZ hown (host := "") (Or.inl (ow hw 13 rfl)) Via.refl e0 (G.2.2.1.ext O0.2) (g := (mkF m 1 #[.val (.ref w_INCLUSIVE_GATEWAY)] [(.ref w_INCLUSIVE_GATEWAY)])) rfl (hb hby d2_1)
  refine OGot.go st2 ?_
  show OGot p.tables e below (T2.setTop (mkF m 4 #[.val (.ref w_INCLUSIVE_GATEWAY)] [(.ref w_BOUNDARY_EVENT), (.ref w_INCLUSIVE_GATEWAY)])) _
  have ne3 : w_INCLUSIVE_GATEWAY ≠ w_BOUNDARY_EVENT := (Fld.ne G.2.2.2.2.2.2.2.2.2.2.2.2.2.2.2.2.2.2.2.2.2.2.2.2.2.2.2.2.2.2.2.2.2.2.2.2.2.2.2.1 G.2.2.2.2.2.2.2.2.2.2.2.2.2.2.2.2.2.2.2.2.2.2.2.2.2.2.2.2.2.2.2.1 (by decide))
  refine OGot.go (fun t k => Jvm.RoadKit.acmp (g := (mkF m 4 #[.val (.ref w_INCLUSIVE_GATEWAY)] [(.ref w_BOUNDARY_EVENT), (.ref w_INCLUSIVE_GATEWAY)])) X2 hx rfl rfl rfl (pc0 := 4) (pc' := 7) (same := false) rfl (hb hby d2_4) rfl (decide_eq_false fun q => ne3 (Value.ref.inj q)) (by decide) (by decide) k) ?_
  show OGot p.tables e below (T2.setTop (mkF m 7 #[.val (.ref w_INCLUSIVE_GATEWAY)] [])) _
  refine OGot.go (fun t k => XS.aloadN X2.here hx rfl (hb hby d2_7) rfl rfl k) ?_
  show OGot p.tables e below (T2.setTop (mkF m 8 #[.val (.ref w_INCLUSIVE_GATEWAY)] [(.ref w_INCLUSIVE_GATEWAY)])) _
  obtain ⟨T4, X4, e4, st4⟩ := getS2 X2 hx hZ hown (host := "") (Or.inl (ow hw 15 rfl)) Via.refl e2 (G.2.2.2.2.1.ext O0.2) (g := (mkF m 8 #[.val (.ref w_INCLUSIVE_GATEWAY)] [(.ref w_INCLUSIVE_GATEWAY)])) rfl (hb hby d2_8)
  refine OGot.go st4 ?_
  show OGot p.tables e below (T4.setTop (mkF m 11 #[.val (.ref w_INCLUSIVE_GATEWAY)] [(.ref w_MESSAGE_BOUNDARY_EVENT), (.ref w_INCLUSIVE_GATEWAY)])) _
  have ne5 : w_INCLUSIVE_GATEWAY ≠ w_MESSAGE_BOUNDARY_EVENT := (Fld.ne G.2.2.2.2.2.2.2.2.2.2.2.2.2.2.2.2.2.2.2.2.2.2.2.2.2.2.2.2.2.2.2.2.2.2.2.2.2.2.2.1 G.2.2.2.2.2.2.2.2.2.2.2.2.2.2.2.2.2.2.2.2.2.2.2.2.2.2.2.2.2.2.2.2.1 (by decide))
  refine OGot.go (fun t k => Jvm.RoadKit.acmp (g := (mkF m 11 #[.val (.ref w_INCLUSIVE_GATEWAY)] [(.ref w_MESSAGE_BOUNDARY_EVENT), (.ref w_INCLUSIVE_GATEWAY)])) X4 hx rfl rfl rfl (pc0 := 11) (pc' := 18) (same := false) rfl (hb hby d2_11) rfl (decide_eq_false fun q => ne5 (Value.ref.inj q)) (by decide) (by decide) k) ?_
  show OGot p.tables e below (T4.setTop (mkF m 18 #[.val (.ref w_INCLUSIVE_GATEWAY)] [])) _
  refine OGot.go (fun t k => XS.iconst X4.here hx rfl (hb hby d2_18) k) ?_
  show OGot p.tables e below (T4.setTop (mkF m 19 #[.val (.ref w_INCLUSIVE_GATEWAY)] [(.int (0 : Int32))])) _
  obtain ⟨fs, hr, hrun, hended, hW, hsame⟩ := X4.leave (v := some (.int (0 : Int32))) (fun h => by rw [Bd.returns] at h; cases h)
  refine ⟨_, _, retN X4 hx (t := .boolean) Bd.returns (by simp) (hb hby d2_19) hr, hrun, hended, _, _, rfl, ?_, ⟨_, rfl⟩, hW, hsame.mono (by decide) (by decide)⟩
  exact (⟨rfl, N0, e4⟩ : Q2_10 Z w_START_EVENT w_BOUNDARY_EVENT w_MESSAGE_BOUNDARY_EVENT w_TERMINATE_END_EVENT w_LINK_THROW_EVENT w_LINK_CATCH_EVENT w_RECEPTION w_END_EVENT w_EVENT_BASED_GATEWAY w_INCLUSIVE_GATEWAY w_EXCLUSIVE_GATEWAY w_MESSAGE_START_EVENT w_SUB_PROCESS w_ACTIVITY w_PARALLEL_GATEWAY  h0 n0 _ T4.heap _)
def Q3_10 (Z : State) (w_START_EVENT : Addr) (w_BOUNDARY_EVENT : Addr) (w_MESSAGE_BOUNDARY_EVENT : Addr) (w_TERMINATE_END_EVENT : Addr) (w_LINK_THROW_EVENT : Addr) (w_LINK_CATCH_EVENT : Addr) (w_RECEPTION : Addr) (w_END_EVENT : Addr) (w_EVENT_BASED_GATEWAY : Addr) (w_INCLUSIVE_GATEWAY : Addr) (w_EXCLUSIVE_GATEWAY : Addr) (w_MESSAGE_START_EVENT : Addr) (w_SUB_PROCESS : Addr) (w_ACTIVITY : Addr) (w_PARALLEL_GATEWAY : Addr)  (h0 : Heap) (n0 : Nat) (v : Option Value) (h : Heap) (L : List Loc) : Prop := v = some (.int (0 : Int32)) ∧ Fr n0 L ∧ h = h0
theorem ef3_10 (m : MethodId)  : entryFrame m #[(.int (10 : Int32))] 2 = mkF m 0 #[.val (.int (10 : Int32)), .unset] [] := by first | (simp [entryFrame, mkF, argsToLocals, Value.category]; done) | rfl
set_option maxRecDepth 65536 in
set_option maxHeartbeats 40000000 in
theorem rm3_10 (l : Launch) (Z : State) (a0 : Array Value) (hw : ∀ d ∈ tables_1, d.before a0 Z = true) (ws : List Jvm.Cond) {w_START_EVENT : Addr} {w_BOUNDARY_EVENT : Addr} {w_MESSAGE_BOUNDARY_EVENT : Addr} {w_TERMINATE_END_EVENT : Addr} {w_LINK_THROW_EVENT : Addr} {w_LINK_CATCH_EVENT : Addr} {w_RECEPTION : Addr} {w_END_EVENT : Addr} {w_EVENT_BASED_GATEWAY : Addr} {w_INCLUSIVE_GATEWAY : Addr} {w_EXCLUSIVE_GATEWAY : Addr} {w_MESSAGE_START_EVENT : Addr} {w_SUB_PROCESS : Addr} {w_ACTIVITY : Addr} {w_PARALLEL_GATEWAY : Addr} (G : Glob Z w_START_EVENT w_BOUNDARY_EVENT w_MESSAGE_BOUNDARY_EVENT w_TERMINATE_END_EVENT w_LINK_THROW_EVENT w_LINK_CATCH_EVENT w_RECEPTION w_END_EVENT w_EVENT_BASED_GATEWAY w_INCLUSIVE_GATEWAY w_EXCLUSIVE_GATEWAY w_MESSAGE_START_EVENT w_SUB_PROCESS w_ACTIVITY w_PARALLEL_GATEWAY)  (h0 : Heap) (n0 : Nat) (O0 : Old Z n0 h0) :
    MetFree l (⟨"com/example/chorale/chorale/KindAttachesPinLaw", "isBoundaryIndex", "(I)Z"⟩ : MethodName) (head1 (Jvm.Cond.code (⟨"com/example/chorale/chorale/KindAttachesPinLaw", "isBoundaryIndex", "(I)Z"⟩ : MethodName) method_3_code 2 (some .boolean) :: ws) ({ frames := 0, cells := 0, slots := 0, locals := 0 } : Room)) (fun a U => a = #[(.int (10 : Int32))] ∧ Z.Warmed39 U.vm ∧ U.heap = h0) (fun _ _ _ _ _ => True) (fun _ U o U' => ∃ v L, o = .returned v ∧ Q3_10 Z w_START_EVENT w_BOUNDARY_EVENT w_MESSAGE_BOUNDARY_EVENT w_TERMINATE_END_EVENT w_LINK_THROW_EVENT w_LINK_CATCH_EVENT w_RECEPTION w_END_EVENT w_EVENT_BASED_GATEWAY w_INCLUSIVE_GATEWAY w_EXCLUSIVE_GATEWAY w_MESSAGE_START_EVENT w_SUB_PROCESS w_ACTIVITY w_PARALLEL_GATEWAY  h0 n0 v U'.heap L ∧ FrameEnd U o U' L ({ frames := 0, cells := 0, slots := 0, locals := 0 } : Room).cells ({ frames := 0, cells := 0, slots := 0, locals := 0 } : Room).slots) := by
  refine MetFree.of_bodySF (plainFor_of_name pn_com_example_chorale_chorale_KindAttachesPinLaw) hisR ?_
  intro p e s m args below meth c s₁ Bd hml0 hP hK
  obtain ⟨rfl, hZ, hh⟩ := hP
  have hx := Bd.exec
  have hby := Bd.bytes
  have hml : c.maxLocals = 2 := hml0
  have hown : s.vm.findClass "com/example/chorale/chorale/KindAttachesPinLaw" = some m.cls := findClass_of_methodNamed Bd.named
  have hnm := (name_of_methodNamed Bd.named Bd.method).1
  have X0 : Stand p l e ({ frames := 0, cells := 0, slots := 0, locals := 0 } : Room) s m #[(.int (10 : Int32))] below meth c s₁ [] 0 0 := Stand.of_body Bd
  have e0 : s₁.heap = h0 := by rw [← hh, Bd.state]; rfl
  have N0 := Fr.nil n0
  show OGot p.tables e below (s₁.setTop (entryFrame m #[(.int (10 : Int32))] 2)) _
  refine OGot.go (fun t k => castTop (ef3_10 m ) k) ?_
  show OGot p.tables e below (s₁.setTop (mkF m 0 #[.val (.int (10 : Int32)), .unset] [])) _
  refine OGot.go (fun t k => XS.iconst X0.here hx rfl (hb hby d3_0) k) ?_
  show OGot p.tables e below (s₁.setTop (mkF m 1 #[.val (.int (10 : Int32)), .unset] [(.int (0 : Int32))])) _
  refine OGot.go (fun t k => XS.istoreN X0.here hx rfl (hb hby d3_1) rfl (l' := #[.val (.int (10 : Int32)), .val (.int (0 : Int32))]) rfl k) ?_
  show OGot p.tables e below (s₁.setTop (mkF m 2 #[.val (.int (10 : Int32)), .val (.int (0 : Int32))] [])) _
  refine OGot.go (fun t k => XS.iloadN X0.here hx rfl (hb hby d3_2) rfl k) ?_
  show OGot p.tables e below (s₁.setTop (mkF m 3 #[.val (.int (10 : Int32)), .val (.int (0 : Int32))] [(.int (10 : Int32))])) _
  refine OGot.go (fun t k => XS.bipush X0.here hx rfl (hb hby d3_3) k) ?_
  show OGot p.tables e below (s₁.setTop (mkF m 5 #[.val (.int (10 : Int32)), .val (.int (0 : Int32))] [(.int (13 : Int32)), (.int (10 : Int32))])) _
  refine OGot.go (fun t k => XS.icmpYes X0.here hx rfl (pc0 := 5) (pc' := 10) rfl (hb hby d3_5) rfl (by decide) (by decide) (by decide) k) ?_
  show OGot p.tables e below (s₁.setTop (mkF m 10 #[.val (.int (10 : Int32)), .val (.int (0 : Int32))] [])) _
  refine OGot.go (fun t k => XS.iloadN X0.here hx rfl (hb hby d3_10) rfl k) ?_
  show OGot p.tables e below (s₁.setTop (mkF m 11 #[.val (.int (10 : Int32)), .val (.int (0 : Int32))] [(.int (10 : Int32))])) _
  refine OGot.go (fun t k => XS.bipush X0.here hx rfl (hb hby d3_11) k) ?_
  show OGot p.tables e below (s₁.setTop (mkF m 13 #[.val (.int (10 : Int32)), .val (.int (0 : Int32))] [(.int (14 : Int32)), (.int (10 : Int32))])) _
  refine OGot.go (fun t k => XS.icmpYes X0.here hx rfl (pc0 := 13) (pc' := 18) rfl (hb hby d3_13) rfl (by decide) (by decide) (by decide) k) ?_
  show OGot p.tables e below (s₁.setTop (mkF m 18 #[.val (.int (10 : Int32)), .val (.int (0 : Int32))] [])) _
  refine OGot.go (fun t k => XS.iloadN X0.here hx rfl (hb hby d3_18) rfl k) ?_
  show OGot p.tables e below (s₁.setTop (mkF m 19 #[.val (.int (10 : Int32)), .val (.int (0 : Int32))] [(.int (0 : Int32))])) _
  obtain ⟨fs, hr, hrun, hended, hW, hsame⟩ := X0.leave (v := some (.int (0 : Int32))) (fun h => by rw [Bd.returns] at h; cases h)
  refine ⟨_, _, retN X0 hx (t := .boolean) Bd.returns (by simp) (hb hby d3_19) hr, hrun, hended, _, _, rfl, ?_, ⟨_, rfl⟩, hW, hsame.mono (by decide) (by decide)⟩
  exact (⟨rfl, N0, e0⟩ : Q3_10 Z w_START_EVENT w_BOUNDARY_EVENT w_MESSAGE_BOUNDARY_EVENT w_TERMINATE_END_EVENT w_LINK_THROW_EVENT w_LINK_CATCH_EVENT w_RECEPTION w_END_EVENT w_EVENT_BASED_GATEWAY w_INCLUSIVE_GATEWAY w_EXCLUSIVE_GATEWAY w_MESSAGE_START_EVENT w_SUB_PROCESS w_ACTIVITY w_PARALLEL_GATEWAY  h0 n0 _ s₁.heap _)
theorem d1_103 : decode method_2_code 103 = .ok (.iload_n 0, 1) := by decide +kernel
theorem d1_104 : decode method_2_code 104 = .ok (.bipush 11, 2) := by decide +kernel
theorem d1_106 : decode method_2_code 106 = .ok (.if_icmp .ne 7, 3) := by decide +kernel
theorem d1_109 : decode method_2_code 109 = .ok (.getstatic 43, 3) := by decide +kernel
theorem d1_112 : decode method_2_code 112 = .ok (.areturn, 1) := by decide +kernel
def Q1_11 (Z : State) (w_START_EVENT : Addr) (w_BOUNDARY_EVENT : Addr) (w_MESSAGE_BOUNDARY_EVENT : Addr) (w_TERMINATE_END_EVENT : Addr) (w_LINK_THROW_EVENT : Addr) (w_LINK_CATCH_EVENT : Addr) (w_RECEPTION : Addr) (w_END_EVENT : Addr) (w_EVENT_BASED_GATEWAY : Addr) (w_INCLUSIVE_GATEWAY : Addr) (w_EXCLUSIVE_GATEWAY : Addr) (w_MESSAGE_START_EVENT : Addr) (w_SUB_PROCESS : Addr) (w_ACTIVITY : Addr) (w_PARALLEL_GATEWAY : Addr)  (h0 : Heap) (n0 : Nat) (v : Option Value) (h : Heap) (L : List Loc) : Prop := v = some (.ref w_EVENT_BASED_GATEWAY) ∧ Fr n0 L ∧ h = h0
theorem ef1_11 (m : MethodId)  : entryFrame m #[(.int (11 : Int32))] 1 = mkF m 0 #[.val (.int (11 : Int32))] [] := by first | (simp [entryFrame, mkF, argsToLocals, Value.category]; done) | rfl
set_option maxRecDepth 65536 in
set_option maxHeartbeats 40000000 in
theorem rm1_11 (l : Launch) (Z : State) (a0 : Array Value) (hw : ∀ d ∈ tables_1, d.before a0 Z = true) (ws : List Jvm.Cond) {w_START_EVENT : Addr} {w_BOUNDARY_EVENT : Addr} {w_MESSAGE_BOUNDARY_EVENT : Addr} {w_TERMINATE_END_EVENT : Addr} {w_LINK_THROW_EVENT : Addr} {w_LINK_CATCH_EVENT : Addr} {w_RECEPTION : Addr} {w_END_EVENT : Addr} {w_EVENT_BASED_GATEWAY : Addr} {w_INCLUSIVE_GATEWAY : Addr} {w_EXCLUSIVE_GATEWAY : Addr} {w_MESSAGE_START_EVENT : Addr} {w_SUB_PROCESS : Addr} {w_ACTIVITY : Addr} {w_PARALLEL_GATEWAY : Addr} (G : Glob Z w_START_EVENT w_BOUNDARY_EVENT w_MESSAGE_BOUNDARY_EVENT w_TERMINATE_END_EVENT w_LINK_THROW_EVENT w_LINK_CATCH_EVENT w_RECEPTION w_END_EVENT w_EVENT_BASED_GATEWAY w_INCLUSIVE_GATEWAY w_EXCLUSIVE_GATEWAY w_MESSAGE_START_EVENT w_SUB_PROCESS w_ACTIVITY w_PARALLEL_GATEWAY)  (h0 : Heap) (n0 : Nat) (O0 : Old Z n0 h0) :
    MetFree l (⟨"com/example/chorale/chorale/KindAttachesPinLaw", "kindAt", "(I)Lcom/example/chorale/chorale/FlowGraph$Kind;"⟩ : MethodName) (head1 (Jvm.Cond.code (⟨"com/example/chorale/chorale/KindAttachesPinLaw", "kindAt", "(I)Lcom/example/chorale/chorale/FlowGraph$Kind;"⟩ : MethodName) method_2_code 1 (some (.object "com/example/chorale/chorale/FlowGraph$Kind")) :: ws) ({ frames := 0, cells := 0, slots := 0, locals := 0 } : Room)) (fun a U => a = #[(.int (11 : Int32))] ∧ Z.Warmed39 U.vm ∧ U.heap = h0) (fun _ _ _ _ _ => True) (fun _ U o U' => ∃ v L, o = .returned v ∧ Q1_11 Z w_START_EVENT w_BOUNDARY_EVENT w_MESSAGE_BOUNDARY_EVENT w_TERMINATE_END_EVENT w_LINK_THROW_EVENT w_LINK_CATCH_EVENT w_RECEPTION w_END_EVENT w_EVENT_BASED_GATEWAY w_INCLUSIVE_GATEWAY w_EXCLUSIVE_GATEWAY w_MESSAGE_START_EVENT w_SUB_PROCESS w_ACTIVITY w_PARALLEL_GATEWAY  h0 n0 v U'.heap L ∧ FrameEnd U o U' L ({ frames := 0, cells := 0, slots := 0, locals := 0 } : Room).cells ({ frames := 0, cells := 0, slots := 0, locals := 0 } : Room).slots) := by
  refine MetFree.of_bodySF (plainFor_of_name pn_com_example_chorale_chorale_KindAttachesPinLaw) hisR ?_
  intro p e s m args below meth c s₁ Bd hml0 hP hK
  obtain ⟨rfl, hZ, hh⟩ := hP
  have hx := Bd.exec
  have hby := Bd.bytes
  have hml : c.maxLocals = 1 := hml0
  have hown : s.vm.findClass "com/example/chorale/chorale/KindAttachesPinLaw" = some m.cls := findClass_of_methodNamed Bd.named
  have hnm := (name_of_methodNamed Bd.named Bd.method).1
  have X0 : Stand p l e ({ frames := 0, cells := 0, slots := 0, locals := 0 } : Room) s m #[(.int (11 : Int32))] below meth c s₁ [] 0 0 := Stand.of_body Bd
  have e0 : s₁.heap = h0 := by rw [← hh, Bd.state]; rfl
  have N0 := Fr.nil n0
  show OGot p.tables e below (s₁.setTop (entryFrame m #[(.int (11 : Int32))] 1)) _
  refine OGot.go (fun t k => castTop (ef1_11 m ) k) ?_
  show OGot p.tables e below (s₁.setTop (mkF m 0 #[.val (.int (11 : Int32))] [])) _
  refine OGot.go (fun t k => XS.iloadN X0.here hx rfl (hb hby d1_0) rfl k) ?_
  show OGot p.tables e below (s₁.setTop (mkF m 1 #[.val (.int (11 : Int32))] [(.int (11 : Int32))])) _
  refine OGot.go (fun t k => XS.ifYes X0.here hx rfl (pc0 := 1) (pc' := 8) rfl (hb hby d1_1) rfl (by decide) (by decide) (by decide) k) ?_
  show OGot p.tables e below (s₁.setTop (mkF m 8 #[.val (.int (11 : Int32))] [])) _
  refine OGot.go (fun t k => XS.iloadN X0.here hx rfl (hb hby d1_8) rfl k) ?_
  show OGot p.tables e below (s₁.setTop (mkF m 9 #[.val (.int (11 : Int32))] [(.int (11 : Int32))])) _
  refine OGot.go (fun t k => XS.iconst X0.here hx rfl (hb hby d1_9) k) ?_
  show OGot p.tables e below (s₁.setTop (mkF m 10 #[.val (.int (11 : Int32))] [(.int (1 : Int32)), (.int (11 : Int32))])) _
  refine OGot.go (fun t k => XS.icmpYes X0.here hx rfl (pc0 := 10) (pc' := 17) rfl (hb hby d1_10) rfl (by decide) (by decide) (by decide) k) ?_
  show OGot p.tables e below (s₁.setTop (mkF m 17 #[.val (.int (11 : Int32))] [])) _
  refine OGot.go (fun t k => XS.iloadN X0.here hx rfl (hb hby d1_17) rfl k) ?_
  show OGot p.tables e below (s₁.setTop (mkF m 18 #[.val (.int (11 : Int32))] [(.int (11 : Int32))])) _
  refine OGot.go (fun t k => XS.iconst X0.here hx rfl (hb hby d1_18) k) ?_
  show OGot p.tables e below (s₁.setTop (mkF m 19 #[.val (.int (11 : Int32))] [(.int (2 : Int32)), (.int (11 : Int32))])) _
  refine OGot.go (fun t k => XS.icmpYes X0.here hx rfl (pc0 := 19) (pc' := 26) rfl (hb hby d1_19) rfl (by decide) (by decide) (by decide) k) ?_
  show OGot p.tables e below (s₁.setTop (mkF m 26 #[.val (.int (11 : Int32))] [])) _
  refine OGot.go (fun t k => XS.iloadN X0.here hx rfl (hb hby d1_26) rfl k) ?_
  show OGot p.tables e below (s₁.setTop (mkF m 27 #[.val (.int (11 : Int32))] [(.int (11 : Int32))])) _
  refine OGot.go (fun t k => XS.iconst X0.here hx rfl (hb hby d1_27) k) ?_
  show OGot p.tables e below (s₁.setTop (mkF m 28 #[.val (.int (11 : Int32))] [(.int (3 : Int32)), (.int (11 : Int32))])) _
  refine OGot.go (fun t k => XS.icmpYes X0.here hx rfl (pc0 := 28) (pc' := 35) rfl (hb hby d1_28) rfl (by decide) (by decide) (by decide) k) ?_
  show OGot p.tables e below (s₁.setTop (mkF m 35 #[.val (.int (11 : Int32))] [])) _
  refine OGot.go (fun t k => XS.iloadN X0.here hx rfl (hb hby d1_35) rfl k) ?_
  show OGot p.tables e below (s₁.setTop (mkF m 36 #[.val (.int (11 : Int32))] [(.int (11 : Int32))])) _
  refine OGot.go (fun t k => XS.iconst X0.here hx rfl (hb hby d1_36) k) ?_
  show OGot p.tables e below (s₁.setTop (mkF m 37 #[.val (.int (11 : Int32))] [(.int (4 : Int32)), (.int (11 : Int32))])) _
  refine OGot.go (fun t k => XS.icmpYes X0.here hx rfl (pc0 := 37) (pc' := 44) rfl (hb hby d1_37) rfl (by decide) (by decide) (by decide) k) ?_
  show OGot p.tables e below (s₁.setTop (mkF m 44 #[.val (.int (11 : Int32))] [])) _
  refine OGot.go (fun t k => XS.iloadN X0.here hx rfl (hb hby d1_44) rfl k) ?_
  show OGot p.tables e below (s₁.setTop (mkF m 45 #[.val (.int (11 : Int32))] [(.int (11 : Int32))])) _
  refine OGot.go (fun t k => XS.iconst X0.here hx rfl (hb hby d1_45) k) ?_
  show OGot p.tables e below (s₁.setTop (mkF m 46 #[.val (.int (11 : Int32))] [(.int (5 : Int32)), (.int (11 : Int32))])) _
  refine OGot.go (fun t k => XS.icmpYes X0.here hx rfl (pc0 := 46) (pc' := 53) rfl (hb hby d1_46) rfl (by decide) (by decide) (by decide) k) ?_
  show OGot p.tables e below (s₁.setTop (mkF m 53 #[.val (.int (11 : Int32))] [])) _
  refine OGot.go (fun t k => XS.iloadN X0.here hx rfl (hb hby d1_53) rfl k) ?_
  show OGot p.tables e below (s₁.setTop (mkF m 54 #[.val (.int (11 : Int32))] [(.int (11 : Int32))])) _
  refine OGot.go (fun t k => XS.bipush X0.here hx rfl (hb hby d1_54) k) ?_
  show OGot p.tables e below (s₁.setTop (mkF m 56 #[.val (.int (11 : Int32))] [(.int (6 : Int32)), (.int (11 : Int32))])) _
  refine OGot.go (fun t k => XS.icmpYes X0.here hx rfl (pc0 := 56) (pc' := 63) rfl (hb hby d1_56) rfl (by decide) (by decide) (by decide) k) ?_
  show OGot p.tables e below (s₁.setTop (mkF m 63 #[.val (.int (11 : Int32))] [])) _
  refine OGot.go (fun t k => XS.iloadN X0.here hx rfl (hb hby d1_63) rfl k) ?_
  show OGot p.tables e below (s₁.setTop (mkF m 64 #[.val (.int (11 : Int32))] [(.int (11 : Int32))])) _
  refine OGot.go (fun t k => XS.bipush X0.here hx rfl (hb hby d1_64) k) ?_
  show OGot p.tables e below (s₁.setTop (mkF m 66 #[.val (.int (11 : Int32))] [(.int (7 : Int32)), (.int (11 : Int32))])) _
  refine OGot.go (fun t k => XS.icmpYes X0.here hx rfl (pc0 := 66) (pc' := 73) rfl (hb hby d1_66) rfl (by decide) (by decide) (by decide) k) ?_
  show OGot p.tables e below (s₁.setTop (mkF m 73 #[.val (.int (11 : Int32))] [])) _
  refine OGot.go (fun t k => XS.iloadN X0.here hx rfl (hb hby d1_73) rfl k) ?_
  show OGot p.tables e below (s₁.setTop (mkF m 74 #[.val (.int (11 : Int32))] [(.int (11 : Int32))])) _
  refine OGot.go (fun t k => XS.bipush X0.here hx rfl (hb hby d1_74) k) ?_
  show OGot p.tables e below (s₁.setTop (mkF m 76 #[.val (.int (11 : Int32))] [(.int (8 : Int32)), (.int (11 : Int32))])) _
  refine OGot.go (fun t k => XS.icmpYes X0.here hx rfl (pc0 := 76) (pc' := 83) rfl (hb hby d1_76) rfl (by decide) (by decide) (by decide) k) ?_
  show OGot p.tables e below (s₁.setTop (mkF m 83 #[.val (.int (11 : Int32))] [])) _
  refine OGot.go (fun t k => XS.iloadN X0.here hx rfl (hb hby d1_83) rfl k) ?_
  show OGot p.tables e below (s₁.setTop (mkF m 84 #[.val (.int (11 : Int32))] [(.int (11 : Int32))])) _
  refine OGot.go (fun t k => XS.bipush X0.here hx rfl (hb hby d1_84) k) ?_
  show OGot p.tables e below (s₁.setTop (mkF m 86 #[.val (.int (11 : Int32))] [(.int (9 : Int32)), (.int (11 : Int32))])) _
  refine OGot.go (fun t k => XS.icmpYes X0.here hx rfl (pc0 := 86) (pc' := 93) rfl (hb hby d1_86) rfl (by decide) (by decide) (by decide) k) ?_
  show OGot p.tables e below (s₁.setTop (mkF m 93 #[.val (.int (11 : Int32))] [])) _
  refine OGot.go (fun t k => XS.iloadN X0.here hx rfl (hb hby d1_93) rfl k) ?_
  show OGot p.tables e below (s₁.setTop (mkF m 94 #[.val (.int (11 : Int32))] [(.int (11 : Int32))])) _
  refine OGot.go (fun t k => XS.bipush X0.here hx rfl (hb hby d1_94) k) ?_
  show OGot p.tables e below (s₁.setTop (mkF m 96 #[.val (.int (11 : Int32))] [(.int (10 : Int32)), (.int (11 : Int32))])) _
  refine OGot.go (fun t k => XS.icmpYes X0.here hx rfl (pc0 := 96) (pc' := 103) rfl (hb hby d1_96) rfl (by decide) (by decide) (by decide) k) ?_
  show OGot p.tables e below (s₁.setTop (mkF m 103 #[.val (.int (11 : Int32))] [])) _
  refine OGot.go (fun t k => XS.iloadN X0.here hx rfl (hb hby d1_103) rfl k) ?_
  show OGot p.tables e below (s₁.setTop (mkF m 104 #[.val (.int (11 : Int32))] [(.int (11 : Int32))])) _
  refine OGot.go (fun t k => XS.bipush X0.here hx rfl (hb hby d1_104) k) ?_
  show OGot p.tables e below (s₁.setTop (mkF m 106 #[.val (.int (11 : Int32))] [(.int (11 : Int32)), (.int (11 : Int32))])) _
  refine OGot.go (fun t k => XS.icmpNo X0.here hx rfl (hb hby d1_106) rfl (by decide) k) ?_
  show OGot p.tables e below (s₁.setTop (mkF m 109 #[.val (.int (11 : Int32))] [])) _
  obtain ⟨T1, X1, e1, st1⟩ := getS2 X0 hx hZ hown (host := "") (Or.inl (ow hw 38 rfl)) Via.refl e0 (G.2.2.2.2.2.2.2.2.2.2.2.2.2.2.2.2.1.ext O0.2) (g := (mkF m 109 #[.val (.int (11 : Int32))] [])) rfl (hb hby d1_109)
  refine OGot.go st1 ?_
  show OGot p.tables e below (T1.setTop (mkF m 112 #[.val (.int (11 : Int32))] [(.ref w_EVENT_BASED_GATEWAY)])) _
  obtain ⟨fs, hr, hrun, hended, hW, hsame⟩ := X1.leave (v := some (.ref w_EVENT_BASED_GATEWAY)) (fun h => by rw [Bd.returns] at h; cases h)
  refine ⟨_, _, oretA X1 hx Bd.returns rfl rfl (hb hby d1_112) hr, hrun, hended, _, _, rfl, ?_, ⟨_, rfl⟩, hW, hsame.mono (by decide) (by decide)⟩
  exact (⟨rfl, N0, e1⟩ : Q1_11 Z w_START_EVENT w_BOUNDARY_EVENT w_MESSAGE_BOUNDARY_EVENT w_TERMINATE_END_EVENT w_LINK_THROW_EVENT w_LINK_CATCH_EVENT w_RECEPTION w_END_EVENT w_EVENT_BASED_GATEWAY w_INCLUSIVE_GATEWAY w_EXCLUSIVE_GATEWAY w_MESSAGE_START_EVENT w_SUB_PROCESS w_ACTIVITY w_PARALLEL_GATEWAY  h0 n0 _ T1.heap _)
def Q2_11 (Z : State) (w_START_EVENT : Addr) (w_BOUNDARY_EVENT : Addr) (w_MESSAGE_BOUNDARY_EVENT : Addr) (w_TERMINATE_END_EVENT : Addr) (w_LINK_THROW_EVENT : Addr) (w_LINK_CATCH_EVENT : Addr) (w_RECEPTION : Addr) (w_END_EVENT : Addr) (w_EVENT_BASED_GATEWAY : Addr) (w_INCLUSIVE_GATEWAY : Addr) (w_EXCLUSIVE_GATEWAY : Addr) (w_MESSAGE_START_EVENT : Addr) (w_SUB_PROCESS : Addr) (w_ACTIVITY : Addr) (w_PARALLEL_GATEWAY : Addr)  (h0 : Heap) (n0 : Nat) (v : Option Value) (h : Heap) (L : List Loc) : Prop := v = some (.int (0 : Int32)) ∧ Fr n0 L ∧ h = h0
theorem ef2_11 (m : MethodId) (x0 : Addr) : entryFrame m #[(.ref x0)] 1 = mkF m 0 #[.val (.ref x0)] [] := by first | (simp [entryFrame, mkF, argsToLocals, Value.category]; done) | rfl
set_option maxRecDepth 65536 in
set_option maxHeartbeats 40000000 in
theorem rm2_11 (l : Launch) (Z : State) (a0 : Array Value) (hw : ∀ d ∈ tables_1, d.before a0 Z = true) (ws : List Jvm.Cond) {w_START_EVENT : Addr} {w_BOUNDARY_EVENT : Addr} {w_MESSAGE_BOUNDARY_EVENT : Addr} {w_TERMINATE_END_EVENT : Addr} {w_LINK_THROW_EVENT : Addr} {w_LINK_CATCH_EVENT : Addr} {w_RECEPTION : Addr} {w_END_EVENT : Addr} {w_EVENT_BASED_GATEWAY : Addr} {w_INCLUSIVE_GATEWAY : Addr} {w_EXCLUSIVE_GATEWAY : Addr} {w_MESSAGE_START_EVENT : Addr} {w_SUB_PROCESS : Addr} {w_ACTIVITY : Addr} {w_PARALLEL_GATEWAY : Addr} (G : Glob Z w_START_EVENT w_BOUNDARY_EVENT w_MESSAGE_BOUNDARY_EVENT w_TERMINATE_END_EVENT w_LINK_THROW_EVENT w_LINK_CATCH_EVENT w_RECEPTION w_END_EVENT w_EVENT_BASED_GATEWAY w_INCLUSIVE_GATEWAY w_EXCLUSIVE_GATEWAY w_MESSAGE_START_EVENT w_SUB_PROCESS w_ACTIVITY w_PARALLEL_GATEWAY)  (h0 : Heap) (n0 : Nat) (O0 : Old Z n0 h0) :
    MetFree l (⟨"com/example/chorale/chorale/FlowGraph$Kind", "attaches", "()Z"⟩ : MethodName) (head1 (Jvm.Cond.code (⟨"com/example/chorale/chorale/FlowGraph$Kind", "attaches", "()Z"⟩ : MethodName) prog_73_method_5_code 1 (some .boolean) :: ws) ({ frames := 0, cells := 0, slots := 0, locals := 0 } : Room)) (fun a U => a = #[(.ref w_EVENT_BASED_GATEWAY)] ∧ Z.Warmed39 U.vm ∧ U.heap = h0) (fun _ _ _ _ _ => True) (fun _ U o U' => ∃ v L, o = .returned v ∧ Q2_11 Z w_START_EVENT w_BOUNDARY_EVENT w_MESSAGE_BOUNDARY_EVENT w_TERMINATE_END_EVENT w_LINK_THROW_EVENT w_LINK_CATCH_EVENT w_RECEPTION w_END_EVENT w_EVENT_BASED_GATEWAY w_INCLUSIVE_GATEWAY w_EXCLUSIVE_GATEWAY w_MESSAGE_START_EVENT w_SUB_PROCESS w_ACTIVITY w_PARALLEL_GATEWAY  h0 n0 v U'.heap L ∧ FrameEnd U o U' L ({ frames := 0, cells := 0, slots := 0, locals := 0 } : Room).cells ({ frames := 0, cells := 0, slots := 0, locals := 0 } : Room).slots) := by
  refine MetFree.of_bodySF (plainFor_of_name pn_com_example_chorale_chorale_FlowGraph_Kind) hisR ?_
  intro p e s m args below meth c s₁ Bd hml0 hP hK
  obtain ⟨rfl, hZ, hh⟩ := hP
  have hx := Bd.exec
  have hby := Bd.bytes
  have hml : c.maxLocals = 1 := hml0
  have hown : s.vm.findClass "com/example/chorale/chorale/FlowGraph$Kind" = some m.cls := findClass_of_methodNamed Bd.named
  have hnm := (name_of_methodNamed Bd.named Bd.method).1
  have X0 : Stand p l e ({ frames := 0, cells := 0, slots := 0, locals := 0 } : Room) s m #[(.ref w_EVENT_BASED_GATEWAY)] below meth c s₁ [] 0 0 := Stand.of_body Bd
  have e0 : s₁.heap = h0 := by rw [← hh, Bd.state]; rfl
  have N0 := Fr.nil n0
  show OGot p.tables e below (s₁.setTop (entryFrame m #[(.ref w_EVENT_BASED_GATEWAY)] 1)) _
  refine OGot.go (fun t k => castTop (ef2_11 m w_EVENT_BASED_GATEWAY) k) ?_
  show OGot p.tables e below (s₁.setTop (mkF m 0 #[.val (.ref w_EVENT_BASED_GATEWAY)] [])) _
  refine OGot.go (fun t k => XS.aloadN X0.here hx rfl (hb hby d2_0) rfl rfl k) ?_
  show OGot p.tables e below (s₁.setTop (mkF m 1 #[.val (.ref w_EVENT_BASED_GATEWAY)] [(.ref w_EVENT_BASED_GATEWAY)])) _
  obtain ⟨T2, X2, e2, st2⟩ := getS2 X0 hx hZ hown (host := "") (Or.inl (ow hw 13 rfl)) Via.refl e0 (G.2.2.1.ext O0.2) (g := (mkF m 1 #[.val (.ref w_EVENT_BASED_GATEWAY)] [(.ref w_EVENT_BASED_GATEWAY)])) rfl (hb hby d2_1)
  refine OGot.go st2 ?_
  show OGot p.tables e below (T2.setTop (mkF m 4 #[.val (.ref w_EVENT_BASED_GATEWAY)] [(.ref w_BOUNDARY_EVENT), (.ref w_EVENT_BASED_GATEWAY)])) _
  have ne3 : w_EVENT_BASED_GATEWAY ≠ w_BOUNDARY_EVENT := (Fld.ne G.2.2.2.2.2.2.2.2.2.2.2.2.2.2.2.2.2.2.2.2.2.2.2.2.2.2.2.2.2.2.2.2.2.2.2.2.2.2.1 G.2.2.2.2.2.2.2.2.2.2.2.2.2.2.2.2.2.2.2.2.2.2.2.2.2.2.2.2.2.2.2.1 (by decide))
  refine OGot.go (fun t k => Jvm.RoadKit.acmp (g := (mkF m 4 #[.val (.ref w_EVENT_BASED_GATEWAY)] [(.ref w_BOUNDARY_EVENT), (.ref w_EVENT_BASED_GATEWAY)])) X2 hx rfl rfl rfl (pc0 := 4) (pc' := 7) (same := false) rfl (hb hby d2_4) rfl (decide_eq_false fun q => ne3 (Value.ref.inj q)) (by decide) (by decide) k) ?_
  show OGot p.tables e below (T2.setTop (mkF m 7 #[.val (.ref w_EVENT_BASED_GATEWAY)] [])) _
  refine OGot.go (fun t k => XS.aloadN X2.here hx rfl (hb hby d2_7) rfl rfl k) ?_
  show OGot p.tables e below (T2.setTop (mkF m 8 #[.val (.ref w_EVENT_BASED_GATEWAY)] [(.ref w_EVENT_BASED_GATEWAY)])) _
  obtain ⟨T4, X4, e4, st4⟩ := getS2 X2 hx hZ hown (host := "") (Or.inl (ow hw 15 rfl)) Via.refl e2 (G.2.2.2.2.1.ext O0.2) (g := (mkF m 8 #[.val (.ref w_EVENT_BASED_GATEWAY)] [(.ref w_EVENT_BASED_GATEWAY)])) rfl (hb hby d2_8)
  refine OGot.go st4 ?_
  show OGot p.tables e below (T4.setTop (mkF m 11 #[.val (.ref w_EVENT_BASED_GATEWAY)] [(.ref w_MESSAGE_BOUNDARY_EVENT), (.ref w_EVENT_BASED_GATEWAY)])) _
  have ne5 : w_EVENT_BASED_GATEWAY ≠ w_MESSAGE_BOUNDARY_EVENT := (Fld.ne G.2.2.2.2.2.2.2.2.2.2.2.2.2.2.2.2.2.2.2.2.2.2.2.2.2.2.2.2.2.2.2.2.2.2.2.2.2.2.1 G.2.2.2.2.2.2.2.2.2.2.2.2.2.2.2.2.2.2.2.2.2.2.2.2.2.2.2.2.2.2.2.2.1 (by decide))
  refine OGot.go (fun t k => Jvm.RoadKit.acmp (g := (mkF m 11 #[.val (.ref w_EVENT_BASED_GATEWAY)] [(.ref w_MESSAGE_BOUNDARY_EVENT), (.ref w_EVENT_BASED_GATEWAY)])) X4 hx rfl rfl rfl (pc0 := 11) (pc' := 18) (same := false) rfl (hb hby d2_11) rfl (decide_eq_false fun q => ne5 (Value.ref.inj q)) (by decide) (by decide) k) ?_
  show OGot p.tables e below (T4.setTop (mkF m 18 #[.val (.ref w_EVENT_BASED_GATEWAY)] [])) _
  refine OGot.go (fun t k => XS.iconst X4.here hx rfl (hb hby d2_18) k) ?_
  show OGot p.tables e below (T4.setTop (mkF m 19 #[.val (.ref w_EVENT_BASED_GATEWAY)] [(.int (0 : Int32))])) _
  obtain ⟨fs, hr, hrun, hended, hW, hsame⟩ := X4.leave (v := some (.int (0 : Int32))) (fun h => by rw [Bd.returns] at h; cases h)
  refine ⟨_, _, retN X4 hx (t := .boolean) Bd.returns (by simp) (hb hby d2_19) hr, hrun, hended, _, _, rfl, ?_, ⟨_, rfl⟩, hW, hsame.mono (by decide) (by decide)⟩
  exact (⟨rfl, N0, e4⟩ : Q2_11 Z w_START_EVENT w_BOUNDARY_EVENT w_MESSAGE_BOUNDARY_EVENT w_TERMINATE_END_EVENT w_LINK_THROW_EVENT w_LINK_CATCH_EVENT w_RECEPTION w_END_EVENT w_EVENT_BASED_GATEWAY w_INCLUSIVE_GATEWAY w_EXCLUSIVE_GATEWAY w_MESSAGE_START_EVENT w_SUB_PROCESS w_ACTIVITY w_PARALLEL_GATEWAY  h0 n0 _ T4.heap _)
def Q3_11 (Z : State) (w_START_EVENT : Addr) (w_BOUNDARY_EVENT : Addr) (w_MESSAGE_BOUNDARY_EVENT : Addr) (w_TERMINATE_END_EVENT : Addr) (w_LINK_THROW_EVENT : Addr) (w_LINK_CATCH_EVENT : Addr) (w_RECEPTION : Addr) (w_END_EVENT : Addr) (w_EVENT_BASED_GATEWAY : Addr) (w_INCLUSIVE_GATEWAY : Addr) (w_EXCLUSIVE_GATEWAY : Addr) (w_MESSAGE_START_EVENT : Addr) (w_SUB_PROCESS : Addr) (w_ACTIVITY : Addr) (w_PARALLEL_GATEWAY : Addr)  (h0 : Heap) (n0 : Nat) (v : Option Value) (h : Heap) (L : List Loc) : Prop := v = some (.int (0 : Int32)) ∧ Fr n0 L ∧ h = h0
theorem ef3_11 (m : MethodId)  : entryFrame m #[(.int (11 : Int32))] 2 = mkF m 0 #[.val (.int (11 : Int32)), .unset] [] := by first | (simp [entryFrame, mkF, argsToLocals, Value.category]; done) | rfl
set_option maxRecDepth 65536 in
set_option maxHeartbeats 40000000 in
theorem rm3_11 (l : Launch) (Z : State) (a0 : Array Value) (hw : ∀ d ∈ tables_1, d.before a0 Z = true) (ws : List Jvm.Cond) {w_START_EVENT : Addr} {w_BOUNDARY_EVENT : Addr} {w_MESSAGE_BOUNDARY_EVENT : Addr} {w_TERMINATE_END_EVENT : Addr} {w_LINK_THROW_EVENT : Addr} {w_LINK_CATCH_EVENT : Addr} {w_RECEPTION : Addr} {w_END_EVENT : Addr} {w_EVENT_BASED_GATEWAY : Addr} {w_INCLUSIVE_GATEWAY : Addr} {w_EXCLUSIVE_GATEWAY : Addr} {w_MESSAGE_START_EVENT : Addr} {w_SUB_PROCESS : Addr} {w_ACTIVITY : Addr} {w_PARALLEL_GATEWAY : Addr} (G : Glob Z w_START_EVENT w_BOUNDARY_EVENT w_MESSAGE_BOUNDARY_EVENT w_TERMINATE_END_EVENT w_LINK_THROW_EVENT w_LINK_CATCH_EVENT w_RECEPTION w_END_EVENT w_EVENT_BASED_GATEWAY w_INCLUSIVE_GATEWAY w_EXCLUSIVE_GATEWAY w_MESSAGE_START_EVENT w_SUB_PROCESS w_ACTIVITY w_PARALLEL_GATEWAY)  (h0 : Heap) (n0 : Nat) (O0 : Old Z n0 h0) :
    MetFree l (⟨"com/example/chorale/chorale/KindAttachesPinLaw", "isBoundaryIndex", "(I)Z"⟩ : MethodName) (head1 (Jvm.Cond.code (⟨"com/example/chorale/chorale/KindAttachesPinLaw", "isBoundaryIndex", "(I)Z"⟩ : MethodName) method_3_code 2 (some .boolean) :: ws) ({ frames := 0, cells := 0, slots := 0, locals := 0 } : Room)) (fun a U => a = #[(.int (11 : Int32))] ∧ Z.Warmed39 U.vm ∧ U.heap = h0) (fun _ _ _ _ _ => True) (fun _ U o U' => ∃ v L, o = .returned v ∧ Q3_11 Z w_START_EVENT w_BOUNDARY_EVENT w_MESSAGE_BOUNDARY_EVENT w_TERMINATE_END_EVENT w_LINK_THROW_EVENT w_LINK_CATCH_EVENT w_RECEPTION w_END_EVENT w_EVENT_BASED_GATEWAY w_INCLUSIVE_GATEWAY w_EXCLUSIVE_GATEWAY w_MESSAGE_START_EVENT w_SUB_PROCESS w_ACTIVITY w_PARALLEL_GATEWAY  h0 n0 v U'.heap L ∧ FrameEnd U o U' L ({ frames := 0, cells := 0, slots := 0, locals := 0 } : Room).cells ({ frames := 0, cells := 0, slots := 0, locals := 0 } : Room).slots) := by
  refine MetFree.of_bodySF (plainFor_of_name pn_com_example_chorale_chorale_KindAttachesPinLaw) hisR ?_
  intro p e s m args below meth c s₁ Bd hml0 hP hK
  obtain ⟨rfl, hZ, hh⟩ := hP
  have hx := Bd.exec
  have hby := Bd.bytes
  have hml : c.maxLocals = 2 := hml0
  have hown : s.vm.findClass "com/example/chorale/chorale/KindAttachesPinLaw" = some m.cls := findClass_of_methodNamed Bd.named
  have hnm := (name_of_methodNamed Bd.named Bd.method).1
  have X0 : Stand p l e ({ frames := 0, cells := 0, slots := 0, locals := 0 } : Room) s m #[(.int (11 : Int32))] below meth c s₁ [] 0 0 := Stand.of_body Bd
  have e0 : s₁.heap = h0 := by rw [← hh, Bd.state]; rfl
  have N0 := Fr.nil n0
  show OGot p.tables e below (s₁.setTop (entryFrame m #[(.int (11 : Int32))] 2)) _
  refine OGot.go (fun t k => castTop (ef3_11 m ) k) ?_
  show OGot p.tables e below (s₁.setTop (mkF m 0 #[.val (.int (11 : Int32)), .unset] [])) _
  refine OGot.go (fun t k => XS.iconst X0.here hx rfl (hb hby d3_0) k) ?_
  show OGot p.tables e below (s₁.setTop (mkF m 1 #[.val (.int (11 : Int32)), .unset] [(.int (0 : Int32))])) _
  refine OGot.go (fun t k => XS.istoreN X0.here hx rfl (hb hby d3_1) rfl (l' := #[.val (.int (11 : Int32)), .val (.int (0 : Int32))]) rfl k) ?_
  show OGot p.tables e below (s₁.setTop (mkF m 2 #[.val (.int (11 : Int32)), .val (.int (0 : Int32))] [])) _
  refine OGot.go (fun t k => XS.iloadN X0.here hx rfl (hb hby d3_2) rfl k) ?_
  show OGot p.tables e below (s₁.setTop (mkF m 3 #[.val (.int (11 : Int32)), .val (.int (0 : Int32))] [(.int (11 : Int32))])) _
  refine OGot.go (fun t k => XS.bipush X0.here hx rfl (hb hby d3_3) k) ?_
  show OGot p.tables e below (s₁.setTop (mkF m 5 #[.val (.int (11 : Int32)), .val (.int (0 : Int32))] [(.int (13 : Int32)), (.int (11 : Int32))])) _
  refine OGot.go (fun t k => XS.icmpYes X0.here hx rfl (pc0 := 5) (pc' := 10) rfl (hb hby d3_5) rfl (by decide) (by decide) (by decide) k) ?_
  show OGot p.tables e below (s₁.setTop (mkF m 10 #[.val (.int (11 : Int32)), .val (.int (0 : Int32))] [])) _
  refine OGot.go (fun t k => XS.iloadN X0.here hx rfl (hb hby d3_10) rfl k) ?_
  show OGot p.tables e below (s₁.setTop (mkF m 11 #[.val (.int (11 : Int32)), .val (.int (0 : Int32))] [(.int (11 : Int32))])) _
  refine OGot.go (fun t k => XS.bipush X0.here hx rfl (hb hby d3_11) k) ?_
  show OGot p.tables e below (s₁.setTop (mkF m 13 #[.val (.int (11 : Int32)), .val (.int (0 : Int32))] [(.int (14 : Int32)), (.int (11 : Int32))])) _
  refine OGot.go (fun t k => XS.icmpYes X0.here hx rfl (pc0 := 13) (pc' := 18) rfl (hb hby d3_13) rfl (by decide) (by decide) (by decide) k) ?_
  show OGot p.tables e below (s₁.setTop (mkF m 18 #[.val (.int (11 : Int32)), .val (.int (0 : Int32))] [])) _
  refine OGot.go (fun t k => XS.iloadN X0.here hx rfl (hb hby d3_18) rfl k) ?_
  show OGot p.tables e below (s₁.setTop (mkF m 19 #[.val (.int (11 : Int32)), .val (.int (0 : Int32))] [(.int (0 : Int32))])) _
  obtain ⟨fs, hr, hrun, hended, hW, hsame⟩ := X0.leave (v := some (.int (0 : Int32))) (fun h => by rw [Bd.returns] at h; cases h)
  refine ⟨_, _, retN X0 hx (t := .boolean) Bd.returns (by simp) (hb hby d3_19) hr, hrun, hended, _, _, rfl, ?_, ⟨_, rfl⟩, hW, hsame.mono (by decide) (by decide)⟩
  exact (⟨rfl, N0, e0⟩ : Q3_11 Z w_START_EVENT w_BOUNDARY_EVENT w_MESSAGE_BOUNDARY_EVENT w_TERMINATE_END_EVENT w_LINK_THROW_EVENT w_LINK_CATCH_EVENT w_RECEPTION w_END_EVENT w_EVENT_BASED_GATEWAY w_INCLUSIVE_GATEWAY w_EXCLUSIVE_GATEWAY w_MESSAGE_START_EVENT w_SUB_PROCESS w_ACTIVITY w_PARALLEL_GATEWAY  h0 n0 _ s₁.heap _)
theorem d1_113 : decode method_2_code 113 = .ok (.iload_n 0, 1) := by decide +kernel
theorem d1_114 : decode method_2_code 114 = .ok (.bipush 12, 2) := by decide +kernel
theorem d1_116 : decode method_2_code 116 = .ok (.if_icmp .ne 7, 3) := by decide +kernel
theorem d1_119 : decode method_2_code 119 = .ok (.getstatic 46, 3) := by decide +kernel
theorem d1_122 : decode method_2_code 122 = .ok (.areturn, 1) := by decide +kernel
def Q1_12 (Z : State) (w_START_EVENT : Addr) (w_BOUNDARY_EVENT : Addr) (w_MESSAGE_BOUNDARY_EVENT : Addr) (w_TERMINATE_END_EVENT : Addr) (w_LINK_THROW_EVENT : Addr) (w_LINK_CATCH_EVENT : Addr) (w_RECEPTION : Addr) (w_END_EVENT : Addr) (w_EVENT_BASED_GATEWAY : Addr) (w_INCLUSIVE_GATEWAY : Addr) (w_EXCLUSIVE_GATEWAY : Addr) (w_MESSAGE_START_EVENT : Addr) (w_SUB_PROCESS : Addr) (w_ACTIVITY : Addr) (w_PARALLEL_GATEWAY : Addr)  (h0 : Heap) (n0 : Nat) (v : Option Value) (h : Heap) (L : List Loc) : Prop := v = some (.ref w_SUB_PROCESS) ∧ Fr n0 L ∧ h = h0
theorem ef1_12 (m : MethodId)  : entryFrame m #[(.int (12 : Int32))] 1 = mkF m 0 #[.val (.int (12 : Int32))] [] := by first | (simp [entryFrame, mkF, argsToLocals, Value.category]; done) | rfl
set_option maxRecDepth 65536 in
set_option maxHeartbeats 40000000 in
theorem rm1_12 (l : Launch) (Z : State) (a0 : Array Value) (hw : ∀ d ∈ tables_1, d.before a0 Z = true) (ws : List Jvm.Cond) {w_START_EVENT : Addr} {w_BOUNDARY_EVENT : Addr} {w_MESSAGE_BOUNDARY_EVENT : Addr} {w_TERMINATE_END_EVENT : Addr} {w_LINK_THROW_EVENT : Addr} {w_LINK_CATCH_EVENT : Addr} {w_RECEPTION : Addr} {w_END_EVENT : Addr} {w_EVENT_BASED_GATEWAY : Addr} {w_INCLUSIVE_GATEWAY : Addr} {w_EXCLUSIVE_GATEWAY : Addr} {w_MESSAGE_START_EVENT : Addr} {w_SUB_PROCESS : Addr} {w_ACTIVITY : Addr} {w_PARALLEL_GATEWAY : Addr} (G : Glob Z w_START_EVENT w_BOUNDARY_EVENT w_MESSAGE_BOUNDARY_EVENT w_TERMINATE_END_EVENT w_LINK_THROW_EVENT w_LINK_CATCH_EVENT w_RECEPTION w_END_EVENT w_EVENT_BASED_GATEWAY w_INCLUSIVE_GATEWAY w_EXCLUSIVE_GATEWAY w_MESSAGE_START_EVENT w_SUB_PROCESS w_ACTIVITY w_PARALLEL_GATEWAY)  (h0 : Heap) (n0 : Nat) (O0 : Old Z n0 h0) :
    MetFree l (⟨"com/example/chorale/chorale/KindAttachesPinLaw", "kindAt", "(I)Lcom/example/chorale/chorale/FlowGraph$Kind;"⟩ : MethodName) (head1 (Jvm.Cond.code (⟨"com/example/chorale/chorale/KindAttachesPinLaw", "kindAt", "(I)Lcom/example/chorale/chorale/FlowGraph$Kind;"⟩ : MethodName) method_2_code 1 (some (.object "com/example/chorale/chorale/FlowGraph$Kind")) :: ws) ({ frames := 0, cells := 0, slots := 0, locals := 0 } : Room)) (fun a U => a = #[(.int (12 : Int32))] ∧ Z.Warmed39 U.vm ∧ U.heap = h0) (fun _ _ _ _ _ => True) (fun _ U o U' => ∃ v L, o = .returned v ∧ Q1_12 Z w_START_EVENT w_BOUNDARY_EVENT w_MESSAGE_BOUNDARY_EVENT w_TERMINATE_END_EVENT w_LINK_THROW_EVENT w_LINK_CATCH_EVENT w_RECEPTION w_END_EVENT w_EVENT_BASED_GATEWAY w_INCLUSIVE_GATEWAY w_EXCLUSIVE_GATEWAY w_MESSAGE_START_EVENT w_SUB_PROCESS w_ACTIVITY w_PARALLEL_GATEWAY  h0 n0 v U'.heap L ∧ FrameEnd U o U' L ({ frames := 0, cells := 0, slots := 0, locals := 0 } : Room).cells ({ frames := 0, cells := 0, slots := 0, locals := 0 } : Room).slots) := by
  refine MetFree.of_bodySF (plainFor_of_name pn_com_example_chorale_chorale_KindAttachesPinLaw) hisR ?_
  intro p e s m args below meth c s₁ Bd hml0 hP hK
  obtain ⟨rfl, hZ, hh⟩ := hP
  have hx := Bd.exec
  have hby := Bd.bytes
  have hml : c.maxLocals = 1 := hml0
  have hown : s.vm.findClass "com/example/chorale/chorale/KindAttachesPinLaw" = some m.cls := findClass_of_methodNamed Bd.named
  have hnm := (name_of_methodNamed Bd.named Bd.method).1
  have X0 : Stand p l e ({ frames := 0, cells := 0, slots := 0, locals := 0 } : Room) s m #[(.int (12 : Int32))] below meth c s₁ [] 0 0 := Stand.of_body Bd
  have e0 : s₁.heap = h0 := by rw [← hh, Bd.state]; rfl
  have N0 := Fr.nil n0
  show OGot p.tables e below (s₁.setTop (entryFrame m #[(.int (12 : Int32))] 1)) _
  refine OGot.go (fun t k => castTop (ef1_12 m ) k) ?_
  show OGot p.tables e below (s₁.setTop (mkF m 0 #[.val (.int (12 : Int32))] [])) _
  refine OGot.go (fun t k => XS.iloadN X0.here hx rfl (hb hby d1_0) rfl k) ?_
  show OGot p.tables e below (s₁.setTop (mkF m 1 #[.val (.int (12 : Int32))] [(.int (12 : Int32))])) _
  refine OGot.go (fun t k => XS.ifYes X0.here hx rfl (pc0 := 1) (pc' := 8) rfl (hb hby d1_1) rfl (by decide) (by decide) (by decide) k) ?_
  show OGot p.tables e below (s₁.setTop (mkF m 8 #[.val (.int (12 : Int32))] [])) _
  refine OGot.go (fun t k => XS.iloadN X0.here hx rfl (hb hby d1_8) rfl k) ?_
  show OGot p.tables e below (s₁.setTop (mkF m 9 #[.val (.int (12 : Int32))] [(.int (12 : Int32))])) _
  refine OGot.go (fun t k => XS.iconst X0.here hx rfl (hb hby d1_9) k) ?_
  show OGot p.tables e below (s₁.setTop (mkF m 10 #[.val (.int (12 : Int32))] [(.int (1 : Int32)), (.int (12 : Int32))])) _
  refine OGot.go (fun t k => XS.icmpYes X0.here hx rfl (pc0 := 10) (pc' := 17) rfl (hb hby d1_10) rfl (by decide) (by decide) (by decide) k) ?_
  show OGot p.tables e below (s₁.setTop (mkF m 17 #[.val (.int (12 : Int32))] [])) _
  refine OGot.go (fun t k => XS.iloadN X0.here hx rfl (hb hby d1_17) rfl k) ?_
  show OGot p.tables e below (s₁.setTop (mkF m 18 #[.val (.int (12 : Int32))] [(.int (12 : Int32))])) _
  refine OGot.go (fun t k => XS.iconst X0.here hx rfl (hb hby d1_18) k) ?_
  show OGot p.tables e below (s₁.setTop (mkF m 19 #[.val (.int (12 : Int32))] [(.int (2 : Int32)), (.int (12 : Int32))])) _
  refine OGot.go (fun t k => XS.icmpYes X0.here hx rfl (pc0 := 19) (pc' := 26) rfl (hb hby d1_19) rfl (by decide) (by decide) (by decide) k) ?_
  show OGot p.tables e below (s₁.setTop (mkF m 26 #[.val (.int (12 : Int32))] [])) _
  refine OGot.go (fun t k => XS.iloadN X0.here hx rfl (hb hby d1_26) rfl k) ?_
  show OGot p.tables e below (s₁.setTop (mkF m 27 #[.val (.int (12 : Int32))] [(.int (12 : Int32))])) _
  refine OGot.go (fun t k => XS.iconst X0.here hx rfl (hb hby d1_27) k) ?_
  show OGot p.tables e below (s₁.setTop (mkF m 28 #[.val (.int (12 : Int32))] [(.int (3 : Int32)), (.int (12 : Int32))])) _
  refine OGot.go (fun t k => XS.icmpYes X0.here hx rfl (pc0 := 28) (pc' := 35) rfl (hb hby d1_28) rfl (by decide) (by decide) (by decide) k) ?_
  show OGot p.tables e below (s₁.setTop (mkF m 35 #[.val (.int (12 : Int32))] [])) _
  refine OGot.go (fun t k => XS.iloadN X0.here hx rfl (hb hby d1_35) rfl k) ?_
  show OGot p.tables e below (s₁.setTop (mkF m 36 #[.val (.int (12 : Int32))] [(.int (12 : Int32))])) _
  refine OGot.go (fun t k => XS.iconst X0.here hx rfl (hb hby d1_36) k) ?_
  show OGot p.tables e below (s₁.setTop (mkF m 37 #[.val (.int (12 : Int32))] [(.int (4 : Int32)), (.int (12 : Int32))])) _
  refine OGot.go (fun t k => XS.icmpYes X0.here hx rfl (pc0 := 37) (pc' := 44) rfl (hb hby d1_37) rfl (by decide) (by decide) (by decide) k) ?_
  show OGot p.tables e below (s₁.setTop (mkF m 44 #[.val (.int (12 : Int32))] [])) _
  refine OGot.go (fun t k => XS.iloadN X0.here hx rfl (hb hby d1_44) rfl k) ?_
  show OGot p.tables e below (s₁.setTop (mkF m 45 #[.val (.int (12 : Int32))] [(.int (12 : Int32))])) _
  refine OGot.go (fun t k => XS.iconst X0.here hx rfl (hb hby d1_45) k) ?_
  show OGot p.tables e below (s₁.setTop (mkF m 46 #[.val (.int (12 : Int32))] [(.int (5 : Int32)), (.int (12 : Int32))])) _
  refine OGot.go (fun t k => XS.icmpYes X0.here hx rfl (pc0 := 46) (pc' := 53) rfl (hb hby d1_46) rfl (by decide) (by decide) (by decide) k) ?_
  show OGot p.tables e below (s₁.setTop (mkF m 53 #[.val (.int (12 : Int32))] [])) _
  refine OGot.go (fun t k => XS.iloadN X0.here hx rfl (hb hby d1_53) rfl k) ?_
  show OGot p.tables e below (s₁.setTop (mkF m 54 #[.val (.int (12 : Int32))] [(.int (12 : Int32))])) _
  refine OGot.go (fun t k => XS.bipush X0.here hx rfl (hb hby d1_54) k) ?_
  show OGot p.tables e below (s₁.setTop (mkF m 56 #[.val (.int (12 : Int32))] [(.int (6 : Int32)), (.int (12 : Int32))])) _
  refine OGot.go (fun t k => XS.icmpYes X0.here hx rfl (pc0 := 56) (pc' := 63) rfl (hb hby d1_56) rfl (by decide) (by decide) (by decide) k) ?_
  show OGot p.tables e below (s₁.setTop (mkF m 63 #[.val (.int (12 : Int32))] [])) _
  refine OGot.go (fun t k => XS.iloadN X0.here hx rfl (hb hby d1_63) rfl k) ?_
  show OGot p.tables e below (s₁.setTop (mkF m 64 #[.val (.int (12 : Int32))] [(.int (12 : Int32))])) _
  refine OGot.go (fun t k => XS.bipush X0.here hx rfl (hb hby d1_64) k) ?_
  show OGot p.tables e below (s₁.setTop (mkF m 66 #[.val (.int (12 : Int32))] [(.int (7 : Int32)), (.int (12 : Int32))])) _
  refine OGot.go (fun t k => XS.icmpYes X0.here hx rfl (pc0 := 66) (pc' := 73) rfl (hb hby d1_66) rfl (by decide) (by decide) (by decide) k) ?_
  show OGot p.tables e below (s₁.setTop (mkF m 73 #[.val (.int (12 : Int32))] [])) _
  refine OGot.go (fun t k => XS.iloadN X0.here hx rfl (hb hby d1_73) rfl k) ?_
  show OGot p.tables e below (s₁.setTop (mkF m 74 #[.val (.int (12 : Int32))] [(.int (12 : Int32))])) _
  refine OGot.go (fun t k => XS.bipush X0.here hx rfl (hb hby d1_74) k) ?_
  show OGot p.tables e below (s₁.setTop (mkF m 76 #[.val (.int (12 : Int32))] [(.int (8 : Int32)), (.int (12 : Int32))])) _
  refine OGot.go (fun t k => XS.icmpYes X0.here hx rfl (pc0 := 76) (pc' := 83) rfl (hb hby d1_76) rfl (by decide) (by decide) (by decide) k) ?_
  show OGot p.tables e below (s₁.setTop (mkF m 83 #[.val (.int (12 : Int32))] [])) _
  refine OGot.go (fun t k => XS.iloadN X0.here hx rfl (hb hby d1_83) rfl k) ?_
  show OGot p.tables e below (s₁.setTop (mkF m 84 #[.val (.int (12 : Int32))] [(.int (12 : Int32))])) _
  refine OGot.go (fun t k => XS.bipush X0.here hx rfl (hb hby d1_84) k) ?_
  show OGot p.tables e below (s₁.setTop (mkF m 86 #[.val (.int (12 : Int32))] [(.int (9 : Int32)), (.int (12 : Int32))])) _
  refine OGot.go (fun t k => XS.icmpYes X0.here hx rfl (pc0 := 86) (pc' := 93) rfl (hb hby d1_86) rfl (by decide) (by decide) (by decide) k) ?_
  show OGot p.tables e below (s₁.setTop (mkF m 93 #[.val (.int (12 : Int32))] [])) _
  refine OGot.go (fun t k => XS.iloadN X0.here hx rfl (hb hby d1_93) rfl k) ?_
  show OGot p.tables e below (s₁.setTop (mkF m 94 #[.val (.int (12 : Int32))] [(.int (12 : Int32))])) _
  refine OGot.go (fun t k => XS.bipush X0.here hx rfl (hb hby d1_94) k) ?_
  show OGot p.tables e below (s₁.setTop (mkF m 96 #[.val (.int (12 : Int32))] [(.int (10 : Int32)), (.int (12 : Int32))])) _
  refine OGot.go (fun t k => XS.icmpYes X0.here hx rfl (pc0 := 96) (pc' := 103) rfl (hb hby d1_96) rfl (by decide) (by decide) (by decide) k) ?_
  show OGot p.tables e below (s₁.setTop (mkF m 103 #[.val (.int (12 : Int32))] [])) _
  refine OGot.go (fun t k => XS.iloadN X0.here hx rfl (hb hby d1_103) rfl k) ?_
  show OGot p.tables e below (s₁.setTop (mkF m 104 #[.val (.int (12 : Int32))] [(.int (12 : Int32))])) _
  refine OGot.go (fun t k => XS.bipush X0.here hx rfl (hb hby d1_104) k) ?_
  show OGot p.tables e below (s₁.setTop (mkF m 106 #[.val (.int (12 : Int32))] [(.int (11 : Int32)), (.int (12 : Int32))])) _
  refine OGot.go (fun t k => XS.icmpYes X0.here hx rfl (pc0 := 106) (pc' := 113) rfl (hb hby d1_106) rfl (by decide) (by decide) (by decide) k) ?_
  show OGot p.tables e below (s₁.setTop (mkF m 113 #[.val (.int (12 : Int32))] [])) _
  refine OGot.go (fun t k => XS.iloadN X0.here hx rfl (hb hby d1_113) rfl k) ?_
  show OGot p.tables e below (s₁.setTop (mkF m 114 #[.val (.int (12 : Int32))] [(.int (12 : Int32))])) _
  refine OGot.go (fun t k => XS.bipush X0.here hx rfl (hb hby d1_114) k) ?_
  show OGot p.tables e below (s₁.setTop (mkF m 116 #[.val (.int (12 : Int32))] [(.int (12 : Int32)), (.int (12 : Int32))])) _
  refine OGot.go (fun t k => XS.icmpNo X0.here hx rfl (hb hby d1_116) rfl (by decide) k) ?_
  show OGot p.tables e below (s₁.setTop (mkF m 119 #[.val (.int (12 : Int32))] [])) _
  obtain ⟨T1, X1, e1, st1⟩ := getS2 X0 hx hZ hown (host := "") (Or.inl (ow hw 46 rfl)) Via.refl e0 (G.2.2.2.2.2.2.2.2.2.2.2.2.2.2.2.2.2.2.2.2.2.2.2.2.1.ext O0.2) (g := (mkF m 119 #[.val (.int (12 : Int32))] [])) rfl (hb hby d1_119)
  refine OGot.go st1 ?_
  show OGot p.tables e below (T1.setTop (mkF m 122 #[.val (.int (12 : Int32))] [(.ref w_SUB_PROCESS)])) _
  obtain ⟨fs, hr, hrun, hended, hW, hsame⟩ := X1.leave (v := some (.ref w_SUB_PROCESS)) (fun h => by rw [Bd.returns] at h; cases h)
  refine ⟨_, _, oretA X1 hx Bd.returns rfl rfl (hb hby d1_122) hr, hrun, hended, _, _, rfl, ?_, ⟨_, rfl⟩, hW, hsame.mono (by decide) (by decide)⟩
  exact (⟨rfl, N0, e1⟩ : Q1_12 Z w_START_EVENT w_BOUNDARY_EVENT w_MESSAGE_BOUNDARY_EVENT w_TERMINATE_END_EVENT w_LINK_THROW_EVENT w_LINK_CATCH_EVENT w_RECEPTION w_END_EVENT w_EVENT_BASED_GATEWAY w_INCLUSIVE_GATEWAY w_EXCLUSIVE_GATEWAY w_MESSAGE_START_EVENT w_SUB_PROCESS w_ACTIVITY w_PARALLEL_GATEWAY  h0 n0 _ T1.heap _)
def Q2_12 (Z : State) (w_START_EVENT : Addr) (w_BOUNDARY_EVENT : Addr) (w_MESSAGE_BOUNDARY_EVENT : Addr) (w_TERMINATE_END_EVENT : Addr) (w_LINK_THROW_EVENT : Addr) (w_LINK_CATCH_EVENT : Addr) (w_RECEPTION : Addr) (w_END_EVENT : Addr) (w_EVENT_BASED_GATEWAY : Addr) (w_INCLUSIVE_GATEWAY : Addr) (w_EXCLUSIVE_GATEWAY : Addr) (w_MESSAGE_START_EVENT : Addr) (w_SUB_PROCESS : Addr) (w_ACTIVITY : Addr) (w_PARALLEL_GATEWAY : Addr)  (h0 : Heap) (n0 : Nat) (v : Option Value) (h : Heap) (L : List Loc) : Prop := v = some (.int (0 : Int32)) ∧ Fr n0 L ∧ h = h0
theorem ef2_12 (m : MethodId) (x0 : Addr) : entryFrame m #[(.ref x0)] 1 = mkF m 0 #[.val (.ref x0)] [] := by first | (simp [entryFrame, mkF, argsToLocals, Value.category]; done) | rfl
set_option maxRecDepth 65536 in
set_option maxHeartbeats 40000000 in
theorem rm2_12 (l : Launch) (Z : State) (a0 : Array Value) (hw : ∀ d ∈ tables_1, d.before a0 Z = true) (ws : List Jvm.Cond) {w_START_EVENT : Addr} {w_BOUNDARY_EVENT : Addr} {w_MESSAGE_BOUNDARY_EVENT : Addr} {w_TERMINATE_END_EVENT : Addr} {w_LINK_THROW_EVENT : Addr} {w_LINK_CATCH_EVENT : Addr} {w_RECEPTION : Addr} {w_END_EVENT : Addr} {w_EVENT_BASED_GATEWAY : Addr} {w_INCLUSIVE_GATEWAY : Addr} {w_EXCLUSIVE_GATEWAY : Addr} {w_MESSAGE_START_EVENT : Addr} {w_SUB_PROCESS : Addr} {w_ACTIVITY : Addr} {w_PARALLEL_GATEWAY : Addr} (G : Glob Z w_START_EVENT w_BOUNDARY_EVENT w_MESSAGE_BOUNDARY_EVENT w_TERMINATE_END_EVENT w_LINK_THROW_EVENT w_LINK_CATCH_EVENT w_RECEPTION w_END_EVENT w_EVENT_BASED_GATEWAY w_INCLUSIVE_GATEWAY w_EXCLUSIVE_GATEWAY w_MESSAGE_START_EVENT w_SUB_PROCESS w_ACTIVITY w_PARALLEL_GATEWAY)  (h0 : Heap) (n0 : Nat) (O0 : Old Z n0 h0) :
    MetFree l (⟨"com/example/chorale/chorale/FlowGraph$Kind", "attaches", "()Z"⟩ : MethodName) (head1 (Jvm.Cond.code (⟨"com/example/chorale/chorale/FlowGraph$Kind", "attaches", "()Z"⟩ : MethodName) prog_73_method_5_code 1 (some .boolean) :: ws) ({ frames := 0, cells := 0, slots := 0, locals := 0 } : Room)) (fun a U => a = #[(.ref w_SUB_PROCESS)] ∧ Z.Warmed39 U.vm ∧ U.heap = h0) (fun _ _ _ _ _ => True) (fun _ U o U' => ∃ v L, o = .returned v ∧ Q2_12 Z w_START_EVENT w_BOUNDARY_EVENT w_MESSAGE_BOUNDARY_EVENT w_TERMINATE_END_EVENT w_LINK_THROW_EVENT w_LINK_CATCH_EVENT w_RECEPTION w_END_EVENT w_EVENT_BASED_GATEWAY w_INCLUSIVE_GATEWAY w_EXCLUSIVE_GATEWAY w_MESSAGE_START_EVENT w_SUB_PROCESS w_ACTIVITY w_PARALLEL_GATEWAY  h0 n0 v U'.heap L ∧ FrameEnd U o U' L ({ frames := 0, cells := 0, slots := 0, locals := 0 } : Room).cells ({ frames := 0, cells := 0, slots := 0, locals := 0 } : Room).slots) := by
  refine MetFree.of_bodySF (plainFor_of_name pn_com_example_chorale_chorale_FlowGraph_Kind) hisR ?_
  intro p e s m args below meth c s₁ Bd hml0 hP hK
  obtain ⟨rfl, hZ, hh⟩ := hP
  have hx := Bd.exec
  have hby := Bd.bytes
  have hml : c.maxLocals = 1 := hml0
  have hown : s.vm.findClass "com/example/chorale/chorale/FlowGraph$Kind" = some m.cls := findClass_of_methodNamed Bd.named
  have hnm := (name_of_methodNamed Bd.named Bd.method).1
  have X0 : Stand p l e ({ frames := 0, cells := 0, slots := 0, locals := 0 } : Room) s m #[(.ref w_SUB_PROCESS)] below meth c s₁ [] 0 0 := Stand.of_body Bd
  have e0 : s₁.heap = h0 := by rw [← hh, Bd.state]; rfl
  have N0 := Fr.nil n0
  show OGot p.tables e below (s₁.setTop (entryFrame m #[(.ref w_SUB_PROCESS)] 1)) _
  refine OGot.go (fun t k => castTop (ef2_12 m w_SUB_PROCESS) k) ?_
  show OGot p.tables e below (s₁.setTop (mkF m 0 #[.val (.ref w_SUB_PROCESS)] [])) _
  refine OGot.go (fun t k => XS.aloadN X0.here hx rfl (hb hby d2_0) rfl rfl k) ?_
  show OGot p.tables e below (s₁.setTop (mkF m 1 #[.val (.ref w_SUB_PROCESS)] [(.ref w_SUB_PROCESS)])) _
  obtain ⟨T2, X2, e2, st2⟩ := getS2 X0 hx hZ hown (host := "") (Or.inl (ow hw 13 rfl)) Via.refl e0 (G.2.2.1.ext O0.2) (g := (mkF m 1 #[.val (.ref w_SUB_PROCESS)] [(.ref w_SUB_PROCESS)])) rfl (hb hby d2_1)
  refine OGot.go st2 ?_
  show OGot p.tables e below (T2.setTop (mkF m 4 #[.val (.ref w_SUB_PROCESS)] [(.ref w_BOUNDARY_EVENT), (.ref w_SUB_PROCESS)])) _
  have ne3 : w_SUB_PROCESS ≠ w_BOUNDARY_EVENT := (Fld.ne G.2.2.2.2.2.2.2.2.2.2.2.2.2.2.2.2.2.2.2.2.2.2.2.2.2.2.2.2.2.2.2.2.2.2.2.2.2.2.2.2.2.2.1 G.2.2.2.2.2.2.2.2.2.2.2.2.2.2.2.2.2.2.2.2.2.2.2.2.2.2.2.2.2.2.2.1 (by decide))
  refine OGot.go (fun t k => Jvm.RoadKit.acmp (g := (mkF m 4 #[.val (.ref w_SUB_PROCESS)] [(.ref w_BOUNDARY_EVENT), (.ref w_SUB_PROCESS)])) X2 hx rfl rfl rfl (pc0 := 4) (pc' := 7) (same := false) rfl (hb hby d2_4) rfl (decide_eq_false fun q => ne3 (Value.ref.inj q)) (by decide) (by decide) k) ?_
  show OGot p.tables e below (T2.setTop (mkF m 7 #[.val (.ref w_SUB_PROCESS)] [])) _
  refine OGot.go (fun t k => XS.aloadN X2.here hx rfl (hb hby d2_7) rfl rfl k) ?_
  show OGot p.tables e below (T2.setTop (mkF m 8 #[.val (.ref w_SUB_PROCESS)] [(.ref w_SUB_PROCESS)])) _
  obtain ⟨T4, X4, e4, st4⟩ := getS2 X2 hx hZ hown (host := "") (Or.inl (ow hw 15 rfl)) Via.refl e2 (G.2.2.2.2.1.ext O0.2) (g := (mkF m 8 #[.val (.ref w_SUB_PROCESS)] [(.ref w_SUB_PROCESS)])) rfl (hb hby d2_8)
  refine OGot.go st4 ?_
  show OGot p.tables e below (T4.setTop (mkF m 11 #[.val (.ref w_SUB_PROCESS)] [(.ref w_MESSAGE_BOUNDARY_EVENT), (.ref w_SUB_PROCESS)])) _
  have ne5 : w_SUB_PROCESS ≠ w_MESSAGE_BOUNDARY_EVENT := (Fld.ne G.2.2.2.2.2.2.2.2.2.2.2.2.2.2.2.2.2.2.2.2.2.2.2.2.2.2.2.2.2.2.2.2.2.2.2.2.2.2.2.2.2.2.1 G.2.2.2.2.2.2.2.2.2.2.2.2.2.2.2.2.2.2.2.2.2.2.2.2.2.2.2.2.2.2.2.2.1 (by decide))
  refine OGot.go (fun t k => Jvm.RoadKit.acmp (g := (mkF m 11 #[.val (.ref w_SUB_PROCESS)] [(.ref w_MESSAGE_BOUNDARY_EVENT), (.ref w_SUB_PROCESS)])) X4 hx rfl rfl rfl (pc0 := 11) (pc' := 18) (same := false) rfl (hb hby d2_11) rfl (decide_eq_false fun q => ne5 (Value.ref.inj q)) (by decide) (by decide) k) ?_
  show OGot p.tables e below (T4.setTop (mkF m 18 #[.val (.ref w_SUB_PROCESS)] [])) _
  refine OGot.go (fun t k => XS.iconst X4.here hx rfl (hb hby d2_18) k) ?_
  show OGot p.tables e below (T4.setTop (mkF m 19 #[.val (.ref w_SUB_PROCESS)] [(.int (0 : Int32))])) _
  obtain ⟨fs, hr, hrun, hended, hW, hsame⟩ := X4.leave (v := some (.int (0 : Int32))) (fun h => by rw [Bd.returns] at h; cases h)
  refine ⟨_, _, retN X4 hx (t := .boolean) Bd.returns (by simp) (hb hby d2_19) hr, hrun, hended, _, _, rfl, ?_, ⟨_, rfl⟩, hW, hsame.mono (by decide) (by decide)⟩
  exact (⟨rfl, N0, e4⟩ : Q2_12 Z w_START_EVENT w_BOUNDARY_EVENT w_MESSAGE_BOUNDARY_EVENT w_TERMINATE_END_EVENT w_LINK_THROW_EVENT w_LINK_CATCH_EVENT w_RECEPTION w_END_EVENT w_EVENT_BASED_GATEWAY w_INCLUSIVE_GATEWAY w_EXCLUSIVE_GATEWAY w_MESSAGE_START_EVENT w_SUB_PROCESS w_ACTIVITY w_PARALLEL_GATEWAY  h0 n0 _ T4.heap _)
def Q3_12 (Z : State) (w_START_EVENT : Addr) (w_BOUNDARY_EVENT : Addr) (w_MESSAGE_BOUNDARY_EVENT : Addr) (w_TERMINATE_END_EVENT : Addr) (w_LINK_THROW_EVENT : Addr) (w_LINK_CATCH_EVENT : Addr) (w_RECEPTION : Addr) (w_END_EVENT : Addr) (w_EVENT_BASED_GATEWAY : Addr) (w_INCLUSIVE_GATEWAY : Addr) (w_EXCLUSIVE_GATEWAY : Addr) (w_MESSAGE_START_EVENT : Addr) (w_SUB_PROCESS : Addr) (w_ACTIVITY : Addr) (w_PARALLEL_GATEWAY : Addr)  (h0 : Heap) (n0 : Nat) (v : Option Value) (h : Heap) (L : List Loc) : Prop := v = some (.int (0 : Int32)) ∧ Fr n0 L ∧ h = h0
theorem ef3_12 (m : MethodId)  : entryFrame m #[(.int (12 : Int32))] 2 = mkF m 0 #[.val (.int (12 : Int32)), .unset] [] := by first | (simp [entryFrame, mkF, argsToLocals, Value.category]; done) | rfl
set_option maxRecDepth 65536 in
set_option maxHeartbeats 40000000 in
theorem rm3_12 (l : Launch) (Z : State) (a0 : Array Value) (hw : ∀ d ∈ tables_1, d.before a0 Z = true) (ws : List Jvm.Cond) {w_START_EVENT : Addr} {w_BOUNDARY_EVENT : Addr} {w_MESSAGE_BOUNDARY_EVENT : Addr} {w_TERMINATE_END_EVENT : Addr} {w_LINK_THROW_EVENT : Addr} {w_LINK_CATCH_EVENT : Addr} {w_RECEPTION : Addr} {w_END_EVENT : Addr} {w_EVENT_BASED_GATEWAY : Addr} {w_INCLUSIVE_GATEWAY : Addr} {w_EXCLUSIVE_GATEWAY : Addr} {w_MESSAGE_START_EVENT : Addr} {w_SUB_PROCESS : Addr} {w_ACTIVITY : Addr} {w_PARALLEL_GATEWAY : Addr} (G : Glob Z w_START_EVENT w_BOUNDARY_EVENT w_MESSAGE_BOUNDARY_EVENT w_TERMINATE_END_EVENT w_LINK_THROW_EVENT w_LINK_CATCH_EVENT w_RECEPTION w_END_EVENT w_EVENT_BASED_GATEWAY w_INCLUSIVE_GATEWAY w_EXCLUSIVE_GATEWAY w_MESSAGE_START_EVENT w_SUB_PROCESS w_ACTIVITY w_PARALLEL_GATEWAY)  (h0 : Heap) (n0 : Nat) (O0 : Old Z n0 h0) :
    MetFree l (⟨"com/example/chorale/chorale/KindAttachesPinLaw", "isBoundaryIndex", "(I)Z"⟩ : MethodName) (head1 (Jvm.Cond.code (⟨"com/example/chorale/chorale/KindAttachesPinLaw", "isBoundaryIndex", "(I)Z"⟩ : MethodName) method_3_code 2 (some .boolean) :: ws) ({ frames := 0, cells := 0, slots := 0, locals := 0 } : Room)) (fun a U => a = #[(.int (12 : Int32))] ∧ Z.Warmed39 U.vm ∧ U.heap = h0) (fun _ _ _ _ _ => True) (fun _ U o U' => ∃ v L, o = .returned v ∧ Q3_12 Z w_START_EVENT w_BOUNDARY_EVENT w_MESSAGE_BOUNDARY_EVENT w_TERMINATE_END_EVENT w_LINK_THROW_EVENT w_LINK_CATCH_EVENT w_RECEPTION w_END_EVENT w_EVENT_BASED_GATEWAY w_INCLUSIVE_GATEWAY w_EXCLUSIVE_GATEWAY w_MESSAGE_START_EVENT w_SUB_PROCESS w_ACTIVITY w_PARALLEL_GATEWAY  h0 n0 v U'.heap L ∧ FrameEnd U o U' L ({ frames := 0, cells := 0, slots := 0, locals := 0 } : Room).cells ({ frames := 0, cells := 0, slots := 0, locals := 0 } : Room).slots) := by
  refine MetFree.of_bodySF (plainFor_of_name pn_com_example_chorale_chorale_KindAttachesPinLaw) hisR ?_
  intro p e s m args below meth c s₁ Bd hml0 hP hK
  obtain ⟨rfl, hZ, hh⟩ := hP
  have hx := Bd.exec
  have hby := Bd.bytes
  have hml : c.maxLocals = 2 := hml0
  have hown : s.vm.findClass "com/example/chorale/chorale/KindAttachesPinLaw" = some m.cls := findClass_of_methodNamed Bd.named
  have hnm := (name_of_methodNamed Bd.named Bd.method).1
  have X0 : Stand p l e ({ frames := 0, cells := 0, slots := 0, locals := 0 } : Room) s m #[(.int (12 : Int32))] below meth c s₁ [] 0 0 := Stand.of_body Bd
  have e0 : s₁.heap = h0 := by rw [← hh, Bd.state]; rfl
  have N0 := Fr.nil n0
  show OGot p.tables e below (s₁.setTop (entryFrame m #[(.int (12 : Int32))] 2)) _
  refine OGot.go (fun t k => castTop (ef3_12 m ) k) ?_
  show OGot p.tables e below (s₁.setTop (mkF m 0 #[.val (.int (12 : Int32)), .unset] [])) _
  refine OGot.go (fun t k => XS.iconst X0.here hx rfl (hb hby d3_0) k) ?_
  show OGot p.tables e below (s₁.setTop (mkF m 1 #[.val (.int (12 : Int32)), .unset] [(.int (0 : Int32))])) _
  refine OGot.go (fun t k => XS.istoreN X0.here hx rfl (hb hby d3_1) rfl (l' := #[.val (.int (12 : Int32)), .val (.int (0 : Int32))]) rfl k) ?_
  show OGot p.tables e below (s₁.setTop (mkF m 2 #[.val (.int (12 : Int32)), .val (.int (0 : Int32))] [])) _
  refine OGot.go (fun t k => XS.iloadN X0.here hx rfl (hb hby d3_2) rfl k) ?_
  show OGot p.tables e below (s₁.setTop (mkF m 3 #[.val (.int (12 : Int32)), .val (.int (0 : Int32))] [(.int (12 : Int32))])) _
  refine OGot.go (fun t k => XS.bipush X0.here hx rfl (hb hby d3_3) k) ?_
  show OGot p.tables e below (s₁.setTop (mkF m 5 #[.val (.int (12 : Int32)), .val (.int (0 : Int32))] [(.int (13 : Int32)), (.int (12 : Int32))])) _
  refine OGot.go (fun t k => XS.icmpYes X0.here hx rfl (pc0 := 5) (pc' := 10) rfl (hb hby d3_5) rfl (by decide) (by decide) (by decide) k) ?_
  show OGot p.tables e below (s₁.setTop (mkF m 10 #[.val (.int (12 : Int32)), .val (.int (0 : Int32))] [])) _
  refine OGot.go (fun t k => XS.iloadN X0.here hx rfl (hb hby d3_10) rfl k) ?_
  show OGot p.tables e below (s₁.setTop (mkF m 11 #[.val (.int (12 : Int32)), .val (.int (0 : Int32))] [(.int (12 : Int32))])) _
  refine OGot.go (fun t k => XS.bipush X0.here hx rfl (hb hby d3_11) k) ?_
  show OGot p.tables e below (s₁.setTop (mkF m 13 #[.val (.int (12 : Int32)), .val (.int (0 : Int32))] [(.int (14 : Int32)), (.int (12 : Int32))])) _
  refine OGot.go (fun t k => XS.icmpYes X0.here hx rfl (pc0 := 13) (pc' := 18) rfl (hb hby d3_13) rfl (by decide) (by decide) (by decide) k) ?_
  show OGot p.tables e below (s₁.setTop (mkF m 18 #[.val (.int (12 : Int32)), .val (.int (0 : Int32))] [])) _
  refine OGot.go (fun t k => XS.iloadN X0.here hx rfl (hb hby d3_18) rfl k) ?_
  show OGot p.tables e below (s₁.setTop (mkF m 19 #[.val (.int (12 : Int32)), .val (.int (0 : Int32))] [(.int (0 : Int32))])) _
  obtain ⟨fs, hr, hrun, hended, hW, hsame⟩ := X0.leave (v := some (.int (0 : Int32))) (fun h => by rw [Bd.returns] at h; cases h)
  refine ⟨_, _, retN X0 hx (t := .boolean) Bd.returns (by simp) (hb hby d3_19) hr, hrun, hended, _, _, rfl, ?_, ⟨_, rfl⟩, hW, hsame.mono (by decide) (by decide)⟩
  exact (⟨rfl, N0, e0⟩ : Q3_12 Z w_START_EVENT w_BOUNDARY_EVENT w_MESSAGE_BOUNDARY_EVENT w_TERMINATE_END_EVENT w_LINK_THROW_EVENT w_LINK_CATCH_EVENT w_RECEPTION w_END_EVENT w_EVENT_BASED_GATEWAY w_INCLUSIVE_GATEWAY w_EXCLUSIVE_GATEWAY w_MESSAGE_START_EVENT w_SUB_PROCESS w_ACTIVITY w_PARALLEL_GATEWAY  h0 n0 _ s₁.heap _)
theorem d1_123 : decode method_2_code 123 = .ok (.iload_n 0, 1) := by decide +kernel
theorem d1_124 : decode method_2_code 124 = .ok (.bipush 13, 2) := by decide +kernel
theorem d1_126 : decode method_2_code 126 = .ok (.if_icmp .ne 7, 3) := by decide +kernel
theorem d1_129 : decode method_2_code 129 = .ok (.getstatic 49, 3) := by decide +kernel
theorem d1_132 : decode method_2_code 132 = .ok (.areturn, 1) := by decide +kernel
def Q1_13 (Z : State) (w_START_EVENT : Addr) (w_BOUNDARY_EVENT : Addr) (w_MESSAGE_BOUNDARY_EVENT : Addr) (w_TERMINATE_END_EVENT : Addr) (w_LINK_THROW_EVENT : Addr) (w_LINK_CATCH_EVENT : Addr) (w_RECEPTION : Addr) (w_END_EVENT : Addr) (w_EVENT_BASED_GATEWAY : Addr) (w_INCLUSIVE_GATEWAY : Addr) (w_EXCLUSIVE_GATEWAY : Addr) (w_MESSAGE_START_EVENT : Addr) (w_SUB_PROCESS : Addr) (w_ACTIVITY : Addr) (w_PARALLEL_GATEWAY : Addr)  (h0 : Heap) (n0 : Nat) (v : Option Value) (h : Heap) (L : List Loc) : Prop := v = some (.ref w_BOUNDARY_EVENT) ∧ Fr n0 L ∧ h = h0
theorem ef1_13 (m : MethodId)  : entryFrame m #[(.int (13 : Int32))] 1 = mkF m 0 #[.val (.int (13 : Int32))] [] := by first | (simp [entryFrame, mkF, argsToLocals, Value.category]; done) | rfl
set_option maxRecDepth 65536 in
set_option maxHeartbeats 40000000 in
theorem rm1_13 (l : Launch) (Z : State) (a0 : Array Value) (hw : ∀ d ∈ tables_1, d.before a0 Z = true) (ws : List Jvm.Cond) {w_START_EVENT : Addr} {w_BOUNDARY_EVENT : Addr} {w_MESSAGE_BOUNDARY_EVENT : Addr} {w_TERMINATE_END_EVENT : Addr} {w_LINK_THROW_EVENT : Addr} {w_LINK_CATCH_EVENT : Addr} {w_RECEPTION : Addr} {w_END_EVENT : Addr} {w_EVENT_BASED_GATEWAY : Addr} {w_INCLUSIVE_GATEWAY : Addr} {w_EXCLUSIVE_GATEWAY : Addr} {w_MESSAGE_START_EVENT : Addr} {w_SUB_PROCESS : Addr} {w_ACTIVITY : Addr} {w_PARALLEL_GATEWAY : Addr} (G : Glob Z w_START_EVENT w_BOUNDARY_EVENT w_MESSAGE_BOUNDARY_EVENT w_TERMINATE_END_EVENT w_LINK_THROW_EVENT w_LINK_CATCH_EVENT w_RECEPTION w_END_EVENT w_EVENT_BASED_GATEWAY w_INCLUSIVE_GATEWAY w_EXCLUSIVE_GATEWAY w_MESSAGE_START_EVENT w_SUB_PROCESS w_ACTIVITY w_PARALLEL_GATEWAY)  (h0 : Heap) (n0 : Nat) (O0 : Old Z n0 h0) :
    MetFree l (⟨"com/example/chorale/chorale/KindAttachesPinLaw", "kindAt", "(I)Lcom/example/chorale/chorale/FlowGraph$Kind;"⟩ : MethodName) (head1 (Jvm.Cond.code (⟨"com/example/chorale/chorale/KindAttachesPinLaw", "kindAt", "(I)Lcom/example/chorale/chorale/FlowGraph$Kind;"⟩ : MethodName) method_2_code 1 (some (.object "com/example/chorale/chorale/FlowGraph$Kind")) :: ws) ({ frames := 0, cells := 0, slots := 0, locals := 0 } : Room)) (fun a U => a = #[(.int (13 : Int32))] ∧ Z.Warmed39 U.vm ∧ U.heap = h0) (fun _ _ _ _ _ => True) (fun _ U o U' => ∃ v L, o = .returned v ∧ Q1_13 Z w_START_EVENT w_BOUNDARY_EVENT w_MESSAGE_BOUNDARY_EVENT w_TERMINATE_END_EVENT w_LINK_THROW_EVENT w_LINK_CATCH_EVENT w_RECEPTION w_END_EVENT w_EVENT_BASED_GATEWAY w_INCLUSIVE_GATEWAY w_EXCLUSIVE_GATEWAY w_MESSAGE_START_EVENT w_SUB_PROCESS w_ACTIVITY w_PARALLEL_GATEWAY  h0 n0 v U'.heap L ∧ FrameEnd U o U' L ({ frames := 0, cells := 0, slots := 0, locals := 0 } : Room).cells ({ frames := 0, cells := 0, slots := 0, locals := 0 } : Room).slots) := by
  refine MetFree.of_bodySF (plainFor_of_name pn_com_example_chorale_chorale_KindAttachesPinLaw) hisR ?_
  intro p e s m args below meth c s₁ Bd hml0 hP hK
  obtain ⟨rfl, hZ, hh⟩ := hP
  have hx := Bd.exec
  have hby := Bd.bytes
  have hml : c.maxLocals = 1 := hml0
  have hown : s.vm.findClass "com/example/chorale/chorale/KindAttachesPinLaw" = some m.cls := findClass_of_methodNamed Bd.named
  have hnm := (name_of_methodNamed Bd.named Bd.method).1
  have X0 : Stand p l e ({ frames := 0, cells := 0, slots := 0, locals := 0 } : Room) s m #[(.int (13 : Int32))] below meth c s₁ [] 0 0 := Stand.of_body Bd
  have e0 : s₁.heap = h0 := by rw [← hh, Bd.state]; rfl
  have N0 := Fr.nil n0
  show OGot p.tables e below (s₁.setTop (entryFrame m #[(.int (13 : Int32))] 1)) _
  refine OGot.go (fun t k => castTop (ef1_13 m ) k) ?_
  show OGot p.tables e below (s₁.setTop (mkF m 0 #[.val (.int (13 : Int32))] [])) _
  refine OGot.go (fun t k => XS.iloadN X0.here hx rfl (hb hby d1_0) rfl k) ?_
  show OGot p.tables e below (s₁.setTop (mkF m 1 #[.val (.int (13 : Int32))] [(.int (13 : Int32))])) _
  refine OGot.go (fun t k => XS.ifYes X0.here hx rfl (pc0 := 1) (pc' := 8) rfl (hb hby d1_1) rfl (by decide) (by decide) (by decide) k) ?_
  show OGot p.tables e below (s₁.setTop (mkF m 8 #[.val (.int (13 : Int32))] [])) _
  refine OGot.go (fun t k => XS.iloadN X0.here hx rfl (hb hby d1_8) rfl k) ?_
  show OGot p.tables e below (s₁.setTop (mkF m 9 #[.val (.int (13 : Int32))] [(.int (13 : Int32))])) _
  refine OGot.go (fun t k => XS.iconst X0.here hx rfl (hb hby d1_9) k) ?_
  show OGot p.tables e below (s₁.setTop (mkF m 10 #[.val (.int (13 : Int32))] [(.int (1 : Int32)), (.int (13 : Int32))])) _
  refine OGot.go (fun t k => XS.icmpYes X0.here hx rfl (pc0 := 10) (pc' := 17) rfl (hb hby d1_10) rfl (by decide) (by decide) (by decide) k) ?_
  show OGot p.tables e below (s₁.setTop (mkF m 17 #[.val (.int (13 : Int32))] [])) _
  refine OGot.go (fun t k => XS.iloadN X0.here hx rfl (hb hby d1_17) rfl k) ?_
  show OGot p.tables e below (s₁.setTop (mkF m 18 #[.val (.int (13 : Int32))] [(.int (13 : Int32))])) _
  refine OGot.go (fun t k => XS.iconst X0.here hx rfl (hb hby d1_18) k) ?_
  show OGot p.tables e below (s₁.setTop (mkF m 19 #[.val (.int (13 : Int32))] [(.int (2 : Int32)), (.int (13 : Int32))])) _
  refine OGot.go (fun t k => XS.icmpYes X0.here hx rfl (pc0 := 19) (pc' := 26) rfl (hb hby d1_19) rfl (by decide) (by decide) (by decide) k) ?_
  show OGot p.tables e below (s₁.setTop (mkF m 26 #[.val (.int (13 : Int32))] [])) _
  refine OGot.go (fun t k => XS.iloadN X0.here hx rfl (hb hby d1_26) rfl k) ?_
  show OGot p.tables e below (s₁.setTop (mkF m 27 #[.val (.int (13 : Int32))] [(.int (13 : Int32))])) _
  refine OGot.go (fun t k => XS.iconst X0.here hx rfl (hb hby d1_27) k) ?_
  show OGot p.tables e below (s₁.setTop (mkF m 28 #[.val (.int (13 : Int32))] [(.int (3 : Int32)), (.int (13 : Int32))])) _
  refine OGot.go (fun t k => XS.icmpYes X0.here hx rfl (pc0 := 28) (pc' := 35) rfl (hb hby d1_28) rfl (by decide) (by decide) (by decide) k) ?_
  show OGot p.tables e below (s₁.setTop (mkF m 35 #[.val (.int (13 : Int32))] [])) _
  refine OGot.go (fun t k => XS.iloadN X0.here hx rfl (hb hby d1_35) rfl k) ?_
  show OGot p.tables e below (s₁.setTop (mkF m 36 #[.val (.int (13 : Int32))] [(.int (13 : Int32))])) _
  refine OGot.go (fun t k => XS.iconst X0.here hx rfl (hb hby d1_36) k) ?_
  show OGot p.tables e below (s₁.setTop (mkF m 37 #[.val (.int (13 : Int32))] [(.int (4 : Int32)), (.int (13 : Int32))])) _
  refine OGot.go (fun t k => XS.icmpYes X0.here hx rfl (pc0 := 37) (pc' := 44) rfl (hb hby d1_37) rfl (by decide) (by decide) (by decide) k) ?_
  show OGot p.tables e below (s₁.setTop (mkF m 44 #[.val (.int (13 : Int32))] [])) _
  refine OGot.go (fun t k => XS.iloadN X0.here hx rfl (hb hby d1_44) rfl k) ?_
  show OGot p.tables e below (s₁.setTop (mkF m 45 #[.val (.int (13 : Int32))] [(.int (13 : Int32))])) _
  refine OGot.go (fun t k => XS.iconst X0.here hx rfl (hb hby d1_45) k) ?_
  show OGot p.tables e below (s₁.setTop (mkF m 46 #[.val (.int (13 : Int32))] [(.int (5 : Int32)), (.int (13 : Int32))])) _
  refine OGot.go (fun t k => XS.icmpYes X0.here hx rfl (pc0 := 46) (pc' := 53) rfl (hb hby d1_46) rfl (by decide) (by decide) (by decide) k) ?_
  show OGot p.tables e below (s₁.setTop (mkF m 53 #[.val (.int (13 : Int32))] [])) _
  refine OGot.go (fun t k => XS.iloadN X0.here hx rfl (hb hby d1_53) rfl k) ?_
  show OGot p.tables e below (s₁.setTop (mkF m 54 #[.val (.int (13 : Int32))] [(.int (13 : Int32))])) _
  refine OGot.go (fun t k => XS.bipush X0.here hx rfl (hb hby d1_54) k) ?_
  show OGot p.tables e below (s₁.setTop (mkF m 56 #[.val (.int (13 : Int32))] [(.int (6 : Int32)), (.int (13 : Int32))])) _
  refine OGot.go (fun t k => XS.icmpYes X0.here hx rfl (pc0 := 56) (pc' := 63) rfl (hb hby d1_56) rfl (by decide) (by decide) (by decide) k) ?_
  show OGot p.tables e below (s₁.setTop (mkF m 63 #[.val (.int (13 : Int32))] [])) _
  refine OGot.go (fun t k => XS.iloadN X0.here hx rfl (hb hby d1_63) rfl k) ?_
  show OGot p.tables e below (s₁.setTop (mkF m 64 #[.val (.int (13 : Int32))] [(.int (13 : Int32))])) _
  refine OGot.go (fun t k => XS.bipush X0.here hx rfl (hb hby d1_64) k) ?_
  show OGot p.tables e below (s₁.setTop (mkF m 66 #[.val (.int (13 : Int32))] [(.int (7 : Int32)), (.int (13 : Int32))])) _
  refine OGot.go (fun t k => XS.icmpYes X0.here hx rfl (pc0 := 66) (pc' := 73) rfl (hb hby d1_66) rfl (by decide) (by decide) (by decide) k) ?_
  show OGot p.tables e below (s₁.setTop (mkF m 73 #[.val (.int (13 : Int32))] [])) _
  refine OGot.go (fun t k => XS.iloadN X0.here hx rfl (hb hby d1_73) rfl k) ?_
  show OGot p.tables e below (s₁.setTop (mkF m 74 #[.val (.int (13 : Int32))] [(.int (13 : Int32))])) _
  refine OGot.go (fun t k => XS.bipush X0.here hx rfl (hb hby d1_74) k) ?_
  show OGot p.tables e below (s₁.setTop (mkF m 76 #[.val (.int (13 : Int32))] [(.int (8 : Int32)), (.int (13 : Int32))])) _
  refine OGot.go (fun t k => XS.icmpYes X0.here hx rfl (pc0 := 76) (pc' := 83) rfl (hb hby d1_76) rfl (by decide) (by decide) (by decide) k) ?_
  show OGot p.tables e below (s₁.setTop (mkF m 83 #[.val (.int (13 : Int32))] [])) _
  refine OGot.go (fun t k => XS.iloadN X0.here hx rfl (hb hby d1_83) rfl k) ?_
  show OGot p.tables e below (s₁.setTop (mkF m 84 #[.val (.int (13 : Int32))] [(.int (13 : Int32))])) _
  refine OGot.go (fun t k => XS.bipush X0.here hx rfl (hb hby d1_84) k) ?_
  show OGot p.tables e below (s₁.setTop (mkF m 86 #[.val (.int (13 : Int32))] [(.int (9 : Int32)), (.int (13 : Int32))])) _
  refine OGot.go (fun t k => XS.icmpYes X0.here hx rfl (pc0 := 86) (pc' := 93) rfl (hb hby d1_86) rfl (by decide) (by decide) (by decide) k) ?_
  show OGot p.tables e below (s₁.setTop (mkF m 93 #[.val (.int (13 : Int32))] [])) _
  refine OGot.go (fun t k => XS.iloadN X0.here hx rfl (hb hby d1_93) rfl k) ?_
  show OGot p.tables e below (s₁.setTop (mkF m 94 #[.val (.int (13 : Int32))] [(.int (13 : Int32))])) _
  refine OGot.go (fun t k => XS.bipush X0.here hx rfl (hb hby d1_94) k) ?_
  show OGot p.tables e below (s₁.setTop (mkF m 96 #[.val (.int (13 : Int32))] [(.int (10 : Int32)), (.int (13 : Int32))])) _
  refine OGot.go (fun t k => XS.icmpYes X0.here hx rfl (pc0 := 96) (pc' := 103) rfl (hb hby d1_96) rfl (by decide) (by decide) (by decide) k) ?_
  show OGot p.tables e below (s₁.setTop (mkF m 103 #[.val (.int (13 : Int32))] [])) _
  refine OGot.go (fun t k => XS.iloadN X0.here hx rfl (hb hby d1_103) rfl k) ?_
  show OGot p.tables e below (s₁.setTop (mkF m 104 #[.val (.int (13 : Int32))] [(.int (13 : Int32))])) _
  refine OGot.go (fun t k => XS.bipush X0.here hx rfl (hb hby d1_104) k) ?_
  show OGot p.tables e below (s₁.setTop (mkF m 106 #[.val (.int (13 : Int32))] [(.int (11 : Int32)), (.int (13 : Int32))])) _
  refine OGot.go (fun t k => XS.icmpYes X0.here hx rfl (pc0 := 106) (pc' := 113) rfl (hb hby d1_106) rfl (by decide) (by decide) (by decide) k) ?_
  show OGot p.tables e below (s₁.setTop (mkF m 113 #[.val (.int (13 : Int32))] [])) _
  refine OGot.go (fun t k => XS.iloadN X0.here hx rfl (hb hby d1_113) rfl k) ?_
  show OGot p.tables e below (s₁.setTop (mkF m 114 #[.val (.int (13 : Int32))] [(.int (13 : Int32))])) _
  refine OGot.go (fun t k => XS.bipush X0.here hx rfl (hb hby d1_114) k) ?_
  show OGot p.tables e below (s₁.setTop (mkF m 116 #[.val (.int (13 : Int32))] [(.int (12 : Int32)), (.int (13 : Int32))])) _
  refine OGot.go (fun t k => XS.icmpYes X0.here hx rfl (pc0 := 116) (pc' := 123) rfl (hb hby d1_116) rfl (by decide) (by decide) (by decide) k) ?_
  show OGot p.tables e below (s₁.setTop (mkF m 123 #[.val (.int (13 : Int32))] [])) _
  refine OGot.go (fun t k => XS.iloadN X0.here hx rfl (hb hby d1_123) rfl k) ?_
  show OGot p.tables e below (s₁.setTop (mkF m 124 #[.val (.int (13 : Int32))] [(.int (13 : Int32))])) _
  refine OGot.go (fun t k => XS.bipush X0.here hx rfl (hb hby d1_124) k) ?_
  show OGot p.tables e below (s₁.setTop (mkF m 126 #[.val (.int (13 : Int32))] [(.int (13 : Int32)), (.int (13 : Int32))])) _
  refine OGot.go (fun t k => XS.icmpNo X0.here hx rfl (hb hby d1_126) rfl (by decide) k) ?_
  show OGot p.tables e below (s₁.setTop (mkF m 129 #[.val (.int (13 : Int32))] [])) _
  obtain ⟨T1, X1, e1, st1⟩ := getS2 X0 hx hZ hown (host := "") (Or.inl (ow hw 24 rfl)) Via.refl e0 (G.2.2.1.ext O0.2) (g := (mkF m 129 #[.val (.int (13 : Int32))] [])) rfl (hb hby d1_129)
  refine OGot.go st1 ?_
  show OGot p.tables e below (T1.setTop (mkF m 132 #[.val (.int (13 : Int32))] [(.ref w_BOUNDARY_EVENT)])) _
  obtain ⟨fs, hr, hrun, hended, hW, hsame⟩ := X1.leave (v := some (.ref w_BOUNDARY_EVENT)) (fun h => by rw [Bd.returns] at h; cases h)
  refine ⟨_, _, oretA X1 hx Bd.returns rfl rfl (hb hby d1_132) hr, hrun, hended, _, _, rfl, ?_, ⟨_, rfl⟩, hW, hsame.mono (by decide) (by decide)⟩
  exact (⟨rfl, N0, e1⟩ : Q1_13 Z w_START_EVENT w_BOUNDARY_EVENT w_MESSAGE_BOUNDARY_EVENT w_TERMINATE_END_EVENT w_LINK_THROW_EVENT w_LINK_CATCH_EVENT w_RECEPTION w_END_EVENT w_EVENT_BASED_GATEWAY w_INCLUSIVE_GATEWAY w_EXCLUSIVE_GATEWAY w_MESSAGE_START_EVENT w_SUB_PROCESS w_ACTIVITY w_PARALLEL_GATEWAY  h0 n0 _ T1.heap _)
theorem d2_14 : decode prog_73_method_5_code 14 = .ok (.iconst 1, 1) := by decide +kernel
theorem d2_15 : decode prog_73_method_5_code 15 = .ok (.goto 4, 3) := by decide +kernel
def Q2_13 (Z : State) (w_START_EVENT : Addr) (w_BOUNDARY_EVENT : Addr) (w_MESSAGE_BOUNDARY_EVENT : Addr) (w_TERMINATE_END_EVENT : Addr) (w_LINK_THROW_EVENT : Addr) (w_LINK_CATCH_EVENT : Addr) (w_RECEPTION : Addr) (w_END_EVENT : Addr) (w_EVENT_BASED_GATEWAY : Addr) (w_INCLUSIVE_GATEWAY : Addr) (w_EXCLUSIVE_GATEWAY : Addr) (w_MESSAGE_START_EVENT : Addr) (w_SUB_PROCESS : Addr) (w_ACTIVITY : Addr) (w_PARALLEL_GATEWAY : Addr)  (h0 : Heap) (n0 : Nat) (v : Option Value) (h : Heap) (L : List Loc) : Prop := v = some (.int (1 : Int32)) ∧ Fr n0 L ∧ h = h0
theorem ef2_13 (m : MethodId) (x0 : Addr) : entryFrame m #[(.ref x0)] 1 = mkF m 0 #[.val (.ref x0)] [] := by first | (simp [entryFrame, mkF, argsToLocals, Value.category]; done) | rfl
set_option maxRecDepth 65536 in
set_option maxHeartbeats 40000000 in
theorem rm2_13 (l : Launch) (Z : State) (a0 : Array Value) (hw : ∀ d ∈ tables_1, d.before a0 Z = true) (ws : List Jvm.Cond) {w_START_EVENT : Addr} {w_BOUNDARY_EVENT : Addr} {w_MESSAGE_BOUNDARY_EVENT : Addr} {w_TERMINATE_END_EVENT : Addr} {w_LINK_THROW_EVENT : Addr} {w_LINK_CATCH_EVENT : Addr} {w_RECEPTION : Addr} {w_END_EVENT : Addr} {w_EVENT_BASED_GATEWAY : Addr} {w_INCLUSIVE_GATEWAY : Addr} {w_EXCLUSIVE_GATEWAY : Addr} {w_MESSAGE_START_EVENT : Addr} {w_SUB_PROCESS : Addr} {w_ACTIVITY : Addr} {w_PARALLEL_GATEWAY : Addr} (G : Glob Z w_START_EVENT w_BOUNDARY_EVENT w_MESSAGE_BOUNDARY_EVENT w_TERMINATE_END_EVENT w_LINK_THROW_EVENT w_LINK_CATCH_EVENT w_RECEPTION w_END_EVENT w_EVENT_BASED_GATEWAY w_INCLUSIVE_GATEWAY w_EXCLUSIVE_GATEWAY w_MESSAGE_START_EVENT w_SUB_PROCESS w_ACTIVITY w_PARALLEL_GATEWAY)  (h0 : Heap) (n0 : Nat) (O0 : Old Z n0 h0) :
    MetFree l (⟨"com/example/chorale/chorale/FlowGraph$Kind", "attaches", "()Z"⟩ : MethodName) (head1 (Jvm.Cond.code (⟨"com/example/chorale/chorale/FlowGraph$Kind", "attaches", "()Z"⟩ : MethodName) prog_73_method_5_code 1 (some .boolean) :: ws) ({ frames := 0, cells := 0, slots := 0, locals := 0 } : Room)) (fun a U => a = #[(.ref w_BOUNDARY_EVENT)] ∧ Z.Warmed39 U.vm ∧ U.heap = h0) (fun _ _ _ _ _ => True) (fun _ U o U' => ∃ v L, o = .returned v ∧ Q2_13 Z w_START_EVENT w_BOUNDARY_EVENT w_MESSAGE_BOUNDARY_EVENT w_TERMINATE_END_EVENT w_LINK_THROW_EVENT w_LINK_CATCH_EVENT w_RECEPTION w_END_EVENT w_EVENT_BASED_GATEWAY w_INCLUSIVE_GATEWAY w_EXCLUSIVE_GATEWAY w_MESSAGE_START_EVENT w_SUB_PROCESS w_ACTIVITY w_PARALLEL_GATEWAY  h0 n0 v U'.heap L ∧ FrameEnd U o U' L ({ frames := 0, cells := 0, slots := 0, locals := 0 } : Room).cells ({ frames := 0, cells := 0, slots := 0, locals := 0 } : Room).slots) := by
  refine MetFree.of_bodySF (plainFor_of_name pn_com_example_chorale_chorale_FlowGraph_Kind) hisR ?_
  intro p e s m args below meth c s₁ Bd hml0 hP hK
  obtain ⟨rfl, hZ, hh⟩ := hP
  have hx := Bd.exec
  have hby := Bd.bytes
  have hml : c.maxLocals = 1 := hml0
  have hown : s.vm.findClass "com/example/chorale/chorale/FlowGraph$Kind" = some m.cls := findClass_of_methodNamed Bd.named
  have hnm := (name_of_methodNamed Bd.named Bd.method).1
  have X0 : Stand p l e ({ frames := 0, cells := 0, slots := 0, locals := 0 } : Room) s m #[(.ref w_BOUNDARY_EVENT)] below meth c s₁ [] 0 0 := Stand.of_body Bd
  have e0 : s₁.heap = h0 := by rw [← hh, Bd.state]; rfl
  have N0 := Fr.nil n0
  show OGot p.tables e below (s₁.setTop (entryFrame m #[(.ref w_BOUNDARY_EVENT)] 1)) _
  refine OGot.go (fun t k => castTop (ef2_13 m w_BOUNDARY_EVENT) k) ?_
  show OGot p.tables e below (s₁.setTop (mkF m 0 #[.val (.ref w_BOUNDARY_EVENT)] [])) _
  refine OGot.go (fun t k => XS.aloadN X0.here hx rfl (hb hby d2_0) rfl rfl k) ?_
  show OGot p.tables e below (s₁.setTop (mkF m 1 #[.val (.ref w_BOUNDARY_EVENT)] [(.ref w_BOUNDARY_EVENT)])) _
  obtain ⟨T2, X2, e2, st2⟩ := getS2 X0 hx hZ hown (host := "") (Or.inl (ow hw 13 rfl)) Via.refl e0 (G.2.2.1.ext O0.2) (g := (mkF m 1 #[.val (.ref w_BOUNDARY_EVENT)] [(.ref w_BOUNDARY_EVENT)])) rfl (hb hby d2_1)
  refine OGot.go st2 ?_
  show OGot p.tables e below (T2.setTop (mkF m 4 #[.val (.ref w_BOUNDARY_EVENT)] [(.ref w_BOUNDARY_EVENT), (.ref w_BOUNDARY_EVENT)])) _
  refine OGot.go (fun t k => Jvm.RoadKit.acmp (g := (mkF m 4 #[.val (.ref w_BOUNDARY_EVENT)] [(.ref w_BOUNDARY_EVENT), (.ref w_BOUNDARY_EVENT)])) X2 hx rfl rfl rfl (pc0 := 4) (pc' := 14) (same := true) rfl (hb hby d2_4) rfl (decide_eq_true rfl) (by decide) (by decide) k) ?_
  show OGot p.tables e below (T2.setTop (mkF m 14 #[.val (.ref w_BOUNDARY_EVENT)] [])) _
  refine OGot.go (fun t k => XS.iconst X2.here hx rfl (hb hby d2_14) k) ?_
  show OGot p.tables e below (T2.setTop (mkF m 15 #[.val (.ref w_BOUNDARY_EVENT)] [(.int (1 : Int32))])) _
  refine OGot.go (fun t k => XS.goto X2.here hx rfl (pc0 := 15) (pc' := 19) rfl (hb hby d2_15) (by decide) (by decide) k) ?_
  show OGot p.tables e below (T2.setTop (mkF m 19 #[.val (.ref w_BOUNDARY_EVENT)] [(.int (1 : Int32))])) _
  obtain ⟨fs, hr, hrun, hended, hW, hsame⟩ := X2.leave (v := some (.int (1 : Int32))) (fun h => by rw [Bd.returns] at h; cases h)
  refine ⟨_, _, retN X2 hx (t := .boolean) Bd.returns (by simp) (hb hby d2_19) hr, hrun, hended, _, _, rfl, ?_, ⟨_, rfl⟩, hW, hsame.mono (by decide) (by decide)⟩
  exact (⟨rfl, N0, e2⟩ : Q2_13 Z w_START_EVENT w_BOUNDARY_EVENT w_MESSAGE_BOUNDARY_EVENT w_TERMINATE_END_EVENT w_LINK_THROW_EVENT w_LINK_CATCH_EVENT w_RECEPTION w_END_EVENT w_EVENT_BASED_GATEWAY w_INCLUSIVE_GATEWAY w_EXCLUSIVE_GATEWAY w_MESSAGE_START_EVENT w_SUB_PROCESS w_ACTIVITY w_PARALLEL_GATEWAY  h0 n0 _ T2.heap _)
theorem d3_8 : decode method_3_code 8 = .ok (.iconst 1, 1) := by decide +kernel
theorem d3_9 : decode method_3_code 9 = .ok (.istore_n 1, 1) := by decide +kernel
def Q3_13 (Z : State) (w_START_EVENT : Addr) (w_BOUNDARY_EVENT : Addr) (w_MESSAGE_BOUNDARY_EVENT : Addr) (w_TERMINATE_END_EVENT : Addr) (w_LINK_THROW_EVENT : Addr) (w_LINK_CATCH_EVENT : Addr) (w_RECEPTION : Addr) (w_END_EVENT : Addr) (w_EVENT_BASED_GATEWAY : Addr) (w_INCLUSIVE_GATEWAY : Addr) (w_EXCLUSIVE_GATEWAY : Addr) (w_MESSAGE_START_EVENT : Addr) (w_SUB_PROCESS : Addr) (w_ACTIVITY : Addr) (w_PARALLEL_GATEWAY : Addr)  (h0 : Heap) (n0 : Nat) (v : Option Value) (h : Heap) (L : List Loc) : Prop := v = some (.int (1 : Int32)) ∧ Fr n0 L ∧ h = h0
theorem ef3_13 (m : MethodId)  : entryFrame m #[(.int (13 : Int32))] 2 = mkF m 0 #[.val (.int (13 : Int32)), .unset] [] := by first | (simp [entryFrame, mkF, argsToLocals, Value.category]; done) | rfl
set_option maxRecDepth 65536 in
set_option maxHeartbeats 40000000 in
theorem rm3_13 (l : Launch) (Z : State) (a0 : Array Value) (hw : ∀ d ∈ tables_1, d.before a0 Z = true) (ws : List Jvm.Cond) {w_START_EVENT : Addr} {w_BOUNDARY_EVENT : Addr} {w_MESSAGE_BOUNDARY_EVENT : Addr} {w_TERMINATE_END_EVENT : Addr} {w_LINK_THROW_EVENT : Addr} {w_LINK_CATCH_EVENT : Addr} {w_RECEPTION : Addr} {w_END_EVENT : Addr} {w_EVENT_BASED_GATEWAY : Addr} {w_INCLUSIVE_GATEWAY : Addr} {w_EXCLUSIVE_GATEWAY : Addr} {w_MESSAGE_START_EVENT : Addr} {w_SUB_PROCESS : Addr} {w_ACTIVITY : Addr} {w_PARALLEL_GATEWAY : Addr} (G : Glob Z w_START_EVENT w_BOUNDARY_EVENT w_MESSAGE_BOUNDARY_EVENT w_TERMINATE_END_EVENT w_LINK_THROW_EVENT w_LINK_CATCH_EVENT w_RECEPTION w_END_EVENT w_EVENT_BASED_GATEWAY w_INCLUSIVE_GATEWAY w_EXCLUSIVE_GATEWAY w_MESSAGE_START_EVENT w_SUB_PROCESS w_ACTIVITY w_PARALLEL_GATEWAY)  (h0 : Heap) (n0 : Nat) (O0 : Old Z n0 h0) :
    MetFree l (⟨"com/example/chorale/chorale/KindAttachesPinLaw", "isBoundaryIndex", "(I)Z"⟩ : MethodName) (head1 (Jvm.Cond.code (⟨"com/example/chorale/chorale/KindAttachesPinLaw", "isBoundaryIndex", "(I)Z"⟩ : MethodName) method_3_code 2 (some .boolean) :: ws) ({ frames := 0, cells := 0, slots := 0, locals := 0 } : Room)) (fun a U => a = #[(.int (13 : Int32))] ∧ Z.Warmed39 U.vm ∧ U.heap = h0) (fun _ _ _ _ _ => True) (fun _ U o U' => ∃ v L, o = .returned v ∧ Q3_13 Z w_START_EVENT w_BOUNDARY_EVENT w_MESSAGE_BOUNDARY_EVENT w_TERMINATE_END_EVENT w_LINK_THROW_EVENT w_LINK_CATCH_EVENT w_RECEPTION w_END_EVENT w_EVENT_BASED_GATEWAY w_INCLUSIVE_GATEWAY w_EXCLUSIVE_GATEWAY w_MESSAGE_START_EVENT w_SUB_PROCESS w_ACTIVITY w_PARALLEL_GATEWAY  h0 n0 v U'.heap L ∧ FrameEnd U o U' L ({ frames := 0, cells := 0, slots := 0, locals := 0 } : Room).cells ({ frames := 0, cells := 0, slots := 0, locals := 0 } : Room).slots) := by
  refine MetFree.of_bodySF (plainFor_of_name pn_com_example_chorale_chorale_KindAttachesPinLaw) hisR ?_
  intro p e s m args below meth c s₁ Bd hml0 hP hK
  obtain ⟨rfl, hZ, hh⟩ := hP
  have hx := Bd.exec
  have hby := Bd.bytes
  have hml : c.maxLocals = 2 := hml0
  have hown : s.vm.findClass "com/example/chorale/chorale/KindAttachesPinLaw" = some m.cls := findClass_of_methodNamed Bd.named
  have hnm := (name_of_methodNamed Bd.named Bd.method).1
  have X0 : Stand p l e ({ frames := 0, cells := 0, slots := 0, locals := 0 } : Room) s m #[(.int (13 : Int32))] below meth c s₁ [] 0 0 := Stand.of_body Bd
  have e0 : s₁.heap = h0 := by rw [← hh, Bd.state]; rfl
  have N0 := Fr.nil n0
  show OGot p.tables e below (s₁.setTop (entryFrame m #[(.int (13 : Int32))] 2)) _
  refine OGot.go (fun t k => castTop (ef3_13 m ) k) ?_
  show OGot p.tables e below (s₁.setTop (mkF m 0 #[.val (.int (13 : Int32)), .unset] [])) _
  refine OGot.go (fun t k => XS.iconst X0.here hx rfl (hb hby d3_0) k) ?_
  show OGot p.tables e below (s₁.setTop (mkF m 1 #[.val (.int (13 : Int32)), .unset] [(.int (0 : Int32))])) _
  refine OGot.go (fun t k => XS.istoreN X0.here hx rfl (hb hby d3_1) rfl (l' := #[.val (.int (13 : Int32)), .val (.int (0 : Int32))]) rfl k) ?_
  show OGot p.tables e below (s₁.setTop (mkF m 2 #[.val (.int (13 : Int32)), .val (.int (0 : Int32))] [])) _
  refine OGot.go (fun t k => XS.iloadN X0.here hx rfl (hb hby d3_2) rfl k) ?_
  show OGot p.tables e below (s₁.setTop (mkF m 3 #[.val (.int (13 : Int32)), .val (.int (0 : Int32))] [(.int (13 : Int32))])) _
  refine OGot.go (fun t k => XS.bipush X0.here hx rfl (hb hby d3_3) k) ?_
  show OGot p.tables e below (s₁.setTop (mkF m 5 #[.val (.int (13 : Int32)), .val (.int (0 : Int32))] [(.int (13 : Int32)), (.int (13 : Int32))])) _
  refine OGot.go (fun t k => XS.icmpNo X0.here hx rfl (hb hby d3_5) rfl (by decide) k) ?_
  show OGot p.tables e below (s₁.setTop (mkF m 8 #[.val (.int (13 : Int32)), .val (.int (0 : Int32))] [])) _
  refine OGot.go (fun t k => XS.iconst X0.here hx rfl (hb hby d3_8) k) ?_
  show OGot p.tables e below (s₁.setTop (mkF m 9 #[.val (.int (13 : Int32)), .val (.int (0 : Int32))] [(.int (1 : Int32))])) _
  refine OGot.go (fun t k => XS.istoreN X0.here hx rfl (hb hby d3_9) rfl (l' := #[.val (.int (13 : Int32)), .val (.int (1 : Int32))]) rfl k) ?_
  show OGot p.tables e below (s₁.setTop (mkF m 10 #[.val (.int (13 : Int32)), .val (.int (1 : Int32))] [])) _
  refine OGot.go (fun t k => XS.iloadN X0.here hx rfl (hb hby d3_10) rfl k) ?_
  show OGot p.tables e below (s₁.setTop (mkF m 11 #[.val (.int (13 : Int32)), .val (.int (1 : Int32))] [(.int (13 : Int32))])) _
  refine OGot.go (fun t k => XS.bipush X0.here hx rfl (hb hby d3_11) k) ?_
  show OGot p.tables e below (s₁.setTop (mkF m 13 #[.val (.int (13 : Int32)), .val (.int (1 : Int32))] [(.int (14 : Int32)), (.int (13 : Int32))])) _
  refine OGot.go (fun t k => XS.icmpYes X0.here hx rfl (pc0 := 13) (pc' := 18) rfl (hb hby d3_13) rfl (by decide) (by decide) (by decide) k) ?_
  show OGot p.tables e below (s₁.setTop (mkF m 18 #[.val (.int (13 : Int32)), .val (.int (1 : Int32))] [])) _
  refine OGot.go (fun t k => XS.iloadN X0.here hx rfl (hb hby d3_18) rfl k) ?_
  show OGot p.tables e below (s₁.setTop (mkF m 19 #[.val (.int (13 : Int32)), .val (.int (1 : Int32))] [(.int (1 : Int32))])) _
  obtain ⟨fs, hr, hrun, hended, hW, hsame⟩ := X0.leave (v := some (.int (1 : Int32))) (fun h => by rw [Bd.returns] at h; cases h)
  refine ⟨_, _, retN X0 hx (t := .boolean) Bd.returns (by simp) (hb hby d3_19) hr, hrun, hended, _, _, rfl, ?_, ⟨_, rfl⟩, hW, hsame.mono (by decide) (by decide)⟩
  exact (⟨rfl, N0, e0⟩ : Q3_13 Z w_START_EVENT w_BOUNDARY_EVENT w_MESSAGE_BOUNDARY_EVENT w_TERMINATE_END_EVENT w_LINK_THROW_EVENT w_LINK_CATCH_EVENT w_RECEPTION w_END_EVENT w_EVENT_BASED_GATEWAY w_INCLUSIVE_GATEWAY w_EXCLUSIVE_GATEWAY w_MESSAGE_START_EVENT w_SUB_PROCESS w_ACTIVITY w_PARALLEL_GATEWAY  h0 n0 _ s₁.heap _)
theorem d4_0 : decode prog_73_method_6_code 0 = .ok (.aload_n 0, 1) := by decide +kernel
theorem d4_1 : decode prog_73_method_6_code 1 = .ok (.invokevirtual 68, 3) := by decide +kernel
theorem d4_4 : decode prog_73_method_6_code 4 = .ok (.ifCond .ne 14, 3) := by decide +kernel
theorem d4_18 : decode prog_73_method_6_code 18 = .ok (.iconst 0, 1) := by decide +kernel
theorem d4_19 : decode prog_73_method_6_code 19 = .ok (.ireturn, 1) := by decide +kernel
def Q4 (Z : State) (w_START_EVENT : Addr) (w_BOUNDARY_EVENT : Addr) (w_MESSAGE_BOUNDARY_EVENT : Addr) (w_TERMINATE_END_EVENT : Addr) (w_LINK_THROW_EVENT : Addr) (w_LINK_CATCH_EVENT : Addr) (w_RECEPTION : Addr) (w_END_EVENT : Addr) (w_EVENT_BASED_GATEWAY : Addr) (w_INCLUSIVE_GATEWAY : Addr) (w_EXCLUSIVE_GATEWAY : Addr) (w_MESSAGE_START_EVENT : Addr) (w_SUB_PROCESS : Addr) (w_ACTIVITY : Addr) (w_PARALLEL_GATEWAY : Addr)  (h0 : Heap) (n0 : Nat) (v : Option Value) (h : Heap) (L : List Loc) : Prop := v = some (.int (0 : Int32)) ∧ Fr n0 L ∧ h = h0
theorem ef4 (m : MethodId) (x0 : Addr) : entryFrame m #[(.ref x0)] 1 = mkF m 0 #[.val (.ref x0)] [] := by first | (simp [entryFrame, mkF, argsToLocals, Value.category]; done) | rfl
set_option maxRecDepth 65536 in
set_option maxHeartbeats 40000000 in
theorem rm4 (l : Launch) (Z : State) (a0 : Array Value) (hw : ∀ d ∈ tables_1, d.before a0 Z = true) (ws : List Jvm.Cond) {w_START_EVENT : Addr} {w_BOUNDARY_EVENT : Addr} {w_MESSAGE_BOUNDARY_EVENT : Addr} {w_TERMINATE_END_EVENT : Addr} {w_LINK_THROW_EVENT : Addr} {w_LINK_CATCH_EVENT : Addr} {w_RECEPTION : Addr} {w_END_EVENT : Addr} {w_EVENT_BASED_GATEWAY : Addr} {w_INCLUSIVE_GATEWAY : Addr} {w_EXCLUSIVE_GATEWAY : Addr} {w_MESSAGE_START_EVENT : Addr} {w_SUB_PROCESS : Addr} {w_ACTIVITY : Addr} {w_PARALLEL_GATEWAY : Addr} (G : Glob Z w_START_EVENT w_BOUNDARY_EVENT w_MESSAGE_BOUNDARY_EVENT w_TERMINATE_END_EVENT w_LINK_THROW_EVENT w_LINK_CATCH_EVENT w_RECEPTION w_END_EVENT w_EVENT_BASED_GATEWAY w_INCLUSIVE_GATEWAY w_EXCLUSIVE_GATEWAY w_MESSAGE_START_EVENT w_SUB_PROCESS w_ACTIVITY w_PARALLEL_GATEWAY)  (h0 : Heap) (n0 : Nat) (O0 : Old Z n0 h0) :
    MetFree l (⟨"com/example/chorale/chorale/FlowGraph$Kind", "takesOwnToken", "()Z"⟩ : MethodName) (head1 (Jvm.Cond.code (⟨"com/example/chorale/chorale/FlowGraph$Kind", "takesOwnToken", "()Z"⟩ : MethodName) prog_73_method_6_code 1 (some .boolean) :: ws) ({ frames := 1, cells := 0, slots := 0, locals := 12 } : Room)) (fun a U => a = #[(.ref w_BOUNDARY_EVENT)] ∧ Z.Warmed39 U.vm ∧ U.heap = h0) (fun _ _ _ _ _ => True) (fun _ U o U' => ∃ v L, o = .returned v ∧ Q4 Z w_START_EVENT w_BOUNDARY_EVENT w_MESSAGE_BOUNDARY_EVENT w_TERMINATE_END_EVENT w_LINK_THROW_EVENT w_LINK_CATCH_EVENT w_RECEPTION w_END_EVENT w_EVENT_BASED_GATEWAY w_INCLUSIVE_GATEWAY w_EXCLUSIVE_GATEWAY w_MESSAGE_START_EVENT w_SUB_PROCESS w_ACTIVITY w_PARALLEL_GATEWAY  h0 n0 v U'.heap L ∧ FrameEnd U o U' L ({ frames := 1, cells := 0, slots := 0, locals := 12 } : Room).cells ({ frames := 1, cells := 0, slots := 0, locals := 12 } : Room).slots) := by
  refine MetFree.of_bodySF (plainFor_of_name pn_com_example_chorale_chorale_FlowGraph_Kind) hisR ?_
  intro p e s m args below meth c s₁ Bd hml0 hP hK
  obtain ⟨rfl, hZ, hh⟩ := hP
  have hx := Bd.exec
  have hby := Bd.bytes
  have hml : c.maxLocals = 1 := hml0
  have hown : s.vm.findClass "com/example/chorale/chorale/FlowGraph$Kind" = some m.cls := findClass_of_methodNamed Bd.named
  have hnm := (name_of_methodNamed Bd.named Bd.method).1
  have X0 : Stand p l e ({ frames := 1, cells := 0, slots := 0, locals := 12 } : Room) s m #[(.ref w_BOUNDARY_EVENT)] below meth c s₁ [] 0 0 := Stand.of_body Bd
  have e0 : s₁.heap = h0 := by rw [← hh, Bd.state]; rfl
  have N0 := Fr.nil n0
  show OGot p.tables e below (s₁.setTop (entryFrame m #[(.ref w_BOUNDARY_EVENT)] 1)) _
  refine OGot.go (fun t k => castTop (ef4 m w_BOUNDARY_EVENT) k) ?_
  show OGot p.tables e below (s₁.setTop (mkF m 0 #[.val (.ref w_BOUNDARY_EVENT)] [])) _
  refine OGot.go (fun t k => XS.aloadN X0.here hx rfl (hb hby d4_0) rfl rfl k) ?_
  show OGot p.tables e below (s₁.setTop (mkF m 1 #[.val (.ref w_BOUNDARY_EVENT)] [(.ref w_BOUNDARY_EVENT)])) _
  obtain ⟨cq2, kq2, q2a, q2b, q2c⟩ := isOf hZ e0 (G.2.2.2.1.ext O0.2)
  obtain ⟨_, _, ⟨T2, L2, k2, n2⟩, -, X2, ⟨Lc2, hQ2, l2, y2, z2⟩, st2⟩ := X0.virtualBack hx (y := (⟨"com/example/chorale/chorale/FlowGraph$Kind", "attaches", "()Z"⟩ : MethodName)) (z := (⟨"com/example/chorale/chorale/FlowGraph$Kind", "attaches", "()Z"⟩ : MethodName)) hown (mvT hZ (ow hw 30 rfl)) (mvT hZ (ow hw 9 rfl)) (notFace_of_selects (args := #[]) (mvT hZ (ow hw 11 rfl))) (mvT hZ (ow hw 11 rfl)) (mvT hZ (ow hw 10 rfl)) (by decide) (backOf (W := 0) (rm2_13 l Z a0 hw [] G  h0 n0 O0 ) hZ (ow hw 12 rfl) (ow hw 6 rfl) (by decide) (by decide)) q2a q2c (g := (mkF m 1 #[.val (.ref w_BOUNDARY_EVENT)] [(.ref w_BOUNDARY_EVENT)])) rfl (by rw [hml]; rfl) (Steps.refl _) (argsL := []) (rest := []) (lenOf pd_1 rfl) rfl (by show 2 * 0 + _ ≤ _; exact Nat.le_of_eq rfl) (hb hby d4_1) (fun _ _ => ⟨rfl, e0, (by decide : 0 + 0 ≤ _), (by decide : 0 + 0 ≤ _)⟩)
  dsimp only [Pt.U, Pt.locs, Pt.cells, Pt.slots] at X2 l2 y2 z2 st2 hQ2
  subst l2 y2 z2
  obtain ⟨rfl, N2q, e2⟩ := hQ2
  have N2 := Fr.app N0 N2q
  refine OGot.on st2 ?_
  show OGot p.tables e below (T2.setTop (mkF m 4 #[.val (.ref w_BOUNDARY_EVENT)] [(.int (1 : Int32))])) _
  refine OGot.go (fun t k => XS.ifYes X2.here hx rfl (pc0 := 4) (pc' := 18) rfl (hb hby d4_4) rfl (by decide) (by decide) (by decide) k) ?_
  show OGot p.tables e below (T2.setTop (mkF m 18 #[.val (.ref w_BOUNDARY_EVENT)] [])) _
  refine OGot.go (fun t k => XS.iconst X2.here hx rfl (hb hby d4_18) k) ?_
  show OGot p.tables e below (T2.setTop (mkF m 19 #[.val (.ref w_BOUNDARY_EVENT)] [(.int (0 : Int32))])) _
  obtain ⟨fs, hr, hrun, hended, hW, hsame⟩ := X2.leave (v := some (.int (0 : Int32))) (fun h => by rw [Bd.returns] at h; cases h)
  refine ⟨_, _, retN X2 hx (t := .boolean) Bd.returns (by simp) (hb hby d4_19) hr, hrun, hended, _, _, rfl, ?_, ⟨_, rfl⟩, hW, hsame.mono (by decide) (by decide)⟩
  exact (⟨rfl, N2, e2⟩ : Q4 Z w_START_EVENT w_BOUNDARY_EVENT w_MESSAGE_BOUNDARY_EVENT w_TERMINATE_END_EVENT w_LINK_THROW_EVENT w_LINK_CATCH_EVENT w_RECEPTION w_END_EVENT w_EVENT_BASED_GATEWAY w_INCLUSIVE_GATEWAY w_EXCLUSIVE_GATEWAY w_MESSAGE_START_EVENT w_SUB_PROCESS w_ACTIVITY w_PARALLEL_GATEWAY  h0 n0 _ T2.heap _)
theorem d1_133 : decode method_2_code 133 = .ok (.getstatic 52, 3) := by decide +kernel
theorem d1_136 : decode method_2_code 136 = .ok (.areturn, 1) := by decide +kernel
def Q1_14 (Z : State) (w_START_EVENT : Addr) (w_BOUNDARY_EVENT : Addr) (w_MESSAGE_BOUNDARY_EVENT : Addr) (w_TERMINATE_END_EVENT : Addr) (w_LINK_THROW_EVENT : Addr) (w_LINK_CATCH_EVENT : Addr) (w_RECEPTION : Addr) (w_END_EVENT : Addr) (w_EVENT_BASED_GATEWAY : Addr) (w_INCLUSIVE_GATEWAY : Addr) (w_EXCLUSIVE_GATEWAY : Addr) (w_MESSAGE_START_EVENT : Addr) (w_SUB_PROCESS : Addr) (w_ACTIVITY : Addr) (w_PARALLEL_GATEWAY : Addr)  (h0 : Heap) (n0 : Nat) (v : Option Value) (h : Heap) (L : List Loc) : Prop := v = some (.ref w_MESSAGE_BOUNDARY_EVENT) ∧ Fr n0 L ∧ h = h0
theorem ef1_14 (m : MethodId)  : entryFrame m #[(.int (14 : Int32))] 1 = mkF m 0 #[.val (.int (14 : Int32))] [] := by first | (simp [entryFrame, mkF, argsToLocals, Value.category]; done) | rfl
set_option maxRecDepth 65536 in
set_option maxHeartbeats 40000000 in
theorem rm1_14 (l : Launch) (Z : State) (a0 : Array Value) (hw : ∀ d ∈ tables_1, d.before a0 Z = true) (ws : List Jvm.Cond) {w_START_EVENT : Addr} {w_BOUNDARY_EVENT : Addr} {w_MESSAGE_BOUNDARY_EVENT : Addr} {w_TERMINATE_END_EVENT : Addr} {w_LINK_THROW_EVENT : Addr} {w_LINK_CATCH_EVENT : Addr} {w_RECEPTION : Addr} {w_END_EVENT : Addr} {w_EVENT_BASED_GATEWAY : Addr} {w_INCLUSIVE_GATEWAY : Addr} {w_EXCLUSIVE_GATEWAY : Addr} {w_MESSAGE_START_EVENT : Addr} {w_SUB_PROCESS : Addr} {w_ACTIVITY : Addr} {w_PARALLEL_GATEWAY : Addr} (G : Glob Z w_START_EVENT w_BOUNDARY_EVENT w_MESSAGE_BOUNDARY_EVENT w_TERMINATE_END_EVENT w_LINK_THROW_EVENT w_LINK_CATCH_EVENT w_RECEPTION w_END_EVENT w_EVENT_BASED_GATEWAY w_INCLUSIVE_GATEWAY w_EXCLUSIVE_GATEWAY w_MESSAGE_START_EVENT w_SUB_PROCESS w_ACTIVITY w_PARALLEL_GATEWAY)  (h0 : Heap) (n0 : Nat) (O0 : Old Z n0 h0) :
    MetFree l (⟨"com/example/chorale/chorale/KindAttachesPinLaw", "kindAt", "(I)Lcom/example/chorale/chorale/FlowGraph$Kind;"⟩ : MethodName) (head1 (Jvm.Cond.code (⟨"com/example/chorale/chorale/KindAttachesPinLaw", "kindAt", "(I)Lcom/example/chorale/chorale/FlowGraph$Kind;"⟩ : MethodName) method_2_code 1 (some (.object "com/example/chorale/chorale/FlowGraph$Kind")) :: ws) ({ frames := 0, cells := 0, slots := 0, locals := 0 } : Room)) (fun a U => a = #[(.int (14 : Int32))] ∧ Z.Warmed39 U.vm ∧ U.heap = h0) (fun _ _ _ _ _ => True) (fun _ U o U' => ∃ v L, o = .returned v ∧ Q1_14 Z w_START_EVENT w_BOUNDARY_EVENT w_MESSAGE_BOUNDARY_EVENT w_TERMINATE_END_EVENT w_LINK_THROW_EVENT w_LINK_CATCH_EVENT w_RECEPTION w_END_EVENT w_EVENT_BASED_GATEWAY w_INCLUSIVE_GATEWAY w_EXCLUSIVE_GATEWAY w_MESSAGE_START_EVENT w_SUB_PROCESS w_ACTIVITY w_PARALLEL_GATEWAY  h0 n0 v U'.heap L ∧ FrameEnd U o U' L ({ frames := 0, cells := 0, slots := 0, locals := 0 } : Room).cells ({ frames := 0, cells := 0, slots := 0, locals := 0 } : Room).slots) := by
  refine MetFree.of_bodySF (plainFor_of_name pn_com_example_chorale_chorale_KindAttachesPinLaw) hisR ?_
  intro p e s m args below meth c s₁ Bd hml0 hP hK
  obtain ⟨rfl, hZ, hh⟩ := hP
  have hx := Bd.exec
  have hby := Bd.bytes
  have hml : c.maxLocals = 1 := hml0
  have hown : s.vm.findClass "com/example/chorale/chorale/KindAttachesPinLaw" = some m.cls := findClass_of_methodNamed Bd.named
  have hnm := (name_of_methodNamed Bd.named Bd.method).1
  have X0 : Stand p l e ({ frames := 0, cells := 0, slots := 0, locals := 0 } : Room) s m #[(.int (14 : Int32))] below meth c s₁ [] 0 0 := Stand.of_body Bd
  have e0 : s₁.heap = h0 := by rw [← hh, Bd.state]; rfl
  have N0 := Fr.nil n0
  show OGot p.tables e below (s₁.setTop (entryFrame m #[(.int (14 : Int32))] 1)) _
  refine OGot.go (fun t k => castTop (ef1_14 m ) k) ?_
  show OGot p.tables e below (s₁.setTop (mkF m 0 #[.val (.int (14 : Int32))] [])) _
  refine OGot.go (fun t k => XS.iloadN X0.here hx rfl (hb hby d1_0) rfl k) ?_
  show OGot p.tables e below (s₁.setTop (mkF m 1 #[.val (.int (14 : Int32))] [(.int (14 : Int32))])) _
  refine OGot.go (fun t k => XS.ifYes X0.here hx rfl (pc0 := 1) (pc' := 8) rfl (hb hby d1_1) rfl (by decide) (by decide) (by decide) k) ?_
  show OGot p.tables e below (s₁.setTop (mkF m 8 #[.val (.int (14 : Int32))] [])) _
  refine OGot.go (fun t k => XS.iloadN X0.here hx rfl (hb hby d1_8) rfl k) ?_
  show OGot p.tables e below (s₁.setTop (mkF m 9 #[.val (.int (14 : Int32))] [(.int (14 : Int32))])) _
  refine OGot.go (fun t k => XS.iconst X0.here hx rfl (hb hby d1_9) k) ?_
  show OGot p.tables e below (s₁.setTop (mkF m 10 #[.val (.int (14 : Int32))] [(.int (1 : Int32)), (.int (14 : Int32))])) _
  refine OGot.go (fun t k => XS.icmpYes X0.here hx rfl (pc0 := 10) (pc' := 17) rfl (hb hby d1_10) rfl (by decide) (by decide) (by decide) k) ?_
  show OGot p.tables e below (s₁.setTop (mkF m 17 #[.val (.int (14 : Int32))] [])) _
  refine OGot.go (fun t k => XS.iloadN X0.here hx rfl (hb hby d1_17) rfl k) ?_
  show OGot p.tables e below (s₁.setTop (mkF m 18 #[.val (.int (14 : Int32))] [(.int (14 : Int32))])) _
  refine OGot.go (fun t k => XS.iconst X0.here hx rfl (hb hby d1_18) k) ?_
  show OGot p.tables e below (s₁.setTop (mkF m 19 #[.val (.int (14 : Int32))] [(.int (2 : Int32)), (.int (14 : Int32))])) _
  refine OGot.go (fun t k => XS.icmpYes X0.here hx rfl (pc0 := 19) (pc' := 26) rfl (hb hby d1_19) rfl (by decide) (by decide) (by decide) k) ?_
  show OGot p.tables e below (s₁.setTop (mkF m 26 #[.val (.int (14 : Int32))] [])) _
  refine OGot.go (fun t k => XS.iloadN X0.here hx rfl (hb hby d1_26) rfl k) ?_
  show OGot p.tables e below (s₁.setTop (mkF m 27 #[.val (.int (14 : Int32))] [(.int (14 : Int32))])) _
  refine OGot.go (fun t k => XS.iconst X0.here hx rfl (hb hby d1_27) k) ?_
  show OGot p.tables e below (s₁.setTop (mkF m 28 #[.val (.int (14 : Int32))] [(.int (3 : Int32)), (.int (14 : Int32))])) _
  refine OGot.go (fun t k => XS.icmpYes X0.here hx rfl (pc0 := 28) (pc' := 35) rfl (hb hby d1_28) rfl (by decide) (by decide) (by decide) k) ?_
  show OGot p.tables e below (s₁.setTop (mkF m 35 #[.val (.int (14 : Int32))] [])) _
  refine OGot.go (fun t k => XS.iloadN X0.here hx rfl (hb hby d1_35) rfl k) ?_
  show OGot p.tables e below (s₁.setTop (mkF m 36 #[.val (.int (14 : Int32))] [(.int (14 : Int32))])) _
  refine OGot.go (fun t k => XS.iconst X0.here hx rfl (hb hby d1_36) k) ?_
  show OGot p.tables e below (s₁.setTop (mkF m 37 #[.val (.int (14 : Int32))] [(.int (4 : Int32)), (.int (14 : Int32))])) _
  refine OGot.go (fun t k => XS.icmpYes X0.here hx rfl (pc0 := 37) (pc' := 44) rfl (hb hby d1_37) rfl (by decide) (by decide) (by decide) k) ?_
  show OGot p.tables e below (s₁.setTop (mkF m 44 #[.val (.int (14 : Int32))] [])) _
  refine OGot.go (fun t k => XS.iloadN X0.here hx rfl (hb hby d1_44) rfl k) ?_
  show OGot p.tables e below (s₁.setTop (mkF m 45 #[.val (.int (14 : Int32))] [(.int (14 : Int32))])) _
  refine OGot.go (fun t k => XS.iconst X0.here hx rfl (hb hby d1_45) k) ?_
  show OGot p.tables e below (s₁.setTop (mkF m 46 #[.val (.int (14 : Int32))] [(.int (5 : Int32)), (.int (14 : Int32))])) _
  refine OGot.go (fun t k => XS.icmpYes X0.here hx rfl (pc0 := 46) (pc' := 53) rfl (hb hby d1_46) rfl (by decide) (by decide) (by decide) k) ?_
  show OGot p.tables e below (s₁.setTop (mkF m 53 #[.val (.int (14 : Int32))] [])) _
  refine OGot.go (fun t k => XS.iloadN X0.here hx rfl (hb hby d1_53) rfl k) ?_
  show OGot p.tables e below (s₁.setTop (mkF m 54 #[.val (.int (14 : Int32))] [(.int (14 : Int32))])) _
  refine OGot.go (fun t k => XS.bipush X0.here hx rfl (hb hby d1_54) k) ?_
  show OGot p.tables e below (s₁.setTop (mkF m 56 #[.val (.int (14 : Int32))] [(.int (6 : Int32)), (.int (14 : Int32))])) _
  refine OGot.go (fun t k => XS.icmpYes X0.here hx rfl (pc0 := 56) (pc' := 63) rfl (hb hby d1_56) rfl (by decide) (by decide) (by decide) k) ?_
  show OGot p.tables e below (s₁.setTop (mkF m 63 #[.val (.int (14 : Int32))] [])) _
  refine OGot.go (fun t k => XS.iloadN X0.here hx rfl (hb hby d1_63) rfl k) ?_
  show OGot p.tables e below (s₁.setTop (mkF m 64 #[.val (.int (14 : Int32))] [(.int (14 : Int32))])) _
  refine OGot.go (fun t k => XS.bipush X0.here hx rfl (hb hby d1_64) k) ?_
  show OGot p.tables e below (s₁.setTop (mkF m 66 #[.val (.int (14 : Int32))] [(.int (7 : Int32)), (.int (14 : Int32))])) _
  refine OGot.go (fun t k => XS.icmpYes X0.here hx rfl (pc0 := 66) (pc' := 73) rfl (hb hby d1_66) rfl (by decide) (by decide) (by decide) k) ?_
  show OGot p.tables e below (s₁.setTop (mkF m 73 #[.val (.int (14 : Int32))] [])) _
  refine OGot.go (fun t k => XS.iloadN X0.here hx rfl (hb hby d1_73) rfl k) ?_
  show OGot p.tables e below (s₁.setTop (mkF m 74 #[.val (.int (14 : Int32))] [(.int (14 : Int32))])) _
  refine OGot.go (fun t k => XS.bipush X0.here hx rfl (hb hby d1_74) k) ?_
  show OGot p.tables e below (s₁.setTop (mkF m 76 #[.val (.int (14 : Int32))] [(.int (8 : Int32)), (.int (14 : Int32))])) _
  refine OGot.go (fun t k => XS.icmpYes X0.here hx rfl (pc0 := 76) (pc' := 83) rfl (hb hby d1_76) rfl (by decide) (by decide) (by decide) k) ?_
  show OGot p.tables e below (s₁.setTop (mkF m 83 #[.val (.int (14 : Int32))] [])) _
  refine OGot.go (fun t k => XS.iloadN X0.here hx rfl (hb hby d1_83) rfl k) ?_
  show OGot p.tables e below (s₁.setTop (mkF m 84 #[.val (.int (14 : Int32))] [(.int (14 : Int32))])) _
  refine OGot.go (fun t k => XS.bipush X0.here hx rfl (hb hby d1_84) k) ?_
  show OGot p.tables e below (s₁.setTop (mkF m 86 #[.val (.int (14 : Int32))] [(.int (9 : Int32)), (.int (14 : Int32))])) _
  refine OGot.go (fun t k => XS.icmpYes X0.here hx rfl (pc0 := 86) (pc' := 93) rfl (hb hby d1_86) rfl (by decide) (by decide) (by decide) k) ?_
  show OGot p.tables e below (s₁.setTop (mkF m 93 #[.val (.int (14 : Int32))] [])) _
  refine OGot.go (fun t k => XS.iloadN X0.here hx rfl (hb hby d1_93) rfl k) ?_
  show OGot p.tables e below (s₁.setTop (mkF m 94 #[.val (.int (14 : Int32))] [(.int (14 : Int32))])) _
  refine OGot.go (fun t k => XS.bipush X0.here hx rfl (hb hby d1_94) k) ?_
  show OGot p.tables e below (s₁.setTop (mkF m 96 #[.val (.int (14 : Int32))] [(.int (10 : Int32)), (.int (14 : Int32))])) _
  refine OGot.go (fun t k => XS.icmpYes X0.here hx rfl (pc0 := 96) (pc' := 103) rfl (hb hby d1_96) rfl (by decide) (by decide) (by decide) k) ?_
  show OGot p.tables e below (s₁.setTop (mkF m 103 #[.val (.int (14 : Int32))] [])) _
  refine OGot.go (fun t k => XS.iloadN X0.here hx rfl (hb hby d1_103) rfl k) ?_
  show OGot p.tables e below (s₁.setTop (mkF m 104 #[.val (.int (14 : Int32))] [(.int (14 : Int32))])) _
  refine OGot.go (fun t k => XS.bipush X0.here hx rfl (hb hby d1_104) k) ?_
  show OGot p.tables e below (s₁.setTop (mkF m 106 #[.val (.int (14 : Int32))] [(.int (11 : Int32)), (.int (14 : Int32))])) _
  refine OGot.go (fun t k => XS.icmpYes X0.here hx rfl (pc0 := 106) (pc' := 113) rfl (hb hby d1_106) rfl (by decide) (by decide) (by decide) k) ?_
  show OGot p.tables e below (s₁.setTop (mkF m 113 #[.val (.int (14 : Int32))] [])) _
  refine OGot.go (fun t k => XS.iloadN X0.here hx rfl (hb hby d1_113) rfl k) ?_
  show OGot p.tables e below (s₁.setTop (mkF m 114 #[.val (.int (14 : Int32))] [(.int (14 : Int32))])) _
  refine OGot.go (fun t k => XS.bipush X0.here hx rfl (hb hby d1_114) k) ?_
  show OGot p.tables e below (s₁.setTop (mkF m 116 #[.val (.int (14 : Int32))] [(.int (12 : Int32)), (.int (14 : Int32))])) _
  refine OGot.go (fun t k => XS.icmpYes X0.here hx rfl (pc0 := 116) (pc' := 123) rfl (hb hby d1_116) rfl (by decide) (by decide) (by decide) k) ?_
  show OGot p.tables e below (s₁.setTop (mkF m 123 #[.val (.int (14 : Int32))] [])) _
  refine OGot.go (fun t k => XS.iloadN X0.here hx rfl (hb hby d1_123) rfl k) ?_
  show OGot p.tables e below (s₁.setTop (mkF m 124 #[.val (.int (14 : Int32))] [(.int (14 : Int32))])) _
  refine OGot.go (fun t k => XS.bipush X0.here hx rfl (hb hby d1_124) k) ?_
  show OGot p.tables e below (s₁.setTop (mkF m 126 #[.val (.int (14 : Int32))] [(.int (13 : Int32)), (.int (14 : Int32))])) _
  refine OGot.go (fun t k => XS.icmpYes X0.here hx rfl (pc0 := 126) (pc' := 133) rfl (hb hby d1_126) rfl (by decide) (by decide) (by decide) k) ?_
  show OGot p.tables e below (s₁.setTop (mkF m 133 #[.val (.int (14 : Int32))] [])) _
  obtain ⟨T1, X1, e1, st1⟩ := getS2 X0 hx hZ hown (host := "") (Or.inl (ow hw 33 rfl)) Via.refl e0 (G.2.2.2.2.1.ext O0.2) (g := (mkF m 133 #[.val (.int (14 : Int32))] [])) rfl (hb hby d1_133)
  refine OGot.go st1 ?_
  show OGot p.tables e below (T1.setTop (mkF m 136 #[.val (.int (14 : Int32))] [(.ref w_MESSAGE_BOUNDARY_EVENT)])) _
  obtain ⟨fs, hr, hrun, hended, hW, hsame⟩ := X1.leave (v := some (.ref w_MESSAGE_BOUNDARY_EVENT)) (fun h => by rw [Bd.returns] at h; cases h)
  refine ⟨_, _, oretA X1 hx Bd.returns rfl rfl (hb hby d1_136) hr, hrun, hended, _, _, rfl, ?_, ⟨_, rfl⟩, hW, hsame.mono (by decide) (by decide)⟩
  exact (⟨rfl, N0, e1⟩ : Q1_14 Z w_START_EVENT w_BOUNDARY_EVENT w_MESSAGE_BOUNDARY_EVENT w_TERMINATE_END_EVENT w_LINK_THROW_EVENT w_LINK_CATCH_EVENT w_RECEPTION w_END_EVENT w_EVENT_BASED_GATEWAY w_INCLUSIVE_GATEWAY w_EXCLUSIVE_GATEWAY w_MESSAGE_START_EVENT w_SUB_PROCESS w_ACTIVITY w_PARALLEL_GATEWAY  h0 n0 _ T1.heap _)
def Q2_14 (Z : State) (w_START_EVENT : Addr) (w_BOUNDARY_EVENT : Addr) (w_MESSAGE_BOUNDARY_EVENT : Addr) (w_TERMINATE_END_EVENT : Addr) (w_LINK_THROW_EVENT : Addr) (w_LINK_CATCH_EVENT : Addr) (w_RECEPTION : Addr) (w_END_EVENT : Addr) (w_EVENT_BASED_GATEWAY : Addr) (w_INCLUSIVE_GATEWAY : Addr) (w_EXCLUSIVE_GATEWAY : Addr) (w_MESSAGE_START_EVENT : Addr) (w_SUB_PROCESS : Addr) (w_ACTIVITY : Addr) (w_PARALLEL_GATEWAY : Addr)  (h0 : Heap) (n0 : Nat) (v : Option Value) (h : Heap) (L : List Loc) : Prop := v = some (.int (1 : Int32)) ∧ Fr n0 L ∧ h = h0
theorem ef2_14 (m : MethodId) (x0 : Addr) : entryFrame m #[(.ref x0)] 1 = mkF m 0 #[.val (.ref x0)] [] := by first | (simp [entryFrame, mkF, argsToLocals, Value.category]; done) | rfl
set_option maxRecDepth 65536 in
set_option maxHeartbeats 40000000 in
theorem rm2_14 (l : Launch) (Z : State) (a0 : Array Value) (hw : ∀ d ∈ tables_1, d.before a0 Z = true) (ws : List Jvm.Cond) {w_START_EVENT : Addr} {w_BOUNDARY_EVENT : Addr} {w_MESSAGE_BOUNDARY_EVENT : Addr} {w_TERMINATE_END_EVENT : Addr} {w_LINK_THROW_EVENT : Addr} {w_LINK_CATCH_EVENT : Addr} {w_RECEPTION : Addr} {w_END_EVENT : Addr} {w_EVENT_BASED_GATEWAY : Addr} {w_INCLUSIVE_GATEWAY : Addr} {w_EXCLUSIVE_GATEWAY : Addr} {w_MESSAGE_START_EVENT : Addr} {w_SUB_PROCESS : Addr} {w_ACTIVITY : Addr} {w_PARALLEL_GATEWAY : Addr} (G : Glob Z w_START_EVENT w_BOUNDARY_EVENT w_MESSAGE_BOUNDARY_EVENT w_TERMINATE_END_EVENT w_LINK_THROW_EVENT w_LINK_CATCH_EVENT w_RECEPTION w_END_EVENT w_EVENT_BASED_GATEWAY w_INCLUSIVE_GATEWAY w_EXCLUSIVE_GATEWAY w_MESSAGE_START_EVENT w_SUB_PROCESS w_ACTIVITY w_PARALLEL_GATEWAY)  (h0 : Heap) (n0 : Nat) (O0 : Old Z n0 h0) :
    MetFree l (⟨"com/example/chorale/chorale/FlowGraph$Kind", "attaches", "()Z"⟩ : MethodName) (head1 (Jvm.Cond.code (⟨"com/example/chorale/chorale/FlowGraph$Kind", "attaches", "()Z"⟩ : MethodName) prog_73_method_5_code 1 (some .boolean) :: ws) ({ frames := 0, cells := 0, slots := 0, locals := 0 } : Room)) (fun a U => a = #[(.ref w_MESSAGE_BOUNDARY_EVENT)] ∧ Z.Warmed39 U.vm ∧ U.heap = h0) (fun _ _ _ _ _ => True) (fun _ U o U' => ∃ v L, o = .returned v ∧ Q2_14 Z w_START_EVENT w_BOUNDARY_EVENT w_MESSAGE_BOUNDARY_EVENT w_TERMINATE_END_EVENT w_LINK_THROW_EVENT w_LINK_CATCH_EVENT w_RECEPTION w_END_EVENT w_EVENT_BASED_GATEWAY w_INCLUSIVE_GATEWAY w_EXCLUSIVE_GATEWAY w_MESSAGE_START_EVENT w_SUB_PROCESS w_ACTIVITY w_PARALLEL_GATEWAY  h0 n0 v U'.heap L ∧ FrameEnd U o U' L ({ frames := 0, cells := 0, slots := 0, locals := 0 } : Room).cells ({ frames := 0, cells := 0, slots := 0, locals := 0 } : Room).slots) := by
  refine MetFree.of_bodySF (plainFor_of_name pn_com_example_chorale_chorale_FlowGraph_Kind) hisR ?_
  intro p e s m args below meth c s₁ Bd hml0 hP hK
  obtain ⟨rfl, hZ, hh⟩ := hP
  have hx := Bd.exec
  have hby := Bd.bytes
  have hml : c.maxLocals = 1 := hml0
  have hown : s.vm.findClass "com/example/chorale/chorale/FlowGraph$Kind" = some m.cls := findClass_of_methodNamed Bd.named
  have hnm := (name_of_methodNamed Bd.named Bd.method).1
  have X0 : Stand p l e ({ frames := 0, cells := 0, slots := 0, locals := 0 } : Room) s m #[(.ref w_MESSAGE_BOUNDARY_EVENT)] below meth c s₁ [] 0 0 := Stand.of_body Bd
  have e0 : s₁.heap = h0 := by rw [← hh, Bd.state]; rfl
  have N0 := Fr.nil n0
  show OGot p.tables e below (s₁.setTop (entryFrame m #[(.ref w_MESSAGE_BOUNDARY_EVENT)] 1)) _
  refine OGot.go (fun t k => castTop (ef2_14 m w_MESSAGE_BOUNDARY_EVENT) k) ?_
  show OGot p.tables e below (s₁.setTop (mkF m 0 #[.val (.ref w_MESSAGE_BOUNDARY_EVENT)] [])) _
  refine OGot.go (fun t k => XS.aloadN X0.here hx rfl (hb hby d2_0) rfl rfl k) ?_
  show OGot p.tables e below (s₁.setTop (mkF m 1 #[.val (.ref w_MESSAGE_BOUNDARY_EVENT)] [(.ref w_MESSAGE_BOUNDARY_EVENT)])) _
  obtain ⟨T2, X2, e2, st2⟩ := getS2 X0 hx hZ hown (host := "") (Or.inl (ow hw 13 rfl)) Via.refl e0 (G.2.2.1.ext O0.2) (g := (mkF m 1 #[.val (.ref w_MESSAGE_BOUNDARY_EVENT)] [(.ref w_MESSAGE_BOUNDARY_EVENT)])) rfl (hb hby d2_1)
  refine OGot.go st2 ?_
  show OGot p.tables e below (T2.setTop (mkF m 4 #[.val (.ref w_MESSAGE_BOUNDARY_EVENT)] [(.ref w_BOUNDARY_EVENT), (.ref w_MESSAGE_BOUNDARY_EVENT)])) _
  have ne3 : w_MESSAGE_BOUNDARY_EVENT ≠ w_BOUNDARY_EVENT := (Fld.ne G.2.2.2.2.2.2.2.2.2.2.2.2.2.2.2.2.2.2.2.2.2.2.2.2.2.2.2.2.2.2.2.2.1 G.2.2.2.2.2.2.2.2.2.2.2.2.2.2.2.2.2.2.2.2.2.2.2.2.2.2.2.2.2.2.2.1 (by decide))
  refine OGot.go (fun t k => Jvm.RoadKit.acmp (g := (mkF m 4 #[.val (.ref w_MESSAGE_BOUNDARY_EVENT)] [(.ref w_BOUNDARY_EVENT), (.ref w_MESSAGE_BOUNDARY_EVENT)])) X2 hx rfl rfl rfl (pc0 := 4) (pc' := 7) (same := false) rfl (hb hby d2_4) rfl (decide_eq_false fun q => ne3 (Value.ref.inj q)) (by decide) (by decide) k) ?_
  show OGot p.tables e below (T2.setTop (mkF m 7 #[.val (.ref w_MESSAGE_BOUNDARY_EVENT)] [])) _
  refine OGot.go (fun t k => XS.aloadN X2.here hx rfl (hb hby d2_7) rfl rfl k) ?_
  show OGot p.tables e below (T2.setTop (mkF m 8 #[.val (.ref w_MESSAGE_BOUNDARY_EVENT)] [(.ref w_MESSAGE_BOUNDARY_EVENT)])) _
  obtain ⟨T4, X4, e4, st4⟩ := getS2 X2 hx hZ hown (host := "") (Or.inl (ow hw 15 rfl)) Via.refl e2 (G.2.2.2.2.1.ext O0.2) (g := (mkF m 8 #[.val (.ref w_MESSAGE_BOUNDARY_EVENT)] [(.ref w_MESSAGE_BOUNDARY_EVENT)])) rfl (hb hby d2_8)
  refine OGot.go st4 ?_
  show OGot p.tables e below (T4.setTop (mkF m 11 #[.val (.ref w_MESSAGE_BOUNDARY_EVENT)] [(.ref w_MESSAGE_BOUNDARY_EVENT), (.ref w_MESSAGE_BOUNDARY_EVENT)])) _
  refine OGot.go (fun t k => Jvm.RoadKit.acmp (g := (mkF m 11 #[.val (.ref w_MESSAGE_BOUNDARY_EVENT)] [(.ref w_MESSAGE_BOUNDARY_EVENT), (.ref w_MESSAGE_BOUNDARY_EVENT)])) X4 hx rfl rfl rfl (pc0 := 11) (pc' := 14) (same := true) rfl (hb hby d2_11) rfl (decide_eq_true rfl) (by decide) (by decide) k) ?_
  show OGot p.tables e below (T4.setTop (mkF m 14 #[.val (.ref w_MESSAGE_BOUNDARY_EVENT)] [])) _
  refine OGot.go (fun t k => XS.iconst X4.here hx rfl (hb hby d2_14) k) ?_
  show OGot p.tables e below (T4.setTop (mkF m 15 #[.val (.ref w_MESSAGE_BOUNDARY_EVENT)] [(.int (1 : Int32))])) _
  refine OGot.go (fun t k => XS.goto X4.here hx rfl (pc0 := 15) (pc' := 19) rfl (hb hby d2_15) (by decide) (by decide) k) ?_
  show OGot p.tables e below (T4.setTop (mkF m 19 #[.val (.ref w_MESSAGE_BOUNDARY_EVENT)] [(.int (1 : Int32))])) _
  obtain ⟨fs, hr, hrun, hended, hW, hsame⟩ := X4.leave (v := some (.int (1 : Int32))) (fun h => by rw [Bd.returns] at h; cases h)
  refine ⟨_, _, retN X4 hx (t := .boolean) Bd.returns (by simp) (hb hby d2_19) hr, hrun, hended, _, _, rfl, ?_, ⟨_, rfl⟩, hW, hsame.mono (by decide) (by decide)⟩
  exact (⟨rfl, N0, e4⟩ : Q2_14 Z w_START_EVENT w_BOUNDARY_EVENT w_MESSAGE_BOUNDARY_EVENT w_TERMINATE_END_EVENT w_LINK_THROW_EVENT w_LINK_CATCH_EVENT w_RECEPTION w_END_EVENT w_EVENT_BASED_GATEWAY w_INCLUSIVE_GATEWAY w_EXCLUSIVE_GATEWAY w_MESSAGE_START_EVENT w_SUB_PROCESS w_ACTIVITY w_PARALLEL_GATEWAY  h0 n0 _ T4.heap _)
theorem d3_16 : decode method_3_code 16 = .ok (.iconst 1, 1) := by decide +kernel
theorem d3_17 : decode method_3_code 17 = .ok (.istore_n 1, 1) := by decide +kernel
def Q3_14 (Z : State) (w_START_EVENT : Addr) (w_BOUNDARY_EVENT : Addr) (w_MESSAGE_BOUNDARY_EVENT : Addr) (w_TERMINATE_END_EVENT : Addr) (w_LINK_THROW_EVENT : Addr) (w_LINK_CATCH_EVENT : Addr) (w_RECEPTION : Addr) (w_END_EVENT : Addr) (w_EVENT_BASED_GATEWAY : Addr) (w_INCLUSIVE_GATEWAY : Addr) (w_EXCLUSIVE_GATEWAY : Addr) (w_MESSAGE_START_EVENT : Addr) (w_SUB_PROCESS : Addr) (w_ACTIVITY : Addr) (w_PARALLEL_GATEWAY : Addr)  (h0 : Heap) (n0 : Nat) (v : Option Value) (h : Heap) (L : List Loc) : Prop := v = some (.int (1 : Int32)) ∧ Fr n0 L ∧ h = h0
theorem ef3_14 (m : MethodId)  : entryFrame m #[(.int (14 : Int32))] 2 = mkF m 0 #[.val (.int (14 : Int32)), .unset] [] := by first | (simp [entryFrame, mkF, argsToLocals, Value.category]; done) | rfl
set_option maxRecDepth 65536 in
set_option maxHeartbeats 40000000 in
theorem rm3_14 (l : Launch) (Z : State) (a0 : Array Value) (hw : ∀ d ∈ tables_1, d.before a0 Z = true) (ws : List Jvm.Cond) {w_START_EVENT : Addr} {w_BOUNDARY_EVENT : Addr} {w_MESSAGE_BOUNDARY_EVENT : Addr} {w_TERMINATE_END_EVENT : Addr} {w_LINK_THROW_EVENT : Addr} {w_LINK_CATCH_EVENT : Addr} {w_RECEPTION : Addr} {w_END_EVENT : Addr} {w_EVENT_BASED_GATEWAY : Addr} {w_INCLUSIVE_GATEWAY : Addr} {w_EXCLUSIVE_GATEWAY : Addr} {w_MESSAGE_START_EVENT : Addr} {w_SUB_PROCESS : Addr} {w_ACTIVITY : Addr} {w_PARALLEL_GATEWAY : Addr} (G : Glob Z w_START_EVENT w_BOUNDARY_EVENT w_MESSAGE_BOUNDARY_EVENT w_TERMINATE_END_EVENT w_LINK_THROW_EVENT w_LINK_CATCH_EVENT w_RECEPTION w_END_EVENT w_EVENT_BASED_GATEWAY w_INCLUSIVE_GATEWAY w_EXCLUSIVE_GATEWAY w_MESSAGE_START_EVENT w_SUB_PROCESS w_ACTIVITY w_PARALLEL_GATEWAY)  (h0 : Heap) (n0 : Nat) (O0 : Old Z n0 h0) :
    MetFree l (⟨"com/example/chorale/chorale/KindAttachesPinLaw", "isBoundaryIndex", "(I)Z"⟩ : MethodName) (head1 (Jvm.Cond.code (⟨"com/example/chorale/chorale/KindAttachesPinLaw", "isBoundaryIndex", "(I)Z"⟩ : MethodName) method_3_code 2 (some .boolean) :: ws) ({ frames := 0, cells := 0, slots := 0, locals := 0 } : Room)) (fun a U => a = #[(.int (14 : Int32))] ∧ Z.Warmed39 U.vm ∧ U.heap = h0) (fun _ _ _ _ _ => True) (fun _ U o U' => ∃ v L, o = .returned v ∧ Q3_14 Z w_START_EVENT w_BOUNDARY_EVENT w_MESSAGE_BOUNDARY_EVENT w_TERMINATE_END_EVENT w_LINK_THROW_EVENT w_LINK_CATCH_EVENT w_RECEPTION w_END_EVENT w_EVENT_BASED_GATEWAY w_INCLUSIVE_GATEWAY w_EXCLUSIVE_GATEWAY w_MESSAGE_START_EVENT w_SUB_PROCESS w_ACTIVITY w_PARALLEL_GATEWAY  h0 n0 v U'.heap L ∧ FrameEnd U o U' L ({ frames := 0, cells := 0, slots := 0, locals := 0 } : Room).cells ({ frames := 0, cells := 0, slots := 0, locals := 0 } : Room).slots) := by
  refine MetFree.of_bodySF (plainFor_of_name pn_com_example_chorale_chorale_KindAttachesPinLaw) hisR ?_
  intro p e s m args below meth c s₁ Bd hml0 hP hK
  obtain ⟨rfl, hZ, hh⟩ := hP
  have hx := Bd.exec
  have hby := Bd.bytes
  have hml : c.maxLocals = 2 := hml0
  have hown : s.vm.findClass "com/example/chorale/chorale/KindAttachesPinLaw" = some m.cls := findClass_of_methodNamed Bd.named
  have hnm := (name_of_methodNamed Bd.named Bd.method).1
  have X0 : Stand p l e ({ frames := 0, cells := 0, slots := 0, locals := 0 } : Room) s m #[(.int (14 : Int32))] below meth c s₁ [] 0 0 := Stand.of_body Bd
  have e0 : s₁.heap = h0 := by rw [← hh, Bd.state]; rfl
  have N0 := Fr.nil n0
  show OGot p.tables e below (s₁.setTop (entryFrame m #[(.int (14 : Int32))] 2)) _
  refine OGot.go (fun t k => castTop (ef3_14 m ) k) ?_
  show OGot p.tables e below (s₁.setTop (mkF m 0 #[.val (.int (14 : Int32)), .unset] [])) _
  refine OGot.go (fun t k => XS.iconst X0.here hx rfl (hb hby d3_0) k) ?_
  show OGot p.tables e below (s₁.setTop (mkF m 1 #[.val (.int (14 : Int32)), .unset] [(.int (0 : Int32))])) _
  refine OGot.go (fun t k => XS.istoreN X0.here hx rfl (hb hby d3_1) rfl (l' := #[.val (.int (14 : Int32)), .val (.int (0 : Int32))]) rfl k) ?_
  show OGot p.tables e below (s₁.setTop (mkF m 2 #[.val (.int (14 : Int32)), .val (.int (0 : Int32))] [])) _
  refine OGot.go (fun t k => XS.iloadN X0.here hx rfl (hb hby d3_2) rfl k) ?_
  show OGot p.tables e below (s₁.setTop (mkF m 3 #[.val (.int (14 : Int32)), .val (.int (0 : Int32))] [(.int (14 : Int32))])) _
  refine OGot.go (fun t k => XS.bipush X0.here hx rfl (hb hby d3_3) k) ?_
  show OGot p.tables e below (s₁.setTop (mkF m 5 #[.val (.int (14 : Int32)), .val (.int (0 : Int32))] [(.int (13 : Int32)), (.int (14 : Int32))])) _
  refine OGot.go (fun t k => XS.icmpYes X0.here hx rfl (pc0 := 5) (pc' := 10) rfl (hb hby d3_5) rfl (by decide) (by decide) (by decide) k) ?_
  show OGot p.tables e below (s₁.setTop (mkF m 10 #[.val (.int (14 : Int32)), .val (.int (0 : Int32))] [])) _
  refine OGot.go (fun t k => XS.iloadN X0.here hx rfl (hb hby d3_10) rfl k) ?_
  show OGot p.tables e below (s₁.setTop (mkF m 11 #[.val (.int (14 : Int32)), .val (.int (0 : Int32))] [(.int (14 : Int32))])) _
  refine OGot.go (fun t k => XS.bipush X0.here hx rfl (hb hby d3_11) k) ?_
  show OGot p.tables e below (s₁.setTop (mkF m 13 #[.val (.int (14 : Int32)), .val (.int (0 : Int32))] [(.int (14 : Int32)), (.int (14 : Int32))])) _
  refine OGot.go (fun t k => XS.icmpNo X0.here hx rfl (hb hby d3_13) rfl (by decide) k) ?_
  show OGot p.tables e below (s₁.setTop (mkF m 16 #[.val (.int (14 : Int32)), .val (.int (0 : Int32))] [])) _
  refine OGot.go (fun t k => XS.iconst X0.here hx rfl (hb hby d3_16) k) ?_
  show OGot p.tables e below (s₁.setTop (mkF m 17 #[.val (.int (14 : Int32)), .val (.int (0 : Int32))] [(.int (1 : Int32))])) _
  refine OGot.go (fun t k => XS.istoreN X0.here hx rfl (hb hby d3_17) rfl (l' := #[.val (.int (14 : Int32)), .val (.int (1 : Int32))]) rfl k) ?_
  show OGot p.tables e below (s₁.setTop (mkF m 18 #[.val (.int (14 : Int32)), .val (.int (1 : Int32))] [])) _
  refine OGot.go (fun t k => XS.iloadN X0.here hx rfl (hb hby d3_18) rfl k) ?_
  show OGot p.tables e below (s₁.setTop (mkF m 19 #[.val (.int (14 : Int32)), .val (.int (1 : Int32))] [(.int (1 : Int32))])) _
  obtain ⟨fs, hr, hrun, hended, hW, hsame⟩ := X0.leave (v := some (.int (1 : Int32))) (fun h => by rw [Bd.returns] at h; cases h)
  refine ⟨_, _, retN X0 hx (t := .boolean) Bd.returns (by simp) (hb hby d3_19) hr, hrun, hended, _, _, rfl, ?_, ⟨_, rfl⟩, hW, hsame.mono (by decide) (by decide)⟩
  exact (⟨rfl, N0, e0⟩ : Q3_14 Z w_START_EVENT w_BOUNDARY_EVENT w_MESSAGE_BOUNDARY_EVENT w_TERMINATE_END_EVENT w_LINK_THROW_EVENT w_LINK_CATCH_EVENT w_RECEPTION w_END_EVENT w_EVENT_BASED_GATEWAY w_INCLUSIVE_GATEWAY w_EXCLUSIVE_GATEWAY w_MESSAGE_START_EVENT w_SUB_PROCESS w_ACTIVITY w_PARALLEL_GATEWAY  h0 n0 _ s₁.heap _)
def Q4_1 (Z : State) (w_START_EVENT : Addr) (w_BOUNDARY_EVENT : Addr) (w_MESSAGE_BOUNDARY_EVENT : Addr) (w_TERMINATE_END_EVENT : Addr) (w_LINK_THROW_EVENT : Addr) (w_LINK_CATCH_EVENT : Addr) (w_RECEPTION : Addr) (w_END_EVENT : Addr) (w_EVENT_BASED_GATEWAY : Addr) (w_INCLUSIVE_GATEWAY : Addr) (w_EXCLUSIVE_GATEWAY : Addr) (w_MESSAGE_START_EVENT : Addr) (w_SUB_PROCESS : Addr) (w_ACTIVITY : Addr) (w_PARALLEL_GATEWAY : Addr)  (h0 : Heap) (n0 : Nat) (v : Option Value) (h : Heap) (L : List Loc) : Prop := v = some (.int (0 : Int32)) ∧ Fr n0 L ∧ h = h0
theorem ef4_1 (m : MethodId) (x0 : Addr) : entryFrame m #[(.ref x0)] 1 = mkF m 0 #[.val (.ref x0)] [] := by first | (simp [entryFrame, mkF, argsToLocals, Value.category]; done) | rfl
set_option maxRecDepth 65536 in
set_option maxHeartbeats 40000000 in
theorem rm4_1 (l : Launch) (Z : State) (a0 : Array Value) (hw : ∀ d ∈ tables_1, d.before a0 Z = true) (ws : List Jvm.Cond) {w_START_EVENT : Addr} {w_BOUNDARY_EVENT : Addr} {w_MESSAGE_BOUNDARY_EVENT : Addr} {w_TERMINATE_END_EVENT : Addr} {w_LINK_THROW_EVENT : Addr} {w_LINK_CATCH_EVENT : Addr} {w_RECEPTION : Addr} {w_END_EVENT : Addr} {w_EVENT_BASED_GATEWAY : Addr} {w_INCLUSIVE_GATEWAY : Addr} {w_EXCLUSIVE_GATEWAY : Addr} {w_MESSAGE_START_EVENT : Addr} {w_SUB_PROCESS : Addr} {w_ACTIVITY : Addr} {w_PARALLEL_GATEWAY : Addr} (G : Glob Z w_START_EVENT w_BOUNDARY_EVENT w_MESSAGE_BOUNDARY_EVENT w_TERMINATE_END_EVENT w_LINK_THROW_EVENT w_LINK_CATCH_EVENT w_RECEPTION w_END_EVENT w_EVENT_BASED_GATEWAY w_INCLUSIVE_GATEWAY w_EXCLUSIVE_GATEWAY w_MESSAGE_START_EVENT w_SUB_PROCESS w_ACTIVITY w_PARALLEL_GATEWAY)  (h0 : Heap) (n0 : Nat) (O0 : Old Z n0 h0) :
    MetFree l (⟨"com/example/chorale/chorale/FlowGraph$Kind", "takesOwnToken", "()Z"⟩ : MethodName) (head1 (Jvm.Cond.code (⟨"com/example/chorale/chorale/FlowGraph$Kind", "takesOwnToken", "()Z"⟩ : MethodName) prog_73_method_6_code 1 (some .boolean) :: ws) ({ frames := 1, cells := 0, slots := 0, locals := 12 } : Room)) (fun a U => a = #[(.ref w_MESSAGE_BOUNDARY_EVENT)] ∧ Z.Warmed39 U.vm ∧ U.heap = h0) (fun _ _ _ _ _ => True) (fun _ U o U' => ∃ v L, o = .returned v ∧ Q4_1 Z w_START_EVENT w_BOUNDARY_EVENT w_MESSAGE_BOUNDARY_EVENT w_TERMINATE_END_EVENT w_LINK_THROW_EVENT w_LINK_CATCH_EVENT w_RECEPTION w_END_EVENT w_EVENT_BASED_GATEWAY w_INCLUSIVE_GATEWAY w_EXCLUSIVE_GATEWAY w_MESSAGE_START_EVENT w_SUB_PROCESS w_ACTIVITY w_PARALLEL_GATEWAY  h0 n0 v U'.heap L ∧ FrameEnd U o U' L ({ frames := 1, cells := 0, slots := 0, locals := 12 } : Room).cells ({ frames := 1, cells := 0, slots := 0, locals := 12 } : Room).slots) := by
  refine MetFree.of_bodySF (plainFor_of_name pn_com_example_chorale_chorale_FlowGraph_Kind) hisR ?_
  intro p e s m args below meth c s₁ Bd hml0 hP hK
  obtain ⟨rfl, hZ, hh⟩ := hP
  have hx := Bd.exec
  have hby := Bd.bytes
  have hml : c.maxLocals = 1 := hml0
  have hown : s.vm.findClass "com/example/chorale/chorale/FlowGraph$Kind" = some m.cls := findClass_of_methodNamed Bd.named
  have hnm := (name_of_methodNamed Bd.named Bd.method).1
  have X0 : Stand p l e ({ frames := 1, cells := 0, slots := 0, locals := 12 } : Room) s m #[(.ref w_MESSAGE_BOUNDARY_EVENT)] below meth c s₁ [] 0 0 := Stand.of_body Bd
  have e0 : s₁.heap = h0 := by rw [← hh, Bd.state]; rfl
  have N0 := Fr.nil n0
  show OGot p.tables e below (s₁.setTop (entryFrame m #[(.ref w_MESSAGE_BOUNDARY_EVENT)] 1)) _
  refine OGot.go (fun t k => castTop (ef4_1 m w_MESSAGE_BOUNDARY_EVENT) k) ?_
  show OGot p.tables e below (s₁.setTop (mkF m 0 #[.val (.ref w_MESSAGE_BOUNDARY_EVENT)] [])) _
  refine OGot.go (fun t k => XS.aloadN X0.here hx rfl (hb hby d4_0) rfl rfl k) ?_
  show OGot p.tables e below (s₁.setTop (mkF m 1 #[.val (.ref w_MESSAGE_BOUNDARY_EVENT)] [(.ref w_MESSAGE_BOUNDARY_EVENT)])) _
  obtain ⟨cq2, kq2, q2a, q2b, q2c⟩ := isOf hZ e0 (G.2.2.2.2.2.1.ext O0.2)
  obtain ⟨_, _, ⟨T2, L2, k2, n2⟩, -, X2, ⟨Lc2, hQ2, l2, y2, z2⟩, st2⟩ := X0.virtualBack hx (y := (⟨"com/example/chorale/chorale/FlowGraph$Kind", "attaches", "()Z"⟩ : MethodName)) (z := (⟨"com/example/chorale/chorale/FlowGraph$Kind", "attaches", "()Z"⟩ : MethodName)) hown (mvT hZ (ow hw 30 rfl)) (mvT hZ (ow hw 9 rfl)) (notFace_of_selects (args := #[]) (mvT hZ (ow hw 11 rfl))) (mvT hZ (ow hw 11 rfl)) (mvT hZ (ow hw 10 rfl)) (by decide) (backOf (W := 0) (rm2_14 l Z a0 hw [] G  h0 n0 O0 ) hZ (ow hw 12 rfl) (ow hw 6 rfl) (by decide) (by decide)) q2a q2c (g := (mkF m 1 #[.val (.ref w_MESSAGE_BOUNDARY_EVENT)] [(.ref w_MESSAGE_BOUNDARY_EVENT)])) rfl (by rw [hml]; rfl) (Steps.refl _) (argsL := []) (rest := []) (lenOf pd_1 rfl) rfl (by show 2 * 0 + _ ≤ _; exact Nat.le_of_eq rfl) (hb hby d4_1) (fun _ _ => ⟨rfl, e0, (by decide : 0 + 0 ≤ _), (by decide : 0 + 0 ≤ _)⟩)
  dsimp only [Pt.U, Pt.locs, Pt.cells, Pt.slots] at X2 l2 y2 z2 st2 hQ2
  subst l2 y2 z2
  obtain ⟨rfl, N2q, e2⟩ := hQ2
  have N2 := Fr.app N0 N2q
  refine OGot.on st2 ?_
  show OGot p.tables e below (T2.setTop (mkF m 4 #[.val (.ref w_MESSAGE_BOUNDARY_EVENT)] [(.int (1 : Int32))])) _
  refine OGot.go (fun t k => XS.ifYes X2.here hx rfl (pc0 := 4) (pc' := 18) rfl (hb hby d4_4) rfl (by decide) (by decide) (by decide) k) ?_
  show OGot p.tables e below (T2.setTop (mkF m 18 #[.val (.ref w_MESSAGE_BOUNDARY_EVENT)] [])) _
  refine OGot.go (fun t k => XS.iconst X2.here hx rfl (hb hby d4_18) k) ?_
  show OGot p.tables e below (T2.setTop (mkF m 19 #[.val (.ref w_MESSAGE_BOUNDARY_EVENT)] [(.int (0 : Int32))])) _
  obtain ⟨fs, hr, hrun, hended, hW, hsame⟩ := X2.leave (v := some (.int (0 : Int32))) (fun h => by rw [Bd.returns] at h; cases h)
  refine ⟨_, _, retN X2 hx (t := .boolean) Bd.returns (by simp) (hb hby d4_19) hr, hrun, hended, _, _, rfl, ?_, ⟨_, rfl⟩, hW, hsame.mono (by decide) (by decide)⟩
  exact (⟨rfl, N2, e2⟩ : Q4_1 Z w_START_EVENT w_BOUNDARY_EVENT w_MESSAGE_BOUNDARY_EVENT w_TERMINATE_END_EVENT w_LINK_THROW_EVENT w_LINK_CATCH_EVENT w_RECEPTION w_END_EVENT w_EVENT_BASED_GATEWAY w_INCLUSIVE_GATEWAY w_EXCLUSIVE_GATEWAY w_MESSAGE_START_EVENT w_SUB_PROCESS w_ACTIVITY w_PARALLEL_GATEWAY  h0 n0 _ T2.heap _)
def Q0 (Z : State) (w_START_EVENT : Addr) (w_BOUNDARY_EVENT : Addr) (w_MESSAGE_BOUNDARY_EVENT : Addr) (w_TERMINATE_END_EVENT : Addr) (w_LINK_THROW_EVENT : Addr) (w_LINK_CATCH_EVENT : Addr) (w_RECEPTION : Addr) (w_END_EVENT : Addr) (w_EVENT_BASED_GATEWAY : Addr) (w_INCLUSIVE_GATEWAY : Addr) (w_EXCLUSIVE_GATEWAY : Addr) (w_MESSAGE_START_EVENT : Addr) (w_SUB_PROCESS : Addr) (w_ACTIVITY : Addr) (w_PARALLEL_GATEWAY : Addr) (p1 : Int32) (h0 : Heap) (n0 : Nat) (v : Option Value) (h : Heap) (L : List Loc) : Prop := v = some (.int (1 : Int32)) ∧ Fr n0 L
theorem ef0 (m : MethodId) (x0 : Int32) : entryFrame m #[(.int x0)] maxLocals = mkF m 0 #[.val (.int x0), .unset, .unset, .unset, .unset] [] := by first | (simp [entryFrame, mkF, argsToLocals, Value.category, maxLocals]; done) | rfl
set_option maxRecDepth 65536 in
set_option maxHeartbeats 40000000 in
theorem rm0 (l : Launch) (Z : State) (a0 : Array Value) (hw : ∀ d ∈ tables_1, d.before a0 Z = true) (ws : List Jvm.Cond) {w_START_EVENT : Addr} {w_BOUNDARY_EVENT : Addr} {w_MESSAGE_BOUNDARY_EVENT : Addr} {w_TERMINATE_END_EVENT : Addr} {w_LINK_THROW_EVENT : Addr} {w_LINK_CATCH_EVENT : Addr} {w_RECEPTION : Addr} {w_END_EVENT : Addr} {w_EVENT_BASED_GATEWAY : Addr} {w_INCLUSIVE_GATEWAY : Addr} {w_EXCLUSIVE_GATEWAY : Addr} {w_MESSAGE_START_EVENT : Addr} {w_SUB_PROCESS : Addr} {w_ACTIVITY : Addr} {w_PARALLEL_GATEWAY : Addr} (G : Glob Z w_START_EVENT w_BOUNDARY_EVENT w_MESSAGE_BOUNDARY_EVENT w_TERMINATE_END_EVENT w_LINK_THROW_EVENT w_LINK_CATCH_EVENT w_RECEPTION w_END_EVENT w_EVENT_BASED_GATEWAY w_INCLUSIVE_GATEWAY w_EXCLUSIVE_GATEWAY w_MESSAGE_START_EVENT w_SUB_PROCESS w_ACTIVITY w_PARALLEL_GATEWAY) (p1 : Int32) (h0 : Heap) (n0 : Nat) (O0 : Old Z n0 h0) :
    MetFree l x (head1 (Jvm.Cond.code x code maxLocals ret :: ws) room_1) (fun a U => a = #[(.int p1)] ∧ Z.Warmed39 U.vm ∧ U.heap = h0) (fun _ _ _ _ _ => True) (fun _ U o U' => ∃ v L, o = .returned v ∧ Q0 Z w_START_EVENT w_BOUNDARY_EVENT w_MESSAGE_BOUNDARY_EVENT w_TERMINATE_END_EVENT w_LINK_THROW_EVENT w_LINK_CATCH_EVENT w_RECEPTION w_END_EVENT w_EVENT_BASED_GATEWAY w_INCLUSIVE_GATEWAY w_EXCLUSIVE_GATEWAY w_MESSAGE_START_EVENT w_SUB_PROCESS w_ACTIVITY w_PARALLEL_GATEWAY p1 h0 n0 v U'.heap L ∧ FrameEnd U o U' L room_1.cells room_1.slots) := by
  refine MetFree.of_bodySF (plainFor_of_name pn_com_example_chorale_chorale_KindAttachesPinLaw) hisR ?_
  intro p e s m args below meth c s₁ Bd hml0 hP hK
  obtain ⟨rfl, hZ, hh⟩ := hP
  have hx := Bd.exec
  have hby := Bd.bytes
  have hml : c.maxLocals = 5 := hml0
  have hown : s.vm.findClass "com/example/chorale/chorale/KindAttachesPinLaw" = some m.cls := findClass_of_methodNamed Bd.named
  have hnm := (name_of_methodNamed Bd.named Bd.method).1
  have X0 : Stand p l e room_1 s m #[(.int p1)] below meth c s₁ [] 0 0 := Stand.of_body Bd
  have e0 : s₁.heap = h0 := by rw [← hh, Bd.state]; rfl
  have N0 := Fr.nil n0
  show OGot p.tables e below (s₁.setTop (entryFrame m #[(.int p1)] maxLocals)) _
  refine OGot.go (fun t k => castTop (ef0 m p1) k) ?_
  show OGot p.tables e below (s₁.setTop (mkF m 0 #[.val (.int p1), .unset, .unset, .unset, .unset] [])) _
  refine OGot.go (fun t k => XS.iloadN X0.here hx rfl (hb hby at_0) rfl k) ?_
  show OGot p.tables e below (s₁.setTop (mkF m 1 #[.val (.int p1), .unset, .unset, .unset, .unset] [(.int p1)])) _
  refine OGot.go (fun t k => X0.ldcInt hx hown (mvT hZ (ow hw 0 rfl)) (g := (mkF m 1 #[.val (.int p1), .unset, .unset, .unset, .unset] [(.int p1)])) rfl (hb hby at_1) _ k) ?_
  show OGot p.tables e below (s₁.setTop (mkF m 3 #[.val (.int p1), .unset, .unset, .unset, .unset] [(.int (2147483647 : Int32)), (.int p1)])) _
  refine OGot.go (fun t k => XS.iand X0.here hx rfl (hb hby at_3) rfl k) ?_
  show OGot p.tables e below (s₁.setTop (mkF m 4 #[.val (.int p1), .unset, .unset, .unset, .unset] [(.int (p1 &&& (2147483647 : Int32)))])) _
  refine OGot.go (fun t k => XS.bipush X0.here hx rfl (hb hby at_4) k) ?_
  show OGot p.tables e below (s₁.setTop (mkF m 6 #[.val (.int p1), .unset, .unset, .unset, .unset] [(.int (15 : Int32)), (.int (p1 &&& (2147483647 : Int32)))])) _
  refine OGot.go (fun t k => iremM X0 hx rfl (hb hby at_6) rfl (by decide) k) ?_
  show OGot p.tables e below (s₁.setTop (mkF m 7 #[.val (.int p1), .unset, .unset, .unset, .unset] [(.int ((p1 &&& (2147483647 : Int32)) % (15 : Int32)))])) _
  rcases own_rem15 p1 with hk2 | hk3 | hk4 | hk5 | hk6 | hk7 | hk8 | hk9 | hk10 | hk11 | hk12 | hk13 | hk14 | hk15 | hk16
  · rw [hk2]
    show OGot p.tables e below (s₁.setTop (mkF m 7 #[.val (.int p1), .unset, .unset, .unset, .unset] [(.int (0 : Int32))])) _
    refine OGot.go (fun t k => XS.istoreN X0.here hx rfl (hb hby at_7) rfl (l' := #[.val (.int p1), .val (.int (0 : Int32)), .unset, .unset, .unset]) rfl k) ?_
    show OGot p.tables e below (s₁.setTop (mkF m 8 #[.val (.int p1), .val (.int (0 : Int32)), .unset, .unset, .unset] [])) _
    refine OGot.go (fun t k => XS.iloadN X0.here hx rfl (hb hby at_8) rfl k) ?_
    show OGot p.tables e below (s₁.setTop (mkF m 9 #[.val (.int p1), .val (.int (0 : Int32)), .unset, .unset, .unset] [(.int (0 : Int32))])) _
    obtain ⟨_, _, ⟨T17, L17, k17, n17⟩, -, X17, ⟨Lc17, hQ17, l17, y17, z17⟩, st17⟩ := Jvm.LawKit.callS X0 hx (y := (⟨"com/example/chorale/chorale/KindAttachesPinLaw", "kindAt", "(I)Lcom/example/chorale/chorale/FlowGraph$Kind;"⟩ : MethodName)) hown (mvT hZ (ow hw 1 rfl)) (mvT hZ (ow hw 2 rfl)) (mvT hZ (ow hw 3 rfl)) (mvT hZ (ow hw 4 rfl)) (by decide) (backOf (W := 0) (rm1 l Z a0 hw [] G  h0 n0 O0 ) hZ (ow hw 4 rfl) (ow hw 3 rfl) (by decide) (by decide)) (g := (mkF m 9 #[.val (.int p1), .val (.int (0 : Int32)), .unset, .unset, .unset] [(.int (0 : Int32))])) rfl (by rw [hml]; rfl) (argsL := [(.int (0 : Int32))]) (rest := []) (lenOf pd_0 rfl) rfl (by show 2 * 0 + _ ≤ _; exact Nat.le_of_eq rfl) (hb hby at_9) (fun _ _ => ⟨rfl, e0, (by decide : 0 + 0 ≤ _), (by decide : 0 + 0 ≤ _)⟩)
    dsimp only [Pt.U, Pt.locs, Pt.cells, Pt.slots] at X17 l17 y17 z17 st17 hQ17
    subst l17 y17 z17
    obtain ⟨rfl, N17q, e17⟩ := hQ17
    have N17 := Fr.app N0 N17q
    refine OGot.go st17 ?_
    show OGot p.tables e below (T17.setTop (mkF m 12 #[.val (.int p1), .val (.int (0 : Int32)), .unset, .unset, .unset] [(.ref w_START_EVENT)])) _
    refine OGot.go (fun t k => XS.astoreN X17.here hx rfl (hb hby at_12) rfl rfl (l' := #[.val (.int p1), .val (.int (0 : Int32)), .val (.ref w_START_EVENT), .unset, .unset]) rfl k) ?_
    show OGot p.tables e below (T17.setTop (mkF m 13 #[.val (.int p1), .val (.int (0 : Int32)), .val (.ref w_START_EVENT), .unset, .unset] [])) _
    refine OGot.go (fun t k => XS.aloadN X17.here hx rfl (hb hby at_13) rfl rfl k) ?_
    show OGot p.tables e below (T17.setTop (mkF m 14 #[.val (.int p1), .val (.int (0 : Int32)), .val (.ref w_START_EVENT), .unset, .unset] [(.ref w_START_EVENT)])) _
    obtain ⟨cq18, kq18, q18a, q18b, q18c⟩ := isOf hZ e17 (G.2.1.ext O0.2)
    obtain ⟨_, _, ⟨T18, L18, k18, n18⟩, -, X18, ⟨Lc18, hQ18, l18, y18, z18⟩, st18⟩ := X17.virtualBack hx (y := (⟨"com/example/chorale/chorale/FlowGraph$Kind", "attaches", "()Z"⟩ : MethodName)) (z := (⟨"com/example/chorale/chorale/FlowGraph$Kind", "attaches", "()Z"⟩ : MethodName)) hown (mvT hZ (ow hw 8 rfl)) (mvT hZ (ow hw 9 rfl)) (notFace_of_selects (args := #[]) (mvT hZ (ow hw 11 rfl))) (mvT hZ (ow hw 11 rfl)) (mvT hZ (ow hw 10 rfl)) (by decide) (backOf (W := 0) (rm2 l Z a0 hw [] G  h0 n0 O0 ) hZ (ow hw 12 rfl) (ow hw 6 rfl) (by decide) (by decide)) q18a q18c (g := (mkF m 14 #[.val (.int p1), .val (.int (0 : Int32)), .val (.ref w_START_EVENT), .unset, .unset] [(.ref w_START_EVENT)])) rfl (by rw [hml]; rfl) (Steps.refl _) (argsL := []) (rest := []) (lenOf pd_1 rfl) rfl (by show 2 * 0 + _ ≤ _; exact Nat.le_of_eq rfl) (hb hby at_14) (fun _ _ => ⟨rfl, e17, (by decide : 0 + 0 ≤ _), (by decide : 0 + 0 ≤ _)⟩)
    dsimp only [Pt.U, Pt.locs, Pt.cells, Pt.slots] at X18 l18 y18 z18 st18 hQ18
    subst l18 y18 z18
    obtain ⟨rfl, N18q, e18⟩ := hQ18
    have N18 := Fr.app N17 N18q
    refine OGot.on st18 ?_
    show OGot p.tables e below (T18.setTop (mkF m 17 #[.val (.int p1), .val (.int (0 : Int32)), .val (.ref w_START_EVENT), .unset, .unset] [(.int (0 : Int32))])) _
    refine OGot.go (fun t k => XS.istoreN X18.here hx rfl (hb hby at_17) rfl (l' := #[.val (.int p1), .val (.int (0 : Int32)), .val (.ref w_START_EVENT), .val (.int (0 : Int32)), .unset]) rfl k) ?_
    show OGot p.tables e below (T18.setTop (mkF m 18 #[.val (.int p1), .val (.int (0 : Int32)), .val (.ref w_START_EVENT), .val (.int (0 : Int32)), .unset] [])) _
    refine OGot.go (fun t k => XS.iloadN X18.here hx rfl (hb hby at_18) rfl k) ?_
    show OGot p.tables e below (T18.setTop (mkF m 19 #[.val (.int p1), .val (.int (0 : Int32)), .val (.ref w_START_EVENT), .val (.int (0 : Int32)), .unset] [(.int (0 : Int32))])) _
    obtain ⟨_, _, ⟨T19, L19, k19, n19⟩, -, X19, ⟨Lc19, hQ19, l19, y19, z19⟩, st19⟩ := Jvm.LawKit.callS X18 hx (y := (⟨"com/example/chorale/chorale/KindAttachesPinLaw", "isBoundaryIndex", "(I)Z"⟩ : MethodName)) hown (mvT hZ (ow hw 17 rfl)) (mvT hZ (ow hw 18 rfl)) (mvT hZ (ow hw 3 rfl)) (mvT hZ (ow hw 19 rfl)) (by decide) (backOf (W := 0) (rm3 l Z a0 hw [] G  h0 n0 O0 ) hZ (ow hw 19 rfl) (ow hw 3 rfl) (by decide) (by decide)) (g := (mkF m 19 #[.val (.int p1), .val (.int (0 : Int32)), .val (.ref w_START_EVENT), .val (.int (0 : Int32)), .unset] [(.int (0 : Int32))])) rfl (by rw [hml]; rfl) (argsL := [(.int (0 : Int32))]) (rest := []) (lenOf pd_2 rfl) rfl (by show 2 * 0 + _ ≤ _; exact Nat.le_of_eq rfl) (hb hby at_19) (fun _ _ => ⟨rfl, e18, (by decide : 0 + 0 ≤ _), (by decide : 0 + 0 ≤ _)⟩)
    dsimp only [Pt.U, Pt.locs, Pt.cells, Pt.slots] at X19 l19 y19 z19 st19 hQ19
    subst l19 y19 z19
    obtain ⟨rfl, N19q, e19⟩ := hQ19
    have N19 := Fr.app N18 N19q
    refine OGot.go st19 ?_
    show OGot p.tables e below (T19.setTop (mkF m 22 #[.val (.int p1), .val (.int (0 : Int32)), .val (.ref w_START_EVENT), .val (.int (0 : Int32)), .unset] [(.int (0 : Int32))])) _
    refine OGot.go (fun t k => XS.istore X19.here hx rfl (hb hby at_22) rfl (l' := #[.val (.int p1), .val (.int (0 : Int32)), .val (.ref w_START_EVENT), .val (.int (0 : Int32)), .val (.int (0 : Int32))]) rfl k) ?_
    show OGot p.tables e below (T19.setTop (mkF m 24 #[.val (.int p1), .val (.int (0 : Int32)), .val (.ref w_START_EVENT), .val (.int (0 : Int32)), .val (.int (0 : Int32))] [])) _
    refine OGot.go (fun t k => XS.iloadN X19.here hx rfl (hb hby at_24) rfl k) ?_
    show OGot p.tables e below (T19.setTop (mkF m 25 #[.val (.int p1), .val (.int (0 : Int32)), .val (.ref w_START_EVENT), .val (.int (0 : Int32)), .val (.int (0 : Int32))] [(.int (0 : Int32))])) _
    refine OGot.go (fun t k => XS.iload X19.here hx rfl (hb hby at_25) rfl k) ?_
    show OGot p.tables e below (T19.setTop (mkF m 27 #[.val (.int p1), .val (.int (0 : Int32)), .val (.ref w_START_EVENT), .val (.int (0 : Int32)), .val (.int (0 : Int32))] [(.int (0 : Int32)), (.int (0 : Int32))])) _
    refine OGot.go (fun t k => XS.icmpYes X19.here hx rfl (pc0 := 27) (pc' := 32) rfl (hb hby at_27) rfl (by decide) (by decide) (by decide) k) ?_
    show OGot p.tables e below (T19.setTop (mkF m 32 #[.val (.int p1), .val (.int (0 : Int32)), .val (.ref w_START_EVENT), .val (.int (0 : Int32)), .val (.int (0 : Int32))] [])) _
    refine OGot.go (fun t k => XS.iloadN X19.here hx rfl (hb hby at_32) rfl k) ?_
    show OGot p.tables e below (T19.setTop (mkF m 33 #[.val (.int p1), .val (.int (0 : Int32)), .val (.ref w_START_EVENT), .val (.int (0 : Int32)), .val (.int (0 : Int32))] [(.int (0 : Int32))])) _
    refine OGot.go (fun t k => XS.ifYes X19.here hx rfl (pc0 := 33) (pc' := 45) rfl (hb hby at_33) rfl (by decide) (by decide) (by decide) k) ?_
    show OGot p.tables e below (T19.setTop (mkF m 45 #[.val (.int p1), .val (.int (0 : Int32)), .val (.ref w_START_EVENT), .val (.int (0 : Int32)), .val (.int (0 : Int32))] [])) _
    refine OGot.go (fun t k => XS.iconst X19.here hx rfl (hb hby at_45) k) ?_
    show OGot p.tables e below (T19.setTop (mkF m 46 #[.val (.int p1), .val (.int (0 : Int32)), .val (.ref w_START_EVENT), .val (.int (0 : Int32)), .val (.int (0 : Int32))] [(.int (1 : Int32))])) _
    obtain ⟨fs, hr, hrun, hended, hW, hsame⟩ := X19.leave (v := some (.int (1 : Int32))) (fun h => by rw [Bd.returns] at h; cases h)
    refine ⟨_, _, retN X19 hx (t := .boolean) Bd.returns (by simp) (hb hby at_46) hr, hrun, hended, _, _, rfl, ?_, ⟨_, rfl⟩, hW, hsame.mono (by decide) (by decide)⟩
    exact (⟨rfl, N19⟩ : Q0 Z w_START_EVENT w_BOUNDARY_EVENT w_MESSAGE_BOUNDARY_EVENT w_TERMINATE_END_EVENT w_LINK_THROW_EVENT w_LINK_CATCH_EVENT w_RECEPTION w_END_EVENT w_EVENT_BASED_GATEWAY w_INCLUSIVE_GATEWAY w_EXCLUSIVE_GATEWAY w_MESSAGE_START_EVENT w_SUB_PROCESS w_ACTIVITY w_PARALLEL_GATEWAY p1 h0 n0 _ T19.heap _)
  · rw [hk3]
    show OGot p.tables e below (s₁.setTop (mkF m 7 #[.val (.int p1), .unset, .unset, .unset, .unset] [(.int (1 : Int32))])) _
    refine OGot.go (fun t k => XS.istoreN X0.here hx rfl (hb hby at_7) rfl (l' := #[.val (.int p1), .val (.int (1 : Int32)), .unset, .unset, .unset]) rfl k) ?_
    show OGot p.tables e below (s₁.setTop (mkF m 8 #[.val (.int p1), .val (.int (1 : Int32)), .unset, .unset, .unset] [])) _
    refine OGot.go (fun t k => XS.iloadN X0.here hx rfl (hb hby at_8) rfl k) ?_
    show OGot p.tables e below (s₁.setTop (mkF m 9 #[.val (.int p1), .val (.int (1 : Int32)), .unset, .unset, .unset] [(.int (1 : Int32))])) _
    obtain ⟨_, _, ⟨T20, L20, k20, n20⟩, -, X20, ⟨Lc20, hQ20, l20, y20, z20⟩, st20⟩ := Jvm.LawKit.callS X0 hx (y := (⟨"com/example/chorale/chorale/KindAttachesPinLaw", "kindAt", "(I)Lcom/example/chorale/chorale/FlowGraph$Kind;"⟩ : MethodName)) hown (mvT hZ (ow hw 1 rfl)) (mvT hZ (ow hw 2 rfl)) (mvT hZ (ow hw 3 rfl)) (mvT hZ (ow hw 4 rfl)) (by decide) (backOf (W := 0) (rm1_1 l Z a0 hw [] G  h0 n0 O0 ) hZ (ow hw 4 rfl) (ow hw 3 rfl) (by decide) (by decide)) (g := (mkF m 9 #[.val (.int p1), .val (.int (1 : Int32)), .unset, .unset, .unset] [(.int (1 : Int32))])) rfl (by rw [hml]; rfl) (argsL := [(.int (1 : Int32))]) (rest := []) (lenOf pd_0 rfl) rfl (by show 2 * 0 + _ ≤ _; exact Nat.le_of_eq rfl) (hb hby at_9) (fun _ _ => ⟨rfl, e0, (by decide : 0 + 0 ≤ _), (by decide : 0 + 0 ≤ _)⟩)
    dsimp only [Pt.U, Pt.locs, Pt.cells, Pt.slots] at X20 l20 y20 z20 st20 hQ20
    subst l20 y20 z20
    obtain ⟨rfl, N20q, e20⟩ := hQ20
    have N20 := Fr.app N0 N20q
    refine OGot.go st20 ?_
    show OGot p.tables e below (T20.setTop (mkF m 12 #[.val (.int p1), .val (.int (1 : Int32)), .unset, .unset, .unset] [(.ref w_MESSAGE_START_EVENT)])) _
    refine OGot.go (fun t k => XS.astoreN X20.here hx rfl (hb hby at_12) rfl rfl (l' := #[.val (.int p1), .val (.int (1 : Int32)), .val (.ref w_MESSAGE_START_EVENT), .unset, .unset]) rfl k) ?_
    show OGot p.tables e below (T20.setTop (mkF m 13 #[.val (.int p1), .val (.int (1 : Int32)), .val (.ref w_MESSAGE_START_EVENT), .unset, .unset] [])) _
    refine OGot.go (fun t k => XS.aloadN X20.here hx rfl (hb hby at_13) rfl rfl k) ?_
    show OGot p.tables e below (T20.setTop (mkF m 14 #[.val (.int p1), .val (.int (1 : Int32)), .val (.ref w_MESSAGE_START_EVENT), .unset, .unset] [(.ref w_MESSAGE_START_EVENT)])) _
    obtain ⟨cq21, kq21, q21a, q21b, q21c⟩ := isOf hZ e20 (G.2.2.2.2.2.2.2.2.2.2.2.2.2.2.2.2.2.2.2.2.2.2.2.1.ext O0.2)
    obtain ⟨_, _, ⟨T21, L21, k21, n21⟩, -, X21, ⟨Lc21, hQ21, l21, y21, z21⟩, st21⟩ := X20.virtualBack hx (y := (⟨"com/example/chorale/chorale/FlowGraph$Kind", "attaches", "()Z"⟩ : MethodName)) (z := (⟨"com/example/chorale/chorale/FlowGraph$Kind", "attaches", "()Z"⟩ : MethodName)) hown (mvT hZ (ow hw 8 rfl)) (mvT hZ (ow hw 9 rfl)) (notFace_of_selects (args := #[]) (mvT hZ (ow hw 11 rfl))) (mvT hZ (ow hw 11 rfl)) (mvT hZ (ow hw 10 rfl)) (by decide) (backOf (W := 0) (rm2_1 l Z a0 hw [] G  h0 n0 O0 ) hZ (ow hw 12 rfl) (ow hw 6 rfl) (by decide) (by decide)) q21a q21c (g := (mkF m 14 #[.val (.int p1), .val (.int (1 : Int32)), .val (.ref w_MESSAGE_START_EVENT), .unset, .unset] [(.ref w_MESSAGE_START_EVENT)])) rfl (by rw [hml]; rfl) (Steps.refl _) (argsL := []) (rest := []) (lenOf pd_1 rfl) rfl (by show 2 * 0 + _ ≤ _; exact Nat.le_of_eq rfl) (hb hby at_14) (fun _ _ => ⟨rfl, e20, (by decide : 0 + 0 ≤ _), (by decide : 0 + 0 ≤ _)⟩)
    dsimp only [Pt.U, Pt.locs, Pt.cells, Pt.slots] at X21 l21 y21 z21 st21 hQ21
    subst l21 y21 z21
    obtain ⟨rfl, N21q, e21⟩ := hQ21
    have N21 := Fr.app N20 N21q
    refine OGot.on st21 ?_
    show OGot p.tables e below (T21.setTop (mkF m 17 #[.val (.int p1), .val (.int (1 : Int32)), .val (.ref w_MESSAGE_START_EVENT), .unset, .unset] [(.int (0 : Int32))])) _
    refine OGot.go (fun t k => XS.istoreN X21.here hx rfl (hb hby at_17) rfl (l' := #[.val (.int p1), .val (.int (1 : Int32)), .val (.ref w_MESSAGE_START_EVENT), .val (.int (0 : Int32)), .unset]) rfl k) ?_
    show OGot p.tables e below (T21.setTop (mkF m 18 #[.val (.int p1), .val (.int (1 : Int32)), .val (.ref w_MESSAGE_START_EVENT), .val (.int (0 : Int32)), .unset] [])) _
    refine OGot.go (fun t k => XS.iloadN X21.here hx rfl (hb hby at_18) rfl k) ?_
    show OGot p.tables e below (T21.setTop (mkF m 19 #[.val (.int p1), .val (.int (1 : Int32)), .val (.ref w_MESSAGE_START_EVENT), .val (.int (0 : Int32)), .unset] [(.int (1 : Int32))])) _
    obtain ⟨_, _, ⟨T22, L22, k22, n22⟩, -, X22, ⟨Lc22, hQ22, l22, y22, z22⟩, st22⟩ := Jvm.LawKit.callS X21 hx (y := (⟨"com/example/chorale/chorale/KindAttachesPinLaw", "isBoundaryIndex", "(I)Z"⟩ : MethodName)) hown (mvT hZ (ow hw 17 rfl)) (mvT hZ (ow hw 18 rfl)) (mvT hZ (ow hw 3 rfl)) (mvT hZ (ow hw 19 rfl)) (by decide) (backOf (W := 0) (rm3_1 l Z a0 hw [] G  h0 n0 O0 ) hZ (ow hw 19 rfl) (ow hw 3 rfl) (by decide) (by decide)) (g := (mkF m 19 #[.val (.int p1), .val (.int (1 : Int32)), .val (.ref w_MESSAGE_START_EVENT), .val (.int (0 : Int32)), .unset] [(.int (1 : Int32))])) rfl (by rw [hml]; rfl) (argsL := [(.int (1 : Int32))]) (rest := []) (lenOf pd_2 rfl) rfl (by show 2 * 0 + _ ≤ _; exact Nat.le_of_eq rfl) (hb hby at_19) (fun _ _ => ⟨rfl, e21, (by decide : 0 + 0 ≤ _), (by decide : 0 + 0 ≤ _)⟩)
    dsimp only [Pt.U, Pt.locs, Pt.cells, Pt.slots] at X22 l22 y22 z22 st22 hQ22
    subst l22 y22 z22
    obtain ⟨rfl, N22q, e22⟩ := hQ22
    have N22 := Fr.app N21 N22q
    refine OGot.go st22 ?_
    show OGot p.tables e below (T22.setTop (mkF m 22 #[.val (.int p1), .val (.int (1 : Int32)), .val (.ref w_MESSAGE_START_EVENT), .val (.int (0 : Int32)), .unset] [(.int (0 : Int32))])) _
    refine OGot.go (fun t k => XS.istore X22.here hx rfl (hb hby at_22) rfl (l' := #[.val (.int p1), .val (.int (1 : Int32)), .val (.ref w_MESSAGE_START_EVENT), .val (.int (0 : Int32)), .val (.int (0 : Int32))]) rfl k) ?_
    show OGot p.tables e below (T22.setTop (mkF m 24 #[.val (.int p1), .val (.int (1 : Int32)), .val (.ref w_MESSAGE_START_EVENT), .val (.int (0 : Int32)), .val (.int (0 : Int32))] [])) _
    refine OGot.go (fun t k => XS.iloadN X22.here hx rfl (hb hby at_24) rfl k) ?_
    show OGot p.tables e below (T22.setTop (mkF m 25 #[.val (.int p1), .val (.int (1 : Int32)), .val (.ref w_MESSAGE_START_EVENT), .val (.int (0 : Int32)), .val (.int (0 : Int32))] [(.int (0 : Int32))])) _
    refine OGot.go (fun t k => XS.iload X22.here hx rfl (hb hby at_25) rfl k) ?_
    show OGot p.tables e below (T22.setTop (mkF m 27 #[.val (.int p1), .val (.int (1 : Int32)), .val (.ref w_MESSAGE_START_EVENT), .val (.int (0 : Int32)), .val (.int (0 : Int32))] [(.int (0 : Int32)), (.int (0 : Int32))])) _
    refine OGot.go (fun t k => XS.icmpYes X22.here hx rfl (pc0 := 27) (pc' := 32) rfl (hb hby at_27) rfl (by decide) (by decide) (by decide) k) ?_
    show OGot p.tables e below (T22.setTop (mkF m 32 #[.val (.int p1), .val (.int (1 : Int32)), .val (.ref w_MESSAGE_START_EVENT), .val (.int (0 : Int32)), .val (.int (0 : Int32))] [])) _
    refine OGot.go (fun t k => XS.iloadN X22.here hx rfl (hb hby at_32) rfl k) ?_
    show OGot p.tables e below (T22.setTop (mkF m 33 #[.val (.int p1), .val (.int (1 : Int32)), .val (.ref w_MESSAGE_START_EVENT), .val (.int (0 : Int32)), .val (.int (0 : Int32))] [(.int (0 : Int32))])) _
    refine OGot.go (fun t k => XS.ifYes X22.here hx rfl (pc0 := 33) (pc' := 45) rfl (hb hby at_33) rfl (by decide) (by decide) (by decide) k) ?_
    show OGot p.tables e below (T22.setTop (mkF m 45 #[.val (.int p1), .val (.int (1 : Int32)), .val (.ref w_MESSAGE_START_EVENT), .val (.int (0 : Int32)), .val (.int (0 : Int32))] [])) _
    refine OGot.go (fun t k => XS.iconst X22.here hx rfl (hb hby at_45) k) ?_
    show OGot p.tables e below (T22.setTop (mkF m 46 #[.val (.int p1), .val (.int (1 : Int32)), .val (.ref w_MESSAGE_START_EVENT), .val (.int (0 : Int32)), .val (.int (0 : Int32))] [(.int (1 : Int32))])) _
    obtain ⟨fs, hr, hrun, hended, hW, hsame⟩ := X22.leave (v := some (.int (1 : Int32))) (fun h => by rw [Bd.returns] at h; cases h)
    refine ⟨_, _, retN X22 hx (t := .boolean) Bd.returns (by simp) (hb hby at_46) hr, hrun, hended, _, _, rfl, ?_, ⟨_, rfl⟩, hW, hsame.mono (by decide) (by decide)⟩
    exact (⟨rfl, N22⟩ : Q0 Z w_START_EVENT w_BOUNDARY_EVENT w_MESSAGE_BOUNDARY_EVENT w_TERMINATE_END_EVENT w_LINK_THROW_EVENT w_LINK_CATCH_EVENT w_RECEPTION w_END_EVENT w_EVENT_BASED_GATEWAY w_INCLUSIVE_GATEWAY w_EXCLUSIVE_GATEWAY w_MESSAGE_START_EVENT w_SUB_PROCESS w_ACTIVITY w_PARALLEL_GATEWAY p1 h0 n0 _ T22.heap _)
  · rw [hk4]
    show OGot p.tables e below (s₁.setTop (mkF m 7 #[.val (.int p1), .unset, .unset, .unset, .unset] [(.int (2 : Int32))])) _
    refine OGot.go (fun t k => XS.istoreN X0.here hx rfl (hb hby at_7) rfl (l' := #[.val (.int p1), .val (.int (2 : Int32)), .unset, .unset, .unset]) rfl k) ?_
    show OGot p.tables e below (s₁.setTop (mkF m 8 #[.val (.int p1), .val (.int (2 : Int32)), .unset, .unset, .unset] [])) _
    refine OGot.go (fun t k => XS.iloadN X0.here hx rfl (hb hby at_8) rfl k) ?_
    show OGot p.tables e below (s₁.setTop (mkF m 9 #[.val (.int p1), .val (.int (2 : Int32)), .unset, .unset, .unset] [(.int (2 : Int32))])) _
    obtain ⟨_, _, ⟨T23, L23, k23, n23⟩, -, X23, ⟨Lc23, hQ23, l23, y23, z23⟩, st23⟩ := Jvm.LawKit.callS X0 hx (y := (⟨"com/example/chorale/chorale/KindAttachesPinLaw", "kindAt", "(I)Lcom/example/chorale/chorale/FlowGraph$Kind;"⟩ : MethodName)) hown (mvT hZ (ow hw 1 rfl)) (mvT hZ (ow hw 2 rfl)) (mvT hZ (ow hw 3 rfl)) (mvT hZ (ow hw 4 rfl)) (by decide) (backOf (W := 0) (rm1_2 l Z a0 hw [] G  h0 n0 O0 ) hZ (ow hw 4 rfl) (ow hw 3 rfl) (by decide) (by decide)) (g := (mkF m 9 #[.val (.int p1), .val (.int (2 : Int32)), .unset, .unset, .unset] [(.int (2 : Int32))])) rfl (by rw [hml]; rfl) (argsL := [(.int (2 : Int32))]) (rest := []) (lenOf pd_0 rfl) rfl (by show 2 * 0 + _ ≤ _; exact Nat.le_of_eq rfl) (hb hby at_9) (fun _ _ => ⟨rfl, e0, (by decide : 0 + 0 ≤ _), (by decide : 0 + 0 ≤ _)⟩)
    dsimp only [Pt.U, Pt.locs, Pt.cells, Pt.slots] at X23 l23 y23 z23 st23 hQ23
    subst l23 y23 z23
    obtain ⟨rfl, N23q, e23⟩ := hQ23
    have N23 := Fr.app N0 N23q
    refine OGot.go st23 ?_
    show OGot p.tables e below (T23.setTop (mkF m 12 #[.val (.int p1), .val (.int (2 : Int32)), .unset, .unset, .unset] [(.ref w_END_EVENT)])) _
    refine OGot.go (fun t k => XS.astoreN X23.here hx rfl (hb hby at_12) rfl rfl (l' := #[.val (.int p1), .val (.int (2 : Int32)), .val (.ref w_END_EVENT), .unset, .unset]) rfl k) ?_
    show OGot p.tables e below (T23.setTop (mkF m 13 #[.val (.int p1), .val (.int (2 : Int32)), .val (.ref w_END_EVENT), .unset, .unset] [])) _
    refine OGot.go (fun t k => XS.aloadN X23.here hx rfl (hb hby at_13) rfl rfl k) ?_
    show OGot p.tables e below (T23.setTop (mkF m 14 #[.val (.int p1), .val (.int (2 : Int32)), .val (.ref w_END_EVENT), .unset, .unset] [(.ref w_END_EVENT)])) _
    obtain ⟨cq24, kq24, q24a, q24b, q24c⟩ := isOf hZ e23 (G.2.2.2.2.2.2.2.2.2.2.2.2.2.2.2.1.ext O0.2)
    obtain ⟨_, _, ⟨T24, L24, k24, n24⟩, -, X24, ⟨Lc24, hQ24, l24, y24, z24⟩, st24⟩ := X23.virtualBack hx (y := (⟨"com/example/chorale/chorale/FlowGraph$Kind", "attaches", "()Z"⟩ : MethodName)) (z := (⟨"com/example/chorale/chorale/FlowGraph$Kind", "attaches", "()Z"⟩ : MethodName)) hown (mvT hZ (ow hw 8 rfl)) (mvT hZ (ow hw 9 rfl)) (notFace_of_selects (args := #[]) (mvT hZ (ow hw 11 rfl))) (mvT hZ (ow hw 11 rfl)) (mvT hZ (ow hw 10 rfl)) (by decide) (backOf (W := 0) (rm2_2 l Z a0 hw [] G  h0 n0 O0 ) hZ (ow hw 12 rfl) (ow hw 6 rfl) (by decide) (by decide)) q24a q24c (g := (mkF m 14 #[.val (.int p1), .val (.int (2 : Int32)), .val (.ref w_END_EVENT), .unset, .unset] [(.ref w_END_EVENT)])) rfl (by rw [hml]; rfl) (Steps.refl _) (argsL := []) (rest := []) (lenOf pd_1 rfl) rfl (by show 2 * 0 + _ ≤ _; exact Nat.le_of_eq rfl) (hb hby at_14) (fun _ _ => ⟨rfl, e23, (by decide : 0 + 0 ≤ _), (by decide : 0 + 0 ≤ _)⟩)
    dsimp only [Pt.U, Pt.locs, Pt.cells, Pt.slots] at X24 l24 y24 z24 st24 hQ24
    subst l24 y24 z24
    obtain ⟨rfl, N24q, e24⟩ := hQ24
    have N24 := Fr.app N23 N24q
    refine OGot.on st24 ?_
    show OGot p.tables e below (T24.setTop (mkF m 17 #[.val (.int p1), .val (.int (2 : Int32)), .val (.ref w_END_EVENT), .unset, .unset] [(.int (0 : Int32))])) _
    refine OGot.go (fun t k => XS.istoreN X24.here hx rfl (hb hby at_17) rfl (l' := #[.val (.int p1), .val (.int (2 : Int32)), .val (.ref w_END_EVENT), .val (.int (0 : Int32)), .unset]) rfl k) ?_
    show OGot p.tables e below (T24.setTop (mkF m 18 #[.val (.int p1), .val (.int (2 : Int32)), .val (.ref w_END_EVENT), .val (.int (0 : Int32)), .unset] [])) _
    refine OGot.go (fun t k => XS.iloadN X24.here hx rfl (hb hby at_18) rfl k) ?_
    show OGot p.tables e below (T24.setTop (mkF m 19 #[.val (.int p1), .val (.int (2 : Int32)), .val (.ref w_END_EVENT), .val (.int (0 : Int32)), .unset] [(.int (2 : Int32))])) _
    obtain ⟨_, _, ⟨T25, L25, k25, n25⟩, -, X25, ⟨Lc25, hQ25, l25, y25, z25⟩, st25⟩ := Jvm.LawKit.callS X24 hx (y := (⟨"com/example/chorale/chorale/KindAttachesPinLaw", "isBoundaryIndex", "(I)Z"⟩ : MethodName)) hown (mvT hZ (ow hw 17 rfl)) (mvT hZ (ow hw 18 rfl)) (mvT hZ (ow hw 3 rfl)) (mvT hZ (ow hw 19 rfl)) (by decide) (backOf (W := 0) (rm3_2 l Z a0 hw [] G  h0 n0 O0 ) hZ (ow hw 19 rfl) (ow hw 3 rfl) (by decide) (by decide)) (g := (mkF m 19 #[.val (.int p1), .val (.int (2 : Int32)), .val (.ref w_END_EVENT), .val (.int (0 : Int32)), .unset] [(.int (2 : Int32))])) rfl (by rw [hml]; rfl) (argsL := [(.int (2 : Int32))]) (rest := []) (lenOf pd_2 rfl) rfl (by show 2 * 0 + _ ≤ _; exact Nat.le_of_eq rfl) (hb hby at_19) (fun _ _ => ⟨rfl, e24, (by decide : 0 + 0 ≤ _), (by decide : 0 + 0 ≤ _)⟩)
    dsimp only [Pt.U, Pt.locs, Pt.cells, Pt.slots] at X25 l25 y25 z25 st25 hQ25
    subst l25 y25 z25
    obtain ⟨rfl, N25q, e25⟩ := hQ25
    have N25 := Fr.app N24 N25q
    refine OGot.go st25 ?_
    show OGot p.tables e below (T25.setTop (mkF m 22 #[.val (.int p1), .val (.int (2 : Int32)), .val (.ref w_END_EVENT), .val (.int (0 : Int32)), .unset] [(.int (0 : Int32))])) _
    refine OGot.go (fun t k => XS.istore X25.here hx rfl (hb hby at_22) rfl (l' := #[.val (.int p1), .val (.int (2 : Int32)), .val (.ref w_END_EVENT), .val (.int (0 : Int32)), .val (.int (0 : Int32))]) rfl k) ?_
    show OGot p.tables e below (T25.setTop (mkF m 24 #[.val (.int p1), .val (.int (2 : Int32)), .val (.ref w_END_EVENT), .val (.int (0 : Int32)), .val (.int (0 : Int32))] [])) _
    refine OGot.go (fun t k => XS.iloadN X25.here hx rfl (hb hby at_24) rfl k) ?_
    show OGot p.tables e below (T25.setTop (mkF m 25 #[.val (.int p1), .val (.int (2 : Int32)), .val (.ref w_END_EVENT), .val (.int (0 : Int32)), .val (.int (0 : Int32))] [(.int (0 : Int32))])) _
    refine OGot.go (fun t k => XS.iload X25.here hx rfl (hb hby at_25) rfl k) ?_
    show OGot p.tables e below (T25.setTop (mkF m 27 #[.val (.int p1), .val (.int (2 : Int32)), .val (.ref w_END_EVENT), .val (.int (0 : Int32)), .val (.int (0 : Int32))] [(.int (0 : Int32)), (.int (0 : Int32))])) _
    refine OGot.go (fun t k => XS.icmpYes X25.here hx rfl (pc0 := 27) (pc' := 32) rfl (hb hby at_27) rfl (by decide) (by decide) (by decide) k) ?_
    show OGot p.tables e below (T25.setTop (mkF m 32 #[.val (.int p1), .val (.int (2 : Int32)), .val (.ref w_END_EVENT), .val (.int (0 : Int32)), .val (.int (0 : Int32))] [])) _
    refine OGot.go (fun t k => XS.iloadN X25.here hx rfl (hb hby at_32) rfl k) ?_
    show OGot p.tables e below (T25.setTop (mkF m 33 #[.val (.int p1), .val (.int (2 : Int32)), .val (.ref w_END_EVENT), .val (.int (0 : Int32)), .val (.int (0 : Int32))] [(.int (0 : Int32))])) _
    refine OGot.go (fun t k => XS.ifYes X25.here hx rfl (pc0 := 33) (pc' := 45) rfl (hb hby at_33) rfl (by decide) (by decide) (by decide) k) ?_
    show OGot p.tables e below (T25.setTop (mkF m 45 #[.val (.int p1), .val (.int (2 : Int32)), .val (.ref w_END_EVENT), .val (.int (0 : Int32)), .val (.int (0 : Int32))] [])) _
    refine OGot.go (fun t k => XS.iconst X25.here hx rfl (hb hby at_45) k) ?_
    show OGot p.tables e below (T25.setTop (mkF m 46 #[.val (.int p1), .val (.int (2 : Int32)), .val (.ref w_END_EVENT), .val (.int (0 : Int32)), .val (.int (0 : Int32))] [(.int (1 : Int32))])) _
    obtain ⟨fs, hr, hrun, hended, hW, hsame⟩ := X25.leave (v := some (.int (1 : Int32))) (fun h => by rw [Bd.returns] at h; cases h)
    refine ⟨_, _, retN X25 hx (t := .boolean) Bd.returns (by simp) (hb hby at_46) hr, hrun, hended, _, _, rfl, ?_, ⟨_, rfl⟩, hW, hsame.mono (by decide) (by decide)⟩
    exact (⟨rfl, N25⟩ : Q0 Z w_START_EVENT w_BOUNDARY_EVENT w_MESSAGE_BOUNDARY_EVENT w_TERMINATE_END_EVENT w_LINK_THROW_EVENT w_LINK_CATCH_EVENT w_RECEPTION w_END_EVENT w_EVENT_BASED_GATEWAY w_INCLUSIVE_GATEWAY w_EXCLUSIVE_GATEWAY w_MESSAGE_START_EVENT w_SUB_PROCESS w_ACTIVITY w_PARALLEL_GATEWAY p1 h0 n0 _ T25.heap _)
  · rw [hk5]
    show OGot p.tables e below (s₁.setTop (mkF m 7 #[.val (.int p1), .unset, .unset, .unset, .unset] [(.int (3 : Int32))])) _
    refine OGot.go (fun t k => XS.istoreN X0.here hx rfl (hb hby at_7) rfl (l' := #[.val (.int p1), .val (.int (3 : Int32)), .unset, .unset, .unset]) rfl k) ?_
    show OGot p.tables e below (s₁.setTop (mkF m 8 #[.val (.int p1), .val (.int (3 : Int32)), .unset, .unset, .unset] [])) _
    refine OGot.go (fun t k => XS.iloadN X0.here hx rfl (hb hby at_8) rfl k) ?_
    show OGot p.tables e below (s₁.setTop (mkF m 9 #[.val (.int p1), .val (.int (3 : Int32)), .unset, .unset, .unset] [(.int (3 : Int32))])) _
    obtain ⟨_, _, ⟨T26, L26, k26, n26⟩, -, X26, ⟨Lc26, hQ26, l26, y26, z26⟩, st26⟩ := Jvm.LawKit.callS X0 hx (y := (⟨"com/example/chorale/chorale/KindAttachesPinLaw", "kindAt", "(I)Lcom/example/chorale/chorale/FlowGraph$Kind;"⟩ : MethodName)) hown (mvT hZ (ow hw 1 rfl)) (mvT hZ (ow hw 2 rfl)) (mvT hZ (ow hw 3 rfl)) (mvT hZ (ow hw 4 rfl)) (by decide) (backOf (W := 0) (rm1_3 l Z a0 hw [] G  h0 n0 O0 ) hZ (ow hw 4 rfl) (ow hw 3 rfl) (by decide) (by decide)) (g := (mkF m 9 #[.val (.int p1), .val (.int (3 : Int32)), .unset, .unset, .unset] [(.int (3 : Int32))])) rfl (by rw [hml]; rfl) (argsL := [(.int (3 : Int32))]) (rest := []) (lenOf pd_0 rfl) rfl (by show 2 * 0 + _ ≤ _; exact Nat.le_of_eq rfl) (hb hby at_9) (fun _ _ => ⟨rfl, e0, (by decide : 0 + 0 ≤ _), (by decide : 0 + 0 ≤ _)⟩)
    dsimp only [Pt.U, Pt.locs, Pt.cells, Pt.slots] at X26 l26 y26 z26 st26 hQ26
    subst l26 y26 z26
    obtain ⟨rfl, N26q, e26⟩ := hQ26
    have N26 := Fr.app N0 N26q
    refine OGot.go st26 ?_
    show OGot p.tables e below (T26.setTop (mkF m 12 #[.val (.int p1), .val (.int (3 : Int32)), .unset, .unset, .unset] [(.ref w_TERMINATE_END_EVENT)])) _
    refine OGot.go (fun t k => XS.astoreN X26.here hx rfl (hb hby at_12) rfl rfl (l' := #[.val (.int p1), .val (.int (3 : Int32)), .val (.ref w_TERMINATE_END_EVENT), .unset, .unset]) rfl k) ?_
    show OGot p.tables e below (T26.setTop (mkF m 13 #[.val (.int p1), .val (.int (3 : Int32)), .val (.ref w_TERMINATE_END_EVENT), .unset, .unset] [])) _
    refine OGot.go (fun t k => XS.aloadN X26.here hx rfl (hb hby at_13) rfl rfl k) ?_
    show OGot p.tables e below (T26.setTop (mkF m 14 #[.val (.int p1), .val (.int (3 : Int32)), .val (.ref w_TERMINATE_END_EVENT), .unset, .unset] [(.ref w_TERMINATE_END_EVENT)])) _
    obtain ⟨cq27, kq27, q27a, q27b, q27c⟩ := isOf hZ e26 (G.2.2.2.2.2.2.2.1.ext O0.2)
    obtain ⟨_, _, ⟨T27, L27, k27, n27⟩, -, X27, ⟨Lc27, hQ27, l27, y27, z27⟩, st27⟩ := X26.virtualBack hx (y := (⟨"com/example/chorale/chorale/FlowGraph$Kind", "attaches", "()Z"⟩ : MethodName)) (z := (⟨"com/example/chorale/chorale/FlowGraph$Kind", "attaches", "()Z"⟩ : MethodName)) hown (mvT hZ (ow hw 8 rfl)) (mvT hZ (ow hw 9 rfl)) (notFace_of_selects (args := #[]) (mvT hZ (ow hw 11 rfl))) (mvT hZ (ow hw 11 rfl)) (mvT hZ (ow hw 10 rfl)) (by decide) (backOf (W := 0) (rm2_3 l Z a0 hw [] G  h0 n0 O0 ) hZ (ow hw 12 rfl) (ow hw 6 rfl) (by decide) (by decide)) q27a q27c (g := (mkF m 14 #[.val (.int p1), .val (.int (3 : Int32)), .val (.ref w_TERMINATE_END_EVENT), .unset, .unset] [(.ref w_TERMINATE_END_EVENT)])) rfl (by rw [hml]; rfl) (Steps.refl _) (argsL := []) (rest := []) (lenOf pd_1 rfl) rfl (by show 2 * 0 + _ ≤ _; exact Nat.le_of_eq rfl) (hb hby at_14) (fun _ _ => ⟨rfl, e26, (by decide : 0 + 0 ≤ _), (by decide : 0 + 0 ≤ _)⟩)
    dsimp only [Pt.U, Pt.locs, Pt.cells, Pt.slots] at X27 l27 y27 z27 st27 hQ27
    subst l27 y27 z27
    obtain ⟨rfl, N27q, e27⟩ := hQ27
    have N27 := Fr.app N26 N27q
    refine OGot.on st27 ?_
    show OGot p.tables e below (T27.setTop (mkF m 17 #[.val (.int p1), .val (.int (3 : Int32)), .val (.ref w_TERMINATE_END_EVENT), .unset, .unset] [(.int (0 : Int32))])) _
    refine OGot.go (fun t k => XS.istoreN X27.here hx rfl (hb hby at_17) rfl (l' := #[.val (.int p1), .val (.int (3 : Int32)), .val (.ref w_TERMINATE_END_EVENT), .val (.int (0 : Int32)), .unset]) rfl k) ?_
    show OGot p.tables e below (T27.setTop (mkF m 18 #[.val (.int p1), .val (.int (3 : Int32)), .val (.ref w_TERMINATE_END_EVENT), .val (.int (0 : Int32)), .unset] [])) _
    refine OGot.go (fun t k => XS.iloadN X27.here hx rfl (hb hby at_18) rfl k) ?_
    show OGot p.tables e below (T27.setTop (mkF m 19 #[.val (.int p1), .val (.int (3 : Int32)), .val (.ref w_TERMINATE_END_EVENT), .val (.int (0 : Int32)), .unset] [(.int (3 : Int32))])) _
    obtain ⟨_, _, ⟨T28, L28, k28, n28⟩, -, X28, ⟨Lc28, hQ28, l28, y28, z28⟩, st28⟩ := Jvm.LawKit.callS X27 hx (y := (⟨"com/example/chorale/chorale/KindAttachesPinLaw", "isBoundaryIndex", "(I)Z"⟩ : MethodName)) hown (mvT hZ (ow hw 17 rfl)) (mvT hZ (ow hw 18 rfl)) (mvT hZ (ow hw 3 rfl)) (mvT hZ (ow hw 19 rfl)) (by decide) (backOf (W := 0) (rm3_3 l Z a0 hw [] G  h0 n0 O0 ) hZ (ow hw 19 rfl) (ow hw 3 rfl) (by decide) (by decide)) (g := (mkF m 19 #[.val (.int p1), .val (.int (3 : Int32)), .val (.ref w_TERMINATE_END_EVENT), .val (.int (0 : Int32)), .unset] [(.int (3 : Int32))])) rfl (by rw [hml]; rfl) (argsL := [(.int (3 : Int32))]) (rest := []) (lenOf pd_2 rfl) rfl (by show 2 * 0 + _ ≤ _; exact Nat.le_of_eq rfl) (hb hby at_19) (fun _ _ => ⟨rfl, e27, (by decide : 0 + 0 ≤ _), (by decide : 0 + 0 ≤ _)⟩)
    dsimp only [Pt.U, Pt.locs, Pt.cells, Pt.slots] at X28 l28 y28 z28 st28 hQ28
    subst l28 y28 z28
    obtain ⟨rfl, N28q, e28⟩ := hQ28
    have N28 := Fr.app N27 N28q
    refine OGot.go st28 ?_
    show OGot p.tables e below (T28.setTop (mkF m 22 #[.val (.int p1), .val (.int (3 : Int32)), .val (.ref w_TERMINATE_END_EVENT), .val (.int (0 : Int32)), .unset] [(.int (0 : Int32))])) _
    refine OGot.go (fun t k => XS.istore X28.here hx rfl (hb hby at_22) rfl (l' := #[.val (.int p1), .val (.int (3 : Int32)), .val (.ref w_TERMINATE_END_EVENT), .val (.int (0 : Int32)), .val (.int (0 : Int32))]) rfl k) ?_
    show OGot p.tables e below (T28.setTop (mkF m 24 #[.val (.int p1), .val (.int (3 : Int32)), .val (.ref w_TERMINATE_END_EVENT), .val (.int (0 : Int32)), .val (.int (0 : Int32))] [])) _
    refine OGot.go (fun t k => XS.iloadN X28.here hx rfl (hb hby at_24) rfl k) ?_
    show OGot p.tables e below (T28.setTop (mkF m 25 #[.val (.int p1), .val (.int (3 : Int32)), .val (.ref w_TERMINATE_END_EVENT), .val (.int (0 : Int32)), .val (.int (0 : Int32))] [(.int (0 : Int32))])) _
    refine OGot.go (fun t k => XS.iload X28.here hx rfl (hb hby at_25) rfl k) ?_
    show OGot p.tables e below (T28.setTop (mkF m 27 #[.val (.int p1), .val (.int (3 : Int32)), .val (.ref w_TERMINATE_END_EVENT), .val (.int (0 : Int32)), .val (.int (0 : Int32))] [(.int (0 : Int32)), (.int (0 : Int32))])) _
    refine OGot.go (fun t k => XS.icmpYes X28.here hx rfl (pc0 := 27) (pc' := 32) rfl (hb hby at_27) rfl (by decide) (by decide) (by decide) k) ?_
    show OGot p.tables e below (T28.setTop (mkF m 32 #[.val (.int p1), .val (.int (3 : Int32)), .val (.ref w_TERMINATE_END_EVENT), .val (.int (0 : Int32)), .val (.int (0 : Int32))] [])) _
    refine OGot.go (fun t k => XS.iloadN X28.here hx rfl (hb hby at_32) rfl k) ?_
    show OGot p.tables e below (T28.setTop (mkF m 33 #[.val (.int p1), .val (.int (3 : Int32)), .val (.ref w_TERMINATE_END_EVENT), .val (.int (0 : Int32)), .val (.int (0 : Int32))] [(.int (0 : Int32))])) _
    refine OGot.go (fun t k => XS.ifYes X28.here hx rfl (pc0 := 33) (pc' := 45) rfl (hb hby at_33) rfl (by decide) (by decide) (by decide) k) ?_
    show OGot p.tables e below (T28.setTop (mkF m 45 #[.val (.int p1), .val (.int (3 : Int32)), .val (.ref w_TERMINATE_END_EVENT), .val (.int (0 : Int32)), .val (.int (0 : Int32))] [])) _
    refine OGot.go (fun t k => XS.iconst X28.here hx rfl (hb hby at_45) k) ?_
    show OGot p.tables e below (T28.setTop (mkF m 46 #[.val (.int p1), .val (.int (3 : Int32)), .val (.ref w_TERMINATE_END_EVENT), .val (.int (0 : Int32)), .val (.int (0 : Int32))] [(.int (1 : Int32))])) _
    obtain ⟨fs, hr, hrun, hended, hW, hsame⟩ := X28.leave (v := some (.int (1 : Int32))) (fun h => by rw [Bd.returns] at h; cases h)
    refine ⟨_, _, retN X28 hx (t := .boolean) Bd.returns (by simp) (hb hby at_46) hr, hrun, hended, _, _, rfl, ?_, ⟨_, rfl⟩, hW, hsame.mono (by decide) (by decide)⟩
    exact (⟨rfl, N28⟩ : Q0 Z w_START_EVENT w_BOUNDARY_EVENT w_MESSAGE_BOUNDARY_EVENT w_TERMINATE_END_EVENT w_LINK_THROW_EVENT w_LINK_CATCH_EVENT w_RECEPTION w_END_EVENT w_EVENT_BASED_GATEWAY w_INCLUSIVE_GATEWAY w_EXCLUSIVE_GATEWAY w_MESSAGE_START_EVENT w_SUB_PROCESS w_ACTIVITY w_PARALLEL_GATEWAY p1 h0 n0 _ T28.heap _)
  · rw [hk6]
    show OGot p.tables e below (s₁.setTop (mkF m 7 #[.val (.int p1), .unset, .unset, .unset, .unset] [(.int (4 : Int32))])) _
    refine OGot.go (fun t k => XS.istoreN X0.here hx rfl (hb hby at_7) rfl (l' := #[.val (.int p1), .val (.int (4 : Int32)), .unset, .unset, .unset]) rfl k) ?_
    show OGot p.tables e below (s₁.setTop (mkF m 8 #[.val (.int p1), .val (.int (4 : Int32)), .unset, .unset, .unset] [])) _
    refine OGot.go (fun t k => XS.iloadN X0.here hx rfl (hb hby at_8) rfl k) ?_
    show OGot p.tables e below (s₁.setTop (mkF m 9 #[.val (.int p1), .val (.int (4 : Int32)), .unset, .unset, .unset] [(.int (4 : Int32))])) _
    obtain ⟨_, _, ⟨T29, L29, k29, n29⟩, -, X29, ⟨Lc29, hQ29, l29, y29, z29⟩, st29⟩ := Jvm.LawKit.callS X0 hx (y := (⟨"com/example/chorale/chorale/KindAttachesPinLaw", "kindAt", "(I)Lcom/example/chorale/chorale/FlowGraph$Kind;"⟩ : MethodName)) hown (mvT hZ (ow hw 1 rfl)) (mvT hZ (ow hw 2 rfl)) (mvT hZ (ow hw 3 rfl)) (mvT hZ (ow hw 4 rfl)) (by decide) (backOf (W := 0) (rm1_4 l Z a0 hw [] G  h0 n0 O0 ) hZ (ow hw 4 rfl) (ow hw 3 rfl) (by decide) (by decide)) (g := (mkF m 9 #[.val (.int p1), .val (.int (4 : Int32)), .unset, .unset, .unset] [(.int (4 : Int32))])) rfl (by rw [hml]; rfl) (argsL := [(.int (4 : Int32))]) (rest := []) (lenOf pd_0 rfl) rfl (by show 2 * 0 + _ ≤ _; exact Nat.le_of_eq rfl) (hb hby at_9) (fun _ _ => ⟨rfl, e0, (by decide : 0 + 0 ≤ _), (by decide : 0 + 0 ≤ _)⟩)
    dsimp only [Pt.U, Pt.locs, Pt.cells, Pt.slots] at X29 l29 y29 z29 st29 hQ29
    subst l29 y29 z29
    obtain ⟨rfl, N29q, e29⟩ := hQ29
    have N29 := Fr.app N0 N29q
    refine OGot.go st29 ?_
    show OGot p.tables e below (T29.setTop (mkF m 12 #[.val (.int p1), .val (.int (4 : Int32)), .unset, .unset, .unset] [(.ref w_ACTIVITY)])) _
    refine OGot.go (fun t k => XS.astoreN X29.here hx rfl (hb hby at_12) rfl rfl (l' := #[.val (.int p1), .val (.int (4 : Int32)), .val (.ref w_ACTIVITY), .unset, .unset]) rfl k) ?_
    show OGot p.tables e below (T29.setTop (mkF m 13 #[.val (.int p1), .val (.int (4 : Int32)), .val (.ref w_ACTIVITY), .unset, .unset] [])) _
    refine OGot.go (fun t k => XS.aloadN X29.here hx rfl (hb hby at_13) rfl rfl k) ?_
    show OGot p.tables e below (T29.setTop (mkF m 14 #[.val (.int p1), .val (.int (4 : Int32)), .val (.ref w_ACTIVITY), .unset, .unset] [(.ref w_ACTIVITY)])) _
    obtain ⟨cq30, kq30, q30a, q30b, q30c⟩ := isOf hZ e29 (G.2.2.2.2.2.2.2.2.2.2.2.2.2.2.2.2.2.2.2.2.2.2.2.2.2.2.2.1.ext O0.2)
    obtain ⟨_, _, ⟨T30, L30, k30, n30⟩, -, X30, ⟨Lc30, hQ30, l30, y30, z30⟩, st30⟩ := X29.virtualBack hx (y := (⟨"com/example/chorale/chorale/FlowGraph$Kind", "attaches", "()Z"⟩ : MethodName)) (z := (⟨"com/example/chorale/chorale/FlowGraph$Kind", "attaches", "()Z"⟩ : MethodName)) hown (mvT hZ (ow hw 8 rfl)) (mvT hZ (ow hw 9 rfl)) (notFace_of_selects (args := #[]) (mvT hZ (ow hw 11 rfl))) (mvT hZ (ow hw 11 rfl)) (mvT hZ (ow hw 10 rfl)) (by decide) (backOf (W := 0) (rm2_4 l Z a0 hw [] G  h0 n0 O0 ) hZ (ow hw 12 rfl) (ow hw 6 rfl) (by decide) (by decide)) q30a q30c (g := (mkF m 14 #[.val (.int p1), .val (.int (4 : Int32)), .val (.ref w_ACTIVITY), .unset, .unset] [(.ref w_ACTIVITY)])) rfl (by rw [hml]; rfl) (Steps.refl _) (argsL := []) (rest := []) (lenOf pd_1 rfl) rfl (by show 2 * 0 + _ ≤ _; exact Nat.le_of_eq rfl) (hb hby at_14) (fun _ _ => ⟨rfl, e29, (by decide : 0 + 0 ≤ _), (by decide : 0 + 0 ≤ _)⟩)
    dsimp only [Pt.U, Pt.locs, Pt.cells, Pt.slots] at X30 l30 y30 z30 st30 hQ30
    subst l30 y30 z30
    obtain ⟨rfl, N30q, e30⟩ := hQ30
    have N30 := Fr.app N29 N30q
    refine OGot.on st30 ?_
    show OGot p.tables e below (T30.setTop (mkF m 17 #[.val (.int p1), .val (.int (4 : Int32)), .val (.ref w_ACTIVITY), .unset, .unset] [(.int (0 : Int32))])) _
    refine OGot.go (fun t k => XS.istoreN X30.here hx rfl (hb hby at_17) rfl (l' := #[.val (.int p1), .val (.int (4 : Int32)), .val (.ref w_ACTIVITY), .val (.int (0 : Int32)), .unset]) rfl k) ?_
    show OGot p.tables e below (T30.setTop (mkF m 18 #[.val (.int p1), .val (.int (4 : Int32)), .val (.ref w_ACTIVITY), .val (.int (0 : Int32)), .unset] [])) _
    refine OGot.go (fun t k => XS.iloadN X30.here hx rfl (hb hby at_18) rfl k) ?_
    show OGot p.tables e below (T30.setTop (mkF m 19 #[.val (.int p1), .val (.int (4 : Int32)), .val (.ref w_ACTIVITY), .val (.int (0 : Int32)), .unset] [(.int (4 : Int32))])) _
    obtain ⟨_, _, ⟨T31, L31, k31, n31⟩, -, X31, ⟨Lc31, hQ31, l31, y31, z31⟩, st31⟩ := Jvm.LawKit.callS X30 hx (y := (⟨"com/example/chorale/chorale/KindAttachesPinLaw", "isBoundaryIndex", "(I)Z"⟩ : MethodName)) hown (mvT hZ (ow hw 17 rfl)) (mvT hZ (ow hw 18 rfl)) (mvT hZ (ow hw 3 rfl)) (mvT hZ (ow hw 19 rfl)) (by decide) (backOf (W := 0) (rm3_4 l Z a0 hw [] G  h0 n0 O0 ) hZ (ow hw 19 rfl) (ow hw 3 rfl) (by decide) (by decide)) (g := (mkF m 19 #[.val (.int p1), .val (.int (4 : Int32)), .val (.ref w_ACTIVITY), .val (.int (0 : Int32)), .unset] [(.int (4 : Int32))])) rfl (by rw [hml]; rfl) (argsL := [(.int (4 : Int32))]) (rest := []) (lenOf pd_2 rfl) rfl (by show 2 * 0 + _ ≤ _; exact Nat.le_of_eq rfl) (hb hby at_19) (fun _ _ => ⟨rfl, e30, (by decide : 0 + 0 ≤ _), (by decide : 0 + 0 ≤ _)⟩)
    dsimp only [Pt.U, Pt.locs, Pt.cells, Pt.slots] at X31 l31 y31 z31 st31 hQ31
    subst l31 y31 z31
    obtain ⟨rfl, N31q, e31⟩ := hQ31
    have N31 := Fr.app N30 N31q
    refine OGot.go st31 ?_
    show OGot p.tables e below (T31.setTop (mkF m 22 #[.val (.int p1), .val (.int (4 : Int32)), .val (.ref w_ACTIVITY), .val (.int (0 : Int32)), .unset] [(.int (0 : Int32))])) _
    refine OGot.go (fun t k => XS.istore X31.here hx rfl (hb hby at_22) rfl (l' := #[.val (.int p1), .val (.int (4 : Int32)), .val (.ref w_ACTIVITY), .val (.int (0 : Int32)), .val (.int (0 : Int32))]) rfl k) ?_
    show OGot p.tables e below (T31.setTop (mkF m 24 #[.val (.int p1), .val (.int (4 : Int32)), .val (.ref w_ACTIVITY), .val (.int (0 : Int32)), .val (.int (0 : Int32))] [])) _
    refine OGot.go (fun t k => XS.iloadN X31.here hx rfl (hb hby at_24) rfl k) ?_
    show OGot p.tables e below (T31.setTop (mkF m 25 #[.val (.int p1), .val (.int (4 : Int32)), .val (.ref w_ACTIVITY), .val (.int (0 : Int32)), .val (.int (0 : Int32))] [(.int (0 : Int32))])) _
    refine OGot.go (fun t k => XS.iload X31.here hx rfl (hb hby at_25) rfl k) ?_
    show OGot p.tables e below (T31.setTop (mkF m 27 #[.val (.int p1), .val (.int (4 : Int32)), .val (.ref w_ACTIVITY), .val (.int (0 : Int32)), .val (.int (0 : Int32))] [(.int (0 : Int32)), (.int (0 : Int32))])) _
    refine OGot.go (fun t k => XS.icmpYes X31.here hx rfl (pc0 := 27) (pc' := 32) rfl (hb hby at_27) rfl (by decide) (by decide) (by decide) k) ?_
    show OGot p.tables e below (T31.setTop (mkF m 32 #[.val (.int p1), .val (.int (4 : Int32)), .val (.ref w_ACTIVITY), .val (.int (0 : Int32)), .val (.int (0 : Int32))] [])) _
    refine OGot.go (fun t k => XS.iloadN X31.here hx rfl (hb hby at_32) rfl k) ?_
    show OGot p.tables e below (T31.setTop (mkF m 33 #[.val (.int p1), .val (.int (4 : Int32)), .val (.ref w_ACTIVITY), .val (.int (0 : Int32)), .val (.int (0 : Int32))] [(.int (0 : Int32))])) _
    refine OGot.go (fun t k => XS.ifYes X31.here hx rfl (pc0 := 33) (pc' := 45) rfl (hb hby at_33) rfl (by decide) (by decide) (by decide) k) ?_
    show OGot p.tables e below (T31.setTop (mkF m 45 #[.val (.int p1), .val (.int (4 : Int32)), .val (.ref w_ACTIVITY), .val (.int (0 : Int32)), .val (.int (0 : Int32))] [])) _
    refine OGot.go (fun t k => XS.iconst X31.here hx rfl (hb hby at_45) k) ?_
    show OGot p.tables e below (T31.setTop (mkF m 46 #[.val (.int p1), .val (.int (4 : Int32)), .val (.ref w_ACTIVITY), .val (.int (0 : Int32)), .val (.int (0 : Int32))] [(.int (1 : Int32))])) _
    obtain ⟨fs, hr, hrun, hended, hW, hsame⟩ := X31.leave (v := some (.int (1 : Int32))) (fun h => by rw [Bd.returns] at h; cases h)
    refine ⟨_, _, retN X31 hx (t := .boolean) Bd.returns (by simp) (hb hby at_46) hr, hrun, hended, _, _, rfl, ?_, ⟨_, rfl⟩, hW, hsame.mono (by decide) (by decide)⟩
    exact (⟨rfl, N31⟩ : Q0 Z w_START_EVENT w_BOUNDARY_EVENT w_MESSAGE_BOUNDARY_EVENT w_TERMINATE_END_EVENT w_LINK_THROW_EVENT w_LINK_CATCH_EVENT w_RECEPTION w_END_EVENT w_EVENT_BASED_GATEWAY w_INCLUSIVE_GATEWAY w_EXCLUSIVE_GATEWAY w_MESSAGE_START_EVENT w_SUB_PROCESS w_ACTIVITY w_PARALLEL_GATEWAY p1 h0 n0 _ T31.heap _)
  · rw [hk7]
    show OGot p.tables e below (s₁.setTop (mkF m 7 #[.val (.int p1), .unset, .unset, .unset, .unset] [(.int (5 : Int32))])) _
    refine OGot.go (fun t k => XS.istoreN X0.here hx rfl (hb hby at_7) rfl (l' := #[.val (.int p1), .val (.int (5 : Int32)), .unset, .unset, .unset]) rfl k) ?_
    show OGot p.tables e below (s₁.setTop (mkF m 8 #[.val (.int p1), .val (.int (5 : Int32)), .unset, .unset, .unset] [])) _
    refine OGot.go (fun t k => XS.iloadN X0.here hx rfl (hb hby at_8) rfl k) ?_
    show OGot p.tables e below (s₁.setTop (mkF m 9 #[.val (.int p1), .val (.int (5 : Int32)), .unset, .unset, .unset] [(.int (5 : Int32))])) _
    obtain ⟨_, _, ⟨T32, L32, k32, n32⟩, -, X32, ⟨Lc32, hQ32, l32, y32, z32⟩, st32⟩ := Jvm.LawKit.callS X0 hx (y := (⟨"com/example/chorale/chorale/KindAttachesPinLaw", "kindAt", "(I)Lcom/example/chorale/chorale/FlowGraph$Kind;"⟩ : MethodName)) hown (mvT hZ (ow hw 1 rfl)) (mvT hZ (ow hw 2 rfl)) (mvT hZ (ow hw 3 rfl)) (mvT hZ (ow hw 4 rfl)) (by decide) (backOf (W := 0) (rm1_5 l Z a0 hw [] G  h0 n0 O0 ) hZ (ow hw 4 rfl) (ow hw 3 rfl) (by decide) (by decide)) (g := (mkF m 9 #[.val (.int p1), .val (.int (5 : Int32)), .unset, .unset, .unset] [(.int (5 : Int32))])) rfl (by rw [hml]; rfl) (argsL := [(.int (5 : Int32))]) (rest := []) (lenOf pd_0 rfl) rfl (by show 2 * 0 + _ ≤ _; exact Nat.le_of_eq rfl) (hb hby at_9) (fun _ _ => ⟨rfl, e0, (by decide : 0 + 0 ≤ _), (by decide : 0 + 0 ≤ _)⟩)
    dsimp only [Pt.U, Pt.locs, Pt.cells, Pt.slots] at X32 l32 y32 z32 st32 hQ32
    subst l32 y32 z32
    obtain ⟨rfl, N32q, e32⟩ := hQ32
    have N32 := Fr.app N0 N32q
    refine OGot.go st32 ?_
    show OGot p.tables e below (T32.setTop (mkF m 12 #[.val (.int p1), .val (.int (5 : Int32)), .unset, .unset, .unset] [(.ref w_LINK_THROW_EVENT)])) _
    refine OGot.go (fun t k => XS.astoreN X32.here hx rfl (hb hby at_12) rfl rfl (l' := #[.val (.int p1), .val (.int (5 : Int32)), .val (.ref w_LINK_THROW_EVENT), .unset, .unset]) rfl k) ?_
    show OGot p.tables e below (T32.setTop (mkF m 13 #[.val (.int p1), .val (.int (5 : Int32)), .val (.ref w_LINK_THROW_EVENT), .unset, .unset] [])) _
    refine OGot.go (fun t k => XS.aloadN X32.here hx rfl (hb hby at_13) rfl rfl k) ?_
    show OGot p.tables e below (T32.setTop (mkF m 14 #[.val (.int p1), .val (.int (5 : Int32)), .val (.ref w_LINK_THROW_EVENT), .unset, .unset] [(.ref w_LINK_THROW_EVENT)])) _
    obtain ⟨cq33, kq33, q33a, q33b, q33c⟩ := isOf hZ e32 (G.2.2.2.2.2.2.2.2.2.1.ext O0.2)
    obtain ⟨_, _, ⟨T33, L33, k33, n33⟩, -, X33, ⟨Lc33, hQ33, l33, y33, z33⟩, st33⟩ := X32.virtualBack hx (y := (⟨"com/example/chorale/chorale/FlowGraph$Kind", "attaches", "()Z"⟩ : MethodName)) (z := (⟨"com/example/chorale/chorale/FlowGraph$Kind", "attaches", "()Z"⟩ : MethodName)) hown (mvT hZ (ow hw 8 rfl)) (mvT hZ (ow hw 9 rfl)) (notFace_of_selects (args := #[]) (mvT hZ (ow hw 11 rfl))) (mvT hZ (ow hw 11 rfl)) (mvT hZ (ow hw 10 rfl)) (by decide) (backOf (W := 0) (rm2_5 l Z a0 hw [] G  h0 n0 O0 ) hZ (ow hw 12 rfl) (ow hw 6 rfl) (by decide) (by decide)) q33a q33c (g := (mkF m 14 #[.val (.int p1), .val (.int (5 : Int32)), .val (.ref w_LINK_THROW_EVENT), .unset, .unset] [(.ref w_LINK_THROW_EVENT)])) rfl (by rw [hml]; rfl) (Steps.refl _) (argsL := []) (rest := []) (lenOf pd_1 rfl) rfl (by show 2 * 0 + _ ≤ _; exact Nat.le_of_eq rfl) (hb hby at_14) (fun _ _ => ⟨rfl, e32, (by decide : 0 + 0 ≤ _), (by decide : 0 + 0 ≤ _)⟩)
    dsimp only [Pt.U, Pt.locs, Pt.cells, Pt.slots] at X33 l33 y33 z33 st33 hQ33
    subst l33 y33 z33
    obtain ⟨rfl, N33q, e33⟩ := hQ33
    have N33 := Fr.app N32 N33q
    refine OGot.on st33 ?_
    show OGot p.tables e below (T33.setTop (mkF m 17 #[.val (.int p1), .val (.int (5 : Int32)), .val (.ref w_LINK_THROW_EVENT), .unset, .unset] [(.int (0 : Int32))])) _
    refine OGot.go (fun t k => XS.istoreN X33.here hx rfl (hb hby at_17) rfl (l' := #[.val (.int p1), .val (.int (5 : Int32)), .val (.ref w_LINK_THROW_EVENT), .val (.int (0 : Int32)), .unset]) rfl k) ?_
    show OGot p.tables e below (T33.setTop (mkF m 18 #[.val (.int p1), .val (.int (5 : Int32)), .val (.ref w_LINK_THROW_EVENT), .val (.int (0 : Int32)), .unset] [])) _
    refine OGot.go (fun t k => XS.iloadN X33.here hx rfl (hb hby at_18) rfl k) ?_
    show OGot p.tables e below (T33.setTop (mkF m 19 #[.val (.int p1), .val (.int (5 : Int32)), .val (.ref w_LINK_THROW_EVENT), .val (.int (0 : Int32)), .unset] [(.int (5 : Int32))])) _
    obtain ⟨_, _, ⟨T34, L34, k34, n34⟩, -, X34, ⟨Lc34, hQ34, l34, y34, z34⟩, st34⟩ := Jvm.LawKit.callS X33 hx (y := (⟨"com/example/chorale/chorale/KindAttachesPinLaw", "isBoundaryIndex", "(I)Z"⟩ : MethodName)) hown (mvT hZ (ow hw 17 rfl)) (mvT hZ (ow hw 18 rfl)) (mvT hZ (ow hw 3 rfl)) (mvT hZ (ow hw 19 rfl)) (by decide) (backOf (W := 0) (rm3_5 l Z a0 hw [] G  h0 n0 O0 ) hZ (ow hw 19 rfl) (ow hw 3 rfl) (by decide) (by decide)) (g := (mkF m 19 #[.val (.int p1), .val (.int (5 : Int32)), .val (.ref w_LINK_THROW_EVENT), .val (.int (0 : Int32)), .unset] [(.int (5 : Int32))])) rfl (by rw [hml]; rfl) (argsL := [(.int (5 : Int32))]) (rest := []) (lenOf pd_2 rfl) rfl (by show 2 * 0 + _ ≤ _; exact Nat.le_of_eq rfl) (hb hby at_19) (fun _ _ => ⟨rfl, e33, (by decide : 0 + 0 ≤ _), (by decide : 0 + 0 ≤ _)⟩)
    dsimp only [Pt.U, Pt.locs, Pt.cells, Pt.slots] at X34 l34 y34 z34 st34 hQ34
    subst l34 y34 z34
    obtain ⟨rfl, N34q, e34⟩ := hQ34
    have N34 := Fr.app N33 N34q
    refine OGot.go st34 ?_
    show OGot p.tables e below (T34.setTop (mkF m 22 #[.val (.int p1), .val (.int (5 : Int32)), .val (.ref w_LINK_THROW_EVENT), .val (.int (0 : Int32)), .unset] [(.int (0 : Int32))])) _
    refine OGot.go (fun t k => XS.istore X34.here hx rfl (hb hby at_22) rfl (l' := #[.val (.int p1), .val (.int (5 : Int32)), .val (.ref w_LINK_THROW_EVENT), .val (.int (0 : Int32)), .val (.int (0 : Int32))]) rfl k) ?_
    show OGot p.tables e below (T34.setTop (mkF m 24 #[.val (.int p1), .val (.int (5 : Int32)), .val (.ref w_LINK_THROW_EVENT), .val (.int (0 : Int32)), .val (.int (0 : Int32))] [])) _
    refine OGot.go (fun t k => XS.iloadN X34.here hx rfl (hb hby at_24) rfl k) ?_
    show OGot p.tables e below (T34.setTop (mkF m 25 #[.val (.int p1), .val (.int (5 : Int32)), .val (.ref w_LINK_THROW_EVENT), .val (.int (0 : Int32)), .val (.int (0 : Int32))] [(.int (0 : Int32))])) _
    refine OGot.go (fun t k => XS.iload X34.here hx rfl (hb hby at_25) rfl k) ?_
    show OGot p.tables e below (T34.setTop (mkF m 27 #[.val (.int p1), .val (.int (5 : Int32)), .val (.ref w_LINK_THROW_EVENT), .val (.int (0 : Int32)), .val (.int (0 : Int32))] [(.int (0 : Int32)), (.int (0 : Int32))])) _
    refine OGot.go (fun t k => XS.icmpYes X34.here hx rfl (pc0 := 27) (pc' := 32) rfl (hb hby at_27) rfl (by decide) (by decide) (by decide) k) ?_
    show OGot p.tables e below (T34.setTop (mkF m 32 #[.val (.int p1), .val (.int (5 : Int32)), .val (.ref w_LINK_THROW_EVENT), .val (.int (0 : Int32)), .val (.int (0 : Int32))] [])) _
    refine OGot.go (fun t k => XS.iloadN X34.here hx rfl (hb hby at_32) rfl k) ?_
    show OGot p.tables e below (T34.setTop (mkF m 33 #[.val (.int p1), .val (.int (5 : Int32)), .val (.ref w_LINK_THROW_EVENT), .val (.int (0 : Int32)), .val (.int (0 : Int32))] [(.int (0 : Int32))])) _
    refine OGot.go (fun t k => XS.ifYes X34.here hx rfl (pc0 := 33) (pc' := 45) rfl (hb hby at_33) rfl (by decide) (by decide) (by decide) k) ?_
    show OGot p.tables e below (T34.setTop (mkF m 45 #[.val (.int p1), .val (.int (5 : Int32)), .val (.ref w_LINK_THROW_EVENT), .val (.int (0 : Int32)), .val (.int (0 : Int32))] [])) _
    refine OGot.go (fun t k => XS.iconst X34.here hx rfl (hb hby at_45) k) ?_
    show OGot p.tables e below (T34.setTop (mkF m 46 #[.val (.int p1), .val (.int (5 : Int32)), .val (.ref w_LINK_THROW_EVENT), .val (.int (0 : Int32)), .val (.int (0 : Int32))] [(.int (1 : Int32))])) _
    obtain ⟨fs, hr, hrun, hended, hW, hsame⟩ := X34.leave (v := some (.int (1 : Int32))) (fun h => by rw [Bd.returns] at h; cases h)
    refine ⟨_, _, retN X34 hx (t := .boolean) Bd.returns (by simp) (hb hby at_46) hr, hrun, hended, _, _, rfl, ?_, ⟨_, rfl⟩, hW, hsame.mono (by decide) (by decide)⟩
    exact (⟨rfl, N34⟩ : Q0 Z w_START_EVENT w_BOUNDARY_EVENT w_MESSAGE_BOUNDARY_EVENT w_TERMINATE_END_EVENT w_LINK_THROW_EVENT w_LINK_CATCH_EVENT w_RECEPTION w_END_EVENT w_EVENT_BASED_GATEWAY w_INCLUSIVE_GATEWAY w_EXCLUSIVE_GATEWAY w_MESSAGE_START_EVENT w_SUB_PROCESS w_ACTIVITY w_PARALLEL_GATEWAY p1 h0 n0 _ T34.heap _)
  · rw [hk8]
    show OGot p.tables e below (s₁.setTop (mkF m 7 #[.val (.int p1), .unset, .unset, .unset, .unset] [(.int (6 : Int32))])) _
    refine OGot.go (fun t k => XS.istoreN X0.here hx rfl (hb hby at_7) rfl (l' := #[.val (.int p1), .val (.int (6 : Int32)), .unset, .unset, .unset]) rfl k) ?_
    show OGot p.tables e below (s₁.setTop (mkF m 8 #[.val (.int p1), .val (.int (6 : Int32)), .unset, .unset, .unset] [])) _
    refine OGot.go (fun t k => XS.iloadN X0.here hx rfl (hb hby at_8) rfl k) ?_
    show OGot p.tables e below (s₁.setTop (mkF m 9 #[.val (.int p1), .val (.int (6 : Int32)), .unset, .unset, .unset] [(.int (6 : Int32))])) _
    obtain ⟨_, _, ⟨T35, L35, k35, n35⟩, -, X35, ⟨Lc35, hQ35, l35, y35, z35⟩, st35⟩ := Jvm.LawKit.callS X0 hx (y := (⟨"com/example/chorale/chorale/KindAttachesPinLaw", "kindAt", "(I)Lcom/example/chorale/chorale/FlowGraph$Kind;"⟩ : MethodName)) hown (mvT hZ (ow hw 1 rfl)) (mvT hZ (ow hw 2 rfl)) (mvT hZ (ow hw 3 rfl)) (mvT hZ (ow hw 4 rfl)) (by decide) (backOf (W := 0) (rm1_6 l Z a0 hw [] G  h0 n0 O0 ) hZ (ow hw 4 rfl) (ow hw 3 rfl) (by decide) (by decide)) (g := (mkF m 9 #[.val (.int p1), .val (.int (6 : Int32)), .unset, .unset, .unset] [(.int (6 : Int32))])) rfl (by rw [hml]; rfl) (argsL := [(.int (6 : Int32))]) (rest := []) (lenOf pd_0 rfl) rfl (by show 2 * 0 + _ ≤ _; exact Nat.le_of_eq rfl) (hb hby at_9) (fun _ _ => ⟨rfl, e0, (by decide : 0 + 0 ≤ _), (by decide : 0 + 0 ≤ _)⟩)
    dsimp only [Pt.U, Pt.locs, Pt.cells, Pt.slots] at X35 l35 y35 z35 st35 hQ35
    subst l35 y35 z35
    obtain ⟨rfl, N35q, e35⟩ := hQ35
    have N35 := Fr.app N0 N35q
    refine OGot.go st35 ?_
    show OGot p.tables e below (T35.setTop (mkF m 12 #[.val (.int p1), .val (.int (6 : Int32)), .unset, .unset, .unset] [(.ref w_LINK_CATCH_EVENT)])) _
    refine OGot.go (fun t k => XS.astoreN X35.here hx rfl (hb hby at_12) rfl rfl (l' := #[.val (.int p1), .val (.int (6 : Int32)), .val (.ref w_LINK_CATCH_EVENT), .unset, .unset]) rfl k) ?_
    show OGot p.tables e below (T35.setTop (mkF m 13 #[.val (.int p1), .val (.int (6 : Int32)), .val (.ref w_LINK_CATCH_EVENT), .unset, .unset] [])) _
    refine OGot.go (fun t k => XS.aloadN X35.here hx rfl (hb hby at_13) rfl rfl k) ?_
    show OGot p.tables e below (T35.setTop (mkF m 14 #[.val (.int p1), .val (.int (6 : Int32)), .val (.ref w_LINK_CATCH_EVENT), .unset, .unset] [(.ref w_LINK_CATCH_EVENT)])) _
    obtain ⟨cq36, kq36, q36a, q36b, q36c⟩ := isOf hZ e35 (G.2.2.2.2.2.2.2.2.2.2.2.1.ext O0.2)
    obtain ⟨_, _, ⟨T36, L36, k36, n36⟩, -, X36, ⟨Lc36, hQ36, l36, y36, z36⟩, st36⟩ := X35.virtualBack hx (y := (⟨"com/example/chorale/chorale/FlowGraph$Kind", "attaches", "()Z"⟩ : MethodName)) (z := (⟨"com/example/chorale/chorale/FlowGraph$Kind", "attaches", "()Z"⟩ : MethodName)) hown (mvT hZ (ow hw 8 rfl)) (mvT hZ (ow hw 9 rfl)) (notFace_of_selects (args := #[]) (mvT hZ (ow hw 11 rfl))) (mvT hZ (ow hw 11 rfl)) (mvT hZ (ow hw 10 rfl)) (by decide) (backOf (W := 0) (rm2_6 l Z a0 hw [] G  h0 n0 O0 ) hZ (ow hw 12 rfl) (ow hw 6 rfl) (by decide) (by decide)) q36a q36c (g := (mkF m 14 #[.val (.int p1), .val (.int (6 : Int32)), .val (.ref w_LINK_CATCH_EVENT), .unset, .unset] [(.ref w_LINK_CATCH_EVENT)])) rfl (by rw [hml]; rfl) (Steps.refl _) (argsL := []) (rest := []) (lenOf pd_1 rfl) rfl (by show 2 * 0 + _ ≤ _; exact Nat.le_of_eq rfl) (hb hby at_14) (fun _ _ => ⟨rfl, e35, (by decide : 0 + 0 ≤ _), (by decide : 0 + 0 ≤ _)⟩)
    dsimp only [Pt.U, Pt.locs, Pt.cells, Pt.slots] at X36 l36 y36 z36 st36 hQ36
    subst l36 y36 z36
    obtain ⟨rfl, N36q, e36⟩ := hQ36
    have N36 := Fr.app N35 N36q
    refine OGot.on st36 ?_
    show OGot p.tables e below (T36.setTop (mkF m 17 #[.val (.int p1), .val (.int (6 : Int32)), .val (.ref w_LINK_CATCH_EVENT), .unset, .unset] [(.int (0 : Int32))])) _
    refine OGot.go (fun t k => XS.istoreN X36.here hx rfl (hb hby at_17) rfl (l' := #[.val (.int p1), .val (.int (6 : Int32)), .val (.ref w_LINK_CATCH_EVENT), .val (.int (0 : Int32)), .unset]) rfl k) ?_
    show OGot p.tables e below (T36.setTop (mkF m 18 #[.val (.int p1), .val (.int (6 : Int32)), .val (.ref w_LINK_CATCH_EVENT), .val (.int (0 : Int32)), .unset] [])) _
    refine OGot.go (fun t k => XS.iloadN X36.here hx rfl (hb hby at_18) rfl k) ?_
    show OGot p.tables e below (T36.setTop (mkF m 19 #[.val (.int p1), .val (.int (6 : Int32)), .val (.ref w_LINK_CATCH_EVENT), .val (.int (0 : Int32)), .unset] [(.int (6 : Int32))])) _
    obtain ⟨_, _, ⟨T37, L37, k37, n37⟩, -, X37, ⟨Lc37, hQ37, l37, y37, z37⟩, st37⟩ := Jvm.LawKit.callS X36 hx (y := (⟨"com/example/chorale/chorale/KindAttachesPinLaw", "isBoundaryIndex", "(I)Z"⟩ : MethodName)) hown (mvT hZ (ow hw 17 rfl)) (mvT hZ (ow hw 18 rfl)) (mvT hZ (ow hw 3 rfl)) (mvT hZ (ow hw 19 rfl)) (by decide) (backOf (W := 0) (rm3_6 l Z a0 hw [] G  h0 n0 O0 ) hZ (ow hw 19 rfl) (ow hw 3 rfl) (by decide) (by decide)) (g := (mkF m 19 #[.val (.int p1), .val (.int (6 : Int32)), .val (.ref w_LINK_CATCH_EVENT), .val (.int (0 : Int32)), .unset] [(.int (6 : Int32))])) rfl (by rw [hml]; rfl) (argsL := [(.int (6 : Int32))]) (rest := []) (lenOf pd_2 rfl) rfl (by show 2 * 0 + _ ≤ _; exact Nat.le_of_eq rfl) (hb hby at_19) (fun _ _ => ⟨rfl, e36, (by decide : 0 + 0 ≤ _), (by decide : 0 + 0 ≤ _)⟩)
    dsimp only [Pt.U, Pt.locs, Pt.cells, Pt.slots] at X37 l37 y37 z37 st37 hQ37
    subst l37 y37 z37
    obtain ⟨rfl, N37q, e37⟩ := hQ37
    have N37 := Fr.app N36 N37q
    refine OGot.go st37 ?_
    show OGot p.tables e below (T37.setTop (mkF m 22 #[.val (.int p1), .val (.int (6 : Int32)), .val (.ref w_LINK_CATCH_EVENT), .val (.int (0 : Int32)), .unset] [(.int (0 : Int32))])) _
    refine OGot.go (fun t k => XS.istore X37.here hx rfl (hb hby at_22) rfl (l' := #[.val (.int p1), .val (.int (6 : Int32)), .val (.ref w_LINK_CATCH_EVENT), .val (.int (0 : Int32)), .val (.int (0 : Int32))]) rfl k) ?_
    show OGot p.tables e below (T37.setTop (mkF m 24 #[.val (.int p1), .val (.int (6 : Int32)), .val (.ref w_LINK_CATCH_EVENT), .val (.int (0 : Int32)), .val (.int (0 : Int32))] [])) _
    refine OGot.go (fun t k => XS.iloadN X37.here hx rfl (hb hby at_24) rfl k) ?_
    show OGot p.tables e below (T37.setTop (mkF m 25 #[.val (.int p1), .val (.int (6 : Int32)), .val (.ref w_LINK_CATCH_EVENT), .val (.int (0 : Int32)), .val (.int (0 : Int32))] [(.int (0 : Int32))])) _
    refine OGot.go (fun t k => XS.iload X37.here hx rfl (hb hby at_25) rfl k) ?_
    show OGot p.tables e below (T37.setTop (mkF m 27 #[.val (.int p1), .val (.int (6 : Int32)), .val (.ref w_LINK_CATCH_EVENT), .val (.int (0 : Int32)), .val (.int (0 : Int32))] [(.int (0 : Int32)), (.int (0 : Int32))])) _
    refine OGot.go (fun t k => XS.icmpYes X37.here hx rfl (pc0 := 27) (pc' := 32) rfl (hb hby at_27) rfl (by decide) (by decide) (by decide) k) ?_
    show OGot p.tables e below (T37.setTop (mkF m 32 #[.val (.int p1), .val (.int (6 : Int32)), .val (.ref w_LINK_CATCH_EVENT), .val (.int (0 : Int32)), .val (.int (0 : Int32))] [])) _
    refine OGot.go (fun t k => XS.iloadN X37.here hx rfl (hb hby at_32) rfl k) ?_
    show OGot p.tables e below (T37.setTop (mkF m 33 #[.val (.int p1), .val (.int (6 : Int32)), .val (.ref w_LINK_CATCH_EVENT), .val (.int (0 : Int32)), .val (.int (0 : Int32))] [(.int (0 : Int32))])) _
    refine OGot.go (fun t k => XS.ifYes X37.here hx rfl (pc0 := 33) (pc' := 45) rfl (hb hby at_33) rfl (by decide) (by decide) (by decide) k) ?_
    show OGot p.tables e below (T37.setTop (mkF m 45 #[.val (.int p1), .val (.int (6 : Int32)), .val (.ref w_LINK_CATCH_EVENT), .val (.int (0 : Int32)), .val (.int (0 : Int32))] [])) _
    refine OGot.go (fun t k => XS.iconst X37.here hx rfl (hb hby at_45) k) ?_
    show OGot p.tables e below (T37.setTop (mkF m 46 #[.val (.int p1), .val (.int (6 : Int32)), .val (.ref w_LINK_CATCH_EVENT), .val (.int (0 : Int32)), .val (.int (0 : Int32))] [(.int (1 : Int32))])) _
    obtain ⟨fs, hr, hrun, hended, hW, hsame⟩ := X37.leave (v := some (.int (1 : Int32))) (fun h => by rw [Bd.returns] at h; cases h)
    refine ⟨_, _, retN X37 hx (t := .boolean) Bd.returns (by simp) (hb hby at_46) hr, hrun, hended, _, _, rfl, ?_, ⟨_, rfl⟩, hW, hsame.mono (by decide) (by decide)⟩
    exact (⟨rfl, N37⟩ : Q0 Z w_START_EVENT w_BOUNDARY_EVENT w_MESSAGE_BOUNDARY_EVENT w_TERMINATE_END_EVENT w_LINK_THROW_EVENT w_LINK_CATCH_EVENT w_RECEPTION w_END_EVENT w_EVENT_BASED_GATEWAY w_INCLUSIVE_GATEWAY w_EXCLUSIVE_GATEWAY w_MESSAGE_START_EVENT w_SUB_PROCESS w_ACTIVITY w_PARALLEL_GATEWAY p1 h0 n0 _ T37.heap _)
  · rw [hk9]
    show OGot p.tables e below (s₁.setTop (mkF m 7 #[.val (.int p1), .unset, .unset, .unset, .unset] [(.int (7 : Int32))])) _
    refine OGot.go (fun t k => XS.istoreN X0.here hx rfl (hb hby at_7) rfl (l' := #[.val (.int p1), .val (.int (7 : Int32)), .unset, .unset, .unset]) rfl k) ?_
    show OGot p.tables e below (s₁.setTop (mkF m 8 #[.val (.int p1), .val (.int (7 : Int32)), .unset, .unset, .unset] [])) _
    refine OGot.go (fun t k => XS.iloadN X0.here hx rfl (hb hby at_8) rfl k) ?_
    show OGot p.tables e below (s₁.setTop (mkF m 9 #[.val (.int p1), .val (.int (7 : Int32)), .unset, .unset, .unset] [(.int (7 : Int32))])) _
    obtain ⟨_, _, ⟨T38, L38, k38, n38⟩, -, X38, ⟨Lc38, hQ38, l38, y38, z38⟩, st38⟩ := Jvm.LawKit.callS X0 hx (y := (⟨"com/example/chorale/chorale/KindAttachesPinLaw", "kindAt", "(I)Lcom/example/chorale/chorale/FlowGraph$Kind;"⟩ : MethodName)) hown (mvT hZ (ow hw 1 rfl)) (mvT hZ (ow hw 2 rfl)) (mvT hZ (ow hw 3 rfl)) (mvT hZ (ow hw 4 rfl)) (by decide) (backOf (W := 0) (rm1_7 l Z a0 hw [] G  h0 n0 O0 ) hZ (ow hw 4 rfl) (ow hw 3 rfl) (by decide) (by decide)) (g := (mkF m 9 #[.val (.int p1), .val (.int (7 : Int32)), .unset, .unset, .unset] [(.int (7 : Int32))])) rfl (by rw [hml]; rfl) (argsL := [(.int (7 : Int32))]) (rest := []) (lenOf pd_0 rfl) rfl (by show 2 * 0 + _ ≤ _; exact Nat.le_of_eq rfl) (hb hby at_9) (fun _ _ => ⟨rfl, e0, (by decide : 0 + 0 ≤ _), (by decide : 0 + 0 ≤ _)⟩)
    dsimp only [Pt.U, Pt.locs, Pt.cells, Pt.slots] at X38 l38 y38 z38 st38 hQ38
    subst l38 y38 z38
    obtain ⟨rfl, N38q, e38⟩ := hQ38
    have N38 := Fr.app N0 N38q
    refine OGot.go st38 ?_
    show OGot p.tables e below (T38.setTop (mkF m 12 #[.val (.int p1), .val (.int (7 : Int32)), .unset, .unset, .unset] [(.ref w_RECEPTION)])) _
    refine OGot.go (fun t k => XS.astoreN X38.here hx rfl (hb hby at_12) rfl rfl (l' := #[.val (.int p1), .val (.int (7 : Int32)), .val (.ref w_RECEPTION), .unset, .unset]) rfl k) ?_
    show OGot p.tables e below (T38.setTop (mkF m 13 #[.val (.int p1), .val (.int (7 : Int32)), .val (.ref w_RECEPTION), .unset, .unset] [])) _
    refine OGot.go (fun t k => XS.aloadN X38.here hx rfl (hb hby at_13) rfl rfl k) ?_
    show OGot p.tables e below (T38.setTop (mkF m 14 #[.val (.int p1), .val (.int (7 : Int32)), .val (.ref w_RECEPTION), .unset, .unset] [(.ref w_RECEPTION)])) _
    obtain ⟨cq39, kq39, q39a, q39b, q39c⟩ := isOf hZ e38 (G.2.2.2.2.2.2.2.2.2.2.2.2.2.1.ext O0.2)
    obtain ⟨_, _, ⟨T39, L39, k39, n39⟩, -, X39, ⟨Lc39, hQ39, l39, y39, z39⟩, st39⟩ := X38.virtualBack hx (y := (⟨"com/example/chorale/chorale/FlowGraph$Kind", "attaches", "()Z"⟩ : MethodName)) (z := (⟨"com/example/chorale/chorale/FlowGraph$Kind", "attaches", "()Z"⟩ : MethodName)) hown (mvT hZ (ow hw 8 rfl)) (mvT hZ (ow hw 9 rfl)) (notFace_of_selects (args := #[]) (mvT hZ (ow hw 11 rfl))) (mvT hZ (ow hw 11 rfl)) (mvT hZ (ow hw 10 rfl)) (by decide) (backOf (W := 0) (rm2_7 l Z a0 hw [] G  h0 n0 O0 ) hZ (ow hw 12 rfl) (ow hw 6 rfl) (by decide) (by decide)) q39a q39c (g := (mkF m 14 #[.val (.int p1), .val (.int (7 : Int32)), .val (.ref w_RECEPTION), .unset, .unset] [(.ref w_RECEPTION)])) rfl (by rw [hml]; rfl) (Steps.refl _) (argsL := []) (rest := []) (lenOf pd_1 rfl) rfl (by show 2 * 0 + _ ≤ _; exact Nat.le_of_eq rfl) (hb hby at_14) (fun _ _ => ⟨rfl, e38, (by decide : 0 + 0 ≤ _), (by decide : 0 + 0 ≤ _)⟩)
    dsimp only [Pt.U, Pt.locs, Pt.cells, Pt.slots] at X39 l39 y39 z39 st39 hQ39
    subst l39 y39 z39
    obtain ⟨rfl, N39q, e39⟩ := hQ39
    have N39 := Fr.app N38 N39q
    refine OGot.on st39 ?_
    show OGot p.tables e below (T39.setTop (mkF m 17 #[.val (.int p1), .val (.int (7 : Int32)), .val (.ref w_RECEPTION), .unset, .unset] [(.int (0 : Int32))])) _
    refine OGot.go (fun t k => XS.istoreN X39.here hx rfl (hb hby at_17) rfl (l' := #[.val (.int p1), .val (.int (7 : Int32)), .val (.ref w_RECEPTION), .val (.int (0 : Int32)), .unset]) rfl k) ?_
    show OGot p.tables e below (T39.setTop (mkF m 18 #[.val (.int p1), .val (.int (7 : Int32)), .val (.ref w_RECEPTION), .val (.int (0 : Int32)), .unset] [])) _
    refine OGot.go (fun t k => XS.iloadN X39.here hx rfl (hb hby at_18) rfl k) ?_
    show OGot p.tables e below (T39.setTop (mkF m 19 #[.val (.int p1), .val (.int (7 : Int32)), .val (.ref w_RECEPTION), .val (.int (0 : Int32)), .unset] [(.int (7 : Int32))])) _
    obtain ⟨_, _, ⟨T40, L40, k40, n40⟩, -, X40, ⟨Lc40, hQ40, l40, y40, z40⟩, st40⟩ := Jvm.LawKit.callS X39 hx (y := (⟨"com/example/chorale/chorale/KindAttachesPinLaw", "isBoundaryIndex", "(I)Z"⟩ : MethodName)) hown (mvT hZ (ow hw 17 rfl)) (mvT hZ (ow hw 18 rfl)) (mvT hZ (ow hw 3 rfl)) (mvT hZ (ow hw 19 rfl)) (by decide) (backOf (W := 0) (rm3_7 l Z a0 hw [] G  h0 n0 O0 ) hZ (ow hw 19 rfl) (ow hw 3 rfl) (by decide) (by decide)) (g := (mkF m 19 #[.val (.int p1), .val (.int (7 : Int32)), .val (.ref w_RECEPTION), .val (.int (0 : Int32)), .unset] [(.int (7 : Int32))])) rfl (by rw [hml]; rfl) (argsL := [(.int (7 : Int32))]) (rest := []) (lenOf pd_2 rfl) rfl (by show 2 * 0 + _ ≤ _; exact Nat.le_of_eq rfl) (hb hby at_19) (fun _ _ => ⟨rfl, e39, (by decide : 0 + 0 ≤ _), (by decide : 0 + 0 ≤ _)⟩)
    dsimp only [Pt.U, Pt.locs, Pt.cells, Pt.slots] at X40 l40 y40 z40 st40 hQ40
    subst l40 y40 z40
    obtain ⟨rfl, N40q, e40⟩ := hQ40
    have N40 := Fr.app N39 N40q
    refine OGot.go st40 ?_
    show OGot p.tables e below (T40.setTop (mkF m 22 #[.val (.int p1), .val (.int (7 : Int32)), .val (.ref w_RECEPTION), .val (.int (0 : Int32)), .unset] [(.int (0 : Int32))])) _
    refine OGot.go (fun t k => XS.istore X40.here hx rfl (hb hby at_22) rfl (l' := #[.val (.int p1), .val (.int (7 : Int32)), .val (.ref w_RECEPTION), .val (.int (0 : Int32)), .val (.int (0 : Int32))]) rfl k) ?_
    show OGot p.tables e below (T40.setTop (mkF m 24 #[.val (.int p1), .val (.int (7 : Int32)), .val (.ref w_RECEPTION), .val (.int (0 : Int32)), .val (.int (0 : Int32))] [])) _
    refine OGot.go (fun t k => XS.iloadN X40.here hx rfl (hb hby at_24) rfl k) ?_
    show OGot p.tables e below (T40.setTop (mkF m 25 #[.val (.int p1), .val (.int (7 : Int32)), .val (.ref w_RECEPTION), .val (.int (0 : Int32)), .val (.int (0 : Int32))] [(.int (0 : Int32))])) _
    refine OGot.go (fun t k => XS.iload X40.here hx rfl (hb hby at_25) rfl k) ?_
    show OGot p.tables e below (T40.setTop (mkF m 27 #[.val (.int p1), .val (.int (7 : Int32)), .val (.ref w_RECEPTION), .val (.int (0 : Int32)), .val (.int (0 : Int32))] [(.int (0 : Int32)), (.int (0 : Int32))])) _
    refine OGot.go (fun t k => XS.icmpYes X40.here hx rfl (pc0 := 27) (pc' := 32) rfl (hb hby at_27) rfl (by decide) (by decide) (by decide) k) ?_
    show OGot p.tables e below (T40.setTop (mkF m 32 #[.val (.int p1), .val (.int (7 : Int32)), .val (.ref w_RECEPTION), .val (.int (0 : Int32)), .val (.int (0 : Int32))] [])) _
    refine OGot.go (fun t k => XS.iloadN X40.here hx rfl (hb hby at_32) rfl k) ?_
    show OGot p.tables e below (T40.setTop (mkF m 33 #[.val (.int p1), .val (.int (7 : Int32)), .val (.ref w_RECEPTION), .val (.int (0 : Int32)), .val (.int (0 : Int32))] [(.int (0 : Int32))])) _
    refine OGot.go (fun t k => XS.ifYes X40.here hx rfl (pc0 := 33) (pc' := 45) rfl (hb hby at_33) rfl (by decide) (by decide) (by decide) k) ?_
    show OGot p.tables e below (T40.setTop (mkF m 45 #[.val (.int p1), .val (.int (7 : Int32)), .val (.ref w_RECEPTION), .val (.int (0 : Int32)), .val (.int (0 : Int32))] [])) _
    refine OGot.go (fun t k => XS.iconst X40.here hx rfl (hb hby at_45) k) ?_
    show OGot p.tables e below (T40.setTop (mkF m 46 #[.val (.int p1), .val (.int (7 : Int32)), .val (.ref w_RECEPTION), .val (.int (0 : Int32)), .val (.int (0 : Int32))] [(.int (1 : Int32))])) _
    obtain ⟨fs, hr, hrun, hended, hW, hsame⟩ := X40.leave (v := some (.int (1 : Int32))) (fun h => by rw [Bd.returns] at h; cases h)
    refine ⟨_, _, retN X40 hx (t := .boolean) Bd.returns (by simp) (hb hby at_46) hr, hrun, hended, _, _, rfl, ?_, ⟨_, rfl⟩, hW, hsame.mono (by decide) (by decide)⟩
    exact (⟨rfl, N40⟩ : Q0 Z w_START_EVENT w_BOUNDARY_EVENT w_MESSAGE_BOUNDARY_EVENT w_TERMINATE_END_EVENT w_LINK_THROW_EVENT w_LINK_CATCH_EVENT w_RECEPTION w_END_EVENT w_EVENT_BASED_GATEWAY w_INCLUSIVE_GATEWAY w_EXCLUSIVE_GATEWAY w_MESSAGE_START_EVENT w_SUB_PROCESS w_ACTIVITY w_PARALLEL_GATEWAY p1 h0 n0 _ T40.heap _)
  · rw [hk10]
    show OGot p.tables e below (s₁.setTop (mkF m 7 #[.val (.int p1), .unset, .unset, .unset, .unset] [(.int (8 : Int32))])) _
    refine OGot.go (fun t k => XS.istoreN X0.here hx rfl (hb hby at_7) rfl (l' := #[.val (.int p1), .val (.int (8 : Int32)), .unset, .unset, .unset]) rfl k) ?_
    show OGot p.tables e below (s₁.setTop (mkF m 8 #[.val (.int p1), .val (.int (8 : Int32)), .unset, .unset, .unset] [])) _
    refine OGot.go (fun t k => XS.iloadN X0.here hx rfl (hb hby at_8) rfl k) ?_
    show OGot p.tables e below (s₁.setTop (mkF m 9 #[.val (.int p1), .val (.int (8 : Int32)), .unset, .unset, .unset] [(.int (8 : Int32))])) _
    obtain ⟨_, _, ⟨T41, L41, k41, n41⟩, -, X41, ⟨Lc41, hQ41, l41, y41, z41⟩, st41⟩ := Jvm.LawKit.callS X0 hx (y := (⟨"com/example/chorale/chorale/KindAttachesPinLaw", "kindAt", "(I)Lcom/example/chorale/chorale/FlowGraph$Kind;"⟩ : MethodName)) hown (mvT hZ (ow hw 1 rfl)) (mvT hZ (ow hw 2 rfl)) (mvT hZ (ow hw 3 rfl)) (mvT hZ (ow hw 4 rfl)) (by decide) (backOf (W := 0) (rm1_8 l Z a0 hw [] G  h0 n0 O0 ) hZ (ow hw 4 rfl) (ow hw 3 rfl) (by decide) (by decide)) (g := (mkF m 9 #[.val (.int p1), .val (.int (8 : Int32)), .unset, .unset, .unset] [(.int (8 : Int32))])) rfl (by rw [hml]; rfl) (argsL := [(.int (8 : Int32))]) (rest := []) (lenOf pd_0 rfl) rfl (by show 2 * 0 + _ ≤ _; exact Nat.le_of_eq rfl) (hb hby at_9) (fun _ _ => ⟨rfl, e0, (by decide : 0 + 0 ≤ _), (by decide : 0 + 0 ≤ _)⟩)
    dsimp only [Pt.U, Pt.locs, Pt.cells, Pt.slots] at X41 l41 y41 z41 st41 hQ41
    subst l41 y41 z41
    obtain ⟨rfl, N41q, e41⟩ := hQ41
    have N41 := Fr.app N0 N41q
    refine OGot.go st41 ?_
    show OGot p.tables e below (T41.setTop (mkF m 12 #[.val (.int p1), .val (.int (8 : Int32)), .unset, .unset, .unset] [(.ref w_EXCLUSIVE_GATEWAY)])) _
    refine OGot.go (fun t k => XS.astoreN X41.here hx rfl (hb hby at_12) rfl rfl (l' := #[.val (.int p1), .val (.int (8 : Int32)), .val (.ref w_EXCLUSIVE_GATEWAY), .unset, .unset]) rfl k) ?_
    show OGot p.tables e below (T41.setTop (mkF m 13 #[.val (.int p1), .val (.int (8 : Int32)), .val (.ref w_EXCLUSIVE_GATEWAY), .unset, .unset] [])) _
    refine OGot.go (fun t k => XS.aloadN X41.here hx rfl (hb hby at_13) rfl rfl k) ?_
    show OGot p.tables e below (T41.setTop (mkF m 14 #[.val (.int p1), .val (.int (8 : Int32)), .val (.ref w_EXCLUSIVE_GATEWAY), .unset, .unset] [(.ref w_EXCLUSIVE_GATEWAY)])) _
    obtain ⟨cq42, kq42, q42a, q42b, q42c⟩ := isOf hZ e41 (G.2.2.2.2.2.2.2.2.2.2.2.2.2.2.2.2.2.2.2.2.2.1.ext O0.2)
    obtain ⟨_, _, ⟨T42, L42, k42, n42⟩, -, X42, ⟨Lc42, hQ42, l42, y42, z42⟩, st42⟩ := X41.virtualBack hx (y := (⟨"com/example/chorale/chorale/FlowGraph$Kind", "attaches", "()Z"⟩ : MethodName)) (z := (⟨"com/example/chorale/chorale/FlowGraph$Kind", "attaches", "()Z"⟩ : MethodName)) hown (mvT hZ (ow hw 8 rfl)) (mvT hZ (ow hw 9 rfl)) (notFace_of_selects (args := #[]) (mvT hZ (ow hw 11 rfl))) (mvT hZ (ow hw 11 rfl)) (mvT hZ (ow hw 10 rfl)) (by decide) (backOf (W := 0) (rm2_8 l Z a0 hw [] G  h0 n0 O0 ) hZ (ow hw 12 rfl) (ow hw 6 rfl) (by decide) (by decide)) q42a q42c (g := (mkF m 14 #[.val (.int p1), .val (.int (8 : Int32)), .val (.ref w_EXCLUSIVE_GATEWAY), .unset, .unset] [(.ref w_EXCLUSIVE_GATEWAY)])) rfl (by rw [hml]; rfl) (Steps.refl _) (argsL := []) (rest := []) (lenOf pd_1 rfl) rfl (by show 2 * 0 + _ ≤ _; exact Nat.le_of_eq rfl) (hb hby at_14) (fun _ _ => ⟨rfl, e41, (by decide : 0 + 0 ≤ _), (by decide : 0 + 0 ≤ _)⟩)
    dsimp only [Pt.U, Pt.locs, Pt.cells, Pt.slots] at X42 l42 y42 z42 st42 hQ42
    subst l42 y42 z42
    obtain ⟨rfl, N42q, e42⟩ := hQ42
    have N42 := Fr.app N41 N42q
    refine OGot.on st42 ?_
    show OGot p.tables e below (T42.setTop (mkF m 17 #[.val (.int p1), .val (.int (8 : Int32)), .val (.ref w_EXCLUSIVE_GATEWAY), .unset, .unset] [(.int (0 : Int32))])) _
    refine OGot.go (fun t k => XS.istoreN X42.here hx rfl (hb hby at_17) rfl (l' := #[.val (.int p1), .val (.int (8 : Int32)), .val (.ref w_EXCLUSIVE_GATEWAY), .val (.int (0 : Int32)), .unset]) rfl k) ?_
    show OGot p.tables e below (T42.setTop (mkF m 18 #[.val (.int p1), .val (.int (8 : Int32)), .val (.ref w_EXCLUSIVE_GATEWAY), .val (.int (0 : Int32)), .unset] [])) _
    refine OGot.go (fun t k => XS.iloadN X42.here hx rfl (hb hby at_18) rfl k) ?_
    show OGot p.tables e below (T42.setTop (mkF m 19 #[.val (.int p1), .val (.int (8 : Int32)), .val (.ref w_EXCLUSIVE_GATEWAY), .val (.int (0 : Int32)), .unset] [(.int (8 : Int32))])) _
    obtain ⟨_, _, ⟨T43, L43, k43, n43⟩, -, X43, ⟨Lc43, hQ43, l43, y43, z43⟩, st43⟩ := Jvm.LawKit.callS X42 hx (y := (⟨"com/example/chorale/chorale/KindAttachesPinLaw", "isBoundaryIndex", "(I)Z"⟩ : MethodName)) hown (mvT hZ (ow hw 17 rfl)) (mvT hZ (ow hw 18 rfl)) (mvT hZ (ow hw 3 rfl)) (mvT hZ (ow hw 19 rfl)) (by decide) (backOf (W := 0) (rm3_8 l Z a0 hw [] G  h0 n0 O0 ) hZ (ow hw 19 rfl) (ow hw 3 rfl) (by decide) (by decide)) (g := (mkF m 19 #[.val (.int p1), .val (.int (8 : Int32)), .val (.ref w_EXCLUSIVE_GATEWAY), .val (.int (0 : Int32)), .unset] [(.int (8 : Int32))])) rfl (by rw [hml]; rfl) (argsL := [(.int (8 : Int32))]) (rest := []) (lenOf pd_2 rfl) rfl (by show 2 * 0 + _ ≤ _; exact Nat.le_of_eq rfl) (hb hby at_19) (fun _ _ => ⟨rfl, e42, (by decide : 0 + 0 ≤ _), (by decide : 0 + 0 ≤ _)⟩)
    dsimp only [Pt.U, Pt.locs, Pt.cells, Pt.slots] at X43 l43 y43 z43 st43 hQ43
    subst l43 y43 z43
    obtain ⟨rfl, N43q, e43⟩ := hQ43
    have N43 := Fr.app N42 N43q
    refine OGot.go st43 ?_
    show OGot p.tables e below (T43.setTop (mkF m 22 #[.val (.int p1), .val (.int (8 : Int32)), .val (.ref w_EXCLUSIVE_GATEWAY), .val (.int (0 : Int32)), .unset] [(.int (0 : Int32))])) _
    refine OGot.go (fun t k => XS.istore X43.here hx rfl (hb hby at_22) rfl (l' := #[.val (.int p1), .val (.int (8 : Int32)), .val (.ref w_EXCLUSIVE_GATEWAY), .val (.int (0 : Int32)), .val (.int (0 : Int32))]) rfl k) ?_
    show OGot p.tables e below (T43.setTop (mkF m 24 #[.val (.int p1), .val (.int (8 : Int32)), .val (.ref w_EXCLUSIVE_GATEWAY), .val (.int (0 : Int32)), .val (.int (0 : Int32))] [])) _
    refine OGot.go (fun t k => XS.iloadN X43.here hx rfl (hb hby at_24) rfl k) ?_
    show OGot p.tables e below (T43.setTop (mkF m 25 #[.val (.int p1), .val (.int (8 : Int32)), .val (.ref w_EXCLUSIVE_GATEWAY), .val (.int (0 : Int32)), .val (.int (0 : Int32))] [(.int (0 : Int32))])) _
    refine OGot.go (fun t k => XS.iload X43.here hx rfl (hb hby at_25) rfl k) ?_
    show OGot p.tables e below (T43.setTop (mkF m 27 #[.val (.int p1), .val (.int (8 : Int32)), .val (.ref w_EXCLUSIVE_GATEWAY), .val (.int (0 : Int32)), .val (.int (0 : Int32))] [(.int (0 : Int32)), (.int (0 : Int32))])) _
    refine OGot.go (fun t k => XS.icmpYes X43.here hx rfl (pc0 := 27) (pc' := 32) rfl (hb hby at_27) rfl (by decide) (by decide) (by decide) k) ?_
    show OGot p.tables e below (T43.setTop (mkF m 32 #[.val (.int p1), .val (.int (8 : Int32)), .val (.ref w_EXCLUSIVE_GATEWAY), .val (.int (0 : Int32)), .val (.int (0 : Int32))] [])) _
    refine OGot.go (fun t k => XS.iloadN X43.here hx rfl (hb hby at_32) rfl k) ?_
    show OGot p.tables e below (T43.setTop (mkF m 33 #[.val (.int p1), .val (.int (8 : Int32)), .val (.ref w_EXCLUSIVE_GATEWAY), .val (.int (0 : Int32)), .val (.int (0 : Int32))] [(.int (0 : Int32))])) _
    refine OGot.go (fun t k => XS.ifYes X43.here hx rfl (pc0 := 33) (pc' := 45) rfl (hb hby at_33) rfl (by decide) (by decide) (by decide) k) ?_
    show OGot p.tables e below (T43.setTop (mkF m 45 #[.val (.int p1), .val (.int (8 : Int32)), .val (.ref w_EXCLUSIVE_GATEWAY), .val (.int (0 : Int32)), .val (.int (0 : Int32))] [])) _
    refine OGot.go (fun t k => XS.iconst X43.here hx rfl (hb hby at_45) k) ?_
    show OGot p.tables e below (T43.setTop (mkF m 46 #[.val (.int p1), .val (.int (8 : Int32)), .val (.ref w_EXCLUSIVE_GATEWAY), .val (.int (0 : Int32)), .val (.int (0 : Int32))] [(.int (1 : Int32))])) _
    obtain ⟨fs, hr, hrun, hended, hW, hsame⟩ := X43.leave (v := some (.int (1 : Int32))) (fun h => by rw [Bd.returns] at h; cases h)
    refine ⟨_, _, retN X43 hx (t := .boolean) Bd.returns (by simp) (hb hby at_46) hr, hrun, hended, _, _, rfl, ?_, ⟨_, rfl⟩, hW, hsame.mono (by decide) (by decide)⟩
    exact (⟨rfl, N43⟩ : Q0 Z w_START_EVENT w_BOUNDARY_EVENT w_MESSAGE_BOUNDARY_EVENT w_TERMINATE_END_EVENT w_LINK_THROW_EVENT w_LINK_CATCH_EVENT w_RECEPTION w_END_EVENT w_EVENT_BASED_GATEWAY w_INCLUSIVE_GATEWAY w_EXCLUSIVE_GATEWAY w_MESSAGE_START_EVENT w_SUB_PROCESS w_ACTIVITY w_PARALLEL_GATEWAY p1 h0 n0 _ T43.heap _)
  · rw [hk11]
    show OGot p.tables e below (s₁.setTop (mkF m 7 #[.val (.int p1), .unset, .unset, .unset, .unset] [(.int (9 : Int32))])) _
    refine OGot.go (fun t k => XS.istoreN X0.here hx rfl (hb hby at_7) rfl (l' := #[.val (.int p1), .val (.int (9 : Int32)), .unset, .unset, .unset]) rfl k) ?_
    show OGot p.tables e below (s₁.setTop (mkF m 8 #[.val (.int p1), .val (.int (9 : Int32)), .unset, .unset, .unset] [])) _
    refine OGot.go (fun t k => XS.iloadN X0.here hx rfl (hb hby at_8) rfl k) ?_
    show OGot p.tables e below (s₁.setTop (mkF m 9 #[.val (.int p1), .val (.int (9 : Int32)), .unset, .unset, .unset] [(.int (9 : Int32))])) _
    obtain ⟨_, _, ⟨T44, L44, k44, n44⟩, -, X44, ⟨Lc44, hQ44, l44, y44, z44⟩, st44⟩ := Jvm.LawKit.callS X0 hx (y := (⟨"com/example/chorale/chorale/KindAttachesPinLaw", "kindAt", "(I)Lcom/example/chorale/chorale/FlowGraph$Kind;"⟩ : MethodName)) hown (mvT hZ (ow hw 1 rfl)) (mvT hZ (ow hw 2 rfl)) (mvT hZ (ow hw 3 rfl)) (mvT hZ (ow hw 4 rfl)) (by decide) (backOf (W := 0) (rm1_9 l Z a0 hw [] G  h0 n0 O0 ) hZ (ow hw 4 rfl) (ow hw 3 rfl) (by decide) (by decide)) (g := (mkF m 9 #[.val (.int p1), .val (.int (9 : Int32)), .unset, .unset, .unset] [(.int (9 : Int32))])) rfl (by rw [hml]; rfl) (argsL := [(.int (9 : Int32))]) (rest := []) (lenOf pd_0 rfl) rfl (by show 2 * 0 + _ ≤ _; exact Nat.le_of_eq rfl) (hb hby at_9) (fun _ _ => ⟨rfl, e0, (by decide : 0 + 0 ≤ _), (by decide : 0 + 0 ≤ _)⟩)
    dsimp only [Pt.U, Pt.locs, Pt.cells, Pt.slots] at X44 l44 y44 z44 st44 hQ44
    subst l44 y44 z44
    obtain ⟨rfl, N44q, e44⟩ := hQ44
    have N44 := Fr.app N0 N44q
    refine OGot.go st44 ?_
    show OGot p.tables e below (T44.setTop (mkF m 12 #[.val (.int p1), .val (.int (9 : Int32)), .unset, .unset, .unset] [(.ref w_PARALLEL_GATEWAY)])) _
    refine OGot.go (fun t k => XS.astoreN X44.here hx rfl (hb hby at_12) rfl rfl (l' := #[.val (.int p1), .val (.int (9 : Int32)), .val (.ref w_PARALLEL_GATEWAY), .unset, .unset]) rfl k) ?_
    show OGot p.tables e below (T44.setTop (mkF m 13 #[.val (.int p1), .val (.int (9 : Int32)), .val (.ref w_PARALLEL_GATEWAY), .unset, .unset] [])) _
    refine OGot.go (fun t k => XS.aloadN X44.here hx rfl (hb hby at_13) rfl rfl k) ?_
    show OGot p.tables e below (T44.setTop (mkF m 14 #[.val (.int p1), .val (.int (9 : Int32)), .val (.ref w_PARALLEL_GATEWAY), .unset, .unset] [(.ref w_PARALLEL_GATEWAY)])) _
    obtain ⟨cq45, kq45, q45a, q45b, q45c⟩ := isOf hZ e44 (G.2.2.2.2.2.2.2.2.2.2.2.2.2.2.2.2.2.2.2.2.2.2.2.2.2.2.2.2.2.1.ext O0.2)
    obtain ⟨_, _, ⟨T45, L45, k45, n45⟩, -, X45, ⟨Lc45, hQ45, l45, y45, z45⟩, st45⟩ := X44.virtualBack hx (y := (⟨"com/example/chorale/chorale/FlowGraph$Kind", "attaches", "()Z"⟩ : MethodName)) (z := (⟨"com/example/chorale/chorale/FlowGraph$Kind", "attaches", "()Z"⟩ : MethodName)) hown (mvT hZ (ow hw 8 rfl)) (mvT hZ (ow hw 9 rfl)) (notFace_of_selects (args := #[]) (mvT hZ (ow hw 11 rfl))) (mvT hZ (ow hw 11 rfl)) (mvT hZ (ow hw 10 rfl)) (by decide) (backOf (W := 0) (rm2_9 l Z a0 hw [] G  h0 n0 O0 ) hZ (ow hw 12 rfl) (ow hw 6 rfl) (by decide) (by decide)) q45a q45c (g := (mkF m 14 #[.val (.int p1), .val (.int (9 : Int32)), .val (.ref w_PARALLEL_GATEWAY), .unset, .unset] [(.ref w_PARALLEL_GATEWAY)])) rfl (by rw [hml]; rfl) (Steps.refl _) (argsL := []) (rest := []) (lenOf pd_1 rfl) rfl (by show 2 * 0 + _ ≤ _; exact Nat.le_of_eq rfl) (hb hby at_14) (fun _ _ => ⟨rfl, e44, (by decide : 0 + 0 ≤ _), (by decide : 0 + 0 ≤ _)⟩)
    dsimp only [Pt.U, Pt.locs, Pt.cells, Pt.slots] at X45 l45 y45 z45 st45 hQ45
    subst l45 y45 z45
    obtain ⟨rfl, N45q, e45⟩ := hQ45
    have N45 := Fr.app N44 N45q
    refine OGot.on st45 ?_
    show OGot p.tables e below (T45.setTop (mkF m 17 #[.val (.int p1), .val (.int (9 : Int32)), .val (.ref w_PARALLEL_GATEWAY), .unset, .unset] [(.int (0 : Int32))])) _
    refine OGot.go (fun t k => XS.istoreN X45.here hx rfl (hb hby at_17) rfl (l' := #[.val (.int p1), .val (.int (9 : Int32)), .val (.ref w_PARALLEL_GATEWAY), .val (.int (0 : Int32)), .unset]) rfl k) ?_
    show OGot p.tables e below (T45.setTop (mkF m 18 #[.val (.int p1), .val (.int (9 : Int32)), .val (.ref w_PARALLEL_GATEWAY), .val (.int (0 : Int32)), .unset] [])) _
    refine OGot.go (fun t k => XS.iloadN X45.here hx rfl (hb hby at_18) rfl k) ?_
    show OGot p.tables e below (T45.setTop (mkF m 19 #[.val (.int p1), .val (.int (9 : Int32)), .val (.ref w_PARALLEL_GATEWAY), .val (.int (0 : Int32)), .unset] [(.int (9 : Int32))])) _
    obtain ⟨_, _, ⟨T46, L46, k46, n46⟩, -, X46, ⟨Lc46, hQ46, l46, y46, z46⟩, st46⟩ := Jvm.LawKit.callS X45 hx (y := (⟨"com/example/chorale/chorale/KindAttachesPinLaw", "isBoundaryIndex", "(I)Z"⟩ : MethodName)) hown (mvT hZ (ow hw 17 rfl)) (mvT hZ (ow hw 18 rfl)) (mvT hZ (ow hw 3 rfl)) (mvT hZ (ow hw 19 rfl)) (by decide) (backOf (W := 0) (rm3_9 l Z a0 hw [] G  h0 n0 O0 ) hZ (ow hw 19 rfl) (ow hw 3 rfl) (by decide) (by decide)) (g := (mkF m 19 #[.val (.int p1), .val (.int (9 : Int32)), .val (.ref w_PARALLEL_GATEWAY), .val (.int (0 : Int32)), .unset] [(.int (9 : Int32))])) rfl (by rw [hml]; rfl) (argsL := [(.int (9 : Int32))]) (rest := []) (lenOf pd_2 rfl) rfl (by show 2 * 0 + _ ≤ _; exact Nat.le_of_eq rfl) (hb hby at_19) (fun _ _ => ⟨rfl, e45, (by decide : 0 + 0 ≤ _), (by decide : 0 + 0 ≤ _)⟩)
    dsimp only [Pt.U, Pt.locs, Pt.cells, Pt.slots] at X46 l46 y46 z46 st46 hQ46
    subst l46 y46 z46
    obtain ⟨rfl, N46q, e46⟩ := hQ46
    have N46 := Fr.app N45 N46q
    refine OGot.go st46 ?_
    show OGot p.tables e below (T46.setTop (mkF m 22 #[.val (.int p1), .val (.int (9 : Int32)), .val (.ref w_PARALLEL_GATEWAY), .val (.int (0 : Int32)), .unset] [(.int (0 : Int32))])) _
    refine OGot.go (fun t k => XS.istore X46.here hx rfl (hb hby at_22) rfl (l' := #[.val (.int p1), .val (.int (9 : Int32)), .val (.ref w_PARALLEL_GATEWAY), .val (.int (0 : Int32)), .val (.int (0 : Int32))]) rfl k) ?_
    show OGot p.tables e below (T46.setTop (mkF m 24 #[.val (.int p1), .val (.int (9 : Int32)), .val (.ref w_PARALLEL_GATEWAY), .val (.int (0 : Int32)), .val (.int (0 : Int32))] [])) _
    refine OGot.go (fun t k => XS.iloadN X46.here hx rfl (hb hby at_24) rfl k) ?_
    show OGot p.tables e below (T46.setTop (mkF m 25 #[.val (.int p1), .val (.int (9 : Int32)), .val (.ref w_PARALLEL_GATEWAY), .val (.int (0 : Int32)), .val (.int (0 : Int32))] [(.int (0 : Int32))])) _
    refine OGot.go (fun t k => XS.iload X46.here hx rfl (hb hby at_25) rfl k) ?_
    show OGot p.tables e below (T46.setTop (mkF m 27 #[.val (.int p1), .val (.int (9 : Int32)), .val (.ref w_PARALLEL_GATEWAY), .val (.int (0 : Int32)), .val (.int (0 : Int32))] [(.int (0 : Int32)), (.int (0 : Int32))])) _
    refine OGot.go (fun t k => XS.icmpYes X46.here hx rfl (pc0 := 27) (pc' := 32) rfl (hb hby at_27) rfl (by decide) (by decide) (by decide) k) ?_
    show OGot p.tables e below (T46.setTop (mkF m 32 #[.val (.int p1), .val (.int (9 : Int32)), .val (.ref w_PARALLEL_GATEWAY), .val (.int (0 : Int32)), .val (.int (0 : Int32))] [])) _
    refine OGot.go (fun t k => XS.iloadN X46.here hx rfl (hb hby at_32) rfl k) ?_
    show OGot p.tables e below (T46.setTop (mkF m 33 #[.val (.int p1), .val (.int (9 : Int32)), .val (.ref w_PARALLEL_GATEWAY), .val (.int (0 : Int32)), .val (.int (0 : Int32))] [(.int (0 : Int32))])) _
    refine OGot.go (fun t k => XS.ifYes X46.here hx rfl (pc0 := 33) (pc' := 45) rfl (hb hby at_33) rfl (by decide) (by decide) (by decide) k) ?_
    show OGot p.tables e below (T46.setTop (mkF m 45 #[.val (.int p1), .val (.int (9 : Int32)), .val (.ref w_PARALLEL_GATEWAY), .val (.int (0 : Int32)), .val (.int (0 : Int32))] [])) _
    refine OGot.go (fun t k => XS.iconst X46.here hx rfl (hb hby at_45) k) ?_
    show OGot p.tables e below (T46.setTop (mkF m 46 #[.val (.int p1), .val (.int (9 : Int32)), .val (.ref w_PARALLEL_GATEWAY), .val (.int (0 : Int32)), .val (.int (0 : Int32))] [(.int (1 : Int32))])) _
    obtain ⟨fs, hr, hrun, hended, hW, hsame⟩ := X46.leave (v := some (.int (1 : Int32))) (fun h => by rw [Bd.returns] at h; cases h)
    refine ⟨_, _, retN X46 hx (t := .boolean) Bd.returns (by simp) (hb hby at_46) hr, hrun, hended, _, _, rfl, ?_, ⟨_, rfl⟩, hW, hsame.mono (by decide) (by decide)⟩
    exact (⟨rfl, N46⟩ : Q0 Z w_START_EVENT w_BOUNDARY_EVENT w_MESSAGE_BOUNDARY_EVENT w_TERMINATE_END_EVENT w_LINK_THROW_EVENT w_LINK_CATCH_EVENT w_RECEPTION w_END_EVENT w_EVENT_BASED_GATEWAY w_INCLUSIVE_GATEWAY w_EXCLUSIVE_GATEWAY w_MESSAGE_START_EVENT w_SUB_PROCESS w_ACTIVITY w_PARALLEL_GATEWAY p1 h0 n0 _ T46.heap _)
  · rw [hk12]
    show OGot p.tables e below (s₁.setTop (mkF m 7 #[.val (.int p1), .unset, .unset, .unset, .unset] [(.int (10 : Int32))])) _
    refine OGot.go (fun t k => XS.istoreN X0.here hx rfl (hb hby at_7) rfl (l' := #[.val (.int p1), .val (.int (10 : Int32)), .unset, .unset, .unset]) rfl k) ?_
    show OGot p.tables e below (s₁.setTop (mkF m 8 #[.val (.int p1), .val (.int (10 : Int32)), .unset, .unset, .unset] [])) _
    refine OGot.go (fun t k => XS.iloadN X0.here hx rfl (hb hby at_8) rfl k) ?_
    show OGot p.tables e below (s₁.setTop (mkF m 9 #[.val (.int p1), .val (.int (10 : Int32)), .unset, .unset, .unset] [(.int (10 : Int32))])) _
    obtain ⟨_, _, ⟨T47, L47, k47, n47⟩, -, X47, ⟨Lc47, hQ47, l47, y47, z47⟩, st47⟩ := Jvm.LawKit.callS X0 hx (y := (⟨"com/example/chorale/chorale/KindAttachesPinLaw", "kindAt", "(I)Lcom/example/chorale/chorale/FlowGraph$Kind;"⟩ : MethodName)) hown (mvT hZ (ow hw 1 rfl)) (mvT hZ (ow hw 2 rfl)) (mvT hZ (ow hw 3 rfl)) (mvT hZ (ow hw 4 rfl)) (by decide) (backOf (W := 0) (rm1_10 l Z a0 hw [] G  h0 n0 O0 ) hZ (ow hw 4 rfl) (ow hw 3 rfl) (by decide) (by decide)) (g := (mkF m 9 #[.val (.int p1), .val (.int (10 : Int32)), .unset, .unset, .unset] [(.int (10 : Int32))])) rfl (by rw [hml]; rfl) (argsL := [(.int (10 : Int32))]) (rest := []) (lenOf pd_0 rfl) rfl (by show 2 * 0 + _ ≤ _; exact Nat.le_of_eq rfl) (hb hby at_9) (fun _ _ => ⟨rfl, e0, (by decide : 0 + 0 ≤ _), (by decide : 0 + 0 ≤ _)⟩)
    dsimp only [Pt.U, Pt.locs, Pt.cells, Pt.slots] at X47 l47 y47 z47 st47 hQ47
    subst l47 y47 z47
    obtain ⟨rfl, N47q, e47⟩ := hQ47
    have N47 := Fr.app N0 N47q
    refine OGot.go st47 ?_
    show OGot p.tables e below (T47.setTop (mkF m 12 #[.val (.int p1), .val (.int (10 : Int32)), .unset, .unset, .unset] [(.ref w_INCLUSIVE_GATEWAY)])) _
    refine OGot.go (fun t k => XS.astoreN X47.here hx rfl (hb hby at_12) rfl rfl (l' := #[.val (.int p1), .val (.int (10 : Int32)), .val (.ref w_INCLUSIVE_GATEWAY), .unset, .unset]) rfl k) ?_
    show OGot p.tables e below (T47.setTop (mkF m 13 #[.val (.int p1), .val (.int (10 : Int32)), .val (.ref w_INCLUSIVE_GATEWAY), .unset, .unset] [])) _
    refine OGot.go (fun t k => XS.aloadN X47.here hx rfl (hb hby at_13) rfl rfl k) ?_
    show OGot p.tables e below (T47.setTop (mkF m 14 #[.val (.int p1), .val (.int (10 : Int32)), .val (.ref w_INCLUSIVE_GATEWAY), .unset, .unset] [(.ref w_INCLUSIVE_GATEWAY)])) _
    obtain ⟨cq48, kq48, q48a, q48b, q48c⟩ := isOf hZ e47 (G.2.2.2.2.2.2.2.2.2.2.2.2.2.2.2.2.2.2.2.1.ext O0.2)
    obtain ⟨_, _, ⟨T48, L48, k48, n48⟩, -, X48, ⟨Lc48, hQ48, l48, y48, z48⟩, st48⟩ := X47.virtualBack hx (y := (⟨"com/example/chorale/chorale/FlowGraph$Kind", "attaches", "()Z"⟩ : MethodName)) (z := (⟨"com/example/chorale/chorale/FlowGraph$Kind", "attaches", "()Z"⟩ : MethodName)) hown (mvT hZ (ow hw 8 rfl)) (mvT hZ (ow hw 9 rfl)) (notFace_of_selects (args := #[]) (mvT hZ (ow hw 11 rfl))) (mvT hZ (ow hw 11 rfl)) (mvT hZ (ow hw 10 rfl)) (by decide) (backOf (W := 0) (rm2_10 l Z a0 hw [] G  h0 n0 O0 ) hZ (ow hw 12 rfl) (ow hw 6 rfl) (by decide) (by decide)) q48a q48c (g := (mkF m 14 #[.val (.int p1), .val (.int (10 : Int32)), .val (.ref w_INCLUSIVE_GATEWAY), .unset, .unset] [(.ref w_INCLUSIVE_GATEWAY)])) rfl (by rw [hml]; rfl) (Steps.refl _) (argsL := []) (rest := []) (lenOf pd_1 rfl) rfl (by show 2 * 0 + _ ≤ _; exact Nat.le_of_eq rfl) (hb hby at_14) (fun _ _ => ⟨rfl, e47, (by decide : 0 + 0 ≤ _), (by decide : 0 + 0 ≤ _)⟩)
    dsimp only [Pt.U, Pt.locs, Pt.cells, Pt.slots] at X48 l48 y48 z48 st48 hQ48
    subst l48 y48 z48
    obtain ⟨rfl, N48q, e48⟩ := hQ48
    have N48 := Fr.app N47 N48q
    refine OGot.on st48 ?_
    show OGot p.tables e below (T48.setTop (mkF m 17 #[.val (.int p1), .val (.int (10 : Int32)), .val (.ref w_INCLUSIVE_GATEWAY), .unset, .unset] [(.int (0 : Int32))])) _
    refine OGot.go (fun t k => XS.istoreN X48.here hx rfl (hb hby at_17) rfl (l' := #[.val (.int p1), .val (.int (10 : Int32)), .val (.ref w_INCLUSIVE_GATEWAY), .val (.int (0 : Int32)), .unset]) rfl k) ?_
    show OGot p.tables e below (T48.setTop (mkF m 18 #[.val (.int p1), .val (.int (10 : Int32)), .val (.ref w_INCLUSIVE_GATEWAY), .val (.int (0 : Int32)), .unset] [])) _
    refine OGot.go (fun t k => XS.iloadN X48.here hx rfl (hb hby at_18) rfl k) ?_
    show OGot p.tables e below (T48.setTop (mkF m 19 #[.val (.int p1), .val (.int (10 : Int32)), .val (.ref w_INCLUSIVE_GATEWAY), .val (.int (0 : Int32)), .unset] [(.int (10 : Int32))])) _
    obtain ⟨_, _, ⟨T49, L49, k49, n49⟩, -, X49, ⟨Lc49, hQ49, l49, y49, z49⟩, st49⟩ := Jvm.LawKit.callS X48 hx (y := (⟨"com/example/chorale/chorale/KindAttachesPinLaw", "isBoundaryIndex", "(I)Z"⟩ : MethodName)) hown (mvT hZ (ow hw 17 rfl)) (mvT hZ (ow hw 18 rfl)) (mvT hZ (ow hw 3 rfl)) (mvT hZ (ow hw 19 rfl)) (by decide) (backOf (W := 0) (rm3_10 l Z a0 hw [] G  h0 n0 O0 ) hZ (ow hw 19 rfl) (ow hw 3 rfl) (by decide) (by decide)) (g := (mkF m 19 #[.val (.int p1), .val (.int (10 : Int32)), .val (.ref w_INCLUSIVE_GATEWAY), .val (.int (0 : Int32)), .unset] [(.int (10 : Int32))])) rfl (by rw [hml]; rfl) (argsL := [(.int (10 : Int32))]) (rest := []) (lenOf pd_2 rfl) rfl (by show 2 * 0 + _ ≤ _; exact Nat.le_of_eq rfl) (hb hby at_19) (fun _ _ => ⟨rfl, e48, (by decide : 0 + 0 ≤ _), (by decide : 0 + 0 ≤ _)⟩)
    dsimp only [Pt.U, Pt.locs, Pt.cells, Pt.slots] at X49 l49 y49 z49 st49 hQ49
    subst l49 y49 z49
    obtain ⟨rfl, N49q, e49⟩ := hQ49
    have N49 := Fr.app N48 N49q
    refine OGot.go st49 ?_
    show OGot p.tables e below (T49.setTop (mkF m 22 #[.val (.int p1), .val (.int (10 : Int32)), .val (.ref w_INCLUSIVE_GATEWAY), .val (.int (0 : Int32)), .unset] [(.int (0 : Int32))])) _
    refine OGot.go (fun t k => XS.istore X49.here hx rfl (hb hby at_22) rfl (l' := #[.val (.int p1), .val (.int (10 : Int32)), .val (.ref w_INCLUSIVE_GATEWAY), .val (.int (0 : Int32)), .val (.int (0 : Int32))]) rfl k) ?_
    show OGot p.tables e below (T49.setTop (mkF m 24 #[.val (.int p1), .val (.int (10 : Int32)), .val (.ref w_INCLUSIVE_GATEWAY), .val (.int (0 : Int32)), .val (.int (0 : Int32))] [])) _
    refine OGot.go (fun t k => XS.iloadN X49.here hx rfl (hb hby at_24) rfl k) ?_
    show OGot p.tables e below (T49.setTop (mkF m 25 #[.val (.int p1), .val (.int (10 : Int32)), .val (.ref w_INCLUSIVE_GATEWAY), .val (.int (0 : Int32)), .val (.int (0 : Int32))] [(.int (0 : Int32))])) _
    refine OGot.go (fun t k => XS.iload X49.here hx rfl (hb hby at_25) rfl k) ?_
    show OGot p.tables e below (T49.setTop (mkF m 27 #[.val (.int p1), .val (.int (10 : Int32)), .val (.ref w_INCLUSIVE_GATEWAY), .val (.int (0 : Int32)), .val (.int (0 : Int32))] [(.int (0 : Int32)), (.int (0 : Int32))])) _
    refine OGot.go (fun t k => XS.icmpYes X49.here hx rfl (pc0 := 27) (pc' := 32) rfl (hb hby at_27) rfl (by decide) (by decide) (by decide) k) ?_
    show OGot p.tables e below (T49.setTop (mkF m 32 #[.val (.int p1), .val (.int (10 : Int32)), .val (.ref w_INCLUSIVE_GATEWAY), .val (.int (0 : Int32)), .val (.int (0 : Int32))] [])) _
    refine OGot.go (fun t k => XS.iloadN X49.here hx rfl (hb hby at_32) rfl k) ?_
    show OGot p.tables e below (T49.setTop (mkF m 33 #[.val (.int p1), .val (.int (10 : Int32)), .val (.ref w_INCLUSIVE_GATEWAY), .val (.int (0 : Int32)), .val (.int (0 : Int32))] [(.int (0 : Int32))])) _
    refine OGot.go (fun t k => XS.ifYes X49.here hx rfl (pc0 := 33) (pc' := 45) rfl (hb hby at_33) rfl (by decide) (by decide) (by decide) k) ?_
    show OGot p.tables e below (T49.setTop (mkF m 45 #[.val (.int p1), .val (.int (10 : Int32)), .val (.ref w_INCLUSIVE_GATEWAY), .val (.int (0 : Int32)), .val (.int (0 : Int32))] [])) _
    refine OGot.go (fun t k => XS.iconst X49.here hx rfl (hb hby at_45) k) ?_
    show OGot p.tables e below (T49.setTop (mkF m 46 #[.val (.int p1), .val (.int (10 : Int32)), .val (.ref w_INCLUSIVE_GATEWAY), .val (.int (0 : Int32)), .val (.int (0 : Int32))] [(.int (1 : Int32))])) _
    obtain ⟨fs, hr, hrun, hended, hW, hsame⟩ := X49.leave (v := some (.int (1 : Int32))) (fun h => by rw [Bd.returns] at h; cases h)
    refine ⟨_, _, retN X49 hx (t := .boolean) Bd.returns (by simp) (hb hby at_46) hr, hrun, hended, _, _, rfl, ?_, ⟨_, rfl⟩, hW, hsame.mono (by decide) (by decide)⟩
    exact (⟨rfl, N49⟩ : Q0 Z w_START_EVENT w_BOUNDARY_EVENT w_MESSAGE_BOUNDARY_EVENT w_TERMINATE_END_EVENT w_LINK_THROW_EVENT w_LINK_CATCH_EVENT w_RECEPTION w_END_EVENT w_EVENT_BASED_GATEWAY w_INCLUSIVE_GATEWAY w_EXCLUSIVE_GATEWAY w_MESSAGE_START_EVENT w_SUB_PROCESS w_ACTIVITY w_PARALLEL_GATEWAY p1 h0 n0 _ T49.heap _)
  · rw [hk13]
    show OGot p.tables e below (s₁.setTop (mkF m 7 #[.val (.int p1), .unset, .unset, .unset, .unset] [(.int (11 : Int32))])) _
    refine OGot.go (fun t k => XS.istoreN X0.here hx rfl (hb hby at_7) rfl (l' := #[.val (.int p1), .val (.int (11 : Int32)), .unset, .unset, .unset]) rfl k) ?_
    show OGot p.tables e below (s₁.setTop (mkF m 8 #[.val (.int p1), .val (.int (11 : Int32)), .unset, .unset, .unset] [])) _
    refine OGot.go (fun t k => XS.iloadN X0.here hx rfl (hb hby at_8) rfl k) ?_
    show OGot p.tables e below (s₁.setTop (mkF m 9 #[.val (.int p1), .val (.int (11 : Int32)), .unset, .unset, .unset] [(.int (11 : Int32))])) _
    obtain ⟨_, _, ⟨T50, L50, k50, n50⟩, -, X50, ⟨Lc50, hQ50, l50, y50, z50⟩, st50⟩ := Jvm.LawKit.callS X0 hx (y := (⟨"com/example/chorale/chorale/KindAttachesPinLaw", "kindAt", "(I)Lcom/example/chorale/chorale/FlowGraph$Kind;"⟩ : MethodName)) hown (mvT hZ (ow hw 1 rfl)) (mvT hZ (ow hw 2 rfl)) (mvT hZ (ow hw 3 rfl)) (mvT hZ (ow hw 4 rfl)) (by decide) (backOf (W := 0) (rm1_11 l Z a0 hw [] G  h0 n0 O0 ) hZ (ow hw 4 rfl) (ow hw 3 rfl) (by decide) (by decide)) (g := (mkF m 9 #[.val (.int p1), .val (.int (11 : Int32)), .unset, .unset, .unset] [(.int (11 : Int32))])) rfl (by rw [hml]; rfl) (argsL := [(.int (11 : Int32))]) (rest := []) (lenOf pd_0 rfl) rfl (by show 2 * 0 + _ ≤ _; exact Nat.le_of_eq rfl) (hb hby at_9) (fun _ _ => ⟨rfl, e0, (by decide : 0 + 0 ≤ _), (by decide : 0 + 0 ≤ _)⟩)
    dsimp only [Pt.U, Pt.locs, Pt.cells, Pt.slots] at X50 l50 y50 z50 st50 hQ50
    subst l50 y50 z50
    obtain ⟨rfl, N50q, e50⟩ := hQ50
    have N50 := Fr.app N0 N50q
    refine OGot.go st50 ?_
    show OGot p.tables e below (T50.setTop (mkF m 12 #[.val (.int p1), .val (.int (11 : Int32)), .unset, .unset, .unset] [(.ref w_EVENT_BASED_GATEWAY)])) _
    refine OGot.go (fun t k => XS.astoreN X50.here hx rfl (hb hby at_12) rfl rfl (l' := #[.val (.int p1), .val (.int (11 : Int32)), .val (.ref w_EVENT_BASED_GATEWAY), .unset, .unset]) rfl k) ?_
    show OGot p.tables e below (T50.setTop (mkF m 13 #[.val (.int p1), .val (.int (11 : Int32)), .val (.ref w_EVENT_BASED_GATEWAY), .unset, .unset] [])) _
    refine OGot.go (fun t k => XS.aloadN X50.here hx rfl (hb hby at_13) rfl rfl k) ?_
    show OGot p.tables e below (T50.setTop (mkF m 14 #[.val (.int p1), .val (.int (11 : Int32)), .val (.ref w_EVENT_BASED_GATEWAY), .unset, .unset] [(.ref w_EVENT_BASED_GATEWAY)])) _
    obtain ⟨cq51, kq51, q51a, q51b, q51c⟩ := isOf hZ e50 (G.2.2.2.2.2.2.2.2.2.2.2.2.2.2.2.2.2.1.ext O0.2)
    obtain ⟨_, _, ⟨T51, L51, k51, n51⟩, -, X51, ⟨Lc51, hQ51, l51, y51, z51⟩, st51⟩ := X50.virtualBack hx (y := (⟨"com/example/chorale/chorale/FlowGraph$Kind", "attaches", "()Z"⟩ : MethodName)) (z := (⟨"com/example/chorale/chorale/FlowGraph$Kind", "attaches", "()Z"⟩ : MethodName)) hown (mvT hZ (ow hw 8 rfl)) (mvT hZ (ow hw 9 rfl)) (notFace_of_selects (args := #[]) (mvT hZ (ow hw 11 rfl))) (mvT hZ (ow hw 11 rfl)) (mvT hZ (ow hw 10 rfl)) (by decide) (backOf (W := 0) (rm2_11 l Z a0 hw [] G  h0 n0 O0 ) hZ (ow hw 12 rfl) (ow hw 6 rfl) (by decide) (by decide)) q51a q51c (g := (mkF m 14 #[.val (.int p1), .val (.int (11 : Int32)), .val (.ref w_EVENT_BASED_GATEWAY), .unset, .unset] [(.ref w_EVENT_BASED_GATEWAY)])) rfl (by rw [hml]; rfl) (Steps.refl _) (argsL := []) (rest := []) (lenOf pd_1 rfl) rfl (by show 2 * 0 + _ ≤ _; exact Nat.le_of_eq rfl) (hb hby at_14) (fun _ _ => ⟨rfl, e50, (by decide : 0 + 0 ≤ _), (by decide : 0 + 0 ≤ _)⟩)
    dsimp only [Pt.U, Pt.locs, Pt.cells, Pt.slots] at X51 l51 y51 z51 st51 hQ51
    subst l51 y51 z51
    obtain ⟨rfl, N51q, e51⟩ := hQ51
    have N51 := Fr.app N50 N51q
    refine OGot.on st51 ?_
    show OGot p.tables e below (T51.setTop (mkF m 17 #[.val (.int p1), .val (.int (11 : Int32)), .val (.ref w_EVENT_BASED_GATEWAY), .unset, .unset] [(.int (0 : Int32))])) _
    refine OGot.go (fun t k => XS.istoreN X51.here hx rfl (hb hby at_17) rfl (l' := #[.val (.int p1), .val (.int (11 : Int32)), .val (.ref w_EVENT_BASED_GATEWAY), .val (.int (0 : Int32)), .unset]) rfl k) ?_
    show OGot p.tables e below (T51.setTop (mkF m 18 #[.val (.int p1), .val (.int (11 : Int32)), .val (.ref w_EVENT_BASED_GATEWAY), .val (.int (0 : Int32)), .unset] [])) _
    refine OGot.go (fun t k => XS.iloadN X51.here hx rfl (hb hby at_18) rfl k) ?_
    show OGot p.tables e below (T51.setTop (mkF m 19 #[.val (.int p1), .val (.int (11 : Int32)), .val (.ref w_EVENT_BASED_GATEWAY), .val (.int (0 : Int32)), .unset] [(.int (11 : Int32))])) _
    obtain ⟨_, _, ⟨T52, L52, k52, n52⟩, -, X52, ⟨Lc52, hQ52, l52, y52, z52⟩, st52⟩ := Jvm.LawKit.callS X51 hx (y := (⟨"com/example/chorale/chorale/KindAttachesPinLaw", "isBoundaryIndex", "(I)Z"⟩ : MethodName)) hown (mvT hZ (ow hw 17 rfl)) (mvT hZ (ow hw 18 rfl)) (mvT hZ (ow hw 3 rfl)) (mvT hZ (ow hw 19 rfl)) (by decide) (backOf (W := 0) (rm3_11 l Z a0 hw [] G  h0 n0 O0 ) hZ (ow hw 19 rfl) (ow hw 3 rfl) (by decide) (by decide)) (g := (mkF m 19 #[.val (.int p1), .val (.int (11 : Int32)), .val (.ref w_EVENT_BASED_GATEWAY), .val (.int (0 : Int32)), .unset] [(.int (11 : Int32))])) rfl (by rw [hml]; rfl) (argsL := [(.int (11 : Int32))]) (rest := []) (lenOf pd_2 rfl) rfl (by show 2 * 0 + _ ≤ _; exact Nat.le_of_eq rfl) (hb hby at_19) (fun _ _ => ⟨rfl, e51, (by decide : 0 + 0 ≤ _), (by decide : 0 + 0 ≤ _)⟩)
    dsimp only [Pt.U, Pt.locs, Pt.cells, Pt.slots] at X52 l52 y52 z52 st52 hQ52
    subst l52 y52 z52
    obtain ⟨rfl, N52q, e52⟩ := hQ52
    have N52 := Fr.app N51 N52q
    refine OGot.go st52 ?_
    show OGot p.tables e below (T52.setTop (mkF m 22 #[.val (.int p1), .val (.int (11 : Int32)), .val (.ref w_EVENT_BASED_GATEWAY), .val (.int (0 : Int32)), .unset] [(.int (0 : Int32))])) _
    refine OGot.go (fun t k => XS.istore X52.here hx rfl (hb hby at_22) rfl (l' := #[.val (.int p1), .val (.int (11 : Int32)), .val (.ref w_EVENT_BASED_GATEWAY), .val (.int (0 : Int32)), .val (.int (0 : Int32))]) rfl k) ?_
    show OGot p.tables e below (T52.setTop (mkF m 24 #[.val (.int p1), .val (.int (11 : Int32)), .val (.ref w_EVENT_BASED_GATEWAY), .val (.int (0 : Int32)), .val (.int (0 : Int32))] [])) _
    refine OGot.go (fun t k => XS.iloadN X52.here hx rfl (hb hby at_24) rfl k) ?_
    show OGot p.tables e below (T52.setTop (mkF m 25 #[.val (.int p1), .val (.int (11 : Int32)), .val (.ref w_EVENT_BASED_GATEWAY), .val (.int (0 : Int32)), .val (.int (0 : Int32))] [(.int (0 : Int32))])) _
    refine OGot.go (fun t k => XS.iload X52.here hx rfl (hb hby at_25) rfl k) ?_
    show OGot p.tables e below (T52.setTop (mkF m 27 #[.val (.int p1), .val (.int (11 : Int32)), .val (.ref w_EVENT_BASED_GATEWAY), .val (.int (0 : Int32)), .val (.int (0 : Int32))] [(.int (0 : Int32)), (.int (0 : Int32))])) _
    refine OGot.go (fun t k => XS.icmpYes X52.here hx rfl (pc0 := 27) (pc' := 32) rfl (hb hby at_27) rfl (by decide) (by decide) (by decide) k) ?_
    show OGot p.tables e below (T52.setTop (mkF m 32 #[.val (.int p1), .val (.int (11 : Int32)), .val (.ref w_EVENT_BASED_GATEWAY), .val (.int (0 : Int32)), .val (.int (0 : Int32))] [])) _
    refine OGot.go (fun t k => XS.iloadN X52.here hx rfl (hb hby at_32) rfl k) ?_
    show OGot p.tables e below (T52.setTop (mkF m 33 #[.val (.int p1), .val (.int (11 : Int32)), .val (.ref w_EVENT_BASED_GATEWAY), .val (.int (0 : Int32)), .val (.int (0 : Int32))] [(.int (0 : Int32))])) _
    refine OGot.go (fun t k => XS.ifYes X52.here hx rfl (pc0 := 33) (pc' := 45) rfl (hb hby at_33) rfl (by decide) (by decide) (by decide) k) ?_
    show OGot p.tables e below (T52.setTop (mkF m 45 #[.val (.int p1), .val (.int (11 : Int32)), .val (.ref w_EVENT_BASED_GATEWAY), .val (.int (0 : Int32)), .val (.int (0 : Int32))] [])) _
    refine OGot.go (fun t k => XS.iconst X52.here hx rfl (hb hby at_45) k) ?_
    show OGot p.tables e below (T52.setTop (mkF m 46 #[.val (.int p1), .val (.int (11 : Int32)), .val (.ref w_EVENT_BASED_GATEWAY), .val (.int (0 : Int32)), .val (.int (0 : Int32))] [(.int (1 : Int32))])) _
    obtain ⟨fs, hr, hrun, hended, hW, hsame⟩ := X52.leave (v := some (.int (1 : Int32))) (fun h => by rw [Bd.returns] at h; cases h)
    refine ⟨_, _, retN X52 hx (t := .boolean) Bd.returns (by simp) (hb hby at_46) hr, hrun, hended, _, _, rfl, ?_, ⟨_, rfl⟩, hW, hsame.mono (by decide) (by decide)⟩
    exact (⟨rfl, N52⟩ : Q0 Z w_START_EVENT w_BOUNDARY_EVENT w_MESSAGE_BOUNDARY_EVENT w_TERMINATE_END_EVENT w_LINK_THROW_EVENT w_LINK_CATCH_EVENT w_RECEPTION w_END_EVENT w_EVENT_BASED_GATEWAY w_INCLUSIVE_GATEWAY w_EXCLUSIVE_GATEWAY w_MESSAGE_START_EVENT w_SUB_PROCESS w_ACTIVITY w_PARALLEL_GATEWAY p1 h0 n0 _ T52.heap _)
  · rw [hk14]
    show OGot p.tables e below (s₁.setTop (mkF m 7 #[.val (.int p1), .unset, .unset, .unset, .unset] [(.int (12 : Int32))])) _
    refine OGot.go (fun t k => XS.istoreN X0.here hx rfl (hb hby at_7) rfl (l' := #[.val (.int p1), .val (.int (12 : Int32)), .unset, .unset, .unset]) rfl k) ?_
    show OGot p.tables e below (s₁.setTop (mkF m 8 #[.val (.int p1), .val (.int (12 : Int32)), .unset, .unset, .unset] [])) _
    refine OGot.go (fun t k => XS.iloadN X0.here hx rfl (hb hby at_8) rfl k) ?_
    show OGot p.tables e below (s₁.setTop (mkF m 9 #[.val (.int p1), .val (.int (12 : Int32)), .unset, .unset, .unset] [(.int (12 : Int32))])) _
    obtain ⟨_, _, ⟨T53, L53, k53, n53⟩, -, X53, ⟨Lc53, hQ53, l53, y53, z53⟩, st53⟩ := Jvm.LawKit.callS X0 hx (y := (⟨"com/example/chorale/chorale/KindAttachesPinLaw", "kindAt", "(I)Lcom/example/chorale/chorale/FlowGraph$Kind;"⟩ : MethodName)) hown (mvT hZ (ow hw 1 rfl)) (mvT hZ (ow hw 2 rfl)) (mvT hZ (ow hw 3 rfl)) (mvT hZ (ow hw 4 rfl)) (by decide) (backOf (W := 0) (rm1_12 l Z a0 hw [] G  h0 n0 O0 ) hZ (ow hw 4 rfl) (ow hw 3 rfl) (by decide) (by decide)) (g := (mkF m 9 #[.val (.int p1), .val (.int (12 : Int32)), .unset, .unset, .unset] [(.int (12 : Int32))])) rfl (by rw [hml]; rfl) (argsL := [(.int (12 : Int32))]) (rest := []) (lenOf pd_0 rfl) rfl (by show 2 * 0 + _ ≤ _; exact Nat.le_of_eq rfl) (hb hby at_9) (fun _ _ => ⟨rfl, e0, (by decide : 0 + 0 ≤ _), (by decide : 0 + 0 ≤ _)⟩)
    dsimp only [Pt.U, Pt.locs, Pt.cells, Pt.slots] at X53 l53 y53 z53 st53 hQ53
    subst l53 y53 z53
    obtain ⟨rfl, N53q, e53⟩ := hQ53
    have N53 := Fr.app N0 N53q
    refine OGot.go st53 ?_
    show OGot p.tables e below (T53.setTop (mkF m 12 #[.val (.int p1), .val (.int (12 : Int32)), .unset, .unset, .unset] [(.ref w_SUB_PROCESS)])) _
    refine OGot.go (fun t k => XS.astoreN X53.here hx rfl (hb hby at_12) rfl rfl (l' := #[.val (.int p1), .val (.int (12 : Int32)), .val (.ref w_SUB_PROCESS), .unset, .unset]) rfl k) ?_
    show OGot p.tables e below (T53.setTop (mkF m 13 #[.val (.int p1), .val (.int (12 : Int32)), .val (.ref w_SUB_PROCESS), .unset, .unset] [])) _
    refine OGot.go (fun t k => XS.aloadN X53.here hx rfl (hb hby at_13) rfl rfl k) ?_
    show OGot p.tables e below (T53.setTop (mkF m 14 #[.val (.int p1), .val (.int (12 : Int32)), .val (.ref w_SUB_PROCESS), .unset, .unset] [(.ref w_SUB_PROCESS)])) _
    obtain ⟨cq54, kq54, q54a, q54b, q54c⟩ := isOf hZ e53 (G.2.2.2.2.2.2.2.2.2.2.2.2.2.2.2.2.2.2.2.2.2.2.2.2.2.1.ext O0.2)
    obtain ⟨_, _, ⟨T54, L54, k54, n54⟩, -, X54, ⟨Lc54, hQ54, l54, y54, z54⟩, st54⟩ := X53.virtualBack hx (y := (⟨"com/example/chorale/chorale/FlowGraph$Kind", "attaches", "()Z"⟩ : MethodName)) (z := (⟨"com/example/chorale/chorale/FlowGraph$Kind", "attaches", "()Z"⟩ : MethodName)) hown (mvT hZ (ow hw 8 rfl)) (mvT hZ (ow hw 9 rfl)) (notFace_of_selects (args := #[]) (mvT hZ (ow hw 11 rfl))) (mvT hZ (ow hw 11 rfl)) (mvT hZ (ow hw 10 rfl)) (by decide) (backOf (W := 0) (rm2_12 l Z a0 hw [] G  h0 n0 O0 ) hZ (ow hw 12 rfl) (ow hw 6 rfl) (by decide) (by decide)) q54a q54c (g := (mkF m 14 #[.val (.int p1), .val (.int (12 : Int32)), .val (.ref w_SUB_PROCESS), .unset, .unset] [(.ref w_SUB_PROCESS)])) rfl (by rw [hml]; rfl) (Steps.refl _) (argsL := []) (rest := []) (lenOf pd_1 rfl) rfl (by show 2 * 0 + _ ≤ _; exact Nat.le_of_eq rfl) (hb hby at_14) (fun _ _ => ⟨rfl, e53, (by decide : 0 + 0 ≤ _), (by decide : 0 + 0 ≤ _)⟩)
    dsimp only [Pt.U, Pt.locs, Pt.cells, Pt.slots] at X54 l54 y54 z54 st54 hQ54
    subst l54 y54 z54
    obtain ⟨rfl, N54q, e54⟩ := hQ54
    have N54 := Fr.app N53 N54q
    refine OGot.on st54 ?_
    show OGot p.tables e below (T54.setTop (mkF m 17 #[.val (.int p1), .val (.int (12 : Int32)), .val (.ref w_SUB_PROCESS), .unset, .unset] [(.int (0 : Int32))])) _
    refine OGot.go (fun t k => XS.istoreN X54.here hx rfl (hb hby at_17) rfl (l' := #[.val (.int p1), .val (.int (12 : Int32)), .val (.ref w_SUB_PROCESS), .val (.int (0 : Int32)), .unset]) rfl k) ?_
    show OGot p.tables e below (T54.setTop (mkF m 18 #[.val (.int p1), .val (.int (12 : Int32)), .val (.ref w_SUB_PROCESS), .val (.int (0 : Int32)), .unset] [])) _
    refine OGot.go (fun t k => XS.iloadN X54.here hx rfl (hb hby at_18) rfl k) ?_
    show OGot p.tables e below (T54.setTop (mkF m 19 #[.val (.int p1), .val (.int (12 : Int32)), .val (.ref w_SUB_PROCESS), .val (.int (0 : Int32)), .unset] [(.int (12 : Int32))])) _
    obtain ⟨_, _, ⟨T55, L55, k55, n55⟩, -, X55, ⟨Lc55, hQ55, l55, y55, z55⟩, st55⟩ := Jvm.LawKit.callS X54 hx (y := (⟨"com/example/chorale/chorale/KindAttachesPinLaw", "isBoundaryIndex", "(I)Z"⟩ : MethodName)) hown (mvT hZ (ow hw 17 rfl)) (mvT hZ (ow hw 18 rfl)) (mvT hZ (ow hw 3 rfl)) (mvT hZ (ow hw 19 rfl)) (by decide) (backOf (W := 0) (rm3_12 l Z a0 hw [] G  h0 n0 O0 ) hZ (ow hw 19 rfl) (ow hw 3 rfl) (by decide) (by decide)) (g := (mkF m 19 #[.val (.int p1), .val (.int (12 : Int32)), .val (.ref w_SUB_PROCESS), .val (.int (0 : Int32)), .unset] [(.int (12 : Int32))])) rfl (by rw [hml]; rfl) (argsL := [(.int (12 : Int32))]) (rest := []) (lenOf pd_2 rfl) rfl (by show 2 * 0 + _ ≤ _; exact Nat.le_of_eq rfl) (hb hby at_19) (fun _ _ => ⟨rfl, e54, (by decide : 0 + 0 ≤ _), (by decide : 0 + 0 ≤ _)⟩)
    dsimp only [Pt.U, Pt.locs, Pt.cells, Pt.slots] at X55 l55 y55 z55 st55 hQ55
    subst l55 y55 z55
    obtain ⟨rfl, N55q, e55⟩ := hQ55
    have N55 := Fr.app N54 N55q
    refine OGot.go st55 ?_
    show OGot p.tables e below (T55.setTop (mkF m 22 #[.val (.int p1), .val (.int (12 : Int32)), .val (.ref w_SUB_PROCESS), .val (.int (0 : Int32)), .unset] [(.int (0 : Int32))])) _
    refine OGot.go (fun t k => XS.istore X55.here hx rfl (hb hby at_22) rfl (l' := #[.val (.int p1), .val (.int (12 : Int32)), .val (.ref w_SUB_PROCESS), .val (.int (0 : Int32)), .val (.int (0 : Int32))]) rfl k) ?_
    show OGot p.tables e below (T55.setTop (mkF m 24 #[.val (.int p1), .val (.int (12 : Int32)), .val (.ref w_SUB_PROCESS), .val (.int (0 : Int32)), .val (.int (0 : Int32))] [])) _
    refine OGot.go (fun t k => XS.iloadN X55.here hx rfl (hb hby at_24) rfl k) ?_
    show OGot p.tables e below (T55.setTop (mkF m 25 #[.val (.int p1), .val (.int (12 : Int32)), .val (.ref w_SUB_PROCESS), .val (.int (0 : Int32)), .val (.int (0 : Int32))] [(.int (0 : Int32))])) _
    refine OGot.go (fun t k => XS.iload X55.here hx rfl (hb hby at_25) rfl k) ?_
    show OGot p.tables e below (T55.setTop (mkF m 27 #[.val (.int p1), .val (.int (12 : Int32)), .val (.ref w_SUB_PROCESS), .val (.int (0 : Int32)), .val (.int (0 : Int32))] [(.int (0 : Int32)), (.int (0 : Int32))])) _
    refine OGot.go (fun t k => XS.icmpYes X55.here hx rfl (pc0 := 27) (pc' := 32) rfl (hb hby at_27) rfl (by decide) (by decide) (by decide) k) ?_
    show OGot p.tables e below (T55.setTop (mkF m 32 #[.val (.int p1), .val (.int (12 : Int32)), .val (.ref w_SUB_PROCESS), .val (.int (0 : Int32)), .val (.int (0 : Int32))] [])) _
    refine OGot.go (fun t k => XS.iloadN X55.here hx rfl (hb hby at_32) rfl k) ?_
    show OGot p.tables e below (T55.setTop (mkF m 33 #[.val (.int p1), .val (.int (12 : Int32)), .val (.ref w_SUB_PROCESS), .val (.int (0 : Int32)), .val (.int (0 : Int32))] [(.int (0 : Int32))])) _
    refine OGot.go (fun t k => XS.ifYes X55.here hx rfl (pc0 := 33) (pc' := 45) rfl (hb hby at_33) rfl (by decide) (by decide) (by decide) k) ?_
    show OGot p.tables e below (T55.setTop (mkF m 45 #[.val (.int p1), .val (.int (12 : Int32)), .val (.ref w_SUB_PROCESS), .val (.int (0 : Int32)), .val (.int (0 : Int32))] [])) _
    refine OGot.go (fun t k => XS.iconst X55.here hx rfl (hb hby at_45) k) ?_
    show OGot p.tables e below (T55.setTop (mkF m 46 #[.val (.int p1), .val (.int (12 : Int32)), .val (.ref w_SUB_PROCESS), .val (.int (0 : Int32)), .val (.int (0 : Int32))] [(.int (1 : Int32))])) _
    obtain ⟨fs, hr, hrun, hended, hW, hsame⟩ := X55.leave (v := some (.int (1 : Int32))) (fun h => by rw [Bd.returns] at h; cases h)
    refine ⟨_, _, retN X55 hx (t := .boolean) Bd.returns (by simp) (hb hby at_46) hr, hrun, hended, _, _, rfl, ?_, ⟨_, rfl⟩, hW, hsame.mono (by decide) (by decide)⟩
    exact (⟨rfl, N55⟩ : Q0 Z w_START_EVENT w_BOUNDARY_EVENT w_MESSAGE_BOUNDARY_EVENT w_TERMINATE_END_EVENT w_LINK_THROW_EVENT w_LINK_CATCH_EVENT w_RECEPTION w_END_EVENT w_EVENT_BASED_GATEWAY w_INCLUSIVE_GATEWAY w_EXCLUSIVE_GATEWAY w_MESSAGE_START_EVENT w_SUB_PROCESS w_ACTIVITY w_PARALLEL_GATEWAY p1 h0 n0 _ T55.heap _)
  · rw [hk15]
    show OGot p.tables e below (s₁.setTop (mkF m 7 #[.val (.int p1), .unset, .unset, .unset, .unset] [(.int (13 : Int32))])) _
    refine OGot.go (fun t k => XS.istoreN X0.here hx rfl (hb hby at_7) rfl (l' := #[.val (.int p1), .val (.int (13 : Int32)), .unset, .unset, .unset]) rfl k) ?_
    show OGot p.tables e below (s₁.setTop (mkF m 8 #[.val (.int p1), .val (.int (13 : Int32)), .unset, .unset, .unset] [])) _
    refine OGot.go (fun t k => XS.iloadN X0.here hx rfl (hb hby at_8) rfl k) ?_
    show OGot p.tables e below (s₁.setTop (mkF m 9 #[.val (.int p1), .val (.int (13 : Int32)), .unset, .unset, .unset] [(.int (13 : Int32))])) _
    obtain ⟨_, _, ⟨T56, L56, k56, n56⟩, -, X56, ⟨Lc56, hQ56, l56, y56, z56⟩, st56⟩ := Jvm.LawKit.callS X0 hx (y := (⟨"com/example/chorale/chorale/KindAttachesPinLaw", "kindAt", "(I)Lcom/example/chorale/chorale/FlowGraph$Kind;"⟩ : MethodName)) hown (mvT hZ (ow hw 1 rfl)) (mvT hZ (ow hw 2 rfl)) (mvT hZ (ow hw 3 rfl)) (mvT hZ (ow hw 4 rfl)) (by decide) (backOf (W := 0) (rm1_13 l Z a0 hw [] G  h0 n0 O0 ) hZ (ow hw 4 rfl) (ow hw 3 rfl) (by decide) (by decide)) (g := (mkF m 9 #[.val (.int p1), .val (.int (13 : Int32)), .unset, .unset, .unset] [(.int (13 : Int32))])) rfl (by rw [hml]; rfl) (argsL := [(.int (13 : Int32))]) (rest := []) (lenOf pd_0 rfl) rfl (by show 2 * 0 + _ ≤ _; exact Nat.le_of_eq rfl) (hb hby at_9) (fun _ _ => ⟨rfl, e0, (by decide : 0 + 0 ≤ _), (by decide : 0 + 0 ≤ _)⟩)
    dsimp only [Pt.U, Pt.locs, Pt.cells, Pt.slots] at X56 l56 y56 z56 st56 hQ56
    subst l56 y56 z56
    obtain ⟨rfl, N56q, e56⟩ := hQ56
    have N56 := Fr.app N0 N56q
    refine OGot.go st56 ?_
    show OGot p.tables e below (T56.setTop (mkF m 12 #[.val (.int p1), .val (.int (13 : Int32)), .unset, .unset, .unset] [(.ref w_BOUNDARY_EVENT)])) _
    refine OGot.go (fun t k => XS.astoreN X56.here hx rfl (hb hby at_12) rfl rfl (l' := #[.val (.int p1), .val (.int (13 : Int32)), .val (.ref w_BOUNDARY_EVENT), .unset, .unset]) rfl k) ?_
    show OGot p.tables e below (T56.setTop (mkF m 13 #[.val (.int p1), .val (.int (13 : Int32)), .val (.ref w_BOUNDARY_EVENT), .unset, .unset] [])) _
    refine OGot.go (fun t k => XS.aloadN X56.here hx rfl (hb hby at_13) rfl rfl k) ?_
    show OGot p.tables e below (T56.setTop (mkF m 14 #[.val (.int p1), .val (.int (13 : Int32)), .val (.ref w_BOUNDARY_EVENT), .unset, .unset] [(.ref w_BOUNDARY_EVENT)])) _
    obtain ⟨cq57, kq57, q57a, q57b, q57c⟩ := isOf hZ e56 (G.2.2.2.1.ext O0.2)
    obtain ⟨_, _, ⟨T57, L57, k57, n57⟩, -, X57, ⟨Lc57, hQ57, l57, y57, z57⟩, st57⟩ := X56.virtualBack hx (y := (⟨"com/example/chorale/chorale/FlowGraph$Kind", "attaches", "()Z"⟩ : MethodName)) (z := (⟨"com/example/chorale/chorale/FlowGraph$Kind", "attaches", "()Z"⟩ : MethodName)) hown (mvT hZ (ow hw 8 rfl)) (mvT hZ (ow hw 9 rfl)) (notFace_of_selects (args := #[]) (mvT hZ (ow hw 11 rfl))) (mvT hZ (ow hw 11 rfl)) (mvT hZ (ow hw 10 rfl)) (by decide) (backOf (W := 0) (rm2_13 l Z a0 hw [] G  h0 n0 O0 ) hZ (ow hw 12 rfl) (ow hw 6 rfl) (by decide) (by decide)) q57a q57c (g := (mkF m 14 #[.val (.int p1), .val (.int (13 : Int32)), .val (.ref w_BOUNDARY_EVENT), .unset, .unset] [(.ref w_BOUNDARY_EVENT)])) rfl (by rw [hml]; rfl) (Steps.refl _) (argsL := []) (rest := []) (lenOf pd_1 rfl) rfl (by show 2 * 0 + _ ≤ _; exact Nat.le_of_eq rfl) (hb hby at_14) (fun _ _ => ⟨rfl, e56, (by decide : 0 + 0 ≤ _), (by decide : 0 + 0 ≤ _)⟩)
    dsimp only [Pt.U, Pt.locs, Pt.cells, Pt.slots] at X57 l57 y57 z57 st57 hQ57
    subst l57 y57 z57
    obtain ⟨rfl, N57q, e57⟩ := hQ57
    have N57 := Fr.app N56 N57q
    refine OGot.on st57 ?_
    show OGot p.tables e below (T57.setTop (mkF m 17 #[.val (.int p1), .val (.int (13 : Int32)), .val (.ref w_BOUNDARY_EVENT), .unset, .unset] [(.int (1 : Int32))])) _
    refine OGot.go (fun t k => XS.istoreN X57.here hx rfl (hb hby at_17) rfl (l' := #[.val (.int p1), .val (.int (13 : Int32)), .val (.ref w_BOUNDARY_EVENT), .val (.int (1 : Int32)), .unset]) rfl k) ?_
    show OGot p.tables e below (T57.setTop (mkF m 18 #[.val (.int p1), .val (.int (13 : Int32)), .val (.ref w_BOUNDARY_EVENT), .val (.int (1 : Int32)), .unset] [])) _
    refine OGot.go (fun t k => XS.iloadN X57.here hx rfl (hb hby at_18) rfl k) ?_
    show OGot p.tables e below (T57.setTop (mkF m 19 #[.val (.int p1), .val (.int (13 : Int32)), .val (.ref w_BOUNDARY_EVENT), .val (.int (1 : Int32)), .unset] [(.int (13 : Int32))])) _
    obtain ⟨_, _, ⟨T58, L58, k58, n58⟩, -, X58, ⟨Lc58, hQ58, l58, y58, z58⟩, st58⟩ := Jvm.LawKit.callS X57 hx (y := (⟨"com/example/chorale/chorale/KindAttachesPinLaw", "isBoundaryIndex", "(I)Z"⟩ : MethodName)) hown (mvT hZ (ow hw 17 rfl)) (mvT hZ (ow hw 18 rfl)) (mvT hZ (ow hw 3 rfl)) (mvT hZ (ow hw 19 rfl)) (by decide) (backOf (W := 0) (rm3_13 l Z a0 hw [] G  h0 n0 O0 ) hZ (ow hw 19 rfl) (ow hw 3 rfl) (by decide) (by decide)) (g := (mkF m 19 #[.val (.int p1), .val (.int (13 : Int32)), .val (.ref w_BOUNDARY_EVENT), .val (.int (1 : Int32)), .unset] [(.int (13 : Int32))])) rfl (by rw [hml]; rfl) (argsL := [(.int (13 : Int32))]) (rest := []) (lenOf pd_2 rfl) rfl (by show 2 * 0 + _ ≤ _; exact Nat.le_of_eq rfl) (hb hby at_19) (fun _ _ => ⟨rfl, e57, (by decide : 0 + 0 ≤ _), (by decide : 0 + 0 ≤ _)⟩)
    dsimp only [Pt.U, Pt.locs, Pt.cells, Pt.slots] at X58 l58 y58 z58 st58 hQ58
    subst l58 y58 z58
    obtain ⟨rfl, N58q, e58⟩ := hQ58
    have N58 := Fr.app N57 N58q
    refine OGot.go st58 ?_
    show OGot p.tables e below (T58.setTop (mkF m 22 #[.val (.int p1), .val (.int (13 : Int32)), .val (.ref w_BOUNDARY_EVENT), .val (.int (1 : Int32)), .unset] [(.int (1 : Int32))])) _
    refine OGot.go (fun t k => XS.istore X58.here hx rfl (hb hby at_22) rfl (l' := #[.val (.int p1), .val (.int (13 : Int32)), .val (.ref w_BOUNDARY_EVENT), .val (.int (1 : Int32)), .val (.int (1 : Int32))]) rfl k) ?_
    show OGot p.tables e below (T58.setTop (mkF m 24 #[.val (.int p1), .val (.int (13 : Int32)), .val (.ref w_BOUNDARY_EVENT), .val (.int (1 : Int32)), .val (.int (1 : Int32))] [])) _
    refine OGot.go (fun t k => XS.iloadN X58.here hx rfl (hb hby at_24) rfl k) ?_
    show OGot p.tables e below (T58.setTop (mkF m 25 #[.val (.int p1), .val (.int (13 : Int32)), .val (.ref w_BOUNDARY_EVENT), .val (.int (1 : Int32)), .val (.int (1 : Int32))] [(.int (1 : Int32))])) _
    refine OGot.go (fun t k => XS.iload X58.here hx rfl (hb hby at_25) rfl k) ?_
    show OGot p.tables e below (T58.setTop (mkF m 27 #[.val (.int p1), .val (.int (13 : Int32)), .val (.ref w_BOUNDARY_EVENT), .val (.int (1 : Int32)), .val (.int (1 : Int32))] [(.int (1 : Int32)), (.int (1 : Int32))])) _
    refine OGot.go (fun t k => XS.icmpYes X58.here hx rfl (pc0 := 27) (pc' := 32) rfl (hb hby at_27) rfl (by decide) (by decide) (by decide) k) ?_
    show OGot p.tables e below (T58.setTop (mkF m 32 #[.val (.int p1), .val (.int (13 : Int32)), .val (.ref w_BOUNDARY_EVENT), .val (.int (1 : Int32)), .val (.int (1 : Int32))] [])) _
    refine OGot.go (fun t k => XS.iloadN X58.here hx rfl (hb hby at_32) rfl k) ?_
    show OGot p.tables e below (T58.setTop (mkF m 33 #[.val (.int p1), .val (.int (13 : Int32)), .val (.ref w_BOUNDARY_EVENT), .val (.int (1 : Int32)), .val (.int (1 : Int32))] [(.int (1 : Int32))])) _
    refine OGot.go (fun t k => XS.ifNo X58.here hx rfl (hb hby at_33) rfl (by decide) k) ?_
    show OGot p.tables e below (T58.setTop (mkF m 36 #[.val (.int p1), .val (.int (13 : Int32)), .val (.ref w_BOUNDARY_EVENT), .val (.int (1 : Int32)), .val (.int (1 : Int32))] [])) _
    refine OGot.go (fun t k => XS.aloadN X58.here hx rfl (hb hby at_36) rfl rfl k) ?_
    show OGot p.tables e below (T58.setTop (mkF m 37 #[.val (.int p1), .val (.int (13 : Int32)), .val (.ref w_BOUNDARY_EVENT), .val (.int (1 : Int32)), .val (.int (1 : Int32))] [(.ref w_BOUNDARY_EVENT)])) _
    obtain ⟨cq59, kq59, q59a, q59b, q59c⟩ := isOf hZ e58 (G.2.2.2.1.ext O0.2)
    obtain ⟨_, _, ⟨T59, L59, k59, n59⟩, -, X59, ⟨Lc59, hQ59, l59, y59, z59⟩, st59⟩ := X58.virtualBack hx (y := (⟨"com/example/chorale/chorale/FlowGraph$Kind", "takesOwnToken", "()Z"⟩ : MethodName)) (z := (⟨"com/example/chorale/chorale/FlowGraph$Kind", "takesOwnToken", "()Z"⟩ : MethodName)) hown (mvT hZ (ow hw 25 rfl)) (mvT hZ (ow hw 26 rfl)) (notFace_of_selects (args := #[]) (mvT hZ (ow hw 28 rfl))) (mvT hZ (ow hw 28 rfl)) (mvT hZ (ow hw 27 rfl)) (by decide) (backOf (W := 0) (rm4 l Z a0 hw [] G  h0 n0 O0 ) hZ (ow hw 29 rfl) (ow hw 6 rfl) (by decide) (by decide)) q59a q59c (g := (mkF m 37 #[.val (.int p1), .val (.int (13 : Int32)), .val (.ref w_BOUNDARY_EVENT), .val (.int (1 : Int32)), .val (.int (1 : Int32))] [(.ref w_BOUNDARY_EVENT)])) rfl (by rw [hml]; rfl) (Steps.refl _) (argsL := []) (rest := []) (lenOf pd_1 rfl) rfl (by show 2 * 0 + _ ≤ _; exact Nat.le_of_eq rfl) (hb hby at_37) (fun _ _ => ⟨rfl, e58, (by decide : 0 + 0 ≤ _), (by decide : 0 + 0 ≤ _)⟩)
    dsimp only [Pt.U, Pt.locs, Pt.cells, Pt.slots] at X59 l59 y59 z59 st59 hQ59
    subst l59 y59 z59
    obtain ⟨rfl, N59q, e59⟩ := hQ59
    have N59 := Fr.app N58 N59q
    refine OGot.on st59 ?_
    show OGot p.tables e below (T59.setTop (mkF m 40 #[.val (.int p1), .val (.int (13 : Int32)), .val (.ref w_BOUNDARY_EVENT), .val (.int (1 : Int32)), .val (.int (1 : Int32))] [(.int (0 : Int32))])) _
    refine OGot.go (fun t k => XS.ifYes X59.here hx rfl (pc0 := 40) (pc' := 45) rfl (hb hby at_40) rfl (by decide) (by decide) (by decide) k) ?_
    show OGot p.tables e below (T59.setTop (mkF m 45 #[.val (.int p1), .val (.int (13 : Int32)), .val (.ref w_BOUNDARY_EVENT), .val (.int (1 : Int32)), .val (.int (1 : Int32))] [])) _
    refine OGot.go (fun t k => XS.iconst X59.here hx rfl (hb hby at_45) k) ?_
    show OGot p.tables e below (T59.setTop (mkF m 46 #[.val (.int p1), .val (.int (13 : Int32)), .val (.ref w_BOUNDARY_EVENT), .val (.int (1 : Int32)), .val (.int (1 : Int32))] [(.int (1 : Int32))])) _
    obtain ⟨fs, hr, hrun, hended, hW, hsame⟩ := X59.leave (v := some (.int (1 : Int32))) (fun h => by rw [Bd.returns] at h; cases h)
    refine ⟨_, _, retN X59 hx (t := .boolean) Bd.returns (by simp) (hb hby at_46) hr, hrun, hended, _, _, rfl, ?_, ⟨_, rfl⟩, hW, hsame.mono (by decide) (by decide)⟩
    exact (⟨rfl, N59⟩ : Q0 Z w_START_EVENT w_BOUNDARY_EVENT w_MESSAGE_BOUNDARY_EVENT w_TERMINATE_END_EVENT w_LINK_THROW_EVENT w_LINK_CATCH_EVENT w_RECEPTION w_END_EVENT w_EVENT_BASED_GATEWAY w_INCLUSIVE_GATEWAY w_EXCLUSIVE_GATEWAY w_MESSAGE_START_EVENT w_SUB_PROCESS w_ACTIVITY w_PARALLEL_GATEWAY p1 h0 n0 _ T59.heap _)
  · rw [hk16]
    show OGot p.tables e below (s₁.setTop (mkF m 7 #[.val (.int p1), .unset, .unset, .unset, .unset] [(.int (14 : Int32))])) _
    refine OGot.go (fun t k => XS.istoreN X0.here hx rfl (hb hby at_7) rfl (l' := #[.val (.int p1), .val (.int (14 : Int32)), .unset, .unset, .unset]) rfl k) ?_
    show OGot p.tables e below (s₁.setTop (mkF m 8 #[.val (.int p1), .val (.int (14 : Int32)), .unset, .unset, .unset] [])) _
    refine OGot.go (fun t k => XS.iloadN X0.here hx rfl (hb hby at_8) rfl k) ?_
    show OGot p.tables e below (s₁.setTop (mkF m 9 #[.val (.int p1), .val (.int (14 : Int32)), .unset, .unset, .unset] [(.int (14 : Int32))])) _
    obtain ⟨_, _, ⟨T60, L60, k60, n60⟩, -, X60, ⟨Lc60, hQ60, l60, y60, z60⟩, st60⟩ := Jvm.LawKit.callS X0 hx (y := (⟨"com/example/chorale/chorale/KindAttachesPinLaw", "kindAt", "(I)Lcom/example/chorale/chorale/FlowGraph$Kind;"⟩ : MethodName)) hown (mvT hZ (ow hw 1 rfl)) (mvT hZ (ow hw 2 rfl)) (mvT hZ (ow hw 3 rfl)) (mvT hZ (ow hw 4 rfl)) (by decide) (backOf (W := 0) (rm1_14 l Z a0 hw [] G  h0 n0 O0 ) hZ (ow hw 4 rfl) (ow hw 3 rfl) (by decide) (by decide)) (g := (mkF m 9 #[.val (.int p1), .val (.int (14 : Int32)), .unset, .unset, .unset] [(.int (14 : Int32))])) rfl (by rw [hml]; rfl) (argsL := [(.int (14 : Int32))]) (rest := []) (lenOf pd_0 rfl) rfl (by show 2 * 0 + _ ≤ _; exact Nat.le_of_eq rfl) (hb hby at_9) (fun _ _ => ⟨rfl, e0, (by decide : 0 + 0 ≤ _), (by decide : 0 + 0 ≤ _)⟩)
    dsimp only [Pt.U, Pt.locs, Pt.cells, Pt.slots] at X60 l60 y60 z60 st60 hQ60
    subst l60 y60 z60
    obtain ⟨rfl, N60q, e60⟩ := hQ60
    have N60 := Fr.app N0 N60q
    refine OGot.go st60 ?_
    show OGot p.tables e below (T60.setTop (mkF m 12 #[.val (.int p1), .val (.int (14 : Int32)), .unset, .unset, .unset] [(.ref w_MESSAGE_BOUNDARY_EVENT)])) _
    refine OGot.go (fun t k => XS.astoreN X60.here hx rfl (hb hby at_12) rfl rfl (l' := #[.val (.int p1), .val (.int (14 : Int32)), .val (.ref w_MESSAGE_BOUNDARY_EVENT), .unset, .unset]) rfl k) ?_
    show OGot p.tables e below (T60.setTop (mkF m 13 #[.val (.int p1), .val (.int (14 : Int32)), .val (.ref w_MESSAGE_BOUNDARY_EVENT), .unset, .unset] [])) _
    refine OGot.go (fun t k => XS.aloadN X60.here hx rfl (hb hby at_13) rfl rfl k) ?_
    show OGot p.tables e below (T60.setTop (mkF m 14 #[.val (.int p1), .val (.int (14 : Int32)), .val (.ref w_MESSAGE_BOUNDARY_EVENT), .unset, .unset] [(.ref w_MESSAGE_BOUNDARY_EVENT)])) _
    obtain ⟨cq61, kq61, q61a, q61b, q61c⟩ := isOf hZ e60 (G.2.2.2.2.2.1.ext O0.2)
    obtain ⟨_, _, ⟨T61, L61, k61, n61⟩, -, X61, ⟨Lc61, hQ61, l61, y61, z61⟩, st61⟩ := X60.virtualBack hx (y := (⟨"com/example/chorale/chorale/FlowGraph$Kind", "attaches", "()Z"⟩ : MethodName)) (z := (⟨"com/example/chorale/chorale/FlowGraph$Kind", "attaches", "()Z"⟩ : MethodName)) hown (mvT hZ (ow hw 8 rfl)) (mvT hZ (ow hw 9 rfl)) (notFace_of_selects (args := #[]) (mvT hZ (ow hw 11 rfl))) (mvT hZ (ow hw 11 rfl)) (mvT hZ (ow hw 10 rfl)) (by decide) (backOf (W := 0) (rm2_14 l Z a0 hw [] G  h0 n0 O0 ) hZ (ow hw 12 rfl) (ow hw 6 rfl) (by decide) (by decide)) q61a q61c (g := (mkF m 14 #[.val (.int p1), .val (.int (14 : Int32)), .val (.ref w_MESSAGE_BOUNDARY_EVENT), .unset, .unset] [(.ref w_MESSAGE_BOUNDARY_EVENT)])) rfl (by rw [hml]; rfl) (Steps.refl _) (argsL := []) (rest := []) (lenOf pd_1 rfl) rfl (by show 2 * 0 + _ ≤ _; exact Nat.le_of_eq rfl) (hb hby at_14) (fun _ _ => ⟨rfl, e60, (by decide : 0 + 0 ≤ _), (by decide : 0 + 0 ≤ _)⟩)
    dsimp only [Pt.U, Pt.locs, Pt.cells, Pt.slots] at X61 l61 y61 z61 st61 hQ61
    subst l61 y61 z61
    obtain ⟨rfl, N61q, e61⟩ := hQ61
    have N61 := Fr.app N60 N61q
    refine OGot.on st61 ?_
    show OGot p.tables e below (T61.setTop (mkF m 17 #[.val (.int p1), .val (.int (14 : Int32)), .val (.ref w_MESSAGE_BOUNDARY_EVENT), .unset, .unset] [(.int (1 : Int32))])) _
    refine OGot.go (fun t k => XS.istoreN X61.here hx rfl (hb hby at_17) rfl (l' := #[.val (.int p1), .val (.int (14 : Int32)), .val (.ref w_MESSAGE_BOUNDARY_EVENT), .val (.int (1 : Int32)), .unset]) rfl k) ?_
    show OGot p.tables e below (T61.setTop (mkF m 18 #[.val (.int p1), .val (.int (14 : Int32)), .val (.ref w_MESSAGE_BOUNDARY_EVENT), .val (.int (1 : Int32)), .unset] [])) _
    refine OGot.go (fun t k => XS.iloadN X61.here hx rfl (hb hby at_18) rfl k) ?_
    show OGot p.tables e below (T61.setTop (mkF m 19 #[.val (.int p1), .val (.int (14 : Int32)), .val (.ref w_MESSAGE_BOUNDARY_EVENT), .val (.int (1 : Int32)), .unset] [(.int (14 : Int32))])) _
    obtain ⟨_, _, ⟨T62, L62, k62, n62⟩, -, X62, ⟨Lc62, hQ62, l62, y62, z62⟩, st62⟩ := Jvm.LawKit.callS X61 hx (y := (⟨"com/example/chorale/chorale/KindAttachesPinLaw", "isBoundaryIndex", "(I)Z"⟩ : MethodName)) hown (mvT hZ (ow hw 17 rfl)) (mvT hZ (ow hw 18 rfl)) (mvT hZ (ow hw 3 rfl)) (mvT hZ (ow hw 19 rfl)) (by decide) (backOf (W := 0) (rm3_14 l Z a0 hw [] G  h0 n0 O0 ) hZ (ow hw 19 rfl) (ow hw 3 rfl) (by decide) (by decide)) (g := (mkF m 19 #[.val (.int p1), .val (.int (14 : Int32)), .val (.ref w_MESSAGE_BOUNDARY_EVENT), .val (.int (1 : Int32)), .unset] [(.int (14 : Int32))])) rfl (by rw [hml]; rfl) (argsL := [(.int (14 : Int32))]) (rest := []) (lenOf pd_2 rfl) rfl (by show 2 * 0 + _ ≤ _; exact Nat.le_of_eq rfl) (hb hby at_19) (fun _ _ => ⟨rfl, e61, (by decide : 0 + 0 ≤ _), (by decide : 0 + 0 ≤ _)⟩)
    dsimp only [Pt.U, Pt.locs, Pt.cells, Pt.slots] at X62 l62 y62 z62 st62 hQ62
    subst l62 y62 z62
    obtain ⟨rfl, N62q, e62⟩ := hQ62
    have N62 := Fr.app N61 N62q
    refine OGot.go st62 ?_
    show OGot p.tables e below (T62.setTop (mkF m 22 #[.val (.int p1), .val (.int (14 : Int32)), .val (.ref w_MESSAGE_BOUNDARY_EVENT), .val (.int (1 : Int32)), .unset] [(.int (1 : Int32))])) _
    refine OGot.go (fun t k => XS.istore X62.here hx rfl (hb hby at_22) rfl (l' := #[.val (.int p1), .val (.int (14 : Int32)), .val (.ref w_MESSAGE_BOUNDARY_EVENT), .val (.int (1 : Int32)), .val (.int (1 : Int32))]) rfl k) ?_
    show OGot p.tables e below (T62.setTop (mkF m 24 #[.val (.int p1), .val (.int (14 : Int32)), .val (.ref w_MESSAGE_BOUNDARY_EVENT), .val (.int (1 : Int32)), .val (.int (1 : Int32))] [])) _
    refine OGot.go (fun t k => XS.iloadN X62.here hx rfl (hb hby at_24) rfl k) ?_
    show OGot p.tables e below (T62.setTop (mkF m 25 #[.val (.int p1), .val (.int (14 : Int32)), .val (.ref w_MESSAGE_BOUNDARY_EVENT), .val (.int (1 : Int32)), .val (.int (1 : Int32))] [(.int (1 : Int32))])) _
    refine OGot.go (fun t k => XS.iload X62.here hx rfl (hb hby at_25) rfl k) ?_
    show OGot p.tables e below (T62.setTop (mkF m 27 #[.val (.int p1), .val (.int (14 : Int32)), .val (.ref w_MESSAGE_BOUNDARY_EVENT), .val (.int (1 : Int32)), .val (.int (1 : Int32))] [(.int (1 : Int32)), (.int (1 : Int32))])) _
    refine OGot.go (fun t k => XS.icmpYes X62.here hx rfl (pc0 := 27) (pc' := 32) rfl (hb hby at_27) rfl (by decide) (by decide) (by decide) k) ?_
    show OGot p.tables e below (T62.setTop (mkF m 32 #[.val (.int p1), .val (.int (14 : Int32)), .val (.ref w_MESSAGE_BOUNDARY_EVENT), .val (.int (1 : Int32)), .val (.int (1 : Int32))] [])) _
    refine OGot.go (fun t k => XS.iloadN X62.here hx rfl (hb hby at_32) rfl k) ?_
    show OGot p.tables e below (T62.setTop (mkF m 33 #[.val (.int p1), .val (.int (14 : Int32)), .val (.ref w_MESSAGE_BOUNDARY_EVENT), .val (.int (1 : Int32)), .val (.int (1 : Int32))] [(.int (1 : Int32))])) _
    refine OGot.go (fun t k => XS.ifNo X62.here hx rfl (hb hby at_33) rfl (by decide) k) ?_
    show OGot p.tables e below (T62.setTop (mkF m 36 #[.val (.int p1), .val (.int (14 : Int32)), .val (.ref w_MESSAGE_BOUNDARY_EVENT), .val (.int (1 : Int32)), .val (.int (1 : Int32))] [])) _
    refine OGot.go (fun t k => XS.aloadN X62.here hx rfl (hb hby at_36) rfl rfl k) ?_
    show OGot p.tables e below (T62.setTop (mkF m 37 #[.val (.int p1), .val (.int (14 : Int32)), .val (.ref w_MESSAGE_BOUNDARY_EVENT), .val (.int (1 : Int32)), .val (.int (1 : Int32))] [(.ref w_MESSAGE_BOUNDARY_EVENT)])) _
    obtain ⟨cq63, kq63, q63a, q63b, q63c⟩ := isOf hZ e62 (G.2.2.2.2.2.1.ext O0.2)
    obtain ⟨_, _, ⟨T63, L63, k63, n63⟩, -, X63, ⟨Lc63, hQ63, l63, y63, z63⟩, st63⟩ := X62.virtualBack hx (y := (⟨"com/example/chorale/chorale/FlowGraph$Kind", "takesOwnToken", "()Z"⟩ : MethodName)) (z := (⟨"com/example/chorale/chorale/FlowGraph$Kind", "takesOwnToken", "()Z"⟩ : MethodName)) hown (mvT hZ (ow hw 25 rfl)) (mvT hZ (ow hw 26 rfl)) (notFace_of_selects (args := #[]) (mvT hZ (ow hw 28 rfl))) (mvT hZ (ow hw 28 rfl)) (mvT hZ (ow hw 27 rfl)) (by decide) (backOf (W := 0) (rm4_1 l Z a0 hw [] G  h0 n0 O0 ) hZ (ow hw 29 rfl) (ow hw 6 rfl) (by decide) (by decide)) q63a q63c (g := (mkF m 37 #[.val (.int p1), .val (.int (14 : Int32)), .val (.ref w_MESSAGE_BOUNDARY_EVENT), .val (.int (1 : Int32)), .val (.int (1 : Int32))] [(.ref w_MESSAGE_BOUNDARY_EVENT)])) rfl (by rw [hml]; rfl) (Steps.refl _) (argsL := []) (rest := []) (lenOf pd_1 rfl) rfl (by show 2 * 0 + _ ≤ _; exact Nat.le_of_eq rfl) (hb hby at_37) (fun _ _ => ⟨rfl, e62, (by decide : 0 + 0 ≤ _), (by decide : 0 + 0 ≤ _)⟩)
    dsimp only [Pt.U, Pt.locs, Pt.cells, Pt.slots] at X63 l63 y63 z63 st63 hQ63
    subst l63 y63 z63
    obtain ⟨rfl, N63q, e63⟩ := hQ63
    have N63 := Fr.app N62 N63q
    refine OGot.on st63 ?_
    show OGot p.tables e below (T63.setTop (mkF m 40 #[.val (.int p1), .val (.int (14 : Int32)), .val (.ref w_MESSAGE_BOUNDARY_EVENT), .val (.int (1 : Int32)), .val (.int (1 : Int32))] [(.int (0 : Int32))])) _
    refine OGot.go (fun t k => XS.ifYes X63.here hx rfl (pc0 := 40) (pc' := 45) rfl (hb hby at_40) rfl (by decide) (by decide) (by decide) k) ?_
    show OGot p.tables e below (T63.setTop (mkF m 45 #[.val (.int p1), .val (.int (14 : Int32)), .val (.ref w_MESSAGE_BOUNDARY_EVENT), .val (.int (1 : Int32)), .val (.int (1 : Int32))] [])) _
    refine OGot.go (fun t k => XS.iconst X63.here hx rfl (hb hby at_45) k) ?_
    show OGot p.tables e below (T63.setTop (mkF m 46 #[.val (.int p1), .val (.int (14 : Int32)), .val (.ref w_MESSAGE_BOUNDARY_EVENT), .val (.int (1 : Int32)), .val (.int (1 : Int32))] [(.int (1 : Int32))])) _
    obtain ⟨fs, hr, hrun, hended, hW, hsame⟩ := X63.leave (v := some (.int (1 : Int32))) (fun h => by rw [Bd.returns] at h; cases h)
    refine ⟨_, _, retN X63 hx (t := .boolean) Bd.returns (by simp) (hb hby at_46) hr, hrun, hended, _, _, rfl, ?_, ⟨_, rfl⟩, hW, hsame.mono (by decide) (by decide)⟩
    exact (⟨rfl, N63⟩ : Q0 Z w_START_EVENT w_BOUNDARY_EVENT w_MESSAGE_BOUNDARY_EVENT w_TERMINATE_END_EVENT w_LINK_THROW_EVENT w_LINK_CATCH_EVENT w_RECEPTION w_END_EVENT w_EVENT_BASED_GATEWAY w_INCLUSIVE_GATEWAY w_EXCLUSIVE_GATEWAY w_MESSAGE_START_EVENT w_SUB_PROCESS w_ACTIVITY w_PARALLEL_GATEWAY p1 h0 n0 _ T63.heap _)
set_option maxRecDepth 65536 in
set_option maxHeartbeats 40000000 in
theorem comes_1 {Post : Tables → Env → Array Value → State → Outcome → State → Prop} (hpost : ∀ tb e args s v u, (limb_1_1.after args s (.returned v) u = true ∧ limb_1_2.after args s (.returned v) u = true ∧ True) → FrameEnd s (.returned v) u (Jvm.fieldLocs frame_1_writes args s ++ Jvm.arrayLocs frame_1_arrays args s ++ Jvm.staticLocs frame_1_statics s) 0 0 → Post tb e args s (.returned v) u) :
    ArmFor flags0 classFile x code maxLocals ret World_1 tables_1 room_1 Calls_1 rest_1 Pre_1 Post := by
  intro l hfl _ _ p e ha hc hk s m args below hf hA hF happ hP
  obtain ⟨hcalls, hrest, hpre⟩ := hP
  obtain ⟨-, -, -, hnamed, -, -, -, hat⟩ := (Spec.applies_iff hf).mp happ
  obtain ⟨hg, hn⟩ := and_e (Cond.before_iff.mp (show (Jvm.Cond.and given_1 narrow_1).before args s = true from hpre))
  obtain ⟨g0, g0r⟩ := and_e hg
  obtain ⟨w0, rfl⟩ : ∃ w0 : Value, args = #[w0] := by
    have hs : args.size = 1 := by simpa [Cond.value, given_1] using g0
    obtain ⟨L⟩ := args
    match L, hs with
    | [w0], _ => exact ⟨w0, rfl⟩
  have hw := fun d (hd : d ∈ tables_1) => atoms_spec (ws := Jvm.Cond.code x code maxLocals ret :: tables_1) hat d (List.mem_cons_of_mem _ hd)
  obtain ⟨i0, ei0⟩ := is_v g0r
  obtain rfl : w0 = (.int i0) := Option.some.inj ei0
  obtain ⟨m0, m0r⟩ := and_e hn
  obtain ⟨m1, m1r⟩ := and_e m0r
  obtain ⟨m2, m2r⟩ := and_e m1r
  obtain ⟨m3, m3r⟩ := and_e m2r
  obtain ⟨m4, m4r⟩ := and_e m3r
  obtain ⟨m5, m5r⟩ := and_e m4r
  obtain ⟨m6, m6r⟩ := and_e m5r
  obtain ⟨m7, m7r⟩ := and_e m6r
  obtain ⟨m8, m8r⟩ := and_e m7r
  obtain ⟨m9, m9r⟩ := and_e m8r
  obtain ⟨m10, m10r⟩ := and_e m9r
  obtain ⟨m11, m11r⟩ := and_e m10r
  obtain ⟨m12, m12r⟩ := and_e m11r
  obtain ⟨m13, m13r⟩ := and_e m12r
  obtain ⟨m14, m14r⟩ := and_e m13r
  obtain ⟨m15, m15r⟩ := and_e m14r
  obtain ⟨m16, m16r⟩ := and_e m15r
  obtain ⟨m17, m17r⟩ := and_e m16r
  obtain ⟨m18, m18r⟩ := and_e m17r
  obtain ⟨m19, m19r⟩ := and_e m18r
  obtain ⟨m20, m20r⟩ := and_e m19r
  obtain ⟨m21, m21r⟩ := and_e m20r
  obtain ⟨m22, m22r⟩ := and_e m21r
  obtain ⟨m23, m23r⟩ := and_e m22r
  obtain ⟨m24, m24r⟩ := and_e m23r
  obtain ⟨m25, m25r⟩ := and_e m24r
  obtain ⟨m26, m26r⟩ := and_e m25r
  obtain ⟨m27, m27r⟩ := and_e m26r
  obtain ⟨m28, m28r⟩ := and_e m27r
  obtain ⟨w_START_EVENT, ev_w_START_EVENT⟩ := exa_v m0
  obtain ⟨w_BOUNDARY_EVENT, ev_w_BOUNDARY_EVENT⟩ := exa_v m1
  obtain ⟨w_MESSAGE_BOUNDARY_EVENT, ev_w_MESSAGE_BOUNDARY_EVENT⟩ := exa_v m4
  obtain ⟨w_TERMINATE_END_EVENT, ev_w_TERMINATE_END_EVENT⟩ := exa_v m6
  obtain ⟨w_LINK_THROW_EVENT, ev_w_LINK_THROW_EVENT⟩ := exa_v m8
  obtain ⟨w_LINK_CATCH_EVENT, ev_w_LINK_CATCH_EVENT⟩ := exa_v m10
  obtain ⟨w_RECEPTION, ev_w_RECEPTION⟩ := exa_v m12
  obtain ⟨w_END_EVENT, ev_w_END_EVENT⟩ := exa_v m14
  obtain ⟨w_EVENT_BASED_GATEWAY, ev_w_EVENT_BASED_GATEWAY⟩ := exa_v m16
  obtain ⟨w_INCLUSIVE_GATEWAY, ev_w_INCLUSIVE_GATEWAY⟩ := exa_v m18
  obtain ⟨w_EXCLUSIVE_GATEWAY, ev_w_EXCLUSIVE_GATEWAY⟩ := exa_v m20
  obtain ⟨w_MESSAGE_START_EVENT, ev_w_MESSAGE_START_EVENT⟩ := exa_v m22
  obtain ⟨w_SUB_PROCESS, ev_w_SUB_PROCESS⟩ := exa_v m24
  obtain ⟨w_ACTIVITY, ev_w_ACTIVITY⟩ := exa_v m26
  obtain ⟨w_PARALLEL_GATEWAY, ev_w_PARALLEL_GATEWAY⟩ := exa_v m28
  have G : Glob s w_START_EVENT w_BOUNDARY_EVENT w_MESSAGE_BOUNDARY_EVENT w_TERMINATE_END_EVENT w_LINK_THROW_EVENT w_LINK_CATCH_EVENT w_RECEPTION w_END_EVENT w_EVENT_BASED_GATEWAY w_INCLUSIVE_GATEWAY w_EXCLUSIVE_GATEWAY w_MESSAGE_START_EVENT w_SUB_PROCESS w_ACTIVITY w_PARALLEL_GATEWAY := ⟨(Sta.start ev_w_START_EVENT (Or.inr ⟨(ow hw 6 rfl), (ow hw 7 rfl)⟩)), (Exa.start ev_w_START_EVENT m0), (Sta.start ev_w_BOUNDARY_EVENT (Or.inr ⟨(ow hw 6 rfl), (ow hw 14 rfl)⟩)), (Exa.start ev_w_BOUNDARY_EVENT m1), (Sta.start ev_w_MESSAGE_BOUNDARY_EVENT (Or.inr ⟨(ow hw 6 rfl), (ow hw 16 rfl)⟩)), (Exa.start ev_w_MESSAGE_BOUNDARY_EVENT m4), (Sta.start ev_w_TERMINATE_END_EVENT (Or.inr ⟨(ow hw 6 rfl), (ow hw 21 rfl)⟩)), (Exa.start ev_w_TERMINATE_END_EVENT m6), (Sta.start ev_w_LINK_THROW_EVENT (Or.inr ⟨(ow hw 6 rfl), (ow hw 23 rfl)⟩)), (Exa.start ev_w_LINK_THROW_EVENT m8), (Sta.start ev_w_LINK_CATCH_EVENT (Or.inr ⟨(ow hw 6 rfl), (ow hw 32 rfl)⟩)), (Exa.start ev_w_LINK_CATCH_EVENT m10), (Sta.start ev_w_RECEPTION (Or.inr ⟨(ow hw 6 rfl), (ow hw 35 rfl)⟩)), (Exa.start ev_w_RECEPTION m12), (Sta.start ev_w_END_EVENT (Or.inr ⟨(ow hw 6 rfl), (ow hw 37 rfl)⟩)), (Exa.start ev_w_END_EVENT m14), (Sta.start ev_w_EVENT_BASED_GATEWAY (Or.inr ⟨(ow hw 6 rfl), (ow hw 39 rfl)⟩)), (Exa.start ev_w_EVENT_BASED_GATEWAY m16), (Sta.start ev_w_INCLUSIVE_GATEWAY (Or.inr ⟨(ow hw 6 rfl), (ow hw 41 rfl)⟩)), (Exa.start ev_w_INCLUSIVE_GATEWAY m18), (Sta.start ev_w_EXCLUSIVE_GATEWAY (Or.inr ⟨(ow hw 6 rfl), (ow hw 43 rfl)⟩)), (Exa.start ev_w_EXCLUSIVE_GATEWAY m20), (Sta.start ev_w_MESSAGE_START_EVENT (Or.inr ⟨(ow hw 6 rfl), (ow hw 45 rfl)⟩)), (Exa.start ev_w_MESSAGE_START_EVENT m22), (Sta.start ev_w_SUB_PROCESS (Or.inr ⟨(ow hw 6 rfl), (ow hw 47 rfl)⟩)), (Exa.start ev_w_SUB_PROCESS m24), (Sta.start ev_w_ACTIVITY (Or.inr ⟨(ow hw 6 rfl), (ow hw 49 rfl)⟩)), (Exa.start ev_w_ACTIVITY m26), (Sta.start ev_w_PARALLEL_GATEWAY (Or.inr ⟨(ow hw 6 rfl), (ow hw 51 rfl)⟩)), (Exa.start ev_w_PARALLEL_GATEWAY m28), (Fld.start ((fld_at ev_w_START_EVENT).symm.trans (oeq_int m2))), (Fld.start ((fld_at ev_w_BOUNDARY_EVENT).symm.trans (oeq_int m3))), (Fld.start ((fld_at ev_w_MESSAGE_BOUNDARY_EVENT).symm.trans (oeq_int m5))), (Fld.start ((fld_at ev_w_TERMINATE_END_EVENT).symm.trans (oeq_int m7))), (Fld.start ((fld_at ev_w_LINK_THROW_EVENT).symm.trans (oeq_int m9))), (Fld.start ((fld_at ev_w_LINK_CATCH_EVENT).symm.trans (oeq_int m11))), (Fld.start ((fld_at ev_w_RECEPTION).symm.trans (oeq_int m13))), (Fld.start ((fld_at ev_w_END_EVENT).symm.trans (oeq_int m15))), (Fld.start ((fld_at ev_w_EVENT_BASED_GATEWAY).symm.trans (oeq_int m17))), (Fld.start ((fld_at ev_w_INCLUSIVE_GATEWAY).symm.trans (oeq_int m19))), (Fld.start ((fld_at ev_w_EXCLUSIVE_GATEWAY).symm.trans (oeq_int m21))), (Fld.start ((fld_at ev_w_MESSAGE_START_EVENT).symm.trans (oeq_int m23))), (Fld.start ((fld_at ev_w_SUB_PROCESS).symm.trans (oeq_int m25))), (Fld.start ((fld_at ev_w_ACTIVITY).symm.trans (oeq_int m27))), (Fld.start ((fld_at ev_w_PARALLEL_GATEWAY).symm.trans (oeq_int m28r)))⟩
  obtain ⟨n, o, h1, h2, h3, _, L, rfl, ⟨rfl, N⟩, hq⟩ := rm0 l s _ hw tables_1 G i0 s.heap s.heap.size (Old.start s) p e ha hc hk s m _ below hf ((Spec.applies_iff_loose hf).mp happ).1 ⟨rfl, State.Warmed39.refl s, rfl⟩ trivial
  refine ⟨n, _, h1, h2, h3, hpost _ _ _ _ _ _ ⟨Cond.after_iff.mpr rfl, Cond.after_iff.mpr (eq_i res_at (Term.int_eval (1)) rfl), trivial⟩ ⟨hq.1, hq.2.1, (hq.2.2.sift fun y hy => Or.inr (N y hy)).mono (by decide) (by decide)⟩⟩
theorem main_1_1 : Claimed_1_1 := comes_1 fun _ _ _ _ _ _ h hF => ⟨h.1, hF⟩
theorem main_1_2 : Claimed_1_2 := comes_1 fun _ _ _ _ _ _ h hF => ⟨h.2.1, hF⟩
end Jvm.Pilot.@@N@@
namespace Jvm.Pilot.@@N@@
open Jvm Jvm.ClassFile Sem Op Lib Jvm.Free Jvm.Stand Jvm.Pilot.@@N@@.Jvm.D
/-! MADE BY PROGRAM (witnessworld.py) out of the Statement's table words and the real class files: 12 classes; the members and pool entries that the words name. The judged class is class 1, her method 3. -/
namespace start1
open Jvm.ClassFile
def u (s : String) : CpInfo := .utf8 (stringToUtf16 s)
/-- a pool by its gaps: so many unusable entries, then the entry; so many at the end -/
def gap : Nat → List CpInfo → List CpInfo
  | 0, r => r
  | n + 1, r => .unusable :: gap n r
def poolList (es : List (Nat × CpInfo)) (last : Nat) : List CpInfo := es.foldr (fun e r => gap e.1 (e.2 :: r)) (gap last [])
def pool (es : List (Nat × CpInfo)) (last : Nat) : Array CpInfo := ⟨poolList es last⟩
def fileOf (pool : Array CpInfo) (this : Nat) (attrs : Array Attribute := #[]) (ms : Array MethodInfo := #[]) (fl : Nat := 33) (sup : Nat := 0) (ifs : Array Nat := #[]) (fds : Array FieldInfo := #[]) : ClassFile where
  minorVersion := 0
  majorVersion := 65
  constantPool := pool
  accessFlags := fl
  thisClass := this
  superClass := sup
  interfaces := ifs
  fields := fds
  methods := ms
  attributes := attrs
def plain (name : String) (sup : Option ClassId) : Class where
  name := name
  kind := .ordinary
  loader := none
  accessFlags := 33
  super := sup
  interfaces := #[]
  cf := none
  fields := #[]
  methods := #[]
  instanceTypes := #[]
  staticTypes := #[]
  resolved := #[]
  callSites := []
  init := .initialized
  statics := none
  mirror := none

def pool0 : Array CpInfo := pool [(5, u "<init>"), (0, u "()V"), (1, .class_ 10), (1, u "java/lang/Object")] 113

def k0m0 : Method := { name := "<init>", desc := "()V", sig := { parameters := [], returnType := none }, accessFlags := 1, code := none }
/-- java/lang/Object -/
def k0 : Class := { plain "java/lang/Object" none with
  accessFlags := 33
  interfaces := #[]
  cf := some (fileOf pool0 8 #[] #[{ accessFlags := 1, nameIndex := 5, descriptorIndex := 6, attributes := #[] }] 33 0 #[] #[])
  fields := #[]
  methods := #[k0m0]
  instanceTypes := #[]
  staticTypes := #[]
  resolved := Array.replicate 124 none
  statics := none }

def pool1 : Array CpInfo := pool [(2, .class_ 4), (1, u "java/lang/Object"), (0, u "<init>"), (0, u "()V"), (0, .fieldref 8 9), (0, .class_ 10), (0, .nameAndType 11 12), (0, u "com/example/chorale/chorale/FlowGraph$Kind"), (0, u "START_EVENT"), (0, u "Lcom/example/chorale/chorale/FlowGraph$Kind;"), (0, .fieldref 8 14), (0, .nameAndType 15 12), (0, u "MESSAGE_START_EVENT"), (0, .fieldref 8 17), (0, .nameAndType 18 12), (0, u "END_EVENT"), (0, .fieldref 8 20), (0, .nameAndType 21 12), (0, u "TERMINATE_END_EVENT"), (0, .fieldref 8 23), (0, .nameAndType 24 12), (0, u "ACTIVITY"), (0, .fieldref 8 26), (0, .nameAndType 27 12), (0, u "LINK_THROW_EVENT"), (0, .fieldref 8 29), (0, .nameAndType 30 12), (0, u "LINK_CATCH_EVENT"), (0, .fieldref 8 32), (0, .nameAndType 33 12), (0, u "RECEPTION"), (0, .fieldref 8 35), (0, .nameAndType 36 12), (0, u "EXCLUSIVE_GATEWAY"), (0, .fieldref 8 38), (0, .nameAndType 39 12), (0, u "PARALLEL_GATEWAY"), (0, .fieldref 8 41), (0, .nameAndType 42 12), (0, u "INCLUSIVE_GATEWAY"), (0, .fieldref 8 44), (0, .nameAndType 45 12), (0, u "EVENT_BASED_GATEWAY"), (0, .fieldref 8 47), (0, .nameAndType 48 12), (0, u "SUB_PROCESS"), (0, .fieldref 8 50), (0, .nameAndType 51 12), (0, u "BOUNDARY_EVENT"), (0, .fieldref 8 53), (0, .nameAndType 54 12), (0, u "MESSAGE_BOUNDARY_EVENT"), (0, .integer 2147483647), (0, .methodref 57 58), (0, .class_ 59), (0, .nameAndType 60 61), (0, u "com/example/chorale/chorale/KindAttachesPinLaw"), (0, u "kindAt"), (0, u "(I)Lcom/example/chorale/chorale/FlowGraph$Kind;"), (0, .methodref 8 63), (0, .nameAndType 64 65), (0, u "attaches"), (0, u "()Z"), (0, .methodref 57 67), (0, .nameAndType 68 69), (0, u "isBoundaryIndex"), (0, u "(I)Z"), (0, .methodref 8 71), (0, .nameAndType 72 65), (0, u "takesOwnToken"), (3, u "law")] 6

def k1m0 : Method := { name := "<init>", desc := "()V", sig := { parameters := [], returnType := none }, accessFlags := 2, code := none }
def k1c1 : Code := { maxStack := 2, maxLocals := 1, code := method_2_code, exceptionTable := #[], attributes := #[] }
def k1m1 : Method := { name := "kindAt", desc := "(I)Lcom/example/chorale/chorale/FlowGraph$Kind;", sig := { parameters := [.int], returnType := some (.object "com/example/chorale/chorale/FlowGraph$Kind") }, accessFlags := 10, code := some k1c1 }
def k1c2 : Code := { maxStack := 2, maxLocals := 2, code := method_3_code, exceptionTable := #[], attributes := #[] }
def k1m2 : Method := { name := "isBoundaryIndex", desc := "(I)Z", sig := { parameters := [.int], returnType := some .boolean }, accessFlags := 10, code := some k1c2 }
def k1c3 : Code := { maxStack := 2, maxLocals := 5, code := code, exceptionTable := #[], attributes := #[] }
def k1m3 : Method := { name := "law", desc := "(I)Z", sig := { parameters := [.int], returnType := some .boolean }, accessFlags := 9, code := some k1c3 }
/-- com/example/chorale/chorale/KindAttachesPinLaw -/
def k1 : Class := { plain "com/example/chorale/chorale/KindAttachesPinLaw" (some 0) with
  accessFlags := 49
  interfaces := #[]
  cf := some (fileOf pool1 57 #[] #[{ accessFlags := 2, nameIndex := 5, descriptorIndex := 6, attributes := #[] }, { accessFlags := 10, nameIndex := 60, descriptorIndex := 61, attributes := #[] }, { accessFlags := 10, nameIndex := 68, descriptorIndex := 69, attributes := #[] }, { accessFlags := 9, nameIndex := 76, descriptorIndex := 69, attributes := #[] }] 49 2 #[] #[])
  fields := #[]
  methods := #[k1m0, k1m1, k1m2, k1m3]
  instanceTypes := #[]
  staticTypes := #[]
  resolved := Array.replicate 83 none
  statics := none }

def pool2 : Array CpInfo := pool [(1, .class_ 2), (0, u "java/lang/constant/Constable"), (0, .class_ 4), (0, u "java/lang/Object")] 6

/-- java/lang/constant/Constable -/
def k2 : Class := { plain "java/lang/constant/Constable" (some 0) with
  accessFlags := 1537
  interfaces := #[]
  cf := some (fileOf pool2 1 #[] #[] 1537 3 #[] #[])
  fields := #[]
  methods := #[]
  instanceTypes := #[]
  staticTypes := #[]
  resolved := Array.replicate 11 none
  statics := none }

def pool3 : Array CpInfo := pool [(1, .class_ 2), (0, u "java/lang/Comparable"), (0, .class_ 4), (0, u "java/lang/Object")] 7

/-- java/lang/Comparable -/
def k3 : Class := { plain "java/lang/Comparable" (some 0) with
  accessFlags := 1537
  interfaces := #[]
  cf := some (fileOf pool3 1 #[] #[] 1537 3 #[] #[])
  fields := #[]
  methods := #[]
  instanceTypes := #[]
  staticTypes := #[]
  resolved := Array.replicate 12 none
  statics := none }

def pool4 : Array CpInfo := pool [(1, .class_ 2), (0, u "java/io/Serializable"), (0, .class_ 4), (0, u "java/lang/Object")] 2

/-- java/io/Serializable -/
def k4 : Class := { plain "java/io/Serializable" (some 0) with
  accessFlags := 1537
  interfaces := #[]
  cf := some (fileOf pool4 1 #[] #[] 1537 3 #[] #[])
  fields := #[]
  methods := #[]
  instanceTypes := #[]
  staticTypes := #[]
  resolved := Array.replicate 7 none
  statics := none }

def pool5 : Array CpInfo := pool [(2, .class_ 4), (1, u "java/lang/Enum"), (0, u "name"), (0, u "Ljava/lang/String;"), (2, u "ordinal"), (0, u "I"), (1, .class_ 14), (1, u "java/lang/Object"), (4, u "hash"), (86, .class_ 108), (1, u "java/lang/Enum$EnumDesc"), (2, .class_ 112), (0, u "java/lang/constant/Constable"), (0, .class_ 114), (0, u "java/lang/Comparable"), (0, .class_ 116), (0, u "java/io/Serializable")] 87

/-- java/lang/Enum -/
def k5 : Class := { plain "java/lang/Enum" (some 0) with
  accessFlags := 1057
  interfaces := #[2, 3, 4]
  cf := some (fileOf pool5 2 #[.nestMembers #[106]] #[] 1057 12 #[111, 113, 115] #[{ accessFlags := 18, nameIndex := 5, descriptorIndex := 6, attributes := #[] }, { accessFlags := 18, nameIndex := 9, descriptorIndex := 10, attributes := #[] }, { accessFlags := 2, nameIndex := 19, descriptorIndex := 10, attributes := #[] }])
  fields := #[{ name := "name", type := (.object "java/lang/String"), accessFlags := 18, slot := 0, constantValue := 0 }, { name := "ordinal", type := .int, accessFlags := 18, slot := 1, constantValue := 0 }, { name := "hash", type := .int, accessFlags := 2, slot := 2, constantValue := 0 }]
  methods := #[]
  instanceTypes := #[(.object "java/lang/String"), .int, .int]
  staticTypes := #[]
  resolved := Array.replicate 204 none
  statics := none }

def pool6 : Array CpInfo := pool [(1, .class_ 2), (0, u "com/example/chorale/chorale/FlowGraph$Kind"), (2, u "START_EVENT"), (0, u "Lcom/example/chorale/chorale/FlowGraph$Kind;"), (2, u "MESSAGE_START_EVENT"), (2, u "END_EVENT"), (2, u "TERMINATE_END_EVENT"), (2, u "ACTIVITY"), (2, u "LINK_THROW_EVENT"), (2, u "LINK_CATCH_EVENT"), (2, u "RECEPTION"), (2, u "EXCLUSIVE_GATEWAY"), (2, u "PARALLEL_GATEWAY"), (2, u "INCLUSIVE_GATEWAY"), (2, u "EVENT_BASED_GATEWAY"), (2, u "SUB_PROCESS"), (0, .fieldref 1 44), (0, .nameAndType 45 6), (0, u "BOUNDARY_EVENT"), (0, .fieldref 1 47), (0, .nameAndType 48 6), (0, u "MESSAGE_BOUNDARY_EVENT"), (2, u "$VALUES"), (0, u "[Lcom/example/chorale/chorale/FlowGraph$Kind;"), (6, .class_ 61), (1, u "java/lang/Enum"), (6, .methodref 1 69), (0, .nameAndType 70 71), (0, u "attaches"), (0, u "()Z"), (29, u "takesOwnToken"), (7, .class_ 110), (0, u "com/example/chorale/chorale/FlowGraph")] 2

def k6c0 : Code := { maxStack := 2, maxLocals := 1, code := prog_73_method_5_code, exceptionTable := #[], attributes := #[] }
def k6m0 : Method := { name := "attaches", desc := "()Z", sig := { parameters := [], returnType := some .boolean }, accessFlags := 0, code := some k6c0 }
def k6c1 : Code := { maxStack := 2, maxLocals := 1, code := prog_73_method_6_code, exceptionTable := #[], attributes := #[] }
def k6m1 : Method := { name := "takesOwnToken", desc := "()Z", sig := { parameters := [], returnType := some .boolean }, accessFlags := 0, code := some k6c1 }
/-- com/example/chorale/chorale/FlowGraph$Kind -/
def k6 : Class := { plain "com/example/chorale/chorale/FlowGraph$Kind" (some 5) with
  accessFlags := 16432
  interfaces := #[]
  cf := some (fileOf pool6 1 #[.nestHost 109] #[{ accessFlags := 0, nameIndex := 70, descriptorIndex := 71, attributes := #[] }, { accessFlags := 0, nameIndex := 101, descriptorIndex := 71, attributes := #[] }] 16432 59 #[] #[{ accessFlags := 16409, nameIndex := 5, descriptorIndex := 6, attributes := #[] }, { accessFlags := 16409, nameIndex := 9, descriptorIndex := 6, attributes := #[] }, { accessFlags := 16409, nameIndex := 12, descriptorIndex := 6, attributes := #[] }, { accessFlags := 16409, nameIndex := 15, descriptorIndex := 6, attributes := #[] }, { accessFlags := 16409, nameIndex := 18, descriptorIndex := 6, attributes := #[] }, { accessFlags := 16409, nameIndex := 21, descriptorIndex := 6, attributes := #[] }, { accessFlags := 16409, nameIndex := 24, descriptorIndex := 6, attributes := #[] }, { accessFlags := 16409, nameIndex := 27, descriptorIndex := 6, attributes := #[] }, { accessFlags := 16409, nameIndex := 30, descriptorIndex := 6, attributes := #[] }, { accessFlags := 16409, nameIndex := 33, descriptorIndex := 6, attributes := #[] }, { accessFlags := 16409, nameIndex := 36, descriptorIndex := 6, attributes := #[] }, { accessFlags := 16409, nameIndex := 39, descriptorIndex := 6, attributes := #[] }, { accessFlags := 16409, nameIndex := 42, descriptorIndex := 6, attributes := #[] }, { accessFlags := 16409, nameIndex := 45, descriptorIndex := 6, attributes := #[] }, { accessFlags := 16409, nameIndex := 48, descriptorIndex := 6, attributes := #[] }, { accessFlags := 4122, nameIndex := 51, descriptorIndex := 52, attributes := #[] }])
  fields := #[{ name := "START_EVENT", type := (.object "com/example/chorale/chorale/FlowGraph$Kind"), accessFlags := 16409, slot := 0, constantValue := 0 }, { name := "MESSAGE_START_EVENT", type := (.object "com/example/chorale/chorale/FlowGraph$Kind"), accessFlags := 16409, slot := 1, constantValue := 0 }, { name := "END_EVENT", type := (.object "com/example/chorale/chorale/FlowGraph$Kind"), accessFlags := 16409, slot := 2, constantValue := 0 }, { name := "TERMINATE_END_EVENT", type := (.object "com/example/chorale/chorale/FlowGraph$Kind"), accessFlags := 16409, slot := 3, constantValue := 0 }, { name := "ACTIVITY", type := (.object "com/example/chorale/chorale/FlowGraph$Kind"), accessFlags := 16409, slot := 4, constantValue := 0 }, { name := "LINK_THROW_EVENT", type := (.object "com/example/chorale/chorale/FlowGraph$Kind"), accessFlags := 16409, slot := 5, constantValue := 0 }, { name := "LINK_CATCH_EVENT", type := (.object "com/example/chorale/chorale/FlowGraph$Kind"), accessFlags := 16409, slot := 6, constantValue := 0 }, { name := "RECEPTION", type := (.object "com/example/chorale/chorale/FlowGraph$Kind"), accessFlags := 16409, slot := 7, constantValue := 0 }, { name := "EXCLUSIVE_GATEWAY", type := (.object "com/example/chorale/chorale/FlowGraph$Kind"), accessFlags := 16409, slot := 8, constantValue := 0 }, { name := "PARALLEL_GATEWAY", type := (.object "com/example/chorale/chorale/FlowGraph$Kind"), accessFlags := 16409, slot := 9, constantValue := 0 }, { name := "INCLUSIVE_GATEWAY", type := (.object "com/example/chorale/chorale/FlowGraph$Kind"), accessFlags := 16409, slot := 10, constantValue := 0 }, { name := "EVENT_BASED_GATEWAY", type := (.object "com/example/chorale/chorale/FlowGraph$Kind"), accessFlags := 16409, slot := 11, constantValue := 0 }, { name := "SUB_PROCESS", type := (.object "com/example/chorale/chorale/FlowGraph$Kind"), accessFlags := 16409, slot := 12, constantValue := 0 }, { name := "BOUNDARY_EVENT", type := (.object "com/example/chorale/chorale/FlowGraph$Kind"), accessFlags := 16409, slot := 13, constantValue := 0 }, { name := "MESSAGE_BOUNDARY_EVENT", type := (.object "com/example/chorale/chorale/FlowGraph$Kind"), accessFlags := 16409, slot := 14, constantValue := 0 }, { name := "$VALUES", type := (.array (.object "com/example/chorale/chorale/FlowGraph$Kind")), accessFlags := 4122, slot := 15, constantValue := 0 }]
  methods := #[k6m0, k6m1]
  instanceTypes := #[(.object "java/lang/String"), .int, .int]
  staticTypes := #[(.object "com/example/chorale/chorale/FlowGraph$Kind"), (.object "com/example/chorale/chorale/FlowGraph$Kind"), (.object "com/example/chorale/chorale/FlowGraph$Kind"), (.object "com/example/chorale/chorale/FlowGraph$Kind"), (.object "com/example/chorale/chorale/FlowGraph$Kind"), (.object "com/example/chorale/chorale/FlowGraph$Kind"), (.object "com/example/chorale/chorale/FlowGraph$Kind"), (.object "com/example/chorale/chorale/FlowGraph$Kind"), (.object "com/example/chorale/chorale/FlowGraph$Kind"), (.object "com/example/chorale/chorale/FlowGraph$Kind"), (.object "com/example/chorale/chorale/FlowGraph$Kind"), (.object "com/example/chorale/chorale/FlowGraph$Kind"), (.object "com/example/chorale/chorale/FlowGraph$Kind"), (.object "com/example/chorale/chorale/FlowGraph$Kind"), (.object "com/example/chorale/chorale/FlowGraph$Kind"), (.array (.object "com/example/chorale/chorale/FlowGraph$Kind"))]
  resolved := Array.replicate 113 none
  statics := some 0 }

def pool7 : Array CpInfo := pool [(1, u "java/lang/Cloneable"), (0, .class_ 1), (0, u "java/lang/Object"), (0, .class_ 3)] 3

/-- java/lang/Cloneable -/
def k7 : Class := { plain "java/lang/Cloneable" (some 0) with
  accessFlags := 1537
  interfaces := #[]
  cf := some (fileOf pool7 2 #[] #[] 1537 4 #[] #[])
  fields := #[]
  methods := #[]
  instanceTypes := #[]
  staticTypes := #[]
  resolved := Array.replicate 8 none
  statics := none }

/-- the primitive byte -/
def k8 : Class := { plain "byte" none with kind := .primitive 'B', accessFlags := 0x411 }
/-- [B -/
def k9 : Class := { plain "[B" (some 0) with kind := .array 8 .byte, interfaces := #[7, 4], accessFlags := 1041 }

/-- the primitive int -/
def k10 : Class := { plain "int" none with kind := .primitive 'I', accessFlags := 0x411 }
/-- [I -/
def k11 : Class := { plain "[I" (some 0) with kind := .array 10 .int, interfaces := #[7, 4], accessFlags := 1041 }

def heap : Heap := #[{ cls := 6, slots := #[.ref 1, .ref 12, .ref 8, .ref 4, .ref 14, .ref 5, .ref 6, .ref 7, .ref 11, .ref 15, .ref 10, .ref 9, .ref 13, .ref 2, .ref 3, .null], vm := .statics 6 },
  { cls := 6, slots := #[.null, .int 0, .int 0], vm := .none },
  { cls := 6, slots := #[.null, .int 13, .int 0], vm := .none },
  { cls := 6, slots := #[.null, .int 14, .int 0], vm := .none },
  { cls := 6, slots := #[.null, .int 3, .int 0], vm := .none },
  { cls := 6, slots := #[.null, .int 5, .int 0], vm := .none },
  { cls := 6, slots := #[.null, .int 6, .int 0], vm := .none },
  { cls := 6, slots := #[.null, .int 7, .int 0], vm := .none },
  { cls := 6, slots := #[.null, .int 2, .int 0], vm := .none },
  { cls := 6, slots := #[.null, .int 11, .int 0], vm := .none },
  { cls := 6, slots := #[.null, .int 10, .int 0], vm := .none },
  { cls := 6, slots := #[.null, .int 8, .int 0], vm := .none },
  { cls := 6, slots := #[.null, .int 1, .int 0], vm := .none },
  { cls := 6, slots := #[.null, .int 12, .int 0], vm := .none },
  { cls := 6, slots := #[.null, .int 4, .int 0], vm := .none },
  { cls := 6, slots := #[.null, .int 9, .int 0], vm := .none }]
def classes : Array Class := #[k0, k1, k2, k3, k4, k5, k6, k7, k8, k9, k10, k11]
def interned : List (Array UInt16 × Addr) := []
def slotsUsed : Nat := 61
def theMethod : MethodId := ⟨1, 3⟩
def args0 : Array Value := #[.int 5]
def aboutOver (below : List Frame) : State where
  vm := { classes := classes, interned := interned.toArray }
  heap := heap
  slotsUsed := slotsUsed
  threads := #[{ frames := .invoking theMethod args0 :: below }]
def below0 : List Frame := [.native { method := ⟨0, 0⟩, args := #[] }]
def about1 : State := aboutOver below0
def p0 : Program := .bare "" "" ""
def e0 : Env := launch0.env 0 0 0
theorem w_frames : about1.frames = Frame.invoking theMethod args0 :: below0 := rfl
set_option maxRecDepth 65536 in
theorem w_args : argsFit about1.vm theMethod args0 = true := by decide +kernel
set_option maxRecDepth 65536 in
theorem w_heap : heapFits about1 = true := by decide +kernel
set_option maxRecDepth 65536 in
theorem w_runnable : about1.curStatus? = some .runnable := by decide +kernel
set_option maxRecDepth 65536 in
theorem w_alone : about1.alone = true := by decide +kernel
set_option maxRecDepth 65536 in
theorem w_named : about1.methodNamed? x = some theMethod := by decide +kernel
set_option maxRecDepth 65536 in
theorem w_hears : about1.hears theMethod below0 = true := by decide +kernel
set_option maxRecDepth 65536 in
theorem w_ripe : about1.ripe theMethod args0 below0 = true := by decide +kernel
theorem w_running : about1.status = .running := rfl
set_option maxRecDepth 65536 in
theorem w_room : about1.hasRoom e0.platform room_1 = true :=
  launch0.hasRoom_least _ room_1 (by decide +kernel) (by decide +kernel) (by decide +kernel) (by decide +kernel) (by decide +kernel) (by decide +kernel)
theorem allAtoms_all (ts : List Jvm.Cond) (a : Array Jvm.Value) (st : Jvm.State) : (allAtoms ts).before a st = ts.all (fun c => c.before a st) := by
  induction ts with
  | nil => rfl
  | cons c t ih =>
    show (Jvm.Cond.and c (allAtoms t)).before a st = _
    rw [Jvm.Cond.before_and, ih, List.all_cons]
def words1 : List Jvm.Cond := Jvm.Cond.code x code maxLocals ret :: tables_1
/-- a 'code' word, met by the world's own term for the bytes: nothing is compared byte by byte -/
theorem code_word {y : MethodName} {bytes : ByteArray} {mx : Nat} {rt : Option FieldType} {a : Array Value} {s : State} {m : MethodId} {meth : Method} {c : Code} (h1 : s.methodNamed? y = some m) (h2 : s.vm.method? m = some meth) (h3 : meth.code = some c) (h4 : c.code = bytes)
    (h5 : (c.maxLocals == mx && c.exceptionTable.isEmpty && decide (c.maxStack ≤ mostOperands) && decide (meth.sig.returnType = rt) && !meth.locks && decide (parseMethodDescriptor y.desc = some meth.sig)) = true) : (Jvm.Cond.code y bytes mx rt).before a s = true := by
  simp only [Bool.and_eq_true, beq_iff_eq, Bool.not_eq_true', decide_eq_true_eq] at h5
  obtain ⟨⟨⟨⟨⟨g1, g2⟩, g3⟩, g4⟩, g5⟩, g6⟩ := h5
  simp [Cond.before, Cond.holds, Cond.value, h1, h2, h3, h4, g1, g2, g3, g4, g5, g6]
def isCode : Jvm.Cond → Bool
  | .code _ _ _ _ => true
  | _ => false
theorem all_split {L : List Jvm.Cond} {P : Jvm.Cond → Bool} (h1 : L.all (fun c => isCode c || P c) = true) (h2 : ∀ c ∈ L.filter isCode, P c = true) : L.all P = true := by
  refine List.all_eq_true.mpr fun c hc => ?_
  have h := List.all_eq_true.mp h1 c hc
  rcases Bool.eq_false_or_eq_true (isCode c) with hi | hi
  · exact h2 c (List.mem_filter.mpr ⟨hc, hi⟩)
  · simpa [hi] using h
set_option maxRecDepth 65536 in
theorem w_c0 : (Jvm.Cond.code x code maxLocals ret).before args0 about1 = true := code_word (m := ⟨1, 3⟩) (meth := k1m3) (c := k1c3) (by decide +kernel) rfl rfl rfl (by decide +kernel)
set_option maxRecDepth 65536 in
theorem w_c1 : (Jvm.Cond.code ({ cls := "com/example/chorale/chorale/KindAttachesPinLaw", name := "kindAt", desc := "(I)Lcom/example/chorale/chorale/FlowGraph$Kind;" } : Jvm.MethodName) method_2_code (1 : Nat) (Option.some (Jvm.ClassFile.FieldType.object "com/example/chorale/chorale/FlowGraph$Kind"))).before args0 about1 = true := code_word (m := ⟨1, 1⟩) (meth := k1m1) (c := k1c1) (by decide +kernel) rfl rfl rfl (by decide +kernel)
set_option maxRecDepth 65536 in
theorem w_c2 : (Jvm.Cond.code ({ cls := "com/example/chorale/chorale/FlowGraph$Kind", name := "attaches", desc := "()Z" } : Jvm.MethodName) prog_73_method_5_code (1 : Nat) (Option.some Jvm.ClassFile.FieldType.boolean)).before args0 about1 = true := code_word (m := ⟨6, 0⟩) (meth := k6m0) (c := k6c0) (by decide +kernel) rfl rfl rfl (by decide +kernel)
set_option maxRecDepth 65536 in
theorem w_c3 : (Jvm.Cond.code ({ cls := "com/example/chorale/chorale/KindAttachesPinLaw", name := "isBoundaryIndex", desc := "(I)Z" } : Jvm.MethodName) method_3_code (2 : Nat) (Option.some Jvm.ClassFile.FieldType.boolean)).before args0 about1 = true := code_word (m := ⟨1, 2⟩) (meth := k1m2) (c := k1c2) (by decide +kernel) rfl rfl rfl (by decide +kernel)
set_option maxRecDepth 65536 in
theorem w_c4 : (Jvm.Cond.code ({ cls := "com/example/chorale/chorale/FlowGraph$Kind", name := "takesOwnToken", desc := "()Z" } : Jvm.MethodName) prog_73_method_6_code (1 : Nat) (Option.some Jvm.ClassFile.FieldType.boolean)).before args0 about1 = true := code_word (m := ⟨6, 1⟩) (meth := k6m1) (c := k6c1) (by decide +kernel) rfl rfl rfl (by decide +kernel)
def codes1 : List Jvm.Cond := [Jvm.Cond.code x code maxLocals ret, Jvm.Cond.code ({ cls := "com/example/chorale/chorale/KindAttachesPinLaw", name := "kindAt", desc := "(I)Lcom/example/chorale/chorale/FlowGraph$Kind;" } : Jvm.MethodName) method_2_code (1 : Nat) (Option.some (Jvm.ClassFile.FieldType.object "com/example/chorale/chorale/FlowGraph$Kind")), Jvm.Cond.code ({ cls := "com/example/chorale/chorale/FlowGraph$Kind", name := "attaches", desc := "()Z" } : Jvm.MethodName) prog_73_method_5_code (1 : Nat) (Option.some Jvm.ClassFile.FieldType.boolean), Jvm.Cond.code ({ cls := "com/example/chorale/chorale/KindAttachesPinLaw", name := "isBoundaryIndex", desc := "(I)Z" } : Jvm.MethodName) method_3_code (2 : Nat) (Option.some Jvm.ClassFile.FieldType.boolean), Jvm.Cond.code ({ cls := "com/example/chorale/chorale/FlowGraph$Kind", name := "takesOwnToken", desc := "()Z" } : Jvm.MethodName) prog_73_method_6_code (1 : Nat) (Option.some Jvm.ClassFile.FieldType.boolean)]
set_option maxRecDepth 65536 in
theorem codes_eq : words1.filter isCode = codes1 := rfl
theorem w_codes : ∀ c ∈ words1.filter isCode, c.before args0 about1 = true := by
  rw [codes_eq]
  intro c hc
  simp only [codes1, List.mem_cons, List.not_mem_nil, or_false] at hc
  rcases hc with rfl | rfl | rfl | rfl | rfl
  · exact w_c0
  · exact w_c1
  · exact w_c2
  · exact w_c3
  · exact w_c4
set_option maxRecDepth 65536 in
theorem w_t1 : (words1.take 24).all (fun c => isCode c || c.before args0 about1) = true := by decide +kernel
set_option maxRecDepth 65536 in
theorem w_t2 : ((words1.drop 24).take 24).all (fun c => isCode c || c.before args0 about1) = true := by decide +kernel
set_option maxRecDepth 65536 in
theorem w_t3 : ((words1.drop 24).drop 24).all (fun c => isCode c || c.before args0 about1) = true := by decide +kernel
theorem w_tables : (allAtoms (Jvm.Cond.code x code maxLocals ret :: tables_1)).before args0 about1 = true := by
  rw [allAtoms_all]
  show words1.all (fun c => c.before args0 about1) = true
  refine all_split ?_ w_codes
  rw [← List.take_append_drop 24 words1, List.all_append, w_t1, ← List.take_append_drop 24 (words1.drop 24), List.all_append, w_t2, w_t3]
  rfl
set_option maxRecDepth 65536 in
theorem w_case : (Jvm.Cond.and given_1 narrow_1).before args0 about1 = true := by decide +kernel
theorem w_applies : (headSpec (Jvm.Cond.code x code maxLocals ret :: tables_1) room_1).applies x e0.platform about1 = true :=
  (Spec.applies_iff w_frames).mpr ⟨w_running, w_runnable, w_alone, w_named, w_hears, w_ripe, w_room, w_tables⟩
theorem atStart : AtStart classFile x code maxLocals ret World_1 tables_1 room_1 Calls_1 rest_1 Pre_1 launch0 p0 e0 about1 theMethod args0 below0 :=
  ⟨lists_1, trivial, launch0.admits_env _ _ _, launch0.least_env, fairChoices_fair.cas, fairChoices_fair.clock, w_frames, w_args, w_heap, w_applies, trivial, trivial, w_case⟩
end start1
theorem witness_1 : WitnessClaimed_1 := ⟨start1.p0, start1.e0, start1.about1, start1.theMethod, start1.args0, start1.below0, start1.atStart⟩
end Jvm.Pilot.@@N@@
