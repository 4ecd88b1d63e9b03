import JvmDerived
import JvmDerived.Pilot.@@N@@Statement
import JvmDerived.Pilot.@@N@@Code
set_option linter.unusedVariables false
set_option linter.unusedSimpArgs false
namespace Jvm.Pilot.@@N@@
open Jvm Jvm.ClassFile Sem Op Lib Jvm.Free Jvm.Stand Jvm.LawKit Jvm.RoadKit Bundle Jvm.Pilot.@@N@@.Jvm.D
section OwnKit
variable {p : Program} {l : Launch} {e : Env} {R : Room} {s : State} {m : MethodId} {args : Array Value} {below : List Frame} {meth : Method} {c : Code} {T : State} {locs : List Loc} {cells slots : Nat}
theorem retI (X : Stand p l e R s m args below meth c T locs cells slots) (hx : p.tables.exec = Jvm.exec) {pc : Nat} {Ls : Array Slot} {z : Int32} {rest : List Value} (hret : meth.sig.returnType = some .int) (hd : decode c.code pc = .ok (.ireturn, 1)) {fs : List Frame}
    (hl : ∀ (f : JFrame) (acts : List Action), f.method = m → f.locked = none → f.entered = [] → (doReturn e (T.setTop f) acts (some (.int z))).1 = T.setFrames fs) : Steps p.tables e below (T.setTop (mkF m pc Ls (.int z :: rest))) (T.setFrames fs) :=
  retOut X hx hret rfl (Or.inl ⟨rfl, Or.inl rfl, z, rfl⟩) hd hl
theorem oretJ (X : Stand p l e R s m args below meth c T locs cells slots) (hx : p.tables.exec = Jvm.exec) {pc : Nat} {Ls : Array Slot} {z : Int64} {rest : List Value} (hret : meth.sig.returnType = some .long) (hd : decode c.code pc = .ok (.lreturn, 1)) {fs : List Frame}
    (hl : ∀ (f : JFrame) (acts : List Action), f.method = m → f.locked = none → f.entered = [] → (doReturn e (T.setTop f) acts (some (.long z))).1 = T.setFrames fs) : Steps p.tables e below (T.setTop (mkF m pc Ls (.long z :: rest))) (T.setFrames fs) :=
  retOut X hx hret rfl (Or.inr (Or.inl ⟨rfl, rfl, z, rfl⟩)) hd hl
theorem oretA (X : Stand p l e R s m args below meth c T locs cells slots) (hx : p.tables.exec = Jvm.exec) {pc : Nat} {Ls : Array Slot} {w : Value} {t : FieldType} {rest : List Value} (hret : meth.sig.returnType = some t) (ht : t.isReference = true) (hw : w.isRef = true) (hd : decode c.code pc = .ok (.areturn, 1)) {fs : List Frame}
    (hl : ∀ (f : JFrame) (acts : List Action), f.method = m → f.locked = none → f.entered = [] → (doReturn e (T.setTop f) acts (some w)).1 = T.setFrames fs) : Steps p.tables e below (T.setTop (mkF m pc Ls (w :: rest))) (T.setFrames fs) :=
  retOut X hx hret (by rcases ref_cases hw with rfl | ⟨a, rfl⟩ <;> cases t <;> rfl) (Or.inr (Or.inr (Or.inr (Or.inr ⟨rfl, ht, hw⟩)))) hd hl
end OwnKit
/-- the run that stands at A comes to an end of which P holds -/
def OGot (tb : Tables) (e : Env) (below : List Frame) (A : State) (P : State → Outcome → Prop) : Prop := ∃ U o, Steps tb e below A U ∧ P U o
theorem OGot.go {tb : Tables} {e : Env} {below : List Frame} {A B : State} {P : State → Outcome → Prop} (st : ∀ t, Steps tb e below B t → Steps tb e below A t) (h : OGot tb e below B P) : OGot tb e below A P := by
  obtain ⟨U, o, h1, h2⟩ := h
  exact ⟨U, o, st U h1, h2⟩
theorem OGot.on {tb : Tables} {e : Env} {below : List Frame} {A B : State} {P : State → Outcome → Prop} (st : Steps tb e below A B) (h : OGot tb e below B P) : OGot tb e below A P := by
  obtain ⟨U, o, h1, h2⟩ := h
  exact ⟨U, o, st.trans h1, h2⟩
section OwnFacts
variable {Z : State} {h h' h0 : Heap} {a b : Addr} {C n d : String} {v : Value} {sl : Nat} {n0 : Nat} {ws ws' : List (Addr × Nat)} {k : ClassId} {ty : FieldType} {z : Int32} {vs : List Value} {dv : Value}
theorem osz (X : Old Z n0 h) : n0 ≤ h.size := X.1 ▸ X.2.1
theorem oheap {U : State} {P : Heap → Prop} (q : U.heap = h) (x : P h) : P U.heap := q ▸ x
/-- what stood in h0 stands in h, but for the places at ws -/
def OKeep (h0 h : Heap) (ws : List (Addr × Nat)) : Prop := h0.size ≤ h.size ∧ ∀ (x : Addr) (c : Cell), h0[x]? = some c → ∃ c' : Cell, h[x]? = some c' ∧ c'.cls = c.cls ∧ c'.vm = c.vm ∧ c'.slots.size = c.slots.size ∧ (∀ i, (x, i) ∉ ws → c'.slots[i]? = c.slots[i]?) ∧ ((∀ i, (x, i) ∉ ws) → c' = c)
theorem OKeep.refl (h : Heap) (ws : List (Addr × Nat)) : OKeep h h ws := ⟨Nat.le_refl _, fun _ c q => ⟨c, q, rfl, rfl, rfl, fun _ _ => rfl, fun _ => rfl⟩⟩
theorem OKeep.ext (K : OKeep h0 h ws) (E : Ext h h') : OKeep h0 h' ws := ⟨Nat.le_trans K.1 E.1, fun x c q => by
  obtain ⟨c', q', r⟩ := K.2 x c q
  exact ⟨c', E.2 x c' q', r⟩⟩
theorem OKeep.trans (K : OKeep h0 h ws) (K' : OKeep h h' ws') (q : ∀ x ∈ ws', x ∈ ws ∨ h0.size ≤ x.1) : OKeep h0 h' ws := by
  refine ⟨Nat.le_trans K.1 K'.1, fun x c hx => ?_⟩
  have lt : x < h0.size := (Array.getElem?_eq_some_iff.mp hx).1
  have out : ∀ i, (x, i) ∉ ws → (x, i) ∉ ws' := fun i r z => (q _ z).elim r fun y => Nat.not_lt.mpr y lt
  obtain ⟨c1, q1, r1, r2, r3, r4, r5⟩ := K.2 x c hx
  obtain ⟨c2, q2, t1, t2, t3, t4, t5⟩ := K'.2 x c1 q1
  exact ⟨c2, q2, t1.trans r1, t2.trans r2, t3.trans r3, fun i r => (t4 i (out i r)).trans (r4 i r), fun r => (t5 fun i => out i (r i)).trans (r5 r)⟩
theorem OKeep.of_wr (W : Wr h h' a sl v) : OKeep h h' [(a, sl)] := by
  refine ⟨Nat.le_of_eq W.size.symm, fun x c q => ?_⟩
  obtain ⟨c', e1, e2, e3, e4, e5, e6, -⟩ := wr_at W q
  refine ⟨c', e1, e2, e3, e4, fun i r => ?_, fun r => e5 fun z => r sl (by simp [z])⟩
  by_cases z : x = a
  · subst z
    exact e6 i fun y => r (by simp [y])
  · rw [e5 z]
theorem OKeep.wr (K : OKeep h0 h ws) (W : Wr h h' a sl v) (q : (a, sl) ∈ ws ∨ h0.size ≤ a) : OKeep h0 h' ws := K.trans (OKeep.of_wr W) fun x hx => by cases List.mem_singleton.mp hx; exact q
theorem oslot {x : ClassId × Class × Nat × Field} (h2 : Z.fieldFound? C n d = some x) : Jvm.RoadKit.slotOf Z C n d = x.2.2.2.slot := by
  show ((Z.fieldFound? C n d).map (·.2.2.2.slot)).getD 0 = _
  rw [h2]; rfl
theorem OKeep.fld (F : Fld Z h a C n d v) (K : OKeep h h' ws) (q : (a, Jvm.RoadKit.slotOf Z C n d) ∉ ws) : Fld Z h' a C n d v := by
  obtain ⟨cell, cf, k, i, f, h1, h2, h3, h4, h5, h6, h7⟩ := F
  obtain ⟨c', r, r1, r2, -, r4, -⟩ := K.2 a cell h1
  exact ⟨c', cf, k, i, f, r, h2, h3, by rw [r2]; exact h4, by rw [r2]; exact h5, by rw [r1]; exact h6, by rw [r4 f.slot (fun y => q (by rw [oslot h2]; exact y))]; exact h7⟩
theorem OKeep.exa (F : Exa Z h a C) (K : OKeep h h' ws) : Exa Z h' a C := by
  obtain ⟨cell, k, h1, h2, h3, h4, h5⟩ := F
  obtain ⟨c', q, r1, r2, r3, -, -⟩ := K.2 a cell h1
  exact ⟨c', k, q, r1 ▸ h2, r1 ▸ h3, r2 ▸ h4, r3 ▸ h5⟩
theorem OKeep.arv (F : Arv Z h a k ty z vs dv) (K : OKeep h h' ws) (q : ∀ x ∈ ws, a ≠ x.1) : Arv Z h' a k ty z vs dv := by
  obtain ⟨c, A, r⟩ := F
  obtain ⟨c', e1, -, -, -, -, e5⟩ := K.2 a c A.1
  cases e5 fun i y => q _ y rfl
  exact ⟨c, ⟨e1, A.2⟩, r⟩
theorem OKeep.old (X : Old Z n0 h) (K : OKeep h h' ws) (q : ∀ x ∈ ws, n0 ≤ x.1) : Old Z n0 h' := ⟨X.1, Nat.le_trans X.2.1 K.1, fun x c r => by
  obtain ⟨c', e1, -, -, -, -, e5⟩ := K.2 x c (X.2.2 x c r)
  cases e5 fun i y => absurd (X.1 ▸ (Array.getElem?_eq_some_iff.mp r).1) (Nat.not_lt.mpr (q _ y))
  exact e1⟩
theorem onin0 {x : Addr × Nat} : x ∉ ([] : List (Addr × Nat)) := fun q => nomatch q
theorem oninA {t : Nat} {L : List (Addr × Nat)} (q : a ≠ b) (r : (a, sl) ∉ L) : (a, sl) ∉ (b, t) :: L := fun y => (List.mem_cons.mp y).elim (fun u => q (congrArg Prod.fst u)) r
theorem oninS {t : Nat} {L : List (Addr × Nat)} (q : sl ≠ t) (r : (a, sl) ∉ L) : (a, sl) ∉ (b, t) :: L := fun y => (List.mem_cons.mp y).elim (fun u => q (congrArg Prod.snd u)) r
theorem oall0 : ∀ x ∈ ([] : List (Addr × Nat)), a ≠ x.1 := fun _ q => nomatch q
theorem oallS {t : Nat} {L : List (Addr × Nat)} (q : a ≠ b) (r : ∀ x ∈ L, a ≠ x.1) : ∀ x ∈ (b, t) :: L, a ≠ x.1 := fun x y => (List.mem_cons.mp y).elim (fun u => by subst u; exact q) (r x)
theorem oge0 : ∀ x ∈ ([] : List (Addr × Nat)), n0 ≤ x.1 := fun _ q => nomatch q
theorem ogeS {t : Nat} {L : List (Addr × Nat)} (q : n0 ≤ b) (r : ∀ x ∈ L, n0 ≤ x.1) : ∀ x ∈ (b, t) :: L, n0 ≤ x.1 := fun x y => (List.mem_cons.mp y).elim (fun u => by subst u; exact q) (r x)
theorem oin0 {P : Addr × Nat → Prop} : ∀ x ∈ ([] : List (Addr × Nat)), P x := fun _ q => nomatch q
theorem oinS {P : Addr × Nat → Prop} {y : Addr × Nat} {L : List (Addr × Nat)} (q : P y) (r : ∀ x ∈ L, P x) : ∀ x ∈ y :: L, P x := fun x u => (List.mem_cons.mp u).elim (fun w => w ▸ q) (r x)
theorem oeq_int {args : Array Value} {first s : State} {o : Option Outcome} {idx : List Nat} {t : Term} {w : Int32} (q : (Jvm.Cond.eq t (.int w)).value args first o s idx = some true) : t.eval args first o idx s = some (.int w) := by
  simp only [Jvm.Cond.value, Term.eval] at q
  cases ht : t.eval args first o idx s with
  | none => simp [ht] at q
  | some x => cases x <;> simp [ht] at q ⊢; exact q
theorem oeq_ref {args : Array Value} {first s : State} {o : Option Outcome} {idx : List Nat} {t u : Term} {w : Addr} (q : (Jvm.Cond.eq t u).value args first o s idx = some true) (r : u.eval args first o idx s = some (.ref w)) : t.eval args first o idx s = some (.ref w) := by
  obtain ⟨x, y, e1, e2, k1, k2⟩ := cmp_v (Or.inl q)
  cases r.symm.trans e2
  rcases ref_cases k2.2 with rfl | ⟨z, rfl⟩
  · have := eq_R e1 e2 rfl rfl
    rw [q] at this
    simp at this
  · have := gotT (eq_R e1 e2 rfl rfl) q
    rw [e1, this]
theorem one_int {args : Array Value} {first s : State} {o : Option Outcome} {idx : List Nat} {t : Term} {w : Int32} (r : t.eval args first o idx s = some (.int w)) (q : (Jvm.Cond.not (.eq t (.int 0))).value args first o s idx = some true) : ¬ (w = (0 : Int32)) := by
  have := not_v q
  exact gotF (Cond.eq_ints r rfl) this
theorem olen {args : Array Value} {first s : State} {o : Option Outcome} {idx : List Nat} {t : Term} {cl : Cell} {w : Int32} (q : (Term.length t).eval args first o idx s = some (.int w)) (ht : t.eval args first o idx s = some (.ref a)) (ha : s.arrayAt? a = some cl) : cl.slots.size < 2 ^ 31 ∧ cl.slots.size.toInt32 = w := by
  simp only [Term.eval, ht, ha, Option.bind_eq_bind, Option.bind_some] at q
  by_cases y : cl.slots.size < 2 ^ 31
  · exact ⟨y, by simpa [y] using q⟩
  · simp [y] at q
theorem osub128 {args : Array Value} {j : Int32} (hj : ¬ j < 0) : (Term.sub (.index 0) (.int 128)).eval args Z none [j.toNatClampNeg] Z = some (.int (j - 128)) := by
  have e := idx_at (args := args) (first := Z) (s := Z) (o := none) hj
  simp only [Term.eval] at e ⊢
  simp [e]
  exact (back32 hj).1
def obox (c : Cell) (j : Int32) : Addr := match c.slots[j.toNatClampNeg]? with
  | some (.ref b) => b
  | _ => 0
theorem obox_at {cl : Cell} {K dd : String} {w : Int32} {val : Int32 → Value} (B : Bxs Z a cl K dd w val) {j : Int32} (hj : ¬ (j < 0 ∨ cl.slots.size ≤ j.toNatClampNeg)) : cl.slots[j.toNatClampNeg]? = some (.ref (obox cl j)) ∧ Exa Z Z.heap (obox cl j) K ∧ Fld Z Z.heap (obox cl j) K "value" dd (val j) := by
  obtain ⟨b, h1, h2, h3⟩ := B.2.2.2 j hj
  have e : obox cl j = b := by unfold obox; rw [h1]
  rw [e]; exact ⟨h1, h2, h3⟩
theorem oNS.root {a0 : Array Value} {O K : String} {i : Nat} (w : (Cond.noSuperclass O).before a0 Z = true) (wk : (Cond.instantiable K i).before a0 Z = true) (hn : O ≠ K) : NS Z O K := by
  obtain ⟨c, k, h1, h2, h3, -, -⟩ := Cond.noSuperclass_spec w
  obtain ⟨t, kt, g1, -⟩ := Cond.instantiable_spec wk
  have ne := ids_ne h1 g1 hn
  refine ⟨c, t, h1, g1, fun fuel => ?_⟩
  cases fuel with
  | zero => rfl
  | succ f => simp [Vm.isSubclassAux, ne, h2, h3]
theorem oNS.no {a0 : Array Value} {C S K : String} {i : Nat} (w : (Cond.superclass C S).before a0 Z = true) (wk : (Cond.instantiable K i).before a0 Z = true) (q : NS Z C K) (hn : C ≠ K) : ∃ c t, Z.vm.findClass C = some c ∧ Z.vm.findClass K = some t ∧ Z.vm.assignable c t = false := by
  obtain ⟨c, t, h0, g0, n3⟩ := q
  obtain ⟨p, k, kp, h1, h2, h3, h4, h5, -, h7⟩ := Cond.superclass_spec h0 w
  obtain ⟨t', k', g1, g2, g3, g4, -⟩ := Cond.instantiable_spec wk
  cases g0.symm.trans g1
  have ne := ids_ne h0 g0 hn
  have g7 : k'.isInterface = false := (Bool.or_eq_false_iff.mp g4).1
  refine ⟨c, t, h0, g0, ?_⟩
  show Z.vm.assignableAux (255 + 1) c t = false
  simp [Vm.assignableAux, ne, h2, g2, h5, g3, g7, Vm.isSubclass, n3]
theorem osel {s : State} {a0 aa : Array Value} {y : MethodName} {i : Nat} (hZ : Z.Warmed39 s.vm) (wi : (Cond.instantiable y.cls i).before a0 Z = true) (wm : (Cond.instanceMethod y).before a0 Z = true) (wp : (Cond.privateMethod y).before a0 Z = true) (hy : y.cls ≠ "java/lang/invoke/MethodHandle" ∧ y.cls ≠ "java/lang/invoke/VarHandle") : (Cond.selects y.cls y y).before aa s = true := by
  have w2 : (Cond.instantiable y.cls i).before aa s = true := mvT hZ wi
  obtain ⟨c, k, h1, h2, h3, h4, -⟩ := Cond.instantiable_spec w2
  exact Jvm.Stand.selects_self_of_private h1 h2 (Bool.or_eq_false_iff.mp h4).1 (Cond.privateMethod_at (mvP hZ wp (args := #[]))) (mvT hZ wm) hy
end OwnFacts
theorem ow {Z : State} {a0 : Array Value} (hw : ∀ d ∈ tables_1, d.before a0 Z = true) (i : Nat) {d : Jvm.Cond} (h : tables_1[i]? = some d) : d.before a0 Z = true := hw _ (List.mem_of_getElem? h)
theorem own_and3 (x : Int32) : (x &&& (3 : Int32)) = (0 : Int32) ∨ (x &&& (3 : Int32)) = (1 : Int32) ∨ (x &&& (3 : Int32)) = (2 : Int32) ∨ (x &&& (3 : Int32)) = (3 : Int32) := by
  have e : (x &&& (3 : Int32)).toInt = x.toInt % ((2 ^ 2 : Nat) : Int) := c_mask x 3 2 (by decide) (by decide)
  have p : ((2 ^ 2 : Nat) : Int) = 4 := rfl
  rw [p] at e
  simp only [← Int32.toInt_inj, e]
  have : (0 : Int32).toInt = 0 ∧ (1 : Int32).toInt = 1 ∧ (2 : Int32).toInt = 2 ∧ (3 : Int32).toInt = 3 := by decide
  omega
def Own9 (x : Int32) : Prop := x = (0 : Int32) ∨ x = (1 : Int32) ∨ x = (2 : Int32) ∨ x = (3 : Int32) ∨ x = (4 : Int32) ∨ x = (5 : Int32) ∨ x = (6 : Int32) ∨ x = (7 : Int32) ∨ x = (8 : Int32)
theorem own_ite {P : Prop} [Decidable P] {a b : Int32} (ha : Own9 a) (hb : Own9 b) : Own9 (if P then a else b) := by split <;> assumption
theorem own_rem9 (x : Int32) : ((x &&& (2147483647 : Int32)) % (9 : Int32)) = (0 : Int32) ∨ ((x &&& (2147483647 : Int32)) % (9 : Int32)) = (1 : Int32) ∨ ((x &&& (2147483647 : Int32)) % (9 : Int32)) = (2 : Int32) ∨ ((x &&& (2147483647 : Int32)) % (9 : Int32)) = (3 : Int32) ∨ ((x &&& (2147483647 : Int32)) % (9 : Int32)) = (4 : Int32) ∨ ((x &&& (2147483647 : Int32)) % (9 : Int32)) = (5 : Int32) ∨ ((x &&& (2147483647 : Int32)) % (9 : Int32)) = (6 : Int32) ∨ ((x &&& (2147483647 : Int32)) % (9 : Int32)) = (7 : Int32) ∨ ((x &&& (2147483647 : Int32)) % (9 : Int32)) = (8 : Int32) := by
  have e1 : (x &&& (2147483647 : Int32)).toInt = x.toInt % ((2 ^ 31 : Nat) : Int) := c_mask x 2147483647 31 (by decide) (by decide)
  have p : ((2 ^ 31 : Nat) : Int) = 2147483648 := rfl
  rw [p] at e1
  have e : ((x &&& (2147483647 : Int32)) % (9 : Int32)).toInt = (x &&& (2147483647 : Int32)).toInt % 9 := (c_irem (x &&& (2147483647 : Int32)) (9 : Int32) 9 (by decide)).1 (by omega)
  simp only [← Int32.toInt_inj, e]
  have : (0 : Int32).toInt = 0 ∧ (1 : Int32).toInt = 1 ∧ (2 : Int32).toInt = 2 ∧ (3 : Int32).toInt = 3 ∧ (4 : Int32).toInt = 4 ∧ (5 : Int32).toInt = 5 ∧ (6 : Int32).toInt = 6 ∧ (7 : Int32).toInt = 7 ∧ (8 : Int32).toInt = 8 := by decide
  omega
theorem own_rem9u (x : Int32) : (((x.toUInt32 >>> ((8 : Int32) &&& 31).toUInt32).toInt32) % (9 : Int32)) = (0 : Int32) ∨ (((x.toUInt32 >>> ((8 : Int32) &&& 31).toUInt32).toInt32) % (9 : Int32)) = (1 : Int32) ∨ (((x.toUInt32 >>> ((8 : Int32) &&& 31).toUInt32).toInt32) % (9 : Int32)) = (2 : Int32) ∨ (((x.toUInt32 >>> ((8 : Int32) &&& 31).toUInt32).toInt32) % (9 : Int32)) = (3 : Int32) ∨ (((x.toUInt32 >>> ((8 : Int32) &&& 31).toUInt32).toInt32) % (9 : Int32)) = (4 : Int32) ∨ (((x.toUInt32 >>> ((8 : Int32) &&& 31).toUInt32).toInt32) % (9 : Int32)) = (5 : Int32) ∨ (((x.toUInt32 >>> ((8 : Int32) &&& 31).toUInt32).toInt32) % (9 : Int32)) = (6 : Int32) ∨ (((x.toUInt32 >>> ((8 : Int32) &&& 31).toUInt32).toInt32) % (9 : Int32)) = (7 : Int32) ∨ (((x.toUInt32 >>> ((8 : Int32) &&& 31).toUInt32).toInt32) % (9 : Int32)) = (8 : Int32) := by
  have e1 := c_iushr x 8 8 (by decide) (by decide)
  have p : ((2 ^ 8 : Nat) : Int) = 256 := rfl
  rw [p] at e1
  have e : (((x.toUInt32 >>> ((8 : Int32) &&& 31).toUInt32).toInt32) % (9 : Int32)).toInt = ((x.toUInt32 >>> ((8 : Int32) &&& 31).toUInt32).toInt32).toInt % 9 := (c_irem _ (9 : Int32) 9 (by decide)).1 (by omega)
  simp only [← Int32.toInt_inj, e]
  have : (0 : Int32).toInt = 0 ∧ (1 : Int32).toInt = 1 ∧ (2 : Int32).toInt = 2 ∧ (3 : Int32).toInt = 3 ∧ (4 : Int32).toInt = 4 ∧ (5 : Int32).toInt = 5 ∧ (6 : Int32).toInt = 6 ∧ (7 : Int32).toInt = 7 ∧ (8 : Int32).toInt = 8 := by decide
  omega
theorem own_inbL {x : Int64} (h1 : ¬ (x < (-128 : Int64))) (h2 : ¬ ((127 : Int64) < x)) : ¬ ((x.toInt32) + (128 : Int32) < 0 ∨ (256 : Int32).toNatClampNeg ≤ ((x.toInt32) + (128 : Int32)).toNatClampNeg) := by
  have e := c_iadd x.toInt32 128
  have e2 := c_l2i x
  have r := rng32 (x.toInt32 + 128)
  have r2 := rng32 x.toInt32
  have : (128 : Int32).toInt = 128 := rfl
  have : (127 : Int64).toInt = 127 := rfl
  have : (-128 : Int64).toInt = -128 := rfl
  have : (256 : Int32).toInt = 256 := rfl
  have : (0 : Int32).toInt = 0 := rfl
  simp only [Int32.lt_iff_toInt_lt, Int64.lt_iff_toInt_lt, Int32.toNatClampNeg] at *
  omega
def Glob (Z : State) (w_INT8 : Addr) (w_UINT8 : Addr) (w_BOOL : Addr) (w_UINT16 : Addr) (w_UINT64 : Addr) (w_UINT32 : Addr) (w_INT32 : Addr) (w_INT16 : Addr) (w_INT64 : Addr) (w_cache : Addr) (cl_w_cache : Cell) : Prop := Sta Z Z.heap "com/example/muster/muster/model/IntegerType" "INT8" "Lcom/example/muster/muster/model/IntegerType;" (.ref w_INT8) ∧ Exa Z Z.heap w_INT8 "com/example/muster/muster/model/IntegerType" ∧ Sta Z Z.heap "com/example/muster/muster/model/IntegerType" "UINT8" "Lcom/example/muster/muster/model/IntegerType;" (.ref w_UINT8) ∧ Exa Z Z.heap w_UINT8 "com/example/muster/muster/model/IntegerType" ∧ Sta Z Z.heap "com/example/muster/muster/model/IntegerType" "BOOL" "Lcom/example/muster/muster/model/IntegerType;" (.ref w_BOOL) ∧ Exa Z Z.heap w_BOOL "com/example/muster/muster/model/IntegerType" ∧ Sta Z Z.heap "com/example/muster/muster/model/IntegerType" "UINT16" "Lcom/example/muster/muster/model/IntegerType;" (.ref w_UINT16) ∧ Exa Z Z.heap w_UINT16 "com/example/muster/muster/model/IntegerType" ∧ Sta Z Z.heap "com/example/muster/muster/model/IntegerType" "UINT64" "Lcom/example/muster/muster/model/IntegerType;" (.ref w_UINT64) ∧ Exa Z Z.heap w_UINT64 "com/example/muster/muster/model/IntegerType" ∧ Sta Z Z.heap "com/example/muster/muster/model/IntegerType" "UINT32" "Lcom/example/muster/muster/model/IntegerType;" (.ref w_UINT32) ∧ Exa Z Z.heap w_UINT32 "com/example/muster/muster/model/IntegerType" ∧ Sta Z Z.heap "com/example/muster/muster/model/IntegerType" "INT32" "Lcom/example/muster/muster/model/IntegerType;" (.ref w_INT32) ∧ Exa Z Z.heap w_INT32 "com/example/muster/muster/model/IntegerType" ∧ Sta Z Z.heap "com/example/muster/muster/model/IntegerType" "INT16" "Lcom/example/muster/muster/model/IntegerType;" (.ref w_INT16) ∧ Exa Z Z.heap w_INT16 "com/example/muster/muster/model/IntegerType" ∧ Sta Z Z.heap "com/example/muster/muster/model/IntegerType" "INT64" "Lcom/example/muster/muster/model/IntegerType;" (.ref w_INT64) ∧ Exa Z Z.heap w_INT64 "com/example/muster/muster/model/IntegerType" ∧ Sta Z Z.heap "java/lang/Long$LongCache" "cache" "[Ljava/lang/Long;" (.ref w_cache) ∧ Exa Z Z.heap w_cache "[Ljava/lang/Long;" ∧ Fld Z Z.heap w_INT8 "java/lang/Enum" "ordinal" "I" (.int (1 : Int32)) ∧ Fld Z Z.heap w_BOOL "java/lang/Enum" "ordinal" "I" (.int (0 : Int32)) ∧ Fld Z Z.heap w_INT16 "java/lang/Enum" "ordinal" "I" (.int (3 : Int32)) ∧ Fld Z Z.heap w_UINT64 "java/lang/Enum" "ordinal" "I" (.int (8 : Int32)) ∧ Fld Z Z.heap w_UINT32 "java/lang/Enum" "ordinal" "I" (.int (6 : Int32)) ∧ Fld Z Z.heap w_UINT16 "java/lang/Enum" "ordinal" "I" (.int (4 : Int32)) ∧ Fld Z Z.heap w_UINT8 "java/lang/Enum" "ordinal" "I" (.int (2 : Int32)) ∧ Fld Z Z.heap w_INT32 "java/lang/Enum" "ordinal" "I" (.int (5 : Int32)) ∧ Fld Z Z.heap w_INT64 "java/lang/Enum" "ordinal" "I" (.int (7 : Int32)) ∧ Bxs Z w_cache cl_w_cache "java/lang/Long" "J" (256 : Int32) (fun j => .long (j - 128).toInt64)
theorem d1_0 : decode method_2_code 0 = .ok (.iload_n 0, 1) := by decide +kernel
theorem d1_1 : decode method_2_code 1 = .ok (.ifCond .ne 7, 3) := by decide +kernel
theorem d1_4 : decode method_2_code 4 = .ok (.getstatic 7, 3) := by decide +kernel
theorem d1_7 : decode method_2_code 7 = .ok (.areturn, 1) := by decide +kernel
theorem d1_8 : decode method_2_code 8 = .ok (.iload_n 0, 1) := by decide +kernel
theorem d1_9 : decode method_2_code 9 = .ok (.iconst 1, 1) := by decide +kernel
theorem d1_10 : decode method_2_code 10 = .ok (.if_icmp .ne 7, 3) := by decide +kernel
theorem d1_13 : decode method_2_code 13 = .ok (.getstatic 13, 3) := by decide +kernel
theorem d1_16 : decode method_2_code 16 = .ok (.areturn, 1) := by decide +kernel
theorem d1_17 : decode method_2_code 17 = .ok (.iload_n 0, 1) := by decide +kernel
theorem d1_18 : decode method_2_code 18 = .ok (.iconst 2, 1) := by decide +kernel
theorem d1_19 : decode method_2_code 19 = .ok (.if_icmp .ne 7, 3) := by decide +kernel
theorem d1_22 : decode method_2_code 22 = .ok (.getstatic 16, 3) := by decide +kernel
theorem d1_25 : decode method_2_code 25 = .ok (.areturn, 1) := by decide +kernel
theorem d1_26 : decode method_2_code 26 = .ok (.iload_n 0, 1) := by decide +kernel
theorem d1_27 : decode method_2_code 27 = .ok (.iconst 3, 1) := by decide +kernel
theorem d1_28 : decode method_2_code 28 = .ok (.if_icmp .ne 7, 3) := by decide +kernel
theorem d1_31 : decode method_2_code 31 = .ok (.getstatic 19, 3) := by decide +kernel
theorem d1_34 : decode method_2_code 34 = .ok (.areturn, 1) := by decide +kernel
theorem d1_35 : decode method_2_code 35 = .ok (.iload_n 0, 1) := by decide +kernel
theorem d1_36 : decode method_2_code 36 = .ok (.iconst 4, 1) := by decide +kernel
theorem d1_37 : decode method_2_code 37 = .ok (.if_icmp .ne 7, 3) := by decide +kernel
theorem d1_40 : decode method_2_code 40 = .ok (.getstatic 22, 3) := by decide +kernel
theorem d1_43 : decode method_2_code 43 = .ok (.areturn, 1) := by decide +kernel
theorem d1_44 : decode method_2_code 44 = .ok (.iload_n 0, 1) := by decide +kernel
theorem d1_45 : decode method_2_code 45 = .ok (.iconst 5, 1) := by decide +kernel
theorem d1_46 : decode method_2_code 46 = .ok (.if_icmp .ne 7, 3) := by decide +kernel
theorem d1_49 : decode method_2_code 49 = .ok (.getstatic 25, 3) := by decide +kernel
theorem d1_52 : decode method_2_code 52 = .ok (.areturn, 1) := by decide +kernel
theorem d1_53 : decode method_2_code 53 = .ok (.iload_n 0, 1) := by decide +kernel
theorem d1_54 : decode method_2_code 54 = .ok (.bipush 6, 2) := by decide +kernel
theorem d1_56 : decode method_2_code 56 = .ok (.if_icmp .ne 7, 3) := by decide +kernel
theorem d1_59 : decode method_2_code 59 = .ok (.getstatic 28, 3) := by decide +kernel
theorem d1_62 : decode method_2_code 62 = .ok (.areturn, 1) := by decide +kernel
theorem d1_63 : decode method_2_code 63 = .ok (.iload_n 0, 1) := by decide +kernel
theorem d1_64 : decode method_2_code 64 = .ok (.bipush 7, 2) := by decide +kernel
theorem d1_66 : decode method_2_code 66 = .ok (.if_icmp .ne 7, 3) := by decide +kernel
theorem d1_69 : decode method_2_code 69 = .ok (.getstatic 31, 3) := by decide +kernel
theorem d1_72 : decode method_2_code 72 = .ok (.areturn, 1) := by decide +kernel
theorem d1_73 : decode method_2_code 73 = .ok (.getstatic 34, 3) := by decide +kernel
theorem d1_76 : decode method_2_code 76 = .ok (.areturn, 1) := by decide +kernel
theorem pn_com_example_muster_muster_analysis_SymbolicEqualsPinLaw : plainName "com/example/muster/muster/analysis/SymbolicEqualsPinLaw" = true := by first | (simp [plainName, overriddenIn]; done) | decide +kernel
def f1 (w_INT8 : Addr) (w_UINT8 : Addr) (w_BOOL : Addr) (w_UINT16 : Addr) (w_UINT64 : Addr) (w_UINT32 : Addr) (w_INT32 : Addr) (w_INT16 : Addr) (w_INT64 : Addr) (p1 : Int32) : Addr := (if p1 = (0 : Int32) then w_BOOL else (if p1 = (1 : Int32) then w_INT8 else (if p1 = (2 : Int32) then w_UINT8 else (if p1 = (3 : Int32) then w_INT16 else (if p1 = (4 : Int32) then w_UINT16 else (if p1 = (5 : Int32) then w_INT32 else (if p1 = (6 : Int32) then w_UINT32 else (if p1 = (7 : Int32) then w_INT64 else w_UINT64))))))))
def f1_ordinal (p1 : Int32) : Int32 := (if p1 = (0 : Int32) then (0 : Int32) else (if p1 = (1 : Int32) then (1 : Int32) else (if p1 = (2 : Int32) then (2 : Int32) else (if p1 = (3 : Int32) then (3 : Int32) else (if p1 = (4 : Int32) then (4 : Int32) else (if p1 = (5 : Int32) then (5 : Int32) else (if p1 = (6 : Int32) then (6 : Int32) else (if p1 = (7 : Int32) then (7 : Int32) else (8 : Int32)))))))))
def Q1 (Z : State) (w_INT8 : Addr) (w_UINT8 : Addr) (w_BOOL : Addr) (w_UINT16 : Addr) (w_UINT64 : Addr) (w_UINT32 : Addr) (w_INT32 : Addr) (w_INT16 : Addr) (w_INT64 : Addr) (w_cache : Addr) (cl_w_cache : Cell) (p1 : Int32) (h0 : Heap) (n0 : Nat) (v : Option Value) (h : Heap) (L : List Loc) : Prop := v = some (.ref (f1 w_INT8 w_UINT8 w_BOOL w_UINT16 w_UINT64 w_UINT32 w_INT32 w_INT16 w_INT64 p1)) ∧ Fr n0 L ∧ h = h0 ∧ Exa Z Z.heap (f1 w_INT8 w_UINT8 w_BOOL w_UINT16 w_UINT64 w_UINT32 w_INT32 w_INT16 w_INT64 p1) "com/example/muster/muster/model/IntegerType" ∧ Fld Z Z.heap (f1 w_INT8 w_UINT8 w_BOOL w_UINT16 w_UINT64 w_UINT32 w_INT32 w_INT16 w_INT64 p1) "java/lang/Enum" "ordinal" "I" (.int (f1_ordinal p1))
theorem ef1 (m : MethodId) (x0 : Int32) : entryFrame m #[(.int x0)] 1 = mkF m 0 #[.val (.int x0)] [] := by first | (simp [entryFrame, mkF, argsToLocals, Value.category]; done) | rfl
set_option maxRecDepth 65536 in
set_option maxHeartbeats 40000000 in
theorem rm1 (l : Launch) (Z : State) (a0 : Array Value) (hw : ∀ d ∈ tables_1, d.before a0 Z = true) (ws : List Jvm.Cond) {w_INT8 : Addr} {w_UINT8 : Addr} {w_BOOL : Addr} {w_UINT16 : Addr} {w_UINT64 : Addr} {w_UINT32 : Addr} {w_INT32 : Addr} {w_INT16 : Addr} {w_INT64 : Addr} {w_cache : Addr} {cl_w_cache : Cell} (G : Glob Z w_INT8 w_UINT8 w_BOOL w_UINT16 w_UINT64 w_UINT32 w_INT32 w_INT16 w_INT64 w_cache cl_w_cache) (p1 : Int32) (h0 : Heap) (n0 : Nat) (O0 : Old Z n0 h0) :
    MetFree l (⟨"com/example/muster/muster/analysis/SymbolicEqualsPinLaw", "type", "(I)Lcom/example/muster/muster/model/IntegerType;"⟩ : MethodName) (head1 (Jvm.Cond.code (⟨"com/example/muster/muster/analysis/SymbolicEqualsPinLaw", "type", "(I)Lcom/example/muster/muster/model/IntegerType;"⟩ : MethodName) method_2_code 1 (some (.object "com/example/muster/muster/model/IntegerType")) :: ws) ({ frames := 0, cells := 0, slots := 0, locals := 0 } : Room)) (fun a U => a = #[(.int p1)] ∧ Z.Warmed39 U.vm ∧ U.heap = h0) (fun _ _ _ _ _ => True) (fun _ U o U' => ∃ v L, o = .returned v ∧ Q1 Z w_INT8 w_UINT8 w_BOOL w_UINT16 w_UINT64 w_UINT32 w_INT32 w_INT16 w_INT64 w_cache cl_w_cache p1 h0 n0 v U'.heap L ∧ FrameEnd U o U' L ({ frames := 0, cells := 0, slots := 0, locals := 0 } : Room).cells ({ frames := 0, cells := 0, slots := 0, locals := 0 } : Room).slots) := by
  refine MetFree.of_bodySF (plainFor_of_name pn_com_example_muster_muster_analysis_SymbolicEqualsPinLaw) hisR ?_
  intro p e s m args below meth c s₁ Bd hml0 hP hK
  obtain ⟨rfl, hZ, hh⟩ := hP
  have hx := Bd.exec
  have hby := Bd.bytes
  have hml : c.maxLocals = 1 := hml0
  have hown : s.vm.findClass "com/example/muster/muster/analysis/SymbolicEqualsPinLaw" = some m.cls := findClass_of_methodNamed Bd.named
  have hnm := (name_of_methodNamed Bd.named Bd.method).1
  have X0 : Stand p l e ({ frames := 0, cells := 0, slots := 0, locals := 0 } : Room) s m #[(.int p1)] below meth c s₁ [] 0 0 := Stand.of_body Bd
  have e0 : s₁.heap = h0 := by rw [← hh, Bd.state]; rfl
  have N0 := Fr.nil n0
  show OGot p.tables e below (s₁.setTop (entryFrame m #[(.int p1)] 1)) _
  refine OGot.go (fun t k => castTop (ef1 m p1) k) ?_
  show OGot p.tables e below (s₁.setTop (mkF m 0 #[.val (.int p1)] [])) _
  refine OGot.go (fun t k => XS.iloadN X0.here hx rfl (hb hby d1_0) rfl k) ?_
  show OGot p.tables e below (s₁.setTop (mkF m 1 #[.val (.int p1)] [(.int p1)])) _
  by_cases hs2 : p1 = (0 : Int32)
  · refine OGot.go (fun t k => XS.ifNo X0.here hx rfl (hb hby d1_1) rfl ((if0 _ _).trans (teq hs2).2) k) ?_
    show OGot p.tables e below (s₁.setTop (mkF m 4 #[.val (.int p1)] [])) _
    obtain ⟨T3, X3, e3, st3⟩ := getS2 X0 hx hZ hown (host := "") (Or.inl (ow hw 37 rfl)) Via.refl e0 (G.2.2.2.2.1.ext O0.2) (g := (mkF m 4 #[.val (.int p1)] [])) rfl (hb hby d1_4)
    refine OGot.go st3 ?_
    show OGot p.tables e below (T3.setTop (mkF m 7 #[.val (.int p1)] [(.ref w_BOOL)])) _
    obtain ⟨fs, hr, hrun, hended, hW, hsame⟩ := X3.leave (v := some (.ref w_BOOL)) (fun h => by rw [Bd.returns] at h; cases h)
    refine ⟨_, _, oretA X3 hx Bd.returns rfl rfl (hb hby d1_7) hr, hrun, hended, _, _, rfl, ?_, ⟨_, rfl⟩, hW, hsame.mono (by decide) (by decide)⟩
    exact (⟨(by unfold f1; rw [if_pos hs2]), N0, e3, (by unfold f1; rw [if_pos hs2]; exact G.2.2.2.2.2.1), (by unfold f1 f1_ordinal; rw [if_pos hs2, if_pos hs2]; exact G.2.2.2.2.2.2.2.2.2.2.2.2.2.2.2.2.2.2.2.2.2.1)⟩ : Q1 Z w_INT8 w_UINT8 w_BOOL w_UINT16 w_UINT64 w_UINT32 w_INT32 w_INT16 w_INT64 w_cache cl_w_cache p1 h0 n0 _ T3.heap _)
  · refine OGot.go (fun t k => XS.ifYes X0.here hx rfl (pc0 := 1) (pc' := 8) rfl (hb hby d1_1) rfl ((if0 _ _).trans (feq hs2).2) (by decide) (by decide) k) ?_
    show OGot p.tables e below (s₁.setTop (mkF m 8 #[.val (.int p1)] [])) _
    refine OGot.go (fun t k => XS.iloadN X0.here hx rfl (hb hby d1_8) rfl k) ?_
    show OGot p.tables e below (s₁.setTop (mkF m 9 #[.val (.int p1)] [(.int p1)])) _
    refine OGot.go (fun t k => XS.iconst X0.here hx rfl (hb hby d1_9) k) ?_
    show OGot p.tables e below (s₁.setTop (mkF m 10 #[.val (.int p1)] [(.int (1 : Int32)), (.int p1)])) _
    by_cases hs4 : p1 = (1 : Int32)
    · refine OGot.go (fun t k => XS.icmpNo X0.here hx rfl (hb hby d1_10) rfl (teq hs4).2 k) ?_
      show OGot p.tables e below (s₁.setTop (mkF m 13 #[.val (.int p1)] [])) _
      obtain ⟨T5, X5, e5, st5⟩ := getS2 X0 hx hZ hown (host := "") (Or.inl (ow hw 8 rfl)) Via.refl e0 (G.1.ext O0.2) (g := (mkF m 13 #[.val (.int p1)] [])) rfl (hb hby d1_13)
      refine OGot.go st5 ?_
      show OGot p.tables e below (T5.setTop (mkF m 16 #[.val (.int p1)] [(.ref w_INT8)])) _
      obtain ⟨fs, hr, hrun, hended, hW, hsame⟩ := X5.leave (v := some (.ref w_INT8)) (fun h => by rw [Bd.returns] at h; cases h)
      refine ⟨_, _, oretA X5 hx Bd.returns rfl rfl (hb hby d1_16) hr, hrun, hended, _, _, rfl, ?_, ⟨_, rfl⟩, hW, hsame.mono (by decide) (by decide)⟩
      exact (⟨(by unfold f1; rw [if_neg hs2, if_pos hs4]), N0, e5, (by unfold f1; rw [if_neg hs2, if_pos hs4]; exact G.2.1), (by unfold f1 f1_ordinal; rw [if_neg hs2, if_pos hs4, if_neg hs2, if_pos hs4]; exact G.2.2.2.2.2.2.2.2.2.2.2.2.2.2.2.2.2.2.2.2.1)⟩ : Q1 Z w_INT8 w_UINT8 w_BOOL w_UINT16 w_UINT64 w_UINT32 w_INT32 w_INT16 w_INT64 w_cache cl_w_cache p1 h0 n0 _ T5.heap _)
    · refine OGot.go (fun t k => XS.icmpYes X0.here hx rfl (pc0 := 10) (pc' := 17) rfl (hb hby d1_10) rfl (feq hs4).2 (by decide) (by decide) k) ?_
      show OGot p.tables e below (s₁.setTop (mkF m 17 #[.val (.int p1)] [])) _
      refine OGot.go (fun t k => XS.iloadN X0.here hx rfl (hb hby d1_17) rfl k) ?_
      show OGot p.tables e below (s₁.setTop (mkF m 18 #[.val (.int p1)] [(.int p1)])) _
      refine OGot.go (fun t k => XS.iconst X0.here hx rfl (hb hby d1_18) k) ?_
      show OGot p.tables e below (s₁.setTop (mkF m 19 #[.val (.int p1)] [(.int (2 : Int32)), (.int p1)])) _
      by_cases hs6 : p1 = (2 : Int32)
      · refine OGot.go (fun t k => XS.icmpNo X0.here hx rfl (hb hby d1_19) rfl (teq hs6).2 k) ?_
        show OGot p.tables e below (s₁.setTop (mkF m 22 #[.val (.int p1)] [])) _
        obtain ⟨T7, X7, e7, st7⟩ := getS2 X0 hx hZ hown (host := "") (Or.inl (ow hw 35 rfl)) Via.refl e0 (G.2.2.1.ext O0.2) (g := (mkF m 22 #[.val (.int p1)] [])) rfl (hb hby d1_22)
        refine OGot.go st7 ?_
        show OGot p.tables e below (T7.setTop (mkF m 25 #[.val (.int p1)] [(.ref w_UINT8)])) _
        obtain ⟨fs, hr, hrun, hended, hW, hsame⟩ := X7.leave (v := some (.ref w_UINT8)) (fun h => by rw [Bd.returns] at h; cases h)
        refine ⟨_, _, oretA X7 hx Bd.returns rfl rfl (hb hby d1_25) hr, hrun, hended, _, _, rfl, ?_, ⟨_, rfl⟩, hW, hsame.mono (by decide) (by decide)⟩
        exact (⟨(by unfold f1; rw [if_neg hs2, if_neg hs4, if_pos hs6]), N0, e7, (by unfold f1; rw [if_neg hs2, if_neg hs4, if_pos hs6]; exact G.2.2.2.1), (by unfold f1 f1_ordinal; rw [if_neg hs2, if_neg hs4, if_pos hs6, if_neg hs2, if_neg hs4, if_pos hs6]; exact G.2.2.2.2.2.2.2.2.2.2.2.2.2.2.2.2.2.2.2.2.2.2.2.2.2.2.1)⟩ : Q1 Z w_INT8 w_UINT8 w_BOOL w_UINT16 w_UINT64 w_UINT32 w_INT32 w_INT16 w_INT64 w_cache cl_w_cache p1 h0 n0 _ T7.heap _)
      · refine OGot.go (fun t k => XS.icmpYes X0.here hx rfl (pc0 := 19) (pc' := 26) rfl (hb hby d1_19) rfl (feq hs6).2 (by decide) (by decide) k) ?_
        show OGot p.tables e below (s₁.setTop (mkF m 26 #[.val (.int p1)] [])) _
        refine OGot.go (fun t k => XS.iloadN X0.here hx rfl (hb hby d1_26) rfl k) ?_
        show OGot p.tables e below (s₁.setTop (mkF m 27 #[.val (.int p1)] [(.int p1)])) _
        refine OGot.go (fun t k => XS.iconst X0.here hx rfl (hb hby d1_27) k) ?_
        show OGot p.tables e below (s₁.setTop (mkF m 28 #[.val (.int p1)] [(.int (3 : Int32)), (.int p1)])) _
        by_cases hs8 : p1 = (3 : Int32)
        · refine OGot.go (fun t k => XS.icmpNo X0.here hx rfl (hb hby d1_28) rfl (teq hs8).2 k) ?_
          show OGot p.tables e below (s₁.setTop (mkF m 31 #[.val (.int p1)] [])) _
          obtain ⟨T9, X9, e9, st9⟩ := getS2 X0 hx hZ hown (host := "") (Or.inl (ow hw 70 rfl)) Via.refl e0 (G.2.2.2.2.2.2.2.2.2.2.2.2.2.2.1.ext O0.2) (g := (mkF m 31 #[.val (.int p1)] [])) rfl (hb hby d1_31)
          refine OGot.go st9 ?_
          show OGot p.tables e below (T9.setTop (mkF m 34 #[.val (.int p1)] [(.ref w_INT16)])) _
          obtain ⟨fs, hr, hrun, hended, hW, hsame⟩ := X9.leave (v := some (.ref w_INT16)) (fun h => by rw [Bd.returns] at h; cases h)
          refine ⟨_, _, oretA X9 hx Bd.returns rfl rfl (hb hby d1_34) hr, hrun, hended, _, _, rfl, ?_, ⟨_, rfl⟩, hW, hsame.mono (by decide) (by decide)⟩
          exact (⟨(by unfold f1; rw [if_neg hs2, if_neg hs4, if_neg hs6, if_pos hs8]), N0, e9, (by unfold f1; rw [if_neg hs2, if_neg hs4, if_neg hs6, if_pos hs8]; exact G.2.2.2.2.2.2.2.2.2.2.2.2.2.2.2.1), (by unfold f1 f1_ordinal; rw [if_neg hs2, if_neg hs4, if_neg hs6, if_pos hs8, if_neg hs2, if_neg hs4, if_neg hs6, if_pos hs8]; exact G.2.2.2.2.2.2.2.2.2.2.2.2.2.2.2.2.2.2.2.2.2.2.1)⟩ : Q1 Z w_INT8 w_UINT8 w_BOOL w_UINT16 w_UINT64 w_UINT32 w_INT32 w_INT16 w_INT64 w_cache cl_w_cache p1 h0 n0 _ T9.heap _)
        · refine OGot.go (fun t k => XS.icmpYes X0.here hx rfl (pc0 := 28) (pc' := 35) rfl (hb hby d1_28) rfl (feq hs8).2 (by decide) (by decide) k) ?_
          show OGot p.tables e below (s₁.setTop (mkF m 35 #[.val (.int p1)] [])) _
          refine OGot.go (fun t k => XS.iloadN X0.here hx rfl (hb hby d1_35) rfl k) ?_
          show OGot p.tables e below (s₁.setTop (mkF m 36 #[.val (.int p1)] [(.int p1)])) _
          refine OGot.go (fun t k => XS.iconst X0.here hx rfl (hb hby d1_36) k) ?_
          show OGot p.tables e below (s₁.setTop (mkF m 37 #[.val (.int p1)] [(.int (4 : Int32)), (.int p1)])) _
          by_cases hs10 : p1 = (4 : Int32)
          · refine OGot.go (fun t k => XS.icmpNo X0.here hx rfl (hb hby d1_37) rfl (teq hs10).2 k) ?_
            show OGot p.tables e below (s₁.setTop (mkF m 40 #[.val (.int p1)] [])) _
            obtain ⟨T11, X11, e11, st11⟩ := getS2 X0 hx hZ hown (host := "") (Or.inl (ow hw 39 rfl)) Via.refl e0 (G.2.2.2.2.2.2.1.ext O0.2) (g := (mkF m 40 #[.val (.int p1)] [])) rfl (hb hby d1_40)
            refine OGot.go st11 ?_
            show OGot p.tables e below (T11.setTop (mkF m 43 #[.val (.int p1)] [(.ref w_UINT16)])) _
            obtain ⟨fs, hr, hrun, hended, hW, hsame⟩ := X11.leave (v := some (.ref w_UINT16)) (fun h => by rw [Bd.returns] at h; cases h)
            refine ⟨_, _, oretA X11 hx Bd.returns rfl rfl (hb hby d1_43) hr, hrun, hended, _, _, rfl, ?_, ⟨_, rfl⟩, hW, hsame.mono (by decide) (by decide)⟩
            exact (⟨(by unfold f1; rw [if_neg hs2, if_neg hs4, if_neg hs6, if_neg hs8, if_pos hs10]), N0, e11, (by unfold f1; rw [if_neg hs2, if_neg hs4, if_neg hs6, if_neg hs8, if_pos hs10]; exact G.2.2.2.2.2.2.2.1), (by unfold f1 f1_ordinal; rw [if_neg hs2, if_neg hs4, if_neg hs6, if_neg hs8, if_pos hs10, if_neg hs2, if_neg hs4, if_neg hs6, if_neg hs8, if_pos hs10]; exact G.2.2.2.2.2.2.2.2.2.2.2.2.2.2.2.2.2.2.2.2.2.2.2.2.2.1)⟩ : Q1 Z w_INT8 w_UINT8 w_BOOL w_UINT16 w_UINT64 w_UINT32 w_INT32 w_INT16 w_INT64 w_cache cl_w_cache p1 h0 n0 _ T11.heap _)
          · refine OGot.go (fun t k => XS.icmpYes X0.here hx rfl (pc0 := 37) (pc' := 44) rfl (hb hby d1_37) rfl (feq hs10).2 (by decide) (by decide) k) ?_
            show OGot p.tables e below (s₁.setTop (mkF m 44 #[.val (.int p1)] [])) _
            refine OGot.go (fun t k => XS.iloadN X0.here hx rfl (hb hby d1_44) rfl k) ?_
            show OGot p.tables e below (s₁.setTop (mkF m 45 #[.val (.int p1)] [(.int p1)])) _
            refine OGot.go (fun t k => XS.iconst X0.here hx rfl (hb hby d1_45) k) ?_
            show OGot p.tables e below (s₁.setTop (mkF m 46 #[.val (.int p1)] [(.int (5 : Int32)), (.int p1)])) _
            by_cases hs12 : p1 = (5 : Int32)
            · refine OGot.go (fun t k => XS.icmpNo X0.here hx rfl (hb hby d1_46) rfl (teq hs12).2 k) ?_
              show OGot p.tables e below (s₁.setTop (mkF m 49 #[.val (.int p1)] [])) _
              obtain ⟨T13, X13, e13, st13⟩ := getS2 X0 hx hZ hown (host := "") (Or.inl (ow hw 68 rfl)) Via.refl e0 (G.2.2.2.2.2.2.2.2.2.2.2.2.1.ext O0.2) (g := (mkF m 49 #[.val (.int p1)] [])) rfl (hb hby d1_49)
              refine OGot.go st13 ?_
              show OGot p.tables e below (T13.setTop (mkF m 52 #[.val (.int p1)] [(.ref w_INT32)])) _
              obtain ⟨fs, hr, hrun, hended, hW, hsame⟩ := X13.leave (v := some (.ref w_INT32)) (fun h => by rw [Bd.returns] at h; cases h)
              refine ⟨_, _, oretA X13 hx Bd.returns rfl rfl (hb hby d1_52) hr, hrun, hended, _, _, rfl, ?_, ⟨_, rfl⟩, hW, hsame.mono (by decide) (by decide)⟩
              exact (⟨(by unfold f1; rw [if_neg hs2, if_neg hs4, if_neg hs6, if_neg hs8, if_neg hs10, if_pos hs12]), N0, e13, (by unfold f1; rw [if_neg hs2, if_neg hs4, if_neg hs6, if_neg hs8, if_neg hs10, if_pos hs12]; exact G.2.2.2.2.2.2.2.2.2.2.2.2.2.1), (by unfold f1 f1_ordinal; rw [if_neg hs2, if_neg hs4, if_neg hs6, if_neg hs8, if_neg hs10, if_pos hs12, if_neg hs2, if_neg hs4, if_neg hs6, if_neg hs8, if_neg hs10, if_pos hs12]; exact G.2.2.2.2.2.2.2.2.2.2.2.2.2.2.2.2.2.2.2.2.2.2.2.2.2.2.2.1)⟩ : Q1 Z w_INT8 w_UINT8 w_BOOL w_UINT16 w_UINT64 w_UINT32 w_INT32 w_INT16 w_INT64 w_cache cl_w_cache p1 h0 n0 _ T13.heap _)
            · refine OGot.go (fun t k => XS.icmpYes X0.here hx rfl (pc0 := 46) (pc' := 53) rfl (hb hby d1_46) rfl (feq hs12).2 (by decide) (by decide) k) ?_
              show OGot p.tables e below (s₁.setTop (mkF m 53 #[.val (.int p1)] [])) _
              refine OGot.go (fun t k => XS.iloadN X0.here hx rfl (hb hby d1_53) rfl k) ?_
              show OGot p.tables e below (s₁.setTop (mkF m 54 #[.val (.int p1)] [(.int p1)])) _
              refine OGot.go (fun t k => XS.bipush X0.here hx rfl (hb hby d1_54) k) ?_
              show OGot p.tables e below (s₁.setTop (mkF m 56 #[.val (.int p1)] [(.int (6 : Int32)), (.int p1)])) _
              by_cases hs14 : p1 = (6 : Int32)
              · refine OGot.go (fun t k => XS.icmpNo X0.here hx rfl (hb hby d1_56) rfl (teq hs14).2 k) ?_
                show OGot p.tables e below (s₁.setTop (mkF m 59 #[.val (.int p1)] [])) _
                obtain ⟨T15, X15, e15, st15⟩ := getS2 X0 hx hZ hown (host := "") (Or.inl (ow hw 43 rfl)) Via.refl e0 (G.2.2.2.2.2.2.2.2.2.2.1.ext O0.2) (g := (mkF m 59 #[.val (.int p1)] [])) rfl (hb hby d1_59)
                refine OGot.go st15 ?_
                show OGot p.tables e below (T15.setTop (mkF m 62 #[.val (.int p1)] [(.ref w_UINT32)])) _
                obtain ⟨fs, hr, hrun, hended, hW, hsame⟩ := X15.leave (v := some (.ref w_UINT32)) (fun h => by rw [Bd.returns] at h; cases h)
                refine ⟨_, _, oretA X15 hx Bd.returns rfl rfl (hb hby d1_62) hr, hrun, hended, _, _, rfl, ?_, ⟨_, rfl⟩, hW, hsame.mono (by decide) (by decide)⟩
                exact (⟨(by unfold f1; rw [if_neg hs2, if_neg hs4, if_neg hs6, if_neg hs8, if_neg hs10, if_neg hs12, if_pos hs14]), N0, e15, (by unfold f1; rw [if_neg hs2, if_neg hs4, if_neg hs6, if_neg hs8, if_neg hs10, if_neg hs12, if_pos hs14]; exact G.2.2.2.2.2.2.2.2.2.2.2.1), (by unfold f1 f1_ordinal; rw [if_neg hs2, if_neg hs4, if_neg hs6, if_neg hs8, if_neg hs10, if_neg hs12, if_pos hs14, if_neg hs2, if_neg hs4, if_neg hs6, if_neg hs8, if_neg hs10, if_neg hs12, if_pos hs14]; exact G.2.2.2.2.2.2.2.2.2.2.2.2.2.2.2.2.2.2.2.2.2.2.2.2.1)⟩ : Q1 Z w_INT8 w_UINT8 w_BOOL w_UINT16 w_UINT64 w_UINT32 w_INT32 w_INT16 w_INT64 w_cache cl_w_cache p1 h0 n0 _ T15.heap _)
              · refine OGot.go (fun t k => XS.icmpYes X0.here hx rfl (pc0 := 56) (pc' := 63) rfl (hb hby d1_56) rfl (feq hs14).2 (by decide) (by decide) k) ?_
                show OGot p.tables e below (s₁.setTop (mkF m 63 #[.val (.int p1)] [])) _
                refine OGot.go (fun t k => XS.iloadN X0.here hx rfl (hb hby d1_63) rfl k) ?_
                show OGot p.tables e below (s₁.setTop (mkF m 64 #[.val (.int p1)] [(.int p1)])) _
                refine OGot.go (fun t k => XS.bipush X0.here hx rfl (hb hby d1_64) k) ?_
                show OGot p.tables e below (s₁.setTop (mkF m 66 #[.val (.int p1)] [(.int (7 : Int32)), (.int p1)])) _
                by_cases hs16 : p1 = (7 : Int32)
                · refine OGot.go (fun t k => XS.icmpNo X0.here hx rfl (hb hby d1_66) rfl (teq hs16).2 k) ?_
                  show OGot p.tables e below (s₁.setTop (mkF m 69 #[.val (.int p1)] [])) _
                  obtain ⟨T17, X17, e17, st17⟩ := getS2 X0 hx hZ hown (host := "") (Or.inl (ow hw 72 rfl)) Via.refl e0 (G.2.2.2.2.2.2.2.2.2.2.2.2.2.2.2.2.1.ext O0.2) (g := (mkF m 69 #[.val (.int p1)] [])) rfl (hb hby d1_69)
                  refine OGot.go st17 ?_
                  show OGot p.tables e below (T17.setTop (mkF m 72 #[.val (.int p1)] [(.ref w_INT64)])) _
                  obtain ⟨fs, hr, hrun, hended, hW, hsame⟩ := X17.leave (v := some (.ref w_INT64)) (fun h => by rw [Bd.returns] at h; cases h)
                  refine ⟨_, _, oretA X17 hx Bd.returns rfl rfl (hb hby d1_72) hr, hrun, hended, _, _, rfl, ?_, ⟨_, rfl⟩, hW, hsame.mono (by decide) (by decide)⟩
                  exact (⟨(by unfold f1; rw [if_neg hs2, if_neg hs4, if_neg hs6, if_neg hs8, if_neg hs10, if_neg hs12, if_neg hs14, if_pos hs16]), N0, e17, (by unfold f1; rw [if_neg hs2, if_neg hs4, if_neg hs6, if_neg hs8, if_neg hs10, if_neg hs12, if_neg hs14, if_pos hs16]; exact G.2.2.2.2.2.2.2.2.2.2.2.2.2.2.2.2.2.1), (by unfold f1 f1_ordinal; rw [if_neg hs2, if_neg hs4, if_neg hs6, if_neg hs8, if_neg hs10, if_neg hs12, if_neg hs14, if_pos hs16, if_neg hs2, if_neg hs4, if_neg hs6, if_neg hs8, if_neg hs10, if_neg hs12, if_neg hs14, if_pos hs16]; exact G.2.2.2.2.2.2.2.2.2.2.2.2.2.2.2.2.2.2.2.2.2.2.2.2.2.2.2.2.1)⟩ : Q1 Z w_INT8 w_UINT8 w_BOOL w_UINT16 w_UINT64 w_UINT32 w_INT32 w_INT16 w_INT64 w_cache cl_w_cache p1 h0 n0 _ T17.heap _)
                · refine OGot.go (fun t k => XS.icmpYes X0.here hx rfl (pc0 := 66) (pc' := 73) rfl (hb hby d1_66) rfl (feq hs16).2 (by decide) (by decide) k) ?_
                  show OGot p.tables e below (s₁.setTop (mkF m 73 #[.val (.int p1)] [])) _
                  obtain ⟨T18, X18, e18, st18⟩ := getS2 X0 hx hZ hown (host := "") (Or.inl (ow hw 41 rfl)) Via.refl e0 (G.2.2.2.2.2.2.2.2.1.ext O0.2) (g := (mkF m 73 #[.val (.int p1)] [])) rfl (hb hby d1_73)
                  refine OGot.go st18 ?_
                  show OGot p.tables e below (T18.setTop (mkF m 76 #[.val (.int p1)] [(.ref w_UINT64)])) _
                  obtain ⟨fs, hr, hrun, hended, hW, hsame⟩ := X18.leave (v := some (.ref w_UINT64)) (fun h => by rw [Bd.returns] at h; cases h)
                  refine ⟨_, _, oretA X18 hx Bd.returns rfl rfl (hb hby d1_76) hr, hrun, hended, _, _, rfl, ?_, ⟨_, rfl⟩, hW, hsame.mono (by decide) (by decide)⟩
                  exact (⟨(by unfold f1; rw [if_neg hs2, if_neg hs4, if_neg hs6, if_neg hs8, if_neg hs10, if_neg hs12, if_neg hs14, if_neg hs16]), N0, e18, (by unfold f1; rw [if_neg hs2, if_neg hs4, if_neg hs6, if_neg hs8, if_neg hs10, if_neg hs12, if_neg hs14, if_neg hs16]; exact G.2.2.2.2.2.2.2.2.2.1), (by unfold f1 f1_ordinal; rw [if_neg hs2, if_neg hs4, if_neg hs6, if_neg hs8, if_neg hs10, if_neg hs12, if_neg hs14, if_neg hs16, if_neg hs2, if_neg hs4, if_neg hs6, if_neg hs8, if_neg hs10, if_neg hs12, if_neg hs14, if_neg hs16]; exact G.2.2.2.2.2.2.2.2.2.2.2.2.2.2.2.2.2.2.2.2.2.2.2.1)⟩ : Q1 Z w_INT8 w_UINT8 w_BOOL w_UINT16 w_UINT64 w_UINT32 w_INT32 w_INT16 w_INT64 w_cache cl_w_cache p1 h0 n0 _ T18.heap _)
theorem pd_0 : parseMethodDescriptor "(I)Lcom/example/muster/muster/model/IntegerType;" = some ⟨[.int], some (.object "com/example/muster/muster/model/IntegerType")⟩ := by decide +kernel
theorem d2_0 : decode prog_45_method_1_code 0 = .ok (.aload_n 0, 1) := by decide +kernel
theorem d2_1 : decode prog_45_method_1_code 1 = .ok (.invokespecial 1, 3) := by decide +kernel
theorem d3_0 : decode jdk_30_method_1_code 0 = .ok (.aload_n 0, 1) := by decide +kernel
theorem d3_1 : decode jdk_30_method_1_code 1 = .ok (.invokespecial 1, 3) := by decide +kernel
theorem d3_4 : decode jdk_30_method_1_code 4 = .ok (.return_, 1) := by decide +kernel
theorem pn_java_lang_Record : plainName "java/lang/Record" = true := by first | (simp [plainName, overriddenIn]; done) | decide +kernel
def Q3 (Z : State) (w_INT8 : Addr) (w_UINT8 : Addr) (w_BOOL : Addr) (w_UINT16 : Addr) (w_UINT64 : Addr) (w_UINT32 : Addr) (w_INT32 : Addr) (w_INT16 : Addr) (w_INT64 : Addr) (w_cache : Addr) (cl_w_cache : Cell) (a1 : Addr) (h0 : Heap) (n0 : Nat) (v : Option Value) (h : Heap) (L : List Loc) : Prop := v = none ∧ Fr n0 L ∧ h = h0
theorem ef3 (m : MethodId) (x0 : Addr) : entryFrame m #[(.ref x0)] 1 = mkF m 0 #[.val (.ref x0)] [] := by first | (simp [entryFrame, mkF, argsToLocals, Value.category]; done) | rfl
set_option maxRecDepth 65536 in
set_option maxHeartbeats 40000000 in
theorem rm3 (l : Launch) (Z : State) (a0 : Array Value) (hw : ∀ d ∈ tables_1, d.before a0 Z = true) (ws : List Jvm.Cond) {w_INT8 : Addr} {w_UINT8 : Addr} {w_BOOL : Addr} {w_UINT16 : Addr} {w_UINT64 : Addr} {w_UINT32 : Addr} {w_INT32 : Addr} {w_INT16 : Addr} {w_INT64 : Addr} {w_cache : Addr} {cl_w_cache : Cell} (G : Glob Z w_INT8 w_UINT8 w_BOOL w_UINT16 w_UINT64 w_UINT32 w_INT32 w_INT16 w_INT64 w_cache cl_w_cache) (a1 : Addr) (h0 : Heap) (n0 : Nat) (O0 : Old Z n0 h0) :
    MetFree l (⟨"java/lang/Record", "<init>", "()V"⟩ : MethodName) (head1 (Jvm.Cond.code (⟨"java/lang/Record", "<init>", "()V"⟩ : MethodName) jdk_30_method_1_code 1 none :: ws) ({ frames := 1, cells := 0, slots := 0, locals := 12 } : Room)) (fun a U => a = #[(.ref a1)] ∧ Z.Warmed39 U.vm ∧ U.heap = h0) (fun _ _ _ _ _ => True) (fun _ U o U' => ∃ v L, o = .returned v ∧ Q3 Z w_INT8 w_UINT8 w_BOOL w_UINT16 w_UINT64 w_UINT32 w_INT32 w_INT16 w_INT64 w_cache cl_w_cache a1 h0 n0 v U'.heap L ∧ FrameEnd U o U' L ({ frames := 1, cells := 0, slots := 0, locals := 12 } : Room).cells ({ frames := 1, cells := 0, slots := 0, locals := 12 } : Room).slots) := by
  refine MetFree.of_bodySF (plainFor_of_name pn_java_lang_Record) hisR ?_
  intro p e s m args below meth c s₁ Bd hml0 hP hK
  obtain ⟨rfl, hZ, hh⟩ := hP
  have hx := Bd.exec
  have hby := Bd.bytes
  have hml : c.maxLocals = 1 := hml0
  have hown : s.vm.findClass "java/lang/Record" = some m.cls := findClass_of_methodNamed Bd.named
  have hnm := (name_of_methodNamed Bd.named Bd.method).1
  have X0 : Stand p l e ({ frames := 1, cells := 0, slots := 0, locals := 12 } : Room) s m #[(.ref a1)] below meth c s₁ [] 0 0 := Stand.of_body Bd
  have e0 : s₁.heap = h0 := by rw [← hh, Bd.state]; rfl
  have N0 := Fr.nil n0
  show OGot p.tables e below (s₁.setTop (entryFrame m #[(.ref a1)] 1)) _
  refine OGot.go (fun t k => castTop (ef3 m a1) k) ?_
  show OGot p.tables e below (s₁.setTop (mkF m 0 #[.val (.ref a1)] [])) _
  refine OGot.go (fun t k => XS.aloadN X0.here hx rfl (hb hby d3_0) rfl rfl k) ?_
  show OGot p.tables e below (s₁.setTop (mkF m 1 #[.val (.ref a1)] [(.ref a1)])) _
  obtain ⟨T2, X2, e2, st2⟩ := initO X0 hx hZ hown (ow hw 19 rfl) (ow hw 20 rfl) (ow hw 21 rfl) e0 (g := (mkF m 1 #[.val (.ref a1)] [(.ref a1)])) rfl (by rw [hml]; rfl) rfl (hb hby d3_1) (by decide) (W := 0) (by show 2 * 0 + _ ≤ _; exact Nat.le_of_eq rfl) (by decide)
  refine OGot.go st2 ?_
  show OGot p.tables e below (T2.setTop (mkF m 4 #[.val (.ref a1)] [])) _
  obtain ⟨fs, hr, hrun, hended, hW, hsame⟩ := X2.leave (v := none) (fun _ => rfl)
  refine ⟨_, _, X2.returnOut hx Bd.returns (hb hby d3_4) hr, hrun, hended, _, _, rfl, ?_, ⟨_, rfl⟩, hW, hsame.mono (by decide) (by decide)⟩
  exact (⟨rfl, N0, e2⟩ : Q3 Z w_INT8 w_UINT8 w_BOOL w_UINT16 w_UINT64 w_UINT32 w_INT32 w_INT16 w_INT64 w_cache cl_w_cache a1 h0 n0 _ T2.heap _)
theorem pd_1 : parseMethodDescriptor "()V" = some ⟨[], none⟩ := by decide +kernel
theorem d2_4 : decode prog_45_method_1_code 4 = .ok (.aload_n 0, 1) := by decide +kernel
theorem d2_5 : decode prog_45_method_1_code 5 = .ok (.iload_n 1, 1) := by decide +kernel
theorem d2_6 : decode prog_45_method_1_code 6 = .ok (.putfield 7, 3) := by decide +kernel
theorem d2_9 : decode prog_45_method_1_code 9 = .ok (.aload_n 0, 1) := by decide +kernel
theorem d2_10 : decode prog_45_method_1_code 10 = .ok (.lload_n 2, 1) := by decide +kernel
theorem d2_11 : decode prog_45_method_1_code 11 = .ok (.putfield 13, 3) := by decide +kernel
theorem d2_14 : decode prog_45_method_1_code 14 = .ok (.aload_n 0, 1) := by decide +kernel
theorem d2_15 : decode prog_45_method_1_code 15 = .ok (.aload 4, 2) := by decide +kernel
theorem d2_17 : decode prog_45_method_1_code 17 = .ok (.putfield 17, 3) := by decide +kernel
theorem d2_20 : decode prog_45_method_1_code 20 = .ok (.return_, 1) := by decide +kernel
theorem pn_com_example_muster_muster_analysis_Value_Symbolic : plainName "com/example/muster/muster/analysis/Value$Symbolic" = true := by first | (simp [plainName, overriddenIn]; done) | decide +kernel
def Q2 (Z : State) (w_INT8 : Addr) (w_UINT8 : Addr) (w_BOOL : Addr) (w_UINT16 : Addr) (w_UINT64 : Addr) (w_UINT32 : Addr) (w_INT32 : Addr) (w_INT16 : Addr) (w_INT64 : Addr) (w_cache : Addr) (cl_w_cache : Cell) (a1 : Addr) (p2 : Int32) (q3 : Int64) (a4 : Addr) (h0 : Heap) (n0 : Nat) (v : Option Value) (h : Heap) (L : List Loc) : Prop := Fr n0 L ∧ v = none ∧ OKeep h0 h [(a1, Jvm.RoadKit.slotOf Z "com/example/muster/muster/analysis/Value$Symbolic" "symbol" "I"), (a1, Jvm.RoadKit.slotOf Z "com/example/muster/muster/analysis/Value$Symbolic" "offset" "J"), (a1, Jvm.RoadKit.slotOf Z "com/example/muster/muster/analysis/Value$Symbolic" "type" "Lcom/example/muster/muster/model/IntegerType;")] ∧ Fld Z h a1 "com/example/muster/muster/analysis/Value$Symbolic" "symbol" "I" (.int p2) ∧ Fld Z h a1 "com/example/muster/muster/analysis/Value$Symbolic" "offset" "J" (.long q3) ∧ Fld Z h a1 "com/example/muster/muster/analysis/Value$Symbolic" "type" "Lcom/example/muster/muster/model/IntegerType;" (.ref a4)
theorem ef2 (m : MethodId) (x0 : Addr) (x1 : Int32) (x2 : Int64) (x3 : Addr) : entryFrame m #[(.ref x0), (.int x1), (.long x2), (.ref x3)] 5 = mkF m 0 #[.val (.ref x0), .val (.int x1), .val (.long x2), .second, .val (.ref x3)] [] := by first | (simp [entryFrame, mkF, argsToLocals, Value.category]; done) | rfl
set_option maxRecDepth 65536 in
set_option maxHeartbeats 40000000 in
theorem rm2 (l : Launch) (Z : State) (a0 : Array Value) (hw : ∀ d ∈ tables_1, d.before a0 Z = true) (ws : List Jvm.Cond) {w_INT8 : Addr} {w_UINT8 : Addr} {w_BOOL : Addr} {w_UINT16 : Addr} {w_UINT64 : Addr} {w_UINT32 : Addr} {w_INT32 : Addr} {w_INT16 : Addr} {w_INT64 : Addr} {w_cache : Addr} {cl_w_cache : Cell} (G : Glob Z w_INT8 w_UINT8 w_BOOL w_UINT16 w_UINT64 w_UINT32 w_INT32 w_INT16 w_INT64 w_cache cl_w_cache) (a1 : Addr) (p2 : Int32) (q3 : Int64) (a4 : Addr) (h0 : Heap) (n0 : Nat) (O0 : Old Z n0 h0) (E_a1 : Exa Z h0 a1 "com/example/muster/muster/analysis/Value$Symbolic") (F_symbol_a1 : Fld Z h0 a1 "com/example/muster/muster/analysis/Value$Symbolic" "symbol" "I" (.int (0 : Int32))) (g_a1 : n0 ≤ a1) (F_offset_a1 : Fld Z h0 a1 "com/example/muster/muster/analysis/Value$Symbolic" "offset" "J" (.long (0 : Int64))) (F_type_a1 : Fld Z h0 a1 "com/example/muster/muster/analysis/Value$Symbolic" "type" "Lcom/example/muster/muster/model/IntegerType;" .null) :
    MetFree l (⟨"com/example/muster/muster/analysis/Value$Symbolic", "<init>", "(IJLcom/example/muster/muster/model/IntegerType;)V"⟩ : MethodName) (head1 (Jvm.Cond.code (⟨"com/example/muster/muster/analysis/Value$Symbolic", "<init>", "(IJLcom/example/muster/muster/model/IntegerType;)V"⟩ : MethodName) prog_45_method_1_code 5 none :: ws) ({ frames := 2, cells := 0, slots := 0, locals := 24 } : Room)) (fun a U => a = #[(.ref a1), (.int p2), (.long q3), (.ref a4)] ∧ Z.Warmed39 U.vm ∧ U.heap = h0) (fun _ _ _ _ _ => True) (fun _ U o U' => ∃ v L, o = .returned v ∧ Q2 Z w_INT8 w_UINT8 w_BOOL w_UINT16 w_UINT64 w_UINT32 w_INT32 w_INT16 w_INT64 w_cache cl_w_cache a1 p2 q3 a4 h0 n0 v U'.heap L ∧ FrameEnd U o U' L ({ frames := 2, cells := 0, slots := 0, locals := 24 } : Room).cells ({ frames := 2, cells := 0, slots := 0, locals := 24 } : Room).slots) := by
  refine MetFree.of_bodySF (plainFor_of_name pn_com_example_muster_muster_analysis_Value_Symbolic) hisR ?_
  intro p e s m args below meth c s₁ Bd hml0 hP hK
  obtain ⟨rfl, hZ, hh⟩ := hP
  have hx := Bd.exec
  have hby := Bd.bytes
  have hml : c.maxLocals = 5 := hml0
  have hown : s.vm.findClass "com/example/muster/muster/analysis/Value$Symbolic" = some m.cls := findClass_of_methodNamed Bd.named
  have hnm := (name_of_methodNamed Bd.named Bd.method).1
  have X0 : Stand p l e ({ frames := 2, cells := 0, slots := 0, locals := 24 } : Room) s m #[(.ref a1), (.int p2), (.long q3), (.ref a4)] below meth c s₁ [] 0 0 := Stand.of_body Bd
  have e0 : s₁.heap = h0 := by rw [← hh, Bd.state]; rfl
  have N0 := Fr.nil n0
  show OGot p.tables e below (s₁.setTop (entryFrame m #[(.ref a1), (.int p2), (.long q3), (.ref a4)] 5)) _
  refine OGot.go (fun t k => castTop (ef2 m a1 p2 q3 a4) k) ?_
  show OGot p.tables e below (s₁.setTop (mkF m 0 #[.val (.ref a1), .val (.int p2), .val (.long q3), .second, .val (.ref a4)] [])) _
  refine OGot.go (fun t k => XS.aloadN X0.here hx rfl (hb hby d2_0) rfl rfl k) ?_
  show OGot p.tables e below (s₁.setTop (mkF m 1 #[.val (.ref a1), .val (.int p2), .val (.long q3), .second, .val (.ref a4)] [(.ref a1)])) _
  obtain ⟨_, _, ⟨T5, L5, k5, n5⟩, -, X5, ⟨Lc5, hQ5, l5, y5, z5⟩, st5⟩ := X0.specialBack hx (y := (⟨"java/lang/Record", "<init>", "()V"⟩ : MethodName)) rfl hown (mvT hZ (ow hw 14 rfl)) (mvT hZ (ow hw 15 rfl)) (mvT hZ (ow hw 18 rfl)) (by decide) (backOf (W := 0) (rm3 l Z a0 hw [] G a1 h0 n0 O0 ) hZ (ow hw 18 rfl) (ow hw 17 rfl) (by decide) (by decide)) (g := (mkF m 1 #[.val (.ref a1), .val (.int p2), .val (.long q3), .second, .val (.ref a4)] [(.ref a1)])) rfl (by rw [hml]; rfl) (Steps.refl _) (a := a1) (argsL := []) (rest := []) (lenOf pd_1 rfl) rfl (by show 2 * 0 + _ ≤ _; exact Nat.le_of_eq rfl) (hb hby d2_1) (fun _ _ => ⟨rfl, e0, (by decide : 0 + 0 ≤ _), (by decide : 0 + 0 ≤ _)⟩)
  dsimp only [Pt.U, Pt.locs, Pt.cells, Pt.slots] at X5 l5 y5 z5 st5 hQ5
  subst l5 y5 z5
  obtain ⟨rfl, N5q, e5⟩ := hQ5
  have N5 := Fr.app N0 N5q
  refine OGot.on st5 ?_
  show OGot p.tables e below (T5.setTop (mkF m 4 #[.val (.ref a1), .val (.int p2), .val (.long q3), .second, .val (.ref a4)] [])) _
  refine OGot.go (fun t k => XS.aloadN X5.here hx rfl (hb hby d2_4) rfl rfl k) ?_
  show OGot p.tables e below (T5.setTop (mkF m 5 #[.val (.ref a1), .val (.int p2), .val (.long q3), .second, .val (.ref a4)] [(.ref a1)])) _
  refine OGot.go (fun t k => XS.iloadN X5.here hx rfl (hb hby d2_5) rfl k) ?_
  show OGot p.tables e below (T5.setTop (mkF m 6 #[.val (.ref a1), .val (.int p2), .val (.long q3), .second, .val (.ref a4)] [(.int p2), (.ref a1)])) _
  obtain ⟨T6, h6, X6, e6, W6, st6⟩ := putF X5 hx hZ hown (host := "") (Or.inl (ow hw 22 rfl)) Via.refl e5 F_symbol_a1 E_a1 (Or.inr ⟨(ow hw 23 rfl), rfl, hnm⟩) (ow hw 2 rfl) (ty := .int) (by decide) rfl rfl (g := (mkF m 6 #[.val (.ref a1), .val (.int p2), .val (.long q3), .second, .val (.ref a4)] [(.int p2), (.ref a1)])) rfl rfl (hb hby d2_6)
  refine OGot.go st6 ?_
  have N6 := Fr.snoc X6 N5 g_a1
  have O6 := O0.wr W6 g_a1
  have K6 := (OKeep.refl h0 [(a1, Jvm.RoadKit.slotOf Z "com/example/muster/muster/analysis/Value$Symbolic" "symbol" "I"), (a1, Jvm.RoadKit.slotOf Z "com/example/muster/muster/analysis/Value$Symbolic" "offset" "J"), (a1, Jvm.RoadKit.slotOf Z "com/example/muster/muster/analysis/Value$Symbolic" "type" "Lcom/example/muster/muster/model/IntegerType;")]).wr W6 (Or.inl (List.mem_of_getElem? (i := 0) rfl))
  have Fw6 : Fld Z h6 a1 "com/example/muster/muster/analysis/Value$Symbolic" "symbol" "I" (.int p2) := F_symbol_a1.same W6
  show OGot p.tables e below (T6.setTop (mkF m 9 #[.val (.ref a1), .val (.int p2), .val (.long q3), .second, .val (.ref a4)] [])) _
  refine OGot.go (fun t k => XS.aloadN X6.here hx rfl (hb hby d2_9) rfl rfl k) ?_
  show OGot p.tables e below (T6.setTop (mkF m 10 #[.val (.ref a1), .val (.int p2), .val (.long q3), .second, .val (.ref a4)] [(.ref a1)])) _
  refine OGot.go (fun t k => XS.lloadN X6.here hx rfl (hb hby d2_10) rfl k) ?_
  show OGot p.tables e below (T6.setTop (mkF m 11 #[.val (.ref a1), .val (.int p2), .val (.long q3), .second, .val (.ref a4)] [(.long q3), (.ref a1)])) _
  have F7 : Fld Z h6 a1 "com/example/muster/muster/analysis/Value$Symbolic" "offset" "J" (.long (0 : Int64)) := (F_offset_a1.other W6 (Or.inr (slot_ne (Or.inr (ow hw 25 rfl)) (Or.inr (ow hw 23 rfl)) (by decide) (t := .long) (t' := .int) (by decide) (by decide))))
  obtain ⟨T8, h8, X8, e8, W8, st8⟩ := putF X6 hx hZ hown (host := "") (Or.inl (ow hw 24 rfl)) Via.refl e6 F7 (E_a1.wr W6) (Or.inr ⟨(ow hw 25 rfl), rfl, hnm⟩) (ow hw 2 rfl) (ty := .long) (by decide) rfl rfl (g := (mkF m 11 #[.val (.ref a1), .val (.int p2), .val (.long q3), .second, .val (.ref a4)] [(.long q3), (.ref a1)])) rfl rfl (hb hby d2_11)
  refine OGot.go st8 ?_
  have N8 := Fr.snoc X8 N6 g_a1
  have O8 := O6.wr W8 g_a1
  have K8 := K6.wr W8 (Or.inl (List.mem_of_getElem? (i := 1) rfl))
  have Fw8 : Fld Z h8 a1 "com/example/muster/muster/analysis/Value$Symbolic" "offset" "J" (.long q3) := F7.same W8
  show OGot p.tables e below (T8.setTop (mkF m 14 #[.val (.ref a1), .val (.int p2), .val (.long q3), .second, .val (.ref a4)] [])) _
  refine OGot.go (fun t k => XS.aloadN X8.here hx rfl (hb hby d2_14) rfl rfl k) ?_
  show OGot p.tables e below (T8.setTop (mkF m 15 #[.val (.ref a1), .val (.int p2), .val (.long q3), .second, .val (.ref a4)] [(.ref a1)])) _
  refine OGot.go (fun t k => XS.aload X8.here hx rfl (hb hby d2_15) rfl rfl k) ?_
  show OGot p.tables e below (T8.setTop (mkF m 17 #[.val (.ref a1), .val (.int p2), .val (.long q3), .second, .val (.ref a4)] [(.ref a4), (.ref a1)])) _
  have F9 : Fld Z h8 a1 "com/example/muster/muster/analysis/Value$Symbolic" "type" "Lcom/example/muster/muster/model/IntegerType;" .null := ((F_type_a1.other W6 (Or.inr (slot_ne (Or.inr (ow hw 27 rfl)) (Or.inr (ow hw 23 rfl)) (by decide) (t := (.object "com/example/muster/muster/model/IntegerType")) (t' := .int) (by decide) (by decide)))).other W8 (Or.inr (slot_ne (Or.inr (ow hw 27 rfl)) (Or.inr (ow hw 25 rfl)) (by decide) (t := (.object "com/example/muster/muster/model/IntegerType")) (t' := .long) (by decide) (by decide))))
  obtain ⟨T10, h10, X10, e10, W10, st10⟩ := putF X8 hx hZ hown (host := "") (Or.inl (ow hw 26 rfl)) Via.refl e8 F9 ((E_a1.wr W6).wr W8) (Or.inr ⟨(ow hw 27 rfl), rfl, hnm⟩) (ow hw 2 rfl) (ty := (.object "com/example/muster/muster/model/IntegerType")) (by decide) rfl rfl (g := (mkF m 17 #[.val (.ref a1), .val (.int p2), .val (.long q3), .second, .val (.ref a4)] [(.ref a4), (.ref a1)])) rfl rfl (hb hby d2_17)
  refine OGot.go st10 ?_
  have N10 := Fr.snoc X10 N8 g_a1
  have O10 := O8.wr W10 g_a1
  have K10 := K8.wr W10 (Or.inl (List.mem_of_getElem? (i := 2) rfl))
  have Fw10 : Fld Z h10 a1 "com/example/muster/muster/analysis/Value$Symbolic" "type" "Lcom/example/muster/muster/model/IntegerType;" (.ref a4) := F9.same W10
  show OGot p.tables e below (T10.setTop (mkF m 20 #[.val (.ref a1), .val (.int p2), .val (.long q3), .second, .val (.ref a4)] [])) _
  obtain ⟨fs, hr, hrun, hended, hW, hsame⟩ := X10.leave (v := none) (fun _ => rfl)
  refine ⟨_, _, X10.returnOut hx Bd.returns (hb hby d2_20) hr, hrun, hended, _, _, rfl, ?_, ⟨_, rfl⟩, hW, hsame.mono (by decide) (by decide)⟩
  have F11 : Fld Z h10 a1 "com/example/muster/muster/analysis/Value$Symbolic" "symbol" "I" (.int p2) := ((Fw6.other W8 (Or.inr (slot_ne (Or.inr (ow hw 23 rfl)) (Or.inr (ow hw 25 rfl)) (by decide) (t := .int) (t' := .long) (by decide) (by decide)))).other W10 (Or.inr (slot_ne (Or.inr (ow hw 23 rfl)) (Or.inr (ow hw 27 rfl)) (by decide) (t := .int) (t' := (.object "com/example/muster/muster/model/IntegerType")) (by decide) (by decide))))
  have F12 : Fld Z h10 a1 "com/example/muster/muster/analysis/Value$Symbolic" "offset" "J" (.long q3) := (Fw8.other W10 (Or.inr (slot_ne (Or.inr (ow hw 25 rfl)) (Or.inr (ow hw 27 rfl)) (by decide) (t := .long) (t' := (.object "com/example/muster/muster/model/IntegerType")) (by decide) (by decide))))
  show Q2 Z w_INT8 w_UINT8 w_BOOL w_UINT16 w_UINT64 w_UINT32 w_INT32 w_INT16 w_INT64 w_cache cl_w_cache a1 p2 q3 a4 h0 n0 _ T10.heap _
  rw [e10]
  exact ⟨N10, rfl, K10, F11, F12, Fw10⟩
theorem pd_2 : parseMethodDescriptor "(IJLcom/example/muster/muster/model/IntegerType;)V" = some ⟨[.int, .long, (.object "com/example/muster/muster/model/IntegerType")], none⟩ := by decide +kernel
theorem d5_0 : decode prog_45_method_2_code 0 = .ok (.aload_n 1, 1) := by decide +kernel
theorem d5_1 : decode prog_45_method_2_code 1 = .ok (.instanceof 8, 3) := by decide +kernel
theorem d5_4 : decode prog_45_method_2_code 4 = .ok (.ifCond .eq 46, 3) := by decide +kernel
theorem d5_7 : decode prog_45_method_2_code 7 = .ok (.aload_n 1, 1) := by decide +kernel
theorem d5_8 : decode prog_45_method_2_code 8 = .ok (.checkcast 8, 3) := by decide +kernel
theorem d5_11 : decode prog_45_method_2_code 11 = .ok (.astore_n 2, 1) := by decide +kernel
theorem d5_12 : decode prog_45_method_2_code 12 = .ok (.aload_n 0, 1) := by decide +kernel
theorem d5_13 : decode prog_45_method_2_code 13 = .ok (.getfield 7, 3) := by decide +kernel
theorem d5_16 : decode prog_45_method_2_code 16 = .ok (.aload_n 2, 1) := by decide +kernel
theorem d5_17 : decode prog_45_method_2_code 17 = .ok (.getfield 7, 3) := by decide +kernel
theorem d5_20 : decode prog_45_method_2_code 20 = .ok (.if_icmp .ne 30, 3) := by decide +kernel
theorem d5_23 : decode prog_45_method_2_code 23 = .ok (.aload_n 0, 1) := by decide +kernel
theorem d5_24 : decode prog_45_method_2_code 24 = .ok (.getfield 13, 3) := by decide +kernel
theorem d5_27 : decode prog_45_method_2_code 27 = .ok (.aload_n 2, 1) := by decide +kernel
theorem d5_28 : decode prog_45_method_2_code 28 = .ok (.getfield 13, 3) := by decide +kernel
theorem d5_31 : decode prog_45_method_2_code 31 = .ok (.lcmp, 1) := by decide +kernel
theorem d5_32 : decode prog_45_method_2_code 32 = .ok (.ifCond .ne 18, 3) := by decide +kernel
theorem d5_35 : decode prog_45_method_2_code 35 = .ok (.aload_n 0, 1) := by decide +kernel
theorem d5_36 : decode prog_45_method_2_code 36 = .ok (.getfield 17, 3) := by decide +kernel
theorem d5_39 : decode prog_45_method_2_code 39 = .ok (.aload_n 2, 1) := by decide +kernel
theorem d5_40 : decode prog_45_method_2_code 40 = .ok (.getfield 17, 3) := by decide +kernel
theorem d5_43 : decode prog_45_method_2_code 43 = .ok (.if_acmp .ne 7, 3) := by decide +kernel
theorem own_ord {Z : State} {w_INT8 : Addr} {w_UINT8 : Addr} {w_BOOL : Addr} {w_UINT16 : Addr} {w_UINT64 : Addr} {w_UINT32 : Addr} {w_INT32 : Addr} {w_INT16 : Addr} {w_INT64 : Addr} {w_cache : Addr} {cl_w_cache : Cell} (G : Glob Z w_INT8 w_UINT8 w_BOOL w_UINT16 w_UINT64 w_UINT32 w_INT32 w_INT16 w_INT64 w_cache cl_w_cache) (a : Int32) (ha : Own9 a) : Fld Z Z.heap (f1 w_INT8 w_UINT8 w_BOOL w_UINT16 w_UINT64 w_UINT32 w_INT32 w_INT16 w_INT64 a) "java/lang/Enum" "ordinal" "I" (.int a) := by
  rcases ha with rfl | rfl | rfl | rfl | rfl | rfl | rfl | rfl | rfl
  · simpa [f1] using G.2.2.2.2.2.2.2.2.2.2.2.2.2.2.2.2.2.2.2.2.2.1
  · simpa [f1] using G.2.2.2.2.2.2.2.2.2.2.2.2.2.2.2.2.2.2.2.2.1
  · simpa [f1] using G.2.2.2.2.2.2.2.2.2.2.2.2.2.2.2.2.2.2.2.2.2.2.2.2.2.2.1
  · simpa [f1] using G.2.2.2.2.2.2.2.2.2.2.2.2.2.2.2.2.2.2.2.2.2.2.1
  · simpa [f1] using G.2.2.2.2.2.2.2.2.2.2.2.2.2.2.2.2.2.2.2.2.2.2.2.2.2.1
  · simpa [f1] using G.2.2.2.2.2.2.2.2.2.2.2.2.2.2.2.2.2.2.2.2.2.2.2.2.2.2.2.1
  · simpa [f1] using G.2.2.2.2.2.2.2.2.2.2.2.2.2.2.2.2.2.2.2.2.2.2.2.2.1
  · simpa [f1] using G.2.2.2.2.2.2.2.2.2.2.2.2.2.2.2.2.2.2.2.2.2.2.2.2.2.2.2.2.1
  · simpa [f1] using G.2.2.2.2.2.2.2.2.2.2.2.2.2.2.2.2.2.2.2.2.2.2.2.1
theorem own_inj {Z : State} {w_INT8 : Addr} {w_UINT8 : Addr} {w_BOOL : Addr} {w_UINT16 : Addr} {w_UINT64 : Addr} {w_UINT32 : Addr} {w_INT32 : Addr} {w_INT16 : Addr} {w_INT64 : Addr} {w_cache : Addr} {cl_w_cache : Cell} (G : Glob Z w_INT8 w_UINT8 w_BOOL w_UINT16 w_UINT64 w_UINT32 w_INT32 w_INT16 w_INT64 w_cache cl_w_cache) {a b : Int32} (ha : Own9 a) (hb : Own9 b) (h : ¬ (a = b)) : ¬ (f1 w_INT8 w_UINT8 w_BOOL w_UINT16 w_UINT64 w_UINT32 w_INT32 w_INT16 w_INT64 a = f1 w_INT8 w_UINT8 w_BOOL w_UINT16 w_UINT64 w_UINT32 w_INT32 w_INT16 w_INT64 b) :=
  Fld.ne (own_ord G a ha) (own_ord G b hb) (fun q => h (Value.int.inj q))
theorem d5_46 : decode prog_45_method_2_code 46 = .ok (.iconst 1, 1) := by decide +kernel
theorem d5_47 : decode prog_45_method_2_code 47 = .ok (.goto 4, 3) := by decide +kernel
theorem d5_51 : decode prog_45_method_2_code 51 = .ok (.ireturn, 1) := by decide +kernel
def Q5 (Z : State) (w_INT8 : Addr) (w_UINT8 : Addr) (w_BOOL : Addr) (w_UINT16 : Addr) (w_UINT64 : Addr) (w_UINT32 : Addr) (w_INT32 : Addr) (w_INT16 : Addr) (w_INT64 : Addr) (w_cache : Addr) (cl_w_cache : Cell) (a1 : Addr) (a2 : Addr) (p5 : Int32) (p7 : Int32) (q9 : Int64) (q11 : Int64) (a13 : Addr) (a15 : Addr) (h0 : Heap) (n0 : Nat) (v : Option Value) (h : Heap) (L : List Loc) : Prop := v = some (.int (1 : Int32)) ∧ Fr n0 L ∧ h = h0
theorem ef5 (m : MethodId) (x0 : Addr) (x1 : Addr) : entryFrame m #[(.ref x0), (.ref x1)] 3 = mkF m 0 #[.val (.ref x0), .val (.ref x1), .unset] [] := by first | (simp [entryFrame, mkF, argsToLocals, Value.category]; done) | rfl
set_option maxRecDepth 65536 in
set_option maxHeartbeats 40000000 in
theorem rm5 (l : Launch) (Z : State) (a0 : Array Value) (hw : ∀ d ∈ tables_1, d.before a0 Z = true) (ws : List Jvm.Cond) {w_INT8 : Addr} {w_UINT8 : Addr} {w_BOOL : Addr} {w_UINT16 : Addr} {w_UINT64 : Addr} {w_UINT32 : Addr} {w_INT32 : Addr} {w_INT16 : Addr} {w_INT64 : Addr} {w_cache : Addr} {cl_w_cache : Cell} (G : Glob Z w_INT8 w_UINT8 w_BOOL w_UINT16 w_UINT64 w_UINT32 w_INT32 w_INT16 w_INT64 w_cache cl_w_cache) (a1 : Addr) (a2 : Addr) (p5 : Int32) (p7 : Int32) (q9 : Int64) (q11 : Int64) (a13 : Addr) (a15 : Addr) (h0 : Heap) (n0 : Nat) (O0 : Old Z n0 h0) (E_a2 : Exa Z h0 a2 "com/example/muster/muster/analysis/Value$Symbolic") (F_symbol_a1 : Fld Z h0 a1 "com/example/muster/muster/analysis/Value$Symbolic" "symbol" "I" (.int p5)) (F_symbol_a2 : Fld Z h0 a2 "com/example/muster/muster/analysis/Value$Symbolic" "symbol" "I" (.int p7)) (hc_1 : p5 = p7) (F_offset_a1 : Fld Z h0 a1 "com/example/muster/muster/analysis/Value$Symbolic" "offset" "J" (.long q9)) (F_offset_a2 : Fld Z h0 a2 "com/example/muster/muster/analysis/Value$Symbolic" "offset" "J" (.long q11)) (hc_2 : q9 = q11) (F_type_a1 : Fld Z h0 a1 "com/example/muster/muster/analysis/Value$Symbolic" "type" "Lcom/example/muster/muster/model/IntegerType;" (.ref a13)) (F_type_a2 : Fld Z h0 a2 "com/example/muster/muster/analysis/Value$Symbolic" "type" "Lcom/example/muster/muster/model/IntegerType;" (.ref a15)) (E_a13 : Exa Z h0 a13 "com/example/muster/muster/model/IntegerType") (E_a15 : Exa Z h0 a15 "com/example/muster/muster/model/IntegerType") (hc_3 : a13 = a15) :
    MetFree l (⟨"com/example/muster/muster/analysis/Value$Symbolic", "equals", "(Ljava/lang/Object;)Z"⟩ : MethodName) (head1 (Jvm.Cond.code (⟨"com/example/muster/muster/analysis/Value$Symbolic", "equals", "(Ljava/lang/Object;)Z"⟩ : MethodName) prog_45_method_2_code 3 (some .boolean) :: ws) ({ frames := 0, cells := 0, slots := 0, locals := 0 } : Room)) (fun a U => a = #[(.ref a1), (.ref a2)] ∧ Z.Warmed39 U.vm ∧ U.heap = h0) (fun _ _ _ _ _ => True) (fun _ U o U' => ∃ v L, o = .returned v ∧ Q5 Z w_INT8 w_UINT8 w_BOOL w_UINT16 w_UINT64 w_UINT32 w_INT32 w_INT16 w_INT64 w_cache cl_w_cache a1 a2 p5 p7 q9 q11 a13 a15 h0 n0 v U'.heap L ∧ FrameEnd U o U' L ({ frames := 0, cells := 0, slots := 0, locals := 0 } : Room).cells ({ frames := 0, cells := 0, slots := 0, locals := 0 } : Room).slots) := by
  refine MetFree.of_bodySF (plainFor_of_name pn_com_example_muster_muster_analysis_Value_Symbolic) hisR ?_
  intro p e s m args below meth c s₁ Bd hml0 hP hK
  obtain ⟨rfl, hZ, hh⟩ := hP
  have hx := Bd.exec
  have hby := Bd.bytes
  have hml : c.maxLocals = 3 := hml0
  have hown : s.vm.findClass "com/example/muster/muster/analysis/Value$Symbolic" = some m.cls := findClass_of_methodNamed Bd.named
  have hnm := (name_of_methodNamed Bd.named Bd.method).1
  have X0 : Stand p l e ({ frames := 0, cells := 0, slots := 0, locals := 0 } : Room) s m #[(.ref a1), (.ref a2)] below meth c s₁ [] 0 0 := Stand.of_body Bd
  have e0 : s₁.heap = h0 := by rw [← hh, Bd.state]; rfl
  have N0 := Fr.nil n0
  show OGot p.tables e below (s₁.setTop (entryFrame m #[(.ref a1), (.ref a2)] 3)) _
  refine OGot.go (fun t k => castTop (ef5 m a1 a2) k) ?_
  show OGot p.tables e below (s₁.setTop (mkF m 0 #[.val (.ref a1), .val (.ref a2), .unset] [])) _
  refine OGot.go (fun t k => XS.aloadN X0.here hx rfl (hb hby d5_0) rfl rfl k) ?_
  show OGot p.tables e below (s₁.setTop (mkF m 1 #[.val (.ref a1), .val (.ref a2), .unset] [(.ref a2)])) _
  obtain ⟨T3, X3, e3, st3⟩ := instY X0 hx hZ hown (ow hw 33 rfl) e0 (Ins.self E_a2) (g := (mkF m 1 #[.val (.ref a1), .val (.ref a2), .unset] [(.ref a2)])) rfl rfl (hb hby d5_1)
  refine OGot.go st3 ?_
  show OGot p.tables e below (T3.setTop (mkF m 4 #[.val (.ref a1), .val (.ref a2), .unset] [(.int (1 : Int32))])) _
  refine OGot.go (fun t k => XS.ifNo X3.here hx rfl (hb hby d5_4) rfl (by decide) k) ?_
  show OGot p.tables e below (T3.setTop (mkF m 7 #[.val (.ref a1), .val (.ref a2), .unset] [])) _
  refine OGot.go (fun t k => XS.aloadN X3.here hx rfl (hb hby d5_7) rfl rfl k) ?_
  show OGot p.tables e below (T3.setTop (mkF m 8 #[.val (.ref a1), .val (.ref a2), .unset] [(.ref a2)])) _
  obtain ⟨T4, X4, e4, st4⟩ := castY X3 hx hZ hown (ow hw 33 rfl) e3 (Ins.self E_a2) (g := (mkF m 8 #[.val (.ref a1), .val (.ref a2), .unset] [(.ref a2)])) rfl rfl (hb hby d5_8)
  refine OGot.go st4 ?_
  show OGot p.tables e below (T4.setTop (mkF m 11 #[.val (.ref a1), .val (.ref a2), .unset] [(.ref a2)])) _
  refine OGot.go (fun t k => XS.astoreN X4.here hx rfl (hb hby d5_11) rfl rfl (l' := #[.val (.ref a1), .val (.ref a2), .val (.ref a2)]) rfl k) ?_
  show OGot p.tables e below (T4.setTop (mkF m 12 #[.val (.ref a1), .val (.ref a2), .val (.ref a2)] [])) _
  refine OGot.go (fun t k => XS.aloadN X4.here hx rfl (hb hby d5_12) rfl rfl k) ?_
  show OGot p.tables e below (T4.setTop (mkF m 13 #[.val (.ref a1), .val (.ref a2), .val (.ref a2)] [(.ref a1)])) _
  obtain ⟨T6, X6, e6, st6⟩ := getF X4 hx hZ hown (host := "") (Or.inl (ow hw 22 rfl)) Via.refl e4 F_symbol_a1 (g := (mkF m 13 #[.val (.ref a1), .val (.ref a2), .val (.ref a2)] [(.ref a1)])) rfl rfl (hb hby d5_13)
  refine OGot.go st6 ?_
  show OGot p.tables e below (T6.setTop (mkF m 16 #[.val (.ref a1), .val (.ref a2), .val (.ref a2)] [(.int p5)])) _
  refine OGot.go (fun t k => XS.aloadN X6.here hx rfl (hb hby d5_16) rfl rfl k) ?_
  show OGot p.tables e below (T6.setTop (mkF m 17 #[.val (.ref a1), .val (.ref a2), .val (.ref a2)] [(.ref a2), (.int p5)])) _
  obtain ⟨T8, X8, e8, st8⟩ := getF X6 hx hZ hown (host := "") (Or.inl (ow hw 22 rfl)) Via.refl e6 F_symbol_a2 (g := (mkF m 17 #[.val (.ref a1), .val (.ref a2), .val (.ref a2)] [(.ref a2), (.int p5)])) rfl rfl (hb hby d5_17)
  refine OGot.go st8 ?_
  show OGot p.tables e below (T8.setTop (mkF m 20 #[.val (.ref a1), .val (.ref a2), .val (.ref a2)] [(.int p7), (.int p5)])) _
  refine OGot.go (fun t k => XS.icmpNo X8.here hx rfl (hb hby d5_20) rfl (teq hc_1).2 k) ?_
  show OGot p.tables e below (T8.setTop (mkF m 23 #[.val (.ref a1), .val (.ref a2), .val (.ref a2)] [])) _
  refine OGot.go (fun t k => XS.aloadN X8.here hx rfl (hb hby d5_23) rfl rfl k) ?_
  show OGot p.tables e below (T8.setTop (mkF m 24 #[.val (.ref a1), .val (.ref a2), .val (.ref a2)] [(.ref a1)])) _
  obtain ⟨T10, X10, e10, st10⟩ := getF X8 hx hZ hown (host := "") (Or.inl (ow hw 24 rfl)) Via.refl e8 F_offset_a1 (g := (mkF m 24 #[.val (.ref a1), .val (.ref a2), .val (.ref a2)] [(.ref a1)])) rfl rfl (hb hby d5_24)
  refine OGot.go st10 ?_
  show OGot p.tables e below (T10.setTop (mkF m 27 #[.val (.ref a1), .val (.ref a2), .val (.ref a2)] [(.long q9)])) _
  refine OGot.go (fun t k => XS.aloadN X10.here hx rfl (hb hby d5_27) rfl rfl k) ?_
  show OGot p.tables e below (T10.setTop (mkF m 28 #[.val (.ref a1), .val (.ref a2), .val (.ref a2)] [(.ref a2), (.long q9)])) _
  obtain ⟨T12, X12, e12, st12⟩ := getF X10 hx hZ hown (host := "") (Or.inl (ow hw 24 rfl)) Via.refl e10 F_offset_a2 (g := (mkF m 28 #[.val (.ref a1), .val (.ref a2), .val (.ref a2)] [(.ref a2), (.long q9)])) rfl rfl (hb hby d5_28)
  refine OGot.go st12 ?_
  show OGot p.tables e below (T12.setTop (mkF m 31 #[.val (.ref a1), .val (.ref a2), .val (.ref a2)] [(.long q11), (.long q9)])) _
  refine OGot.go (fun t k => XS.lcmp X12.here hx rfl (hb hby d5_31) rfl k) ?_
  show OGot p.tables e below (T12.setTop (mkF m 32 #[.val (.ref a1), .val (.ref a2), .val (.ref a2)] [(.int (lcmpW q9 q11))])) _
  refine OGot.go (fun t k => XS.ifNo X12.here hx rfl (hb hby d5_32) rfl ((if0 _ _).trans (teq ((lw_eq q9 q11).mpr hc_2)).2) k) ?_
  show OGot p.tables e below (T12.setTop (mkF m 35 #[.val (.ref a1), .val (.ref a2), .val (.ref a2)] [])) _
  refine OGot.go (fun t k => XS.aloadN X12.here hx rfl (hb hby d5_35) rfl rfl k) ?_
  show OGot p.tables e below (T12.setTop (mkF m 36 #[.val (.ref a1), .val (.ref a2), .val (.ref a2)] [(.ref a1)])) _
  obtain ⟨T14, X14, e14, st14⟩ := getF X12 hx hZ hown (host := "") (Or.inl (ow hw 26 rfl)) Via.refl e12 F_type_a1 (g := (mkF m 36 #[.val (.ref a1), .val (.ref a2), .val (.ref a2)] [(.ref a1)])) rfl rfl (hb hby d5_36)
  refine OGot.go st14 ?_
  show OGot p.tables e below (T14.setTop (mkF m 39 #[.val (.ref a1), .val (.ref a2), .val (.ref a2)] [(.ref a13)])) _
  refine OGot.go (fun t k => XS.aloadN X14.here hx rfl (hb hby d5_39) rfl rfl k) ?_
  show OGot p.tables e below (T14.setTop (mkF m 40 #[.val (.ref a1), .val (.ref a2), .val (.ref a2)] [(.ref a2), (.ref a13)])) _
  obtain ⟨T16, X16, e16, st16⟩ := getF X14 hx hZ hown (host := "") (Or.inl (ow hw 26 rfl)) Via.refl e14 F_type_a2 (g := (mkF m 40 #[.val (.ref a1), .val (.ref a2), .val (.ref a2)] [(.ref a2), (.ref a13)])) rfl rfl (hb hby d5_40)
  refine OGot.go st16 ?_
  show OGot p.tables e below (T16.setTop (mkF m 43 #[.val (.ref a1), .val (.ref a2), .val (.ref a2)] [(.ref a15), (.ref a13)])) _
  refine OGot.go (fun t k => Jvm.RoadKit.acmp (g := (mkF m 43 #[.val (.ref a1), .val (.ref a2), .val (.ref a2)] [(.ref a15), (.ref a13)])) X16 hx rfl rfl rfl (pc0 := 43) (pc' := 46) (same := true) rfl (hb hby d5_43) rfl (decide_eq_true (congrArg Value.ref hc_3)) (by decide) (by decide) k) ?_
  show OGot p.tables e below (T16.setTop (mkF m 46 #[.val (.ref a1), .val (.ref a2), .val (.ref a2)] [])) _
  refine OGot.go (fun t k => XS.iconst X16.here hx rfl (hb hby d5_46) k) ?_
  show OGot p.tables e below (T16.setTop (mkF m 47 #[.val (.ref a1), .val (.ref a2), .val (.ref a2)] [(.int (1 : Int32))])) _
  refine OGot.go (fun t k => XS.goto X16.here hx rfl (pc0 := 47) (pc' := 51) rfl (hb hby d5_47) (by decide) (by decide) k) ?_
  show OGot p.tables e below (T16.setTop (mkF m 51 #[.val (.ref a1), .val (.ref a2), .val (.ref a2)] [(.int (1 : Int32))])) _
  obtain ⟨fs, hr, hrun, hended, hW, hsame⟩ := X16.leave (v := some (.int (1 : Int32))) (fun h => by rw [Bd.returns] at h; cases h)
  refine ⟨_, _, retN X16 hx (t := .boolean) Bd.returns (by simp) (hb hby d5_51) hr, hrun, hended, _, _, rfl, ?_, ⟨_, rfl⟩, hW, hsame.mono (by decide) (by decide)⟩
  exact (⟨rfl, N0, e16⟩ : Q5 Z w_INT8 w_UINT8 w_BOOL w_UINT16 w_UINT64 w_UINT32 w_INT32 w_INT16 w_INT64 w_cache cl_w_cache a1 a2 p5 p7 q9 q11 a13 a15 h0 n0 _ T16.heap _)
theorem pd_3 : parseMethodDescriptor "(Ljava/lang/Object;)Z" = some ⟨[(.object "java/lang/Object")], some .boolean⟩ := by decide +kernel
theorem d5_50 : decode prog_45_method_2_code 50 = .ok (.iconst 0, 1) := by decide +kernel
def Q5_1 (Z : State) (w_INT8 : Addr) (w_UINT8 : Addr) (w_BOOL : Addr) (w_UINT16 : Addr) (w_UINT64 : Addr) (w_UINT32 : Addr) (w_INT32 : Addr) (w_INT16 : Addr) (w_INT64 : Addr) (w_cache : Addr) (cl_w_cache : Cell) (a1 : Addr) (a2 : Addr) (p5 : Int32) (p7 : Int32) (q9 : Int64) (q11 : Int64) (a13 : Addr) (a15 : Addr) (h0 : Heap) (n0 : Nat) (v : Option Value) (h : Heap) (L : List Loc) : Prop := v = some (.int (0 : Int32)) ∧ Fr n0 L ∧ h = h0
theorem ef5_1 (m : MethodId) (x0 : Addr) (x1 : Addr) : entryFrame m #[(.ref x0), (.ref x1)] 3 = mkF m 0 #[.val (.ref x0), .val (.ref x1), .unset] [] := by first | (simp [entryFrame, mkF, argsToLocals, Value.category]; done) | rfl
set_option maxRecDepth 65536 in
set_option maxHeartbeats 40000000 in
theorem rm5_1 (l : Launch) (Z : State) (a0 : Array Value) (hw : ∀ d ∈ tables_1, d.before a0 Z = true) (ws : List Jvm.Cond) {w_INT8 : Addr} {w_UINT8 : Addr} {w_BOOL : Addr} {w_UINT16 : Addr} {w_UINT64 : Addr} {w_UINT32 : Addr} {w_INT32 : Addr} {w_INT16 : Addr} {w_INT64 : Addr} {w_cache : Addr} {cl_w_cache : Cell} (G : Glob Z w_INT8 w_UINT8 w_BOOL w_UINT16 w_UINT64 w_UINT32 w_INT32 w_INT16 w_INT64 w_cache cl_w_cache) (a1 : Addr) (a2 : Addr) (p5 : Int32) (p7 : Int32) (q9 : Int64) (q11 : Int64) (a13 : Addr) (a15 : Addr) (h0 : Heap) (n0 : Nat) (O0 : Old Z n0 h0) (E_a2 : Exa Z h0 a2 "com/example/muster/muster/analysis/Value$Symbolic") (F_symbol_a1 : Fld Z h0 a1 "com/example/muster/muster/analysis/Value$Symbolic" "symbol" "I" (.int p5)) (F_symbol_a2 : Fld Z h0 a2 "com/example/muster/muster/analysis/Value$Symbolic" "symbol" "I" (.int p7)) (hc_1 : p5 = p7) (F_offset_a1 : Fld Z h0 a1 "com/example/muster/muster/analysis/Value$Symbolic" "offset" "J" (.long q9)) (F_offset_a2 : Fld Z h0 a2 "com/example/muster/muster/analysis/Value$Symbolic" "offset" "J" (.long q11)) (hc_2 : q9 = q11) (F_type_a1 : Fld Z h0 a1 "com/example/muster/muster/analysis/Value$Symbolic" "type" "Lcom/example/muster/muster/model/IntegerType;" (.ref a13)) (F_type_a2 : Fld Z h0 a2 "com/example/muster/muster/analysis/Value$Symbolic" "type" "Lcom/example/muster/muster/model/IntegerType;" (.ref a15)) (E_a13 : Exa Z h0 a13 "com/example/muster/muster/model/IntegerType") (E_a15 : Exa Z h0 a15 "com/example/muster/muster/model/IntegerType") (hc_3 : ¬ (a13 = a15)) :
    MetFree l (⟨"com/example/muster/muster/analysis/Value$Symbolic", "equals", "(Ljava/lang/Object;)Z"⟩ : MethodName) (head1 (Jvm.Cond.code (⟨"com/example/muster/muster/analysis/Value$Symbolic", "equals", "(Ljava/lang/Object;)Z"⟩ : MethodName) prog_45_method_2_code 3 (some .boolean) :: ws) ({ frames := 0, cells := 0, slots := 0, locals := 0 } : Room)) (fun a U => a = #[(.ref a1), (.ref a2)] ∧ Z.Warmed39 U.vm ∧ U.heap = h0) (fun _ _ _ _ _ => True) (fun _ U o U' => ∃ v L, o = .returned v ∧ Q5_1 Z w_INT8 w_UINT8 w_BOOL w_UINT16 w_UINT64 w_UINT32 w_INT32 w_INT16 w_INT64 w_cache cl_w_cache a1 a2 p5 p7 q9 q11 a13 a15 h0 n0 v U'.heap L ∧ FrameEnd U o U' L ({ frames := 0, cells := 0, slots := 0, locals := 0 } : Room).cells ({ frames := 0, cells := 0, slots := 0, locals := 0 } : Room).slots) := by
  refine MetFree.of_bodySF (plainFor_of_name pn_com_example_muster_muster_analysis_Value_Symbolic) hisR ?_
  intro p e s m args below meth c s₁ Bd hml0 hP hK
  obtain ⟨rfl, hZ, hh⟩ := hP
  have hx := Bd.exec
  have hby := Bd.bytes
  have hml : c.maxLocals = 3 := hml0
  have hown : s.vm.findClass "com/example/muster/muster/analysis/Value$Symbolic" = some m.cls := findClass_of_methodNamed Bd.named
  have hnm := (name_of_methodNamed Bd.named Bd.method).1
  have X0 : Stand p l e ({ frames := 0, cells := 0, slots := 0, locals := 0 } : Room) s m #[(.ref a1), (.ref a2)] below meth c s₁ [] 0 0 := Stand.of_body Bd
  have e0 : s₁.heap = h0 := by rw [← hh, Bd.state]; rfl
  have N0 := Fr.nil n0
  show OGot p.tables e below (s₁.setTop (entryFrame m #[(.ref a1), (.ref a2)] 3)) _
  refine OGot.go (fun t k => castTop (ef5_1 m a1 a2) k) ?_
  show OGot p.tables e below (s₁.setTop (mkF m 0 #[.val (.ref a1), .val (.ref a2), .unset] [])) _
  refine OGot.go (fun t k => XS.aloadN X0.here hx rfl (hb hby d5_0) rfl rfl k) ?_
  show OGot p.tables e below (s₁.setTop (mkF m 1 #[.val (.ref a1), .val (.ref a2), .unset] [(.ref a2)])) _
  obtain ⟨T3, X3, e3, st3⟩ := instY X0 hx hZ hown (ow hw 33 rfl) e0 (Ins.self E_a2) (g := (mkF m 1 #[.val (.ref a1), .val (.ref a2), .unset] [(.ref a2)])) rfl rfl (hb hby d5_1)
  refine OGot.go st3 ?_
  show OGot p.tables e below (T3.setTop (mkF m 4 #[.val (.ref a1), .val (.ref a2), .unset] [(.int (1 : Int32))])) _
  refine OGot.go (fun t k => XS.ifNo X3.here hx rfl (hb hby d5_4) rfl (by decide) k) ?_
  show OGot p.tables e below (T3.setTop (mkF m 7 #[.val (.ref a1), .val (.ref a2), .unset] [])) _
  refine OGot.go (fun t k => XS.aloadN X3.here hx rfl (hb hby d5_7) rfl rfl k) ?_
  show OGot p.tables e below (T3.setTop (mkF m 8 #[.val (.ref a1), .val (.ref a2), .unset] [(.ref a2)])) _
  obtain ⟨T4, X4, e4, st4⟩ := castY X3 hx hZ hown (ow hw 33 rfl) e3 (Ins.self E_a2) (g := (mkF m 8 #[.val (.ref a1), .val (.ref a2), .unset] [(.ref a2)])) rfl rfl (hb hby d5_8)
  refine OGot.go st4 ?_
  show OGot p.tables e below (T4.setTop (mkF m 11 #[.val (.ref a1), .val (.ref a2), .unset] [(.ref a2)])) _
  refine OGot.go (fun t k => XS.astoreN X4.here hx rfl (hb hby d5_11) rfl rfl (l' := #[.val (.ref a1), .val (.ref a2), .val (.ref a2)]) rfl k) ?_
  show OGot p.tables e below (T4.setTop (mkF m 12 #[.val (.ref a1), .val (.ref a2), .val (.ref a2)] [])) _
  refine OGot.go (fun t k => XS.aloadN X4.here hx rfl (hb hby d5_12) rfl rfl k) ?_
  show OGot p.tables e below (T4.setTop (mkF m 13 #[.val (.ref a1), .val (.ref a2), .val (.ref a2)] [(.ref a1)])) _
  obtain ⟨T6, X6, e6, st6⟩ := getF X4 hx hZ hown (host := "") (Or.inl (ow hw 22 rfl)) Via.refl e4 F_symbol_a1 (g := (mkF m 13 #[.val (.ref a1), .val (.ref a2), .val (.ref a2)] [(.ref a1)])) rfl rfl (hb hby d5_13)
  refine OGot.go st6 ?_
  show OGot p.tables e below (T6.setTop (mkF m 16 #[.val (.ref a1), .val (.ref a2), .val (.ref a2)] [(.int p5)])) _
  refine OGot.go (fun t k => XS.aloadN X6.here hx rfl (hb hby d5_16) rfl rfl k) ?_
  show OGot p.tables e below (T6.setTop (mkF m 17 #[.val (.ref a1), .val (.ref a2), .val (.ref a2)] [(.ref a2), (.int p5)])) _
  obtain ⟨T8, X8, e8, st8⟩ := getF X6 hx hZ hown (host := "") (Or.inl (ow hw 22 rfl)) Via.refl e6 F_symbol_a2 (g := (mkF m 17 #[.val (.ref a1), .val (.ref a2), .val (.ref a2)] [(.ref a2), (.int p5)])) rfl rfl (hb hby d5_17)
  refine OGot.go st8 ?_
  show OGot p.tables e below (T8.setTop (mkF m 20 #[.val (.ref a1), .val (.ref a2), .val (.ref a2)] [(.int p7), (.int p5)])) _
  refine OGot.go (fun t k => XS.icmpNo X8.here hx rfl (hb hby d5_20) rfl (teq hc_1).2 k) ?_
  show OGot p.tables e below (T8.setTop (mkF m 23 #[.val (.ref a1), .val (.ref a2), .val (.ref a2)] [])) _
  refine OGot.go (fun t k => XS.aloadN X8.here hx rfl (hb hby d5_23) rfl rfl k) ?_
  show OGot p.tables e below (T8.setTop (mkF m 24 #[.val (.ref a1), .val (.ref a2), .val (.ref a2)] [(.ref a1)])) _
  obtain ⟨T10, X10, e10, st10⟩ := getF X8 hx hZ hown (host := "") (Or.inl (ow hw 24 rfl)) Via.refl e8 F_offset_a1 (g := (mkF m 24 #[.val (.ref a1), .val (.ref a2), .val (.ref a2)] [(.ref a1)])) rfl rfl (hb hby d5_24)
  refine OGot.go st10 ?_
  show OGot p.tables e below (T10.setTop (mkF m 27 #[.val (.ref a1), .val (.ref a2), .val (.ref a2)] [(.long q9)])) _
  refine OGot.go (fun t k => XS.aloadN X10.here hx rfl (hb hby d5_27) rfl rfl k) ?_
  show OGot p.tables e below (T10.setTop (mkF m 28 #[.val (.ref a1), .val (.ref a2), .val (.ref a2)] [(.ref a2), (.long q9)])) _
  obtain ⟨T12, X12, e12, st12⟩ := getF X10 hx hZ hown (host := "") (Or.inl (ow hw 24 rfl)) Via.refl e10 F_offset_a2 (g := (mkF m 28 #[.val (.ref a1), .val (.ref a2), .val (.ref a2)] [(.ref a2), (.long q9)])) rfl rfl (hb hby d5_28)
  refine OGot.go st12 ?_
  show OGot p.tables e below (T12.setTop (mkF m 31 #[.val (.ref a1), .val (.ref a2), .val (.ref a2)] [(.long q11), (.long q9)])) _
  refine OGot.go (fun t k => XS.lcmp X12.here hx rfl (hb hby d5_31) rfl k) ?_
  show OGot p.tables e below (T12.setTop (mkF m 32 #[.val (.ref a1), .val (.ref a2), .val (.ref a2)] [(.int (lcmpW q9 q11))])) _
  refine OGot.go (fun t k => XS.ifNo X12.here hx rfl (hb hby d5_32) rfl ((if0 _ _).trans (teq ((lw_eq q9 q11).mpr hc_2)).2) k) ?_
  show OGot p.tables e below (T12.setTop (mkF m 35 #[.val (.ref a1), .val (.ref a2), .val (.ref a2)] [])) _
  refine OGot.go (fun t k => XS.aloadN X12.here hx rfl (hb hby d5_35) rfl rfl k) ?_
  show OGot p.tables e below (T12.setTop (mkF m 36 #[.val (.ref a1), .val (.ref a2), .val (.ref a2)] [(.ref a1)])) _
  obtain ⟨T14, X14, e14, st14⟩ := getF X12 hx hZ hown (host := "") (Or.inl (ow hw 26 rfl)) Via.refl e12 F_type_a1 (g := (mkF m 36 #[.val (.ref a1), .val (.ref a2), .val (.ref a2)] [(.ref a1)])) rfl rfl (hb hby d5_36)
  refine OGot.go st14 ?_
  show OGot p.tables e below (T14.setTop (mkF m 39 #[.val (.ref a1), .val (.ref a2), .val (.ref a2)] [(.ref a13)])) _
  refine OGot.go (fun t k => XS.aloadN X14.here hx rfl (hb hby d5_39) rfl rfl k) ?_
  show OGot p.tables e below (T14.setTop (mkF m 40 #[.val (.ref a1), .val (.ref a2), .val (.ref a2)] [(.ref a2), (.ref a13)])) _
  obtain ⟨T16, X16, e16, st16⟩ := getF X14 hx hZ hown (host := "") (Or.inl (ow hw 26 rfl)) Via.refl e14 F_type_a2 (g := (mkF m 40 #[.val (.ref a1), .val (.ref a2), .val (.ref a2)] [(.ref a2), (.ref a13)])) rfl rfl (hb hby d5_40)
  refine OGot.go st16 ?_
  show OGot p.tables e below (T16.setTop (mkF m 43 #[.val (.ref a1), .val (.ref a2), .val (.ref a2)] [(.ref a15), (.ref a13)])) _
  refine OGot.go (fun t k => Jvm.RoadKit.acmp (g := (mkF m 43 #[.val (.ref a1), .val (.ref a2), .val (.ref a2)] [(.ref a15), (.ref a13)])) X16 hx rfl rfl rfl (pc0 := 43) (pc' := 50) (same := false) rfl (hb hby d5_43) rfl (decide_eq_false fun q => hc_3 (Value.ref.inj q)) (by decide) (by decide) k) ?_
  show OGot p.tables e below (T16.setTop (mkF m 50 #[.val (.ref a1), .val (.ref a2), .val (.ref a2)] [])) _
  refine OGot.go (fun t k => XS.iconst X16.here hx rfl (hb hby d5_50) k) ?_
  show OGot p.tables e below (T16.setTop (mkF m 51 #[.val (.ref a1), .val (.ref a2), .val (.ref a2)] [(.int (0 : Int32))])) _
  obtain ⟨fs, hr, hrun, hended, hW, hsame⟩ := X16.leave (v := some (.int (0 : Int32))) (fun h => by rw [Bd.returns] at h; cases h)
  refine ⟨_, _, retN X16 hx (t := .boolean) Bd.returns (by simp) (hb hby d5_51) hr, hrun, hended, _, _, rfl, ?_, ⟨_, rfl⟩, hW, hsame.mono (by decide) (by decide)⟩
  exact (⟨rfl, N0, e16⟩ : Q5_1 Z w_INT8 w_UINT8 w_BOOL w_UINT16 w_UINT64 w_UINT32 w_INT32 w_INT16 w_INT64 w_cache cl_w_cache a1 a2 p5 p7 q9 q11 a13 a15 h0 n0 _ T16.heap _)
def Q5_2 (Z : State) (w_INT8 : Addr) (w_UINT8 : Addr) (w_BOOL : Addr) (w_UINT16 : Addr) (w_UINT64 : Addr) (w_UINT32 : Addr) (w_INT32 : Addr) (w_INT16 : Addr) (w_INT64 : Addr) (w_cache : Addr) (cl_w_cache : Cell) (a1 : Addr) (a2 : Addr) (p5 : Int32) (p7 : Int32) (q9 : Int64) (q11 : Int64) (h0 : Heap) (n0 : Nat) (v : Option Value) (h : Heap) (L : List Loc) : Prop := v = some (.int (0 : Int32)) ∧ Fr n0 L ∧ h = h0
theorem ef5_2 (m : MethodId) (x0 : Addr) (x1 : Addr) : entryFrame m #[(.ref x0), (.ref x1)] 3 = mkF m 0 #[.val (.ref x0), .val (.ref x1), .unset] [] := by first | (simp [entryFrame, mkF, argsToLocals, Value.category]; done) | rfl
set_option maxRecDepth 65536 in
set_option maxHeartbeats 40000000 in
theorem rm5_2 (l : Launch) (Z : State) (a0 : Array Value) (hw : ∀ d ∈ tables_1, d.before a0 Z = true) (ws : List Jvm.Cond) {w_INT8 : Addr} {w_UINT8 : Addr} {w_BOOL : Addr} {w_UINT16 : Addr} {w_UINT64 : Addr} {w_UINT32 : Addr} {w_INT32 : Addr} {w_INT16 : Addr} {w_INT64 : Addr} {w_cache : Addr} {cl_w_cache : Cell} (G : Glob Z w_INT8 w_UINT8 w_BOOL w_UINT16 w_UINT64 w_UINT32 w_INT32 w_INT16 w_INT64 w_cache cl_w_cache) (a1 : Addr) (a2 : Addr) (p5 : Int32) (p7 : Int32) (q9 : Int64) (q11 : Int64) (h0 : Heap) (n0 : Nat) (O0 : Old Z n0 h0) (E_a2 : Exa Z h0 a2 "com/example/muster/muster/analysis/Value$Symbolic") (F_symbol_a1 : Fld Z h0 a1 "com/example/muster/muster/analysis/Value$Symbolic" "symbol" "I" (.int p5)) (F_symbol_a2 : Fld Z h0 a2 "com/example/muster/muster/analysis/Value$Symbolic" "symbol" "I" (.int p7)) (hc_1 : p5 = p7) (F_offset_a1 : Fld Z h0 a1 "com/example/muster/muster/analysis/Value$Symbolic" "offset" "J" (.long q9)) (F_offset_a2 : Fld Z h0 a2 "com/example/muster/muster/analysis/Value$Symbolic" "offset" "J" (.long q11)) (hc_2 : ¬ (q9 = q11)) :
    MetFree l (⟨"com/example/muster/muster/analysis/Value$Symbolic", "equals", "(Ljava/lang/Object;)Z"⟩ : MethodName) (head1 (Jvm.Cond.code (⟨"com/example/muster/muster/analysis/Value$Symbolic", "equals", "(Ljava/lang/Object;)Z"⟩ : MethodName) prog_45_method_2_code 3 (some .boolean) :: ws) ({ frames := 0, cells := 0, slots := 0, locals := 0 } : Room)) (fun a U => a = #[(.ref a1), (.ref a2)] ∧ Z.Warmed39 U.vm ∧ U.heap = h0) (fun _ _ _ _ _ => True) (fun _ U o U' => ∃ v L, o = .returned v ∧ Q5_2 Z w_INT8 w_UINT8 w_BOOL w_UINT16 w_UINT64 w_UINT32 w_INT32 w_INT16 w_INT64 w_cache cl_w_cache a1 a2 p5 p7 q9 q11 h0 n0 v U'.heap L ∧ FrameEnd U o U' L ({ frames := 0, cells := 0, slots := 0, locals := 0 } : Room).cells ({ frames := 0, cells := 0, slots := 0, locals := 0 } : Room).slots) := by
  refine MetFree.of_bodySF (plainFor_of_name pn_com_example_muster_muster_analysis_Value_Symbolic) hisR ?_
  intro p e s m args below meth c s₁ Bd hml0 hP hK
  obtain ⟨rfl, hZ, hh⟩ := hP
  have hx := Bd.exec
  have hby := Bd.bytes
  have hml : c.maxLocals = 3 := hml0
  have hown : s.vm.findClass "com/example/muster/muster/analysis/Value$Symbolic" = some m.cls := findClass_of_methodNamed Bd.named
  have hnm := (name_of_methodNamed Bd.named Bd.method).1
  have X0 : Stand p l e ({ frames := 0, cells := 0, slots := 0, locals := 0 } : Room) s m #[(.ref a1), (.ref a2)] below meth c s₁ [] 0 0 := Stand.of_body Bd
  have e0 : s₁.heap = h0 := by rw [← hh, Bd.state]; rfl
  have N0 := Fr.nil n0
  show OGot p.tables e below (s₁.setTop (entryFrame m #[(.ref a1), (.ref a2)] 3)) _
  refine OGot.go (fun t k => castTop (ef5_2 m a1 a2) k) ?_
  show OGot p.tables e below (s₁.setTop (mkF m 0 #[.val (.ref a1), .val (.ref a2), .unset] [])) _
  refine OGot.go (fun t k => XS.aloadN X0.here hx rfl (hb hby d5_0) rfl rfl k) ?_
  show OGot p.tables e below (s₁.setTop (mkF m 1 #[.val (.ref a1), .val (.ref a2), .unset] [(.ref a2)])) _
  obtain ⟨T3, X3, e3, st3⟩ := instY X0 hx hZ hown (ow hw 33 rfl) e0 (Ins.self E_a2) (g := (mkF m 1 #[.val (.ref a1), .val (.ref a2), .unset] [(.ref a2)])) rfl rfl (hb hby d5_1)
  refine OGot.go st3 ?_
  show OGot p.tables e below (T3.setTop (mkF m 4 #[.val (.ref a1), .val (.ref a2), .unset] [(.int (1 : Int32))])) _
  refine OGot.go (fun t k => XS.ifNo X3.here hx rfl (hb hby d5_4) rfl (by decide) k) ?_
  show OGot p.tables e below (T3.setTop (mkF m 7 #[.val (.ref a1), .val (.ref a2), .unset] [])) _
  refine OGot.go (fun t k => XS.aloadN X3.here hx rfl (hb hby d5_7) rfl rfl k) ?_
  show OGot p.tables e below (T3.setTop (mkF m 8 #[.val (.ref a1), .val (.ref a2), .unset] [(.ref a2)])) _
  obtain ⟨T4, X4, e4, st4⟩ := castY X3 hx hZ hown (ow hw 33 rfl) e3 (Ins.self E_a2) (g := (mkF m 8 #[.val (.ref a1), .val (.ref a2), .unset] [(.ref a2)])) rfl rfl (hb hby d5_8)
  refine OGot.go st4 ?_
  show OGot p.tables e below (T4.setTop (mkF m 11 #[.val (.ref a1), .val (.ref a2), .unset] [(.ref a2)])) _
  refine OGot.go (fun t k => XS.astoreN X4.here hx rfl (hb hby d5_11) rfl rfl (l' := #[.val (.ref a1), .val (.ref a2), .val (.ref a2)]) rfl k) ?_
  show OGot p.tables e below (T4.setTop (mkF m 12 #[.val (.ref a1), .val (.ref a2), .val (.ref a2)] [])) _
  refine OGot.go (fun t k => XS.aloadN X4.here hx rfl (hb hby d5_12) rfl rfl k) ?_
  show OGot p.tables e below (T4.setTop (mkF m 13 #[.val (.ref a1), .val (.ref a2), .val (.ref a2)] [(.ref a1)])) _
  obtain ⟨T6, X6, e6, st6⟩ := getF X4 hx hZ hown (host := "") (Or.inl (ow hw 22 rfl)) Via.refl e4 F_symbol_a1 (g := (mkF m 13 #[.val (.ref a1), .val (.ref a2), .val (.ref a2)] [(.ref a1)])) rfl rfl (hb hby d5_13)
  refine OGot.go st6 ?_
  show OGot p.tables e below (T6.setTop (mkF m 16 #[.val (.ref a1), .val (.ref a2), .val (.ref a2)] [(.int p5)])) _
  refine OGot.go (fun t k => XS.aloadN X6.here hx rfl (hb hby d5_16) rfl rfl k) ?_
  show OGot p.tables e below (T6.setTop (mkF m 17 #[.val (.ref a1), .val (.ref a2), .val (.ref a2)] [(.ref a2), (.int p5)])) _
  obtain ⟨T8, X8, e8, st8⟩ := getF X6 hx hZ hown (host := "") (Or.inl (ow hw 22 rfl)) Via.refl e6 F_symbol_a2 (g := (mkF m 17 #[.val (.ref a1), .val (.ref a2), .val (.ref a2)] [(.ref a2), (.int p5)])) rfl rfl (hb hby d5_17)
  refine OGot.go st8 ?_
  show OGot p.tables e below (T8.setTop (mkF m 20 #[.val (.ref a1), .val (.ref a2), .val (.ref a2)] [(.int p7), (.int p5)])) _
  refine OGot.go (fun t k => XS.icmpNo X8.here hx rfl (hb hby d5_20) rfl (teq hc_1).2 k) ?_
  show OGot p.tables e below (T8.setTop (mkF m 23 #[.val (.ref a1), .val (.ref a2), .val (.ref a2)] [])) _
  refine OGot.go (fun t k => XS.aloadN X8.here hx rfl (hb hby d5_23) rfl rfl k) ?_
  show OGot p.tables e below (T8.setTop (mkF m 24 #[.val (.ref a1), .val (.ref a2), .val (.ref a2)] [(.ref a1)])) _
  obtain ⟨T10, X10, e10, st10⟩ := getF X8 hx hZ hown (host := "") (Or.inl (ow hw 24 rfl)) Via.refl e8 F_offset_a1 (g := (mkF m 24 #[.val (.ref a1), .val (.ref a2), .val (.ref a2)] [(.ref a1)])) rfl rfl (hb hby d5_24)
  refine OGot.go st10 ?_
  show OGot p.tables e below (T10.setTop (mkF m 27 #[.val (.ref a1), .val (.ref a2), .val (.ref a2)] [(.long q9)])) _
  refine OGot.go (fun t k => XS.aloadN X10.here hx rfl (hb hby d5_27) rfl rfl k) ?_
  show OGot p.tables e below (T10.setTop (mkF m 28 #[.val (.ref a1), .val (.ref a2), .val (.ref a2)] [(.ref a2), (.long q9)])) _
  obtain ⟨T12, X12, e12, st12⟩ := getF X10 hx hZ hown (host := "") (Or.inl (ow hw 24 rfl)) Via.refl e10 F_offset_a2 (g := (mkF m 28 #[.val (.ref a1), .val (.ref a2), .val (.ref a2)] [(.ref a2), (.long q9)])) rfl rfl (hb hby d5_28)
  refine OGot.go st12 ?_
  show OGot p.tables e below (T12.setTop (mkF m 31 #[.val (.ref a1), .val (.ref a2), .val (.ref a2)] [(.long q11), (.long q9)])) _
  refine OGot.go (fun t k => XS.lcmp X12.here hx rfl (hb hby d5_31) rfl k) ?_
  show OGot p.tables e below (T12.setTop (mkF m 32 #[.val (.ref a1), .val (.ref a2), .val (.ref a2)] [(.int (lcmpW q9 q11))])) _
  refine OGot.go (fun t k => XS.ifYes X12.here hx rfl (pc0 := 32) (pc' := 50) rfl (hb hby d5_32) rfl ((if0 _ _).trans (feq (fun q => hc_2 ((lw_eq q9 q11).mp q))).2) (by decide) (by decide) k) ?_
  show OGot p.tables e below (T12.setTop (mkF m 50 #[.val (.ref a1), .val (.ref a2), .val (.ref a2)] [])) _
  refine OGot.go (fun t k => XS.iconst X12.here hx rfl (hb hby d5_50) k) ?_
  show OGot p.tables e below (T12.setTop (mkF m 51 #[.val (.ref a1), .val (.ref a2), .val (.ref a2)] [(.int (0 : Int32))])) _
  obtain ⟨fs, hr, hrun, hended, hW, hsame⟩ := X12.leave (v := some (.int (0 : Int32))) (fun h => by rw [Bd.returns] at h; cases h)
  refine ⟨_, _, retN X12 hx (t := .boolean) Bd.returns (by simp) (hb hby d5_51) hr, hrun, hended, _, _, rfl, ?_, ⟨_, rfl⟩, hW, hsame.mono (by decide) (by decide)⟩
  exact (⟨rfl, N0, e12⟩ : Q5_2 Z w_INT8 w_UINT8 w_BOOL w_UINT16 w_UINT64 w_UINT32 w_INT32 w_INT16 w_INT64 w_cache cl_w_cache a1 a2 p5 p7 q9 q11 h0 n0 _ T12.heap _)
def Q5_3 (Z : State) (w_INT8 : Addr) (w_UINT8 : Addr) (w_BOOL : Addr) (w_UINT16 : Addr) (w_UINT64 : Addr) (w_UINT32 : Addr) (w_INT32 : Addr) (w_INT16 : Addr) (w_INT64 : Addr) (w_cache : Addr) (cl_w_cache : Cell) (a1 : Addr) (a2 : Addr) (p5 : Int32) (p7 : Int32) (h0 : Heap) (n0 : Nat) (v : Option Value) (h : Heap) (L : List Loc) : Prop := v = some (.int (0 : Int32)) ∧ Fr n0 L ∧ h = h0
theorem ef5_3 (m : MethodId) (x0 : Addr) (x1 : Addr) : entryFrame m #[(.ref x0), (.ref x1)] 3 = mkF m 0 #[.val (.ref x0), .val (.ref x1), .unset] [] := by first | (simp [entryFrame, mkF, argsToLocals, Value.category]; done) | rfl
set_option maxRecDepth 65536 in
set_option maxHeartbeats 40000000 in
theorem rm5_3 (l : Launch) (Z : State) (a0 : Array Value) (hw : ∀ d ∈ tables_1, d.before a0 Z = true) (ws : List Jvm.Cond) {w_INT8 : Addr} {w_UINT8 : Addr} {w_BOOL : Addr} {w_UINT16 : Addr} {w_UINT64 : Addr} {w_UINT32 : Addr} {w_INT32 : Addr} {w_INT16 : Addr} {w_INT64 : Addr} {w_cache : Addr} {cl_w_cache : Cell} (G : Glob Z w_INT8 w_UINT8 w_BOOL w_UINT16 w_UINT64 w_UINT32 w_INT32 w_INT16 w_INT64 w_cache cl_w_cache) (a1 : Addr) (a2 : Addr) (p5 : Int32) (p7 : Int32) (h0 : Heap) (n0 : Nat) (O0 : Old Z n0 h0) (E_a2 : Exa Z h0 a2 "com/example/muster/muster/analysis/Value$Symbolic") (F_symbol_a1 : Fld Z h0 a1 "com/example/muster/muster/analysis/Value$Symbolic" "symbol" "I" (.int p5)) (F_symbol_a2 : Fld Z h0 a2 "com/example/muster/muster/analysis/Value$Symbolic" "symbol" "I" (.int p7)) (hc_1 : ¬ (p5 = p7)) :
    MetFree l (⟨"com/example/muster/muster/analysis/Value$Symbolic", "equals", "(Ljava/lang/Object;)Z"⟩ : MethodName) (head1 (Jvm.Cond.code (⟨"com/example/muster/muster/analysis/Value$Symbolic", "equals", "(Ljava/lang/Object;)Z"⟩ : MethodName) prog_45_method_2_code 3 (some .boolean) :: ws) ({ frames := 0, cells := 0, slots := 0, locals := 0 } : Room)) (fun a U => a = #[(.ref a1), (.ref a2)] ∧ Z.Warmed39 U.vm ∧ U.heap = h0) (fun _ _ _ _ _ => True) (fun _ U o U' => ∃ v L, o = .returned v ∧ Q5_3 Z w_INT8 w_UINT8 w_BOOL w_UINT16 w_UINT64 w_UINT32 w_INT32 w_INT16 w_INT64 w_cache cl_w_cache a1 a2 p5 p7 h0 n0 v U'.heap L ∧ FrameEnd U o U' L ({ frames := 0, cells := 0, slots := 0, locals := 0 } : Room).cells ({ frames := 0, cells := 0, slots := 0, locals := 0 } : Room).slots) := by
  refine MetFree.of_bodySF (plainFor_of_name pn_com_example_muster_muster_analysis_Value_Symbolic) hisR ?_
  intro p e s m args below meth c s₁ Bd hml0 hP hK
  obtain ⟨rfl, hZ, hh⟩ := hP
  have hx := Bd.exec
  have hby := Bd.bytes
  have hml : c.maxLocals = 3 := hml0
  have hown : s.vm.findClass "com/example/muster/muster/analysis/Value$Symbolic" = some m.cls := findClass_of_methodNamed Bd.named
  have hnm := (name_of_methodNamed Bd.named Bd.method).1
  have X0 : Stand p l e ({ frames := 0, cells := 0, slots := 0, locals := 0 } : Room) s m #[(.ref a1), (.ref a2)] below meth c s₁ [] 0 0 := Stand.of_body Bd
  have e0 : s₁.heap = h0 := by rw [← hh, Bd.state]; rfl
  have N0 := Fr.nil n0
  show OGot p.tables e below (s₁.setTop (entryFrame m #[(.ref a1), (.ref a2)] 3)) _
  refine OGot.go (fun t k => castTop (ef5_3 m a1 a2) k) ?_
  show OGot p.tables e below (s₁.setTop (mkF m 0 #[.val (.ref a1), .val (.ref a2), .unset] [])) _
  refine OGot.go (fun t k => XS.aloadN X0.here hx rfl (hb hby d5_0) rfl rfl k) ?_
  show OGot p.tables e below (s₁.setTop (mkF m 1 #[.val (.ref a1), .val (.ref a2), .unset] [(.ref a2)])) _
  obtain ⟨T3, X3, e3, st3⟩ := instY X0 hx hZ hown (ow hw 33 rfl) e0 (Ins.self E_a2) (g := (mkF m 1 #[.val (.ref a1), .val (.ref a2), .unset] [(.ref a2)])) rfl rfl (hb hby d5_1)
  refine OGot.go st3 ?_
  show OGot p.tables e below (T3.setTop (mkF m 4 #[.val (.ref a1), .val (.ref a2), .unset] [(.int (1 : Int32))])) _
  refine OGot.go (fun t k => XS.ifNo X3.here hx rfl (hb hby d5_4) rfl (by decide) k) ?_
  show OGot p.tables e below (T3.setTop (mkF m 7 #[.val (.ref a1), .val (.ref a2), .unset] [])) _
  refine OGot.go (fun t k => XS.aloadN X3.here hx rfl (hb hby d5_7) rfl rfl k) ?_
  show OGot p.tables e below (T3.setTop (mkF m 8 #[.val (.ref a1), .val (.ref a2), .unset] [(.ref a2)])) _
  obtain ⟨T4, X4, e4, st4⟩ := castY X3 hx hZ hown (ow hw 33 rfl) e3 (Ins.self E_a2) (g := (mkF m 8 #[.val (.ref a1), .val (.ref a2), .unset] [(.ref a2)])) rfl rfl (hb hby d5_8)
  refine OGot.go st4 ?_
  show OGot p.tables e below (T4.setTop (mkF m 11 #[.val (.ref a1), .val (.ref a2), .unset] [(.ref a2)])) _
  refine OGot.go (fun t k => XS.astoreN X4.here hx rfl (hb hby d5_11) rfl rfl (l' := #[.val (.ref a1), .val (.ref a2), .val (.ref a2)]) rfl k) ?_
  show OGot p.tables e below (T4.setTop (mkF m 12 #[.val (.ref a1), .val (.ref a2), .val (.ref a2)] [])) _
  refine OGot.go (fun t k => XS.aloadN X4.here hx rfl (hb hby d5_12) rfl rfl k) ?_
  show OGot p.tables e below (T4.setTop (mkF m 13 #[.val (.ref a1), .val (.ref a2), .val (.ref a2)] [(.ref a1)])) _
  obtain ⟨T6, X6, e6, st6⟩ := getF X4 hx hZ hown (host := "") (Or.inl (ow hw 22 rfl)) Via.refl e4 F_symbol_a1 (g := (mkF m 13 #[.val (.ref a1), .val (.ref a2), .val (.ref a2)] [(.ref a1)])) rfl rfl (hb hby d5_13)
  refine OGot.go st6 ?_
  show OGot p.tables e below (T6.setTop (mkF m 16 #[.val (.ref a1), .val (.ref a2), .val (.ref a2)] [(.int p5)])) _
  refine OGot.go (fun t k => XS.aloadN X6.here hx rfl (hb hby d5_16) rfl rfl k) ?_
  show OGot p.tables e below (T6.setTop (mkF m 17 #[.val (.ref a1), .val (.ref a2), .val (.ref a2)] [(.ref a2), (.int p5)])) _
  obtain ⟨T8, X8, e8, st8⟩ := getF X6 hx hZ hown (host := "") (Or.inl (ow hw 22 rfl)) Via.refl e6 F_symbol_a2 (g := (mkF m 17 #[.val (.ref a1), .val (.ref a2), .val (.ref a2)] [(.ref a2), (.int p5)])) rfl rfl (hb hby d5_17)
  refine OGot.go st8 ?_
  show OGot p.tables e below (T8.setTop (mkF m 20 #[.val (.ref a1), .val (.ref a2), .val (.ref a2)] [(.int p7), (.int p5)])) _
  refine OGot.go (fun t k => XS.icmpYes X8.here hx rfl (pc0 := 20) (pc' := 50) rfl (hb hby d5_20) rfl (feq hc_1).2 (by decide) (by decide) k) ?_
  show OGot p.tables e below (T8.setTop (mkF m 50 #[.val (.ref a1), .val (.ref a2), .val (.ref a2)] [])) _
  refine OGot.go (fun t k => XS.iconst X8.here hx rfl (hb hby d5_50) k) ?_
  show OGot p.tables e below (T8.setTop (mkF m 51 #[.val (.ref a1), .val (.ref a2), .val (.ref a2)] [(.int (0 : Int32))])) _
  obtain ⟨fs, hr, hrun, hended, hW, hsame⟩ := X8.leave (v := some (.int (0 : Int32))) (fun h => by rw [Bd.returns] at h; cases h)
  refine ⟨_, _, retN X8 hx (t := .boolean) Bd.returns (by simp) (hb hby d5_51) hr, hrun, hended, _, _, rfl, ?_, ⟨_, rfl⟩, hW, hsame.mono (by decide) (by decide)⟩
  exact (⟨rfl, N0, e8⟩ : Q5_3 Z w_INT8 w_UINT8 w_BOOL w_UINT16 w_UINT64 w_UINT32 w_INT32 w_INT16 w_INT64 w_cache cl_w_cache a1 a2 p5 p7 h0 n0 _ T8.heap _)
def Q5_4 (Z : State) (w_INT8 : Addr) (w_UINT8 : Addr) (w_BOOL : Addr) (w_UINT16 : Addr) (w_UINT64 : Addr) (w_UINT32 : Addr) (w_INT32 : Addr) (w_INT16 : Addr) (w_INT64 : Addr) (w_cache : Addr) (cl_w_cache : Cell) (a1 : Addr) (h0 : Heap) (n0 : Nat) (v : Option Value) (h : Heap) (L : List Loc) : Prop := v = some (.int (0 : Int32)) ∧ Fr n0 L ∧ h = h0
theorem ef5_4 (m : MethodId) (x0 : Addr) : entryFrame m #[(.ref x0), .null] 3 = mkF m 0 #[.val (.ref x0), .val .null, .unset] [] := by first | (simp [entryFrame, mkF, argsToLocals, Value.category]; done) | rfl
set_option maxRecDepth 65536 in
set_option maxHeartbeats 40000000 in
theorem rm5_4 (l : Launch) (Z : State) (a0 : Array Value) (hw : ∀ d ∈ tables_1, d.before a0 Z = true) (ws : List Jvm.Cond) {w_INT8 : Addr} {w_UINT8 : Addr} {w_BOOL : Addr} {w_UINT16 : Addr} {w_UINT64 : Addr} {w_UINT32 : Addr} {w_INT32 : Addr} {w_INT16 : Addr} {w_INT64 : Addr} {w_cache : Addr} {cl_w_cache : Cell} (G : Glob Z w_INT8 w_UINT8 w_BOOL w_UINT16 w_UINT64 w_UINT32 w_INT32 w_INT16 w_INT64 w_cache cl_w_cache) (a1 : Addr) (h0 : Heap) (n0 : Nat) (O0 : Old Z n0 h0) :
    MetFree l (⟨"com/example/muster/muster/analysis/Value$Symbolic", "equals", "(Ljava/lang/Object;)Z"⟩ : MethodName) (head1 (Jvm.Cond.code (⟨"com/example/muster/muster/analysis/Value$Symbolic", "equals", "(Ljava/lang/Object;)Z"⟩ : MethodName) prog_45_method_2_code 3 (some .boolean) :: ws) ({ frames := 0, cells := 0, slots := 0, locals := 0 } : Room)) (fun a U => a = #[(.ref a1), .null] ∧ Z.Warmed39 U.vm ∧ U.heap = h0) (fun _ _ _ _ _ => True) (fun _ U o U' => ∃ v L, o = .returned v ∧ Q5_4 Z w_INT8 w_UINT8 w_BOOL w_UINT16 w_UINT64 w_UINT32 w_INT32 w_INT16 w_INT64 w_cache cl_w_cache a1 h0 n0 v U'.heap L ∧ FrameEnd U o U' L ({ frames := 0, cells := 0, slots := 0, locals := 0 } : Room).cells ({ frames := 0, cells := 0, slots := 0, locals := 0 } : Room).slots) := by
  refine MetFree.of_bodySF (plainFor_of_name pn_com_example_muster_muster_analysis_Value_Symbolic) hisR ?_
  intro p e s m args below meth c s₁ Bd hml0 hP hK
  obtain ⟨rfl, hZ, hh⟩ := hP
  have hx := Bd.exec
  have hby := Bd.bytes
  have hml : c.maxLocals = 3 := hml0
  have hown : s.vm.findClass "com/example/muster/muster/analysis/Value$Symbolic" = some m.cls := findClass_of_methodNamed Bd.named
  have hnm := (name_of_methodNamed Bd.named Bd.method).1
  have X0 : Stand p l e ({ frames := 0, cells := 0, slots := 0, locals := 0 } : Room) s m #[(.ref a1), .null] below meth c s₁ [] 0 0 := Stand.of_body Bd
  have e0 : s₁.heap = h0 := by rw [← hh, Bd.state]; rfl
  have N0 := Fr.nil n0
  show OGot p.tables e below (s₁.setTop (entryFrame m #[(.ref a1), .null] 3)) _
  refine OGot.go (fun t k => castTop (ef5_4 m a1) k) ?_
  show OGot p.tables e below (s₁.setTop (mkF m 0 #[.val (.ref a1), .val .null, .unset] [])) _
  refine OGot.go (fun t k => XS.aloadN X0.here hx rfl (hb hby d5_0) rfl rfl k) ?_
  show OGot p.tables e below (s₁.setTop (mkF m 1 #[.val (.ref a1), .val .null, .unset] [.null])) _
  refine OGot.go (fun t k => X0.instanceofNull hx (g := (mkF m 1 #[.val (.ref a1), .val .null, .unset] [.null])) rfl rfl (hb hby d5_1) _ k) ?_
  show OGot p.tables e below (s₁.setTop (mkF m 4 #[.val (.ref a1), .val .null, .unset] [(.int (0 : Int32))])) _
  refine OGot.go (fun t k => XS.ifYes X0.here hx rfl (pc0 := 4) (pc' := 50) rfl (hb hby d5_4) rfl (by decide) (by decide) (by decide) k) ?_
  show OGot p.tables e below (s₁.setTop (mkF m 50 #[.val (.ref a1), .val .null, .unset] [])) _
  refine OGot.go (fun t k => XS.iconst X0.here hx rfl (hb hby d5_50) k) ?_
  show OGot p.tables e below (s₁.setTop (mkF m 51 #[.val (.ref a1), .val .null, .unset] [(.int (0 : Int32))])) _
  obtain ⟨fs, hr, hrun, hended, hW, hsame⟩ := X0.leave (v := some (.int (0 : Int32))) (fun h => by rw [Bd.returns] at h; cases h)
  refine ⟨_, _, retN X0 hx (t := .boolean) Bd.returns (by simp) (hb hby d5_51) hr, hrun, hended, _, _, rfl, ?_, ⟨_, rfl⟩, hW, hsame.mono (by decide) (by decide)⟩
  exact (⟨rfl, N0, e0⟩ : Q5_4 Z w_INT8 w_UINT8 w_BOOL w_UINT16 w_UINT64 w_UINT32 w_INT32 w_INT16 w_INT64 w_cache cl_w_cache a1 h0 n0 _ s₁.heap _)
theorem d6_0 : decode jdk_35_method_24_code 0 = .ok (.sipush 128, 3) := by decide +kernel
theorem d6_3 : decode jdk_35_method_24_code 3 = .ok (.istore_n 2, 1) := by decide +kernel
theorem d6_4 : decode jdk_35_method_24_code 4 = .ok (.lload_n 0, 1) := by decide +kernel
theorem d6_5 : decode jdk_35_method_24_code 5 = .ok (.ldc2_w 230, 3) := by decide +kernel
theorem d6_8 : decode jdk_35_method_24_code 8 = .ok (.lcmp, 1) := by decide +kernel
theorem d6_9 : decode jdk_35_method_24_code 9 = .ok (.ifCond .lt 22, 3) := by decide +kernel
theorem d6_31 : decode jdk_35_method_24_code 31 = .ok (.new 1, 3) := by decide +kernel
theorem d6_34 : decode jdk_35_method_24_code 34 = .ok (.dup, 1) := by decide +kernel
theorem d6_35 : decode jdk_35_method_24_code 35 = .ok (.lload_n 0, 1) := by decide +kernel
theorem d6_36 : decode jdk_35_method_24_code 36 = .ok (.invokespecial 240, 3) := by decide +kernel
theorem d7_0 : decode jdk_35_method_26_code 0 = .ok (.aload_n 0, 1) := by decide +kernel
theorem d7_1 : decode jdk_35_method_26_code 1 = .ok (.invokespecial 270, 3) := by decide +kernel
theorem d8_0 : decode jdk_18_method_1_code 0 = .ok (.aload_n 0, 1) := by decide +kernel
theorem d8_1 : decode jdk_18_method_1_code 1 = .ok (.invokespecial 1, 3) := by decide +kernel
theorem d8_4 : decode jdk_18_method_1_code 4 = .ok (.return_, 1) := by decide +kernel
theorem pn_java_lang_Number : plainName "java/lang/Number" = true := by first | (simp [plainName, overriddenIn]; done) | decide +kernel
def Q8 (Z : State) (w_INT8 : Addr) (w_UINT8 : Addr) (w_BOOL : Addr) (w_UINT16 : Addr) (w_UINT64 : Addr) (w_UINT32 : Addr) (w_INT32 : Addr) (w_INT16 : Addr) (w_INT64 : Addr) (w_cache : Addr) (cl_w_cache : Cell) (a1 : Addr) (h0 : Heap) (n0 : Nat) (v : Option Value) (h : Heap) (L : List Loc) : Prop := v = none ∧ Fr n0 L ∧ h = h0
theorem ef8 (m : MethodId) (x0 : Addr) : entryFrame m #[(.ref x0)] 1 = mkF m 0 #[.val (.ref x0)] [] := by first | (simp [entryFrame, mkF, argsToLocals, Value.category]; done) | rfl
set_option maxRecDepth 65536 in
set_option maxHeartbeats 40000000 in
theorem rm8 (l : Launch) (Z : State) (a0 : Array Value) (hw : ∀ d ∈ tables_1, d.before a0 Z = true) (ws : List Jvm.Cond) {w_INT8 : Addr} {w_UINT8 : Addr} {w_BOOL : Addr} {w_UINT16 : Addr} {w_UINT64 : Addr} {w_UINT32 : Addr} {w_INT32 : Addr} {w_INT16 : Addr} {w_INT64 : Addr} {w_cache : Addr} {cl_w_cache : Cell} (G : Glob Z w_INT8 w_UINT8 w_BOOL w_UINT16 w_UINT64 w_UINT32 w_INT32 w_INT16 w_INT64 w_cache cl_w_cache) (a1 : Addr) (h0 : Heap) (n0 : Nat) (O0 : Old Z n0 h0) :
    MetFree l (⟨"java/lang/Number", "<init>", "()V"⟩ : MethodName) (head1 (Jvm.Cond.code (⟨"java/lang/Number", "<init>", "()V"⟩ : MethodName) jdk_18_method_1_code 1 none :: ws) ({ frames := 1, cells := 0, slots := 0, locals := 12 } : Room)) (fun a U => a = #[(.ref a1)] ∧ Z.Warmed39 U.vm ∧ U.heap = h0) (fun _ _ _ _ _ => True) (fun _ U o U' => ∃ v L, o = .returned v ∧ Q8 Z w_INT8 w_UINT8 w_BOOL w_UINT16 w_UINT64 w_UINT32 w_INT32 w_INT16 w_INT64 w_cache cl_w_cache a1 h0 n0 v U'.heap L ∧ FrameEnd U o U' L ({ frames := 1, cells := 0, slots := 0, locals := 12 } : Room).cells ({ frames := 1, cells := 0, slots := 0, locals := 12 } : Room).slots) := by
  refine MetFree.of_bodySF (plainFor_of_name pn_java_lang_Number) hisR ?_
  intro p e s m args below meth c s₁ Bd hml0 hP hK
  obtain ⟨rfl, hZ, hh⟩ := hP
  have hx := Bd.exec
  have hby := Bd.bytes
  have hml : c.maxLocals = 1 := hml0
  have hown : s.vm.findClass "java/lang/Number" = some m.cls := findClass_of_methodNamed Bd.named
  have hnm := (name_of_methodNamed Bd.named Bd.method).1
  have X0 : Stand p l e ({ frames := 1, cells := 0, slots := 0, locals := 12 } : Room) s m #[(.ref a1)] below meth c s₁ [] 0 0 := Stand.of_body Bd
  have e0 : s₁.heap = h0 := by rw [← hh, Bd.state]; rfl
  have N0 := Fr.nil n0
  show OGot p.tables e below (s₁.setTop (entryFrame m #[(.ref a1)] 1)) _
  refine OGot.go (fun t k => castTop (ef8 m a1) k) ?_
  show OGot p.tables e below (s₁.setTop (mkF m 0 #[.val (.ref a1)] [])) _
  refine OGot.go (fun t k => XS.aloadN X0.here hx rfl (hb hby d8_0) rfl rfl k) ?_
  show OGot p.tables e below (s₁.setTop (mkF m 1 #[.val (.ref a1)] [(.ref a1)])) _
  obtain ⟨T2, X2, e2, st2⟩ := initO X0 hx hZ hown (ow hw 62 rfl) (ow hw 20 rfl) (ow hw 21 rfl) e0 (g := (mkF m 1 #[.val (.ref a1)] [(.ref a1)])) rfl (by rw [hml]; rfl) rfl (hb hby d8_1) (by decide) (W := 0) (by show 2 * 0 + _ ≤ _; exact Nat.le_of_eq rfl) (by decide)
  refine OGot.go st2 ?_
  show OGot p.tables e below (T2.setTop (mkF m 4 #[.val (.ref a1)] [])) _
  obtain ⟨fs, hr, hrun, hended, hW, hsame⟩ := X2.leave (v := none) (fun _ => rfl)
  refine ⟨_, _, X2.returnOut hx Bd.returns (hb hby d8_4) hr, hrun, hended, _, _, rfl, ?_, ⟨_, rfl⟩, hW, hsame.mono (by decide) (by decide)⟩
  exact (⟨rfl, N0, e2⟩ : Q8 Z w_INT8 w_UINT8 w_BOOL w_UINT16 w_UINT64 w_UINT32 w_INT32 w_INT16 w_INT64 w_cache cl_w_cache a1 h0 n0 _ T2.heap _)
theorem d7_4 : decode jdk_35_method_26_code 4 = .ok (.aload_n 0, 1) := by decide +kernel
theorem d7_5 : decode jdk_35_method_26_code 5 = .ok (.lload_n 1, 1) := by decide +kernel
theorem d7_6 : decode jdk_35_method_26_code 6 = .ok (.putfield 273, 3) := by decide +kernel
theorem d7_9 : decode jdk_35_method_26_code 9 = .ok (.return_, 1) := by decide +kernel
theorem pn_java_lang_Long : plainName "java/lang/Long" = true := by first | (simp [plainName, overriddenIn]; done) | decide +kernel
def Q7 (Z : State) (w_INT8 : Addr) (w_UINT8 : Addr) (w_BOOL : Addr) (w_UINT16 : Addr) (w_UINT64 : Addr) (w_UINT32 : Addr) (w_INT32 : Addr) (w_INT16 : Addr) (w_INT64 : Addr) (w_cache : Addr) (cl_w_cache : Cell) (a1 : Addr) (q2 : Int64) (h0 : Heap) (n0 : Nat) (v : Option Value) (h : Heap) (L : List Loc) : Prop := Fr n0 L ∧ v = none ∧ OKeep h0 h [(a1, Jvm.RoadKit.slotOf Z "java/lang/Long" "value" "J")] ∧ Fld Z h a1 "java/lang/Long" "value" "J" (.long q2)
theorem ef7 (m : MethodId) (x0 : Addr) (x1 : Int64) : entryFrame m #[(.ref x0), (.long x1)] 3 = mkF m 0 #[.val (.ref x0), .val (.long x1), .second] [] := by first | (simp [entryFrame, mkF, argsToLocals, Value.category]; done) | rfl
set_option maxRecDepth 65536 in
set_option maxHeartbeats 40000000 in
theorem rm7 (l : Launch) (Z : State) (a0 : Array Value) (hw : ∀ d ∈ tables_1, d.before a0 Z = true) (ws : List Jvm.Cond) {w_INT8 : Addr} {w_UINT8 : Addr} {w_BOOL : Addr} {w_UINT16 : Addr} {w_UINT64 : Addr} {w_UINT32 : Addr} {w_INT32 : Addr} {w_INT16 : Addr} {w_INT64 : Addr} {w_cache : Addr} {cl_w_cache : Cell} (G : Glob Z w_INT8 w_UINT8 w_BOOL w_UINT16 w_UINT64 w_UINT32 w_INT32 w_INT16 w_INT64 w_cache cl_w_cache) (a1 : Addr) (q2 : Int64) (h0 : Heap) (n0 : Nat) (O0 : Old Z n0 h0) (E_a1 : Exa Z h0 a1 "java/lang/Long") (F_value_a1 : Fld Z h0 a1 "java/lang/Long" "value" "J" (.long (0 : Int64))) (g_a1 : n0 ≤ a1) :
    MetFree l (⟨"java/lang/Long", "<init>", "(J)V"⟩ : MethodName) (head1 (Jvm.Cond.code (⟨"java/lang/Long", "<init>", "(J)V"⟩ : MethodName) jdk_35_method_26_code 3 none :: ws) ({ frames := 2, cells := 0, slots := 0, locals := 24 } : Room)) (fun a U => a = #[(.ref a1), (.long q2)] ∧ Z.Warmed39 U.vm ∧ U.heap = h0) (fun _ _ _ _ _ => True) (fun _ U o U' => ∃ v L, o = .returned v ∧ Q7 Z w_INT8 w_UINT8 w_BOOL w_UINT16 w_UINT64 w_UINT32 w_INT32 w_INT16 w_INT64 w_cache cl_w_cache a1 q2 h0 n0 v U'.heap L ∧ FrameEnd U o U' L ({ frames := 2, cells := 0, slots := 0, locals := 24 } : Room).cells ({ frames := 2, cells := 0, slots := 0, locals := 24 } : Room).slots) := by
  refine MetFree.of_bodySF (plainFor_of_name pn_java_lang_Long) hisR ?_
  intro p e s m args below meth c s₁ Bd hml0 hP hK
  obtain ⟨rfl, hZ, hh⟩ := hP
  have hx := Bd.exec
  have hby := Bd.bytes
  have hml : c.maxLocals = 3 := hml0
  have hown : s.vm.findClass "java/lang/Long" = some m.cls := findClass_of_methodNamed Bd.named
  have hnm := (name_of_methodNamed Bd.named Bd.method).1
  have X0 : Stand p l e ({ frames := 2, cells := 0, slots := 0, locals := 24 } : Room) s m #[(.ref a1), (.long q2)] below meth c s₁ [] 0 0 := Stand.of_body Bd
  have e0 : s₁.heap = h0 := by rw [← hh, Bd.state]; rfl
  have N0 := Fr.nil n0
  show OGot p.tables e below (s₁.setTop (entryFrame m #[(.ref a1), (.long q2)] 3)) _
  refine OGot.go (fun t k => castTop (ef7 m a1 q2) k) ?_
  show OGot p.tables e below (s₁.setTop (mkF m 0 #[.val (.ref a1), .val (.long q2), .second] [])) _
  refine OGot.go (fun t k => XS.aloadN X0.here hx rfl (hb hby d7_0) rfl rfl k) ?_
  show OGot p.tables e below (s₁.setTop (mkF m 1 #[.val (.ref a1), .val (.long q2), .second] [(.ref a1)])) _
  obtain ⟨_, _, ⟨T3, L3, k3, n3⟩, -, X3, ⟨Lc3, hQ3, l3, y3, z3⟩, st3⟩ := X0.specialBack hx (y := (⟨"java/lang/Number", "<init>", "()V"⟩ : MethodName)) rfl hown (mvT hZ (ow hw 56 rfl)) (mvT hZ (ow hw 57 rfl)) (mvT hZ (ow hw 61 rfl)) (by decide) (backOf (W := 0) (rm8 l Z a0 hw [] G a1 h0 n0 O0 ) hZ (ow hw 61 rfl) (ow hw 60 rfl) (by decide) (by decide)) (g := (mkF m 1 #[.val (.ref a1), .val (.long q2), .second] [(.ref a1)])) rfl (by rw [hml]; rfl) (Steps.refl _) (a := a1) (argsL := []) (rest := []) (lenOf pd_1 rfl) rfl (by show 2 * 0 + _ ≤ _; exact Nat.le_of_eq rfl) (hb hby d7_1) (fun _ _ => ⟨rfl, e0, (by decide : 0 + 0 ≤ _), (by decide : 0 + 0 ≤ _)⟩)
  dsimp only [Pt.U, Pt.locs, Pt.cells, Pt.slots] at X3 l3 y3 z3 st3 hQ3
  subst l3 y3 z3
  obtain ⟨rfl, N3q, e3⟩ := hQ3
  have N3 := Fr.app N0 N3q
  refine OGot.on st3 ?_
  show OGot p.tables e below (T3.setTop (mkF m 4 #[.val (.ref a1), .val (.long q2), .second] [])) _
  refine OGot.go (fun t k => XS.aloadN X3.here hx rfl (hb hby d7_4) rfl rfl k) ?_
  show OGot p.tables e below (T3.setTop (mkF m 5 #[.val (.ref a1), .val (.long q2), .second] [(.ref a1)])) _
  refine OGot.go (fun t k => XS.lloadN X3.here hx rfl (hb hby d7_5) rfl k) ?_
  show OGot p.tables e below (T3.setTop (mkF m 6 #[.val (.ref a1), .val (.long q2), .second] [(.long q2), (.ref a1)])) _
  obtain ⟨T4, h4, X4, e4, W4, st4⟩ := putF X3 hx hZ hown (host := "") (Or.inl (ow hw 63 rfl)) Via.refl e3 F_value_a1 E_a1 (Or.inr ⟨(ow hw 64 rfl), rfl, hnm⟩) (ow hw 51 rfl) (ty := .long) (by decide) rfl rfl (g := (mkF m 6 #[.val (.ref a1), .val (.long q2), .second] [(.long q2), (.ref a1)])) rfl rfl (hb hby d7_6)
  refine OGot.go st4 ?_
  have N4 := Fr.snoc X4 N3 g_a1
  have O4 := O0.wr W4 g_a1
  have K4 := (OKeep.refl h0 [(a1, Jvm.RoadKit.slotOf Z "java/lang/Long" "value" "J")]).wr W4 (Or.inl (List.mem_of_getElem? (i := 0) rfl))
  have Fw4 : Fld Z h4 a1 "java/lang/Long" "value" "J" (.long q2) := F_value_a1.same W4
  show OGot p.tables e below (T4.setTop (mkF m 9 #[.val (.ref a1), .val (.long q2), .second] [])) _
  obtain ⟨fs, hr, hrun, hended, hW, hsame⟩ := X4.leave (v := none) (fun _ => rfl)
  refine ⟨_, _, X4.returnOut hx Bd.returns (hb hby d7_9) hr, hrun, hended, _, _, rfl, ?_, ⟨_, rfl⟩, hW, hsame.mono (by decide) (by decide)⟩
  show Q7 Z w_INT8 w_UINT8 w_BOOL w_UINT16 w_UINT64 w_UINT32 w_INT32 w_INT16 w_INT64 w_cache cl_w_cache a1 q2 h0 n0 _ T4.heap _
  rw [e4]
  exact ⟨N4, rfl, K4, Fw4⟩
theorem pd_4 : parseMethodDescriptor "(J)V" = some ⟨[.long], none⟩ := by decide +kernel
theorem d6_39 : decode jdk_35_method_24_code 39 = .ok (.areturn, 1) := by decide +kernel
def Q6 (Z : State) (w_INT8 : Addr) (w_UINT8 : Addr) (w_BOOL : Addr) (w_UINT16 : Addr) (w_UINT64 : Addr) (w_UINT32 : Addr) (w_INT32 : Addr) (w_INT16 : Addr) (w_INT64 : Addr) (w_cache : Addr) (cl_w_cache : Cell) (q1 : Int64) (h0 : Heap) (n0 : Nat) (v : Option Value) (h : Heap) (L : List Loc) : Prop := Fr n0 L ∧ ∃ b2 : Addr, v = some (.ref b2) ∧ h0.size ≤ b2 ∧ OKeep h0 h [] ∧ Exa Z h b2 "java/lang/Long" ∧ Fld Z h b2 "java/lang/Long" "value" "J" (.long q1)
theorem ef6 (m : MethodId) (x0 : Int64) : entryFrame m #[(.long x0)] 3 = mkF m 0 #[.val (.long x0), .second, .unset] [] := by first | (simp [entryFrame, mkF, argsToLocals, Value.category]; done) | rfl
set_option maxRecDepth 65536 in
set_option maxHeartbeats 40000000 in
theorem rm6 (l : Launch) (Z : State) (a0 : Array Value) (hw : ∀ d ∈ tables_1, d.before a0 Z = true) (ws : List Jvm.Cond) {w_INT8 : Addr} {w_UINT8 : Addr} {w_BOOL : Addr} {w_UINT16 : Addr} {w_UINT64 : Addr} {w_UINT32 : Addr} {w_INT32 : Addr} {w_INT16 : Addr} {w_INT64 : Addr} {w_cache : Addr} {cl_w_cache : Cell} (G : Glob Z w_INT8 w_UINT8 w_BOOL w_UINT16 w_UINT64 w_UINT32 w_INT32 w_INT16 w_INT64 w_cache cl_w_cache) (q1 : Int64) (h0 : Heap) (n0 : Nat) (O0 : Old Z n0 h0) (hc_1 : q1 < (-128 : Int64)) :
    MetFree l (⟨"java/lang/Long", "valueOf", "(J)Ljava/lang/Long;"⟩ : MethodName) (head1 (Jvm.Cond.code (⟨"java/lang/Long", "valueOf", "(J)Ljava/lang/Long;"⟩ : MethodName) jdk_35_method_24_code 3 (some (.object "java/lang/Long")) :: ws) ({ frames := 3, cells := 1, slots := 1, locals := 39 } : Room)) (fun a U => a = #[(.long q1)] ∧ Z.Warmed39 U.vm ∧ U.heap = h0) (fun _ _ _ _ _ => True) (fun _ U o U' => ∃ v L, o = .returned v ∧ Q6 Z w_INT8 w_UINT8 w_BOOL w_UINT16 w_UINT64 w_UINT32 w_INT32 w_INT16 w_INT64 w_cache cl_w_cache q1 h0 n0 v U'.heap L ∧ FrameEnd U o U' L ({ frames := 3, cells := 1, slots := 1, locals := 39 } : Room).cells ({ frames := 3, cells := 1, slots := 1, locals := 39 } : Room).slots) := by
  refine MetFree.of_bodySF (plainFor_of_name pn_java_lang_Long) hisR ?_
  intro p e s m args below meth c s₁ Bd hml0 hP hK
  obtain ⟨rfl, hZ, hh⟩ := hP
  have hx := Bd.exec
  have hby := Bd.bytes
  have hml : c.maxLocals = 3 := hml0
  have hown : s.vm.findClass "java/lang/Long" = some m.cls := findClass_of_methodNamed Bd.named
  have hnm := (name_of_methodNamed Bd.named Bd.method).1
  have X0 : Stand p l e ({ frames := 3, cells := 1, slots := 1, locals := 39 } : Room) s m #[(.long q1)] below meth c s₁ [] 0 0 := Stand.of_body Bd
  have e0 : s₁.heap = h0 := by rw [← hh, Bd.state]; rfl
  have N0 := Fr.nil n0
  show OGot p.tables e below (s₁.setTop (entryFrame m #[(.long q1)] 3)) _
  refine OGot.go (fun t k => castTop (ef6 m q1) k) ?_
  show OGot p.tables e below (s₁.setTop (mkF m 0 #[.val (.long q1), .second, .unset] [])) _
  refine OGot.go (fun t k => XS.sipush X0.here hx rfl (hb hby d6_0) k) ?_
  show OGot p.tables e below (s₁.setTop (mkF m 3 #[.val (.long q1), .second, .unset] [(.int (128 : Int32))])) _
  refine OGot.go (fun t k => XS.istoreN X0.here hx rfl (hb hby d6_3) rfl (l' := #[.val (.long q1), .second, .val (.int (128 : Int32))]) rfl k) ?_
  show OGot p.tables e below (s₁.setTop (mkF m 4 #[.val (.long q1), .second, .val (.int (128 : Int32))] [])) _
  refine OGot.go (fun t k => XS.lloadN X0.here hx rfl (hb hby d6_4) rfl k) ?_
  show OGot p.tables e below (s₁.setTop (mkF m 5 #[.val (.long q1), .second, .val (.int (128 : Int32))] [(.long q1)])) _
  refine OGot.go (fun t k => X0.ldc2Long hx hown (mvT hZ (ow hw 49 rfl)) (g := (mkF m 5 #[.val (.long q1), .second, .val (.int (128 : Int32))] [(.long q1)])) rfl (hb hby d6_5) _ k) ?_
  show OGot p.tables e below (s₁.setTop (mkF m 8 #[.val (.long q1), .second, .val (.int (128 : Int32))] [(.long (-128 : Int64)), (.long q1)])) _
  refine OGot.go (fun t k => XS.lcmp X0.here hx rfl (hb hby d6_8) rfl k) ?_
  show OGot p.tables e below (s₁.setTop (mkF m 9 #[.val (.long q1), .second, .val (.int (128 : Int32))] [(.int (lcmpW q1 (-128 : Int64)))])) _
  refine OGot.go (fun t k => XS.ifYes X0.here hx rfl (pc0 := 9) (pc' := 31) rfl (hb hby d6_9) rfl ((if0 _ _).trans (tlt ((lw_lt q1 (-128 : Int64)).mpr hc_1)).1) (by decide) (by decide) k) ?_
  show OGot p.tables e below (s₁.setTop (mkF m 31 #[.val (.long q1), .second, .val (.int (128 : Int32))] [])) _
  obtain ⟨T2, h2, X2, e2, E2, A2, D2, -, st2⟩ := newO X0 hx hZ hown (ow hw 50 rfl) (ow hw 51 rfl) (ow hw 47 rfl) e0 (g := (mkF m 31 #[.val (.long q1), .second, .val (.int (128 : Int32))] [])) rfl (hb hby d6_31) (by decide) (by decide)
  obtain ⟨b2, g2⟩ : ∃ z, z = h0.size := ⟨_, rfl⟩
  rw [← g2] at A2 D2 st2
  refine OGot.go st2 ?_
  have g_b2 : n0 ≤ b2 := Nat.le_trans (osz O0) (Nat.le_of_eq g2.symm)
  have sy_b2 : h0.size ≤ b2 := Nat.le_of_eq g2.symm
  have sz_b2 : h0.size ≤ b2 := Nat.le_trans (OKeep.refl h0 []).1 sy_b2
  have K2 := (OKeep.refl h0 []).ext E2
  have O2 := O0.ext E2
  have F2_value : Fld Z h2 b2 "java/lang/Long" "value" "J" (.long (0 : Int64)) := D2 (Or.inr (ow hw 64 rfl)) (ty := .long) (by decide)
  show OGot p.tables e below (T2.setTop (mkF m 34 #[.val (.long q1), .second, .val (.int (128 : Int32))] [(.ref b2)])) _
  refine OGot.go (fun t k => XS.dup X2.here hx rfl (hb hby d6_34) rfl rfl k) ?_
  show OGot p.tables e below (T2.setTop (mkF m 35 #[.val (.long q1), .second, .val (.int (128 : Int32))] [(.ref b2), (.ref b2)])) _
  refine OGot.go (fun t k => XS.lloadN X2.here hx rfl (hb hby d6_35) rfl k) ?_
  show OGot p.tables e below (T2.setTop (mkF m 36 #[.val (.long q1), .second, .val (.int (128 : Int32))] [(.long q1), (.ref b2), (.ref b2)])) _
  obtain ⟨_, _, ⟨T3, L3, k3, n3⟩, -, X3, ⟨Lc3, hQ3, l3, y3, z3⟩, st3⟩ := X2.specialBack hx (y := (⟨"java/lang/Long", "<init>", "(J)V"⟩ : MethodName)) rfl hown (mvT hZ (ow hw 52 rfl)) (mvT hZ (ow hw 53 rfl)) (mvT hZ (ow hw 55 rfl)) (by decide) (backOf (W := 1) (rm7 l Z a0 hw [] G b2 q1 h2 n0 O2 A2 F2_value g_b2) hZ (ow hw 55 rfl) (ow hw 47 rfl) (by decide) (by decide)) (g := (mkF m 36 #[.val (.long q1), .second, .val (.int (128 : Int32))] [(.long q1), (.ref b2), (.ref b2)])) rfl (by rw [hml]; rfl) (Steps.refl _) (a := b2) (argsL := [(.long q1)]) (rest := [(.ref b2)]) (lenOf pd_4 rfl) rfl (by show 2 * 0 + _ ≤ _; exact Nat.le_of_eq rfl) (hb hby d6_36) (fun _ _ => ⟨rfl, e2, (by decide : 1 + 0 ≤ _), (by decide : 1 + 0 ≤ _)⟩)
  dsimp only [Pt.U, Pt.locs, Pt.cells, Pt.slots] at X3 l3 y3 z3 st3 hQ3
  subst l3 y3 z3
  obtain ⟨N3q, rfl, K3, Fo3_0⟩ := hQ3
  have Kc3 := K2.trans K3 (oinS (Or.inr sz_b2) oin0)
  have O3 := OKeep.old O2 K3 (ogeS g_b2 oge0)
  have N3 := Fr.app N0 N3q
  refine OGot.on st3 ?_
  show OGot p.tables e below (T3.setTop (mkF m 39 #[.val (.long q1), .second, .val (.int (128 : Int32))] [(.ref b2)])) _
  obtain ⟨fs, hr, hrun, hended, hW, hsame⟩ := X3.leave (v := some (.ref b2)) (fun h => by rw [Bd.returns] at h; cases h)
  refine ⟨_, _, oretA X3 hx Bd.returns rfl rfl (hb hby d6_39) hr, hrun, hended, _, _, rfl, ?_, ⟨_, rfl⟩, hW, hsame.mono (by decide) (by decide)⟩
  show Q6 Z w_INT8 w_UINT8 w_BOOL w_UINT16 w_UINT64 w_UINT32 w_INT32 w_INT16 w_INT64 w_cache cl_w_cache q1 h0 n0 _ T3.heap _
  exact ⟨N3, b2, rfl, sz_b2, Kc3, (OKeep.exa A2 K3), Fo3_0⟩
theorem pd_5 : parseMethodDescriptor "(J)Ljava/lang/Long;" = some ⟨[.long], some (.object "java/lang/Long")⟩ := by decide +kernel
def Q5_5 (Z : State) (w_INT8 : Addr) (w_UINT8 : Addr) (w_BOOL : Addr) (w_UINT16 : Addr) (w_UINT64 : Addr) (w_UINT32 : Addr) (w_INT32 : Addr) (w_INT16 : Addr) (w_INT64 : Addr) (w_cache : Addr) (cl_w_cache : Cell) (a1 : Addr) (a2 : Addr) (h0 : Heap) (n0 : Nat) (v : Option Value) (h : Heap) (L : List Loc) : Prop := v = some (.int (0 : Int32)) ∧ Fr n0 L ∧ h = h0
theorem ef5_5 (m : MethodId) (x0 : Addr) (x1 : Addr) : entryFrame m #[(.ref x0), (.ref x1)] 3 = mkF m 0 #[.val (.ref x0), .val (.ref x1), .unset] [] := by first | (simp [entryFrame, mkF, argsToLocals, Value.category]; done) | rfl
set_option maxRecDepth 65536 in
set_option maxHeartbeats 40000000 in
theorem rm5_5 (l : Launch) (Z : State) (a0 : Array Value) (hw : ∀ d ∈ tables_1, d.before a0 Z = true) (ws : List Jvm.Cond) {w_INT8 : Addr} {w_UINT8 : Addr} {w_BOOL : Addr} {w_UINT16 : Addr} {w_UINT64 : Addr} {w_UINT32 : Addr} {w_INT32 : Addr} {w_INT16 : Addr} {w_INT64 : Addr} {w_cache : Addr} {cl_w_cache : Cell} (G : Glob Z w_INT8 w_UINT8 w_BOOL w_UINT16 w_UINT64 w_UINT32 w_INT32 w_INT16 w_INT64 w_cache cl_w_cache) (a1 : Addr) (a2 : Addr) (h0 : Heap) (n0 : Nat) (O0 : Old Z n0 h0) (E_a2 : Exa Z h0 a2 "java/lang/Long") :
    MetFree l (⟨"com/example/muster/muster/analysis/Value$Symbolic", "equals", "(Ljava/lang/Object;)Z"⟩ : MethodName) (head1 (Jvm.Cond.code (⟨"com/example/muster/muster/analysis/Value$Symbolic", "equals", "(Ljava/lang/Object;)Z"⟩ : MethodName) prog_45_method_2_code 3 (some .boolean) :: ws) ({ frames := 0, cells := 0, slots := 0, locals := 0 } : Room)) (fun a U => a = #[(.ref a1), (.ref a2)] ∧ Z.Warmed39 U.vm ∧ U.heap = h0) (fun _ _ _ _ _ => True) (fun _ U o U' => ∃ v L, o = .returned v ∧ Q5_5 Z w_INT8 w_UINT8 w_BOOL w_UINT16 w_UINT64 w_UINT32 w_INT32 w_INT16 w_INT64 w_cache cl_w_cache a1 a2 h0 n0 v U'.heap L ∧ FrameEnd U o U' L ({ frames := 0, cells := 0, slots := 0, locals := 0 } : Room).cells ({ frames := 0, cells := 0, slots := 0, locals := 0 } : Room).slots) := by
  refine MetFree.of_bodySF (plainFor_of_name pn_com_example_muster_muster_analysis_Value_Symbolic) hisR ?_
  intro p e s m args below meth c s₁ Bd hml0 hP hK
  obtain ⟨rfl, hZ, hh⟩ := hP
  have hx := Bd.exec
  have hby := Bd.bytes
  have hml : c.maxLocals = 3 := hml0
  have hown : s.vm.findClass "com/example/muster/muster/analysis/Value$Symbolic" = some m.cls := findClass_of_methodNamed Bd.named
  have hnm := (name_of_methodNamed Bd.named Bd.method).1
  have X0 : Stand p l e ({ frames := 0, cells := 0, slots := 0, locals := 0 } : Room) s m #[(.ref a1), (.ref a2)] below meth c s₁ [] 0 0 := Stand.of_body Bd
  have e0 : s₁.heap = h0 := by rw [← hh, Bd.state]; rfl
  have N0 := Fr.nil n0
  show OGot p.tables e below (s₁.setTop (entryFrame m #[(.ref a1), (.ref a2)] 3)) _
  refine OGot.go (fun t k => castTop (ef5_5 m a1 a2) k) ?_
  show OGot p.tables e below (s₁.setTop (mkF m 0 #[.val (.ref a1), .val (.ref a2), .unset] [])) _
  refine OGot.go (fun t k => XS.aloadN X0.here hx rfl (hb hby d5_0) rfl rfl k) ?_
  show OGot p.tables e below (s₁.setTop (mkF m 1 #[.val (.ref a1), .val (.ref a2), .unset] [(.ref a2)])) _
  obtain ⟨T3, X3, e3, st3⟩ := instNo X0 hx hZ hown (ow hw 33 rfl) e0 E_a2 (oNS.no (ow hw 65 rfl) (ow hw 2 rfl) (NS.step (ow hw 65 rfl) (NS.step (ow hw 66 rfl) (oNS.root (ow hw 67 rfl) (ow hw 2 rfl) (by decide)) (by decide)) (by decide)) (by decide)) (g := (mkF m 1 #[.val (.ref a1), .val (.ref a2), .unset] [(.ref a2)])) rfl rfl (hb hby d5_1)
  refine OGot.go st3 ?_
  show OGot p.tables e below (T3.setTop (mkF m 4 #[.val (.ref a1), .val (.ref a2), .unset] [(.int (0 : Int32))])) _
  refine OGot.go (fun t k => XS.ifYes X3.here hx rfl (pc0 := 4) (pc' := 50) rfl (hb hby d5_4) rfl (by decide) (by decide) (by decide) k) ?_
  show OGot p.tables e below (T3.setTop (mkF m 50 #[.val (.ref a1), .val (.ref a2), .unset] [])) _
  refine OGot.go (fun t k => XS.iconst X3.here hx rfl (hb hby d5_50) k) ?_
  show OGot p.tables e below (T3.setTop (mkF m 51 #[.val (.ref a1), .val (.ref a2), .unset] [(.int (0 : Int32))])) _
  obtain ⟨fs, hr, hrun, hended, hW, hsame⟩ := X3.leave (v := some (.int (0 : Int32))) (fun h => by rw [Bd.returns] at h; cases h)
  refine ⟨_, _, retN X3 hx (t := .boolean) Bd.returns (by simp) (hb hby d5_51) hr, hrun, hended, _, _, rfl, ?_, ⟨_, rfl⟩, hW, hsame.mono (by decide) (by decide)⟩
  exact (⟨rfl, N0, e3⟩ : Q5_5 Z w_INT8 w_UINT8 w_BOOL w_UINT16 w_UINT64 w_UINT32 w_INT32 w_INT16 w_INT64 w_cache cl_w_cache a1 a2 h0 n0 _ T3.heap _)
theorem d6_12 : decode jdk_35_method_24_code 12 = .ok (.lload_n 0, 1) := by decide +kernel
theorem d6_13 : decode jdk_35_method_24_code 13 = .ok (.ldc2_w 232, 3) := by decide +kernel
theorem d6_16 : decode jdk_35_method_24_code 16 = .ok (.lcmp, 1) := by decide +kernel
theorem d6_17 : decode jdk_35_method_24_code 17 = .ok (.ifCond .gt 14, 3) := by decide +kernel
def Q6_1 (Z : State) (w_INT8 : Addr) (w_UINT8 : Addr) (w_BOOL : Addr) (w_UINT16 : Addr) (w_UINT64 : Addr) (w_UINT32 : Addr) (w_INT32 : Addr) (w_INT16 : Addr) (w_INT64 : Addr) (w_cache : Addr) (cl_w_cache : Cell) (q1 : Int64) (h0 : Heap) (n0 : Nat) (v : Option Value) (h : Heap) (L : List Loc) : Prop := Fr n0 L ∧ ∃ b2 : Addr, v = some (.ref b2) ∧ h0.size ≤ b2 ∧ OKeep h0 h [] ∧ Exa Z h b2 "java/lang/Long" ∧ Fld Z h b2 "java/lang/Long" "value" "J" (.long q1)
theorem ef6_1 (m : MethodId) (x0 : Int64) : entryFrame m #[(.long x0)] 3 = mkF m 0 #[.val (.long x0), .second, .unset] [] := by first | (simp [entryFrame, mkF, argsToLocals, Value.category]; done) | rfl
set_option maxRecDepth 65536 in
set_option maxHeartbeats 40000000 in
theorem rm6_1 (l : Launch) (Z : State) (a0 : Array Value) (hw : ∀ d ∈ tables_1, d.before a0 Z = true) (ws : List Jvm.Cond) {w_INT8 : Addr} {w_UINT8 : Addr} {w_BOOL : Addr} {w_UINT16 : Addr} {w_UINT64 : Addr} {w_UINT32 : Addr} {w_INT32 : Addr} {w_INT16 : Addr} {w_INT64 : Addr} {w_cache : Addr} {cl_w_cache : Cell} (G : Glob Z w_INT8 w_UINT8 w_BOOL w_UINT16 w_UINT64 w_UINT32 w_INT32 w_INT16 w_INT64 w_cache cl_w_cache) (q1 : Int64) (h0 : Heap) (n0 : Nat) (O0 : Old Z n0 h0) (hc_1 : ¬ (q1 < (-128 : Int64))) (hc_2 : (127 : Int64) < q1) :
    MetFree l (⟨"java/lang/Long", "valueOf", "(J)Ljava/lang/Long;"⟩ : MethodName) (head1 (Jvm.Cond.code (⟨"java/lang/Long", "valueOf", "(J)Ljava/lang/Long;"⟩ : MethodName) jdk_35_method_24_code 3 (some (.object "java/lang/Long")) :: ws) ({ frames := 3, cells := 1, slots := 1, locals := 39 } : Room)) (fun a U => a = #[(.long q1)] ∧ Z.Warmed39 U.vm ∧ U.heap = h0) (fun _ _ _ _ _ => True) (fun _ U o U' => ∃ v L, o = .returned v ∧ Q6_1 Z w_INT8 w_UINT8 w_BOOL w_UINT16 w_UINT64 w_UINT32 w_INT32 w_INT16 w_INT64 w_cache cl_w_cache q1 h0 n0 v U'.heap L ∧ FrameEnd U o U' L ({ frames := 3, cells := 1, slots := 1, locals := 39 } : Room).cells ({ frames := 3, cells := 1, slots := 1, locals := 39 } : Room).slots) := by
  refine MetFree.of_bodySF (plainFor_of_name pn_java_lang_Long) hisR ?_
  intro p e s m args below meth c s₁ Bd hml0 hP hK
  obtain ⟨rfl, hZ, hh⟩ := hP
  have hx := Bd.exec
  have hby := Bd.bytes
  have hml : c.maxLocals = 3 := hml0
  have hown : s.vm.findClass "java/lang/Long" = some m.cls := findClass_of_methodNamed Bd.named
  have hnm := (name_of_methodNamed Bd.named Bd.method).1
  have X0 : Stand p l e ({ frames := 3, cells := 1, slots := 1, locals := 39 } : Room) s m #[(.long q1)] below meth c s₁ [] 0 0 := Stand.of_body Bd
  have e0 : s₁.heap = h0 := by rw [← hh, Bd.state]; rfl
  have N0 := Fr.nil n0
  show OGot p.tables e below (s₁.setTop (entryFrame m #[(.long q1)] 3)) _
  refine OGot.go (fun t k => castTop (ef6_1 m q1) k) ?_
  show OGot p.tables e below (s₁.setTop (mkF m 0 #[.val (.long q1), .second, .unset] [])) _
  refine OGot.go (fun t k => XS.sipush X0.here hx rfl (hb hby d6_0) k) ?_
  show OGot p.tables e below (s₁.setTop (mkF m 3 #[.val (.long q1), .second, .unset] [(.int (128 : Int32))])) _
  refine OGot.go (fun t k => XS.istoreN X0.here hx rfl (hb hby d6_3) rfl (l' := #[.val (.long q1), .second, .val (.int (128 : Int32))]) rfl k) ?_
  show OGot p.tables e below (s₁.setTop (mkF m 4 #[.val (.long q1), .second, .val (.int (128 : Int32))] [])) _
  refine OGot.go (fun t k => XS.lloadN X0.here hx rfl (hb hby d6_4) rfl k) ?_
  show OGot p.tables e below (s₁.setTop (mkF m 5 #[.val (.long q1), .second, .val (.int (128 : Int32))] [(.long q1)])) _
  refine OGot.go (fun t k => X0.ldc2Long hx hown (mvT hZ (ow hw 49 rfl)) (g := (mkF m 5 #[.val (.long q1), .second, .val (.int (128 : Int32))] [(.long q1)])) rfl (hb hby d6_5) _ k) ?_
  show OGot p.tables e below (s₁.setTop (mkF m 8 #[.val (.long q1), .second, .val (.int (128 : Int32))] [(.long (-128 : Int64)), (.long q1)])) _
  refine OGot.go (fun t k => XS.lcmp X0.here hx rfl (hb hby d6_8) rfl k) ?_
  show OGot p.tables e below (s₁.setTop (mkF m 9 #[.val (.long q1), .second, .val (.int (128 : Int32))] [(.int (lcmpW q1 (-128 : Int64)))])) _
  refine OGot.go (fun t k => XS.ifNo X0.here hx rfl (hb hby d6_9) rfl ((if0 _ _).trans (flt (fun q => hc_1 ((lw_lt q1 (-128 : Int64)).mp q))).1) k) ?_
  show OGot p.tables e below (s₁.setTop (mkF m 12 #[.val (.long q1), .second, .val (.int (128 : Int32))] [])) _
  refine OGot.go (fun t k => XS.lloadN X0.here hx rfl (hb hby d6_12) rfl k) ?_
  show OGot p.tables e below (s₁.setTop (mkF m 13 #[.val (.long q1), .second, .val (.int (128 : Int32))] [(.long q1)])) _
  refine OGot.go (fun t k => X0.ldc2Long hx hown (mvT hZ (ow hw 74 rfl)) (g := (mkF m 13 #[.val (.long q1), .second, .val (.int (128 : Int32))] [(.long q1)])) rfl (hb hby d6_13) _ k) ?_
  show OGot p.tables e below (s₁.setTop (mkF m 16 #[.val (.long q1), .second, .val (.int (128 : Int32))] [(.long (127 : Int64)), (.long q1)])) _
  refine OGot.go (fun t k => XS.lcmp X0.here hx rfl (hb hby d6_16) rfl k) ?_
  show OGot p.tables e below (s₁.setTop (mkF m 17 #[.val (.long q1), .second, .val (.int (128 : Int32))] [(.int (lcmpW q1 (127 : Int64)))])) _
  refine OGot.go (fun t k => XS.ifYes X0.here hx rfl (pc0 := 17) (pc' := 31) rfl (hb hby d6_17) rfl ((if0 _ _).trans (tlt ((lw_gt q1 (127 : Int64)).mpr hc_2)).2.2.1) (by decide) (by decide) k) ?_
  show OGot p.tables e below (s₁.setTop (mkF m 31 #[.val (.long q1), .second, .val (.int (128 : Int32))] [])) _
  obtain ⟨T2, h2, X2, e2, E2, A2, D2, -, st2⟩ := newO X0 hx hZ hown (ow hw 50 rfl) (ow hw 51 rfl) (ow hw 47 rfl) e0 (g := (mkF m 31 #[.val (.long q1), .second, .val (.int (128 : Int32))] [])) rfl (hb hby d6_31) (by decide) (by decide)
  obtain ⟨b2, g2⟩ : ∃ z, z = h0.size := ⟨_, rfl⟩
  rw [← g2] at A2 D2 st2
  refine OGot.go st2 ?_
  have g_b2 : n0 ≤ b2 := Nat.le_trans (osz O0) (Nat.le_of_eq g2.symm)
  have sy_b2 : h0.size ≤ b2 := Nat.le_of_eq g2.symm
  have sz_b2 : h0.size ≤ b2 := Nat.le_trans (OKeep.refl h0 []).1 sy_b2
  have K2 := (OKeep.refl h0 []).ext E2
  have O2 := O0.ext E2
  have F2_value : Fld Z h2 b2 "java/lang/Long" "value" "J" (.long (0 : Int64)) := D2 (Or.inr (ow hw 64 rfl)) (ty := .long) (by decide)
  show OGot p.tables e below (T2.setTop (mkF m 34 #[.val (.long q1), .second, .val (.int (128 : Int32))] [(.ref b2)])) _
  refine OGot.go (fun t k => XS.dup X2.here hx rfl (hb hby d6_34) rfl rfl k) ?_
  show OGot p.tables e below (T2.setTop (mkF m 35 #[.val (.long q1), .second, .val (.int (128 : Int32))] [(.ref b2), (.ref b2)])) _
  refine OGot.go (fun t k => XS.lloadN X2.here hx rfl (hb hby d6_35) rfl k) ?_
  show OGot p.tables e below (T2.setTop (mkF m 36 #[.val (.long q1), .second, .val (.int (128 : Int32))] [(.long q1), (.ref b2), (.ref b2)])) _
  obtain ⟨_, _, ⟨T3, L3, k3, n3⟩, -, X3, ⟨Lc3, hQ3, l3, y3, z3⟩, st3⟩ := X2.specialBack hx (y := (⟨"java/lang/Long", "<init>", "(J)V"⟩ : MethodName)) rfl hown (mvT hZ (ow hw 52 rfl)) (mvT hZ (ow hw 53 rfl)) (mvT hZ (ow hw 55 rfl)) (by decide) (backOf (W := 1) (rm7 l Z a0 hw [] G b2 q1 h2 n0 O2 A2 F2_value g_b2) hZ (ow hw 55 rfl) (ow hw 47 rfl) (by decide) (by decide)) (g := (mkF m 36 #[.val (.long q1), .second, .val (.int (128 : Int32))] [(.long q1), (.ref b2), (.ref b2)])) rfl (by rw [hml]; rfl) (Steps.refl _) (a := b2) (argsL := [(.long q1)]) (rest := [(.ref b2)]) (lenOf pd_4 rfl) rfl (by show 2 * 0 + _ ≤ _; exact Nat.le_of_eq rfl) (hb hby d6_36) (fun _ _ => ⟨rfl, e2, (by decide : 1 + 0 ≤ _), (by decide : 1 + 0 ≤ _)⟩)
  dsimp only [Pt.U, Pt.locs, Pt.cells, Pt.slots] at X3 l3 y3 z3 st3 hQ3
  subst l3 y3 z3
  obtain ⟨N3q, rfl, K3, Fo3_0⟩ := hQ3
  have Kc3 := K2.trans K3 (oinS (Or.inr sz_b2) oin0)
  have O3 := OKeep.old O2 K3 (ogeS g_b2 oge0)
  have N3 := Fr.app N0 N3q
  refine OGot.on st3 ?_
  show OGot p.tables e below (T3.setTop (mkF m 39 #[.val (.long q1), .second, .val (.int (128 : Int32))] [(.ref b2)])) _
  obtain ⟨fs, hr, hrun, hended, hW, hsame⟩ := X3.leave (v := some (.ref b2)) (fun h => by rw [Bd.returns] at h; cases h)
  refine ⟨_, _, oretA X3 hx Bd.returns rfl rfl (hb hby d6_39) hr, hrun, hended, _, _, rfl, ?_, ⟨_, rfl⟩, hW, hsame.mono (by decide) (by decide)⟩
  show Q6_1 Z w_INT8 w_UINT8 w_BOOL w_UINT16 w_UINT64 w_UINT32 w_INT32 w_INT16 w_INT64 w_cache cl_w_cache q1 h0 n0 _ T3.heap _
  exact ⟨N3, b2, rfl, sz_b2, Kc3, (OKeep.exa A2 K3), Fo3_0⟩
theorem d6_20 : decode jdk_35_method_24_code 20 = .ok (.getstatic 234, 3) := by decide +kernel
theorem d6_23 : decode jdk_35_method_24_code 23 = .ok (.lload_n 0, 1) := by decide +kernel
theorem d6_24 : decode jdk_35_method_24_code 24 = .ok (.l2i, 1) := by decide +kernel
theorem d6_25 : decode jdk_35_method_24_code 25 = .ok (.sipush 128, 3) := by decide +kernel
theorem d6_28 : decode jdk_35_method_24_code 28 = .ok (.iadd, 1) := by decide +kernel
theorem d6_29 : decode jdk_35_method_24_code 29 = .ok (.aaload, 1) := by decide +kernel
theorem d6_30 : decode jdk_35_method_24_code 30 = .ok (.areturn, 1) := by decide +kernel
def Q6_2 (Z : State) (w_INT8 : Addr) (w_UINT8 : Addr) (w_BOOL : Addr) (w_UINT16 : Addr) (w_UINT64 : Addr) (w_UINT32 : Addr) (w_INT32 : Addr) (w_INT16 : Addr) (w_INT64 : Addr) (w_cache : Addr) (cl_w_cache : Cell) (q1 : Int64) (h0 : Heap) (n0 : Nat) (v : Option Value) (h : Heap) (L : List Loc) : Prop := v = some (.ref (obox cl_w_cache ((q1.toInt32) + (128 : Int32)))) ∧ Fr n0 L ∧ h = h0 ∧ Exa Z Z.heap (obox cl_w_cache ((q1.toInt32) + (128 : Int32))) "java/lang/Long"
theorem ef6_2 (m : MethodId) (x0 : Int64) : entryFrame m #[(.long x0)] 3 = mkF m 0 #[.val (.long x0), .second, .unset] [] := by first | (simp [entryFrame, mkF, argsToLocals, Value.category]; done) | rfl
set_option maxRecDepth 65536 in
set_option maxHeartbeats 40000000 in
theorem rm6_2 (l : Launch) (Z : State) (a0 : Array Value) (hw : ∀ d ∈ tables_1, d.before a0 Z = true) (ws : List Jvm.Cond) {w_INT8 : Addr} {w_UINT8 : Addr} {w_BOOL : Addr} {w_UINT16 : Addr} {w_UINT64 : Addr} {w_UINT32 : Addr} {w_INT32 : Addr} {w_INT16 : Addr} {w_INT64 : Addr} {w_cache : Addr} {cl_w_cache : Cell} (G : Glob Z w_INT8 w_UINT8 w_BOOL w_UINT16 w_UINT64 w_UINT32 w_INT32 w_INT16 w_INT64 w_cache cl_w_cache) (q1 : Int64) (h0 : Heap) (n0 : Nat) (O0 : Old Z n0 h0) (hc_1 : ¬ (q1 < (-128 : Int64))) (hc_2 : ¬ ((127 : Int64) < q1)) :
    MetFree l (⟨"java/lang/Long", "valueOf", "(J)Ljava/lang/Long;"⟩ : MethodName) (head1 (Jvm.Cond.code (⟨"java/lang/Long", "valueOf", "(J)Ljava/lang/Long;"⟩ : MethodName) jdk_35_method_24_code 3 (some (.object "java/lang/Long")) :: ws) ({ frames := 0, cells := 0, slots := 0, locals := 0 } : Room)) (fun a U => a = #[(.long q1)] ∧ Z.Warmed39 U.vm ∧ U.heap = h0) (fun _ _ _ _ _ => True) (fun _ U o U' => ∃ v L, o = .returned v ∧ Q6_2 Z w_INT8 w_UINT8 w_BOOL w_UINT16 w_UINT64 w_UINT32 w_INT32 w_INT16 w_INT64 w_cache cl_w_cache q1 h0 n0 v U'.heap L ∧ FrameEnd U o U' L ({ frames := 0, cells := 0, slots := 0, locals := 0 } : Room).cells ({ frames := 0, cells := 0, slots := 0, locals := 0 } : Room).slots) := by
  refine MetFree.of_bodySF (plainFor_of_name pn_java_lang_Long) hisR ?_
  intro p e s m args below meth c s₁ Bd hml0 hP hK
  obtain ⟨rfl, hZ, hh⟩ := hP
  have hx := Bd.exec
  have hby := Bd.bytes
  have hml : c.maxLocals = 3 := hml0
  have hown : s.vm.findClass "java/lang/Long" = some m.cls := findClass_of_methodNamed Bd.named
  have hnm := (name_of_methodNamed Bd.named Bd.method).1
  have X0 : Stand p l e ({ frames := 0, cells := 0, slots := 0, locals := 0 } : Room) s m #[(.long q1)] below meth c s₁ [] 0 0 := Stand.of_body Bd
  have e0 : s₁.heap = h0 := by rw [← hh, Bd.state]; rfl
  have N0 := Fr.nil n0
  show OGot p.tables e below (s₁.setTop (entryFrame m #[(.long q1)] 3)) _
  refine OGot.go (fun t k => castTop (ef6_2 m q1) k) ?_
  show OGot p.tables e below (s₁.setTop (mkF m 0 #[.val (.long q1), .second, .unset] [])) _
  refine OGot.go (fun t k => XS.sipush X0.here hx rfl (hb hby d6_0) k) ?_
  show OGot p.tables e below (s₁.setTop (mkF m 3 #[.val (.long q1), .second, .unset] [(.int (128 : Int32))])) _
  refine OGot.go (fun t k => XS.istoreN X0.here hx rfl (hb hby d6_3) rfl (l' := #[.val (.long q1), .second, .val (.int (128 : Int32))]) rfl k) ?_
  show OGot p.tables e below (s₁.setTop (mkF m 4 #[.val (.long q1), .second, .val (.int (128 : Int32))] [])) _
  refine OGot.go (fun t k => XS.lloadN X0.here hx rfl (hb hby d6_4) rfl k) ?_
  show OGot p.tables e below (s₁.setTop (mkF m 5 #[.val (.long q1), .second, .val (.int (128 : Int32))] [(.long q1)])) _
  refine OGot.go (fun t k => X0.ldc2Long hx hown (mvT hZ (ow hw 49 rfl)) (g := (mkF m 5 #[.val (.long q1), .second, .val (.int (128 : Int32))] [(.long q1)])) rfl (hb hby d6_5) _ k) ?_
  show OGot p.tables e below (s₁.setTop (mkF m 8 #[.val (.long q1), .second, .val (.int (128 : Int32))] [(.long (-128 : Int64)), (.long q1)])) _
  refine OGot.go (fun t k => XS.lcmp X0.here hx rfl (hb hby d6_8) rfl k) ?_
  show OGot p.tables e below (s₁.setTop (mkF m 9 #[.val (.long q1), .second, .val (.int (128 : Int32))] [(.int (lcmpW q1 (-128 : Int64)))])) _
  refine OGot.go (fun t k => XS.ifNo X0.here hx rfl (hb hby d6_9) rfl ((if0 _ _).trans (flt (fun q => hc_1 ((lw_lt q1 (-128 : Int64)).mp q))).1) k) ?_
  show OGot p.tables e below (s₁.setTop (mkF m 12 #[.val (.long q1), .second, .val (.int (128 : Int32))] [])) _
  refine OGot.go (fun t k => XS.lloadN X0.here hx rfl (hb hby d6_12) rfl k) ?_
  show OGot p.tables e below (s₁.setTop (mkF m 13 #[.val (.long q1), .second, .val (.int (128 : Int32))] [(.long q1)])) _
  refine OGot.go (fun t k => X0.ldc2Long hx hown (mvT hZ (ow hw 74 rfl)) (g := (mkF m 13 #[.val (.long q1), .second, .val (.int (128 : Int32))] [(.long q1)])) rfl (hb hby d6_13) _ k) ?_
  show OGot p.tables e below (s₁.setTop (mkF m 16 #[.val (.long q1), .second, .val (.int (128 : Int32))] [(.long (127 : Int64)), (.long q1)])) _
  refine OGot.go (fun t k => XS.lcmp X0.here hx rfl (hb hby d6_16) rfl k) ?_
  show OGot p.tables e below (s₁.setTop (mkF m 17 #[.val (.long q1), .second, .val (.int (128 : Int32))] [(.int (lcmpW q1 (127 : Int64)))])) _
  refine OGot.go (fun t k => XS.ifNo X0.here hx rfl (hb hby d6_17) rfl ((if0 _ _).trans (flt (fun q => hc_2 ((lw_gt q1 (127 : Int64)).mp q))).2.2.1) k) ?_
  show OGot p.tables e below (s₁.setTop (mkF m 20 #[.val (.long q1), .second, .val (.int (128 : Int32))] [])) _
  obtain ⟨T2, X2, e2, st2⟩ := getS2 X0 hx hZ hown (host := "") (Or.inl (ow hw 75 rfl)) Via.refl e0 (G.2.2.2.2.2.2.2.2.2.2.2.2.2.2.2.2.2.2.1.ext O0.2) (g := (mkF m 20 #[.val (.long q1), .second, .val (.int (128 : Int32))] [])) rfl (hb hby d6_20)
  refine OGot.go st2 ?_
  show OGot p.tables e below (T2.setTop (mkF m 23 #[.val (.long q1), .second, .val (.int (128 : Int32))] [(.ref w_cache)])) _
  refine OGot.go (fun t k => XS.lloadN X2.here hx rfl (hb hby d6_23) rfl k) ?_
  show OGot p.tables e below (T2.setTop (mkF m 24 #[.val (.long q1), .second, .val (.int (128 : Int32))] [(.long q1), (.ref w_cache)])) _
  refine OGot.go (fun t k => XS.l2i X2.here hx rfl (hb hby d6_24) rfl k) ?_
  show OGot p.tables e below (T2.setTop (mkF m 25 #[.val (.long q1), .second, .val (.int (128 : Int32))] [(.int (q1.toInt32)), (.ref w_cache)])) _
  refine OGot.go (fun t k => XS.sipush X2.here hx rfl (hb hby d6_25) k) ?_
  show OGot p.tables e below (T2.setTop (mkF m 28 #[.val (.long q1), .second, .val (.int (128 : Int32))] [(.int (128 : Int32)), (.int (q1.toInt32)), (.ref w_cache)])) _
  refine OGot.go (fun t k => XS.iadd X2.here hx rfl (hb hby d6_28) rfl k) ?_
  show OGot p.tables e below (T2.setTop (mkF m 29 #[.val (.long q1), .second, .val (.int (128 : Int32))] [(.int ((q1.toInt32) + (128 : Int32))), (.ref w_cache)])) _
  have hin3 : ¬ (((q1.toInt32) + (128 : Int32)) < 0 ∨ cl_w_cache.slots.size ≤ (((q1.toInt32) + (128 : Int32))).toNatClampNeg) := by rw [G.2.2.2.2.2.2.2.2.2.2.2.2.2.2.2.2.2.2.2.2.2.2.2.2.2.2.2.2.2.2.1]; exact (own_inbL hc_1 hc_2)
  obtain ⟨hat3, Ex3, Fx3⟩ := obox_at G.2.2.2.2.2.2.2.2.2.2.2.2.2.2.2.2.2.2.2.2.2.2.2.2.2.2.2.2.2 hin3
  refine OGot.go (fun t k => X2.aaload hx (j := ((q1.toInt32) + (128 : Int32))) (v := (.ref (obox cl_w_cache ((q1.toInt32) + (128 : Int32))))) (by rw [e2]; exact (G.2.2.2.2.2.2.2.2.2.2.2.2.2.2.2.2.2.2.2.2.2.2.2.2.2.2.2.2.2.ext O0.2).1.1) (State.isArrayOf_alike hZ.alike (G.2.2.2.2.2.2.2.2.2.2.2.2.2.2.2.2.2.2.2.2.2.2.2.2.2.2.2.2.2.ext O0.2).1.2.1) rfl (G.2.2.2.2.2.2.2.2.2.2.2.2.2.2.2.2.2.2.2.2.2.2.2.2.2.2.2.2.2.ext O0.2).1.2.2 hin3 hat3 (g := (mkF m 29 #[.val (.long q1), .second, .val (.int (128 : Int32))] [(.int ((q1.toInt32) + (128 : Int32))), (.ref w_cache)])) rfl rfl (hb hby d6_29) _ k) ?_
  show OGot p.tables e below (T2.setTop (mkF m 30 #[.val (.long q1), .second, .val (.int (128 : Int32))] [(.ref (obox cl_w_cache ((q1.toInt32) + (128 : Int32))))])) _
  obtain ⟨fs, hr, hrun, hended, hW, hsame⟩ := X2.leave (v := some (.ref (obox cl_w_cache ((q1.toInt32) + (128 : Int32))))) (fun h => by rw [Bd.returns] at h; cases h)
  refine ⟨_, _, oretA X2 hx Bd.returns rfl rfl (hb hby d6_30) hr, hrun, hended, _, _, rfl, ?_, ⟨_, rfl⟩, hW, hsame.mono (by decide) (by decide)⟩
  exact (⟨rfl, N0, e2, Ex3⟩ : Q6_2 Z w_INT8 w_UINT8 w_BOOL w_UINT16 w_UINT64 w_UINT32 w_INT32 w_INT16 w_INT64 w_cache cl_w_cache q1 h0 n0 _ T2.heap _)
def Q5_6 (Z : State) (w_INT8 : Addr) (w_UINT8 : Addr) (w_BOOL : Addr) (w_UINT16 : Addr) (w_UINT64 : Addr) (w_UINT32 : Addr) (w_INT32 : Addr) (w_INT16 : Addr) (w_INT64 : Addr) (w_cache : Addr) (cl_w_cache : Cell) (a1 : Addr) (p4 : Int32) (q7 : Int64) (a10 : Addr) (h0 : Heap) (n0 : Nat) (v : Option Value) (h : Heap) (L : List Loc) : Prop := v = some (.int (1 : Int32)) ∧ Fr n0 L ∧ h = h0
theorem ef5_6 (m : MethodId) (x0 : Addr) : entryFrame m #[(.ref x0), (.ref x0)] 3 = mkF m 0 #[.val (.ref x0), .val (.ref x0), .unset] [] := by first | (simp [entryFrame, mkF, argsToLocals, Value.category]; done) | rfl
set_option maxRecDepth 65536 in
set_option maxHeartbeats 40000000 in
theorem rm5_6 (l : Launch) (Z : State) (a0 : Array Value) (hw : ∀ d ∈ tables_1, d.before a0 Z = true) (ws : List Jvm.Cond) {w_INT8 : Addr} {w_UINT8 : Addr} {w_BOOL : Addr} {w_UINT16 : Addr} {w_UINT64 : Addr} {w_UINT32 : Addr} {w_INT32 : Addr} {w_INT16 : Addr} {w_INT64 : Addr} {w_cache : Addr} {cl_w_cache : Cell} (G : Glob Z w_INT8 w_UINT8 w_BOOL w_UINT16 w_UINT64 w_UINT32 w_INT32 w_INT16 w_INT64 w_cache cl_w_cache) (a1 : Addr) (p4 : Int32) (q7 : Int64) (a10 : Addr) (h0 : Heap) (n0 : Nat) (O0 : Old Z n0 h0) (E_a1 : Exa Z h0 a1 "com/example/muster/muster/analysis/Value$Symbolic") (F_symbol_a1 : Fld Z h0 a1 "com/example/muster/muster/analysis/Value$Symbolic" "symbol" "I" (.int p4)) (F_offset_a1 : Fld Z h0 a1 "com/example/muster/muster/analysis/Value$Symbolic" "offset" "J" (.long q7)) (F_type_a1 : Fld Z h0 a1 "com/example/muster/muster/analysis/Value$Symbolic" "type" "Lcom/example/muster/muster/model/IntegerType;" (.ref a10)) :
    MetFree l (⟨"com/example/muster/muster/analysis/Value$Symbolic", "equals", "(Ljava/lang/Object;)Z"⟩ : MethodName) (head1 (Jvm.Cond.code (⟨"com/example/muster/muster/analysis/Value$Symbolic", "equals", "(Ljava/lang/Object;)Z"⟩ : MethodName) prog_45_method_2_code 3 (some .boolean) :: ws) ({ frames := 0, cells := 0, slots := 0, locals := 0 } : Room)) (fun a U => a = #[(.ref a1), (.ref a1)] ∧ Z.Warmed39 U.vm ∧ U.heap = h0) (fun _ _ _ _ _ => True) (fun _ U o U' => ∃ v L, o = .returned v ∧ Q5_6 Z w_INT8 w_UINT8 w_BOOL w_UINT16 w_UINT64 w_UINT32 w_INT32 w_INT16 w_INT64 w_cache cl_w_cache a1 p4 q7 a10 h0 n0 v U'.heap L ∧ FrameEnd U o U' L ({ frames := 0, cells := 0, slots := 0, locals := 0 } : Room).cells ({ frames := 0, cells := 0, slots := 0, locals := 0 } : Room).slots) := by
  refine MetFree.of_bodySF (plainFor_of_name pn_com_example_muster_muster_analysis_Value_Symbolic) hisR ?_
  intro p e s m args below meth c s₁ Bd hml0 hP hK
  obtain ⟨rfl, hZ, hh⟩ := hP
  have hx := Bd.exec
  have hby := Bd.bytes
  have hml : c.maxLocals = 3 := hml0
  have hown : s.vm.findClass "com/example/muster/muster/analysis/Value$Symbolic" = some m.cls := findClass_of_methodNamed Bd.named
  have hnm := (name_of_methodNamed Bd.named Bd.method).1
  have X0 : Stand p l e ({ frames := 0, cells := 0, slots := 0, locals := 0 } : Room) s m #[(.ref a1), (.ref a1)] below meth c s₁ [] 0 0 := Stand.of_body Bd
  have e0 : s₁.heap = h0 := by rw [← hh, Bd.state]; rfl
  have N0 := Fr.nil n0
  show OGot p.tables e below (s₁.setTop (entryFrame m #[(.ref a1), (.ref a1)] 3)) _
  refine OGot.go (fun t k => castTop (ef5_6 m a1) k) ?_
  show OGot p.tables e below (s₁.setTop (mkF m 0 #[.val (.ref a1), .val (.ref a1), .unset] [])) _
  refine OGot.go (fun t k => XS.aloadN X0.here hx rfl (hb hby d5_0) rfl rfl k) ?_
  show OGot p.tables e below (s₁.setTop (mkF m 1 #[.val (.ref a1), .val (.ref a1), .unset] [(.ref a1)])) _
  obtain ⟨T2, X2, e2, st2⟩ := instY X0 hx hZ hown (ow hw 33 rfl) e0 (Ins.self E_a1) (g := (mkF m 1 #[.val (.ref a1), .val (.ref a1), .unset] [(.ref a1)])) rfl rfl (hb hby d5_1)
  refine OGot.go st2 ?_
  show OGot p.tables e below (T2.setTop (mkF m 4 #[.val (.ref a1), .val (.ref a1), .unset] [(.int (1 : Int32))])) _
  refine OGot.go (fun t k => XS.ifNo X2.here hx rfl (hb hby d5_4) rfl (by decide) k) ?_
  show OGot p.tables e below (T2.setTop (mkF m 7 #[.val (.ref a1), .val (.ref a1), .unset] [])) _
  refine OGot.go (fun t k => XS.aloadN X2.here hx rfl (hb hby d5_7) rfl rfl k) ?_
  show OGot p.tables e below (T2.setTop (mkF m 8 #[.val (.ref a1), .val (.ref a1), .unset] [(.ref a1)])) _
  obtain ⟨T3, X3, e3, st3⟩ := castY X2 hx hZ hown (ow hw 33 rfl) e2 (Ins.self E_a1) (g := (mkF m 8 #[.val (.ref a1), .val (.ref a1), .unset] [(.ref a1)])) rfl rfl (hb hby d5_8)
  refine OGot.go st3 ?_
  show OGot p.tables e below (T3.setTop (mkF m 11 #[.val (.ref a1), .val (.ref a1), .unset] [(.ref a1)])) _
  refine OGot.go (fun t k => XS.astoreN X3.here hx rfl (hb hby d5_11) rfl rfl (l' := #[.val (.ref a1), .val (.ref a1), .val (.ref a1)]) rfl k) ?_
  show OGot p.tables e below (T3.setTop (mkF m 12 #[.val (.ref a1), .val (.ref a1), .val (.ref a1)] [])) _
  refine OGot.go (fun t k => XS.aloadN X3.here hx rfl (hb hby d5_12) rfl rfl k) ?_
  show OGot p.tables e below (T3.setTop (mkF m 13 #[.val (.ref a1), .val (.ref a1), .val (.ref a1)] [(.ref a1)])) _
  obtain ⟨T5, X5, e5, st5⟩ := getF X3 hx hZ hown (host := "") (Or.inl (ow hw 22 rfl)) Via.refl e3 F_symbol_a1 (g := (mkF m 13 #[.val (.ref a1), .val (.ref a1), .val (.ref a1)] [(.ref a1)])) rfl rfl (hb hby d5_13)
  refine OGot.go st5 ?_
  show OGot p.tables e below (T5.setTop (mkF m 16 #[.val (.ref a1), .val (.ref a1), .val (.ref a1)] [(.int p4)])) _
  refine OGot.go (fun t k => XS.aloadN X5.here hx rfl (hb hby d5_16) rfl rfl k) ?_
  show OGot p.tables e below (T5.setTop (mkF m 17 #[.val (.ref a1), .val (.ref a1), .val (.ref a1)] [(.ref a1), (.int p4)])) _
  obtain ⟨T6, X6, e6, st6⟩ := getF X5 hx hZ hown (host := "") (Or.inl (ow hw 22 rfl)) Via.refl e5 F_symbol_a1 (g := (mkF m 17 #[.val (.ref a1), .val (.ref a1), .val (.ref a1)] [(.ref a1), (.int p4)])) rfl rfl (hb hby d5_17)
  refine OGot.go st6 ?_
  show OGot p.tables e below (T6.setTop (mkF m 20 #[.val (.ref a1), .val (.ref a1), .val (.ref a1)] [(.int p4), (.int p4)])) _
  refine OGot.go (fun t k => XS.icmpNo X6.here hx rfl (hb hby d5_20) rfl (teq rfl).2 k) ?_
  show OGot p.tables e below (T6.setTop (mkF m 23 #[.val (.ref a1), .val (.ref a1), .val (.ref a1)] [])) _
  refine OGot.go (fun t k => XS.aloadN X6.here hx rfl (hb hby d5_23) rfl rfl k) ?_
  show OGot p.tables e below (T6.setTop (mkF m 24 #[.val (.ref a1), .val (.ref a1), .val (.ref a1)] [(.ref a1)])) _
  obtain ⟨T8, X8, e8, st8⟩ := getF X6 hx hZ hown (host := "") (Or.inl (ow hw 24 rfl)) Via.refl e6 F_offset_a1 (g := (mkF m 24 #[.val (.ref a1), .val (.ref a1), .val (.ref a1)] [(.ref a1)])) rfl rfl (hb hby d5_24)
  refine OGot.go st8 ?_
  show OGot p.tables e below (T8.setTop (mkF m 27 #[.val (.ref a1), .val (.ref a1), .val (.ref a1)] [(.long q7)])) _
  refine OGot.go (fun t k => XS.aloadN X8.here hx rfl (hb hby d5_27) rfl rfl k) ?_
  show OGot p.tables e below (T8.setTop (mkF m 28 #[.val (.ref a1), .val (.ref a1), .val (.ref a1)] [(.ref a1), (.long q7)])) _
  obtain ⟨T9, X9, e9, st9⟩ := getF X8 hx hZ hown (host := "") (Or.inl (ow hw 24 rfl)) Via.refl e8 F_offset_a1 (g := (mkF m 28 #[.val (.ref a1), .val (.ref a1), .val (.ref a1)] [(.ref a1), (.long q7)])) rfl rfl (hb hby d5_28)
  refine OGot.go st9 ?_
  show OGot p.tables e below (T9.setTop (mkF m 31 #[.val (.ref a1), .val (.ref a1), .val (.ref a1)] [(.long q7), (.long q7)])) _
  refine OGot.go (fun t k => XS.lcmp X9.here hx rfl (hb hby d5_31) rfl k) ?_
  show OGot p.tables e below (T9.setTop (mkF m 32 #[.val (.ref a1), .val (.ref a1), .val (.ref a1)] [(.int (lcmpW q7 q7))])) _
  refine OGot.go (fun t k => XS.ifNo X9.here hx rfl (hb hby d5_32) rfl ((if0 _ _).trans (teq ((lw_eq q7 q7).mpr rfl)).2) k) ?_
  show OGot p.tables e below (T9.setTop (mkF m 35 #[.val (.ref a1), .val (.ref a1), .val (.ref a1)] [])) _
  refine OGot.go (fun t k => XS.aloadN X9.here hx rfl (hb hby d5_35) rfl rfl k) ?_
  show OGot p.tables e below (T9.setTop (mkF m 36 #[.val (.ref a1), .val (.ref a1), .val (.ref a1)] [(.ref a1)])) _
  obtain ⟨T11, X11, e11, st11⟩ := getF X9 hx hZ hown (host := "") (Or.inl (ow hw 26 rfl)) Via.refl e9 F_type_a1 (g := (mkF m 36 #[.val (.ref a1), .val (.ref a1), .val (.ref a1)] [(.ref a1)])) rfl rfl (hb hby d5_36)
  refine OGot.go st11 ?_
  show OGot p.tables e below (T11.setTop (mkF m 39 #[.val (.ref a1), .val (.ref a1), .val (.ref a1)] [(.ref a10)])) _
  refine OGot.go (fun t k => XS.aloadN X11.here hx rfl (hb hby d5_39) rfl rfl k) ?_
  show OGot p.tables e below (T11.setTop (mkF m 40 #[.val (.ref a1), .val (.ref a1), .val (.ref a1)] [(.ref a1), (.ref a10)])) _
  obtain ⟨T12, X12, e12, st12⟩ := getF X11 hx hZ hown (host := "") (Or.inl (ow hw 26 rfl)) Via.refl e11 F_type_a1 (g := (mkF m 40 #[.val (.ref a1), .val (.ref a1), .val (.ref a1)] [(.ref a1), (.ref a10)])) rfl rfl (hb hby d5_40)
  refine OGot.go st12 ?_
  show OGot p.tables e below (T12.setTop (mkF m 43 #[.val (.ref a1), .val (.ref a1), .val (.ref a1)] [(.ref a10), (.ref a10)])) _
  refine OGot.go (fun t k => Jvm.RoadKit.acmp (g := (mkF m 43 #[.val (.ref a1), .val (.ref a1), .val (.ref a1)] [(.ref a10), (.ref a10)])) X12 hx rfl rfl rfl (pc0 := 43) (pc' := 46) (same := true) rfl (hb hby d5_43) rfl (decide_eq_true rfl) (by decide) (by decide) k) ?_
  show OGot p.tables e below (T12.setTop (mkF m 46 #[.val (.ref a1), .val (.ref a1), .val (.ref a1)] [])) _
  refine OGot.go (fun t k => XS.iconst X12.here hx rfl (hb hby d5_46) k) ?_
  show OGot p.tables e below (T12.setTop (mkF m 47 #[.val (.ref a1), .val (.ref a1), .val (.ref a1)] [(.int (1 : Int32))])) _
  refine OGot.go (fun t k => XS.goto X12.here hx rfl (pc0 := 47) (pc' := 51) rfl (hb hby d5_47) (by decide) (by decide) k) ?_
  show OGot p.tables e below (T12.setTop (mkF m 51 #[.val (.ref a1), .val (.ref a1), .val (.ref a1)] [(.int (1 : Int32))])) _
  obtain ⟨fs, hr, hrun, hended, hW, hsame⟩ := X12.leave (v := some (.int (1 : Int32))) (fun h => by rw [Bd.returns] at h; cases h)
  refine ⟨_, _, retN X12 hx (t := .boolean) Bd.returns (by simp) (hb hby d5_51) hr, hrun, hended, _, _, rfl, ?_, ⟨_, rfl⟩, hW, hsame.mono (by decide) (by decide)⟩
  exact (⟨rfl, N0, e12⟩ : Q5_6 Z w_INT8 w_UINT8 w_BOOL w_UINT16 w_UINT64 w_UINT32 w_INT32 w_INT16 w_INT64 w_cache cl_w_cache a1 p4 q7 a10 h0 n0 _ T12.heap _)
def Q0 (Z : State) (w_INT8 : Addr) (w_UINT8 : Addr) (w_BOOL : Addr) (w_UINT16 : Addr) (w_UINT64 : Addr) (w_UINT32 : Addr) (w_INT32 : Addr) (w_INT16 : Addr) (w_INT64 : Addr) (w_cache : Addr) (cl_w_cache : Cell) (p1 : Int32) (q2 : Int64) (p3 : Int32) (p4 : Int32) (q5 : Int64) (p6 : Int32) (h0 : Heap) (n0 : Nat) (v : Option Value) (h : Heap) (L : List Loc) : Prop := v = some (.int (1 : Int32)) ∧ Fr n0 L
theorem ef0 (m : MethodId) (x0 : Int32) (x1 : Int64) (x2 : Int32) (x3 : Int32) (x4 : Int64) (x5 : Int32) : entryFrame m #[(.int x0), (.long x1), (.int x2), (.int x3), (.long x4), (.int x5)] maxLocals = mkF m 0 #[.val (.int x0), .val (.long x1), .second, .val (.int x2), .val (.int x3), .val (.long x4), .second, .val (.int x5), .unset, .unset, .unset, .unset, .unset, .unset, .unset, .unset, .unset] [] := by first | (simp [entryFrame, mkF, argsToLocals, Value.category, maxLocals]; done) | rfl
set_option maxRecDepth 65536 in
set_option maxHeartbeats 40000000 in
theorem rm0 (l : Launch) (Z : State) (a0 : Array Value) (hw : ∀ d ∈ tables_1, d.before a0 Z = true) (ws : List Jvm.Cond) {w_INT8 : Addr} {w_UINT8 : Addr} {w_BOOL : Addr} {w_UINT16 : Addr} {w_UINT64 : Addr} {w_UINT32 : Addr} {w_INT32 : Addr} {w_INT16 : Addr} {w_INT64 : Addr} {w_cache : Addr} {cl_w_cache : Cell} (G : Glob Z w_INT8 w_UINT8 w_BOOL w_UINT16 w_UINT64 w_UINT32 w_INT32 w_INT16 w_INT64 w_cache cl_w_cache) (p1 : Int32) (q2 : Int64) (p3 : Int32) (p4 : Int32) (q5 : Int64) (p6 : Int32) (h0 : Heap) (n0 : Nat) (O0 : Old Z n0 h0) :
    MetFree l x (head1 (Jvm.Cond.code x code maxLocals ret :: ws) room_1) (fun a U => a = #[(.int p1), (.long q2), (.int p3), (.int p4), (.long q5), (.int p6)] ∧ Z.Warmed39 U.vm ∧ U.heap = h0) (fun _ _ _ _ _ => True) (fun _ U o U' => ∃ v L, o = .returned v ∧ Q0 Z w_INT8 w_UINT8 w_BOOL w_UINT16 w_UINT64 w_UINT32 w_INT32 w_INT16 w_INT64 w_cache cl_w_cache p1 q2 p3 p4 q5 p6 h0 n0 v U'.heap L ∧ FrameEnd U o U' L room_1.cells room_1.slots) := by
  refine MetFree.of_bodySF (plainFor_of_name pn_com_example_muster_muster_analysis_SymbolicEqualsPinLaw) hisR ?_
  intro p e s m args below meth c s₁ Bd hml0 hP hK
  obtain ⟨rfl, hZ, hh⟩ := hP
  have hx := Bd.exec
  have hby := Bd.bytes
  have hml : c.maxLocals = 17 := hml0
  have hown : s.vm.findClass "com/example/muster/muster/analysis/SymbolicEqualsPinLaw" = some m.cls := findClass_of_methodNamed Bd.named
  have hnm := (name_of_methodNamed Bd.named Bd.method).1
  have X0 : Stand p l e room_1 s m #[(.int p1), (.long q2), (.int p3), (.int p4), (.long q5), (.int p6)] below meth c s₁ [] 0 0 := Stand.of_body Bd
  have e0 : s₁.heap = h0 := by rw [← hh, Bd.state]; rfl
  have N0 := Fr.nil n0
  show OGot p.tables e below (s₁.setTop (entryFrame m #[(.int p1), (.long q2), (.int p3), (.int p4), (.long q5), (.int p6)] maxLocals)) _
  refine OGot.go (fun t k => castTop (ef0 m p1 q2 p3 p4 q5 p6) k) ?_
  show OGot p.tables e below (s₁.setTop (mkF m 0 #[.val (.int p1), .val (.long q2), .second, .val (.int p3), .val (.int p4), .val (.long q5), .second, .val (.int p6), .unset, .unset, .unset, .unset, .unset, .unset, .unset, .unset, .unset] [])) _
  refine OGot.go (fun t k => XS.iloadN X0.here hx rfl (hb hby at_0) rfl k) ?_
  show OGot p.tables e below (s₁.setTop (mkF m 1 #[.val (.int p1), .val (.long q2), .second, .val (.int p3), .val (.int p4), .val (.long q5), .second, .val (.int p6), .unset, .unset, .unset, .unset, .unset, .unset, .unset, .unset, .unset] [(.int p3)])) _
  refine OGot.go (fun t k => X0.ldcInt hx hown (mvT hZ (ow hw 0 rfl)) (g := (mkF m 1 #[.val (.int p1), .val (.long q2), .second, .val (.int p3), .val (.int p4), .val (.long q5), .second, .val (.int p6), .unset, .unset, .unset, .unset, .unset, .unset, .unset, .unset, .unset] [(.int p3)])) rfl (hb hby at_1) _ k) ?_
  show OGot p.tables e below (s₁.setTop (mkF m 3 #[.val (.int p1), .val (.long q2), .second, .val (.int p3), .val (.int p4), .val (.long q5), .second, .val (.int p6), .unset, .unset, .unset, .unset, .unset, .unset, .unset, .unset, .unset] [(.int (2147483647 : Int32)), (.int p3)])) _
  refine OGot.go (fun t k => XS.iand X0.here hx rfl (hb hby at_3) rfl k) ?_
  show OGot p.tables e below (s₁.setTop (mkF m 4 #[.val (.int p1), .val (.long q2), .second, .val (.int p3), .val (.int p4), .val (.long q5), .second, .val (.int p6), .unset, .unset, .unset, .unset, .unset, .unset, .unset, .unset, .unset] [(.int (p3 &&& (2147483647 : Int32)))])) _
  refine OGot.go (fun t k => XS.bipush X0.here hx rfl (hb hby at_4) k) ?_
  show OGot p.tables e below (s₁.setTop (mkF m 6 #[.val (.int p1), .val (.long q2), .second, .val (.int p3), .val (.int p4), .val (.long q5), .second, .val (.int p6), .unset, .unset, .unset, .unset, .unset, .unset, .unset, .unset, .unset] [(.int (9 : Int32)), (.int (p3 &&& (2147483647 : Int32)))])) _
  refine OGot.go (fun t k => iremM X0 hx rfl (hb hby at_6) rfl (by decide) k) ?_
  show OGot p.tables e below (s₁.setTop (mkF m 7 #[.val (.int p1), .val (.long q2), .second, .val (.int p3), .val (.int p4), .val (.long q5), .second, .val (.int p6), .unset, .unset, .unset, .unset, .unset, .unset, .unset, .unset, .unset] [(.int ((p3 &&& (2147483647 : Int32)) % (9 : Int32)))])) _
  refine OGot.go (fun t k => XS.istore X0.here hx rfl (hb hby at_7) rfl (l' := #[.val (.int p1), .val (.long q2), .second, .val (.int p3), .val (.int p4), .val (.long q5), .second, .val (.int p6), .val (.int ((p3 &&& (2147483647 : Int32)) % (9 : Int32))), .unset, .unset, .unset, .unset, .unset, .unset, .unset, .unset]) rfl k) ?_
  show OGot p.tables e below (s₁.setTop (mkF m 9 #[.val (.int p1), .val (.long q2), .second, .val (.int p3), .val (.int p4), .val (.long q5), .second, .val (.int p6), .val (.int ((p3 &&& (2147483647 : Int32)) % (9 : Int32))), .unset, .unset, .unset, .unset, .unset, .unset, .unset, .unset] [])) _
  refine OGot.go (fun t k => XS.iload X0.here hx rfl (hb hby at_9) rfl k) ?_
  show OGot p.tables e below (s₁.setTop (mkF m 11 #[.val (.int p1), .val (.long q2), .second, .val (.int p3), .val (.int p4), .val (.long q5), .second, .val (.int p6), .val (.int ((p3 &&& (2147483647 : Int32)) % (9 : Int32))), .unset, .unset, .unset, .unset, .unset, .unset, .unset, .unset] [(.int p6)])) _
  refine OGot.go (fun t k => XS.iconst X0.here hx rfl (hb hby at_11) k) ?_
  show OGot p.tables e below (s₁.setTop (mkF m 12 #[.val (.int p1), .val (.long q2), .second, .val (.int p3), .val (.int p4), .val (.long q5), .second, .val (.int p6), .val (.int ((p3 &&& (2147483647 : Int32)) % (9 : Int32))), .unset, .unset, .unset, .unset, .unset, .unset, .unset, .unset] [(.int (2 : Int32)), (.int p6)])) _
  refine OGot.go (fun t k => XS.iand X0.here hx rfl (hb hby at_12) rfl k) ?_
  show OGot p.tables e below (s₁.setTop (mkF m 13 #[.val (.int p1), .val (.long q2), .second, .val (.int p3), .val (.int p4), .val (.long q5), .second, .val (.int p6), .val (.int ((p3 &&& (2147483647 : Int32)) % (9 : Int32))), .unset, .unset, .unset, .unset, .unset, .unset, .unset, .unset] [(.int (p6 &&& (2 : Int32)))])) _
  refine OGot.go (B := s₁.setTop (mkF m 29 #[.val (.int p1), .val (.long q2), .second, .val (.int p3), .val (.int p4), .val (.long q5), .second, .val (.int p6), .val (.int ((p3 &&& (2147483647 : Int32)) % (9 : Int32))), .unset, .unset, .unset, .unset, .unset, .unset, .unset, .unset] [(.int (if (p6 &&& (2 : Int32)) = (0 : Int32) then (((p6.toUInt32 >>> ((8 : Int32) &&& 31).toUInt32).toInt32) % (9 : Int32)) else ((p3 &&& (2147483647 : Int32)) % (9 : Int32))))])) (fun t k => ?_) ?_
  · by_cases hj7 : (p6 &&& (2 : Int32)) = (0 : Int32)
    · refine XS.ifYes X0.here hx rfl (pc0 := 13) (pc' := 21) rfl (hb hby at_13) rfl ((if0 _ _).trans (teq hj7).1) (by decide) (by decide) ?_
      show Steps p.tables e below (s₁.setTop (mkF m 21 #[.val (.int p1), .val (.long q2), .second, .val (.int p3), .val (.int p4), .val (.long q5), .second, .val (.int p6), .val (.int ((p3 &&& (2147483647 : Int32)) % (9 : Int32))), .unset, .unset, .unset, .unset, .unset, .unset, .unset, .unset] [])) _
      refine XS.iload X0.here hx rfl (hb hby at_21) rfl ?_
      show Steps p.tables e below (s₁.setTop (mkF m 23 #[.val (.int p1), .val (.long q2), .second, .val (.int p3), .val (.int p4), .val (.long q5), .second, .val (.int p6), .val (.int ((p3 &&& (2147483647 : Int32)) % (9 : Int32))), .unset, .unset, .unset, .unset, .unset, .unset, .unset, .unset] [(.int p6)])) _
      refine XS.bipush X0.here hx rfl (hb hby at_23) ?_
      show Steps p.tables e below (s₁.setTop (mkF m 25 #[.val (.int p1), .val (.long q2), .second, .val (.int p3), .val (.int p4), .val (.long q5), .second, .val (.int p6), .val (.int ((p3 &&& (2147483647 : Int32)) % (9 : Int32))), .unset, .unset, .unset, .unset, .unset, .unset, .unset, .unset] [(.int (8 : Int32)), (.int p6)])) _
      refine XS.iushr X0.here hx rfl (hb hby at_25) rfl ?_
      show Steps p.tables e below (s₁.setTop (mkF m 26 #[.val (.int p1), .val (.long q2), .second, .val (.int p3), .val (.int p4), .val (.long q5), .second, .val (.int p6), .val (.int ((p3 &&& (2147483647 : Int32)) % (9 : Int32))), .unset, .unset, .unset, .unset, .unset, .unset, .unset, .unset] [(.int ((p6.toUInt32 >>> ((8 : Int32) &&& 31).toUInt32).toInt32))])) _
      refine XS.bipush X0.here hx rfl (hb hby at_26) ?_
      show Steps p.tables e below (s₁.setTop (mkF m 28 #[.val (.int p1), .val (.long q2), .second, .val (.int p3), .val (.int p4), .val (.long q5), .second, .val (.int p6), .val (.int ((p3 &&& (2147483647 : Int32)) % (9 : Int32))), .unset, .unset, .unset, .unset, .unset, .unset, .unset, .unset] [(.int (9 : Int32)), (.int ((p6.toUInt32 >>> ((8 : Int32) &&& 31).toUInt32).toInt32))])) _
      refine iremM X0 hx rfl (hb hby at_28) rfl (by decide) ?_
      show Steps p.tables e below (s₁.setTop (mkF m 29 #[.val (.int p1), .val (.long q2), .second, .val (.int p3), .val (.int p4), .val (.long q5), .second, .val (.int p6), .val (.int ((p3 &&& (2147483647 : Int32)) % (9 : Int32))), .unset, .unset, .unset, .unset, .unset, .unset, .unset, .unset] [(.int (((p6.toUInt32 >>> ((8 : Int32) &&& 31).toUInt32).toInt32) % (9 : Int32)))])) _
      simp only [if_pos hj7] at k
      exact k
    · refine XS.ifNo X0.here hx rfl (hb hby at_13) rfl ((if0 _ _).trans (feq hj7).1) ?_
      show Steps p.tables e below (s₁.setTop (mkF m 16 #[.val (.int p1), .val (.long q2), .second, .val (.int p3), .val (.int p4), .val (.long q5), .second, .val (.int p6), .val (.int ((p3 &&& (2147483647 : Int32)) % (9 : Int32))), .unset, .unset, .unset, .unset, .unset, .unset, .unset, .unset] [])) _
      refine XS.iload X0.here hx rfl (hb hby at_16) rfl ?_
      show Steps p.tables e below (s₁.setTop (mkF m 18 #[.val (.int p1), .val (.long q2), .second, .val (.int p3), .val (.int p4), .val (.long q5), .second, .val (.int p6), .val (.int ((p3 &&& (2147483647 : Int32)) % (9 : Int32))), .unset, .unset, .unset, .unset, .unset, .unset, .unset, .unset] [(.int ((p3 &&& (2147483647 : Int32)) % (9 : Int32)))])) _
      refine XS.goto X0.here hx rfl (pc0 := 18) (pc' := 29) rfl (hb hby at_18) (by decide) (by decide) ?_
      show Steps p.tables e below (s₁.setTop (mkF m 29 #[.val (.int p1), .val (.long q2), .second, .val (.int p3), .val (.int p4), .val (.long q5), .second, .val (.int p6), .val (.int ((p3 &&& (2147483647 : Int32)) % (9 : Int32))), .unset, .unset, .unset, .unset, .unset, .unset, .unset, .unset] [(.int ((p3 &&& (2147483647 : Int32)) % (9 : Int32)))])) _
      simp only [if_neg hj7] at k
      exact k
  show OGot p.tables e below (s₁.setTop (mkF m 29 #[.val (.int p1), .val (.long q2), .second, .val (.int p3), .val (.int p4), .val (.long q5), .second, .val (.int p6), .val (.int ((p3 &&& (2147483647 : Int32)) % (9 : Int32))), .unset, .unset, .unset, .unset, .unset, .unset, .unset, .unset] [(.int (if (p6 &&& (2 : Int32)) = (0 : Int32) then (((p6.toUInt32 >>> ((8 : Int32) &&& 31).toUInt32).toInt32) % (9 : Int32)) else ((p3 &&& (2147483647 : Int32)) % (9 : Int32))))])) _
  refine OGot.go (fun t k => XS.istore X0.here hx rfl (hb hby at_29) rfl (l' := #[.val (.int p1), .val (.long q2), .second, .val (.int p3), .val (.int p4), .val (.long q5), .second, .val (.int p6), .val (.int ((p3 &&& (2147483647 : Int32)) % (9 : Int32))), .val (.int (if (p6 &&& (2 : Int32)) = (0 : Int32) then (((p6.toUInt32 >>> ((8 : Int32) &&& 31).toUInt32).toInt32) % (9 : Int32)) else ((p3 &&& (2147483647 : Int32)) % (9 : Int32)))), .unset, .unset, .unset, .unset, .unset, .unset, .unset]) rfl k) ?_
  show OGot p.tables e below (s₁.setTop (mkF m 31 #[.val (.int p1), .val (.long q2), .second, .val (.int p3), .val (.int p4), .val (.long q5), .second, .val (.int p6), .val (.int ((p3 &&& (2147483647 : Int32)) % (9 : Int32))), .val (.int (if (p6 &&& (2 : Int32)) = (0 : Int32) then (((p6.toUInt32 >>> ((8 : Int32) &&& 31).toUInt32).toInt32) % (9 : Int32)) else ((p3 &&& (2147483647 : Int32)) % (9 : Int32)))), .unset, .unset, .unset, .unset, .unset, .unset, .unset] [])) _
  refine OGot.go (fun t k => XS.iload X0.here hx rfl (hb hby at_31) rfl k) ?_
  show OGot p.tables e below (s₁.setTop (mkF m 33 #[.val (.int p1), .val (.long q2), .second, .val (.int p3), .val (.int p4), .val (.long q5), .second, .val (.int p6), .val (.int ((p3 &&& (2147483647 : Int32)) % (9 : Int32))), .val (.int (if (p6 &&& (2 : Int32)) = (0 : Int32) then (((p6.toUInt32 >>> ((8 : Int32) &&& 31).toUInt32).toInt32) % (9 : Int32)) else ((p3 &&& (2147483647 : Int32)) % (9 : Int32)))), .unset, .unset, .unset, .unset, .unset, .unset, .unset] [(.int p6)])) _
  refine OGot.go (fun t k => XS.iconst X0.here hx rfl (hb hby at_33) k) ?_
  show OGot p.tables e below (s₁.setTop (mkF m 34 #[.val (.int p1), .val (.long q2), .second, .val (.int p3), .val (.int p4), .val (.long q5), .second, .val (.int p6), .val (.int ((p3 &&& (2147483647 : Int32)) % (9 : Int32))), .val (.int (if (p6 &&& (2 : Int32)) = (0 : Int32) then (((p6.toUInt32 >>> ((8 : Int32) &&& 31).toUInt32).toInt32) % (9 : Int32)) else ((p3 &&& (2147483647 : Int32)) % (9 : Int32)))), .unset, .unset, .unset, .unset, .unset, .unset, .unset] [(.int (1 : Int32)), (.int p6)])) _
  refine OGot.go (fun t k => XS.iand X0.here hx rfl (hb hby at_34) rfl k) ?_
  show OGot p.tables e below (s₁.setTop (mkF m 35 #[.val (.int p1), .val (.long q2), .second, .val (.int p3), .val (.int p4), .val (.long q5), .second, .val (.int p6), .val (.int ((p3 &&& (2147483647 : Int32)) % (9 : Int32))), .val (.int (if (p6 &&& (2 : Int32)) = (0 : Int32) then (((p6.toUInt32 >>> ((8 : Int32) &&& 31).toUInt32).toInt32) % (9 : Int32)) else ((p3 &&& (2147483647 : Int32)) % (9 : Int32)))), .unset, .unset, .unset, .unset, .unset, .unset, .unset] [(.int (p6 &&& (1 : Int32)))])) _
  refine OGot.go (B := s₁.setTop (mkF m 44 #[.val (.int p1), .val (.long q2), .second, .val (.int p3), .val (.int p4), .val (.long q5), .second, .val (.int p6), .val (.int ((p3 &&& (2147483647 : Int32)) % (9 : Int32))), .val (.int (if (p6 &&& (2 : Int32)) = (0 : Int32) then (((p6.toUInt32 >>> ((8 : Int32) &&& 31).toUInt32).toInt32) % (9 : Int32)) else ((p3 &&& (2147483647 : Int32)) % (9 : Int32)))), .unset, .unset, .unset, .unset, .unset, .unset, .unset] [(.int (if (p6 &&& (1 : Int32)) = (0 : Int32) then p4 else p1))])) (fun t k => ?_) ?_
  · by_cases hj8 : (p6 &&& (1 : Int32)) = (0 : Int32)
    · refine XS.ifYes X0.here hx rfl (pc0 := 35) (pc' := 42) rfl (hb hby at_35) rfl ((if0 _ _).trans (teq hj8).1) (by decide) (by decide) ?_
      show Steps p.tables e below (s₁.setTop (mkF m 42 #[.val (.int p1), .val (.long q2), .second, .val (.int p3), .val (.int p4), .val (.long q5), .second, .val (.int p6), .val (.int ((p3 &&& (2147483647 : Int32)) % (9 : Int32))), .val (.int (if (p6 &&& (2 : Int32)) = (0 : Int32) then (((p6.toUInt32 >>> ((8 : Int32) &&& 31).toUInt32).toInt32) % (9 : Int32)) else ((p3 &&& (2147483647 : Int32)) % (9 : Int32)))), .unset, .unset, .unset, .unset, .unset, .unset, .unset] [])) _
      refine XS.iload X0.here hx rfl (hb hby at_42) rfl ?_
      show Steps p.tables e below (s₁.setTop (mkF m 44 #[.val (.int p1), .val (.long q2), .second, .val (.int p3), .val (.int p4), .val (.long q5), .second, .val (.int p6), .val (.int ((p3 &&& (2147483647 : Int32)) % (9 : Int32))), .val (.int (if (p6 &&& (2 : Int32)) = (0 : Int32) then (((p6.toUInt32 >>> ((8 : Int32) &&& 31).toUInt32).toInt32) % (9 : Int32)) else ((p3 &&& (2147483647 : Int32)) % (9 : Int32)))), .unset, .unset, .unset, .unset, .unset, .unset, .unset] [(.int p4)])) _
      simp only [if_pos hj8] at k
      exact k
    · refine XS.ifNo X0.here hx rfl (hb hby at_35) rfl ((if0 _ _).trans (feq hj8).1) ?_
      show Steps p.tables e below (s₁.setTop (mkF m 38 #[.val (.int p1), .val (.long q2), .second, .val (.int p3), .val (.int p4), .val (.long q5), .second, .val (.int p6), .val (.int ((p3 &&& (2147483647 : Int32)) % (9 : Int32))), .val (.int (if (p6 &&& (2 : Int32)) = (0 : Int32) then (((p6.toUInt32 >>> ((8 : Int32) &&& 31).toUInt32).toInt32) % (9 : Int32)) else ((p3 &&& (2147483647 : Int32)) % (9 : Int32)))), .unset, .unset, .unset, .unset, .unset, .unset, .unset] [])) _
      refine XS.iloadN X0.here hx rfl (hb hby at_38) rfl ?_
      show Steps p.tables e below (s₁.setTop (mkF m 39 #[.val (.int p1), .val (.long q2), .second, .val (.int p3), .val (.int p4), .val (.long q5), .second, .val (.int p6), .val (.int ((p3 &&& (2147483647 : Int32)) % (9 : Int32))), .val (.int (if (p6 &&& (2 : Int32)) = (0 : Int32) then (((p6.toUInt32 >>> ((8 : Int32) &&& 31).toUInt32).toInt32) % (9 : Int32)) else ((p3 &&& (2147483647 : Int32)) % (9 : Int32)))), .unset, .unset, .unset, .unset, .unset, .unset, .unset] [(.int p1)])) _
      refine XS.goto X0.here hx rfl (pc0 := 39) (pc' := 44) rfl (hb hby at_39) (by decide) (by decide) ?_
      show Steps p.tables e below (s₁.setTop (mkF m 44 #[.val (.int p1), .val (.long q2), .second, .val (.int p3), .val (.int p4), .val (.long q5), .second, .val (.int p6), .val (.int ((p3 &&& (2147483647 : Int32)) % (9 : Int32))), .val (.int (if (p6 &&& (2 : Int32)) = (0 : Int32) then (((p6.toUInt32 >>> ((8 : Int32) &&& 31).toUInt32).toInt32) % (9 : Int32)) else ((p3 &&& (2147483647 : Int32)) % (9 : Int32)))), .unset, .unset, .unset, .unset, .unset, .unset, .unset] [(.int p1)])) _
      simp only [if_neg hj8] at k
      exact k
  show OGot p.tables e below (s₁.setTop (mkF m 44 #[.val (.int p1), .val (.long q2), .second, .val (.int p3), .val (.int p4), .val (.long q5), .second, .val (.int p6), .val (.int ((p3 &&& (2147483647 : Int32)) % (9 : Int32))), .val (.int (if (p6 &&& (2 : Int32)) = (0 : Int32) then (((p6.toUInt32 >>> ((8 : Int32) &&& 31).toUInt32).toInt32) % (9 : Int32)) else ((p3 &&& (2147483647 : Int32)) % (9 : Int32)))), .unset, .unset, .unset, .unset, .unset, .unset, .unset] [(.int (if (p6 &&& (1 : Int32)) = (0 : Int32) then p4 else p1))])) _
  refine OGot.go (fun t k => XS.istore X0.here hx rfl (hb hby at_44) rfl (l' := #[.val (.int p1), .val (.long q2), .second, .val (.int p3), .val (.int p4), .val (.long q5), .second, .val (.int p6), .val (.int ((p3 &&& (2147483647 : Int32)) % (9 : Int32))), .val (.int (if (p6 &&& (2 : Int32)) = (0 : Int32) then (((p6.toUInt32 >>> ((8 : Int32) &&& 31).toUInt32).toInt32) % (9 : Int32)) else ((p3 &&& (2147483647 : Int32)) % (9 : Int32)))), .val (.int (if (p6 &&& (1 : Int32)) = (0 : Int32) then p4 else p1)), .unset, .unset, .unset, .unset, .unset, .unset]) rfl k) ?_
  show OGot p.tables e below (s₁.setTop (mkF m 46 #[.val (.int p1), .val (.long q2), .second, .val (.int p3), .val (.int p4), .val (.long q5), .second, .val (.int p6), .val (.int ((p3 &&& (2147483647 : Int32)) % (9 : Int32))), .val (.int (if (p6 &&& (2 : Int32)) = (0 : Int32) then (((p6.toUInt32 >>> ((8 : Int32) &&& 31).toUInt32).toInt32) % (9 : Int32)) else ((p3 &&& (2147483647 : Int32)) % (9 : Int32)))), .val (.int (if (p6 &&& (1 : Int32)) = (0 : Int32) then p4 else p1)), .unset, .unset, .unset, .unset, .unset, .unset] [])) _
  refine OGot.go (fun t k => XS.iload X0.here hx rfl (hb hby at_46) rfl k) ?_
  show OGot p.tables e below (s₁.setTop (mkF m 48 #[.val (.int p1), .val (.long q2), .second, .val (.int p3), .val (.int p4), .val (.long q5), .second, .val (.int p6), .val (.int ((p3 &&& (2147483647 : Int32)) % (9 : Int32))), .val (.int (if (p6 &&& (2 : Int32)) = (0 : Int32) then (((p6.toUInt32 >>> ((8 : Int32) &&& 31).toUInt32).toInt32) % (9 : Int32)) else ((p3 &&& (2147483647 : Int32)) % (9 : Int32)))), .val (.int (if (p6 &&& (1 : Int32)) = (0 : Int32) then p4 else p1)), .unset, .unset, .unset, .unset, .unset, .unset] [(.int p6)])) _
  refine OGot.go (fun t k => XS.iconst X0.here hx rfl (hb hby at_48) k) ?_
  show OGot p.tables e below (s₁.setTop (mkF m 49 #[.val (.int p1), .val (.long q2), .second, .val (.int p3), .val (.int p4), .val (.long q5), .second, .val (.int p6), .val (.int ((p3 &&& (2147483647 : Int32)) % (9 : Int32))), .val (.int (if (p6 &&& (2 : Int32)) = (0 : Int32) then (((p6.toUInt32 >>> ((8 : Int32) &&& 31).toUInt32).toInt32) % (9 : Int32)) else ((p3 &&& (2147483647 : Int32)) % (9 : Int32)))), .val (.int (if (p6 &&& (1 : Int32)) = (0 : Int32) then p4 else p1)), .unset, .unset, .unset, .unset, .unset, .unset] [(.int (4 : Int32)), (.int p6)])) _
  refine OGot.go (fun t k => XS.iand X0.here hx rfl (hb hby at_49) rfl k) ?_
  show OGot p.tables e below (s₁.setTop (mkF m 50 #[.val (.int p1), .val (.long q2), .second, .val (.int p3), .val (.int p4), .val (.long q5), .second, .val (.int p6), .val (.int ((p3 &&& (2147483647 : Int32)) % (9 : Int32))), .val (.int (if (p6 &&& (2 : Int32)) = (0 : Int32) then (((p6.toUInt32 >>> ((8 : Int32) &&& 31).toUInt32).toInt32) % (9 : Int32)) else ((p3 &&& (2147483647 : Int32)) % (9 : Int32)))), .val (.int (if (p6 &&& (1 : Int32)) = (0 : Int32) then p4 else p1)), .unset, .unset, .unset, .unset, .unset, .unset] [(.int (p6 &&& (4 : Int32)))])) _
  refine OGot.go (B := s₁.setTop (mkF m 59 #[.val (.int p1), .val (.long q2), .second, .val (.int p3), .val (.int p4), .val (.long q5), .second, .val (.int p6), .val (.int ((p3 &&& (2147483647 : Int32)) % (9 : Int32))), .val (.int (if (p6 &&& (2 : Int32)) = (0 : Int32) then (((p6.toUInt32 >>> ((8 : Int32) &&& 31).toUInt32).toInt32) % (9 : Int32)) else ((p3 &&& (2147483647 : Int32)) % (9 : Int32)))), .val (.int (if (p6 &&& (1 : Int32)) = (0 : Int32) then p4 else p1)), .unset, .unset, .unset, .unset, .unset, .unset] [(.long (if (p6 &&& (4 : Int32)) = (0 : Int32) then q5 else q2))])) (fun t k => ?_) ?_
  · by_cases hj9 : (p6 &&& (4 : Int32)) = (0 : Int32)
    · refine XS.ifYes X0.here hx rfl (pc0 := 50) (pc' := 57) rfl (hb hby at_50) rfl ((if0 _ _).trans (teq hj9).1) (by decide) (by decide) ?_
      show Steps p.tables e below (s₁.setTop (mkF m 57 #[.val (.int p1), .val (.long q2), .second, .val (.int p3), .val (.int p4), .val (.long q5), .second, .val (.int p6), .val (.int ((p3 &&& (2147483647 : Int32)) % (9 : Int32))), .val (.int (if (p6 &&& (2 : Int32)) = (0 : Int32) then (((p6.toUInt32 >>> ((8 : Int32) &&& 31).toUInt32).toInt32) % (9 : Int32)) else ((p3 &&& (2147483647 : Int32)) % (9 : Int32)))), .val (.int (if (p6 &&& (1 : Int32)) = (0 : Int32) then p4 else p1)), .unset, .unset, .unset, .unset, .unset, .unset] [])) _
      refine XS.lload X0.here hx rfl (hb hby at_57) rfl ?_
      show Steps p.tables e below (s₁.setTop (mkF m 59 #[.val (.int p1), .val (.long q2), .second, .val (.int p3), .val (.int p4), .val (.long q5), .second, .val (.int p6), .val (.int ((p3 &&& (2147483647 : Int32)) % (9 : Int32))), .val (.int (if (p6 &&& (2 : Int32)) = (0 : Int32) then (((p6.toUInt32 >>> ((8 : Int32) &&& 31).toUInt32).toInt32) % (9 : Int32)) else ((p3 &&& (2147483647 : Int32)) % (9 : Int32)))), .val (.int (if (p6 &&& (1 : Int32)) = (0 : Int32) then p4 else p1)), .unset, .unset, .unset, .unset, .unset, .unset] [(.long q5)])) _
      simp only [if_pos hj9] at k
      exact k
    · refine XS.ifNo X0.here hx rfl (hb hby at_50) rfl ((if0 _ _).trans (feq hj9).1) ?_
      show Steps p.tables e below (s₁.setTop (mkF m 53 #[.val (.int p1), .val (.long q2), .second, .val (.int p3), .val (.int p4), .val (.long q5), .second, .val (.int p6), .val (.int ((p3 &&& (2147483647 : Int32)) % (9 : Int32))), .val (.int (if (p6 &&& (2 : Int32)) = (0 : Int32) then (((p6.toUInt32 >>> ((8 : Int32) &&& 31).toUInt32).toInt32) % (9 : Int32)) else ((p3 &&& (2147483647 : Int32)) % (9 : Int32)))), .val (.int (if (p6 &&& (1 : Int32)) = (0 : Int32) then p4 else p1)), .unset, .unset, .unset, .unset, .unset, .unset] [])) _
      refine XS.lloadN X0.here hx rfl (hb hby at_53) rfl ?_
      show Steps p.tables e below (s₁.setTop (mkF m 54 #[.val (.int p1), .val (.long q2), .second, .val (.int p3), .val (.int p4), .val (.long q5), .second, .val (.int p6), .val (.int ((p3 &&& (2147483647 : Int32)) % (9 : Int32))), .val (.int (if (p6 &&& (2 : Int32)) = (0 : Int32) then (((p6.toUInt32 >>> ((8 : Int32) &&& 31).toUInt32).toInt32) % (9 : Int32)) else ((p3 &&& (2147483647 : Int32)) % (9 : Int32)))), .val (.int (if (p6 &&& (1 : Int32)) = (0 : Int32) then p4 else p1)), .unset, .unset, .unset, .unset, .unset, .unset] [(.long q2)])) _
      refine XS.goto X0.here hx rfl (pc0 := 54) (pc' := 59) rfl (hb hby at_54) (by decide) (by decide) ?_
      show Steps p.tables e below (s₁.setTop (mkF m 59 #[.val (.int p1), .val (.long q2), .second, .val (.int p3), .val (.int p4), .val (.long q5), .second, .val (.int p6), .val (.int ((p3 &&& (2147483647 : Int32)) % (9 : Int32))), .val (.int (if (p6 &&& (2 : Int32)) = (0 : Int32) then (((p6.toUInt32 >>> ((8 : Int32) &&& 31).toUInt32).toInt32) % (9 : Int32)) else ((p3 &&& (2147483647 : Int32)) % (9 : Int32)))), .val (.int (if (p6 &&& (1 : Int32)) = (0 : Int32) then p4 else p1)), .unset, .unset, .unset, .unset, .unset, .unset] [(.long q2)])) _
      simp only [if_neg hj9] at k
      exact k
  show OGot p.tables e below (s₁.setTop (mkF m 59 #[.val (.int p1), .val (.long q2), .second, .val (.int p3), .val (.int p4), .val (.long q5), .second, .val (.int p6), .val (.int ((p3 &&& (2147483647 : Int32)) % (9 : Int32))), .val (.int (if (p6 &&& (2 : Int32)) = (0 : Int32) then (((p6.toUInt32 >>> ((8 : Int32) &&& 31).toUInt32).toInt32) % (9 : Int32)) else ((p3 &&& (2147483647 : Int32)) % (9 : Int32)))), .val (.int (if (p6 &&& (1 : Int32)) = (0 : Int32) then p4 else p1)), .unset, .unset, .unset, .unset, .unset, .unset] [(.long (if (p6 &&& (4 : Int32)) = (0 : Int32) then q5 else q2))])) _
  refine OGot.go (fun t k => XS.lstore X0.here hx rfl (hb hby at_59) rfl (l' := #[.val (.int p1), .val (.long q2), .second, .val (.int p3), .val (.int p4), .val (.long q5), .second, .val (.int p6), .val (.int ((p3 &&& (2147483647 : Int32)) % (9 : Int32))), .val (.int (if (p6 &&& (2 : Int32)) = (0 : Int32) then (((p6.toUInt32 >>> ((8 : Int32) &&& 31).toUInt32).toInt32) % (9 : Int32)) else ((p3 &&& (2147483647 : Int32)) % (9 : Int32)))), .val (.int (if (p6 &&& (1 : Int32)) = (0 : Int32) then p4 else p1)), .val (.long (if (p6 &&& (4 : Int32)) = (0 : Int32) then q5 else q2)), .second, .unset, .unset, .unset, .unset]) rfl k) ?_
  show OGot p.tables e below (s₁.setTop (mkF m 61 #[.val (.int p1), .val (.long q2), .second, .val (.int p3), .val (.int p4), .val (.long q5), .second, .val (.int p6), .val (.int ((p3 &&& (2147483647 : Int32)) % (9 : Int32))), .val (.int (if (p6 &&& (2 : Int32)) = (0 : Int32) then (((p6.toUInt32 >>> ((8 : Int32) &&& 31).toUInt32).toInt32) % (9 : Int32)) else ((p3 &&& (2147483647 : Int32)) % (9 : Int32)))), .val (.int (if (p6 &&& (1 : Int32)) = (0 : Int32) then p4 else p1)), .val (.long (if (p6 &&& (4 : Int32)) = (0 : Int32) then q5 else q2)), .second, .unset, .unset, .unset, .unset] [])) _
  obtain ⟨T10, h10, X10, e10, E10, A10, D10, -, st10⟩ := newO X0 hx hZ hown (ow hw 1 rfl) (ow hw 2 rfl) (ow hw 3 rfl) e0 (g := (mkF m 61 #[.val (.int p1), .val (.long q2), .second, .val (.int p3), .val (.int p4), .val (.long q5), .second, .val (.int p6), .val (.int ((p3 &&& (2147483647 : Int32)) % (9 : Int32))), .val (.int (if (p6 &&& (2 : Int32)) = (0 : Int32) then (((p6.toUInt32 >>> ((8 : Int32) &&& 31).toUInt32).toInt32) % (9 : Int32)) else ((p3 &&& (2147483647 : Int32)) % (9 : Int32)))), .val (.int (if (p6 &&& (1 : Int32)) = (0 : Int32) then p4 else p1)), .val (.long (if (p6 &&& (4 : Int32)) = (0 : Int32) then q5 else q2)), .second, .unset, .unset, .unset, .unset] [])) rfl (hb hby at_61) (by decide) (by decide)
  obtain ⟨b10, g10⟩ : ∃ z, z = h0.size := ⟨_, rfl⟩
  rw [← g10] at A10 D10 st10
  refine OGot.go st10 ?_
  have g_b10 : n0 ≤ b10 := Nat.le_trans (osz O0) (Nat.le_of_eq g10.symm)
  have sy_b10 : h0.size ≤ b10 := Nat.le_of_eq g10.symm
  have O10 := O0.ext E10
  have F10_symbol : Fld Z h10 b10 "com/example/muster/muster/analysis/Value$Symbolic" "symbol" "I" (.int (0 : Int32)) := D10 (Or.inr (ow hw 23 rfl)) (ty := .int) (by decide)
  have F10_offset : Fld Z h10 b10 "com/example/muster/muster/analysis/Value$Symbolic" "offset" "J" (.long (0 : Int64)) := D10 (Or.inr (ow hw 25 rfl)) (ty := .long) (by decide)
  have F10_type : Fld Z h10 b10 "com/example/muster/muster/analysis/Value$Symbolic" "type" "Lcom/example/muster/muster/model/IntegerType;" .null := D10 (Or.inr (ow hw 27 rfl)) (ty := (.object "com/example/muster/muster/model/IntegerType")) (by decide)
  show OGot p.tables e below (T10.setTop (mkF m 64 #[.val (.int p1), .val (.long q2), .second, .val (.int p3), .val (.int p4), .val (.long q5), .second, .val (.int p6), .val (.int ((p3 &&& (2147483647 : Int32)) % (9 : Int32))), .val (.int (if (p6 &&& (2 : Int32)) = (0 : Int32) then (((p6.toUInt32 >>> ((8 : Int32) &&& 31).toUInt32).toInt32) % (9 : Int32)) else ((p3 &&& (2147483647 : Int32)) % (9 : Int32)))), .val (.int (if (p6 &&& (1 : Int32)) = (0 : Int32) then p4 else p1)), .val (.long (if (p6 &&& (4 : Int32)) = (0 : Int32) then q5 else q2)), .second, .unset, .unset, .unset, .unset] [(.ref b10)])) _
  refine OGot.go (fun t k => XS.dup X10.here hx rfl (hb hby at_64) rfl rfl k) ?_
  show OGot p.tables e below (T10.setTop (mkF m 65 #[.val (.int p1), .val (.long q2), .second, .val (.int p3), .val (.int p4), .val (.long q5), .second, .val (.int p6), .val (.int ((p3 &&& (2147483647 : Int32)) % (9 : Int32))), .val (.int (if (p6 &&& (2 : Int32)) = (0 : Int32) then (((p6.toUInt32 >>> ((8 : Int32) &&& 31).toUInt32).toInt32) % (9 : Int32)) else ((p3 &&& (2147483647 : Int32)) % (9 : Int32)))), .val (.int (if (p6 &&& (1 : Int32)) = (0 : Int32) then p4 else p1)), .val (.long (if (p6 &&& (4 : Int32)) = (0 : Int32) then q5 else q2)), .second, .unset, .unset, .unset, .unset] [(.ref b10), (.ref b10)])) _
  refine OGot.go (fun t k => XS.iloadN X10.here hx rfl (hb hby at_65) rfl k) ?_
  show OGot p.tables e below (T10.setTop (mkF m 66 #[.val (.int p1), .val (.long q2), .second, .val (.int p3), .val (.int p4), .val (.long q5), .second, .val (.int p6), .val (.int ((p3 &&& (2147483647 : Int32)) % (9 : Int32))), .val (.int (if (p6 &&& (2 : Int32)) = (0 : Int32) then (((p6.toUInt32 >>> ((8 : Int32) &&& 31).toUInt32).toInt32) % (9 : Int32)) else ((p3 &&& (2147483647 : Int32)) % (9 : Int32)))), .val (.int (if (p6 &&& (1 : Int32)) = (0 : Int32) then p4 else p1)), .val (.long (if (p6 &&& (4 : Int32)) = (0 : Int32) then q5 else q2)), .second, .unset, .unset, .unset, .unset] [(.int p1), (.ref b10), (.ref b10)])) _
  refine OGot.go (fun t k => XS.lloadN X10.here hx rfl (hb hby at_66) rfl k) ?_
  show OGot p.tables e below (T10.setTop (mkF m 67 #[.val (.int p1), .val (.long q2), .second, .val (.int p3), .val (.int p4), .val (.long q5), .second, .val (.int p6), .val (.int ((p3 &&& (2147483647 : Int32)) % (9 : Int32))), .val (.int (if (p6 &&& (2 : Int32)) = (0 : Int32) then (((p6.toUInt32 >>> ((8 : Int32) &&& 31).toUInt32).toInt32) % (9 : Int32)) else ((p3 &&& (2147483647 : Int32)) % (9 : Int32)))), .val (.int (if (p6 &&& (1 : Int32)) = (0 : Int32) then p4 else p1)), .val (.long (if (p6 &&& (4 : Int32)) = (0 : Int32) then q5 else q2)), .second, .unset, .unset, .unset, .unset] [(.long q2), (.int p1), (.ref b10), (.ref b10)])) _
  refine OGot.go (fun t k => XS.iload X10.here hx rfl (hb hby at_67) rfl k) ?_
  show OGot p.tables e below (T10.setTop (mkF m 69 #[.val (.int p1), .val (.long q2), .second, .val (.int p3), .val (.int p4), .val (.long q5), .second, .val (.int p6), .val (.int ((p3 &&& (2147483647 : Int32)) % (9 : Int32))), .val (.int (if (p6 &&& (2 : Int32)) = (0 : Int32) then (((p6.toUInt32 >>> ((8 : Int32) &&& 31).toUInt32).toInt32) % (9 : Int32)) else ((p3 &&& (2147483647 : Int32)) % (9 : Int32)))), .val (.int (if (p6 &&& (1 : Int32)) = (0 : Int32) then p4 else p1)), .val (.long (if (p6 &&& (4 : Int32)) = (0 : Int32) then q5 else q2)), .second, .unset, .unset, .unset, .unset] [(.int ((p3 &&& (2147483647 : Int32)) % (9 : Int32))), (.long q2), (.int p1), (.ref b10), (.ref b10)])) _
  obtain ⟨_, _, ⟨T11, L11, k11, n11⟩, -, X11, ⟨Lc11, hQ11, l11, y11, z11⟩, st11⟩ := Jvm.LawKit.callS X10 hx (y := (⟨"com/example/muster/muster/analysis/SymbolicEqualsPinLaw", "type", "(I)Lcom/example/muster/muster/model/IntegerType;"⟩ : MethodName)) hown (mvT hZ (ow hw 4 rfl)) (mvT hZ (ow hw 5 rfl)) (mvT hZ (ow hw 6 rfl)) (mvT hZ (ow hw 7 rfl)) (by decide) (backOf (W := 5) (rm1 l Z a0 hw [] G ((p3 &&& (2147483647 : Int32)) % (9 : Int32)) h10 n0 O10 ) hZ (ow hw 7 rfl) (ow hw 6 rfl) (by decide) (by decide)) (g := (mkF m 69 #[.val (.int p1), .val (.long q2), .second, .val (.int p3), .val (.int p4), .val (.long q5), .second, .val (.int p6), .val (.int ((p3 &&& (2147483647 : Int32)) % (9 : Int32))), .val (.int (if (p6 &&& (2 : Int32)) = (0 : Int32) then (((p6.toUInt32 >>> ((8 : Int32) &&& 31).toUInt32).toInt32) % (9 : Int32)) else ((p3 &&& (2147483647 : Int32)) % (9 : Int32)))), .val (.int (if (p6 &&& (1 : Int32)) = (0 : Int32) then p4 else p1)), .val (.long (if (p6 &&& (4 : Int32)) = (0 : Int32) then q5 else q2)), .second, .unset, .unset, .unset, .unset] [(.int ((p3 &&& (2147483647 : Int32)) % (9 : Int32))), (.long q2), (.int p1), (.ref b10), (.ref b10)])) rfl (by rw [hml]; rfl) (argsL := [(.int ((p3 &&& (2147483647 : Int32)) % (9 : Int32)))]) (rest := [(.long q2), (.int p1), (.ref b10), (.ref b10)]) (lenOf pd_0 rfl) rfl (by show 2 * 0 + _ ≤ _; exact Nat.le_of_eq rfl) (hb hby at_69) (fun _ _ => ⟨rfl, e10, (by decide : 1 + 0 ≤ _), (by decide : 3 + 0 ≤ _)⟩)
  dsimp only [Pt.U, Pt.locs, Pt.cells, Pt.slots] at X11 l11 y11 z11 st11 hQ11
  subst l11 y11 z11
  obtain ⟨rfl, N11q, e11, Rf11_0, Rf11_1⟩ := hQ11
  have N11 := Fr.app N0 N11q
  refine OGot.go st11 ?_
  show OGot p.tables e below (T11.setTop (mkF m 72 #[.val (.int p1), .val (.long q2), .second, .val (.int p3), .val (.int p4), .val (.long q5), .second, .val (.int p6), .val (.int ((p3 &&& (2147483647 : Int32)) % (9 : Int32))), .val (.int (if (p6 &&& (2 : Int32)) = (0 : Int32) then (((p6.toUInt32 >>> ((8 : Int32) &&& 31).toUInt32).toInt32) % (9 : Int32)) else ((p3 &&& (2147483647 : Int32)) % (9 : Int32)))), .val (.int (if (p6 &&& (1 : Int32)) = (0 : Int32) then p4 else p1)), .val (.long (if (p6 &&& (4 : Int32)) = (0 : Int32) then q5 else q2)), .second, .unset, .unset, .unset, .unset] [(.ref (f1 w_INT8 w_UINT8 w_BOOL w_UINT16 w_UINT64 w_UINT32 w_INT32 w_INT16 w_INT64 ((p3 &&& (2147483647 : Int32)) % (9 : Int32)))), (.long q2), (.int p1), (.ref b10), (.ref b10)])) _
  obtain ⟨_, _, ⟨T12, L12, k12, n12⟩, -, X12, ⟨Lc12, hQ12, l12, y12, z12⟩, st12⟩ := X11.specialBack hx (y := (⟨"com/example/muster/muster/analysis/Value$Symbolic", "<init>", "(IJLcom/example/muster/muster/model/IntegerType;)V"⟩ : MethodName)) rfl hown (mvT hZ (ow hw 11 rfl)) (mvT hZ (ow hw 12 rfl)) (mvT hZ (ow hw 13 rfl)) (by decide) (backOf (W := 1) (rm2 l Z a0 hw [] G b10 p1 q2 (f1 w_INT8 w_UINT8 w_BOOL w_UINT16 w_UINT64 w_UINT32 w_INT32 w_INT16 w_INT64 ((p3 &&& (2147483647 : Int32)) % (9 : Int32))) h10 n0 O10 A10 F10_symbol g_b10 F10_offset F10_type) hZ (ow hw 13 rfl) (ow hw 3 rfl) (by decide) (by decide)) (g := (mkF m 72 #[.val (.int p1), .val (.long q2), .second, .val (.int p3), .val (.int p4), .val (.long q5), .second, .val (.int p6), .val (.int ((p3 &&& (2147483647 : Int32)) % (9 : Int32))), .val (.int (if (p6 &&& (2 : Int32)) = (0 : Int32) then (((p6.toUInt32 >>> ((8 : Int32) &&& 31).toUInt32).toInt32) % (9 : Int32)) else ((p3 &&& (2147483647 : Int32)) % (9 : Int32)))), .val (.int (if (p6 &&& (1 : Int32)) = (0 : Int32) then p4 else p1)), .val (.long (if (p6 &&& (4 : Int32)) = (0 : Int32) then q5 else q2)), .second, .unset, .unset, .unset, .unset] [(.ref (f1 w_INT8 w_UINT8 w_BOOL w_UINT16 w_UINT64 w_UINT32 w_INT32 w_INT16 w_INT64 ((p3 &&& (2147483647 : Int32)) % (9 : Int32)))), (.long q2), (.int p1), (.ref b10), (.ref b10)])) rfl (by rw [hml]; rfl) (Steps.refl _) (a := b10) (argsL := [(.int p1), (.long q2), (.ref (f1 w_INT8 w_UINT8 w_BOOL w_UINT16 w_UINT64 w_UINT32 w_INT32 w_INT16 w_INT64 ((p3 &&& (2147483647 : Int32)) % (9 : Int32))))]) (rest := [(.ref b10)]) (lenOf pd_2 rfl) rfl (by show 2 * 0 + _ ≤ _; exact Nat.le_of_eq rfl) (hb hby at_72) (fun _ _ => ⟨rfl, e11, (by decide : 1 + 0 ≤ _), (by decide : 3 + 0 ≤ _)⟩)
  dsimp only [Pt.U, Pt.locs, Pt.cells, Pt.slots] at X12 l12 y12 z12 st12 hQ12
  subst l12 y12 z12
  obtain ⟨N12q, rfl, K12, Fo12_0, Fo12_1, Fo12_2⟩ := hQ12
  have O12 := OKeep.old O10 K12 (ogeS g_b10 (ogeS g_b10 (ogeS g_b10 oge0)))
  have N12 := Fr.app N11 N12q
  refine OGot.on st12 ?_
  show OGot p.tables e below (T12.setTop (mkF m 75 #[.val (.int p1), .val (.long q2), .second, .val (.int p3), .val (.int p4), .val (.long q5), .second, .val (.int p6), .val (.int ((p3 &&& (2147483647 : Int32)) % (9 : Int32))), .val (.int (if (p6 &&& (2 : Int32)) = (0 : Int32) then (((p6.toUInt32 >>> ((8 : Int32) &&& 31).toUInt32).toInt32) % (9 : Int32)) else ((p3 &&& (2147483647 : Int32)) % (9 : Int32)))), .val (.int (if (p6 &&& (1 : Int32)) = (0 : Int32) then p4 else p1)), .val (.long (if (p6 &&& (4 : Int32)) = (0 : Int32) then q5 else q2)), .second, .unset, .unset, .unset, .unset] [(.ref b10)])) _
  refine OGot.go (fun t k => XS.astore X12.here hx rfl (hb hby at_75) rfl rfl (l' := #[.val (.int p1), .val (.long q2), .second, .val (.int p3), .val (.int p4), .val (.long q5), .second, .val (.int p6), .val (.int ((p3 &&& (2147483647 : Int32)) % (9 : Int32))), .val (.int (if (p6 &&& (2 : Int32)) = (0 : Int32) then (((p6.toUInt32 >>> ((8 : Int32) &&& 31).toUInt32).toInt32) % (9 : Int32)) else ((p3 &&& (2147483647 : Int32)) % (9 : Int32)))), .val (.int (if (p6 &&& (1 : Int32)) = (0 : Int32) then p4 else p1)), .val (.long (if (p6 &&& (4 : Int32)) = (0 : Int32) then q5 else q2)), .second, .val (.ref b10), .unset, .unset, .unset]) rfl k) ?_
  show OGot p.tables e below (T12.setTop (mkF m 77 #[.val (.int p1), .val (.long q2), .second, .val (.int p3), .val (.int p4), .val (.long q5), .second, .val (.int p6), .val (.int ((p3 &&& (2147483647 : Int32)) % (9 : Int32))), .val (.int (if (p6 &&& (2 : Int32)) = (0 : Int32) then (((p6.toUInt32 >>> ((8 : Int32) &&& 31).toUInt32).toInt32) % (9 : Int32)) else ((p3 &&& (2147483647 : Int32)) % (9 : Int32)))), .val (.int (if (p6 &&& (1 : Int32)) = (0 : Int32) then p4 else p1)), .val (.long (if (p6 &&& (4 : Int32)) = (0 : Int32) then q5 else q2)), .second, .val (.ref b10), .unset, .unset, .unset] [])) _
  refine OGot.go (fun t k => XS.iload X12.here hx rfl (hb hby at_77) rfl k) ?_
  show OGot p.tables e below (T12.setTop (mkF m 79 #[.val (.int p1), .val (.long q2), .second, .val (.int p3), .val (.int p4), .val (.long q5), .second, .val (.int p6), .val (.int ((p3 &&& (2147483647 : Int32)) % (9 : Int32))), .val (.int (if (p6 &&& (2 : Int32)) = (0 : Int32) then (((p6.toUInt32 >>> ((8 : Int32) &&& 31).toUInt32).toInt32) % (9 : Int32)) else ((p3 &&& (2147483647 : Int32)) % (9 : Int32)))), .val (.int (if (p6 &&& (1 : Int32)) = (0 : Int32) then p4 else p1)), .val (.long (if (p6 &&& (4 : Int32)) = (0 : Int32) then q5 else q2)), .second, .val (.ref b10), .unset, .unset, .unset] [(.int p6)])) _
  refine OGot.go (fun t k => XS.iconst X12.here hx rfl (hb hby at_79) k) ?_
  show OGot p.tables e below (T12.setTop (mkF m 80 #[.val (.int p1), .val (.long q2), .second, .val (.int p3), .val (.int p4), .val (.long q5), .second, .val (.int p6), .val (.int ((p3 &&& (2147483647 : Int32)) % (9 : Int32))), .val (.int (if (p6 &&& (2 : Int32)) = (0 : Int32) then (((p6.toUInt32 >>> ((8 : Int32) &&& 31).toUInt32).toInt32) % (9 : Int32)) else ((p3 &&& (2147483647 : Int32)) % (9 : Int32)))), .val (.int (if (p6 &&& (1 : Int32)) = (0 : Int32) then p4 else p1)), .val (.long (if (p6 &&& (4 : Int32)) = (0 : Int32) then q5 else q2)), .second, .val (.ref b10), .unset, .unset, .unset] [(.int (5 : Int32)), (.int p6)])) _
  refine OGot.go (fun t k => XS.iushr X12.here hx rfl (hb hby at_80) rfl k) ?_
  show OGot p.tables e below (T12.setTop (mkF m 81 #[.val (.int p1), .val (.long q2), .second, .val (.int p3), .val (.int p4), .val (.long q5), .second, .val (.int p6), .val (.int ((p3 &&& (2147483647 : Int32)) % (9 : Int32))), .val (.int (if (p6 &&& (2 : Int32)) = (0 : Int32) then (((p6.toUInt32 >>> ((8 : Int32) &&& 31).toUInt32).toInt32) % (9 : Int32)) else ((p3 &&& (2147483647 : Int32)) % (9 : Int32)))), .val (.int (if (p6 &&& (1 : Int32)) = (0 : Int32) then p4 else p1)), .val (.long (if (p6 &&& (4 : Int32)) = (0 : Int32) then q5 else q2)), .second, .val (.ref b10), .unset, .unset, .unset] [(.int ((p6.toUInt32 >>> ((5 : Int32) &&& 31).toUInt32).toInt32))])) _
  refine OGot.go (fun t k => XS.iconst X12.here hx rfl (hb hby at_81) k) ?_
  show OGot p.tables e below (T12.setTop (mkF m 82 #[.val (.int p1), .val (.long q2), .second, .val (.int p3), .val (.int p4), .val (.long q5), .second, .val (.int p6), .val (.int ((p3 &&& (2147483647 : Int32)) % (9 : Int32))), .val (.int (if (p6 &&& (2 : Int32)) = (0 : Int32) then (((p6.toUInt32 >>> ((8 : Int32) &&& 31).toUInt32).toInt32) % (9 : Int32)) else ((p3 &&& (2147483647 : Int32)) % (9 : Int32)))), .val (.int (if (p6 &&& (1 : Int32)) = (0 : Int32) then p4 else p1)), .val (.long (if (p6 &&& (4 : Int32)) = (0 : Int32) then q5 else q2)), .second, .val (.ref b10), .unset, .unset, .unset] [(.int (3 : Int32)), (.int ((p6.toUInt32 >>> ((5 : Int32) &&& 31).toUInt32).toInt32))])) _
  refine OGot.go (fun t k => XS.iand X12.here hx rfl (hb hby at_82) rfl k) ?_
  show OGot p.tables e below (T12.setTop (mkF m 83 #[.val (.int p1), .val (.long q2), .second, .val (.int p3), .val (.int p4), .val (.long q5), .second, .val (.int p6), .val (.int ((p3 &&& (2147483647 : Int32)) % (9 : Int32))), .val (.int (if (p6 &&& (2 : Int32)) = (0 : Int32) then (((p6.toUInt32 >>> ((8 : Int32) &&& 31).toUInt32).toInt32) % (9 : Int32)) else ((p3 &&& (2147483647 : Int32)) % (9 : Int32)))), .val (.int (if (p6 &&& (1 : Int32)) = (0 : Int32) then p4 else p1)), .val (.long (if (p6 &&& (4 : Int32)) = (0 : Int32) then q5 else q2)), .second, .val (.ref b10), .unset, .unset, .unset] [(.int (((p6.toUInt32 >>> ((5 : Int32) &&& 31).toUInt32).toInt32) &&& (3 : Int32)))])) _
  refine OGot.go (fun t k => XS.istore X12.here hx rfl (hb hby at_83) rfl (l' := #[.val (.int p1), .val (.long q2), .second, .val (.int p3), .val (.int p4), .val (.long q5), .second, .val (.int p6), .val (.int ((p3 &&& (2147483647 : Int32)) % (9 : Int32))), .val (.int (if (p6 &&& (2 : Int32)) = (0 : Int32) then (((p6.toUInt32 >>> ((8 : Int32) &&& 31).toUInt32).toInt32) % (9 : Int32)) else ((p3 &&& (2147483647 : Int32)) % (9 : Int32)))), .val (.int (if (p6 &&& (1 : Int32)) = (0 : Int32) then p4 else p1)), .val (.long (if (p6 &&& (4 : Int32)) = (0 : Int32) then q5 else q2)), .second, .val (.ref b10), .val (.int (((p6.toUInt32 >>> ((5 : Int32) &&& 31).toUInt32).toInt32) &&& (3 : Int32))), .unset, .unset]) rfl k) ?_
  show OGot p.tables e below (T12.setTop (mkF m 85 #[.val (.int p1), .val (.long q2), .second, .val (.int p3), .val (.int p4), .val (.long q5), .second, .val (.int p6), .val (.int ((p3 &&& (2147483647 : Int32)) % (9 : Int32))), .val (.int (if (p6 &&& (2 : Int32)) = (0 : Int32) then (((p6.toUInt32 >>> ((8 : Int32) &&& 31).toUInt32).toInt32) % (9 : Int32)) else ((p3 &&& (2147483647 : Int32)) % (9 : Int32)))), .val (.int (if (p6 &&& (1 : Int32)) = (0 : Int32) then p4 else p1)), .val (.long (if (p6 &&& (4 : Int32)) = (0 : Int32) then q5 else q2)), .second, .val (.ref b10), .val (.int (((p6.toUInt32 >>> ((5 : Int32) &&& 31).toUInt32).toInt32) &&& (3 : Int32))), .unset, .unset] [])) _
  refine OGot.go (fun t k => XS.iload X12.here hx rfl (hb hby at_85) rfl k) ?_
  show OGot p.tables e below (T12.setTop (mkF m 87 #[.val (.int p1), .val (.long q2), .second, .val (.int p3), .val (.int p4), .val (.long q5), .second, .val (.int p6), .val (.int ((p3 &&& (2147483647 : Int32)) % (9 : Int32))), .val (.int (if (p6 &&& (2 : Int32)) = (0 : Int32) then (((p6.toUInt32 >>> ((8 : Int32) &&& 31).toUInt32).toInt32) % (9 : Int32)) else ((p3 &&& (2147483647 : Int32)) % (9 : Int32)))), .val (.int (if (p6 &&& (1 : Int32)) = (0 : Int32) then p4 else p1)), .val (.long (if (p6 &&& (4 : Int32)) = (0 : Int32) then q5 else q2)), .second, .val (.ref b10), .val (.int (((p6.toUInt32 >>> ((5 : Int32) &&& 31).toUInt32).toInt32) &&& (3 : Int32))), .unset, .unset] [(.int (((p6.toUInt32 >>> ((5 : Int32) &&& 31).toUInt32).toInt32) &&& (3 : Int32)))])) _
  rcases own_and3 ((p6.toUInt32 >>> ((5 : Int32) &&& 31).toUInt32).toInt32) with hk13 | hk14 | hk15 | hk16
  · rw [hk13]
    show OGot p.tables e below (T12.setTop (mkF m 87 #[.val (.int p1), .val (.long q2), .second, .val (.int p3), .val (.int p4), .val (.long q5), .second, .val (.int p6), .val (.int ((p3 &&& (2147483647 : Int32)) % (9 : Int32))), .val (.int (if (p6 &&& (2 : Int32)) = (0 : Int32) then (((p6.toUInt32 >>> ((8 : Int32) &&& 31).toUInt32).toInt32) % (9 : Int32)) else ((p3 &&& (2147483647 : Int32)) % (9 : Int32)))), .val (.int (if (p6 &&& (1 : Int32)) = (0 : Int32) then p4 else p1)), .val (.long (if (p6 &&& (4 : Int32)) = (0 : Int32) then q5 else q2)), .second, .val (.ref b10), .val (.int (0 : Int32)), .unset, .unset] [(.int (0 : Int32))])) _
    refine OGot.go (fun t k => XS.iconst X12.here hx rfl (hb hby at_87) k) ?_
    show OGot p.tables e below (T12.setTop (mkF m 88 #[.val (.int p1), .val (.long q2), .second, .val (.int p3), .val (.int p4), .val (.long q5), .second, .val (.int p6), .val (.int ((p3 &&& (2147483647 : Int32)) % (9 : Int32))), .val (.int (if (p6 &&& (2 : Int32)) = (0 : Int32) then (((p6.toUInt32 >>> ((8 : Int32) &&& 31).toUInt32).toInt32) % (9 : Int32)) else ((p3 &&& (2147483647 : Int32)) % (9 : Int32)))), .val (.int (if (p6 &&& (1 : Int32)) = (0 : Int32) then p4 else p1)), .val (.long (if (p6 &&& (4 : Int32)) = (0 : Int32) then q5 else q2)), .second, .val (.ref b10), .val (.int (0 : Int32)), .unset, .unset] [(.int (1 : Int32)), (.int (0 : Int32))])) _
    refine OGot.go (fun t k => XS.icmpYes X12.here hx rfl (pc0 := 88) (pc' := 106) rfl (hb hby at_88) rfl (by decide) (by decide) (by decide) k) ?_
    show OGot p.tables e below (T12.setTop (mkF m 106 #[.val (.int p1), .val (.long q2), .second, .val (.int p3), .val (.int p4), .val (.long q5), .second, .val (.int p6), .val (.int ((p3 &&& (2147483647 : Int32)) % (9 : Int32))), .val (.int (if (p6 &&& (2 : Int32)) = (0 : Int32) then (((p6.toUInt32 >>> ((8 : Int32) &&& 31).toUInt32).toInt32) % (9 : Int32)) else ((p3 &&& (2147483647 : Int32)) % (9 : Int32)))), .val (.int (if (p6 &&& (1 : Int32)) = (0 : Int32) then p4 else p1)), .val (.long (if (p6 &&& (4 : Int32)) = (0 : Int32) then q5 else q2)), .second, .val (.ref b10), .val (.int (0 : Int32)), .unset, .unset] [])) _
    refine OGot.go (fun t k => XS.iload X12.here hx rfl (hb hby at_106) rfl k) ?_
    show OGot p.tables e below (T12.setTop (mkF m 108 #[.val (.int p1), .val (.long q2), .second, .val (.int p3), .val (.int p4), .val (.long q5), .second, .val (.int p6), .val (.int ((p3 &&& (2147483647 : Int32)) % (9 : Int32))), .val (.int (if (p6 &&& (2 : Int32)) = (0 : Int32) then (((p6.toUInt32 >>> ((8 : Int32) &&& 31).toUInt32).toInt32) % (9 : Int32)) else ((p3 &&& (2147483647 : Int32)) % (9 : Int32)))), .val (.int (if (p6 &&& (1 : Int32)) = (0 : Int32) then p4 else p1)), .val (.long (if (p6 &&& (4 : Int32)) = (0 : Int32) then q5 else q2)), .second, .val (.ref b10), .val (.int (0 : Int32)), .unset, .unset] [(.int (0 : Int32))])) _
    refine OGot.go (fun t k => XS.iconst X12.here hx rfl (hb hby at_108) k) ?_
    show OGot p.tables e below (T12.setTop (mkF m 109 #[.val (.int p1), .val (.long q2), .second, .val (.int p3), .val (.int p4), .val (.long q5), .second, .val (.int p6), .val (.int ((p3 &&& (2147483647 : Int32)) % (9 : Int32))), .val (.int (if (p6 &&& (2 : Int32)) = (0 : Int32) then (((p6.toUInt32 >>> ((8 : Int32) &&& 31).toUInt32).toInt32) % (9 : Int32)) else ((p3 &&& (2147483647 : Int32)) % (9 : Int32)))), .val (.int (if (p6 &&& (1 : Int32)) = (0 : Int32) then p4 else p1)), .val (.long (if (p6 &&& (4 : Int32)) = (0 : Int32) then q5 else q2)), .second, .val (.ref b10), .val (.int (0 : Int32)), .unset, .unset] [(.int (2 : Int32)), (.int (0 : Int32))])) _
    refine OGot.go (fun t k => XS.icmpYes X12.here hx rfl (pc0 := 109) (pc' := 130) rfl (hb hby at_109) rfl (by decide) (by decide) (by decide) k) ?_
    show OGot p.tables e below (T12.setTop (mkF m 130 #[.val (.int p1), .val (.long q2), .second, .val (.int p3), .val (.int p4), .val (.long q5), .second, .val (.int p6), .val (.int ((p3 &&& (2147483647 : Int32)) % (9 : Int32))), .val (.int (if (p6 &&& (2 : Int32)) = (0 : Int32) then (((p6.toUInt32 >>> ((8 : Int32) &&& 31).toUInt32).toInt32) % (9 : Int32)) else ((p3 &&& (2147483647 : Int32)) % (9 : Int32)))), .val (.int (if (p6 &&& (1 : Int32)) = (0 : Int32) then p4 else p1)), .val (.long (if (p6 &&& (4 : Int32)) = (0 : Int32) then q5 else q2)), .second, .val (.ref b10), .val (.int (0 : Int32)), .unset, .unset] [])) _
    refine OGot.go (fun t k => XS.iload X12.here hx rfl (hb hby at_130) rfl k) ?_
    show OGot p.tables e below (T12.setTop (mkF m 132 #[.val (.int p1), .val (.long q2), .second, .val (.int p3), .val (.int p4), .val (.long q5), .second, .val (.int p6), .val (.int ((p3 &&& (2147483647 : Int32)) % (9 : Int32))), .val (.int (if (p6 &&& (2 : Int32)) = (0 : Int32) then (((p6.toUInt32 >>> ((8 : Int32) &&& 31).toUInt32).toInt32) % (9 : Int32)) else ((p3 &&& (2147483647 : Int32)) % (9 : Int32)))), .val (.int (if (p6 &&& (1 : Int32)) = (0 : Int32) then p4 else p1)), .val (.long (if (p6 &&& (4 : Int32)) = (0 : Int32) then q5 else q2)), .second, .val (.ref b10), .val (.int (0 : Int32)), .unset, .unset] [(.int (0 : Int32))])) _
    refine OGot.go (fun t k => XS.iconst X12.here hx rfl (hb hby at_132) k) ?_
    show OGot p.tables e below (T12.setTop (mkF m 133 #[.val (.int p1), .val (.long q2), .second, .val (.int p3), .val (.int p4), .val (.long q5), .second, .val (.int p6), .val (.int ((p3 &&& (2147483647 : Int32)) % (9 : Int32))), .val (.int (if (p6 &&& (2 : Int32)) = (0 : Int32) then (((p6.toUInt32 >>> ((8 : Int32) &&& 31).toUInt32).toInt32) % (9 : Int32)) else ((p3 &&& (2147483647 : Int32)) % (9 : Int32)))), .val (.int (if (p6 &&& (1 : Int32)) = (0 : Int32) then p4 else p1)), .val (.long (if (p6 &&& (4 : Int32)) = (0 : Int32) then q5 else q2)), .second, .val (.ref b10), .val (.int (0 : Int32)), .unset, .unset] [(.int (3 : Int32)), (.int (0 : Int32))])) _
    refine OGot.go (fun t k => XS.icmpYes X12.here hx rfl (pc0 := 133) (pc' := 144) rfl (hb hby at_133) rfl (by decide) (by decide) (by decide) k) ?_
    show OGot p.tables e below (T12.setTop (mkF m 144 #[.val (.int p1), .val (.long q2), .second, .val (.int p3), .val (.int p4), .val (.long q5), .second, .val (.int p6), .val (.int ((p3 &&& (2147483647 : Int32)) % (9 : Int32))), .val (.int (if (p6 &&& (2 : Int32)) = (0 : Int32) then (((p6.toUInt32 >>> ((8 : Int32) &&& 31).toUInt32).toInt32) % (9 : Int32)) else ((p3 &&& (2147483647 : Int32)) % (9 : Int32)))), .val (.int (if (p6 &&& (1 : Int32)) = (0 : Int32) then p4 else p1)), .val (.long (if (p6 &&& (4 : Int32)) = (0 : Int32) then q5 else q2)), .second, .val (.ref b10), .val (.int (0 : Int32)), .unset, .unset] [])) _
    obtain ⟨T17, h17, X17, e17, E17, A17, D17, -, st17⟩ := newO X12 hx hZ hown (ow hw 1 rfl) (ow hw 2 rfl) (ow hw 3 rfl) rfl (g := (mkF m 144 #[.val (.int p1), .val (.long q2), .second, .val (.int p3), .val (.int p4), .val (.long q5), .second, .val (.int p6), .val (.int ((p3 &&& (2147483647 : Int32)) % (9 : Int32))), .val (.int (if (p6 &&& (2 : Int32)) = (0 : Int32) then (((p6.toUInt32 >>> ((8 : Int32) &&& 31).toUInt32).toInt32) % (9 : Int32)) else ((p3 &&& (2147483647 : Int32)) % (9 : Int32)))), .val (.int (if (p6 &&& (1 : Int32)) = (0 : Int32) then p4 else p1)), .val (.long (if (p6 &&& (4 : Int32)) = (0 : Int32) then q5 else q2)), .second, .val (.ref b10), .val (.int (0 : Int32)), .unset, .unset] [])) rfl (hb hby at_144) (by decide) (by decide)
    obtain ⟨b17, g17⟩ : ∃ z, z = T12.heap.size := ⟨_, rfl⟩
    rw [← g17] at A17 D17 st17
    refine OGot.go st17 ?_
    have g_b17 : n0 ≤ b17 := Nat.le_trans (osz O12) (Nat.le_of_eq g17.symm)
    have sy_b17 : T12.heap.size ≤ b17 := Nat.le_of_eq g17.symm
    have O17 := O12.ext E17
    have F17_symbol : Fld Z h17 b17 "com/example/muster/muster/analysis/Value$Symbolic" "symbol" "I" (.int (0 : Int32)) := D17 (Or.inr (ow hw 23 rfl)) (ty := .int) (by decide)
    have F17_offset : Fld Z h17 b17 "com/example/muster/muster/analysis/Value$Symbolic" "offset" "J" (.long (0 : Int64)) := D17 (Or.inr (ow hw 25 rfl)) (ty := .long) (by decide)
    have F17_type : Fld Z h17 b17 "com/example/muster/muster/analysis/Value$Symbolic" "type" "Lcom/example/muster/muster/model/IntegerType;" .null := D17 (Or.inr (ow hw 27 rfl)) (ty := (.object "com/example/muster/muster/model/IntegerType")) (by decide)
    show OGot p.tables e below (T17.setTop (mkF m 147 #[.val (.int p1), .val (.long q2), .second, .val (.int p3), .val (.int p4), .val (.long q5), .second, .val (.int p6), .val (.int ((p3 &&& (2147483647 : Int32)) % (9 : Int32))), .val (.int (if (p6 &&& (2 : Int32)) = (0 : Int32) then (((p6.toUInt32 >>> ((8 : Int32) &&& 31).toUInt32).toInt32) % (9 : Int32)) else ((p3 &&& (2147483647 : Int32)) % (9 : Int32)))), .val (.int (if (p6 &&& (1 : Int32)) = (0 : Int32) then p4 else p1)), .val (.long (if (p6 &&& (4 : Int32)) = (0 : Int32) then q5 else q2)), .second, .val (.ref b10), .val (.int (0 : Int32)), .unset, .unset] [(.ref b17)])) _
    refine OGot.go (fun t k => XS.dup X17.here hx rfl (hb hby at_147) rfl rfl k) ?_
    show OGot p.tables e below (T17.setTop (mkF m 148 #[.val (.int p1), .val (.long q2), .second, .val (.int p3), .val (.int p4), .val (.long q5), .second, .val (.int p6), .val (.int ((p3 &&& (2147483647 : Int32)) % (9 : Int32))), .val (.int (if (p6 &&& (2 : Int32)) = (0 : Int32) then (((p6.toUInt32 >>> ((8 : Int32) &&& 31).toUInt32).toInt32) % (9 : Int32)) else ((p3 &&& (2147483647 : Int32)) % (9 : Int32)))), .val (.int (if (p6 &&& (1 : Int32)) = (0 : Int32) then p4 else p1)), .val (.long (if (p6 &&& (4 : Int32)) = (0 : Int32) then q5 else q2)), .second, .val (.ref b10), .val (.int (0 : Int32)), .unset, .unset] [(.ref b17), (.ref b17)])) _
    refine OGot.go (fun t k => XS.iload X17.here hx rfl (hb hby at_148) rfl k) ?_
    show OGot p.tables e below (T17.setTop (mkF m 150 #[.val (.int p1), .val (.long q2), .second, .val (.int p3), .val (.int p4), .val (.long q5), .second, .val (.int p6), .val (.int ((p3 &&& (2147483647 : Int32)) % (9 : Int32))), .val (.int (if (p6 &&& (2 : Int32)) = (0 : Int32) then (((p6.toUInt32 >>> ((8 : Int32) &&& 31).toUInt32).toInt32) % (9 : Int32)) else ((p3 &&& (2147483647 : Int32)) % (9 : Int32)))), .val (.int (if (p6 &&& (1 : Int32)) = (0 : Int32) then p4 else p1)), .val (.long (if (p6 &&& (4 : Int32)) = (0 : Int32) then q5 else q2)), .second, .val (.ref b10), .val (.int (0 : Int32)), .unset, .unset] [(.int (if (p6 &&& (1 : Int32)) = (0 : Int32) then p4 else p1)), (.ref b17), (.ref b17)])) _
    refine OGot.go (fun t k => XS.lload X17.here hx rfl (hb hby at_150) rfl k) ?_
    show OGot p.tables e below (T17.setTop (mkF m 152 #[.val (.int p1), .val (.long q2), .second, .val (.int p3), .val (.int p4), .val (.long q5), .second, .val (.int p6), .val (.int ((p3 &&& (2147483647 : Int32)) % (9 : Int32))), .val (.int (if (p6 &&& (2 : Int32)) = (0 : Int32) then (((p6.toUInt32 >>> ((8 : Int32) &&& 31).toUInt32).toInt32) % (9 : Int32)) else ((p3 &&& (2147483647 : Int32)) % (9 : Int32)))), .val (.int (if (p6 &&& (1 : Int32)) = (0 : Int32) then p4 else p1)), .val (.long (if (p6 &&& (4 : Int32)) = (0 : Int32) then q5 else q2)), .second, .val (.ref b10), .val (.int (0 : Int32)), .unset, .unset] [(.long (if (p6 &&& (4 : Int32)) = (0 : Int32) then q5 else q2)), (.int (if (p6 &&& (1 : Int32)) = (0 : Int32) then p4 else p1)), (.ref b17), (.ref b17)])) _
    refine OGot.go (fun t k => XS.iload X17.here hx rfl (hb hby at_152) rfl k) ?_
    show OGot p.tables e below (T17.setTop (mkF m 154 #[.val (.int p1), .val (.long q2), .second, .val (.int p3), .val (.int p4), .val (.long q5), .second, .val (.int p6), .val (.int ((p3 &&& (2147483647 : Int32)) % (9 : Int32))), .val (.int (if (p6 &&& (2 : Int32)) = (0 : Int32) then (((p6.toUInt32 >>> ((8 : Int32) &&& 31).toUInt32).toInt32) % (9 : Int32)) else ((p3 &&& (2147483647 : Int32)) % (9 : Int32)))), .val (.int (if (p6 &&& (1 : Int32)) = (0 : Int32) then p4 else p1)), .val (.long (if (p6 &&& (4 : Int32)) = (0 : Int32) then q5 else q2)), .second, .val (.ref b10), .val (.int (0 : Int32)), .unset, .unset] [(.int (if (p6 &&& (2 : Int32)) = (0 : Int32) then (((p6.toUInt32 >>> ((8 : Int32) &&& 31).toUInt32).toInt32) % (9 : Int32)) else ((p3 &&& (2147483647 : Int32)) % (9 : Int32)))), (.long (if (p6 &&& (4 : Int32)) = (0 : Int32) then q5 else q2)), (.int (if (p6 &&& (1 : Int32)) = (0 : Int32) then p4 else p1)), (.ref b17), (.ref b17)])) _
    obtain ⟨_, _, ⟨T18, L18, k18, n18⟩, -, X18, ⟨Lc18, hQ18, l18, y18, z18⟩, st18⟩ := Jvm.LawKit.callS X17 hx (y := (⟨"com/example/muster/muster/analysis/SymbolicEqualsPinLaw", "type", "(I)Lcom/example/muster/muster/model/IntegerType;"⟩ : MethodName)) hown (mvT hZ (ow hw 4 rfl)) (mvT hZ (ow hw 5 rfl)) (mvT hZ (ow hw 6 rfl)) (mvT hZ (ow hw 7 rfl)) (by decide) (backOf (W := 5) (rm1 l Z a0 hw [] G (if (p6 &&& (2 : Int32)) = (0 : Int32) then (((p6.toUInt32 >>> ((8 : Int32) &&& 31).toUInt32).toInt32) % (9 : Int32)) else ((p3 &&& (2147483647 : Int32)) % (9 : Int32))) h17 n0 O17 ) hZ (ow hw 7 rfl) (ow hw 6 rfl) (by decide) (by decide)) (g := (mkF m 154 #[.val (.int p1), .val (.long q2), .second, .val (.int p3), .val (.int p4), .val (.long q5), .second, .val (.int p6), .val (.int ((p3 &&& (2147483647 : Int32)) % (9 : Int32))), .val (.int (if (p6 &&& (2 : Int32)) = (0 : Int32) then (((p6.toUInt32 >>> ((8 : Int32) &&& 31).toUInt32).toInt32) % (9 : Int32)) else ((p3 &&& (2147483647 : Int32)) % (9 : Int32)))), .val (.int (if (p6 &&& (1 : Int32)) = (0 : Int32) then p4 else p1)), .val (.long (if (p6 &&& (4 : Int32)) = (0 : Int32) then q5 else q2)), .second, .val (.ref b10), .val (.int (0 : Int32)), .unset, .unset] [(.int (if (p6 &&& (2 : Int32)) = (0 : Int32) then (((p6.toUInt32 >>> ((8 : Int32) &&& 31).toUInt32).toInt32) % (9 : Int32)) else ((p3 &&& (2147483647 : Int32)) % (9 : Int32)))), (.long (if (p6 &&& (4 : Int32)) = (0 : Int32) then q5 else q2)), (.int (if (p6 &&& (1 : Int32)) = (0 : Int32) then p4 else p1)), (.ref b17), (.ref b17)])) rfl (by rw [hml]; rfl) (argsL := [(.int (if (p6 &&& (2 : Int32)) = (0 : Int32) then (((p6.toUInt32 >>> ((8 : Int32) &&& 31).toUInt32).toInt32) % (9 : Int32)) else ((p3 &&& (2147483647 : Int32)) % (9 : Int32))))]) (rest := [(.long (if (p6 &&& (4 : Int32)) = (0 : Int32) then q5 else q2)), (.int (if (p6 &&& (1 : Int32)) = (0 : Int32) then p4 else p1)), (.ref b17), (.ref b17)]) (lenOf pd_0 rfl) rfl (by show 2 * 0 + _ ≤ _; exact Nat.le_of_eq rfl) (hb hby at_154) (fun _ _ => ⟨rfl, e17, (by decide : 2 + 0 ≤ _), (by decide : 6 + 0 ≤ _)⟩)
    dsimp only [Pt.U, Pt.locs, Pt.cells, Pt.slots] at X18 l18 y18 z18 st18 hQ18
    subst l18 y18 z18
    obtain ⟨rfl, N18q, e18, Rf18_0, Rf18_1⟩ := hQ18
    have N18 := Fr.app N12 N18q
    refine OGot.go st18 ?_
    show OGot p.tables e below (T18.setTop (mkF m 157 #[.val (.int p1), .val (.long q2), .second, .val (.int p3), .val (.int p4), .val (.long q5), .second, .val (.int p6), .val (.int ((p3 &&& (2147483647 : Int32)) % (9 : Int32))), .val (.int (if (p6 &&& (2 : Int32)) = (0 : Int32) then (((p6.toUInt32 >>> ((8 : Int32) &&& 31).toUInt32).toInt32) % (9 : Int32)) else ((p3 &&& (2147483647 : Int32)) % (9 : Int32)))), .val (.int (if (p6 &&& (1 : Int32)) = (0 : Int32) then p4 else p1)), .val (.long (if (p6 &&& (4 : Int32)) = (0 : Int32) then q5 else q2)), .second, .val (.ref b10), .val (.int (0 : Int32)), .unset, .unset] [(.ref (f1 w_INT8 w_UINT8 w_BOOL w_UINT16 w_UINT64 w_UINT32 w_INT32 w_INT16 w_INT64 (if (p6 &&& (2 : Int32)) = (0 : Int32) then (((p6.toUInt32 >>> ((8 : Int32) &&& 31).toUInt32).toInt32) % (9 : Int32)) else ((p3 &&& (2147483647 : Int32)) % (9 : Int32))))), (.long (if (p6 &&& (4 : Int32)) = (0 : Int32) then q5 else q2)), (.int (if (p6 &&& (1 : Int32)) = (0 : Int32) then p4 else p1)), (.ref b17), (.ref b17)])) _
    obtain ⟨_, _, ⟨T19, L19, k19, n19⟩, -, X19, ⟨Lc19, hQ19, l19, y19, z19⟩, st19⟩ := X18.specialBack hx (y := (⟨"com/example/muster/muster/analysis/Value$Symbolic", "<init>", "(IJLcom/example/muster/muster/model/IntegerType;)V"⟩ : MethodName)) rfl hown (mvT hZ (ow hw 11 rfl)) (mvT hZ (ow hw 12 rfl)) (mvT hZ (ow hw 13 rfl)) (by decide) (backOf (W := 1) (rm2 l Z a0 hw [] G b17 (if (p6 &&& (1 : Int32)) = (0 : Int32) then p4 else p1) (if (p6 &&& (4 : Int32)) = (0 : Int32) then q5 else q2) (f1 w_INT8 w_UINT8 w_BOOL w_UINT16 w_UINT64 w_UINT32 w_INT32 w_INT16 w_INT64 (if (p6 &&& (2 : Int32)) = (0 : Int32) then (((p6.toUInt32 >>> ((8 : Int32) &&& 31).toUInt32).toInt32) % (9 : Int32)) else ((p3 &&& (2147483647 : Int32)) % (9 : Int32)))) h17 n0 O17 A17 F17_symbol g_b17 F17_offset F17_type) hZ (ow hw 13 rfl) (ow hw 3 rfl) (by decide) (by decide)) (g := (mkF m 157 #[.val (.int p1), .val (.long q2), .second, .val (.int p3), .val (.int p4), .val (.long q5), .second, .val (.int p6), .val (.int ((p3 &&& (2147483647 : Int32)) % (9 : Int32))), .val (.int (if (p6 &&& (2 : Int32)) = (0 : Int32) then (((p6.toUInt32 >>> ((8 : Int32) &&& 31).toUInt32).toInt32) % (9 : Int32)) else ((p3 &&& (2147483647 : Int32)) % (9 : Int32)))), .val (.int (if (p6 &&& (1 : Int32)) = (0 : Int32) then p4 else p1)), .val (.long (if (p6 &&& (4 : Int32)) = (0 : Int32) then q5 else q2)), .second, .val (.ref b10), .val (.int (0 : Int32)), .unset, .unset] [(.ref (f1 w_INT8 w_UINT8 w_BOOL w_UINT16 w_UINT64 w_UINT32 w_INT32 w_INT16 w_INT64 (if (p6 &&& (2 : Int32)) = (0 : Int32) then (((p6.toUInt32 >>> ((8 : Int32) &&& 31).toUInt32).toInt32) % (9 : Int32)) else ((p3 &&& (2147483647 : Int32)) % (9 : Int32))))), (.long (if (p6 &&& (4 : Int32)) = (0 : Int32) then q5 else q2)), (.int (if (p6 &&& (1 : Int32)) = (0 : Int32) then p4 else p1)), (.ref b17), (.ref b17)])) rfl (by rw [hml]; rfl) (Steps.refl _) (a := b17) (argsL := [(.int (if (p6 &&& (1 : Int32)) = (0 : Int32) then p4 else p1)), (.long (if (p6 &&& (4 : Int32)) = (0 : Int32) then q5 else q2)), (.ref (f1 w_INT8 w_UINT8 w_BOOL w_UINT16 w_UINT64 w_UINT32 w_INT32 w_INT16 w_INT64 (if (p6 &&& (2 : Int32)) = (0 : Int32) then (((p6.toUInt32 >>> ((8 : Int32) &&& 31).toUInt32).toInt32) % (9 : Int32)) else ((p3 &&& (2147483647 : Int32)) % (9 : Int32)))))]) (rest := [(.ref b17)]) (lenOf pd_2 rfl) rfl (by show 2 * 0 + _ ≤ _; exact Nat.le_of_eq rfl) (hb hby at_157) (fun _ _ => ⟨rfl, e18, (by decide : 2 + 0 ≤ _), (by decide : 6 + 0 ≤ _)⟩)
    dsimp only [Pt.U, Pt.locs, Pt.cells, Pt.slots] at X19 l19 y19 z19 st19 hQ19
    subst l19 y19 z19
    obtain ⟨N19q, rfl, K19, Fo19_0, Fo19_1, Fo19_2⟩ := hQ19
    have O19 := OKeep.old O17 K19 (ogeS g_b17 (ogeS g_b17 (ogeS g_b17 oge0)))
    have N19 := Fr.app N18 N19q
    refine OGot.on st19 ?_
    show OGot p.tables e below (T19.setTop (mkF m 160 #[.val (.int p1), .val (.long q2), .second, .val (.int p3), .val (.int p4), .val (.long q5), .second, .val (.int p6), .val (.int ((p3 &&& (2147483647 : Int32)) % (9 : Int32))), .val (.int (if (p6 &&& (2 : Int32)) = (0 : Int32) then (((p6.toUInt32 >>> ((8 : Int32) &&& 31).toUInt32).toInt32) % (9 : Int32)) else ((p3 &&& (2147483647 : Int32)) % (9 : Int32)))), .val (.int (if (p6 &&& (1 : Int32)) = (0 : Int32) then p4 else p1)), .val (.long (if (p6 &&& (4 : Int32)) = (0 : Int32) then q5 else q2)), .second, .val (.ref b10), .val (.int (0 : Int32)), .unset, .unset] [(.ref b17)])) _
    refine OGot.go (fun t k => XS.astore X19.here hx rfl (hb hby at_160) rfl rfl (l' := #[.val (.int p1), .val (.long q2), .second, .val (.int p3), .val (.int p4), .val (.long q5), .second, .val (.int p6), .val (.int ((p3 &&& (2147483647 : Int32)) % (9 : Int32))), .val (.int (if (p6 &&& (2 : Int32)) = (0 : Int32) then (((p6.toUInt32 >>> ((8 : Int32) &&& 31).toUInt32).toInt32) % (9 : Int32)) else ((p3 &&& (2147483647 : Int32)) % (9 : Int32)))), .val (.int (if (p6 &&& (1 : Int32)) = (0 : Int32) then p4 else p1)), .val (.long (if (p6 &&& (4 : Int32)) = (0 : Int32) then q5 else q2)), .second, .val (.ref b10), .val (.int (0 : Int32)), .val (.ref b17), .unset]) rfl k) ?_
    show OGot p.tables e below (T19.setTop (mkF m 162 #[.val (.int p1), .val (.long q2), .second, .val (.int p3), .val (.int p4), .val (.long q5), .second, .val (.int p6), .val (.int ((p3 &&& (2147483647 : Int32)) % (9 : Int32))), .val (.int (if (p6 &&& (2 : Int32)) = (0 : Int32) then (((p6.toUInt32 >>> ((8 : Int32) &&& 31).toUInt32).toInt32) % (9 : Int32)) else ((p3 &&& (2147483647 : Int32)) % (9 : Int32)))), .val (.int (if (p6 &&& (1 : Int32)) = (0 : Int32) then p4 else p1)), .val (.long (if (p6 &&& (4 : Int32)) = (0 : Int32) then q5 else q2)), .second, .val (.ref b10), .val (.int (0 : Int32)), .val (.ref b17), .unset] [])) _
    refine OGot.go (fun t k => XS.iloadN X19.here hx rfl (hb hby at_162) rfl k) ?_
    show OGot p.tables e below (T19.setTop (mkF m 163 #[.val (.int p1), .val (.long q2), .second, .val (.int p3), .val (.int p4), .val (.long q5), .second, .val (.int p6), .val (.int ((p3 &&& (2147483647 : Int32)) % (9 : Int32))), .val (.int (if (p6 &&& (2 : Int32)) = (0 : Int32) then (((p6.toUInt32 >>> ((8 : Int32) &&& 31).toUInt32).toInt32) % (9 : Int32)) else ((p3 &&& (2147483647 : Int32)) % (9 : Int32)))), .val (.int (if (p6 &&& (1 : Int32)) = (0 : Int32) then p4 else p1)), .val (.long (if (p6 &&& (4 : Int32)) = (0 : Int32) then q5 else q2)), .second, .val (.ref b10), .val (.int (0 : Int32)), .val (.ref b17), .unset] [(.int p1)])) _
    refine OGot.go (fun t k => XS.iload X19.here hx rfl (hb hby at_163) rfl k) ?_
    show OGot p.tables e below (T19.setTop (mkF m 165 #[.val (.int p1), .val (.long q2), .second, .val (.int p3), .val (.int p4), .val (.long q5), .second, .val (.int p6), .val (.int ((p3 &&& (2147483647 : Int32)) % (9 : Int32))), .val (.int (if (p6 &&& (2 : Int32)) = (0 : Int32) then (((p6.toUInt32 >>> ((8 : Int32) &&& 31).toUInt32).toInt32) % (9 : Int32)) else ((p3 &&& (2147483647 : Int32)) % (9 : Int32)))), .val (.int (if (p6 &&& (1 : Int32)) = (0 : Int32) then p4 else p1)), .val (.long (if (p6 &&& (4 : Int32)) = (0 : Int32) then q5 else q2)), .second, .val (.ref b10), .val (.int (0 : Int32)), .val (.ref b17), .unset] [(.int (if (p6 &&& (1 : Int32)) = (0 : Int32) then p4 else p1)), (.int p1)])) _
    by_cases hs20 : p1 = (if (p6 &&& (1 : Int32)) = (0 : Int32) then p4 else p1)
    · refine OGot.go (fun t k => XS.icmpNo X19.here hx rfl (hb hby at_165) rfl (teq hs20).2 k) ?_
      show OGot p.tables e below (T19.setTop (mkF m 168 #[.val (.int p1), .val (.long q2), .second, .val (.int p3), .val (.int p4), .val (.long q5), .second, .val (.int p6), .val (.int ((p3 &&& (2147483647 : Int32)) % (9 : Int32))), .val (.int (if (p6 &&& (2 : Int32)) = (0 : Int32) then (((p6.toUInt32 >>> ((8 : Int32) &&& 31).toUInt32).toInt32) % (9 : Int32)) else ((p3 &&& (2147483647 : Int32)) % (9 : Int32)))), .val (.int (if (p6 &&& (1 : Int32)) = (0 : Int32) then p4 else p1)), .val (.long (if (p6 &&& (4 : Int32)) = (0 : Int32) then q5 else q2)), .second, .val (.ref b10), .val (.int (0 : Int32)), .val (.ref b17), .unset] [])) _
      refine OGot.go (fun t k => XS.lloadN X19.here hx rfl (hb hby at_168) rfl k) ?_
      show OGot p.tables e below (T19.setTop (mkF m 169 #[.val (.int p1), .val (.long q2), .second, .val (.int p3), .val (.int p4), .val (.long q5), .second, .val (.int p6), .val (.int ((p3 &&& (2147483647 : Int32)) % (9 : Int32))), .val (.int (if (p6 &&& (2 : Int32)) = (0 : Int32) then (((p6.toUInt32 >>> ((8 : Int32) &&& 31).toUInt32).toInt32) % (9 : Int32)) else ((p3 &&& (2147483647 : Int32)) % (9 : Int32)))), .val (.int (if (p6 &&& (1 : Int32)) = (0 : Int32) then p4 else p1)), .val (.long (if (p6 &&& (4 : Int32)) = (0 : Int32) then q5 else q2)), .second, .val (.ref b10), .val (.int (0 : Int32)), .val (.ref b17), .unset] [(.long q2)])) _
      refine OGot.go (fun t k => XS.lload X19.here hx rfl (hb hby at_169) rfl k) ?_
      show OGot p.tables e below (T19.setTop (mkF m 171 #[.val (.int p1), .val (.long q2), .second, .val (.int p3), .val (.int p4), .val (.long q5), .second, .val (.int p6), .val (.int ((p3 &&& (2147483647 : Int32)) % (9 : Int32))), .val (.int (if (p6 &&& (2 : Int32)) = (0 : Int32) then (((p6.toUInt32 >>> ((8 : Int32) &&& 31).toUInt32).toInt32) % (9 : Int32)) else ((p3 &&& (2147483647 : Int32)) % (9 : Int32)))), .val (.int (if (p6 &&& (1 : Int32)) = (0 : Int32) then p4 else p1)), .val (.long (if (p6 &&& (4 : Int32)) = (0 : Int32) then q5 else q2)), .second, .val (.ref b10), .val (.int (0 : Int32)), .val (.ref b17), .unset] [(.long (if (p6 &&& (4 : Int32)) = (0 : Int32) then q5 else q2)), (.long q2)])) _
      refine OGot.go (fun t k => XS.lcmp X19.here hx rfl (hb hby at_171) rfl k) ?_
      show OGot p.tables e below (T19.setTop (mkF m 172 #[.val (.int p1), .val (.long q2), .second, .val (.int p3), .val (.int p4), .val (.long q5), .second, .val (.int p6), .val (.int ((p3 &&& (2147483647 : Int32)) % (9 : Int32))), .val (.int (if (p6 &&& (2 : Int32)) = (0 : Int32) then (((p6.toUInt32 >>> ((8 : Int32) &&& 31).toUInt32).toInt32) % (9 : Int32)) else ((p3 &&& (2147483647 : Int32)) % (9 : Int32)))), .val (.int (if (p6 &&& (1 : Int32)) = (0 : Int32) then p4 else p1)), .val (.long (if (p6 &&& (4 : Int32)) = (0 : Int32) then q5 else q2)), .second, .val (.ref b10), .val (.int (0 : Int32)), .val (.ref b17), .unset] [(.int (lcmpW q2 (if (p6 &&& (4 : Int32)) = (0 : Int32) then q5 else q2)))])) _
      by_cases hs21 : q2 = (if (p6 &&& (4 : Int32)) = (0 : Int32) then q5 else q2)
      · refine OGot.go (fun t k => XS.ifNo X19.here hx rfl (hb hby at_172) rfl ((if0 _ _).trans (teq ((lw_eq q2 (if (p6 &&& (4 : Int32)) = (0 : Int32) then q5 else q2)).mpr hs21)).2) k) ?_
        show OGot p.tables e below (T19.setTop (mkF m 175 #[.val (.int p1), .val (.long q2), .second, .val (.int p3), .val (.int p4), .val (.long q5), .second, .val (.int p6), .val (.int ((p3 &&& (2147483647 : Int32)) % (9 : Int32))), .val (.int (if (p6 &&& (2 : Int32)) = (0 : Int32) then (((p6.toUInt32 >>> ((8 : Int32) &&& 31).toUInt32).toInt32) % (9 : Int32)) else ((p3 &&& (2147483647 : Int32)) % (9 : Int32)))), .val (.int (if (p6 &&& (1 : Int32)) = (0 : Int32) then p4 else p1)), .val (.long (if (p6 &&& (4 : Int32)) = (0 : Int32) then q5 else q2)), .second, .val (.ref b10), .val (.int (0 : Int32)), .val (.ref b17), .unset] [])) _
        refine OGot.go (fun t k => XS.iload X19.here hx rfl (hb hby at_175) rfl k) ?_
        show OGot p.tables e below (T19.setTop (mkF m 177 #[.val (.int p1), .val (.long q2), .second, .val (.int p3), .val (.int p4), .val (.long q5), .second, .val (.int p6), .val (.int ((p3 &&& (2147483647 : Int32)) % (9 : Int32))), .val (.int (if (p6 &&& (2 : Int32)) = (0 : Int32) then (((p6.toUInt32 >>> ((8 : Int32) &&& 31).toUInt32).toInt32) % (9 : Int32)) else ((p3 &&& (2147483647 : Int32)) % (9 : Int32)))), .val (.int (if (p6 &&& (1 : Int32)) = (0 : Int32) then p4 else p1)), .val (.long (if (p6 &&& (4 : Int32)) = (0 : Int32) then q5 else q2)), .second, .val (.ref b10), .val (.int (0 : Int32)), .val (.ref b17), .unset] [(.int ((p3 &&& (2147483647 : Int32)) % (9 : Int32)))])) _
        refine OGot.go (fun t k => XS.iload X19.here hx rfl (hb hby at_177) rfl k) ?_
        show OGot p.tables e below (T19.setTop (mkF m 179 #[.val (.int p1), .val (.long q2), .second, .val (.int p3), .val (.int p4), .val (.long q5), .second, .val (.int p6), .val (.int ((p3 &&& (2147483647 : Int32)) % (9 : Int32))), .val (.int (if (p6 &&& (2 : Int32)) = (0 : Int32) then (((p6.toUInt32 >>> ((8 : Int32) &&& 31).toUInt32).toInt32) % (9 : Int32)) else ((p3 &&& (2147483647 : Int32)) % (9 : Int32)))), .val (.int (if (p6 &&& (1 : Int32)) = (0 : Int32) then p4 else p1)), .val (.long (if (p6 &&& (4 : Int32)) = (0 : Int32) then q5 else q2)), .second, .val (.ref b10), .val (.int (0 : Int32)), .val (.ref b17), .unset] [(.int (if (p6 &&& (2 : Int32)) = (0 : Int32) then (((p6.toUInt32 >>> ((8 : Int32) &&& 31).toUInt32).toInt32) % (9 : Int32)) else ((p3 &&& (2147483647 : Int32)) % (9 : Int32)))), (.int ((p3 &&& (2147483647 : Int32)) % (9 : Int32)))])) _
        by_cases hs22 : ((p3 &&& (2147483647 : Int32)) % (9 : Int32)) = (if (p6 &&& (2 : Int32)) = (0 : Int32) then (((p6.toUInt32 >>> ((8 : Int32) &&& 31).toUInt32).toInt32) % (9 : Int32)) else ((p3 &&& (2147483647 : Int32)) % (9 : Int32)))
        · refine OGot.go (fun t k => XS.icmpNo X19.here hx rfl (hb hby at_179) rfl (teq hs22).2 k) ?_
          show OGot p.tables e below (T19.setTop (mkF m 182 #[.val (.int p1), .val (.long q2), .second, .val (.int p3), .val (.int p4), .val (.long q5), .second, .val (.int p6), .val (.int ((p3 &&& (2147483647 : Int32)) % (9 : Int32))), .val (.int (if (p6 &&& (2 : Int32)) = (0 : Int32) then (((p6.toUInt32 >>> ((8 : Int32) &&& 31).toUInt32).toInt32) % (9 : Int32)) else ((p3 &&& (2147483647 : Int32)) % (9 : Int32)))), .val (.int (if (p6 &&& (1 : Int32)) = (0 : Int32) then p4 else p1)), .val (.long (if (p6 &&& (4 : Int32)) = (0 : Int32) then q5 else q2)), .second, .val (.ref b10), .val (.int (0 : Int32)), .val (.ref b17), .unset] [])) _
          refine OGot.go (fun t k => XS.iconst X19.here hx rfl (hb hby at_182) k) ?_
          show OGot p.tables e below (T19.setTop (mkF m 183 #[.val (.int p1), .val (.long q2), .second, .val (.int p3), .val (.int p4), .val (.long q5), .second, .val (.int p6), .val (.int ((p3 &&& (2147483647 : Int32)) % (9 : Int32))), .val (.int (if (p6 &&& (2 : Int32)) = (0 : Int32) then (((p6.toUInt32 >>> ((8 : Int32) &&& 31).toUInt32).toInt32) % (9 : Int32)) else ((p3 &&& (2147483647 : Int32)) % (9 : Int32)))), .val (.int (if (p6 &&& (1 : Int32)) = (0 : Int32) then p4 else p1)), .val (.long (if (p6 &&& (4 : Int32)) = (0 : Int32) then q5 else q2)), .second, .val (.ref b10), .val (.int (0 : Int32)), .val (.ref b17), .unset] [(.int (1 : Int32))])) _
          refine OGot.go (fun t k => XS.goto X19.here hx rfl (pc0 := 183) (pc' := 187) rfl (hb hby at_183) (by decide) (by decide) k) ?_
          show OGot p.tables e below (T19.setTop (mkF m 187 #[.val (.int p1), .val (.long q2), .second, .val (.int p3), .val (.int p4), .val (.long q5), .second, .val (.int p6), .val (.int ((p3 &&& (2147483647 : Int32)) % (9 : Int32))), .val (.int (if (p6 &&& (2 : Int32)) = (0 : Int32) then (((p6.toUInt32 >>> ((8 : Int32) &&& 31).toUInt32).toInt32) % (9 : Int32)) else ((p3 &&& (2147483647 : Int32)) % (9 : Int32)))), .val (.int (if (p6 &&& (1 : Int32)) = (0 : Int32) then p4 else p1)), .val (.long (if (p6 &&& (4 : Int32)) = (0 : Int32) then q5 else q2)), .second, .val (.ref b10), .val (.int (0 : Int32)), .val (.ref b17), .unset] [(.int (1 : Int32))])) _
          refine OGot.go (fun t k => XS.istore X19.here hx rfl (hb hby at_187) rfl (l' := #[.val (.int p1), .val (.long q2), .second, .val (.int p3), .val (.int p4), .val (.long q5), .second, .val (.int p6), .val (.int ((p3 &&& (2147483647 : Int32)) % (9 : Int32))), .val (.int (if (p6 &&& (2 : Int32)) = (0 : Int32) then (((p6.toUInt32 >>> ((8 : Int32) &&& 31).toUInt32).toInt32) % (9 : Int32)) else ((p3 &&& (2147483647 : Int32)) % (9 : Int32)))), .val (.int (if (p6 &&& (1 : Int32)) = (0 : Int32) then p4 else p1)), .val (.long (if (p6 &&& (4 : Int32)) = (0 : Int32) then q5 else q2)), .second, .val (.ref b10), .val (.int (0 : Int32)), .val (.ref b17), .val (.int (1 : Int32))]) rfl k) ?_
          show OGot p.tables e below (T19.setTop (mkF m 189 #[.val (.int p1), .val (.long q2), .second, .val (.int p3), .val (.int p4), .val (.long q5), .second, .val (.int p6), .val (.int ((p3 &&& (2147483647 : Int32)) % (9 : Int32))), .val (.int (if (p6 &&& (2 : Int32)) = (0 : Int32) then (((p6.toUInt32 >>> ((8 : Int32) &&& 31).toUInt32).toInt32) % (9 : Int32)) else ((p3 &&& (2147483647 : Int32)) % (9 : Int32)))), .val (.int (if (p6 &&& (1 : Int32)) = (0 : Int32) then p4 else p1)), .val (.long (if (p6 &&& (4 : Int32)) = (0 : Int32) then q5 else q2)), .second, .val (.ref b10), .val (.int (0 : Int32)), .val (.ref b17), .val (.int (1 : Int32))] [])) _
          refine OGot.go (fun t k => XS.aload X19.here hx rfl (hb hby at_189) rfl rfl k) ?_
          show OGot p.tables e below (T19.setTop (mkF m 191 #[.val (.int p1), .val (.long q2), .second, .val (.int p3), .val (.int p4), .val (.long q5), .second, .val (.int p6), .val (.int ((p3 &&& (2147483647 : Int32)) % (9 : Int32))), .val (.int (if (p6 &&& (2 : Int32)) = (0 : Int32) then (((p6.toUInt32 >>> ((8 : Int32) &&& 31).toUInt32).toInt32) % (9 : Int32)) else ((p3 &&& (2147483647 : Int32)) % (9 : Int32)))), .val (.int (if (p6 &&& (1 : Int32)) = (0 : Int32) then p4 else p1)), .val (.long (if (p6 &&& (4 : Int32)) = (0 : Int32) then q5 else q2)), .second, .val (.ref b10), .val (.int (0 : Int32)), .val (.ref b17), .val (.int (1 : Int32))] [(.ref b10)])) _
          refine OGot.go (fun t k => XS.aload X19.here hx rfl (hb hby at_191) rfl rfl k) ?_
          show OGot p.tables e below (T19.setTop (mkF m 193 #[.val (.int p1), .val (.long q2), .second, .val (.int p3), .val (.int p4), .val (.long q5), .second, .val (.int p6), .val (.int ((p3 &&& (2147483647 : Int32)) % (9 : Int32))), .val (.int (if (p6 &&& (2 : Int32)) = (0 : Int32) then (((p6.toUInt32 >>> ((8 : Int32) &&& 31).toUInt32).toInt32) % (9 : Int32)) else ((p3 &&& (2147483647 : Int32)) % (9 : Int32)))), .val (.int (if (p6 &&& (1 : Int32)) = (0 : Int32) then p4 else p1)), .val (.long (if (p6 &&& (4 : Int32)) = (0 : Int32) then q5 else q2)), .second, .val (.ref b10), .val (.int (0 : Int32)), .val (.ref b17), .val (.int (1 : Int32))] [(.ref b17), (.ref b10)])) _
          have ne24 : b10 ≠ b17 := (Nat.ne_of_lt (Nat.lt_of_lt_of_le (Nat.lt_of_lt_of_le A10.lt K12.1) sy_b17))
          have F25 : Fld Z T19.heap b10 "com/example/muster/muster/analysis/Value$Symbolic" "symbol" "I" (.int p1) := (OKeep.fld (Fo12_0.ext E17) K19 (oninA ne24 (oninA ne24 (oninA ne24 onin0))))
          have F26 : Fld Z T19.heap b10 "com/example/muster/muster/analysis/Value$Symbolic" "offset" "J" (.long q2) := (OKeep.fld (Fo12_1.ext E17) K19 (oninA ne24 (oninA ne24 (oninA ne24 onin0))))
          have F27 : Fld Z T19.heap b10 "com/example/muster/muster/analysis/Value$Symbolic" "type" "Lcom/example/muster/muster/model/IntegerType;" (.ref (f1 w_INT8 w_UINT8 w_BOOL w_UINT16 w_UINT64 w_UINT32 w_INT32 w_INT16 w_INT64 ((p3 &&& (2147483647 : Int32)) % (9 : Int32)))) := (OKeep.fld (Fo12_2.ext E17) K19 (oninA ne24 (oninA ne24 (oninA ne24 onin0))))
          obtain ⟨cq23, kq23, q23a, q23b, q23c⟩ := isOf hZ rfl (OKeep.exa ((OKeep.exa A10 K12).ext E17) K19)
          obtain ⟨_, _, ⟨T23, L23, k23, n23⟩, -, X23, ⟨Lc23, hQ23, l23, y23, z23⟩, st23⟩ := X19.virtualBack hx (y := (⟨"com/example/muster/muster/analysis/Value$Symbolic", "equals", "(Ljava/lang/Object;)Z"⟩ : MethodName)) (z := (⟨"com/example/muster/muster/analysis/Value$Symbolic", "equals", "(Ljava/lang/Object;)Z"⟩ : MethodName)) hown (mvT hZ (ow hw 28 rfl)) (mvT hZ (ow hw 29 rfl)) (notFace_of_selects (args := #[]) (mvT hZ (ow hw 31 rfl))) (mvT hZ (ow hw 31 rfl)) (mvT hZ (ow hw 30 rfl)) (by decide) (backOf (W := 0) (rm5 l Z a0 hw [] G b10 b17 p1 (if (p6 &&& (1 : Int32)) = (0 : Int32) then p4 else p1) q2 (if (p6 &&& (4 : Int32)) = (0 : Int32) then q5 else q2) (f1 w_INT8 w_UINT8 w_BOOL w_UINT16 w_UINT64 w_UINT32 w_INT32 w_INT16 w_INT64 ((p3 &&& (2147483647 : Int32)) % (9 : Int32))) (f1 w_INT8 w_UINT8 w_BOOL w_UINT16 w_UINT64 w_UINT32 w_INT32 w_INT16 w_INT64 (if (p6 &&& (2 : Int32)) = (0 : Int32) then (((p6.toUInt32 >>> ((8 : Int32) &&& 31).toUInt32).toInt32) % (9 : Int32)) else ((p3 &&& (2147483647 : Int32)) % (9 : Int32)))) T19.heap n0 O19 (OKeep.exa A17 K19) F25 Fo19_0 hs20 F26 Fo19_1 hs21 F27 Fo19_2 (Rf11_0.ext O19.2) (Rf18_0.ext O19.2) (congrArg (f1 w_INT8 w_UINT8 w_BOOL w_UINT16 w_UINT64 w_UINT32 w_INT32 w_INT16 w_INT64) hs22)) hZ (ow hw 32 rfl) (ow hw 3 rfl) (by decide) (by decide)) q23a q23c (g := (mkF m 193 #[.val (.int p1), .val (.long q2), .second, .val (.int p3), .val (.int p4), .val (.long q5), .second, .val (.int p6), .val (.int ((p3 &&& (2147483647 : Int32)) % (9 : Int32))), .val (.int (if (p6 &&& (2 : Int32)) = (0 : Int32) then (((p6.toUInt32 >>> ((8 : Int32) &&& 31).toUInt32).toInt32) % (9 : Int32)) else ((p3 &&& (2147483647 : Int32)) % (9 : Int32)))), .val (.int (if (p6 &&& (1 : Int32)) = (0 : Int32) then p4 else p1)), .val (.long (if (p6 &&& (4 : Int32)) = (0 : Int32) then q5 else q2)), .second, .val (.ref b10), .val (.int (0 : Int32)), .val (.ref b17), .val (.int (1 : Int32))] [(.ref b17), (.ref b10)])) rfl (by rw [hml]; rfl) (Steps.refl _) (argsL := [(.ref b17)]) (rest := []) (lenOf pd_3 rfl) rfl (by show 2 * 0 + _ ≤ _; exact Nat.le_of_eq rfl) (hb hby at_193) (fun _ _ => ⟨rfl, rfl, (by decide : 2 + 0 ≤ _), (by decide : 6 + 0 ≤ _)⟩)
          dsimp only [Pt.U, Pt.locs, Pt.cells, Pt.slots] at X23 l23 y23 z23 st23 hQ23
          subst l23 y23 z23
          obtain ⟨rfl, N23q, e23⟩ := hQ23
          have N23 := Fr.app N19 N23q
          refine OGot.on st23 ?_
          show OGot p.tables e below (T23.setTop (mkF m 196 #[.val (.int p1), .val (.long q2), .second, .val (.int p3), .val (.int p4), .val (.long q5), .second, .val (.int p6), .val (.int ((p3 &&& (2147483647 : Int32)) % (9 : Int32))), .val (.int (if (p6 &&& (2 : Int32)) = (0 : Int32) then (((p6.toUInt32 >>> ((8 : Int32) &&& 31).toUInt32).toInt32) % (9 : Int32)) else ((p3 &&& (2147483647 : Int32)) % (9 : Int32)))), .val (.int (if (p6 &&& (1 : Int32)) = (0 : Int32) then p4 else p1)), .val (.long (if (p6 &&& (4 : Int32)) = (0 : Int32) then q5 else q2)), .second, .val (.ref b10), .val (.int (0 : Int32)), .val (.ref b17), .val (.int (1 : Int32))] [(.int (1 : Int32))])) _
          refine OGot.go (fun t k => XS.iload X23.here hx rfl (hb hby at_196) rfl k) ?_
          show OGot p.tables e below (T23.setTop (mkF m 198 #[.val (.int p1), .val (.long q2), .second, .val (.int p3), .val (.int p4), .val (.long q5), .second, .val (.int p6), .val (.int ((p3 &&& (2147483647 : Int32)) % (9 : Int32))), .val (.int (if (p6 &&& (2 : Int32)) = (0 : Int32) then (((p6.toUInt32 >>> ((8 : Int32) &&& 31).toUInt32).toInt32) % (9 : Int32)) else ((p3 &&& (2147483647 : Int32)) % (9 : Int32)))), .val (.int (if (p6 &&& (1 : Int32)) = (0 : Int32) then p4 else p1)), .val (.long (if (p6 &&& (4 : Int32)) = (0 : Int32) then q5 else q2)), .second, .val (.ref b10), .val (.int (0 : Int32)), .val (.ref b17), .val (.int (1 : Int32))] [(.int (1 : Int32)), (.int (1 : Int32))])) _
          refine OGot.go (fun t k => XS.icmpNo X23.here hx rfl (hb hby at_198) rfl (by decide) k) ?_
          show OGot p.tables e below (T23.setTop (mkF m 201 #[.val (.int p1), .val (.long q2), .second, .val (.int p3), .val (.int p4), .val (.long q5), .second, .val (.int p6), .val (.int ((p3 &&& (2147483647 : Int32)) % (9 : Int32))), .val (.int (if (p6 &&& (2 : Int32)) = (0 : Int32) then (((p6.toUInt32 >>> ((8 : Int32) &&& 31).toUInt32).toInt32) % (9 : Int32)) else ((p3 &&& (2147483647 : Int32)) % (9 : Int32)))), .val (.int (if (p6 &&& (1 : Int32)) = (0 : Int32) then p4 else p1)), .val (.long (if (p6 &&& (4 : Int32)) = (0 : Int32) then q5 else q2)), .second, .val (.ref b10), .val (.int (0 : Int32)), .val (.ref b17), .val (.int (1 : Int32))] [])) _
          refine OGot.go (fun t k => XS.aload X23.here hx rfl (hb hby at_201) rfl rfl k) ?_
          show OGot p.tables e below (T23.setTop (mkF m 203 #[.val (.int p1), .val (.long q2), .second, .val (.int p3), .val (.int p4), .val (.long q5), .second, .val (.int p6), .val (.int ((p3 &&& (2147483647 : Int32)) % (9 : Int32))), .val (.int (if (p6 &&& (2 : Int32)) = (0 : Int32) then (((p6.toUInt32 >>> ((8 : Int32) &&& 31).toUInt32).toInt32) % (9 : Int32)) else ((p3 &&& (2147483647 : Int32)) % (9 : Int32)))), .val (.int (if (p6 &&& (1 : Int32)) = (0 : Int32) then p4 else p1)), .val (.long (if (p6 &&& (4 : Int32)) = (0 : Int32) then q5 else q2)), .second, .val (.ref b10), .val (.int (0 : Int32)), .val (.ref b17), .val (.int (1 : Int32))] [(.ref b17)])) _
          refine OGot.go (fun t k => XS.aload X23.here hx rfl (hb hby at_203) rfl rfl k) ?_
          show OGot p.tables e below (T23.setTop (mkF m 205 #[.val (.int p1), .val (.long q2), .second, .val (.int p3), .val (.int p4), .val (.long q5), .second, .val (.int p6), .val (.int ((p3 &&& (2147483647 : Int32)) % (9 : Int32))), .val (.int (if (p6 &&& (2 : Int32)) = (0 : Int32) then (((p6.toUInt32 >>> ((8 : Int32) &&& 31).toUInt32).toInt32) % (9 : Int32)) else ((p3 &&& (2147483647 : Int32)) % (9 : Int32)))), .val (.int (if (p6 &&& (1 : Int32)) = (0 : Int32) then p4 else p1)), .val (.long (if (p6 &&& (4 : Int32)) = (0 : Int32) then q5 else q2)), .second, .val (.ref b10), .val (.int (0 : Int32)), .val (.ref b17), .val (.int (1 : Int32))] [(.ref b10), (.ref b17)])) _
          obtain ⟨cq28, kq28, q28a, q28b, q28c⟩ := isOf hZ e23 (OKeep.exa A17 K19)
          obtain ⟨_, _, ⟨T28, L28, k28, n28⟩, -, X28, ⟨Lc28, hQ28, l28, y28, z28⟩, st28⟩ := X23.virtualBack hx (y := (⟨"com/example/muster/muster/analysis/Value$Symbolic", "equals", "(Ljava/lang/Object;)Z"⟩ : MethodName)) (z := (⟨"com/example/muster/muster/analysis/Value$Symbolic", "equals", "(Ljava/lang/Object;)Z"⟩ : MethodName)) hown (mvT hZ (ow hw 28 rfl)) (mvT hZ (ow hw 29 rfl)) (notFace_of_selects (args := #[]) (mvT hZ (ow hw 31 rfl))) (mvT hZ (ow hw 31 rfl)) (mvT hZ (ow hw 30 rfl)) (by decide) (backOf (W := 0) (rm5 l Z a0 hw [] G b17 b10 (if (p6 &&& (1 : Int32)) = (0 : Int32) then p4 else p1) p1 (if (p6 &&& (4 : Int32)) = (0 : Int32) then q5 else q2) q2 (f1 w_INT8 w_UINT8 w_BOOL w_UINT16 w_UINT64 w_UINT32 w_INT32 w_INT16 w_INT64 (if (p6 &&& (2 : Int32)) = (0 : Int32) then (((p6.toUInt32 >>> ((8 : Int32) &&& 31).toUInt32).toInt32) % (9 : Int32)) else ((p3 &&& (2147483647 : Int32)) % (9 : Int32)))) (f1 w_INT8 w_UINT8 w_BOOL w_UINT16 w_UINT64 w_UINT32 w_INT32 w_INT16 w_INT64 ((p3 &&& (2147483647 : Int32)) % (9 : Int32))) T19.heap n0 O19 (OKeep.exa ((OKeep.exa A10 K12).ext E17) K19) Fo19_0 F25 (Eq.symm hs20) Fo19_1 F26 (Eq.symm hs21) Fo19_2 F27 (Rf18_0.ext O19.2) (Rf11_0.ext O19.2) (Eq.symm (congrArg (f1 w_INT8 w_UINT8 w_BOOL w_UINT16 w_UINT64 w_UINT32 w_INT32 w_INT16 w_INT64) hs22))) hZ (ow hw 32 rfl) (ow hw 3 rfl) (by decide) (by decide)) q28a q28c (g := (mkF m 205 #[.val (.int p1), .val (.long q2), .second, .val (.int p3), .val (.int p4), .val (.long q5), .second, .val (.int p6), .val (.int ((p3 &&& (2147483647 : Int32)) % (9 : Int32))), .val (.int (if (p6 &&& (2 : Int32)) = (0 : Int32) then (((p6.toUInt32 >>> ((8 : Int32) &&& 31).toUInt32).toInt32) % (9 : Int32)) else ((p3 &&& (2147483647 : Int32)) % (9 : Int32)))), .val (.int (if (p6 &&& (1 : Int32)) = (0 : Int32) then p4 else p1)), .val (.long (if (p6 &&& (4 : Int32)) = (0 : Int32) then q5 else q2)), .second, .val (.ref b10), .val (.int (0 : Int32)), .val (.ref b17), .val (.int (1 : Int32))] [(.ref b10), (.ref b17)])) rfl (by rw [hml]; rfl) (Steps.refl _) (argsL := [(.ref b10)]) (rest := []) (lenOf pd_3 rfl) rfl (by show 2 * 0 + _ ≤ _; exact Nat.le_of_eq rfl) (hb hby at_205) (fun _ _ => ⟨rfl, e23, (by decide : 2 + 0 ≤ _), (by decide : 6 + 0 ≤ _)⟩)
          dsimp only [Pt.U, Pt.locs, Pt.cells, Pt.slots] at X28 l28 y28 z28 st28 hQ28
          subst l28 y28 z28
          obtain ⟨rfl, N28q, e28⟩ := hQ28
          have N28 := Fr.app N23 N28q
          refine OGot.on st28 ?_
          show OGot p.tables e below (T28.setTop (mkF m 208 #[.val (.int p1), .val (.long q2), .second, .val (.int p3), .val (.int p4), .val (.long q5), .second, .val (.int p6), .val (.int ((p3 &&& (2147483647 : Int32)) % (9 : Int32))), .val (.int (if (p6 &&& (2 : Int32)) = (0 : Int32) then (((p6.toUInt32 >>> ((8 : Int32) &&& 31).toUInt32).toInt32) % (9 : Int32)) else ((p3 &&& (2147483647 : Int32)) % (9 : Int32)))), .val (.int (if (p6 &&& (1 : Int32)) = (0 : Int32) then p4 else p1)), .val (.long (if (p6 &&& (4 : Int32)) = (0 : Int32) then q5 else q2)), .second, .val (.ref b10), .val (.int (0 : Int32)), .val (.ref b17), .val (.int (1 : Int32))] [(.int (1 : Int32))])) _
          refine OGot.go (fun t k => XS.iload X28.here hx rfl (hb hby at_208) rfl k) ?_
          show OGot p.tables e below (T28.setTop (mkF m 210 #[.val (.int p1), .val (.long q2), .second, .val (.int p3), .val (.int p4), .val (.long q5), .second, .val (.int p6), .val (.int ((p3 &&& (2147483647 : Int32)) % (9 : Int32))), .val (.int (if (p6 &&& (2 : Int32)) = (0 : Int32) then (((p6.toUInt32 >>> ((8 : Int32) &&& 31).toUInt32).toInt32) % (9 : Int32)) else ((p3 &&& (2147483647 : Int32)) % (9 : Int32)))), .val (.int (if (p6 &&& (1 : Int32)) = (0 : Int32) then p4 else p1)), .val (.long (if (p6 &&& (4 : Int32)) = (0 : Int32) then q5 else q2)), .second, .val (.ref b10), .val (.int (0 : Int32)), .val (.ref b17), .val (.int (1 : Int32))] [(.int (1 : Int32)), (.int (1 : Int32))])) _
          refine OGot.go (fun t k => XS.icmpNo X28.here hx rfl (hb hby at_210) rfl (by decide) k) ?_
          show OGot p.tables e below (T28.setTop (mkF m 213 #[.val (.int p1), .val (.long q2), .second, .val (.int p3), .val (.int p4), .val (.long q5), .second, .val (.int p6), .val (.int ((p3 &&& (2147483647 : Int32)) % (9 : Int32))), .val (.int (if (p6 &&& (2 : Int32)) = (0 : Int32) then (((p6.toUInt32 >>> ((8 : Int32) &&& 31).toUInt32).toInt32) % (9 : Int32)) else ((p3 &&& (2147483647 : Int32)) % (9 : Int32)))), .val (.int (if (p6 &&& (1 : Int32)) = (0 : Int32) then p4 else p1)), .val (.long (if (p6 &&& (4 : Int32)) = (0 : Int32) then q5 else q2)), .second, .val (.ref b10), .val (.int (0 : Int32)), .val (.ref b17), .val (.int (1 : Int32))] [])) _
          refine OGot.go (fun t k => XS.iconst X28.here hx rfl (hb hby at_213) k) ?_
          show OGot p.tables e below (T28.setTop (mkF m 214 #[.val (.int p1), .val (.long q2), .second, .val (.int p3), .val (.int p4), .val (.long q5), .second, .val (.int p6), .val (.int ((p3 &&& (2147483647 : Int32)) % (9 : Int32))), .val (.int (if (p6 &&& (2 : Int32)) = (0 : Int32) then (((p6.toUInt32 >>> ((8 : Int32) &&& 31).toUInt32).toInt32) % (9 : Int32)) else ((p3 &&& (2147483647 : Int32)) % (9 : Int32)))), .val (.int (if (p6 &&& (1 : Int32)) = (0 : Int32) then p4 else p1)), .val (.long (if (p6 &&& (4 : Int32)) = (0 : Int32) then q5 else q2)), .second, .val (.ref b10), .val (.int (0 : Int32)), .val (.ref b17), .val (.int (1 : Int32))] [(.int (1 : Int32))])) _
          refine OGot.go (fun t k => XS.goto X28.here hx rfl (pc0 := 214) (pc' := 218) rfl (hb hby at_214) (by decide) (by decide) k) ?_
          show OGot p.tables e below (T28.setTop (mkF m 218 #[.val (.int p1), .val (.long q2), .second, .val (.int p3), .val (.int p4), .val (.long q5), .second, .val (.int p6), .val (.int ((p3 &&& (2147483647 : Int32)) % (9 : Int32))), .val (.int (if (p6 &&& (2 : Int32)) = (0 : Int32) then (((p6.toUInt32 >>> ((8 : Int32) &&& 31).toUInt32).toInt32) % (9 : Int32)) else ((p3 &&& (2147483647 : Int32)) % (9 : Int32)))), .val (.int (if (p6 &&& (1 : Int32)) = (0 : Int32) then p4 else p1)), .val (.long (if (p6 &&& (4 : Int32)) = (0 : Int32) then q5 else q2)), .second, .val (.ref b10), .val (.int (0 : Int32)), .val (.ref b17), .val (.int (1 : Int32))] [(.int (1 : Int32))])) _
          obtain ⟨fs, hr, hrun, hended, hW, hsame⟩ := X28.leave (v := some (.int (1 : Int32))) (fun h => by rw [Bd.returns] at h; cases h)
          refine ⟨_, _, retN X28 hx (t := .boolean) Bd.returns (by simp) (hb hby at_218) hr, hrun, hended, _, _, rfl, ?_, ⟨_, rfl⟩, hW, hsame.mono (by decide) (by decide)⟩
          exact (⟨rfl, N28⟩ : Q0 Z w_INT8 w_UINT8 w_BOOL w_UINT16 w_UINT64 w_UINT32 w_INT32 w_INT16 w_INT64 w_cache cl_w_cache p1 q2 p3 p4 q5 p6 h0 n0 _ T28.heap _)
        · refine OGot.go (fun t k => XS.icmpYes X19.here hx rfl (pc0 := 179) (pc' := 186) rfl (hb hby at_179) rfl (feq hs22).2 (by decide) (by decide) k) ?_
          show OGot p.tables e below (T19.setTop (mkF m 186 #[.val (.int p1), .val (.long q2), .second, .val (.int p3), .val (.int p4), .val (.long q5), .second, .val (.int p6), .val (.int ((p3 &&& (2147483647 : Int32)) % (9 : Int32))), .val (.int (if (p6 &&& (2 : Int32)) = (0 : Int32) then (((p6.toUInt32 >>> ((8 : Int32) &&& 31).toUInt32).toInt32) % (9 : Int32)) else ((p3 &&& (2147483647 : Int32)) % (9 : Int32)))), .val (.int (if (p6 &&& (1 : Int32)) = (0 : Int32) then p4 else p1)), .val (.long (if (p6 &&& (4 : Int32)) = (0 : Int32) then q5 else q2)), .second, .val (.ref b10), .val (.int (0 : Int32)), .val (.ref b17), .unset] [])) _
          refine OGot.go (fun t k => XS.iconst X19.here hx rfl (hb hby at_186) k) ?_
          show OGot p.tables e below (T19.setTop (mkF m 187 #[.val (.int p1), .val (.long q2), .second, .val (.int p3), .val (.int p4), .val (.long q5), .second, .val (.int p6), .val (.int ((p3 &&& (2147483647 : Int32)) % (9 : Int32))), .val (.int (if (p6 &&& (2 : Int32)) = (0 : Int32) then (((p6.toUInt32 >>> ((8 : Int32) &&& 31).toUInt32).toInt32) % (9 : Int32)) else ((p3 &&& (2147483647 : Int32)) % (9 : Int32)))), .val (.int (if (p6 &&& (1 : Int32)) = (0 : Int32) then p4 else p1)), .val (.long (if (p6 &&& (4 : Int32)) = (0 : Int32) then q5 else q2)), .second, .val (.ref b10), .val (.int (0 : Int32)), .val (.ref b17), .unset] [(.int (0 : Int32))])) _
          refine OGot.go (fun t k => XS.istore X19.here hx rfl (hb hby at_187) rfl (l' := #[.val (.int p1), .val (.long q2), .second, .val (.int p3), .val (.int p4), .val (.long q5), .second, .val (.int p6), .val (.int ((p3 &&& (2147483647 : Int32)) % (9 : Int32))), .val (.int (if (p6 &&& (2 : Int32)) = (0 : Int32) then (((p6.toUInt32 >>> ((8 : Int32) &&& 31).toUInt32).toInt32) % (9 : Int32)) else ((p3 &&& (2147483647 : Int32)) % (9 : Int32)))), .val (.int (if (p6 &&& (1 : Int32)) = (0 : Int32) then p4 else p1)), .val (.long (if (p6 &&& (4 : Int32)) = (0 : Int32) then q5 else q2)), .second, .val (.ref b10), .val (.int (0 : Int32)), .val (.ref b17), .val (.int (0 : Int32))]) rfl k) ?_
          show OGot p.tables e below (T19.setTop (mkF m 189 #[.val (.int p1), .val (.long q2), .second, .val (.int p3), .val (.int p4), .val (.long q5), .second, .val (.int p6), .val (.int ((p3 &&& (2147483647 : Int32)) % (9 : Int32))), .val (.int (if (p6 &&& (2 : Int32)) = (0 : Int32) then (((p6.toUInt32 >>> ((8 : Int32) &&& 31).toUInt32).toInt32) % (9 : Int32)) else ((p3 &&& (2147483647 : Int32)) % (9 : Int32)))), .val (.int (if (p6 &&& (1 : Int32)) = (0 : Int32) then p4 else p1)), .val (.long (if (p6 &&& (4 : Int32)) = (0 : Int32) then q5 else q2)), .second, .val (.ref b10), .val (.int (0 : Int32)), .val (.ref b17), .val (.int (0 : Int32))] [])) _
          refine OGot.go (fun t k => XS.aload X19.here hx rfl (hb hby at_189) rfl rfl k) ?_
          show OGot p.tables e below (T19.setTop (mkF m 191 #[.val (.int p1), .val (.long q2), .second, .val (.int p3), .val (.int p4), .val (.long q5), .second, .val (.int p6), .val (.int ((p3 &&& (2147483647 : Int32)) % (9 : Int32))), .val (.int (if (p6 &&& (2 : Int32)) = (0 : Int32) then (((p6.toUInt32 >>> ((8 : Int32) &&& 31).toUInt32).toInt32) % (9 : Int32)) else ((p3 &&& (2147483647 : Int32)) % (9 : Int32)))), .val (.int (if (p6 &&& (1 : Int32)) = (0 : Int32) then p4 else p1)), .val (.long (if (p6 &&& (4 : Int32)) = (0 : Int32) then q5 else q2)), .second, .val (.ref b10), .val (.int (0 : Int32)), .val (.ref b17), .val (.int (0 : Int32))] [(.ref b10)])) _
          refine OGot.go (fun t k => XS.aload X19.here hx rfl (hb hby at_191) rfl rfl k) ?_
          show OGot p.tables e below (T19.setTop (mkF m 193 #[.val (.int p1), .val (.long q2), .second, .val (.int p3), .val (.int p4), .val (.long q5), .second, .val (.int p6), .val (.int ((p3 &&& (2147483647 : Int32)) % (9 : Int32))), .val (.int (if (p6 &&& (2 : Int32)) = (0 : Int32) then (((p6.toUInt32 >>> ((8 : Int32) &&& 31).toUInt32).toInt32) % (9 : Int32)) else ((p3 &&& (2147483647 : Int32)) % (9 : Int32)))), .val (.int (if (p6 &&& (1 : Int32)) = (0 : Int32) then p4 else p1)), .val (.long (if (p6 &&& (4 : Int32)) = (0 : Int32) then q5 else q2)), .second, .val (.ref b10), .val (.int (0 : Int32)), .val (.ref b17), .val (.int (0 : Int32))] [(.ref b17), (.ref b10)])) _
          have ne30 : b10 ≠ b17 := (Nat.ne_of_lt (Nat.lt_of_lt_of_le (Nat.lt_of_lt_of_le A10.lt K12.1) sy_b17))
          have F31 : Fld Z T19.heap b10 "com/example/muster/muster/analysis/Value$Symbolic" "symbol" "I" (.int p1) := (OKeep.fld (Fo12_0.ext E17) K19 (oninA ne30 (oninA ne30 (oninA ne30 onin0))))
          have F32 : Fld Z T19.heap b10 "com/example/muster/muster/analysis/Value$Symbolic" "offset" "J" (.long q2) := (OKeep.fld (Fo12_1.ext E17) K19 (oninA ne30 (oninA ne30 (oninA ne30 onin0))))
          have F33 : Fld Z T19.heap b10 "com/example/muster/muster/analysis/Value$Symbolic" "type" "Lcom/example/muster/muster/model/IntegerType;" (.ref (f1 w_INT8 w_UINT8 w_BOOL w_UINT16 w_UINT64 w_UINT32 w_INT32 w_INT16 w_INT64 ((p3 &&& (2147483647 : Int32)) % (9 : Int32)))) := (OKeep.fld (Fo12_2.ext E17) K19 (oninA ne30 (oninA ne30 (oninA ne30 onin0))))
          obtain ⟨cq29, kq29, q29a, q29b, q29c⟩ := isOf hZ rfl (OKeep.exa ((OKeep.exa A10 K12).ext E17) K19)
          obtain ⟨_, _, ⟨T29, L29, k29, n29⟩, -, X29, ⟨Lc29, hQ29, l29, y29, z29⟩, st29⟩ := X19.virtualBack hx (y := (⟨"com/example/muster/muster/analysis/Value$Symbolic", "equals", "(Ljava/lang/Object;)Z"⟩ : MethodName)) (z := (⟨"com/example/muster/muster/analysis/Value$Symbolic", "equals", "(Ljava/lang/Object;)Z"⟩ : MethodName)) hown (mvT hZ (ow hw 28 rfl)) (mvT hZ (ow hw 29 rfl)) (notFace_of_selects (args := #[]) (mvT hZ (ow hw 31 rfl))) (mvT hZ (ow hw 31 rfl)) (mvT hZ (ow hw 30 rfl)) (by decide) (backOf (W := 0) (rm5_1 l Z a0 hw [] G b10 b17 p1 (if (p6 &&& (1 : Int32)) = (0 : Int32) then p4 else p1) q2 (if (p6 &&& (4 : Int32)) = (0 : Int32) then q5 else q2) (f1 w_INT8 w_UINT8 w_BOOL w_UINT16 w_UINT64 w_UINT32 w_INT32 w_INT16 w_INT64 ((p3 &&& (2147483647 : Int32)) % (9 : Int32))) (f1 w_INT8 w_UINT8 w_BOOL w_UINT16 w_UINT64 w_UINT32 w_INT32 w_INT16 w_INT64 (if (p6 &&& (2 : Int32)) = (0 : Int32) then (((p6.toUInt32 >>> ((8 : Int32) &&& 31).toUInt32).toInt32) % (9 : Int32)) else ((p3 &&& (2147483647 : Int32)) % (9 : Int32)))) T19.heap n0 O19 (OKeep.exa A17 K19) F31 Fo19_0 hs20 F32 Fo19_1 hs21 F33 Fo19_2 (Rf11_0.ext O19.2) (Rf18_0.ext O19.2) (own_inj G (own_rem9 p3) (own_ite (own_rem9u p6) (own_rem9 p3)) hs22)) hZ (ow hw 32 rfl) (ow hw 3 rfl) (by decide) (by decide)) q29a q29c (g := (mkF m 193 #[.val (.int p1), .val (.long q2), .second, .val (.int p3), .val (.int p4), .val (.long q5), .second, .val (.int p6), .val (.int ((p3 &&& (2147483647 : Int32)) % (9 : Int32))), .val (.int (if (p6 &&& (2 : Int32)) = (0 : Int32) then (((p6.toUInt32 >>> ((8 : Int32) &&& 31).toUInt32).toInt32) % (9 : Int32)) else ((p3 &&& (2147483647 : Int32)) % (9 : Int32)))), .val (.int (if (p6 &&& (1 : Int32)) = (0 : Int32) then p4 else p1)), .val (.long (if (p6 &&& (4 : Int32)) = (0 : Int32) then q5 else q2)), .second, .val (.ref b10), .val (.int (0 : Int32)), .val (.ref b17), .val (.int (0 : Int32))] [(.ref b17), (.ref b10)])) rfl (by rw [hml]; rfl) (Steps.refl _) (argsL := [(.ref b17)]) (rest := []) (lenOf pd_3 rfl) rfl (by show 2 * 0 + _ ≤ _; exact Nat.le_of_eq rfl) (hb hby at_193) (fun _ _ => ⟨rfl, rfl, (by decide : 2 + 0 ≤ _), (by decide : 6 + 0 ≤ _)⟩)
          dsimp only [Pt.U, Pt.locs, Pt.cells, Pt.slots] at X29 l29 y29 z29 st29 hQ29
          subst l29 y29 z29
          obtain ⟨rfl, N29q, e29⟩ := hQ29
          have N29 := Fr.app N19 N29q
          refine OGot.on st29 ?_
          show OGot p.tables e below (T29.setTop (mkF m 196 #[.val (.int p1), .val (.long q2), .second, .val (.int p3), .val (.int p4), .val (.long q5), .second, .val (.int p6), .val (.int ((p3 &&& (2147483647 : Int32)) % (9 : Int32))), .val (.int (if (p6 &&& (2 : Int32)) = (0 : Int32) then (((p6.toUInt32 >>> ((8 : Int32) &&& 31).toUInt32).toInt32) % (9 : Int32)) else ((p3 &&& (2147483647 : Int32)) % (9 : Int32)))), .val (.int (if (p6 &&& (1 : Int32)) = (0 : Int32) then p4 else p1)), .val (.long (if (p6 &&& (4 : Int32)) = (0 : Int32) then q5 else q2)), .second, .val (.ref b10), .val (.int (0 : Int32)), .val (.ref b17), .val (.int (0 : Int32))] [(.int (0 : Int32))])) _
          refine OGot.go (fun t k => XS.iload X29.here hx rfl (hb hby at_196) rfl k) ?_
          show OGot p.tables e below (T29.setTop (mkF m 198 #[.val (.int p1), .val (.long q2), .second, .val (.int p3), .val (.int p4), .val (.long q5), .second, .val (.int p6), .val (.int ((p3 &&& (2147483647 : Int32)) % (9 : Int32))), .val (.int (if (p6 &&& (2 : Int32)) = (0 : Int32) then (((p6.toUInt32 >>> ((8 : Int32) &&& 31).toUInt32).toInt32) % (9 : Int32)) else ((p3 &&& (2147483647 : Int32)) % (9 : Int32)))), .val (.int (if (p6 &&& (1 : Int32)) = (0 : Int32) then p4 else p1)), .val (.long (if (p6 &&& (4 : Int32)) = (0 : Int32) then q5 else q2)), .second, .val (.ref b10), .val (.int (0 : Int32)), .val (.ref b17), .val (.int (0 : Int32))] [(.int (0 : Int32)), (.int (0 : Int32))])) _
          refine OGot.go (fun t k => XS.icmpNo X29.here hx rfl (hb hby at_198) rfl (by decide) k) ?_
          show OGot p.tables e below (T29.setTop (mkF m 201 #[.val (.int p1), .val (.long q2), .second, .val (.int p3), .val (.int p4), .val (.long q5), .second, .val (.int p6), .val (.int ((p3 &&& (2147483647 : Int32)) % (9 : Int32))), .val (.int (if (p6 &&& (2 : Int32)) = (0 : Int32) then (((p6.toUInt32 >>> ((8 : Int32) &&& 31).toUInt32).toInt32) % (9 : Int32)) else ((p3 &&& (2147483647 : Int32)) % (9 : Int32)))), .val (.int (if (p6 &&& (1 : Int32)) = (0 : Int32) then p4 else p1)), .val (.long (if (p6 &&& (4 : Int32)) = (0 : Int32) then q5 else q2)), .second, .val (.ref b10), .val (.int (0 : Int32)), .val (.ref b17), .val (.int (0 : Int32))] [])) _
          refine OGot.go (fun t k => XS.aload X29.here hx rfl (hb hby at_201) rfl rfl k) ?_
          show OGot p.tables e below (T29.setTop (mkF m 203 #[.val (.int p1), .val (.long q2), .second, .val (.int p3), .val (.int p4), .val (.long q5), .second, .val (.int p6), .val (.int ((p3 &&& (2147483647 : Int32)) % (9 : Int32))), .val (.int (if (p6 &&& (2 : Int32)) = (0 : Int32) then (((p6.toUInt32 >>> ((8 : Int32) &&& 31).toUInt32).toInt32) % (9 : Int32)) else ((p3 &&& (2147483647 : Int32)) % (9 : Int32)))), .val (.int (if (p6 &&& (1 : Int32)) = (0 : Int32) then p4 else p1)), .val (.long (if (p6 &&& (4 : Int32)) = (0 : Int32) then q5 else q2)), .second, .val (.ref b10), .val (.int (0 : Int32)), .val (.ref b17), .val (.int (0 : Int32))] [(.ref b17)])) _
          refine OGot.go (fun t k => XS.aload X29.here hx rfl (hb hby at_203) rfl rfl k) ?_
          show OGot p.tables e below (T29.setTop (mkF m 205 #[.val (.int p1), .val (.long q2), .second, .val (.int p3), .val (.int p4), .val (.long q5), .second, .val (.int p6), .val (.int ((p3 &&& (2147483647 : Int32)) % (9 : Int32))), .val (.int (if (p6 &&& (2 : Int32)) = (0 : Int32) then (((p6.toUInt32 >>> ((8 : Int32) &&& 31).toUInt32).toInt32) % (9 : Int32)) else ((p3 &&& (2147483647 : Int32)) % (9 : Int32)))), .val (.int (if (p6 &&& (1 : Int32)) = (0 : Int32) then p4 else p1)), .val (.long (if (p6 &&& (4 : Int32)) = (0 : Int32) then q5 else q2)), .second, .val (.ref b10), .val (.int (0 : Int32)), .val (.ref b17), .val (.int (0 : Int32))] [(.ref b10), (.ref b17)])) _
          obtain ⟨cq34, kq34, q34a, q34b, q34c⟩ := isOf hZ e29 (OKeep.exa A17 K19)
          obtain ⟨_, _, ⟨T34, L34, k34, n34⟩, -, X34, ⟨Lc34, hQ34, l34, y34, z34⟩, st34⟩ := X29.virtualBack hx (y := (⟨"com/example/muster/muster/analysis/Value$Symbolic", "equals", "(Ljava/lang/Object;)Z"⟩ : MethodName)) (z := (⟨"com/example/muster/muster/analysis/Value$Symbolic", "equals", "(Ljava/lang/Object;)Z"⟩ : MethodName)) hown (mvT hZ (ow hw 28 rfl)) (mvT hZ (ow hw 29 rfl)) (notFace_of_selects (args := #[]) (mvT hZ (ow hw 31 rfl))) (mvT hZ (ow hw 31 rfl)) (mvT hZ (ow hw 30 rfl)) (by decide) (backOf (W := 0) (rm5_1 l Z a0 hw [] G b17 b10 (if (p6 &&& (1 : Int32)) = (0 : Int32) then p4 else p1) p1 (if (p6 &&& (4 : Int32)) = (0 : Int32) then q5 else q2) q2 (f1 w_INT8 w_UINT8 w_BOOL w_UINT16 w_UINT64 w_UINT32 w_INT32 w_INT16 w_INT64 (if (p6 &&& (2 : Int32)) = (0 : Int32) then (((p6.toUInt32 >>> ((8 : Int32) &&& 31).toUInt32).toInt32) % (9 : Int32)) else ((p3 &&& (2147483647 : Int32)) % (9 : Int32)))) (f1 w_INT8 w_UINT8 w_BOOL w_UINT16 w_UINT64 w_UINT32 w_INT32 w_INT16 w_INT64 ((p3 &&& (2147483647 : Int32)) % (9 : Int32))) T19.heap n0 O19 (OKeep.exa ((OKeep.exa A10 K12).ext E17) K19) Fo19_0 F31 (Eq.symm hs20) Fo19_1 F32 (Eq.symm hs21) Fo19_2 F33 (Rf18_0.ext O19.2) (Rf11_0.ext O19.2) (Ne.symm (own_inj G (own_rem9 p3) (own_ite (own_rem9u p6) (own_rem9 p3)) hs22))) hZ (ow hw 32 rfl) (ow hw 3 rfl) (by decide) (by decide)) q34a q34c (g := (mkF m 205 #[.val (.int p1), .val (.long q2), .second, .val (.int p3), .val (.int p4), .val (.long q5), .second, .val (.int p6), .val (.int ((p3 &&& (2147483647 : Int32)) % (9 : Int32))), .val (.int (if (p6 &&& (2 : Int32)) = (0 : Int32) then (((p6.toUInt32 >>> ((8 : Int32) &&& 31).toUInt32).toInt32) % (9 : Int32)) else ((p3 &&& (2147483647 : Int32)) % (9 : Int32)))), .val (.int (if (p6 &&& (1 : Int32)) = (0 : Int32) then p4 else p1)), .val (.long (if (p6 &&& (4 : Int32)) = (0 : Int32) then q5 else q2)), .second, .val (.ref b10), .val (.int (0 : Int32)), .val (.ref b17), .val (.int (0 : Int32))] [(.ref b10), (.ref b17)])) rfl (by rw [hml]; rfl) (Steps.refl _) (argsL := [(.ref b10)]) (rest := []) (lenOf pd_3 rfl) rfl (by show 2 * 0 + _ ≤ _; exact Nat.le_of_eq rfl) (hb hby at_205) (fun _ _ => ⟨rfl, e29, (by decide : 2 + 0 ≤ _), (by decide : 6 + 0 ≤ _)⟩)
          dsimp only [Pt.U, Pt.locs, Pt.cells, Pt.slots] at X34 l34 y34 z34 st34 hQ34
          subst l34 y34 z34
          obtain ⟨rfl, N34q, e34⟩ := hQ34
          have N34 := Fr.app N29 N34q
          refine OGot.on st34 ?_
          show OGot p.tables e below (T34.setTop (mkF m 208 #[.val (.int p1), .val (.long q2), .second, .val (.int p3), .val (.int p4), .val (.long q5), .second, .val (.int p6), .val (.int ((p3 &&& (2147483647 : Int32)) % (9 : Int32))), .val (.int (if (p6 &&& (2 : Int32)) = (0 : Int32) then (((p6.toUInt32 >>> ((8 : Int32) &&& 31).toUInt32).toInt32) % (9 : Int32)) else ((p3 &&& (2147483647 : Int32)) % (9 : Int32)))), .val (.int (if (p6 &&& (1 : Int32)) = (0 : Int32) then p4 else p1)), .val (.long (if (p6 &&& (4 : Int32)) = (0 : Int32) then q5 else q2)), .second, .val (.ref b10), .val (.int (0 : Int32)), .val (.ref b17), .val (.int (0 : Int32))] [(.int (0 : Int32))])) _
          refine OGot.go (fun t k => XS.iload X34.here hx rfl (hb hby at_208) rfl k) ?_
          show OGot p.tables e below (T34.setTop (mkF m 210 #[.val (.int p1), .val (.long q2), .second, .val (.int p3), .val (.int p4), .val (.long q5), .second, .val (.int p6), .val (.int ((p3 &&& (2147483647 : Int32)) % (9 : Int32))), .val (.int (if (p6 &&& (2 : Int32)) = (0 : Int32) then (((p6.toUInt32 >>> ((8 : Int32) &&& 31).toUInt32).toInt32) % (9 : Int32)) else ((p3 &&& (2147483647 : Int32)) % (9 : Int32)))), .val (.int (if (p6 &&& (1 : Int32)) = (0 : Int32) then p4 else p1)), .val (.long (if (p6 &&& (4 : Int32)) = (0 : Int32) then q5 else q2)), .second, .val (.ref b10), .val (.int (0 : Int32)), .val (.ref b17), .val (.int (0 : Int32))] [(.int (0 : Int32)), (.int (0 : Int32))])) _
          refine OGot.go (fun t k => XS.icmpNo X34.here hx rfl (hb hby at_210) rfl (by decide) k) ?_
          show OGot p.tables e below (T34.setTop (mkF m 213 #[.val (.int p1), .val (.long q2), .second, .val (.int p3), .val (.int p4), .val (.long q5), .second, .val (.int p6), .val (.int ((p3 &&& (2147483647 : Int32)) % (9 : Int32))), .val (.int (if (p6 &&& (2 : Int32)) = (0 : Int32) then (((p6.toUInt32 >>> ((8 : Int32) &&& 31).toUInt32).toInt32) % (9 : Int32)) else ((p3 &&& (2147483647 : Int32)) % (9 : Int32)))), .val (.int (if (p6 &&& (1 : Int32)) = (0 : Int32) then p4 else p1)), .val (.long (if (p6 &&& (4 : Int32)) = (0 : Int32) then q5 else q2)), .second, .val (.ref b10), .val (.int (0 : Int32)), .val (.ref b17), .val (.int (0 : Int32))] [])) _
          refine OGot.go (fun t k => XS.iconst X34.here hx rfl (hb hby at_213) k) ?_
          show OGot p.tables e below (T34.setTop (mkF m 214 #[.val (.int p1), .val (.long q2), .second, .val (.int p3), .val (.int p4), .val (.long q5), .second, .val (.int p6), .val (.int ((p3 &&& (2147483647 : Int32)) % (9 : Int32))), .val (.int (if (p6 &&& (2 : Int32)) = (0 : Int32) then (((p6.toUInt32 >>> ((8 : Int32) &&& 31).toUInt32).toInt32) % (9 : Int32)) else ((p3 &&& (2147483647 : Int32)) % (9 : Int32)))), .val (.int (if (p6 &&& (1 : Int32)) = (0 : Int32) then p4 else p1)), .val (.long (if (p6 &&& (4 : Int32)) = (0 : Int32) then q5 else q2)), .second, .val (.ref b10), .val (.int (0 : Int32)), .val (.ref b17), .val (.int (0 : Int32))] [(.int (1 : Int32))])) _
          refine OGot.go (fun t k => XS.goto X34.here hx rfl (pc0 := 214) (pc' := 218) rfl (hb hby at_214) (by decide) (by decide) k) ?_
          show OGot p.tables e below (T34.setTop (mkF m 218 #[.val (.int p1), .val (.long q2), .second, .val (.int p3), .val (.int p4), .val (.long q5), .second, .val (.int p6), .val (.int ((p3 &&& (2147483647 : Int32)) % (9 : Int32))), .val (.int (if (p6 &&& (2 : Int32)) = (0 : Int32) then (((p6.toUInt32 >>> ((8 : Int32) &&& 31).toUInt32).toInt32) % (9 : Int32)) else ((p3 &&& (2147483647 : Int32)) % (9 : Int32)))), .val (.int (if (p6 &&& (1 : Int32)) = (0 : Int32) then p4 else p1)), .val (.long (if (p6 &&& (4 : Int32)) = (0 : Int32) then q5 else q2)), .second, .val (.ref b10), .val (.int (0 : Int32)), .val (.ref b17), .val (.int (0 : Int32))] [(.int (1 : Int32))])) _
          obtain ⟨fs, hr, hrun, hended, hW, hsame⟩ := X34.leave (v := some (.int (1 : Int32))) (fun h => by rw [Bd.returns] at h; cases h)
          refine ⟨_, _, retN X34 hx (t := .boolean) Bd.returns (by simp) (hb hby at_218) hr, hrun, hended, _, _, rfl, ?_, ⟨_, rfl⟩, hW, hsame.mono (by decide) (by decide)⟩
          exact (⟨rfl, N34⟩ : Q0 Z w_INT8 w_UINT8 w_BOOL w_UINT16 w_UINT64 w_UINT32 w_INT32 w_INT16 w_INT64 w_cache cl_w_cache p1 q2 p3 p4 q5 p6 h0 n0 _ T34.heap _)
      · refine OGot.go (fun t k => XS.ifYes X19.here hx rfl (pc0 := 172) (pc' := 186) rfl (hb hby at_172) rfl ((if0 _ _).trans (feq (fun q => hs21 ((lw_eq q2 (if (p6 &&& (4 : Int32)) = (0 : Int32) then q5 else q2)).mp q))).2) (by decide) (by decide) k) ?_
        show OGot p.tables e below (T19.setTop (mkF m 186 #[.val (.int p1), .val (.long q2), .second, .val (.int p3), .val (.int p4), .val (.long q5), .second, .val (.int p6), .val (.int ((p3 &&& (2147483647 : Int32)) % (9 : Int32))), .val (.int (if (p6 &&& (2 : Int32)) = (0 : Int32) then (((p6.toUInt32 >>> ((8 : Int32) &&& 31).toUInt32).toInt32) % (9 : Int32)) else ((p3 &&& (2147483647 : Int32)) % (9 : Int32)))), .val (.int (if (p6 &&& (1 : Int32)) = (0 : Int32) then p4 else p1)), .val (.long (if (p6 &&& (4 : Int32)) = (0 : Int32) then q5 else q2)), .second, .val (.ref b10), .val (.int (0 : Int32)), .val (.ref b17), .unset] [])) _
        refine OGot.go (fun t k => XS.iconst X19.here hx rfl (hb hby at_186) k) ?_
        show OGot p.tables e below (T19.setTop (mkF m 187 #[.val (.int p1), .val (.long q2), .second, .val (.int p3), .val (.int p4), .val (.long q5), .second, .val (.int p6), .val (.int ((p3 &&& (2147483647 : Int32)) % (9 : Int32))), .val (.int (if (p6 &&& (2 : Int32)) = (0 : Int32) then (((p6.toUInt32 >>> ((8 : Int32) &&& 31).toUInt32).toInt32) % (9 : Int32)) else ((p3 &&& (2147483647 : Int32)) % (9 : Int32)))), .val (.int (if (p6 &&& (1 : Int32)) = (0 : Int32) then p4 else p1)), .val (.long (if (p6 &&& (4 : Int32)) = (0 : Int32) then q5 else q2)), .second, .val (.ref b10), .val (.int (0 : Int32)), .val (.ref b17), .unset] [(.int (0 : Int32))])) _
        refine OGot.go (fun t k => XS.istore X19.here hx rfl (hb hby at_187) rfl (l' := #[.val (.int p1), .val (.long q2), .second, .val (.int p3), .val (.int p4), .val (.long q5), .second, .val (.int p6), .val (.int ((p3 &&& (2147483647 : Int32)) % (9 : Int32))), .val (.int (if (p6 &&& (2 : Int32)) = (0 : Int32) then (((p6.toUInt32 >>> ((8 : Int32) &&& 31).toUInt32).toInt32) % (9 : Int32)) else ((p3 &&& (2147483647 : Int32)) % (9 : Int32)))), .val (.int (if (p6 &&& (1 : Int32)) = (0 : Int32) then p4 else p1)), .val (.long (if (p6 &&& (4 : Int32)) = (0 : Int32) then q5 else q2)), .second, .val (.ref b10), .val (.int (0 : Int32)), .val (.ref b17), .val (.int (0 : Int32))]) rfl k) ?_
        show OGot p.tables e below (T19.setTop (mkF m 189 #[.val (.int p1), .val (.long q2), .second, .val (.int p3), .val (.int p4), .val (.long q5), .second, .val (.int p6), .val (.int ((p3 &&& (2147483647 : Int32)) % (9 : Int32))), .val (.int (if (p6 &&& (2 : Int32)) = (0 : Int32) then (((p6.toUInt32 >>> ((8 : Int32) &&& 31).toUInt32).toInt32) % (9 : Int32)) else ((p3 &&& (2147483647 : Int32)) % (9 : Int32)))), .val (.int (if (p6 &&& (1 : Int32)) = (0 : Int32) then p4 else p1)), .val (.long (if (p6 &&& (4 : Int32)) = (0 : Int32) then q5 else q2)), .second, .val (.ref b10), .val (.int (0 : Int32)), .val (.ref b17), .val (.int (0 : Int32))] [])) _
        refine OGot.go (fun t k => XS.aload X19.here hx rfl (hb hby at_189) rfl rfl k) ?_
        show OGot p.tables e below (T19.setTop (mkF m 191 #[.val (.int p1), .val (.long q2), .second, .val (.int p3), .val (.int p4), .val (.long q5), .second, .val (.int p6), .val (.int ((p3 &&& (2147483647 : Int32)) % (9 : Int32))), .val (.int (if (p6 &&& (2 : Int32)) = (0 : Int32) then (((p6.toUInt32 >>> ((8 : Int32) &&& 31).toUInt32).toInt32) % (9 : Int32)) else ((p3 &&& (2147483647 : Int32)) % (9 : Int32)))), .val (.int (if (p6 &&& (1 : Int32)) = (0 : Int32) then p4 else p1)), .val (.long (if (p6 &&& (4 : Int32)) = (0 : Int32) then q5 else q2)), .second, .val (.ref b10), .val (.int (0 : Int32)), .val (.ref b17), .val (.int (0 : Int32))] [(.ref b10)])) _
        refine OGot.go (fun t k => XS.aload X19.here hx rfl (hb hby at_191) rfl rfl k) ?_
        show OGot p.tables e below (T19.setTop (mkF m 193 #[.val (.int p1), .val (.long q2), .second, .val (.int p3), .val (.int p4), .val (.long q5), .second, .val (.int p6), .val (.int ((p3 &&& (2147483647 : Int32)) % (9 : Int32))), .val (.int (if (p6 &&& (2 : Int32)) = (0 : Int32) then (((p6.toUInt32 >>> ((8 : Int32) &&& 31).toUInt32).toInt32) % (9 : Int32)) else ((p3 &&& (2147483647 : Int32)) % (9 : Int32)))), .val (.int (if (p6 &&& (1 : Int32)) = (0 : Int32) then p4 else p1)), .val (.long (if (p6 &&& (4 : Int32)) = (0 : Int32) then q5 else q2)), .second, .val (.ref b10), .val (.int (0 : Int32)), .val (.ref b17), .val (.int (0 : Int32))] [(.ref b17), (.ref b10)])) _
        have ne36 : b10 ≠ b17 := (Nat.ne_of_lt (Nat.lt_of_lt_of_le (Nat.lt_of_lt_of_le A10.lt K12.1) sy_b17))
        have F37 : Fld Z T19.heap b10 "com/example/muster/muster/analysis/Value$Symbolic" "symbol" "I" (.int p1) := (OKeep.fld (Fo12_0.ext E17) K19 (oninA ne36 (oninA ne36 (oninA ne36 onin0))))
        have F38 : Fld Z T19.heap b10 "com/example/muster/muster/analysis/Value$Symbolic" "offset" "J" (.long q2) := (OKeep.fld (Fo12_1.ext E17) K19 (oninA ne36 (oninA ne36 (oninA ne36 onin0))))
        obtain ⟨cq35, kq35, q35a, q35b, q35c⟩ := isOf hZ rfl (OKeep.exa ((OKeep.exa A10 K12).ext E17) K19)
        obtain ⟨_, _, ⟨T35, L35, k35, n35⟩, -, X35, ⟨Lc35, hQ35, l35, y35, z35⟩, st35⟩ := X19.virtualBack hx (y := (⟨"com/example/muster/muster/analysis/Value$Symbolic", "equals", "(Ljava/lang/Object;)Z"⟩ : MethodName)) (z := (⟨"com/example/muster/muster/analysis/Value$Symbolic", "equals", "(Ljava/lang/Object;)Z"⟩ : MethodName)) hown (mvT hZ (ow hw 28 rfl)) (mvT hZ (ow hw 29 rfl)) (notFace_of_selects (args := #[]) (mvT hZ (ow hw 31 rfl))) (mvT hZ (ow hw 31 rfl)) (mvT hZ (ow hw 30 rfl)) (by decide) (backOf (W := 0) (rm5_2 l Z a0 hw [] G b10 b17 p1 (if (p6 &&& (1 : Int32)) = (0 : Int32) then p4 else p1) q2 (if (p6 &&& (4 : Int32)) = (0 : Int32) then q5 else q2) T19.heap n0 O19 (OKeep.exa A17 K19) F37 Fo19_0 hs20 F38 Fo19_1 hs21) hZ (ow hw 32 rfl) (ow hw 3 rfl) (by decide) (by decide)) q35a q35c (g := (mkF m 193 #[.val (.int p1), .val (.long q2), .second, .val (.int p3), .val (.int p4), .val (.long q5), .second, .val (.int p6), .val (.int ((p3 &&& (2147483647 : Int32)) % (9 : Int32))), .val (.int (if (p6 &&& (2 : Int32)) = (0 : Int32) then (((p6.toUInt32 >>> ((8 : Int32) &&& 31).toUInt32).toInt32) % (9 : Int32)) else ((p3 &&& (2147483647 : Int32)) % (9 : Int32)))), .val (.int (if (p6 &&& (1 : Int32)) = (0 : Int32) then p4 else p1)), .val (.long (if (p6 &&& (4 : Int32)) = (0 : Int32) then q5 else q2)), .second, .val (.ref b10), .val (.int (0 : Int32)), .val (.ref b17), .val (.int (0 : Int32))] [(.ref b17), (.ref b10)])) rfl (by rw [hml]; rfl) (Steps.refl _) (argsL := [(.ref b17)]) (rest := []) (lenOf pd_3 rfl) rfl (by show 2 * 0 + _ ≤ _; exact Nat.le_of_eq rfl) (hb hby at_193) (fun _ _ => ⟨rfl, rfl, (by decide : 2 + 0 ≤ _), (by decide : 6 + 0 ≤ _)⟩)
        dsimp only [Pt.U, Pt.locs, Pt.cells, Pt.slots] at X35 l35 y35 z35 st35 hQ35
        subst l35 y35 z35
        obtain ⟨rfl, N35q, e35⟩ := hQ35
        have N35 := Fr.app N19 N35q
        refine OGot.on st35 ?_
        show OGot p.tables e below (T35.setTop (mkF m 196 #[.val (.int p1), .val (.long q2), .second, .val (.int p3), .val (.int p4), .val (.long q5), .second, .val (.int p6), .val (.int ((p3 &&& (2147483647 : Int32)) % (9 : Int32))), .val (.int (if (p6 &&& (2 : Int32)) = (0 : Int32) then (((p6.toUInt32 >>> ((8 : Int32) &&& 31).toUInt32).toInt32) % (9 : Int32)) else ((p3 &&& (2147483647 : Int32)) % (9 : Int32)))), .val (.int (if (p6 &&& (1 : Int32)) = (0 : Int32) then p4 else p1)), .val (.long (if (p6 &&& (4 : Int32)) = (0 : Int32) then q5 else q2)), .second, .val (.ref b10), .val (.int (0 : Int32)), .val (.ref b17), .val (.int (0 : Int32))] [(.int (0 : Int32))])) _
        refine OGot.go (fun t k => XS.iload X35.here hx rfl (hb hby at_196) rfl k) ?_
        show OGot p.tables e below (T35.setTop (mkF m 198 #[.val (.int p1), .val (.long q2), .second, .val (.int p3), .val (.int p4), .val (.long q5), .second, .val (.int p6), .val (.int ((p3 &&& (2147483647 : Int32)) % (9 : Int32))), .val (.int (if (p6 &&& (2 : Int32)) = (0 : Int32) then (((p6.toUInt32 >>> ((8 : Int32) &&& 31).toUInt32).toInt32) % (9 : Int32)) else ((p3 &&& (2147483647 : Int32)) % (9 : Int32)))), .val (.int (if (p6 &&& (1 : Int32)) = (0 : Int32) then p4 else p1)), .val (.long (if (p6 &&& (4 : Int32)) = (0 : Int32) then q5 else q2)), .second, .val (.ref b10), .val (.int (0 : Int32)), .val (.ref b17), .val (.int (0 : Int32))] [(.int (0 : Int32)), (.int (0 : Int32))])) _
        refine OGot.go (fun t k => XS.icmpNo X35.here hx rfl (hb hby at_198) rfl (by decide) k) ?_
        show OGot p.tables e below (T35.setTop (mkF m 201 #[.val (.int p1), .val (.long q2), .second, .val (.int p3), .val (.int p4), .val (.long q5), .second, .val (.int p6), .val (.int ((p3 &&& (2147483647 : Int32)) % (9 : Int32))), .val (.int (if (p6 &&& (2 : Int32)) = (0 : Int32) then (((p6.toUInt32 >>> ((8 : Int32) &&& 31).toUInt32).toInt32) % (9 : Int32)) else ((p3 &&& (2147483647 : Int32)) % (9 : Int32)))), .val (.int (if (p6 &&& (1 : Int32)) = (0 : Int32) then p4 else p1)), .val (.long (if (p6 &&& (4 : Int32)) = (0 : Int32) then q5 else q2)), .second, .val (.ref b10), .val (.int (0 : Int32)), .val (.ref b17), .val (.int (0 : Int32))] [])) _
        refine OGot.go (fun t k => XS.aload X35.here hx rfl (hb hby at_201) rfl rfl k) ?_
        show OGot p.tables e below (T35.setTop (mkF m 203 #[.val (.int p1), .val (.long q2), .second, .val (.int p3), .val (.int p4), .val (.long q5), .second, .val (.int p6), .val (.int ((p3 &&& (2147483647 : Int32)) % (9 : Int32))), .val (.int (if (p6 &&& (2 : Int32)) = (0 : Int32) then (((p6.toUInt32 >>> ((8 : Int32) &&& 31).toUInt32).toInt32) % (9 : Int32)) else ((p3 &&& (2147483647 : Int32)) % (9 : Int32)))), .val (.int (if (p6 &&& (1 : Int32)) = (0 : Int32) then p4 else p1)), .val (.long (if (p6 &&& (4 : Int32)) = (0 : Int32) then q5 else q2)), .second, .val (.ref b10), .val (.int (0 : Int32)), .val (.ref b17), .val (.int (0 : Int32))] [(.ref b17)])) _
        refine OGot.go (fun t k => XS.aload X35.here hx rfl (hb hby at_203) rfl rfl k) ?_
        show OGot p.tables e below (T35.setTop (mkF m 205 #[.val (.int p1), .val (.long q2), .second, .val (.int p3), .val (.int p4), .val (.long q5), .second, .val (.int p6), .val (.int ((p3 &&& (2147483647 : Int32)) % (9 : Int32))), .val (.int (if (p6 &&& (2 : Int32)) = (0 : Int32) then (((p6.toUInt32 >>> ((8 : Int32) &&& 31).toUInt32).toInt32) % (9 : Int32)) else ((p3 &&& (2147483647 : Int32)) % (9 : Int32)))), .val (.int (if (p6 &&& (1 : Int32)) = (0 : Int32) then p4 else p1)), .val (.long (if (p6 &&& (4 : Int32)) = (0 : Int32) then q5 else q2)), .second, .val (.ref b10), .val (.int (0 : Int32)), .val (.ref b17), .val (.int (0 : Int32))] [(.ref b10), (.ref b17)])) _
        obtain ⟨cq39, kq39, q39a, q39b, q39c⟩ := isOf hZ e35 (OKeep.exa A17 K19)
        obtain ⟨_, _, ⟨T39, L39, k39, n39⟩, -, X39, ⟨Lc39, hQ39, l39, y39, z39⟩, st39⟩ := X35.virtualBack hx (y := (⟨"com/example/muster/muster/analysis/Value$Symbolic", "equals", "(Ljava/lang/Object;)Z"⟩ : MethodName)) (z := (⟨"com/example/muster/muster/analysis/Value$Symbolic", "equals", "(Ljava/lang/Object;)Z"⟩ : MethodName)) hown (mvT hZ (ow hw 28 rfl)) (mvT hZ (ow hw 29 rfl)) (notFace_of_selects (args := #[]) (mvT hZ (ow hw 31 rfl))) (mvT hZ (ow hw 31 rfl)) (mvT hZ (ow hw 30 rfl)) (by decide) (backOf (W := 0) (rm5_2 l Z a0 hw [] G b17 b10 (if (p6 &&& (1 : Int32)) = (0 : Int32) then p4 else p1) p1 (if (p6 &&& (4 : Int32)) = (0 : Int32) then q5 else q2) q2 T19.heap n0 O19 (OKeep.exa ((OKeep.exa A10 K12).ext E17) K19) Fo19_0 F37 (Eq.symm hs20) Fo19_1 F38 (Ne.symm hs21)) hZ (ow hw 32 rfl) (ow hw 3 rfl) (by decide) (by decide)) q39a q39c (g := (mkF m 205 #[.val (.int p1), .val (.long q2), .second, .val (.int p3), .val (.int p4), .val (.long q5), .second, .val (.int p6), .val (.int ((p3 &&& (2147483647 : Int32)) % (9 : Int32))), .val (.int (if (p6 &&& (2 : Int32)) = (0 : Int32) then (((p6.toUInt32 >>> ((8 : Int32) &&& 31).toUInt32).toInt32) % (9 : Int32)) else ((p3 &&& (2147483647 : Int32)) % (9 : Int32)))), .val (.int (if (p6 &&& (1 : Int32)) = (0 : Int32) then p4 else p1)), .val (.long (if (p6 &&& (4 : Int32)) = (0 : Int32) then q5 else q2)), .second, .val (.ref b10), .val (.int (0 : Int32)), .val (.ref b17), .val (.int (0 : Int32))] [(.ref b10), (.ref b17)])) rfl (by rw [hml]; rfl) (Steps.refl _) (argsL := [(.ref b10)]) (rest := []) (lenOf pd_3 rfl) rfl (by show 2 * 0 + _ ≤ _; exact Nat.le_of_eq rfl) (hb hby at_205) (fun _ _ => ⟨rfl, e35, (by decide : 2 + 0 ≤ _), (by decide : 6 + 0 ≤ _)⟩)
        dsimp only [Pt.U, Pt.locs, Pt.cells, Pt.slots] at X39 l39 y39 z39 st39 hQ39
        subst l39 y39 z39
        obtain ⟨rfl, N39q, e39⟩ := hQ39
        have N39 := Fr.app N35 N39q
        refine OGot.on st39 ?_
        show OGot p.tables e below (T39.setTop (mkF m 208 #[.val (.int p1), .val (.long q2), .second, .val (.int p3), .val (.int p4), .val (.long q5), .second, .val (.int p6), .val (.int ((p3 &&& (2147483647 : Int32)) % (9 : Int32))), .val (.int (if (p6 &&& (2 : Int32)) = (0 : Int32) then (((p6.toUInt32 >>> ((8 : Int32) &&& 31).toUInt32).toInt32) % (9 : Int32)) else ((p3 &&& (2147483647 : Int32)) % (9 : Int32)))), .val (.int (if (p6 &&& (1 : Int32)) = (0 : Int32) then p4 else p1)), .val (.long (if (p6 &&& (4 : Int32)) = (0 : Int32) then q5 else q2)), .second, .val (.ref b10), .val (.int (0 : Int32)), .val (.ref b17), .val (.int (0 : Int32))] [(.int (0 : Int32))])) _
        refine OGot.go (fun t k => XS.iload X39.here hx rfl (hb hby at_208) rfl k) ?_
        show OGot p.tables e below (T39.setTop (mkF m 210 #[.val (.int p1), .val (.long q2), .second, .val (.int p3), .val (.int p4), .val (.long q5), .second, .val (.int p6), .val (.int ((p3 &&& (2147483647 : Int32)) % (9 : Int32))), .val (.int (if (p6 &&& (2 : Int32)) = (0 : Int32) then (((p6.toUInt32 >>> ((8 : Int32) &&& 31).toUInt32).toInt32) % (9 : Int32)) else ((p3 &&& (2147483647 : Int32)) % (9 : Int32)))), .val (.int (if (p6 &&& (1 : Int32)) = (0 : Int32) then p4 else p1)), .val (.long (if (p6 &&& (4 : Int32)) = (0 : Int32) then q5 else q2)), .second, .val (.ref b10), .val (.int (0 : Int32)), .val (.ref b17), .val (.int (0 : Int32))] [(.int (0 : Int32)), (.int (0 : Int32))])) _
        refine OGot.go (fun t k => XS.icmpNo X39.here hx rfl (hb hby at_210) rfl (by decide) k) ?_
        show OGot p.tables e below (T39.setTop (mkF m 213 #[.val (.int p1), .val (.long q2), .second, .val (.int p3), .val (.int p4), .val (.long q5), .second, .val (.int p6), .val (.int ((p3 &&& (2147483647 : Int32)) % (9 : Int32))), .val (.int (if (p6 &&& (2 : Int32)) = (0 : Int32) then (((p6.toUInt32 >>> ((8 : Int32) &&& 31).toUInt32).toInt32) % (9 : Int32)) else ((p3 &&& (2147483647 : Int32)) % (9 : Int32)))), .val (.int (if (p6 &&& (1 : Int32)) = (0 : Int32) then p4 else p1)), .val (.long (if (p6 &&& (4 : Int32)) = (0 : Int32) then q5 else q2)), .second, .val (.ref b10), .val (.int (0 : Int32)), .val (.ref b17), .val (.int (0 : Int32))] [])) _
        refine OGot.go (fun t k => XS.iconst X39.here hx rfl (hb hby at_213) k) ?_
        show OGot p.tables e below (T39.setTop (mkF m 214 #[.val (.int p1), .val (.long q2), .second, .val (.int p3), .val (.int p4), .val (.long q5), .second, .val (.int p6), .val (.int ((p3 &&& (2147483647 : Int32)) % (9 : Int32))), .val (.int (if (p6 &&& (2 : Int32)) = (0 : Int32) then (((p6.toUInt32 >>> ((8 : Int32) &&& 31).toUInt32).toInt32) % (9 : Int32)) else ((p3 &&& (2147483647 : Int32)) % (9 : Int32)))), .val (.int (if (p6 &&& (1 : Int32)) = (0 : Int32) then p4 else p1)), .val (.long (if (p6 &&& (4 : Int32)) = (0 : Int32) then q5 else q2)), .second, .val (.ref b10), .val (.int (0 : Int32)), .val (.ref b17), .val (.int (0 : Int32))] [(.int (1 : Int32))])) _
        refine OGot.go (fun t k => XS.goto X39.here hx rfl (pc0 := 214) (pc' := 218) rfl (hb hby at_214) (by decide) (by decide) k) ?_
        show OGot p.tables e below (T39.setTop (mkF m 218 #[.val (.int p1), .val (.long q2), .second, .val (.int p3), .val (.int p4), .val (.long q5), .second, .val (.int p6), .val (.int ((p3 &&& (2147483647 : Int32)) % (9 : Int32))), .val (.int (if (p6 &&& (2 : Int32)) = (0 : Int32) then (((p6.toUInt32 >>> ((8 : Int32) &&& 31).toUInt32).toInt32) % (9 : Int32)) else ((p3 &&& (2147483647 : Int32)) % (9 : Int32)))), .val (.int (if (p6 &&& (1 : Int32)) = (0 : Int32) then p4 else p1)), .val (.long (if (p6 &&& (4 : Int32)) = (0 : Int32) then q5 else q2)), .second, .val (.ref b10), .val (.int (0 : Int32)), .val (.ref b17), .val (.int (0 : Int32))] [(.int (1 : Int32))])) _
        obtain ⟨fs, hr, hrun, hended, hW, hsame⟩ := X39.leave (v := some (.int (1 : Int32))) (fun h => by rw [Bd.returns] at h; cases h)
        refine ⟨_, _, retN X39 hx (t := .boolean) Bd.returns (by simp) (hb hby at_218) hr, hrun, hended, _, _, rfl, ?_, ⟨_, rfl⟩, hW, hsame.mono (by decide) (by decide)⟩
        exact (⟨rfl, N39⟩ : Q0 Z w_INT8 w_UINT8 w_BOOL w_UINT16 w_UINT64 w_UINT32 w_INT32 w_INT16 w_INT64 w_cache cl_w_cache p1 q2 p3 p4 q5 p6 h0 n0 _ T39.heap _)
    · refine OGot.go (fun t k => XS.icmpYes X19.here hx rfl (pc0 := 165) (pc' := 186) rfl (hb hby at_165) rfl (feq hs20).2 (by decide) (by decide) k) ?_
      show OGot p.tables e below (T19.setTop (mkF m 186 #[.val (.int p1), .val (.long q2), .second, .val (.int p3), .val (.int p4), .val (.long q5), .second, .val (.int p6), .val (.int ((p3 &&& (2147483647 : Int32)) % (9 : Int32))), .val (.int (if (p6 &&& (2 : Int32)) = (0 : Int32) then (((p6.toUInt32 >>> ((8 : Int32) &&& 31).toUInt32).toInt32) % (9 : Int32)) else ((p3 &&& (2147483647 : Int32)) % (9 : Int32)))), .val (.int (if (p6 &&& (1 : Int32)) = (0 : Int32) then p4 else p1)), .val (.long (if (p6 &&& (4 : Int32)) = (0 : Int32) then q5 else q2)), .second, .val (.ref b10), .val (.int (0 : Int32)), .val (.ref b17), .unset] [])) _
      refine OGot.go (fun t k => XS.iconst X19.here hx rfl (hb hby at_186) k) ?_
      show OGot p.tables e below (T19.setTop (mkF m 187 #[.val (.int p1), .val (.long q2), .second, .val (.int p3), .val (.int p4), .val (.long q5), .second, .val (.int p6), .val (.int ((p3 &&& (2147483647 : Int32)) % (9 : Int32))), .val (.int (if (p6 &&& (2 : Int32)) = (0 : Int32) then (((p6.toUInt32 >>> ((8 : Int32) &&& 31).toUInt32).toInt32) % (9 : Int32)) else ((p3 &&& (2147483647 : Int32)) % (9 : Int32)))), .val (.int (if (p6 &&& (1 : Int32)) = (0 : Int32) then p4 else p1)), .val (.long (if (p6 &&& (4 : Int32)) = (0 : Int32) then q5 else q2)), .second, .val (.ref b10), .val (.int (0 : Int32)), .val (.ref b17), .unset] [(.int (0 : Int32))])) _
      refine OGot.go (fun t k => XS.istore X19.here hx rfl (hb hby at_187) rfl (l' := #[.val (.int p1), .val (.long q2), .second, .val (.int p3), .val (.int p4), .val (.long q5), .second, .val (.int p6), .val (.int ((p3 &&& (2147483647 : Int32)) % (9 : Int32))), .val (.int (if (p6 &&& (2 : Int32)) = (0 : Int32) then (((p6.toUInt32 >>> ((8 : Int32) &&& 31).toUInt32).toInt32) % (9 : Int32)) else ((p3 &&& (2147483647 : Int32)) % (9 : Int32)))), .val (.int (if (p6 &&& (1 : Int32)) = (0 : Int32) then p4 else p1)), .val (.long (if (p6 &&& (4 : Int32)) = (0 : Int32) then q5 else q2)), .second, .val (.ref b10), .val (.int (0 : Int32)), .val (.ref b17), .val (.int (0 : Int32))]) rfl k) ?_
      show OGot p.tables e below (T19.setTop (mkF m 189 #[.val (.int p1), .val (.long q2), .second, .val (.int p3), .val (.int p4), .val (.long q5), .second, .val (.int p6), .val (.int ((p3 &&& (2147483647 : Int32)) % (9 : Int32))), .val (.int (if (p6 &&& (2 : Int32)) = (0 : Int32) then (((p6.toUInt32 >>> ((8 : Int32) &&& 31).toUInt32).toInt32) % (9 : Int32)) else ((p3 &&& (2147483647 : Int32)) % (9 : Int32)))), .val (.int (if (p6 &&& (1 : Int32)) = (0 : Int32) then p4 else p1)), .val (.long (if (p6 &&& (4 : Int32)) = (0 : Int32) then q5 else q2)), .second, .val (.ref b10), .val (.int (0 : Int32)), .val (.ref b17), .val (.int (0 : Int32))] [])) _
      refine OGot.go (fun t k => XS.aload X19.here hx rfl (hb hby at_189) rfl rfl k) ?_
      show OGot p.tables e below (T19.setTop (mkF m 191 #[.val (.int p1), .val (.long q2), .second, .val (.int p3), .val (.int p4), .val (.long q5), .second, .val (.int p6), .val (.int ((p3 &&& (2147483647 : Int32)) % (9 : Int32))), .val (.int (if (p6 &&& (2 : Int32)) = (0 : Int32) then (((p6.toUInt32 >>> ((8 : Int32) &&& 31).toUInt32).toInt32) % (9 : Int32)) else ((p3 &&& (2147483647 : Int32)) % (9 : Int32)))), .val (.int (if (p6 &&& (1 : Int32)) = (0 : Int32) then p4 else p1)), .val (.long (if (p6 &&& (4 : Int32)) = (0 : Int32) then q5 else q2)), .second, .val (.ref b10), .val (.int (0 : Int32)), .val (.ref b17), .val (.int (0 : Int32))] [(.ref b10)])) _
      refine OGot.go (fun t k => XS.aload X19.here hx rfl (hb hby at_191) rfl rfl k) ?_
      show OGot p.tables e below (T19.setTop (mkF m 193 #[.val (.int p1), .val (.long q2), .second, .val (.int p3), .val (.int p4), .val (.long q5), .second, .val (.int p6), .val (.int ((p3 &&& (2147483647 : Int32)) % (9 : Int32))), .val (.int (if (p6 &&& (2 : Int32)) = (0 : Int32) then (((p6.toUInt32 >>> ((8 : Int32) &&& 31).toUInt32).toInt32) % (9 : Int32)) else ((p3 &&& (2147483647 : Int32)) % (9 : Int32)))), .val (.int (if (p6 &&& (1 : Int32)) = (0 : Int32) then p4 else p1)), .val (.long (if (p6 &&& (4 : Int32)) = (0 : Int32) then q5 else q2)), .second, .val (.ref b10), .val (.int (0 : Int32)), .val (.ref b17), .val (.int (0 : Int32))] [(.ref b17), (.ref b10)])) _
      have ne41 : b10 ≠ b17 := (Nat.ne_of_lt (Nat.lt_of_lt_of_le (Nat.lt_of_lt_of_le A10.lt K12.1) sy_b17))
      have F42 : Fld Z T19.heap b10 "com/example/muster/muster/analysis/Value$Symbolic" "symbol" "I" (.int p1) := (OKeep.fld (Fo12_0.ext E17) K19 (oninA ne41 (oninA ne41 (oninA ne41 onin0))))
      obtain ⟨cq40, kq40, q40a, q40b, q40c⟩ := isOf hZ rfl (OKeep.exa ((OKeep.exa A10 K12).ext E17) K19)
      obtain ⟨_, _, ⟨T40, L40, k40, n40⟩, -, X40, ⟨Lc40, hQ40, l40, y40, z40⟩, st40⟩ := X19.virtualBack hx (y := (⟨"com/example/muster/muster/analysis/Value$Symbolic", "equals", "(Ljava/lang/Object;)Z"⟩ : MethodName)) (z := (⟨"com/example/muster/muster/analysis/Value$Symbolic", "equals", "(Ljava/lang/Object;)Z"⟩ : MethodName)) hown (mvT hZ (ow hw 28 rfl)) (mvT hZ (ow hw 29 rfl)) (notFace_of_selects (args := #[]) (mvT hZ (ow hw 31 rfl))) (mvT hZ (ow hw 31 rfl)) (mvT hZ (ow hw 30 rfl)) (by decide) (backOf (W := 0) (rm5_3 l Z a0 hw [] G b10 b17 p1 (if (p6 &&& (1 : Int32)) = (0 : Int32) then p4 else p1) T19.heap n0 O19 (OKeep.exa A17 K19) F42 Fo19_0 hs20) hZ (ow hw 32 rfl) (ow hw 3 rfl) (by decide) (by decide)) q40a q40c (g := (mkF m 193 #[.val (.int p1), .val (.long q2), .second, .val (.int p3), .val (.int p4), .val (.long q5), .second, .val (.int p6), .val (.int ((p3 &&& (2147483647 : Int32)) % (9 : Int32))), .val (.int (if (p6 &&& (2 : Int32)) = (0 : Int32) then (((p6.toUInt32 >>> ((8 : Int32) &&& 31).toUInt32).toInt32) % (9 : Int32)) else ((p3 &&& (2147483647 : Int32)) % (9 : Int32)))), .val (.int (if (p6 &&& (1 : Int32)) = (0 : Int32) then p4 else p1)), .val (.long (if (p6 &&& (4 : Int32)) = (0 : Int32) then q5 else q2)), .second, .val (.ref b10), .val (.int (0 : Int32)), .val (.ref b17), .val (.int (0 : Int32))] [(.ref b17), (.ref b10)])) rfl (by rw [hml]; rfl) (Steps.refl _) (argsL := [(.ref b17)]) (rest := []) (lenOf pd_3 rfl) rfl (by show 2 * 0 + _ ≤ _; exact Nat.le_of_eq rfl) (hb hby at_193) (fun _ _ => ⟨rfl, rfl, (by decide : 2 + 0 ≤ _), (by decide : 6 + 0 ≤ _)⟩)
      dsimp only [Pt.U, Pt.locs, Pt.cells, Pt.slots] at X40 l40 y40 z40 st40 hQ40
      subst l40 y40 z40
      obtain ⟨rfl, N40q, e40⟩ := hQ40
      have N40 := Fr.app N19 N40q
      refine OGot.on st40 ?_
      show OGot p.tables e below (T40.setTop (mkF m 196 #[.val (.int p1), .val (.long q2), .second, .val (.int p3), .val (.int p4), .val (.long q5), .second, .val (.int p6), .val (.int ((p3 &&& (2147483647 : Int32)) % (9 : Int32))), .val (.int (if (p6 &&& (2 : Int32)) = (0 : Int32) then (((p6.toUInt32 >>> ((8 : Int32) &&& 31).toUInt32).toInt32) % (9 : Int32)) else ((p3 &&& (2147483647 : Int32)) % (9 : Int32)))), .val (.int (if (p6 &&& (1 : Int32)) = (0 : Int32) then p4 else p1)), .val (.long (if (p6 &&& (4 : Int32)) = (0 : Int32) then q5 else q2)), .second, .val (.ref b10), .val (.int (0 : Int32)), .val (.ref b17), .val (.int (0 : Int32))] [(.int (0 : Int32))])) _
      refine OGot.go (fun t k => XS.iload X40.here hx rfl (hb hby at_196) rfl k) ?_
      show OGot p.tables e below (T40.setTop (mkF m 198 #[.val (.int p1), .val (.long q2), .second, .val (.int p3), .val (.int p4), .val (.long q5), .second, .val (.int p6), .val (.int ((p3 &&& (2147483647 : Int32)) % (9 : Int32))), .val (.int (if (p6 &&& (2 : Int32)) = (0 : Int32) then (((p6.toUInt32 >>> ((8 : Int32) &&& 31).toUInt32).toInt32) % (9 : Int32)) else ((p3 &&& (2147483647 : Int32)) % (9 : Int32)))), .val (.int (if (p6 &&& (1 : Int32)) = (0 : Int32) then p4 else p1)), .val (.long (if (p6 &&& (4 : Int32)) = (0 : Int32) then q5 else q2)), .second, .val (.ref b10), .val (.int (0 : Int32)), .val (.ref b17), .val (.int (0 : Int32))] [(.int (0 : Int32)), (.int (0 : Int32))])) _
      refine OGot.go (fun t k => XS.icmpNo X40.here hx rfl (hb hby at_198) rfl (by decide) k) ?_
      show OGot p.tables e below (T40.setTop (mkF m 201 #[.val (.int p1), .val (.long q2), .second, .val (.int p3), .val (.int p4), .val (.long q5), .second, .val (.int p6), .val (.int ((p3 &&& (2147483647 : Int32)) % (9 : Int32))), .val (.int (if (p6 &&& (2 : Int32)) = (0 : Int32) then (((p6.toUInt32 >>> ((8 : Int32) &&& 31).toUInt32).toInt32) % (9 : Int32)) else ((p3 &&& (2147483647 : Int32)) % (9 : Int32)))), .val (.int (if (p6 &&& (1 : Int32)) = (0 : Int32) then p4 else p1)), .val (.long (if (p6 &&& (4 : Int32)) = (0 : Int32) then q5 else q2)), .second, .val (.ref b10), .val (.int (0 : Int32)), .val (.ref b17), .val (.int (0 : Int32))] [])) _
      refine OGot.go (fun t k => XS.aload X40.here hx rfl (hb hby at_201) rfl rfl k) ?_
      show OGot p.tables e below (T40.setTop (mkF m 203 #[.val (.int p1), .val (.long q2), .second, .val (.int p3), .val (.int p4), .val (.long q5), .second, .val (.int p6), .val (.int ((p3 &&& (2147483647 : Int32)) % (9 : Int32))), .val (.int (if (p6 &&& (2 : Int32)) = (0 : Int32) then (((p6.toUInt32 >>> ((8 : Int32) &&& 31).toUInt32).toInt32) % (9 : Int32)) else ((p3 &&& (2147483647 : Int32)) % (9 : Int32)))), .val (.int (if (p6 &&& (1 : Int32)) = (0 : Int32) then p4 else p1)), .val (.long (if (p6 &&& (4 : Int32)) = (0 : Int32) then q5 else q2)), .second, .val (.ref b10), .val (.int (0 : Int32)), .val (.ref b17), .val (.int (0 : Int32))] [(.ref b17)])) _
      refine OGot.go (fun t k => XS.aload X40.here hx rfl (hb hby at_203) rfl rfl k) ?_
      show OGot p.tables e below (T40.setTop (mkF m 205 #[.val (.int p1), .val (.long q2), .second, .val (.int p3), .val (.int p4), .val (.long q5), .second, .val (.int p6), .val (.int ((p3 &&& (2147483647 : Int32)) % (9 : Int32))), .val (.int (if (p6 &&& (2 : Int32)) = (0 : Int32) then (((p6.toUInt32 >>> ((8 : Int32) &&& 31).toUInt32).toInt32) % (9 : Int32)) else ((p3 &&& (2147483647 : Int32)) % (9 : Int32)))), .val (.int (if (p6 &&& (1 : Int32)) = (0 : Int32) then p4 else p1)), .val (.long (if (p6 &&& (4 : Int32)) = (0 : Int32) then q5 else q2)), .second, .val (.ref b10), .val (.int (0 : Int32)), .val (.ref b17), .val (.int (0 : Int32))] [(.ref b10), (.ref b17)])) _
      obtain ⟨cq43, kq43, q43a, q43b, q43c⟩ := isOf hZ e40 (OKeep.exa A17 K19)
      obtain ⟨_, _, ⟨T43, L43, k43, n43⟩, -, X43, ⟨Lc43, hQ43, l43, y43, z43⟩, st43⟩ := X40.virtualBack hx (y := (⟨"com/example/muster/muster/analysis/Value$Symbolic", "equals", "(Ljava/lang/Object;)Z"⟩ : MethodName)) (z := (⟨"com/example/muster/muster/analysis/Value$Symbolic", "equals", "(Ljava/lang/Object;)Z"⟩ : MethodName)) hown (mvT hZ (ow hw 28 rfl)) (mvT hZ (ow hw 29 rfl)) (notFace_of_selects (args := #[]) (mvT hZ (ow hw 31 rfl))) (mvT hZ (ow hw 31 rfl)) (mvT hZ (ow hw 30 rfl)) (by decide) (backOf (W := 0) (rm5_3 l Z a0 hw [] G b17 b10 (if (p6 &&& (1 : Int32)) = (0 : Int32) then p4 else p1) p1 T19.heap n0 O19 (OKeep.exa ((OKeep.exa A10 K12).ext E17) K19) Fo19_0 F42 (Ne.symm hs20)) hZ (ow hw 32 rfl) (ow hw 3 rfl) (by decide) (by decide)) q43a q43c (g := (mkF m 205 #[.val (.int p1), .val (.long q2), .second, .val (.int p3), .val (.int p4), .val (.long q5), .second, .val (.int p6), .val (.int ((p3 &&& (2147483647 : Int32)) % (9 : Int32))), .val (.int (if (p6 &&& (2 : Int32)) = (0 : Int32) then (((p6.toUInt32 >>> ((8 : Int32) &&& 31).toUInt32).toInt32) % (9 : Int32)) else ((p3 &&& (2147483647 : Int32)) % (9 : Int32)))), .val (.int (if (p6 &&& (1 : Int32)) = (0 : Int32) then p4 else p1)), .val (.long (if (p6 &&& (4 : Int32)) = (0 : Int32) then q5 else q2)), .second, .val (.ref b10), .val (.int (0 : Int32)), .val (.ref b17), .val (.int (0 : Int32))] [(.ref b10), (.ref b17)])) rfl (by rw [hml]; rfl) (Steps.refl _) (argsL := [(.ref b10)]) (rest := []) (lenOf pd_3 rfl) rfl (by show 2 * 0 + _ ≤ _; exact Nat.le_of_eq rfl) (hb hby at_205) (fun _ _ => ⟨rfl, e40, (by decide : 2 + 0 ≤ _), (by decide : 6 + 0 ≤ _)⟩)
      dsimp only [Pt.U, Pt.locs, Pt.cells, Pt.slots] at X43 l43 y43 z43 st43 hQ43
      subst l43 y43 z43
      obtain ⟨rfl, N43q, e43⟩ := hQ43
      have N43 := Fr.app N40 N43q
      refine OGot.on st43 ?_
      show OGot p.tables e below (T43.setTop (mkF m 208 #[.val (.int p1), .val (.long q2), .second, .val (.int p3), .val (.int p4), .val (.long q5), .second, .val (.int p6), .val (.int ((p3 &&& (2147483647 : Int32)) % (9 : Int32))), .val (.int (if (p6 &&& (2 : Int32)) = (0 : Int32) then (((p6.toUInt32 >>> ((8 : Int32) &&& 31).toUInt32).toInt32) % (9 : Int32)) else ((p3 &&& (2147483647 : Int32)) % (9 : Int32)))), .val (.int (if (p6 &&& (1 : Int32)) = (0 : Int32) then p4 else p1)), .val (.long (if (p6 &&& (4 : Int32)) = (0 : Int32) then q5 else q2)), .second, .val (.ref b10), .val (.int (0 : Int32)), .val (.ref b17), .val (.int (0 : Int32))] [(.int (0 : Int32))])) _
      refine OGot.go (fun t k => XS.iload X43.here hx rfl (hb hby at_208) rfl k) ?_
      show OGot p.tables e below (T43.setTop (mkF m 210 #[.val (.int p1), .val (.long q2), .second, .val (.int p3), .val (.int p4), .val (.long q5), .second, .val (.int p6), .val (.int ((p3 &&& (2147483647 : Int32)) % (9 : Int32))), .val (.int (if (p6 &&& (2 : Int32)) = (0 : Int32) then (((p6.toUInt32 >>> ((8 : Int32) &&& 31).toUInt32).toInt32) % (9 : Int32)) else ((p3 &&& (2147483647 : Int32)) % (9 : Int32)))), .val (.int (if (p6 &&& (1 : Int32)) = (0 : Int32) then p4 else p1)), .val (.long (if (p6 &&& (4 : Int32)) = (0 : Int32) then q5 else q2)), .second, .val (.ref b10), .val (.int (0 : Int32)), .val (.ref b17), .val (.int (0 : Int32))] [(.int (0 : Int32)), (.int (0 : Int32))])) _
      refine OGot.go (fun t k => XS.icmpNo X43.here hx rfl (hb hby at_210) rfl (by decide) k) ?_
      show OGot p.tables e below (T43.setTop (mkF m 213 #[.val (.int p1), .val (.long q2), .second, .val (.int p3), .val (.int p4), .val (.long q5), .second, .val (.int p6), .val (.int ((p3 &&& (2147483647 : Int32)) % (9 : Int32))), .val (.int (if (p6 &&& (2 : Int32)) = (0 : Int32) then (((p6.toUInt32 >>> ((8 : Int32) &&& 31).toUInt32).toInt32) % (9 : Int32)) else ((p3 &&& (2147483647 : Int32)) % (9 : Int32)))), .val (.int (if (p6 &&& (1 : Int32)) = (0 : Int32) then p4 else p1)), .val (.long (if (p6 &&& (4 : Int32)) = (0 : Int32) then q5 else q2)), .second, .val (.ref b10), .val (.int (0 : Int32)), .val (.ref b17), .val (.int (0 : Int32))] [])) _
      refine OGot.go (fun t k => XS.iconst X43.here hx rfl (hb hby at_213) k) ?_
      show OGot p.tables e below (T43.setTop (mkF m 214 #[.val (.int p1), .val (.long q2), .second, .val (.int p3), .val (.int p4), .val (.long q5), .second, .val (.int p6), .val (.int ((p3 &&& (2147483647 : Int32)) % (9 : Int32))), .val (.int (if (p6 &&& (2 : Int32)) = (0 : Int32) then (((p6.toUInt32 >>> ((8 : Int32) &&& 31).toUInt32).toInt32) % (9 : Int32)) else ((p3 &&& (2147483647 : Int32)) % (9 : Int32)))), .val (.int (if (p6 &&& (1 : Int32)) = (0 : Int32) then p4 else p1)), .val (.long (if (p6 &&& (4 : Int32)) = (0 : Int32) then q5 else q2)), .second, .val (.ref b10), .val (.int (0 : Int32)), .val (.ref b17), .val (.int (0 : Int32))] [(.int (1 : Int32))])) _
      refine OGot.go (fun t k => XS.goto X43.here hx rfl (pc0 := 214) (pc' := 218) rfl (hb hby at_214) (by decide) (by decide) k) ?_
      show OGot p.tables e below (T43.setTop (mkF m 218 #[.val (.int p1), .val (.long q2), .second, .val (.int p3), .val (.int p4), .val (.long q5), .second, .val (.int p6), .val (.int ((p3 &&& (2147483647 : Int32)) % (9 : Int32))), .val (.int (if (p6 &&& (2 : Int32)) = (0 : Int32) then (((p6.toUInt32 >>> ((8 : Int32) &&& 31).toUInt32).toInt32) % (9 : Int32)) else ((p3 &&& (2147483647 : Int32)) % (9 : Int32)))), .val (.int (if (p6 &&& (1 : Int32)) = (0 : Int32) then p4 else p1)), .val (.long (if (p6 &&& (4 : Int32)) = (0 : Int32) then q5 else q2)), .second, .val (.ref b10), .val (.int (0 : Int32)), .val (.ref b17), .val (.int (0 : Int32))] [(.int (1 : Int32))])) _
      obtain ⟨fs, hr, hrun, hended, hW, hsame⟩ := X43.leave (v := some (.int (1 : Int32))) (fun h => by rw [Bd.returns] at h; cases h)
      refine ⟨_, _, retN X43 hx (t := .boolean) Bd.returns (by simp) (hb hby at_218) hr, hrun, hended, _, _, rfl, ?_, ⟨_, rfl⟩, hW, hsame.mono (by decide) (by decide)⟩
      exact (⟨rfl, N43⟩ : Q0 Z w_INT8 w_UINT8 w_BOOL w_UINT16 w_UINT64 w_UINT32 w_INT32 w_INT16 w_INT64 w_cache cl_w_cache p1 q2 p3 p4 q5 p6 h0 n0 _ T43.heap _)
  · rw [hk14]
    show OGot p.tables e below (T12.setTop (mkF m 87 #[.val (.int p1), .val (.long q2), .second, .val (.int p3), .val (.int p4), .val (.long q5), .second, .val (.int p6), .val (.int ((p3 &&& (2147483647 : Int32)) % (9 : Int32))), .val (.int (if (p6 &&& (2 : Int32)) = (0 : Int32) then (((p6.toUInt32 >>> ((8 : Int32) &&& 31).toUInt32).toInt32) % (9 : Int32)) else ((p3 &&& (2147483647 : Int32)) % (9 : Int32)))), .val (.int (if (p6 &&& (1 : Int32)) = (0 : Int32) then p4 else p1)), .val (.long (if (p6 &&& (4 : Int32)) = (0 : Int32) then q5 else q2)), .second, .val (.ref b10), .val (.int (1 : Int32)), .unset, .unset] [(.int (1 : Int32))])) _
    refine OGot.go (fun t k => XS.iconst X12.here hx rfl (hb hby at_87) k) ?_
    show OGot p.tables e below (T12.setTop (mkF m 88 #[.val (.int p1), .val (.long q2), .second, .val (.int p3), .val (.int p4), .val (.long q5), .second, .val (.int p6), .val (.int ((p3 &&& (2147483647 : Int32)) % (9 : Int32))), .val (.int (if (p6 &&& (2 : Int32)) = (0 : Int32) then (((p6.toUInt32 >>> ((8 : Int32) &&& 31).toUInt32).toInt32) % (9 : Int32)) else ((p3 &&& (2147483647 : Int32)) % (9 : Int32)))), .val (.int (if (p6 &&& (1 : Int32)) = (0 : Int32) then p4 else p1)), .val (.long (if (p6 &&& (4 : Int32)) = (0 : Int32) then q5 else q2)), .second, .val (.ref b10), .val (.int (1 : Int32)), .unset, .unset] [(.int (1 : Int32)), (.int (1 : Int32))])) _
    refine OGot.go (fun t k => XS.icmpNo X12.here hx rfl (hb hby at_88) rfl (by decide) k) ?_
    show OGot p.tables e below (T12.setTop (mkF m 91 #[.val (.int p1), .val (.long q2), .second, .val (.int p3), .val (.int p4), .val (.long q5), .second, .val (.int p6), .val (.int ((p3 &&& (2147483647 : Int32)) % (9 : Int32))), .val (.int (if (p6 &&& (2 : Int32)) = (0 : Int32) then (((p6.toUInt32 >>> ((8 : Int32) &&& 31).toUInt32).toInt32) % (9 : Int32)) else ((p3 &&& (2147483647 : Int32)) % (9 : Int32)))), .val (.int (if (p6 &&& (1 : Int32)) = (0 : Int32) then p4 else p1)), .val (.long (if (p6 &&& (4 : Int32)) = (0 : Int32) then q5 else q2)), .second, .val (.ref b10), .val (.int (1 : Int32)), .unset, .unset] [])) _
    refine OGot.go (fun t k => XS.aload X12.here hx rfl (hb hby at_91) rfl rfl k) ?_
    show OGot p.tables e below (T12.setTop (mkF m 93 #[.val (.int p1), .val (.long q2), .second, .val (.int p3), .val (.int p4), .val (.long q5), .second, .val (.int p6), .val (.int ((p3 &&& (2147483647 : Int32)) % (9 : Int32))), .val (.int (if (p6 &&& (2 : Int32)) = (0 : Int32) then (((p6.toUInt32 >>> ((8 : Int32) &&& 31).toUInt32).toInt32) % (9 : Int32)) else ((p3 &&& (2147483647 : Int32)) % (9 : Int32)))), .val (.int (if (p6 &&& (1 : Int32)) = (0 : Int32) then p4 else p1)), .val (.long (if (p6 &&& (4 : Int32)) = (0 : Int32) then q5 else q2)), .second, .val (.ref b10), .val (.int (1 : Int32)), .unset, .unset] [(.ref b10)])) _
    refine OGot.go (fun t k => XS.aconstNull X12.here hx rfl (hb hby at_93) k) ?_
    show OGot p.tables e below (T12.setTop (mkF m 94 #[.val (.int p1), .val (.long q2), .second, .val (.int p3), .val (.int p4), .val (.long q5), .second, .val (.int p6), .val (.int ((p3 &&& (2147483647 : Int32)) % (9 : Int32))), .val (.int (if (p6 &&& (2 : Int32)) = (0 : Int32) then (((p6.toUInt32 >>> ((8 : Int32) &&& 31).toUInt32).toInt32) % (9 : Int32)) else ((p3 &&& (2147483647 : Int32)) % (9 : Int32)))), .val (.int (if (p6 &&& (1 : Int32)) = (0 : Int32) then p4 else p1)), .val (.long (if (p6 &&& (4 : Int32)) = (0 : Int32) then q5 else q2)), .second, .val (.ref b10), .val (.int (1 : Int32)), .unset, .unset] [.null, (.ref b10)])) _
    obtain ⟨cq44, kq44, q44a, q44b, q44c⟩ := isOf hZ rfl (OKeep.exa A10 K12)
    obtain ⟨_, _, ⟨T44, L44, k44, n44⟩, -, X44, ⟨Lc44, hQ44, l44, y44, z44⟩, st44⟩ := X12.virtualBack hx (y := (⟨"com/example/muster/muster/analysis/Value$Symbolic", "equals", "(Ljava/lang/Object;)Z"⟩ : MethodName)) (z := (⟨"com/example/muster/muster/analysis/Value$Symbolic", "equals", "(Ljava/lang/Object;)Z"⟩ : MethodName)) hown (mvT hZ (ow hw 28 rfl)) (mvT hZ (ow hw 29 rfl)) (notFace_of_selects (args := #[]) (mvT hZ (ow hw 31 rfl))) (mvT hZ (ow hw 31 rfl)) (mvT hZ (ow hw 30 rfl)) (by decide) (backOf (W := 0) (rm5_4 l Z a0 hw [] G b10 T12.heap n0 O12 ) hZ (ow hw 32 rfl) (ow hw 3 rfl) (by decide) (by decide)) q44a q44c (g := (mkF m 94 #[.val (.int p1), .val (.long q2), .second, .val (.int p3), .val (.int p4), .val (.long q5), .second, .val (.int p6), .val (.int ((p3 &&& (2147483647 : Int32)) % (9 : Int32))), .val (.int (if (p6 &&& (2 : Int32)) = (0 : Int32) then (((p6.toUInt32 >>> ((8 : Int32) &&& 31).toUInt32).toInt32) % (9 : Int32)) else ((p3 &&& (2147483647 : Int32)) % (9 : Int32)))), .val (.int (if (p6 &&& (1 : Int32)) = (0 : Int32) then p4 else p1)), .val (.long (if (p6 &&& (4 : Int32)) = (0 : Int32) then q5 else q2)), .second, .val (.ref b10), .val (.int (1 : Int32)), .unset, .unset] [.null, (.ref b10)])) rfl (by rw [hml]; rfl) (Steps.refl _) (argsL := [.null]) (rest := []) (lenOf pd_3 rfl) rfl (by show 2 * 0 + _ ≤ _; exact Nat.le_of_eq rfl) (hb hby at_94) (fun _ _ => ⟨rfl, rfl, (by decide : 1 + 0 ≤ _), (by decide : 3 + 0 ≤ _)⟩)
    dsimp only [Pt.U, Pt.locs, Pt.cells, Pt.slots] at X44 l44 y44 z44 st44 hQ44
    subst l44 y44 z44
    obtain ⟨rfl, N44q, e44⟩ := hQ44
    have N44 := Fr.app N12 N44q
    refine OGot.on st44 ?_
    show OGot p.tables e below (T44.setTop (mkF m 97 #[.val (.int p1), .val (.long q2), .second, .val (.int p3), .val (.int p4), .val (.long q5), .second, .val (.int p6), .val (.int ((p3 &&& (2147483647 : Int32)) % (9 : Int32))), .val (.int (if (p6 &&& (2 : Int32)) = (0 : Int32) then (((p6.toUInt32 >>> ((8 : Int32) &&& 31).toUInt32).toInt32) % (9 : Int32)) else ((p3 &&& (2147483647 : Int32)) % (9 : Int32)))), .val (.int (if (p6 &&& (1 : Int32)) = (0 : Int32) then p4 else p1)), .val (.long (if (p6 &&& (4 : Int32)) = (0 : Int32) then q5 else q2)), .second, .val (.ref b10), .val (.int (1 : Int32)), .unset, .unset] [(.int (0 : Int32))])) _
    refine OGot.go (fun t k => XS.ifNo X44.here hx rfl (hb hby at_97) rfl (by decide) k) ?_
    show OGot p.tables e below (T44.setTop (mkF m 100 #[.val (.int p1), .val (.long q2), .second, .val (.int p3), .val (.int p4), .val (.long q5), .second, .val (.int p6), .val (.int ((p3 &&& (2147483647 : Int32)) % (9 : Int32))), .val (.int (if (p6 &&& (2 : Int32)) = (0 : Int32) then (((p6.toUInt32 >>> ((8 : Int32) &&& 31).toUInt32).toInt32) % (9 : Int32)) else ((p3 &&& (2147483647 : Int32)) % (9 : Int32)))), .val (.int (if (p6 &&& (1 : Int32)) = (0 : Int32) then p4 else p1)), .val (.long (if (p6 &&& (4 : Int32)) = (0 : Int32) then q5 else q2)), .second, .val (.ref b10), .val (.int (1 : Int32)), .unset, .unset] [])) _
    refine OGot.go (fun t k => XS.iconst X44.here hx rfl (hb hby at_100) k) ?_
    show OGot p.tables e below (T44.setTop (mkF m 101 #[.val (.int p1), .val (.long q2), .second, .val (.int p3), .val (.int p4), .val (.long q5), .second, .val (.int p6), .val (.int ((p3 &&& (2147483647 : Int32)) % (9 : Int32))), .val (.int (if (p6 &&& (2 : Int32)) = (0 : Int32) then (((p6.toUInt32 >>> ((8 : Int32) &&& 31).toUInt32).toInt32) % (9 : Int32)) else ((p3 &&& (2147483647 : Int32)) % (9 : Int32)))), .val (.int (if (p6 &&& (1 : Int32)) = (0 : Int32) then p4 else p1)), .val (.long (if (p6 &&& (4 : Int32)) = (0 : Int32) then q5 else q2)), .second, .val (.ref b10), .val (.int (1 : Int32)), .unset, .unset] [(.int (1 : Int32))])) _
    refine OGot.go (fun t k => XS.goto X44.here hx rfl (pc0 := 101) (pc' := 105) rfl (hb hby at_101) (by decide) (by decide) k) ?_
    show OGot p.tables e below (T44.setTop (mkF m 105 #[.val (.int p1), .val (.long q2), .second, .val (.int p3), .val (.int p4), .val (.long q5), .second, .val (.int p6), .val (.int ((p3 &&& (2147483647 : Int32)) % (9 : Int32))), .val (.int (if (p6 &&& (2 : Int32)) = (0 : Int32) then (((p6.toUInt32 >>> ((8 : Int32) &&& 31).toUInt32).toInt32) % (9 : Int32)) else ((p3 &&& (2147483647 : Int32)) % (9 : Int32)))), .val (.int (if (p6 &&& (1 : Int32)) = (0 : Int32) then p4 else p1)), .val (.long (if (p6 &&& (4 : Int32)) = (0 : Int32) then q5 else q2)), .second, .val (.ref b10), .val (.int (1 : Int32)), .unset, .unset] [(.int (1 : Int32))])) _
    obtain ⟨fs, hr, hrun, hended, hW, hsame⟩ := X44.leave (v := some (.int (1 : Int32))) (fun h => by rw [Bd.returns] at h; cases h)
    refine ⟨_, _, retN X44 hx (t := .boolean) Bd.returns (by simp) (hb hby at_105) hr, hrun, hended, _, _, rfl, ?_, ⟨_, rfl⟩, hW, hsame.mono (by decide) (by decide)⟩
    exact (⟨rfl, N44⟩ : Q0 Z w_INT8 w_UINT8 w_BOOL w_UINT16 w_UINT64 w_UINT32 w_INT32 w_INT16 w_INT64 w_cache cl_w_cache p1 q2 p3 p4 q5 p6 h0 n0 _ T44.heap _)
  · rw [hk15]
    show OGot p.tables e below (T12.setTop (mkF m 87 #[.val (.int p1), .val (.long q2), .second, .val (.int p3), .val (.int p4), .val (.long q5), .second, .val (.int p6), .val (.int ((p3 &&& (2147483647 : Int32)) % (9 : Int32))), .val (.int (if (p6 &&& (2 : Int32)) = (0 : Int32) then (((p6.toUInt32 >>> ((8 : Int32) &&& 31).toUInt32).toInt32) % (9 : Int32)) else ((p3 &&& (2147483647 : Int32)) % (9 : Int32)))), .val (.int (if (p6 &&& (1 : Int32)) = (0 : Int32) then p4 else p1)), .val (.long (if (p6 &&& (4 : Int32)) = (0 : Int32) then q5 else q2)), .second, .val (.ref b10), .val (.int (2 : Int32)), .unset, .unset] [(.int (2 : Int32))])) _
    refine OGot.go (fun t k => XS.iconst X12.here hx rfl (hb hby at_87) k) ?_
    show OGot p.tables e below (T12.setTop (mkF m 88 #[.val (.int p1), .val (.long q2), .second, .val (.int p3), .val (.int p4), .val (.long q5), .second, .val (.int p6), .val (.int ((p3 &&& (2147483647 : Int32)) % (9 : Int32))), .val (.int (if (p6 &&& (2 : Int32)) = (0 : Int32) then (((p6.toUInt32 >>> ((8 : Int32) &&& 31).toUInt32).toInt32) % (9 : Int32)) else ((p3 &&& (2147483647 : Int32)) % (9 : Int32)))), .val (.int (if (p6 &&& (1 : Int32)) = (0 : Int32) then p4 else p1)), .val (.long (if (p6 &&& (4 : Int32)) = (0 : Int32) then q5 else q2)), .second, .val (.ref b10), .val (.int (2 : Int32)), .unset, .unset] [(.int (1 : Int32)), (.int (2 : Int32))])) _
    refine OGot.go (fun t k => XS.icmpYes X12.here hx rfl (pc0 := 88) (pc' := 106) rfl (hb hby at_88) rfl (by decide) (by decide) (by decide) k) ?_
    show OGot p.tables e below (T12.setTop (mkF m 106 #[.val (.int p1), .val (.long q2), .second, .val (.int p3), .val (.int p4), .val (.long q5), .second, .val (.int p6), .val (.int ((p3 &&& (2147483647 : Int32)) % (9 : Int32))), .val (.int (if (p6 &&& (2 : Int32)) = (0 : Int32) then (((p6.toUInt32 >>> ((8 : Int32) &&& 31).toUInt32).toInt32) % (9 : Int32)) else ((p3 &&& (2147483647 : Int32)) % (9 : Int32)))), .val (.int (if (p6 &&& (1 : Int32)) = (0 : Int32) then p4 else p1)), .val (.long (if (p6 &&& (4 : Int32)) = (0 : Int32) then q5 else q2)), .second, .val (.ref b10), .val (.int (2 : Int32)), .unset, .unset] [])) _
    refine OGot.go (fun t k => XS.iload X12.here hx rfl (hb hby at_106) rfl k) ?_
    show OGot p.tables e below (T12.setTop (mkF m 108 #[.val (.int p1), .val (.long q2), .second, .val (.int p3), .val (.int p4), .val (.long q5), .second, .val (.int p6), .val (.int ((p3 &&& (2147483647 : Int32)) % (9 : Int32))), .val (.int (if (p6 &&& (2 : Int32)) = (0 : Int32) then (((p6.toUInt32 >>> ((8 : Int32) &&& 31).toUInt32).toInt32) % (9 : Int32)) else ((p3 &&& (2147483647 : Int32)) % (9 : Int32)))), .val (.int (if (p6 &&& (1 : Int32)) = (0 : Int32) then p4 else p1)), .val (.long (if (p6 &&& (4 : Int32)) = (0 : Int32) then q5 else q2)), .second, .val (.ref b10), .val (.int (2 : Int32)), .unset, .unset] [(.int (2 : Int32))])) _
    refine OGot.go (fun t k => XS.iconst X12.here hx rfl (hb hby at_108) k) ?_
    show OGot p.tables e below (T12.setTop (mkF m 109 #[.val (.int p1), .val (.long q2), .second, .val (.int p3), .val (.int p4), .val (.long q5), .second, .val (.int p6), .val (.int ((p3 &&& (2147483647 : Int32)) % (9 : Int32))), .val (.int (if (p6 &&& (2 : Int32)) = (0 : Int32) then (((p6.toUInt32 >>> ((8 : Int32) &&& 31).toUInt32).toInt32) % (9 : Int32)) else ((p3 &&& (2147483647 : Int32)) % (9 : Int32)))), .val (.int (if (p6 &&& (1 : Int32)) = (0 : Int32) then p4 else p1)), .val (.long (if (p6 &&& (4 : Int32)) = (0 : Int32) then q5 else q2)), .second, .val (.ref b10), .val (.int (2 : Int32)), .unset, .unset] [(.int (2 : Int32)), (.int (2 : Int32))])) _
    refine OGot.go (fun t k => XS.icmpNo X12.here hx rfl (hb hby at_109) rfl (by decide) k) ?_
    show OGot p.tables e below (T12.setTop (mkF m 112 #[.val (.int p1), .val (.long q2), .second, .val (.int p3), .val (.int p4), .val (.long q5), .second, .val (.int p6), .val (.int ((p3 &&& (2147483647 : Int32)) % (9 : Int32))), .val (.int (if (p6 &&& (2 : Int32)) = (0 : Int32) then (((p6.toUInt32 >>> ((8 : Int32) &&& 31).toUInt32).toInt32) % (9 : Int32)) else ((p3 &&& (2147483647 : Int32)) % (9 : Int32)))), .val (.int (if (p6 &&& (1 : Int32)) = (0 : Int32) then p4 else p1)), .val (.long (if (p6 &&& (4 : Int32)) = (0 : Int32) then q5 else q2)), .second, .val (.ref b10), .val (.int (2 : Int32)), .unset, .unset] [])) _
    refine OGot.go (fun t k => XS.aload X12.here hx rfl (hb hby at_112) rfl rfl k) ?_
    show OGot p.tables e below (T12.setTop (mkF m 114 #[.val (.int p1), .val (.long q2), .second, .val (.int p3), .val (.int p4), .val (.long q5), .second, .val (.int p6), .val (.int ((p3 &&& (2147483647 : Int32)) % (9 : Int32))), .val (.int (if (p6 &&& (2 : Int32)) = (0 : Int32) then (((p6.toUInt32 >>> ((8 : Int32) &&& 31).toUInt32).toInt32) % (9 : Int32)) else ((p3 &&& (2147483647 : Int32)) % (9 : Int32)))), .val (.int (if (p6 &&& (1 : Int32)) = (0 : Int32) then p4 else p1)), .val (.long (if (p6 &&& (4 : Int32)) = (0 : Int32) then q5 else q2)), .second, .val (.ref b10), .val (.int (2 : Int32)), .unset, .unset] [(.ref b10)])) _
    refine OGot.go (fun t k => XS.lloadN X12.here hx rfl (hb hby at_114) rfl k) ?_
    show OGot p.tables e below (T12.setTop (mkF m 115 #[.val (.int p1), .val (.long q2), .second, .val (.int p3), .val (.int p4), .val (.long q5), .second, .val (.int p6), .val (.int ((p3 &&& (2147483647 : Int32)) % (9 : Int32))), .val (.int (if (p6 &&& (2 : Int32)) = (0 : Int32) then (((p6.toUInt32 >>> ((8 : Int32) &&& 31).toUInt32).toInt32) % (9 : Int32)) else ((p3 &&& (2147483647 : Int32)) % (9 : Int32)))), .val (.int (if (p6 &&& (1 : Int32)) = (0 : Int32) then p4 else p1)), .val (.long (if (p6 &&& (4 : Int32)) = (0 : Int32) then q5 else q2)), .second, .val (.ref b10), .val (.int (2 : Int32)), .unset, .unset] [(.long q2), (.ref b10)])) _
    by_cases hs45 : q2 < (-128 : Int64)
    · obtain ⟨_, _, ⟨T46, L46, k46, n46⟩, -, X46, ⟨Lc46, hQ46, l46, y46, z46⟩, st46⟩ := Jvm.LawKit.callS X12 hx (y := (⟨"java/lang/Long", "valueOf", "(J)Ljava/lang/Long;"⟩ : MethodName)) hown (mvT hZ (ow hw 45 rfl)) (mvT hZ (ow hw 46 rfl)) (mvT hZ (ow hw 47 rfl)) (mvT hZ (ow hw 48 rfl)) (by decide) (backOf (W := 1) (rm6 l Z a0 hw [] G q2 T12.heap n0 O12 hs45) hZ (ow hw 48 rfl) (ow hw 47 rfl) (by decide) (by decide)) (g := (mkF m 115 #[.val (.int p1), .val (.long q2), .second, .val (.int p3), .val (.int p4), .val (.long q5), .second, .val (.int p6), .val (.int ((p3 &&& (2147483647 : Int32)) % (9 : Int32))), .val (.int (if (p6 &&& (2 : Int32)) = (0 : Int32) then (((p6.toUInt32 >>> ((8 : Int32) &&& 31).toUInt32).toInt32) % (9 : Int32)) else ((p3 &&& (2147483647 : Int32)) % (9 : Int32)))), .val (.int (if (p6 &&& (1 : Int32)) = (0 : Int32) then p4 else p1)), .val (.long (if (p6 &&& (4 : Int32)) = (0 : Int32) then q5 else q2)), .second, .val (.ref b10), .val (.int (2 : Int32)), .unset, .unset] [(.long q2), (.ref b10)])) rfl (by rw [hml]; rfl) (argsL := [(.long q2)]) (rest := [(.ref b10)]) (lenOf pd_5 rfl) rfl (by show 2 * 0 + _ ≤ _; exact Nat.le_of_eq rfl) (hb hby at_115) (fun _ _ => ⟨rfl, rfl, (by decide : 1 + 1 ≤ _), (by decide : 3 + 1 ≤ _)⟩)
      dsimp only [Pt.U, Pt.locs, Pt.cells, Pt.slots] at X46 l46 y46 z46 st46 hQ46
      subst l46 y46 z46
      obtain ⟨N46q, b2_46, rfl, szb2_46_46, K46, Fo46_0, Fo46_1⟩ := hQ46
      have g_b2_46 : n0 ≤ b2_46 := Nat.le_trans (osz O12) szb2_46_46
      have O46 := OKeep.old O12 K46 oge0
      have N46 := Fr.app N12 N46q
      refine OGot.go st46 ?_
      show OGot p.tables e below (T46.setTop (mkF m 118 #[.val (.int p1), .val (.long q2), .second, .val (.int p3), .val (.int p4), .val (.long q5), .second, .val (.int p6), .val (.int ((p3 &&& (2147483647 : Int32)) % (9 : Int32))), .val (.int (if (p6 &&& (2 : Int32)) = (0 : Int32) then (((p6.toUInt32 >>> ((8 : Int32) &&& 31).toUInt32).toInt32) % (9 : Int32)) else ((p3 &&& (2147483647 : Int32)) % (9 : Int32)))), .val (.int (if (p6 &&& (1 : Int32)) = (0 : Int32) then p4 else p1)), .val (.long (if (p6 &&& (4 : Int32)) = (0 : Int32) then q5 else q2)), .second, .val (.ref b10), .val (.int (2 : Int32)), .unset, .unset] [(.ref b2_46), (.ref b10)])) _
      obtain ⟨cq47, kq47, q47a, q47b, q47c⟩ := isOf hZ rfl (OKeep.exa (OKeep.exa A10 K12) K46)
      obtain ⟨_, _, ⟨T47, L47, k47, n47⟩, -, X47, ⟨Lc47, hQ47, l47, y47, z47⟩, st47⟩ := X46.virtualBack hx (y := (⟨"com/example/muster/muster/analysis/Value$Symbolic", "equals", "(Ljava/lang/Object;)Z"⟩ : MethodName)) (z := (⟨"com/example/muster/muster/analysis/Value$Symbolic", "equals", "(Ljava/lang/Object;)Z"⟩ : MethodName)) hown (mvT hZ (ow hw 28 rfl)) (mvT hZ (ow hw 29 rfl)) (notFace_of_selects (args := #[]) (mvT hZ (ow hw 31 rfl))) (mvT hZ (ow hw 31 rfl)) (mvT hZ (ow hw 30 rfl)) (by decide) (backOf (W := 0) (rm5_5 l Z a0 hw [] G b10 b2_46 T46.heap n0 O46 Fo46_0) hZ (ow hw 32 rfl) (ow hw 3 rfl) (by decide) (by decide)) q47a q47c (g := (mkF m 118 #[.val (.int p1), .val (.long q2), .second, .val (.int p3), .val (.int p4), .val (.long q5), .second, .val (.int p6), .val (.int ((p3 &&& (2147483647 : Int32)) % (9 : Int32))), .val (.int (if (p6 &&& (2 : Int32)) = (0 : Int32) then (((p6.toUInt32 >>> ((8 : Int32) &&& 31).toUInt32).toInt32) % (9 : Int32)) else ((p3 &&& (2147483647 : Int32)) % (9 : Int32)))), .val (.int (if (p6 &&& (1 : Int32)) = (0 : Int32) then p4 else p1)), .val (.long (if (p6 &&& (4 : Int32)) = (0 : Int32) then q5 else q2)), .second, .val (.ref b10), .val (.int (2 : Int32)), .unset, .unset] [(.ref b2_46), (.ref b10)])) rfl (by rw [hml]; rfl) (Steps.refl _) (argsL := [(.ref b2_46)]) (rest := []) (lenOf pd_3 rfl) rfl (by show 2 * 0 + _ ≤ _; exact Nat.le_of_eq rfl) (hb hby at_118) (fun _ _ => ⟨rfl, rfl, (by decide : 2 + 0 ≤ _), (by decide : 4 + 0 ≤ _)⟩)
      dsimp only [Pt.U, Pt.locs, Pt.cells, Pt.slots] at X47 l47 y47 z47 st47 hQ47
      subst l47 y47 z47
      obtain ⟨rfl, N47q, e47⟩ := hQ47
      have N47 := Fr.app N46 N47q
      refine OGot.on st47 ?_
      show OGot p.tables e below (T47.setTop (mkF m 121 #[.val (.int p1), .val (.long q2), .second, .val (.int p3), .val (.int p4), .val (.long q5), .second, .val (.int p6), .val (.int ((p3 &&& (2147483647 : Int32)) % (9 : Int32))), .val (.int (if (p6 &&& (2 : Int32)) = (0 : Int32) then (((p6.toUInt32 >>> ((8 : Int32) &&& 31).toUInt32).toInt32) % (9 : Int32)) else ((p3 &&& (2147483647 : Int32)) % (9 : Int32)))), .val (.int (if (p6 &&& (1 : Int32)) = (0 : Int32) then p4 else p1)), .val (.long (if (p6 &&& (4 : Int32)) = (0 : Int32) then q5 else q2)), .second, .val (.ref b10), .val (.int (2 : Int32)), .unset, .unset] [(.int (0 : Int32))])) _
      refine OGot.go (fun t k => XS.ifNo X47.here hx rfl (hb hby at_121) rfl (by decide) k) ?_
      show OGot p.tables e below (T47.setTop (mkF m 124 #[.val (.int p1), .val (.long q2), .second, .val (.int p3), .val (.int p4), .val (.long q5), .second, .val (.int p6), .val (.int ((p3 &&& (2147483647 : Int32)) % (9 : Int32))), .val (.int (if (p6 &&& (2 : Int32)) = (0 : Int32) then (((p6.toUInt32 >>> ((8 : Int32) &&& 31).toUInt32).toInt32) % (9 : Int32)) else ((p3 &&& (2147483647 : Int32)) % (9 : Int32)))), .val (.int (if (p6 &&& (1 : Int32)) = (0 : Int32) then p4 else p1)), .val (.long (if (p6 &&& (4 : Int32)) = (0 : Int32) then q5 else q2)), .second, .val (.ref b10), .val (.int (2 : Int32)), .unset, .unset] [])) _
      refine OGot.go (fun t k => XS.iconst X47.here hx rfl (hb hby at_124) k) ?_
      show OGot p.tables e below (T47.setTop (mkF m 125 #[.val (.int p1), .val (.long q2), .second, .val (.int p3), .val (.int p4), .val (.long q5), .second, .val (.int p6), .val (.int ((p3 &&& (2147483647 : Int32)) % (9 : Int32))), .val (.int (if (p6 &&& (2 : Int32)) = (0 : Int32) then (((p6.toUInt32 >>> ((8 : Int32) &&& 31).toUInt32).toInt32) % (9 : Int32)) else ((p3 &&& (2147483647 : Int32)) % (9 : Int32)))), .val (.int (if (p6 &&& (1 : Int32)) = (0 : Int32) then p4 else p1)), .val (.long (if (p6 &&& (4 : Int32)) = (0 : Int32) then q5 else q2)), .second, .val (.ref b10), .val (.int (2 : Int32)), .unset, .unset] [(.int (1 : Int32))])) _
      refine OGot.go (fun t k => XS.goto X47.here hx rfl (pc0 := 125) (pc' := 129) rfl (hb hby at_125) (by decide) (by decide) k) ?_
      show OGot p.tables e below (T47.setTop (mkF m 129 #[.val (.int p1), .val (.long q2), .second, .val (.int p3), .val (.int p4), .val (.long q5), .second, .val (.int p6), .val (.int ((p3 &&& (2147483647 : Int32)) % (9 : Int32))), .val (.int (if (p6 &&& (2 : Int32)) = (0 : Int32) then (((p6.toUInt32 >>> ((8 : Int32) &&& 31).toUInt32).toInt32) % (9 : Int32)) else ((p3 &&& (2147483647 : Int32)) % (9 : Int32)))), .val (.int (if (p6 &&& (1 : Int32)) = (0 : Int32) then p4 else p1)), .val (.long (if (p6 &&& (4 : Int32)) = (0 : Int32) then q5 else q2)), .second, .val (.ref b10), .val (.int (2 : Int32)), .unset, .unset] [(.int (1 : Int32))])) _
      obtain ⟨fs, hr, hrun, hended, hW, hsame⟩ := X47.leave (v := some (.int (1 : Int32))) (fun h => by rw [Bd.returns] at h; cases h)
      refine ⟨_, _, retN X47 hx (t := .boolean) Bd.returns (by simp) (hb hby at_129) hr, hrun, hended, _, _, rfl, ?_, ⟨_, rfl⟩, hW, hsame.mono (by decide) (by decide)⟩
      exact (⟨rfl, N47⟩ : Q0 Z w_INT8 w_UINT8 w_BOOL w_UINT16 w_UINT64 w_UINT32 w_INT32 w_INT16 w_INT64 w_cache cl_w_cache p1 q2 p3 p4 q5 p6 h0 n0 _ T47.heap _)
    · by_cases hs48 : (127 : Int64) < q2
      · obtain ⟨_, _, ⟨T49, L49, k49, n49⟩, -, X49, ⟨Lc49, hQ49, l49, y49, z49⟩, st49⟩ := Jvm.LawKit.callS X12 hx (y := (⟨"java/lang/Long", "valueOf", "(J)Ljava/lang/Long;"⟩ : MethodName)) hown (mvT hZ (ow hw 45 rfl)) (mvT hZ (ow hw 46 rfl)) (mvT hZ (ow hw 47 rfl)) (mvT hZ (ow hw 48 rfl)) (by decide) (backOf (W := 1) (rm6_1 l Z a0 hw [] G q2 T12.heap n0 O12 hs45 hs48) hZ (ow hw 48 rfl) (ow hw 47 rfl) (by decide) (by decide)) (g := (mkF m 115 #[.val (.int p1), .val (.long q2), .second, .val (.int p3), .val (.int p4), .val (.long q5), .second, .val (.int p6), .val (.int ((p3 &&& (2147483647 : Int32)) % (9 : Int32))), .val (.int (if (p6 &&& (2 : Int32)) = (0 : Int32) then (((p6.toUInt32 >>> ((8 : Int32) &&& 31).toUInt32).toInt32) % (9 : Int32)) else ((p3 &&& (2147483647 : Int32)) % (9 : Int32)))), .val (.int (if (p6 &&& (1 : Int32)) = (0 : Int32) then p4 else p1)), .val (.long (if (p6 &&& (4 : Int32)) = (0 : Int32) then q5 else q2)), .second, .val (.ref b10), .val (.int (2 : Int32)), .unset, .unset] [(.long q2), (.ref b10)])) rfl (by rw [hml]; rfl) (argsL := [(.long q2)]) (rest := [(.ref b10)]) (lenOf pd_5 rfl) rfl (by show 2 * 0 + _ ≤ _; exact Nat.le_of_eq rfl) (hb hby at_115) (fun _ _ => ⟨rfl, rfl, (by decide : 1 + 1 ≤ _), (by decide : 3 + 1 ≤ _)⟩)
        dsimp only [Pt.U, Pt.locs, Pt.cells, Pt.slots] at X49 l49 y49 z49 st49 hQ49
        subst l49 y49 z49
        obtain ⟨N49q, b2_49, rfl, szb2_49_49, K49, Fo49_0, Fo49_1⟩ := hQ49
        have g_b2_49 : n0 ≤ b2_49 := Nat.le_trans (osz O12) szb2_49_49
        have O49 := OKeep.old O12 K49 oge0
        have N49 := Fr.app N12 N49q
        refine OGot.go st49 ?_
        show OGot p.tables e below (T49.setTop (mkF m 118 #[.val (.int p1), .val (.long q2), .second, .val (.int p3), .val (.int p4), .val (.long q5), .second, .val (.int p6), .val (.int ((p3 &&& (2147483647 : Int32)) % (9 : Int32))), .val (.int (if (p6 &&& (2 : Int32)) = (0 : Int32) then (((p6.toUInt32 >>> ((8 : Int32) &&& 31).toUInt32).toInt32) % (9 : Int32)) else ((p3 &&& (2147483647 : Int32)) % (9 : Int32)))), .val (.int (if (p6 &&& (1 : Int32)) = (0 : Int32) then p4 else p1)), .val (.long (if (p6 &&& (4 : Int32)) = (0 : Int32) then q5 else q2)), .second, .val (.ref b10), .val (.int (2 : Int32)), .unset, .unset] [(.ref b2_49), (.ref b10)])) _
        obtain ⟨cq50, kq50, q50a, q50b, q50c⟩ := isOf hZ rfl (OKeep.exa (OKeep.exa A10 K12) K49)
        obtain ⟨_, _, ⟨T50, L50, k50, n50⟩, -, X50, ⟨Lc50, hQ50, l50, y50, z50⟩, st50⟩ := X49.virtualBack hx (y := (⟨"com/example/muster/muster/analysis/Value$Symbolic", "equals", "(Ljava/lang/Object;)Z"⟩ : MethodName)) (z := (⟨"com/example/muster/muster/analysis/Value$Symbolic", "equals", "(Ljava/lang/Object;)Z"⟩ : MethodName)) hown (mvT hZ (ow hw 28 rfl)) (mvT hZ (ow hw 29 rfl)) (notFace_of_selects (args := #[]) (mvT hZ (ow hw 31 rfl))) (mvT hZ (ow hw 31 rfl)) (mvT hZ (ow hw 30 rfl)) (by decide) (backOf (W := 0) (rm5_5 l Z a0 hw [] G b10 b2_49 T49.heap n0 O49 Fo49_0) hZ (ow hw 32 rfl) (ow hw 3 rfl) (by decide) (by decide)) q50a q50c (g := (mkF m 118 #[.val (.int p1), .val (.long q2), .second, .val (.int p3), .val (.int p4), .val (.long q5), .second, .val (.int p6), .val (.int ((p3 &&& (2147483647 : Int32)) % (9 : Int32))), .val (.int (if (p6 &&& (2 : Int32)) = (0 : Int32) then (((p6.toUInt32 >>> ((8 : Int32) &&& 31).toUInt32).toInt32) % (9 : Int32)) else ((p3 &&& (2147483647 : Int32)) % (9 : Int32)))), .val (.int (if (p6 &&& (1 : Int32)) = (0 : Int32) then p4 else p1)), .val (.long (if (p6 &&& (4 : Int32)) = (0 : Int32) then q5 else q2)), .second, .val (.ref b10), .val (.int (2 : Int32)), .unset, .unset] [(.ref b2_49), (.ref b10)])) rfl (by rw [hml]; rfl) (Steps.refl _) (argsL := [(.ref b2_49)]) (rest := []) (lenOf pd_3 rfl) rfl (by show 2 * 0 + _ ≤ _; exact Nat.le_of_eq rfl) (hb hby at_118) (fun _ _ => ⟨rfl, rfl, (by decide : 2 + 0 ≤ _), (by decide : 4 + 0 ≤ _)⟩)
        dsimp only [Pt.U, Pt.locs, Pt.cells, Pt.slots] at X50 l50 y50 z50 st50 hQ50
        subst l50 y50 z50
        obtain ⟨rfl, N50q, e50⟩ := hQ50
        have N50 := Fr.app N49 N50q
        refine OGot.on st50 ?_
        show OGot p.tables e below (T50.setTop (mkF m 121 #[.val (.int p1), .val (.long q2), .second, .val (.int p3), .val (.int p4), .val (.long q5), .second, .val (.int p6), .val (.int ((p3 &&& (2147483647 : Int32)) % (9 : Int32))), .val (.int (if (p6 &&& (2 : Int32)) = (0 : Int32) then (((p6.toUInt32 >>> ((8 : Int32) &&& 31).toUInt32).toInt32) % (9 : Int32)) else ((p3 &&& (2147483647 : Int32)) % (9 : Int32)))), .val (.int (if (p6 &&& (1 : Int32)) = (0 : Int32) then p4 else p1)), .val (.long (if (p6 &&& (4 : Int32)) = (0 : Int32) then q5 else q2)), .second, .val (.ref b10), .val (.int (2 : Int32)), .unset, .unset] [(.int (0 : Int32))])) _
        refine OGot.go (fun t k => XS.ifNo X50.here hx rfl (hb hby at_121) rfl (by decide) k) ?_
        show OGot p.tables e below (T50.setTop (mkF m 124 #[.val (.int p1), .val (.long q2), .second, .val (.int p3), .val (.int p4), .val (.long q5), .second, .val (.int p6), .val (.int ((p3 &&& (2147483647 : Int32)) % (9 : Int32))), .val (.int (if (p6 &&& (2 : Int32)) = (0 : Int32) then (((p6.toUInt32 >>> ((8 : Int32) &&& 31).toUInt32).toInt32) % (9 : Int32)) else ((p3 &&& (2147483647 : Int32)) % (9 : Int32)))), .val (.int (if (p6 &&& (1 : Int32)) = (0 : Int32) then p4 else p1)), .val (.long (if (p6 &&& (4 : Int32)) = (0 : Int32) then q5 else q2)), .second, .val (.ref b10), .val (.int (2 : Int32)), .unset, .unset] [])) _
        refine OGot.go (fun t k => XS.iconst X50.here hx rfl (hb hby at_124) k) ?_
        show OGot p.tables e below (T50.setTop (mkF m 125 #[.val (.int p1), .val (.long q2), .second, .val (.int p3), .val (.int p4), .val (.long q5), .second, .val (.int p6), .val (.int ((p3 &&& (2147483647 : Int32)) % (9 : Int32))), .val (.int (if (p6 &&& (2 : Int32)) = (0 : Int32) then (((p6.toUInt32 >>> ((8 : Int32) &&& 31).toUInt32).toInt32) % (9 : Int32)) else ((p3 &&& (2147483647 : Int32)) % (9 : Int32)))), .val (.int (if (p6 &&& (1 : Int32)) = (0 : Int32) then p4 else p1)), .val (.long (if (p6 &&& (4 : Int32)) = (0 : Int32) then q5 else q2)), .second, .val (.ref b10), .val (.int (2 : Int32)), .unset, .unset] [(.int (1 : Int32))])) _
        refine OGot.go (fun t k => XS.goto X50.here hx rfl (pc0 := 125) (pc' := 129) rfl (hb hby at_125) (by decide) (by decide) k) ?_
        show OGot p.tables e below (T50.setTop (mkF m 129 #[.val (.int p1), .val (.long q2), .second, .val (.int p3), .val (.int p4), .val (.long q5), .second, .val (.int p6), .val (.int ((p3 &&& (2147483647 : Int32)) % (9 : Int32))), .val (.int (if (p6 &&& (2 : Int32)) = (0 : Int32) then (((p6.toUInt32 >>> ((8 : Int32) &&& 31).toUInt32).toInt32) % (9 : Int32)) else ((p3 &&& (2147483647 : Int32)) % (9 : Int32)))), .val (.int (if (p6 &&& (1 : Int32)) = (0 : Int32) then p4 else p1)), .val (.long (if (p6 &&& (4 : Int32)) = (0 : Int32) then q5 else q2)), .second, .val (.ref b10), .val (.int (2 : Int32)), .unset, .unset] [(.int (1 : Int32))])) _
        obtain ⟨fs, hr, hrun, hended, hW, hsame⟩ := X50.leave (v := some (.int (1 : Int32))) (fun h => by rw [Bd.returns] at h; cases h)
        refine ⟨_, _, retN X50 hx (t := .boolean) Bd.returns (by simp) (hb hby at_129) hr, hrun, hended, _, _, rfl, ?_, ⟨_, rfl⟩, hW, hsame.mono (by decide) (by decide)⟩
        exact (⟨rfl, N50⟩ : Q0 Z w_INT8 w_UINT8 w_BOOL w_UINT16 w_UINT64 w_UINT32 w_INT32 w_INT16 w_INT64 w_cache cl_w_cache p1 q2 p3 p4 q5 p6 h0 n0 _ T50.heap _)
      · obtain ⟨_, _, ⟨T51, L51, k51, n51⟩, -, X51, ⟨Lc51, hQ51, l51, y51, z51⟩, st51⟩ := Jvm.LawKit.callS X12 hx (y := (⟨"java/lang/Long", "valueOf", "(J)Ljava/lang/Long;"⟩ : MethodName)) hown (mvT hZ (ow hw 45 rfl)) (mvT hZ (ow hw 46 rfl)) (mvT hZ (ow hw 47 rfl)) (mvT hZ (ow hw 48 rfl)) (by decide) (backOf (W := 1) (rm6_2 l Z a0 hw [] G q2 T12.heap n0 O12 hs45 hs48) hZ (ow hw 48 rfl) (ow hw 47 rfl) (by decide) (by decide)) (g := (mkF m 115 #[.val (.int p1), .val (.long q2), .second, .val (.int p3), .val (.int p4), .val (.long q5), .second, .val (.int p6), .val (.int ((p3 &&& (2147483647 : Int32)) % (9 : Int32))), .val (.int (if (p6 &&& (2 : Int32)) = (0 : Int32) then (((p6.toUInt32 >>> ((8 : Int32) &&& 31).toUInt32).toInt32) % (9 : Int32)) else ((p3 &&& (2147483647 : Int32)) % (9 : Int32)))), .val (.int (if (p6 &&& (1 : Int32)) = (0 : Int32) then p4 else p1)), .val (.long (if (p6 &&& (4 : Int32)) = (0 : Int32) then q5 else q2)), .second, .val (.ref b10), .val (.int (2 : Int32)), .unset, .unset] [(.long q2), (.ref b10)])) rfl (by rw [hml]; rfl) (argsL := [(.long q2)]) (rest := [(.ref b10)]) (lenOf pd_5 rfl) rfl (by show 2 * 0 + _ ≤ _; exact Nat.le_of_eq rfl) (hb hby at_115) (fun _ _ => ⟨rfl, rfl, (by decide : 1 + 0 ≤ _), (by decide : 3 + 0 ≤ _)⟩)
        dsimp only [Pt.U, Pt.locs, Pt.cells, Pt.slots] at X51 l51 y51 z51 st51 hQ51
        subst l51 y51 z51
        obtain ⟨rfl, N51q, e51, Rf51_0⟩ := hQ51
        have N51 := Fr.app N12 N51q
        refine OGot.go st51 ?_
        show OGot p.tables e below (T51.setTop (mkF m 118 #[.val (.int p1), .val (.long q2), .second, .val (.int p3), .val (.int p4), .val (.long q5), .second, .val (.int p6), .val (.int ((p3 &&& (2147483647 : Int32)) % (9 : Int32))), .val (.int (if (p6 &&& (2 : Int32)) = (0 : Int32) then (((p6.toUInt32 >>> ((8 : Int32) &&& 31).toUInt32).toInt32) % (9 : Int32)) else ((p3 &&& (2147483647 : Int32)) % (9 : Int32)))), .val (.int (if (p6 &&& (1 : Int32)) = (0 : Int32) then p4 else p1)), .val (.long (if (p6 &&& (4 : Int32)) = (0 : Int32) then q5 else q2)), .second, .val (.ref b10), .val (.int (2 : Int32)), .unset, .unset] [(.ref (obox cl_w_cache ((q2.toInt32) + (128 : Int32)))), (.ref b10)])) _
        obtain ⟨cq52, kq52, q52a, q52b, q52c⟩ := isOf hZ e51 (OKeep.exa A10 K12)
        obtain ⟨_, _, ⟨T52, L52, k52, n52⟩, -, X52, ⟨Lc52, hQ52, l52, y52, z52⟩, st52⟩ := X51.virtualBack hx (y := (⟨"com/example/muster/muster/analysis/Value$Symbolic", "equals", "(Ljava/lang/Object;)Z"⟩ : MethodName)) (z := (⟨"com/example/muster/muster/analysis/Value$Symbolic", "equals", "(Ljava/lang/Object;)Z"⟩ : MethodName)) hown (mvT hZ (ow hw 28 rfl)) (mvT hZ (ow hw 29 rfl)) (notFace_of_selects (args := #[]) (mvT hZ (ow hw 31 rfl))) (mvT hZ (ow hw 31 rfl)) (mvT hZ (ow hw 30 rfl)) (by decide) (backOf (W := 0) (rm5_5 l Z a0 hw [] G b10 (obox cl_w_cache ((q2.toInt32) + (128 : Int32))) T12.heap n0 O12 (Rf51_0.ext O12.2)) hZ (ow hw 32 rfl) (ow hw 3 rfl) (by decide) (by decide)) q52a q52c (g := (mkF m 118 #[.val (.int p1), .val (.long q2), .second, .val (.int p3), .val (.int p4), .val (.long q5), .second, .val (.int p6), .val (.int ((p3 &&& (2147483647 : Int32)) % (9 : Int32))), .val (.int (if (p6 &&& (2 : Int32)) = (0 : Int32) then (((p6.toUInt32 >>> ((8 : Int32) &&& 31).toUInt32).toInt32) % (9 : Int32)) else ((p3 &&& (2147483647 : Int32)) % (9 : Int32)))), .val (.int (if (p6 &&& (1 : Int32)) = (0 : Int32) then p4 else p1)), .val (.long (if (p6 &&& (4 : Int32)) = (0 : Int32) then q5 else q2)), .second, .val (.ref b10), .val (.int (2 : Int32)), .unset, .unset] [(.ref (obox cl_w_cache ((q2.toInt32) + (128 : Int32)))), (.ref b10)])) rfl (by rw [hml]; rfl) (Steps.refl _) (argsL := [(.ref (obox cl_w_cache ((q2.toInt32) + (128 : Int32))))]) (rest := []) (lenOf pd_3 rfl) rfl (by show 2 * 0 + _ ≤ _; exact Nat.le_of_eq rfl) (hb hby at_118) (fun _ _ => ⟨rfl, e51, (by decide : 1 + 0 ≤ _), (by decide : 3 + 0 ≤ _)⟩)
        dsimp only [Pt.U, Pt.locs, Pt.cells, Pt.slots] at X52 l52 y52 z52 st52 hQ52
        subst l52 y52 z52
        obtain ⟨rfl, N52q, e52⟩ := hQ52
        have N52 := Fr.app N51 N52q
        refine OGot.on st52 ?_
        show OGot p.tables e below (T52.setTop (mkF m 121 #[.val (.int p1), .val (.long q2), .second, .val (.int p3), .val (.int p4), .val (.long q5), .second, .val (.int p6), .val (.int ((p3 &&& (2147483647 : Int32)) % (9 : Int32))), .val (.int (if (p6 &&& (2 : Int32)) = (0 : Int32) then (((p6.toUInt32 >>> ((8 : Int32) &&& 31).toUInt32).toInt32) % (9 : Int32)) else ((p3 &&& (2147483647 : Int32)) % (9 : Int32)))), .val (.int (if (p6 &&& (1 : Int32)) = (0 : Int32) then p4 else p1)), .val (.long (if (p6 &&& (4 : Int32)) = (0 : Int32) then q5 else q2)), .second, .val (.ref b10), .val (.int (2 : Int32)), .unset, .unset] [(.int (0 : Int32))])) _
        refine OGot.go (fun t k => XS.ifNo X52.here hx rfl (hb hby at_121) rfl (by decide) k) ?_
        show OGot p.tables e below (T52.setTop (mkF m 124 #[.val (.int p1), .val (.long q2), .second, .val (.int p3), .val (.int p4), .val (.long q5), .second, .val (.int p6), .val (.int ((p3 &&& (2147483647 : Int32)) % (9 : Int32))), .val (.int (if (p6 &&& (2 : Int32)) = (0 : Int32) then (((p6.toUInt32 >>> ((8 : Int32) &&& 31).toUInt32).toInt32) % (9 : Int32)) else ((p3 &&& (2147483647 : Int32)) % (9 : Int32)))), .val (.int (if (p6 &&& (1 : Int32)) = (0 : Int32) then p4 else p1)), .val (.long (if (p6 &&& (4 : Int32)) = (0 : Int32) then q5 else q2)), .second, .val (.ref b10), .val (.int (2 : Int32)), .unset, .unset] [])) _
        refine OGot.go (fun t k => XS.iconst X52.here hx rfl (hb hby at_124) k) ?_
        show OGot p.tables e below (T52.setTop (mkF m 125 #[.val (.int p1), .val (.long q2), .second, .val (.int p3), .val (.int p4), .val (.long q5), .second, .val (.int p6), .val (.int ((p3 &&& (2147483647 : Int32)) % (9 : Int32))), .val (.int (if (p6 &&& (2 : Int32)) = (0 : Int32) then (((p6.toUInt32 >>> ((8 : Int32) &&& 31).toUInt32).toInt32) % (9 : Int32)) else ((p3 &&& (2147483647 : Int32)) % (9 : Int32)))), .val (.int (if (p6 &&& (1 : Int32)) = (0 : Int32) then p4 else p1)), .val (.long (if (p6 &&& (4 : Int32)) = (0 : Int32) then q5 else q2)), .second, .val (.ref b10), .val (.int (2 : Int32)), .unset, .unset] [(.int (1 : Int32))])) _
        refine OGot.go (fun t k => XS.goto X52.here hx rfl (pc0 := 125) (pc' := 129) rfl (hb hby at_125) (by decide) (by decide) k) ?_
        show OGot p.tables e below (T52.setTop (mkF m 129 #[.val (.int p1), .val (.long q2), .second, .val (.int p3), .val (.int p4), .val (.long q5), .second, .val (.int p6), .val (.int ((p3 &&& (2147483647 : Int32)) % (9 : Int32))), .val (.int (if (p6 &&& (2 : Int32)) = (0 : Int32) then (((p6.toUInt32 >>> ((8 : Int32) &&& 31).toUInt32).toInt32) % (9 : Int32)) else ((p3 &&& (2147483647 : Int32)) % (9 : Int32)))), .val (.int (if (p6 &&& (1 : Int32)) = (0 : Int32) then p4 else p1)), .val (.long (if (p6 &&& (4 : Int32)) = (0 : Int32) then q5 else q2)), .second, .val (.ref b10), .val (.int (2 : Int32)), .unset, .unset] [(.int (1 : Int32))])) _
        obtain ⟨fs, hr, hrun, hended, hW, hsame⟩ := X52.leave (v := some (.int (1 : Int32))) (fun h => by rw [Bd.returns] at h; cases h)
        refine ⟨_, _, retN X52 hx (t := .boolean) Bd.returns (by simp) (hb hby at_129) hr, hrun, hended, _, _, rfl, ?_, ⟨_, rfl⟩, hW, hsame.mono (by decide) (by decide)⟩
        exact (⟨rfl, N52⟩ : Q0 Z w_INT8 w_UINT8 w_BOOL w_UINT16 w_UINT64 w_UINT32 w_INT32 w_INT16 w_INT64 w_cache cl_w_cache p1 q2 p3 p4 q5 p6 h0 n0 _ T52.heap _)
  · rw [hk16]
    show OGot p.tables e below (T12.setTop (mkF m 87 #[.val (.int p1), .val (.long q2), .second, .val (.int p3), .val (.int p4), .val (.long q5), .second, .val (.int p6), .val (.int ((p3 &&& (2147483647 : Int32)) % (9 : Int32))), .val (.int (if (p6 &&& (2 : Int32)) = (0 : Int32) then (((p6.toUInt32 >>> ((8 : Int32) &&& 31).toUInt32).toInt32) % (9 : Int32)) else ((p3 &&& (2147483647 : Int32)) % (9 : Int32)))), .val (.int (if (p6 &&& (1 : Int32)) = (0 : Int32) then p4 else p1)), .val (.long (if (p6 &&& (4 : Int32)) = (0 : Int32) then q5 else q2)), .second, .val (.ref b10), .val (.int (3 : Int32)), .unset, .unset] [(.int (3 : Int32))])) _
    refine OGot.go (fun t k => XS.iconst X12.here hx rfl (hb hby at_87) k) ?_
    show OGot p.tables e below (T12.setTop (mkF m 88 #[.val (.int p1), .val (.long q2), .second, .val (.int p3), .val (.int p4), .val (.long q5), .second, .val (.int p6), .val (.int ((p3 &&& (2147483647 : Int32)) % (9 : Int32))), .val (.int (if (p6 &&& (2 : Int32)) = (0 : Int32) then (((p6.toUInt32 >>> ((8 : Int32) &&& 31).toUInt32).toInt32) % (9 : Int32)) else ((p3 &&& (2147483647 : Int32)) % (9 : Int32)))), .val (.int (if (p6 &&& (1 : Int32)) = (0 : Int32) then p4 else p1)), .val (.long (if (p6 &&& (4 : Int32)) = (0 : Int32) then q5 else q2)), .second, .val (.ref b10), .val (.int (3 : Int32)), .unset, .unset] [(.int (1 : Int32)), (.int (3 : Int32))])) _
    refine OGot.go (fun t k => XS.icmpYes X12.here hx rfl (pc0 := 88) (pc' := 106) rfl (hb hby at_88) rfl (by decide) (by decide) (by decide) k) ?_
    show OGot p.tables e below (T12.setTop (mkF m 106 #[.val (.int p1), .val (.long q2), .second, .val (.int p3), .val (.int p4), .val (.long q5), .second, .val (.int p6), .val (.int ((p3 &&& (2147483647 : Int32)) % (9 : Int32))), .val (.int (if (p6 &&& (2 : Int32)) = (0 : Int32) then (((p6.toUInt32 >>> ((8 : Int32) &&& 31).toUInt32).toInt32) % (9 : Int32)) else ((p3 &&& (2147483647 : Int32)) % (9 : Int32)))), .val (.int (if (p6 &&& (1 : Int32)) = (0 : Int32) then p4 else p1)), .val (.long (if (p6 &&& (4 : Int32)) = (0 : Int32) then q5 else q2)), .second, .val (.ref b10), .val (.int (3 : Int32)), .unset, .unset] [])) _
    refine OGot.go (fun t k => XS.iload X12.here hx rfl (hb hby at_106) rfl k) ?_
    show OGot p.tables e below (T12.setTop (mkF m 108 #[.val (.int p1), .val (.long q2), .second, .val (.int p3), .val (.int p4), .val (.long q5), .second, .val (.int p6), .val (.int ((p3 &&& (2147483647 : Int32)) % (9 : Int32))), .val (.int (if (p6 &&& (2 : Int32)) = (0 : Int32) then (((p6.toUInt32 >>> ((8 : Int32) &&& 31).toUInt32).toInt32) % (9 : Int32)) else ((p3 &&& (2147483647 : Int32)) % (9 : Int32)))), .val (.int (if (p6 &&& (1 : Int32)) = (0 : Int32) then p4 else p1)), .val (.long (if (p6 &&& (4 : Int32)) = (0 : Int32) then q5 else q2)), .second, .val (.ref b10), .val (.int (3 : Int32)), .unset, .unset] [(.int (3 : Int32))])) _
    refine OGot.go (fun t k => XS.iconst X12.here hx rfl (hb hby at_108) k) ?_
    show OGot p.tables e below (T12.setTop (mkF m 109 #[.val (.int p1), .val (.long q2), .second, .val (.int p3), .val (.int p4), .val (.long q5), .second, .val (.int p6), .val (.int ((p3 &&& (2147483647 : Int32)) % (9 : Int32))), .val (.int (if (p6 &&& (2 : Int32)) = (0 : Int32) then (((p6.toUInt32 >>> ((8 : Int32) &&& 31).toUInt32).toInt32) % (9 : Int32)) else ((p3 &&& (2147483647 : Int32)) % (9 : Int32)))), .val (.int (if (p6 &&& (1 : Int32)) = (0 : Int32) then p4 else p1)), .val (.long (if (p6 &&& (4 : Int32)) = (0 : Int32) then q5 else q2)), .second, .val (.ref b10), .val (.int (3 : Int32)), .unset, .unset] [(.int (2 : Int32)), (.int (3 : Int32))])) _
    refine OGot.go (fun t k => XS.icmpYes X12.here hx rfl (pc0 := 109) (pc' := 130) rfl (hb hby at_109) rfl (by decide) (by decide) (by decide) k) ?_
    show OGot p.tables e below (T12.setTop (mkF m 130 #[.val (.int p1), .val (.long q2), .second, .val (.int p3), .val (.int p4), .val (.long q5), .second, .val (.int p6), .val (.int ((p3 &&& (2147483647 : Int32)) % (9 : Int32))), .val (.int (if (p6 &&& (2 : Int32)) = (0 : Int32) then (((p6.toUInt32 >>> ((8 : Int32) &&& 31).toUInt32).toInt32) % (9 : Int32)) else ((p3 &&& (2147483647 : Int32)) % (9 : Int32)))), .val (.int (if (p6 &&& (1 : Int32)) = (0 : Int32) then p4 else p1)), .val (.long (if (p6 &&& (4 : Int32)) = (0 : Int32) then q5 else q2)), .second, .val (.ref b10), .val (.int (3 : Int32)), .unset, .unset] [])) _
    refine OGot.go (fun t k => XS.iload X12.here hx rfl (hb hby at_130) rfl k) ?_
    show OGot p.tables e below (T12.setTop (mkF m 132 #[.val (.int p1), .val (.long q2), .second, .val (.int p3), .val (.int p4), .val (.long q5), .second, .val (.int p6), .val (.int ((p3 &&& (2147483647 : Int32)) % (9 : Int32))), .val (.int (if (p6 &&& (2 : Int32)) = (0 : Int32) then (((p6.toUInt32 >>> ((8 : Int32) &&& 31).toUInt32).toInt32) % (9 : Int32)) else ((p3 &&& (2147483647 : Int32)) % (9 : Int32)))), .val (.int (if (p6 &&& (1 : Int32)) = (0 : Int32) then p4 else p1)), .val (.long (if (p6 &&& (4 : Int32)) = (0 : Int32) then q5 else q2)), .second, .val (.ref b10), .val (.int (3 : Int32)), .unset, .unset] [(.int (3 : Int32))])) _
    refine OGot.go (fun t k => XS.iconst X12.here hx rfl (hb hby at_132) k) ?_
    show OGot p.tables e below (T12.setTop (mkF m 133 #[.val (.int p1), .val (.long q2), .second, .val (.int p3), .val (.int p4), .val (.long q5), .second, .val (.int p6), .val (.int ((p3 &&& (2147483647 : Int32)) % (9 : Int32))), .val (.int (if (p6 &&& (2 : Int32)) = (0 : Int32) then (((p6.toUInt32 >>> ((8 : Int32) &&& 31).toUInt32).toInt32) % (9 : Int32)) else ((p3 &&& (2147483647 : Int32)) % (9 : Int32)))), .val (.int (if (p6 &&& (1 : Int32)) = (0 : Int32) then p4 else p1)), .val (.long (if (p6 &&& (4 : Int32)) = (0 : Int32) then q5 else q2)), .second, .val (.ref b10), .val (.int (3 : Int32)), .unset, .unset] [(.int (3 : Int32)), (.int (3 : Int32))])) _
    refine OGot.go (fun t k => XS.icmpNo X12.here hx rfl (hb hby at_133) rfl (by decide) k) ?_
    show OGot p.tables e below (T12.setTop (mkF m 136 #[.val (.int p1), .val (.long q2), .second, .val (.int p3), .val (.int p4), .val (.long q5), .second, .val (.int p6), .val (.int ((p3 &&& (2147483647 : Int32)) % (9 : Int32))), .val (.int (if (p6 &&& (2 : Int32)) = (0 : Int32) then (((p6.toUInt32 >>> ((8 : Int32) &&& 31).toUInt32).toInt32) % (9 : Int32)) else ((p3 &&& (2147483647 : Int32)) % (9 : Int32)))), .val (.int (if (p6 &&& (1 : Int32)) = (0 : Int32) then p4 else p1)), .val (.long (if (p6 &&& (4 : Int32)) = (0 : Int32) then q5 else q2)), .second, .val (.ref b10), .val (.int (3 : Int32)), .unset, .unset] [])) _
    refine OGot.go (fun t k => XS.aload X12.here hx rfl (hb hby at_136) rfl rfl k) ?_
    show OGot p.tables e below (T12.setTop (mkF m 138 #[.val (.int p1), .val (.long q2), .second, .val (.int p3), .val (.int p4), .val (.long q5), .second, .val (.int p6), .val (.int ((p3 &&& (2147483647 : Int32)) % (9 : Int32))), .val (.int (if (p6 &&& (2 : Int32)) = (0 : Int32) then (((p6.toUInt32 >>> ((8 : Int32) &&& 31).toUInt32).toInt32) % (9 : Int32)) else ((p3 &&& (2147483647 : Int32)) % (9 : Int32)))), .val (.int (if (p6 &&& (1 : Int32)) = (0 : Int32) then p4 else p1)), .val (.long (if (p6 &&& (4 : Int32)) = (0 : Int32) then q5 else q2)), .second, .val (.ref b10), .val (.int (3 : Int32)), .unset, .unset] [(.ref b10)])) _
    refine OGot.go (fun t k => XS.aload X12.here hx rfl (hb hby at_138) rfl rfl k) ?_
    show OGot p.tables e below (T12.setTop (mkF m 140 #[.val (.int p1), .val (.long q2), .second, .val (.int p3), .val (.int p4), .val (.long q5), .second, .val (.int p6), .val (.int ((p3 &&& (2147483647 : Int32)) % (9 : Int32))), .val (.int (if (p6 &&& (2 : Int32)) = (0 : Int32) then (((p6.toUInt32 >>> ((8 : Int32) &&& 31).toUInt32).toInt32) % (9 : Int32)) else ((p3 &&& (2147483647 : Int32)) % (9 : Int32)))), .val (.int (if (p6 &&& (1 : Int32)) = (0 : Int32) then p4 else p1)), .val (.long (if (p6 &&& (4 : Int32)) = (0 : Int32) then q5 else q2)), .second, .val (.ref b10), .val (.int (3 : Int32)), .unset, .unset] [(.ref b10), (.ref b10)])) _
    obtain ⟨cq53, kq53, q53a, q53b, q53c⟩ := isOf hZ rfl (OKeep.exa A10 K12)
    obtain ⟨_, _, ⟨T53, L53, k53, n53⟩, -, X53, ⟨Lc53, hQ53, l53, y53, z53⟩, st53⟩ := X12.virtualBack hx (y := (⟨"com/example/muster/muster/analysis/Value$Symbolic", "equals", "(Ljava/lang/Object;)Z"⟩ : MethodName)) (z := (⟨"com/example/muster/muster/analysis/Value$Symbolic", "equals", "(Ljava/lang/Object;)Z"⟩ : MethodName)) hown (mvT hZ (ow hw 28 rfl)) (mvT hZ (ow hw 29 rfl)) (notFace_of_selects (args := #[]) (mvT hZ (ow hw 31 rfl))) (mvT hZ (ow hw 31 rfl)) (mvT hZ (ow hw 30 rfl)) (by decide) (backOf (W := 0) (rm5_6 l Z a0 hw [] G b10 p1 q2 (f1 w_INT8 w_UINT8 w_BOOL w_UINT16 w_UINT64 w_UINT32 w_INT32 w_INT16 w_INT64 ((p3 &&& (2147483647 : Int32)) % (9 : Int32))) T12.heap n0 O12 (OKeep.exa A10 K12) Fo12_0 Fo12_1 Fo12_2) hZ (ow hw 32 rfl) (ow hw 3 rfl) (by decide) (by decide)) q53a q53c (g := (mkF m 140 #[.val (.int p1), .val (.long q2), .second, .val (.int p3), .val (.int p4), .val (.long q5), .second, .val (.int p6), .val (.int ((p3 &&& (2147483647 : Int32)) % (9 : Int32))), .val (.int (if (p6 &&& (2 : Int32)) = (0 : Int32) then (((p6.toUInt32 >>> ((8 : Int32) &&& 31).toUInt32).toInt32) % (9 : Int32)) else ((p3 &&& (2147483647 : Int32)) % (9 : Int32)))), .val (.int (if (p6 &&& (1 : Int32)) = (0 : Int32) then p4 else p1)), .val (.long (if (p6 &&& (4 : Int32)) = (0 : Int32) then q5 else q2)), .second, .val (.ref b10), .val (.int (3 : Int32)), .unset, .unset] [(.ref b10), (.ref b10)])) rfl (by rw [hml]; rfl) (Steps.refl _) (argsL := [(.ref b10)]) (rest := []) (lenOf pd_3 rfl) rfl (by show 2 * 0 + _ ≤ _; exact Nat.le_of_eq rfl) (hb hby at_140) (fun _ _ => ⟨rfl, rfl, (by decide : 1 + 0 ≤ _), (by decide : 3 + 0 ≤ _)⟩)
    dsimp only [Pt.U, Pt.locs, Pt.cells, Pt.slots] at X53 l53 y53 z53 st53 hQ53
    subst l53 y53 z53
    obtain ⟨rfl, N53q, e53⟩ := hQ53
    have N53 := Fr.app N12 N53q
    refine OGot.on st53 ?_
    show OGot p.tables e below (T53.setTop (mkF m 143 #[.val (.int p1), .val (.long q2), .second, .val (.int p3), .val (.int p4), .val (.long q5), .second, .val (.int p6), .val (.int ((p3 &&& (2147483647 : Int32)) % (9 : Int32))), .val (.int (if (p6 &&& (2 : Int32)) = (0 : Int32) then (((p6.toUInt32 >>> ((8 : Int32) &&& 31).toUInt32).toInt32) % (9 : Int32)) else ((p3 &&& (2147483647 : Int32)) % (9 : Int32)))), .val (.int (if (p6 &&& (1 : Int32)) = (0 : Int32) then p4 else p1)), .val (.long (if (p6 &&& (4 : Int32)) = (0 : Int32) then q5 else q2)), .second, .val (.ref b10), .val (.int (3 : Int32)), .unset, .unset] [(.int (1 : Int32))])) _
    obtain ⟨fs, hr, hrun, hended, hW, hsame⟩ := X53.leave (v := some (.int (1 : Int32))) (fun h => by rw [Bd.returns] at h; cases h)
    refine ⟨_, _, retN X53 hx (t := .boolean) Bd.returns (by simp) (hb hby at_143) hr, hrun, hended, _, _, rfl, ?_, ⟨_, rfl⟩, hW, hsame.mono (by decide) (by decide)⟩
    exact (⟨rfl, N53⟩ : Q0 Z w_INT8 w_UINT8 w_BOOL w_UINT16 w_UINT64 w_UINT32 w_INT32 w_INT16 w_INT64 w_cache cl_w_cache p1 q2 p3 p4 q5 p6 h0 n0 _ T53.heap _)
set_option maxRecDepth 65536 in
set_option maxHeartbeats 40000000 in
theorem comes_1 {Post : Tables → Env → Array Value → State → Outcome → State → Prop} (hpost : ∀ tb e args s v u, (limb_1_1.after args s (.returned v) u = true ∧ limb_1_2.after args s (.returned v) u = true ∧ True) → FrameEnd s (.returned v) u (Jvm.fieldLocs frame_1_writes args s ++ Jvm.arrayLocs frame_1_arrays args s ++ Jvm.staticLocs frame_1_statics s) 16 128 → Post tb e args s (.returned v) u) :
    ArmFor flags0 classFile x code maxLocals ret World_1 tables_1 room_1 Calls_1 rest_1 Pre_1 Post := by
  intro l hfl _ _ p e ha hc hk s m args below hf hA hF happ hP
  obtain ⟨hcalls, hrest, hpre⟩ := hP
  obtain ⟨-, -, -, hnamed, -, -, -, hat⟩ := (Spec.applies_iff hf).mp happ
  obtain ⟨hg, hn⟩ := and_e (Cond.before_iff.mp (show (Jvm.Cond.and given_1 narrow_1).before args s = true from hpre))
  obtain ⟨g0, g0r⟩ := and_e hg
  obtain ⟨g1, g1r⟩ := and_e g0r
  obtain ⟨g2, g2r⟩ := and_e g1r
  obtain ⟨g3, g3r⟩ := and_e g2r
  obtain ⟨g4, g4r⟩ := and_e g3r
  obtain ⟨g5, g5r⟩ := and_e g4r
  obtain ⟨w0, w1, w2, w3, w4, w5, rfl⟩ : ∃ w0 w1 w2 w3 w4 w5 : Value, args = #[w0, w1, w2, w3, w4, w5] := by
    have hs : args.size = 6 := by simpa [Cond.value, given_1] using g0
    obtain ⟨L⟩ := args
    match L, hs with
    | [w0, w1, w2, w3, w4, w5], _ => exact ⟨w0, w1, w2, w3, w4, w5, rfl⟩
  have hw := fun d (hd : d ∈ tables_1) => atoms_spec (ws := Jvm.Cond.code x code maxLocals ret :: tables_1) hat d (List.mem_cons_of_mem _ hd)
  obtain ⟨i0, ei0⟩ := is_v g1
  obtain rfl : w0 = (.int i0) := Option.some.inj ei0
  obtain ⟨i1, ei1⟩ := isL_v g2
  obtain rfl : w1 = (.long i1) := Option.some.inj ei1
  obtain ⟨i2, ei2⟩ := is_v g3
  obtain rfl : w2 = (.int i2) := Option.some.inj ei2
  obtain ⟨i3, ei3⟩ := is_v g4
  obtain rfl : w3 = (.int i3) := Option.some.inj ei3
  obtain ⟨i4, ei4⟩ := isL_v g5
  obtain rfl : w4 = (.long i4) := Option.some.inj ei4
  obtain ⟨i5, ei5⟩ := is_v g5r
  obtain rfl : w5 = (.int i5) := Option.some.inj ei5
  obtain ⟨m0, m0r⟩ := and_e hn
  obtain ⟨m1, m1r⟩ := and_e m0r
  obtain ⟨m2, m2r⟩ := and_e m1r
  obtain ⟨m3, m3r⟩ := and_e m2r
  obtain ⟨m4, m4r⟩ := and_e m3r
  obtain ⟨m5, m5r⟩ := and_e m4r
  obtain ⟨m6, m6r⟩ := and_e m5r
  obtain ⟨m7, m7r⟩ := and_e m6r
  obtain ⟨m8, m8r⟩ := and_e m7r
  obtain ⟨m9, m9r⟩ := and_e m8r
  obtain ⟨m10, m10r⟩ := and_e m9r
  obtain ⟨m11, m11r⟩ := and_e m10r
  obtain ⟨m12, m12r⟩ := and_e m11r
  obtain ⟨m13, m13r⟩ := and_e m12r
  obtain ⟨m14, m14r⟩ := and_e m13r
  obtain ⟨m15, m15r⟩ := and_e m14r
  obtain ⟨m16, m16r⟩ := and_e m15r
  obtain ⟨hsets, hown0⟩ := atoms_of _ (rest_1_c_eq ▸ (show rest_1_c.before _ s = true from hrest))
  obtain ⟨w_INT8, ev_w_INT8⟩ := exa_v m0
  obtain ⟨w_UINT8, ev_w_UINT8⟩ := exa_v m1
  obtain ⟨w_BOOL, ev_w_BOOL⟩ := exa_v m2
  obtain ⟨w_UINT16, ev_w_UINT16⟩ := exa_v m3
  obtain ⟨w_UINT64, ev_w_UINT64⟩ := exa_v m4
  obtain ⟨w_UINT32, ev_w_UINT32⟩ := exa_v m5
  obtain ⟨w_INT32, ev_w_INT32⟩ := exa_v m6
  obtain ⟨w_INT16, ev_w_INT16⟩ := exa_v m9
  obtain ⟨w_INT64, ev_w_INT64⟩ := exa_v m10
  obtain ⟨w_cache, ev_w_cache⟩ := exa_v (Cond.before_iff.mp (hsets _ (List.mem_of_getElem? (i := 3) rfl)))
  obtain ⟨cl_w_cache, A_w_cache⟩ := Arr.start ev_w_cache (Cond.before_iff.mp (hsets _ (List.mem_of_getElem? (i := 2) rfl)))
  obtain ⟨sz_w_cache, ln_w_cache⟩ := olen (oeq_int (Cond.before_iff.mp (hsets _ (List.mem_of_getElem? (i := 4) rfl)))) ev_w_cache (A_w_cache.fin (Vm.Alike.refl _))
  have G : Glob s w_INT8 w_UINT8 w_BOOL w_UINT16 w_UINT64 w_UINT32 w_INT32 w_INT16 w_INT64 w_cache cl_w_cache := ⟨(Sta.start ev_w_INT8 (Or.inr ⟨(ow hw 9 rfl), (ow hw 10 rfl)⟩)), (Exa.start ev_w_INT8 m0), (Sta.start ev_w_UINT8 (Or.inr ⟨(ow hw 9 rfl), (ow hw 36 rfl)⟩)), (Exa.start ev_w_UINT8 m1), (Sta.start ev_w_BOOL (Or.inr ⟨(ow hw 9 rfl), (ow hw 38 rfl)⟩)), (Exa.start ev_w_BOOL m2), (Sta.start ev_w_UINT16 (Or.inr ⟨(ow hw 9 rfl), (ow hw 40 rfl)⟩)), (Exa.start ev_w_UINT16 m3), (Sta.start ev_w_UINT64 (Or.inr ⟨(ow hw 9 rfl), (ow hw 42 rfl)⟩)), (Exa.start ev_w_UINT64 m4), (Sta.start ev_w_UINT32 (Or.inr ⟨(ow hw 9 rfl), (ow hw 44 rfl)⟩)), (Exa.start ev_w_UINT32 m5), (Sta.start ev_w_INT32 (Or.inr ⟨(ow hw 9 rfl), (ow hw 69 rfl)⟩)), (Exa.start ev_w_INT32 m6), (Sta.start ev_w_INT16 (Or.inr ⟨(ow hw 9 rfl), (ow hw 71 rfl)⟩)), (Exa.start ev_w_INT16 m9), (Sta.start ev_w_INT64 (Or.inr ⟨(ow hw 9 rfl), (ow hw 73 rfl)⟩)), (Exa.start ev_w_INT64 m10), (Sta.start ev_w_cache (Or.inl (hsets _ (List.mem_of_getElem? (i := 1) rfl)))), (Exa.start ev_w_cache (Cond.before_iff.mp (hsets _ (List.mem_of_getElem? (i := 3) rfl)))), (Fld.start ((fld_at ev_w_INT8).symm.trans (oeq_int m7))), (Fld.start ((fld_at ev_w_BOOL).symm.trans (oeq_int m8))), (Fld.start ((fld_at ev_w_INT16).symm.trans (oeq_int m11))), (Fld.start ((fld_at ev_w_UINT64).symm.trans (oeq_int m12))), (Fld.start ((fld_at ev_w_UINT32).symm.trans (oeq_int m13))), (Fld.start ((fld_at ev_w_UINT16).symm.trans (oeq_int m14))), (Fld.start ((fld_at ev_w_UINT8).symm.trans (oeq_int m15))), (Fld.start ((fld_at ev_w_INT32).symm.trans (oeq_int m16))), (Fld.start ((fld_at ev_w_INT64).symm.trans (oeq_int m16r))), (Bxs.start (fun _ => ev_w_cache) A_w_cache sz_w_cache ln_w_cache (by decide) (Cond.before_iff.mp (hsets _ (List.mem_of_getElem? (i := 5) rfl))) (fun X j hj hX => eqv_l (i2l_at (osub128 hj)) hX))⟩
  obtain ⟨n, o, h1, h2, h3, _, L, rfl, ⟨rfl, N⟩, hq⟩ := rm0 l s _ hw tables_1 G i0 i1 i2 i3 i4 i5 s.heap s.heap.size (Old.start s) p e ha hc hk s m _ below hf ((Spec.applies_iff_loose hf).mp happ).1 ⟨rfl, State.Warmed39.refl s, rfl⟩ trivial
  refine ⟨n, _, h1, h2, h3, hpost _ _ _ _ _ _ ⟨Cond.after_iff.mpr rfl, Cond.after_iff.mpr (eq_i res_at (Term.int_eval (1)) rfl), trivial⟩ ⟨hq.1, hq.2.1, (hq.2.2.sift fun y hy => Or.inr (N y hy)).mono (by decide) (by decide)⟩⟩
theorem main_1_1 : Claimed_1_1 := comes_1 fun _ _ _ _ _ _ h hF => ⟨h.1, hF⟩
theorem main_1_2 : Claimed_1_2 := comes_1 fun _ _ _ _ _ _ h hF => ⟨h.2.1, hF⟩
end Jvm.Pilot.@@N@@
namespace Jvm.Pilot.@@N@@
open Jvm Jvm.ClassFile Sem Op Lib Jvm.Free Jvm.Stand Jvm.Pilot.@@N@@.Jvm.D
/-! MADE BY PROGRAM (witnessworld.py) out of the Statement's table words and the real class files: 20 classes; the members and pool entries that the words name. The judged class is class 1, her method 2. -/
namespace start1
open Jvm.ClassFile
def u (s : String) : CpInfo := .utf8 (stringToUtf16 s)
/-- a pool by its gaps: so many unusable entries, then the entry; so many at the end -/
def gap : Nat → List CpInfo → List CpInfo
  | 0, r => r
  | n + 1, r => .unusable :: gap n r
def poolList (es : List (Nat × CpInfo)) (last : Nat) : List CpInfo := es.foldr (fun e r => gap e.1 (e.2 :: r)) (gap last [])
def pool (es : List (Nat × CpInfo)) (last : Nat) : Array CpInfo := ⟨poolList es last⟩
def fileOf (pool : Array CpInfo) (this : Nat) (attrs : Array Attribute := #[]) (ms : Array MethodInfo := #[]) (fl : Nat := 33) (sup : Nat := 0) (ifs : Array Nat := #[]) (fds : Array FieldInfo := #[]) : ClassFile where
  minorVersion := 0
  majorVersion := 65
  constantPool := pool
  accessFlags := fl
  thisClass := this
  superClass := sup
  interfaces := ifs
  fields := fds
  methods := ms
  attributes := attrs
def plain (name : String) (sup : Option ClassId) : Class where
  name := name
  kind := .ordinary
  loader := none
  accessFlags := 33
  super := sup
  interfaces := #[]
  cf := none
  fields := #[]
  methods := #[]
  instanceTypes := #[]
  staticTypes := #[]
  resolved := #[]
  callSites := []
  init := .initialized
  statics := none
  mirror := none

def pool0 : Array CpInfo := pool [(5, u "<init>"), (0, u "()V"), (1, .class_ 10), (1, u "java/lang/Object")] 113

def k0c0 : Code := { maxStack := 0, maxLocals := 1, code := object_method_1_code, exceptionTable := #[], attributes := #[] }
def k0m0 : Method := { name := "<init>", desc := "()V", sig := { parameters := [], returnType := none }, accessFlags := 1, code := some k0c0 }
/-- java/lang/Object -/
def k0 : Class := { plain "java/lang/Object" none with
  accessFlags := 33
  interfaces := #[]
  cf := some (fileOf pool0 8 #[] #[{ accessFlags := 1, nameIndex := 5, descriptorIndex := 6, attributes := #[] }] 33 0 #[] #[])
  fields := #[]
  methods := #[k0m0]
  instanceTypes := #[]
  staticTypes := #[]
  resolved := Array.replicate 124 none
  statics := none }

def pool1 : Array CpInfo := pool [(2, .class_ 4), (1, u "java/lang/Object"), (0, u "<init>"), (0, u "()V"), (0, .fieldref 8 9), (0, .class_ 10), (0, .nameAndType 11 12), (0, u "com/example/muster/muster/model/IntegerType"), (0, u "BOOL"), (0, u "Lcom/example/muster/muster/model/IntegerType;"), (0, .fieldref 8 14), (0, .nameAndType 15 12), (0, u "INT8"), (0, .fieldref 8 17), (0, .nameAndType 18 12), (0, u "UINT8"), (0, .fieldref 8 20), (0, .nameAndType 21 12), (0, u "INT16"), (0, .fieldref 8 23), (0, .nameAndType 24 12), (0, u "UINT16"), (0, .fieldref 8 26), (0, .nameAndType 27 12), (0, u "INT32"), (0, .fieldref 8 29), (0, .nameAndType 30 12), (0, u "UINT32"), (0, .fieldref 8 32), (0, .nameAndType 33 12), (0, u "INT64"), (0, .fieldref 8 35), (0, .nameAndType 36 12), (0, u "UINT64"), (0, .integer 2147483647), (0, .class_ 39), (0, u "com/example/muster/muster/analysis/Value$Symbolic"), (0, .methodref 41 42), (0, .class_ 43), (0, .nameAndType 44 45), (0, u "com/example/muster/muster/analysis/SymbolicEqualsPinLaw"), (0, u "type"), (0, u "(I)Lcom/example/muster/muster/model/IntegerType;"), (0, .methodref 38 47), (0, .nameAndType 5 48), (0, u "(IJLcom/example/muster/muster/model/IntegerType;)V"), (0, .methodref 38 50), (0, .nameAndType 51 52), (0, u "equals"), (0, u "(Ljava/lang/Object;)Z"), (0, .methodref 54 55), (0, .class_ 56), (0, .nameAndType 57 58), (0, u "java/lang/Long"), (0, u "valueOf"), (0, u "(J)Ljava/lang/Long;"), (3, u "law"), (0, u "(IJIIJI)Z")] 6

def k1m0 : Method := { name := "<init>", desc := "()V", sig := { parameters := [], returnType := none }, accessFlags := 1, code := none }
def k1c1 : Code := { maxStack := 2, maxLocals := 1, code := method_2_code, exceptionTable := #[], attributes := #[] }
def k1m1 : Method := { name := "type", desc := "(I)Lcom/example/muster/muster/model/IntegerType;", sig := { parameters := [.int], returnType := some (.object "com/example/muster/muster/model/IntegerType") }, accessFlags := 10, code := some k1c1 }
def k1c2 : Code := { maxStack := 6, maxLocals := 17, code := code, exceptionTable := #[], attributes := #[] }
def k1m2 : Method := { name := "law", desc := "(IJIIJI)Z", sig := { parameters := [.int, .long, .int, .int, .long, .int], returnType := some .boolean }, accessFlags := 9, code := some k1c2 }
/-- com/example/muster/muster/analysis/SymbolicEqualsPinLaw -/
def k1 : Class := { plain "com/example/muster/muster/analysis/SymbolicEqualsPinLaw" (some 0) with
  accessFlags := 49
  interfaces := #[]
  cf := some (fileOf pool1 41 #[] #[{ accessFlags := 1, nameIndex := 5, descriptorIndex := 6, attributes := #[] }, { accessFlags := 10, nameIndex := 44, descriptorIndex := 45, attributes := #[] }, { accessFlags := 9, nameIndex := 62, descriptorIndex := 63, attributes := #[] }] 49 2 #[] #[])
  fields := #[]
  methods := #[k1m0, k1m1, k1m2]
  instanceTypes := #[]
  staticTypes := #[]
  resolved := Array.replicate 70 none
  statics := none }

def pool2 : Array CpInfo := pool [(1, .methodref 2 3), (0, .class_ 4), (0, .nameAndType 5 6), (0, u "java/lang/Object"), (0, u "<init>"), (0, u "()V"), (0, .class_ 8), (0, u "java/lang/Record")] 13

def k2c0 : Code := { maxStack := 1, maxLocals := 1, code := jdk_30_method_1_code, exceptionTable := #[], attributes := #[] }
def k2m0 : Method := { name := "<init>", desc := "()V", sig := { parameters := [], returnType := none }, accessFlags := 4, code := some k2c0 }
/-- java/lang/Record -/
def k2 : Class := { plain "java/lang/Record" (some 0) with
  accessFlags := 1057
  interfaces := #[]
  cf := some (fileOf pool2 7 #[] #[{ accessFlags := 4, nameIndex := 5, descriptorIndex := 6, attributes := #[] }] 1057 2 #[] #[])
  fields := #[]
  methods := #[k2m0]
  instanceTypes := #[]
  staticTypes := #[]
  resolved := Array.replicate 22 none
  statics := none }

def pool3 : Array CpInfo := pool [(1, .class_ 2), (0, u "com/example/muster/muster/analysis/Value$Known"), (10, .class_ 14), (0, u "com/example/muster/muster/analysis/Value$Undefined"), (4, .class_ 21), (1, u "com/example/muster/muster/analysis/Value"), (0, u "UNDEFINED"), (0, u "Lcom/example/muster/muster/analysis/Value$Undefined;"), (0, .class_ 25), (0, u "java/lang/Object"), (9, .class_ 36), (0, u "com/example/muster/muster/analysis/Value$Symbolic")] 5

/-- com/example/muster/muster/analysis/Value -/
def k3 : Class := { plain "com/example/muster/muster/analysis/Value" (some 0) with
  accessFlags := 1536
  interfaces := #[]
  cf := some (fileOf pool3 19 #[.nestMembers #[13, 35, 1]] #[] 1536 24 #[] #[{ accessFlags := 25, nameIndex := 22, descriptorIndex := 23, attributes := #[] }])
  fields := #[{ name := "UNDEFINED", type := (.object "com/example/muster/muster/analysis/Value$Undefined"), accessFlags := 25, slot := 0, constantValue := 0 }]
  methods := #[]
  instanceTypes := #[]
  staticTypes := #[(.object "com/example/muster/muster/analysis/Value$Undefined")]
  resolved := Array.replicate 42 none
  statics := none }

def pool4 : Array CpInfo := pool [(1, .methodref 2 3), (0, .class_ 4), (0, .nameAndType 5 6), (0, u "java/lang/Record"), (0, u "<init>"), (0, u "()V"), (0, .fieldref 8 9), (0, .class_ 10), (0, .nameAndType 11 12), (0, u "com/example/muster/muster/analysis/Value$Symbolic"), (0, u "symbol"), (0, u "I"), (0, .fieldref 8 14), (0, .nameAndType 15 16), (0, u "offset"), (0, u "J"), (0, .fieldref 8 18), (0, .nameAndType 19 20), (0, u "type"), (0, u "Lcom/example/muster/muster/model/IntegerType;"), (16, .class_ 38), (0, u "com/example/muster/muster/analysis/Value"), (0, u "(IJLcom/example/muster/muster/model/IntegerType;)V"), (3, u "equals"), (0, u "(Ljava/lang/Object;)Z")] 28

def k4c0 : Code := { maxStack := 3, maxLocals := 5, code := prog_45_method_1_code, exceptionTable := #[], attributes := #[] }
def k4m0 : Method := { name := "<init>", desc := "(IJLcom/example/muster/muster/model/IntegerType;)V", sig := { parameters := [.int, .long, (.object "com/example/muster/muster/model/IntegerType")], returnType := none }, accessFlags := 1, code := some k4c0 }
def k4c1 : Code := { maxStack := 4, maxLocals := 3, code := prog_45_method_2_code, exceptionTable := #[], attributes := #[] }
def k4m1 : Method := { name := "equals", desc := "(Ljava/lang/Object;)Z", sig := { parameters := [(.object "java/lang/Object")], returnType := some .boolean }, accessFlags := 1, code := some k4c1 }
/-- com/example/muster/muster/analysis/Value$Symbolic -/
def k4 : Class := { plain "com/example/muster/muster/analysis/Value$Symbolic" (some 2) with
  accessFlags := 49
  interfaces := #[3]
  cf := some (fileOf pool4 8 #[.nestHost 37] #[{ accessFlags := 1, nameIndex := 5, descriptorIndex := 39, attributes := #[] }, { accessFlags := 1, nameIndex := 43, descriptorIndex := 44, attributes := #[] }] 49 2 #[37] #[{ accessFlags := 18, nameIndex := 11, descriptorIndex := 12, attributes := #[] }, { accessFlags := 18, nameIndex := 15, descriptorIndex := 16, attributes := #[] }, { accessFlags := 18, nameIndex := 19, descriptorIndex := 20, attributes := #[] }])
  fields := #[{ name := "symbol", type := .int, accessFlags := 18, slot := 0, constantValue := 0 }, { name := "offset", type := .long, accessFlags := 18, slot := 1, constantValue := 0 }, { name := "type", type := (.object "com/example/muster/muster/model/IntegerType"), accessFlags := 18, slot := 2, constantValue := 0 }]
  methods := #[k4m0, k4m1]
  instanceTypes := #[.int, .long, (.object "com/example/muster/muster/model/IntegerType")]
  staticTypes := #[]
  resolved := Array.replicate 73 none
  statics := none }

def pool5 : Array CpInfo := pool [(1, .class_ 2), (0, u "java/lang/constant/Constable"), (0, .class_ 4), (0, u "java/lang/Object")] 6

/-- java/lang/constant/Constable -/
def k5 : Class := { plain "java/lang/constant/Constable" (some 0) with
  accessFlags := 1537
  interfaces := #[]
  cf := some (fileOf pool5 1 #[] #[] 1537 3 #[] #[])
  fields := #[]
  methods := #[]
  instanceTypes := #[]
  staticTypes := #[]
  resolved := Array.replicate 11 none
  statics := none }

def pool6 : Array CpInfo := pool [(1, .class_ 2), (0, u "java/lang/Comparable"), (0, .class_ 4), (0, u "java/lang/Object")] 7

/-- java/lang/Comparable -/
def k6 : Class := { plain "java/lang/Comparable" (some 0) with
  accessFlags := 1537
  interfaces := #[]
  cf := some (fileOf pool6 1 #[] #[] 1537 3 #[] #[])
  fields := #[]
  methods := #[]
  instanceTypes := #[]
  staticTypes := #[]
  resolved := Array.replicate 12 none
  statics := none }

def pool7 : Array CpInfo := pool [(1, .class_ 2), (0, u "java/io/Serializable"), (0, .class_ 4), (0, u "java/lang/Object")] 2

/-- java/io/Serializable -/
def k7 : Class := { plain "java/io/Serializable" (some 0) with
  accessFlags := 1537
  interfaces := #[]
  cf := some (fileOf pool7 1 #[] #[] 1537 3 #[] #[])
  fields := #[]
  methods := #[]
  instanceTypes := #[]
  staticTypes := #[]
  resolved := Array.replicate 7 none
  statics := none }

def pool8 : Array CpInfo := pool [(2, .class_ 4), (1, u "java/lang/Enum"), (0, u "name"), (0, u "Ljava/lang/String;"), (2, u "ordinal"), (0, u "I"), (1, .class_ 14), (1, u "java/lang/Object"), (4, u "hash"), (86, .class_ 108), (1, u "java/lang/Enum$EnumDesc"), (2, .class_ 112), (0, u "java/lang/constant/Constable"), (0, .class_ 114), (0, u "java/lang/Comparable"), (0, .class_ 116), (0, u "java/io/Serializable")] 87

/-- java/lang/Enum -/
def k8 : Class := { plain "java/lang/Enum" (some 0) with
  accessFlags := 1057
  interfaces := #[5, 6, 7]
  cf := some (fileOf pool8 2 #[.nestMembers #[106]] #[] 1057 12 #[111, 113, 115] #[{ accessFlags := 18, nameIndex := 5, descriptorIndex := 6, attributes := #[] }, { accessFlags := 18, nameIndex := 9, descriptorIndex := 10, attributes := #[] }, { accessFlags := 2, nameIndex := 19, descriptorIndex := 10, attributes := #[] }])
  fields := #[{ name := "name", type := (.object "java/lang/String"), accessFlags := 18, slot := 0, constantValue := 0 }, { name := "ordinal", type := .int, accessFlags := 18, slot := 1, constantValue := 0 }, { name := "hash", type := .int, accessFlags := 2, slot := 2, constantValue := 0 }]
  methods := #[]
  instanceTypes := #[(.object "java/lang/String"), .int, .int]
  staticTypes := #[]
  resolved := Array.replicate 204 none
  statics := none }

def pool9 : Array CpInfo := pool [(1, .class_ 2), (0, u "com/example/muster/muster/model/IntegerType"), (2, u "BOOL"), (0, u "Lcom/example/muster/muster/model/IntegerType;"), (2, u "INT8"), (2, u "UINT8"), (2, u "INT16"), (2, u "UINT16"), (2, u "INT32"), (2, u "UINT32"), (2, u "INT64"), (2, u "UINT64"), (2, u "$VALUES"), (0, u "[Lcom/example/muster/muster/model/IntegerType;"), (6, .class_ 43), (1, u "java/lang/Enum"), (8, u "bits"), (0, u "I"), (2, u "signed"), (0, u "Z"), (6, u "min"), (0, u "J"), (2, u "max"), (14, u "TWO_TO_64"), (0, u "Ljava/math/BigInteger;")] 49

/-- com/example/muster/muster/model/IntegerType -/
def k9 : Class := { plain "com/example/muster/muster/model/IntegerType" (some 8) with
  accessFlags := 16433
  interfaces := #[]
  cf := some (fileOf pool9 1 #[] #[] 16433 41 #[] #[{ accessFlags := 16409, nameIndex := 5, descriptorIndex := 6, attributes := #[] }, { accessFlags := 16409, nameIndex := 9, descriptorIndex := 6, attributes := #[] }, { accessFlags := 16409, nameIndex := 12, descriptorIndex := 6, attributes := #[] }, { accessFlags := 16409, nameIndex := 15, descriptorIndex := 6, attributes := #[] }, { accessFlags := 16409, nameIndex := 18, descriptorIndex := 6, attributes := #[] }, { accessFlags := 16409, nameIndex := 21, descriptorIndex := 6, attributes := #[] }, { accessFlags := 16409, nameIndex := 24, descriptorIndex := 6, attributes := #[] }, { accessFlags := 16409, nameIndex := 27, descriptorIndex := 6, attributes := #[] }, { accessFlags := 16409, nameIndex := 30, descriptorIndex := 6, attributes := #[] }, { accessFlags := 26, nameIndex := 83, descriptorIndex := 84, attributes := #[] }, { accessFlags := 18, nameIndex := 52, descriptorIndex := 53, attributes := #[] }, { accessFlags := 18, nameIndex := 56, descriptorIndex := 57, attributes := #[] }, { accessFlags := 18, nameIndex := 64, descriptorIndex := 65, attributes := #[] }, { accessFlags := 18, nameIndex := 68, descriptorIndex := 65, attributes := #[] }, { accessFlags := 4122, nameIndex := 33, descriptorIndex := 34, attributes := #[] }])
  fields := #[{ name := "BOOL", type := (.object "com/example/muster/muster/model/IntegerType"), accessFlags := 16409, slot := 0, constantValue := 0 }, { name := "INT8", type := (.object "com/example/muster/muster/model/IntegerType"), accessFlags := 16409, slot := 1, constantValue := 0 }, { name := "UINT8", type := (.object "com/example/muster/muster/model/IntegerType"), accessFlags := 16409, slot := 2, constantValue := 0 }, { name := "INT16", type := (.object "com/example/muster/muster/model/IntegerType"), accessFlags := 16409, slot := 3, constantValue := 0 }, { name := "UINT16", type := (.object "com/example/muster/muster/model/IntegerType"), accessFlags := 16409, slot := 4, constantValue := 0 }, { name := "INT32", type := (.object "com/example/muster/muster/model/IntegerType"), accessFlags := 16409, slot := 5, constantValue := 0 }, { name := "UINT32", type := (.object "com/example/muster/muster/model/IntegerType"), accessFlags := 16409, slot := 6, constantValue := 0 }, { name := "INT64", type := (.object "com/example/muster/muster/model/IntegerType"), accessFlags := 16409, slot := 7, constantValue := 0 }, { name := "UINT64", type := (.object "com/example/muster/muster/model/IntegerType"), accessFlags := 16409, slot := 8, constantValue := 0 }, { name := "TWO_TO_64", type := (.object "java/math/BigInteger"), accessFlags := 26, slot := 9, constantValue := 0 }, { name := "bits", type := .int, accessFlags := 18, slot := 3, constantValue := 0 }, { name := "signed", type := .boolean, accessFlags := 18, slot := 4, constantValue := 0 }, { name := "min", type := .long, accessFlags := 18, slot := 5, constantValue := 0 }, { name := "max", type := .long, accessFlags := 18, slot := 6, constantValue := 0 }, { name := "$VALUES", type := (.array (.object "com/example/muster/muster/model/IntegerType")), accessFlags := 4122, slot := 10, constantValue := 0 }]
  methods := #[]
  instanceTypes := #[(.object "java/lang/String"), .int, .int, .int, .boolean, .long, .long]
  staticTypes := #[(.object "com/example/muster/muster/model/IntegerType"), (.object "com/example/muster/muster/model/IntegerType"), (.object "com/example/muster/muster/model/IntegerType"), (.object "com/example/muster/muster/model/IntegerType"), (.object "com/example/muster/muster/model/IntegerType"), (.object "com/example/muster/muster/model/IntegerType"), (.object "com/example/muster/muster/model/IntegerType"), (.object "com/example/muster/muster/model/IntegerType"), (.object "com/example/muster/muster/model/IntegerType"), (.object "java/math/BigInteger"), (.array (.object "com/example/muster/muster/model/IntegerType"))]
  resolved := Array.replicate 134 none
  statics := some 0 }

def pool10 : Array CpInfo := pool [(1, .methodref 2 3), (0, .class_ 4), (0, .nameAndType 5 6), (0, u "java/lang/Object"), (0, u "<init>"), (0, u "()V"), (1, .class_ 10), (1, u "java/lang/Number"), (2, .class_ 14), (0, u "java/io/Serializable"), (0, u "serialVersionUID"), (0, u "J")] 20

def k10c0 : Code := { maxStack := 1, maxLocals := 1, code := jdk_18_method_1_code, exceptionTable := #[], attributes := #[] }
def k10m0 : Method := { name := "<init>", desc := "()V", sig := { parameters := [], returnType := none }, accessFlags := 1, code := some k10c0 }
/-- java/lang/Number -/
def k10 : Class := { plain "java/lang/Number" (some 0) with
  accessFlags := 1057
  interfaces := #[7]
  cf := some (fileOf pool10 8 #[] #[{ accessFlags := 1, nameIndex := 5, descriptorIndex := 6, attributes := #[] }] 1057 2 #[13] #[{ accessFlags := 26, nameIndex := 15, descriptorIndex := 16, attributes := #[] }])
  fields := #[{ name := "serialVersionUID", type := .long, accessFlags := 26, slot := 0, constantValue := 0 }]
  methods := #[k10m0]
  instanceTypes := #[]
  staticTypes := #[.long]
  resolved := Array.replicate 37 none
  statics := none }

def pool11 : Array CpInfo := pool [(1, .class_ 2), (0, u "java/lang/constant/ConstantDesc"), (0, .class_ 4), (0, u "java/lang/Object")] 32

/-- java/lang/constant/ConstantDesc -/
def k11 : Class := { plain "java/lang/constant/ConstantDesc" (some 0) with
  accessFlags := 1537
  interfaces := #[]
  cf := some (fileOf pool11 1 #[] #[] 1537 3 #[] #[])
  fields := #[]
  methods := #[]
  instanceTypes := #[]
  staticTypes := #[]
  resolved := Array.replicate 37 none
  statics := none }

def pool12 : Array CpInfo := pool [(1, .class_ 2), (0, u "java/lang/Long"), (55, .nameAndType 59 60), (0, u "<init>"), (0, u "()V"), (24, u "valueOf"), (143, u "(J)Ljava/lang/Long;"), (0, .long 18446744073709551488), (1, .long 127), (1, .fieldref 235 236), (0, .class_ 237), (0, .nameAndType 238 239), (0, u "java/lang/Long$LongCache"), (0, u "cache"), (0, u "[Ljava/lang/Long;"), (0, .methodref 1 241), (0, .nameAndType 59 242), (0, u "(J)V"), (27, .methodref 271 58), (0, .class_ 272), (0, u "java/lang/Number"), (0, .fieldref 1 274), (0, .nameAndType 275 276), (0, u "value"), (0, u "J"), (84, u "TYPE"), (0, u "Ljava/lang/Class;"), (0, .class_ 364), (0, u "java/lang/Comparable"), (0, .class_ 366), (0, u "java/lang/constant/Constable"), (0, .class_ 368), (0, u "java/lang/constant/ConstantDesc"), (0, u "MIN_VALUE"), (1, u "MAX_VALUE"), (4, u "SIZE"), (0, u "I"), (1, u "BYTES"), (1, u "serialVersionUID")] 142

def k12c0 : Code := { maxStack := 4, maxLocals := 3, code := jdk_35_method_24_code, exceptionTable := #[], attributes := #[] }
def k12m0 : Method := { name := "valueOf", desc := "(J)Ljava/lang/Long;", sig := { parameters := [.long], returnType := some (.object "java/lang/Long") }, accessFlags := 9, code := some k12c0 }
def k12c1 : Code := { maxStack := 3, maxLocals := 3, code := jdk_35_method_26_code, exceptionTable := #[], attributes := #[] }
def k12m1 : Method := { name := "<init>", desc := "(J)V", sig := { parameters := [.long], returnType := none }, accessFlags := 1, code := some k12c1 }
/-- java/lang/Long -/
def k12 : Class := { plain "java/lang/Long" (some 10) with
  accessFlags := 49
  interfaces := #[6, 5, 11]
  cf := some (fileOf pool12 1 #[.nestMembers #[235]] #[{ accessFlags := 9, nameIndex := 85, descriptorIndex := 229, attributes := #[] }, { accessFlags := 1, nameIndex := 59, descriptorIndex := 242, attributes := #[] }] 49 271 #[363, 365, 367] #[{ accessFlags := 25, nameIndex := 369, descriptorIndex := 276, attributes := #[] }, { accessFlags := 25, nameIndex := 371, descriptorIndex := 276, attributes := #[] }, { accessFlags := 25, nameIndex := 361, descriptorIndex := 362, attributes := #[] }, { accessFlags := 18, nameIndex := 275, descriptorIndex := 276, attributes := #[] }, { accessFlags := 25, nameIndex := 376, descriptorIndex := 377, attributes := #[] }, { accessFlags := 25, nameIndex := 379, descriptorIndex := 377, attributes := #[] }, { accessFlags := 26, nameIndex := 381, descriptorIndex := 276, attributes := #[] }])
  fields := #[{ name := "MIN_VALUE", type := .long, accessFlags := 25, slot := 0, constantValue := 0 }, { name := "MAX_VALUE", type := .long, accessFlags := 25, slot := 1, constantValue := 0 }, { name := "TYPE", type := (.object "java/lang/Class"), accessFlags := 25, slot := 2, constantValue := 0 }, { name := "value", type := .long, accessFlags := 18, slot := 0, constantValue := 0 }, { name := "SIZE", type := .int, accessFlags := 25, slot := 3, constantValue := 0 }, { name := "BYTES", type := .int, accessFlags := 25, slot := 4, constantValue := 0 }, { name := "serialVersionUID", type := .long, accessFlags := 26, slot := 5, constantValue := 0 }]
  methods := #[k12m0, k12m1]
  instanceTypes := #[.long]
  staticTypes := #[.long, .long, (.object "java/lang/Class"), .int, .int, .long]
  resolved := Array.replicate 524 none
  statics := none }

def pool13 : Array CpInfo := pool [(2, .class_ 4), (1, u "java/lang/Object"), (0, u "<init>"), (0, u "()V"), (0, .class_ 8), (0, u "java/lang/Long"), (7, .class_ 18), (1, u "java/lang/Long$LongCache"), (0, u "$assertionsDisabled"), (0, u "Z"), (8, u "archivedCache"), (0, u "[Ljava/lang/Long;"), (7, u "cache")] 24

def k13m0 : Method := { name := "<init>", desc := "()V", sig := { parameters := [], returnType := none }, accessFlags := 2, code := none }
/-- java/lang/Long$LongCache -/
def k13 : Class := { plain "java/lang/Long$LongCache" (some 0) with
  accessFlags := 48
  interfaces := #[]
  cf := some (fileOf pool13 16 #[.nestHost 7] #[{ accessFlags := 2, nameIndex := 5, descriptorIndex := 6, attributes := #[] }] 48 2 #[] #[{ accessFlags := 24, nameIndex := 38, descriptorIndex := 30, attributes := #[] }, { accessFlags := 8, nameIndex := 29, descriptorIndex := 30, attributes := #[] }, { accessFlags := 4120, nameIndex := 19, descriptorIndex := 20, attributes := #[] }])
  fields := #[{ name := "cache", type := (.array (.object "java/lang/Long")), accessFlags := 24, slot := 0, constantValue := 0 }, { name := "archivedCache", type := (.array (.object "java/lang/Long")), accessFlags := 8, slot := 1, constantValue := 0 }, { name := "$assertionsDisabled", type := .boolean, accessFlags := 4120, slot := 2, constantValue := 0 }]
  methods := #[k13m0]
  instanceTypes := #[]
  staticTypes := #[(.array (.object "java/lang/Long")), (.array (.object "java/lang/Long")), .boolean]
  resolved := Array.replicate 63 none
  statics := some 1 }

def pool14 : Array CpInfo := pool [(1, u "java/lang/Cloneable"), (0, .class_ 1), (0, u "java/lang/Object"), (0, .class_ 3)] 3

/-- java/lang/Cloneable -/
def k14 : Class := { plain "java/lang/Cloneable" (some 0) with
  accessFlags := 1537
  interfaces := #[]
  cf := some (fileOf pool14 2 #[] #[] 1537 4 #[] #[])
  fields := #[]
  methods := #[]
  instanceTypes := #[]
  staticTypes := #[]
  resolved := Array.replicate 8 none
  statics := none }

/-- the primitive byte -/
def k15 : Class := { plain "byte" none with kind := .primitive 'B', accessFlags := 0x411 }
/-- [B -/
def k16 : Class := { plain "[B" (some 0) with kind := .array 15 .byte, interfaces := #[14, 7], accessFlags := 1041 }

/-- the primitive int -/
def k17 : Class := { plain "int" none with kind := .primitive 'I', accessFlags := 0x411 }
/-- [I -/
def k18 : Class := { plain "[I" (some 0) with kind := .array 17 .int, interfaces := #[14, 7], accessFlags := 1041 }

/-- [Ljava/lang/Long; -/
def k19 : Class := { plain "[Ljava/lang/Long;" (some 0) with kind := .array 12 (.object "java/lang/Long"), interfaces := #[14, 7], accessFlags := 1041 }

def heap : Heap := #[{ cls := 9, slots := #[.ref 5, .ref 3, .ref 4, .ref 10, .ref 6, .ref 9, .ref 8, .ref 11, .ref 7, .null, .null], vm := .statics 9 },
  { cls := 13, slots := #[.ref 2, .null, .int 0], vm := .statics 13 },
  { cls := 19, slots := #[.ref 12, .ref 13, .ref 14, .ref 15, .ref 16, .ref 17, .ref 18, .ref 19, .ref 20, .ref 21, .ref 22, .ref 23, .ref 24, .ref 25, .ref 26, .ref 27, .ref 28, .ref 29, .ref 30, .ref 31, .ref 32, .ref 33, .ref 34, .ref 35, .ref 36, .ref 37, .ref 38, .ref 39, .ref 40, .ref 41, .ref 42, .ref 43, .ref 44, .ref 45, .ref 46, .ref 47, .ref 48, .ref 49, .ref 50, .ref 51, .ref 52, .ref 53, .ref 54, .ref 55, .ref 56, .ref 57, .ref 58, .ref 59, .ref 60, .ref 61, .ref 62, .ref 63, .ref 64, .ref 65, .ref 66, .ref 67, .ref 68, .ref 69, .ref 70, .ref 71, .ref 72, .ref 73, .ref 74, .ref 75, .ref 76, .ref 77, .ref 78, .ref 79, .ref 80, .ref 81, .ref 82, .ref 83, .ref 84, .ref 85, .ref 86, .ref 87, .ref 88, .ref 89, .ref 90, .ref 91, .ref 92, .ref 93, .ref 94, .ref 95, .ref 96, .ref 97, .ref 98, .ref 99, .ref 100, .ref 101, .ref 102, .ref 103, .ref 104, .ref 105, .ref 106, .ref 107, .ref 108, .ref 109, .ref 110, .ref 111, .ref 112, .ref 113, .ref 114, .ref 115, .ref 116, .ref 117, .ref 118, .ref 119, .ref 120, .ref 121, .ref 122, .ref 123, .ref 124, .ref 125, .ref 126, .ref 127, .ref 128, .ref 129, .ref 130, .ref 131, .ref 132, .ref 133, .ref 134, .ref 135, .ref 136, .ref 137, .ref 138, .ref 139, .ref 140, .ref 141, .ref 142, .ref 143, .ref 144, .ref 145, .ref 146, .ref 147, .ref 148, .ref 149, .ref 150, .ref 151, .ref 152, .ref 153, .ref 154, .ref 155, .ref 156, .ref 157, .ref 158, .ref 159, .ref 160, .ref 161, .ref 162, .ref 163, .ref 164, .ref 165, .ref 166, .ref 167, .ref 168, .ref 169, .ref 170, .ref 171, .ref 172, .ref 173, .ref 174, .ref 175, .ref 176, .ref 177, .ref 178, .ref 179, .ref 180, .ref 181, .ref 182, .ref 183, .ref 184, .ref 185, .ref 186, .ref 187, .ref 188, .ref 189, .ref 190, .ref 191, .ref 192, .ref 193, .ref 194, .ref 195, .ref 196, .ref 197, .ref 198, .ref 199, .ref 200, .ref 201, .ref 202, .ref 203, .ref 204, .ref 205, .ref 206, .ref 207, .ref 208, .ref 209, .ref 210, .ref 211, .ref 212, .ref 213, .ref 214, .ref 215, .ref 216, .ref 217, .ref 218, .ref 219, .ref 220, .ref 221, .ref 222, .ref 223, .ref 224, .ref 225, .ref 226, .ref 227, .ref 228, .ref 229, .ref 230, .ref 231, .ref 232, .ref 233, .ref 234, .ref 235, .ref 236, .ref 237, .ref 238, .ref 239, .ref 240, .ref 241, .ref 242, .ref 243, .ref 244, .ref 245, .ref 246, .ref 247, .ref 248, .ref 249, .ref 250, .ref 251, .ref 252, .ref 253, .ref 254, .ref 255, .ref 256, .ref 257, .ref 258, .ref 259, .ref 260, .ref 261, .ref 262, .ref 263, .ref 264, .ref 265, .ref 266, .ref 267], vm := .none },
  { cls := 9, slots := #[.null, .int 1, .int 0, .int 0, .int 0, .long 0, .long 0], vm := .none },
  { cls := 9, slots := #[.null, .int 2, .int 0, .int 0, .int 0, .long 0, .long 0], vm := .none },
  { cls := 9, slots := #[.null, .int 0, .int 0, .int 0, .int 0, .long 0, .long 0], vm := .none },
  { cls := 9, slots := #[.null, .int 4, .int 0, .int 0, .int 0, .long 0, .long 0], vm := .none },
  { cls := 9, slots := #[.null, .int 8, .int 0, .int 0, .int 0, .long 0, .long 0], vm := .none },
  { cls := 9, slots := #[.null, .int 6, .int 0, .int 0, .int 0, .long 0, .long 0], vm := .none },
  { cls := 9, slots := #[.null, .int 5, .int 0, .int 0, .int 0, .long 0, .long 0], vm := .none },
  { cls := 9, slots := #[.null, .int 3, .int 0, .int 0, .int 0, .long 0, .long 0], vm := .none },
  { cls := 9, slots := #[.null, .int 7, .int 0, .int 0, .int 0, .long 0, .long 0], vm := .none },
  { cls := 12, slots := #[.long (-128)], vm := .none },
  { cls := 12, slots := #[.long (-127)], vm := .none },
  { cls := 12, slots := #[.long (-126)], vm := .none },
  { cls := 12, slots := #[.long (-125)], vm := .none },
  { cls := 12, slots := #[.long (-124)], vm := .none },
  { cls := 12, slots := #[.long (-123)], vm := .none },
  { cls := 12, slots := #[.long (-122)], vm := .none },
  { cls := 12, slots := #[.long (-121)], vm := .none },
  { cls := 12, slots := #[.long (-120)], vm := .none },
  { cls := 12, slots := #[.long (-119)], vm := .none },
  { cls := 12, slots := #[.long (-118)], vm := .none },
  { cls := 12, slots := #[.long (-117)], vm := .none },
  { cls := 12, slots := #[.long (-116)], vm := .none },
  { cls := 12, slots := #[.long (-115)], vm := .none },
  { cls := 12, slots := #[.long (-114)], vm := .none },
  { cls := 12, slots := #[.long (-113)], vm := .none },
  { cls := 12, slots := #[.long (-112)], vm := .none },
  { cls := 12, slots := #[.long (-111)], vm := .none },
  { cls := 12, slots := #[.long (-110)], vm := .none },
  { cls := 12, slots := #[.long (-109)], vm := .none },
  { cls := 12, slots := #[.long (-108)], vm := .none },
  { cls := 12, slots := #[.long (-107)], vm := .none },
  { cls := 12, slots := #[.long (-106)], vm := .none },
  { cls := 12, slots := #[.long (-105)], vm := .none },
  { cls := 12, slots := #[.long (-104)], vm := .none },
  { cls := 12, slots := #[.long (-103)], vm := .none },
  { cls := 12, slots := #[.long (-102)], vm := .none },
  { cls := 12, slots := #[.long (-101)], vm := .none },
  { cls := 12, slots := #[.long (-100)], vm := .none },
  { cls := 12, slots := #[.long (-99)], vm := .none },
  { cls := 12, slots := #[.long (-98)], vm := .none },
  { cls := 12, slots := #[.long (-97)], vm := .none },
  { cls := 12, slots := #[.long (-96)], vm := .none },
  { cls := 12, slots := #[.long (-95)], vm := .none },
  { cls := 12, slots := #[.long (-94)], vm := .none },
  { cls := 12, slots := #[.long (-93)], vm := .none },
  { cls := 12, slots := #[.long (-92)], vm := .none },
  { cls := 12, slots := #[.long (-91)], vm := .none },
  { cls := 12, slots := #[.long (-90)], vm := .none },
  { cls := 12, slots := #[.long (-89)], vm := .none },
  { cls := 12, slots := #[.long (-88)], vm := .none },
  { cls := 12, slots := #[.long (-87)], vm := .none },
  { cls := 12, slots := #[.long (-86)], vm := .none },
  { cls := 12, slots := #[.long (-85)], vm := .none },
  { cls := 12, slots := #[.long (-84)], vm := .none },
  { cls := 12, slots := #[.long (-83)], vm := .none },
  { cls := 12, slots := #[.long (-82)], vm := .none },
  { cls := 12, slots := #[.long (-81)], vm := .none },
  { cls := 12, slots := #[.long (-80)], vm := .none },
  { cls := 12, slots := #[.long (-79)], vm := .none },
  { cls := 12, slots := #[.long (-78)], vm := .none },
  { cls := 12, slots := #[.long (-77)], vm := .none },
  { cls := 12, slots := #[.long (-76)], vm := .none },
  { cls := 12, slots := #[.long (-75)], vm := .none },
  { cls := 12, slots := #[.long (-74)], vm := .none },
  { cls := 12, slots := #[.long (-73)], vm := .none },
  { cls := 12, slots := #[.long (-72)], vm := .none },
  { cls := 12, slots := #[.long (-71)], vm := .none },
  { cls := 12, slots := #[.long (-70)], vm := .none },
  { cls := 12, slots := #[.long (-69)], vm := .none },
  { cls := 12, slots := #[.long (-68)], vm := .none },
  { cls := 12, slots := #[.long (-67)], vm := .none },
  { cls := 12, slots := #[.long (-66)], vm := .none },
  { cls := 12, slots := #[.long (-65)], vm := .none },
  { cls := 12, slots := #[.long (-64)], vm := .none },
  { cls := 12, slots := #[.long (-63)], vm := .none },
  { cls := 12, slots := #[.long (-62)], vm := .none },
  { cls := 12, slots := #[.long (-61)], vm := .none },
  { cls := 12, slots := #[.long (-60)], vm := .none },
  { cls := 12, slots := #[.long (-59)], vm := .none },
  { cls := 12, slots := #[.long (-58)], vm := .none },
  { cls := 12, slots := #[.long (-57)], vm := .none },
  { cls := 12, slots := #[.long (-56)], vm := .none },
  { cls := 12, slots := #[.long (-55)], vm := .none },
  { cls := 12, slots := #[.long (-54)], vm := .none },
  { cls := 12, slots := #[.long (-53)], vm := .none },
  { cls := 12, slots := #[.long (-52)], vm := .none },
  { cls := 12, slots := #[.long (-51)], vm := .none },
  { cls := 12, slots := #[.long (-50)], vm := .none },
  { cls := 12, slots := #[.long (-49)], vm := .none },
  { cls := 12, slots := #[.long (-48)], vm := .none },
  { cls := 12, slots := #[.long (-47)], vm := .none },
  { cls := 12, slots := #[.long (-46)], vm := .none },
  { cls := 12, slots := #[.long (-45)], vm := .none },
  { cls := 12, slots := #[.long (-44)], vm := .none },
  { cls := 12, slots := #[.long (-43)], vm := .none },
  { cls := 12, slots := #[.long (-42)], vm := .none },
  { cls := 12, slots := #[.long (-41)], vm := .none },
  { cls := 12, slots := #[.long (-40)], vm := .none },
  { cls := 12, slots := #[.long (-39)], vm := .none },
  { cls := 12, slots := #[.long (-38)], vm := .none },
  { cls := 12, slots := #[.long (-37)], vm := .none },
  { cls := 12, slots := #[.long (-36)], vm := .none },
  { cls := 12, slots := #[.long (-35)], vm := .none },
  { cls := 12, slots := #[.long (-34)], vm := .none },
  { cls := 12, slots := #[.long (-33)], vm := .none },
  { cls := 12, slots := #[.long (-32)], vm := .none },
  { cls := 12, slots := #[.long (-31)], vm := .none },
  { cls := 12, slots := #[.long (-30)], vm := .none },
  { cls := 12, slots := #[.long (-29)], vm := .none },
  { cls := 12, slots := #[.long (-28)], vm := .none },
  { cls := 12, slots := #[.long (-27)], vm := .none },
  { cls := 12, slots := #[.long (-26)], vm := .none },
  { cls := 12, slots := #[.long (-25)], vm := .none },
  { cls := 12, slots := #[.long (-24)], vm := .none },
  { cls := 12, slots := #[.long (-23)], vm := .none },
  { cls := 12, slots := #[.long (-22)], vm := .none },
  { cls := 12, slots := #[.long (-21)], vm := .none },
  { cls := 12, slots := #[.long (-20)], vm := .none },
  { cls := 12, slots := #[.long (-19)], vm := .none },
  { cls := 12, slots := #[.long (-18)], vm := .none },
  { cls := 12, slots := #[.long (-17)], vm := .none },
  { cls := 12, slots := #[.long (-16)], vm := .none },
  { cls := 12, slots := #[.long (-15)], vm := .none },
  { cls := 12, slots := #[.long (-14)], vm := .none },
  { cls := 12, slots := #[.long (-13)], vm := .none },
  { cls := 12, slots := #[.long (-12)], vm := .none },
  { cls := 12, slots := #[.long (-11)], vm := .none },
  { cls := 12, slots := #[.long (-10)], vm := .none },
  { cls := 12, slots := #[.long (-9)], vm := .none },
  { cls := 12, slots := #[.long (-8)], vm := .none },
  { cls := 12, slots := #[.long (-7)], vm := .none },
  { cls := 12, slots := #[.long (-6)], vm := .none },
  { cls := 12, slots := #[.long (-5)], vm := .none },
  { cls := 12, slots := #[.long (-4)], vm := .none },
  { cls := 12, slots := #[.long (-3)], vm := .none },
  { cls := 12, slots := #[.long (-2)], vm := .none },
  { cls := 12, slots := #[.long (-1)], vm := .none },
  { cls := 12, slots := #[.long 0], vm := .none },
  { cls := 12, slots := #[.long 1], vm := .none },
  { cls := 12, slots := #[.long 2], vm := .none },
  { cls := 12, slots := #[.long 3], vm := .none },
  { cls := 12, slots := #[.long 4], vm := .none },
  { cls := 12, slots := #[.long 5], vm := .none },
  { cls := 12, slots := #[.long 6], vm := .none },
  { cls := 12, slots := #[.long 7], vm := .none },
  { cls := 12, slots := #[.long 8], vm := .none },
  { cls := 12, slots := #[.long 9], vm := .none },
  { cls := 12, slots := #[.long 10], vm := .none },
  { cls := 12, slots := #[.long 11], vm := .none },
  { cls := 12, slots := #[.long 12], vm := .none },
  { cls := 12, slots := #[.long 13], vm := .none },
  { cls := 12, slots := #[.long 14], vm := .none },
  { cls := 12, slots := #[.long 15], vm := .none },
  { cls := 12, slots := #[.long 16], vm := .none },
  { cls := 12, slots := #[.long 17], vm := .none },
  { cls := 12, slots := #[.long 18], vm := .none },
  { cls := 12, slots := #[.long 19], vm := .none },
  { cls := 12, slots := #[.long 20], vm := .none },
  { cls := 12, slots := #[.long 21], vm := .none },
  { cls := 12, slots := #[.long 22], vm := .none },
  { cls := 12, slots := #[.long 23], vm := .none },
  { cls := 12, slots := #[.long 24], vm := .none },
  { cls := 12, slots := #[.long 25], vm := .none },
  { cls := 12, slots := #[.long 26], vm := .none },
  { cls := 12, slots := #[.long 27], vm := .none },
  { cls := 12, slots := #[.long 28], vm := .none },
  { cls := 12, slots := #[.long 29], vm := .none },
  { cls := 12, slots := #[.long 30], vm := .none },
  { cls := 12, slots := #[.long 31], vm := .none },
  { cls := 12, slots := #[.long 32], vm := .none },
  { cls := 12, slots := #[.long 33], vm := .none },
  { cls := 12, slots := #[.long 34], vm := .none },
  { cls := 12, slots := #[.long 35], vm := .none },
  { cls := 12, slots := #[.long 36], vm := .none },
  { cls := 12, slots := #[.long 37], vm := .none },
  { cls := 12, slots := #[.long 38], vm := .none },
  { cls := 12, slots := #[.long 39], vm := .none },
  { cls := 12, slots := #[.long 40], vm := .none },
  { cls := 12, slots := #[.long 41], vm := .none },
  { cls := 12, slots := #[.long 42], vm := .none },
  { cls := 12, slots := #[.long 43], vm := .none },
  { cls := 12, slots := #[.long 44], vm := .none },
  { cls := 12, slots := #[.long 45], vm := .none },
  { cls := 12, slots := #[.long 46], vm := .none },
  { cls := 12, slots := #[.long 47], vm := .none },
  { cls := 12, slots := #[.long 48], vm := .none },
  { cls := 12, slots := #[.long 49], vm := .none },
  { cls := 12, slots := #[.long 50], vm := .none },
  { cls := 12, slots := #[.long 51], vm := .none },
  { cls := 12, slots := #[.long 52], vm := .none },
  { cls := 12, slots := #[.long 53], vm := .none },
  { cls := 12, slots := #[.long 54], vm := .none },
  { cls := 12, slots := #[.long 55], vm := .none },
  { cls := 12, slots := #[.long 56], vm := .none },
  { cls := 12, slots := #[.long 57], vm := .none },
  { cls := 12, slots := #[.long 58], vm := .none },
  { cls := 12, slots := #[.long 59], vm := .none },
  { cls := 12, slots := #[.long 60], vm := .none },
  { cls := 12, slots := #[.long 61], vm := .none },
  { cls := 12, slots := #[.long 62], vm := .none },
  { cls := 12, slots := #[.long 63], vm := .none },
  { cls := 12, slots := #[.long 64], vm := .none },
  { cls := 12, slots := #[.long 65], vm := .none },
  { cls := 12, slots := #[.long 66], vm := .none },
  { cls := 12, slots := #[.long 67], vm := .none },
  { cls := 12, slots := #[.long 68], vm := .none },
  { cls := 12, slots := #[.long 69], vm := .none },
  { cls := 12, slots := #[.long 70], vm := .none },
  { cls := 12, slots := #[.long 71], vm := .none },
  { cls := 12, slots := #[.long 72], vm := .none },
  { cls := 12, slots := #[.long 73], vm := .none },
  { cls := 12, slots := #[.long 74], vm := .none },
  { cls := 12, slots := #[.long 75], vm := .none },
  { cls := 12, slots := #[.long 76], vm := .none },
  { cls := 12, slots := #[.long 77], vm := .none },
  { cls := 12, slots := #[.long 78], vm := .none },
  { cls := 12, slots := #[.long 79], vm := .none },
  { cls := 12, slots := #[.long 80], vm := .none },
  { cls := 12, slots := #[.long 81], vm := .none },
  { cls := 12, slots := #[.long 82], vm := .none },
  { cls := 12, slots := #[.long 83], vm := .none },
  { cls := 12, slots := #[.long 84], vm := .none },
  { cls := 12, slots := #[.long 85], vm := .none },
  { cls := 12, slots := #[.long 86], vm := .none },
  { cls := 12, slots := #[.long 87], vm := .none },
  { cls := 12, slots := #[.long 88], vm := .none },
  { cls := 12, slots := #[.long 89], vm := .none },
  { cls := 12, slots := #[.long 90], vm := .none },
  { cls := 12, slots := #[.long 91], vm := .none },
  { cls := 12, slots := #[.long 92], vm := .none },
  { cls := 12, slots := #[.long 93], vm := .none },
  { cls := 12, slots := #[.long 94], vm := .none },
  { cls := 12, slots := #[.long 95], vm := .none },
  { cls := 12, slots := #[.long 96], vm := .none },
  { cls := 12, slots := #[.long 97], vm := .none },
  { cls := 12, slots := #[.long 98], vm := .none },
  { cls := 12, slots := #[.long 99], vm := .none },
  { cls := 12, slots := #[.long 100], vm := .none },
  { cls := 12, slots := #[.long 101], vm := .none },
  { cls := 12, slots := #[.long 102], vm := .none },
  { cls := 12, slots := #[.long 103], vm := .none },
  { cls := 12, slots := #[.long 104], vm := .none },
  { cls := 12, slots := #[.long 105], vm := .none },
  { cls := 12, slots := #[.long 106], vm := .none },
  { cls := 12, slots := #[.long 107], vm := .none },
  { cls := 12, slots := #[.long 108], vm := .none },
  { cls := 12, slots := #[.long 109], vm := .none },
  { cls := 12, slots := #[.long 110], vm := .none },
  { cls := 12, slots := #[.long 111], vm := .none },
  { cls := 12, slots := #[.long 112], vm := .none },
  { cls := 12, slots := #[.long 113], vm := .none },
  { cls := 12, slots := #[.long 114], vm := .none },
  { cls := 12, slots := #[.long 115], vm := .none },
  { cls := 12, slots := #[.long 116], vm := .none },
  { cls := 12, slots := #[.long 117], vm := .none },
  { cls := 12, slots := #[.long 118], vm := .none },
  { cls := 12, slots := #[.long 119], vm := .none },
  { cls := 12, slots := #[.long 120], vm := .none },
  { cls := 12, slots := #[.long 121], vm := .none },
  { cls := 12, slots := #[.long 122], vm := .none },
  { cls := 12, slots := #[.long 123], vm := .none },
  { cls := 12, slots := #[.long 124], vm := .none },
  { cls := 12, slots := #[.long 125], vm := .none },
  { cls := 12, slots := #[.long 126], vm := .none },
  { cls := 12, slots := #[.long 127], vm := .none }]
def classes : Array Class := #[k0, k1, k2, k3, k4, k5, k6, k7, k8, k9, k10, k11, k12, k13, k14, k15, k16, k17, k18, k19]
def interned : List (Array UInt16 × Addr) := []
def slotsUsed : Nat := 589
def theMethod : MethodId := ⟨1, 2⟩
def args0 : Array Value := #[.int 5, .long 6, .int 7, .int 8, .long 9, .int 10]
def aboutOver (below : List Frame) : State where
  vm := { classes := classes, interned := interned.toArray }
  heap := heap
  slotsUsed := slotsUsed
  threads := #[{ frames := .invoking theMethod args0 :: below }]
def below0 : List Frame := [.native { method := ⟨0, 0⟩, args := #[] }]
def about1 : State := aboutOver below0
def p0 : Program := .bare "" "" ""
def e0 : Env := launch0.env 0 0 0
theorem w_frames : about1.frames = Frame.invoking theMethod args0 :: below0 := rfl
set_option maxRecDepth 65536 in
theorem w_args : argsFit about1.vm theMethod args0 = true := by decide +kernel
set_option maxRecDepth 65536 in
theorem w_heap : heapFits about1 = true := by decide +kernel
set_option maxRecDepth 65536 in
theorem w_runnable : about1.curStatus? = some .runnable := by decide +kernel
set_option maxRecDepth 65536 in
theorem w_alone : about1.alone = true := by decide +kernel
set_option maxRecDepth 65536 in
theorem w_named : about1.methodNamed? x = some theMethod := by decide +kernel
set_option maxRecDepth 65536 in
theorem w_hears : about1.hears theMethod below0 = true := by decide +kernel
set_option maxRecDepth 65536 in
theorem w_ripe : about1.ripe theMethod args0 below0 = true := by decide +kernel
theorem w_running : about1.status = .running := rfl
set_option maxRecDepth 65536 in
theorem w_room : about1.hasRoom e0.platform room_1 = true :=
  launch0.hasRoom_least _ room_1 (by decide +kernel) (by decide +kernel) (by decide +kernel) (by decide +kernel) (by decide +kernel) (by decide +kernel)
theorem allAtoms_all (ts : List Jvm.Cond) (a : Array Jvm.Value) (st : Jvm.State) : (allAtoms ts).before a st = ts.all (fun c => c.before a st) := by
  induction ts with
  | nil => rfl
  | cons c t ih =>
    show (Jvm.Cond.and c (allAtoms t)).before a st = _
    rw [Jvm.Cond.before_and, ih, List.all_cons]
def words1 : List Jvm.Cond := Jvm.Cond.code x code maxLocals ret :: tables_1
/-- a 'code' word, met by the world's own term for the bytes: nothing is compared byte by byte -/
theorem code_word {y : MethodName} {bytes : ByteArray} {mx : Nat} {rt : Option FieldType} {a : Array Value} {s : State} {m : MethodId} {meth : Method} {c : Code} (h1 : s.methodNamed? y = some m) (h2 : s.vm.method? m = some meth) (h3 : meth.code = some c) (h4 : c.code = bytes)
    (h5 : (c.maxLocals == mx && c.exceptionTable.isEmpty && decide (c.maxStack ≤ mostOperands) && decide (meth.sig.returnType = rt) && !meth.locks && decide (parseMethodDescriptor y.desc = some meth.sig)) = true) : (Jvm.Cond.code y bytes mx rt).before a s = true := by
  simp only [Bool.and_eq_true, beq_iff_eq, Bool.not_eq_true', decide_eq_true_eq] at h5
  obtain ⟨⟨⟨⟨⟨g1, g2⟩, g3⟩, g4⟩, g5⟩, g6⟩ := h5
  simp [Cond.before, Cond.holds, Cond.value, h1, h2, h3, h4, g1, g2, g3, g4, g5, g6]
def isCode : Jvm.Cond → Bool
  | .code _ _ _ _ => true
  | _ => false
theorem all_split {L : List Jvm.Cond} {P : Jvm.Cond → Bool} (h1 : L.all (fun c => isCode c || P c) = true) (h2 : ∀ c ∈ L.filter isCode, P c = true) : L.all P = true := by
  refine List.all_eq_true.mpr fun c hc => ?_
  have h := List.all_eq_true.mp h1 c hc
  rcases Bool.eq_false_or_eq_true (isCode c) with hi | hi
  · exact h2 c (List.mem_filter.mpr ⟨hc, hi⟩)
  · simpa [hi] using h
set_option maxRecDepth 65536 in
theorem w_c0 : (Jvm.Cond.code x code maxLocals ret).before args0 about1 = true := code_word (m := ⟨1, 2⟩) (meth := k1m2) (c := k1c2) (by decide +kernel) rfl rfl rfl (by decide +kernel)
set_option maxRecDepth 65536 in
theorem w_c1 : (Jvm.Cond.code ({ cls := "com/example/muster/muster/analysis/SymbolicEqualsPinLaw", name := "type", desc := "(I)Lcom/example/muster/muster/model/IntegerType;" } : Jvm.MethodName) method_2_code (1 : Nat) (Option.some (Jvm.ClassFile.FieldType.object "com/example/muster/muster/model/IntegerType"))).before args0 about1 = true := code_word (m := ⟨1, 1⟩) (meth := k1m1) (c := k1c1) (by decide +kernel) rfl rfl rfl (by decide +kernel)
set_option maxRecDepth 65536 in
theorem w_c2 : (Jvm.Cond.code ({ cls := "com/example/muster/muster/analysis/Value$Symbolic", name := "<init>", desc := "(IJLcom/example/muster/muster/model/IntegerType;)V" } : Jvm.MethodName) prog_45_method_1_code (5 : Nat) (Option.none : Option Jvm.ClassFile.FieldType)).before args0 about1 = true := code_word (m := ⟨4, 0⟩) (meth := k4m0) (c := k4c0) (by decide +kernel) rfl rfl rfl (by decide +kernel)
set_option maxRecDepth 65536 in
theorem w_c3 : (Jvm.Cond.code ({ cls := "java/lang/Record", name := "<init>", desc := "()V" } : Jvm.MethodName) jdk_30_method_1_code (1 : Nat) (Option.none : Option Jvm.ClassFile.FieldType)).before args0 about1 = true := code_word (m := ⟨2, 0⟩) (meth := k2m0) (c := k2c0) (by decide +kernel) rfl rfl rfl (by decide +kernel)
set_option maxRecDepth 65536 in
theorem w_c4 : (Jvm.Cond.code ({ cls := "java/lang/Object", name := "<init>", desc := "()V" } : Jvm.MethodName) object_method_1_code (1 : Nat) (Option.none : Option Jvm.ClassFile.FieldType)).before args0 about1 = true := code_word (m := ⟨0, 0⟩) (meth := k0m0) (c := k0c0) (by decide +kernel) rfl rfl rfl (by decide +kernel)
set_option maxRecDepth 65536 in
theorem w_c5 : (Jvm.Cond.code ({ cls := "com/example/muster/muster/analysis/Value$Symbolic", name := "equals", desc := "(Ljava/lang/Object;)Z" } : Jvm.MethodName) prog_45_method_2_code (3 : Nat) (Option.some Jvm.ClassFile.FieldType.boolean)).before args0 about1 = true := code_word (m := ⟨4, 1⟩) (meth := k4m1) (c := k4c1) (by decide +kernel) rfl rfl rfl (by decide +kernel)
set_option maxRecDepth 65536 in
theorem w_c6 : (Jvm.Cond.code ({ cls := "java/lang/Long", name := "valueOf", desc := "(J)Ljava/lang/Long;" } : Jvm.MethodName) jdk_35_method_24_code (3 : Nat) (Option.some (Jvm.ClassFile.FieldType.object "java/lang/Long"))).before args0 about1 = true := code_word (m := ⟨12, 0⟩) (meth := k12m0) (c := k12c0) (by decide +kernel) rfl rfl rfl (by decide +kernel)
set_option maxRecDepth 65536 in
theorem w_c7 : (Jvm.Cond.code ({ cls := "java/lang/Long", name := "<init>", desc := "(J)V" } : Jvm.MethodName) jdk_35_method_26_code (3 : Nat) (Option.none : Option Jvm.ClassFile.FieldType)).before args0 about1 = true := code_word (m := ⟨12, 1⟩) (meth := k12m1) (c := k12c1) (by decide +kernel) rfl rfl rfl (by decide +kernel)
set_option maxRecDepth 65536 in
theorem w_c8 : (Jvm.Cond.code ({ cls := "java/lang/Number", name := "<init>", desc := "()V" } : Jvm.MethodName) jdk_18_method_1_code (1 : Nat) (Option.none : Option Jvm.ClassFile.FieldType)).before args0 about1 = true := code_word (m := ⟨10, 0⟩) (meth := k10m0) (c := k10c0) (by decide +kernel) rfl rfl rfl (by decide +kernel)
def codes1 : List Jvm.Cond := [Jvm.Cond.code x code maxLocals ret, Jvm.Cond.code ({ cls := "com/example/muster/muster/analysis/SymbolicEqualsPinLaw", name := "type", desc := "(I)Lcom/example/muster/muster/model/IntegerType;" } : Jvm.MethodName) method_2_code (1 : Nat) (Option.some (Jvm.ClassFile.FieldType.object "com/example/muster/muster/model/IntegerType")), Jvm.Cond.code ({ cls := "com/example/muster/muster/analysis/Value$Symbolic", name := "<init>", desc := "(IJLcom/example/muster/muster/model/IntegerType;)V" } : Jvm.MethodName) prog_45_method_1_code (5 : Nat) (Option.none : Option Jvm.ClassFile.FieldType), Jvm.Cond.code ({ cls := "java/lang/Record", name := "<init>", desc := "()V" } : Jvm.MethodName) jdk_30_method_1_code (1 : Nat) (Option.none : Option Jvm.ClassFile.FieldType), Jvm.Cond.code ({ cls := "java/lang/Object", name := "<init>", desc := "()V" } : Jvm.MethodName) object_method_1_code (1 : Nat) (Option.none : Option Jvm.ClassFile.FieldType), Jvm.Cond.code ({ cls := "com/example/muster/muster/analysis/Value$Symbolic", name := "equals", desc := "(Ljava/lang/Object;)Z" } : Jvm.MethodName) prog_45_method_2_code (3 : Nat) (Option.some Jvm.ClassFile.FieldType.boolean), Jvm.Cond.code ({ cls := "java/lang/Long", name := "valueOf", desc := "(J)Ljava/lang/Long;" } : Jvm.MethodName) jdk_35_method_24_code (3 : Nat) (Option.some (Jvm.ClassFile.FieldType.object "java/lang/Long")), Jvm.Cond.code ({ cls := "java/lang/Long", name := "<init>", desc := "(J)V" } : Jvm.MethodName) jdk_35_method_26_code (3 : Nat) (Option.none : Option Jvm.ClassFile.FieldType), Jvm.Cond.code ({ cls := "java/lang/Number", name := "<init>", desc := "()V" } : Jvm.MethodName) jdk_18_method_1_code (1 : Nat) (Option.none : Option Jvm.ClassFile.FieldType)]
set_option maxRecDepth 65536 in
theorem codes_eq : words1.filter isCode = codes1 := rfl
theorem w_codes : ∀ c ∈ words1.filter isCode, c.before args0 about1 = true := by
  rw [codes_eq]
  intro c hc
  simp only [codes1, List.mem_cons, List.not_mem_nil, or_false] at hc
  rcases hc with rfl | rfl | rfl | rfl | rfl | rfl | rfl | rfl | rfl
  · exact w_c0
  · exact w_c1
  · exact w_c2
  · exact w_c3
  · exact w_c4
  · exact w_c5
  · exact w_c6
  · exact w_c7
  · exact w_c8
set_option maxRecDepth 65536 in
theorem w_t1 : (words1.take 24).all (fun c => isCode c || c.before args0 about1) = true := by decide +kernel
set_option maxRecDepth 65536 in
theorem w_t2 : ((words1.drop 24).take 24).all (fun c => isCode c || c.before args0 about1) = true := by decide +kernel
set_option maxRecDepth 65536 in
theorem w_t3 : (((words1.drop 24).drop 24).take 24).all (fun c => isCode c || c.before args0 about1) = true := by decide +kernel
set_option maxRecDepth 65536 in
theorem w_t4 : (((words1.drop 24).drop 24).drop 24).all (fun c => isCode c || c.before args0 about1) = true := by decide +kernel
theorem w_tables : (allAtoms (Jvm.Cond.code x code maxLocals ret :: tables_1)).before args0 about1 = true := by
  rw [allAtoms_all]
  show words1.all (fun c => c.before args0 about1) = true
  refine all_split ?_ w_codes
  rw [← List.take_append_drop 24 words1, List.all_append, w_t1, ← List.take_append_drop 24 (words1.drop 24), List.all_append, w_t2, ← List.take_append_drop 24 ((words1.drop 24).drop 24), List.all_append, w_t3, w_t4]
  rfl
set_option maxRecDepth 65536 in
theorem w_rest : rest_1_c.before args0 about1 = true := by decide +kernel
set_option maxRecDepth 65536 in
theorem w_case : (Jvm.Cond.and given_1 narrow_1).before args0 about1 = true := by decide +kernel
theorem w_applies : (headSpec (Jvm.Cond.code x code maxLocals ret :: tables_1) room_1).applies x e0.platform about1 = true :=
  (Spec.applies_iff w_frames).mpr ⟨w_running, w_runnable, w_alone, w_named, w_hears, w_ripe, w_room, w_tables⟩
theorem atStart : AtStart classFile x code maxLocals ret World_1 tables_1 room_1 Calls_1 rest_1 Pre_1 launch0 p0 e0 about1 theMethod args0 below0 :=
  ⟨lists_1, trivial, launch0.admits_env _ _ _, launch0.least_env, fairChoices_fair.cas, fairChoices_fair.clock, w_frames, w_args, w_heap, w_applies, trivial, w_rest, w_case⟩
end start1
theorem witness_1 : WitnessClaimed_1 := ⟨start1.p0, start1.e0, start1.about1, start1.theMethod, start1.args0, start1.below0, start1.atStart⟩
end Jvm.Pilot.@@N@@
