import JvmDerived
import JvmDerived.Pilot.@@N@@Statement
import JvmDerived.Pilot.@@N@@Code
set_option linter.unusedVariables false
set_option linter.unusedSimpArgs false
namespace Jvm.Pilot.@@N@@
open Jvm Jvm.ClassFile Sem Op Lib Jvm.Free Jvm.Stand Jvm.LawKit Jvm.RoadKit Bundle Jvm.Pilot.@@N@@.Jvm.D
section OwnKit
variable {p : Program} {l : Launch} {e : Env} {R : Room} {s : State} {m : MethodId} {args : Array Value} {below : List Frame} {meth : Method} {c : Code} {T : State} {locs : List Loc} {cells slots : Nat}
theorem retI (X : Stand p l e R s m args below meth c T locs cells slots) (hx : p.tables.exec = Jvm.exec) {pc : Nat} {Ls : Array Slot} {z : Int32} {rest : List Value} (hret : meth.sig.returnType = some .int) (hd : decode c.code pc = .ok (.ireturn, 1)) {fs : List Frame}
    (hl : ∀ (f : JFrame) (acts : List Action), f.method = m → f.locked = none → f.entered = [] → (doReturn e (T.setTop f) acts (some (.int z))).1 = T.setFrames fs) : Steps p.tables e below (T.setTop (mkF m pc Ls (.int z :: rest))) (T.setFrames fs) :=
  retOut X hx hret rfl (Or.inl ⟨rfl, Or.inl rfl, z, rfl⟩) hd hl
theorem oretJ (X : Stand p l e R s m args below meth c T locs cells slots) (hx : p.tables.exec = Jvm.exec) {pc : Nat} {Ls : Array Slot} {z : Int64} {rest : List Value} (hret : meth.sig.returnType = some .long) (hd : decode c.code pc = .ok (.lreturn, 1)) {fs : List Frame}
    (hl : ∀ (f : JFrame) (acts : List Action), f.method = m → f.locked = none → f.entered = [] → (doReturn e (T.setTop f) acts (some (.long z))).1 = T.setFrames fs) : Steps p.tables e below (T.setTop (mkF m pc Ls (.long z :: rest))) (T.setFrames fs) :=
  retOut X hx hret rfl (Or.inr (Or.inl ⟨rfl, rfl, z, rfl⟩)) hd hl
theorem oretA (X : Stand p l e R s m args below meth c T locs cells slots) (hx : p.tables.exec = Jvm.exec) {pc : Nat} {Ls : Array Slot} {w : Value} {t : FieldType} {rest : List Value} (hret : meth.sig.returnType = some t) (ht : t.isReference = true) (hw : w.isRef = true) (hd : decode c.code pc = .ok (.areturn, 1)) {fs : List Frame}
    (hl : ∀ (f : JFrame) (acts : List Action), f.method = m → f.locked = none → f.entered = [] → (doReturn e (T.setTop f) acts (some w)).1 = T.setFrames fs) : Steps p.tables e below (T.setTop (mkF m pc Ls (w :: rest))) (T.setFrames fs) :=
  retOut X hx hret (by rcases ref_cases hw with rfl | ⟨a, rfl⟩ <;> cases t <;> rfl) (Or.inr (Or.inr (Or.inr (Or.inr ⟨rfl, ht, hw⟩)))) hd hl
end OwnKit
/-- the run that stands at A comes to an end of which P holds -/
def OGot (tb : Tables) (e : Env) (below : List Frame) (A : State) (P : State → Outcome → Prop) : Prop := ∃ U o, Steps tb e below A U ∧ P U o
theorem OGot.go {tb : Tables} {e : Env} {below : List Frame} {A B : State} {P : State → Outcome → Prop} (st : ∀ t, Steps tb e below B t → Steps tb e below A t) (h : OGot tb e below B P) : OGot tb e below A P := by
  obtain ⟨U, o, h1, h2⟩ := h
  exact ⟨U, o, st U h1, h2⟩
theorem OGot.on {tb : Tables} {e : Env} {below : List Frame} {A B : State} {P : State → Outcome → Prop} (st : Steps tb e below A B) (h : OGot tb e below B P) : OGot tb e below A P := by
  obtain ⟨U, o, h1, h2⟩ := h
  exact ⟨U, o, st.trans h1, h2⟩
section OwnFacts
variable {Z : State} {h h' h0 : Heap} {a b : Addr} {C n d : String} {v : Value} {sl : Nat} {n0 : Nat} {ws ws' : List (Addr × Nat)} {k : ClassId} {ty : FieldType} {z : Int32} {vs : List Value} {dv : Value}
theorem osz (X : Old Z n0 h) : n0 ≤ h.size := X.1 ▸ X.2.1
theorem oheap {U : State} {P : Heap → Prop} (q : U.heap = h) (x : P h) : P U.heap := q ▸ x
/-- what stood in h0 stands in h, but for the places at ws -/
def OKeep (h0 h : Heap) (ws : List (Addr × Nat)) : Prop := h0.size ≤ h.size ∧ ∀ (x : Addr) (c : Cell), h0[x]? = some c → ∃ c' : Cell, h[x]? = some c' ∧ c'.cls = c.cls ∧ c'.vm = c.vm ∧ c'.slots.size = c.slots.size ∧ (∀ i, (x, i) ∉ ws → c'.slots[i]? = c.slots[i]?) ∧ ((∀ i, (x, i) ∉ ws) → c' = c)
theorem OKeep.refl (h : Heap) (ws : List (Addr × Nat)) : OKeep h h ws := ⟨Nat.le_refl _, fun _ c q => ⟨c, q, rfl, rfl, rfl, fun _ _ => rfl, fun _ => rfl⟩⟩
theorem OKeep.ext (K : OKeep h0 h ws) (E : Ext h h') : OKeep h0 h' ws := ⟨Nat.le_trans K.1 E.1, fun x c q => by
  obtain ⟨c', q', r⟩ := K.2 x c q
  exact ⟨c', E.2 x c' q', r⟩⟩
theorem OKeep.trans (K : OKeep h0 h ws) (K' : OKeep h h' ws') (q : ∀ x ∈ ws', x ∈ ws ∨ h0.size ≤ x.1) : OKeep h0 h' ws := by
  refine ⟨Nat.le_trans K.1 K'.1, fun x c hx => ?_⟩
  have lt : x < h0.size := (Array.getElem?_eq_some_iff.mp hx).1
  have out : ∀ i, (x, i) ∉ ws → (x, i) ∉ ws' := fun i r z => (q _ z).elim r fun y => Nat.not_lt.mpr y lt
  obtain ⟨c1, q1, r1, r2, r3, r4, r5⟩ := K.2 x c hx
  obtain ⟨c2, q2, t1, t2, t3, t4, t5⟩ := K'.2 x c1 q1
  exact ⟨c2, q2, t1.trans r1, t2.trans r2, t3.trans r3, fun i r => (t4 i (out i r)).trans (r4 i r), fun r => (t5 fun i => out i (r i)).trans (r5 r)⟩
theorem OKeep.of_wr (W : Wr h h' a sl v) : OKeep h h' [(a, sl)] := by
  refine ⟨Nat.le_of_eq W.size.symm, fun x c q => ?_⟩
  obtain ⟨c', e1, e2, e3, e4, e5, e6, -⟩ := wr_at W q
  refine ⟨c', e1, e2, e3, e4, fun i r => ?_, fun r => e5 fun z => r sl (by simp [z])⟩
  by_cases z : x = a
  · subst z
    exact e6 i fun y => r (by simp [y])
  · rw [e5 z]
theorem OKeep.wr (K : OKeep h0 h ws) (W : Wr h h' a sl v) (q : (a, sl) ∈ ws ∨ h0.size ≤ a) : OKeep h0 h' ws := K.trans (OKeep.of_wr W) fun x hx => by cases List.mem_singleton.mp hx; exact q
theorem oslot {x : ClassId × Class × Nat × Field} (h2 : Z.fieldFound? C n d = some x) : Jvm.RoadKit.slotOf Z C n d = x.2.2.2.slot := by
  show ((Z.fieldFound? C n d).map (·.2.2.2.slot)).getD 0 = _
  rw [h2]; rfl
theorem OKeep.fld (F : Fld Z h a C n d v) (K : OKeep h h' ws) (q : (a, Jvm.RoadKit.slotOf Z C n d) ∉ ws) : Fld Z h' a C n d v := by
  obtain ⟨cell, cf, k, i, f, h1, h2, h3, h4, h5, h6, h7⟩ := F
  obtain ⟨c', r, r1, r2, -, r4, -⟩ := K.2 a cell h1
  exact ⟨c', cf, k, i, f, r, h2, h3, by rw [r2]; exact h4, by rw [r2]; exact h5, by rw [r1]; exact h6, by rw [r4 f.slot (fun y => q (by rw [oslot h2]; exact y))]; exact h7⟩
theorem OKeep.exa (F : Exa Z h a C) (K : OKeep h h' ws) : Exa Z h' a C := by
  obtain ⟨cell, k, h1, h2, h3, h4, h5⟩ := F
  obtain ⟨c', q, r1, r2, r3, -, -⟩ := K.2 a cell h1
  exact ⟨c', k, q, r1 ▸ h2, r1 ▸ h3, r2 ▸ h4, r3 ▸ h5⟩
theorem OKeep.arv (F : Arv Z h a k ty z vs dv) (K : OKeep h h' ws) (q : ∀ x ∈ ws, a ≠ x.1) : Arv Z h' a k ty z vs dv := by
  obtain ⟨c, A, r⟩ := F
  obtain ⟨c', e1, -, -, -, -, e5⟩ := K.2 a c A.1
  cases e5 fun i y => q _ y rfl
  exact ⟨c, ⟨e1, A.2⟩, r⟩
theorem OKeep.old (X : Old Z n0 h) (K : OKeep h h' ws) (q : ∀ x ∈ ws, n0 ≤ x.1) : Old Z n0 h' := ⟨X.1, Nat.le_trans X.2.1 K.1, fun x c r => by
  obtain ⟨c', e1, -, -, -, -, e5⟩ := K.2 x c (X.2.2 x c r)
  cases e5 fun i y => absurd (X.1 ▸ (Array.getElem?_eq_some_iff.mp r).1) (Nat.not_lt.mpr (q _ y))
  exact e1⟩
theorem onin0 {x : Addr × Nat} : x ∉ ([] : List (Addr × Nat)) := fun q => nomatch q
theorem oninA {t : Nat} {L : List (Addr × Nat)} (q : a ≠ b) (r : (a, sl) ∉ L) : (a, sl) ∉ (b, t) :: L := fun y => (List.mem_cons.mp y).elim (fun u => q (congrArg Prod.fst u)) r
theorem oninS {t : Nat} {L : List (Addr × Nat)} (q : sl ≠ t) (r : (a, sl) ∉ L) : (a, sl) ∉ (b, t) :: L := fun y => (List.mem_cons.mp y).elim (fun u => q (congrArg Prod.snd u)) r
theorem oall0 : ∀ x ∈ ([] : List (Addr × Nat)), a ≠ x.1 := fun _ q => nomatch q
theorem oallS {t : Nat} {L : List (Addr × Nat)} (q : a ≠ b) (r : ∀ x ∈ L, a ≠ x.1) : ∀ x ∈ (b, t) :: L, a ≠ x.1 := fun x y => (List.mem_cons.mp y).elim (fun u => by subst u; exact q) (r x)
theorem oge0 : ∀ x ∈ ([] : List (Addr × Nat)), n0 ≤ x.1 := fun _ q => nomatch q
theorem ogeS {t : Nat} {L : List (Addr × Nat)} (q : n0 ≤ b) (r : ∀ x ∈ L, n0 ≤ x.1) : ∀ x ∈ (b, t) :: L, n0 ≤ x.1 := fun x y => (List.mem_cons.mp y).elim (fun u => by subst u; exact q) (r x)
theorem oin0 {P : Addr × Nat → Prop} : ∀ x ∈ ([] : List (Addr × Nat)), P x := fun _ q => nomatch q
theorem oinS {P : Addr × Nat → Prop} {y : Addr × Nat} {L : List (Addr × Nat)} (q : P y) (r : ∀ x ∈ L, P x) : ∀ x ∈ y :: L, P x := fun x u => (List.mem_cons.mp u).elim (fun w => w ▸ q) (r x)
theorem oeq_int {args : Array Value} {first s : State} {o : Option Outcome} {idx : List Nat} {t : Term} {w : Int32} (q : (Jvm.Cond.eq t (.int w)).value args first o s idx = some true) : t.eval args first o idx s = some (.int w) := by
  simp only [Jvm.Cond.value, Term.eval] at q
  cases ht : t.eval args first o idx s with
  | none => simp [ht] at q
  | some x => cases x <;> simp [ht] at q ⊢; exact q
theorem oeq_ref {args : Array Value} {first s : State} {o : Option Outcome} {idx : List Nat} {t u : Term} {w : Addr} (q : (Jvm.Cond.eq t u).value args first o s idx = some true) (r : u.eval args first o idx s = some (.ref w)) : t.eval args first o idx s = some (.ref w) := by
  obtain ⟨x, y, e1, e2, k1, k2⟩ := cmp_v (Or.inl q)
  cases r.symm.trans e2
  rcases ref_cases k2.2 with rfl | ⟨z, rfl⟩
  · have := eq_R e1 e2 rfl rfl
    rw [q] at this
    simp at this
  · have := gotT (eq_R e1 e2 rfl rfl) q
    rw [e1, this]
theorem one_int {args : Array Value} {first s : State} {o : Option Outcome} {idx : List Nat} {t : Term} {w : Int32} (r : t.eval args first o idx s = some (.int w)) (q : (Jvm.Cond.not (.eq t (.int 0))).value args first o s idx = some true) : ¬ (w = (0 : Int32)) := by
  have := not_v q
  exact gotF (Cond.eq_ints r rfl) this
theorem olen {args : Array Value} {first s : State} {o : Option Outcome} {idx : List Nat} {t : Term} {cl : Cell} {w : Int32} (q : (Term.length t).eval args first o idx s = some (.int w)) (ht : t.eval args first o idx s = some (.ref a)) (ha : s.arrayAt? a = some cl) : cl.slots.size < 2 ^ 31 ∧ cl.slots.size.toInt32 = w := by
  simp only [Term.eval, ht, ha, Option.bind_eq_bind, Option.bind_some] at q
  by_cases y : cl.slots.size < 2 ^ 31
  · exact ⟨y, by simpa [y] using q⟩
  · simp [y] at q
theorem osub128 {args : Array Value} {j : Int32} (hj : ¬ j < 0) : (Term.sub (.index 0) (.int 128)).eval args Z none [j.toNatClampNeg] Z = some (.int (j - 128)) := by
  have e := idx_at (args := args) (first := Z) (s := Z) (o := none) hj
  simp only [Term.eval] at e ⊢
  simp [e]
  exact (back32 hj).1
def obox (c : Cell) (j : Int32) : Addr := match c.slots[j.toNatClampNeg]? with
  | some (.ref b) => b
  | _ => 0
theorem obox_at {cl : Cell} {K dd : String} {w : Int32} {val : Int32 → Value} (B : Bxs Z a cl K dd w val) {j : Int32} (hj : ¬ (j < 0 ∨ cl.slots.size ≤ j.toNatClampNeg)) : cl.slots[j.toNatClampNeg]? = some (.ref (obox cl j)) ∧ Exa Z Z.heap (obox cl j) K ∧ Fld Z Z.heap (obox cl j) K "value" dd (val j) := by
  obtain ⟨b, h1, h2, h3⟩ := B.2.2.2 j hj
  have e : obox cl j = b := by unfold obox; rw [h1]
  rw [e]; exact ⟨h1, h2, h3⟩
theorem oNS.root {a0 : Array Value} {O K : String} {i : Nat} (w : (Cond.noSuperclass O).before a0 Z = true) (wk : (Cond.instantiable K i).before a0 Z = true) (hn : O ≠ K) : NS Z O K := by
  obtain ⟨c, k, h1, h2, h3, -, -⟩ := Cond.noSuperclass_spec w
  obtain ⟨t, kt, g1, -⟩ := Cond.instantiable_spec wk
  have ne := ids_ne h1 g1 hn
  refine ⟨c, t, h1, g1, fun fuel => ?_⟩
  cases fuel with
  | zero => rfl
  | succ f => simp [Vm.isSubclassAux, ne, h2, h3]
theorem oNS.no {a0 : Array Value} {C S K : String} {i : Nat} (w : (Cond.superclass C S).before a0 Z = true) (wk : (Cond.instantiable K i).before a0 Z = true) (q : NS Z C K) (hn : C ≠ K) : ∃ c t, Z.vm.findClass C = some c ∧ Z.vm.findClass K = some t ∧ Z.vm.assignable c t = false := by
  obtain ⟨c, t, h0, g0, n3⟩ := q
  obtain ⟨p, k, kp, h1, h2, h3, h4, h5, -, h7⟩ := Cond.superclass_spec h0 w
  obtain ⟨t', k', g1, g2, g3, g4, -⟩ := Cond.instantiable_spec wk
  cases g0.symm.trans g1
  have ne := ids_ne h0 g0 hn
  have g7 : k'.isInterface = false := (Bool.or_eq_false_iff.mp g4).1
  refine ⟨c, t, h0, g0, ?_⟩
  show Z.vm.assignableAux (255 + 1) c t = false
  simp [Vm.assignableAux, ne, h2, g2, h5, g3, g7, Vm.isSubclass, n3]
end OwnFacts
theorem ow {Z : State} {a0 : Array Value} (hw : ∀ d ∈ tables_1, d.before a0 Z = true) (i : Nat) {d : Jvm.Cond} (h : tables_1[i]? = some d) : d.before a0 Z = true := hw _ (List.mem_of_getElem? h)
theorem own_rem9 (x : Int32) : ((x &&& (2147483647 : Int32)) % (9 : Int32)) = (0 : Int32) ∨ ((x &&& (2147483647 : Int32)) % (9 : Int32)) = (1 : Int32) ∨ ((x &&& (2147483647 : Int32)) % (9 : Int32)) = (2 : Int32) ∨ ((x &&& (2147483647 : Int32)) % (9 : Int32)) = (3 : Int32) ∨ ((x &&& (2147483647 : Int32)) % (9 : Int32)) = (4 : Int32) ∨ ((x &&& (2147483647 : Int32)) % (9 : Int32)) = (5 : Int32) ∨ ((x &&& (2147483647 : Int32)) % (9 : Int32)) = (6 : Int32) ∨ ((x &&& (2147483647 : Int32)) % (9 : Int32)) = (7 : Int32) ∨ ((x &&& (2147483647 : Int32)) % (9 : Int32)) = (8 : Int32) := by
  have e1 : (x &&& (2147483647 : Int32)).toInt = x.toInt % ((2 ^ 31 : Nat) : Int) := c_mask x 2147483647 31 (by decide) (by decide)
  have p : ((2 ^ 31 : Nat) : Int) = 2147483648 := rfl
  rw [p] at e1
  have e : ((x &&& (2147483647 : Int32)) % (9 : Int32)).toInt = (x &&& (2147483647 : Int32)).toInt % 9 := (c_irem (x &&& (2147483647 : Int32)) (9 : Int32) 9 (by decide)).1 (by omega)
  simp only [← Int32.toInt_inj, e]
  have : (0 : Int32).toInt = 0 ∧ (1 : Int32).toInt = 1 ∧ (2 : Int32).toInt = 2 ∧ (3 : Int32).toInt = 3 ∧ (4 : Int32).toInt = 4 ∧ (5 : Int32).toInt = 5 ∧ (6 : Int32).toInt = 6 ∧ (7 : Int32).toInt = 7 ∧ (8 : Int32).toInt = 8 := by decide
  omega
def Glob (Z : State) (w_BOOL : Addr) (w_INT8 : Addr) (w_UINT8 : Addr) (w_INT64 : Addr) (w_UINT32 : Addr) (w_UINT16 : Addr) (w_INT16 : Addr) (w_UINT64 : Addr) (w_INT32 : Addr) : Prop := Sta Z Z.heap "com/example/muster/muster/model/IntegerType" "BOOL" "Lcom/example/muster/muster/model/IntegerType;" (.ref w_BOOL) ∧ Exa Z Z.heap w_BOOL "com/example/muster/muster/model/IntegerType" ∧ Sta Z Z.heap "com/example/muster/muster/model/IntegerType" "INT8" "Lcom/example/muster/muster/model/IntegerType;" (.ref w_INT8) ∧ Exa Z Z.heap w_INT8 "com/example/muster/muster/model/IntegerType" ∧ Sta Z Z.heap "com/example/muster/muster/model/IntegerType" "UINT8" "Lcom/example/muster/muster/model/IntegerType;" (.ref w_UINT8) ∧ Exa Z Z.heap w_UINT8 "com/example/muster/muster/model/IntegerType" ∧ Sta Z Z.heap "com/example/muster/muster/model/IntegerType" "INT64" "Lcom/example/muster/muster/model/IntegerType;" (.ref w_INT64) ∧ Exa Z Z.heap w_INT64 "com/example/muster/muster/model/IntegerType" ∧ Sta Z Z.heap "com/example/muster/muster/model/IntegerType" "UINT32" "Lcom/example/muster/muster/model/IntegerType;" (.ref w_UINT32) ∧ Exa Z Z.heap w_UINT32 "com/example/muster/muster/model/IntegerType" ∧ Sta Z Z.heap "com/example/muster/muster/model/IntegerType" "UINT16" "Lcom/example/muster/muster/model/IntegerType;" (.ref w_UINT16) ∧ Exa Z Z.heap w_UINT16 "com/example/muster/muster/model/IntegerType" ∧ Sta Z Z.heap "com/example/muster/muster/model/IntegerType" "INT16" "Lcom/example/muster/muster/model/IntegerType;" (.ref w_INT16) ∧ Exa Z Z.heap w_INT16 "com/example/muster/muster/model/IntegerType" ∧ Sta Z Z.heap "com/example/muster/muster/model/IntegerType" "UINT64" "Lcom/example/muster/muster/model/IntegerType;" (.ref w_UINT64) ∧ Exa Z Z.heap w_UINT64 "com/example/muster/muster/model/IntegerType" ∧ Sta Z Z.heap "com/example/muster/muster/model/IntegerType" "INT32" "Lcom/example/muster/muster/model/IntegerType;" (.ref w_INT32) ∧ Exa Z Z.heap w_INT32 "com/example/muster/muster/model/IntegerType" ∧ Fld Z Z.heap w_BOOL "com/example/muster/muster/model/IntegerType" "bits" "I" (.int (1 : Int32)) ∧ Fld Z Z.heap w_BOOL "com/example/muster/muster/model/IntegerType" "signed" "Z" (.int (0 : Int32)) ∧ Fld Z Z.heap w_INT8 "com/example/muster/muster/model/IntegerType" "bits" "I" (.int (8 : Int32)) ∧ Fld Z Z.heap w_INT8 "com/example/muster/muster/model/IntegerType" "signed" "Z" (.int (1 : Int32)) ∧ Fld Z Z.heap w_UINT8 "com/example/muster/muster/model/IntegerType" "bits" "I" (.int (8 : Int32)) ∧ Fld Z Z.heap w_UINT8 "com/example/muster/muster/model/IntegerType" "signed" "Z" (.int (0 : Int32)) ∧ Fld Z Z.heap w_INT64 "com/example/muster/muster/model/IntegerType" "bits" "I" (.int (64 : Int32)) ∧ Fld Z Z.heap w_UINT32 "com/example/muster/muster/model/IntegerType" "bits" "I" (.int (32 : Int32)) ∧ Fld Z Z.heap w_UINT32 "com/example/muster/muster/model/IntegerType" "signed" "Z" (.int (0 : Int32)) ∧ Fld Z Z.heap w_UINT16 "com/example/muster/muster/model/IntegerType" "bits" "I" (.int (16 : Int32)) ∧ Fld Z Z.heap w_UINT16 "com/example/muster/muster/model/IntegerType" "signed" "Z" (.int (0 : Int32)) ∧ Fld Z Z.heap w_INT16 "com/example/muster/muster/model/IntegerType" "bits" "I" (.int (16 : Int32)) ∧ Fld Z Z.heap w_INT16 "com/example/muster/muster/model/IntegerType" "signed" "Z" (.int (1 : Int32)) ∧ Fld Z Z.heap w_UINT64 "com/example/muster/muster/model/IntegerType" "bits" "I" (.int (64 : Int32)) ∧ Fld Z Z.heap w_INT32 "com/example/muster/muster/model/IntegerType" "bits" "I" (.int (32 : Int32)) ∧ Fld Z Z.heap w_INT32 "com/example/muster/muster/model/IntegerType" "signed" "Z" (.int (1 : Int32)) ∧ Fld Z Z.heap w_INT64 "com/example/muster/muster/model/IntegerType" "signed" "Z" (.int (1 : Int32)) ∧ Fld Z Z.heap w_UINT64 "com/example/muster/muster/model/IntegerType" "signed" "Z" (.int (0 : Int32))
theorem d1_0 : decode prog_89_method_8_code 0 = .ok (.aload_n 0, 1) := by decide +kernel
theorem d1_1 : decode prog_89_method_8_code 1 = .ok (.getfield 50, 3) := by decide +kernel
theorem d1_4 : decode prog_89_method_8_code 4 = .ok (.bipush 64, 2) := by decide +kernel
theorem d1_6 : decode prog_89_method_8_code 6 = .ok (.if_icmp .ne 5, 3) := by decide +kernel
theorem d1_11 : decode prog_89_method_8_code 11 = .ok (.bipush 64, 2) := by decide +kernel
theorem d1_13 : decode prog_89_method_8_code 13 = .ok (.aload_n 0, 1) := by decide +kernel
theorem d1_14 : decode prog_89_method_8_code 14 = .ok (.getfield 50, 3) := by decide +kernel
theorem d1_17 : decode prog_89_method_8_code 17 = .ok (.isub, 1) := by decide +kernel
theorem d1_18 : decode prog_89_method_8_code 18 = .ok (.istore_n 3, 1) := by decide +kernel
theorem d1_19 : decode prog_89_method_8_code 19 = .ok (.aload_n 0, 1) := by decide +kernel
theorem d1_20 : decode prog_89_method_8_code 20 = .ok (.getfield 54, 3) := by decide +kernel
theorem d1_23 : decode prog_89_method_8_code 23 = .ok (.ifCond .eq 11, 3) := by decide +kernel
theorem d1_34 : decode prog_89_method_8_code 34 = .ok (.lload_n 1, 1) := by decide +kernel
theorem d1_35 : decode prog_89_method_8_code 35 = .ok (.iload_n 3, 1) := by decide +kernel
theorem d1_36 : decode prog_89_method_8_code 36 = .ok (.lshl, 1) := by decide +kernel
theorem d1_37 : decode prog_89_method_8_code 37 = .ok (.iload_n 3, 1) := by decide +kernel
theorem d1_38 : decode prog_89_method_8_code 38 = .ok (.lushr, 1) := by decide +kernel
theorem d1_39 : decode prog_89_method_8_code 39 = .ok (.lreturn, 1) := by decide +kernel
theorem pn_com_example_muster_muster_model_IntegerType : plainName "com/example/muster/muster/model/IntegerType" = true := by first | (simp [plainName, overriddenIn]; done) | decide +kernel
def Q1 (Z : State) (w_BOOL : Addr) (w_INT8 : Addr) (w_UINT8 : Addr) (w_INT64 : Addr) (w_UINT32 : Addr) (w_UINT16 : Addr) (w_INT16 : Addr) (w_UINT64 : Addr) (w_INT32 : Addr) (q2 : Int64) (h0 : Heap) (n0 : Nat) (v : Option Value) (h : Heap) (L : List Loc) : Prop := v = some (.long (((q2 <<< ((63 : Int32) &&& 0x3f).toInt64).toUInt64 >>> ((63 : Int32) &&& 0x3f).toInt64.toUInt64).toInt64)) ∧ Fr n0 L ∧ h = h0
theorem ef1 (m : MethodId) (x0 : Addr) (x1 : Int64) : entryFrame m #[(.ref x0), (.long x1)] 4 = mkF m 0 #[.val (.ref x0), .val (.long x1), .second, .unset] [] := by first | (simp [entryFrame, mkF, argsToLocals, Value.category]; done) | rfl
set_option maxRecDepth 65536 in
set_option maxHeartbeats 40000000 in
theorem rm1 (l : Launch) (Z : State) (a0 : Array Value) (hw : ∀ d ∈ tables_1, d.before a0 Z = true) (ws : List Jvm.Cond) {w_BOOL : Addr} {w_INT8 : Addr} {w_UINT8 : Addr} {w_INT64 : Addr} {w_UINT32 : Addr} {w_UINT16 : Addr} {w_INT16 : Addr} {w_UINT64 : Addr} {w_INT32 : Addr} (G : Glob Z w_BOOL w_INT8 w_UINT8 w_INT64 w_UINT32 w_UINT16 w_INT16 w_UINT64 w_INT32) (q2 : Int64) (h0 : Heap) (n0 : Nat) (O0 : Old Z n0 h0) :
    MetFree l (⟨"com/example/muster/muster/model/IntegerType", "wrap", "(J)J"⟩ : MethodName) (head1 (Jvm.Cond.code (⟨"com/example/muster/muster/model/IntegerType", "wrap", "(J)J"⟩ : MethodName) prog_89_method_8_code 4 (some .long) :: ws) ({ frames := 0, cells := 0, slots := 0, locals := 0 } : Room)) (fun a U => a = #[(.ref w_BOOL), (.long q2)] ∧ Z.Warmed39 U.vm ∧ U.heap = h0) (fun _ _ _ _ _ => True) (fun _ U o U' => ∃ v L, o = .returned v ∧ Q1 Z w_BOOL w_INT8 w_UINT8 w_INT64 w_UINT32 w_UINT16 w_INT16 w_UINT64 w_INT32 q2 h0 n0 v U'.heap L ∧ FrameEnd U o U' L ({ frames := 0, cells := 0, slots := 0, locals := 0 } : Room).cells ({ frames := 0, cells := 0, slots := 0, locals := 0 } : Room).slots) := by
  refine MetFree.of_bodySF (plainFor_of_name pn_com_example_muster_muster_model_IntegerType) hisR ?_
  intro p e s m args below meth c s₁ Bd hml0 hP hK
  obtain ⟨rfl, hZ, hh⟩ := hP
  have hx := Bd.exec
  have hby := Bd.bytes
  have hml : c.maxLocals = 4 := hml0
  have hown : s.vm.findClass "com/example/muster/muster/model/IntegerType" = some m.cls := findClass_of_methodNamed Bd.named
  have hnm := (name_of_methodNamed Bd.named Bd.method).1
  have X0 : Stand p l e ({ frames := 0, cells := 0, slots := 0, locals := 0 } : Room) s m #[(.ref w_BOOL), (.long q2)] below meth c s₁ [] 0 0 := Stand.of_body Bd
  have e0 : s₁.heap = h0 := by rw [← hh, Bd.state]; rfl
  have N0 := Fr.nil n0
  show OGot p.tables e below (s₁.setTop (entryFrame m #[(.ref w_BOOL), (.long q2)] 4)) _
  refine OGot.go (fun t k => castTop (ef1 m w_BOOL q2) k) ?_
  show OGot p.tables e below (s₁.setTop (mkF m 0 #[.val (.ref w_BOOL), .val (.long q2), .second, .unset] [])) _
  refine OGot.go (fun t k => XS.aloadN X0.here hx rfl (hb hby d1_0) rfl rfl k) ?_
  show OGot p.tables e below (s₁.setTop (mkF m 1 #[.val (.ref w_BOOL), .val (.long q2), .second, .unset] [(.ref w_BOOL)])) _
  obtain ⟨T3, X3, e3, st3⟩ := getF X0 hx hZ hown (host := "") (Or.inl (ow hw 9 rfl)) Via.refl e0 (G.2.2.2.2.2.2.2.2.2.2.2.2.2.2.2.2.2.2.1.ext O0.2) (g := (mkF m 1 #[.val (.ref w_BOOL), .val (.long q2), .second, .unset] [(.ref w_BOOL)])) rfl rfl (hb hby d1_1)
  refine OGot.go st3 ?_
  show OGot p.tables e below (T3.setTop (mkF m 4 #[.val (.ref w_BOOL), .val (.long q2), .second, .unset] [(.int (1 : Int32))])) _
  refine OGot.go (fun t k => XS.bipush X3.here hx rfl (hb hby d1_4) k) ?_
  show OGot p.tables e below (T3.setTop (mkF m 6 #[.val (.ref w_BOOL), .val (.long q2), .second, .unset] [(.int (64 : Int32)), (.int (1 : Int32))])) _
  refine OGot.go (fun t k => XS.icmpYes X3.here hx rfl (pc0 := 6) (pc' := 11) rfl (hb hby d1_6) rfl (by decide) (by decide) (by decide) k) ?_
  show OGot p.tables e below (T3.setTop (mkF m 11 #[.val (.ref w_BOOL), .val (.long q2), .second, .unset] [])) _
  refine OGot.go (fun t k => XS.bipush X3.here hx rfl (hb hby d1_11) k) ?_
  show OGot p.tables e below (T3.setTop (mkF m 13 #[.val (.ref w_BOOL), .val (.long q2), .second, .unset] [(.int (64 : Int32))])) _
  refine OGot.go (fun t k => XS.aloadN X3.here hx rfl (hb hby d1_13) rfl rfl k) ?_
  show OGot p.tables e below (T3.setTop (mkF m 14 #[.val (.ref w_BOOL), .val (.long q2), .second, .unset] [(.ref w_BOOL), (.int (64 : Int32))])) _
  obtain ⟨T4, X4, e4, st4⟩ := getF X3 hx hZ hown (host := "") (Or.inl (ow hw 9 rfl)) Via.refl e3 (G.2.2.2.2.2.2.2.2.2.2.2.2.2.2.2.2.2.2.1.ext O0.2) (g := (mkF m 14 #[.val (.ref w_BOOL), .val (.long q2), .second, .unset] [(.ref w_BOOL), (.int (64 : Int32))])) rfl rfl (hb hby d1_14)
  refine OGot.go st4 ?_
  show OGot p.tables e below (T4.setTop (mkF m 17 #[.val (.ref w_BOOL), .val (.long q2), .second, .unset] [(.int (1 : Int32)), (.int (64 : Int32))])) _
  refine OGot.go (fun t k => XS.isub X4.here hx rfl (hb hby d1_17) rfl k) ?_
  show OGot p.tables e below (T4.setTop (mkF m 18 #[.val (.ref w_BOOL), .val (.long q2), .second, .unset] [(.int ((64 : Int32) - (1 : Int32)))])) _
  rw [show ((64 : Int32) - (1 : Int32)) = (63 : Int32) from by decide]
  show OGot p.tables e below (T4.setTop (mkF m 18 #[.val (.ref w_BOOL), .val (.long q2), .second, .unset] [(.int (63 : Int32))])) _
  refine OGot.go (fun t k => XS.istoreN X4.here hx rfl (hb hby d1_18) rfl (l' := #[.val (.ref w_BOOL), .val (.long q2), .second, .val (.int (63 : Int32))]) rfl k) ?_
  show OGot p.tables e below (T4.setTop (mkF m 19 #[.val (.ref w_BOOL), .val (.long q2), .second, .val (.int (63 : Int32))] [])) _
  refine OGot.go (fun t k => XS.aloadN X4.here hx rfl (hb hby d1_19) rfl rfl k) ?_
  show OGot p.tables e below (T4.setTop (mkF m 20 #[.val (.ref w_BOOL), .val (.long q2), .second, .val (.int (63 : Int32))] [(.ref w_BOOL)])) _
  obtain ⟨T5, X5, e5, st5⟩ := getF X4 hx hZ hown (host := "") (Or.inl (ow hw 11 rfl)) Via.refl e4 (G.2.2.2.2.2.2.2.2.2.2.2.2.2.2.2.2.2.2.2.1.ext O0.2) (g := (mkF m 20 #[.val (.ref w_BOOL), .val (.long q2), .second, .val (.int (63 : Int32))] [(.ref w_BOOL)])) rfl rfl (hb hby d1_20)
  refine OGot.go st5 ?_
  show OGot p.tables e below (T5.setTop (mkF m 23 #[.val (.ref w_BOOL), .val (.long q2), .second, .val (.int (63 : Int32))] [(.int (0 : Int32))])) _
  refine OGot.go (fun t k => XS.ifYes X5.here hx rfl (pc0 := 23) (pc' := 34) rfl (hb hby d1_23) rfl (by decide) (by decide) (by decide) k) ?_
  show OGot p.tables e below (T5.setTop (mkF m 34 #[.val (.ref w_BOOL), .val (.long q2), .second, .val (.int (63 : Int32))] [])) _
  refine OGot.go (fun t k => XS.lloadN X5.here hx rfl (hb hby d1_34) rfl k) ?_
  show OGot p.tables e below (T5.setTop (mkF m 35 #[.val (.ref w_BOOL), .val (.long q2), .second, .val (.int (63 : Int32))] [(.long q2)])) _
  refine OGot.go (fun t k => XS.iloadN X5.here hx rfl (hb hby d1_35) rfl k) ?_
  show OGot p.tables e below (T5.setTop (mkF m 36 #[.val (.ref w_BOOL), .val (.long q2), .second, .val (.int (63 : Int32))] [(.int (63 : Int32)), (.long q2)])) _
  refine OGot.go (fun t k => XS.lshl X5.here hx rfl (hb hby d1_36) rfl k) ?_
  show OGot p.tables e below (T5.setTop (mkF m 37 #[.val (.ref w_BOOL), .val (.long q2), .second, .val (.int (63 : Int32))] [(.long (q2 <<< ((63 : Int32) &&& 0x3f).toInt64))])) _
  refine OGot.go (fun t k => XS.iloadN X5.here hx rfl (hb hby d1_37) rfl k) ?_
  show OGot p.tables e below (T5.setTop (mkF m 38 #[.val (.ref w_BOOL), .val (.long q2), .second, .val (.int (63 : Int32))] [(.int (63 : Int32)), (.long (q2 <<< ((63 : Int32) &&& 0x3f).toInt64))])) _
  refine OGot.go (fun t k => XS.lushr X5.here hx rfl (hb hby d1_38) rfl k) ?_
  show OGot p.tables e below (T5.setTop (mkF m 39 #[.val (.ref w_BOOL), .val (.long q2), .second, .val (.int (63 : Int32))] [(.long (((q2 <<< ((63 : Int32) &&& 0x3f).toInt64).toUInt64 >>> ((63 : Int32) &&& 0x3f).toInt64.toUInt64).toInt64))])) _
  obtain ⟨fs, hr, hrun, hended, hW, hsame⟩ := X5.leave (v := some (.long (((q2 <<< ((63 : Int32) &&& 0x3f).toInt64).toUInt64 >>> ((63 : Int32) &&& 0x3f).toInt64.toUInt64).toInt64))) (fun h => by rw [Bd.returns] at h; cases h)
  refine ⟨_, _, oretJ X5 hx Bd.returns (hb hby d1_39) hr, hrun, hended, _, _, rfl, ?_, ⟨_, rfl⟩, hW, hsame.mono (by decide) (by decide)⟩
  exact (⟨rfl, N0, e5⟩ : Q1 Z w_BOOL w_INT8 w_UINT8 w_INT64 w_UINT32 w_UINT16 w_INT16 w_UINT64 w_INT32 q2 h0 n0 _ T5.heap _)
theorem pd_0 : parseMethodDescriptor "(J)J" = some ⟨[.long], some .long⟩ := by decide +kernel
theorem own_w1 (q2 : Int64) : (((q2 <<< ((63 : Int32) &&& 0x3f).toInt64).toUInt64 >>> ((63 : Int32) &&& 0x3f).toInt64.toUInt64).toInt64) = (q2 &&& (1 : Int64)) := by
  apply Int64.toInt_inj.mp
  have a1 := c_lshl q2 63 63 (by decide)
  have p1 : ((2 ^ 63 : Nat) : Int) = 9223372036854775808 := rfl
  rw [p1] at a1
  have r1 := rng64 q2
  have r2 := rng64 (q2 <<< ((63 : Int32) &&& 0x3f).toInt64)
  have a2 := c_lushr (q2 <<< ((63 : Int32) &&& 0x3f).toInt64) 63 63 (by decide) (by decide)
  rw [p1] at a2
  have a3 := c_maskL q2 1 1 (by decide) (by decide)
  have p2 : ((2 ^ 1 : Nat) : Int) = 2 := rfl
  rw [p2] at a3
  rw [a2, a3]
  omega
theorem d1_26 : decode prog_89_method_8_code 26 = .ok (.lload_n 1, 1) := by decide +kernel
theorem d1_27 : decode prog_89_method_8_code 27 = .ok (.iload_n 3, 1) := by decide +kernel
theorem d1_28 : decode prog_89_method_8_code 28 = .ok (.lshl, 1) := by decide +kernel
theorem d1_29 : decode prog_89_method_8_code 29 = .ok (.iload_n 3, 1) := by decide +kernel
theorem d1_30 : decode prog_89_method_8_code 30 = .ok (.lshr, 1) := by decide +kernel
theorem d1_31 : decode prog_89_method_8_code 31 = .ok (.goto 8, 3) := by decide +kernel
def Q1_1 (Z : State) (w_BOOL : Addr) (w_INT8 : Addr) (w_UINT8 : Addr) (w_INT64 : Addr) (w_UINT32 : Addr) (w_UINT16 : Addr) (w_INT16 : Addr) (w_UINT64 : Addr) (w_INT32 : Addr) (q2 : Int64) (h0 : Heap) (n0 : Nat) (v : Option Value) (h : Heap) (L : List Loc) : Prop := v = some (.long ((q2 <<< ((56 : Int32) &&& 0x3f).toInt64) >>> ((56 : Int32) &&& 0x3f).toInt64)) ∧ Fr n0 L ∧ h = h0
theorem ef1_1 (m : MethodId) (x0 : Addr) (x1 : Int64) : entryFrame m #[(.ref x0), (.long x1)] 4 = mkF m 0 #[.val (.ref x0), .val (.long x1), .second, .unset] [] := by first | (simp [entryFrame, mkF, argsToLocals, Value.category]; done) | rfl
set_option maxRecDepth 65536 in
set_option maxHeartbeats 40000000 in
theorem rm1_1 (l : Launch) (Z : State) (a0 : Array Value) (hw : ∀ d ∈ tables_1, d.before a0 Z = true) (ws : List Jvm.Cond) {w_BOOL : Addr} {w_INT8 : Addr} {w_UINT8 : Addr} {w_INT64 : Addr} {w_UINT32 : Addr} {w_UINT16 : Addr} {w_INT16 : Addr} {w_UINT64 : Addr} {w_INT32 : Addr} (G : Glob Z w_BOOL w_INT8 w_UINT8 w_INT64 w_UINT32 w_UINT16 w_INT16 w_UINT64 w_INT32) (q2 : Int64) (h0 : Heap) (n0 : Nat) (O0 : Old Z n0 h0) :
    MetFree l (⟨"com/example/muster/muster/model/IntegerType", "wrap", "(J)J"⟩ : MethodName) (head1 (Jvm.Cond.code (⟨"com/example/muster/muster/model/IntegerType", "wrap", "(J)J"⟩ : MethodName) prog_89_method_8_code 4 (some .long) :: ws) ({ frames := 0, cells := 0, slots := 0, locals := 0 } : Room)) (fun a U => a = #[(.ref w_INT8), (.long q2)] ∧ Z.Warmed39 U.vm ∧ U.heap = h0) (fun _ _ _ _ _ => True) (fun _ U o U' => ∃ v L, o = .returned v ∧ Q1_1 Z w_BOOL w_INT8 w_UINT8 w_INT64 w_UINT32 w_UINT16 w_INT16 w_UINT64 w_INT32 q2 h0 n0 v U'.heap L ∧ FrameEnd U o U' L ({ frames := 0, cells := 0, slots := 0, locals := 0 } : Room).cells ({ frames := 0, cells := 0, slots := 0, locals := 0 } : Room).slots) := by
  refine MetFree.of_bodySF (plainFor_of_name pn_com_example_muster_muster_model_IntegerType) hisR ?_
  intro p e s m args below meth c s₁ Bd hml0 hP hK
  obtain ⟨rfl, hZ, hh⟩ := hP
  have hx := Bd.exec
  have hby := Bd.bytes
  have hml : c.maxLocals = 4 := hml0
  have hown : s.vm.findClass "com/example/muster/muster/model/IntegerType" = some m.cls := findClass_of_methodNamed Bd.named
  have hnm := (name_of_methodNamed Bd.named Bd.method).1
  have X0 : Stand p l e ({ frames := 0, cells := 0, slots := 0, locals := 0 } : Room) s m #[(.ref w_INT8), (.long q2)] below meth c s₁ [] 0 0 := Stand.of_body Bd
  have e0 : s₁.heap = h0 := by rw [← hh, Bd.state]; rfl
  have N0 := Fr.nil n0
  show OGot p.tables e below (s₁.setTop (entryFrame m #[(.ref w_INT8), (.long q2)] 4)) _
  refine OGot.go (fun t k => castTop (ef1_1 m w_INT8 q2) k) ?_
  show OGot p.tables e below (s₁.setTop (mkF m 0 #[.val (.ref w_INT8), .val (.long q2), .second, .unset] [])) _
  refine OGot.go (fun t k => XS.aloadN X0.here hx rfl (hb hby d1_0) rfl rfl k) ?_
  show OGot p.tables e below (s₁.setTop (mkF m 1 #[.val (.ref w_INT8), .val (.long q2), .second, .unset] [(.ref w_INT8)])) _
  obtain ⟨T3, X3, e3, st3⟩ := getF X0 hx hZ hown (host := "") (Or.inl (ow hw 9 rfl)) Via.refl e0 (G.2.2.2.2.2.2.2.2.2.2.2.2.2.2.2.2.2.2.2.2.1.ext O0.2) (g := (mkF m 1 #[.val (.ref w_INT8), .val (.long q2), .second, .unset] [(.ref w_INT8)])) rfl rfl (hb hby d1_1)
  refine OGot.go st3 ?_
  show OGot p.tables e below (T3.setTop (mkF m 4 #[.val (.ref w_INT8), .val (.long q2), .second, .unset] [(.int (8 : Int32))])) _
  refine OGot.go (fun t k => XS.bipush X3.here hx rfl (hb hby d1_4) k) ?_
  show OGot p.tables e below (T3.setTop (mkF m 6 #[.val (.ref w_INT8), .val (.long q2), .second, .unset] [(.int (64 : Int32)), (.int (8 : Int32))])) _
  refine OGot.go (fun t k => XS.icmpYes X3.here hx rfl (pc0 := 6) (pc' := 11) rfl (hb hby d1_6) rfl (by decide) (by decide) (by decide) k) ?_
  show OGot p.tables e below (T3.setTop (mkF m 11 #[.val (.ref w_INT8), .val (.long q2), .second, .unset] [])) _
  refine OGot.go (fun t k => XS.bipush X3.here hx rfl (hb hby d1_11) k) ?_
  show OGot p.tables e below (T3.setTop (mkF m 13 #[.val (.ref w_INT8), .val (.long q2), .second, .unset] [(.int (64 : Int32))])) _
  refine OGot.go (fun t k => XS.aloadN X3.here hx rfl (hb hby d1_13) rfl rfl k) ?_
  show OGot p.tables e below (T3.setTop (mkF m 14 #[.val (.ref w_INT8), .val (.long q2), .second, .unset] [(.ref w_INT8), (.int (64 : Int32))])) _
  obtain ⟨T4, X4, e4, st4⟩ := getF X3 hx hZ hown (host := "") (Or.inl (ow hw 9 rfl)) Via.refl e3 (G.2.2.2.2.2.2.2.2.2.2.2.2.2.2.2.2.2.2.2.2.1.ext O0.2) (g := (mkF m 14 #[.val (.ref w_INT8), .val (.long q2), .second, .unset] [(.ref w_INT8), (.int (64 : Int32))])) rfl rfl (hb hby d1_14)
  refine OGot.go st4 ?_
  show OGot p.tables e below (T4.setTop (mkF m 17 #[.val (.ref w_INT8), .val (.long q2), .second, .unset] [(.int (8 : Int32)), (.int (64 : Int32))])) _
  refine OGot.go (fun t k => XS.isub X4.here hx rfl (hb hby d1_17) rfl k) ?_
  show OGot p.tables e below (T4.setTop (mkF m 18 #[.val (.ref w_INT8), .val (.long q2), .second, .unset] [(.int ((64 : Int32) - (8 : Int32)))])) _
  rw [show ((64 : Int32) - (8 : Int32)) = (56 : Int32) from by decide]
  show OGot p.tables e below (T4.setTop (mkF m 18 #[.val (.ref w_INT8), .val (.long q2), .second, .unset] [(.int (56 : Int32))])) _
  refine OGot.go (fun t k => XS.istoreN X4.here hx rfl (hb hby d1_18) rfl (l' := #[.val (.ref w_INT8), .val (.long q2), .second, .val (.int (56 : Int32))]) rfl k) ?_
  show OGot p.tables e below (T4.setTop (mkF m 19 #[.val (.ref w_INT8), .val (.long q2), .second, .val (.int (56 : Int32))] [])) _
  refine OGot.go (fun t k => XS.aloadN X4.here hx rfl (hb hby d1_19) rfl rfl k) ?_
  show OGot p.tables e below (T4.setTop (mkF m 20 #[.val (.ref w_INT8), .val (.long q2), .second, .val (.int (56 : Int32))] [(.ref w_INT8)])) _
  obtain ⟨T5, X5, e5, st5⟩ := getF X4 hx hZ hown (host := "") (Or.inl (ow hw 11 rfl)) Via.refl e4 (G.2.2.2.2.2.2.2.2.2.2.2.2.2.2.2.2.2.2.2.2.2.1.ext O0.2) (g := (mkF m 20 #[.val (.ref w_INT8), .val (.long q2), .second, .val (.int (56 : Int32))] [(.ref w_INT8)])) rfl rfl (hb hby d1_20)
  refine OGot.go st5 ?_
  show OGot p.tables e below (T5.setTop (mkF m 23 #[.val (.ref w_INT8), .val (.long q2), .second, .val (.int (56 : Int32))] [(.int (1 : Int32))])) _
  refine OGot.go (fun t k => XS.ifNo X5.here hx rfl (hb hby d1_23) rfl (by decide) k) ?_
  show OGot p.tables e below (T5.setTop (mkF m 26 #[.val (.ref w_INT8), .val (.long q2), .second, .val (.int (56 : Int32))] [])) _
  refine OGot.go (fun t k => XS.lloadN X5.here hx rfl (hb hby d1_26) rfl k) ?_
  show OGot p.tables e below (T5.setTop (mkF m 27 #[.val (.ref w_INT8), .val (.long q2), .second, .val (.int (56 : Int32))] [(.long q2)])) _
  refine OGot.go (fun t k => XS.iloadN X5.here hx rfl (hb hby d1_27) rfl k) ?_
  show OGot p.tables e below (T5.setTop (mkF m 28 #[.val (.ref w_INT8), .val (.long q2), .second, .val (.int (56 : Int32))] [(.int (56 : Int32)), (.long q2)])) _
  refine OGot.go (fun t k => XS.lshl X5.here hx rfl (hb hby d1_28) rfl k) ?_
  show OGot p.tables e below (T5.setTop (mkF m 29 #[.val (.ref w_INT8), .val (.long q2), .second, .val (.int (56 : Int32))] [(.long (q2 <<< ((56 : Int32) &&& 0x3f).toInt64))])) _
  refine OGot.go (fun t k => XS.iloadN X5.here hx rfl (hb hby d1_29) rfl k) ?_
  show OGot p.tables e below (T5.setTop (mkF m 30 #[.val (.ref w_INT8), .val (.long q2), .second, .val (.int (56 : Int32))] [(.int (56 : Int32)), (.long (q2 <<< ((56 : Int32) &&& 0x3f).toInt64))])) _
  refine OGot.go (fun t k => XS.lshr X5.here hx rfl (hb hby d1_30) rfl k) ?_
  show OGot p.tables e below (T5.setTop (mkF m 31 #[.val (.ref w_INT8), .val (.long q2), .second, .val (.int (56 : Int32))] [(.long ((q2 <<< ((56 : Int32) &&& 0x3f).toInt64) >>> ((56 : Int32) &&& 0x3f).toInt64))])) _
  refine OGot.go (fun t k => XS.goto X5.here hx rfl (pc0 := 31) (pc' := 39) rfl (hb hby d1_31) (by decide) (by decide) k) ?_
  show OGot p.tables e below (T5.setTop (mkF m 39 #[.val (.ref w_INT8), .val (.long q2), .second, .val (.int (56 : Int32))] [(.long ((q2 <<< ((56 : Int32) &&& 0x3f).toInt64) >>> ((56 : Int32) &&& 0x3f).toInt64))])) _
  obtain ⟨fs, hr, hrun, hended, hW, hsame⟩ := X5.leave (v := some (.long ((q2 <<< ((56 : Int32) &&& 0x3f).toInt64) >>> ((56 : Int32) &&& 0x3f).toInt64))) (fun h => by rw [Bd.returns] at h; cases h)
  refine ⟨_, _, oretJ X5 hx Bd.returns (hb hby d1_39) hr, hrun, hended, _, _, rfl, ?_, ⟨_, rfl⟩, hW, hsame.mono (by decide) (by decide)⟩
  exact (⟨rfl, N0, e5⟩ : Q1_1 Z w_BOOL w_INT8 w_UINT8 w_INT64 w_UINT32 w_UINT16 w_INT16 w_UINT64 w_INT32 q2 h0 n0 _ T5.heap _)
theorem own_w2 (q2 : Int64) : ((q2 <<< ((56 : Int32) &&& 0x3f).toInt64) >>> ((56 : Int32) &&& 0x3f).toInt64) = (((q2.toInt32).toInt8.toInt32).toInt64) := by
  apply Int64.toInt_inj.mp
  have a1 := c_lshl q2 56 56 (by decide)
  have p1 : ((2 ^ 56 : Nat) : Int) = 72057594037927936 := rfl
  rw [p1] at a1
  have r1 := rng64 q2
  have r2 := rng64 (q2 <<< ((56 : Int32) &&& 0x3f).toInt64)
  have a2 := c_lshr (q2 <<< ((56 : Int32) &&& 0x3f).toInt64) 56 56 (by decide)
  rw [p1] at a2
  have a3 := c_l2i q2
  have r3 := rng32 q2.toInt32
  have a4 := c_i2b q2.toInt32
  rw [a2, c_i2l]
  omega
def Q1_2 (Z : State) (w_BOOL : Addr) (w_INT8 : Addr) (w_UINT8 : Addr) (w_INT64 : Addr) (w_UINT32 : Addr) (w_UINT16 : Addr) (w_INT16 : Addr) (w_UINT64 : Addr) (w_INT32 : Addr) (q2 : Int64) (h0 : Heap) (n0 : Nat) (v : Option Value) (h : Heap) (L : List Loc) : Prop := v = some (.long (((q2 <<< ((56 : Int32) &&& 0x3f).toInt64).toUInt64 >>> ((56 : Int32) &&& 0x3f).toInt64.toUInt64).toInt64)) ∧ Fr n0 L ∧ h = h0
theorem ef1_2 (m : MethodId) (x0 : Addr) (x1 : Int64) : entryFrame m #[(.ref x0), (.long x1)] 4 = mkF m 0 #[.val (.ref x0), .val (.long x1), .second, .unset] [] := by first | (simp [entryFrame, mkF, argsToLocals, Value.category]; done) | rfl
set_option maxRecDepth 65536 in
set_option maxHeartbeats 40000000 in
theorem rm1_2 (l : Launch) (Z : State) (a0 : Array Value) (hw : ∀ d ∈ tables_1, d.before a0 Z = true) (ws : List Jvm.Cond) {w_BOOL : Addr} {w_INT8 : Addr} {w_UINT8 : Addr} {w_INT64 : Addr} {w_UINT32 : Addr} {w_UINT16 : Addr} {w_INT16 : Addr} {w_UINT64 : Addr} {w_INT32 : Addr} (G : Glob Z w_BOOL w_INT8 w_UINT8 w_INT64 w_UINT32 w_UINT16 w_INT16 w_UINT64 w_INT32) (q2 : Int64) (h0 : Heap) (n0 : Nat) (O0 : Old Z n0 h0) :
    MetFree l (⟨"com/example/muster/muster/model/IntegerType", "wrap", "(J)J"⟩ : MethodName) (head1 (Jvm.Cond.code (⟨"com/example/muster/muster/model/IntegerType", "wrap", "(J)J"⟩ : MethodName) prog_89_method_8_code 4 (some .long) :: ws) ({ frames := 0, cells := 0, slots := 0, locals := 0 } : Room)) (fun a U => a = #[(.ref w_UINT8), (.long q2)] ∧ Z.Warmed39 U.vm ∧ U.heap = h0) (fun _ _ _ _ _ => True) (fun _ U o U' => ∃ v L, o = .returned v ∧ Q1_2 Z w_BOOL w_INT8 w_UINT8 w_INT64 w_UINT32 w_UINT16 w_INT16 w_UINT64 w_INT32 q2 h0 n0 v U'.heap L ∧ FrameEnd U o U' L ({ frames := 0, cells := 0, slots := 0, locals := 0 } : Room).cells ({ frames := 0, cells := 0, slots := 0, locals := 0 } : Room).slots) := by
  refine MetFree.of_bodySF (plainFor_of_name pn_com_example_muster_muster_model_IntegerType) hisR ?_
  intro p e s m args below meth c s₁ Bd hml0 hP hK
  obtain ⟨rfl, hZ, hh⟩ := hP
  have hx := Bd.exec
  have hby := Bd.bytes
  have hml : c.maxLocals = 4 := hml0
  have hown : s.vm.findClass "com/example/muster/muster/model/IntegerType" = some m.cls := findClass_of_methodNamed Bd.named
  have hnm := (name_of_methodNamed Bd.named Bd.method).1
  have X0 : Stand p l e ({ frames := 0, cells := 0, slots := 0, locals := 0 } : Room) s m #[(.ref w_UINT8), (.long q2)] below meth c s₁ [] 0 0 := Stand.of_body Bd
  have e0 : s₁.heap = h0 := by rw [← hh, Bd.state]; rfl
  have N0 := Fr.nil n0
  show OGot p.tables e below (s₁.setTop (entryFrame m #[(.ref w_UINT8), (.long q2)] 4)) _
  refine OGot.go (fun t k => castTop (ef1_2 m w_UINT8 q2) k) ?_
  show OGot p.tables e below (s₁.setTop (mkF m 0 #[.val (.ref w_UINT8), .val (.long q2), .second, .unset] [])) _
  refine OGot.go (fun t k => XS.aloadN X0.here hx rfl (hb hby d1_0) rfl rfl k) ?_
  show OGot p.tables e below (s₁.setTop (mkF m 1 #[.val (.ref w_UINT8), .val (.long q2), .second, .unset] [(.ref w_UINT8)])) _
  obtain ⟨T3, X3, e3, st3⟩ := getF X0 hx hZ hown (host := "") (Or.inl (ow hw 9 rfl)) Via.refl e0 (G.2.2.2.2.2.2.2.2.2.2.2.2.2.2.2.2.2.2.2.2.2.2.1.ext O0.2) (g := (mkF m 1 #[.val (.ref w_UINT8), .val (.long q2), .second, .unset] [(.ref w_UINT8)])) rfl rfl (hb hby d1_1)
  refine OGot.go st3 ?_
  show OGot p.tables e below (T3.setTop (mkF m 4 #[.val (.ref w_UINT8), .val (.long q2), .second, .unset] [(.int (8 : Int32))])) _
  refine OGot.go (fun t k => XS.bipush X3.here hx rfl (hb hby d1_4) k) ?_
  show OGot p.tables e below (T3.setTop (mkF m 6 #[.val (.ref w_UINT8), .val (.long q2), .second, .unset] [(.int (64 : Int32)), (.int (8 : Int32))])) _
  refine OGot.go (fun t k => XS.icmpYes X3.here hx rfl (pc0 := 6) (pc' := 11) rfl (hb hby d1_6) rfl (by decide) (by decide) (by decide) k) ?_
  show OGot p.tables e below (T3.setTop (mkF m 11 #[.val (.ref w_UINT8), .val (.long q2), .second, .unset] [])) _
  refine OGot.go (fun t k => XS.bipush X3.here hx rfl (hb hby d1_11) k) ?_
  show OGot p.tables e below (T3.setTop (mkF m 13 #[.val (.ref w_UINT8), .val (.long q2), .second, .unset] [(.int (64 : Int32))])) _
  refine OGot.go (fun t k => XS.aloadN X3.here hx rfl (hb hby d1_13) rfl rfl k) ?_
  show OGot p.tables e below (T3.setTop (mkF m 14 #[.val (.ref w_UINT8), .val (.long q2), .second, .unset] [(.ref w_UINT8), (.int (64 : Int32))])) _
  obtain ⟨T4, X4, e4, st4⟩ := getF X3 hx hZ hown (host := "") (Or.inl (ow hw 9 rfl)) Via.refl e3 (G.2.2.2.2.2.2.2.2.2.2.2.2.2.2.2.2.2.2.2.2.2.2.1.ext O0.2) (g := (mkF m 14 #[.val (.ref w_UINT8), .val (.long q2), .second, .unset] [(.ref w_UINT8), (.int (64 : Int32))])) rfl rfl (hb hby d1_14)
  refine OGot.go st4 ?_
  show OGot p.tables e below (T4.setTop (mkF m 17 #[.val (.ref w_UINT8), .val (.long q2), .second, .unset] [(.int (8 : Int32)), (.int (64 : Int32))])) _
  refine OGot.go (fun t k => XS.isub X4.here hx rfl (hb hby d1_17) rfl k) ?_
  show OGot p.tables e below (T4.setTop (mkF m 18 #[.val (.ref w_UINT8), .val (.long q2), .second, .unset] [(.int ((64 : Int32) - (8 : Int32)))])) _
  rw [show ((64 : Int32) - (8 : Int32)) = (56 : Int32) from by decide]
  show OGot p.tables e below (T4.setTop (mkF m 18 #[.val (.ref w_UINT8), .val (.long q2), .second, .unset] [(.int (56 : Int32))])) _
  refine OGot.go (fun t k => XS.istoreN X4.here hx rfl (hb hby d1_18) rfl (l' := #[.val (.ref w_UINT8), .val (.long q2), .second, .val (.int (56 : Int32))]) rfl k) ?_
  show OGot p.tables e below (T4.setTop (mkF m 19 #[.val (.ref w_UINT8), .val (.long q2), .second, .val (.int (56 : Int32))] [])) _
  refine OGot.go (fun t k => XS.aloadN X4.here hx rfl (hb hby d1_19) rfl rfl k) ?_
  show OGot p.tables e below (T4.setTop (mkF m 20 #[.val (.ref w_UINT8), .val (.long q2), .second, .val (.int (56 : Int32))] [(.ref w_UINT8)])) _
  obtain ⟨T5, X5, e5, st5⟩ := getF X4 hx hZ hown (host := "") (Or.inl (ow hw 11 rfl)) Via.refl e4 (G.2.2.2.2.2.2.2.2.2.2.2.2.2.2.2.2.2.2.2.2.2.2.2.1.ext O0.2) (g := (mkF m 20 #[.val (.ref w_UINT8), .val (.long q2), .second, .val (.int (56 : Int32))] [(.ref w_UINT8)])) rfl rfl (hb hby d1_20)
  refine OGot.go st5 ?_
  show OGot p.tables e below (T5.setTop (mkF m 23 #[.val (.ref w_UINT8), .val (.long q2), .second, .val (.int (56 : Int32))] [(.int (0 : Int32))])) _
  refine OGot.go (fun t k => XS.ifYes X5.here hx rfl (pc0 := 23) (pc' := 34) rfl (hb hby d1_23) rfl (by decide) (by decide) (by decide) k) ?_
  show OGot p.tables e below (T5.setTop (mkF m 34 #[.val (.ref w_UINT8), .val (.long q2), .second, .val (.int (56 : Int32))] [])) _
  refine OGot.go (fun t k => XS.lloadN X5.here hx rfl (hb hby d1_34) rfl k) ?_
  show OGot p.tables e below (T5.setTop (mkF m 35 #[.val (.ref w_UINT8), .val (.long q2), .second, .val (.int (56 : Int32))] [(.long q2)])) _
  refine OGot.go (fun t k => XS.iloadN X5.here hx rfl (hb hby d1_35) rfl k) ?_
  show OGot p.tables e below (T5.setTop (mkF m 36 #[.val (.ref w_UINT8), .val (.long q2), .second, .val (.int (56 : Int32))] [(.int (56 : Int32)), (.long q2)])) _
  refine OGot.go (fun t k => XS.lshl X5.here hx rfl (hb hby d1_36) rfl k) ?_
  show OGot p.tables e below (T5.setTop (mkF m 37 #[.val (.ref w_UINT8), .val (.long q2), .second, .val (.int (56 : Int32))] [(.long (q2 <<< ((56 : Int32) &&& 0x3f).toInt64))])) _
  refine OGot.go (fun t k => XS.iloadN X5.here hx rfl (hb hby d1_37) rfl k) ?_
  show OGot p.tables e below (T5.setTop (mkF m 38 #[.val (.ref w_UINT8), .val (.long q2), .second, .val (.int (56 : Int32))] [(.int (56 : Int32)), (.long (q2 <<< ((56 : Int32) &&& 0x3f).toInt64))])) _
  refine OGot.go (fun t k => XS.lushr X5.here hx rfl (hb hby d1_38) rfl k) ?_
  show OGot p.tables e below (T5.setTop (mkF m 39 #[.val (.ref w_UINT8), .val (.long q2), .second, .val (.int (56 : Int32))] [(.long (((q2 <<< ((56 : Int32) &&& 0x3f).toInt64).toUInt64 >>> ((56 : Int32) &&& 0x3f).toInt64.toUInt64).toInt64))])) _
  obtain ⟨fs, hr, hrun, hended, hW, hsame⟩ := X5.leave (v := some (.long (((q2 <<< ((56 : Int32) &&& 0x3f).toInt64).toUInt64 >>> ((56 : Int32) &&& 0x3f).toInt64.toUInt64).toInt64))) (fun h => by rw [Bd.returns] at h; cases h)
  refine ⟨_, _, oretJ X5 hx Bd.returns (hb hby d1_39) hr, hrun, hended, _, _, rfl, ?_, ⟨_, rfl⟩, hW, hsame.mono (by decide) (by decide)⟩
  exact (⟨rfl, N0, e5⟩ : Q1_2 Z w_BOOL w_INT8 w_UINT8 w_INT64 w_UINT32 w_UINT16 w_INT16 w_UINT64 w_INT32 q2 h0 n0 _ T5.heap _)
theorem own_w3 (q2 : Int64) : (((q2 <<< ((56 : Int32) &&& 0x3f).toInt64).toUInt64 >>> ((56 : Int32) &&& 0x3f).toInt64.toUInt64).toInt64) = (q2 &&& (255 : Int64)) := by
  apply Int64.toInt_inj.mp
  have a1 := c_lshl q2 56 56 (by decide)
  have p1 : ((2 ^ 56 : Nat) : Int) = 72057594037927936 := rfl
  rw [p1] at a1
  have r1 := rng64 q2
  have r2 := rng64 (q2 <<< ((56 : Int32) &&& 0x3f).toInt64)
  have a2 := c_lushr (q2 <<< ((56 : Int32) &&& 0x3f).toInt64) 56 56 (by decide) (by decide)
  rw [p1] at a2
  have a3 := c_maskL q2 255 8 (by decide) (by decide)
  have p2 : ((2 ^ 8 : Nat) : Int) = 256 := rfl
  rw [p2] at a3
  rw [a2, a3]
  omega
def Q1_3 (Z : State) (w_BOOL : Addr) (w_INT8 : Addr) (w_UINT8 : Addr) (w_INT64 : Addr) (w_UINT32 : Addr) (w_UINT16 : Addr) (w_INT16 : Addr) (w_UINT64 : Addr) (w_INT32 : Addr) (q2 : Int64) (h0 : Heap) (n0 : Nat) (v : Option Value) (h : Heap) (L : List Loc) : Prop := v = some (.long ((q2 <<< ((48 : Int32) &&& 0x3f).toInt64) >>> ((48 : Int32) &&& 0x3f).toInt64)) ∧ Fr n0 L ∧ h = h0
theorem ef1_3 (m : MethodId) (x0 : Addr) (x1 : Int64) : entryFrame m #[(.ref x0), (.long x1)] 4 = mkF m 0 #[.val (.ref x0), .val (.long x1), .second, .unset] [] := by first | (simp [entryFrame, mkF, argsToLocals, Value.category]; done) | rfl
set_option maxRecDepth 65536 in
set_option maxHeartbeats 40000000 in
theorem rm1_3 (l : Launch) (Z : State) (a0 : Array Value) (hw : ∀ d ∈ tables_1, d.before a0 Z = true) (ws : List Jvm.Cond) {w_BOOL : Addr} {w_INT8 : Addr} {w_UINT8 : Addr} {w_INT64 : Addr} {w_UINT32 : Addr} {w_UINT16 : Addr} {w_INT16 : Addr} {w_UINT64 : Addr} {w_INT32 : Addr} (G : Glob Z w_BOOL w_INT8 w_UINT8 w_INT64 w_UINT32 w_UINT16 w_INT16 w_UINT64 w_INT32) (q2 : Int64) (h0 : Heap) (n0 : Nat) (O0 : Old Z n0 h0) :
    MetFree l (⟨"com/example/muster/muster/model/IntegerType", "wrap", "(J)J"⟩ : MethodName) (head1 (Jvm.Cond.code (⟨"com/example/muster/muster/model/IntegerType", "wrap", "(J)J"⟩ : MethodName) prog_89_method_8_code 4 (some .long) :: ws) ({ frames := 0, cells := 0, slots := 0, locals := 0 } : Room)) (fun a U => a = #[(.ref w_INT16), (.long q2)] ∧ Z.Warmed39 U.vm ∧ U.heap = h0) (fun _ _ _ _ _ => True) (fun _ U o U' => ∃ v L, o = .returned v ∧ Q1_3 Z w_BOOL w_INT8 w_UINT8 w_INT64 w_UINT32 w_UINT16 w_INT16 w_UINT64 w_INT32 q2 h0 n0 v U'.heap L ∧ FrameEnd U o U' L ({ frames := 0, cells := 0, slots := 0, locals := 0 } : Room).cells ({ frames := 0, cells := 0, slots := 0, locals := 0 } : Room).slots) := by
  refine MetFree.of_bodySF (plainFor_of_name pn_com_example_muster_muster_model_IntegerType) hisR ?_
  intro p e s m args below meth c s₁ Bd hml0 hP hK
  obtain ⟨rfl, hZ, hh⟩ := hP
  have hx := Bd.exec
  have hby := Bd.bytes
  have hml : c.maxLocals = 4 := hml0
  have hown : s.vm.findClass "com/example/muster/muster/model/IntegerType" = some m.cls := findClass_of_methodNamed Bd.named
  have hnm := (name_of_methodNamed Bd.named Bd.method).1
  have X0 : Stand p l e ({ frames := 0, cells := 0, slots := 0, locals := 0 } : Room) s m #[(.ref w_INT16), (.long q2)] below meth c s₁ [] 0 0 := Stand.of_body Bd
  have e0 : s₁.heap = h0 := by rw [← hh, Bd.state]; rfl
  have N0 := Fr.nil n0
  show OGot p.tables e below (s₁.setTop (entryFrame m #[(.ref w_INT16), (.long q2)] 4)) _
  refine OGot.go (fun t k => castTop (ef1_3 m w_INT16 q2) k) ?_
  show OGot p.tables e below (s₁.setTop (mkF m 0 #[.val (.ref w_INT16), .val (.long q2), .second, .unset] [])) _
  refine OGot.go (fun t k => XS.aloadN X0.here hx rfl (hb hby d1_0) rfl rfl k) ?_
  show OGot p.tables e below (s₁.setTop (mkF m 1 #[.val (.ref w_INT16), .val (.long q2), .second, .unset] [(.ref w_INT16)])) _
  obtain ⟨T3, X3, e3, st3⟩ := getF X0 hx hZ hown (host := "") (Or.inl (ow hw 9 rfl)) Via.refl e0 (G.2.2.2.2.2.2.2.2.2.2.2.2.2.2.2.2.2.2.2.2.2.2.2.2.2.2.2.2.2.1.ext O0.2) (g := (mkF m 1 #[.val (.ref w_INT16), .val (.long q2), .second, .unset] [(.ref w_INT16)])) rfl rfl (hb hby d1_1)
  refine OGot.go st3 ?_
  show OGot p.tables e below (T3.setTop (mkF m 4 #[.val (.ref w_INT16), .val (.long q2), .second, .unset] [(.int (16 : Int32))])) _
  refine OGot.go (fun t k => XS.bipush X3.here hx rfl (hb hby d1_4) k) ?_
  show OGot p.tables e below (T3.setTop (mkF m 6 #[.val (.ref w_INT16), .val (.long q2), .second, .unset] [(.int (64 : Int32)), (.int (16 : Int32))])) _
  refine OGot.go (fun t k => XS.icmpYes X3.here hx rfl (pc0 := 6) (pc' := 11) rfl (hb hby d1_6) rfl (by decide) (by decide) (by decide) k) ?_
  show OGot p.tables e below (T3.setTop (mkF m 11 #[.val (.ref w_INT16), .val (.long q2), .second, .unset] [])) _
  refine OGot.go (fun t k => XS.bipush X3.here hx rfl (hb hby d1_11) k) ?_
  show OGot p.tables e below (T3.setTop (mkF m 13 #[.val (.ref w_INT16), .val (.long q2), .second, .unset] [(.int (64 : Int32))])) _
  refine OGot.go (fun t k => XS.aloadN X3.here hx rfl (hb hby d1_13) rfl rfl k) ?_
  show OGot p.tables e below (T3.setTop (mkF m 14 #[.val (.ref w_INT16), .val (.long q2), .second, .unset] [(.ref w_INT16), (.int (64 : Int32))])) _
  obtain ⟨T4, X4, e4, st4⟩ := getF X3 hx hZ hown (host := "") (Or.inl (ow hw 9 rfl)) Via.refl e3 (G.2.2.2.2.2.2.2.2.2.2.2.2.2.2.2.2.2.2.2.2.2.2.2.2.2.2.2.2.2.1.ext O0.2) (g := (mkF m 14 #[.val (.ref w_INT16), .val (.long q2), .second, .unset] [(.ref w_INT16), (.int (64 : Int32))])) rfl rfl (hb hby d1_14)
  refine OGot.go st4 ?_
  show OGot p.tables e below (T4.setTop (mkF m 17 #[.val (.ref w_INT16), .val (.long q2), .second, .unset] [(.int (16 : Int32)), (.int (64 : Int32))])) _
  refine OGot.go (fun t k => XS.isub X4.here hx rfl (hb hby d1_17) rfl k) ?_
  show OGot p.tables e below (T4.setTop (mkF m 18 #[.val (.ref w_INT16), .val (.long q2), .second, .unset] [(.int ((64 : Int32) - (16 : Int32)))])) _
  rw [show ((64 : Int32) - (16 : Int32)) = (48 : Int32) from by decide]
  show OGot p.tables e below (T4.setTop (mkF m 18 #[.val (.ref w_INT16), .val (.long q2), .second, .unset] [(.int (48 : Int32))])) _
  refine OGot.go (fun t k => XS.istoreN X4.here hx rfl (hb hby d1_18) rfl (l' := #[.val (.ref w_INT16), .val (.long q2), .second, .val (.int (48 : Int32))]) rfl k) ?_
  show OGot p.tables e below (T4.setTop (mkF m 19 #[.val (.ref w_INT16), .val (.long q2), .second, .val (.int (48 : Int32))] [])) _
  refine OGot.go (fun t k => XS.aloadN X4.here hx rfl (hb hby d1_19) rfl rfl k) ?_
  show OGot p.tables e below (T4.setTop (mkF m 20 #[.val (.ref w_INT16), .val (.long q2), .second, .val (.int (48 : Int32))] [(.ref w_INT16)])) _
  obtain ⟨T5, X5, e5, st5⟩ := getF X4 hx hZ hown (host := "") (Or.inl (ow hw 11 rfl)) Via.refl e4 (G.2.2.2.2.2.2.2.2.2.2.2.2.2.2.2.2.2.2.2.2.2.2.2.2.2.2.2.2.2.2.1.ext O0.2) (g := (mkF m 20 #[.val (.ref w_INT16), .val (.long q2), .second, .val (.int (48 : Int32))] [(.ref w_INT16)])) rfl rfl (hb hby d1_20)
  refine OGot.go st5 ?_
  show OGot p.tables e below (T5.setTop (mkF m 23 #[.val (.ref w_INT16), .val (.long q2), .second, .val (.int (48 : Int32))] [(.int (1 : Int32))])) _
  refine OGot.go (fun t k => XS.ifNo X5.here hx rfl (hb hby d1_23) rfl (by decide) k) ?_
  show OGot p.tables e below (T5.setTop (mkF m 26 #[.val (.ref w_INT16), .val (.long q2), .second, .val (.int (48 : Int32))] [])) _
  refine OGot.go (fun t k => XS.lloadN X5.here hx rfl (hb hby d1_26) rfl k) ?_
  show OGot p.tables e below (T5.setTop (mkF m 27 #[.val (.ref w_INT16), .val (.long q2), .second, .val (.int (48 : Int32))] [(.long q2)])) _
  refine OGot.go (fun t k => XS.iloadN X5.here hx rfl (hb hby d1_27) rfl k) ?_
  show OGot p.tables e below (T5.setTop (mkF m 28 #[.val (.ref w_INT16), .val (.long q2), .second, .val (.int (48 : Int32))] [(.int (48 : Int32)), (.long q2)])) _
  refine OGot.go (fun t k => XS.lshl X5.here hx rfl (hb hby d1_28) rfl k) ?_
  show OGot p.tables e below (T5.setTop (mkF m 29 #[.val (.ref w_INT16), .val (.long q2), .second, .val (.int (48 : Int32))] [(.long (q2 <<< ((48 : Int32) &&& 0x3f).toInt64))])) _
  refine OGot.go (fun t k => XS.iloadN X5.here hx rfl (hb hby d1_29) rfl k) ?_
  show OGot p.tables e below (T5.setTop (mkF m 30 #[.val (.ref w_INT16), .val (.long q2), .second, .val (.int (48 : Int32))] [(.int (48 : Int32)), (.long (q2 <<< ((48 : Int32) &&& 0x3f).toInt64))])) _
  refine OGot.go (fun t k => XS.lshr X5.here hx rfl (hb hby d1_30) rfl k) ?_
  show OGot p.tables e below (T5.setTop (mkF m 31 #[.val (.ref w_INT16), .val (.long q2), .second, .val (.int (48 : Int32))] [(.long ((q2 <<< ((48 : Int32) &&& 0x3f).toInt64) >>> ((48 : Int32) &&& 0x3f).toInt64))])) _
  refine OGot.go (fun t k => XS.goto X5.here hx rfl (pc0 := 31) (pc' := 39) rfl (hb hby d1_31) (by decide) (by decide) k) ?_
  show OGot p.tables e below (T5.setTop (mkF m 39 #[.val (.ref w_INT16), .val (.long q2), .second, .val (.int (48 : Int32))] [(.long ((q2 <<< ((48 : Int32) &&& 0x3f).toInt64) >>> ((48 : Int32) &&& 0x3f).toInt64))])) _
  obtain ⟨fs, hr, hrun, hended, hW, hsame⟩ := X5.leave (v := some (.long ((q2 <<< ((48 : Int32) &&& 0x3f).toInt64) >>> ((48 : Int32) &&& 0x3f).toInt64))) (fun h => by rw [Bd.returns] at h; cases h)
  refine ⟨_, _, oretJ X5 hx Bd.returns (hb hby d1_39) hr, hrun, hended, _, _, rfl, ?_, ⟨_, rfl⟩, hW, hsame.mono (by decide) (by decide)⟩
  exact (⟨rfl, N0, e5⟩ : Q1_3 Z w_BOOL w_INT8 w_UINT8 w_INT64 w_UINT32 w_UINT16 w_INT16 w_UINT64 w_INT32 q2 h0 n0 _ T5.heap _)
theorem own_w4 (q2 : Int64) : ((q2 <<< ((48 : Int32) &&& 0x3f).toInt64) >>> ((48 : Int32) &&& 0x3f).toInt64) = (((q2.toInt32).toInt16.toInt32).toInt64) := by
  apply Int64.toInt_inj.mp
  have a1 := c_lshl q2 48 48 (by decide)
  have p1 : ((2 ^ 48 : Nat) : Int) = 281474976710656 := rfl
  rw [p1] at a1
  have r1 := rng64 q2
  have r2 := rng64 (q2 <<< ((48 : Int32) &&& 0x3f).toInt64)
  have a2 := c_lshr (q2 <<< ((48 : Int32) &&& 0x3f).toInt64) 48 48 (by decide)
  rw [p1] at a2
  have a3 := c_l2i q2
  have r3 := rng32 q2.toInt32
  have a4 := c_i2s q2.toInt32
  rw [a2, c_i2l]
  omega
def Q1_4 (Z : State) (w_BOOL : Addr) (w_INT8 : Addr) (w_UINT8 : Addr) (w_INT64 : Addr) (w_UINT32 : Addr) (w_UINT16 : Addr) (w_INT16 : Addr) (w_UINT64 : Addr) (w_INT32 : Addr) (q2 : Int64) (h0 : Heap) (n0 : Nat) (v : Option Value) (h : Heap) (L : List Loc) : Prop := v = some (.long (((q2 <<< ((48 : Int32) &&& 0x3f).toInt64).toUInt64 >>> ((48 : Int32) &&& 0x3f).toInt64.toUInt64).toInt64)) ∧ Fr n0 L ∧ h = h0
theorem ef1_4 (m : MethodId) (x0 : Addr) (x1 : Int64) : entryFrame m #[(.ref x0), (.long x1)] 4 = mkF m 0 #[.val (.ref x0), .val (.long x1), .second, .unset] [] := by first | (simp [entryFrame, mkF, argsToLocals, Value.category]; done) | rfl
set_option maxRecDepth 65536 in
set_option maxHeartbeats 40000000 in
theorem rm1_4 (l : Launch) (Z : State) (a0 : Array Value) (hw : ∀ d ∈ tables_1, d.before a0 Z = true) (ws : List Jvm.Cond) {w_BOOL : Addr} {w_INT8 : Addr} {w_UINT8 : Addr} {w_INT64 : Addr} {w_UINT32 : Addr} {w_UINT16 : Addr} {w_INT16 : Addr} {w_UINT64 : Addr} {w_INT32 : Addr} (G : Glob Z w_BOOL w_INT8 w_UINT8 w_INT64 w_UINT32 w_UINT16 w_INT16 w_UINT64 w_INT32) (q2 : Int64) (h0 : Heap) (n0 : Nat) (O0 : Old Z n0 h0) :
    MetFree l (⟨"com/example/muster/muster/model/IntegerType", "wrap", "(J)J"⟩ : MethodName) (head1 (Jvm.Cond.code (⟨"com/example/muster/muster/model/IntegerType", "wrap", "(J)J"⟩ : MethodName) prog_89_method_8_code 4 (some .long) :: ws) ({ frames := 0, cells := 0, slots := 0, locals := 0 } : Room)) (fun a U => a = #[(.ref w_UINT16), (.long q2)] ∧ Z.Warmed39 U.vm ∧ U.heap = h0) (fun _ _ _ _ _ => True) (fun _ U o U' => ∃ v L, o = .returned v ∧ Q1_4 Z w_BOOL w_INT8 w_UINT8 w_INT64 w_UINT32 w_UINT16 w_INT16 w_UINT64 w_INT32 q2 h0 n0 v U'.heap L ∧ FrameEnd U o U' L ({ frames := 0, cells := 0, slots := 0, locals := 0 } : Room).cells ({ frames := 0, cells := 0, slots := 0, locals := 0 } : Room).slots) := by
  refine MetFree.of_bodySF (plainFor_of_name pn_com_example_muster_muster_model_IntegerType) hisR ?_
  intro p e s m args below meth c s₁ Bd hml0 hP hK
  obtain ⟨rfl, hZ, hh⟩ := hP
  have hx := Bd.exec
  have hby := Bd.bytes
  have hml : c.maxLocals = 4 := hml0
  have hown : s.vm.findClass "com/example/muster/muster/model/IntegerType" = some m.cls := findClass_of_methodNamed Bd.named
  have hnm := (name_of_methodNamed Bd.named Bd.method).1
  have X0 : Stand p l e ({ frames := 0, cells := 0, slots := 0, locals := 0 } : Room) s m #[(.ref w_UINT16), (.long q2)] below meth c s₁ [] 0 0 := Stand.of_body Bd
  have e0 : s₁.heap = h0 := by rw [← hh, Bd.state]; rfl
  have N0 := Fr.nil n0
  show OGot p.tables e below (s₁.setTop (entryFrame m #[(.ref w_UINT16), (.long q2)] 4)) _
  refine OGot.go (fun t k => castTop (ef1_4 m w_UINT16 q2) k) ?_
  show OGot p.tables e below (s₁.setTop (mkF m 0 #[.val (.ref w_UINT16), .val (.long q2), .second, .unset] [])) _
  refine OGot.go (fun t k => XS.aloadN X0.here hx rfl (hb hby d1_0) rfl rfl k) ?_
  show OGot p.tables e below (s₁.setTop (mkF m 1 #[.val (.ref w_UINT16), .val (.long q2), .second, .unset] [(.ref w_UINT16)])) _
  obtain ⟨T3, X3, e3, st3⟩ := getF X0 hx hZ hown (host := "") (Or.inl (ow hw 9 rfl)) Via.refl e0 (G.2.2.2.2.2.2.2.2.2.2.2.2.2.2.2.2.2.2.2.2.2.2.2.2.2.2.2.1.ext O0.2) (g := (mkF m 1 #[.val (.ref w_UINT16), .val (.long q2), .second, .unset] [(.ref w_UINT16)])) rfl rfl (hb hby d1_1)
  refine OGot.go st3 ?_
  show OGot p.tables e below (T3.setTop (mkF m 4 #[.val (.ref w_UINT16), .val (.long q2), .second, .unset] [(.int (16 : Int32))])) _
  refine OGot.go (fun t k => XS.bipush X3.here hx rfl (hb hby d1_4) k) ?_
  show OGot p.tables e below (T3.setTop (mkF m 6 #[.val (.ref w_UINT16), .val (.long q2), .second, .unset] [(.int (64 : Int32)), (.int (16 : Int32))])) _
  refine OGot.go (fun t k => XS.icmpYes X3.here hx rfl (pc0 := 6) (pc' := 11) rfl (hb hby d1_6) rfl (by decide) (by decide) (by decide) k) ?_
  show OGot p.tables e below (T3.setTop (mkF m 11 #[.val (.ref w_UINT16), .val (.long q2), .second, .unset] [])) _
  refine OGot.go (fun t k => XS.bipush X3.here hx rfl (hb hby d1_11) k) ?_
  show OGot p.tables e below (T3.setTop (mkF m 13 #[.val (.ref w_UINT16), .val (.long q2), .second, .unset] [(.int (64 : Int32))])) _
  refine OGot.go (fun t k => XS.aloadN X3.here hx rfl (hb hby d1_13) rfl rfl k) ?_
  show OGot p.tables e below (T3.setTop (mkF m 14 #[.val (.ref w_UINT16), .val (.long q2), .second, .unset] [(.ref w_UINT16), (.int (64 : Int32))])) _
  obtain ⟨T4, X4, e4, st4⟩ := getF X3 hx hZ hown (host := "") (Or.inl (ow hw 9 rfl)) Via.refl e3 (G.2.2.2.2.2.2.2.2.2.2.2.2.2.2.2.2.2.2.2.2.2.2.2.2.2.2.2.1.ext O0.2) (g := (mkF m 14 #[.val (.ref w_UINT16), .val (.long q2), .second, .unset] [(.ref w_UINT16), (.int (64 : Int32))])) rfl rfl (hb hby d1_14)
  refine OGot.go st4 ?_
  show OGot p.tables e below (T4.setTop (mkF m 17 #[.val (.ref w_UINT16), .val (.long q2), .second, .unset] [(.int (16 : Int32)), (.int (64 : Int32))])) _
  refine OGot.go (fun t k => XS.isub X4.here hx rfl (hb hby d1_17) rfl k) ?_
  show OGot p.tables e below (T4.setTop (mkF m 18 #[.val (.ref w_UINT16), .val (.long q2), .second, .unset] [(.int ((64 : Int32) - (16 : Int32)))])) _
  rw [show ((64 : Int32) - (16 : Int32)) = (48 : Int32) from by decide]
  show OGot p.tables e below (T4.setTop (mkF m 18 #[.val (.ref w_UINT16), .val (.long q2), .second, .unset] [(.int (48 : Int32))])) _
  refine OGot.go (fun t k => XS.istoreN X4.here hx rfl (hb hby d1_18) rfl (l' := #[.val (.ref w_UINT16), .val (.long q2), .second, .val (.int (48 : Int32))]) rfl k) ?_
  show OGot p.tables e below (T4.setTop (mkF m 19 #[.val (.ref w_UINT16), .val (.long q2), .second, .val (.int (48 : Int32))] [])) _
  refine OGot.go (fun t k => XS.aloadN X4.here hx rfl (hb hby d1_19) rfl rfl k) ?_
  show OGot p.tables e below (T4.setTop (mkF m 20 #[.val (.ref w_UINT16), .val (.long q2), .second, .val (.int (48 : Int32))] [(.ref w_UINT16)])) _
  obtain ⟨T5, X5, e5, st5⟩ := getF X4 hx hZ hown (host := "") (Or.inl (ow hw 11 rfl)) Via.refl e4 (G.2.2.2.2.2.2.2.2.2.2.2.2.2.2.2.2.2.2.2.2.2.2.2.2.2.2.2.2.1.ext O0.2) (g := (mkF m 20 #[.val (.ref w_UINT16), .val (.long q2), .second, .val (.int (48 : Int32))] [(.ref w_UINT16)])) rfl rfl (hb hby d1_20)
  refine OGot.go st5 ?_
  show OGot p.tables e below (T5.setTop (mkF m 23 #[.val (.ref w_UINT16), .val (.long q2), .second, .val (.int (48 : Int32))] [(.int (0 : Int32))])) _
  refine OGot.go (fun t k => XS.ifYes X5.here hx rfl (pc0 := 23) (pc' := 34) rfl (hb hby d1_23) rfl (by decide) (by decide) (by decide) k) ?_
  show OGot p.tables e below (T5.setTop (mkF m 34 #[.val (.ref w_UINT16), .val (.long q2), .second, .val (.int (48 : Int32))] [])) _
  refine OGot.go (fun t k => XS.lloadN X5.here hx rfl (hb hby d1_34) rfl k) ?_
  show OGot p.tables e below (T5.setTop (mkF m 35 #[.val (.ref w_UINT16), .val (.long q2), .second, .val (.int (48 : Int32))] [(.long q2)])) _
  refine OGot.go (fun t k => XS.iloadN X5.here hx rfl (hb hby d1_35) rfl k) ?_
  show OGot p.tables e below (T5.setTop (mkF m 36 #[.val (.ref w_UINT16), .val (.long q2), .second, .val (.int (48 : Int32))] [(.int (48 : Int32)), (.long q2)])) _
  refine OGot.go (fun t k => XS.lshl X5.here hx rfl (hb hby d1_36) rfl k) ?_
  show OGot p.tables e below (T5.setTop (mkF m 37 #[.val (.ref w_UINT16), .val (.long q2), .second, .val (.int (48 : Int32))] [(.long (q2 <<< ((48 : Int32) &&& 0x3f).toInt64))])) _
  refine OGot.go (fun t k => XS.iloadN X5.here hx rfl (hb hby d1_37) rfl k) ?_
  show OGot p.tables e below (T5.setTop (mkF m 38 #[.val (.ref w_UINT16), .val (.long q2), .second, .val (.int (48 : Int32))] [(.int (48 : Int32)), (.long (q2 <<< ((48 : Int32) &&& 0x3f).toInt64))])) _
  refine OGot.go (fun t k => XS.lushr X5.here hx rfl (hb hby d1_38) rfl k) ?_
  show OGot p.tables e below (T5.setTop (mkF m 39 #[.val (.ref w_UINT16), .val (.long q2), .second, .val (.int (48 : Int32))] [(.long (((q2 <<< ((48 : Int32) &&& 0x3f).toInt64).toUInt64 >>> ((48 : Int32) &&& 0x3f).toInt64.toUInt64).toInt64))])) _
  obtain ⟨fs, hr, hrun, hended, hW, hsame⟩ := X5.leave (v := some (.long (((q2 <<< ((48 : Int32) &&& 0x3f).toInt64).toUInt64 >>> ((48 : Int32) &&& 0x3f).toInt64.toUInt64).toInt64))) (fun h => by rw [Bd.returns] at h; cases h)
  refine ⟨_, _, oretJ X5 hx Bd.returns (hb hby d1_39) hr, hrun, hended, _, _, rfl, ?_, ⟨_, rfl⟩, hW, hsame.mono (by decide) (by decide)⟩
  exact (⟨rfl, N0, e5⟩ : Q1_4 Z w_BOOL w_INT8 w_UINT8 w_INT64 w_UINT32 w_UINT16 w_INT16 w_UINT64 w_INT32 q2 h0 n0 _ T5.heap _)
theorem own_w5 (q2 : Int64) : (((q2 <<< ((48 : Int32) &&& 0x3f).toInt64).toUInt64 >>> ((48 : Int32) &&& 0x3f).toInt64.toUInt64).toInt64) = (q2 &&& (65535 : Int64)) := by
  apply Int64.toInt_inj.mp
  have a1 := c_lshl q2 48 48 (by decide)
  have p1 : ((2 ^ 48 : Nat) : Int) = 281474976710656 := rfl
  rw [p1] at a1
  have r1 := rng64 q2
  have r2 := rng64 (q2 <<< ((48 : Int32) &&& 0x3f).toInt64)
  have a2 := c_lushr (q2 <<< ((48 : Int32) &&& 0x3f).toInt64) 48 48 (by decide) (by decide)
  rw [p1] at a2
  have a3 := c_maskL q2 65535 16 (by decide) (by decide)
  have p2 : ((2 ^ 16 : Nat) : Int) = 65536 := rfl
  rw [p2] at a3
  rw [a2, a3]
  omega
def Q1_5 (Z : State) (w_BOOL : Addr) (w_INT8 : Addr) (w_UINT8 : Addr) (w_INT64 : Addr) (w_UINT32 : Addr) (w_UINT16 : Addr) (w_INT16 : Addr) (w_UINT64 : Addr) (w_INT32 : Addr) (q2 : Int64) (h0 : Heap) (n0 : Nat) (v : Option Value) (h : Heap) (L : List Loc) : Prop := v = some (.long ((q2 <<< ((32 : Int32) &&& 0x3f).toInt64) >>> ((32 : Int32) &&& 0x3f).toInt64)) ∧ Fr n0 L ∧ h = h0
theorem ef1_5 (m : MethodId) (x0 : Addr) (x1 : Int64) : entryFrame m #[(.ref x0), (.long x1)] 4 = mkF m 0 #[.val (.ref x0), .val (.long x1), .second, .unset] [] := by first | (simp [entryFrame, mkF, argsToLocals, Value.category]; done) | rfl
set_option maxRecDepth 65536 in
set_option maxHeartbeats 40000000 in
theorem rm1_5 (l : Launch) (Z : State) (a0 : Array Value) (hw : ∀ d ∈ tables_1, d.before a0 Z = true) (ws : List Jvm.Cond) {w_BOOL : Addr} {w_INT8 : Addr} {w_UINT8 : Addr} {w_INT64 : Addr} {w_UINT32 : Addr} {w_UINT16 : Addr} {w_INT16 : Addr} {w_UINT64 : Addr} {w_INT32 : Addr} (G : Glob Z w_BOOL w_INT8 w_UINT8 w_INT64 w_UINT32 w_UINT16 w_INT16 w_UINT64 w_INT32) (q2 : Int64) (h0 : Heap) (n0 : Nat) (O0 : Old Z n0 h0) :
    MetFree l (⟨"com/example/muster/muster/model/IntegerType", "wrap", "(J)J"⟩ : MethodName) (head1 (Jvm.Cond.code (⟨"com/example/muster/muster/model/IntegerType", "wrap", "(J)J"⟩ : MethodName) prog_89_method_8_code 4 (some .long) :: ws) ({ frames := 0, cells := 0, slots := 0, locals := 0 } : Room)) (fun a U => a = #[(.ref w_INT32), (.long q2)] ∧ Z.Warmed39 U.vm ∧ U.heap = h0) (fun _ _ _ _ _ => True) (fun _ U o U' => ∃ v L, o = .returned v ∧ Q1_5 Z w_BOOL w_INT8 w_UINT8 w_INT64 w_UINT32 w_UINT16 w_INT16 w_UINT64 w_INT32 q2 h0 n0 v U'.heap L ∧ FrameEnd U o U' L ({ frames := 0, cells := 0, slots := 0, locals := 0 } : Room).cells ({ frames := 0, cells := 0, slots := 0, locals := 0 } : Room).slots) := by
  refine MetFree.of_bodySF (plainFor_of_name pn_com_example_muster_muster_model_IntegerType) hisR ?_
  intro p e s m args below meth c s₁ Bd hml0 hP hK
  obtain ⟨rfl, hZ, hh⟩ := hP
  have hx := Bd.exec
  have hby := Bd.bytes
  have hml : c.maxLocals = 4 := hml0
  have hown : s.vm.findClass "com/example/muster/muster/model/IntegerType" = some m.cls := findClass_of_methodNamed Bd.named
  have hnm := (name_of_methodNamed Bd.named Bd.method).1
  have X0 : Stand p l e ({ frames := 0, cells := 0, slots := 0, locals := 0 } : Room) s m #[(.ref w_INT32), (.long q2)] below meth c s₁ [] 0 0 := Stand.of_body Bd
  have e0 : s₁.heap = h0 := by rw [← hh, Bd.state]; rfl
  have N0 := Fr.nil n0
  show OGot p.tables e below (s₁.setTop (entryFrame m #[(.ref w_INT32), (.long q2)] 4)) _
  refine OGot.go (fun t k => castTop (ef1_5 m w_INT32 q2) k) ?_
  show OGot p.tables e below (s₁.setTop (mkF m 0 #[.val (.ref w_INT32), .val (.long q2), .second, .unset] [])) _
  refine OGot.go (fun t k => XS.aloadN X0.here hx rfl (hb hby d1_0) rfl rfl k) ?_
  show OGot p.tables e below (s₁.setTop (mkF m 1 #[.val (.ref w_INT32), .val (.long q2), .second, .unset] [(.ref w_INT32)])) _
  obtain ⟨T3, X3, e3, st3⟩ := getF X0 hx hZ hown (host := "") (Or.inl (ow hw 9 rfl)) Via.refl e0 (G.2.2.2.2.2.2.2.2.2.2.2.2.2.2.2.2.2.2.2.2.2.2.2.2.2.2.2.2.2.2.2.2.1.ext O0.2) (g := (mkF m 1 #[.val (.ref w_INT32), .val (.long q2), .second, .unset] [(.ref w_INT32)])) rfl rfl (hb hby d1_1)
  refine OGot.go st3 ?_
  show OGot p.tables e below (T3.setTop (mkF m 4 #[.val (.ref w_INT32), .val (.long q2), .second, .unset] [(.int (32 : Int32))])) _
  refine OGot.go (fun t k => XS.bipush X3.here hx rfl (hb hby d1_4) k) ?_
  show OGot p.tables e below (T3.setTop (mkF m 6 #[.val (.ref w_INT32), .val (.long q2), .second, .unset] [(.int (64 : Int32)), (.int (32 : Int32))])) _
  refine OGot.go (fun t k => XS.icmpYes X3.here hx rfl (pc0 := 6) (pc' := 11) rfl (hb hby d1_6) rfl (by decide) (by decide) (by decide) k) ?_
  show OGot p.tables e below (T3.setTop (mkF m 11 #[.val (.ref w_INT32), .val (.long q2), .second, .unset] [])) _
  refine OGot.go (fun t k => XS.bipush X3.here hx rfl (hb hby d1_11) k) ?_
  show OGot p.tables e below (T3.setTop (mkF m 13 #[.val (.ref w_INT32), .val (.long q2), .second, .unset] [(.int (64 : Int32))])) _
  refine OGot.go (fun t k => XS.aloadN X3.here hx rfl (hb hby d1_13) rfl rfl k) ?_
  show OGot p.tables e below (T3.setTop (mkF m 14 #[.val (.ref w_INT32), .val (.long q2), .second, .unset] [(.ref w_INT32), (.int (64 : Int32))])) _
  obtain ⟨T4, X4, e4, st4⟩ := getF X3 hx hZ hown (host := "") (Or.inl (ow hw 9 rfl)) Via.refl e3 (G.2.2.2.2.2.2.2.2.2.2.2.2.2.2.2.2.2.2.2.2.2.2.2.2.2.2.2.2.2.2.2.2.1.ext O0.2) (g := (mkF m 14 #[.val (.ref w_INT32), .val (.long q2), .second, .unset] [(.ref w_INT32), (.int (64 : Int32))])) rfl rfl (hb hby d1_14)
  refine OGot.go st4 ?_
  show OGot p.tables e below (T4.setTop (mkF m 17 #[.val (.ref w_INT32), .val (.long q2), .second, .unset] [(.int (32 : Int32)), (.int (64 : Int32))])) _
  refine OGot.go (fun t k => XS.isub X4.here hx rfl (hb hby d1_17) rfl k) ?_
  show OGot p.tables e below (T4.setTop (mkF m 18 #[.val (.ref w_INT32), .val (.long q2), .second, .unset] [(.int ((64 : Int32) - (32 : Int32)))])) _
  rw [show ((64 : Int32) - (32 : Int32)) = (32 : Int32) from by decide]
  show OGot p.tables e below (T4.setTop (mkF m 18 #[.val (.ref w_INT32), .val (.long q2), .second, .unset] [(.int (32 : Int32))])) _
  refine OGot.go (fun t k => XS.istoreN X4.here hx rfl (hb hby d1_18) rfl (l' := #[.val (.ref w_INT32), .val (.long q2), .second, .val (.int (32 : Int32))]) rfl k) ?_
  show OGot p.tables e below (T4.setTop (mkF m 19 #[.val (.ref w_INT32), .val (.long q2), .second, .val (.int (32 : Int32))] [])) _
  refine OGot.go (fun t k => XS.aloadN X4.here hx rfl (hb hby d1_19) rfl rfl k) ?_
  show OGot p.tables e below (T4.setTop (mkF m 20 #[.val (.ref w_INT32), .val (.long q2), .second, .val (.int (32 : Int32))] [(.ref w_INT32)])) _
  obtain ⟨T5, X5, e5, st5⟩ := getF X4 hx hZ hown (host := "") (Or.inl (ow hw 11 rfl)) Via.refl e4 (G.2.2.2.2.2.2.2.2.2.2.2.2.2.2.2.2.2.2.2.2.2.2.2.2.2.2.2.2.2.2.2.2.2.1.ext O0.2) (g := (mkF m 20 #[.val (.ref w_INT32), .val (.long q2), .second, .val (.int (32 : Int32))] [(.ref w_INT32)])) rfl rfl (hb hby d1_20)
  refine OGot.go st5 ?_
  show OGot p.tables e below (T5.setTop (mkF m 23 #[.val (.ref w_INT32), .val (.long q2), .second, .val (.int (32 : Int32))] [(.int (1 : Int32))])) _
  refine OGot.go (fun t k => XS.ifNo X5.here hx rfl (hb hby d1_23) rfl (by decide) k) ?_
  show OGot p.tables e below (T5.setTop (mkF m 26 #[.val (.ref w_INT32), .val (.long q2), .second, .val (.int (32 : Int32))] [])) _
  refine OGot.go (fun t k => XS.lloadN X5.here hx rfl (hb hby d1_26) rfl k) ?_
  show OGot p.tables e below (T5.setTop (mkF m 27 #[.val (.ref w_INT32), .val (.long q2), .second, .val (.int (32 : Int32))] [(.long q2)])) _
  refine OGot.go (fun t k => XS.iloadN X5.here hx rfl (hb hby d1_27) rfl k) ?_
  show OGot p.tables e below (T5.setTop (mkF m 28 #[.val (.ref w_INT32), .val (.long q2), .second, .val (.int (32 : Int32))] [(.int (32 : Int32)), (.long q2)])) _
  refine OGot.go (fun t k => XS.lshl X5.here hx rfl (hb hby d1_28) rfl k) ?_
  show OGot p.tables e below (T5.setTop (mkF m 29 #[.val (.ref w_INT32), .val (.long q2), .second, .val (.int (32 : Int32))] [(.long (q2 <<< ((32 : Int32) &&& 0x3f).toInt64))])) _
  refine OGot.go (fun t k => XS.iloadN X5.here hx rfl (hb hby d1_29) rfl k) ?_
  show OGot p.tables e below (T5.setTop (mkF m 30 #[.val (.ref w_INT32), .val (.long q2), .second, .val (.int (32 : Int32))] [(.int (32 : Int32)), (.long (q2 <<< ((32 : Int32) &&& 0x3f).toInt64))])) _
  refine OGot.go (fun t k => XS.lshr X5.here hx rfl (hb hby d1_30) rfl k) ?_
  show OGot p.tables e below (T5.setTop (mkF m 31 #[.val (.ref w_INT32), .val (.long q2), .second, .val (.int (32 : Int32))] [(.long ((q2 <<< ((32 : Int32) &&& 0x3f).toInt64) >>> ((32 : Int32) &&& 0x3f).toInt64))])) _
  refine OGot.go (fun t k => XS.goto X5.here hx rfl (pc0 := 31) (pc' := 39) rfl (hb hby d1_31) (by decide) (by decide) k) ?_
  show OGot p.tables e below (T5.setTop (mkF m 39 #[.val (.ref w_INT32), .val (.long q2), .second, .val (.int (32 : Int32))] [(.long ((q2 <<< ((32 : Int32) &&& 0x3f).toInt64) >>> ((32 : Int32) &&& 0x3f).toInt64))])) _
  obtain ⟨fs, hr, hrun, hended, hW, hsame⟩ := X5.leave (v := some (.long ((q2 <<< ((32 : Int32) &&& 0x3f).toInt64) >>> ((32 : Int32) &&& 0x3f).toInt64))) (fun h => by rw [Bd.returns] at h; cases h)
  refine ⟨_, _, oretJ X5 hx Bd.returns (hb hby d1_39) hr, hrun, hended, _, _, rfl, ?_, ⟨_, rfl⟩, hW, hsame.mono (by decide) (by decide)⟩
  exact (⟨rfl, N0, e5⟩ : Q1_5 Z w_BOOL w_INT8 w_UINT8 w_INT64 w_UINT32 w_UINT16 w_INT16 w_UINT64 w_INT32 q2 h0 n0 _ T5.heap _)
theorem own_w6 (q2 : Int64) : ((q2 <<< ((32 : Int32) &&& 0x3f).toInt64) >>> ((32 : Int32) &&& 0x3f).toInt64) = ((q2.toInt32).toInt64) := by
  apply Int64.toInt_inj.mp
  have a1 := c_lshl q2 32 32 (by decide)
  have p1 : ((2 ^ 32 : Nat) : Int) = 4294967296 := rfl
  rw [p1] at a1
  have r1 := rng64 q2
  have r2 := rng64 (q2 <<< ((32 : Int32) &&& 0x3f).toInt64)
  have a2 := c_lshr (q2 <<< ((32 : Int32) &&& 0x3f).toInt64) 32 32 (by decide)
  rw [p1] at a2
  have a3 := c_l2i q2
  have r3 := rng32 q2.toInt32
  rw [a2, c_i2l]
  omega
def Q1_6 (Z : State) (w_BOOL : Addr) (w_INT8 : Addr) (w_UINT8 : Addr) (w_INT64 : Addr) (w_UINT32 : Addr) (w_UINT16 : Addr) (w_INT16 : Addr) (w_UINT64 : Addr) (w_INT32 : Addr) (q2 : Int64) (h0 : Heap) (n0 : Nat) (v : Option Value) (h : Heap) (L : List Loc) : Prop := v = some (.long (((q2 <<< ((32 : Int32) &&& 0x3f).toInt64).toUInt64 >>> ((32 : Int32) &&& 0x3f).toInt64.toUInt64).toInt64)) ∧ Fr n0 L ∧ h = h0
theorem ef1_6 (m : MethodId) (x0 : Addr) (x1 : Int64) : entryFrame m #[(.ref x0), (.long x1)] 4 = mkF m 0 #[.val (.ref x0), .val (.long x1), .second, .unset] [] := by first | (simp [entryFrame, mkF, argsToLocals, Value.category]; done) | rfl
set_option maxRecDepth 65536 in
set_option maxHeartbeats 40000000 in
theorem rm1_6 (l : Launch) (Z : State) (a0 : Array Value) (hw : ∀ d ∈ tables_1, d.before a0 Z = true) (ws : List Jvm.Cond) {w_BOOL : Addr} {w_INT8 : Addr} {w_UINT8 : Addr} {w_INT64 : Addr} {w_UINT32 : Addr} {w_UINT16 : Addr} {w_INT16 : Addr} {w_UINT64 : Addr} {w_INT32 : Addr} (G : Glob Z w_BOOL w_INT8 w_UINT8 w_INT64 w_UINT32 w_UINT16 w_INT16 w_UINT64 w_INT32) (q2 : Int64) (h0 : Heap) (n0 : Nat) (O0 : Old Z n0 h0) :
    MetFree l (⟨"com/example/muster/muster/model/IntegerType", "wrap", "(J)J"⟩ : MethodName) (head1 (Jvm.Cond.code (⟨"com/example/muster/muster/model/IntegerType", "wrap", "(J)J"⟩ : MethodName) prog_89_method_8_code 4 (some .long) :: ws) ({ frames := 0, cells := 0, slots := 0, locals := 0 } : Room)) (fun a U => a = #[(.ref w_UINT32), (.long q2)] ∧ Z.Warmed39 U.vm ∧ U.heap = h0) (fun _ _ _ _ _ => True) (fun _ U o U' => ∃ v L, o = .returned v ∧ Q1_6 Z w_BOOL w_INT8 w_UINT8 w_INT64 w_UINT32 w_UINT16 w_INT16 w_UINT64 w_INT32 q2 h0 n0 v U'.heap L ∧ FrameEnd U o U' L ({ frames := 0, cells := 0, slots := 0, locals := 0 } : Room).cells ({ frames := 0, cells := 0, slots := 0, locals := 0 } : Room).slots) := by
  refine MetFree.of_bodySF (plainFor_of_name pn_com_example_muster_muster_model_IntegerType) hisR ?_
  intro p e s m args below meth c s₁ Bd hml0 hP hK
  obtain ⟨rfl, hZ, hh⟩ := hP
  have hx := Bd.exec
  have hby := Bd.bytes
  have hml : c.maxLocals = 4 := hml0
  have hown : s.vm.findClass "com/example/muster/muster/model/IntegerType" = some m.cls := findClass_of_methodNamed Bd.named
  have hnm := (name_of_methodNamed Bd.named Bd.method).1
  have X0 : Stand p l e ({ frames := 0, cells := 0, slots := 0, locals := 0 } : Room) s m #[(.ref w_UINT32), (.long q2)] below meth c s₁ [] 0 0 := Stand.of_body Bd
  have e0 : s₁.heap = h0 := by rw [← hh, Bd.state]; rfl
  have N0 := Fr.nil n0
  show OGot p.tables e below (s₁.setTop (entryFrame m #[(.ref w_UINT32), (.long q2)] 4)) _
  refine OGot.go (fun t k => castTop (ef1_6 m w_UINT32 q2) k) ?_
  show OGot p.tables e below (s₁.setTop (mkF m 0 #[.val (.ref w_UINT32), .val (.long q2), .second, .unset] [])) _
  refine OGot.go (fun t k => XS.aloadN X0.here hx rfl (hb hby d1_0) rfl rfl k) ?_
  show OGot p.tables e below (s₁.setTop (mkF m 1 #[.val (.ref w_UINT32), .val (.long q2), .second, .unset] [(.ref w_UINT32)])) _
  obtain ⟨T3, X3, e3, st3⟩ := getF X0 hx hZ hown (host := "") (Or.inl (ow hw 9 rfl)) Via.refl e0 (G.2.2.2.2.2.2.2.2.2.2.2.2.2.2.2.2.2.2.2.2.2.2.2.2.2.1.ext O0.2) (g := (mkF m 1 #[.val (.ref w_UINT32), .val (.long q2), .second, .unset] [(.ref w_UINT32)])) rfl rfl (hb hby d1_1)
  refine OGot.go st3 ?_
  show OGot p.tables e below (T3.setTop (mkF m 4 #[.val (.ref w_UINT32), .val (.long q2), .second, .unset] [(.int (32 : Int32))])) _
  refine OGot.go (fun t k => XS.bipush X3.here hx rfl (hb hby d1_4) k) ?_
  show OGot p.tables e below (T3.setTop (mkF m 6 #[.val (.ref w_UINT32), .val (.long q2), .second, .unset] [(.int (64 : Int32)), (.int (32 : Int32))])) _
  refine OGot.go (fun t k => XS.icmpYes X3.here hx rfl (pc0 := 6) (pc' := 11) rfl (hb hby d1_6) rfl (by decide) (by decide) (by decide) k) ?_
  show OGot p.tables e below (T3.setTop (mkF m 11 #[.val (.ref w_UINT32), .val (.long q2), .second, .unset] [])) _
  refine OGot.go (fun t k => XS.bipush X3.here hx rfl (hb hby d1_11) k) ?_
  show OGot p.tables e below (T3.setTop (mkF m 13 #[.val (.ref w_UINT32), .val (.long q2), .second, .unset] [(.int (64 : Int32))])) _
  refine OGot.go (fun t k => XS.aloadN X3.here hx rfl (hb hby d1_13) rfl rfl k) ?_
  show OGot p.tables e below (T3.setTop (mkF m 14 #[.val (.ref w_UINT32), .val (.long q2), .second, .unset] [(.ref w_UINT32), (.int (64 : Int32))])) _
  obtain ⟨T4, X4, e4, st4⟩ := getF X3 hx hZ hown (host := "") (Or.inl (ow hw 9 rfl)) Via.refl e3 (G.2.2.2.2.2.2.2.2.2.2.2.2.2.2.2.2.2.2.2.2.2.2.2.2.2.1.ext O0.2) (g := (mkF m 14 #[.val (.ref w_UINT32), .val (.long q2), .second, .unset] [(.ref w_UINT32), (.int (64 : Int32))])) rfl rfl (hb hby d1_14)
  refine OGot.go st4 ?_
  show OGot p.tables e below (T4.setTop (mkF m 17 #[.val (.ref w_UINT32), .val (.long q2), .second, .unset] [(.int (32 : Int32)), (.int (64 : Int32))])) _
  refine OGot.go (fun t k => XS.isub X4.here hx rfl (hb hby d1_17) rfl k) ?_
  show OGot p.tables e below (T4.setTop (mkF m 18 #[.val (.ref w_UINT32), .val (.long q2), .second, .unset] [(.int ((64 : Int32) - (32 : Int32)))])) _
  rw [show ((64 : Int32) - (32 : Int32)) = (32 : Int32) from by decide]
  show OGot p.tables e below (T4.setTop (mkF m 18 #[.val (.ref w_UINT32), .val (.long q2), .second, .unset] [(.int (32 : Int32))])) _
  refine OGot.go (fun t k => XS.istoreN X4.here hx rfl (hb hby d1_18) rfl (l' := #[.val (.ref w_UINT32), .val (.long q2), .second, .val (.int (32 : Int32))]) rfl k) ?_
  show OGot p.tables e below (T4.setTop (mkF m 19 #[.val (.ref w_UINT32), .val (.long q2), .second, .val (.int (32 : Int32))] [])) _
  refine OGot.go (fun t k => XS.aloadN X4.here hx rfl (hb hby d1_19) rfl rfl k) ?_
  show OGot p.tables e below (T4.setTop (mkF m 20 #[.val (.ref w_UINT32), .val (.long q2), .second, .val (.int (32 : Int32))] [(.ref w_UINT32)])) _
  obtain ⟨T5, X5, e5, st5⟩ := getF X4 hx hZ hown (host := "") (Or.inl (ow hw 11 rfl)) Via.refl e4 (G.2.2.2.2.2.2.2.2.2.2.2.2.2.2.2.2.2.2.2.2.2.2.2.2.2.2.1.ext O0.2) (g := (mkF m 20 #[.val (.ref w_UINT32), .val (.long q2), .second, .val (.int (32 : Int32))] [(.ref w_UINT32)])) rfl rfl (hb hby d1_20)
  refine OGot.go st5 ?_
  show OGot p.tables e below (T5.setTop (mkF m 23 #[.val (.ref w_UINT32), .val (.long q2), .second, .val (.int (32 : Int32))] [(.int (0 : Int32))])) _
  refine OGot.go (fun t k => XS.ifYes X5.here hx rfl (pc0 := 23) (pc' := 34) rfl (hb hby d1_23) rfl (by decide) (by decide) (by decide) k) ?_
  show OGot p.tables e below (T5.setTop (mkF m 34 #[.val (.ref w_UINT32), .val (.long q2), .second, .val (.int (32 : Int32))] [])) _
  refine OGot.go (fun t k => XS.lloadN X5.here hx rfl (hb hby d1_34) rfl k) ?_
  show OGot p.tables e below (T5.setTop (mkF m 35 #[.val (.ref w_UINT32), .val (.long q2), .second, .val (.int (32 : Int32))] [(.long q2)])) _
  refine OGot.go (fun t k => XS.iloadN X5.here hx rfl (hb hby d1_35) rfl k) ?_
  show OGot p.tables e below (T5.setTop (mkF m 36 #[.val (.ref w_UINT32), .val (.long q2), .second, .val (.int (32 : Int32))] [(.int (32 : Int32)), (.long q2)])) _
  refine OGot.go (fun t k => XS.lshl X5.here hx rfl (hb hby d1_36) rfl k) ?_
  show OGot p.tables e below (T5.setTop (mkF m 37 #[.val (.ref w_UINT32), .val (.long q2), .second, .val (.int (32 : Int32))] [(.long (q2 <<< ((32 : Int32) &&& 0x3f).toInt64))])) _
  refine OGot.go (fun t k => XS.iloadN X5.here hx rfl (hb hby d1_37) rfl k) ?_
  show OGot p.tables e below (T5.setTop (mkF m 38 #[.val (.ref w_UINT32), .val (.long q2), .second, .val (.int (32 : Int32))] [(.int (32 : Int32)), (.long (q2 <<< ((32 : Int32) &&& 0x3f).toInt64))])) _
  refine OGot.go (fun t k => XS.lushr X5.here hx rfl (hb hby d1_38) rfl k) ?_
  show OGot p.tables e below (T5.setTop (mkF m 39 #[.val (.ref w_UINT32), .val (.long q2), .second, .val (.int (32 : Int32))] [(.long (((q2 <<< ((32 : Int32) &&& 0x3f).toInt64).toUInt64 >>> ((32 : Int32) &&& 0x3f).toInt64.toUInt64).toInt64))])) _
  obtain ⟨fs, hr, hrun, hended, hW, hsame⟩ := X5.leave (v := some (.long (((q2 <<< ((32 : Int32) &&& 0x3f).toInt64).toUInt64 >>> ((32 : Int32) &&& 0x3f).toInt64.toUInt64).toInt64))) (fun h => by rw [Bd.returns] at h; cases h)
  refine ⟨_, _, oretJ X5 hx Bd.returns (hb hby d1_39) hr, hrun, hended, _, _, rfl, ?_, ⟨_, rfl⟩, hW, hsame.mono (by decide) (by decide)⟩
  exact (⟨rfl, N0, e5⟩ : Q1_6 Z w_BOOL w_INT8 w_UINT8 w_INT64 w_UINT32 w_UINT16 w_INT16 w_UINT64 w_INT32 q2 h0 n0 _ T5.heap _)
theorem own_w7 (q2 : Int64) : (((q2 <<< ((32 : Int32) &&& 0x3f).toInt64).toUInt64 >>> ((32 : Int32) &&& 0x3f).toInt64.toUInt64).toInt64) = (q2 &&& (4294967295 : Int64)) := by
  apply Int64.toInt_inj.mp
  have a1 := c_lshl q2 32 32 (by decide)
  have p1 : ((2 ^ 32 : Nat) : Int) = 4294967296 := rfl
  rw [p1] at a1
  have r1 := rng64 q2
  have r2 := rng64 (q2 <<< ((32 : Int32) &&& 0x3f).toInt64)
  have a2 := c_lushr (q2 <<< ((32 : Int32) &&& 0x3f).toInt64) 32 32 (by decide) (by decide)
  rw [p1] at a2
  have a3 := c_maskL q2 4294967295 32 (by decide) (by decide)
  have p2 : ((2 ^ 32 : Nat) : Int) = 4294967296 := rfl
  rw [p2] at a3
  rw [a2, a3]
  omega
theorem d1_9 : decode prog_89_method_8_code 9 = .ok (.lload_n 1, 1) := by decide +kernel
theorem d1_10 : decode prog_89_method_8_code 10 = .ok (.lreturn, 1) := by decide +kernel
def Q1_7 (Z : State) (w_BOOL : Addr) (w_INT8 : Addr) (w_UINT8 : Addr) (w_INT64 : Addr) (w_UINT32 : Addr) (w_UINT16 : Addr) (w_INT16 : Addr) (w_UINT64 : Addr) (w_INT32 : Addr) (q2 : Int64) (h0 : Heap) (n0 : Nat) (v : Option Value) (h : Heap) (L : List Loc) : Prop := v = some (.long q2) ∧ Fr n0 L ∧ h = h0
theorem ef1_7 (m : MethodId) (x0 : Addr) (x1 : Int64) : entryFrame m #[(.ref x0), (.long x1)] 4 = mkF m 0 #[.val (.ref x0), .val (.long x1), .second, .unset] [] := by first | (simp [entryFrame, mkF, argsToLocals, Value.category]; done) | rfl
set_option maxRecDepth 65536 in
set_option maxHeartbeats 40000000 in
theorem rm1_7 (l : Launch) (Z : State) (a0 : Array Value) (hw : ∀ d ∈ tables_1, d.before a0 Z = true) (ws : List Jvm.Cond) {w_BOOL : Addr} {w_INT8 : Addr} {w_UINT8 : Addr} {w_INT64 : Addr} {w_UINT32 : Addr} {w_UINT16 : Addr} {w_INT16 : Addr} {w_UINT64 : Addr} {w_INT32 : Addr} (G : Glob Z w_BOOL w_INT8 w_UINT8 w_INT64 w_UINT32 w_UINT16 w_INT16 w_UINT64 w_INT32) (q2 : Int64) (h0 : Heap) (n0 : Nat) (O0 : Old Z n0 h0) :
    MetFree l (⟨"com/example/muster/muster/model/IntegerType", "wrap", "(J)J"⟩ : MethodName) (head1 (Jvm.Cond.code (⟨"com/example/muster/muster/model/IntegerType", "wrap", "(J)J"⟩ : MethodName) prog_89_method_8_code 4 (some .long) :: ws) ({ frames := 0, cells := 0, slots := 0, locals := 0 } : Room)) (fun a U => a = #[(.ref w_INT64), (.long q2)] ∧ Z.Warmed39 U.vm ∧ U.heap = h0) (fun _ _ _ _ _ => True) (fun _ U o U' => ∃ v L, o = .returned v ∧ Q1_7 Z w_BOOL w_INT8 w_UINT8 w_INT64 w_UINT32 w_UINT16 w_INT16 w_UINT64 w_INT32 q2 h0 n0 v U'.heap L ∧ FrameEnd U o U' L ({ frames := 0, cells := 0, slots := 0, locals := 0 } : Room).cells ({ frames := 0, cells := 0, slots := 0, locals := 0 } : Room).slots) := by
  refine MetFree.of_bodySF (plainFor_of_name pn_com_example_muster_muster_model_IntegerType) hisR ?_
  intro p e s m args below meth c s₁ Bd hml0 hP hK
  obtain ⟨rfl, hZ, hh⟩ := hP
  have hx := Bd.exec
  have hby := Bd.bytes
  have hml : c.maxLocals = 4 := hml0
  have hown : s.vm.findClass "com/example/muster/muster/model/IntegerType" = some m.cls := findClass_of_methodNamed Bd.named
  have hnm := (name_of_methodNamed Bd.named Bd.method).1
  have X0 : Stand p l e ({ frames := 0, cells := 0, slots := 0, locals := 0 } : Room) s m #[(.ref w_INT64), (.long q2)] below meth c s₁ [] 0 0 := Stand.of_body Bd
  have e0 : s₁.heap = h0 := by rw [← hh, Bd.state]; rfl
  have N0 := Fr.nil n0
  show OGot p.tables e below (s₁.setTop (entryFrame m #[(.ref w_INT64), (.long q2)] 4)) _
  refine OGot.go (fun t k => castTop (ef1_7 m w_INT64 q2) k) ?_
  show OGot p.tables e below (s₁.setTop (mkF m 0 #[.val (.ref w_INT64), .val (.long q2), .second, .unset] [])) _
  refine OGot.go (fun t k => XS.aloadN X0.here hx rfl (hb hby d1_0) rfl rfl k) ?_
  show OGot p.tables e below (s₁.setTop (mkF m 1 #[.val (.ref w_INT64), .val (.long q2), .second, .unset] [(.ref w_INT64)])) _
  obtain ⟨T3, X3, e3, st3⟩ := getF X0 hx hZ hown (host := "") (Or.inl (ow hw 9 rfl)) Via.refl e0 (G.2.2.2.2.2.2.2.2.2.2.2.2.2.2.2.2.2.2.2.2.2.2.2.2.1.ext O0.2) (g := (mkF m 1 #[.val (.ref w_INT64), .val (.long q2), .second, .unset] [(.ref w_INT64)])) rfl rfl (hb hby d1_1)
  refine OGot.go st3 ?_
  show OGot p.tables e below (T3.setTop (mkF m 4 #[.val (.ref w_INT64), .val (.long q2), .second, .unset] [(.int (64 : Int32))])) _
  refine OGot.go (fun t k => XS.bipush X3.here hx rfl (hb hby d1_4) k) ?_
  show OGot p.tables e below (T3.setTop (mkF m 6 #[.val (.ref w_INT64), .val (.long q2), .second, .unset] [(.int (64 : Int32)), (.int (64 : Int32))])) _
  refine OGot.go (fun t k => XS.icmpNo X3.here hx rfl (hb hby d1_6) rfl (by decide) k) ?_
  show OGot p.tables e below (T3.setTop (mkF m 9 #[.val (.ref w_INT64), .val (.long q2), .second, .unset] [])) _
  refine OGot.go (fun t k => XS.lloadN X3.here hx rfl (hb hby d1_9) rfl k) ?_
  show OGot p.tables e below (T3.setTop (mkF m 10 #[.val (.ref w_INT64), .val (.long q2), .second, .unset] [(.long q2)])) _
  obtain ⟨fs, hr, hrun, hended, hW, hsame⟩ := X3.leave (v := some (.long q2)) (fun h => by rw [Bd.returns] at h; cases h)
  refine ⟨_, _, oretJ X3 hx Bd.returns (hb hby d1_10) hr, hrun, hended, _, _, rfl, ?_, ⟨_, rfl⟩, hW, hsame.mono (by decide) (by decide)⟩
  exact (⟨rfl, N0, e3⟩ : Q1_7 Z w_BOOL w_INT8 w_UINT8 w_INT64 w_UINT32 w_UINT16 w_INT16 w_UINT64 w_INT32 q2 h0 n0 _ T3.heap _)
def Q1_8 (Z : State) (w_BOOL : Addr) (w_INT8 : Addr) (w_UINT8 : Addr) (w_INT64 : Addr) (w_UINT32 : Addr) (w_UINT16 : Addr) (w_INT16 : Addr) (w_UINT64 : Addr) (w_INT32 : Addr) (q2 : Int64) (h0 : Heap) (n0 : Nat) (v : Option Value) (h : Heap) (L : List Loc) : Prop := v = some (.long q2) ∧ Fr n0 L ∧ h = h0
theorem ef1_8 (m : MethodId) (x0 : Addr) (x1 : Int64) : entryFrame m #[(.ref x0), (.long x1)] 4 = mkF m 0 #[.val (.ref x0), .val (.long x1), .second, .unset] [] := by first | (simp [entryFrame, mkF, argsToLocals, Value.category]; done) | rfl
set_option maxRecDepth 65536 in
set_option maxHeartbeats 40000000 in
theorem rm1_8 (l : Launch) (Z : State) (a0 : Array Value) (hw : ∀ d ∈ tables_1, d.before a0 Z = true) (ws : List Jvm.Cond) {w_BOOL : Addr} {w_INT8 : Addr} {w_UINT8 : Addr} {w_INT64 : Addr} {w_UINT32 : Addr} {w_UINT16 : Addr} {w_INT16 : Addr} {w_UINT64 : Addr} {w_INT32 : Addr} (G : Glob Z w_BOOL w_INT8 w_UINT8 w_INT64 w_UINT32 w_UINT16 w_INT16 w_UINT64 w_INT32) (q2 : Int64) (h0 : Heap) (n0 : Nat) (O0 : Old Z n0 h0) :
    MetFree l (⟨"com/example/muster/muster/model/IntegerType", "wrap", "(J)J"⟩ : MethodName) (head1 (Jvm.Cond.code (⟨"com/example/muster/muster/model/IntegerType", "wrap", "(J)J"⟩ : MethodName) prog_89_method_8_code 4 (some .long) :: ws) ({ frames := 0, cells := 0, slots := 0, locals := 0 } : Room)) (fun a U => a = #[(.ref w_UINT64), (.long q2)] ∧ Z.Warmed39 U.vm ∧ U.heap = h0) (fun _ _ _ _ _ => True) (fun _ U o U' => ∃ v L, o = .returned v ∧ Q1_8 Z w_BOOL w_INT8 w_UINT8 w_INT64 w_UINT32 w_UINT16 w_INT16 w_UINT64 w_INT32 q2 h0 n0 v U'.heap L ∧ FrameEnd U o U' L ({ frames := 0, cells := 0, slots := 0, locals := 0 } : Room).cells ({ frames := 0, cells := 0, slots := 0, locals := 0 } : Room).slots) := by
  refine MetFree.of_bodySF (plainFor_of_name pn_com_example_muster_muster_model_IntegerType) hisR ?_
  intro p e s m args below meth c s₁ Bd hml0 hP hK
  obtain ⟨rfl, hZ, hh⟩ := hP
  have hx := Bd.exec
  have hby := Bd.bytes
  have hml : c.maxLocals = 4 := hml0
  have hown : s.vm.findClass "com/example/muster/muster/model/IntegerType" = some m.cls := findClass_of_methodNamed Bd.named
  have hnm := (name_of_methodNamed Bd.named Bd.method).1
  have X0 : Stand p l e ({ frames := 0, cells := 0, slots := 0, locals := 0 } : Room) s m #[(.ref w_UINT64), (.long q2)] below meth c s₁ [] 0 0 := Stand.of_body Bd
  have e0 : s₁.heap = h0 := by rw [← hh, Bd.state]; rfl
  have N0 := Fr.nil n0
  show OGot p.tables e below (s₁.setTop (entryFrame m #[(.ref w_UINT64), (.long q2)] 4)) _
  refine OGot.go (fun t k => castTop (ef1_8 m w_UINT64 q2) k) ?_
  show OGot p.tables e below (s₁.setTop (mkF m 0 #[.val (.ref w_UINT64), .val (.long q2), .second, .unset] [])) _
  refine OGot.go (fun t k => XS.aloadN X0.here hx rfl (hb hby d1_0) rfl rfl k) ?_
  show OGot p.tables e below (s₁.setTop (mkF m 1 #[.val (.ref w_UINT64), .val (.long q2), .second, .unset] [(.ref w_UINT64)])) _
  obtain ⟨T3, X3, e3, st3⟩ := getF X0 hx hZ hown (host := "") (Or.inl (ow hw 9 rfl)) Via.refl e0 (G.2.2.2.2.2.2.2.2.2.2.2.2.2.2.2.2.2.2.2.2.2.2.2.2.2.2.2.2.2.2.2.1.ext O0.2) (g := (mkF m 1 #[.val (.ref w_UINT64), .val (.long q2), .second, .unset] [(.ref w_UINT64)])) rfl rfl (hb hby d1_1)
  refine OGot.go st3 ?_
  show OGot p.tables e below (T3.setTop (mkF m 4 #[.val (.ref w_UINT64), .val (.long q2), .second, .unset] [(.int (64 : Int32))])) _
  refine OGot.go (fun t k => XS.bipush X3.here hx rfl (hb hby d1_4) k) ?_
  show OGot p.tables e below (T3.setTop (mkF m 6 #[.val (.ref w_UINT64), .val (.long q2), .second, .unset] [(.int (64 : Int32)), (.int (64 : Int32))])) _
  refine OGot.go (fun t k => XS.icmpNo X3.here hx rfl (hb hby d1_6) rfl (by decide) k) ?_
  show OGot p.tables e below (T3.setTop (mkF m 9 #[.val (.ref w_UINT64), .val (.long q2), .second, .unset] [])) _
  refine OGot.go (fun t k => XS.lloadN X3.here hx rfl (hb hby d1_9) rfl k) ?_
  show OGot p.tables e below (T3.setTop (mkF m 10 #[.val (.ref w_UINT64), .val (.long q2), .second, .unset] [(.long q2)])) _
  obtain ⟨fs, hr, hrun, hended, hW, hsame⟩ := X3.leave (v := some (.long q2)) (fun h => by rw [Bd.returns] at h; cases h)
  refine ⟨_, _, oretJ X3 hx Bd.returns (hb hby d1_10) hr, hrun, hended, _, _, rfl, ?_, ⟨_, rfl⟩, hW, hsame.mono (by decide) (by decide)⟩
  exact (⟨rfl, N0, e3⟩ : Q1_8 Z w_BOOL w_INT8 w_UINT8 w_INT64 w_UINT32 w_UINT16 w_INT16 w_UINT64 w_INT32 q2 h0 n0 _ T3.heap _)
theorem pn_com_example_muster_muster_model_IntegerTypeWrapPinLaw : plainName "com/example/muster/muster/model/IntegerTypeWrapPinLaw" = true := by first | (simp [plainName, overriddenIn]; done) | decide +kernel
def Q0 (Z : State) (w_BOOL : Addr) (w_INT8 : Addr) (w_UINT8 : Addr) (w_INT64 : Addr) (w_UINT32 : Addr) (w_UINT16 : Addr) (w_INT16 : Addr) (w_UINT64 : Addr) (w_INT32 : Addr) (p1 : Int32) (q2 : Int64) (h0 : Heap) (n0 : Nat) (v : Option Value) (h : Heap) (L : List Loc) : Prop := v = some (.int (1 : Int32)) ∧ Fr n0 L
theorem ef0 (m : MethodId) (x0 : Int32) (x1 : Int64) : entryFrame m #[(.int x0), (.long x1)] maxLocals = mkF m 0 #[.val (.int x0), .val (.long x1), .second, .unset, .unset, .unset, .unset] [] := by first | (simp [entryFrame, mkF, argsToLocals, Value.category, maxLocals]; done) | rfl
set_option maxRecDepth 65536 in
set_option maxHeartbeats 40000000 in
theorem rm0 (l : Launch) (Z : State) (a0 : Array Value) (hw : ∀ d ∈ tables_1, d.before a0 Z = true) (ws : List Jvm.Cond) {w_BOOL : Addr} {w_INT8 : Addr} {w_UINT8 : Addr} {w_INT64 : Addr} {w_UINT32 : Addr} {w_UINT16 : Addr} {w_INT16 : Addr} {w_UINT64 : Addr} {w_INT32 : Addr} (G : Glob Z w_BOOL w_INT8 w_UINT8 w_INT64 w_UINT32 w_UINT16 w_INT16 w_UINT64 w_INT32) (p1 : Int32) (q2 : Int64) (h0 : Heap) (n0 : Nat) (O0 : Old Z n0 h0) :
    MetFree l x (head1 (Jvm.Cond.code x code maxLocals ret :: ws) room_1) (fun a U => a = #[(.int p1), (.long q2)] ∧ Z.Warmed39 U.vm ∧ U.heap = h0) (fun _ _ _ _ _ => True) (fun _ U o U' => ∃ v L, o = .returned v ∧ Q0 Z w_BOOL w_INT8 w_UINT8 w_INT64 w_UINT32 w_UINT16 w_INT16 w_UINT64 w_INT32 p1 q2 h0 n0 v U'.heap L ∧ FrameEnd U o U' L room_1.cells room_1.slots) := by
  refine MetFree.of_bodySF (plainFor_of_name pn_com_example_muster_muster_model_IntegerTypeWrapPinLaw) hisR ?_
  intro p e s m args below meth c s₁ Bd hml0 hP hK
  obtain ⟨rfl, hZ, hh⟩ := hP
  have hx := Bd.exec
  have hby := Bd.bytes
  have hml : c.maxLocals = 7 := hml0
  have hown : s.vm.findClass "com/example/muster/muster/model/IntegerTypeWrapPinLaw" = some m.cls := findClass_of_methodNamed Bd.named
  have hnm := (name_of_methodNamed Bd.named Bd.method).1
  have X0 : Stand p l e room_1 s m #[(.int p1), (.long q2)] below meth c s₁ [] 0 0 := Stand.of_body Bd
  have e0 : s₁.heap = h0 := by rw [← hh, Bd.state]; rfl
  have N0 := Fr.nil n0
  show OGot p.tables e below (s₁.setTop (entryFrame m #[(.int p1), (.long q2)] maxLocals)) _
  refine OGot.go (fun t k => castTop (ef0 m p1 q2) k) ?_
  show OGot p.tables e below (s₁.setTop (mkF m 0 #[.val (.int p1), .val (.long q2), .second, .unset, .unset, .unset, .unset] [])) _
  refine OGot.go (fun t k => XS.iloadN X0.here hx rfl (hb hby at_0) rfl k) ?_
  show OGot p.tables e below (s₁.setTop (mkF m 1 #[.val (.int p1), .val (.long q2), .second, .unset, .unset, .unset, .unset] [(.int p1)])) _
  refine OGot.go (fun t k => X0.ldcInt hx hown (mvT hZ (ow hw 0 rfl)) (g := (mkF m 1 #[.val (.int p1), .val (.long q2), .second, .unset, .unset, .unset, .unset] [(.int p1)])) rfl (hb hby at_1) _ k) ?_
  show OGot p.tables e below (s₁.setTop (mkF m 3 #[.val (.int p1), .val (.long q2), .second, .unset, .unset, .unset, .unset] [(.int (2147483647 : Int32)), (.int p1)])) _
  refine OGot.go (fun t k => XS.iand X0.here hx rfl (hb hby at_3) rfl k) ?_
  show OGot p.tables e below (s₁.setTop (mkF m 4 #[.val (.int p1), .val (.long q2), .second, .unset, .unset, .unset, .unset] [(.int (p1 &&& (2147483647 : Int32)))])) _
  refine OGot.go (fun t k => XS.bipush X0.here hx rfl (hb hby at_4) k) ?_
  show OGot p.tables e below (s₁.setTop (mkF m 6 #[.val (.int p1), .val (.long q2), .second, .unset, .unset, .unset, .unset] [(.int (9 : Int32)), (.int (p1 &&& (2147483647 : Int32)))])) _
  refine OGot.go (fun t k => iremM X0 hx rfl (hb hby at_6) rfl (by decide) k) ?_
  show OGot p.tables e below (s₁.setTop (mkF m 7 #[.val (.int p1), .val (.long q2), .second, .unset, .unset, .unset, .unset] [(.int ((p1 &&& (2147483647 : Int32)) % (9 : Int32)))])) _
  rcases own_rem9 p1 with hk3 | hk4 | hk5 | hk6 | hk7 | hk8 | hk9 | hk10 | hk11
  · rw [hk3]
    show OGot p.tables e below (s₁.setTop (mkF m 7 #[.val (.int p1), .val (.long q2), .second, .unset, .unset, .unset, .unset] [(.int (0 : Int32))])) _
    refine OGot.go (fun t k => XS.istoreN X0.here hx rfl (hb hby at_7) rfl (l' := #[.val (.int p1), .val (.long q2), .second, .val (.int (0 : Int32)), .unset, .unset, .unset]) rfl k) ?_
    show OGot p.tables e below (s₁.setTop (mkF m 8 #[.val (.int p1), .val (.long q2), .second, .val (.int (0 : Int32)), .unset, .unset, .unset] [])) _
    refine OGot.go (fun t k => XS.iloadN X0.here hx rfl (hb hby at_8) rfl k) ?_
    show OGot p.tables e below (s₁.setTop (mkF m 9 #[.val (.int p1), .val (.long q2), .second, .val (.int (0 : Int32)), .unset, .unset, .unset] [(.int (0 : Int32))])) _
    refine OGot.go (fun t k => XS.ifNo X0.here hx rfl (hb hby at_9) rfl (by decide) k) ?_
    show OGot p.tables e below (s₁.setTop (mkF m 12 #[.val (.int p1), .val (.long q2), .second, .val (.int (0 : Int32)), .unset, .unset, .unset] [])) _
    obtain ⟨T12, X12, e12, st12⟩ := getS2 X0 hx hZ hown (host := "") (Or.inl (ow hw 1 rfl)) Via.refl e0 (G.1.ext O0.2) (g := (mkF m 12 #[.val (.int p1), .val (.long q2), .second, .val (.int (0 : Int32)), .unset, .unset, .unset] [])) rfl (hb hby at_12)
    refine OGot.go st12 ?_
    show OGot p.tables e below (T12.setTop (mkF m 15 #[.val (.int p1), .val (.long q2), .second, .val (.int (0 : Int32)), .unset, .unset, .unset] [(.ref w_BOOL)])) _
    refine OGot.go (fun t k => XS.astore X12.here hx rfl (hb hby at_15) rfl rfl (l' := #[.val (.int p1), .val (.long q2), .second, .val (.int (0 : Int32)), .val (.ref w_BOOL), .unset, .unset]) rfl k) ?_
    show OGot p.tables e below (T12.setTop (mkF m 17 #[.val (.int p1), .val (.long q2), .second, .val (.int (0 : Int32)), .val (.ref w_BOOL), .unset, .unset] [])) _
    refine OGot.go (fun t k => XS.lloadN X12.here hx rfl (hb hby at_17) rfl k) ?_
    show OGot p.tables e below (T12.setTop (mkF m 18 #[.val (.int p1), .val (.long q2), .second, .val (.int (0 : Int32)), .val (.ref w_BOOL), .unset, .unset] [(.long q2)])) _
    refine OGot.go (fun t k => XS.lconst X12.here hx rfl (hb hby at_18) k) ?_
    show OGot p.tables e below (T12.setTop (mkF m 19 #[.val (.int p1), .val (.long q2), .second, .val (.int (0 : Int32)), .val (.ref w_BOOL), .unset, .unset] [(.long (1 : Int64)), (.long q2)])) _
    refine OGot.go (fun t k => XS.land X12.here hx rfl (hb hby at_19) rfl k) ?_
    show OGot p.tables e below (T12.setTop (mkF m 20 #[.val (.int p1), .val (.long q2), .second, .val (.int (0 : Int32)), .val (.ref w_BOOL), .unset, .unset] [(.long (q2 &&& (1 : Int64)))])) _
    refine OGot.go (fun t k => XS.lstore X12.here hx rfl (hb hby at_20) rfl (l' := #[.val (.int p1), .val (.long q2), .second, .val (.int (0 : Int32)), .val (.ref w_BOOL), .val (.long (q2 &&& (1 : Int64))), .second]) rfl k) ?_
    show OGot p.tables e below (T12.setTop (mkF m 22 #[.val (.int p1), .val (.long q2), .second, .val (.int (0 : Int32)), .val (.ref w_BOOL), .val (.long (q2 &&& (1 : Int64))), .second] [])) _
    refine OGot.go (fun t k => XS.goto X12.here hx rfl (pc0 := 22) (pc' := 167) rfl (hb hby at_22) (by decide) (by decide) k) ?_
    show OGot p.tables e below (T12.setTop (mkF m 167 #[.val (.int p1), .val (.long q2), .second, .val (.int (0 : Int32)), .val (.ref w_BOOL), .val (.long (q2 &&& (1 : Int64))), .second] [])) _
    refine OGot.go (fun t k => XS.aload X12.here hx rfl (hb hby at_167) rfl rfl k) ?_
    show OGot p.tables e below (T12.setTop (mkF m 169 #[.val (.int p1), .val (.long q2), .second, .val (.int (0 : Int32)), .val (.ref w_BOOL), .val (.long (q2 &&& (1 : Int64))), .second] [(.ref w_BOOL)])) _
    refine OGot.go (fun t k => XS.lloadN X12.here hx rfl (hb hby at_169) rfl k) ?_
    show OGot p.tables e below (T12.setTop (mkF m 170 #[.val (.int p1), .val (.long q2), .second, .val (.int (0 : Int32)), .val (.ref w_BOOL), .val (.long (q2 &&& (1 : Int64))), .second] [(.long q2), (.ref w_BOOL)])) _
    obtain ⟨cq13, kq13, q13a, q13b, q13c⟩ := isOf hZ e12 (G.2.1.ext O0.2)
    obtain ⟨_, _, ⟨T13, L13, k13, n13⟩, -, X13, ⟨Lc13, hQ13, l13, y13, z13⟩, st13⟩ := X12.virtualBack hx (y := (⟨"com/example/muster/muster/model/IntegerType", "wrap", "(J)J"⟩ : MethodName)) (z := (⟨"com/example/muster/muster/model/IntegerType", "wrap", "(J)J"⟩ : MethodName)) hown (mvT hZ (ow hw 4 rfl)) (mvT hZ (ow hw 5 rfl)) (notFace_of_selects (args := #[]) (mvT hZ (ow hw 7 rfl))) (mvT hZ (ow hw 7 rfl)) (mvT hZ (ow hw 6 rfl)) (by decide) (backOf (W := 0) (rm1 l Z a0 hw [] G q2 h0 n0 O0 ) hZ (ow hw 8 rfl) (ow hw 2 rfl) (by decide) (by decide)) q13a q13c (g := (mkF m 170 #[.val (.int p1), .val (.long q2), .second, .val (.int (0 : Int32)), .val (.ref w_BOOL), .val (.long (q2 &&& (1 : Int64))), .second] [(.long q2), (.ref w_BOOL)])) rfl (by rw [hml]; rfl) (Steps.refl _) (argsL := [(.long q2)]) (rest := []) (lenOf pd_0 rfl) rfl (by show 2 * 0 + _ ≤ _; exact Nat.le_of_eq rfl) (hb hby at_170) (fun _ _ => ⟨rfl, e12, (by decide : 0 + 0 ≤ _), (by decide : 0 + 0 ≤ _)⟩)
    dsimp only [Pt.U, Pt.locs, Pt.cells, Pt.slots] at X13 l13 y13 z13 st13 hQ13
    subst l13 y13 z13
    obtain ⟨rfl, N13q, e13⟩ := hQ13
    have N13 := Fr.app N0 N13q
    refine OGot.on st13 ?_
    show OGot p.tables e below (T13.setTop (mkF m 173 #[.val (.int p1), .val (.long q2), .second, .val (.int (0 : Int32)), .val (.ref w_BOOL), .val (.long (q2 &&& (1 : Int64))), .second] [(.long (((q2 <<< ((63 : Int32) &&& 0x3f).toInt64).toUInt64 >>> ((63 : Int32) &&& 0x3f).toInt64.toUInt64).toInt64))])) _
    refine OGot.go (fun t k => XS.lload X13.here hx rfl (hb hby at_173) rfl k) ?_
    show OGot p.tables e below (T13.setTop (mkF m 175 #[.val (.int p1), .val (.long q2), .second, .val (.int (0 : Int32)), .val (.ref w_BOOL), .val (.long (q2 &&& (1 : Int64))), .second] [(.long (q2 &&& (1 : Int64))), (.long (((q2 <<< ((63 : Int32) &&& 0x3f).toInt64).toUInt64 >>> ((63 : Int32) &&& 0x3f).toInt64.toUInt64).toInt64))])) _
    refine OGot.go (fun t k => XS.lcmp X13.here hx rfl (hb hby at_175) rfl k) ?_
    show OGot p.tables e below (T13.setTop (mkF m 176 #[.val (.int p1), .val (.long q2), .second, .val (.int (0 : Int32)), .val (.ref w_BOOL), .val (.long (q2 &&& (1 : Int64))), .second] [(.int (lcmpW (((q2 <<< ((63 : Int32) &&& 0x3f).toInt64).toUInt64 >>> ((63 : Int32) &&& 0x3f).toInt64.toUInt64).toInt64) (q2 &&& (1 : Int64))))])) _
    refine OGot.go (fun t k => XS.ifNo X13.here hx rfl (hb hby at_176) rfl ((if0 _ _).trans (teq ((lw_eq (((q2 <<< ((63 : Int32) &&& 0x3f).toInt64).toUInt64 >>> ((63 : Int32) &&& 0x3f).toInt64.toUInt64).toInt64) (q2 &&& (1 : Int64))).mpr (own_w1 q2))).2) k) ?_
    show OGot p.tables e below (T13.setTop (mkF m 179 #[.val (.int p1), .val (.long q2), .second, .val (.int (0 : Int32)), .val (.ref w_BOOL), .val (.long (q2 &&& (1 : Int64))), .second] [])) _
    refine OGot.go (fun t k => XS.iconst X13.here hx rfl (hb hby at_179) k) ?_
    show OGot p.tables e below (T13.setTop (mkF m 180 #[.val (.int p1), .val (.long q2), .second, .val (.int (0 : Int32)), .val (.ref w_BOOL), .val (.long (q2 &&& (1 : Int64))), .second] [(.int (1 : Int32))])) _
    refine OGot.go (fun t k => XS.goto X13.here hx rfl (pc0 := 180) (pc' := 184) rfl (hb hby at_180) (by decide) (by decide) k) ?_
    show OGot p.tables e below (T13.setTop (mkF m 184 #[.val (.int p1), .val (.long q2), .second, .val (.int (0 : Int32)), .val (.ref w_BOOL), .val (.long (q2 &&& (1 : Int64))), .second] [(.int (1 : Int32))])) _
    obtain ⟨fs, hr, hrun, hended, hW, hsame⟩ := X13.leave (v := some (.int (1 : Int32))) (fun h => by rw [Bd.returns] at h; cases h)
    refine ⟨_, _, retN X13 hx (t := .boolean) Bd.returns (by simp) (hb hby at_184) hr, hrun, hended, _, _, rfl, ?_, ⟨_, rfl⟩, hW, hsame.mono (by decide) (by decide)⟩
    exact (⟨rfl, N13⟩ : Q0 Z w_BOOL w_INT8 w_UINT8 w_INT64 w_UINT32 w_UINT16 w_INT16 w_UINT64 w_INT32 p1 q2 h0 n0 _ T13.heap _)
  · rw [hk4]
    show OGot p.tables e below (s₁.setTop (mkF m 7 #[.val (.int p1), .val (.long q2), .second, .unset, .unset, .unset, .unset] [(.int (1 : Int32))])) _
    refine OGot.go (fun t k => XS.istoreN X0.here hx rfl (hb hby at_7) rfl (l' := #[.val (.int p1), .val (.long q2), .second, .val (.int (1 : Int32)), .unset, .unset, .unset]) rfl k) ?_
    show OGot p.tables e below (s₁.setTop (mkF m 8 #[.val (.int p1), .val (.long q2), .second, .val (.int (1 : Int32)), .unset, .unset, .unset] [])) _
    refine OGot.go (fun t k => XS.iloadN X0.here hx rfl (hb hby at_8) rfl k) ?_
    show OGot p.tables e below (s₁.setTop (mkF m 9 #[.val (.int p1), .val (.long q2), .second, .val (.int (1 : Int32)), .unset, .unset, .unset] [(.int (1 : Int32))])) _
    refine OGot.go (fun t k => XS.ifYes X0.here hx rfl (pc0 := 9) (pc' := 25) rfl (hb hby at_9) rfl (by decide) (by decide) (by decide) k) ?_
    show OGot p.tables e below (s₁.setTop (mkF m 25 #[.val (.int p1), .val (.long q2), .second, .val (.int (1 : Int32)), .unset, .unset, .unset] [])) _
    refine OGot.go (fun t k => XS.iloadN X0.here hx rfl (hb hby at_25) rfl k) ?_
    show OGot p.tables e below (s₁.setTop (mkF m 26 #[.val (.int p1), .val (.long q2), .second, .val (.int (1 : Int32)), .unset, .unset, .unset] [(.int (1 : Int32))])) _
    refine OGot.go (fun t k => XS.iconst X0.here hx rfl (hb hby at_26) k) ?_
    show OGot p.tables e below (s₁.setTop (mkF m 27 #[.val (.int p1), .val (.long q2), .second, .val (.int (1 : Int32)), .unset, .unset, .unset] [(.int (1 : Int32)), (.int (1 : Int32))])) _
    refine OGot.go (fun t k => XS.icmpNo X0.here hx rfl (hb hby at_27) rfl (by decide) k) ?_
    show OGot p.tables e below (s₁.setTop (mkF m 30 #[.val (.int p1), .val (.long q2), .second, .val (.int (1 : Int32)), .unset, .unset, .unset] [])) _
    obtain ⟨T14, X14, e14, st14⟩ := getS2 X0 hx hZ hown (host := "") (Or.inl (ow hw 13 rfl)) Via.refl e0 (G.2.2.1.ext O0.2) (g := (mkF m 30 #[.val (.int p1), .val (.long q2), .second, .val (.int (1 : Int32)), .unset, .unset, .unset] [])) rfl (hb hby at_30)
    refine OGot.go st14 ?_
    show OGot p.tables e below (T14.setTop (mkF m 33 #[.val (.int p1), .val (.long q2), .second, .val (.int (1 : Int32)), .unset, .unset, .unset] [(.ref w_INT8)])) _
    refine OGot.go (fun t k => XS.astore X14.here hx rfl (hb hby at_33) rfl rfl (l' := #[.val (.int p1), .val (.long q2), .second, .val (.int (1 : Int32)), .val (.ref w_INT8), .unset, .unset]) rfl k) ?_
    show OGot p.tables e below (T14.setTop (mkF m 35 #[.val (.int p1), .val (.long q2), .second, .val (.int (1 : Int32)), .val (.ref w_INT8), .unset, .unset] [])) _
    refine OGot.go (fun t k => XS.lloadN X14.here hx rfl (hb hby at_35) rfl k) ?_
    show OGot p.tables e below (T14.setTop (mkF m 36 #[.val (.int p1), .val (.long q2), .second, .val (.int (1 : Int32)), .val (.ref w_INT8), .unset, .unset] [(.long q2)])) _
    refine OGot.go (fun t k => XS.l2i X14.here hx rfl (hb hby at_36) rfl k) ?_
    show OGot p.tables e below (T14.setTop (mkF m 37 #[.val (.int p1), .val (.long q2), .second, .val (.int (1 : Int32)), .val (.ref w_INT8), .unset, .unset] [(.int (q2.toInt32))])) _
    refine OGot.go (fun t k => XS.i2b X14.here hx rfl (hb hby at_37) rfl k) ?_
    show OGot p.tables e below (T14.setTop (mkF m 38 #[.val (.int p1), .val (.long q2), .second, .val (.int (1 : Int32)), .val (.ref w_INT8), .unset, .unset] [(.int ((q2.toInt32).toInt8.toInt32))])) _
    refine OGot.go (fun t k => XS.i2l X14.here hx rfl (hb hby at_38) rfl k) ?_
    show OGot p.tables e below (T14.setTop (mkF m 39 #[.val (.int p1), .val (.long q2), .second, .val (.int (1 : Int32)), .val (.ref w_INT8), .unset, .unset] [(.long (((q2.toInt32).toInt8.toInt32).toInt64))])) _
    refine OGot.go (fun t k => XS.lstore X14.here hx rfl (hb hby at_39) rfl (l' := #[.val (.int p1), .val (.long q2), .second, .val (.int (1 : Int32)), .val (.ref w_INT8), .val (.long (((q2.toInt32).toInt8.toInt32).toInt64)), .second]) rfl k) ?_
    show OGot p.tables e below (T14.setTop (mkF m 41 #[.val (.int p1), .val (.long q2), .second, .val (.int (1 : Int32)), .val (.ref w_INT8), .val (.long (((q2.toInt32).toInt8.toInt32).toInt64)), .second] [])) _
    refine OGot.go (fun t k => XS.goto X14.here hx rfl (pc0 := 41) (pc' := 167) rfl (hb hby at_41) (by decide) (by decide) k) ?_
    show OGot p.tables e below (T14.setTop (mkF m 167 #[.val (.int p1), .val (.long q2), .second, .val (.int (1 : Int32)), .val (.ref w_INT8), .val (.long (((q2.toInt32).toInt8.toInt32).toInt64)), .second] [])) _
    refine OGot.go (fun t k => XS.aload X14.here hx rfl (hb hby at_167) rfl rfl k) ?_
    show OGot p.tables e below (T14.setTop (mkF m 169 #[.val (.int p1), .val (.long q2), .second, .val (.int (1 : Int32)), .val (.ref w_INT8), .val (.long (((q2.toInt32).toInt8.toInt32).toInt64)), .second] [(.ref w_INT8)])) _
    refine OGot.go (fun t k => XS.lloadN X14.here hx rfl (hb hby at_169) rfl k) ?_
    show OGot p.tables e below (T14.setTop (mkF m 170 #[.val (.int p1), .val (.long q2), .second, .val (.int (1 : Int32)), .val (.ref w_INT8), .val (.long (((q2.toInt32).toInt8.toInt32).toInt64)), .second] [(.long q2), (.ref w_INT8)])) _
    obtain ⟨cq15, kq15, q15a, q15b, q15c⟩ := isOf hZ e14 (G.2.2.2.1.ext O0.2)
    obtain ⟨_, _, ⟨T15, L15, k15, n15⟩, -, X15, ⟨Lc15, hQ15, l15, y15, z15⟩, st15⟩ := X14.virtualBack hx (y := (⟨"com/example/muster/muster/model/IntegerType", "wrap", "(J)J"⟩ : MethodName)) (z := (⟨"com/example/muster/muster/model/IntegerType", "wrap", "(J)J"⟩ : MethodName)) hown (mvT hZ (ow hw 4 rfl)) (mvT hZ (ow hw 5 rfl)) (notFace_of_selects (args := #[]) (mvT hZ (ow hw 7 rfl))) (mvT hZ (ow hw 7 rfl)) (mvT hZ (ow hw 6 rfl)) (by decide) (backOf (W := 0) (rm1_1 l Z a0 hw [] G q2 h0 n0 O0 ) hZ (ow hw 8 rfl) (ow hw 2 rfl) (by decide) (by decide)) q15a q15c (g := (mkF m 170 #[.val (.int p1), .val (.long q2), .second, .val (.int (1 : Int32)), .val (.ref w_INT8), .val (.long (((q2.toInt32).toInt8.toInt32).toInt64)), .second] [(.long q2), (.ref w_INT8)])) rfl (by rw [hml]; rfl) (Steps.refl _) (argsL := [(.long q2)]) (rest := []) (lenOf pd_0 rfl) rfl (by show 2 * 0 + _ ≤ _; exact Nat.le_of_eq rfl) (hb hby at_170) (fun _ _ => ⟨rfl, e14, (by decide : 0 + 0 ≤ _), (by decide : 0 + 0 ≤ _)⟩)
    dsimp only [Pt.U, Pt.locs, Pt.cells, Pt.slots] at X15 l15 y15 z15 st15 hQ15
    subst l15 y15 z15
    obtain ⟨rfl, N15q, e15⟩ := hQ15
    have N15 := Fr.app N0 N15q
    refine OGot.on st15 ?_
    show OGot p.tables e below (T15.setTop (mkF m 173 #[.val (.int p1), .val (.long q2), .second, .val (.int (1 : Int32)), .val (.ref w_INT8), .val (.long (((q2.toInt32).toInt8.toInt32).toInt64)), .second] [(.long ((q2 <<< ((56 : Int32) &&& 0x3f).toInt64) >>> ((56 : Int32) &&& 0x3f).toInt64))])) _
    refine OGot.go (fun t k => XS.lload X15.here hx rfl (hb hby at_173) rfl k) ?_
    show OGot p.tables e below (T15.setTop (mkF m 175 #[.val (.int p1), .val (.long q2), .second, .val (.int (1 : Int32)), .val (.ref w_INT8), .val (.long (((q2.toInt32).toInt8.toInt32).toInt64)), .second] [(.long (((q2.toInt32).toInt8.toInt32).toInt64)), (.long ((q2 <<< ((56 : Int32) &&& 0x3f).toInt64) >>> ((56 : Int32) &&& 0x3f).toInt64))])) _
    refine OGot.go (fun t k => XS.lcmp X15.here hx rfl (hb hby at_175) rfl k) ?_
    show OGot p.tables e below (T15.setTop (mkF m 176 #[.val (.int p1), .val (.long q2), .second, .val (.int (1 : Int32)), .val (.ref w_INT8), .val (.long (((q2.toInt32).toInt8.toInt32).toInt64)), .second] [(.int (lcmpW ((q2 <<< ((56 : Int32) &&& 0x3f).toInt64) >>> ((56 : Int32) &&& 0x3f).toInt64) (((q2.toInt32).toInt8.toInt32).toInt64)))])) _
    refine OGot.go (fun t k => XS.ifNo X15.here hx rfl (hb hby at_176) rfl ((if0 _ _).trans (teq ((lw_eq ((q2 <<< ((56 : Int32) &&& 0x3f).toInt64) >>> ((56 : Int32) &&& 0x3f).toInt64) (((q2.toInt32).toInt8.toInt32).toInt64)).mpr (own_w2 q2))).2) k) ?_
    show OGot p.tables e below (T15.setTop (mkF m 179 #[.val (.int p1), .val (.long q2), .second, .val (.int (1 : Int32)), .val (.ref w_INT8), .val (.long (((q2.toInt32).toInt8.toInt32).toInt64)), .second] [])) _
    refine OGot.go (fun t k => XS.iconst X15.here hx rfl (hb hby at_179) k) ?_
    show OGot p.tables e below (T15.setTop (mkF m 180 #[.val (.int p1), .val (.long q2), .second, .val (.int (1 : Int32)), .val (.ref w_INT8), .val (.long (((q2.toInt32).toInt8.toInt32).toInt64)), .second] [(.int (1 : Int32))])) _
    refine OGot.go (fun t k => XS.goto X15.here hx rfl (pc0 := 180) (pc' := 184) rfl (hb hby at_180) (by decide) (by decide) k) ?_
    show OGot p.tables e below (T15.setTop (mkF m 184 #[.val (.int p1), .val (.long q2), .second, .val (.int (1 : Int32)), .val (.ref w_INT8), .val (.long (((q2.toInt32).toInt8.toInt32).toInt64)), .second] [(.int (1 : Int32))])) _
    obtain ⟨fs, hr, hrun, hended, hW, hsame⟩ := X15.leave (v := some (.int (1 : Int32))) (fun h => by rw [Bd.returns] at h; cases h)
    refine ⟨_, _, retN X15 hx (t := .boolean) Bd.returns (by simp) (hb hby at_184) hr, hrun, hended, _, _, rfl, ?_, ⟨_, rfl⟩, hW, hsame.mono (by decide) (by decide)⟩
    exact (⟨rfl, N15⟩ : Q0 Z w_BOOL w_INT8 w_UINT8 w_INT64 w_UINT32 w_UINT16 w_INT16 w_UINT64 w_INT32 p1 q2 h0 n0 _ T15.heap _)
  · rw [hk5]
    show OGot p.tables e below (s₁.setTop (mkF m 7 #[.val (.int p1), .val (.long q2), .second, .unset, .unset, .unset, .unset] [(.int (2 : Int32))])) _
    refine OGot.go (fun t k => XS.istoreN X0.here hx rfl (hb hby at_7) rfl (l' := #[.val (.int p1), .val (.long q2), .second, .val (.int (2 : Int32)), .unset, .unset, .unset]) rfl k) ?_
    show OGot p.tables e below (s₁.setTop (mkF m 8 #[.val (.int p1), .val (.long q2), .second, .val (.int (2 : Int32)), .unset, .unset, .unset] [])) _
    refine OGot.go (fun t k => XS.iloadN X0.here hx rfl (hb hby at_8) rfl k) ?_
    show OGot p.tables e below (s₁.setTop (mkF m 9 #[.val (.int p1), .val (.long q2), .second, .val (.int (2 : Int32)), .unset, .unset, .unset] [(.int (2 : Int32))])) _
    refine OGot.go (fun t k => XS.ifYes X0.here hx rfl (pc0 := 9) (pc' := 25) rfl (hb hby at_9) rfl (by decide) (by decide) (by decide) k) ?_
    show OGot p.tables e below (s₁.setTop (mkF m 25 #[.val (.int p1), .val (.long q2), .second, .val (.int (2 : Int32)), .unset, .unset, .unset] [])) _
    refine OGot.go (fun t k => XS.iloadN X0.here hx rfl (hb hby at_25) rfl k) ?_
    show OGot p.tables e below (s₁.setTop (mkF m 26 #[.val (.int p1), .val (.long q2), .second, .val (.int (2 : Int32)), .unset, .unset, .unset] [(.int (2 : Int32))])) _
    refine OGot.go (fun t k => XS.iconst X0.here hx rfl (hb hby at_26) k) ?_
    show OGot p.tables e below (s₁.setTop (mkF m 27 #[.val (.int p1), .val (.long q2), .second, .val (.int (2 : Int32)), .unset, .unset, .unset] [(.int (1 : Int32)), (.int (2 : Int32))])) _
    refine OGot.go (fun t k => XS.icmpYes X0.here hx rfl (pc0 := 27) (pc' := 44) rfl (hb hby at_27) rfl (by decide) (by decide) (by decide) k) ?_
    show OGot p.tables e below (s₁.setTop (mkF m 44 #[.val (.int p1), .val (.long q2), .second, .val (.int (2 : Int32)), .unset, .unset, .unset] [])) _
    refine OGot.go (fun t k => XS.iloadN X0.here hx rfl (hb hby at_44) rfl k) ?_
    show OGot p.tables e below (s₁.setTop (mkF m 45 #[.val (.int p1), .val (.long q2), .second, .val (.int (2 : Int32)), .unset, .unset, .unset] [(.int (2 : Int32))])) _
    refine OGot.go (fun t k => XS.iconst X0.here hx rfl (hb hby at_45) k) ?_
    show OGot p.tables e below (s₁.setTop (mkF m 46 #[.val (.int p1), .val (.long q2), .second, .val (.int (2 : Int32)), .unset, .unset, .unset] [(.int (2 : Int32)), (.int (2 : Int32))])) _
    refine OGot.go (fun t k => XS.icmpNo X0.here hx rfl (hb hby at_46) rfl (by decide) k) ?_
    show OGot p.tables e below (s₁.setTop (mkF m 49 #[.val (.int p1), .val (.long q2), .second, .val (.int (2 : Int32)), .unset, .unset, .unset] [])) _
    obtain ⟨T16, X16, e16, st16⟩ := getS2 X0 hx hZ hown (host := "") (Or.inl (ow hw 15 rfl)) Via.refl e0 (G.2.2.2.2.1.ext O0.2) (g := (mkF m 49 #[.val (.int p1), .val (.long q2), .second, .val (.int (2 : Int32)), .unset, .unset, .unset] [])) rfl (hb hby at_49)
    refine OGot.go st16 ?_
    show OGot p.tables e below (T16.setTop (mkF m 52 #[.val (.int p1), .val (.long q2), .second, .val (.int (2 : Int32)), .unset, .unset, .unset] [(.ref w_UINT8)])) _
    refine OGot.go (fun t k => XS.astore X16.here hx rfl (hb hby at_52) rfl rfl (l' := #[.val (.int p1), .val (.long q2), .second, .val (.int (2 : Int32)), .val (.ref w_UINT8), .unset, .unset]) rfl k) ?_
    show OGot p.tables e below (T16.setTop (mkF m 54 #[.val (.int p1), .val (.long q2), .second, .val (.int (2 : Int32)), .val (.ref w_UINT8), .unset, .unset] [])) _
    refine OGot.go (fun t k => XS.lloadN X16.here hx rfl (hb hby at_54) rfl k) ?_
    show OGot p.tables e below (T16.setTop (mkF m 55 #[.val (.int p1), .val (.long q2), .second, .val (.int (2 : Int32)), .val (.ref w_UINT8), .unset, .unset] [(.long q2)])) _
    refine OGot.go (fun t k => X16.ldc2Long hx hown (mvT hZ (ow hw 17 rfl)) (g := (mkF m 55 #[.val (.int p1), .val (.long q2), .second, .val (.int (2 : Int32)), .val (.ref w_UINT8), .unset, .unset] [(.long q2)])) rfl (hb hby at_55) _ k) ?_
    show OGot p.tables e below (T16.setTop (mkF m 58 #[.val (.int p1), .val (.long q2), .second, .val (.int (2 : Int32)), .val (.ref w_UINT8), .unset, .unset] [(.long (255 : Int64)), (.long q2)])) _
    refine OGot.go (fun t k => XS.land X16.here hx rfl (hb hby at_58) rfl k) ?_
    show OGot p.tables e below (T16.setTop (mkF m 59 #[.val (.int p1), .val (.long q2), .second, .val (.int (2 : Int32)), .val (.ref w_UINT8), .unset, .unset] [(.long (q2 &&& (255 : Int64)))])) _
    refine OGot.go (fun t k => XS.lstore X16.here hx rfl (hb hby at_59) rfl (l' := #[.val (.int p1), .val (.long q2), .second, .val (.int (2 : Int32)), .val (.ref w_UINT8), .val (.long (q2 &&& (255 : Int64))), .second]) rfl k) ?_
    show OGot p.tables e below (T16.setTop (mkF m 61 #[.val (.int p1), .val (.long q2), .second, .val (.int (2 : Int32)), .val (.ref w_UINT8), .val (.long (q2 &&& (255 : Int64))), .second] [])) _
    refine OGot.go (fun t k => XS.goto X16.here hx rfl (pc0 := 61) (pc' := 167) rfl (hb hby at_61) (by decide) (by decide) k) ?_
    show OGot p.tables e below (T16.setTop (mkF m 167 #[.val (.int p1), .val (.long q2), .second, .val (.int (2 : Int32)), .val (.ref w_UINT8), .val (.long (q2 &&& (255 : Int64))), .second] [])) _
    refine OGot.go (fun t k => XS.aload X16.here hx rfl (hb hby at_167) rfl rfl k) ?_
    show OGot p.tables e below (T16.setTop (mkF m 169 #[.val (.int p1), .val (.long q2), .second, .val (.int (2 : Int32)), .val (.ref w_UINT8), .val (.long (q2 &&& (255 : Int64))), .second] [(.ref w_UINT8)])) _
    refine OGot.go (fun t k => XS.lloadN X16.here hx rfl (hb hby at_169) rfl k) ?_
    show OGot p.tables e below (T16.setTop (mkF m 170 #[.val (.int p1), .val (.long q2), .second, .val (.int (2 : Int32)), .val (.ref w_UINT8), .val (.long (q2 &&& (255 : Int64))), .second] [(.long q2), (.ref w_UINT8)])) _
    obtain ⟨cq17, kq17, q17a, q17b, q17c⟩ := isOf hZ e16 (G.2.2.2.2.2.1.ext O0.2)
    obtain ⟨_, _, ⟨T17, L17, k17, n17⟩, -, X17, ⟨Lc17, hQ17, l17, y17, z17⟩, st17⟩ := X16.virtualBack hx (y := (⟨"com/example/muster/muster/model/IntegerType", "wrap", "(J)J"⟩ : MethodName)) (z := (⟨"com/example/muster/muster/model/IntegerType", "wrap", "(J)J"⟩ : MethodName)) hown (mvT hZ (ow hw 4 rfl)) (mvT hZ (ow hw 5 rfl)) (notFace_of_selects (args := #[]) (mvT hZ (ow hw 7 rfl))) (mvT hZ (ow hw 7 rfl)) (mvT hZ (ow hw 6 rfl)) (by decide) (backOf (W := 0) (rm1_2 l Z a0 hw [] G q2 h0 n0 O0 ) hZ (ow hw 8 rfl) (ow hw 2 rfl) (by decide) (by decide)) q17a q17c (g := (mkF m 170 #[.val (.int p1), .val (.long q2), .second, .val (.int (2 : Int32)), .val (.ref w_UINT8), .val (.long (q2 &&& (255 : Int64))), .second] [(.long q2), (.ref w_UINT8)])) rfl (by rw [hml]; rfl) (Steps.refl _) (argsL := [(.long q2)]) (rest := []) (lenOf pd_0 rfl) rfl (by show 2 * 0 + _ ≤ _; exact Nat.le_of_eq rfl) (hb hby at_170) (fun _ _ => ⟨rfl, e16, (by decide : 0 + 0 ≤ _), (by decide : 0 + 0 ≤ _)⟩)
    dsimp only [Pt.U, Pt.locs, Pt.cells, Pt.slots] at X17 l17 y17 z17 st17 hQ17
    subst l17 y17 z17
    obtain ⟨rfl, N17q, e17⟩ := hQ17
    have N17 := Fr.app N0 N17q
    refine OGot.on st17 ?_
    show OGot p.tables e below (T17.setTop (mkF m 173 #[.val (.int p1), .val (.long q2), .second, .val (.int (2 : Int32)), .val (.ref w_UINT8), .val (.long (q2 &&& (255 : Int64))), .second] [(.long (((q2 <<< ((56 : Int32) &&& 0x3f).toInt64).toUInt64 >>> ((56 : Int32) &&& 0x3f).toInt64.toUInt64).toInt64))])) _
    refine OGot.go (fun t k => XS.lload X17.here hx rfl (hb hby at_173) rfl k) ?_
    show OGot p.tables e below (T17.setTop (mkF m 175 #[.val (.int p1), .val (.long q2), .second, .val (.int (2 : Int32)), .val (.ref w_UINT8), .val (.long (q2 &&& (255 : Int64))), .second] [(.long (q2 &&& (255 : Int64))), (.long (((q2 <<< ((56 : Int32) &&& 0x3f).toInt64).toUInt64 >>> ((56 : Int32) &&& 0x3f).toInt64.toUInt64).toInt64))])) _
    refine OGot.go (fun t k => XS.lcmp X17.here hx rfl (hb hby at_175) rfl k) ?_
    show OGot p.tables e below (T17.setTop (mkF m 176 #[.val (.int p1), .val (.long q2), .second, .val (.int (2 : Int32)), .val (.ref w_UINT8), .val (.long (q2 &&& (255 : Int64))), .second] [(.int (lcmpW (((q2 <<< ((56 : Int32) &&& 0x3f).toInt64).toUInt64 >>> ((56 : Int32) &&& 0x3f).toInt64.toUInt64).toInt64) (q2 &&& (255 : Int64))))])) _
    refine OGot.go (fun t k => XS.ifNo X17.here hx rfl (hb hby at_176) rfl ((if0 _ _).trans (teq ((lw_eq (((q2 <<< ((56 : Int32) &&& 0x3f).toInt64).toUInt64 >>> ((56 : Int32) &&& 0x3f).toInt64.toUInt64).toInt64) (q2 &&& (255 : Int64))).mpr (own_w3 q2))).2) k) ?_
    show OGot p.tables e below (T17.setTop (mkF m 179 #[.val (.int p1), .val (.long q2), .second, .val (.int (2 : Int32)), .val (.ref w_UINT8), .val (.long (q2 &&& (255 : Int64))), .second] [])) _
    refine OGot.go (fun t k => XS.iconst X17.here hx rfl (hb hby at_179) k) ?_
    show OGot p.tables e below (T17.setTop (mkF m 180 #[.val (.int p1), .val (.long q2), .second, .val (.int (2 : Int32)), .val (.ref w_UINT8), .val (.long (q2 &&& (255 : Int64))), .second] [(.int (1 : Int32))])) _
    refine OGot.go (fun t k => XS.goto X17.here hx rfl (pc0 := 180) (pc' := 184) rfl (hb hby at_180) (by decide) (by decide) k) ?_
    show OGot p.tables e below (T17.setTop (mkF m 184 #[.val (.int p1), .val (.long q2), .second, .val (.int (2 : Int32)), .val (.ref w_UINT8), .val (.long (q2 &&& (255 : Int64))), .second] [(.int (1 : Int32))])) _
    obtain ⟨fs, hr, hrun, hended, hW, hsame⟩ := X17.leave (v := some (.int (1 : Int32))) (fun h => by rw [Bd.returns] at h; cases h)
    refine ⟨_, _, retN X17 hx (t := .boolean) Bd.returns (by simp) (hb hby at_184) hr, hrun, hended, _, _, rfl, ?_, ⟨_, rfl⟩, hW, hsame.mono (by decide) (by decide)⟩
    exact (⟨rfl, N17⟩ : Q0 Z w_BOOL w_INT8 w_UINT8 w_INT64 w_UINT32 w_UINT16 w_INT16 w_UINT64 w_INT32 p1 q2 h0 n0 _ T17.heap _)
  · rw [hk6]
    show OGot p.tables e below (s₁.setTop (mkF m 7 #[.val (.int p1), .val (.long q2), .second, .unset, .unset, .unset, .unset] [(.int (3 : Int32))])) _
    refine OGot.go (fun t k => XS.istoreN X0.here hx rfl (hb hby at_7) rfl (l' := #[.val (.int p1), .val (.long q2), .second, .val (.int (3 : Int32)), .unset, .unset, .unset]) rfl k) ?_
    show OGot p.tables e below (s₁.setTop (mkF m 8 #[.val (.int p1), .val (.long q2), .second, .val (.int (3 : Int32)), .unset, .unset, .unset] [])) _
    refine OGot.go (fun t k => XS.iloadN X0.here hx rfl (hb hby at_8) rfl k) ?_
    show OGot p.tables e below (s₁.setTop (mkF m 9 #[.val (.int p1), .val (.long q2), .second, .val (.int (3 : Int32)), .unset, .unset, .unset] [(.int (3 : Int32))])) _
    refine OGot.go (fun t k => XS.ifYes X0.here hx rfl (pc0 := 9) (pc' := 25) rfl (hb hby at_9) rfl (by decide) (by decide) (by decide) k) ?_
    show OGot p.tables e below (s₁.setTop (mkF m 25 #[.val (.int p1), .val (.long q2), .second, .val (.int (3 : Int32)), .unset, .unset, .unset] [])) _
    refine OGot.go (fun t k => XS.iloadN X0.here hx rfl (hb hby at_25) rfl k) ?_
    show OGot p.tables e below (s₁.setTop (mkF m 26 #[.val (.int p1), .val (.long q2), .second, .val (.int (3 : Int32)), .unset, .unset, .unset] [(.int (3 : Int32))])) _
    refine OGot.go (fun t k => XS.iconst X0.here hx rfl (hb hby at_26) k) ?_
    show OGot p.tables e below (s₁.setTop (mkF m 27 #[.val (.int p1), .val (.long q2), .second, .val (.int (3 : Int32)), .unset, .unset, .unset] [(.int (1 : Int32)), (.int (3 : Int32))])) _
    refine OGot.go (fun t k => XS.icmpYes X0.here hx rfl (pc0 := 27) (pc' := 44) rfl (hb hby at_27) rfl (by decide) (by decide) (by decide) k) ?_
    show OGot p.tables e below (s₁.setTop (mkF m 44 #[.val (.int p1), .val (.long q2), .second, .val (.int (3 : Int32)), .unset, .unset, .unset] [])) _
    refine OGot.go (fun t k => XS.iloadN X0.here hx rfl (hb hby at_44) rfl k) ?_
    show OGot p.tables e below (s₁.setTop (mkF m 45 #[.val (.int p1), .val (.long q2), .second, .val (.int (3 : Int32)), .unset, .unset, .unset] [(.int (3 : Int32))])) _
    refine OGot.go (fun t k => XS.iconst X0.here hx rfl (hb hby at_45) k) ?_
    show OGot p.tables e below (s₁.setTop (mkF m 46 #[.val (.int p1), .val (.long q2), .second, .val (.int (3 : Int32)), .unset, .unset, .unset] [(.int (2 : Int32)), (.int (3 : Int32))])) _
    refine OGot.go (fun t k => XS.icmpYes X0.here hx rfl (pc0 := 46) (pc' := 64) rfl (hb hby at_46) rfl (by decide) (by decide) (by decide) k) ?_
    show OGot p.tables e below (s₁.setTop (mkF m 64 #[.val (.int p1), .val (.long q2), .second, .val (.int (3 : Int32)), .unset, .unset, .unset] [])) _
    refine OGot.go (fun t k => XS.iloadN X0.here hx rfl (hb hby at_64) rfl k) ?_
    show OGot p.tables e below (s₁.setTop (mkF m 65 #[.val (.int p1), .val (.long q2), .second, .val (.int (3 : Int32)), .unset, .unset, .unset] [(.int (3 : Int32))])) _
    refine OGot.go (fun t k => XS.iconst X0.here hx rfl (hb hby at_65) k) ?_
    show OGot p.tables e below (s₁.setTop (mkF m 66 #[.val (.int p1), .val (.long q2), .second, .val (.int (3 : Int32)), .unset, .unset, .unset] [(.int (3 : Int32)), (.int (3 : Int32))])) _
    refine OGot.go (fun t k => XS.icmpNo X0.here hx rfl (hb hby at_66) rfl (by decide) k) ?_
    show OGot p.tables e below (s₁.setTop (mkF m 69 #[.val (.int p1), .val (.long q2), .second, .val (.int (3 : Int32)), .unset, .unset, .unset] [])) _
    obtain ⟨T18, X18, e18, st18⟩ := getS2 X0 hx hZ hown (host := "") (Or.inl (ow hw 26 rfl)) Via.refl e0 (G.2.2.2.2.2.2.2.2.2.2.2.2.1.ext O0.2) (g := (mkF m 69 #[.val (.int p1), .val (.long q2), .second, .val (.int (3 : Int32)), .unset, .unset, .unset] [])) rfl (hb hby at_69)
    refine OGot.go st18 ?_
    show OGot p.tables e below (T18.setTop (mkF m 72 #[.val (.int p1), .val (.long q2), .second, .val (.int (3 : Int32)), .unset, .unset, .unset] [(.ref w_INT16)])) _
    refine OGot.go (fun t k => XS.astore X18.here hx rfl (hb hby at_72) rfl rfl (l' := #[.val (.int p1), .val (.long q2), .second, .val (.int (3 : Int32)), .val (.ref w_INT16), .unset, .unset]) rfl k) ?_
    show OGot p.tables e below (T18.setTop (mkF m 74 #[.val (.int p1), .val (.long q2), .second, .val (.int (3 : Int32)), .val (.ref w_INT16), .unset, .unset] [])) _
    refine OGot.go (fun t k => XS.lloadN X18.here hx rfl (hb hby at_74) rfl k) ?_
    show OGot p.tables e below (T18.setTop (mkF m 75 #[.val (.int p1), .val (.long q2), .second, .val (.int (3 : Int32)), .val (.ref w_INT16), .unset, .unset] [(.long q2)])) _
    refine OGot.go (fun t k => XS.l2i X18.here hx rfl (hb hby at_75) rfl k) ?_
    show OGot p.tables e below (T18.setTop (mkF m 76 #[.val (.int p1), .val (.long q2), .second, .val (.int (3 : Int32)), .val (.ref w_INT16), .unset, .unset] [(.int (q2.toInt32))])) _
    refine OGot.go (fun t k => XS.i2s X18.here hx rfl (hb hby at_76) rfl k) ?_
    show OGot p.tables e below (T18.setTop (mkF m 77 #[.val (.int p1), .val (.long q2), .second, .val (.int (3 : Int32)), .val (.ref w_INT16), .unset, .unset] [(.int ((q2.toInt32).toInt16.toInt32))])) _
    refine OGot.go (fun t k => XS.i2l X18.here hx rfl (hb hby at_77) rfl k) ?_
    show OGot p.tables e below (T18.setTop (mkF m 78 #[.val (.int p1), .val (.long q2), .second, .val (.int (3 : Int32)), .val (.ref w_INT16), .unset, .unset] [(.long (((q2.toInt32).toInt16.toInt32).toInt64))])) _
    refine OGot.go (fun t k => XS.lstore X18.here hx rfl (hb hby at_78) rfl (l' := #[.val (.int p1), .val (.long q2), .second, .val (.int (3 : Int32)), .val (.ref w_INT16), .val (.long (((q2.toInt32).toInt16.toInt32).toInt64)), .second]) rfl k) ?_
    show OGot p.tables e below (T18.setTop (mkF m 80 #[.val (.int p1), .val (.long q2), .second, .val (.int (3 : Int32)), .val (.ref w_INT16), .val (.long (((q2.toInt32).toInt16.toInt32).toInt64)), .second] [])) _
    refine OGot.go (fun t k => XS.goto X18.here hx rfl (pc0 := 80) (pc' := 167) rfl (hb hby at_80) (by decide) (by decide) k) ?_
    show OGot p.tables e below (T18.setTop (mkF m 167 #[.val (.int p1), .val (.long q2), .second, .val (.int (3 : Int32)), .val (.ref w_INT16), .val (.long (((q2.toInt32).toInt16.toInt32).toInt64)), .second] [])) _
    refine OGot.go (fun t k => XS.aload X18.here hx rfl (hb hby at_167) rfl rfl k) ?_
    show OGot p.tables e below (T18.setTop (mkF m 169 #[.val (.int p1), .val (.long q2), .second, .val (.int (3 : Int32)), .val (.ref w_INT16), .val (.long (((q2.toInt32).toInt16.toInt32).toInt64)), .second] [(.ref w_INT16)])) _
    refine OGot.go (fun t k => XS.lloadN X18.here hx rfl (hb hby at_169) rfl k) ?_
    show OGot p.tables e below (T18.setTop (mkF m 170 #[.val (.int p1), .val (.long q2), .second, .val (.int (3 : Int32)), .val (.ref w_INT16), .val (.long (((q2.toInt32).toInt16.toInt32).toInt64)), .second] [(.long q2), (.ref w_INT16)])) _
    obtain ⟨cq19, kq19, q19a, q19b, q19c⟩ := isOf hZ e18 (G.2.2.2.2.2.2.2.2.2.2.2.2.2.1.ext O0.2)
    obtain ⟨_, _, ⟨T19, L19, k19, n19⟩, -, X19, ⟨Lc19, hQ19, l19, y19, z19⟩, st19⟩ := X18.virtualBack hx (y := (⟨"com/example/muster/muster/model/IntegerType", "wrap", "(J)J"⟩ : MethodName)) (z := (⟨"com/example/muster/muster/model/IntegerType", "wrap", "(J)J"⟩ : MethodName)) hown (mvT hZ (ow hw 4 rfl)) (mvT hZ (ow hw 5 rfl)) (notFace_of_selects (args := #[]) (mvT hZ (ow hw 7 rfl))) (mvT hZ (ow hw 7 rfl)) (mvT hZ (ow hw 6 rfl)) (by decide) (backOf (W := 0) (rm1_3 l Z a0 hw [] G q2 h0 n0 O0 ) hZ (ow hw 8 rfl) (ow hw 2 rfl) (by decide) (by decide)) q19a q19c (g := (mkF m 170 #[.val (.int p1), .val (.long q2), .second, .val (.int (3 : Int32)), .val (.ref w_INT16), .val (.long (((q2.toInt32).toInt16.toInt32).toInt64)), .second] [(.long q2), (.ref w_INT16)])) rfl (by rw [hml]; rfl) (Steps.refl _) (argsL := [(.long q2)]) (rest := []) (lenOf pd_0 rfl) rfl (by show 2 * 0 + _ ≤ _; exact Nat.le_of_eq rfl) (hb hby at_170) (fun _ _ => ⟨rfl, e18, (by decide : 0 + 0 ≤ _), (by decide : 0 + 0 ≤ _)⟩)
    dsimp only [Pt.U, Pt.locs, Pt.cells, Pt.slots] at X19 l19 y19 z19 st19 hQ19
    subst l19 y19 z19
    obtain ⟨rfl, N19q, e19⟩ := hQ19
    have N19 := Fr.app N0 N19q
    refine OGot.on st19 ?_
    show OGot p.tables e below (T19.setTop (mkF m 173 #[.val (.int p1), .val (.long q2), .second, .val (.int (3 : Int32)), .val (.ref w_INT16), .val (.long (((q2.toInt32).toInt16.toInt32).toInt64)), .second] [(.long ((q2 <<< ((48 : Int32) &&& 0x3f).toInt64) >>> ((48 : Int32) &&& 0x3f).toInt64))])) _
    refine OGot.go (fun t k => XS.lload X19.here hx rfl (hb hby at_173) rfl k) ?_
    show OGot p.tables e below (T19.setTop (mkF m 175 #[.val (.int p1), .val (.long q2), .second, .val (.int (3 : Int32)), .val (.ref w_INT16), .val (.long (((q2.toInt32).toInt16.toInt32).toInt64)), .second] [(.long (((q2.toInt32).toInt16.toInt32).toInt64)), (.long ((q2 <<< ((48 : Int32) &&& 0x3f).toInt64) >>> ((48 : Int32) &&& 0x3f).toInt64))])) _
    refine OGot.go (fun t k => XS.lcmp X19.here hx rfl (hb hby at_175) rfl k) ?_
    show OGot p.tables e below (T19.setTop (mkF m 176 #[.val (.int p1), .val (.long q2), .second, .val (.int (3 : Int32)), .val (.ref w_INT16), .val (.long (((q2.toInt32).toInt16.toInt32).toInt64)), .second] [(.int (lcmpW ((q2 <<< ((48 : Int32) &&& 0x3f).toInt64) >>> ((48 : Int32) &&& 0x3f).toInt64) (((q2.toInt32).toInt16.toInt32).toInt64)))])) _
    refine OGot.go (fun t k => XS.ifNo X19.here hx rfl (hb hby at_176) rfl ((if0 _ _).trans (teq ((lw_eq ((q2 <<< ((48 : Int32) &&& 0x3f).toInt64) >>> ((48 : Int32) &&& 0x3f).toInt64) (((q2.toInt32).toInt16.toInt32).toInt64)).mpr (own_w4 q2))).2) k) ?_
    show OGot p.tables e below (T19.setTop (mkF m 179 #[.val (.int p1), .val (.long q2), .second, .val (.int (3 : Int32)), .val (.ref w_INT16), .val (.long (((q2.toInt32).toInt16.toInt32).toInt64)), .second] [])) _
    refine OGot.go (fun t k => XS.iconst X19.here hx rfl (hb hby at_179) k) ?_
    show OGot p.tables e below (T19.setTop (mkF m 180 #[.val (.int p1), .val (.long q2), .second, .val (.int (3 : Int32)), .val (.ref w_INT16), .val (.long (((q2.toInt32).toInt16.toInt32).toInt64)), .second] [(.int (1 : Int32))])) _
    refine OGot.go (fun t k => XS.goto X19.here hx rfl (pc0 := 180) (pc' := 184) rfl (hb hby at_180) (by decide) (by decide) k) ?_
    show OGot p.tables e below (T19.setTop (mkF m 184 #[.val (.int p1), .val (.long q2), .second, .val (.int (3 : Int32)), .val (.ref w_INT16), .val (.long (((q2.toInt32).toInt16.toInt32).toInt64)), .second] [(.int (1 : Int32))])) _
    obtain ⟨fs, hr, hrun, hended, hW, hsame⟩ := X19.leave (v := some (.int (1 : Int32))) (fun h => by rw [Bd.returns] at h; cases h)
    refine ⟨_, _, retN X19 hx (t := .boolean) Bd.returns (by simp) (hb hby at_184) hr, hrun, hended, _, _, rfl, ?_, ⟨_, rfl⟩, hW, hsame.mono (by decide) (by decide)⟩
    exact (⟨rfl, N19⟩ : Q0 Z w_BOOL w_INT8 w_UINT8 w_INT64 w_UINT32 w_UINT16 w_INT16 w_UINT64 w_INT32 p1 q2 h0 n0 _ T19.heap _)
  · rw [hk7]
    show OGot p.tables e below (s₁.setTop (mkF m 7 #[.val (.int p1), .val (.long q2), .second, .unset, .unset, .unset, .unset] [(.int (4 : Int32))])) _
    refine OGot.go (fun t k => XS.istoreN X0.here hx rfl (hb hby at_7) rfl (l' := #[.val (.int p1), .val (.long q2), .second, .val (.int (4 : Int32)), .unset, .unset, .unset]) rfl k) ?_
    show OGot p.tables e below (s₁.setTop (mkF m 8 #[.val (.int p1), .val (.long q2), .second, .val (.int (4 : Int32)), .unset, .unset, .unset] [])) _
    refine OGot.go (fun t k => XS.iloadN X0.here hx rfl (hb hby at_8) rfl k) ?_
    show OGot p.tables e below (s₁.setTop (mkF m 9 #[.val (.int p1), .val (.long q2), .second, .val (.int (4 : Int32)), .unset, .unset, .unset] [(.int (4 : Int32))])) _
    refine OGot.go (fun t k => XS.ifYes X0.here hx rfl (pc0 := 9) (pc' := 25) rfl (hb hby at_9) rfl (by decide) (by decide) (by decide) k) ?_
    show OGot p.tables e below (s₁.setTop (mkF m 25 #[.val (.int p1), .val (.long q2), .second, .val (.int (4 : Int32)), .unset, .unset, .unset] [])) _
    refine OGot.go (fun t k => XS.iloadN X0.here hx rfl (hb hby at_25) rfl k) ?_
    show OGot p.tables e below (s₁.setTop (mkF m 26 #[.val (.int p1), .val (.long q2), .second, .val (.int (4 : Int32)), .unset, .unset, .unset] [(.int (4 : Int32))])) _
    refine OGot.go (fun t k => XS.iconst X0.here hx rfl (hb hby at_26) k) ?_
    show OGot p.tables e below (s₁.setTop (mkF m 27 #[.val (.int p1), .val (.long q2), .second, .val (.int (4 : Int32)), .unset, .unset, .unset] [(.int (1 : Int32)), (.int (4 : Int32))])) _
    refine OGot.go (fun t k => XS.icmpYes X0.here hx rfl (pc0 := 27) (pc' := 44) rfl (hb hby at_27) rfl (by decide) (by decide) (by decide) k) ?_
    show OGot p.tables e below (s₁.setTop (mkF m 44 #[.val (.int p1), .val (.long q2), .second, .val (.int (4 : Int32)), .unset, .unset, .unset] [])) _
    refine OGot.go (fun t k => XS.iloadN X0.here hx rfl (hb hby at_44) rfl k) ?_
    show OGot p.tables e below (s₁.setTop (mkF m 45 #[.val (.int p1), .val (.long q2), .second, .val (.int (4 : Int32)), .unset, .unset, .unset] [(.int (4 : Int32))])) _
    refine OGot.go (fun t k => XS.iconst X0.here hx rfl (hb hby at_45) k) ?_
    show OGot p.tables e below (s₁.setTop (mkF m 46 #[.val (.int p1), .val (.long q2), .second, .val (.int (4 : Int32)), .unset, .unset, .unset] [(.int (2 : Int32)), (.int (4 : Int32))])) _
    refine OGot.go (fun t k => XS.icmpYes X0.here hx rfl (pc0 := 46) (pc' := 64) rfl (hb hby at_46) rfl (by decide) (by decide) (by decide) k) ?_
    show OGot p.tables e below (s₁.setTop (mkF m 64 #[.val (.int p1), .val (.long q2), .second, .val (.int (4 : Int32)), .unset, .unset, .unset] [])) _
    refine OGot.go (fun t k => XS.iloadN X0.here hx rfl (hb hby at_64) rfl k) ?_
    show OGot p.tables e below (s₁.setTop (mkF m 65 #[.val (.int p1), .val (.long q2), .second, .val (.int (4 : Int32)), .unset, .unset, .unset] [(.int (4 : Int32))])) _
    refine OGot.go (fun t k => XS.iconst X0.here hx rfl (hb hby at_65) k) ?_
    show OGot p.tables e below (s₁.setTop (mkF m 66 #[.val (.int p1), .val (.long q2), .second, .val (.int (4 : Int32)), .unset, .unset, .unset] [(.int (3 : Int32)), (.int (4 : Int32))])) _
    refine OGot.go (fun t k => XS.icmpYes X0.here hx rfl (pc0 := 66) (pc' := 83) rfl (hb hby at_66) rfl (by decide) (by decide) (by decide) k) ?_
    show OGot p.tables e below (s₁.setTop (mkF m 83 #[.val (.int p1), .val (.long q2), .second, .val (.int (4 : Int32)), .unset, .unset, .unset] [])) _
    refine OGot.go (fun t k => XS.iloadN X0.here hx rfl (hb hby at_83) rfl k) ?_
    show OGot p.tables e below (s₁.setTop (mkF m 84 #[.val (.int p1), .val (.long q2), .second, .val (.int (4 : Int32)), .unset, .unset, .unset] [(.int (4 : Int32))])) _
    refine OGot.go (fun t k => XS.iconst X0.here hx rfl (hb hby at_84) k) ?_
    show OGot p.tables e below (s₁.setTop (mkF m 85 #[.val (.int p1), .val (.long q2), .second, .val (.int (4 : Int32)), .unset, .unset, .unset] [(.int (4 : Int32)), (.int (4 : Int32))])) _
    refine OGot.go (fun t k => XS.icmpNo X0.here hx rfl (hb hby at_85) rfl (by decide) k) ?_
    show OGot p.tables e below (s₁.setTop (mkF m 88 #[.val (.int p1), .val (.long q2), .second, .val (.int (4 : Int32)), .unset, .unset, .unset] [])) _
    obtain ⟨T20, X20, e20, st20⟩ := getS2 X0 hx hZ hown (host := "") (Or.inl (ow hw 23 rfl)) Via.refl e0 (G.2.2.2.2.2.2.2.2.2.2.1.ext O0.2) (g := (mkF m 88 #[.val (.int p1), .val (.long q2), .second, .val (.int (4 : Int32)), .unset, .unset, .unset] [])) rfl (hb hby at_88)
    refine OGot.go st20 ?_
    show OGot p.tables e below (T20.setTop (mkF m 91 #[.val (.int p1), .val (.long q2), .second, .val (.int (4 : Int32)), .unset, .unset, .unset] [(.ref w_UINT16)])) _
    refine OGot.go (fun t k => XS.astore X20.here hx rfl (hb hby at_91) rfl rfl (l' := #[.val (.int p1), .val (.long q2), .second, .val (.int (4 : Int32)), .val (.ref w_UINT16), .unset, .unset]) rfl k) ?_
    show OGot p.tables e below (T20.setTop (mkF m 93 #[.val (.int p1), .val (.long q2), .second, .val (.int (4 : Int32)), .val (.ref w_UINT16), .unset, .unset] [])) _
    refine OGot.go (fun t k => XS.lloadN X20.here hx rfl (hb hby at_93) rfl k) ?_
    show OGot p.tables e below (T20.setTop (mkF m 94 #[.val (.int p1), .val (.long q2), .second, .val (.int (4 : Int32)), .val (.ref w_UINT16), .unset, .unset] [(.long q2)])) _
    refine OGot.go (fun t k => X20.ldc2Long hx hown (mvT hZ (ow hw 25 rfl)) (g := (mkF m 94 #[.val (.int p1), .val (.long q2), .second, .val (.int (4 : Int32)), .val (.ref w_UINT16), .unset, .unset] [(.long q2)])) rfl (hb hby at_94) _ k) ?_
    show OGot p.tables e below (T20.setTop (mkF m 97 #[.val (.int p1), .val (.long q2), .second, .val (.int (4 : Int32)), .val (.ref w_UINT16), .unset, .unset] [(.long (65535 : Int64)), (.long q2)])) _
    refine OGot.go (fun t k => XS.land X20.here hx rfl (hb hby at_97) rfl k) ?_
    show OGot p.tables e below (T20.setTop (mkF m 98 #[.val (.int p1), .val (.long q2), .second, .val (.int (4 : Int32)), .val (.ref w_UINT16), .unset, .unset] [(.long (q2 &&& (65535 : Int64)))])) _
    refine OGot.go (fun t k => XS.lstore X20.here hx rfl (hb hby at_98) rfl (l' := #[.val (.int p1), .val (.long q2), .second, .val (.int (4 : Int32)), .val (.ref w_UINT16), .val (.long (q2 &&& (65535 : Int64))), .second]) rfl k) ?_
    show OGot p.tables e below (T20.setTop (mkF m 100 #[.val (.int p1), .val (.long q2), .second, .val (.int (4 : Int32)), .val (.ref w_UINT16), .val (.long (q2 &&& (65535 : Int64))), .second] [])) _
    refine OGot.go (fun t k => XS.goto X20.here hx rfl (pc0 := 100) (pc' := 167) rfl (hb hby at_100) (by decide) (by decide) k) ?_
    show OGot p.tables e below (T20.setTop (mkF m 167 #[.val (.int p1), .val (.long q2), .second, .val (.int (4 : Int32)), .val (.ref w_UINT16), .val (.long (q2 &&& (65535 : Int64))), .second] [])) _
    refine OGot.go (fun t k => XS.aload X20.here hx rfl (hb hby at_167) rfl rfl k) ?_
    show OGot p.tables e below (T20.setTop (mkF m 169 #[.val (.int p1), .val (.long q2), .second, .val (.int (4 : Int32)), .val (.ref w_UINT16), .val (.long (q2 &&& (65535 : Int64))), .second] [(.ref w_UINT16)])) _
    refine OGot.go (fun t k => XS.lloadN X20.here hx rfl (hb hby at_169) rfl k) ?_
    show OGot p.tables e below (T20.setTop (mkF m 170 #[.val (.int p1), .val (.long q2), .second, .val (.int (4 : Int32)), .val (.ref w_UINT16), .val (.long (q2 &&& (65535 : Int64))), .second] [(.long q2), (.ref w_UINT16)])) _
    obtain ⟨cq21, kq21, q21a, q21b, q21c⟩ := isOf hZ e20 (G.2.2.2.2.2.2.2.2.2.2.2.1.ext O0.2)
    obtain ⟨_, _, ⟨T21, L21, k21, n21⟩, -, X21, ⟨Lc21, hQ21, l21, y21, z21⟩, st21⟩ := X20.virtualBack hx (y := (⟨"com/example/muster/muster/model/IntegerType", "wrap", "(J)J"⟩ : MethodName)) (z := (⟨"com/example/muster/muster/model/IntegerType", "wrap", "(J)J"⟩ : MethodName)) hown (mvT hZ (ow hw 4 rfl)) (mvT hZ (ow hw 5 rfl)) (notFace_of_selects (args := #[]) (mvT hZ (ow hw 7 rfl))) (mvT hZ (ow hw 7 rfl)) (mvT hZ (ow hw 6 rfl)) (by decide) (backOf (W := 0) (rm1_4 l Z a0 hw [] G q2 h0 n0 O0 ) hZ (ow hw 8 rfl) (ow hw 2 rfl) (by decide) (by decide)) q21a q21c (g := (mkF m 170 #[.val (.int p1), .val (.long q2), .second, .val (.int (4 : Int32)), .val (.ref w_UINT16), .val (.long (q2 &&& (65535 : Int64))), .second] [(.long q2), (.ref w_UINT16)])) rfl (by rw [hml]; rfl) (Steps.refl _) (argsL := [(.long q2)]) (rest := []) (lenOf pd_0 rfl) rfl (by show 2 * 0 + _ ≤ _; exact Nat.le_of_eq rfl) (hb hby at_170) (fun _ _ => ⟨rfl, e20, (by decide : 0 + 0 ≤ _), (by decide : 0 + 0 ≤ _)⟩)
    dsimp only [Pt.U, Pt.locs, Pt.cells, Pt.slots] at X21 l21 y21 z21 st21 hQ21
    subst l21 y21 z21
    obtain ⟨rfl, N21q, e21⟩ := hQ21
    have N21 := Fr.app N0 N21q
    refine OGot.on st21 ?_
    show OGot p.tables e below (T21.setTop (mkF m 173 #[.val (.int p1), .val (.long q2), .second, .val (.int (4 : Int32)), .val (.ref w_UINT16), .val (.long (q2 &&& (65535 : Int64))), .second] [(.long (((q2 <<< ((48 : Int32) &&& 0x3f).toInt64).toUInt64 >>> ((48 : Int32) &&& 0x3f).toInt64.toUInt64).toInt64))])) _
    refine OGot.go (fun t k => XS.lload X21.here hx rfl (hb hby at_173) rfl k) ?_
    show OGot p.tables e below (T21.setTop (mkF m 175 #[.val (.int p1), .val (.long q2), .second, .val (.int (4 : Int32)), .val (.ref w_UINT16), .val (.long (q2 &&& (65535 : Int64))), .second] [(.long (q2 &&& (65535 : Int64))), (.long (((q2 <<< ((48 : Int32) &&& 0x3f).toInt64).toUInt64 >>> ((48 : Int32) &&& 0x3f).toInt64.toUInt64).toInt64))])) _
    refine OGot.go (fun t k => XS.lcmp X21.here hx rfl (hb hby at_175) rfl k) ?_
    show OGot p.tables e below (T21.setTop (mkF m 176 #[.val (.int p1), .val (.long q2), .second, .val (.int (4 : Int32)), .val (.ref w_UINT16), .val (.long (q2 &&& (65535 : Int64))), .second] [(.int (lcmpW (((q2 <<< ((48 : Int32) &&& 0x3f).toInt64).toUInt64 >>> ((48 : Int32) &&& 0x3f).toInt64.toUInt64).toInt64) (q2 &&& (65535 : Int64))))])) _
    refine OGot.go (fun t k => XS.ifNo X21.here hx rfl (hb hby at_176) rfl ((if0 _ _).trans (teq ((lw_eq (((q2 <<< ((48 : Int32) &&& 0x3f).toInt64).toUInt64 >>> ((48 : Int32) &&& 0x3f).toInt64.toUInt64).toInt64) (q2 &&& (65535 : Int64))).mpr (own_w5 q2))).2) k) ?_
    show OGot p.tables e below (T21.setTop (mkF m 179 #[.val (.int p1), .val (.long q2), .second, .val (.int (4 : Int32)), .val (.ref w_UINT16), .val (.long (q2 &&& (65535 : Int64))), .second] [])) _
    refine OGot.go (fun t k => XS.iconst X21.here hx rfl (hb hby at_179) k) ?_
    show OGot p.tables e below (T21.setTop (mkF m 180 #[.val (.int p1), .val (.long q2), .second, .val (.int (4 : Int32)), .val (.ref w_UINT16), .val (.long (q2 &&& (65535 : Int64))), .second] [(.int (1 : Int32))])) _
    refine OGot.go (fun t k => XS.goto X21.here hx rfl (pc0 := 180) (pc' := 184) rfl (hb hby at_180) (by decide) (by decide) k) ?_
    show OGot p.tables e below (T21.setTop (mkF m 184 #[.val (.int p1), .val (.long q2), .second, .val (.int (4 : Int32)), .val (.ref w_UINT16), .val (.long (q2 &&& (65535 : Int64))), .second] [(.int (1 : Int32))])) _
    obtain ⟨fs, hr, hrun, hended, hW, hsame⟩ := X21.leave (v := some (.int (1 : Int32))) (fun h => by rw [Bd.returns] at h; cases h)
    refine ⟨_, _, retN X21 hx (t := .boolean) Bd.returns (by simp) (hb hby at_184) hr, hrun, hended, _, _, rfl, ?_, ⟨_, rfl⟩, hW, hsame.mono (by decide) (by decide)⟩
    exact (⟨rfl, N21⟩ : Q0 Z w_BOOL w_INT8 w_UINT8 w_INT64 w_UINT32 w_UINT16 w_INT16 w_UINT64 w_INT32 p1 q2 h0 n0 _ T21.heap _)
  · rw [hk8]
    show OGot p.tables e below (s₁.setTop (mkF m 7 #[.val (.int p1), .val (.long q2), .second, .unset, .unset, .unset, .unset] [(.int (5 : Int32))])) _
    refine OGot.go (fun t k => XS.istoreN X0.here hx rfl (hb hby at_7) rfl (l' := #[.val (.int p1), .val (.long q2), .second, .val (.int (5 : Int32)), .unset, .unset, .unset]) rfl k) ?_
    show OGot p.tables e below (s₁.setTop (mkF m 8 #[.val (.int p1), .val (.long q2), .second, .val (.int (5 : Int32)), .unset, .unset, .unset] [])) _
    refine OGot.go (fun t k => XS.iloadN X0.here hx rfl (hb hby at_8) rfl k) ?_
    show OGot p.tables e below (s₁.setTop (mkF m 9 #[.val (.int p1), .val (.long q2), .second, .val (.int (5 : Int32)), .unset, .unset, .unset] [(.int (5 : Int32))])) _
    refine OGot.go (fun t k => XS.ifYes X0.here hx rfl (pc0 := 9) (pc' := 25) rfl (hb hby at_9) rfl (by decide) (by decide) (by decide) k) ?_
    show OGot p.tables e below (s₁.setTop (mkF m 25 #[.val (.int p1), .val (.long q2), .second, .val (.int (5 : Int32)), .unset, .unset, .unset] [])) _
    refine OGot.go (fun t k => XS.iloadN X0.here hx rfl (hb hby at_25) rfl k) ?_
    show OGot p.tables e below (s₁.setTop (mkF m 26 #[.val (.int p1), .val (.long q2), .second, .val (.int (5 : Int32)), .unset, .unset, .unset] [(.int (5 : Int32))])) _
    refine OGot.go (fun t k => XS.iconst X0.here hx rfl (hb hby at_26) k) ?_
    show OGot p.tables e below (s₁.setTop (mkF m 27 #[.val (.int p1), .val (.long q2), .second, .val (.int (5 : Int32)), .unset, .unset, .unset] [(.int (1 : Int32)), (.int (5 : Int32))])) _
    refine OGot.go (fun t k => XS.icmpYes X0.here hx rfl (pc0 := 27) (pc' := 44) rfl (hb hby at_27) rfl (by decide) (by decide) (by decide) k) ?_
    show OGot p.tables e below (s₁.setTop (mkF m 44 #[.val (.int p1), .val (.long q2), .second, .val (.int (5 : Int32)), .unset, .unset, .unset] [])) _
    refine OGot.go (fun t k => XS.iloadN X0.here hx rfl (hb hby at_44) rfl k) ?_
    show OGot p.tables e below (s₁.setTop (mkF m 45 #[.val (.int p1), .val (.long q2), .second, .val (.int (5 : Int32)), .unset, .unset, .unset] [(.int (5 : Int32))])) _
    refine OGot.go (fun t k => XS.iconst X0.here hx rfl (hb hby at_45) k) ?_
    show OGot p.tables e below (s₁.setTop (mkF m 46 #[.val (.int p1), .val (.long q2), .second, .val (.int (5 : Int32)), .unset, .unset, .unset] [(.int (2 : Int32)), (.int (5 : Int32))])) _
    refine OGot.go (fun t k => XS.icmpYes X0.here hx rfl (pc0 := 46) (pc' := 64) rfl (hb hby at_46) rfl (by decide) (by decide) (by decide) k) ?_
    show OGot p.tables e below (s₁.setTop (mkF m 64 #[.val (.int p1), .val (.long q2), .second, .val (.int (5 : Int32)), .unset, .unset, .unset] [])) _
    refine OGot.go (fun t k => XS.iloadN X0.here hx rfl (hb hby at_64) rfl k) ?_
    show OGot p.tables e below (s₁.setTop (mkF m 65 #[.val (.int p1), .val (.long q2), .second, .val (.int (5 : Int32)), .unset, .unset, .unset] [(.int (5 : Int32))])) _
    refine OGot.go (fun t k => XS.iconst X0.here hx rfl (hb hby at_65) k) ?_
    show OGot p.tables e below (s₁.setTop (mkF m 66 #[.val (.int p1), .val (.long q2), .second, .val (.int (5 : Int32)), .unset, .unset, .unset] [(.int (3 : Int32)), (.int (5 : Int32))])) _
    refine OGot.go (fun t k => XS.icmpYes X0.here hx rfl (pc0 := 66) (pc' := 83) rfl (hb hby at_66) rfl (by decide) (by decide) (by decide) k) ?_
    show OGot p.tables e below (s₁.setTop (mkF m 83 #[.val (.int p1), .val (.long q2), .second, .val (.int (5 : Int32)), .unset, .unset, .unset] [])) _
    refine OGot.go (fun t k => XS.iloadN X0.here hx rfl (hb hby at_83) rfl k) ?_
    show OGot p.tables e below (s₁.setTop (mkF m 84 #[.val (.int p1), .val (.long q2), .second, .val (.int (5 : Int32)), .unset, .unset, .unset] [(.int (5 : Int32))])) _
    refine OGot.go (fun t k => XS.iconst X0.here hx rfl (hb hby at_84) k) ?_
    show OGot p.tables e below (s₁.setTop (mkF m 85 #[.val (.int p1), .val (.long q2), .second, .val (.int (5 : Int32)), .unset, .unset, .unset] [(.int (4 : Int32)), (.int (5 : Int32))])) _
    refine OGot.go (fun t k => XS.icmpYes X0.here hx rfl (pc0 := 85) (pc' := 103) rfl (hb hby at_85) rfl (by decide) (by decide) (by decide) k) ?_
    show OGot p.tables e below (s₁.setTop (mkF m 103 #[.val (.int p1), .val (.long q2), .second, .val (.int (5 : Int32)), .unset, .unset, .unset] [])) _
    refine OGot.go (fun t k => XS.iloadN X0.here hx rfl (hb hby at_103) rfl k) ?_
    show OGot p.tables e below (s₁.setTop (mkF m 104 #[.val (.int p1), .val (.long q2), .second, .val (.int (5 : Int32)), .unset, .unset, .unset] [(.int (5 : Int32))])) _
    refine OGot.go (fun t k => XS.iconst X0.here hx rfl (hb hby at_104) k) ?_
    show OGot p.tables e below (s₁.setTop (mkF m 105 #[.val (.int p1), .val (.long q2), .second, .val (.int (5 : Int32)), .unset, .unset, .unset] [(.int (5 : Int32)), (.int (5 : Int32))])) _
    refine OGot.go (fun t k => XS.icmpNo X0.here hx rfl (hb hby at_105) rfl (by decide) k) ?_
    show OGot p.tables e below (s₁.setTop (mkF m 108 #[.val (.int p1), .val (.long q2), .second, .val (.int (5 : Int32)), .unset, .unset, .unset] [])) _
    obtain ⟨T22, X22, e22, st22⟩ := getS2 X0 hx hZ hown (host := "") (Or.inl (ow hw 30 rfl)) Via.refl e0 (G.2.2.2.2.2.2.2.2.2.2.2.2.2.2.2.2.1.ext O0.2) (g := (mkF m 108 #[.val (.int p1), .val (.long q2), .second, .val (.int (5 : Int32)), .unset, .unset, .unset] [])) rfl (hb hby at_108)
    refine OGot.go st22 ?_
    show OGot p.tables e below (T22.setTop (mkF m 111 #[.val (.int p1), .val (.long q2), .second, .val (.int (5 : Int32)), .unset, .unset, .unset] [(.ref w_INT32)])) _
    refine OGot.go (fun t k => XS.astore X22.here hx rfl (hb hby at_111) rfl rfl (l' := #[.val (.int p1), .val (.long q2), .second, .val (.int (5 : Int32)), .val (.ref w_INT32), .unset, .unset]) rfl k) ?_
    show OGot p.tables e below (T22.setTop (mkF m 113 #[.val (.int p1), .val (.long q2), .second, .val (.int (5 : Int32)), .val (.ref w_INT32), .unset, .unset] [])) _
    refine OGot.go (fun t k => XS.lloadN X22.here hx rfl (hb hby at_113) rfl k) ?_
    show OGot p.tables e below (T22.setTop (mkF m 114 #[.val (.int p1), .val (.long q2), .second, .val (.int (5 : Int32)), .val (.ref w_INT32), .unset, .unset] [(.long q2)])) _
    refine OGot.go (fun t k => XS.l2i X22.here hx rfl (hb hby at_114) rfl k) ?_
    show OGot p.tables e below (T22.setTop (mkF m 115 #[.val (.int p1), .val (.long q2), .second, .val (.int (5 : Int32)), .val (.ref w_INT32), .unset, .unset] [(.int (q2.toInt32))])) _
    refine OGot.go (fun t k => XS.i2l X22.here hx rfl (hb hby at_115) rfl k) ?_
    show OGot p.tables e below (T22.setTop (mkF m 116 #[.val (.int p1), .val (.long q2), .second, .val (.int (5 : Int32)), .val (.ref w_INT32), .unset, .unset] [(.long ((q2.toInt32).toInt64))])) _
    refine OGot.go (fun t k => XS.lstore X22.here hx rfl (hb hby at_116) rfl (l' := #[.val (.int p1), .val (.long q2), .second, .val (.int (5 : Int32)), .val (.ref w_INT32), .val (.long ((q2.toInt32).toInt64)), .second]) rfl k) ?_
    show OGot p.tables e below (T22.setTop (mkF m 118 #[.val (.int p1), .val (.long q2), .second, .val (.int (5 : Int32)), .val (.ref w_INT32), .val (.long ((q2.toInt32).toInt64)), .second] [])) _
    refine OGot.go (fun t k => XS.goto X22.here hx rfl (pc0 := 118) (pc' := 167) rfl (hb hby at_118) (by decide) (by decide) k) ?_
    show OGot p.tables e below (T22.setTop (mkF m 167 #[.val (.int p1), .val (.long q2), .second, .val (.int (5 : Int32)), .val (.ref w_INT32), .val (.long ((q2.toInt32).toInt64)), .second] [])) _
    refine OGot.go (fun t k => XS.aload X22.here hx rfl (hb hby at_167) rfl rfl k) ?_
    show OGot p.tables e below (T22.setTop (mkF m 169 #[.val (.int p1), .val (.long q2), .second, .val (.int (5 : Int32)), .val (.ref w_INT32), .val (.long ((q2.toInt32).toInt64)), .second] [(.ref w_INT32)])) _
    refine OGot.go (fun t k => XS.lloadN X22.here hx rfl (hb hby at_169) rfl k) ?_
    show OGot p.tables e below (T22.setTop (mkF m 170 #[.val (.int p1), .val (.long q2), .second, .val (.int (5 : Int32)), .val (.ref w_INT32), .val (.long ((q2.toInt32).toInt64)), .second] [(.long q2), (.ref w_INT32)])) _
    obtain ⟨cq23, kq23, q23a, q23b, q23c⟩ := isOf hZ e22 (G.2.2.2.2.2.2.2.2.2.2.2.2.2.2.2.2.2.1.ext O0.2)
    obtain ⟨_, _, ⟨T23, L23, k23, n23⟩, -, X23, ⟨Lc23, hQ23, l23, y23, z23⟩, st23⟩ := X22.virtualBack hx (y := (⟨"com/example/muster/muster/model/IntegerType", "wrap", "(J)J"⟩ : MethodName)) (z := (⟨"com/example/muster/muster/model/IntegerType", "wrap", "(J)J"⟩ : MethodName)) hown (mvT hZ (ow hw 4 rfl)) (mvT hZ (ow hw 5 rfl)) (notFace_of_selects (args := #[]) (mvT hZ (ow hw 7 rfl))) (mvT hZ (ow hw 7 rfl)) (mvT hZ (ow hw 6 rfl)) (by decide) (backOf (W := 0) (rm1_5 l Z a0 hw [] G q2 h0 n0 O0 ) hZ (ow hw 8 rfl) (ow hw 2 rfl) (by decide) (by decide)) q23a q23c (g := (mkF m 170 #[.val (.int p1), .val (.long q2), .second, .val (.int (5 : Int32)), .val (.ref w_INT32), .val (.long ((q2.toInt32).toInt64)), .second] [(.long q2), (.ref w_INT32)])) rfl (by rw [hml]; rfl) (Steps.refl _) (argsL := [(.long q2)]) (rest := []) (lenOf pd_0 rfl) rfl (by show 2 * 0 + _ ≤ _; exact Nat.le_of_eq rfl) (hb hby at_170) (fun _ _ => ⟨rfl, e22, (by decide : 0 + 0 ≤ _), (by decide : 0 + 0 ≤ _)⟩)
    dsimp only [Pt.U, Pt.locs, Pt.cells, Pt.slots] at X23 l23 y23 z23 st23 hQ23
    subst l23 y23 z23
    obtain ⟨rfl, N23q, e23⟩ := hQ23
    have N23 := Fr.app N0 N23q
    refine OGot.on st23 ?_
    show OGot p.tables e below (T23.setTop (mkF m 173 #[.val (.int p1), .val (.long q2), .second, .val (.int (5 : Int32)), .val (.ref w_INT32), .val (.long ((q2.toInt32).toInt64)), .second] [(.long ((q2 <<< ((32 : Int32) &&& 0x3f).toInt64) >>> ((32 : Int32) &&& 0x3f).toInt64))])) _
    refine OGot.go (fun t k => XS.lload X23.here hx rfl (hb hby at_173) rfl k) ?_
    show OGot p.tables e below (T23.setTop (mkF m 175 #[.val (.int p1), .val (.long q2), .second, .val (.int (5 : Int32)), .val (.ref w_INT32), .val (.long ((q2.toInt32).toInt64)), .second] [(.long ((q2.toInt32).toInt64)), (.long ((q2 <<< ((32 : Int32) &&& 0x3f).toInt64) >>> ((32 : Int32) &&& 0x3f).toInt64))])) _
    refine OGot.go (fun t k => XS.lcmp X23.here hx rfl (hb hby at_175) rfl k) ?_
    show OGot p.tables e below (T23.setTop (mkF m 176 #[.val (.int p1), .val (.long q2), .second, .val (.int (5 : Int32)), .val (.ref w_INT32), .val (.long ((q2.toInt32).toInt64)), .second] [(.int (lcmpW ((q2 <<< ((32 : Int32) &&& 0x3f).toInt64) >>> ((32 : Int32) &&& 0x3f).toInt64) ((q2.toInt32).toInt64)))])) _
    refine OGot.go (fun t k => XS.ifNo X23.here hx rfl (hb hby at_176) rfl ((if0 _ _).trans (teq ((lw_eq ((q2 <<< ((32 : Int32) &&& 0x3f).toInt64) >>> ((32 : Int32) &&& 0x3f).toInt64) ((q2.toInt32).toInt64)).mpr (own_w6 q2))).2) k) ?_
    show OGot p.tables e below (T23.setTop (mkF m 179 #[.val (.int p1), .val (.long q2), .second, .val (.int (5 : Int32)), .val (.ref w_INT32), .val (.long ((q2.toInt32).toInt64)), .second] [])) _
    refine OGot.go (fun t k => XS.iconst X23.here hx rfl (hb hby at_179) k) ?_
    show OGot p.tables e below (T23.setTop (mkF m 180 #[.val (.int p1), .val (.long q2), .second, .val (.int (5 : Int32)), .val (.ref w_INT32), .val (.long ((q2.toInt32).toInt64)), .second] [(.int (1 : Int32))])) _
    refine OGot.go (fun t k => XS.goto X23.here hx rfl (pc0 := 180) (pc' := 184) rfl (hb hby at_180) (by decide) (by decide) k) ?_
    show OGot p.tables e below (T23.setTop (mkF m 184 #[.val (.int p1), .val (.long q2), .second, .val (.int (5 : Int32)), .val (.ref w_INT32), .val (.long ((q2.toInt32).toInt64)), .second] [(.int (1 : Int32))])) _
    obtain ⟨fs, hr, hrun, hended, hW, hsame⟩ := X23.leave (v := some (.int (1 : Int32))) (fun h => by rw [Bd.returns] at h; cases h)
    refine ⟨_, _, retN X23 hx (t := .boolean) Bd.returns (by simp) (hb hby at_184) hr, hrun, hended, _, _, rfl, ?_, ⟨_, rfl⟩, hW, hsame.mono (by decide) (by decide)⟩
    exact (⟨rfl, N23⟩ : Q0 Z w_BOOL w_INT8 w_UINT8 w_INT64 w_UINT32 w_UINT16 w_INT16 w_UINT64 w_INT32 p1 q2 h0 n0 _ T23.heap _)
  · rw [hk9]
    show OGot p.tables e below (s₁.setTop (mkF m 7 #[.val (.int p1), .val (.long q2), .second, .unset, .unset, .unset, .unset] [(.int (6 : Int32))])) _
    refine OGot.go (fun t k => XS.istoreN X0.here hx rfl (hb hby at_7) rfl (l' := #[.val (.int p1), .val (.long q2), .second, .val (.int (6 : Int32)), .unset, .unset, .unset]) rfl k) ?_
    show OGot p.tables e below (s₁.setTop (mkF m 8 #[.val (.int p1), .val (.long q2), .second, .val (.int (6 : Int32)), .unset, .unset, .unset] [])) _
    refine OGot.go (fun t k => XS.iloadN X0.here hx rfl (hb hby at_8) rfl k) ?_
    show OGot p.tables e below (s₁.setTop (mkF m 9 #[.val (.int p1), .val (.long q2), .second, .val (.int (6 : Int32)), .unset, .unset, .unset] [(.int (6 : Int32))])) _
    refine OGot.go (fun t k => XS.ifYes X0.here hx rfl (pc0 := 9) (pc' := 25) rfl (hb hby at_9) rfl (by decide) (by decide) (by decide) k) ?_
    show OGot p.tables e below (s₁.setTop (mkF m 25 #[.val (.int p1), .val (.long q2), .second, .val (.int (6 : Int32)), .unset, .unset, .unset] [])) _
    refine OGot.go (fun t k => XS.iloadN X0.here hx rfl (hb hby at_25) rfl k) ?_
    show OGot p.tables e below (s₁.setTop (mkF m 26 #[.val (.int p1), .val (.long q2), .second, .val (.int (6 : Int32)), .unset, .unset, .unset] [(.int (6 : Int32))])) _
    refine OGot.go (fun t k => XS.iconst X0.here hx rfl (hb hby at_26) k) ?_
    show OGot p.tables e below (s₁.setTop (mkF m 27 #[.val (.int p1), .val (.long q2), .second, .val (.int (6 : Int32)), .unset, .unset, .unset] [(.int (1 : Int32)), (.int (6 : Int32))])) _
    refine OGot.go (fun t k => XS.icmpYes X0.here hx rfl (pc0 := 27) (pc' := 44) rfl (hb hby at_27) rfl (by decide) (by decide) (by decide) k) ?_
    show OGot p.tables e below (s₁.setTop (mkF m 44 #[.val (.int p1), .val (.long q2), .second, .val (.int (6 : Int32)), .unset, .unset, .unset] [])) _
    refine OGot.go (fun t k => XS.iloadN X0.here hx rfl (hb hby at_44) rfl k) ?_
    show OGot p.tables e below (s₁.setTop (mkF m 45 #[.val (.int p1), .val (.long q2), .second, .val (.int (6 : Int32)), .unset, .unset, .unset] [(.int (6 : Int32))])) _
    refine OGot.go (fun t k => XS.iconst X0.here hx rfl (hb hby at_45) k) ?_
    show OGot p.tables e below (s₁.setTop (mkF m 46 #[.val (.int p1), .val (.long q2), .second, .val (.int (6 : Int32)), .unset, .unset, .unset] [(.int (2 : Int32)), (.int (6 : Int32))])) _
    refine OGot.go (fun t k => XS.icmpYes X0.here hx rfl (pc0 := 46) (pc' := 64) rfl (hb hby at_46) rfl (by decide) (by decide) (by decide) k) ?_
    show OGot p.tables e below (s₁.setTop (mkF m 64 #[.val (.int p1), .val (.long q2), .second, .val (.int (6 : Int32)), .unset, .unset, .unset] [])) _
    refine OGot.go (fun t k => XS.iloadN X0.here hx rfl (hb hby at_64) rfl k) ?_
    show OGot p.tables e below (s₁.setTop (mkF m 65 #[.val (.int p1), .val (.long q2), .second, .val (.int (6 : Int32)), .unset, .unset, .unset] [(.int (6 : Int32))])) _
    refine OGot.go (fun t k => XS.iconst X0.here hx rfl (hb hby at_65) k) ?_
    show OGot p.tables e below (s₁.setTop (mkF m 66 #[.val (.int p1), .val (.long q2), .second, .val (.int (6 : Int32)), .unset, .unset, .unset] [(.int (3 : Int32)), (.int (6 : Int32))])) _
    refine OGot.go (fun t k => XS.icmpYes X0.here hx rfl (pc0 := 66) (pc' := 83) rfl (hb hby at_66) rfl (by decide) (by decide) (by decide) k) ?_
    show OGot p.tables e below (s₁.setTop (mkF m 83 #[.val (.int p1), .val (.long q2), .second, .val (.int (6 : Int32)), .unset, .unset, .unset] [])) _
    refine OGot.go (fun t k => XS.iloadN X0.here hx rfl (hb hby at_83) rfl k) ?_
    show OGot p.tables e below (s₁.setTop (mkF m 84 #[.val (.int p1), .val (.long q2), .second, .val (.int (6 : Int32)), .unset, .unset, .unset] [(.int (6 : Int32))])) _
    refine OGot.go (fun t k => XS.iconst X0.here hx rfl (hb hby at_84) k) ?_
    show OGot p.tables e below (s₁.setTop (mkF m 85 #[.val (.int p1), .val (.long q2), .second, .val (.int (6 : Int32)), .unset, .unset, .unset] [(.int (4 : Int32)), (.int (6 : Int32))])) _
    refine OGot.go (fun t k => XS.icmpYes X0.here hx rfl (pc0 := 85) (pc' := 103) rfl (hb hby at_85) rfl (by decide) (by decide) (by decide) k) ?_
    show OGot p.tables e below (s₁.setTop (mkF m 103 #[.val (.int p1), .val (.long q2), .second, .val (.int (6 : Int32)), .unset, .unset, .unset] [])) _
    refine OGot.go (fun t k => XS.iloadN X0.here hx rfl (hb hby at_103) rfl k) ?_
    show OGot p.tables e below (s₁.setTop (mkF m 104 #[.val (.int p1), .val (.long q2), .second, .val (.int (6 : Int32)), .unset, .unset, .unset] [(.int (6 : Int32))])) _
    refine OGot.go (fun t k => XS.iconst X0.here hx rfl (hb hby at_104) k) ?_
    show OGot p.tables e below (s₁.setTop (mkF m 105 #[.val (.int p1), .val (.long q2), .second, .val (.int (6 : Int32)), .unset, .unset, .unset] [(.int (5 : Int32)), (.int (6 : Int32))])) _
    refine OGot.go (fun t k => XS.icmpYes X0.here hx rfl (pc0 := 105) (pc' := 121) rfl (hb hby at_105) rfl (by decide) (by decide) (by decide) k) ?_
    show OGot p.tables e below (s₁.setTop (mkF m 121 #[.val (.int p1), .val (.long q2), .second, .val (.int (6 : Int32)), .unset, .unset, .unset] [])) _
    refine OGot.go (fun t k => XS.iloadN X0.here hx rfl (hb hby at_121) rfl k) ?_
    show OGot p.tables e below (s₁.setTop (mkF m 122 #[.val (.int p1), .val (.long q2), .second, .val (.int (6 : Int32)), .unset, .unset, .unset] [(.int (6 : Int32))])) _
    refine OGot.go (fun t k => XS.bipush X0.here hx rfl (hb hby at_122) k) ?_
    show OGot p.tables e below (s₁.setTop (mkF m 124 #[.val (.int p1), .val (.long q2), .second, .val (.int (6 : Int32)), .unset, .unset, .unset] [(.int (6 : Int32)), (.int (6 : Int32))])) _
    refine OGot.go (fun t k => XS.icmpNo X0.here hx rfl (hb hby at_124) rfl (by decide) k) ?_
    show OGot p.tables e below (s₁.setTop (mkF m 127 #[.val (.int p1), .val (.long q2), .second, .val (.int (6 : Int32)), .unset, .unset, .unset] [])) _
    obtain ⟨T24, X24, e24, st24⟩ := getS2 X0 hx hZ hown (host := "") (Or.inl (ow hw 20 rfl)) Via.refl e0 (G.2.2.2.2.2.2.2.2.1.ext O0.2) (g := (mkF m 127 #[.val (.int p1), .val (.long q2), .second, .val (.int (6 : Int32)), .unset, .unset, .unset] [])) rfl (hb hby at_127)
    refine OGot.go st24 ?_
    show OGot p.tables e below (T24.setTop (mkF m 130 #[.val (.int p1), .val (.long q2), .second, .val (.int (6 : Int32)), .unset, .unset, .unset] [(.ref w_UINT32)])) _
    refine OGot.go (fun t k => XS.astore X24.here hx rfl (hb hby at_130) rfl rfl (l' := #[.val (.int p1), .val (.long q2), .second, .val (.int (6 : Int32)), .val (.ref w_UINT32), .unset, .unset]) rfl k) ?_
    show OGot p.tables e below (T24.setTop (mkF m 132 #[.val (.int p1), .val (.long q2), .second, .val (.int (6 : Int32)), .val (.ref w_UINT32), .unset, .unset] [])) _
    refine OGot.go (fun t k => XS.lloadN X24.here hx rfl (hb hby at_132) rfl k) ?_
    show OGot p.tables e below (T24.setTop (mkF m 133 #[.val (.int p1), .val (.long q2), .second, .val (.int (6 : Int32)), .val (.ref w_UINT32), .unset, .unset] [(.long q2)])) _
    refine OGot.go (fun t k => X24.ldc2Long hx hown (mvT hZ (ow hw 22 rfl)) (g := (mkF m 133 #[.val (.int p1), .val (.long q2), .second, .val (.int (6 : Int32)), .val (.ref w_UINT32), .unset, .unset] [(.long q2)])) rfl (hb hby at_133) _ k) ?_
    show OGot p.tables e below (T24.setTop (mkF m 136 #[.val (.int p1), .val (.long q2), .second, .val (.int (6 : Int32)), .val (.ref w_UINT32), .unset, .unset] [(.long (4294967295 : Int64)), (.long q2)])) _
    refine OGot.go (fun t k => XS.land X24.here hx rfl (hb hby at_136) rfl k) ?_
    show OGot p.tables e below (T24.setTop (mkF m 137 #[.val (.int p1), .val (.long q2), .second, .val (.int (6 : Int32)), .val (.ref w_UINT32), .unset, .unset] [(.long (q2 &&& (4294967295 : Int64)))])) _
    refine OGot.go (fun t k => XS.lstore X24.here hx rfl (hb hby at_137) rfl (l' := #[.val (.int p1), .val (.long q2), .second, .val (.int (6 : Int32)), .val (.ref w_UINT32), .val (.long (q2 &&& (4294967295 : Int64))), .second]) rfl k) ?_
    show OGot p.tables e below (T24.setTop (mkF m 139 #[.val (.int p1), .val (.long q2), .second, .val (.int (6 : Int32)), .val (.ref w_UINT32), .val (.long (q2 &&& (4294967295 : Int64))), .second] [])) _
    refine OGot.go (fun t k => XS.goto X24.here hx rfl (pc0 := 139) (pc' := 167) rfl (hb hby at_139) (by decide) (by decide) k) ?_
    show OGot p.tables e below (T24.setTop (mkF m 167 #[.val (.int p1), .val (.long q2), .second, .val (.int (6 : Int32)), .val (.ref w_UINT32), .val (.long (q2 &&& (4294967295 : Int64))), .second] [])) _
    refine OGot.go (fun t k => XS.aload X24.here hx rfl (hb hby at_167) rfl rfl k) ?_
    show OGot p.tables e below (T24.setTop (mkF m 169 #[.val (.int p1), .val (.long q2), .second, .val (.int (6 : Int32)), .val (.ref w_UINT32), .val (.long (q2 &&& (4294967295 : Int64))), .second] [(.ref w_UINT32)])) _
    refine OGot.go (fun t k => XS.lloadN X24.here hx rfl (hb hby at_169) rfl k) ?_
    show OGot p.tables e below (T24.setTop (mkF m 170 #[.val (.int p1), .val (.long q2), .second, .val (.int (6 : Int32)), .val (.ref w_UINT32), .val (.long (q2 &&& (4294967295 : Int64))), .second] [(.long q2), (.ref w_UINT32)])) _
    obtain ⟨cq25, kq25, q25a, q25b, q25c⟩ := isOf hZ e24 (G.2.2.2.2.2.2.2.2.2.1.ext O0.2)
    obtain ⟨_, _, ⟨T25, L25, k25, n25⟩, -, X25, ⟨Lc25, hQ25, l25, y25, z25⟩, st25⟩ := X24.virtualBack hx (y := (⟨"com/example/muster/muster/model/IntegerType", "wrap", "(J)J"⟩ : MethodName)) (z := (⟨"com/example/muster/muster/model/IntegerType", "wrap", "(J)J"⟩ : MethodName)) hown (mvT hZ (ow hw 4 rfl)) (mvT hZ (ow hw 5 rfl)) (notFace_of_selects (args := #[]) (mvT hZ (ow hw 7 rfl))) (mvT hZ (ow hw 7 rfl)) (mvT hZ (ow hw 6 rfl)) (by decide) (backOf (W := 0) (rm1_6 l Z a0 hw [] G q2 h0 n0 O0 ) hZ (ow hw 8 rfl) (ow hw 2 rfl) (by decide) (by decide)) q25a q25c (g := (mkF m 170 #[.val (.int p1), .val (.long q2), .second, .val (.int (6 : Int32)), .val (.ref w_UINT32), .val (.long (q2 &&& (4294967295 : Int64))), .second] [(.long q2), (.ref w_UINT32)])) rfl (by rw [hml]; rfl) (Steps.refl _) (argsL := [(.long q2)]) (rest := []) (lenOf pd_0 rfl) rfl (by show 2 * 0 + _ ≤ _; exact Nat.le_of_eq rfl) (hb hby at_170) (fun _ _ => ⟨rfl, e24, (by decide : 0 + 0 ≤ _), (by decide : 0 + 0 ≤ _)⟩)
    dsimp only [Pt.U, Pt.locs, Pt.cells, Pt.slots] at X25 l25 y25 z25 st25 hQ25
    subst l25 y25 z25
    obtain ⟨rfl, N25q, e25⟩ := hQ25
    have N25 := Fr.app N0 N25q
    refine OGot.on st25 ?_
    show OGot p.tables e below (T25.setTop (mkF m 173 #[.val (.int p1), .val (.long q2), .second, .val (.int (6 : Int32)), .val (.ref w_UINT32), .val (.long (q2 &&& (4294967295 : Int64))), .second] [(.long (((q2 <<< ((32 : Int32) &&& 0x3f).toInt64).toUInt64 >>> ((32 : Int32) &&& 0x3f).toInt64.toUInt64).toInt64))])) _
    refine OGot.go (fun t k => XS.lload X25.here hx rfl (hb hby at_173) rfl k) ?_
    show OGot p.tables e below (T25.setTop (mkF m 175 #[.val (.int p1), .val (.long q2), .second, .val (.int (6 : Int32)), .val (.ref w_UINT32), .val (.long (q2 &&& (4294967295 : Int64))), .second] [(.long (q2 &&& (4294967295 : Int64))), (.long (((q2 <<< ((32 : Int32) &&& 0x3f).toInt64).toUInt64 >>> ((32 : Int32) &&& 0x3f).toInt64.toUInt64).toInt64))])) _
    refine OGot.go (fun t k => XS.lcmp X25.here hx rfl (hb hby at_175) rfl k) ?_
    show OGot p.tables e below (T25.setTop (mkF m 176 #[.val (.int p1), .val (.long q2), .second, .val (.int (6 : Int32)), .val (.ref w_UINT32), .val (.long (q2 &&& (4294967295 : Int64))), .second] [(.int (lcmpW (((q2 <<< ((32 : Int32) &&& 0x3f).toInt64).toUInt64 >>> ((32 : Int32) &&& 0x3f).toInt64.toUInt64).toInt64) (q2 &&& (4294967295 : Int64))))])) _
    refine OGot.go (fun t k => XS.ifNo X25.here hx rfl (hb hby at_176) rfl ((if0 _ _).trans (teq ((lw_eq (((q2 <<< ((32 : Int32) &&& 0x3f).toInt64).toUInt64 >>> ((32 : Int32) &&& 0x3f).toInt64.toUInt64).toInt64) (q2 &&& (4294967295 : Int64))).mpr (own_w7 q2))).2) k) ?_
    show OGot p.tables e below (T25.setTop (mkF m 179 #[.val (.int p1), .val (.long q2), .second, .val (.int (6 : Int32)), .val (.ref w_UINT32), .val (.long (q2 &&& (4294967295 : Int64))), .second] [])) _
    refine OGot.go (fun t k => XS.iconst X25.here hx rfl (hb hby at_179) k) ?_
    show OGot p.tables e below (T25.setTop (mkF m 180 #[.val (.int p1), .val (.long q2), .second, .val (.int (6 : Int32)), .val (.ref w_UINT32), .val (.long (q2 &&& (4294967295 : Int64))), .second] [(.int (1 : Int32))])) _
    refine OGot.go (fun t k => XS.goto X25.here hx rfl (pc0 := 180) (pc' := 184) rfl (hb hby at_180) (by decide) (by decide) k) ?_
    show OGot p.tables e below (T25.setTop (mkF m 184 #[.val (.int p1), .val (.long q2), .second, .val (.int (6 : Int32)), .val (.ref w_UINT32), .val (.long (q2 &&& (4294967295 : Int64))), .second] [(.int (1 : Int32))])) _
    obtain ⟨fs, hr, hrun, hended, hW, hsame⟩ := X25.leave (v := some (.int (1 : Int32))) (fun h => by rw [Bd.returns] at h; cases h)
    refine ⟨_, _, retN X25 hx (t := .boolean) Bd.returns (by simp) (hb hby at_184) hr, hrun, hended, _, _, rfl, ?_, ⟨_, rfl⟩, hW, hsame.mono (by decide) (by decide)⟩
    exact (⟨rfl, N25⟩ : Q0 Z w_BOOL w_INT8 w_UINT8 w_INT64 w_UINT32 w_UINT16 w_INT16 w_UINT64 w_INT32 p1 q2 h0 n0 _ T25.heap _)
  · rw [hk10]
    show OGot p.tables e below (s₁.setTop (mkF m 7 #[.val (.int p1), .val (.long q2), .second, .unset, .unset, .unset, .unset] [(.int (7 : Int32))])) _
    refine OGot.go (fun t k => XS.istoreN X0.here hx rfl (hb hby at_7) rfl (l' := #[.val (.int p1), .val (.long q2), .second, .val (.int (7 : Int32)), .unset, .unset, .unset]) rfl k) ?_
    show OGot p.tables e below (s₁.setTop (mkF m 8 #[.val (.int p1), .val (.long q2), .second, .val (.int (7 : Int32)), .unset, .unset, .unset] [])) _
    refine OGot.go (fun t k => XS.iloadN X0.here hx rfl (hb hby at_8) rfl k) ?_
    show OGot p.tables e below (s₁.setTop (mkF m 9 #[.val (.int p1), .val (.long q2), .second, .val (.int (7 : Int32)), .unset, .unset, .unset] [(.int (7 : Int32))])) _
    refine OGot.go (fun t k => XS.ifYes X0.here hx rfl (pc0 := 9) (pc' := 25) rfl (hb hby at_9) rfl (by decide) (by decide) (by decide) k) ?_
    show OGot p.tables e below (s₁.setTop (mkF m 25 #[.val (.int p1), .val (.long q2), .second, .val (.int (7 : Int32)), .unset, .unset, .unset] [])) _
    refine OGot.go (fun t k => XS.iloadN X0.here hx rfl (hb hby at_25) rfl k) ?_
    show OGot p.tables e below (s₁.setTop (mkF m 26 #[.val (.int p1), .val (.long q2), .second, .val (.int (7 : Int32)), .unset, .unset, .unset] [(.int (7 : Int32))])) _
    refine OGot.go (fun t k => XS.iconst X0.here hx rfl (hb hby at_26) k) ?_
    show OGot p.tables e below (s₁.setTop (mkF m 27 #[.val (.int p1), .val (.long q2), .second, .val (.int (7 : Int32)), .unset, .unset, .unset] [(.int (1 : Int32)), (.int (7 : Int32))])) _
    refine OGot.go (fun t k => XS.icmpYes X0.here hx rfl (pc0 := 27) (pc' := 44) rfl (hb hby at_27) rfl (by decide) (by decide) (by decide) k) ?_
    show OGot p.tables e below (s₁.setTop (mkF m 44 #[.val (.int p1), .val (.long q2), .second, .val (.int (7 : Int32)), .unset, .unset, .unset] [])) _
    refine OGot.go (fun t k => XS.iloadN X0.here hx rfl (hb hby at_44) rfl k) ?_
    show OGot p.tables e below (s₁.setTop (mkF m 45 #[.val (.int p1), .val (.long q2), .second, .val (.int (7 : Int32)), .unset, .unset, .unset] [(.int (7 : Int32))])) _
    refine OGot.go (fun t k => XS.iconst X0.here hx rfl (hb hby at_45) k) ?_
    show OGot p.tables e below (s₁.setTop (mkF m 46 #[.val (.int p1), .val (.long q2), .second, .val (.int (7 : Int32)), .unset, .unset, .unset] [(.int (2 : Int32)), (.int (7 : Int32))])) _
    refine OGot.go (fun t k => XS.icmpYes X0.here hx rfl (pc0 := 46) (pc' := 64) rfl (hb hby at_46) rfl (by decide) (by decide) (by decide) k) ?_
    show OGot p.tables e below (s₁.setTop (mkF m 64 #[.val (.int p1), .val (.long q2), .second, .val (.int (7 : Int32)), .unset, .unset, .unset] [])) _
    refine OGot.go (fun t k => XS.iloadN X0.here hx rfl (hb hby at_64) rfl k) ?_
    show OGot p.tables e below (s₁.setTop (mkF m 65 #[.val (.int p1), .val (.long q2), .second, .val (.int (7 : Int32)), .unset, .unset, .unset] [(.int (7 : Int32))])) _
    refine OGot.go (fun t k => XS.iconst X0.here hx rfl (hb hby at_65) k) ?_
    show OGot p.tables e below (s₁.setTop (mkF m 66 #[.val (.int p1), .val (.long q2), .second, .val (.int (7 : Int32)), .unset, .unset, .unset] [(.int (3 : Int32)), (.int (7 : Int32))])) _
    refine OGot.go (fun t k => XS.icmpYes X0.here hx rfl (pc0 := 66) (pc' := 83) rfl (hb hby at_66) rfl (by decide) (by decide) (by decide) k) ?_
    show OGot p.tables e below (s₁.setTop (mkF m 83 #[.val (.int p1), .val (.long q2), .second, .val (.int (7 : Int32)), .unset, .unset, .unset] [])) _
    refine OGot.go (fun t k => XS.iloadN X0.here hx rfl (hb hby at_83) rfl k) ?_
    show OGot p.tables e below (s₁.setTop (mkF m 84 #[.val (.int p1), .val (.long q2), .second, .val (.int (7 : Int32)), .unset, .unset, .unset] [(.int (7 : Int32))])) _
    refine OGot.go (fun t k => XS.iconst X0.here hx rfl (hb hby at_84) k) ?_
    show OGot p.tables e below (s₁.setTop (mkF m 85 #[.val (.int p1), .val (.long q2), .second, .val (.int (7 : Int32)), .unset, .unset, .unset] [(.int (4 : Int32)), (.int (7 : Int32))])) _
    refine OGot.go (fun t k => XS.icmpYes X0.here hx rfl (pc0 := 85) (pc' := 103) rfl (hb hby at_85) rfl (by decide) (by decide) (by decide) k) ?_
    show OGot p.tables e below (s₁.setTop (mkF m 103 #[.val (.int p1), .val (.long q2), .second, .val (.int (7 : Int32)), .unset, .unset, .unset] [])) _
    refine OGot.go (fun t k => XS.iloadN X0.here hx rfl (hb hby at_103) rfl k) ?_
    show OGot p.tables e below (s₁.setTop (mkF m 104 #[.val (.int p1), .val (.long q2), .second, .val (.int (7 : Int32)), .unset, .unset, .unset] [(.int (7 : Int32))])) _
    refine OGot.go (fun t k => XS.iconst X0.here hx rfl (hb hby at_104) k) ?_
    show OGot p.tables e below (s₁.setTop (mkF m 105 #[.val (.int p1), .val (.long q2), .second, .val (.int (7 : Int32)), .unset, .unset, .unset] [(.int (5 : Int32)), (.int (7 : Int32))])) _
    refine OGot.go (fun t k => XS.icmpYes X0.here hx rfl (pc0 := 105) (pc' := 121) rfl (hb hby at_105) rfl (by decide) (by decide) (by decide) k) ?_
    show OGot p.tables e below (s₁.setTop (mkF m 121 #[.val (.int p1), .val (.long q2), .second, .val (.int (7 : Int32)), .unset, .unset, .unset] [])) _
    refine OGot.go (fun t k => XS.iloadN X0.here hx rfl (hb hby at_121) rfl k) ?_
    show OGot p.tables e below (s₁.setTop (mkF m 122 #[.val (.int p1), .val (.long q2), .second, .val (.int (7 : Int32)), .unset, .unset, .unset] [(.int (7 : Int32))])) _
    refine OGot.go (fun t k => XS.bipush X0.here hx rfl (hb hby at_122) k) ?_
    show OGot p.tables e below (s₁.setTop (mkF m 124 #[.val (.int p1), .val (.long q2), .second, .val (.int (7 : Int32)), .unset, .unset, .unset] [(.int (6 : Int32)), (.int (7 : Int32))])) _
    refine OGot.go (fun t k => XS.icmpYes X0.here hx rfl (pc0 := 124) (pc' := 142) rfl (hb hby at_124) rfl (by decide) (by decide) (by decide) k) ?_
    show OGot p.tables e below (s₁.setTop (mkF m 142 #[.val (.int p1), .val (.long q2), .second, .val (.int (7 : Int32)), .unset, .unset, .unset] [])) _
    refine OGot.go (fun t k => XS.iloadN X0.here hx rfl (hb hby at_142) rfl k) ?_
    show OGot p.tables e below (s₁.setTop (mkF m 143 #[.val (.int p1), .val (.long q2), .second, .val (.int (7 : Int32)), .unset, .unset, .unset] [(.int (7 : Int32))])) _
    refine OGot.go (fun t k => XS.bipush X0.here hx rfl (hb hby at_143) k) ?_
    show OGot p.tables e below (s₁.setTop (mkF m 145 #[.val (.int p1), .val (.long q2), .second, .val (.int (7 : Int32)), .unset, .unset, .unset] [(.int (7 : Int32)), (.int (7 : Int32))])) _
    refine OGot.go (fun t k => XS.icmpNo X0.here hx rfl (hb hby at_145) rfl (by decide) k) ?_
    show OGot p.tables e below (s₁.setTop (mkF m 148 #[.val (.int p1), .val (.long q2), .second, .val (.int (7 : Int32)), .unset, .unset, .unset] [])) _
    obtain ⟨T26, X26, e26, st26⟩ := getS2 X0 hx hZ hown (host := "") (Or.inl (ow hw 18 rfl)) Via.refl e0 (G.2.2.2.2.2.2.1.ext O0.2) (g := (mkF m 148 #[.val (.int p1), .val (.long q2), .second, .val (.int (7 : Int32)), .unset, .unset, .unset] [])) rfl (hb hby at_148)
    refine OGot.go st26 ?_
    show OGot p.tables e below (T26.setTop (mkF m 151 #[.val (.int p1), .val (.long q2), .second, .val (.int (7 : Int32)), .unset, .unset, .unset] [(.ref w_INT64)])) _
    refine OGot.go (fun t k => XS.astore X26.here hx rfl (hb hby at_151) rfl rfl (l' := #[.val (.int p1), .val (.long q2), .second, .val (.int (7 : Int32)), .val (.ref w_INT64), .unset, .unset]) rfl k) ?_
    show OGot p.tables e below (T26.setTop (mkF m 153 #[.val (.int p1), .val (.long q2), .second, .val (.int (7 : Int32)), .val (.ref w_INT64), .unset, .unset] [])) _
    refine OGot.go (fun t k => XS.lloadN X26.here hx rfl (hb hby at_153) rfl k) ?_
    show OGot p.tables e below (T26.setTop (mkF m 154 #[.val (.int p1), .val (.long q2), .second, .val (.int (7 : Int32)), .val (.ref w_INT64), .unset, .unset] [(.long q2)])) _
    refine OGot.go (fun t k => XS.lstore X26.here hx rfl (hb hby at_154) rfl (l' := #[.val (.int p1), .val (.long q2), .second, .val (.int (7 : Int32)), .val (.ref w_INT64), .val (.long q2), .second]) rfl k) ?_
    show OGot p.tables e below (T26.setTop (mkF m 156 #[.val (.int p1), .val (.long q2), .second, .val (.int (7 : Int32)), .val (.ref w_INT64), .val (.long q2), .second] [])) _
    refine OGot.go (fun t k => XS.goto X26.here hx rfl (pc0 := 156) (pc' := 167) rfl (hb hby at_156) (by decide) (by decide) k) ?_
    show OGot p.tables e below (T26.setTop (mkF m 167 #[.val (.int p1), .val (.long q2), .second, .val (.int (7 : Int32)), .val (.ref w_INT64), .val (.long q2), .second] [])) _
    refine OGot.go (fun t k => XS.aload X26.here hx rfl (hb hby at_167) rfl rfl k) ?_
    show OGot p.tables e below (T26.setTop (mkF m 169 #[.val (.int p1), .val (.long q2), .second, .val (.int (7 : Int32)), .val (.ref w_INT64), .val (.long q2), .second] [(.ref w_INT64)])) _
    refine OGot.go (fun t k => XS.lloadN X26.here hx rfl (hb hby at_169) rfl k) ?_
    show OGot p.tables e below (T26.setTop (mkF m 170 #[.val (.int p1), .val (.long q2), .second, .val (.int (7 : Int32)), .val (.ref w_INT64), .val (.long q2), .second] [(.long q2), (.ref w_INT64)])) _
    obtain ⟨cq27, kq27, q27a, q27b, q27c⟩ := isOf hZ e26 (G.2.2.2.2.2.2.2.1.ext O0.2)
    obtain ⟨_, _, ⟨T27, L27, k27, n27⟩, -, X27, ⟨Lc27, hQ27, l27, y27, z27⟩, st27⟩ := X26.virtualBack hx (y := (⟨"com/example/muster/muster/model/IntegerType", "wrap", "(J)J"⟩ : MethodName)) (z := (⟨"com/example/muster/muster/model/IntegerType", "wrap", "(J)J"⟩ : MethodName)) hown (mvT hZ (ow hw 4 rfl)) (mvT hZ (ow hw 5 rfl)) (notFace_of_selects (args := #[]) (mvT hZ (ow hw 7 rfl))) (mvT hZ (ow hw 7 rfl)) (mvT hZ (ow hw 6 rfl)) (by decide) (backOf (W := 0) (rm1_7 l Z a0 hw [] G q2 h0 n0 O0 ) hZ (ow hw 8 rfl) (ow hw 2 rfl) (by decide) (by decide)) q27a q27c (g := (mkF m 170 #[.val (.int p1), .val (.long q2), .second, .val (.int (7 : Int32)), .val (.ref w_INT64), .val (.long q2), .second] [(.long q2), (.ref w_INT64)])) rfl (by rw [hml]; rfl) (Steps.refl _) (argsL := [(.long q2)]) (rest := []) (lenOf pd_0 rfl) rfl (by show 2 * 0 + _ ≤ _; exact Nat.le_of_eq rfl) (hb hby at_170) (fun _ _ => ⟨rfl, e26, (by decide : 0 + 0 ≤ _), (by decide : 0 + 0 ≤ _)⟩)
    dsimp only [Pt.U, Pt.locs, Pt.cells, Pt.slots] at X27 l27 y27 z27 st27 hQ27
    subst l27 y27 z27
    obtain ⟨rfl, N27q, e27⟩ := hQ27
    have N27 := Fr.app N0 N27q
    refine OGot.on st27 ?_
    show OGot p.tables e below (T27.setTop (mkF m 173 #[.val (.int p1), .val (.long q2), .second, .val (.int (7 : Int32)), .val (.ref w_INT64), .val (.long q2), .second] [(.long q2)])) _
    refine OGot.go (fun t k => XS.lload X27.here hx rfl (hb hby at_173) rfl k) ?_
    show OGot p.tables e below (T27.setTop (mkF m 175 #[.val (.int p1), .val (.long q2), .second, .val (.int (7 : Int32)), .val (.ref w_INT64), .val (.long q2), .second] [(.long q2), (.long q2)])) _
    refine OGot.go (fun t k => XS.lcmp X27.here hx rfl (hb hby at_175) rfl k) ?_
    show OGot p.tables e below (T27.setTop (mkF m 176 #[.val (.int p1), .val (.long q2), .second, .val (.int (7 : Int32)), .val (.ref w_INT64), .val (.long q2), .second] [(.int (lcmpW q2 q2))])) _
    refine OGot.go (fun t k => XS.ifNo X27.here hx rfl (hb hby at_176) rfl ((if0 _ _).trans (teq ((lw_eq q2 q2).mpr rfl)).2) k) ?_
    show OGot p.tables e below (T27.setTop (mkF m 179 #[.val (.int p1), .val (.long q2), .second, .val (.int (7 : Int32)), .val (.ref w_INT64), .val (.long q2), .second] [])) _
    refine OGot.go (fun t k => XS.iconst X27.here hx rfl (hb hby at_179) k) ?_
    show OGot p.tables e below (T27.setTop (mkF m 180 #[.val (.int p1), .val (.long q2), .second, .val (.int (7 : Int32)), .val (.ref w_INT64), .val (.long q2), .second] [(.int (1 : Int32))])) _
    refine OGot.go (fun t k => XS.goto X27.here hx rfl (pc0 := 180) (pc' := 184) rfl (hb hby at_180) (by decide) (by decide) k) ?_
    show OGot p.tables e below (T27.setTop (mkF m 184 #[.val (.int p1), .val (.long q2), .second, .val (.int (7 : Int32)), .val (.ref w_INT64), .val (.long q2), .second] [(.int (1 : Int32))])) _
    obtain ⟨fs, hr, hrun, hended, hW, hsame⟩ := X27.leave (v := some (.int (1 : Int32))) (fun h => by rw [Bd.returns] at h; cases h)
    refine ⟨_, _, retN X27 hx (t := .boolean) Bd.returns (by simp) (hb hby at_184) hr, hrun, hended, _, _, rfl, ?_, ⟨_, rfl⟩, hW, hsame.mono (by decide) (by decide)⟩
    exact (⟨rfl, N27⟩ : Q0 Z w_BOOL w_INT8 w_UINT8 w_INT64 w_UINT32 w_UINT16 w_INT16 w_UINT64 w_INT32 p1 q2 h0 n0 _ T27.heap _)
  · rw [hk11]
    show OGot p.tables e below (s₁.setTop (mkF m 7 #[.val (.int p1), .val (.long q2), .second, .unset, .unset, .unset, .unset] [(.int (8 : Int32))])) _
    refine OGot.go (fun t k => XS.istoreN X0.here hx rfl (hb hby at_7) rfl (l' := #[.val (.int p1), .val (.long q2), .second, .val (.int (8 : Int32)), .unset, .unset, .unset]) rfl k) ?_
    show OGot p.tables e below (s₁.setTop (mkF m 8 #[.val (.int p1), .val (.long q2), .second, .val (.int (8 : Int32)), .unset, .unset, .unset] [])) _
    refine OGot.go (fun t k => XS.iloadN X0.here hx rfl (hb hby at_8) rfl k) ?_
    show OGot p.tables e below (s₁.setTop (mkF m 9 #[.val (.int p1), .val (.long q2), .second, .val (.int (8 : Int32)), .unset, .unset, .unset] [(.int (8 : Int32))])) _
    refine OGot.go (fun t k => XS.ifYes X0.here hx rfl (pc0 := 9) (pc' := 25) rfl (hb hby at_9) rfl (by decide) (by decide) (by decide) k) ?_
    show OGot p.tables e below (s₁.setTop (mkF m 25 #[.val (.int p1), .val (.long q2), .second, .val (.int (8 : Int32)), .unset, .unset, .unset] [])) _
    refine OGot.go (fun t k => XS.iloadN X0.here hx rfl (hb hby at_25) rfl k) ?_
    show OGot p.tables e below (s₁.setTop (mkF m 26 #[.val (.int p1), .val (.long q2), .second, .val (.int (8 : Int32)), .unset, .unset, .unset] [(.int (8 : Int32))])) _
    refine OGot.go (fun t k => XS.iconst X0.here hx rfl (hb hby at_26) k) ?_
    show OGot p.tables e below (s₁.setTop (mkF m 27 #[.val (.int p1), .val (.long q2), .second, .val (.int (8 : Int32)), .unset, .unset, .unset] [(.int (1 : Int32)), (.int (8 : Int32))])) _
    refine OGot.go (fun t k => XS.icmpYes X0.here hx rfl (pc0 := 27) (pc' := 44) rfl (hb hby at_27) rfl (by decide) (by decide) (by decide) k) ?_
    show OGot p.tables e below (s₁.setTop (mkF m 44 #[.val (.int p1), .val (.long q2), .second, .val (.int (8 : Int32)), .unset, .unset, .unset] [])) _
    refine OGot.go (fun t k => XS.iloadN X0.here hx rfl (hb hby at_44) rfl k) ?_
    show OGot p.tables e below (s₁.setTop (mkF m 45 #[.val (.int p1), .val (.long q2), .second, .val (.int (8 : Int32)), .unset, .unset, .unset] [(.int (8 : Int32))])) _
    refine OGot.go (fun t k => XS.iconst X0.here hx rfl (hb hby at_45) k) ?_
    show OGot p.tables e below (s₁.setTop (mkF m 46 #[.val (.int p1), .val (.long q2), .second, .val (.int (8 : Int32)), .unset, .unset, .unset] [(.int (2 : Int32)), (.int (8 : Int32))])) _
    refine OGot.go (fun t k => XS.icmpYes X0.here hx rfl (pc0 := 46) (pc' := 64) rfl (hb hby at_46) rfl (by decide) (by decide) (by decide) k) ?_
    show OGot p.tables e below (s₁.setTop (mkF m 64 #[.val (.int p1), .val (.long q2), .second, .val (.int (8 : Int32)), .unset, .unset, .unset] [])) _
    refine OGot.go (fun t k => XS.iloadN X0.here hx rfl (hb hby at_64) rfl k) ?_
    show OGot p.tables e below (s₁.setTop (mkF m 65 #[.val (.int p1), .val (.long q2), .second, .val (.int (8 : Int32)), .unset, .unset, .unset] [(.int (8 : Int32))])) _
    refine OGot.go (fun t k => XS.iconst X0.here hx rfl (hb hby at_65) k) ?_
    show OGot p.tables e below (s₁.setTop (mkF m 66 #[.val (.int p1), .val (.long q2), .second, .val (.int (8 : Int32)), .unset, .unset, .unset] [(.int (3 : Int32)), (.int (8 : Int32))])) _
    refine OGot.go (fun t k => XS.icmpYes X0.here hx rfl (pc0 := 66) (pc' := 83) rfl (hb hby at_66) rfl (by decide) (by decide) (by decide) k) ?_
    show OGot p.tables e below (s₁.setTop (mkF m 83 #[.val (.int p1), .val (.long q2), .second, .val (.int (8 : Int32)), .unset, .unset, .unset] [])) _
    refine OGot.go (fun t k => XS.iloadN X0.here hx rfl (hb hby at_83) rfl k) ?_
    show OGot p.tables e below (s₁.setTop (mkF m 84 #[.val (.int p1), .val (.long q2), .second, .val (.int (8 : Int32)), .unset, .unset, .unset] [(.int (8 : Int32))])) _
    refine OGot.go (fun t k => XS.iconst X0.here hx rfl (hb hby at_84) k) ?_
    show OGot p.tables e below (s₁.setTop (mkF m 85 #[.val (.int p1), .val (.long q2), .second, .val (.int (8 : Int32)), .unset, .unset, .unset] [(.int (4 : Int32)), (.int (8 : Int32))])) _
    refine OGot.go (fun t k => XS.icmpYes X0.here hx rfl (pc0 := 85) (pc' := 103) rfl (hb hby at_85) rfl (by decide) (by decide) (by decide) k) ?_
    show OGot p.tables e below (s₁.setTop (mkF m 103 #[.val (.int p1), .val (.long q2), .second, .val (.int (8 : Int32)), .unset, .unset, .unset] [])) _
    refine OGot.go (fun t k => XS.iloadN X0.here hx rfl (hb hby at_103) rfl k) ?_
    show OGot p.tables e below (s₁.setTop (mkF m 104 #[.val (.int p1), .val (.long q2), .second, .val (.int (8 : Int32)), .unset, .unset, .unset] [(.int (8 : Int32))])) _
    refine OGot.go (fun t k => XS.iconst X0.here hx rfl (hb hby at_104) k) ?_
    show OGot p.tables e below (s₁.setTop (mkF m 105 #[.val (.int p1), .val (.long q2), .second, .val (.int (8 : Int32)), .unset, .unset, .unset] [(.int (5 : Int32)), (.int (8 : Int32))])) _
    refine OGot.go (fun t k => XS.icmpYes X0.here hx rfl (pc0 := 105) (pc' := 121) rfl (hb hby at_105) rfl (by decide) (by decide) (by decide) k) ?_
    show OGot p.tables e below (s₁.setTop (mkF m 121 #[.val (.int p1), .val (.long q2), .second, .val (.int (8 : Int32)), .unset, .unset, .unset] [])) _
    refine OGot.go (fun t k => XS.iloadN X0.here hx rfl (hb hby at_121) rfl k) ?_
    show OGot p.tables e below (s₁.setTop (mkF m 122 #[.val (.int p1), .val (.long q2), .second, .val (.int (8 : Int32)), .unset, .unset, .unset] [(.int (8 : Int32))])) _
    refine OGot.go (fun t k => XS.bipush X0.here hx rfl (hb hby at_122) k) ?_
    show OGot p.tables e below (s₁.setTop (mkF m 124 #[.val (.int p1), .val (.long q2), .second, .val (.int (8 : Int32)), .unset, .unset, .unset] [(.int (6 : Int32)), (.int (8 : Int32))])) _
    refine OGot.go (fun t k => XS.icmpYes X0.here hx rfl (pc0 := 124) (pc' := 142) rfl (hb hby at_124) rfl (by decide) (by decide) (by decide) k) ?_
    show OGot p.tables e below (s₁.setTop (mkF m 142 #[.val (.int p1), .val (.long q2), .second, .val (.int (8 : Int32)), .unset, .unset, .unset] [])) _
    refine OGot.go (fun t k => XS.iloadN X0.here hx rfl (hb hby at_142) rfl k) ?_
    show OGot p.tables e below (s₁.setTop (mkF m 143 #[.val (.int p1), .val (.long q2), .second, .val (.int (8 : Int32)), .unset, .unset, .unset] [(.int (8 : Int32))])) _
    refine OGot.go (fun t k => XS.bipush X0.here hx rfl (hb hby at_143) k) ?_
    show OGot p.tables e below (s₁.setTop (mkF m 145 #[.val (.int p1), .val (.long q2), .second, .val (.int (8 : Int32)), .unset, .unset, .unset] [(.int (7 : Int32)), (.int (8 : Int32))])) _
    refine OGot.go (fun t k => XS.icmpYes X0.here hx rfl (pc0 := 145) (pc' := 159) rfl (hb hby at_145) rfl (by decide) (by decide) (by decide) k) ?_
    show OGot p.tables e below (s₁.setTop (mkF m 159 #[.val (.int p1), .val (.long q2), .second, .val (.int (8 : Int32)), .unset, .unset, .unset] [])) _
    obtain ⟨T28, X28, e28, st28⟩ := getS2 X0 hx hZ hown (host := "") (Or.inl (ow hw 28 rfl)) Via.refl e0 (G.2.2.2.2.2.2.2.2.2.2.2.2.2.2.1.ext O0.2) (g := (mkF m 159 #[.val (.int p1), .val (.long q2), .second, .val (.int (8 : Int32)), .unset, .unset, .unset] [])) rfl (hb hby at_159)
    refine OGot.go st28 ?_
    show OGot p.tables e below (T28.setTop (mkF m 162 #[.val (.int p1), .val (.long q2), .second, .val (.int (8 : Int32)), .unset, .unset, .unset] [(.ref w_UINT64)])) _
    refine OGot.go (fun t k => XS.astore X28.here hx rfl (hb hby at_162) rfl rfl (l' := #[.val (.int p1), .val (.long q2), .second, .val (.int (8 : Int32)), .val (.ref w_UINT64), .unset, .unset]) rfl k) ?_
    show OGot p.tables e below (T28.setTop (mkF m 164 #[.val (.int p1), .val (.long q2), .second, .val (.int (8 : Int32)), .val (.ref w_UINT64), .unset, .unset] [])) _
    refine OGot.go (fun t k => XS.lloadN X28.here hx rfl (hb hby at_164) rfl k) ?_
    show OGot p.tables e below (T28.setTop (mkF m 165 #[.val (.int p1), .val (.long q2), .second, .val (.int (8 : Int32)), .val (.ref w_UINT64), .unset, .unset] [(.long q2)])) _
    refine OGot.go (fun t k => XS.lstore X28.here hx rfl (hb hby at_165) rfl (l' := #[.val (.int p1), .val (.long q2), .second, .val (.int (8 : Int32)), .val (.ref w_UINT64), .val (.long q2), .second]) rfl k) ?_
    show OGot p.tables e below (T28.setTop (mkF m 167 #[.val (.int p1), .val (.long q2), .second, .val (.int (8 : Int32)), .val (.ref w_UINT64), .val (.long q2), .second] [])) _
    refine OGot.go (fun t k => XS.aload X28.here hx rfl (hb hby at_167) rfl rfl k) ?_
    show OGot p.tables e below (T28.setTop (mkF m 169 #[.val (.int p1), .val (.long q2), .second, .val (.int (8 : Int32)), .val (.ref w_UINT64), .val (.long q2), .second] [(.ref w_UINT64)])) _
    refine OGot.go (fun t k => XS.lloadN X28.here hx rfl (hb hby at_169) rfl k) ?_
    show OGot p.tables e below (T28.setTop (mkF m 170 #[.val (.int p1), .val (.long q2), .second, .val (.int (8 : Int32)), .val (.ref w_UINT64), .val (.long q2), .second] [(.long q2), (.ref w_UINT64)])) _
    obtain ⟨cq29, kq29, q29a, q29b, q29c⟩ := isOf hZ e28 (G.2.2.2.2.2.2.2.2.2.2.2.2.2.2.2.1.ext O0.2)
    obtain ⟨_, _, ⟨T29, L29, k29, n29⟩, -, X29, ⟨Lc29, hQ29, l29, y29, z29⟩, st29⟩ := X28.virtualBack hx (y := (⟨"com/example/muster/muster/model/IntegerType", "wrap", "(J)J"⟩ : MethodName)) (z := (⟨"com/example/muster/muster/model/IntegerType", "wrap", "(J)J"⟩ : MethodName)) hown (mvT hZ (ow hw 4 rfl)) (mvT hZ (ow hw 5 rfl)) (notFace_of_selects (args := #[]) (mvT hZ (ow hw 7 rfl))) (mvT hZ (ow hw 7 rfl)) (mvT hZ (ow hw 6 rfl)) (by decide) (backOf (W := 0) (rm1_8 l Z a0 hw [] G q2 h0 n0 O0 ) hZ (ow hw 8 rfl) (ow hw 2 rfl) (by decide) (by decide)) q29a q29c (g := (mkF m 170 #[.val (.int p1), .val (.long q2), .second, .val (.int (8 : Int32)), .val (.ref w_UINT64), .val (.long q2), .second] [(.long q2), (.ref w_UINT64)])) rfl (by rw [hml]; rfl) (Steps.refl _) (argsL := [(.long q2)]) (rest := []) (lenOf pd_0 rfl) rfl (by show 2 * 0 + _ ≤ _; exact Nat.le_of_eq rfl) (hb hby at_170) (fun _ _ => ⟨rfl, e28, (by decide : 0 + 0 ≤ _), (by decide : 0 + 0 ≤ _)⟩)
    dsimp only [Pt.U, Pt.locs, Pt.cells, Pt.slots] at X29 l29 y29 z29 st29 hQ29
    subst l29 y29 z29
    obtain ⟨rfl, N29q, e29⟩ := hQ29
    have N29 := Fr.app N0 N29q
    refine OGot.on st29 ?_
    show OGot p.tables e below (T29.setTop (mkF m 173 #[.val (.int p1), .val (.long q2), .second, .val (.int (8 : Int32)), .val (.ref w_UINT64), .val (.long q2), .second] [(.long q2)])) _
    refine OGot.go (fun t k => XS.lload X29.here hx rfl (hb hby at_173) rfl k) ?_
    show OGot p.tables e below (T29.setTop (mkF m 175 #[.val (.int p1), .val (.long q2), .second, .val (.int (8 : Int32)), .val (.ref w_UINT64), .val (.long q2), .second] [(.long q2), (.long q2)])) _
    refine OGot.go (fun t k => XS.lcmp X29.here hx rfl (hb hby at_175) rfl k) ?_
    show OGot p.tables e below (T29.setTop (mkF m 176 #[.val (.int p1), .val (.long q2), .second, .val (.int (8 : Int32)), .val (.ref w_UINT64), .val (.long q2), .second] [(.int (lcmpW q2 q2))])) _
    refine OGot.go (fun t k => XS.ifNo X29.here hx rfl (hb hby at_176) rfl ((if0 _ _).trans (teq ((lw_eq q2 q2).mpr rfl)).2) k) ?_
    show OGot p.tables e below (T29.setTop (mkF m 179 #[.val (.int p1), .val (.long q2), .second, .val (.int (8 : Int32)), .val (.ref w_UINT64), .val (.long q2), .second] [])) _
    refine OGot.go (fun t k => XS.iconst X29.here hx rfl (hb hby at_179) k) ?_
    show OGot p.tables e below (T29.setTop (mkF m 180 #[.val (.int p1), .val (.long q2), .second, .val (.int (8 : Int32)), .val (.ref w_UINT64), .val (.long q2), .second] [(.int (1 : Int32))])) _
    refine OGot.go (fun t k => XS.goto X29.here hx rfl (pc0 := 180) (pc' := 184) rfl (hb hby at_180) (by decide) (by decide) k) ?_
    show OGot p.tables e below (T29.setTop (mkF m 184 #[.val (.int p1), .val (.long q2), .second, .val (.int (8 : Int32)), .val (.ref w_UINT64), .val (.long q2), .second] [(.int (1 : Int32))])) _
    obtain ⟨fs, hr, hrun, hended, hW, hsame⟩ := X29.leave (v := some (.int (1 : Int32))) (fun h => by rw [Bd.returns] at h; cases h)
    refine ⟨_, _, retN X29 hx (t := .boolean) Bd.returns (by simp) (hb hby at_184) hr, hrun, hended, _, _, rfl, ?_, ⟨_, rfl⟩, hW, hsame.mono (by decide) (by decide)⟩
    exact (⟨rfl, N29⟩ : Q0 Z w_BOOL w_INT8 w_UINT8 w_INT64 w_UINT32 w_UINT16 w_INT16 w_UINT64 w_INT32 p1 q2 h0 n0 _ T29.heap _)
set_option maxRecDepth 65536 in
set_option maxHeartbeats 40000000 in
theorem comes_1 {Post : Tables → Env → Array Value → State → Outcome → State → Prop} (hpost : ∀ tb e args s v u, (limb_1_1.after args s (.returned v) u = true ∧ limb_1_2.after args s (.returned v) u = true ∧ True) → FrameEnd s (.returned v) u (Jvm.fieldLocs frame_1_writes args s ++ Jvm.arrayLocs frame_1_arrays args s ++ Jvm.staticLocs frame_1_statics s) 0 0 → Post tb e args s (.returned v) u) :
    ArmFor flags0 classFile x code maxLocals ret World_1 tables_1 room_1 Calls_1 rest_1 Pre_1 Post := by
  intro l hfl _ _ p e ha hc hk s m args below hf hA hF happ hP
  obtain ⟨hcalls, hrest, hpre⟩ := hP
  obtain ⟨-, -, -, hnamed, -, -, -, hat⟩ := (Spec.applies_iff hf).mp happ
  obtain ⟨hg, hn⟩ := and_e (Cond.before_iff.mp (show (Jvm.Cond.and given_1 narrow_1).before args s = true from hpre))
  obtain ⟨g0, g0r⟩ := and_e hg
  obtain ⟨g1, g1r⟩ := and_e g0r
  obtain ⟨w0, w1, rfl⟩ : ∃ w0 w1 : Value, args = #[w0, w1] := by
    have hs : args.size = 2 := by simpa [Cond.value, given_1] using g0
    obtain ⟨L⟩ := args
    match L, hs with
    | [w0, w1], _ => exact ⟨w0, w1, rfl⟩
  have hw := fun d (hd : d ∈ tables_1) => atoms_spec (ws := Jvm.Cond.code x code maxLocals ret :: tables_1) hat d (List.mem_cons_of_mem _ hd)
  obtain ⟨i0, ei0⟩ := is_v g1
  obtain rfl : w0 = (.int i0) := Option.some.inj ei0
  obtain ⟨i1, ei1⟩ := isL_v g1r
  obtain rfl : w1 = (.long i1) := Option.some.inj ei1
  obtain ⟨m0, m0r⟩ := and_e hn
  obtain ⟨m1, m1r⟩ := and_e m0r
  obtain ⟨m2, m2r⟩ := and_e m1r
  obtain ⟨m3, m3r⟩ := and_e m2r
  obtain ⟨m4, m4r⟩ := and_e m3r
  obtain ⟨m5, m5r⟩ := and_e m4r
  obtain ⟨m6, m6r⟩ := and_e m5r
  obtain ⟨m7, m7r⟩ := and_e m6r
  obtain ⟨m8, m8r⟩ := and_e m7r
  obtain ⟨m9, m9r⟩ := and_e m8r
  obtain ⟨m10, m10r⟩ := and_e m9r
  obtain ⟨m11, m11r⟩ := and_e m10r
  obtain ⟨m12, m12r⟩ := and_e m11r
  obtain ⟨m13, m13r⟩ := and_e m12r
  obtain ⟨m14, m14r⟩ := and_e m13r
  obtain ⟨m15, m15r⟩ := and_e m14r
  obtain ⟨m16, m16r⟩ := and_e m15r
  obtain ⟨m17, m17r⟩ := and_e m16r
  obtain ⟨m18, m18r⟩ := and_e m17r
  obtain ⟨m19, m19r⟩ := and_e m18r
  obtain ⟨m20, m20r⟩ := and_e m19r
  obtain ⟨m21, m21r⟩ := and_e m20r
  obtain ⟨m22, m22r⟩ := and_e m21r
  obtain ⟨m23, m23r⟩ := and_e m22r
  obtain ⟨m24, m24r⟩ := and_e m23r
  obtain ⟨m25, m25r⟩ := and_e m24r
  obtain ⟨w_BOOL, ev_w_BOOL⟩ := exa_v m0
  obtain ⟨w_INT8, ev_w_INT8⟩ := exa_v m3
  obtain ⟨w_UINT8, ev_w_UINT8⟩ := exa_v m6
  obtain ⟨w_INT64, ev_w_INT64⟩ := exa_v m9
  obtain ⟨w_UINT32, ev_w_UINT32⟩ := exa_v m11
  obtain ⟨w_UINT16, ev_w_UINT16⟩ := exa_v m14
  obtain ⟨w_INT16, ev_w_INT16⟩ := exa_v m17
  obtain ⟨w_UINT64, ev_w_UINT64⟩ := exa_v m20
  obtain ⟨w_INT32, ev_w_INT32⟩ := exa_v m22
  have G : Glob s w_BOOL w_INT8 w_UINT8 w_INT64 w_UINT32 w_UINT16 w_INT16 w_UINT64 w_INT32 := ⟨(Sta.start ev_w_BOOL (Or.inr ⟨(ow hw 2 rfl), (ow hw 3 rfl)⟩)), (Exa.start ev_w_BOOL m0), (Sta.start ev_w_INT8 (Or.inr ⟨(ow hw 2 rfl), (ow hw 14 rfl)⟩)), (Exa.start ev_w_INT8 m3), (Sta.start ev_w_UINT8 (Or.inr ⟨(ow hw 2 rfl), (ow hw 16 rfl)⟩)), (Exa.start ev_w_UINT8 m6), (Sta.start ev_w_INT64 (Or.inr ⟨(ow hw 2 rfl), (ow hw 19 rfl)⟩)), (Exa.start ev_w_INT64 m9), (Sta.start ev_w_UINT32 (Or.inr ⟨(ow hw 2 rfl), (ow hw 21 rfl)⟩)), (Exa.start ev_w_UINT32 m11), (Sta.start ev_w_UINT16 (Or.inr ⟨(ow hw 2 rfl), (ow hw 24 rfl)⟩)), (Exa.start ev_w_UINT16 m14), (Sta.start ev_w_INT16 (Or.inr ⟨(ow hw 2 rfl), (ow hw 27 rfl)⟩)), (Exa.start ev_w_INT16 m17), (Sta.start ev_w_UINT64 (Or.inr ⟨(ow hw 2 rfl), (ow hw 29 rfl)⟩)), (Exa.start ev_w_UINT64 m20), (Sta.start ev_w_INT32 (Or.inr ⟨(ow hw 2 rfl), (ow hw 31 rfl)⟩)), (Exa.start ev_w_INT32 m22), (Fld.start ((fld_at ev_w_BOOL).symm.trans (oeq_int m1))), (Fld.start ((fld_at ev_w_BOOL).symm.trans (oeq_int m2))), (Fld.start ((fld_at ev_w_INT8).symm.trans (oeq_int m4))), (Fld.start ((fld_at ev_w_INT8).symm.trans (oeq_int m5))), (Fld.start ((fld_at ev_w_UINT8).symm.trans (oeq_int m7))), (Fld.start ((fld_at ev_w_UINT8).symm.trans (oeq_int m8))), (Fld.start ((fld_at ev_w_INT64).symm.trans (oeq_int m10))), (Fld.start ((fld_at ev_w_UINT32).symm.trans (oeq_int m12))), (Fld.start ((fld_at ev_w_UINT32).symm.trans (oeq_int m13))), (Fld.start ((fld_at ev_w_UINT16).symm.trans (oeq_int m15))), (Fld.start ((fld_at ev_w_UINT16).symm.trans (oeq_int m16))), (Fld.start ((fld_at ev_w_INT16).symm.trans (oeq_int m18))), (Fld.start ((fld_at ev_w_INT16).symm.trans (oeq_int m19))), (Fld.start ((fld_at ev_w_UINT64).symm.trans (oeq_int m21))), (Fld.start ((fld_at ev_w_INT32).symm.trans (oeq_int m23))), (Fld.start ((fld_at ev_w_INT32).symm.trans (oeq_int m24))), (Fld.start ((fld_at ev_w_INT64).symm.trans (oeq_int m25))), (Fld.start ((fld_at ev_w_UINT64).symm.trans (oeq_int m25r)))⟩
  obtain ⟨n, o, h1, h2, h3, _, L, rfl, ⟨rfl, N⟩, hq⟩ := rm0 l s _ hw tables_1 G i0 i1 s.heap s.heap.size (Old.start s) p e ha hc hk s m _ below hf ((Spec.applies_iff_loose hf).mp happ).1 ⟨rfl, State.Warmed39.refl s, rfl⟩ trivial
  refine ⟨n, _, h1, h2, h3, hpost _ _ _ _ _ _ ⟨Cond.after_iff.mpr rfl, Cond.after_iff.mpr (eq_i res_at (Term.int_eval (1)) rfl), trivial⟩ ⟨hq.1, hq.2.1, (hq.2.2.sift fun y hy => Or.inr (N y hy)).mono (by decide) (by decide)⟩⟩
theorem main_1_1 : Claimed_1_1 := comes_1 fun _ _ _ _ _ _ h hF => ⟨h.1, hF⟩
theorem main_1_2 : Claimed_1_2 := comes_1 fun _ _ _ _ _ _ h hF => ⟨h.2.1, hF⟩
end Jvm.Pilot.@@N@@
namespace Jvm.Pilot.@@N@@
open Jvm Jvm.ClassFile Sem Op Lib Jvm.Free Jvm.Stand Jvm.Pilot.@@N@@.Jvm.D
/-! MADE BY PROGRAM (witnessworld.py) out of the Statement's table words and the real class files: 12 classes; the members and pool entries that the words name. The judged class is class 1, her method 1. -/
namespace start1
open Jvm.ClassFile
def u (s : String) : CpInfo := .utf8 (stringToUtf16 s)
/-- a pool by its gaps: so many unusable entries, then the entry; so many at the end -/
def gap : Nat → List CpInfo → List CpInfo
  | 0, r => r
  | n + 1, r => .unusable :: gap n r
def poolList (es : List (Nat × CpInfo)) (last : Nat) : List CpInfo := es.foldr (fun e r => gap e.1 (e.2 :: r)) (gap last [])
def pool (es : List (Nat × CpInfo)) (last : Nat) : Array CpInfo := ⟨poolList es last⟩
def fileOf (pool : Array CpInfo) (this : Nat) (attrs : Array Attribute := #[]) (ms : Array MethodInfo := #[]) (fl : Nat := 33) (sup : Nat := 0) (ifs : Array Nat := #[]) (fds : Array FieldInfo := #[]) : ClassFile where
  minorVersion := 0
  majorVersion := 65
  constantPool := pool
  accessFlags := fl
  thisClass := this
  superClass := sup
  interfaces := ifs
  fields := fds
  methods := ms
  attributes := attrs
def plain (name : String) (sup : Option ClassId) : Class where
  name := name
  kind := .ordinary
  loader := none
  accessFlags := 33
  super := sup
  interfaces := #[]
  cf := none
  fields := #[]
  methods := #[]
  instanceTypes := #[]
  staticTypes := #[]
  resolved := #[]
  callSites := []
  init := .initialized
  statics := none
  mirror := none

def pool0 : Array CpInfo := pool [(5, u "<init>"), (0, u "()V"), (1, .class_ 10), (1, u "java/lang/Object")] 113

def k0m0 : Method := { name := "<init>", desc := "()V", sig := { parameters := [], returnType := none }, accessFlags := 1, code := none }
/-- java/lang/Object -/
def k0 : Class := { plain "java/lang/Object" none with
  accessFlags := 33
  interfaces := #[]
  cf := some (fileOf pool0 8 #[] #[{ accessFlags := 1, nameIndex := 5, descriptorIndex := 6, attributes := #[] }] 33 0 #[] #[])
  fields := #[]
  methods := #[k0m0]
  instanceTypes := #[]
  staticTypes := #[]
  resolved := Array.replicate 124 none
  statics := none }

def pool1 : Array CpInfo := pool [(2, .class_ 4), (1, u "java/lang/Object"), (0, u "<init>"), (0, u "()V"), (0, .integer 2147483647), (0, .fieldref 9 10), (0, .class_ 11), (0, .nameAndType 12 13), (0, u "com/example/muster/muster/model/IntegerType"), (0, u "BOOL"), (0, u "Lcom/example/muster/muster/model/IntegerType;"), (0, .fieldref 9 15), (0, .nameAndType 16 13), (0, u "INT8"), (0, .fieldref 9 18), (0, .nameAndType 19 13), (0, u "UINT8"), (0, .long 255), (1, .fieldref 9 23), (0, .nameAndType 24 13), (0, u "INT16"), (0, .fieldref 9 26), (0, .nameAndType 27 13), (0, u "UINT16"), (0, .long 65535), (1, .fieldref 9 31), (0, .nameAndType 32 13), (0, u "INT32"), (0, .fieldref 9 34), (0, .nameAndType 35 13), (0, u "UINT32"), (0, .long 4294967295), (1, .fieldref 9 39), (0, .nameAndType 40 13), (0, u "INT64"), (0, .fieldref 9 42), (0, .nameAndType 43 13), (0, u "UINT64"), (0, .methodref 9 45), (0, .nameAndType 46 47), (0, u "wrap"), (0, u "(J)J"), (0, .class_ 49), (0, u "com/example/muster/muster/model/IntegerTypeWrapPinLaw"), (2, u "law"), (0, u "(IJ)Z")] 3

def k1m0 : Method := { name := "<init>", desc := "()V", sig := { parameters := [], returnType := none }, accessFlags := 1, code := none }
def k1c1 : Code := { maxStack := 4, maxLocals := 7, code := code, exceptionTable := #[], attributes := #[] }
def k1m1 : Method := { name := "law", desc := "(IJ)Z", sig := { parameters := [.int, .long], returnType := some .boolean }, accessFlags := 9, code := some k1c1 }
/-- com/example/muster/muster/model/IntegerTypeWrapPinLaw -/
def k1 : Class := { plain "com/example/muster/muster/model/IntegerTypeWrapPinLaw" (some 0) with
  accessFlags := 49
  interfaces := #[]
  cf := some (fileOf pool1 48 #[] #[{ accessFlags := 1, nameIndex := 5, descriptorIndex := 6, attributes := #[] }, { accessFlags := 9, nameIndex := 52, descriptorIndex := 53, attributes := #[] }] 49 2 #[] #[])
  fields := #[]
  methods := #[k1m0, k1m1]
  instanceTypes := #[]
  staticTypes := #[]
  resolved := Array.replicate 57 none
  statics := none }

def pool2 : Array CpInfo := pool [(1, .class_ 2), (0, u "java/lang/constant/Constable"), (0, .class_ 4), (0, u "java/lang/Object")] 6

/-- java/lang/constant/Constable -/
def k2 : Class := { plain "java/lang/constant/Constable" (some 0) with
  accessFlags := 1537
  interfaces := #[]
  cf := some (fileOf pool2 1 #[] #[] 1537 3 #[] #[])
  fields := #[]
  methods := #[]
  instanceTypes := #[]
  staticTypes := #[]
  resolved := Array.replicate 11 none
  statics := none }

def pool3 : Array CpInfo := pool [(1, .class_ 2), (0, u "java/lang/Comparable"), (0, .class_ 4), (0, u "java/lang/Object")] 7

/-- java/lang/Comparable -/
def k3 : Class := { plain "java/lang/Comparable" (some 0) with
  accessFlags := 1537
  interfaces := #[]
  cf := some (fileOf pool3 1 #[] #[] 1537 3 #[] #[])
  fields := #[]
  methods := #[]
  instanceTypes := #[]
  staticTypes := #[]
  resolved := Array.replicate 12 none
  statics := none }

def pool4 : Array CpInfo := pool [(1, .class_ 2), (0, u "java/io/Serializable"), (0, .class_ 4), (0, u "java/lang/Object")] 2

/-- java/io/Serializable -/
def k4 : Class := { plain "java/io/Serializable" (some 0) with
  accessFlags := 1537
  interfaces := #[]
  cf := some (fileOf pool4 1 #[] #[] 1537 3 #[] #[])
  fields := #[]
  methods := #[]
  instanceTypes := #[]
  staticTypes := #[]
  resolved := Array.replicate 7 none
  statics := none }

def pool5 : Array CpInfo := pool [(2, .class_ 4), (1, u "java/lang/Enum"), (0, u "name"), (0, u "Ljava/lang/String;"), (2, u "ordinal"), (0, u "I"), (1, .class_ 14), (1, u "java/lang/Object"), (4, u "hash"), (86, .class_ 108), (1, u "java/lang/Enum$EnumDesc"), (2, .class_ 112), (0, u "java/lang/constant/Constable"), (0, .class_ 114), (0, u "java/lang/Comparable"), (0, .class_ 116), (0, u "java/io/Serializable")] 87

/-- java/lang/Enum -/
def k5 : Class := { plain "java/lang/Enum" (some 0) with
  accessFlags := 1057
  interfaces := #[2, 3, 4]
  cf := some (fileOf pool5 2 #[.nestMembers #[106]] #[] 1057 12 #[111, 113, 115] #[{ accessFlags := 18, nameIndex := 5, descriptorIndex := 6, attributes := #[] }, { accessFlags := 18, nameIndex := 9, descriptorIndex := 10, attributes := #[] }, { accessFlags := 2, nameIndex := 19, descriptorIndex := 10, attributes := #[] }])
  fields := #[{ name := "name", type := (.object "java/lang/String"), accessFlags := 18, slot := 0, constantValue := 0 }, { name := "ordinal", type := .int, accessFlags := 18, slot := 1, constantValue := 0 }, { name := "hash", type := .int, accessFlags := 2, slot := 2, constantValue := 0 }]
  methods := #[]
  instanceTypes := #[(.object "java/lang/String"), .int, .int]
  staticTypes := #[]
  resolved := Array.replicate 204 none
  statics := none }

def pool6 : Array CpInfo := pool [(1, .class_ 2), (0, u "com/example/muster/muster/model/IntegerType"), (2, u "BOOL"), (0, u "Lcom/example/muster/muster/model/IntegerType;"), (2, u "INT8"), (2, u "UINT8"), (2, u "INT16"), (2, u "UINT16"), (2, u "INT32"), (2, u "UINT32"), (2, u "INT64"), (2, u "UINT64"), (2, u "$VALUES"), (0, u "[Lcom/example/muster/muster/model/IntegerType;"), (6, .class_ 43), (1, u "java/lang/Enum"), (6, .fieldref 1 51), (0, .nameAndType 52 53), (0, u "bits"), (0, u "I"), (0, .fieldref 1 55), (0, .nameAndType 56 57), (0, u "signed"), (0, u "Z"), (6, u "min"), (0, u "J"), (2, u "max"), (14, u "TWO_TO_64"), (0, u "Ljava/math/BigInteger;"), (41, u "wrap"), (0, u "(J)J")] 6

def k6c0 : Code := { maxStack := 3, maxLocals := 4, code := prog_89_method_8_code, exceptionTable := #[], attributes := #[] }
def k6m0 : Method := { name := "wrap", desc := "(J)J", sig := { parameters := [.long], returnType := some .long }, accessFlags := 1, code := some k6c0 }
/-- com/example/muster/muster/model/IntegerType -/
def k6 : Class := { plain "com/example/muster/muster/model/IntegerType" (some 5) with
  accessFlags := 16433
  interfaces := #[]
  cf := some (fileOf pool6 1 #[] #[{ accessFlags := 1, nameIndex := 126, descriptorIndex := 127, attributes := #[] }] 16433 41 #[] #[{ accessFlags := 16409, nameIndex := 5, descriptorIndex := 6, attributes := #[] }, { accessFlags := 16409, nameIndex := 9, descriptorIndex := 6, attributes := #[] }, { accessFlags := 16409, nameIndex := 12, descriptorIndex := 6, attributes := #[] }, { accessFlags := 16409, nameIndex := 15, descriptorIndex := 6, attributes := #[] }, { accessFlags := 16409, nameIndex := 18, descriptorIndex := 6, attributes := #[] }, { accessFlags := 16409, nameIndex := 21, descriptorIndex := 6, attributes := #[] }, { accessFlags := 16409, nameIndex := 24, descriptorIndex := 6, attributes := #[] }, { accessFlags := 16409, nameIndex := 27, descriptorIndex := 6, attributes := #[] }, { accessFlags := 16409, nameIndex := 30, descriptorIndex := 6, attributes := #[] }, { accessFlags := 26, nameIndex := 83, descriptorIndex := 84, attributes := #[] }, { accessFlags := 18, nameIndex := 52, descriptorIndex := 53, attributes := #[] }, { accessFlags := 18, nameIndex := 56, descriptorIndex := 57, attributes := #[] }, { accessFlags := 18, nameIndex := 64, descriptorIndex := 65, attributes := #[] }, { accessFlags := 18, nameIndex := 68, descriptorIndex := 65, attributes := #[] }, { accessFlags := 4122, nameIndex := 33, descriptorIndex := 34, attributes := #[] }])
  fields := #[{ name := "BOOL", type := (.object "com/example/muster/muster/model/IntegerType"), accessFlags := 16409, slot := 0, constantValue := 0 }, { name := "INT8", type := (.object "com/example/muster/muster/model/IntegerType"), accessFlags := 16409, slot := 1, constantValue := 0 }, { name := "UINT8", type := (.object "com/example/muster/muster/model/IntegerType"), accessFlags := 16409, slot := 2, constantValue := 0 }, { name := "INT16", type := (.object "com/example/muster/muster/model/IntegerType"), accessFlags := 16409, slot := 3, constantValue := 0 }, { name := "UINT16", type := (.object "com/example/muster/muster/model/IntegerType"), accessFlags := 16409, slot := 4, constantValue := 0 }, { name := "INT32", type := (.object "com/example/muster/muster/model/IntegerType"), accessFlags := 16409, slot := 5, constantValue := 0 }, { name := "UINT32", type := (.object "com/example/muster/muster/model/IntegerType"), accessFlags := 16409, slot := 6, constantValue := 0 }, { name := "INT64", type := (.object "com/example/muster/muster/model/IntegerType"), accessFlags := 16409, slot := 7, constantValue := 0 }, { name := "UINT64", type := (.object "com/example/muster/muster/model/IntegerType"), accessFlags := 16409, slot := 8, constantValue := 0 }, { name := "TWO_TO_64", type := (.object "java/math/BigInteger"), accessFlags := 26, slot := 9, constantValue := 0 }, { name := "bits", type := .int, accessFlags := 18, slot := 3, constantValue := 0 }, { name := "signed", type := .boolean, accessFlags := 18, slot := 4, constantValue := 0 }, { name := "min", type := .long, accessFlags := 18, slot := 5, constantValue := 0 }, { name := "max", type := .long, accessFlags := 18, slot := 6, constantValue := 0 }, { name := "$VALUES", type := (.array (.object "com/example/muster/muster/model/IntegerType")), accessFlags := 4122, slot := 10, constantValue := 0 }]
  methods := #[k6m0]
  instanceTypes := #[(.object "java/lang/String"), .int, .int, .int, .boolean, .long, .long]
  staticTypes := #[(.object "com/example/muster/muster/model/IntegerType"), (.object "com/example/muster/muster/model/IntegerType"), (.object "com/example/muster/muster/model/IntegerType"), (.object "com/example/muster/muster/model/IntegerType"), (.object "com/example/muster/muster/model/IntegerType"), (.object "com/example/muster/muster/model/IntegerType"), (.object "com/example/muster/muster/model/IntegerType"), (.object "com/example/muster/muster/model/IntegerType"), (.object "com/example/muster/muster/model/IntegerType"), (.object "java/math/BigInteger"), (.array (.object "com/example/muster/muster/model/IntegerType"))]
  resolved := Array.replicate 134 none
  statics := some 0 }

def pool7 : Array CpInfo := pool [(1, u "java/lang/Cloneable"), (0, .class_ 1), (0, u "java/lang/Object"), (0, .class_ 3)] 3

/-- java/lang/Cloneable -/
def k7 : Class := { plain "java/lang/Cloneable" (some 0) with
  accessFlags := 1537
  interfaces := #[]
  cf := some (fileOf pool7 2 #[] #[] 1537 4 #[] #[])
  fields := #[]
  methods := #[]
  instanceTypes := #[]
  staticTypes := #[]
  resolved := Array.replicate 8 none
  statics := none }

/-- the primitive byte -/
def k8 : Class := { plain "byte" none with kind := .primitive 'B', accessFlags := 0x411 }
/-- [B -/
def k9 : Class := { plain "[B" (some 0) with kind := .array 8 .byte, interfaces := #[7, 4], accessFlags := 1041 }

/-- the primitive int -/
def k10 : Class := { plain "int" none with kind := .primitive 'I', accessFlags := 0x411 }
/-- [I -/
def k11 : Class := { plain "[I" (some 0) with kind := .array 10 .int, interfaces := #[7, 4], accessFlags := 1041 }

def heap : Heap := #[{ cls := 6, slots := #[.ref 1, .ref 2, .ref 3, .ref 7, .ref 6, .ref 9, .ref 5, .ref 4, .ref 8, .null, .null], vm := .statics 6 },
  { cls := 6, slots := #[.null, .int 0, .int 0, .int 1, .int 0, .long 0, .long 0], vm := .none },
  { cls := 6, slots := #[.null, .int 0, .int 0, .int 8, .int 1, .long 0, .long 0], vm := .none },
  { cls := 6, slots := #[.null, .int 0, .int 0, .int 8, .int 0, .long 0, .long 0], vm := .none },
  { cls := 6, slots := #[.null, .int 0, .int 0, .int 64, .int 1, .long 0, .long 0], vm := .none },
  { cls := 6, slots := #[.null, .int 0, .int 0, .int 32, .int 0, .long 0, .long 0], vm := .none },
  { cls := 6, slots := #[.null, .int 0, .int 0, .int 16, .int 0, .long 0, .long 0], vm := .none },
  { cls := 6, slots := #[.null, .int 0, .int 0, .int 16, .int 1, .long 0, .long 0], vm := .none },
  { cls := 6, slots := #[.null, .int 0, .int 0, .int 64, .int 0, .long 0, .long 0], vm := .none },
  { cls := 6, slots := #[.null, .int 0, .int 0, .int 32, .int 1, .long 0, .long 0], vm := .none }]
def classes : Array Class := #[k0, k1, k2, k3, k4, k5, k6, k7, k8, k9, k10, k11]
def interned : List (Array UInt16 × Addr) := []
def slotsUsed : Nat := 74
def theMethod : MethodId := ⟨1, 1⟩
def args0 : Array Value := #[.int 5, .long 7]
def aboutOver (below : List Frame) : State where
  vm := { classes := classes, interned := interned.toArray }
  heap := heap
  slotsUsed := slotsUsed
  threads := #[{ frames := .invoking theMethod args0 :: below }]
def below0 : List Frame := [.native { method := ⟨0, 0⟩, args := #[] }]
def about1 : State := aboutOver below0
def p0 : Program := .bare "" "" ""
def e0 : Env := launch0.env 0 0 0
theorem w_frames : about1.frames = Frame.invoking theMethod args0 :: below0 := rfl
set_option maxRecDepth 65536 in
theorem w_args : argsFit about1.vm theMethod args0 = true := by decide +kernel
set_option maxRecDepth 65536 in
theorem w_heap : heapFits about1 = true := by decide +kernel
set_option maxRecDepth 65536 in
theorem w_runnable : about1.curStatus? = some .runnable := by decide +kernel
set_option maxRecDepth 65536 in
theorem w_alone : about1.alone = true := by decide +kernel
set_option maxRecDepth 65536 in
theorem w_named : about1.methodNamed? x = some theMethod := by decide +kernel
set_option maxRecDepth 65536 in
theorem w_hears : about1.hears theMethod below0 = true := by decide +kernel
set_option maxRecDepth 65536 in
theorem w_ripe : about1.ripe theMethod args0 below0 = true := by decide +kernel
theorem w_running : about1.status = .running := rfl
set_option maxRecDepth 65536 in
theorem w_room : about1.hasRoom e0.platform room_1 = true :=
  launch0.hasRoom_least _ room_1 (by decide +kernel) (by decide +kernel) (by decide +kernel) (by decide +kernel) (by decide +kernel) (by decide +kernel)
theorem allAtoms_all (ts : List Jvm.Cond) (a : Array Jvm.Value) (st : Jvm.State) : (allAtoms ts).before a st = ts.all (fun c => c.before a st) := by
  induction ts with
  | nil => rfl
  | cons c t ih =>
    show (Jvm.Cond.and c (allAtoms t)).before a st = _
    rw [Jvm.Cond.before_and, ih, List.all_cons]
def words1 : List Jvm.Cond := Jvm.Cond.code x code maxLocals ret :: tables_1
/-- a 'code' word, met by the world's own term for the bytes: nothing is compared byte by byte -/
theorem code_word {y : MethodName} {bytes : ByteArray} {mx : Nat} {rt : Option FieldType} {a : Array Value} {s : State} {m : MethodId} {meth : Method} {c : Code} (h1 : s.methodNamed? y = some m) (h2 : s.vm.method? m = some meth) (h3 : meth.code = some c) (h4 : c.code = bytes)
    (h5 : (c.maxLocals == mx && c.exceptionTable.isEmpty && decide (c.maxStack ≤ mostOperands) && decide (meth.sig.returnType = rt) && !meth.locks && decide (parseMethodDescriptor y.desc = some meth.sig)) = true) : (Jvm.Cond.code y bytes mx rt).before a s = true := by
  simp only [Bool.and_eq_true, beq_iff_eq, Bool.not_eq_true', decide_eq_true_eq] at h5
  obtain ⟨⟨⟨⟨⟨g1, g2⟩, g3⟩, g4⟩, g5⟩, g6⟩ := h5
  simp [Cond.before, Cond.holds, Cond.value, h1, h2, h3, h4, g1, g2, g3, g4, g5, g6]
def isCode : Jvm.Cond → Bool
  | .code _ _ _ _ => true
  | _ => false
theorem all_split {L : List Jvm.Cond} {P : Jvm.Cond → Bool} (h1 : L.all (fun c => isCode c || P c) = true) (h2 : ∀ c ∈ L.filter isCode, P c = true) : L.all P = true := by
  refine List.all_eq_true.mpr fun c hc => ?_
  have h := List.all_eq_true.mp h1 c hc
  rcases Bool.eq_false_or_eq_true (isCode c) with hi | hi
  · exact h2 c (List.mem_filter.mpr ⟨hc, hi⟩)
  · simpa [hi] using h
set_option maxRecDepth 65536 in
theorem w_c0 : (Jvm.Cond.code x code maxLocals ret).before args0 about1 = true := code_word (m := ⟨1, 1⟩) (meth := k1m1) (c := k1c1) (by decide +kernel) rfl rfl rfl (by decide +kernel)
set_option maxRecDepth 65536 in
theorem w_c1 : (Jvm.Cond.code ({ cls := "com/example/muster/muster/model/IntegerType", name := "wrap", desc := "(J)J" } : Jvm.MethodName) prog_89_method_8_code (4 : Nat) (Option.some Jvm.ClassFile.FieldType.long)).before args0 about1 = true := code_word (m := ⟨6, 0⟩) (meth := k6m0) (c := k6c0) (by decide +kernel) rfl rfl rfl (by decide +kernel)
def codes1 : List Jvm.Cond := [Jvm.Cond.code x code maxLocals ret, Jvm.Cond.code ({ cls := "com/example/muster/muster/model/IntegerType", name := "wrap", desc := "(J)J" } : Jvm.MethodName) prog_89_method_8_code (4 : Nat) (Option.some Jvm.ClassFile.FieldType.long)]
set_option maxRecDepth 65536 in
theorem codes_eq : words1.filter isCode = codes1 := rfl
theorem w_codes : ∀ c ∈ words1.filter isCode, c.before args0 about1 = true := by
  rw [codes_eq]
  intro c hc
  simp only [codes1, List.mem_cons, List.not_mem_nil, or_false] at hc
  rcases hc with rfl | rfl
  · exact w_c0
  · exact w_c1
set_option maxRecDepth 65536 in
theorem w_t1 : (words1.take 24).all (fun c => isCode c || c.before args0 about1) = true := by decide +kernel
set_option maxRecDepth 65536 in
theorem w_t2 : (words1.drop 24).all (fun c => isCode c || c.before args0 about1) = true := by decide +kernel
theorem w_tables : (allAtoms (Jvm.Cond.code x code maxLocals ret :: tables_1)).before args0 about1 = true := by
  rw [allAtoms_all]
  show words1.all (fun c => c.before args0 about1) = true
  refine all_split ?_ w_codes
  rw [← List.take_append_drop 24 words1, List.all_append, w_t1, w_t2]
  rfl
set_option maxRecDepth 65536 in
theorem w_case : (Jvm.Cond.and given_1 narrow_1).before args0 about1 = true := by decide +kernel
theorem w_applies : (headSpec (Jvm.Cond.code x code maxLocals ret :: tables_1) room_1).applies x e0.platform about1 = true :=
  (Spec.applies_iff w_frames).mpr ⟨w_running, w_runnable, w_alone, w_named, w_hears, w_ripe, w_room, w_tables⟩
theorem atStart : AtStart classFile x code maxLocals ret World_1 tables_1 room_1 Calls_1 rest_1 Pre_1 launch0 p0 e0 about1 theMethod args0 below0 :=
  ⟨lists_1, trivial, launch0.admits_env _ _ _, launch0.least_env, fairChoices_fair.cas, fairChoices_fair.clock, w_frames, w_args, w_heap, w_applies, trivial, trivial, w_case⟩
end start1
theorem witness_1 : WitnessClaimed_1 := ⟨start1.p0, start1.e0, start1.about1, start1.theMethod, start1.args0, start1.below0, start1.atStart⟩
end Jvm.Pilot.@@N@@
