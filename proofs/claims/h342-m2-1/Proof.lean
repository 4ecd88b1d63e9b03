import JvmDerived
import JvmDerived.Pilot.@@N@@Statement
import JvmDerived.Pilot.@@N@@Code
set_option linter.unusedVariables false
set_option linter.unusedSimpArgs false
namespace Jvm.Pilot.@@N@@
open Jvm Jvm.ClassFile Sem Op Lib Jvm.Free Jvm.Stand Jvm.LawKit Jvm.RoadKit Bundle Jvm.Pilot.@@N@@.Jvm.D
section OwnKit
variable {p : Program} {l : Launch} {e : Env} {R : Room} {s : State} {m : MethodId} {args : Array Value} {below : List Frame} {meth : Method} {c : Code} {T : State} {locs : List Loc} {cells slots : Nat}
theorem retI (X : Stand p l e R s m args below meth c T locs cells slots) (hx : p.tables.exec = Jvm.exec) {pc : Nat} {Ls : Array Slot} {z : Int32} {rest : List Value} (hret : meth.sig.returnType = some .int) (hd : decode c.code pc = .ok (.ireturn, 1)) {fs : List Frame}
    (hl : ∀ (f : JFrame) (acts : List Action), f.method = m → f.locked = none → f.entered = [] → (doReturn e (T.setTop f) acts (some (.int z))).1 = T.setFrames fs) : Steps p.tables e below (T.setTop (mkF m pc Ls (.int z :: rest))) (T.setFrames fs) :=
  retOut X hx hret rfl (Or.inl ⟨rfl, Or.inl rfl, z, rfl⟩) hd hl
theorem oretJ (X : Stand p l e R s m args below meth c T locs cells slots) (hx : p.tables.exec = Jvm.exec) {pc : Nat} {Ls : Array Slot} {z : Int64} {rest : List Value} (hret : meth.sig.returnType = some .long) (hd : decode c.code pc = .ok (.lreturn, 1)) {fs : List Frame}
    (hl : ∀ (f : JFrame) (acts : List Action), f.method = m → f.locked = none → f.entered = [] → (doReturn e (T.setTop f) acts (some (.long z))).1 = T.setFrames fs) : Steps p.tables e below (T.setTop (mkF m pc Ls (.long z :: rest))) (T.setFrames fs) :=
  retOut X hx hret rfl (Or.inr (Or.inl ⟨rfl, rfl, z, rfl⟩)) hd hl
theorem oretA (X : Stand p l e R s m args below meth c T locs cells slots) (hx : p.tables.exec = Jvm.exec) {pc : Nat} {Ls : Array Slot} {w : Value} {t : FieldType} {rest : List Value} (hret : meth.sig.returnType = some t) (ht : t.isReference = true) (hw : w.isRef = true) (hd : decode c.code pc = .ok (.areturn, 1)) {fs : List Frame}
    (hl : ∀ (f : JFrame) (acts : List Action), f.method = m → f.locked = none → f.entered = [] → (doReturn e (T.setTop f) acts (some w)).1 = T.setFrames fs) : Steps p.tables e below (T.setTop (mkF m pc Ls (w :: rest))) (T.setFrames fs) :=
  retOut X hx hret (by rcases ref_cases hw with rfl | ⟨a, rfl⟩ <;> cases t <;> rfl) (Or.inr (Or.inr (Or.inr (Or.inr ⟨rfl, ht, hw⟩)))) hd hl
end OwnKit
/-- the run that stands at A comes to an end of which P holds -/
def OGot (tb : Tables) (e : Env) (below : List Frame) (A : State) (P : State → Outcome → Prop) : Prop := ∃ U o, Steps tb e below A U ∧ P U o
theorem OGot.go {tb : Tables} {e : Env} {below : List Frame} {A B : State} {P : State → Outcome → Prop} (st : ∀ t, Steps tb e below B t → Steps tb e below A t) (h : OGot tb e below B P) : OGot tb e below A P := by
  obtain ⟨U, o, h1, h2⟩ := h
  exact ⟨U, o, st U h1, h2⟩
theorem OGot.on {tb : Tables} {e : Env} {below : List Frame} {A B : State} {P : State → Outcome → Prop} (st : Steps tb e below A B) (h : OGot tb e below B P) : OGot tb e below A P := by
  obtain ⟨U, o, h1, h2⟩ := h
  exact ⟨U, o, st.trans h1, h2⟩
section OwnFacts
variable {Z : State} {h h' h0 : Heap} {a b : Addr} {C n d : String} {v : Value} {sl : Nat} {n0 : Nat} {ws ws' : List (Addr × Nat)} {k : ClassId} {ty : FieldType} {z : Int32} {vs : List Value} {dv : Value}
theorem osz (X : Old Z n0 h) : n0 ≤ h.size := X.1 ▸ X.2.1
theorem oheap {U : State} {P : Heap → Prop} (q : U.heap = h) (x : P h) : P U.heap := q ▸ x
/-- what stood in h0 stands in h, but for the places at ws -/
def OKeep (h0 h : Heap) (ws : List (Addr × Nat)) : Prop := h0.size ≤ h.size ∧ ∀ (x : Addr) (c : Cell), h0[x]? = some c → ∃ c' : Cell, h[x]? = some c' ∧ c'.cls = c.cls ∧ c'.vm = c.vm ∧ c'.slots.size = c.slots.size ∧ (∀ i, (x, i) ∉ ws → c'.slots[i]? = c.slots[i]?) ∧ ((∀ i, (x, i) ∉ ws) → c' = c)
theorem OKeep.refl (h : Heap) (ws : List (Addr × Nat)) : OKeep h h ws := ⟨Nat.le_refl _, fun _ c q => ⟨c, q, rfl, rfl, rfl, fun _ _ => rfl, fun _ => rfl⟩⟩
theorem OKeep.ext (K : OKeep h0 h ws) (E : Ext h h') : OKeep h0 h' ws := ⟨Nat.le_trans K.1 E.1, fun x c q => by
  obtain ⟨c', q', r⟩ := K.2 x c q
  exact ⟨c', E.2 x c' q', r⟩⟩
theorem OKeep.trans (K : OKeep h0 h ws) (K' : OKeep h h' ws') (q : ∀ x ∈ ws', x ∈ ws ∨ h0.size ≤ x.1) : OKeep h0 h' ws := by
  refine ⟨Nat.le_trans K.1 K'.1, fun x c hx => ?_⟩
  have lt : x < h0.size := (Array.getElem?_eq_some_iff.mp hx).1
  have out : ∀ i, (x, i) ∉ ws → (x, i) ∉ ws' := fun i r z => (q _ z).elim r fun y => Nat.not_lt.mpr y lt
  obtain ⟨c1, q1, r1, r2, r3, r4, r5⟩ := K.2 x c hx
  obtain ⟨c2, q2, t1, t2, t3, t4, t5⟩ := K'.2 x c1 q1
  exact ⟨c2, q2, t1.trans r1, t2.trans r2, t3.trans r3, fun i r => (t4 i (out i r)).trans (r4 i r), fun r => (t5 fun i => out i (r i)).trans (r5 r)⟩
theorem OKeep.of_wr (W : Wr h h' a sl v) : OKeep h h' [(a, sl)] := by
  refine ⟨Nat.le_of_eq W.size.symm, fun x c q => ?_⟩
  obtain ⟨c', e1, e2, e3, e4, e5, e6, -⟩ := wr_at W q
  refine ⟨c', e1, e2, e3, e4, fun i r => ?_, fun r => e5 fun z => r sl (by simp [z])⟩
  by_cases z : x = a
  · subst z
    exact e6 i fun y => r (by simp [y])
  · rw [e5 z]
theorem OKeep.wr (K : OKeep h0 h ws) (W : Wr h h' a sl v) (q : (a, sl) ∈ ws ∨ h0.size ≤ a) : OKeep h0 h' ws := K.trans (OKeep.of_wr W) fun x hx => by cases List.mem_singleton.mp hx; exact q
theorem oslot {x : ClassId × Class × Nat × Field} (h2 : Z.fieldFound? C n d = some x) : Jvm.RoadKit.slotOf Z C n d = x.2.2.2.slot := by
  show ((Z.fieldFound? C n d).map (·.2.2.2.slot)).getD 0 = _
  rw [h2]; rfl
theorem OKeep.fld (F : Fld Z h a C n d v) (K : OKeep h h' ws) (q : (a, Jvm.RoadKit.slotOf Z C n d) ∉ ws) : Fld Z h' a C n d v := by
  obtain ⟨cell, cf, k, i, f, h1, h2, h3, h4, h5, h6, h7⟩ := F
  obtain ⟨c', r, r1, r2, -, r4, -⟩ := K.2 a cell h1
  exact ⟨c', cf, k, i, f, r, h2, h3, by rw [r2]; exact h4, by rw [r2]; exact h5, by rw [r1]; exact h6, by rw [r4 f.slot (fun y => q (by rw [oslot h2]; exact y))]; exact h7⟩
theorem OKeep.exa (F : Exa Z h a C) (K : OKeep h h' ws) : Exa Z h' a C := by
  obtain ⟨cell, k, h1, h2, h3, h4, h5⟩ := F
  obtain ⟨c', q, r1, r2, r3, -, -⟩ := K.2 a cell h1
  exact ⟨c', k, q, r1 ▸ h2, r1 ▸ h3, r2 ▸ h4, r3 ▸ h5⟩
theorem OKeep.arv (F : Arv Z h a k ty z vs dv) (K : OKeep h h' ws) (q : ∀ x ∈ ws, a ≠ x.1) : Arv Z h' a k ty z vs dv := by
  obtain ⟨c, A, r⟩ := F
  obtain ⟨c', e1, -, -, -, -, e5⟩ := K.2 a c A.1
  cases e5 fun i y => q _ y rfl
  exact ⟨c, ⟨e1, A.2⟩, r⟩
theorem OKeep.old (X : Old Z n0 h) (K : OKeep h h' ws) (q : ∀ x ∈ ws, n0 ≤ x.1) : Old Z n0 h' := ⟨X.1, Nat.le_trans X.2.1 K.1, fun x c r => by
  obtain ⟨c', e1, -, -, -, -, e5⟩ := K.2 x c (X.2.2 x c r)
  cases e5 fun i y => absurd (X.1 ▸ (Array.getElem?_eq_some_iff.mp r).1) (Nat.not_lt.mpr (q _ y))
  exact e1⟩
theorem onin0 {x : Addr × Nat} : x ∉ ([] : List (Addr × Nat)) := fun q => nomatch q
theorem oninA {t : Nat} {L : List (Addr × Nat)} (q : a ≠ b) (r : (a, sl) ∉ L) : (a, sl) ∉ (b, t) :: L := fun y => (List.mem_cons.mp y).elim (fun u => q (congrArg Prod.fst u)) r
theorem oninS {t : Nat} {L : List (Addr × Nat)} (q : sl ≠ t) (r : (a, sl) ∉ L) : (a, sl) ∉ (b, t) :: L := fun y => (List.mem_cons.mp y).elim (fun u => q (congrArg Prod.snd u)) r
theorem oall0 : ∀ x ∈ ([] : List (Addr × Nat)), a ≠ x.1 := fun _ q => nomatch q
theorem oallS {t : Nat} {L : List (Addr × Nat)} (q : a ≠ b) (r : ∀ x ∈ L, a ≠ x.1) : ∀ x ∈ (b, t) :: L, a ≠ x.1 := fun x y => (List.mem_cons.mp y).elim (fun u => by subst u; exact q) (r x)
theorem oge0 : ∀ x ∈ ([] : List (Addr × Nat)), n0 ≤ x.1 := fun _ q => nomatch q
theorem ogeS {t : Nat} {L : List (Addr × Nat)} (q : n0 ≤ b) (r : ∀ x ∈ L, n0 ≤ x.1) : ∀ x ∈ (b, t) :: L, n0 ≤ x.1 := fun x y => (List.mem_cons.mp y).elim (fun u => by subst u; exact q) (r x)
theorem oin0 {P : Addr × Nat → Prop} : ∀ x ∈ ([] : List (Addr × Nat)), P x := fun _ q => nomatch q
theorem oinS {P : Addr × Nat → Prop} {y : Addr × Nat} {L : List (Addr × Nat)} (q : P y) (r : ∀ x ∈ L, P x) : ∀ x ∈ y :: L, P x := fun x u => (List.mem_cons.mp u).elim (fun w => w ▸ q) (r x)
theorem oeq_int {args : Array Value} {first s : State} {o : Option Outcome} {idx : List Nat} {t : Term} {w : Int32} (q : (Jvm.Cond.eq t (.int w)).value args first o s idx = some true) : t.eval args first o idx s = some (.int w) := by
  simp only [Jvm.Cond.value, Term.eval] at q
  cases ht : t.eval args first o idx s with
  | none => simp [ht] at q
  | some x => cases x <;> simp [ht] at q ⊢; exact q
theorem oeq_ref {args : Array Value} {first s : State} {o : Option Outcome} {idx : List Nat} {t u : Term} {w : Addr} (q : (Jvm.Cond.eq t u).value args first o s idx = some true) (r : u.eval args first o idx s = some (.ref w)) : t.eval args first o idx s = some (.ref w) := by
  obtain ⟨x, y, e1, e2, k1, k2⟩ := cmp_v (Or.inl q)
  cases r.symm.trans e2
  rcases ref_cases k2.2 with rfl | ⟨z, rfl⟩
  · have := eq_R e1 e2 rfl rfl
    rw [q] at this
    simp at this
  · have := gotT (eq_R e1 e2 rfl rfl) q
    rw [e1, this]
theorem one_int {args : Array Value} {first s : State} {o : Option Outcome} {idx : List Nat} {t : Term} {w : Int32} (r : t.eval args first o idx s = some (.int w)) (q : (Jvm.Cond.not (.eq t (.int 0))).value args first o s idx = some true) : ¬ (w = (0 : Int32)) := by
  have := not_v q
  exact gotF (Cond.eq_ints r rfl) this
theorem olen {args : Array Value} {first s : State} {o : Option Outcome} {idx : List Nat} {t : Term} {cl : Cell} {w : Int32} (q : (Term.length t).eval args first o idx s = some (.int w)) (ht : t.eval args first o idx s = some (.ref a)) (ha : s.arrayAt? a = some cl) : cl.slots.size < 2 ^ 31 ∧ cl.slots.size.toInt32 = w := by
  simp only [Term.eval, ht, ha, Option.bind_eq_bind, Option.bind_some] at q
  by_cases y : cl.slots.size < 2 ^ 31
  · exact ⟨y, by simpa [y] using q⟩
  · simp [y] at q
theorem osub128 {args : Array Value} {j : Int32} (hj : ¬ j < 0) : (Term.sub (.index 0) (.int 128)).eval args Z none [j.toNatClampNeg] Z = some (.int (j - 128)) := by
  have e := idx_at (args := args) (first := Z) (s := Z) (o := none) hj
  simp only [Term.eval] at e ⊢
  simp [e]
  exact (back32 hj).1
def obox (c : Cell) (j : Int32) : Addr := match c.slots[j.toNatClampNeg]? with
  | some (.ref b) => b
  | _ => 0
theorem obox_at {cl : Cell} {K dd : String} {w : Int32} {val : Int32 → Value} (B : Bxs Z a cl K dd w val) {j : Int32} (hj : ¬ (j < 0 ∨ cl.slots.size ≤ j.toNatClampNeg)) : cl.slots[j.toNatClampNeg]? = some (.ref (obox cl j)) ∧ Exa Z Z.heap (obox cl j) K ∧ Fld Z Z.heap (obox cl j) K "value" dd (val j) := by
  obtain ⟨b, h1, h2, h3⟩ := B.2.2.2 j hj
  have e : obox cl j = b := by unfold obox; rw [h1]
  rw [e]; exact ⟨h1, h2, h3⟩
theorem oNS.root {a0 : Array Value} {O K : String} {i : Nat} (w : (Cond.noSuperclass O).before a0 Z = true) (wk : (Cond.instantiable K i).before a0 Z = true) (hn : O ≠ K) : NS Z O K := by
  obtain ⟨c, k, h1, h2, h3, -, -⟩ := Cond.noSuperclass_spec w
  obtain ⟨t, kt, g1, -⟩ := Cond.instantiable_spec wk
  have ne := ids_ne h1 g1 hn
  refine ⟨c, t, h1, g1, fun fuel => ?_⟩
  cases fuel with
  | zero => rfl
  | succ f => simp [Vm.isSubclassAux, ne, h2, h3]
theorem oNS.no {a0 : Array Value} {C S K : String} {i : Nat} (w : (Cond.superclass C S).before a0 Z = true) (wk : (Cond.instantiable K i).before a0 Z = true) (q : NS Z C K) (hn : C ≠ K) : ∃ c t, Z.vm.findClass C = some c ∧ Z.vm.findClass K = some t ∧ Z.vm.assignable c t = false := by
  obtain ⟨c, t, h0, g0, n3⟩ := q
  obtain ⟨p, k, kp, h1, h2, h3, h4, h5, -, h7⟩ := Cond.superclass_spec h0 w
  obtain ⟨t', k', g1, g2, g3, g4, -⟩ := Cond.instantiable_spec wk
  cases g0.symm.trans g1
  have ne := ids_ne h0 g0 hn
  have g7 : k'.isInterface = false := (Bool.or_eq_false_iff.mp g4).1
  refine ⟨c, t, h0, g0, ?_⟩
  show Z.vm.assignableAux (255 + 1) c t = false
  simp [Vm.assignableAux, ne, h2, g2, h5, g3, g7, Vm.isSubclass, n3]
end OwnFacts
theorem ow {Z : State} {a0 : Array Value} (hw : ∀ d ∈ tables_1, d.before a0 Z = true) (i : Nat) {d : Jvm.Cond} (h : tables_1[i]? = some d) : d.before a0 Z = true := hw _ (List.mem_of_getElem? h)
theorem own_rem5 (x : Int32) : ((x &&& (2147483647 : Int32)) % (5 : Int32)) = (0 : Int32) ∨ ((x &&& (2147483647 : Int32)) % (5 : Int32)) = (1 : Int32) ∨ ((x &&& (2147483647 : Int32)) % (5 : Int32)) = (2 : Int32) ∨ ((x &&& (2147483647 : Int32)) % (5 : Int32)) = (3 : Int32) ∨ ((x &&& (2147483647 : Int32)) % (5 : Int32)) = (4 : Int32) := by
  have e1 : (x &&& (2147483647 : Int32)).toInt = x.toInt % ((2 ^ 31 : Nat) : Int) := c_mask x 2147483647 31 (by decide) (by decide)
  have p : ((2 ^ 31 : Nat) : Int) = 2147483648 := rfl
  rw [p] at e1
  have e : ((x &&& (2147483647 : Int32)) % (5 : Int32)).toInt = (x &&& (2147483647 : Int32)).toInt % 5 := (c_irem (x &&& (2147483647 : Int32)) (5 : Int32) 5 (by decide)).1 (by omega)
  simp only [← Int32.toInt_inj, e]
  have : (0 : Int32).toInt = 0 ∧ (1 : Int32).toInt = 1 ∧ (2 : Int32).toInt = 2 ∧ (3 : Int32).toInt = 3 ∧ (4 : Int32).toInt = 4 := by decide
  omega
theorem own_rem6 (x : Int32) : ((x &&& (2147483647 : Int32)) % (6 : Int32)) = (0 : Int32) ∨ ((x &&& (2147483647 : Int32)) % (6 : Int32)) = (1 : Int32) ∨ ((x &&& (2147483647 : Int32)) % (6 : Int32)) = (2 : Int32) ∨ ((x &&& (2147483647 : Int32)) % (6 : Int32)) = (3 : Int32) ∨ ((x &&& (2147483647 : Int32)) % (6 : Int32)) = (4 : Int32) ∨ ((x &&& (2147483647 : Int32)) % (6 : Int32)) = (5 : Int32) := by
  have e1 : (x &&& (2147483647 : Int32)).toInt = x.toInt % ((2 ^ 31 : Nat) : Int) := c_mask x 2147483647 31 (by decide) (by decide)
  have p : ((2 ^ 31 : Nat) : Int) = 2147483648 := rfl
  rw [p] at e1
  have e : ((x &&& (2147483647 : Int32)) % (6 : Int32)).toInt = (x &&& (2147483647 : Int32)).toInt % 6 := (c_irem (x &&& (2147483647 : Int32)) (6 : Int32) 6 (by decide)).1 (by omega)
  simp only [← Int32.toInt_inj, e]
  have : (0 : Int32).toInt = 0 ∧ (1 : Int32).toInt = 1 ∧ (2 : Int32).toInt = 2 ∧ (3 : Int32).toInt = 3 ∧ (4 : Int32).toInt = 4 ∧ (5 : Int32).toInt = 5 := by decide
  omega
def Glob (Z : State) (w_PENDING : Addr) (w_FAILED : Addr) (w_RUNNING : Addr) (w_CANCELLED : Addr) (w_COMPLETED : Addr) : Prop := Sta Z Z.heap "com/example/hermit_crab/hermitcrab/JobState" "PENDING" "Lcom/example/hermit_crab/hermitcrab/JobState;" (.ref w_PENDING) ∧ Exa Z Z.heap w_PENDING "com/example/hermit_crab/hermitcrab/JobState" ∧ Sta Z Z.heap "com/example/hermit_crab/hermitcrab/JobState" "FAILED" "Lcom/example/hermit_crab/hermitcrab/JobState;" (.ref w_FAILED) ∧ Exa Z Z.heap w_FAILED "com/example/hermit_crab/hermitcrab/JobState" ∧ Sta Z Z.heap "com/example/hermit_crab/hermitcrab/JobState" "RUNNING" "Lcom/example/hermit_crab/hermitcrab/JobState;" (.ref w_RUNNING) ∧ Exa Z Z.heap w_RUNNING "com/example/hermit_crab/hermitcrab/JobState" ∧ Sta Z Z.heap "com/example/hermit_crab/hermitcrab/JobState" "CANCELLED" "Lcom/example/hermit_crab/hermitcrab/JobState;" (.ref w_CANCELLED) ∧ Exa Z Z.heap w_CANCELLED "com/example/hermit_crab/hermitcrab/JobState" ∧ Sta Z Z.heap "com/example/hermit_crab/hermitcrab/JobState" "COMPLETED" "Lcom/example/hermit_crab/hermitcrab/JobState;" (.ref w_COMPLETED) ∧ Exa Z Z.heap w_COMPLETED "com/example/hermit_crab/hermitcrab/JobState" ∧ Fld Z Z.heap w_PENDING "java/lang/Enum" "ordinal" "I" (.int (0 : Int32)) ∧ Fld Z Z.heap w_FAILED "java/lang/Enum" "ordinal" "I" (.int (3 : Int32)) ∧ Fld Z Z.heap w_RUNNING "java/lang/Enum" "ordinal" "I" (.int (1 : Int32)) ∧ Fld Z Z.heap w_CANCELLED "java/lang/Enum" "ordinal" "I" (.int (4 : Int32)) ∧ Fld Z Z.heap w_COMPLETED "java/lang/Enum" "ordinal" "I" (.int (2 : Int32))
theorem d1_0 : decode method_2_code 0 = .ok (.iload_n 0, 1) := by decide +kernel
theorem d1_1 : decode method_2_code 1 = .ok (.ifCond .ne 7, 3) := by decide +kernel
theorem d1_4 : decode method_2_code 4 = .ok (.getstatic 7, 3) := by decide +kernel
theorem d1_7 : decode method_2_code 7 = .ok (.areturn, 1) := by decide +kernel
theorem pn_com_example_hermit_crab_hermitcrab_JobStateCanMoveToPinLaw : plainName "com/example/hermit_crab/hermitcrab/JobStateCanMoveToPinLaw" = true := by first | (simp [plainName, overriddenIn]; done) | decide +kernel
def Q1 (Z : State) (w_PENDING : Addr) (w_FAILED : Addr) (w_RUNNING : Addr) (w_CANCELLED : Addr) (w_COMPLETED : Addr)  (h0 : Heap) (n0 : Nat) (v : Option Value) (h : Heap) (L : List Loc) : Prop := v = some (.ref w_PENDING) ∧ Fr n0 L ∧ h = h0
theorem ef1 (m : MethodId)  : entryFrame m #[(.int (0 : Int32))] 1 = mkF m 0 #[.val (.int (0 : Int32))] [] := by first | (simp [entryFrame, mkF, argsToLocals, Value.category]; done) | rfl
set_option maxRecDepth 65536 in
set_option maxHeartbeats 40000000 in
theorem rm1 (l : Launch) (Z : State) (a0 : Array Value) (hw : ∀ d ∈ tables_1, d.before a0 Z = true) (ws : List Jvm.Cond) {w_PENDING : Addr} {w_FAILED : Addr} {w_RUNNING : Addr} {w_CANCELLED : Addr} {w_COMPLETED : Addr} (G : Glob Z w_PENDING w_FAILED w_RUNNING w_CANCELLED w_COMPLETED)  (h0 : Heap) (n0 : Nat) (O0 : Old Z n0 h0) :
    MetFree l (⟨"com/example/hermit_crab/hermitcrab/JobStateCanMoveToPinLaw", "st", "(I)Lcom/example/hermit_crab/hermitcrab/JobState;"⟩ : MethodName) (head1 (Jvm.Cond.code (⟨"com/example/hermit_crab/hermitcrab/JobStateCanMoveToPinLaw", "st", "(I)Lcom/example/hermit_crab/hermitcrab/JobState;"⟩ : MethodName) method_2_code 1 (some (.object "com/example/hermit_crab/hermitcrab/JobState")) :: ws) ({ frames := 0, cells := 0, slots := 0, locals := 0 } : Room)) (fun a U => a = #[(.int (0 : Int32))] ∧ Z.Warmed39 U.vm ∧ U.heap = h0) (fun _ _ _ _ _ => True) (fun _ U o U' => ∃ v L, o = .returned v ∧ Q1 Z w_PENDING w_FAILED w_RUNNING w_CANCELLED w_COMPLETED  h0 n0 v U'.heap L ∧ FrameEnd U o U' L ({ frames := 0, cells := 0, slots := 0, locals := 0 } : Room).cells ({ frames := 0, cells := 0, slots := 0, locals := 0 } : Room).slots) := by
  refine MetFree.of_bodySF (plainFor_of_name pn_com_example_hermit_crab_hermitcrab_JobStateCanMoveToPinLaw) hisR ?_
  intro p e s m args below meth c s₁ Bd hml0 hP hK
  obtain ⟨rfl, hZ, hh⟩ := hP
  have hx := Bd.exec
  have hby := Bd.bytes
  have hml : c.maxLocals = 1 := hml0
  have hown : s.vm.findClass "com/example/hermit_crab/hermitcrab/JobStateCanMoveToPinLaw" = some m.cls := findClass_of_methodNamed Bd.named
  have hnm := (name_of_methodNamed Bd.named Bd.method).1
  have X0 : Stand p l e ({ frames := 0, cells := 0, slots := 0, locals := 0 } : Room) s m #[(.int (0 : Int32))] below meth c s₁ [] 0 0 := Stand.of_body Bd
  have e0 : s₁.heap = h0 := by rw [← hh, Bd.state]; rfl
  have N0 := Fr.nil n0
  show OGot p.tables e below (s₁.setTop (entryFrame m #[(.int (0 : Int32))] 1)) _
  refine OGot.go (fun t k => castTop (ef1 m ) k) ?_
  show OGot p.tables e below (s₁.setTop (mkF m 0 #[.val (.int (0 : Int32))] [])) _
  refine OGot.go (fun t k => XS.iloadN X0.here hx rfl (hb hby d1_0) rfl k) ?_
  show OGot p.tables e below (s₁.setTop (mkF m 1 #[.val (.int (0 : Int32))] [(.int (0 : Int32))])) _
  refine OGot.go (fun t k => XS.ifNo X0.here hx rfl (hb hby d1_1) rfl (by decide) k) ?_
  show OGot p.tables e below (s₁.setTop (mkF m 4 #[.val (.int (0 : Int32))] [])) _
  obtain ⟨T1, X1, e1, st1⟩ := getS2 X0 hx hZ hown (host := "") (Or.inl (ow hw 5 rfl)) Via.refl e0 (G.1.ext O0.2) (g := (mkF m 4 #[.val (.int (0 : Int32))] [])) rfl (hb hby d1_4)
  refine OGot.go st1 ?_
  show OGot p.tables e below (T1.setTop (mkF m 7 #[.val (.int (0 : Int32))] [(.ref w_PENDING)])) _
  obtain ⟨fs, hr, hrun, hended, hW, hsame⟩ := X1.leave (v := some (.ref w_PENDING)) (fun h => by rw [Bd.returns] at h; cases h)
  refine ⟨_, _, oretA X1 hx Bd.returns rfl rfl (hb hby d1_7) hr, hrun, hended, _, _, rfl, ?_, ⟨_, rfl⟩, hW, hsame.mono (by decide) (by decide)⟩
  exact (⟨rfl, N0, e1⟩ : Q1 Z w_PENDING w_FAILED w_RUNNING w_CANCELLED w_COMPLETED  h0 n0 _ T1.heap _)
theorem pd_0 : parseMethodDescriptor "(I)Lcom/example/hermit_crab/hermitcrab/JobState;" = some ⟨[.int], some (.object "com/example/hermit_crab/hermitcrab/JobState")⟩ := by decide +kernel
theorem d2_0 : decode prog_6_method_5_code 0 = .ok (.aload_n 0, 1) := by decide +kernel
theorem d2_1 : decode prog_6_method_5_code 1 = .ok (.invokevirtual 38, 3) := by decide +kernel
theorem d3_0 : decode jdk_37_method_2_code 0 = .ok (.aload_n 0, 1) := by decide +kernel
theorem d3_1 : decode jdk_37_method_2_code 1 = .ok (.getfield 7, 3) := by decide +kernel
theorem d3_4 : decode jdk_37_method_2_code 4 = .ok (.ireturn, 1) := by decide +kernel
theorem pn_java_lang_Enum : plainName "java/lang/Enum" = true := by first | (simp [plainName, overriddenIn]; done) | decide +kernel
def Q3 (Z : State) (w_PENDING : Addr) (w_FAILED : Addr) (w_RUNNING : Addr) (w_CANCELLED : Addr) (w_COMPLETED : Addr)  (h0 : Heap) (n0 : Nat) (v : Option Value) (h : Heap) (L : List Loc) : Prop := v = some (.int (0 : Int32)) ∧ Fr n0 L ∧ h = h0
theorem ef3 (m : MethodId) (x0 : Addr) : entryFrame m #[(.ref x0)] 1 = mkF m 0 #[.val (.ref x0)] [] := by first | (simp [entryFrame, mkF, argsToLocals, Value.category]; done) | rfl
set_option maxRecDepth 65536 in
set_option maxHeartbeats 40000000 in
theorem rm3 (l : Launch) (Z : State) (a0 : Array Value) (hw : ∀ d ∈ tables_1, d.before a0 Z = true) (ws : List Jvm.Cond) {w_PENDING : Addr} {w_FAILED : Addr} {w_RUNNING : Addr} {w_CANCELLED : Addr} {w_COMPLETED : Addr} (G : Glob Z w_PENDING w_FAILED w_RUNNING w_CANCELLED w_COMPLETED)  (h0 : Heap) (n0 : Nat) (O0 : Old Z n0 h0) :
    MetFree l (⟨"java/lang/Enum", "ordinal", "()I"⟩ : MethodName) (head1 (Jvm.Cond.code (⟨"java/lang/Enum", "ordinal", "()I"⟩ : MethodName) jdk_37_method_2_code 1 (some .int) :: ws) ({ frames := 0, cells := 0, slots := 0, locals := 0 } : Room)) (fun a U => a = #[(.ref w_PENDING)] ∧ Z.Warmed39 U.vm ∧ U.heap = h0) (fun _ _ _ _ _ => True) (fun _ U o U' => ∃ v L, o = .returned v ∧ Q3 Z w_PENDING w_FAILED w_RUNNING w_CANCELLED w_COMPLETED  h0 n0 v U'.heap L ∧ FrameEnd U o U' L ({ frames := 0, cells := 0, slots := 0, locals := 0 } : Room).cells ({ frames := 0, cells := 0, slots := 0, locals := 0 } : Room).slots) := by
  refine MetFree.of_bodySF (plainFor_of_name pn_java_lang_Enum) hisR ?_
  intro p e s m args below meth c s₁ Bd hml0 hP hK
  obtain ⟨rfl, hZ, hh⟩ := hP
  have hx := Bd.exec
  have hby := Bd.bytes
  have hml : c.maxLocals = 1 := hml0
  have hown : s.vm.findClass "java/lang/Enum" = some m.cls := findClass_of_methodNamed Bd.named
  have hnm := (name_of_methodNamed Bd.named Bd.method).1
  have X0 : Stand p l e ({ frames := 0, cells := 0, slots := 0, locals := 0 } : Room) s m #[(.ref w_PENDING)] below meth c s₁ [] 0 0 := Stand.of_body Bd
  have e0 : s₁.heap = h0 := by rw [← hh, Bd.state]; rfl
  have N0 := Fr.nil n0
  show OGot p.tables e below (s₁.setTop (entryFrame m #[(.ref w_PENDING)] 1)) _
  refine OGot.go (fun t k => castTop (ef3 m w_PENDING) k) ?_
  show OGot p.tables e below (s₁.setTop (mkF m 0 #[.val (.ref w_PENDING)] [])) _
  refine OGot.go (fun t k => XS.aloadN X0.here hx rfl (hb hby d3_0) rfl rfl k) ?_
  show OGot p.tables e below (s₁.setTop (mkF m 1 #[.val (.ref w_PENDING)] [(.ref w_PENDING)])) _
  obtain ⟨T2, X2, e2, st2⟩ := getF X0 hx hZ hown (host := "") (Or.inl (ow hw 23 rfl)) Via.refl e0 (G.2.2.2.2.2.2.2.2.2.2.1.ext O0.2) (g := (mkF m 1 #[.val (.ref w_PENDING)] [(.ref w_PENDING)])) rfl rfl (hb hby d3_1)
  refine OGot.go st2 ?_
  show OGot p.tables e below (T2.setTop (mkF m 4 #[.val (.ref w_PENDING)] [(.int (0 : Int32))])) _
  obtain ⟨fs, hr, hrun, hended, hW, hsame⟩ := X2.leave (v := some (.int (0 : Int32))) (fun h => by rw [Bd.returns] at h; cases h)
  refine ⟨_, _, retI X2 hx Bd.returns (hb hby d3_4) hr, hrun, hended, _, _, rfl, ?_, ⟨_, rfl⟩, hW, hsame.mono (by decide) (by decide)⟩
  exact (⟨rfl, N0, e2⟩ : Q3 Z w_PENDING w_FAILED w_RUNNING w_CANCELLED w_COMPLETED  h0 n0 _ T2.heap _)
theorem pd_1 : parseMethodDescriptor "()I" = some ⟨[], some .int⟩ := by decide +kernel
theorem d2_4 : decode prog_6_method_5_code 4 = .ok (.tableswitch 36 0 4 #[46, 68, 112, 97, 112], 36) := by decide +kernel
theorem d2_50 : decode prog_6_method_5_code 50 = .ok (.aload_n 1, 1) := by decide +kernel
theorem d2_51 : decode prog_6_method_5_code 51 = .ok (.getstatic 7, 3) := by decide +kernel
theorem d2_54 : decode prog_6_method_5_code 54 = .ok (.if_acmp .eq 10, 3) := by decide +kernel
theorem d2_57 : decode prog_6_method_5_code 57 = .ok (.aload_n 1, 1) := by decide +kernel
theorem d2_58 : decode prog_6_method_5_code 58 = .ok (.getstatic 16, 3) := by decide +kernel
theorem d2_61 : decode prog_6_method_5_code 61 = .ok (.if_acmp .ne 7, 3) := by decide +kernel
theorem d2_68 : decode prog_6_method_5_code 68 = .ok (.iconst 0, 1) := by decide +kernel
theorem d2_69 : decode prog_6_method_5_code 69 = .ok (.goto 48, 3) := by decide +kernel
theorem d2_117 : decode prog_6_method_5_code 117 = .ok (.ireturn, 1) := by decide +kernel
theorem pn_com_example_hermit_crab_hermitcrab_JobState : plainName "com/example/hermit_crab/hermitcrab/JobState" = true := by first | (simp [plainName, overriddenIn]; done) | decide +kernel
def Q2 (Z : State) (w_PENDING : Addr) (w_FAILED : Addr) (w_RUNNING : Addr) (w_CANCELLED : Addr) (w_COMPLETED : Addr)  (h0 : Heap) (n0 : Nat) (v : Option Value) (h : Heap) (L : List Loc) : Prop := v = some (.int (0 : Int32)) ∧ Fr n0 L ∧ h = h0
theorem ef2 (m : MethodId) (x0 : Addr) : entryFrame m #[(.ref x0), (.ref x0)] 2 = mkF m 0 #[.val (.ref x0), .val (.ref x0)] [] := by first | (simp [entryFrame, mkF, argsToLocals, Value.category]; done) | rfl
set_option maxRecDepth 65536 in
set_option maxHeartbeats 40000000 in
theorem rm2 (l : Launch) (Z : State) (a0 : Array Value) (hw : ∀ d ∈ tables_1, d.before a0 Z = true) (ws : List Jvm.Cond) {w_PENDING : Addr} {w_FAILED : Addr} {w_RUNNING : Addr} {w_CANCELLED : Addr} {w_COMPLETED : Addr} (G : Glob Z w_PENDING w_FAILED w_RUNNING w_CANCELLED w_COMPLETED)  (h0 : Heap) (n0 : Nat) (O0 : Old Z n0 h0) :
    MetFree l (⟨"com/example/hermit_crab/hermitcrab/JobState", "canMoveTo", "(Lcom/example/hermit_crab/hermitcrab/JobState;)Z"⟩ : MethodName) (head1 (Jvm.Cond.code (⟨"com/example/hermit_crab/hermitcrab/JobState", "canMoveTo", "(Lcom/example/hermit_crab/hermitcrab/JobState;)Z"⟩ : MethodName) prog_6_method_5_code 2 (some .boolean) :: ws) ({ frames := 1, cells := 0, slots := 0, locals := 12 } : Room)) (fun a U => a = #[(.ref w_PENDING), (.ref w_PENDING)] ∧ Z.Warmed39 U.vm ∧ U.heap = h0) (fun _ _ _ _ _ => True) (fun _ U o U' => ∃ v L, o = .returned v ∧ Q2 Z w_PENDING w_FAILED w_RUNNING w_CANCELLED w_COMPLETED  h0 n0 v U'.heap L ∧ FrameEnd U o U' L ({ frames := 1, cells := 0, slots := 0, locals := 12 } : Room).cells ({ frames := 1, cells := 0, slots := 0, locals := 12 } : Room).slots) := by
  refine MetFree.of_bodySF (plainFor_of_name pn_com_example_hermit_crab_hermitcrab_JobState) hisR ?_
  intro p e s m args below meth c s₁ Bd hml0 hP hK
  obtain ⟨rfl, hZ, hh⟩ := hP
  have hx := Bd.exec
  have hby := Bd.bytes
  have hml : c.maxLocals = 2 := hml0
  have hown : s.vm.findClass "com/example/hermit_crab/hermitcrab/JobState" = some m.cls := findClass_of_methodNamed Bd.named
  have hnm := (name_of_methodNamed Bd.named Bd.method).1
  have X0 : Stand p l e ({ frames := 1, cells := 0, slots := 0, locals := 12 } : Room) s m #[(.ref w_PENDING), (.ref w_PENDING)] below meth c s₁ [] 0 0 := Stand.of_body Bd
  have e0 : s₁.heap = h0 := by rw [← hh, Bd.state]; rfl
  have N0 := Fr.nil n0
  show OGot p.tables e below (s₁.setTop (entryFrame m #[(.ref w_PENDING), (.ref w_PENDING)] 2)) _
  refine OGot.go (fun t k => castTop (ef2 m w_PENDING) k) ?_
  show OGot p.tables e below (s₁.setTop (mkF m 0 #[.val (.ref w_PENDING), .val (.ref w_PENDING)] [])) _
  refine OGot.go (fun t k => XS.aloadN X0.here hx rfl (hb hby d2_0) rfl rfl k) ?_
  show OGot p.tables e below (s₁.setTop (mkF m 1 #[.val (.ref w_PENDING), .val (.ref w_PENDING)] [(.ref w_PENDING)])) _
  obtain ⟨cq2, kq2, q2a, q2b, q2c⟩ := isOf hZ e0 (G.2.1.ext O0.2)
  obtain ⟨_, _, ⟨T2, L2, k2, n2⟩, -, X2, ⟨Lc2, hQ2, l2, y2, z2⟩, st2⟩ := X0.virtualBackUp hx (x := (⟨"com/example/hermit_crab/hermitcrab/JobState", "ordinal", "()I"⟩ : MethodName)) (y := (⟨"java/lang/Enum", "ordinal", "()I"⟩ : MethodName)) (owner := "java/lang/Enum") hown (mvT hZ (ow hw 16 rfl)) (mvT hZ (ow hw 17 rfl)) (mvT hZ (ow hw 18 rfl)) (by decide) (mvT hZ (ow hw 20 rfl)) (mvT hZ (ow hw 19 rfl)) (backOf (W := 0) (rm3 l Z a0 hw [] G  h0 n0 O0 ) hZ (ow hw 22 rfl) (ow hw 21 rfl) (by decide) (by decide)) q2a q2c (g := (mkF m 1 #[.val (.ref w_PENDING), .val (.ref w_PENDING)] [(.ref w_PENDING)])) rfl (by rw [hml]; rfl) (Steps.refl _) (argsL := []) (rest := []) (lenOf pd_1 rfl) rfl (by show 2 * 0 + _ ≤ _; exact Nat.le_of_eq rfl) (hb hby d2_1) (fun _ _ => ⟨rfl, e0, (by decide : 0 + 0 ≤ _), (by decide : 0 + 0 ≤ _)⟩)
  dsimp only [Pt.U, Pt.locs, Pt.cells, Pt.slots] at X2 l2 y2 z2 st2 hQ2
  subst l2 y2 z2
  obtain ⟨rfl, N2q, e2⟩ := hQ2
  have N2 := Fr.app N0 N2q
  refine OGot.on st2 ?_
  show OGot p.tables e below (T2.setTop (mkF m 4 #[.val (.ref w_PENDING), .val (.ref w_PENDING)] [(.int (0 : Int32))])) _
  refine OGot.go (fun t k => XS.tswIn X2.here hx rfl (pc0 := 4) (pc' := 50) rfl (hb hby d2_4) rfl (by decide) (o := 46) (by decide) (by decide) (by decide) k) ?_
  show OGot p.tables e below (T2.setTop (mkF m 50 #[.val (.ref w_PENDING), .val (.ref w_PENDING)] [])) _
  refine OGot.go (fun t k => XS.aloadN X2.here hx rfl (hb hby d2_50) rfl rfl k) ?_
  show OGot p.tables e below (T2.setTop (mkF m 51 #[.val (.ref w_PENDING), .val (.ref w_PENDING)] [(.ref w_PENDING)])) _
  obtain ⟨T3, X3, e3, st3⟩ := getS2 X2 hx hZ hown (host := "") (Or.inl (ow hw 25 rfl)) Via.refl e2 (G.2.2.2.2.1.ext O0.2) (g := (mkF m 51 #[.val (.ref w_PENDING), .val (.ref w_PENDING)] [(.ref w_PENDING)])) rfl (hb hby d2_51)
  refine OGot.go st3 ?_
  show OGot p.tables e below (T3.setTop (mkF m 54 #[.val (.ref w_PENDING), .val (.ref w_PENDING)] [(.ref w_RUNNING), (.ref w_PENDING)])) _
  have ne4 : w_PENDING ≠ w_RUNNING := (Fld.ne G.2.2.2.2.2.2.2.2.2.2.1 G.2.2.2.2.2.2.2.2.2.2.2.2.1 (by decide))
  refine OGot.go (fun t k => Jvm.RoadKit.acmp (g := (mkF m 54 #[.val (.ref w_PENDING), .val (.ref w_PENDING)] [(.ref w_RUNNING), (.ref w_PENDING)])) X3 hx rfl rfl rfl (pc0 := 54) (pc' := 57) (same := false) rfl (hb hby d2_54) rfl (decide_eq_false fun q => ne4 (Value.ref.inj q)) (by decide) (by decide) k) ?_
  show OGot p.tables e below (T3.setTop (mkF m 57 #[.val (.ref w_PENDING), .val (.ref w_PENDING)] [])) _
  refine OGot.go (fun t k => XS.aloadN X3.here hx rfl (hb hby d2_57) rfl rfl k) ?_
  show OGot p.tables e below (T3.setTop (mkF m 58 #[.val (.ref w_PENDING), .val (.ref w_PENDING)] [(.ref w_PENDING)])) _
  obtain ⟨T5, X5, e5, st5⟩ := getS2 X3 hx hZ hown (host := "") (Or.inl (ow hw 27 rfl)) Via.refl e3 (G.2.2.2.2.2.2.1.ext O0.2) (g := (mkF m 58 #[.val (.ref w_PENDING), .val (.ref w_PENDING)] [(.ref w_PENDING)])) rfl (hb hby d2_58)
  refine OGot.go st5 ?_
  show OGot p.tables e below (T5.setTop (mkF m 61 #[.val (.ref w_PENDING), .val (.ref w_PENDING)] [(.ref w_CANCELLED), (.ref w_PENDING)])) _
  have ne6 : w_PENDING ≠ w_CANCELLED := (Fld.ne G.2.2.2.2.2.2.2.2.2.2.1 G.2.2.2.2.2.2.2.2.2.2.2.2.2.1 (by decide))
  refine OGot.go (fun t k => Jvm.RoadKit.acmp (g := (mkF m 61 #[.val (.ref w_PENDING), .val (.ref w_PENDING)] [(.ref w_CANCELLED), (.ref w_PENDING)])) X5 hx rfl rfl rfl (pc0 := 61) (pc' := 68) (same := false) rfl (hb hby d2_61) rfl (decide_eq_false fun q => ne6 (Value.ref.inj q)) (by decide) (by decide) k) ?_
  show OGot p.tables e below (T5.setTop (mkF m 68 #[.val (.ref w_PENDING), .val (.ref w_PENDING)] [])) _
  refine OGot.go (fun t k => XS.iconst X5.here hx rfl (hb hby d2_68) k) ?_
  show OGot p.tables e below (T5.setTop (mkF m 69 #[.val (.ref w_PENDING), .val (.ref w_PENDING)] [(.int (0 : Int32))])) _
  refine OGot.go (fun t k => XS.goto X5.here hx rfl (pc0 := 69) (pc' := 117) rfl (hb hby d2_69) (by decide) (by decide) k) ?_
  show OGot p.tables e below (T5.setTop (mkF m 117 #[.val (.ref w_PENDING), .val (.ref w_PENDING)] [(.int (0 : Int32))])) _
  obtain ⟨fs, hr, hrun, hended, hW, hsame⟩ := X5.leave (v := some (.int (0 : Int32))) (fun h => by rw [Bd.returns] at h; cases h)
  refine ⟨_, _, retN X5 hx (t := .boolean) Bd.returns (by simp) (hb hby d2_117) hr, hrun, hended, _, _, rfl, ?_, ⟨_, rfl⟩, hW, hsame.mono (by decide) (by decide)⟩
  exact (⟨rfl, N2, e5⟩ : Q2 Z w_PENDING w_FAILED w_RUNNING w_CANCELLED w_COMPLETED  h0 n0 _ T5.heap _)
theorem pd_2 : parseMethodDescriptor "(Lcom/example/hermit_crab/hermitcrab/JobState;)Z" = some ⟨[(.object "com/example/hermit_crab/hermitcrab/JobState")], some .boolean⟩ := by decide +kernel
theorem d1_8 : decode method_2_code 8 = .ok (.iload_n 0, 1) := by decide +kernel
theorem d1_9 : decode method_2_code 9 = .ok (.iconst 1, 1) := by decide +kernel
theorem d1_10 : decode method_2_code 10 = .ok (.if_icmp .ne 7, 3) := by decide +kernel
theorem d1_13 : decode method_2_code 13 = .ok (.getstatic 13, 3) := by decide +kernel
theorem d1_16 : decode method_2_code 16 = .ok (.areturn, 1) := by decide +kernel
def Q1_1 (Z : State) (w_PENDING : Addr) (w_FAILED : Addr) (w_RUNNING : Addr) (w_CANCELLED : Addr) (w_COMPLETED : Addr)  (h0 : Heap) (n0 : Nat) (v : Option Value) (h : Heap) (L : List Loc) : Prop := v = some (.ref w_RUNNING) ∧ Fr n0 L ∧ h = h0
theorem ef1_1 (m : MethodId)  : entryFrame m #[(.int (1 : Int32))] 1 = mkF m 0 #[.val (.int (1 : Int32))] [] := by first | (simp [entryFrame, mkF, argsToLocals, Value.category]; done) | rfl
set_option maxRecDepth 65536 in
set_option maxHeartbeats 40000000 in
theorem rm1_1 (l : Launch) (Z : State) (a0 : Array Value) (hw : ∀ d ∈ tables_1, d.before a0 Z = true) (ws : List Jvm.Cond) {w_PENDING : Addr} {w_FAILED : Addr} {w_RUNNING : Addr} {w_CANCELLED : Addr} {w_COMPLETED : Addr} (G : Glob Z w_PENDING w_FAILED w_RUNNING w_CANCELLED w_COMPLETED)  (h0 : Heap) (n0 : Nat) (O0 : Old Z n0 h0) :
    MetFree l (⟨"com/example/hermit_crab/hermitcrab/JobStateCanMoveToPinLaw", "st", "(I)Lcom/example/hermit_crab/hermitcrab/JobState;"⟩ : MethodName) (head1 (Jvm.Cond.code (⟨"com/example/hermit_crab/hermitcrab/JobStateCanMoveToPinLaw", "st", "(I)Lcom/example/hermit_crab/hermitcrab/JobState;"⟩ : MethodName) method_2_code 1 (some (.object "com/example/hermit_crab/hermitcrab/JobState")) :: ws) ({ frames := 0, cells := 0, slots := 0, locals := 0 } : Room)) (fun a U => a = #[(.int (1 : Int32))] ∧ Z.Warmed39 U.vm ∧ U.heap = h0) (fun _ _ _ _ _ => True) (fun _ U o U' => ∃ v L, o = .returned v ∧ Q1_1 Z w_PENDING w_FAILED w_RUNNING w_CANCELLED w_COMPLETED  h0 n0 v U'.heap L ∧ FrameEnd U o U' L ({ frames := 0, cells := 0, slots := 0, locals := 0 } : Room).cells ({ frames := 0, cells := 0, slots := 0, locals := 0 } : Room).slots) := by
  refine MetFree.of_bodySF (plainFor_of_name pn_com_example_hermit_crab_hermitcrab_JobStateCanMoveToPinLaw) hisR ?_
  intro p e s m args below meth c s₁ Bd hml0 hP hK
  obtain ⟨rfl, hZ, hh⟩ := hP
  have hx := Bd.exec
  have hby := Bd.bytes
  have hml : c.maxLocals = 1 := hml0
  have hown : s.vm.findClass "com/example/hermit_crab/hermitcrab/JobStateCanMoveToPinLaw" = some m.cls := findClass_of_methodNamed Bd.named
  have hnm := (name_of_methodNamed Bd.named Bd.method).1
  have X0 : Stand p l e ({ frames := 0, cells := 0, slots := 0, locals := 0 } : Room) s m #[(.int (1 : Int32))] below meth c s₁ [] 0 0 := Stand.of_body Bd
  have e0 : s₁.heap = h0 := by rw [← hh, Bd.state]; rfl
  have N0 := Fr.nil n0
  show OGot p.tables e below (s₁.setTop (entryFrame m #[(.int (1 : Int32))] 1)) _
  refine OGot.go (fun t k => castTop (ef1_1 m ) k) ?_
  show OGot p.tables e below (s₁.setTop (mkF m 0 #[.val (.int (1 : Int32))] [])) _
  refine OGot.go (fun t k => XS.iloadN X0.here hx rfl (hb hby d1_0) rfl k) ?_
  show OGot p.tables e below (s₁.setTop (mkF m 1 #[.val (.int (1 : Int32))] [(.int (1 : Int32))])) _
  refine OGot.go (fun t k => XS.ifYes X0.here hx rfl (pc0 := 1) (pc' := 8) rfl (hb hby d1_1) rfl (by decide) (by decide) (by decide) k) ?_
  show OGot p.tables e below (s₁.setTop (mkF m 8 #[.val (.int (1 : Int32))] [])) _
  refine OGot.go (fun t k => XS.iloadN X0.here hx rfl (hb hby d1_8) rfl k) ?_
  show OGot p.tables e below (s₁.setTop (mkF m 9 #[.val (.int (1 : Int32))] [(.int (1 : Int32))])) _
  refine OGot.go (fun t k => XS.iconst X0.here hx rfl (hb hby d1_9) k) ?_
  show OGot p.tables e below (s₁.setTop (mkF m 10 #[.val (.int (1 : Int32))] [(.int (1 : Int32)), (.int (1 : Int32))])) _
  refine OGot.go (fun t k => XS.icmpNo X0.here hx rfl (hb hby d1_10) rfl (by decide) k) ?_
  show OGot p.tables e below (s₁.setTop (mkF m 13 #[.val (.int (1 : Int32))] [])) _
  obtain ⟨T1, X1, e1, st1⟩ := getS2 X0 hx hZ hown (host := "") (Or.inl (ow hw 30 rfl)) Via.refl e0 (G.2.2.2.2.1.ext O0.2) (g := (mkF m 13 #[.val (.int (1 : Int32))] [])) rfl (hb hby d1_13)
  refine OGot.go st1 ?_
  show OGot p.tables e below (T1.setTop (mkF m 16 #[.val (.int (1 : Int32))] [(.ref w_RUNNING)])) _
  obtain ⟨fs, hr, hrun, hended, hW, hsame⟩ := X1.leave (v := some (.ref w_RUNNING)) (fun h => by rw [Bd.returns] at h; cases h)
  refine ⟨_, _, oretA X1 hx Bd.returns rfl rfl (hb hby d1_16) hr, hrun, hended, _, _, rfl, ?_, ⟨_, rfl⟩, hW, hsame.mono (by decide) (by decide)⟩
  exact (⟨rfl, N0, e1⟩ : Q1_1 Z w_PENDING w_FAILED w_RUNNING w_CANCELLED w_COMPLETED  h0 n0 _ T1.heap _)
theorem d2_64 : decode prog_6_method_5_code 64 = .ok (.iconst 1, 1) := by decide +kernel
theorem d2_65 : decode prog_6_method_5_code 65 = .ok (.goto 52, 3) := by decide +kernel
def Q2_1 (Z : State) (w_PENDING : Addr) (w_FAILED : Addr) (w_RUNNING : Addr) (w_CANCELLED : Addr) (w_COMPLETED : Addr)  (h0 : Heap) (n0 : Nat) (v : Option Value) (h : Heap) (L : List Loc) : Prop := v = some (.int (1 : Int32)) ∧ Fr n0 L ∧ h = h0
theorem ef2_1 (m : MethodId) (x0 : Addr) (x1 : Addr) : entryFrame m #[(.ref x0), (.ref x1)] 2 = mkF m 0 #[.val (.ref x0), .val (.ref x1)] [] := by first | (simp [entryFrame, mkF, argsToLocals, Value.category]; done) | rfl
set_option maxRecDepth 65536 in
set_option maxHeartbeats 40000000 in
theorem rm2_1 (l : Launch) (Z : State) (a0 : Array Value) (hw : ∀ d ∈ tables_1, d.before a0 Z = true) (ws : List Jvm.Cond) {w_PENDING : Addr} {w_FAILED : Addr} {w_RUNNING : Addr} {w_CANCELLED : Addr} {w_COMPLETED : Addr} (G : Glob Z w_PENDING w_FAILED w_RUNNING w_CANCELLED w_COMPLETED)  (h0 : Heap) (n0 : Nat) (O0 : Old Z n0 h0) :
    MetFree l (⟨"com/example/hermit_crab/hermitcrab/JobState", "canMoveTo", "(Lcom/example/hermit_crab/hermitcrab/JobState;)Z"⟩ : MethodName) (head1 (Jvm.Cond.code (⟨"com/example/hermit_crab/hermitcrab/JobState", "canMoveTo", "(Lcom/example/hermit_crab/hermitcrab/JobState;)Z"⟩ : MethodName) prog_6_method_5_code 2 (some .boolean) :: ws) ({ frames := 1, cells := 0, slots := 0, locals := 12 } : Room)) (fun a U => a = #[(.ref w_PENDING), (.ref w_RUNNING)] ∧ Z.Warmed39 U.vm ∧ U.heap = h0) (fun _ _ _ _ _ => True) (fun _ U o U' => ∃ v L, o = .returned v ∧ Q2_1 Z w_PENDING w_FAILED w_RUNNING w_CANCELLED w_COMPLETED  h0 n0 v U'.heap L ∧ FrameEnd U o U' L ({ frames := 1, cells := 0, slots := 0, locals := 12 } : Room).cells ({ frames := 1, cells := 0, slots := 0, locals := 12 } : Room).slots) := by
  refine MetFree.of_bodySF (plainFor_of_name pn_com_example_hermit_crab_hermitcrab_JobState) hisR ?_
  intro p e s m args below meth c s₁ Bd hml0 hP hK
  obtain ⟨rfl, hZ, hh⟩ := hP
  have hx := Bd.exec
  have hby := Bd.bytes
  have hml : c.maxLocals = 2 := hml0
  have hown : s.vm.findClass "com/example/hermit_crab/hermitcrab/JobState" = some m.cls := findClass_of_methodNamed Bd.named
  have hnm := (name_of_methodNamed Bd.named Bd.method).1
  have X0 : Stand p l e ({ frames := 1, cells := 0, slots := 0, locals := 12 } : Room) s m #[(.ref w_PENDING), (.ref w_RUNNING)] below meth c s₁ [] 0 0 := Stand.of_body Bd
  have e0 : s₁.heap = h0 := by rw [← hh, Bd.state]; rfl
  have N0 := Fr.nil n0
  show OGot p.tables e below (s₁.setTop (entryFrame m #[(.ref w_PENDING), (.ref w_RUNNING)] 2)) _
  refine OGot.go (fun t k => castTop (ef2_1 m w_PENDING w_RUNNING) k) ?_
  show OGot p.tables e below (s₁.setTop (mkF m 0 #[.val (.ref w_PENDING), .val (.ref w_RUNNING)] [])) _
  refine OGot.go (fun t k => XS.aloadN X0.here hx rfl (hb hby d2_0) rfl rfl k) ?_
  show OGot p.tables e below (s₁.setTop (mkF m 1 #[.val (.ref w_PENDING), .val (.ref w_RUNNING)] [(.ref w_PENDING)])) _
  obtain ⟨cq3, kq3, q3a, q3b, q3c⟩ := isOf hZ e0 (G.2.1.ext O0.2)
  obtain ⟨_, _, ⟨T3, L3, k3, n3⟩, -, X3, ⟨Lc3, hQ3, l3, y3, z3⟩, st3⟩ := X0.virtualBackUp hx (x := (⟨"com/example/hermit_crab/hermitcrab/JobState", "ordinal", "()I"⟩ : MethodName)) (y := (⟨"java/lang/Enum", "ordinal", "()I"⟩ : MethodName)) (owner := "java/lang/Enum") hown (mvT hZ (ow hw 16 rfl)) (mvT hZ (ow hw 17 rfl)) (mvT hZ (ow hw 18 rfl)) (by decide) (mvT hZ (ow hw 20 rfl)) (mvT hZ (ow hw 19 rfl)) (backOf (W := 0) (rm3 l Z a0 hw [] G  h0 n0 O0 ) hZ (ow hw 22 rfl) (ow hw 21 rfl) (by decide) (by decide)) q3a q3c (g := (mkF m 1 #[.val (.ref w_PENDING), .val (.ref w_RUNNING)] [(.ref w_PENDING)])) rfl (by rw [hml]; rfl) (Steps.refl _) (argsL := []) (rest := []) (lenOf pd_1 rfl) rfl (by show 2 * 0 + _ ≤ _; exact Nat.le_of_eq rfl) (hb hby d2_1) (fun _ _ => ⟨rfl, e0, (by decide : 0 + 0 ≤ _), (by decide : 0 + 0 ≤ _)⟩)
  dsimp only [Pt.U, Pt.locs, Pt.cells, Pt.slots] at X3 l3 y3 z3 st3 hQ3
  subst l3 y3 z3
  obtain ⟨rfl, N3q, e3⟩ := hQ3
  have N3 := Fr.app N0 N3q
  refine OGot.on st3 ?_
  show OGot p.tables e below (T3.setTop (mkF m 4 #[.val (.ref w_PENDING), .val (.ref w_RUNNING)] [(.int (0 : Int32))])) _
  refine OGot.go (fun t k => XS.tswIn X3.here hx rfl (pc0 := 4) (pc' := 50) rfl (hb hby d2_4) rfl (by decide) (o := 46) (by decide) (by decide) (by decide) k) ?_
  show OGot p.tables e below (T3.setTop (mkF m 50 #[.val (.ref w_PENDING), .val (.ref w_RUNNING)] [])) _
  refine OGot.go (fun t k => XS.aloadN X3.here hx rfl (hb hby d2_50) rfl rfl k) ?_
  show OGot p.tables e below (T3.setTop (mkF m 51 #[.val (.ref w_PENDING), .val (.ref w_RUNNING)] [(.ref w_RUNNING)])) _
  obtain ⟨T4, X4, e4, st4⟩ := getS2 X3 hx hZ hown (host := "") (Or.inl (ow hw 25 rfl)) Via.refl e3 (G.2.2.2.2.1.ext O0.2) (g := (mkF m 51 #[.val (.ref w_PENDING), .val (.ref w_RUNNING)] [(.ref w_RUNNING)])) rfl (hb hby d2_51)
  refine OGot.go st4 ?_
  show OGot p.tables e below (T4.setTop (mkF m 54 #[.val (.ref w_PENDING), .val (.ref w_RUNNING)] [(.ref w_RUNNING), (.ref w_RUNNING)])) _
  refine OGot.go (fun t k => Jvm.RoadKit.acmp (g := (mkF m 54 #[.val (.ref w_PENDING), .val (.ref w_RUNNING)] [(.ref w_RUNNING), (.ref w_RUNNING)])) X4 hx rfl rfl rfl (pc0 := 54) (pc' := 64) (same := true) rfl (hb hby d2_54) rfl (decide_eq_true rfl) (by decide) (by decide) k) ?_
  show OGot p.tables e below (T4.setTop (mkF m 64 #[.val (.ref w_PENDING), .val (.ref w_RUNNING)] [])) _
  refine OGot.go (fun t k => XS.iconst X4.here hx rfl (hb hby d2_64) k) ?_
  show OGot p.tables e below (T4.setTop (mkF m 65 #[.val (.ref w_PENDING), .val (.ref w_RUNNING)] [(.int (1 : Int32))])) _
  refine OGot.go (fun t k => XS.goto X4.here hx rfl (pc0 := 65) (pc' := 117) rfl (hb hby d2_65) (by decide) (by decide) k) ?_
  show OGot p.tables e below (T4.setTop (mkF m 117 #[.val (.ref w_PENDING), .val (.ref w_RUNNING)] [(.int (1 : Int32))])) _
  obtain ⟨fs, hr, hrun, hended, hW, hsame⟩ := X4.leave (v := some (.int (1 : Int32))) (fun h => by rw [Bd.returns] at h; cases h)
  refine ⟨_, _, retN X4 hx (t := .boolean) Bd.returns (by simp) (hb hby d2_117) hr, hrun, hended, _, _, rfl, ?_, ⟨_, rfl⟩, hW, hsame.mono (by decide) (by decide)⟩
  exact (⟨rfl, N3, e4⟩ : Q2_1 Z w_PENDING w_FAILED w_RUNNING w_CANCELLED w_COMPLETED  h0 n0 _ T4.heap _)
theorem d1_17 : decode method_2_code 17 = .ok (.iload_n 0, 1) := by decide +kernel
theorem d1_18 : decode method_2_code 18 = .ok (.iconst 2, 1) := by decide +kernel
theorem d1_19 : decode method_2_code 19 = .ok (.if_icmp .ne 7, 3) := by decide +kernel
theorem d1_22 : decode method_2_code 22 = .ok (.getstatic 16, 3) := by decide +kernel
theorem d1_25 : decode method_2_code 25 = .ok (.areturn, 1) := by decide +kernel
def Q1_2 (Z : State) (w_PENDING : Addr) (w_FAILED : Addr) (w_RUNNING : Addr) (w_CANCELLED : Addr) (w_COMPLETED : Addr)  (h0 : Heap) (n0 : Nat) (v : Option Value) (h : Heap) (L : List Loc) : Prop := v = some (.ref w_COMPLETED) ∧ Fr n0 L ∧ h = h0
theorem ef1_2 (m : MethodId)  : entryFrame m #[(.int (2 : Int32))] 1 = mkF m 0 #[.val (.int (2 : Int32))] [] := by first | (simp [entryFrame, mkF, argsToLocals, Value.category]; done) | rfl
set_option maxRecDepth 65536 in
set_option maxHeartbeats 40000000 in
theorem rm1_2 (l : Launch) (Z : State) (a0 : Array Value) (hw : ∀ d ∈ tables_1, d.before a0 Z = true) (ws : List Jvm.Cond) {w_PENDING : Addr} {w_FAILED : Addr} {w_RUNNING : Addr} {w_CANCELLED : Addr} {w_COMPLETED : Addr} (G : Glob Z w_PENDING w_FAILED w_RUNNING w_CANCELLED w_COMPLETED)  (h0 : Heap) (n0 : Nat) (O0 : Old Z n0 h0) :
    MetFree l (⟨"com/example/hermit_crab/hermitcrab/JobStateCanMoveToPinLaw", "st", "(I)Lcom/example/hermit_crab/hermitcrab/JobState;"⟩ : MethodName) (head1 (Jvm.Cond.code (⟨"com/example/hermit_crab/hermitcrab/JobStateCanMoveToPinLaw", "st", "(I)Lcom/example/hermit_crab/hermitcrab/JobState;"⟩ : MethodName) method_2_code 1 (some (.object "com/example/hermit_crab/hermitcrab/JobState")) :: ws) ({ frames := 0, cells := 0, slots := 0, locals := 0 } : Room)) (fun a U => a = #[(.int (2 : Int32))] ∧ Z.Warmed39 U.vm ∧ U.heap = h0) (fun _ _ _ _ _ => True) (fun _ U o U' => ∃ v L, o = .returned v ∧ Q1_2 Z w_PENDING w_FAILED w_RUNNING w_CANCELLED w_COMPLETED  h0 n0 v U'.heap L ∧ FrameEnd U o U' L ({ frames := 0, cells := 0, slots := 0, locals := 0 } : Room).cells ({ frames := 0, cells := 0, slots := 0, locals := 0 } : Room).slots) := by
  refine MetFree.of_bodySF (plainFor_of_name pn_com_example_hermit_crab_hermitcrab_JobStateCanMoveToPinLaw) hisR ?_
  intro p e s m args below meth c s₁ Bd hml0 hP hK
  obtain ⟨rfl, hZ, hh⟩ := hP
  have hx := Bd.exec
  have hby := Bd.bytes
  have hml : c.maxLocals = 1 := hml0
  have hown : s.vm.findClass "com/example/hermit_crab/hermitcrab/JobStateCanMoveToPinLaw" = some m.cls := findClass_of_methodNamed Bd.named
  have hnm := (name_of_methodNamed Bd.named Bd.method).1
  have X0 : Stand p l e ({ frames := 0, cells := 0, slots := 0, locals := 0 } : Room) s m #[(.int (2 : Int32))] below meth c s₁ [] 0 0 := Stand.of_body Bd
  have e0 : s₁.heap = h0 := by rw [← hh, Bd.state]; rfl
  have N0 := Fr.nil n0
  show OGot p.tables e below (s₁.setTop (entryFrame m #[(.int (2 : Int32))] 1)) _
  refine OGot.go (fun t k => castTop (ef1_2 m ) k) ?_
  show OGot p.tables e below (s₁.setTop (mkF m 0 #[.val (.int (2 : Int32))] [])) _
  refine OGot.go (fun t k => XS.iloadN X0.here hx rfl (hb hby d1_0) rfl k) ?_
  show OGot p.tables e below (s₁.setTop (mkF m 1 #[.val (.int (2 : Int32))] [(.int (2 : Int32))])) _
  refine OGot.go (fun t k => XS.ifYes X0.here hx rfl (pc0 := 1) (pc' := 8) rfl (hb hby d1_1) rfl (by decide) (by decide) (by decide) k) ?_
  show OGot p.tables e below (s₁.setTop (mkF m 8 #[.val (.int (2 : Int32))] [])) _
  refine OGot.go (fun t k => XS.iloadN X0.here hx rfl (hb hby d1_8) rfl k) ?_
  show OGot p.tables e below (s₁.setTop (mkF m 9 #[.val (.int (2 : Int32))] [(.int (2 : Int32))])) _
  refine OGot.go (fun t k => XS.iconst X0.here hx rfl (hb hby d1_9) k) ?_
  show OGot p.tables e below (s₁.setTop (mkF m 10 #[.val (.int (2 : Int32))] [(.int (1 : Int32)), (.int (2 : Int32))])) _
  refine OGot.go (fun t k => XS.icmpYes X0.here hx rfl (pc0 := 10) (pc' := 17) rfl (hb hby d1_10) rfl (by decide) (by decide) (by decide) k) ?_
  show OGot p.tables e below (s₁.setTop (mkF m 17 #[.val (.int (2 : Int32))] [])) _
  refine OGot.go (fun t k => XS.iloadN X0.here hx rfl (hb hby d1_17) rfl k) ?_
  show OGot p.tables e below (s₁.setTop (mkF m 18 #[.val (.int (2 : Int32))] [(.int (2 : Int32))])) _
  refine OGot.go (fun t k => XS.iconst X0.here hx rfl (hb hby d1_18) k) ?_
  show OGot p.tables e below (s₁.setTop (mkF m 19 #[.val (.int (2 : Int32))] [(.int (2 : Int32)), (.int (2 : Int32))])) _
  refine OGot.go (fun t k => XS.icmpNo X0.here hx rfl (hb hby d1_19) rfl (by decide) k) ?_
  show OGot p.tables e below (s₁.setTop (mkF m 22 #[.val (.int (2 : Int32))] [])) _
  obtain ⟨T1, X1, e1, st1⟩ := getS2 X0 hx hZ hown (host := "") (Or.inl (ow hw 32 rfl)) Via.refl e0 (G.2.2.2.2.2.2.2.2.1.ext O0.2) (g := (mkF m 22 #[.val (.int (2 : Int32))] [])) rfl (hb hby d1_22)
  refine OGot.go st1 ?_
  show OGot p.tables e below (T1.setTop (mkF m 25 #[.val (.int (2 : Int32))] [(.ref w_COMPLETED)])) _
  obtain ⟨fs, hr, hrun, hended, hW, hsame⟩ := X1.leave (v := some (.ref w_COMPLETED)) (fun h => by rw [Bd.returns] at h; cases h)
  refine ⟨_, _, oretA X1 hx Bd.returns rfl rfl (hb hby d1_25) hr, hrun, hended, _, _, rfl, ?_, ⟨_, rfl⟩, hW, hsame.mono (by decide) (by decide)⟩
  exact (⟨rfl, N0, e1⟩ : Q1_2 Z w_PENDING w_FAILED w_RUNNING w_CANCELLED w_COMPLETED  h0 n0 _ T1.heap _)
def Q2_2 (Z : State) (w_PENDING : Addr) (w_FAILED : Addr) (w_RUNNING : Addr) (w_CANCELLED : Addr) (w_COMPLETED : Addr)  (h0 : Heap) (n0 : Nat) (v : Option Value) (h : Heap) (L : List Loc) : Prop := v = some (.int (0 : Int32)) ∧ Fr n0 L ∧ h = h0
theorem ef2_2 (m : MethodId) (x0 : Addr) (x1 : Addr) : entryFrame m #[(.ref x0), (.ref x1)] 2 = mkF m 0 #[.val (.ref x0), .val (.ref x1)] [] := by first | (simp [entryFrame, mkF, argsToLocals, Value.category]; done) | rfl
set_option maxRecDepth 65536 in
set_option maxHeartbeats 40000000 in
theorem rm2_2 (l : Launch) (Z : State) (a0 : Array Value) (hw : ∀ d ∈ tables_1, d.before a0 Z = true) (ws : List Jvm.Cond) {w_PENDING : Addr} {w_FAILED : Addr} {w_RUNNING : Addr} {w_CANCELLED : Addr} {w_COMPLETED : Addr} (G : Glob Z w_PENDING w_FAILED w_RUNNING w_CANCELLED w_COMPLETED)  (h0 : Heap) (n0 : Nat) (O0 : Old Z n0 h0) :
    MetFree l (⟨"com/example/hermit_crab/hermitcrab/JobState", "canMoveTo", "(Lcom/example/hermit_crab/hermitcrab/JobState;)Z"⟩ : MethodName) (head1 (Jvm.Cond.code (⟨"com/example/hermit_crab/hermitcrab/JobState", "canMoveTo", "(Lcom/example/hermit_crab/hermitcrab/JobState;)Z"⟩ : MethodName) prog_6_method_5_code 2 (some .boolean) :: ws) ({ frames := 1, cells := 0, slots := 0, locals := 12 } : Room)) (fun a U => a = #[(.ref w_PENDING), (.ref w_COMPLETED)] ∧ Z.Warmed39 U.vm ∧ U.heap = h0) (fun _ _ _ _ _ => True) (fun _ U o U' => ∃ v L, o = .returned v ∧ Q2_2 Z w_PENDING w_FAILED w_RUNNING w_CANCELLED w_COMPLETED  h0 n0 v U'.heap L ∧ FrameEnd U o U' L ({ frames := 1, cells := 0, slots := 0, locals := 12 } : Room).cells ({ frames := 1, cells := 0, slots := 0, locals := 12 } : Room).slots) := by
  refine MetFree.of_bodySF (plainFor_of_name pn_com_example_hermit_crab_hermitcrab_JobState) hisR ?_
  intro p e s m args below meth c s₁ Bd hml0 hP hK
  obtain ⟨rfl, hZ, hh⟩ := hP
  have hx := Bd.exec
  have hby := Bd.bytes
  have hml : c.maxLocals = 2 := hml0
  have hown : s.vm.findClass "com/example/hermit_crab/hermitcrab/JobState" = some m.cls := findClass_of_methodNamed Bd.named
  have hnm := (name_of_methodNamed Bd.named Bd.method).1
  have X0 : Stand p l e ({ frames := 1, cells := 0, slots := 0, locals := 12 } : Room) s m #[(.ref w_PENDING), (.ref w_COMPLETED)] below meth c s₁ [] 0 0 := Stand.of_body Bd
  have e0 : s₁.heap = h0 := by rw [← hh, Bd.state]; rfl
  have N0 := Fr.nil n0
  show OGot p.tables e below (s₁.setTop (entryFrame m #[(.ref w_PENDING), (.ref w_COMPLETED)] 2)) _
  refine OGot.go (fun t k => castTop (ef2_2 m w_PENDING w_COMPLETED) k) ?_
  show OGot p.tables e below (s₁.setTop (mkF m 0 #[.val (.ref w_PENDING), .val (.ref w_COMPLETED)] [])) _
  refine OGot.go (fun t k => XS.aloadN X0.here hx rfl (hb hby d2_0) rfl rfl k) ?_
  show OGot p.tables e below (s₁.setTop (mkF m 1 #[.val (.ref w_PENDING), .val (.ref w_COMPLETED)] [(.ref w_PENDING)])) _
  obtain ⟨cq3, kq3, q3a, q3b, q3c⟩ := isOf hZ e0 (G.2.1.ext O0.2)
  obtain ⟨_, _, ⟨T3, L3, k3, n3⟩, -, X3, ⟨Lc3, hQ3, l3, y3, z3⟩, st3⟩ := X0.virtualBackUp hx (x := (⟨"com/example/hermit_crab/hermitcrab/JobState", "ordinal", "()I"⟩ : MethodName)) (y := (⟨"java/lang/Enum", "ordinal", "()I"⟩ : MethodName)) (owner := "java/lang/Enum") hown (mvT hZ (ow hw 16 rfl)) (mvT hZ (ow hw 17 rfl)) (mvT hZ (ow hw 18 rfl)) (by decide) (mvT hZ (ow hw 20 rfl)) (mvT hZ (ow hw 19 rfl)) (backOf (W := 0) (rm3 l Z a0 hw [] G  h0 n0 O0 ) hZ (ow hw 22 rfl) (ow hw 21 rfl) (by decide) (by decide)) q3a q3c (g := (mkF m 1 #[.val (.ref w_PENDING), .val (.ref w_COMPLETED)] [(.ref w_PENDING)])) rfl (by rw [hml]; rfl) (Steps.refl _) (argsL := []) (rest := []) (lenOf pd_1 rfl) rfl (by show 2 * 0 + _ ≤ _; exact Nat.le_of_eq rfl) (hb hby d2_1) (fun _ _ => ⟨rfl, e0, (by decide : 0 + 0 ≤ _), (by decide : 0 + 0 ≤ _)⟩)
  dsimp only [Pt.U, Pt.locs, Pt.cells, Pt.slots] at X3 l3 y3 z3 st3 hQ3
  subst l3 y3 z3
  obtain ⟨rfl, N3q, e3⟩ := hQ3
  have N3 := Fr.app N0 N3q
  refine OGot.on st3 ?_
  show OGot p.tables e below (T3.setTop (mkF m 4 #[.val (.ref w_PENDING), .val (.ref w_COMPLETED)] [(.int (0 : Int32))])) _
  refine OGot.go (fun t k => XS.tswIn X3.here hx rfl (pc0 := 4) (pc' := 50) rfl (hb hby d2_4) rfl (by decide) (o := 46) (by decide) (by decide) (by decide) k) ?_
  show OGot p.tables e below (T3.setTop (mkF m 50 #[.val (.ref w_PENDING), .val (.ref w_COMPLETED)] [])) _
  refine OGot.go (fun t k => XS.aloadN X3.here hx rfl (hb hby d2_50) rfl rfl k) ?_
  show OGot p.tables e below (T3.setTop (mkF m 51 #[.val (.ref w_PENDING), .val (.ref w_COMPLETED)] [(.ref w_COMPLETED)])) _
  obtain ⟨T4, X4, e4, st4⟩ := getS2 X3 hx hZ hown (host := "") (Or.inl (ow hw 25 rfl)) Via.refl e3 (G.2.2.2.2.1.ext O0.2) (g := (mkF m 51 #[.val (.ref w_PENDING), .val (.ref w_COMPLETED)] [(.ref w_COMPLETED)])) rfl (hb hby d2_51)
  refine OGot.go st4 ?_
  show OGot p.tables e below (T4.setTop (mkF m 54 #[.val (.ref w_PENDING), .val (.ref w_COMPLETED)] [(.ref w_RUNNING), (.ref w_COMPLETED)])) _
  have ne5 : w_COMPLETED ≠ w_RUNNING := (Fld.ne G.2.2.2.2.2.2.2.2.2.2.2.2.2.2 G.2.2.2.2.2.2.2.2.2.2.2.2.1 (by decide))
  refine OGot.go (fun t k => Jvm.RoadKit.acmp (g := (mkF m 54 #[.val (.ref w_PENDING), .val (.ref w_COMPLETED)] [(.ref w_RUNNING), (.ref w_COMPLETED)])) X4 hx rfl rfl rfl (pc0 := 54) (pc' := 57) (same := false) rfl (hb hby d2_54) rfl (decide_eq_false fun q => ne5 (Value.ref.inj q)) (by decide) (by decide) k) ?_
  show OGot p.tables e below (T4.setTop (mkF m 57 #[.val (.ref w_PENDING), .val (.ref w_COMPLETED)] [])) _
  refine OGot.go (fun t k => XS.aloadN X4.here hx rfl (hb hby d2_57) rfl rfl k) ?_
  show OGot p.tables e below (T4.setTop (mkF m 58 #[.val (.ref w_PENDING), .val (.ref w_COMPLETED)] [(.ref w_COMPLETED)])) _
  obtain ⟨T6, X6, e6, st6⟩ := getS2 X4 hx hZ hown (host := "") (Or.inl (ow hw 27 rfl)) Via.refl e4 (G.2.2.2.2.2.2.1.ext O0.2) (g := (mkF m 58 #[.val (.ref w_PENDING), .val (.ref w_COMPLETED)] [(.ref w_COMPLETED)])) rfl (hb hby d2_58)
  refine OGot.go st6 ?_
  show OGot p.tables e below (T6.setTop (mkF m 61 #[.val (.ref w_PENDING), .val (.ref w_COMPLETED)] [(.ref w_CANCELLED), (.ref w_COMPLETED)])) _
  have ne7 : w_COMPLETED ≠ w_CANCELLED := (Fld.ne G.2.2.2.2.2.2.2.2.2.2.2.2.2.2 G.2.2.2.2.2.2.2.2.2.2.2.2.2.1 (by decide))
  refine OGot.go (fun t k => Jvm.RoadKit.acmp (g := (mkF m 61 #[.val (.ref w_PENDING), .val (.ref w_COMPLETED)] [(.ref w_CANCELLED), (.ref w_COMPLETED)])) X6 hx rfl rfl rfl (pc0 := 61) (pc' := 68) (same := false) rfl (hb hby d2_61) rfl (decide_eq_false fun q => ne7 (Value.ref.inj q)) (by decide) (by decide) k) ?_
  show OGot p.tables e below (T6.setTop (mkF m 68 #[.val (.ref w_PENDING), .val (.ref w_COMPLETED)] [])) _
  refine OGot.go (fun t k => XS.iconst X6.here hx rfl (hb hby d2_68) k) ?_
  show OGot p.tables e below (T6.setTop (mkF m 69 #[.val (.ref w_PENDING), .val (.ref w_COMPLETED)] [(.int (0 : Int32))])) _
  refine OGot.go (fun t k => XS.goto X6.here hx rfl (pc0 := 69) (pc' := 117) rfl (hb hby d2_69) (by decide) (by decide) k) ?_
  show OGot p.tables e below (T6.setTop (mkF m 117 #[.val (.ref w_PENDING), .val (.ref w_COMPLETED)] [(.int (0 : Int32))])) _
  obtain ⟨fs, hr, hrun, hended, hW, hsame⟩ := X6.leave (v := some (.int (0 : Int32))) (fun h => by rw [Bd.returns] at h; cases h)
  refine ⟨_, _, retN X6 hx (t := .boolean) Bd.returns (by simp) (hb hby d2_117) hr, hrun, hended, _, _, rfl, ?_, ⟨_, rfl⟩, hW, hsame.mono (by decide) (by decide)⟩
  exact (⟨rfl, N3, e6⟩ : Q2_2 Z w_PENDING w_FAILED w_RUNNING w_CANCELLED w_COMPLETED  h0 n0 _ T6.heap _)
theorem d1_26 : decode method_2_code 26 = .ok (.iload_n 0, 1) := by decide +kernel
theorem d1_27 : decode method_2_code 27 = .ok (.iconst 3, 1) := by decide +kernel
theorem d1_28 : decode method_2_code 28 = .ok (.if_icmp .ne 7, 3) := by decide +kernel
theorem d1_31 : decode method_2_code 31 = .ok (.getstatic 19, 3) := by decide +kernel
theorem d1_34 : decode method_2_code 34 = .ok (.areturn, 1) := by decide +kernel
def Q1_3 (Z : State) (w_PENDING : Addr) (w_FAILED : Addr) (w_RUNNING : Addr) (w_CANCELLED : Addr) (w_COMPLETED : Addr)  (h0 : Heap) (n0 : Nat) (v : Option Value) (h : Heap) (L : List Loc) : Prop := v = some (.ref w_FAILED) ∧ Fr n0 L ∧ h = h0
theorem ef1_3 (m : MethodId)  : entryFrame m #[(.int (3 : Int32))] 1 = mkF m 0 #[.val (.int (3 : Int32))] [] := by first | (simp [entryFrame, mkF, argsToLocals, Value.category]; done) | rfl
set_option maxRecDepth 65536 in
set_option maxHeartbeats 40000000 in
theorem rm1_3 (l : Launch) (Z : State) (a0 : Array Value) (hw : ∀ d ∈ tables_1, d.before a0 Z = true) (ws : List Jvm.Cond) {w_PENDING : Addr} {w_FAILED : Addr} {w_RUNNING : Addr} {w_CANCELLED : Addr} {w_COMPLETED : Addr} (G : Glob Z w_PENDING w_FAILED w_RUNNING w_CANCELLED w_COMPLETED)  (h0 : Heap) (n0 : Nat) (O0 : Old Z n0 h0) :
    MetFree l (⟨"com/example/hermit_crab/hermitcrab/JobStateCanMoveToPinLaw", "st", "(I)Lcom/example/hermit_crab/hermitcrab/JobState;"⟩ : MethodName) (head1 (Jvm.Cond.code (⟨"com/example/hermit_crab/hermitcrab/JobStateCanMoveToPinLaw", "st", "(I)Lcom/example/hermit_crab/hermitcrab/JobState;"⟩ : MethodName) method_2_code 1 (some (.object "com/example/hermit_crab/hermitcrab/JobState")) :: ws) ({ frames := 0, cells := 0, slots := 0, locals := 0 } : Room)) (fun a U => a = #[(.int (3 : Int32))] ∧ Z.Warmed39 U.vm ∧ U.heap = h0) (fun _ _ _ _ _ => True) (fun _ U o U' => ∃ v L, o = .returned v ∧ Q1_3 Z w_PENDING w_FAILED w_RUNNING w_CANCELLED w_COMPLETED  h0 n0 v U'.heap L ∧ FrameEnd U o U' L ({ frames := 0, cells := 0, slots := 0, locals := 0 } : Room).cells ({ frames := 0, cells := 0, slots := 0, locals := 0 } : Room).slots) := by
  refine MetFree.of_bodySF (plainFor_of_name pn_com_example_hermit_crab_hermitcrab_JobStateCanMoveToPinLaw) hisR ?_
  intro p e s m args below meth c s₁ Bd hml0 hP hK
  obtain ⟨rfl, hZ, hh⟩ := hP
  have hx := Bd.exec
  have hby := Bd.bytes
  have hml : c.maxLocals = 1 := hml0
  have hown : s.vm.findClass "com/example/hermit_crab/hermitcrab/JobStateCanMoveToPinLaw" = some m.cls := findClass_of_methodNamed Bd.named
  have hnm := (name_of_methodNamed Bd.named Bd.method).1
  have X0 : Stand p l e ({ frames := 0, cells := 0, slots := 0, locals := 0 } : Room) s m #[(.int (3 : Int32))] below meth c s₁ [] 0 0 := Stand.of_body Bd
  have e0 : s₁.heap = h0 := by rw [← hh, Bd.state]; rfl
  have N0 := Fr.nil n0
  show OGot p.tables e below (s₁.setTop (entryFrame m #[(.int (3 : Int32))] 1)) _
  refine OGot.go (fun t k => castTop (ef1_3 m ) k) ?_
  show OGot p.tables e below (s₁.setTop (mkF m 0 #[.val (.int (3 : Int32))] [])) _
  refine OGot.go (fun t k => XS.iloadN X0.here hx rfl (hb hby d1_0) rfl k) ?_
  show OGot p.tables e below (s₁.setTop (mkF m 1 #[.val (.int (3 : Int32))] [(.int (3 : Int32))])) _
  refine OGot.go (fun t k => XS.ifYes X0.here hx rfl (pc0 := 1) (pc' := 8) rfl (hb hby d1_1) rfl (by decide) (by decide) (by decide) k) ?_
  show OGot p.tables e below (s₁.setTop (mkF m 8 #[.val (.int (3 : Int32))] [])) _
  refine OGot.go (fun t k => XS.iloadN X0.here hx rfl (hb hby d1_8) rfl k) ?_
  show OGot p.tables e below (s₁.setTop (mkF m 9 #[.val (.int (3 : Int32))] [(.int (3 : Int32))])) _
  refine OGot.go (fun t k => XS.iconst X0.here hx rfl (hb hby d1_9) k) ?_
  show OGot p.tables e below (s₁.setTop (mkF m 10 #[.val (.int (3 : Int32))] [(.int (1 : Int32)), (.int (3 : Int32))])) _
  refine OGot.go (fun t k => XS.icmpYes X0.here hx rfl (pc0 := 10) (pc' := 17) rfl (hb hby d1_10) rfl (by decide) (by decide) (by decide) k) ?_
  show OGot p.tables e below (s₁.setTop (mkF m 17 #[.val (.int (3 : Int32))] [])) _
  refine OGot.go (fun t k => XS.iloadN X0.here hx rfl (hb hby d1_17) rfl k) ?_
  show OGot p.tables e below (s₁.setTop (mkF m 18 #[.val (.int (3 : Int32))] [(.int (3 : Int32))])) _
  refine OGot.go (fun t k => XS.iconst X0.here hx rfl (hb hby d1_18) k) ?_
  show OGot p.tables e below (s₁.setTop (mkF m 19 #[.val (.int (3 : Int32))] [(.int (2 : Int32)), (.int (3 : Int32))])) _
  refine OGot.go (fun t k => XS.icmpYes X0.here hx rfl (pc0 := 19) (pc' := 26) rfl (hb hby d1_19) rfl (by decide) (by decide) (by decide) k) ?_
  show OGot p.tables e below (s₁.setTop (mkF m 26 #[.val (.int (3 : Int32))] [])) _
  refine OGot.go (fun t k => XS.iloadN X0.here hx rfl (hb hby d1_26) rfl k) ?_
  show OGot p.tables e below (s₁.setTop (mkF m 27 #[.val (.int (3 : Int32))] [(.int (3 : Int32))])) _
  refine OGot.go (fun t k => XS.iconst X0.here hx rfl (hb hby d1_27) k) ?_
  show OGot p.tables e below (s₁.setTop (mkF m 28 #[.val (.int (3 : Int32))] [(.int (3 : Int32)), (.int (3 : Int32))])) _
  refine OGot.go (fun t k => XS.icmpNo X0.here hx rfl (hb hby d1_28) rfl (by decide) k) ?_
  show OGot p.tables e below (s₁.setTop (mkF m 31 #[.val (.int (3 : Int32))] [])) _
  obtain ⟨T1, X1, e1, st1⟩ := getS2 X0 hx hZ hown (host := "") (Or.inl (ow hw 8 rfl)) Via.refl e0 (G.2.2.1.ext O0.2) (g := (mkF m 31 #[.val (.int (3 : Int32))] [])) rfl (hb hby d1_31)
  refine OGot.go st1 ?_
  show OGot p.tables e below (T1.setTop (mkF m 34 #[.val (.int (3 : Int32))] [(.ref w_FAILED)])) _
  obtain ⟨fs, hr, hrun, hended, hW, hsame⟩ := X1.leave (v := some (.ref w_FAILED)) (fun h => by rw [Bd.returns] at h; cases h)
  refine ⟨_, _, oretA X1 hx Bd.returns rfl rfl (hb hby d1_34) hr, hrun, hended, _, _, rfl, ?_, ⟨_, rfl⟩, hW, hsame.mono (by decide) (by decide)⟩
  exact (⟨rfl, N0, e1⟩ : Q1_3 Z w_PENDING w_FAILED w_RUNNING w_CANCELLED w_COMPLETED  h0 n0 _ T1.heap _)
def Q2_3 (Z : State) (w_PENDING : Addr) (w_FAILED : Addr) (w_RUNNING : Addr) (w_CANCELLED : Addr) (w_COMPLETED : Addr)  (h0 : Heap) (n0 : Nat) (v : Option Value) (h : Heap) (L : List Loc) : Prop := v = some (.int (0 : Int32)) ∧ Fr n0 L ∧ h = h0
theorem ef2_3 (m : MethodId) (x0 : Addr) (x1 : Addr) : entryFrame m #[(.ref x0), (.ref x1)] 2 = mkF m 0 #[.val (.ref x0), .val (.ref x1)] [] := by first | (simp [entryFrame, mkF, argsToLocals, Value.category]; done) | rfl
set_option maxRecDepth 65536 in
set_option maxHeartbeats 40000000 in
theorem rm2_3 (l : Launch) (Z : State) (a0 : Array Value) (hw : ∀ d ∈ tables_1, d.before a0 Z = true) (ws : List Jvm.Cond) {w_PENDING : Addr} {w_FAILED : Addr} {w_RUNNING : Addr} {w_CANCELLED : Addr} {w_COMPLETED : Addr} (G : Glob Z w_PENDING w_FAILED w_RUNNING w_CANCELLED w_COMPLETED)  (h0 : Heap) (n0 : Nat) (O0 : Old Z n0 h0) :
    MetFree l (⟨"com/example/hermit_crab/hermitcrab/JobState", "canMoveTo", "(Lcom/example/hermit_crab/hermitcrab/JobState;)Z"⟩ : MethodName) (head1 (Jvm.Cond.code (⟨"com/example/hermit_crab/hermitcrab/JobState", "canMoveTo", "(Lcom/example/hermit_crab/hermitcrab/JobState;)Z"⟩ : MethodName) prog_6_method_5_code 2 (some .boolean) :: ws) ({ frames := 1, cells := 0, slots := 0, locals := 12 } : Room)) (fun a U => a = #[(.ref w_PENDING), (.ref w_FAILED)] ∧ Z.Warmed39 U.vm ∧ U.heap = h0) (fun _ _ _ _ _ => True) (fun _ U o U' => ∃ v L, o = .returned v ∧ Q2_3 Z w_PENDING w_FAILED w_RUNNING w_CANCELLED w_COMPLETED  h0 n0 v U'.heap L ∧ FrameEnd U o U' L ({ frames := 1, cells := 0, slots := 0, locals := 12 } : Room).cells ({ frames := 1, cells := 0, slots := 0, locals := 12 } : Room).slots) := by
  refine MetFree.of_bodySF (plainFor_of_name pn_com_example_hermit_crab_hermitcrab_JobState) hisR ?_
  intro p e s m args below meth c s₁ Bd hml0 hP hK
  obtain ⟨rfl, hZ, hh⟩ := hP
  have hx := Bd.exec
  have hby := Bd.bytes
  have hml : c.maxLocals = 2 := hml0
  have hown : s.vm.findClass "com/example/hermit_crab/hermitcrab/JobState" = some m.cls := findClass_of_methodNamed Bd.named
  have hnm := (name_of_methodNamed Bd.named Bd.method).1
  have X0 : Stand p l e ({ frames := 1, cells := 0, slots := 0, locals := 12 } : Room) s m #[(.ref w_PENDING), (.ref w_FAILED)] below meth c s₁ [] 0 0 := Stand.of_body Bd
  have e0 : s₁.heap = h0 := by rw [← hh, Bd.state]; rfl
  have N0 := Fr.nil n0
  show OGot p.tables e below (s₁.setTop (entryFrame m #[(.ref w_PENDING), (.ref w_FAILED)] 2)) _
  refine OGot.go (fun t k => castTop (ef2_3 m w_PENDING w_FAILED) k) ?_
  show OGot p.tables e below (s₁.setTop (mkF m 0 #[.val (.ref w_PENDING), .val (.ref w_FAILED)] [])) _
  refine OGot.go (fun t k => XS.aloadN X0.here hx rfl (hb hby d2_0) rfl rfl k) ?_
  show OGot p.tables e below (s₁.setTop (mkF m 1 #[.val (.ref w_PENDING), .val (.ref w_FAILED)] [(.ref w_PENDING)])) _
  obtain ⟨cq3, kq3, q3a, q3b, q3c⟩ := isOf hZ e0 (G.2.1.ext O0.2)
  obtain ⟨_, _, ⟨T3, L3, k3, n3⟩, -, X3, ⟨Lc3, hQ3, l3, y3, z3⟩, st3⟩ := X0.virtualBackUp hx (x := (⟨"com/example/hermit_crab/hermitcrab/JobState", "ordinal", "()I"⟩ : MethodName)) (y := (⟨"java/lang/Enum", "ordinal", "()I"⟩ : MethodName)) (owner := "java/lang/Enum") hown (mvT hZ (ow hw 16 rfl)) (mvT hZ (ow hw 17 rfl)) (mvT hZ (ow hw 18 rfl)) (by decide) (mvT hZ (ow hw 20 rfl)) (mvT hZ (ow hw 19 rfl)) (backOf (W := 0) (rm3 l Z a0 hw [] G  h0 n0 O0 ) hZ (ow hw 22 rfl) (ow hw 21 rfl) (by decide) (by decide)) q3a q3c (g := (mkF m 1 #[.val (.ref w_PENDING), .val (.ref w_FAILED)] [(.ref w_PENDING)])) rfl (by rw [hml]; rfl) (Steps.refl _) (argsL := []) (rest := []) (lenOf pd_1 rfl) rfl (by show 2 * 0 + _ ≤ _; exact Nat.le_of_eq rfl) (hb hby d2_1) (fun _ _ => ⟨rfl, e0, (by decide : 0 + 0 ≤ _), (by decide : 0 + 0 ≤ _)⟩)
  dsimp only [Pt.U, Pt.locs, Pt.cells, Pt.slots] at X3 l3 y3 z3 st3 hQ3
  subst l3 y3 z3
  obtain ⟨rfl, N3q, e3⟩ := hQ3
  have N3 := Fr.app N0 N3q
  refine OGot.on st3 ?_
  show OGot p.tables e below (T3.setTop (mkF m 4 #[.val (.ref w_PENDING), .val (.ref w_FAILED)] [(.int (0 : Int32))])) _
  refine OGot.go (fun t k => XS.tswIn X3.here hx rfl (pc0 := 4) (pc' := 50) rfl (hb hby d2_4) rfl (by decide) (o := 46) (by decide) (by decide) (by decide) k) ?_
  show OGot p.tables e below (T3.setTop (mkF m 50 #[.val (.ref w_PENDING), .val (.ref w_FAILED)] [])) _
  refine OGot.go (fun t k => XS.aloadN X3.here hx rfl (hb hby d2_50) rfl rfl k) ?_
  show OGot p.tables e below (T3.setTop (mkF m 51 #[.val (.ref w_PENDING), .val (.ref w_FAILED)] [(.ref w_FAILED)])) _
  obtain ⟨T4, X4, e4, st4⟩ := getS2 X3 hx hZ hown (host := "") (Or.inl (ow hw 25 rfl)) Via.refl e3 (G.2.2.2.2.1.ext O0.2) (g := (mkF m 51 #[.val (.ref w_PENDING), .val (.ref w_FAILED)] [(.ref w_FAILED)])) rfl (hb hby d2_51)
  refine OGot.go st4 ?_
  show OGot p.tables e below (T4.setTop (mkF m 54 #[.val (.ref w_PENDING), .val (.ref w_FAILED)] [(.ref w_RUNNING), (.ref w_FAILED)])) _
  have ne5 : w_FAILED ≠ w_RUNNING := (Fld.ne G.2.2.2.2.2.2.2.2.2.2.2.1 G.2.2.2.2.2.2.2.2.2.2.2.2.1 (by decide))
  refine OGot.go (fun t k => Jvm.RoadKit.acmp (g := (mkF m 54 #[.val (.ref w_PENDING), .val (.ref w_FAILED)] [(.ref w_RUNNING), (.ref w_FAILED)])) X4 hx rfl rfl rfl (pc0 := 54) (pc' := 57) (same := false) rfl (hb hby d2_54) rfl (decide_eq_false fun q => ne5 (Value.ref.inj q)) (by decide) (by decide) k) ?_
  show OGot p.tables e below (T4.setTop (mkF m 57 #[.val (.ref w_PENDING), .val (.ref w_FAILED)] [])) _
  refine OGot.go (fun t k => XS.aloadN X4.here hx rfl (hb hby d2_57) rfl rfl k) ?_
  show OGot p.tables e below (T4.setTop (mkF m 58 #[.val (.ref w_PENDING), .val (.ref w_FAILED)] [(.ref w_FAILED)])) _
  obtain ⟨T6, X6, e6, st6⟩ := getS2 X4 hx hZ hown (host := "") (Or.inl (ow hw 27 rfl)) Via.refl e4 (G.2.2.2.2.2.2.1.ext O0.2) (g := (mkF m 58 #[.val (.ref w_PENDING), .val (.ref w_FAILED)] [(.ref w_FAILED)])) rfl (hb hby d2_58)
  refine OGot.go st6 ?_
  show OGot p.tables e below (T6.setTop (mkF m 61 #[.val (.ref w_PENDING), .val (.ref w_FAILED)] [(.ref w_CANCELLED), (.ref w_FAILED)])) _
  have ne7 : w_FAILED ≠ w_CANCELLED := (Fld.ne G.2.2.2.2.2.2.2.2.2.2.2.1 G.2.2.2.2.2.2.2.2.2.2.2.2.2.1 (by decide))
  refine OGot.go (fun t k => Jvm.RoadKit.acmp (g := (mkF m 61 #[.val (.ref w_PENDING), .val (.ref w_FAILED)] [(.ref w_CANCELLED), (.ref w_FAILED)])) X6 hx rfl rfl rfl (pc0 := 61) (pc' := 68) (same := false) rfl (hb hby d2_61) rfl (decide_eq_false fun q => ne7 (Value.ref.inj q)) (by decide) (by decide) k) ?_
  show OGot p.tables e below (T6.setTop (mkF m 68 #[.val (.ref w_PENDING), .val (.ref w_FAILED)] [])) _
  refine OGot.go (fun t k => XS.iconst X6.here hx rfl (hb hby d2_68) k) ?_
  show OGot p.tables e below (T6.setTop (mkF m 69 #[.val (.ref w_PENDING), .val (.ref w_FAILED)] [(.int (0 : Int32))])) _
  refine OGot.go (fun t k => XS.goto X6.here hx rfl (pc0 := 69) (pc' := 117) rfl (hb hby d2_69) (by decide) (by decide) k) ?_
  show OGot p.tables e below (T6.setTop (mkF m 117 #[.val (.ref w_PENDING), .val (.ref w_FAILED)] [(.int (0 : Int32))])) _
  obtain ⟨fs, hr, hrun, hended, hW, hsame⟩ := X6.leave (v := some (.int (0 : Int32))) (fun h => by rw [Bd.returns] at h; cases h)
  refine ⟨_, _, retN X6 hx (t := .boolean) Bd.returns (by simp) (hb hby d2_117) hr, hrun, hended, _, _, rfl, ?_, ⟨_, rfl⟩, hW, hsame.mono (by decide) (by decide)⟩
  exact (⟨rfl, N3, e6⟩ : Q2_3 Z w_PENDING w_FAILED w_RUNNING w_CANCELLED w_COMPLETED  h0 n0 _ T6.heap _)
theorem d1_35 : decode method_2_code 35 = .ok (.getstatic 22, 3) := by decide +kernel
theorem d1_38 : decode method_2_code 38 = .ok (.areturn, 1) := by decide +kernel
def Q1_4 (Z : State) (w_PENDING : Addr) (w_FAILED : Addr) (w_RUNNING : Addr) (w_CANCELLED : Addr) (w_COMPLETED : Addr)  (h0 : Heap) (n0 : Nat) (v : Option Value) (h : Heap) (L : List Loc) : Prop := v = some (.ref w_CANCELLED) ∧ Fr n0 L ∧ h = h0
theorem ef1_4 (m : MethodId)  : entryFrame m #[(.int (4 : Int32))] 1 = mkF m 0 #[.val (.int (4 : Int32))] [] := by first | (simp [entryFrame, mkF, argsToLocals, Value.category]; done) | rfl
set_option maxRecDepth 65536 in
set_option maxHeartbeats 40000000 in
theorem rm1_4 (l : Launch) (Z : State) (a0 : Array Value) (hw : ∀ d ∈ tables_1, d.before a0 Z = true) (ws : List Jvm.Cond) {w_PENDING : Addr} {w_FAILED : Addr} {w_RUNNING : Addr} {w_CANCELLED : Addr} {w_COMPLETED : Addr} (G : Glob Z w_PENDING w_FAILED w_RUNNING w_CANCELLED w_COMPLETED)  (h0 : Heap) (n0 : Nat) (O0 : Old Z n0 h0) :
    MetFree l (⟨"com/example/hermit_crab/hermitcrab/JobStateCanMoveToPinLaw", "st", "(I)Lcom/example/hermit_crab/hermitcrab/JobState;"⟩ : MethodName) (head1 (Jvm.Cond.code (⟨"com/example/hermit_crab/hermitcrab/JobStateCanMoveToPinLaw", "st", "(I)Lcom/example/hermit_crab/hermitcrab/JobState;"⟩ : MethodName) method_2_code 1 (some (.object "com/example/hermit_crab/hermitcrab/JobState")) :: ws) ({ frames := 0, cells := 0, slots := 0, locals := 0 } : Room)) (fun a U => a = #[(.int (4 : Int32))] ∧ Z.Warmed39 U.vm ∧ U.heap = h0) (fun _ _ _ _ _ => True) (fun _ U o U' => ∃ v L, o = .returned v ∧ Q1_4 Z w_PENDING w_FAILED w_RUNNING w_CANCELLED w_COMPLETED  h0 n0 v U'.heap L ∧ FrameEnd U o U' L ({ frames := 0, cells := 0, slots := 0, locals := 0 } : Room).cells ({ frames := 0, cells := 0, slots := 0, locals := 0 } : Room).slots) := by
  refine MetFree.of_bodySF (plainFor_of_name pn_com_example_hermit_crab_hermitcrab_JobStateCanMoveToPinLaw) hisR ?_
  intro p e s m args below meth c s₁ Bd hml0 hP hK
  obtain ⟨rfl, hZ, hh⟩ := hP
  have hx := Bd.exec
  have hby := Bd.bytes
  have hml : c.maxLocals = 1 := hml0
  have hown : s.vm.findClass "com/example/hermit_crab/hermitcrab/JobStateCanMoveToPinLaw" = some m.cls := findClass_of_methodNamed Bd.named
  have hnm := (name_of_methodNamed Bd.named Bd.method).1
  have X0 : Stand p l e ({ frames := 0, cells := 0, slots := 0, locals := 0 } : Room) s m #[(.int (4 : Int32))] below meth c s₁ [] 0 0 := Stand.of_body Bd
  have e0 : s₁.heap = h0 := by rw [← hh, Bd.state]; rfl
  have N0 := Fr.nil n0
  show OGot p.tables e below (s₁.setTop (entryFrame m #[(.int (4 : Int32))] 1)) _
  refine OGot.go (fun t k => castTop (ef1_4 m ) k) ?_
  show OGot p.tables e below (s₁.setTop (mkF m 0 #[.val (.int (4 : Int32))] [])) _
  refine OGot.go (fun t k => XS.iloadN X0.here hx rfl (hb hby d1_0) rfl k) ?_
  show OGot p.tables e below (s₁.setTop (mkF m 1 #[.val (.int (4 : Int32))] [(.int (4 : Int32))])) _
  refine OGot.go (fun t k => XS.ifYes X0.here hx rfl (pc0 := 1) (pc' := 8) rfl (hb hby d1_1) rfl (by decide) (by decide) (by decide) k) ?_
  show OGot p.tables e below (s₁.setTop (mkF m 8 #[.val (.int (4 : Int32))] [])) _
  refine OGot.go (fun t k => XS.iloadN X0.here hx rfl (hb hby d1_8) rfl k) ?_
  show OGot p.tables e below (s₁.setTop (mkF m 9 #[.val (.int (4 : Int32))] [(.int (4 : Int32))])) _
  refine OGot.go (fun t k => XS.iconst X0.here hx rfl (hb hby d1_9) k) ?_
  show OGot p.tables e below (s₁.setTop (mkF m 10 #[.val (.int (4 : Int32))] [(.int (1 : Int32)), (.int (4 : Int32))])) _
  refine OGot.go (fun t k => XS.icmpYes X0.here hx rfl (pc0 := 10) (pc' := 17) rfl (hb hby d1_10) rfl (by decide) (by decide) (by decide) k) ?_
  show OGot p.tables e below (s₁.setTop (mkF m 17 #[.val (.int (4 : Int32))] [])) _
  refine OGot.go (fun t k => XS.iloadN X0.here hx rfl (hb hby d1_17) rfl k) ?_
  show OGot p.tables e below (s₁.setTop (mkF m 18 #[.val (.int (4 : Int32))] [(.int (4 : Int32))])) _
  refine OGot.go (fun t k => XS.iconst X0.here hx rfl (hb hby d1_18) k) ?_
  show OGot p.tables e below (s₁.setTop (mkF m 19 #[.val (.int (4 : Int32))] [(.int (2 : Int32)), (.int (4 : Int32))])) _
  refine OGot.go (fun t k => XS.icmpYes X0.here hx rfl (pc0 := 19) (pc' := 26) rfl (hb hby d1_19) rfl (by decide) (by decide) (by decide) k) ?_
  show OGot p.tables e below (s₁.setTop (mkF m 26 #[.val (.int (4 : Int32))] [])) _
  refine OGot.go (fun t k => XS.iloadN X0.here hx rfl (hb hby d1_26) rfl k) ?_
  show OGot p.tables e below (s₁.setTop (mkF m 27 #[.val (.int (4 : Int32))] [(.int (4 : Int32))])) _
  refine OGot.go (fun t k => XS.iconst X0.here hx rfl (hb hby d1_27) k) ?_
  show OGot p.tables e below (s₁.setTop (mkF m 28 #[.val (.int (4 : Int32))] [(.int (3 : Int32)), (.int (4 : Int32))])) _
  refine OGot.go (fun t k => XS.icmpYes X0.here hx rfl (pc0 := 28) (pc' := 35) rfl (hb hby d1_28) rfl (by decide) (by decide) (by decide) k) ?_
  show OGot p.tables e below (s₁.setTop (mkF m 35 #[.val (.int (4 : Int32))] [])) _
  obtain ⟨T1, X1, e1, st1⟩ := getS2 X0 hx hZ hown (host := "") (Or.inl (ow hw 29 rfl)) Via.refl e0 (G.2.2.2.2.2.2.1.ext O0.2) (g := (mkF m 35 #[.val (.int (4 : Int32))] [])) rfl (hb hby d1_35)
  refine OGot.go st1 ?_
  show OGot p.tables e below (T1.setTop (mkF m 38 #[.val (.int (4 : Int32))] [(.ref w_CANCELLED)])) _
  obtain ⟨fs, hr, hrun, hended, hW, hsame⟩ := X1.leave (v := some (.ref w_CANCELLED)) (fun h => by rw [Bd.returns] at h; cases h)
  refine ⟨_, _, oretA X1 hx Bd.returns rfl rfl (hb hby d1_38) hr, hrun, hended, _, _, rfl, ?_, ⟨_, rfl⟩, hW, hsame.mono (by decide) (by decide)⟩
  exact (⟨rfl, N0, e1⟩ : Q1_4 Z w_PENDING w_FAILED w_RUNNING w_CANCELLED w_COMPLETED  h0 n0 _ T1.heap _)
def Q2_4 (Z : State) (w_PENDING : Addr) (w_FAILED : Addr) (w_RUNNING : Addr) (w_CANCELLED : Addr) (w_COMPLETED : Addr)  (h0 : Heap) (n0 : Nat) (v : Option Value) (h : Heap) (L : List Loc) : Prop := v = some (.int (1 : Int32)) ∧ Fr n0 L ∧ h = h0
theorem ef2_4 (m : MethodId) (x0 : Addr) (x1 : Addr) : entryFrame m #[(.ref x0), (.ref x1)] 2 = mkF m 0 #[.val (.ref x0), .val (.ref x1)] [] := by first | (simp [entryFrame, mkF, argsToLocals, Value.category]; done) | rfl
set_option maxRecDepth 65536 in
set_option maxHeartbeats 40000000 in
theorem rm2_4 (l : Launch) (Z : State) (a0 : Array Value) (hw : ∀ d ∈ tables_1, d.before a0 Z = true) (ws : List Jvm.Cond) {w_PENDING : Addr} {w_FAILED : Addr} {w_RUNNING : Addr} {w_CANCELLED : Addr} {w_COMPLETED : Addr} (G : Glob Z w_PENDING w_FAILED w_RUNNING w_CANCELLED w_COMPLETED)  (h0 : Heap) (n0 : Nat) (O0 : Old Z n0 h0) :
    MetFree l (⟨"com/example/hermit_crab/hermitcrab/JobState", "canMoveTo", "(Lcom/example/hermit_crab/hermitcrab/JobState;)Z"⟩ : MethodName) (head1 (Jvm.Cond.code (⟨"com/example/hermit_crab/hermitcrab/JobState", "canMoveTo", "(Lcom/example/hermit_crab/hermitcrab/JobState;)Z"⟩ : MethodName) prog_6_method_5_code 2 (some .boolean) :: ws) ({ frames := 1, cells := 0, slots := 0, locals := 12 } : Room)) (fun a U => a = #[(.ref w_PENDING), (.ref w_CANCELLED)] ∧ Z.Warmed39 U.vm ∧ U.heap = h0) (fun _ _ _ _ _ => True) (fun _ U o U' => ∃ v L, o = .returned v ∧ Q2_4 Z w_PENDING w_FAILED w_RUNNING w_CANCELLED w_COMPLETED  h0 n0 v U'.heap L ∧ FrameEnd U o U' L ({ frames := 1, cells := 0, slots := 0, locals := 12 } : Room).cells ({ frames := 1, cells := 0, slots := 0, locals := 12 } : Room).slots) := by
  refine MetFree.of_bodySF (plainFor_of_name pn_com_example_hermit_crab_hermitcrab_JobState) hisR ?_
  intro p e s m args below meth c s₁ Bd hml0 hP hK
  obtain ⟨rfl, hZ, hh⟩ := hP
  have hx := Bd.exec
  have hby := Bd.bytes
  have hml : c.maxLocals = 2 := hml0
  have hown : s.vm.findClass "com/example/hermit_crab/hermitcrab/JobState" = some m.cls := findClass_of_methodNamed Bd.named
  have hnm := (name_of_methodNamed Bd.named Bd.method).1
  have X0 : Stand p l e ({ frames := 1, cells := 0, slots := 0, locals := 12 } : Room) s m #[(.ref w_PENDING), (.ref w_CANCELLED)] below meth c s₁ [] 0 0 := Stand.of_body Bd
  have e0 : s₁.heap = h0 := by rw [← hh, Bd.state]; rfl
  have N0 := Fr.nil n0
  show OGot p.tables e below (s₁.setTop (entryFrame m #[(.ref w_PENDING), (.ref w_CANCELLED)] 2)) _
  refine OGot.go (fun t k => castTop (ef2_4 m w_PENDING w_CANCELLED) k) ?_
  show OGot p.tables e below (s₁.setTop (mkF m 0 #[.val (.ref w_PENDING), .val (.ref w_CANCELLED)] [])) _
  refine OGot.go (fun t k => XS.aloadN X0.here hx rfl (hb hby d2_0) rfl rfl k) ?_
  show OGot p.tables e below (s₁.setTop (mkF m 1 #[.val (.ref w_PENDING), .val (.ref w_CANCELLED)] [(.ref w_PENDING)])) _
  obtain ⟨cq3, kq3, q3a, q3b, q3c⟩ := isOf hZ e0 (G.2.1.ext O0.2)
  obtain ⟨_, _, ⟨T3, L3, k3, n3⟩, -, X3, ⟨Lc3, hQ3, l3, y3, z3⟩, st3⟩ := X0.virtualBackUp hx (x := (⟨"com/example/hermit_crab/hermitcrab/JobState", "ordinal", "()I"⟩ : MethodName)) (y := (⟨"java/lang/Enum", "ordinal", "()I"⟩ : MethodName)) (owner := "java/lang/Enum") hown (mvT hZ (ow hw 16 rfl)) (mvT hZ (ow hw 17 rfl)) (mvT hZ (ow hw 18 rfl)) (by decide) (mvT hZ (ow hw 20 rfl)) (mvT hZ (ow hw 19 rfl)) (backOf (W := 0) (rm3 l Z a0 hw [] G  h0 n0 O0 ) hZ (ow hw 22 rfl) (ow hw 21 rfl) (by decide) (by decide)) q3a q3c (g := (mkF m 1 #[.val (.ref w_PENDING), .val (.ref w_CANCELLED)] [(.ref w_PENDING)])) rfl (by rw [hml]; rfl) (Steps.refl _) (argsL := []) (rest := []) (lenOf pd_1 rfl) rfl (by show 2 * 0 + _ ≤ _; exact Nat.le_of_eq rfl) (hb hby d2_1) (fun _ _ => ⟨rfl, e0, (by decide : 0 + 0 ≤ _), (by decide : 0 + 0 ≤ _)⟩)
  dsimp only [Pt.U, Pt.locs, Pt.cells, Pt.slots] at X3 l3 y3 z3 st3 hQ3
  subst l3 y3 z3
  obtain ⟨rfl, N3q, e3⟩ := hQ3
  have N3 := Fr.app N0 N3q
  refine OGot.on st3 ?_
  show OGot p.tables e below (T3.setTop (mkF m 4 #[.val (.ref w_PENDING), .val (.ref w_CANCELLED)] [(.int (0 : Int32))])) _
  refine OGot.go (fun t k => XS.tswIn X3.here hx rfl (pc0 := 4) (pc' := 50) rfl (hb hby d2_4) rfl (by decide) (o := 46) (by decide) (by decide) (by decide) k) ?_
  show OGot p.tables e below (T3.setTop (mkF m 50 #[.val (.ref w_PENDING), .val (.ref w_CANCELLED)] [])) _
  refine OGot.go (fun t k => XS.aloadN X3.here hx rfl (hb hby d2_50) rfl rfl k) ?_
  show OGot p.tables e below (T3.setTop (mkF m 51 #[.val (.ref w_PENDING), .val (.ref w_CANCELLED)] [(.ref w_CANCELLED)])) _
  obtain ⟨T4, X4, e4, st4⟩ := getS2 X3 hx hZ hown (host := "") (Or.inl (ow hw 25 rfl)) Via.refl e3 (G.2.2.2.2.1.ext O0.2) (g := (mkF m 51 #[.val (.ref w_PENDING), .val (.ref w_CANCELLED)] [(.ref w_CANCELLED)])) rfl (hb hby d2_51)
  refine OGot.go st4 ?_
  show OGot p.tables e below (T4.setTop (mkF m 54 #[.val (.ref w_PENDING), .val (.ref w_CANCELLED)] [(.ref w_RUNNING), (.ref w_CANCELLED)])) _
  have ne5 : w_CANCELLED ≠ w_RUNNING := (Fld.ne G.2.2.2.2.2.2.2.2.2.2.2.2.2.1 G.2.2.2.2.2.2.2.2.2.2.2.2.1 (by decide))
  refine OGot.go (fun t k => Jvm.RoadKit.acmp (g := (mkF m 54 #[.val (.ref w_PENDING), .val (.ref w_CANCELLED)] [(.ref w_RUNNING), (.ref w_CANCELLED)])) X4 hx rfl rfl rfl (pc0 := 54) (pc' := 57) (same := false) rfl (hb hby d2_54) rfl (decide_eq_false fun q => ne5 (Value.ref.inj q)) (by decide) (by decide) k) ?_
  show OGot p.tables e below (T4.setTop (mkF m 57 #[.val (.ref w_PENDING), .val (.ref w_CANCELLED)] [])) _
  refine OGot.go (fun t k => XS.aloadN X4.here hx rfl (hb hby d2_57) rfl rfl k) ?_
  show OGot p.tables e below (T4.setTop (mkF m 58 #[.val (.ref w_PENDING), .val (.ref w_CANCELLED)] [(.ref w_CANCELLED)])) _
  obtain ⟨T6, X6, e6, st6⟩ := getS2 X4 hx hZ hown (host := "") (Or.inl (ow hw 27 rfl)) Via.refl e4 (G.2.2.2.2.2.2.1.ext O0.2) (g := (mkF m 58 #[.val (.ref w_PENDING), .val (.ref w_CANCELLED)] [(.ref w_CANCELLED)])) rfl (hb hby d2_58)
  refine OGot.go st6 ?_
  show OGot p.tables e below (T6.setTop (mkF m 61 #[.val (.ref w_PENDING), .val (.ref w_CANCELLED)] [(.ref w_CANCELLED), (.ref w_CANCELLED)])) _
  refine OGot.go (fun t k => Jvm.RoadKit.acmp (g := (mkF m 61 #[.val (.ref w_PENDING), .val (.ref w_CANCELLED)] [(.ref w_CANCELLED), (.ref w_CANCELLED)])) X6 hx rfl rfl rfl (pc0 := 61) (pc' := 64) (same := true) rfl (hb hby d2_61) rfl (decide_eq_true rfl) (by decide) (by decide) k) ?_
  show OGot p.tables e below (T6.setTop (mkF m 64 #[.val (.ref w_PENDING), .val (.ref w_CANCELLED)] [])) _
  refine OGot.go (fun t k => XS.iconst X6.here hx rfl (hb hby d2_64) k) ?_
  show OGot p.tables e below (T6.setTop (mkF m 65 #[.val (.ref w_PENDING), .val (.ref w_CANCELLED)] [(.int (1 : Int32))])) _
  refine OGot.go (fun t k => XS.goto X6.here hx rfl (pc0 := 65) (pc' := 117) rfl (hb hby d2_65) (by decide) (by decide) k) ?_
  show OGot p.tables e below (T6.setTop (mkF m 117 #[.val (.ref w_PENDING), .val (.ref w_CANCELLED)] [(.int (1 : Int32))])) _
  obtain ⟨fs, hr, hrun, hended, hW, hsame⟩ := X6.leave (v := some (.int (1 : Int32))) (fun h => by rw [Bd.returns] at h; cases h)
  refine ⟨_, _, retN X6 hx (t := .boolean) Bd.returns (by simp) (hb hby d2_117) hr, hrun, hended, _, _, rfl, ?_, ⟨_, rfl⟩, hW, hsame.mono (by decide) (by decide)⟩
  exact (⟨rfl, N3, e6⟩ : Q2_4 Z w_PENDING w_FAILED w_RUNNING w_CANCELLED w_COMPLETED  h0 n0 _ T6.heap _)
def Q2_5 (Z : State) (w_PENDING : Addr) (w_FAILED : Addr) (w_RUNNING : Addr) (w_CANCELLED : Addr) (w_COMPLETED : Addr)  (h0 : Heap) (n0 : Nat) (v : Option Value) (h : Heap) (L : List Loc) : Prop := v = some (.int (0 : Int32)) ∧ Fr n0 L ∧ h = h0
theorem ef2_5 (m : MethodId) (x0 : Addr) : entryFrame m #[(.ref x0), .null] 2 = mkF m 0 #[.val (.ref x0), .val .null] [] := by first | (simp [entryFrame, mkF, argsToLocals, Value.category]; done) | rfl
set_option maxRecDepth 65536 in
set_option maxHeartbeats 40000000 in
theorem rm2_5 (l : Launch) (Z : State) (a0 : Array Value) (hw : ∀ d ∈ tables_1, d.before a0 Z = true) (ws : List Jvm.Cond) {w_PENDING : Addr} {w_FAILED : Addr} {w_RUNNING : Addr} {w_CANCELLED : Addr} {w_COMPLETED : Addr} (G : Glob Z w_PENDING w_FAILED w_RUNNING w_CANCELLED w_COMPLETED)  (h0 : Heap) (n0 : Nat) (O0 : Old Z n0 h0) :
    MetFree l (⟨"com/example/hermit_crab/hermitcrab/JobState", "canMoveTo", "(Lcom/example/hermit_crab/hermitcrab/JobState;)Z"⟩ : MethodName) (head1 (Jvm.Cond.code (⟨"com/example/hermit_crab/hermitcrab/JobState", "canMoveTo", "(Lcom/example/hermit_crab/hermitcrab/JobState;)Z"⟩ : MethodName) prog_6_method_5_code 2 (some .boolean) :: ws) ({ frames := 1, cells := 0, slots := 0, locals := 12 } : Room)) (fun a U => a = #[(.ref w_PENDING), .null] ∧ Z.Warmed39 U.vm ∧ U.heap = h0) (fun _ _ _ _ _ => True) (fun _ U o U' => ∃ v L, o = .returned v ∧ Q2_5 Z w_PENDING w_FAILED w_RUNNING w_CANCELLED w_COMPLETED  h0 n0 v U'.heap L ∧ FrameEnd U o U' L ({ frames := 1, cells := 0, slots := 0, locals := 12 } : Room).cells ({ frames := 1, cells := 0, slots := 0, locals := 12 } : Room).slots) := by
  refine MetFree.of_bodySF (plainFor_of_name pn_com_example_hermit_crab_hermitcrab_JobState) hisR ?_
  intro p e s m args below meth c s₁ Bd hml0 hP hK
  obtain ⟨rfl, hZ, hh⟩ := hP
  have hx := Bd.exec
  have hby := Bd.bytes
  have hml : c.maxLocals = 2 := hml0
  have hown : s.vm.findClass "com/example/hermit_crab/hermitcrab/JobState" = some m.cls := findClass_of_methodNamed Bd.named
  have hnm := (name_of_methodNamed Bd.named Bd.method).1
  have X0 : Stand p l e ({ frames := 1, cells := 0, slots := 0, locals := 12 } : Room) s m #[(.ref w_PENDING), .null] below meth c s₁ [] 0 0 := Stand.of_body Bd
  have e0 : s₁.heap = h0 := by rw [← hh, Bd.state]; rfl
  have N0 := Fr.nil n0
  show OGot p.tables e below (s₁.setTop (entryFrame m #[(.ref w_PENDING), .null] 2)) _
  refine OGot.go (fun t k => castTop (ef2_5 m w_PENDING) k) ?_
  show OGot p.tables e below (s₁.setTop (mkF m 0 #[.val (.ref w_PENDING), .val .null] [])) _
  refine OGot.go (fun t k => XS.aloadN X0.here hx rfl (hb hby d2_0) rfl rfl k) ?_
  show OGot p.tables e below (s₁.setTop (mkF m 1 #[.val (.ref w_PENDING), .val .null] [(.ref w_PENDING)])) _
  obtain ⟨cq2, kq2, q2a, q2b, q2c⟩ := isOf hZ e0 (G.2.1.ext O0.2)
  obtain ⟨_, _, ⟨T2, L2, k2, n2⟩, -, X2, ⟨Lc2, hQ2, l2, y2, z2⟩, st2⟩ := X0.virtualBackUp hx (x := (⟨"com/example/hermit_crab/hermitcrab/JobState", "ordinal", "()I"⟩ : MethodName)) (y := (⟨"java/lang/Enum", "ordinal", "()I"⟩ : MethodName)) (owner := "java/lang/Enum") hown (mvT hZ (ow hw 16 rfl)) (mvT hZ (ow hw 17 rfl)) (mvT hZ (ow hw 18 rfl)) (by decide) (mvT hZ (ow hw 20 rfl)) (mvT hZ (ow hw 19 rfl)) (backOf (W := 0) (rm3 l Z a0 hw [] G  h0 n0 O0 ) hZ (ow hw 22 rfl) (ow hw 21 rfl) (by decide) (by decide)) q2a q2c (g := (mkF m 1 #[.val (.ref w_PENDING), .val .null] [(.ref w_PENDING)])) rfl (by rw [hml]; rfl) (Steps.refl _) (argsL := []) (rest := []) (lenOf pd_1 rfl) rfl (by show 2 * 0 + _ ≤ _; exact Nat.le_of_eq rfl) (hb hby d2_1) (fun _ _ => ⟨rfl, e0, (by decide : 0 + 0 ≤ _), (by decide : 0 + 0 ≤ _)⟩)
  dsimp only [Pt.U, Pt.locs, Pt.cells, Pt.slots] at X2 l2 y2 z2 st2 hQ2
  subst l2 y2 z2
  obtain ⟨rfl, N2q, e2⟩ := hQ2
  have N2 := Fr.app N0 N2q
  refine OGot.on st2 ?_
  show OGot p.tables e below (T2.setTop (mkF m 4 #[.val (.ref w_PENDING), .val .null] [(.int (0 : Int32))])) _
  refine OGot.go (fun t k => XS.tswIn X2.here hx rfl (pc0 := 4) (pc' := 50) rfl (hb hby d2_4) rfl (by decide) (o := 46) (by decide) (by decide) (by decide) k) ?_
  show OGot p.tables e below (T2.setTop (mkF m 50 #[.val (.ref w_PENDING), .val .null] [])) _
  refine OGot.go (fun t k => XS.aloadN X2.here hx rfl (hb hby d2_50) rfl rfl k) ?_
  show OGot p.tables e below (T2.setTop (mkF m 51 #[.val (.ref w_PENDING), .val .null] [.null])) _
  obtain ⟨T3, X3, e3, st3⟩ := getS2 X2 hx hZ hown (host := "") (Or.inl (ow hw 25 rfl)) Via.refl e2 (G.2.2.2.2.1.ext O0.2) (g := (mkF m 51 #[.val (.ref w_PENDING), .val .null] [.null])) rfl (hb hby d2_51)
  refine OGot.go st3 ?_
  show OGot p.tables e below (T3.setTop (mkF m 54 #[.val (.ref w_PENDING), .val .null] [(.ref w_RUNNING), .null])) _
  refine OGot.go (fun t k => Jvm.RoadKit.acmp (g := (mkF m 54 #[.val (.ref w_PENDING), .val .null] [(.ref w_RUNNING), .null])) X3 hx rfl rfl rfl (pc0 := 54) (pc' := 57) (same := false) rfl (hb hby d2_54) rfl (decide_eq_false nofun) (by decide) (by decide) k) ?_
  show OGot p.tables e below (T3.setTop (mkF m 57 #[.val (.ref w_PENDING), .val .null] [])) _
  refine OGot.go (fun t k => XS.aloadN X3.here hx rfl (hb hby d2_57) rfl rfl k) ?_
  show OGot p.tables e below (T3.setTop (mkF m 58 #[.val (.ref w_PENDING), .val .null] [.null])) _
  obtain ⟨T4, X4, e4, st4⟩ := getS2 X3 hx hZ hown (host := "") (Or.inl (ow hw 27 rfl)) Via.refl e3 (G.2.2.2.2.2.2.1.ext O0.2) (g := (mkF m 58 #[.val (.ref w_PENDING), .val .null] [.null])) rfl (hb hby d2_58)
  refine OGot.go st4 ?_
  show OGot p.tables e below (T4.setTop (mkF m 61 #[.val (.ref w_PENDING), .val .null] [(.ref w_CANCELLED), .null])) _
  refine OGot.go (fun t k => Jvm.RoadKit.acmp (g := (mkF m 61 #[.val (.ref w_PENDING), .val .null] [(.ref w_CANCELLED), .null])) X4 hx rfl rfl rfl (pc0 := 61) (pc' := 68) (same := false) rfl (hb hby d2_61) rfl (decide_eq_false nofun) (by decide) (by decide) k) ?_
  show OGot p.tables e below (T4.setTop (mkF m 68 #[.val (.ref w_PENDING), .val .null] [])) _
  refine OGot.go (fun t k => XS.iconst X4.here hx rfl (hb hby d2_68) k) ?_
  show OGot p.tables e below (T4.setTop (mkF m 69 #[.val (.ref w_PENDING), .val .null] [(.int (0 : Int32))])) _
  refine OGot.go (fun t k => XS.goto X4.here hx rfl (pc0 := 69) (pc' := 117) rfl (hb hby d2_69) (by decide) (by decide) k) ?_
  show OGot p.tables e below (T4.setTop (mkF m 117 #[.val (.ref w_PENDING), .val .null] [(.int (0 : Int32))])) _
  obtain ⟨fs, hr, hrun, hended, hW, hsame⟩ := X4.leave (v := some (.int (0 : Int32))) (fun h => by rw [Bd.returns] at h; cases h)
  refine ⟨_, _, retN X4 hx (t := .boolean) Bd.returns (by simp) (hb hby d2_117) hr, hrun, hended, _, _, rfl, ?_, ⟨_, rfl⟩, hW, hsame.mono (by decide) (by decide)⟩
  exact (⟨rfl, N2, e4⟩ : Q2_5 Z w_PENDING w_FAILED w_RUNNING w_CANCELLED w_COMPLETED  h0 n0 _ T4.heap _)
def Q3_1 (Z : State) (w_PENDING : Addr) (w_FAILED : Addr) (w_RUNNING : Addr) (w_CANCELLED : Addr) (w_COMPLETED : Addr)  (h0 : Heap) (n0 : Nat) (v : Option Value) (h : Heap) (L : List Loc) : Prop := v = some (.int (1 : Int32)) ∧ Fr n0 L ∧ h = h0
theorem ef3_1 (m : MethodId) (x0 : Addr) : entryFrame m #[(.ref x0)] 1 = mkF m 0 #[.val (.ref x0)] [] := by first | (simp [entryFrame, mkF, argsToLocals, Value.category]; done) | rfl
set_option maxRecDepth 65536 in
set_option maxHeartbeats 40000000 in
theorem rm3_1 (l : Launch) (Z : State) (a0 : Array Value) (hw : ∀ d ∈ tables_1, d.before a0 Z = true) (ws : List Jvm.Cond) {w_PENDING : Addr} {w_FAILED : Addr} {w_RUNNING : Addr} {w_CANCELLED : Addr} {w_COMPLETED : Addr} (G : Glob Z w_PENDING w_FAILED w_RUNNING w_CANCELLED w_COMPLETED)  (h0 : Heap) (n0 : Nat) (O0 : Old Z n0 h0) :
    MetFree l (⟨"java/lang/Enum", "ordinal", "()I"⟩ : MethodName) (head1 (Jvm.Cond.code (⟨"java/lang/Enum", "ordinal", "()I"⟩ : MethodName) jdk_37_method_2_code 1 (some .int) :: ws) ({ frames := 0, cells := 0, slots := 0, locals := 0 } : Room)) (fun a U => a = #[(.ref w_RUNNING)] ∧ Z.Warmed39 U.vm ∧ U.heap = h0) (fun _ _ _ _ _ => True) (fun _ U o U' => ∃ v L, o = .returned v ∧ Q3_1 Z w_PENDING w_FAILED w_RUNNING w_CANCELLED w_COMPLETED  h0 n0 v U'.heap L ∧ FrameEnd U o U' L ({ frames := 0, cells := 0, slots := 0, locals := 0 } : Room).cells ({ frames := 0, cells := 0, slots := 0, locals := 0 } : Room).slots) := by
  refine MetFree.of_bodySF (plainFor_of_name pn_java_lang_Enum) hisR ?_
  intro p e s m args below meth c s₁ Bd hml0 hP hK
  obtain ⟨rfl, hZ, hh⟩ := hP
  have hx := Bd.exec
  have hby := Bd.bytes
  have hml : c.maxLocals = 1 := hml0
  have hown : s.vm.findClass "java/lang/Enum" = some m.cls := findClass_of_methodNamed Bd.named
  have hnm := (name_of_methodNamed Bd.named Bd.method).1
  have X0 : Stand p l e ({ frames := 0, cells := 0, slots := 0, locals := 0 } : Room) s m #[(.ref w_RUNNING)] below meth c s₁ [] 0 0 := Stand.of_body Bd
  have e0 : s₁.heap = h0 := by rw [← hh, Bd.state]; rfl
  have N0 := Fr.nil n0
  show OGot p.tables e below (s₁.setTop (entryFrame m #[(.ref w_RUNNING)] 1)) _
  refine OGot.go (fun t k => castTop (ef3_1 m w_RUNNING) k) ?_
  show OGot p.tables e below (s₁.setTop (mkF m 0 #[.val (.ref w_RUNNING)] [])) _
  refine OGot.go (fun t k => XS.aloadN X0.here hx rfl (hb hby d3_0) rfl rfl k) ?_
  show OGot p.tables e below (s₁.setTop (mkF m 1 #[.val (.ref w_RUNNING)] [(.ref w_RUNNING)])) _
  obtain ⟨T2, X2, e2, st2⟩ := getF X0 hx hZ hown (host := "") (Or.inl (ow hw 23 rfl)) Via.refl e0 (G.2.2.2.2.2.2.2.2.2.2.2.2.1.ext O0.2) (g := (mkF m 1 #[.val (.ref w_RUNNING)] [(.ref w_RUNNING)])) rfl rfl (hb hby d3_1)
  refine OGot.go st2 ?_
  show OGot p.tables e below (T2.setTop (mkF m 4 #[.val (.ref w_RUNNING)] [(.int (1 : Int32))])) _
  obtain ⟨fs, hr, hrun, hended, hW, hsame⟩ := X2.leave (v := some (.int (1 : Int32))) (fun h => by rw [Bd.returns] at h; cases h)
  refine ⟨_, _, retI X2 hx Bd.returns (hb hby d3_4) hr, hrun, hended, _, _, rfl, ?_, ⟨_, rfl⟩, hW, hsame.mono (by decide) (by decide)⟩
  exact (⟨rfl, N0, e2⟩ : Q3_1 Z w_PENDING w_FAILED w_RUNNING w_CANCELLED w_COMPLETED  h0 n0 _ T2.heap _)
theorem d2_72 : decode prog_6_method_5_code 72 = .ok (.aload_n 1, 1) := by decide +kernel
theorem d2_73 : decode prog_6_method_5_code 73 = .ok (.getstatic 10, 3) := by decide +kernel
theorem d2_76 : decode prog_6_method_5_code 76 = .ok (.if_acmp .eq 17, 3) := by decide +kernel
theorem d2_79 : decode prog_6_method_5_code 79 = .ok (.aload_n 1, 1) := by decide +kernel
theorem d2_80 : decode prog_6_method_5_code 80 = .ok (.getstatic 13, 3) := by decide +kernel
theorem d2_83 : decode prog_6_method_5_code 83 = .ok (.if_acmp .eq 10, 3) := by decide +kernel
theorem d2_86 : decode prog_6_method_5_code 86 = .ok (.aload_n 1, 1) := by decide +kernel
theorem d2_87 : decode prog_6_method_5_code 87 = .ok (.getstatic 3, 3) := by decide +kernel
theorem d2_90 : decode prog_6_method_5_code 90 = .ok (.if_acmp .ne 7, 3) := by decide +kernel
theorem d2_93 : decode prog_6_method_5_code 93 = .ok (.iconst 1, 1) := by decide +kernel
theorem d2_94 : decode prog_6_method_5_code 94 = .ok (.goto 23, 3) := by decide +kernel
def Q2_6 (Z : State) (w_PENDING : Addr) (w_FAILED : Addr) (w_RUNNING : Addr) (w_CANCELLED : Addr) (w_COMPLETED : Addr)  (h0 : Heap) (n0 : Nat) (v : Option Value) (h : Heap) (L : List Loc) : Prop := v = some (.int (1 : Int32)) ∧ Fr n0 L ∧ h = h0
theorem ef2_6 (m : MethodId) (x0 : Addr) (x1 : Addr) : entryFrame m #[(.ref x0), (.ref x1)] 2 = mkF m 0 #[.val (.ref x0), .val (.ref x1)] [] := by first | (simp [entryFrame, mkF, argsToLocals, Value.category]; done) | rfl
set_option maxRecDepth 65536 in
set_option maxHeartbeats 40000000 in
theorem rm2_6 (l : Launch) (Z : State) (a0 : Array Value) (hw : ∀ d ∈ tables_1, d.before a0 Z = true) (ws : List Jvm.Cond) {w_PENDING : Addr} {w_FAILED : Addr} {w_RUNNING : Addr} {w_CANCELLED : Addr} {w_COMPLETED : Addr} (G : Glob Z w_PENDING w_FAILED w_RUNNING w_CANCELLED w_COMPLETED)  (h0 : Heap) (n0 : Nat) (O0 : Old Z n0 h0) :
    MetFree l (⟨"com/example/hermit_crab/hermitcrab/JobState", "canMoveTo", "(Lcom/example/hermit_crab/hermitcrab/JobState;)Z"⟩ : MethodName) (head1 (Jvm.Cond.code (⟨"com/example/hermit_crab/hermitcrab/JobState", "canMoveTo", "(Lcom/example/hermit_crab/hermitcrab/JobState;)Z"⟩ : MethodName) prog_6_method_5_code 2 (some .boolean) :: ws) ({ frames := 1, cells := 0, slots := 0, locals := 12 } : Room)) (fun a U => a = #[(.ref w_RUNNING), (.ref w_PENDING)] ∧ Z.Warmed39 U.vm ∧ U.heap = h0) (fun _ _ _ _ _ => True) (fun _ U o U' => ∃ v L, o = .returned v ∧ Q2_6 Z w_PENDING w_FAILED w_RUNNING w_CANCELLED w_COMPLETED  h0 n0 v U'.heap L ∧ FrameEnd U o U' L ({ frames := 1, cells := 0, slots := 0, locals := 12 } : Room).cells ({ frames := 1, cells := 0, slots := 0, locals := 12 } : Room).slots) := by
  refine MetFree.of_bodySF (plainFor_of_name pn_com_example_hermit_crab_hermitcrab_JobState) hisR ?_
  intro p e s m args below meth c s₁ Bd hml0 hP hK
  obtain ⟨rfl, hZ, hh⟩ := hP
  have hx := Bd.exec
  have hby := Bd.bytes
  have hml : c.maxLocals = 2 := hml0
  have hown : s.vm.findClass "com/example/hermit_crab/hermitcrab/JobState" = some m.cls := findClass_of_methodNamed Bd.named
  have hnm := (name_of_methodNamed Bd.named Bd.method).1
  have X0 : Stand p l e ({ frames := 1, cells := 0, slots := 0, locals := 12 } : Room) s m #[(.ref w_RUNNING), (.ref w_PENDING)] below meth c s₁ [] 0 0 := Stand.of_body Bd
  have e0 : s₁.heap = h0 := by rw [← hh, Bd.state]; rfl
  have N0 := Fr.nil n0
  show OGot p.tables e below (s₁.setTop (entryFrame m #[(.ref w_RUNNING), (.ref w_PENDING)] 2)) _
  refine OGot.go (fun t k => castTop (ef2_6 m w_RUNNING w_PENDING) k) ?_
  show OGot p.tables e below (s₁.setTop (mkF m 0 #[.val (.ref w_RUNNING), .val (.ref w_PENDING)] [])) _
  refine OGot.go (fun t k => XS.aloadN X0.here hx rfl (hb hby d2_0) rfl rfl k) ?_
  show OGot p.tables e below (s₁.setTop (mkF m 1 #[.val (.ref w_RUNNING), .val (.ref w_PENDING)] [(.ref w_RUNNING)])) _
  obtain ⟨cq3, kq3, q3a, q3b, q3c⟩ := isOf hZ e0 (G.2.2.2.2.2.1.ext O0.2)
  obtain ⟨_, _, ⟨T3, L3, k3, n3⟩, -, X3, ⟨Lc3, hQ3, l3, y3, z3⟩, st3⟩ := X0.virtualBackUp hx (x := (⟨"com/example/hermit_crab/hermitcrab/JobState", "ordinal", "()I"⟩ : MethodName)) (y := (⟨"java/lang/Enum", "ordinal", "()I"⟩ : MethodName)) (owner := "java/lang/Enum") hown (mvT hZ (ow hw 16 rfl)) (mvT hZ (ow hw 17 rfl)) (mvT hZ (ow hw 18 rfl)) (by decide) (mvT hZ (ow hw 20 rfl)) (mvT hZ (ow hw 19 rfl)) (backOf (W := 0) (rm3_1 l Z a0 hw [] G  h0 n0 O0 ) hZ (ow hw 22 rfl) (ow hw 21 rfl) (by decide) (by decide)) q3a q3c (g := (mkF m 1 #[.val (.ref w_RUNNING), .val (.ref w_PENDING)] [(.ref w_RUNNING)])) rfl (by rw [hml]; rfl) (Steps.refl _) (argsL := []) (rest := []) (lenOf pd_1 rfl) rfl (by show 2 * 0 + _ ≤ _; exact Nat.le_of_eq rfl) (hb hby d2_1) (fun _ _ => ⟨rfl, e0, (by decide : 0 + 0 ≤ _), (by decide : 0 + 0 ≤ _)⟩)
  dsimp only [Pt.U, Pt.locs, Pt.cells, Pt.slots] at X3 l3 y3 z3 st3 hQ3
  subst l3 y3 z3
  obtain ⟨rfl, N3q, e3⟩ := hQ3
  have N3 := Fr.app N0 N3q
  refine OGot.on st3 ?_
  show OGot p.tables e below (T3.setTop (mkF m 4 #[.val (.ref w_RUNNING), .val (.ref w_PENDING)] [(.int (1 : Int32))])) _
  refine OGot.go (fun t k => XS.tswIn X3.here hx rfl (pc0 := 4) (pc' := 72) rfl (hb hby d2_4) rfl (by decide) (o := 68) (by decide) (by decide) (by decide) k) ?_
  show OGot p.tables e below (T3.setTop (mkF m 72 #[.val (.ref w_RUNNING), .val (.ref w_PENDING)] [])) _
  refine OGot.go (fun t k => XS.aloadN X3.here hx rfl (hb hby d2_72) rfl rfl k) ?_
  show OGot p.tables e below (T3.setTop (mkF m 73 #[.val (.ref w_RUNNING), .val (.ref w_PENDING)] [(.ref w_PENDING)])) _
  obtain ⟨T4, X4, e4, st4⟩ := getS2 X3 hx hZ hown (host := "") (Or.inl (ow hw 34 rfl)) Via.refl e3 (G.2.2.2.2.2.2.2.2.1.ext O0.2) (g := (mkF m 73 #[.val (.ref w_RUNNING), .val (.ref w_PENDING)] [(.ref w_PENDING)])) rfl (hb hby d2_73)
  refine OGot.go st4 ?_
  show OGot p.tables e below (T4.setTop (mkF m 76 #[.val (.ref w_RUNNING), .val (.ref w_PENDING)] [(.ref w_COMPLETED), (.ref w_PENDING)])) _
  have ne5 : w_PENDING ≠ w_COMPLETED := (Fld.ne G.2.2.2.2.2.2.2.2.2.2.1 G.2.2.2.2.2.2.2.2.2.2.2.2.2.2 (by decide))
  refine OGot.go (fun t k => Jvm.RoadKit.acmp (g := (mkF m 76 #[.val (.ref w_RUNNING), .val (.ref w_PENDING)] [(.ref w_COMPLETED), (.ref w_PENDING)])) X4 hx rfl rfl rfl (pc0 := 76) (pc' := 79) (same := false) rfl (hb hby d2_76) rfl (decide_eq_false fun q => ne5 (Value.ref.inj q)) (by decide) (by decide) k) ?_
  show OGot p.tables e below (T4.setTop (mkF m 79 #[.val (.ref w_RUNNING), .val (.ref w_PENDING)] [])) _
  refine OGot.go (fun t k => XS.aloadN X4.here hx rfl (hb hby d2_79) rfl rfl k) ?_
  show OGot p.tables e below (T4.setTop (mkF m 80 #[.val (.ref w_RUNNING), .val (.ref w_PENDING)] [(.ref w_PENDING)])) _
  obtain ⟨T6, X6, e6, st6⟩ := getS2 X4 hx hZ hown (host := "") (Or.inl (ow hw 35 rfl)) Via.refl e4 (G.2.2.1.ext O0.2) (g := (mkF m 80 #[.val (.ref w_RUNNING), .val (.ref w_PENDING)] [(.ref w_PENDING)])) rfl (hb hby d2_80)
  refine OGot.go st6 ?_
  show OGot p.tables e below (T6.setTop (mkF m 83 #[.val (.ref w_RUNNING), .val (.ref w_PENDING)] [(.ref w_FAILED), (.ref w_PENDING)])) _
  have ne7 : w_PENDING ≠ w_FAILED := (Fld.ne G.2.2.2.2.2.2.2.2.2.2.1 G.2.2.2.2.2.2.2.2.2.2.2.1 (by decide))
  refine OGot.go (fun t k => Jvm.RoadKit.acmp (g := (mkF m 83 #[.val (.ref w_RUNNING), .val (.ref w_PENDING)] [(.ref w_FAILED), (.ref w_PENDING)])) X6 hx rfl rfl rfl (pc0 := 83) (pc' := 86) (same := false) rfl (hb hby d2_83) rfl (decide_eq_false fun q => ne7 (Value.ref.inj q)) (by decide) (by decide) k) ?_
  show OGot p.tables e below (T6.setTop (mkF m 86 #[.val (.ref w_RUNNING), .val (.ref w_PENDING)] [])) _
  refine OGot.go (fun t k => XS.aloadN X6.here hx rfl (hb hby d2_86) rfl rfl k) ?_
  show OGot p.tables e below (T6.setTop (mkF m 87 #[.val (.ref w_RUNNING), .val (.ref w_PENDING)] [(.ref w_PENDING)])) _
  obtain ⟨T8, X8, e8, st8⟩ := getS2 X6 hx hZ hown (host := "") (Or.inl (ow hw 31 rfl)) Via.refl e6 (G.1.ext O0.2) (g := (mkF m 87 #[.val (.ref w_RUNNING), .val (.ref w_PENDING)] [(.ref w_PENDING)])) rfl (hb hby d2_87)
  refine OGot.go st8 ?_
  show OGot p.tables e below (T8.setTop (mkF m 90 #[.val (.ref w_RUNNING), .val (.ref w_PENDING)] [(.ref w_PENDING), (.ref w_PENDING)])) _
  refine OGot.go (fun t k => Jvm.RoadKit.acmp (g := (mkF m 90 #[.val (.ref w_RUNNING), .val (.ref w_PENDING)] [(.ref w_PENDING), (.ref w_PENDING)])) X8 hx rfl rfl rfl (pc0 := 90) (pc' := 93) (same := true) rfl (hb hby d2_90) rfl (decide_eq_true rfl) (by decide) (by decide) k) ?_
  show OGot p.tables e below (T8.setTop (mkF m 93 #[.val (.ref w_RUNNING), .val (.ref w_PENDING)] [])) _
  refine OGot.go (fun t k => XS.iconst X8.here hx rfl (hb hby d2_93) k) ?_
  show OGot p.tables e below (T8.setTop (mkF m 94 #[.val (.ref w_RUNNING), .val (.ref w_PENDING)] [(.int (1 : Int32))])) _
  refine OGot.go (fun t k => XS.goto X8.here hx rfl (pc0 := 94) (pc' := 117) rfl (hb hby d2_94) (by decide) (by decide) k) ?_
  show OGot p.tables e below (T8.setTop (mkF m 117 #[.val (.ref w_RUNNING), .val (.ref w_PENDING)] [(.int (1 : Int32))])) _
  obtain ⟨fs, hr, hrun, hended, hW, hsame⟩ := X8.leave (v := some (.int (1 : Int32))) (fun h => by rw [Bd.returns] at h; cases h)
  refine ⟨_, _, retN X8 hx (t := .boolean) Bd.returns (by simp) (hb hby d2_117) hr, hrun, hended, _, _, rfl, ?_, ⟨_, rfl⟩, hW, hsame.mono (by decide) (by decide)⟩
  exact (⟨rfl, N3, e8⟩ : Q2_6 Z w_PENDING w_FAILED w_RUNNING w_CANCELLED w_COMPLETED  h0 n0 _ T8.heap _)
theorem d2_97 : decode prog_6_method_5_code 97 = .ok (.iconst 0, 1) := by decide +kernel
theorem d2_98 : decode prog_6_method_5_code 98 = .ok (.goto 19, 3) := by decide +kernel
def Q2_7 (Z : State) (w_PENDING : Addr) (w_FAILED : Addr) (w_RUNNING : Addr) (w_CANCELLED : Addr) (w_COMPLETED : Addr)  (h0 : Heap) (n0 : Nat) (v : Option Value) (h : Heap) (L : List Loc) : Prop := v = some (.int (0 : Int32)) ∧ Fr n0 L ∧ h = h0
theorem ef2_7 (m : MethodId) (x0 : Addr) : entryFrame m #[(.ref x0), (.ref x0)] 2 = mkF m 0 #[.val (.ref x0), .val (.ref x0)] [] := by first | (simp [entryFrame, mkF, argsToLocals, Value.category]; done) | rfl
set_option maxRecDepth 65536 in
set_option maxHeartbeats 40000000 in
theorem rm2_7 (l : Launch) (Z : State) (a0 : Array Value) (hw : ∀ d ∈ tables_1, d.before a0 Z = true) (ws : List Jvm.Cond) {w_PENDING : Addr} {w_FAILED : Addr} {w_RUNNING : Addr} {w_CANCELLED : Addr} {w_COMPLETED : Addr} (G : Glob Z w_PENDING w_FAILED w_RUNNING w_CANCELLED w_COMPLETED)  (h0 : Heap) (n0 : Nat) (O0 : Old Z n0 h0) :
    MetFree l (⟨"com/example/hermit_crab/hermitcrab/JobState", "canMoveTo", "(Lcom/example/hermit_crab/hermitcrab/JobState;)Z"⟩ : MethodName) (head1 (Jvm.Cond.code (⟨"com/example/hermit_crab/hermitcrab/JobState", "canMoveTo", "(Lcom/example/hermit_crab/hermitcrab/JobState;)Z"⟩ : MethodName) prog_6_method_5_code 2 (some .boolean) :: ws) ({ frames := 1, cells := 0, slots := 0, locals := 12 } : Room)) (fun a U => a = #[(.ref w_RUNNING), (.ref w_RUNNING)] ∧ Z.Warmed39 U.vm ∧ U.heap = h0) (fun _ _ _ _ _ => True) (fun _ U o U' => ∃ v L, o = .returned v ∧ Q2_7 Z w_PENDING w_FAILED w_RUNNING w_CANCELLED w_COMPLETED  h0 n0 v U'.heap L ∧ FrameEnd U o U' L ({ frames := 1, cells := 0, slots := 0, locals := 12 } : Room).cells ({ frames := 1, cells := 0, slots := 0, locals := 12 } : Room).slots) := by
  refine MetFree.of_bodySF (plainFor_of_name pn_com_example_hermit_crab_hermitcrab_JobState) hisR ?_
  intro p e s m args below meth c s₁ Bd hml0 hP hK
  obtain ⟨rfl, hZ, hh⟩ := hP
  have hx := Bd.exec
  have hby := Bd.bytes
  have hml : c.maxLocals = 2 := hml0
  have hown : s.vm.findClass "com/example/hermit_crab/hermitcrab/JobState" = some m.cls := findClass_of_methodNamed Bd.named
  have hnm := (name_of_methodNamed Bd.named Bd.method).1
  have X0 : Stand p l e ({ frames := 1, cells := 0, slots := 0, locals := 12 } : Room) s m #[(.ref w_RUNNING), (.ref w_RUNNING)] below meth c s₁ [] 0 0 := Stand.of_body Bd
  have e0 : s₁.heap = h0 := by rw [← hh, Bd.state]; rfl
  have N0 := Fr.nil n0
  show OGot p.tables e below (s₁.setTop (entryFrame m #[(.ref w_RUNNING), (.ref w_RUNNING)] 2)) _
  refine OGot.go (fun t k => castTop (ef2_7 m w_RUNNING) k) ?_
  show OGot p.tables e below (s₁.setTop (mkF m 0 #[.val (.ref w_RUNNING), .val (.ref w_RUNNING)] [])) _
  refine OGot.go (fun t k => XS.aloadN X0.here hx rfl (hb hby d2_0) rfl rfl k) ?_
  show OGot p.tables e below (s₁.setTop (mkF m 1 #[.val (.ref w_RUNNING), .val (.ref w_RUNNING)] [(.ref w_RUNNING)])) _
  obtain ⟨cq2, kq2, q2a, q2b, q2c⟩ := isOf hZ e0 (G.2.2.2.2.2.1.ext O0.2)
  obtain ⟨_, _, ⟨T2, L2, k2, n2⟩, -, X2, ⟨Lc2, hQ2, l2, y2, z2⟩, st2⟩ := X0.virtualBackUp hx (x := (⟨"com/example/hermit_crab/hermitcrab/JobState", "ordinal", "()I"⟩ : MethodName)) (y := (⟨"java/lang/Enum", "ordinal", "()I"⟩ : MethodName)) (owner := "java/lang/Enum") hown (mvT hZ (ow hw 16 rfl)) (mvT hZ (ow hw 17 rfl)) (mvT hZ (ow hw 18 rfl)) (by decide) (mvT hZ (ow hw 20 rfl)) (mvT hZ (ow hw 19 rfl)) (backOf (W := 0) (rm3_1 l Z a0 hw [] G  h0 n0 O0 ) hZ (ow hw 22 rfl) (ow hw 21 rfl) (by decide) (by decide)) q2a q2c (g := (mkF m 1 #[.val (.ref w_RUNNING), .val (.ref w_RUNNING)] [(.ref w_RUNNING)])) rfl (by rw [hml]; rfl) (Steps.refl _) (argsL := []) (rest := []) (lenOf pd_1 rfl) rfl (by show 2 * 0 + _ ≤ _; exact Nat.le_of_eq rfl) (hb hby d2_1) (fun _ _ => ⟨rfl, e0, (by decide : 0 + 0 ≤ _), (by decide : 0 + 0 ≤ _)⟩)
  dsimp only [Pt.U, Pt.locs, Pt.cells, Pt.slots] at X2 l2 y2 z2 st2 hQ2
  subst l2 y2 z2
  obtain ⟨rfl, N2q, e2⟩ := hQ2
  have N2 := Fr.app N0 N2q
  refine OGot.on st2 ?_
  show OGot p.tables e below (T2.setTop (mkF m 4 #[.val (.ref w_RUNNING), .val (.ref w_RUNNING)] [(.int (1 : Int32))])) _
  refine OGot.go (fun t k => XS.tswIn X2.here hx rfl (pc0 := 4) (pc' := 72) rfl (hb hby d2_4) rfl (by decide) (o := 68) (by decide) (by decide) (by decide) k) ?_
  show OGot p.tables e below (T2.setTop (mkF m 72 #[.val (.ref w_RUNNING), .val (.ref w_RUNNING)] [])) _
  refine OGot.go (fun t k => XS.aloadN X2.here hx rfl (hb hby d2_72) rfl rfl k) ?_
  show OGot p.tables e below (T2.setTop (mkF m 73 #[.val (.ref w_RUNNING), .val (.ref w_RUNNING)] [(.ref w_RUNNING)])) _
  obtain ⟨T3, X3, e3, st3⟩ := getS2 X2 hx hZ hown (host := "") (Or.inl (ow hw 34 rfl)) Via.refl e2 (G.2.2.2.2.2.2.2.2.1.ext O0.2) (g := (mkF m 73 #[.val (.ref w_RUNNING), .val (.ref w_RUNNING)] [(.ref w_RUNNING)])) rfl (hb hby d2_73)
  refine OGot.go st3 ?_
  show OGot p.tables e below (T3.setTop (mkF m 76 #[.val (.ref w_RUNNING), .val (.ref w_RUNNING)] [(.ref w_COMPLETED), (.ref w_RUNNING)])) _
  have ne4 : w_RUNNING ≠ w_COMPLETED := (Fld.ne G.2.2.2.2.2.2.2.2.2.2.2.2.1 G.2.2.2.2.2.2.2.2.2.2.2.2.2.2 (by decide))
  refine OGot.go (fun t k => Jvm.RoadKit.acmp (g := (mkF m 76 #[.val (.ref w_RUNNING), .val (.ref w_RUNNING)] [(.ref w_COMPLETED), (.ref w_RUNNING)])) X3 hx rfl rfl rfl (pc0 := 76) (pc' := 79) (same := false) rfl (hb hby d2_76) rfl (decide_eq_false fun q => ne4 (Value.ref.inj q)) (by decide) (by decide) k) ?_
  show OGot p.tables e below (T3.setTop (mkF m 79 #[.val (.ref w_RUNNING), .val (.ref w_RUNNING)] [])) _
  refine OGot.go (fun t k => XS.aloadN X3.here hx rfl (hb hby d2_79) rfl rfl k) ?_
  show OGot p.tables e below (T3.setTop (mkF m 80 #[.val (.ref w_RUNNING), .val (.ref w_RUNNING)] [(.ref w_RUNNING)])) _
  obtain ⟨T5, X5, e5, st5⟩ := getS2 X3 hx hZ hown (host := "") (Or.inl (ow hw 35 rfl)) Via.refl e3 (G.2.2.1.ext O0.2) (g := (mkF m 80 #[.val (.ref w_RUNNING), .val (.ref w_RUNNING)] [(.ref w_RUNNING)])) rfl (hb hby d2_80)
  refine OGot.go st5 ?_
  show OGot p.tables e below (T5.setTop (mkF m 83 #[.val (.ref w_RUNNING), .val (.ref w_RUNNING)] [(.ref w_FAILED), (.ref w_RUNNING)])) _
  have ne6 : w_RUNNING ≠ w_FAILED := (Fld.ne G.2.2.2.2.2.2.2.2.2.2.2.2.1 G.2.2.2.2.2.2.2.2.2.2.2.1 (by decide))
  refine OGot.go (fun t k => Jvm.RoadKit.acmp (g := (mkF m 83 #[.val (.ref w_RUNNING), .val (.ref w_RUNNING)] [(.ref w_FAILED), (.ref w_RUNNING)])) X5 hx rfl rfl rfl (pc0 := 83) (pc' := 86) (same := false) rfl (hb hby d2_83) rfl (decide_eq_false fun q => ne6 (Value.ref.inj q)) (by decide) (by decide) k) ?_
  show OGot p.tables e below (T5.setTop (mkF m 86 #[.val (.ref w_RUNNING), .val (.ref w_RUNNING)] [])) _
  refine OGot.go (fun t k => XS.aloadN X5.here hx rfl (hb hby d2_86) rfl rfl k) ?_
  show OGot p.tables e below (T5.setTop (mkF m 87 #[.val (.ref w_RUNNING), .val (.ref w_RUNNING)] [(.ref w_RUNNING)])) _
  obtain ⟨T7, X7, e7, st7⟩ := getS2 X5 hx hZ hown (host := "") (Or.inl (ow hw 31 rfl)) Via.refl e5 (G.1.ext O0.2) (g := (mkF m 87 #[.val (.ref w_RUNNING), .val (.ref w_RUNNING)] [(.ref w_RUNNING)])) rfl (hb hby d2_87)
  refine OGot.go st7 ?_
  show OGot p.tables e below (T7.setTop (mkF m 90 #[.val (.ref w_RUNNING), .val (.ref w_RUNNING)] [(.ref w_PENDING), (.ref w_RUNNING)])) _
  have ne8 : w_RUNNING ≠ w_PENDING := (Fld.ne G.2.2.2.2.2.2.2.2.2.2.2.2.1 G.2.2.2.2.2.2.2.2.2.2.1 (by decide))
  refine OGot.go (fun t k => Jvm.RoadKit.acmp (g := (mkF m 90 #[.val (.ref w_RUNNING), .val (.ref w_RUNNING)] [(.ref w_PENDING), (.ref w_RUNNING)])) X7 hx rfl rfl rfl (pc0 := 90) (pc' := 97) (same := false) rfl (hb hby d2_90) rfl (decide_eq_false fun q => ne8 (Value.ref.inj q)) (by decide) (by decide) k) ?_
  show OGot p.tables e below (T7.setTop (mkF m 97 #[.val (.ref w_RUNNING), .val (.ref w_RUNNING)] [])) _
  refine OGot.go (fun t k => XS.iconst X7.here hx rfl (hb hby d2_97) k) ?_
  show OGot p.tables e below (T7.setTop (mkF m 98 #[.val (.ref w_RUNNING), .val (.ref w_RUNNING)] [(.int (0 : Int32))])) _
  refine OGot.go (fun t k => XS.goto X7.here hx rfl (pc0 := 98) (pc' := 117) rfl (hb hby d2_98) (by decide) (by decide) k) ?_
  show OGot p.tables e below (T7.setTop (mkF m 117 #[.val (.ref w_RUNNING), .val (.ref w_RUNNING)] [(.int (0 : Int32))])) _
  obtain ⟨fs, hr, hrun, hended, hW, hsame⟩ := X7.leave (v := some (.int (0 : Int32))) (fun h => by rw [Bd.returns] at h; cases h)
  refine ⟨_, _, retN X7 hx (t := .boolean) Bd.returns (by simp) (hb hby d2_117) hr, hrun, hended, _, _, rfl, ?_, ⟨_, rfl⟩, hW, hsame.mono (by decide) (by decide)⟩
  exact (⟨rfl, N2, e7⟩ : Q2_7 Z w_PENDING w_FAILED w_RUNNING w_CANCELLED w_COMPLETED  h0 n0 _ T7.heap _)
def Q2_8 (Z : State) (w_PENDING : Addr) (w_FAILED : Addr) (w_RUNNING : Addr) (w_CANCELLED : Addr) (w_COMPLETED : Addr)  (h0 : Heap) (n0 : Nat) (v : Option Value) (h : Heap) (L : List Loc) : Prop := v = some (.int (1 : Int32)) ∧ Fr n0 L ∧ h = h0
theorem ef2_8 (m : MethodId) (x0 : Addr) (x1 : Addr) : entryFrame m #[(.ref x0), (.ref x1)] 2 = mkF m 0 #[.val (.ref x0), .val (.ref x1)] [] := by first | (simp [entryFrame, mkF, argsToLocals, Value.category]; done) | rfl
set_option maxRecDepth 65536 in
set_option maxHeartbeats 40000000 in
theorem rm2_8 (l : Launch) (Z : State) (a0 : Array Value) (hw : ∀ d ∈ tables_1, d.before a0 Z = true) (ws : List Jvm.Cond) {w_PENDING : Addr} {w_FAILED : Addr} {w_RUNNING : Addr} {w_CANCELLED : Addr} {w_COMPLETED : Addr} (G : Glob Z w_PENDING w_FAILED w_RUNNING w_CANCELLED w_COMPLETED)  (h0 : Heap) (n0 : Nat) (O0 : Old Z n0 h0) :
    MetFree l (⟨"com/example/hermit_crab/hermitcrab/JobState", "canMoveTo", "(Lcom/example/hermit_crab/hermitcrab/JobState;)Z"⟩ : MethodName) (head1 (Jvm.Cond.code (⟨"com/example/hermit_crab/hermitcrab/JobState", "canMoveTo", "(Lcom/example/hermit_crab/hermitcrab/JobState;)Z"⟩ : MethodName) prog_6_method_5_code 2 (some .boolean) :: ws) ({ frames := 1, cells := 0, slots := 0, locals := 12 } : Room)) (fun a U => a = #[(.ref w_RUNNING), (.ref w_COMPLETED)] ∧ Z.Warmed39 U.vm ∧ U.heap = h0) (fun _ _ _ _ _ => True) (fun _ U o U' => ∃ v L, o = .returned v ∧ Q2_8 Z w_PENDING w_FAILED w_RUNNING w_CANCELLED w_COMPLETED  h0 n0 v U'.heap L ∧ FrameEnd U o U' L ({ frames := 1, cells := 0, slots := 0, locals := 12 } : Room).cells ({ frames := 1, cells := 0, slots := 0, locals := 12 } : Room).slots) := by
  refine MetFree.of_bodySF (plainFor_of_name pn_com_example_hermit_crab_hermitcrab_JobState) hisR ?_
  intro p e s m args below meth c s₁ Bd hml0 hP hK
  obtain ⟨rfl, hZ, hh⟩ := hP
  have hx := Bd.exec
  have hby := Bd.bytes
  have hml : c.maxLocals = 2 := hml0
  have hown : s.vm.findClass "com/example/hermit_crab/hermitcrab/JobState" = some m.cls := findClass_of_methodNamed Bd.named
  have hnm := (name_of_methodNamed Bd.named Bd.method).1
  have X0 : Stand p l e ({ frames := 1, cells := 0, slots := 0, locals := 12 } : Room) s m #[(.ref w_RUNNING), (.ref w_COMPLETED)] below meth c s₁ [] 0 0 := Stand.of_body Bd
  have e0 : s₁.heap = h0 := by rw [← hh, Bd.state]; rfl
  have N0 := Fr.nil n0
  show OGot p.tables e below (s₁.setTop (entryFrame m #[(.ref w_RUNNING), (.ref w_COMPLETED)] 2)) _
  refine OGot.go (fun t k => castTop (ef2_8 m w_RUNNING w_COMPLETED) k) ?_
  show OGot p.tables e below (s₁.setTop (mkF m 0 #[.val (.ref w_RUNNING), .val (.ref w_COMPLETED)] [])) _
  refine OGot.go (fun t k => XS.aloadN X0.here hx rfl (hb hby d2_0) rfl rfl k) ?_
  show OGot p.tables e below (s₁.setTop (mkF m 1 #[.val (.ref w_RUNNING), .val (.ref w_COMPLETED)] [(.ref w_RUNNING)])) _
  obtain ⟨cq3, kq3, q3a, q3b, q3c⟩ := isOf hZ e0 (G.2.2.2.2.2.1.ext O0.2)
  obtain ⟨_, _, ⟨T3, L3, k3, n3⟩, -, X3, ⟨Lc3, hQ3, l3, y3, z3⟩, st3⟩ := X0.virtualBackUp hx (x := (⟨"com/example/hermit_crab/hermitcrab/JobState", "ordinal", "()I"⟩ : MethodName)) (y := (⟨"java/lang/Enum", "ordinal", "()I"⟩ : MethodName)) (owner := "java/lang/Enum") hown (mvT hZ (ow hw 16 rfl)) (mvT hZ (ow hw 17 rfl)) (mvT hZ (ow hw 18 rfl)) (by decide) (mvT hZ (ow hw 20 rfl)) (mvT hZ (ow hw 19 rfl)) (backOf (W := 0) (rm3_1 l Z a0 hw [] G  h0 n0 O0 ) hZ (ow hw 22 rfl) (ow hw 21 rfl) (by decide) (by decide)) q3a q3c (g := (mkF m 1 #[.val (.ref w_RUNNING), .val (.ref w_COMPLETED)] [(.ref w_RUNNING)])) rfl (by rw [hml]; rfl) (Steps.refl _) (argsL := []) (rest := []) (lenOf pd_1 rfl) rfl (by show 2 * 0 + _ ≤ _; exact Nat.le_of_eq rfl) (hb hby d2_1) (fun _ _ => ⟨rfl, e0, (by decide : 0 + 0 ≤ _), (by decide : 0 + 0 ≤ _)⟩)
  dsimp only [Pt.U, Pt.locs, Pt.cells, Pt.slots] at X3 l3 y3 z3 st3 hQ3
  subst l3 y3 z3
  obtain ⟨rfl, N3q, e3⟩ := hQ3
  have N3 := Fr.app N0 N3q
  refine OGot.on st3 ?_
  show OGot p.tables e below (T3.setTop (mkF m 4 #[.val (.ref w_RUNNING), .val (.ref w_COMPLETED)] [(.int (1 : Int32))])) _
  refine OGot.go (fun t k => XS.tswIn X3.here hx rfl (pc0 := 4) (pc' := 72) rfl (hb hby d2_4) rfl (by decide) (o := 68) (by decide) (by decide) (by decide) k) ?_
  show OGot p.tables e below (T3.setTop (mkF m 72 #[.val (.ref w_RUNNING), .val (.ref w_COMPLETED)] [])) _
  refine OGot.go (fun t k => XS.aloadN X3.here hx rfl (hb hby d2_72) rfl rfl k) ?_
  show OGot p.tables e below (T3.setTop (mkF m 73 #[.val (.ref w_RUNNING), .val (.ref w_COMPLETED)] [(.ref w_COMPLETED)])) _
  obtain ⟨T4, X4, e4, st4⟩ := getS2 X3 hx hZ hown (host := "") (Or.inl (ow hw 34 rfl)) Via.refl e3 (G.2.2.2.2.2.2.2.2.1.ext O0.2) (g := (mkF m 73 #[.val (.ref w_RUNNING), .val (.ref w_COMPLETED)] [(.ref w_COMPLETED)])) rfl (hb hby d2_73)
  refine OGot.go st4 ?_
  show OGot p.tables e below (T4.setTop (mkF m 76 #[.val (.ref w_RUNNING), .val (.ref w_COMPLETED)] [(.ref w_COMPLETED), (.ref w_COMPLETED)])) _
  refine OGot.go (fun t k => Jvm.RoadKit.acmp (g := (mkF m 76 #[.val (.ref w_RUNNING), .val (.ref w_COMPLETED)] [(.ref w_COMPLETED), (.ref w_COMPLETED)])) X4 hx rfl rfl rfl (pc0 := 76) (pc' := 93) (same := true) rfl (hb hby d2_76) rfl (decide_eq_true rfl) (by decide) (by decide) k) ?_
  show OGot p.tables e below (T4.setTop (mkF m 93 #[.val (.ref w_RUNNING), .val (.ref w_COMPLETED)] [])) _
  refine OGot.go (fun t k => XS.iconst X4.here hx rfl (hb hby d2_93) k) ?_
  show OGot p.tables e below (T4.setTop (mkF m 94 #[.val (.ref w_RUNNING), .val (.ref w_COMPLETED)] [(.int (1 : Int32))])) _
  refine OGot.go (fun t k => XS.goto X4.here hx rfl (pc0 := 94) (pc' := 117) rfl (hb hby d2_94) (by decide) (by decide) k) ?_
  show OGot p.tables e below (T4.setTop (mkF m 117 #[.val (.ref w_RUNNING), .val (.ref w_COMPLETED)] [(.int (1 : Int32))])) _
  obtain ⟨fs, hr, hrun, hended, hW, hsame⟩ := X4.leave (v := some (.int (1 : Int32))) (fun h => by rw [Bd.returns] at h; cases h)
  refine ⟨_, _, retN X4 hx (t := .boolean) Bd.returns (by simp) (hb hby d2_117) hr, hrun, hended, _, _, rfl, ?_, ⟨_, rfl⟩, hW, hsame.mono (by decide) (by decide)⟩
  exact (⟨rfl, N3, e4⟩ : Q2_8 Z w_PENDING w_FAILED w_RUNNING w_CANCELLED w_COMPLETED  h0 n0 _ T4.heap _)
def Q2_9 (Z : State) (w_PENDING : Addr) (w_FAILED : Addr) (w_RUNNING : Addr) (w_CANCELLED : Addr) (w_COMPLETED : Addr)  (h0 : Heap) (n0 : Nat) (v : Option Value) (h : Heap) (L : List Loc) : Prop := v = some (.int (1 : Int32)) ∧ Fr n0 L ∧ h = h0
theorem ef2_9 (m : MethodId) (x0 : Addr) (x1 : Addr) : entryFrame m #[(.ref x0), (.ref x1)] 2 = mkF m 0 #[.val (.ref x0), .val (.ref x1)] [] := by first | (simp [entryFrame, mkF, argsToLocals, Value.category]; done) | rfl
set_option maxRecDepth 65536 in
set_option maxHeartbeats 40000000 in
theorem rm2_9 (l : Launch) (Z : State) (a0 : Array Value) (hw : ∀ d ∈ tables_1, d.before a0 Z = true) (ws : List Jvm.Cond) {w_PENDING : Addr} {w_FAILED : Addr} {w_RUNNING : Addr} {w_CANCELLED : Addr} {w_COMPLETED : Addr} (G : Glob Z w_PENDING w_FAILED w_RUNNING w_CANCELLED w_COMPLETED)  (h0 : Heap) (n0 : Nat) (O0 : Old Z n0 h0) :
    MetFree l (⟨"com/example/hermit_crab/hermitcrab/JobState", "canMoveTo", "(Lcom/example/hermit_crab/hermitcrab/JobState;)Z"⟩ : MethodName) (head1 (Jvm.Cond.code (⟨"com/example/hermit_crab/hermitcrab/JobState", "canMoveTo", "(Lcom/example/hermit_crab/hermitcrab/JobState;)Z"⟩ : MethodName) prog_6_method_5_code 2 (some .boolean) :: ws) ({ frames := 1, cells := 0, slots := 0, locals := 12 } : Room)) (fun a U => a = #[(.ref w_RUNNING), (.ref w_FAILED)] ∧ Z.Warmed39 U.vm ∧ U.heap = h0) (fun _ _ _ _ _ => True) (fun _ U o U' => ∃ v L, o = .returned v ∧ Q2_9 Z w_PENDING w_FAILED w_RUNNING w_CANCELLED w_COMPLETED  h0 n0 v U'.heap L ∧ FrameEnd U o U' L ({ frames := 1, cells := 0, slots := 0, locals := 12 } : Room).cells ({ frames := 1, cells := 0, slots := 0, locals := 12 } : Room).slots) := by
  refine MetFree.of_bodySF (plainFor_of_name pn_com_example_hermit_crab_hermitcrab_JobState) hisR ?_
  intro p e s m args below meth c s₁ Bd hml0 hP hK
  obtain ⟨rfl, hZ, hh⟩ := hP
  have hx := Bd.exec
  have hby := Bd.bytes
  have hml : c.maxLocals = 2 := hml0
  have hown : s.vm.findClass "com/example/hermit_crab/hermitcrab/JobState" = some m.cls := findClass_of_methodNamed Bd.named
  have hnm := (name_of_methodNamed Bd.named Bd.method).1
  have X0 : Stand p l e ({ frames := 1, cells := 0, slots := 0, locals := 12 } : Room) s m #[(.ref w_RUNNING), (.ref w_FAILED)] below meth c s₁ [] 0 0 := Stand.of_body Bd
  have e0 : s₁.heap = h0 := by rw [← hh, Bd.state]; rfl
  have N0 := Fr.nil n0
  show OGot p.tables e below (s₁.setTop (entryFrame m #[(.ref w_RUNNING), (.ref w_FAILED)] 2)) _
  refine OGot.go (fun t k => castTop (ef2_9 m w_RUNNING w_FAILED) k) ?_
  show OGot p.tables e below (s₁.setTop (mkF m 0 #[.val (.ref w_RUNNING), .val (.ref w_FAILED)] [])) _
  refine OGot.go (fun t k => XS.aloadN X0.here hx rfl (hb hby d2_0) rfl rfl k) ?_
  show OGot p.tables e below (s₁.setTop (mkF m 1 #[.val (.ref w_RUNNING), .val (.ref w_FAILED)] [(.ref w_RUNNING)])) _
  obtain ⟨cq3, kq3, q3a, q3b, q3c⟩ := isOf hZ e0 (G.2.2.2.2.2.1.ext O0.2)
  obtain ⟨_, _, ⟨T3, L3, k3, n3⟩, -, X3, ⟨Lc3, hQ3, l3, y3, z3⟩, st3⟩ := X0.virtualBackUp hx (x := (⟨"com/example/hermit_crab/hermitcrab/JobState", "ordinal", "()I"⟩ : MethodName)) (y := (⟨"java/lang/Enum", "ordinal", "()I"⟩ : MethodName)) (owner := "java/lang/Enum") hown (mvT hZ (ow hw 16 rfl)) (mvT hZ (ow hw 17 rfl)) (mvT hZ (ow hw 18 rfl)) (by decide) (mvT hZ (ow hw 20 rfl)) (mvT hZ (ow hw 19 rfl)) (backOf (W := 0) (rm3_1 l Z a0 hw [] G  h0 n0 O0 ) hZ (ow hw 22 rfl) (ow hw 21 rfl) (by decide) (by decide)) q3a q3c (g := (mkF m 1 #[.val (.ref w_RUNNING), .val (.ref w_FAILED)] [(.ref w_RUNNING)])) rfl (by rw [hml]; rfl) (Steps.refl _) (argsL := []) (rest := []) (lenOf pd_1 rfl) rfl (by show 2 * 0 + _ ≤ _; exact Nat.le_of_eq rfl) (hb hby d2_1) (fun _ _ => ⟨rfl, e0, (by decide : 0 + 0 ≤ _), (by decide : 0 + 0 ≤ _)⟩)
  dsimp only [Pt.U, Pt.locs, Pt.cells, Pt.slots] at X3 l3 y3 z3 st3 hQ3
  subst l3 y3 z3
  obtain ⟨rfl, N3q, e3⟩ := hQ3
  have N3 := Fr.app N0 N3q
  refine OGot.on st3 ?_
  show OGot p.tables e below (T3.setTop (mkF m 4 #[.val (.ref w_RUNNING), .val (.ref w_FAILED)] [(.int (1 : Int32))])) _
  refine OGot.go (fun t k => XS.tswIn X3.here hx rfl (pc0 := 4) (pc' := 72) rfl (hb hby d2_4) rfl (by decide) (o := 68) (by decide) (by decide) (by decide) k) ?_
  show OGot p.tables e below (T3.setTop (mkF m 72 #[.val (.ref w_RUNNING), .val (.ref w_FAILED)] [])) _
  refine OGot.go (fun t k => XS.aloadN X3.here hx rfl (hb hby d2_72) rfl rfl k) ?_
  show OGot p.tables e below (T3.setTop (mkF m 73 #[.val (.ref w_RUNNING), .val (.ref w_FAILED)] [(.ref w_FAILED)])) _
  obtain ⟨T4, X4, e4, st4⟩ := getS2 X3 hx hZ hown (host := "") (Or.inl (ow hw 34 rfl)) Via.refl e3 (G.2.2.2.2.2.2.2.2.1.ext O0.2) (g := (mkF m 73 #[.val (.ref w_RUNNING), .val (.ref w_FAILED)] [(.ref w_FAILED)])) rfl (hb hby d2_73)
  refine OGot.go st4 ?_
  show OGot p.tables e below (T4.setTop (mkF m 76 #[.val (.ref w_RUNNING), .val (.ref w_FAILED)] [(.ref w_COMPLETED), (.ref w_FAILED)])) _
  have ne5 : w_FAILED ≠ w_COMPLETED := (Fld.ne G.2.2.2.2.2.2.2.2.2.2.2.1 G.2.2.2.2.2.2.2.2.2.2.2.2.2.2 (by decide))
  refine OGot.go (fun t k => Jvm.RoadKit.acmp (g := (mkF m 76 #[.val (.ref w_RUNNING), .val (.ref w_FAILED)] [(.ref w_COMPLETED), (.ref w_FAILED)])) X4 hx rfl rfl rfl (pc0 := 76) (pc' := 79) (same := false) rfl (hb hby d2_76) rfl (decide_eq_false fun q => ne5 (Value.ref.inj q)) (by decide) (by decide) k) ?_
  show OGot p.tables e below (T4.setTop (mkF m 79 #[.val (.ref w_RUNNING), .val (.ref w_FAILED)] [])) _
  refine OGot.go (fun t k => XS.aloadN X4.here hx rfl (hb hby d2_79) rfl rfl k) ?_
  show OGot p.tables e below (T4.setTop (mkF m 80 #[.val (.ref w_RUNNING), .val (.ref w_FAILED)] [(.ref w_FAILED)])) _
  obtain ⟨T6, X6, e6, st6⟩ := getS2 X4 hx hZ hown (host := "") (Or.inl (ow hw 35 rfl)) Via.refl e4 (G.2.2.1.ext O0.2) (g := (mkF m 80 #[.val (.ref w_RUNNING), .val (.ref w_FAILED)] [(.ref w_FAILED)])) rfl (hb hby d2_80)
  refine OGot.go st6 ?_
  show OGot p.tables e below (T6.setTop (mkF m 83 #[.val (.ref w_RUNNING), .val (.ref w_FAILED)] [(.ref w_FAILED), (.ref w_FAILED)])) _
  refine OGot.go (fun t k => Jvm.RoadKit.acmp (g := (mkF m 83 #[.val (.ref w_RUNNING), .val (.ref w_FAILED)] [(.ref w_FAILED), (.ref w_FAILED)])) X6 hx rfl rfl rfl (pc0 := 83) (pc' := 93) (same := true) rfl (hb hby d2_83) rfl (decide_eq_true rfl) (by decide) (by decide) k) ?_
  show OGot p.tables e below (T6.setTop (mkF m 93 #[.val (.ref w_RUNNING), .val (.ref w_FAILED)] [])) _
  refine OGot.go (fun t k => XS.iconst X6.here hx rfl (hb hby d2_93) k) ?_
  show OGot p.tables e below (T6.setTop (mkF m 94 #[.val (.ref w_RUNNING), .val (.ref w_FAILED)] [(.int (1 : Int32))])) _
  refine OGot.go (fun t k => XS.goto X6.here hx rfl (pc0 := 94) (pc' := 117) rfl (hb hby d2_94) (by decide) (by decide) k) ?_
  show OGot p.tables e below (T6.setTop (mkF m 117 #[.val (.ref w_RUNNING), .val (.ref w_FAILED)] [(.int (1 : Int32))])) _
  obtain ⟨fs, hr, hrun, hended, hW, hsame⟩ := X6.leave (v := some (.int (1 : Int32))) (fun h => by rw [Bd.returns] at h; cases h)
  refine ⟨_, _, retN X6 hx (t := .boolean) Bd.returns (by simp) (hb hby d2_117) hr, hrun, hended, _, _, rfl, ?_, ⟨_, rfl⟩, hW, hsame.mono (by decide) (by decide)⟩
  exact (⟨rfl, N3, e6⟩ : Q2_9 Z w_PENDING w_FAILED w_RUNNING w_CANCELLED w_COMPLETED  h0 n0 _ T6.heap _)
def Q2_10 (Z : State) (w_PENDING : Addr) (w_FAILED : Addr) (w_RUNNING : Addr) (w_CANCELLED : Addr) (w_COMPLETED : Addr)  (h0 : Heap) (n0 : Nat) (v : Option Value) (h : Heap) (L : List Loc) : Prop := v = some (.int (0 : Int32)) ∧ Fr n0 L ∧ h = h0
theorem ef2_10 (m : MethodId) (x0 : Addr) (x1 : Addr) : entryFrame m #[(.ref x0), (.ref x1)] 2 = mkF m 0 #[.val (.ref x0), .val (.ref x1)] [] := by first | (simp [entryFrame, mkF, argsToLocals, Value.category]; done) | rfl
set_option maxRecDepth 65536 in
set_option maxHeartbeats 40000000 in
theorem rm2_10 (l : Launch) (Z : State) (a0 : Array Value) (hw : ∀ d ∈ tables_1, d.before a0 Z = true) (ws : List Jvm.Cond) {w_PENDING : Addr} {w_FAILED : Addr} {w_RUNNING : Addr} {w_CANCELLED : Addr} {w_COMPLETED : Addr} (G : Glob Z w_PENDING w_FAILED w_RUNNING w_CANCELLED w_COMPLETED)  (h0 : Heap) (n0 : Nat) (O0 : Old Z n0 h0) :
    MetFree l (⟨"com/example/hermit_crab/hermitcrab/JobState", "canMoveTo", "(Lcom/example/hermit_crab/hermitcrab/JobState;)Z"⟩ : MethodName) (head1 (Jvm.Cond.code (⟨"com/example/hermit_crab/hermitcrab/JobState", "canMoveTo", "(Lcom/example/hermit_crab/hermitcrab/JobState;)Z"⟩ : MethodName) prog_6_method_5_code 2 (some .boolean) :: ws) ({ frames := 1, cells := 0, slots := 0, locals := 12 } : Room)) (fun a U => a = #[(.ref w_RUNNING), (.ref w_CANCELLED)] ∧ Z.Warmed39 U.vm ∧ U.heap = h0) (fun _ _ _ _ _ => True) (fun _ U o U' => ∃ v L, o = .returned v ∧ Q2_10 Z w_PENDING w_FAILED w_RUNNING w_CANCELLED w_COMPLETED  h0 n0 v U'.heap L ∧ FrameEnd U o U' L ({ frames := 1, cells := 0, slots := 0, locals := 12 } : Room).cells ({ frames := 1, cells := 0, slots := 0, locals := 12 } : Room).slots) := by
  refine MetFree.of_bodySF (plainFor_of_name pn_com_example_hermit_crab_hermitcrab_JobState) hisR ?_
  intro p e s m args below meth c s₁ Bd hml0 hP hK
  obtain ⟨rfl, hZ, hh⟩ := hP
  have hx := Bd.exec
  have hby := Bd.bytes
  have hml : c.maxLocals = 2 := hml0
  have hown : s.vm.findClass "com/example/hermit_crab/hermitcrab/JobState" = some m.cls := findClass_of_methodNamed Bd.named
  have hnm := (name_of_methodNamed Bd.named Bd.method).1
  have X0 : Stand p l e ({ frames := 1, cells := 0, slots := 0, locals := 12 } : Room) s m #[(.ref w_RUNNING), (.ref w_CANCELLED)] below meth c s₁ [] 0 0 := Stand.of_body Bd
  have e0 : s₁.heap = h0 := by rw [← hh, Bd.state]; rfl
  have N0 := Fr.nil n0
  show OGot p.tables e below (s₁.setTop (entryFrame m #[(.ref w_RUNNING), (.ref w_CANCELLED)] 2)) _
  refine OGot.go (fun t k => castTop (ef2_10 m w_RUNNING w_CANCELLED) k) ?_
  show OGot p.tables e below (s₁.setTop (mkF m 0 #[.val (.ref w_RUNNING), .val (.ref w_CANCELLED)] [])) _
  refine OGot.go (fun t k => XS.aloadN X0.here hx rfl (hb hby d2_0) rfl rfl k) ?_
  show OGot p.tables e below (s₁.setTop (mkF m 1 #[.val (.ref w_RUNNING), .val (.ref w_CANCELLED)] [(.ref w_RUNNING)])) _
  obtain ⟨cq3, kq3, q3a, q3b, q3c⟩ := isOf hZ e0 (G.2.2.2.2.2.1.ext O0.2)
  obtain ⟨_, _, ⟨T3, L3, k3, n3⟩, -, X3, ⟨Lc3, hQ3, l3, y3, z3⟩, st3⟩ := X0.virtualBackUp hx (x := (⟨"com/example/hermit_crab/hermitcrab/JobState", "ordinal", "()I"⟩ : MethodName)) (y := (⟨"java/lang/Enum", "ordinal", "()I"⟩ : MethodName)) (owner := "java/lang/Enum") hown (mvT hZ (ow hw 16 rfl)) (mvT hZ (ow hw 17 rfl)) (mvT hZ (ow hw 18 rfl)) (by decide) (mvT hZ (ow hw 20 rfl)) (mvT hZ (ow hw 19 rfl)) (backOf (W := 0) (rm3_1 l Z a0 hw [] G  h0 n0 O0 ) hZ (ow hw 22 rfl) (ow hw 21 rfl) (by decide) (by decide)) q3a q3c (g := (mkF m 1 #[.val (.ref w_RUNNING), .val (.ref w_CANCELLED)] [(.ref w_RUNNING)])) rfl (by rw [hml]; rfl) (Steps.refl _) (argsL := []) (rest := []) (lenOf pd_1 rfl) rfl (by show 2 * 0 + _ ≤ _; exact Nat.le_of_eq rfl) (hb hby d2_1) (fun _ _ => ⟨rfl, e0, (by decide : 0 + 0 ≤ _), (by decide : 0 + 0 ≤ _)⟩)
  dsimp only [Pt.U, Pt.locs, Pt.cells, Pt.slots] at X3 l3 y3 z3 st3 hQ3
  subst l3 y3 z3
  obtain ⟨rfl, N3q, e3⟩ := hQ3
  have N3 := Fr.app N0 N3q
  refine OGot.on st3 ?_
  show OGot p.tables e below (T3.setTop (mkF m 4 #[.val (.ref w_RUNNING), .val (.ref w_CANCELLED)] [(.int (1 : Int32))])) _
  refine OGot.go (fun t k => XS.tswIn X3.here hx rfl (pc0 := 4) (pc' := 72) rfl (hb hby d2_4) rfl (by decide) (o := 68) (by decide) (by decide) (by decide) k) ?_
  show OGot p.tables e below (T3.setTop (mkF m 72 #[.val (.ref w_RUNNING), .val (.ref w_CANCELLED)] [])) _
  refine OGot.go (fun t k => XS.aloadN X3.here hx rfl (hb hby d2_72) rfl rfl k) ?_
  show OGot p.tables e below (T3.setTop (mkF m 73 #[.val (.ref w_RUNNING), .val (.ref w_CANCELLED)] [(.ref w_CANCELLED)])) _
  obtain ⟨T4, X4, e4, st4⟩ := getS2 X3 hx hZ hown (host := "") (Or.inl (ow hw 34 rfl)) Via.refl e3 (G.2.2.2.2.2.2.2.2.1.ext O0.2) (g := (mkF m 73 #[.val (.ref w_RUNNING), .val (.ref w_CANCELLED)] [(.ref w_CANCELLED)])) rfl (hb hby d2_73)
  refine OGot.go st4 ?_
  show OGot p.tables e below (T4.setTop (mkF m 76 #[.val (.ref w_RUNNING), .val (.ref w_CANCELLED)] [(.ref w_COMPLETED), (.ref w_CANCELLED)])) _
  have ne5 : w_CANCELLED ≠ w_COMPLETED := (Fld.ne G.2.2.2.2.2.2.2.2.2.2.2.2.2.1 G.2.2.2.2.2.2.2.2.2.2.2.2.2.2 (by decide))
  refine OGot.go (fun t k => Jvm.RoadKit.acmp (g := (mkF m 76 #[.val (.ref w_RUNNING), .val (.ref w_CANCELLED)] [(.ref w_COMPLETED), (.ref w_CANCELLED)])) X4 hx rfl rfl rfl (pc0 := 76) (pc' := 79) (same := false) rfl (hb hby d2_76) rfl (decide_eq_false fun q => ne5 (Value.ref.inj q)) (by decide) (by decide) k) ?_
  show OGot p.tables e below (T4.setTop (mkF m 79 #[.val (.ref w_RUNNING), .val (.ref w_CANCELLED)] [])) _
  refine OGot.go (fun t k => XS.aloadN X4.here hx rfl (hb hby d2_79) rfl rfl k) ?_
  show OGot p.tables e below (T4.setTop (mkF m 80 #[.val (.ref w_RUNNING), .val (.ref w_CANCELLED)] [(.ref w_CANCELLED)])) _
  obtain ⟨T6, X6, e6, st6⟩ := getS2 X4 hx hZ hown (host := "") (Or.inl (ow hw 35 rfl)) Via.refl e4 (G.2.2.1.ext O0.2) (g := (mkF m 80 #[.val (.ref w_RUNNING), .val (.ref w_CANCELLED)] [(.ref w_CANCELLED)])) rfl (hb hby d2_80)
  refine OGot.go st6 ?_
  show OGot p.tables e below (T6.setTop (mkF m 83 #[.val (.ref w_RUNNING), .val (.ref w_CANCELLED)] [(.ref w_FAILED), (.ref w_CANCELLED)])) _
  have ne7 : w_CANCELLED ≠ w_FAILED := (Fld.ne G.2.2.2.2.2.2.2.2.2.2.2.2.2.1 G.2.2.2.2.2.2.2.2.2.2.2.1 (by decide))
  refine OGot.go (fun t k => Jvm.RoadKit.acmp (g := (mkF m 83 #[.val (.ref w_RUNNING), .val (.ref w_CANCELLED)] [(.ref w_FAILED), (.ref w_CANCELLED)])) X6 hx rfl rfl rfl (pc0 := 83) (pc' := 86) (same := false) rfl (hb hby d2_83) rfl (decide_eq_false fun q => ne7 (Value.ref.inj q)) (by decide) (by decide) k) ?_
  show OGot p.tables e below (T6.setTop (mkF m 86 #[.val (.ref w_RUNNING), .val (.ref w_CANCELLED)] [])) _
  refine OGot.go (fun t k => XS.aloadN X6.here hx rfl (hb hby d2_86) rfl rfl k) ?_
  show OGot p.tables e below (T6.setTop (mkF m 87 #[.val (.ref w_RUNNING), .val (.ref w_CANCELLED)] [(.ref w_CANCELLED)])) _
  obtain ⟨T8, X8, e8, st8⟩ := getS2 X6 hx hZ hown (host := "") (Or.inl (ow hw 31 rfl)) Via.refl e6 (G.1.ext O0.2) (g := (mkF m 87 #[.val (.ref w_RUNNING), .val (.ref w_CANCELLED)] [(.ref w_CANCELLED)])) rfl (hb hby d2_87)
  refine OGot.go st8 ?_
  show OGot p.tables e below (T8.setTop (mkF m 90 #[.val (.ref w_RUNNING), .val (.ref w_CANCELLED)] [(.ref w_PENDING), (.ref w_CANCELLED)])) _
  have ne9 : w_CANCELLED ≠ w_PENDING := (Fld.ne G.2.2.2.2.2.2.2.2.2.2.2.2.2.1 G.2.2.2.2.2.2.2.2.2.2.1 (by decide))
  refine OGot.go (fun t k => Jvm.RoadKit.acmp (g := (mkF m 90 #[.val (.ref w_RUNNING), .val (.ref w_CANCELLED)] [(.ref w_PENDING), (.ref w_CANCELLED)])) X8 hx rfl rfl rfl (pc0 := 90) (pc' := 97) (same := false) rfl (hb hby d2_90) rfl (decide_eq_false fun q => ne9 (Value.ref.inj q)) (by decide) (by decide) k) ?_
  show OGot p.tables e below (T8.setTop (mkF m 97 #[.val (.ref w_RUNNING), .val (.ref w_CANCELLED)] [])) _
  refine OGot.go (fun t k => XS.iconst X8.here hx rfl (hb hby d2_97) k) ?_
  show OGot p.tables e below (T8.setTop (mkF m 98 #[.val (.ref w_RUNNING), .val (.ref w_CANCELLED)] [(.int (0 : Int32))])) _
  refine OGot.go (fun t k => XS.goto X8.here hx rfl (pc0 := 98) (pc' := 117) rfl (hb hby d2_98) (by decide) (by decide) k) ?_
  show OGot p.tables e below (T8.setTop (mkF m 117 #[.val (.ref w_RUNNING), .val (.ref w_CANCELLED)] [(.int (0 : Int32))])) _
  obtain ⟨fs, hr, hrun, hended, hW, hsame⟩ := X8.leave (v := some (.int (0 : Int32))) (fun h => by rw [Bd.returns] at h; cases h)
  refine ⟨_, _, retN X8 hx (t := .boolean) Bd.returns (by simp) (hb hby d2_117) hr, hrun, hended, _, _, rfl, ?_, ⟨_, rfl⟩, hW, hsame.mono (by decide) (by decide)⟩
  exact (⟨rfl, N3, e8⟩ : Q2_10 Z w_PENDING w_FAILED w_RUNNING w_CANCELLED w_COMPLETED  h0 n0 _ T8.heap _)
def Q2_11 (Z : State) (w_PENDING : Addr) (w_FAILED : Addr) (w_RUNNING : Addr) (w_CANCELLED : Addr) (w_COMPLETED : Addr)  (h0 : Heap) (n0 : Nat) (v : Option Value) (h : Heap) (L : List Loc) : Prop := v = some (.int (0 : Int32)) ∧ Fr n0 L ∧ h = h0
theorem ef2_11 (m : MethodId) (x0 : Addr) : entryFrame m #[(.ref x0), .null] 2 = mkF m 0 #[.val (.ref x0), .val .null] [] := by first | (simp [entryFrame, mkF, argsToLocals, Value.category]; done) | rfl
set_option maxRecDepth 65536 in
set_option maxHeartbeats 40000000 in
theorem rm2_11 (l : Launch) (Z : State) (a0 : Array Value) (hw : ∀ d ∈ tables_1, d.before a0 Z = true) (ws : List Jvm.Cond) {w_PENDING : Addr} {w_FAILED : Addr} {w_RUNNING : Addr} {w_CANCELLED : Addr} {w_COMPLETED : Addr} (G : Glob Z w_PENDING w_FAILED w_RUNNING w_CANCELLED w_COMPLETED)  (h0 : Heap) (n0 : Nat) (O0 : Old Z n0 h0) :
    MetFree l (⟨"com/example/hermit_crab/hermitcrab/JobState", "canMoveTo", "(Lcom/example/hermit_crab/hermitcrab/JobState;)Z"⟩ : MethodName) (head1 (Jvm.Cond.code (⟨"com/example/hermit_crab/hermitcrab/JobState", "canMoveTo", "(Lcom/example/hermit_crab/hermitcrab/JobState;)Z"⟩ : MethodName) prog_6_method_5_code 2 (some .boolean) :: ws) ({ frames := 1, cells := 0, slots := 0, locals := 12 } : Room)) (fun a U => a = #[(.ref w_RUNNING), .null] ∧ Z.Warmed39 U.vm ∧ U.heap = h0) (fun _ _ _ _ _ => True) (fun _ U o U' => ∃ v L, o = .returned v ∧ Q2_11 Z w_PENDING w_FAILED w_RUNNING w_CANCELLED w_COMPLETED  h0 n0 v U'.heap L ∧ FrameEnd U o U' L ({ frames := 1, cells := 0, slots := 0, locals := 12 } : Room).cells ({ frames := 1, cells := 0, slots := 0, locals := 12 } : Room).slots) := by
  refine MetFree.of_bodySF (plainFor_of_name pn_com_example_hermit_crab_hermitcrab_JobState) hisR ?_
  intro p e s m args below meth c s₁ Bd hml0 hP hK
  obtain ⟨rfl, hZ, hh⟩ := hP
  have hx := Bd.exec
  have hby := Bd.bytes
  have hml : c.maxLocals = 2 := hml0
  have hown : s.vm.findClass "com/example/hermit_crab/hermitcrab/JobState" = some m.cls := findClass_of_methodNamed Bd.named
  have hnm := (name_of_methodNamed Bd.named Bd.method).1
  have X0 : Stand p l e ({ frames := 1, cells := 0, slots := 0, locals := 12 } : Room) s m #[(.ref w_RUNNING), .null] below meth c s₁ [] 0 0 := Stand.of_body Bd
  have e0 : s₁.heap = h0 := by rw [← hh, Bd.state]; rfl
  have N0 := Fr.nil n0
  show OGot p.tables e below (s₁.setTop (entryFrame m #[(.ref w_RUNNING), .null] 2)) _
  refine OGot.go (fun t k => castTop (ef2_11 m w_RUNNING) k) ?_
  show OGot p.tables e below (s₁.setTop (mkF m 0 #[.val (.ref w_RUNNING), .val .null] [])) _
  refine OGot.go (fun t k => XS.aloadN X0.here hx rfl (hb hby d2_0) rfl rfl k) ?_
  show OGot p.tables e below (s₁.setTop (mkF m 1 #[.val (.ref w_RUNNING), .val .null] [(.ref w_RUNNING)])) _
  obtain ⟨cq2, kq2, q2a, q2b, q2c⟩ := isOf hZ e0 (G.2.2.2.2.2.1.ext O0.2)
  obtain ⟨_, _, ⟨T2, L2, k2, n2⟩, -, X2, ⟨Lc2, hQ2, l2, y2, z2⟩, st2⟩ := X0.virtualBackUp hx (x := (⟨"com/example/hermit_crab/hermitcrab/JobState", "ordinal", "()I"⟩ : MethodName)) (y := (⟨"java/lang/Enum", "ordinal", "()I"⟩ : MethodName)) (owner := "java/lang/Enum") hown (mvT hZ (ow hw 16 rfl)) (mvT hZ (ow hw 17 rfl)) (mvT hZ (ow hw 18 rfl)) (by decide) (mvT hZ (ow hw 20 rfl)) (mvT hZ (ow hw 19 rfl)) (backOf (W := 0) (rm3_1 l Z a0 hw [] G  h0 n0 O0 ) hZ (ow hw 22 rfl) (ow hw 21 rfl) (by decide) (by decide)) q2a q2c (g := (mkF m 1 #[.val (.ref w_RUNNING), .val .null] [(.ref w_RUNNING)])) rfl (by rw [hml]; rfl) (Steps.refl _) (argsL := []) (rest := []) (lenOf pd_1 rfl) rfl (by show 2 * 0 + _ ≤ _; exact Nat.le_of_eq rfl) (hb hby d2_1) (fun _ _ => ⟨rfl, e0, (by decide : 0 + 0 ≤ _), (by decide : 0 + 0 ≤ _)⟩)
  dsimp only [Pt.U, Pt.locs, Pt.cells, Pt.slots] at X2 l2 y2 z2 st2 hQ2
  subst l2 y2 z2
  obtain ⟨rfl, N2q, e2⟩ := hQ2
  have N2 := Fr.app N0 N2q
  refine OGot.on st2 ?_
  show OGot p.tables e below (T2.setTop (mkF m 4 #[.val (.ref w_RUNNING), .val .null] [(.int (1 : Int32))])) _
  refine OGot.go (fun t k => XS.tswIn X2.here hx rfl (pc0 := 4) (pc' := 72) rfl (hb hby d2_4) rfl (by decide) (o := 68) (by decide) (by decide) (by decide) k) ?_
  show OGot p.tables e below (T2.setTop (mkF m 72 #[.val (.ref w_RUNNING), .val .null] [])) _
  refine OGot.go (fun t k => XS.aloadN X2.here hx rfl (hb hby d2_72) rfl rfl k) ?_
  show OGot p.tables e below (T2.setTop (mkF m 73 #[.val (.ref w_RUNNING), .val .null] [.null])) _
  obtain ⟨T3, X3, e3, st3⟩ := getS2 X2 hx hZ hown (host := "") (Or.inl (ow hw 34 rfl)) Via.refl e2 (G.2.2.2.2.2.2.2.2.1.ext O0.2) (g := (mkF m 73 #[.val (.ref w_RUNNING), .val .null] [.null])) rfl (hb hby d2_73)
  refine OGot.go st3 ?_
  show OGot p.tables e below (T3.setTop (mkF m 76 #[.val (.ref w_RUNNING), .val .null] [(.ref w_COMPLETED), .null])) _
  refine OGot.go (fun t k => Jvm.RoadKit.acmp (g := (mkF m 76 #[.val (.ref w_RUNNING), .val .null] [(.ref w_COMPLETED), .null])) X3 hx rfl rfl rfl (pc0 := 76) (pc' := 79) (same := false) rfl (hb hby d2_76) rfl (decide_eq_false nofun) (by decide) (by decide) k) ?_
  show OGot p.tables e below (T3.setTop (mkF m 79 #[.val (.ref w_RUNNING), .val .null] [])) _
  refine OGot.go (fun t k => XS.aloadN X3.here hx rfl (hb hby d2_79) rfl rfl k) ?_
  show OGot p.tables e below (T3.setTop (mkF m 80 #[.val (.ref w_RUNNING), .val .null] [.null])) _
  obtain ⟨T4, X4, e4, st4⟩ := getS2 X3 hx hZ hown (host := "") (Or.inl (ow hw 35 rfl)) Via.refl e3 (G.2.2.1.ext O0.2) (g := (mkF m 80 #[.val (.ref w_RUNNING), .val .null] [.null])) rfl (hb hby d2_80)
  refine OGot.go st4 ?_
  show OGot p.tables e below (T4.setTop (mkF m 83 #[.val (.ref w_RUNNING), .val .null] [(.ref w_FAILED), .null])) _
  refine OGot.go (fun t k => Jvm.RoadKit.acmp (g := (mkF m 83 #[.val (.ref w_RUNNING), .val .null] [(.ref w_FAILED), .null])) X4 hx rfl rfl rfl (pc0 := 83) (pc' := 86) (same := false) rfl (hb hby d2_83) rfl (decide_eq_false nofun) (by decide) (by decide) k) ?_
  show OGot p.tables e below (T4.setTop (mkF m 86 #[.val (.ref w_RUNNING), .val .null] [])) _
  refine OGot.go (fun t k => XS.aloadN X4.here hx rfl (hb hby d2_86) rfl rfl k) ?_
  show OGot p.tables e below (T4.setTop (mkF m 87 #[.val (.ref w_RUNNING), .val .null] [.null])) _
  obtain ⟨T5, X5, e5, st5⟩ := getS2 X4 hx hZ hown (host := "") (Or.inl (ow hw 31 rfl)) Via.refl e4 (G.1.ext O0.2) (g := (mkF m 87 #[.val (.ref w_RUNNING), .val .null] [.null])) rfl (hb hby d2_87)
  refine OGot.go st5 ?_
  show OGot p.tables e below (T5.setTop (mkF m 90 #[.val (.ref w_RUNNING), .val .null] [(.ref w_PENDING), .null])) _
  refine OGot.go (fun t k => Jvm.RoadKit.acmp (g := (mkF m 90 #[.val (.ref w_RUNNING), .val .null] [(.ref w_PENDING), .null])) X5 hx rfl rfl rfl (pc0 := 90) (pc' := 97) (same := false) rfl (hb hby d2_90) rfl (decide_eq_false nofun) (by decide) (by decide) k) ?_
  show OGot p.tables e below (T5.setTop (mkF m 97 #[.val (.ref w_RUNNING), .val .null] [])) _
  refine OGot.go (fun t k => XS.iconst X5.here hx rfl (hb hby d2_97) k) ?_
  show OGot p.tables e below (T5.setTop (mkF m 98 #[.val (.ref w_RUNNING), .val .null] [(.int (0 : Int32))])) _
  refine OGot.go (fun t k => XS.goto X5.here hx rfl (pc0 := 98) (pc' := 117) rfl (hb hby d2_98) (by decide) (by decide) k) ?_
  show OGot p.tables e below (T5.setTop (mkF m 117 #[.val (.ref w_RUNNING), .val .null] [(.int (0 : Int32))])) _
  obtain ⟨fs, hr, hrun, hended, hW, hsame⟩ := X5.leave (v := some (.int (0 : Int32))) (fun h => by rw [Bd.returns] at h; cases h)
  refine ⟨_, _, retN X5 hx (t := .boolean) Bd.returns (by simp) (hb hby d2_117) hr, hrun, hended, _, _, rfl, ?_, ⟨_, rfl⟩, hW, hsame.mono (by decide) (by decide)⟩
  exact (⟨rfl, N2, e5⟩ : Q2_11 Z w_PENDING w_FAILED w_RUNNING w_CANCELLED w_COMPLETED  h0 n0 _ T5.heap _)
def Q3_2 (Z : State) (w_PENDING : Addr) (w_FAILED : Addr) (w_RUNNING : Addr) (w_CANCELLED : Addr) (w_COMPLETED : Addr)  (h0 : Heap) (n0 : Nat) (v : Option Value) (h : Heap) (L : List Loc) : Prop := v = some (.int (2 : Int32)) ∧ Fr n0 L ∧ h = h0
theorem ef3_2 (m : MethodId) (x0 : Addr) : entryFrame m #[(.ref x0)] 1 = mkF m 0 #[.val (.ref x0)] [] := by first | (simp [entryFrame, mkF, argsToLocals, Value.category]; done) | rfl
set_option maxRecDepth 65536 in
set_option maxHeartbeats 40000000 in
theorem rm3_2 (l : Launch) (Z : State) (a0 : Array Value) (hw : ∀ d ∈ tables_1, d.before a0 Z = true) (ws : List Jvm.Cond) {w_PENDING : Addr} {w_FAILED : Addr} {w_RUNNING : Addr} {w_CANCELLED : Addr} {w_COMPLETED : Addr} (G : Glob Z w_PENDING w_FAILED w_RUNNING w_CANCELLED w_COMPLETED)  (h0 : Heap) (n0 : Nat) (O0 : Old Z n0 h0) :
    MetFree l (⟨"java/lang/Enum", "ordinal", "()I"⟩ : MethodName) (head1 (Jvm.Cond.code (⟨"java/lang/Enum", "ordinal", "()I"⟩ : MethodName) jdk_37_method_2_code 1 (some .int) :: ws) ({ frames := 0, cells := 0, slots := 0, locals := 0 } : Room)) (fun a U => a = #[(.ref w_COMPLETED)] ∧ Z.Warmed39 U.vm ∧ U.heap = h0) (fun _ _ _ _ _ => True) (fun _ U o U' => ∃ v L, o = .returned v ∧ Q3_2 Z w_PENDING w_FAILED w_RUNNING w_CANCELLED w_COMPLETED  h0 n0 v U'.heap L ∧ FrameEnd U o U' L ({ frames := 0, cells := 0, slots := 0, locals := 0 } : Room).cells ({ frames := 0, cells := 0, slots := 0, locals := 0 } : Room).slots) := by
  refine MetFree.of_bodySF (plainFor_of_name pn_java_lang_Enum) hisR ?_
  intro p e s m args below meth c s₁ Bd hml0 hP hK
  obtain ⟨rfl, hZ, hh⟩ := hP
  have hx := Bd.exec
  have hby := Bd.bytes
  have hml : c.maxLocals = 1 := hml0
  have hown : s.vm.findClass "java/lang/Enum" = some m.cls := findClass_of_methodNamed Bd.named
  have hnm := (name_of_methodNamed Bd.named Bd.method).1
  have X0 : Stand p l e ({ frames := 0, cells := 0, slots := 0, locals := 0 } : Room) s m #[(.ref w_COMPLETED)] below meth c s₁ [] 0 0 := Stand.of_body Bd
  have e0 : s₁.heap = h0 := by rw [← hh, Bd.state]; rfl
  have N0 := Fr.nil n0
  show OGot p.tables e below (s₁.setTop (entryFrame m #[(.ref w_COMPLETED)] 1)) _
  refine OGot.go (fun t k => castTop (ef3_2 m w_COMPLETED) k) ?_
  show OGot p.tables e below (s₁.setTop (mkF m 0 #[.val (.ref w_COMPLETED)] [])) _
  refine OGot.go (fun t k => XS.aloadN X0.here hx rfl (hb hby d3_0) rfl rfl k) ?_
  show OGot p.tables e below (s₁.setTop (mkF m 1 #[.val (.ref w_COMPLETED)] [(.ref w_COMPLETED)])) _
  obtain ⟨T2, X2, e2, st2⟩ := getF X0 hx hZ hown (host := "") (Or.inl (ow hw 23 rfl)) Via.refl e0 (G.2.2.2.2.2.2.2.2.2.2.2.2.2.2.ext O0.2) (g := (mkF m 1 #[.val (.ref w_COMPLETED)] [(.ref w_COMPLETED)])) rfl rfl (hb hby d3_1)
  refine OGot.go st2 ?_
  show OGot p.tables e below (T2.setTop (mkF m 4 #[.val (.ref w_COMPLETED)] [(.int (2 : Int32))])) _
  obtain ⟨fs, hr, hrun, hended, hW, hsame⟩ := X2.leave (v := some (.int (2 : Int32))) (fun h => by rw [Bd.returns] at h; cases h)
  refine ⟨_, _, retI X2 hx Bd.returns (hb hby d3_4) hr, hrun, hended, _, _, rfl, ?_, ⟨_, rfl⟩, hW, hsame.mono (by decide) (by decide)⟩
  exact (⟨rfl, N0, e2⟩ : Q3_2 Z w_PENDING w_FAILED w_RUNNING w_CANCELLED w_COMPLETED  h0 n0 _ T2.heap _)
theorem d2_116 : decode prog_6_method_5_code 116 = .ok (.iconst 0, 1) := by decide +kernel
def Q2_12 (Z : State) (w_PENDING : Addr) (w_FAILED : Addr) (w_RUNNING : Addr) (w_CANCELLED : Addr) (w_COMPLETED : Addr)  (h0 : Heap) (n0 : Nat) (v : Option Value) (h : Heap) (L : List Loc) : Prop := v = some (.int (0 : Int32)) ∧ Fr n0 L ∧ h = h0
theorem ef2_12 (m : MethodId) (x0 : Addr) (x1 : Addr) : entryFrame m #[(.ref x0), (.ref x1)] 2 = mkF m 0 #[.val (.ref x0), .val (.ref x1)] [] := by first | (simp [entryFrame, mkF, argsToLocals, Value.category]; done) | rfl
set_option maxRecDepth 65536 in
set_option maxHeartbeats 40000000 in
theorem rm2_12 (l : Launch) (Z : State) (a0 : Array Value) (hw : ∀ d ∈ tables_1, d.before a0 Z = true) (ws : List Jvm.Cond) {w_PENDING : Addr} {w_FAILED : Addr} {w_RUNNING : Addr} {w_CANCELLED : Addr} {w_COMPLETED : Addr} (G : Glob Z w_PENDING w_FAILED w_RUNNING w_CANCELLED w_COMPLETED)  (h0 : Heap) (n0 : Nat) (O0 : Old Z n0 h0) :
    MetFree l (⟨"com/example/hermit_crab/hermitcrab/JobState", "canMoveTo", "(Lcom/example/hermit_crab/hermitcrab/JobState;)Z"⟩ : MethodName) (head1 (Jvm.Cond.code (⟨"com/example/hermit_crab/hermitcrab/JobState", "canMoveTo", "(Lcom/example/hermit_crab/hermitcrab/JobState;)Z"⟩ : MethodName) prog_6_method_5_code 2 (some .boolean) :: ws) ({ frames := 1, cells := 0, slots := 0, locals := 12 } : Room)) (fun a U => a = #[(.ref w_COMPLETED), (.ref w_PENDING)] ∧ Z.Warmed39 U.vm ∧ U.heap = h0) (fun _ _ _ _ _ => True) (fun _ U o U' => ∃ v L, o = .returned v ∧ Q2_12 Z w_PENDING w_FAILED w_RUNNING w_CANCELLED w_COMPLETED  h0 n0 v U'.heap L ∧ FrameEnd U o U' L ({ frames := 1, cells := 0, slots := 0, locals := 12 } : Room).cells ({ frames := 1, cells := 0, slots := 0, locals := 12 } : Room).slots) := by
  refine MetFree.of_bodySF (plainFor_of_name pn_com_example_hermit_crab_hermitcrab_JobState) hisR ?_
  intro p e s m args below meth c s₁ Bd hml0 hP hK
  obtain ⟨rfl, hZ, hh⟩ := hP
  have hx := Bd.exec
  have hby := Bd.bytes
  have hml : c.maxLocals = 2 := hml0
  have hown : s.vm.findClass "com/example/hermit_crab/hermitcrab/JobState" = some m.cls := findClass_of_methodNamed Bd.named
  have hnm := (name_of_methodNamed Bd.named Bd.method).1
  have X0 : Stand p l e ({ frames := 1, cells := 0, slots := 0, locals := 12 } : Room) s m #[(.ref w_COMPLETED), (.ref w_PENDING)] below meth c s₁ [] 0 0 := Stand.of_body Bd
  have e0 : s₁.heap = h0 := by rw [← hh, Bd.state]; rfl
  have N0 := Fr.nil n0
  show OGot p.tables e below (s₁.setTop (entryFrame m #[(.ref w_COMPLETED), (.ref w_PENDING)] 2)) _
  refine OGot.go (fun t k => castTop (ef2_12 m w_COMPLETED w_PENDING) k) ?_
  show OGot p.tables e below (s₁.setTop (mkF m 0 #[.val (.ref w_COMPLETED), .val (.ref w_PENDING)] [])) _
  refine OGot.go (fun t k => XS.aloadN X0.here hx rfl (hb hby d2_0) rfl rfl k) ?_
  show OGot p.tables e below (s₁.setTop (mkF m 1 #[.val (.ref w_COMPLETED), .val (.ref w_PENDING)] [(.ref w_COMPLETED)])) _
  obtain ⟨cq3, kq3, q3a, q3b, q3c⟩ := isOf hZ e0 (G.2.2.2.2.2.2.2.2.2.1.ext O0.2)
  obtain ⟨_, _, ⟨T3, L3, k3, n3⟩, -, X3, ⟨Lc3, hQ3, l3, y3, z3⟩, st3⟩ := X0.virtualBackUp hx (x := (⟨"com/example/hermit_crab/hermitcrab/JobState", "ordinal", "()I"⟩ : MethodName)) (y := (⟨"java/lang/Enum", "ordinal", "()I"⟩ : MethodName)) (owner := "java/lang/Enum") hown (mvT hZ (ow hw 16 rfl)) (mvT hZ (ow hw 17 rfl)) (mvT hZ (ow hw 18 rfl)) (by decide) (mvT hZ (ow hw 20 rfl)) (mvT hZ (ow hw 19 rfl)) (backOf (W := 0) (rm3_2 l Z a0 hw [] G  h0 n0 O0 ) hZ (ow hw 22 rfl) (ow hw 21 rfl) (by decide) (by decide)) q3a q3c (g := (mkF m 1 #[.val (.ref w_COMPLETED), .val (.ref w_PENDING)] [(.ref w_COMPLETED)])) rfl (by rw [hml]; rfl) (Steps.refl _) (argsL := []) (rest := []) (lenOf pd_1 rfl) rfl (by show 2 * 0 + _ ≤ _; exact Nat.le_of_eq rfl) (hb hby d2_1) (fun _ _ => ⟨rfl, e0, (by decide : 0 + 0 ≤ _), (by decide : 0 + 0 ≤ _)⟩)
  dsimp only [Pt.U, Pt.locs, Pt.cells, Pt.slots] at X3 l3 y3 z3 st3 hQ3
  subst l3 y3 z3
  obtain ⟨rfl, N3q, e3⟩ := hQ3
  have N3 := Fr.app N0 N3q
  refine OGot.on st3 ?_
  show OGot p.tables e below (T3.setTop (mkF m 4 #[.val (.ref w_COMPLETED), .val (.ref w_PENDING)] [(.int (2 : Int32))])) _
  refine OGot.go (fun t k => XS.tswIn X3.here hx rfl (pc0 := 4) (pc' := 116) rfl (hb hby d2_4) rfl (by decide) (o := 112) (by decide) (by decide) (by decide) k) ?_
  show OGot p.tables e below (T3.setTop (mkF m 116 #[.val (.ref w_COMPLETED), .val (.ref w_PENDING)] [])) _
  refine OGot.go (fun t k => XS.iconst X3.here hx rfl (hb hby d2_116) k) ?_
  show OGot p.tables e below (T3.setTop (mkF m 117 #[.val (.ref w_COMPLETED), .val (.ref w_PENDING)] [(.int (0 : Int32))])) _
  obtain ⟨fs, hr, hrun, hended, hW, hsame⟩ := X3.leave (v := some (.int (0 : Int32))) (fun h => by rw [Bd.returns] at h; cases h)
  refine ⟨_, _, retN X3 hx (t := .boolean) Bd.returns (by simp) (hb hby d2_117) hr, hrun, hended, _, _, rfl, ?_, ⟨_, rfl⟩, hW, hsame.mono (by decide) (by decide)⟩
  exact (⟨rfl, N3, e3⟩ : Q2_12 Z w_PENDING w_FAILED w_RUNNING w_CANCELLED w_COMPLETED  h0 n0 _ T3.heap _)
def Q2_13 (Z : State) (w_PENDING : Addr) (w_FAILED : Addr) (w_RUNNING : Addr) (w_CANCELLED : Addr) (w_COMPLETED : Addr)  (h0 : Heap) (n0 : Nat) (v : Option Value) (h : Heap) (L : List Loc) : Prop := v = some (.int (0 : Int32)) ∧ Fr n0 L ∧ h = h0
theorem ef2_13 (m : MethodId) (x0 : Addr) (x1 : Addr) : entryFrame m #[(.ref x0), (.ref x1)] 2 = mkF m 0 #[.val (.ref x0), .val (.ref x1)] [] := by first | (simp [entryFrame, mkF, argsToLocals, Value.category]; done) | rfl
set_option maxRecDepth 65536 in
set_option maxHeartbeats 40000000 in
theorem rm2_13 (l : Launch) (Z : State) (a0 : Array Value) (hw : ∀ d ∈ tables_1, d.before a0 Z = true) (ws : List Jvm.Cond) {w_PENDING : Addr} {w_FAILED : Addr} {w_RUNNING : Addr} {w_CANCELLED : Addr} {w_COMPLETED : Addr} (G : Glob Z w_PENDING w_FAILED w_RUNNING w_CANCELLED w_COMPLETED)  (h0 : Heap) (n0 : Nat) (O0 : Old Z n0 h0) :
    MetFree l (⟨"com/example/hermit_crab/hermitcrab/JobState", "canMoveTo", "(Lcom/example/hermit_crab/hermitcrab/JobState;)Z"⟩ : MethodName) (head1 (Jvm.Cond.code (⟨"com/example/hermit_crab/hermitcrab/JobState", "canMoveTo", "(Lcom/example/hermit_crab/hermitcrab/JobState;)Z"⟩ : MethodName) prog_6_method_5_code 2 (some .boolean) :: ws) ({ frames := 1, cells := 0, slots := 0, locals := 12 } : Room)) (fun a U => a = #[(.ref w_COMPLETED), (.ref w_RUNNING)] ∧ Z.Warmed39 U.vm ∧ U.heap = h0) (fun _ _ _ _ _ => True) (fun _ U o U' => ∃ v L, o = .returned v ∧ Q2_13 Z w_PENDING w_FAILED w_RUNNING w_CANCELLED w_COMPLETED  h0 n0 v U'.heap L ∧ FrameEnd U o U' L ({ frames := 1, cells := 0, slots := 0, locals := 12 } : Room).cells ({ frames := 1, cells := 0, slots := 0, locals := 12 } : Room).slots) := by
  refine MetFree.of_bodySF (plainFor_of_name pn_com_example_hermit_crab_hermitcrab_JobState) hisR ?_
  intro p e s m args below meth c s₁ Bd hml0 hP hK
  obtain ⟨rfl, hZ, hh⟩ := hP
  have hx := Bd.exec
  have hby := Bd.bytes
  have hml : c.maxLocals = 2 := hml0
  have hown : s.vm.findClass "com/example/hermit_crab/hermitcrab/JobState" = some m.cls := findClass_of_methodNamed Bd.named
  have hnm := (name_of_methodNamed Bd.named Bd.method).1
  have X0 : Stand p l e ({ frames := 1, cells := 0, slots := 0, locals := 12 } : Room) s m #[(.ref w_COMPLETED), (.ref w_RUNNING)] below meth c s₁ [] 0 0 := Stand.of_body Bd
  have e0 : s₁.heap = h0 := by rw [← hh, Bd.state]; rfl
  have N0 := Fr.nil n0
  show OGot p.tables e below (s₁.setTop (entryFrame m #[(.ref w_COMPLETED), (.ref w_RUNNING)] 2)) _
  refine OGot.go (fun t k => castTop (ef2_13 m w_COMPLETED w_RUNNING) k) ?_
  show OGot p.tables e below (s₁.setTop (mkF m 0 #[.val (.ref w_COMPLETED), .val (.ref w_RUNNING)] [])) _
  refine OGot.go (fun t k => XS.aloadN X0.here hx rfl (hb hby d2_0) rfl rfl k) ?_
  show OGot p.tables e below (s₁.setTop (mkF m 1 #[.val (.ref w_COMPLETED), .val (.ref w_RUNNING)] [(.ref w_COMPLETED)])) _
  obtain ⟨cq3, kq3, q3a, q3b, q3c⟩ := isOf hZ e0 (G.2.2.2.2.2.2.2.2.2.1.ext O0.2)
  obtain ⟨_, _, ⟨T3, L3, k3, n3⟩, -, X3, ⟨Lc3, hQ3, l3, y3, z3⟩, st3⟩ := X0.virtualBackUp hx (x := (⟨"com/example/hermit_crab/hermitcrab/JobState", "ordinal", "()I"⟩ : MethodName)) (y := (⟨"java/lang/Enum", "ordinal", "()I"⟩ : MethodName)) (owner := "java/lang/Enum") hown (mvT hZ (ow hw 16 rfl)) (mvT hZ (ow hw 17 rfl)) (mvT hZ (ow hw 18 rfl)) (by decide) (mvT hZ (ow hw 20 rfl)) (mvT hZ (ow hw 19 rfl)) (backOf (W := 0) (rm3_2 l Z a0 hw [] G  h0 n0 O0 ) hZ (ow hw 22 rfl) (ow hw 21 rfl) (by decide) (by decide)) q3a q3c (g := (mkF m 1 #[.val (.ref w_COMPLETED), .val (.ref w_RUNNING)] [(.ref w_COMPLETED)])) rfl (by rw [hml]; rfl) (Steps.refl _) (argsL := []) (rest := []) (lenOf pd_1 rfl) rfl (by show 2 * 0 + _ ≤ _; exact Nat.le_of_eq rfl) (hb hby d2_1) (fun _ _ => ⟨rfl, e0, (by decide : 0 + 0 ≤ _), (by decide : 0 + 0 ≤ _)⟩)
  dsimp only [Pt.U, Pt.locs, Pt.cells, Pt.slots] at X3 l3 y3 z3 st3 hQ3
  subst l3 y3 z3
  obtain ⟨rfl, N3q, e3⟩ := hQ3
  have N3 := Fr.app N0 N3q
  refine OGot.on st3 ?_
  show OGot p.tables e below (T3.setTop (mkF m 4 #[.val (.ref w_COMPLETED), .val (.ref w_RUNNING)] [(.int (2 : Int32))])) _
  refine OGot.go (fun t k => XS.tswIn X3.here hx rfl (pc0 := 4) (pc' := 116) rfl (hb hby d2_4) rfl (by decide) (o := 112) (by decide) (by decide) (by decide) k) ?_
  show OGot p.tables e below (T3.setTop (mkF m 116 #[.val (.ref w_COMPLETED), .val (.ref w_RUNNING)] [])) _
  refine OGot.go (fun t k => XS.iconst X3.here hx rfl (hb hby d2_116) k) ?_
  show OGot p.tables e below (T3.setTop (mkF m 117 #[.val (.ref w_COMPLETED), .val (.ref w_RUNNING)] [(.int (0 : Int32))])) _
  obtain ⟨fs, hr, hrun, hended, hW, hsame⟩ := X3.leave (v := some (.int (0 : Int32))) (fun h => by rw [Bd.returns] at h; cases h)
  refine ⟨_, _, retN X3 hx (t := .boolean) Bd.returns (by simp) (hb hby d2_117) hr, hrun, hended, _, _, rfl, ?_, ⟨_, rfl⟩, hW, hsame.mono (by decide) (by decide)⟩
  exact (⟨rfl, N3, e3⟩ : Q2_13 Z w_PENDING w_FAILED w_RUNNING w_CANCELLED w_COMPLETED  h0 n0 _ T3.heap _)
def Q2_14 (Z : State) (w_PENDING : Addr) (w_FAILED : Addr) (w_RUNNING : Addr) (w_CANCELLED : Addr) (w_COMPLETED : Addr)  (h0 : Heap) (n0 : Nat) (v : Option Value) (h : Heap) (L : List Loc) : Prop := v = some (.int (0 : Int32)) ∧ Fr n0 L ∧ h = h0
theorem ef2_14 (m : MethodId) (x0 : Addr) : entryFrame m #[(.ref x0), (.ref x0)] 2 = mkF m 0 #[.val (.ref x0), .val (.ref x0)] [] := by first | (simp [entryFrame, mkF, argsToLocals, Value.category]; done) | rfl
set_option maxRecDepth 65536 in
set_option maxHeartbeats 40000000 in
theorem rm2_14 (l : Launch) (Z : State) (a0 : Array Value) (hw : ∀ d ∈ tables_1, d.before a0 Z = true) (ws : List Jvm.Cond) {w_PENDING : Addr} {w_FAILED : Addr} {w_RUNNING : Addr} {w_CANCELLED : Addr} {w_COMPLETED : Addr} (G : Glob Z w_PENDING w_FAILED w_RUNNING w_CANCELLED w_COMPLETED)  (h0 : Heap) (n0 : Nat) (O0 : Old Z n0 h0) :
    MetFree l (⟨"com/example/hermit_crab/hermitcrab/JobState", "canMoveTo", "(Lcom/example/hermit_crab/hermitcrab/JobState;)Z"⟩ : MethodName) (head1 (Jvm.Cond.code (⟨"com/example/hermit_crab/hermitcrab/JobState", "canMoveTo", "(Lcom/example/hermit_crab/hermitcrab/JobState;)Z"⟩ : MethodName) prog_6_method_5_code 2 (some .boolean) :: ws) ({ frames := 1, cells := 0, slots := 0, locals := 12 } : Room)) (fun a U => a = #[(.ref w_COMPLETED), (.ref w_COMPLETED)] ∧ Z.Warmed39 U.vm ∧ U.heap = h0) (fun _ _ _ _ _ => True) (fun _ U o U' => ∃ v L, o = .returned v ∧ Q2_14 Z w_PENDING w_FAILED w_RUNNING w_CANCELLED w_COMPLETED  h0 n0 v U'.heap L ∧ FrameEnd U o U' L ({ frames := 1, cells := 0, slots := 0, locals := 12 } : Room).cells ({ frames := 1, cells := 0, slots := 0, locals := 12 } : Room).slots) := by
  refine MetFree.of_bodySF (plainFor_of_name pn_com_example_hermit_crab_hermitcrab_JobState) hisR ?_
  intro p e s m args below meth c s₁ Bd hml0 hP hK
  obtain ⟨rfl, hZ, hh⟩ := hP
  have hx := Bd.exec
  have hby := Bd.bytes
  have hml : c.maxLocals = 2 := hml0
  have hown : s.vm.findClass "com/example/hermit_crab/hermitcrab/JobState" = some m.cls := findClass_of_methodNamed Bd.named
  have hnm := (name_of_methodNamed Bd.named Bd.method).1
  have X0 : Stand p l e ({ frames := 1, cells := 0, slots := 0, locals := 12 } : Room) s m #[(.ref w_COMPLETED), (.ref w_COMPLETED)] below meth c s₁ [] 0 0 := Stand.of_body Bd
  have e0 : s₁.heap = h0 := by rw [← hh, Bd.state]; rfl
  have N0 := Fr.nil n0
  show OGot p.tables e below (s₁.setTop (entryFrame m #[(.ref w_COMPLETED), (.ref w_COMPLETED)] 2)) _
  refine OGot.go (fun t k => castTop (ef2_14 m w_COMPLETED) k) ?_
  show OGot p.tables e below (s₁.setTop (mkF m 0 #[.val (.ref w_COMPLETED), .val (.ref w_COMPLETED)] [])) _
  refine OGot.go (fun t k => XS.aloadN X0.here hx rfl (hb hby d2_0) rfl rfl k) ?_
  show OGot p.tables e below (s₁.setTop (mkF m 1 #[.val (.ref w_COMPLETED), .val (.ref w_COMPLETED)] [(.ref w_COMPLETED)])) _
  obtain ⟨cq2, kq2, q2a, q2b, q2c⟩ := isOf hZ e0 (G.2.2.2.2.2.2.2.2.2.1.ext O0.2)
  obtain ⟨_, _, ⟨T2, L2, k2, n2⟩, -, X2, ⟨Lc2, hQ2, l2, y2, z2⟩, st2⟩ := X0.virtualBackUp hx (x := (⟨"com/example/hermit_crab/hermitcrab/JobState", "ordinal", "()I"⟩ : MethodName)) (y := (⟨"java/lang/Enum", "ordinal", "()I"⟩ : MethodName)) (owner := "java/lang/Enum") hown (mvT hZ (ow hw 16 rfl)) (mvT hZ (ow hw 17 rfl)) (mvT hZ (ow hw 18 rfl)) (by decide) (mvT hZ (ow hw 20 rfl)) (mvT hZ (ow hw 19 rfl)) (backOf (W := 0) (rm3_2 l Z a0 hw [] G  h0 n0 O0 ) hZ (ow hw 22 rfl) (ow hw 21 rfl) (by decide) (by decide)) q2a q2c (g := (mkF m 1 #[.val (.ref w_COMPLETED), .val (.ref w_COMPLETED)] [(.ref w_COMPLETED)])) rfl (by rw [hml]; rfl) (Steps.refl _) (argsL := []) (rest := []) (lenOf pd_1 rfl) rfl (by show 2 * 0 + _ ≤ _; exact Nat.le_of_eq rfl) (hb hby d2_1) (fun _ _ => ⟨rfl, e0, (by decide : 0 + 0 ≤ _), (by decide : 0 + 0 ≤ _)⟩)
  dsimp only [Pt.U, Pt.locs, Pt.cells, Pt.slots] at X2 l2 y2 z2 st2 hQ2
  subst l2 y2 z2
  obtain ⟨rfl, N2q, e2⟩ := hQ2
  have N2 := Fr.app N0 N2q
  refine OGot.on st2 ?_
  show OGot p.tables e below (T2.setTop (mkF m 4 #[.val (.ref w_COMPLETED), .val (.ref w_COMPLETED)] [(.int (2 : Int32))])) _
  refine OGot.go (fun t k => XS.tswIn X2.here hx rfl (pc0 := 4) (pc' := 116) rfl (hb hby d2_4) rfl (by decide) (o := 112) (by decide) (by decide) (by decide) k) ?_
  show OGot p.tables e below (T2.setTop (mkF m 116 #[.val (.ref w_COMPLETED), .val (.ref w_COMPLETED)] [])) _
  refine OGot.go (fun t k => XS.iconst X2.here hx rfl (hb hby d2_116) k) ?_
  show OGot p.tables e below (T2.setTop (mkF m 117 #[.val (.ref w_COMPLETED), .val (.ref w_COMPLETED)] [(.int (0 : Int32))])) _
  obtain ⟨fs, hr, hrun, hended, hW, hsame⟩ := X2.leave (v := some (.int (0 : Int32))) (fun h => by rw [Bd.returns] at h; cases h)
  refine ⟨_, _, retN X2 hx (t := .boolean) Bd.returns (by simp) (hb hby d2_117) hr, hrun, hended, _, _, rfl, ?_, ⟨_, rfl⟩, hW, hsame.mono (by decide) (by decide)⟩
  exact (⟨rfl, N2, e2⟩ : Q2_14 Z w_PENDING w_FAILED w_RUNNING w_CANCELLED w_COMPLETED  h0 n0 _ T2.heap _)
def Q2_15 (Z : State) (w_PENDING : Addr) (w_FAILED : Addr) (w_RUNNING : Addr) (w_CANCELLED : Addr) (w_COMPLETED : Addr)  (h0 : Heap) (n0 : Nat) (v : Option Value) (h : Heap) (L : List Loc) : Prop := v = some (.int (0 : Int32)) ∧ Fr n0 L ∧ h = h0
theorem ef2_15 (m : MethodId) (x0 : Addr) (x1 : Addr) : entryFrame m #[(.ref x0), (.ref x1)] 2 = mkF m 0 #[.val (.ref x0), .val (.ref x1)] [] := by first | (simp [entryFrame, mkF, argsToLocals, Value.category]; done) | rfl
set_option maxRecDepth 65536 in
set_option maxHeartbeats 40000000 in
theorem rm2_15 (l : Launch) (Z : State) (a0 : Array Value) (hw : ∀ d ∈ tables_1, d.before a0 Z = true) (ws : List Jvm.Cond) {w_PENDING : Addr} {w_FAILED : Addr} {w_RUNNING : Addr} {w_CANCELLED : Addr} {w_COMPLETED : Addr} (G : Glob Z w_PENDING w_FAILED w_RUNNING w_CANCELLED w_COMPLETED)  (h0 : Heap) (n0 : Nat) (O0 : Old Z n0 h0) :
    MetFree l (⟨"com/example/hermit_crab/hermitcrab/JobState", "canMoveTo", "(Lcom/example/hermit_crab/hermitcrab/JobState;)Z"⟩ : MethodName) (head1 (Jvm.Cond.code (⟨"com/example/hermit_crab/hermitcrab/JobState", "canMoveTo", "(Lcom/example/hermit_crab/hermitcrab/JobState;)Z"⟩ : MethodName) prog_6_method_5_code 2 (some .boolean) :: ws) ({ frames := 1, cells := 0, slots := 0, locals := 12 } : Room)) (fun a U => a = #[(.ref w_COMPLETED), (.ref w_FAILED)] ∧ Z.Warmed39 U.vm ∧ U.heap = h0) (fun _ _ _ _ _ => True) (fun _ U o U' => ∃ v L, o = .returned v ∧ Q2_15 Z w_PENDING w_FAILED w_RUNNING w_CANCELLED w_COMPLETED  h0 n0 v U'.heap L ∧ FrameEnd U o U' L ({ frames := 1, cells := 0, slots := 0, locals := 12 } : Room).cells ({ frames := 1, cells := 0, slots := 0, locals := 12 } : Room).slots) := by
  refine MetFree.of_bodySF (plainFor_of_name pn_com_example_hermit_crab_hermitcrab_JobState) hisR ?_
  intro p e s m args below meth c s₁ Bd hml0 hP hK
  obtain ⟨rfl, hZ, hh⟩ := hP
  have hx := Bd.exec
  have hby := Bd.bytes
  have hml : c.maxLocals = 2 := hml0
  have hown : s.vm.findClass "com/example/hermit_crab/hermitcrab/JobState" = some m.cls := findClass_of_methodNamed Bd.named
  have hnm := (name_of_methodNamed Bd.named Bd.method).1
  have X0 : Stand p l e ({ frames := 1, cells := 0, slots := 0, locals := 12 } : Room) s m #[(.ref w_COMPLETED), (.ref w_FAILED)] below meth c s₁ [] 0 0 := Stand.of_body Bd
  have e0 : s₁.heap = h0 := by rw [← hh, Bd.state]; rfl
  have N0 := Fr.nil n0
  show OGot p.tables e below (s₁.setTop (entryFrame m #[(.ref w_COMPLETED), (.ref w_FAILED)] 2)) _
  refine OGot.go (fun t k => castTop (ef2_15 m w_COMPLETED w_FAILED) k) ?_
  show OGot p.tables e below (s₁.setTop (mkF m 0 #[.val (.ref w_COMPLETED), .val (.ref w_FAILED)] [])) _
  refine OGot.go (fun t k => XS.aloadN X0.here hx rfl (hb hby d2_0) rfl rfl k) ?_
  show OGot p.tables e below (s₁.setTop (mkF m 1 #[.val (.ref w_COMPLETED), .val (.ref w_FAILED)] [(.ref w_COMPLETED)])) _
  obtain ⟨cq3, kq3, q3a, q3b, q3c⟩ := isOf hZ e0 (G.2.2.2.2.2.2.2.2.2.1.ext O0.2)
  obtain ⟨_, _, ⟨T3, L3, k3, n3⟩, -, X3, ⟨Lc3, hQ3, l3, y3, z3⟩, st3⟩ := X0.virtualBackUp hx (x := (⟨"com/example/hermit_crab/hermitcrab/JobState", "ordinal", "()I"⟩ : MethodName)) (y := (⟨"java/lang/Enum", "ordinal", "()I"⟩ : MethodName)) (owner := "java/lang/Enum") hown (mvT hZ (ow hw 16 rfl)) (mvT hZ (ow hw 17 rfl)) (mvT hZ (ow hw 18 rfl)) (by decide) (mvT hZ (ow hw 20 rfl)) (mvT hZ (ow hw 19 rfl)) (backOf (W := 0) (rm3_2 l Z a0 hw [] G  h0 n0 O0 ) hZ (ow hw 22 rfl) (ow hw 21 rfl) (by decide) (by decide)) q3a q3c (g := (mkF m 1 #[.val (.ref w_COMPLETED), .val (.ref w_FAILED)] [(.ref w_COMPLETED)])) rfl (by rw [hml]; rfl) (Steps.refl _) (argsL := []) (rest := []) (lenOf pd_1 rfl) rfl (by show 2 * 0 + _ ≤ _; exact Nat.le_of_eq rfl) (hb hby d2_1) (fun _ _ => ⟨rfl, e0, (by decide : 0 + 0 ≤ _), (by decide : 0 + 0 ≤ _)⟩)
  dsimp only [Pt.U, Pt.locs, Pt.cells, Pt.slots] at X3 l3 y3 z3 st3 hQ3
  subst l3 y3 z3
  obtain ⟨rfl, N3q, e3⟩ := hQ3
  have N3 := Fr.app N0 N3q
  refine OGot.on st3 ?_
  show OGot p.tables e below (T3.setTop (mkF m 4 #[.val (.ref w_COMPLETED), .val (.ref w_FAILED)] [(.int (2 : Int32))])) _
  refine OGot.go (fun t k => XS.tswIn X3.here hx rfl (pc0 := 4) (pc' := 116) rfl (hb hby d2_4) rfl (by decide) (o := 112) (by decide) (by decide) (by decide) k) ?_
  show OGot p.tables e below (T3.setTop (mkF m 116 #[.val (.ref w_COMPLETED), .val (.ref w_FAILED)] [])) _
  refine OGot.go (fun t k => XS.iconst X3.here hx rfl (hb hby d2_116) k) ?_
  show OGot p.tables e below (T3.setTop (mkF m 117 #[.val (.ref w_COMPLETED), .val (.ref w_FAILED)] [(.int (0 : Int32))])) _
  obtain ⟨fs, hr, hrun, hended, hW, hsame⟩ := X3.leave (v := some (.int (0 : Int32))) (fun h => by rw [Bd.returns] at h; cases h)
  refine ⟨_, _, retN X3 hx (t := .boolean) Bd.returns (by simp) (hb hby d2_117) hr, hrun, hended, _, _, rfl, ?_, ⟨_, rfl⟩, hW, hsame.mono (by decide) (by decide)⟩
  exact (⟨rfl, N3, e3⟩ : Q2_15 Z w_PENDING w_FAILED w_RUNNING w_CANCELLED w_COMPLETED  h0 n0 _ T3.heap _)
def Q2_16 (Z : State) (w_PENDING : Addr) (w_FAILED : Addr) (w_RUNNING : Addr) (w_CANCELLED : Addr) (w_COMPLETED : Addr)  (h0 : Heap) (n0 : Nat) (v : Option Value) (h : Heap) (L : List Loc) : Prop := v = some (.int (0 : Int32)) ∧ Fr n0 L ∧ h = h0
theorem ef2_16 (m : MethodId) (x0 : Addr) (x1 : Addr) : entryFrame m #[(.ref x0), (.ref x1)] 2 = mkF m 0 #[.val (.ref x0), .val (.ref x1)] [] := by first | (simp [entryFrame, mkF, argsToLocals, Value.category]; done) | rfl
set_option maxRecDepth 65536 in
set_option maxHeartbeats 40000000 in
theorem rm2_16 (l : Launch) (Z : State) (a0 : Array Value) (hw : ∀ d ∈ tables_1, d.before a0 Z = true) (ws : List Jvm.Cond) {w_PENDING : Addr} {w_FAILED : Addr} {w_RUNNING : Addr} {w_CANCELLED : Addr} {w_COMPLETED : Addr} (G : Glob Z w_PENDING w_FAILED w_RUNNING w_CANCELLED w_COMPLETED)  (h0 : Heap) (n0 : Nat) (O0 : Old Z n0 h0) :
    MetFree l (⟨"com/example/hermit_crab/hermitcrab/JobState", "canMoveTo", "(Lcom/example/hermit_crab/hermitcrab/JobState;)Z"⟩ : MethodName) (head1 (Jvm.Cond.code (⟨"com/example/hermit_crab/hermitcrab/JobState", "canMoveTo", "(Lcom/example/hermit_crab/hermitcrab/JobState;)Z"⟩ : MethodName) prog_6_method_5_code 2 (some .boolean) :: ws) ({ frames := 1, cells := 0, slots := 0, locals := 12 } : Room)) (fun a U => a = #[(.ref w_COMPLETED), (.ref w_CANCELLED)] ∧ Z.Warmed39 U.vm ∧ U.heap = h0) (fun _ _ _ _ _ => True) (fun _ U o U' => ∃ v L, o = .returned v ∧ Q2_16 Z w_PENDING w_FAILED w_RUNNING w_CANCELLED w_COMPLETED  h0 n0 v U'.heap L ∧ FrameEnd U o U' L ({ frames := 1, cells := 0, slots := 0, locals := 12 } : Room).cells ({ frames := 1, cells := 0, slots := 0, locals := 12 } : Room).slots) := by
  refine MetFree.of_bodySF (plainFor_of_name pn_com_example_hermit_crab_hermitcrab_JobState) hisR ?_
  intro p e s m args below meth c s₁ Bd hml0 hP hK
  obtain ⟨rfl, hZ, hh⟩ := hP
  have hx := Bd.exec
  have hby := Bd.bytes
  have hml : c.maxLocals = 2 := hml0
  have hown : s.vm.findClass "com/example/hermit_crab/hermitcrab/JobState" = some m.cls := findClass_of_methodNamed Bd.named
  have hnm := (name_of_methodNamed Bd.named Bd.method).1
  have X0 : Stand p l e ({ frames := 1, cells := 0, slots := 0, locals := 12 } : Room) s m #[(.ref w_COMPLETED), (.ref w_CANCELLED)] below meth c s₁ [] 0 0 := Stand.of_body Bd
  have e0 : s₁.heap = h0 := by rw [← hh, Bd.state]; rfl
  have N0 := Fr.nil n0
  show OGot p.tables e below (s₁.setTop (entryFrame m #[(.ref w_COMPLETED), (.ref w_CANCELLED)] 2)) _
  refine OGot.go (fun t k => castTop (ef2_16 m w_COMPLETED w_CANCELLED) k) ?_
  show OGot p.tables e below (s₁.setTop (mkF m 0 #[.val (.ref w_COMPLETED), .val (.ref w_CANCELLED)] [])) _
  refine OGot.go (fun t k => XS.aloadN X0.here hx rfl (hb hby d2_0) rfl rfl k) ?_
  show OGot p.tables e below (s₁.setTop (mkF m 1 #[.val (.ref w_COMPLETED), .val (.ref w_CANCELLED)] [(.ref w_COMPLETED)])) _
  obtain ⟨cq3, kq3, q3a, q3b, q3c⟩ := isOf hZ e0 (G.2.2.2.2.2.2.2.2.2.1.ext O0.2)
  obtain ⟨_, _, ⟨T3, L3, k3, n3⟩, -, X3, ⟨Lc3, hQ3, l3, y3, z3⟩, st3⟩ := X0.virtualBackUp hx (x := (⟨"com/example/hermit_crab/hermitcrab/JobState", "ordinal", "()I"⟩ : MethodName)) (y := (⟨"java/lang/Enum", "ordinal", "()I"⟩ : MethodName)) (owner := "java/lang/Enum") hown (mvT hZ (ow hw 16 rfl)) (mvT hZ (ow hw 17 rfl)) (mvT hZ (ow hw 18 rfl)) (by decide) (mvT hZ (ow hw 20 rfl)) (mvT hZ (ow hw 19 rfl)) (backOf (W := 0) (rm3_2 l Z a0 hw [] G  h0 n0 O0 ) hZ (ow hw 22 rfl) (ow hw 21 rfl) (by decide) (by decide)) q3a q3c (g := (mkF m 1 #[.val (.ref w_COMPLETED), .val (.ref w_CANCELLED)] [(.ref w_COMPLETED)])) rfl (by rw [hml]; rfl) (Steps.refl _) (argsL := []) (rest := []) (lenOf pd_1 rfl) rfl (by show 2 * 0 + _ ≤ _; exact Nat.le_of_eq rfl) (hb hby d2_1) (fun _ _ => ⟨rfl, e0, (by decide : 0 + 0 ≤ _), (by decide : 0 + 0 ≤ _)⟩)
  dsimp only [Pt.U, Pt.locs, Pt.cells, Pt.slots] at X3 l3 y3 z3 st3 hQ3
  subst l3 y3 z3
  obtain ⟨rfl, N3q, e3⟩ := hQ3
  have N3 := Fr.app N0 N3q
  refine OGot.on st3 ?_
  show OGot p.tables e below (T3.setTop (mkF m 4 #[.val (.ref w_COMPLETED), .val (.ref w_CANCELLED)] [(.int (2 : Int32))])) _
  refine OGot.go (fun t k => XS.tswIn X3.here hx rfl (pc0 := 4) (pc' := 116) rfl (hb hby d2_4) rfl (by decide) (o := 112) (by decide) (by decide) (by decide) k) ?_
  show OGot p.tables e below (T3.setTop (mkF m 116 #[.val (.ref w_COMPLETED), .val (.ref w_CANCELLED)] [])) _
  refine OGot.go (fun t k => XS.iconst X3.here hx rfl (hb hby d2_116) k) ?_
  show OGot p.tables e below (T3.setTop (mkF m 117 #[.val (.ref w_COMPLETED), .val (.ref w_CANCELLED)] [(.int (0 : Int32))])) _
  obtain ⟨fs, hr, hrun, hended, hW, hsame⟩ := X3.leave (v := some (.int (0 : Int32))) (fun h => by rw [Bd.returns] at h; cases h)
  refine ⟨_, _, retN X3 hx (t := .boolean) Bd.returns (by simp) (hb hby d2_117) hr, hrun, hended, _, _, rfl, ?_, ⟨_, rfl⟩, hW, hsame.mono (by decide) (by decide)⟩
  exact (⟨rfl, N3, e3⟩ : Q2_16 Z w_PENDING w_FAILED w_RUNNING w_CANCELLED w_COMPLETED  h0 n0 _ T3.heap _)
def Q2_17 (Z : State) (w_PENDING : Addr) (w_FAILED : Addr) (w_RUNNING : Addr) (w_CANCELLED : Addr) (w_COMPLETED : Addr)  (h0 : Heap) (n0 : Nat) (v : Option Value) (h : Heap) (L : List Loc) : Prop := v = some (.int (0 : Int32)) ∧ Fr n0 L ∧ h = h0
theorem ef2_17 (m : MethodId) (x0 : Addr) : entryFrame m #[(.ref x0), .null] 2 = mkF m 0 #[.val (.ref x0), .val .null] [] := by first | (simp [entryFrame, mkF, argsToLocals, Value.category]; done) | rfl
set_option maxRecDepth 65536 in
set_option maxHeartbeats 40000000 in
theorem rm2_17 (l : Launch) (Z : State) (a0 : Array Value) (hw : ∀ d ∈ tables_1, d.before a0 Z = true) (ws : List Jvm.Cond) {w_PENDING : Addr} {w_FAILED : Addr} {w_RUNNING : Addr} {w_CANCELLED : Addr} {w_COMPLETED : Addr} (G : Glob Z w_PENDING w_FAILED w_RUNNING w_CANCELLED w_COMPLETED)  (h0 : Heap) (n0 : Nat) (O0 : Old Z n0 h0) :
    MetFree l (⟨"com/example/hermit_crab/hermitcrab/JobState", "canMoveTo", "(Lcom/example/hermit_crab/hermitcrab/JobState;)Z"⟩ : MethodName) (head1 (Jvm.Cond.code (⟨"com/example/hermit_crab/hermitcrab/JobState", "canMoveTo", "(Lcom/example/hermit_crab/hermitcrab/JobState;)Z"⟩ : MethodName) prog_6_method_5_code 2 (some .boolean) :: ws) ({ frames := 1, cells := 0, slots := 0, locals := 12 } : Room)) (fun a U => a = #[(.ref w_COMPLETED), .null] ∧ Z.Warmed39 U.vm ∧ U.heap = h0) (fun _ _ _ _ _ => True) (fun _ U o U' => ∃ v L, o = .returned v ∧ Q2_17 Z w_PENDING w_FAILED w_RUNNING w_CANCELLED w_COMPLETED  h0 n0 v U'.heap L ∧ FrameEnd U o U' L ({ frames := 1, cells := 0, slots := 0, locals := 12 } : Room).cells ({ frames := 1, cells := 0, slots := 0, locals := 12 } : Room).slots) := by
  refine MetFree.of_bodySF (plainFor_of_name pn_com_example_hermit_crab_hermitcrab_JobState) hisR ?_
  intro p e s m args below meth c s₁ Bd hml0 hP hK
  obtain ⟨rfl, hZ, hh⟩ := hP
  have hx := Bd.exec
  have hby := Bd.bytes
  have hml : c.maxLocals = 2 := hml0
  have hown : s.vm.findClass "com/example/hermit_crab/hermitcrab/JobState" = some m.cls := findClass_of_methodNamed Bd.named
  have hnm := (name_of_methodNamed Bd.named Bd.method).1
  have X0 : Stand p l e ({ frames := 1, cells := 0, slots := 0, locals := 12 } : Room) s m #[(.ref w_COMPLETED), .null] below meth c s₁ [] 0 0 := Stand.of_body Bd
  have e0 : s₁.heap = h0 := by rw [← hh, Bd.state]; rfl
  have N0 := Fr.nil n0
  show OGot p.tables e below (s₁.setTop (entryFrame m #[(.ref w_COMPLETED), .null] 2)) _
  refine OGot.go (fun t k => castTop (ef2_17 m w_COMPLETED) k) ?_
  show OGot p.tables e below (s₁.setTop (mkF m 0 #[.val (.ref w_COMPLETED), .val .null] [])) _
  refine OGot.go (fun t k => XS.aloadN X0.here hx rfl (hb hby d2_0) rfl rfl k) ?_
  show OGot p.tables e below (s₁.setTop (mkF m 1 #[.val (.ref w_COMPLETED), .val .null] [(.ref w_COMPLETED)])) _
  obtain ⟨cq2, kq2, q2a, q2b, q2c⟩ := isOf hZ e0 (G.2.2.2.2.2.2.2.2.2.1.ext O0.2)
  obtain ⟨_, _, ⟨T2, L2, k2, n2⟩, -, X2, ⟨Lc2, hQ2, l2, y2, z2⟩, st2⟩ := X0.virtualBackUp hx (x := (⟨"com/example/hermit_crab/hermitcrab/JobState", "ordinal", "()I"⟩ : MethodName)) (y := (⟨"java/lang/Enum", "ordinal", "()I"⟩ : MethodName)) (owner := "java/lang/Enum") hown (mvT hZ (ow hw 16 rfl)) (mvT hZ (ow hw 17 rfl)) (mvT hZ (ow hw 18 rfl)) (by decide) (mvT hZ (ow hw 20 rfl)) (mvT hZ (ow hw 19 rfl)) (backOf (W := 0) (rm3_2 l Z a0 hw [] G  h0 n0 O0 ) hZ (ow hw 22 rfl) (ow hw 21 rfl) (by decide) (by decide)) q2a q2c (g := (mkF m 1 #[.val (.ref w_COMPLETED), .val .null] [(.ref w_COMPLETED)])) rfl (by rw [hml]; rfl) (Steps.refl _) (argsL := []) (rest := []) (lenOf pd_1 rfl) rfl (by show 2 * 0 + _ ≤ _; exact Nat.le_of_eq rfl) (hb hby d2_1) (fun _ _ => ⟨rfl, e0, (by decide : 0 + 0 ≤ _), (by decide : 0 + 0 ≤ _)⟩)
  dsimp only [Pt.U, Pt.locs, Pt.cells, Pt.slots] at X2 l2 y2 z2 st2 hQ2
  subst l2 y2 z2
  obtain ⟨rfl, N2q, e2⟩ := hQ2
  have N2 := Fr.app N0 N2q
  refine OGot.on st2 ?_
  show OGot p.tables e below (T2.setTop (mkF m 4 #[.val (.ref w_COMPLETED), .val .null] [(.int (2 : Int32))])) _
  refine OGot.go (fun t k => XS.tswIn X2.here hx rfl (pc0 := 4) (pc' := 116) rfl (hb hby d2_4) rfl (by decide) (o := 112) (by decide) (by decide) (by decide) k) ?_
  show OGot p.tables e below (T2.setTop (mkF m 116 #[.val (.ref w_COMPLETED), .val .null] [])) _
  refine OGot.go (fun t k => XS.iconst X2.here hx rfl (hb hby d2_116) k) ?_
  show OGot p.tables e below (T2.setTop (mkF m 117 #[.val (.ref w_COMPLETED), .val .null] [(.int (0 : Int32))])) _
  obtain ⟨fs, hr, hrun, hended, hW, hsame⟩ := X2.leave (v := some (.int (0 : Int32))) (fun h => by rw [Bd.returns] at h; cases h)
  refine ⟨_, _, retN X2 hx (t := .boolean) Bd.returns (by simp) (hb hby d2_117) hr, hrun, hended, _, _, rfl, ?_, ⟨_, rfl⟩, hW, hsame.mono (by decide) (by decide)⟩
  exact (⟨rfl, N2, e2⟩ : Q2_17 Z w_PENDING w_FAILED w_RUNNING w_CANCELLED w_COMPLETED  h0 n0 _ T2.heap _)
def Q3_3 (Z : State) (w_PENDING : Addr) (w_FAILED : Addr) (w_RUNNING : Addr) (w_CANCELLED : Addr) (w_COMPLETED : Addr)  (h0 : Heap) (n0 : Nat) (v : Option Value) (h : Heap) (L : List Loc) : Prop := v = some (.int (3 : Int32)) ∧ Fr n0 L ∧ h = h0
theorem ef3_3 (m : MethodId) (x0 : Addr) : entryFrame m #[(.ref x0)] 1 = mkF m 0 #[.val (.ref x0)] [] := by first | (simp [entryFrame, mkF, argsToLocals, Value.category]; done) | rfl
set_option maxRecDepth 65536 in
set_option maxHeartbeats 40000000 in
theorem rm3_3 (l : Launch) (Z : State) (a0 : Array Value) (hw : ∀ d ∈ tables_1, d.before a0 Z = true) (ws : List Jvm.Cond) {w_PENDING : Addr} {w_FAILED : Addr} {w_RUNNING : Addr} {w_CANCELLED : Addr} {w_COMPLETED : Addr} (G : Glob Z w_PENDING w_FAILED w_RUNNING w_CANCELLED w_COMPLETED)  (h0 : Heap) (n0 : Nat) (O0 : Old Z n0 h0) :
    MetFree l (⟨"java/lang/Enum", "ordinal", "()I"⟩ : MethodName) (head1 (Jvm.Cond.code (⟨"java/lang/Enum", "ordinal", "()I"⟩ : MethodName) jdk_37_method_2_code 1 (some .int) :: ws) ({ frames := 0, cells := 0, slots := 0, locals := 0 } : Room)) (fun a U => a = #[(.ref w_FAILED)] ∧ Z.Warmed39 U.vm ∧ U.heap = h0) (fun _ _ _ _ _ => True) (fun _ U o U' => ∃ v L, o = .returned v ∧ Q3_3 Z w_PENDING w_FAILED w_RUNNING w_CANCELLED w_COMPLETED  h0 n0 v U'.heap L ∧ FrameEnd U o U' L ({ frames := 0, cells := 0, slots := 0, locals := 0 } : Room).cells ({ frames := 0, cells := 0, slots := 0, locals := 0 } : Room).slots) := by
  refine MetFree.of_bodySF (plainFor_of_name pn_java_lang_Enum) hisR ?_
  intro p e s m args below meth c s₁ Bd hml0 hP hK
  obtain ⟨rfl, hZ, hh⟩ := hP
  have hx := Bd.exec
  have hby := Bd.bytes
  have hml : c.maxLocals = 1 := hml0
  have hown : s.vm.findClass "java/lang/Enum" = some m.cls := findClass_of_methodNamed Bd.named
  have hnm := (name_of_methodNamed Bd.named Bd.method).1
  have X0 : Stand p l e ({ frames := 0, cells := 0, slots := 0, locals := 0 } : Room) s m #[(.ref w_FAILED)] below meth c s₁ [] 0 0 := Stand.of_body Bd
  have e0 : s₁.heap = h0 := by rw [← hh, Bd.state]; rfl
  have N0 := Fr.nil n0
  show OGot p.tables e below (s₁.setTop (entryFrame m #[(.ref w_FAILED)] 1)) _
  refine OGot.go (fun t k => castTop (ef3_3 m w_FAILED) k) ?_
  show OGot p.tables e below (s₁.setTop (mkF m 0 #[.val (.ref w_FAILED)] [])) _
  refine OGot.go (fun t k => XS.aloadN X0.here hx rfl (hb hby d3_0) rfl rfl k) ?_
  show OGot p.tables e below (s₁.setTop (mkF m 1 #[.val (.ref w_FAILED)] [(.ref w_FAILED)])) _
  obtain ⟨T2, X2, e2, st2⟩ := getF X0 hx hZ hown (host := "") (Or.inl (ow hw 23 rfl)) Via.refl e0 (G.2.2.2.2.2.2.2.2.2.2.2.1.ext O0.2) (g := (mkF m 1 #[.val (.ref w_FAILED)] [(.ref w_FAILED)])) rfl rfl (hb hby d3_1)
  refine OGot.go st2 ?_
  show OGot p.tables e below (T2.setTop (mkF m 4 #[.val (.ref w_FAILED)] [(.int (3 : Int32))])) _
  obtain ⟨fs, hr, hrun, hended, hW, hsame⟩ := X2.leave (v := some (.int (3 : Int32))) (fun h => by rw [Bd.returns] at h; cases h)
  refine ⟨_, _, retI X2 hx Bd.returns (hb hby d3_4) hr, hrun, hended, _, _, rfl, ?_, ⟨_, rfl⟩, hW, hsame.mono (by decide) (by decide)⟩
  exact (⟨rfl, N0, e2⟩ : Q3_3 Z w_PENDING w_FAILED w_RUNNING w_CANCELLED w_COMPLETED  h0 n0 _ T2.heap _)
theorem d2_101 : decode prog_6_method_5_code 101 = .ok (.aload_n 1, 1) := by decide +kernel
theorem d2_102 : decode prog_6_method_5_code 102 = .ok (.getstatic 3, 3) := by decide +kernel
theorem d2_105 : decode prog_6_method_5_code 105 = .ok (.if_acmp .ne 7, 3) := by decide +kernel
theorem d2_108 : decode prog_6_method_5_code 108 = .ok (.iconst 1, 1) := by decide +kernel
theorem d2_109 : decode prog_6_method_5_code 109 = .ok (.goto 8, 3) := by decide +kernel
def Q2_18 (Z : State) (w_PENDING : Addr) (w_FAILED : Addr) (w_RUNNING : Addr) (w_CANCELLED : Addr) (w_COMPLETED : Addr)  (h0 : Heap) (n0 : Nat) (v : Option Value) (h : Heap) (L : List Loc) : Prop := v = some (.int (1 : Int32)) ∧ Fr n0 L ∧ h = h0
theorem ef2_18 (m : MethodId) (x0 : Addr) (x1 : Addr) : entryFrame m #[(.ref x0), (.ref x1)] 2 = mkF m 0 #[.val (.ref x0), .val (.ref x1)] [] := by first | (simp [entryFrame, mkF, argsToLocals, Value.category]; done) | rfl
set_option maxRecDepth 65536 in
set_option maxHeartbeats 40000000 in
theorem rm2_18 (l : Launch) (Z : State) (a0 : Array Value) (hw : ∀ d ∈ tables_1, d.before a0 Z = true) (ws : List Jvm.Cond) {w_PENDING : Addr} {w_FAILED : Addr} {w_RUNNING : Addr} {w_CANCELLED : Addr} {w_COMPLETED : Addr} (G : Glob Z w_PENDING w_FAILED w_RUNNING w_CANCELLED w_COMPLETED)  (h0 : Heap) (n0 : Nat) (O0 : Old Z n0 h0) :
    MetFree l (⟨"com/example/hermit_crab/hermitcrab/JobState", "canMoveTo", "(Lcom/example/hermit_crab/hermitcrab/JobState;)Z"⟩ : MethodName) (head1 (Jvm.Cond.code (⟨"com/example/hermit_crab/hermitcrab/JobState", "canMoveTo", "(Lcom/example/hermit_crab/hermitcrab/JobState;)Z"⟩ : MethodName) prog_6_method_5_code 2 (some .boolean) :: ws) ({ frames := 1, cells := 0, slots := 0, locals := 12 } : Room)) (fun a U => a = #[(.ref w_FAILED), (.ref w_PENDING)] ∧ Z.Warmed39 U.vm ∧ U.heap = h0) (fun _ _ _ _ _ => True) (fun _ U o U' => ∃ v L, o = .returned v ∧ Q2_18 Z w_PENDING w_FAILED w_RUNNING w_CANCELLED w_COMPLETED  h0 n0 v U'.heap L ∧ FrameEnd U o U' L ({ frames := 1, cells := 0, slots := 0, locals := 12 } : Room).cells ({ frames := 1, cells := 0, slots := 0, locals := 12 } : Room).slots) := by
  refine MetFree.of_bodySF (plainFor_of_name pn_com_example_hermit_crab_hermitcrab_JobState) hisR ?_
  intro p e s m args below meth c s₁ Bd hml0 hP hK
  obtain ⟨rfl, hZ, hh⟩ := hP
  have hx := Bd.exec
  have hby := Bd.bytes
  have hml : c.maxLocals = 2 := hml0
  have hown : s.vm.findClass "com/example/hermit_crab/hermitcrab/JobState" = some m.cls := findClass_of_methodNamed Bd.named
  have hnm := (name_of_methodNamed Bd.named Bd.method).1
  have X0 : Stand p l e ({ frames := 1, cells := 0, slots := 0, locals := 12 } : Room) s m #[(.ref w_FAILED), (.ref w_PENDING)] below meth c s₁ [] 0 0 := Stand.of_body Bd
  have e0 : s₁.heap = h0 := by rw [← hh, Bd.state]; rfl
  have N0 := Fr.nil n0
  show OGot p.tables e below (s₁.setTop (entryFrame m #[(.ref w_FAILED), (.ref w_PENDING)] 2)) _
  refine OGot.go (fun t k => castTop (ef2_18 m w_FAILED w_PENDING) k) ?_
  show OGot p.tables e below (s₁.setTop (mkF m 0 #[.val (.ref w_FAILED), .val (.ref w_PENDING)] [])) _
  refine OGot.go (fun t k => XS.aloadN X0.here hx rfl (hb hby d2_0) rfl rfl k) ?_
  show OGot p.tables e below (s₁.setTop (mkF m 1 #[.val (.ref w_FAILED), .val (.ref w_PENDING)] [(.ref w_FAILED)])) _
  obtain ⟨cq3, kq3, q3a, q3b, q3c⟩ := isOf hZ e0 (G.2.2.2.1.ext O0.2)
  obtain ⟨_, _, ⟨T3, L3, k3, n3⟩, -, X3, ⟨Lc3, hQ3, l3, y3, z3⟩, st3⟩ := X0.virtualBackUp hx (x := (⟨"com/example/hermit_crab/hermitcrab/JobState", "ordinal", "()I"⟩ : MethodName)) (y := (⟨"java/lang/Enum", "ordinal", "()I"⟩ : MethodName)) (owner := "java/lang/Enum") hown (mvT hZ (ow hw 16 rfl)) (mvT hZ (ow hw 17 rfl)) (mvT hZ (ow hw 18 rfl)) (by decide) (mvT hZ (ow hw 20 rfl)) (mvT hZ (ow hw 19 rfl)) (backOf (W := 0) (rm3_3 l Z a0 hw [] G  h0 n0 O0 ) hZ (ow hw 22 rfl) (ow hw 21 rfl) (by decide) (by decide)) q3a q3c (g := (mkF m 1 #[.val (.ref w_FAILED), .val (.ref w_PENDING)] [(.ref w_FAILED)])) rfl (by rw [hml]; rfl) (Steps.refl _) (argsL := []) (rest := []) (lenOf pd_1 rfl) rfl (by show 2 * 0 + _ ≤ _; exact Nat.le_of_eq rfl) (hb hby d2_1) (fun _ _ => ⟨rfl, e0, (by decide : 0 + 0 ≤ _), (by decide : 0 + 0 ≤ _)⟩)
  dsimp only [Pt.U, Pt.locs, Pt.cells, Pt.slots] at X3 l3 y3 z3 st3 hQ3
  subst l3 y3 z3
  obtain ⟨rfl, N3q, e3⟩ := hQ3
  have N3 := Fr.app N0 N3q
  refine OGot.on st3 ?_
  show OGot p.tables e below (T3.setTop (mkF m 4 #[.val (.ref w_FAILED), .val (.ref w_PENDING)] [(.int (3 : Int32))])) _
  refine OGot.go (fun t k => XS.tswIn X3.here hx rfl (pc0 := 4) (pc' := 101) rfl (hb hby d2_4) rfl (by decide) (o := 97) (by decide) (by decide) (by decide) k) ?_
  show OGot p.tables e below (T3.setTop (mkF m 101 #[.val (.ref w_FAILED), .val (.ref w_PENDING)] [])) _
  refine OGot.go (fun t k => XS.aloadN X3.here hx rfl (hb hby d2_101) rfl rfl k) ?_
  show OGot p.tables e below (T3.setTop (mkF m 102 #[.val (.ref w_FAILED), .val (.ref w_PENDING)] [(.ref w_PENDING)])) _
  obtain ⟨T4, X4, e4, st4⟩ := getS2 X3 hx hZ hown (host := "") (Or.inl (ow hw 31 rfl)) Via.refl e3 (G.1.ext O0.2) (g := (mkF m 102 #[.val (.ref w_FAILED), .val (.ref w_PENDING)] [(.ref w_PENDING)])) rfl (hb hby d2_102)
  refine OGot.go st4 ?_
  show OGot p.tables e below (T4.setTop (mkF m 105 #[.val (.ref w_FAILED), .val (.ref w_PENDING)] [(.ref w_PENDING), (.ref w_PENDING)])) _
  refine OGot.go (fun t k => Jvm.RoadKit.acmp (g := (mkF m 105 #[.val (.ref w_FAILED), .val (.ref w_PENDING)] [(.ref w_PENDING), (.ref w_PENDING)])) X4 hx rfl rfl rfl (pc0 := 105) (pc' := 108) (same := true) rfl (hb hby d2_105) rfl (decide_eq_true rfl) (by decide) (by decide) k) ?_
  show OGot p.tables e below (T4.setTop (mkF m 108 #[.val (.ref w_FAILED), .val (.ref w_PENDING)] [])) _
  refine OGot.go (fun t k => XS.iconst X4.here hx rfl (hb hby d2_108) k) ?_
  show OGot p.tables e below (T4.setTop (mkF m 109 #[.val (.ref w_FAILED), .val (.ref w_PENDING)] [(.int (1 : Int32))])) _
  refine OGot.go (fun t k => XS.goto X4.here hx rfl (pc0 := 109) (pc' := 117) rfl (hb hby d2_109) (by decide) (by decide) k) ?_
  show OGot p.tables e below (T4.setTop (mkF m 117 #[.val (.ref w_FAILED), .val (.ref w_PENDING)] [(.int (1 : Int32))])) _
  obtain ⟨fs, hr, hrun, hended, hW, hsame⟩ := X4.leave (v := some (.int (1 : Int32))) (fun h => by rw [Bd.returns] at h; cases h)
  refine ⟨_, _, retN X4 hx (t := .boolean) Bd.returns (by simp) (hb hby d2_117) hr, hrun, hended, _, _, rfl, ?_, ⟨_, rfl⟩, hW, hsame.mono (by decide) (by decide)⟩
  exact (⟨rfl, N3, e4⟩ : Q2_18 Z w_PENDING w_FAILED w_RUNNING w_CANCELLED w_COMPLETED  h0 n0 _ T4.heap _)
theorem d2_112 : decode prog_6_method_5_code 112 = .ok (.iconst 0, 1) := by decide +kernel
theorem d2_113 : decode prog_6_method_5_code 113 = .ok (.goto 4, 3) := by decide +kernel
def Q2_19 (Z : State) (w_PENDING : Addr) (w_FAILED : Addr) (w_RUNNING : Addr) (w_CANCELLED : Addr) (w_COMPLETED : Addr)  (h0 : Heap) (n0 : Nat) (v : Option Value) (h : Heap) (L : List Loc) : Prop := v = some (.int (0 : Int32)) ∧ Fr n0 L ∧ h = h0
theorem ef2_19 (m : MethodId) (x0 : Addr) (x1 : Addr) : entryFrame m #[(.ref x0), (.ref x1)] 2 = mkF m 0 #[.val (.ref x0), .val (.ref x1)] [] := by first | (simp [entryFrame, mkF, argsToLocals, Value.category]; done) | rfl
set_option maxRecDepth 65536 in
set_option maxHeartbeats 40000000 in
theorem rm2_19 (l : Launch) (Z : State) (a0 : Array Value) (hw : ∀ d ∈ tables_1, d.before a0 Z = true) (ws : List Jvm.Cond) {w_PENDING : Addr} {w_FAILED : Addr} {w_RUNNING : Addr} {w_CANCELLED : Addr} {w_COMPLETED : Addr} (G : Glob Z w_PENDING w_FAILED w_RUNNING w_CANCELLED w_COMPLETED)  (h0 : Heap) (n0 : Nat) (O0 : Old Z n0 h0) :
    MetFree l (⟨"com/example/hermit_crab/hermitcrab/JobState", "canMoveTo", "(Lcom/example/hermit_crab/hermitcrab/JobState;)Z"⟩ : MethodName) (head1 (Jvm.Cond.code (⟨"com/example/hermit_crab/hermitcrab/JobState", "canMoveTo", "(Lcom/example/hermit_crab/hermitcrab/JobState;)Z"⟩ : MethodName) prog_6_method_5_code 2 (some .boolean) :: ws) ({ frames := 1, cells := 0, slots := 0, locals := 12 } : Room)) (fun a U => a = #[(.ref w_FAILED), (.ref w_RUNNING)] ∧ Z.Warmed39 U.vm ∧ U.heap = h0) (fun _ _ _ _ _ => True) (fun _ U o U' => ∃ v L, o = .returned v ∧ Q2_19 Z w_PENDING w_FAILED w_RUNNING w_CANCELLED w_COMPLETED  h0 n0 v U'.heap L ∧ FrameEnd U o U' L ({ frames := 1, cells := 0, slots := 0, locals := 12 } : Room).cells ({ frames := 1, cells := 0, slots := 0, locals := 12 } : Room).slots) := by
  refine MetFree.of_bodySF (plainFor_of_name pn_com_example_hermit_crab_hermitcrab_JobState) hisR ?_
  intro p e s m args below meth c s₁ Bd hml0 hP hK
  obtain ⟨rfl, hZ, hh⟩ := hP
  have hx := Bd.exec
  have hby := Bd.bytes
  have hml : c.maxLocals = 2 := hml0
  have hown : s.vm.findClass "com/example/hermit_crab/hermitcrab/JobState" = some m.cls := findClass_of_methodNamed Bd.named
  have hnm := (name_of_methodNamed Bd.named Bd.method).1
  have X0 : Stand p l e ({ frames := 1, cells := 0, slots := 0, locals := 12 } : Room) s m #[(.ref w_FAILED), (.ref w_RUNNING)] below meth c s₁ [] 0 0 := Stand.of_body Bd
  have e0 : s₁.heap = h0 := by rw [← hh, Bd.state]; rfl
  have N0 := Fr.nil n0
  show OGot p.tables e below (s₁.setTop (entryFrame m #[(.ref w_FAILED), (.ref w_RUNNING)] 2)) _
  refine OGot.go (fun t k => castTop (ef2_19 m w_FAILED w_RUNNING) k) ?_
  show OGot p.tables e below (s₁.setTop (mkF m 0 #[.val (.ref w_FAILED), .val (.ref w_RUNNING)] [])) _
  refine OGot.go (fun t k => XS.aloadN X0.here hx rfl (hb hby d2_0) rfl rfl k) ?_
  show OGot p.tables e below (s₁.setTop (mkF m 1 #[.val (.ref w_FAILED), .val (.ref w_RUNNING)] [(.ref w_FAILED)])) _
  obtain ⟨cq3, kq3, q3a, q3b, q3c⟩ := isOf hZ e0 (G.2.2.2.1.ext O0.2)
  obtain ⟨_, _, ⟨T3, L3, k3, n3⟩, -, X3, ⟨Lc3, hQ3, l3, y3, z3⟩, st3⟩ := X0.virtualBackUp hx (x := (⟨"com/example/hermit_crab/hermitcrab/JobState", "ordinal", "()I"⟩ : MethodName)) (y := (⟨"java/lang/Enum", "ordinal", "()I"⟩ : MethodName)) (owner := "java/lang/Enum") hown (mvT hZ (ow hw 16 rfl)) (mvT hZ (ow hw 17 rfl)) (mvT hZ (ow hw 18 rfl)) (by decide) (mvT hZ (ow hw 20 rfl)) (mvT hZ (ow hw 19 rfl)) (backOf (W := 0) (rm3_3 l Z a0 hw [] G  h0 n0 O0 ) hZ (ow hw 22 rfl) (ow hw 21 rfl) (by decide) (by decide)) q3a q3c (g := (mkF m 1 #[.val (.ref w_FAILED), .val (.ref w_RUNNING)] [(.ref w_FAILED)])) rfl (by rw [hml]; rfl) (Steps.refl _) (argsL := []) (rest := []) (lenOf pd_1 rfl) rfl (by show 2 * 0 + _ ≤ _; exact Nat.le_of_eq rfl) (hb hby d2_1) (fun _ _ => ⟨rfl, e0, (by decide : 0 + 0 ≤ _), (by decide : 0 + 0 ≤ _)⟩)
  dsimp only [Pt.U, Pt.locs, Pt.cells, Pt.slots] at X3 l3 y3 z3 st3 hQ3
  subst l3 y3 z3
  obtain ⟨rfl, N3q, e3⟩ := hQ3
  have N3 := Fr.app N0 N3q
  refine OGot.on st3 ?_
  show OGot p.tables e below (T3.setTop (mkF m 4 #[.val (.ref w_FAILED), .val (.ref w_RUNNING)] [(.int (3 : Int32))])) _
  refine OGot.go (fun t k => XS.tswIn X3.here hx rfl (pc0 := 4) (pc' := 101) rfl (hb hby d2_4) rfl (by decide) (o := 97) (by decide) (by decide) (by decide) k) ?_
  show OGot p.tables e below (T3.setTop (mkF m 101 #[.val (.ref w_FAILED), .val (.ref w_RUNNING)] [])) _
  refine OGot.go (fun t k => XS.aloadN X3.here hx rfl (hb hby d2_101) rfl rfl k) ?_
  show OGot p.tables e below (T3.setTop (mkF m 102 #[.val (.ref w_FAILED), .val (.ref w_RUNNING)] [(.ref w_RUNNING)])) _
  obtain ⟨T4, X4, e4, st4⟩ := getS2 X3 hx hZ hown (host := "") (Or.inl (ow hw 31 rfl)) Via.refl e3 (G.1.ext O0.2) (g := (mkF m 102 #[.val (.ref w_FAILED), .val (.ref w_RUNNING)] [(.ref w_RUNNING)])) rfl (hb hby d2_102)
  refine OGot.go st4 ?_
  show OGot p.tables e below (T4.setTop (mkF m 105 #[.val (.ref w_FAILED), .val (.ref w_RUNNING)] [(.ref w_PENDING), (.ref w_RUNNING)])) _
  have ne5 : w_RUNNING ≠ w_PENDING := (Fld.ne G.2.2.2.2.2.2.2.2.2.2.2.2.1 G.2.2.2.2.2.2.2.2.2.2.1 (by decide))
  refine OGot.go (fun t k => Jvm.RoadKit.acmp (g := (mkF m 105 #[.val (.ref w_FAILED), .val (.ref w_RUNNING)] [(.ref w_PENDING), (.ref w_RUNNING)])) X4 hx rfl rfl rfl (pc0 := 105) (pc' := 112) (same := false) rfl (hb hby d2_105) rfl (decide_eq_false fun q => ne5 (Value.ref.inj q)) (by decide) (by decide) k) ?_
  show OGot p.tables e below (T4.setTop (mkF m 112 #[.val (.ref w_FAILED), .val (.ref w_RUNNING)] [])) _
  refine OGot.go (fun t k => XS.iconst X4.here hx rfl (hb hby d2_112) k) ?_
  show OGot p.tables e below (T4.setTop (mkF m 113 #[.val (.ref w_FAILED), .val (.ref w_RUNNING)] [(.int (0 : Int32))])) _
  refine OGot.go (fun t k => XS.goto X4.here hx rfl (pc0 := 113) (pc' := 117) rfl (hb hby d2_113) (by decide) (by decide) k) ?_
  show OGot p.tables e below (T4.setTop (mkF m 117 #[.val (.ref w_FAILED), .val (.ref w_RUNNING)] [(.int (0 : Int32))])) _
  obtain ⟨fs, hr, hrun, hended, hW, hsame⟩ := X4.leave (v := some (.int (0 : Int32))) (fun h => by rw [Bd.returns] at h; cases h)
  refine ⟨_, _, retN X4 hx (t := .boolean) Bd.returns (by simp) (hb hby d2_117) hr, hrun, hended, _, _, rfl, ?_, ⟨_, rfl⟩, hW, hsame.mono (by decide) (by decide)⟩
  exact (⟨rfl, N3, e4⟩ : Q2_19 Z w_PENDING w_FAILED w_RUNNING w_CANCELLED w_COMPLETED  h0 n0 _ T4.heap _)
def Q2_20 (Z : State) (w_PENDING : Addr) (w_FAILED : Addr) (w_RUNNING : Addr) (w_CANCELLED : Addr) (w_COMPLETED : Addr)  (h0 : Heap) (n0 : Nat) (v : Option Value) (h : Heap) (L : List Loc) : Prop := v = some (.int (0 : Int32)) ∧ Fr n0 L ∧ h = h0
theorem ef2_20 (m : MethodId) (x0 : Addr) (x1 : Addr) : entryFrame m #[(.ref x0), (.ref x1)] 2 = mkF m 0 #[.val (.ref x0), .val (.ref x1)] [] := by first | (simp [entryFrame, mkF, argsToLocals, Value.category]; done) | rfl
set_option maxRecDepth 65536 in
set_option maxHeartbeats 40000000 in
theorem rm2_20 (l : Launch) (Z : State) (a0 : Array Value) (hw : ∀ d ∈ tables_1, d.before a0 Z = true) (ws : List Jvm.Cond) {w_PENDING : Addr} {w_FAILED : Addr} {w_RUNNING : Addr} {w_CANCELLED : Addr} {w_COMPLETED : Addr} (G : Glob Z w_PENDING w_FAILED w_RUNNING w_CANCELLED w_COMPLETED)  (h0 : Heap) (n0 : Nat) (O0 : Old Z n0 h0) :
    MetFree l (⟨"com/example/hermit_crab/hermitcrab/JobState", "canMoveTo", "(Lcom/example/hermit_crab/hermitcrab/JobState;)Z"⟩ : MethodName) (head1 (Jvm.Cond.code (⟨"com/example/hermit_crab/hermitcrab/JobState", "canMoveTo", "(Lcom/example/hermit_crab/hermitcrab/JobState;)Z"⟩ : MethodName) prog_6_method_5_code 2 (some .boolean) :: ws) ({ frames := 1, cells := 0, slots := 0, locals := 12 } : Room)) (fun a U => a = #[(.ref w_FAILED), (.ref w_COMPLETED)] ∧ Z.Warmed39 U.vm ∧ U.heap = h0) (fun _ _ _ _ _ => True) (fun _ U o U' => ∃ v L, o = .returned v ∧ Q2_20 Z w_PENDING w_FAILED w_RUNNING w_CANCELLED w_COMPLETED  h0 n0 v U'.heap L ∧ FrameEnd U o U' L ({ frames := 1, cells := 0, slots := 0, locals := 12 } : Room).cells ({ frames := 1, cells := 0, slots := 0, locals := 12 } : Room).slots) := by
  refine MetFree.of_bodySF (plainFor_of_name pn_com_example_hermit_crab_hermitcrab_JobState) hisR ?_
  intro p e s m args below meth c s₁ Bd hml0 hP hK
  obtain ⟨rfl, hZ, hh⟩ := hP
  have hx := Bd.exec
  have hby := Bd.bytes
  have hml : c.maxLocals = 2 := hml0
  have hown : s.vm.findClass "com/example/hermit_crab/hermitcrab/JobState" = some m.cls := findClass_of_methodNamed Bd.named
  have hnm := (name_of_methodNamed Bd.named Bd.method).1
  have X0 : Stand p l e ({ frames := 1, cells := 0, slots := 0, locals := 12 } : Room) s m #[(.ref w_FAILED), (.ref w_COMPLETED)] below meth c s₁ [] 0 0 := Stand.of_body Bd
  have e0 : s₁.heap = h0 := by rw [← hh, Bd.state]; rfl
  have N0 := Fr.nil n0
  show OGot p.tables e below (s₁.setTop (entryFrame m #[(.ref w_FAILED), (.ref w_COMPLETED)] 2)) _
  refine OGot.go (fun t k => castTop (ef2_20 m w_FAILED w_COMPLETED) k) ?_
  show OGot p.tables e below (s₁.setTop (mkF m 0 #[.val (.ref w_FAILED), .val (.ref w_COMPLETED)] [])) _
  refine OGot.go (fun t k => XS.aloadN X0.here hx rfl (hb hby d2_0) rfl rfl k) ?_
  show OGot p.tables e below (s₁.setTop (mkF m 1 #[.val (.ref w_FAILED), .val (.ref w_COMPLETED)] [(.ref w_FAILED)])) _
  obtain ⟨cq3, kq3, q3a, q3b, q3c⟩ := isOf hZ e0 (G.2.2.2.1.ext O0.2)
  obtain ⟨_, _, ⟨T3, L3, k3, n3⟩, -, X3, ⟨Lc3, hQ3, l3, y3, z3⟩, st3⟩ := X0.virtualBackUp hx (x := (⟨"com/example/hermit_crab/hermitcrab/JobState", "ordinal", "()I"⟩ : MethodName)) (y := (⟨"java/lang/Enum", "ordinal", "()I"⟩ : MethodName)) (owner := "java/lang/Enum") hown (mvT hZ (ow hw 16 rfl)) (mvT hZ (ow hw 17 rfl)) (mvT hZ (ow hw 18 rfl)) (by decide) (mvT hZ (ow hw 20 rfl)) (mvT hZ (ow hw 19 rfl)) (backOf (W := 0) (rm3_3 l Z a0 hw [] G  h0 n0 O0 ) hZ (ow hw 22 rfl) (ow hw 21 rfl) (by decide) (by decide)) q3a q3c (g := (mkF m 1 #[.val (.ref w_FAILED), .val (.ref w_COMPLETED)] [(.ref w_FAILED)])) rfl (by rw [hml]; rfl) (Steps.refl _) (argsL := []) (rest := []) (lenOf pd_1 rfl) rfl (by show 2 * 0 + _ ≤ _; exact Nat.le_of_eq rfl) (hb hby d2_1) (fun _ _ => ⟨rfl, e0, (by decide : 0 + 0 ≤ _), (by decide : 0 + 0 ≤ _)⟩)
  dsimp only [Pt.U, Pt.locs, Pt.cells, Pt.slots] at X3 l3 y3 z3 st3 hQ3
  subst l3 y3 z3
  obtain ⟨rfl, N3q, e3⟩ := hQ3
  have N3 := Fr.app N0 N3q
  refine OGot.on st3 ?_
  show OGot p.tables e below (T3.setTop (mkF m 4 #[.val (.ref w_FAILED), .val (.ref w_COMPLETED)] [(.int (3 : Int32))])) _
  refine OGot.go (fun t k => XS.tswIn X3.here hx rfl (pc0 := 4) (pc' := 101) rfl (hb hby d2_4) rfl (by decide) (o := 97) (by decide) (by decide) (by decide) k) ?_
  show OGot p.tables e below (T3.setTop (mkF m 101 #[.val (.ref w_FAILED), .val (.ref w_COMPLETED)] [])) _
  refine OGot.go (fun t k => XS.aloadN X3.here hx rfl (hb hby d2_101) rfl rfl k) ?_
  show OGot p.tables e below (T3.setTop (mkF m 102 #[.val (.ref w_FAILED), .val (.ref w_COMPLETED)] [(.ref w_COMPLETED)])) _
  obtain ⟨T4, X4, e4, st4⟩ := getS2 X3 hx hZ hown (host := "") (Or.inl (ow hw 31 rfl)) Via.refl e3 (G.1.ext O0.2) (g := (mkF m 102 #[.val (.ref w_FAILED), .val (.ref w_COMPLETED)] [(.ref w_COMPLETED)])) rfl (hb hby d2_102)
  refine OGot.go st4 ?_
  show OGot p.tables e below (T4.setTop (mkF m 105 #[.val (.ref w_FAILED), .val (.ref w_COMPLETED)] [(.ref w_PENDING), (.ref w_COMPLETED)])) _
  have ne5 : w_COMPLETED ≠ w_PENDING := (Fld.ne G.2.2.2.2.2.2.2.2.2.2.2.2.2.2 G.2.2.2.2.2.2.2.2.2.2.1 (by decide))
  refine OGot.go (fun t k => Jvm.RoadKit.acmp (g := (mkF m 105 #[.val (.ref w_FAILED), .val (.ref w_COMPLETED)] [(.ref w_PENDING), (.ref w_COMPLETED)])) X4 hx rfl rfl rfl (pc0 := 105) (pc' := 112) (same := false) rfl (hb hby d2_105) rfl (decide_eq_false fun q => ne5 (Value.ref.inj q)) (by decide) (by decide) k) ?_
  show OGot p.tables e below (T4.setTop (mkF m 112 #[.val (.ref w_FAILED), .val (.ref w_COMPLETED)] [])) _
  refine OGot.go (fun t k => XS.iconst X4.here hx rfl (hb hby d2_112) k) ?_
  show OGot p.tables e below (T4.setTop (mkF m 113 #[.val (.ref w_FAILED), .val (.ref w_COMPLETED)] [(.int (0 : Int32))])) _
  refine OGot.go (fun t k => XS.goto X4.here hx rfl (pc0 := 113) (pc' := 117) rfl (hb hby d2_113) (by decide) (by decide) k) ?_
  show OGot p.tables e below (T4.setTop (mkF m 117 #[.val (.ref w_FAILED), .val (.ref w_COMPLETED)] [(.int (0 : Int32))])) _
  obtain ⟨fs, hr, hrun, hended, hW, hsame⟩ := X4.leave (v := some (.int (0 : Int32))) (fun h => by rw [Bd.returns] at h; cases h)
  refine ⟨_, _, retN X4 hx (t := .boolean) Bd.returns (by simp) (hb hby d2_117) hr, hrun, hended, _, _, rfl, ?_, ⟨_, rfl⟩, hW, hsame.mono (by decide) (by decide)⟩
  exact (⟨rfl, N3, e4⟩ : Q2_20 Z w_PENDING w_FAILED w_RUNNING w_CANCELLED w_COMPLETED  h0 n0 _ T4.heap _)
def Q2_21 (Z : State) (w_PENDING : Addr) (w_FAILED : Addr) (w_RUNNING : Addr) (w_CANCELLED : Addr) (w_COMPLETED : Addr)  (h0 : Heap) (n0 : Nat) (v : Option Value) (h : Heap) (L : List Loc) : Prop := v = some (.int (0 : Int32)) ∧ Fr n0 L ∧ h = h0
theorem ef2_21 (m : MethodId) (x0 : Addr) : entryFrame m #[(.ref x0), (.ref x0)] 2 = mkF m 0 #[.val (.ref x0), .val (.ref x0)] [] := by first | (simp [entryFrame, mkF, argsToLocals, Value.category]; done) | rfl
set_option maxRecDepth 65536 in
set_option maxHeartbeats 40000000 in
theorem rm2_21 (l : Launch) (Z : State) (a0 : Array Value) (hw : ∀ d ∈ tables_1, d.before a0 Z = true) (ws : List Jvm.Cond) {w_PENDING : Addr} {w_FAILED : Addr} {w_RUNNING : Addr} {w_CANCELLED : Addr} {w_COMPLETED : Addr} (G : Glob Z w_PENDING w_FAILED w_RUNNING w_CANCELLED w_COMPLETED)  (h0 : Heap) (n0 : Nat) (O0 : Old Z n0 h0) :
    MetFree l (⟨"com/example/hermit_crab/hermitcrab/JobState", "canMoveTo", "(Lcom/example/hermit_crab/hermitcrab/JobState;)Z"⟩ : MethodName) (head1 (Jvm.Cond.code (⟨"com/example/hermit_crab/hermitcrab/JobState", "canMoveTo", "(Lcom/example/hermit_crab/hermitcrab/JobState;)Z"⟩ : MethodName) prog_6_method_5_code 2 (some .boolean) :: ws) ({ frames := 1, cells := 0, slots := 0, locals := 12 } : Room)) (fun a U => a = #[(.ref w_FAILED), (.ref w_FAILED)] ∧ Z.Warmed39 U.vm ∧ U.heap = h0) (fun _ _ _ _ _ => True) (fun _ U o U' => ∃ v L, o = .returned v ∧ Q2_21 Z w_PENDING w_FAILED w_RUNNING w_CANCELLED w_COMPLETED  h0 n0 v U'.heap L ∧ FrameEnd U o U' L ({ frames := 1, cells := 0, slots := 0, locals := 12 } : Room).cells ({ frames := 1, cells := 0, slots := 0, locals := 12 } : Room).slots) := by
  refine MetFree.of_bodySF (plainFor_of_name pn_com_example_hermit_crab_hermitcrab_JobState) hisR ?_
  intro p e s m args below meth c s₁ Bd hml0 hP hK
  obtain ⟨rfl, hZ, hh⟩ := hP
  have hx := Bd.exec
  have hby := Bd.bytes
  have hml : c.maxLocals = 2 := hml0
  have hown : s.vm.findClass "com/example/hermit_crab/hermitcrab/JobState" = some m.cls := findClass_of_methodNamed Bd.named
  have hnm := (name_of_methodNamed Bd.named Bd.method).1
  have X0 : Stand p l e ({ frames := 1, cells := 0, slots := 0, locals := 12 } : Room) s m #[(.ref w_FAILED), (.ref w_FAILED)] below meth c s₁ [] 0 0 := Stand.of_body Bd
  have e0 : s₁.heap = h0 := by rw [← hh, Bd.state]; rfl
  have N0 := Fr.nil n0
  show OGot p.tables e below (s₁.setTop (entryFrame m #[(.ref w_FAILED), (.ref w_FAILED)] 2)) _
  refine OGot.go (fun t k => castTop (ef2_21 m w_FAILED) k) ?_
  show OGot p.tables e below (s₁.setTop (mkF m 0 #[.val (.ref w_FAILED), .val (.ref w_FAILED)] [])) _
  refine OGot.go (fun t k => XS.aloadN X0.here hx rfl (hb hby d2_0) rfl rfl k) ?_
  show OGot p.tables e below (s₁.setTop (mkF m 1 #[.val (.ref w_FAILED), .val (.ref w_FAILED)] [(.ref w_FAILED)])) _
  obtain ⟨cq2, kq2, q2a, q2b, q2c⟩ := isOf hZ e0 (G.2.2.2.1.ext O0.2)
  obtain ⟨_, _, ⟨T2, L2, k2, n2⟩, -, X2, ⟨Lc2, hQ2, l2, y2, z2⟩, st2⟩ := X0.virtualBackUp hx (x := (⟨"com/example/hermit_crab/hermitcrab/JobState", "ordinal", "()I"⟩ : MethodName)) (y := (⟨"java/lang/Enum", "ordinal", "()I"⟩ : MethodName)) (owner := "java/lang/Enum") hown (mvT hZ (ow hw 16 rfl)) (mvT hZ (ow hw 17 rfl)) (mvT hZ (ow hw 18 rfl)) (by decide) (mvT hZ (ow hw 20 rfl)) (mvT hZ (ow hw 19 rfl)) (backOf (W := 0) (rm3_3 l Z a0 hw [] G  h0 n0 O0 ) hZ (ow hw 22 rfl) (ow hw 21 rfl) (by decide) (by decide)) q2a q2c (g := (mkF m 1 #[.val (.ref w_FAILED), .val (.ref w_FAILED)] [(.ref w_FAILED)])) rfl (by rw [hml]; rfl) (Steps.refl _) (argsL := []) (rest := []) (lenOf pd_1 rfl) rfl (by show 2 * 0 + _ ≤ _; exact Nat.le_of_eq rfl) (hb hby d2_1) (fun _ _ => ⟨rfl, e0, (by decide : 0 + 0 ≤ _), (by decide : 0 + 0 ≤ _)⟩)
  dsimp only [Pt.U, Pt.locs, Pt.cells, Pt.slots] at X2 l2 y2 z2 st2 hQ2
  subst l2 y2 z2
  obtain ⟨rfl, N2q, e2⟩ := hQ2
  have N2 := Fr.app N0 N2q
  refine OGot.on st2 ?_
  show OGot p.tables e below (T2.setTop (mkF m 4 #[.val (.ref w_FAILED), .val (.ref w_FAILED)] [(.int (3 : Int32))])) _
  refine OGot.go (fun t k => XS.tswIn X2.here hx rfl (pc0 := 4) (pc' := 101) rfl (hb hby d2_4) rfl (by decide) (o := 97) (by decide) (by decide) (by decide) k) ?_
  show OGot p.tables e below (T2.setTop (mkF m 101 #[.val (.ref w_FAILED), .val (.ref w_FAILED)] [])) _
  refine OGot.go (fun t k => XS.aloadN X2.here hx rfl (hb hby d2_101) rfl rfl k) ?_
  show OGot p.tables e below (T2.setTop (mkF m 102 #[.val (.ref w_FAILED), .val (.ref w_FAILED)] [(.ref w_FAILED)])) _
  obtain ⟨T3, X3, e3, st3⟩ := getS2 X2 hx hZ hown (host := "") (Or.inl (ow hw 31 rfl)) Via.refl e2 (G.1.ext O0.2) (g := (mkF m 102 #[.val (.ref w_FAILED), .val (.ref w_FAILED)] [(.ref w_FAILED)])) rfl (hb hby d2_102)
  refine OGot.go st3 ?_
  show OGot p.tables e below (T3.setTop (mkF m 105 #[.val (.ref w_FAILED), .val (.ref w_FAILED)] [(.ref w_PENDING), (.ref w_FAILED)])) _
  have ne4 : w_FAILED ≠ w_PENDING := (Fld.ne G.2.2.2.2.2.2.2.2.2.2.2.1 G.2.2.2.2.2.2.2.2.2.2.1 (by decide))
  refine OGot.go (fun t k => Jvm.RoadKit.acmp (g := (mkF m 105 #[.val (.ref w_FAILED), .val (.ref w_FAILED)] [(.ref w_PENDING), (.ref w_FAILED)])) X3 hx rfl rfl rfl (pc0 := 105) (pc' := 112) (same := false) rfl (hb hby d2_105) rfl (decide_eq_false fun q => ne4 (Value.ref.inj q)) (by decide) (by decide) k) ?_
  show OGot p.tables e below (T3.setTop (mkF m 112 #[.val (.ref w_FAILED), .val (.ref w_FAILED)] [])) _
  refine OGot.go (fun t k => XS.iconst X3.here hx rfl (hb hby d2_112) k) ?_
  show OGot p.tables e below (T3.setTop (mkF m 113 #[.val (.ref w_FAILED), .val (.ref w_FAILED)] [(.int (0 : Int32))])) _
  refine OGot.go (fun t k => XS.goto X3.here hx rfl (pc0 := 113) (pc' := 117) rfl (hb hby d2_113) (by decide) (by decide) k) ?_
  show OGot p.tables e below (T3.setTop (mkF m 117 #[.val (.ref w_FAILED), .val (.ref w_FAILED)] [(.int (0 : Int32))])) _
  obtain ⟨fs, hr, hrun, hended, hW, hsame⟩ := X3.leave (v := some (.int (0 : Int32))) (fun h => by rw [Bd.returns] at h; cases h)
  refine ⟨_, _, retN X3 hx (t := .boolean) Bd.returns (by simp) (hb hby d2_117) hr, hrun, hended, _, _, rfl, ?_, ⟨_, rfl⟩, hW, hsame.mono (by decide) (by decide)⟩
  exact (⟨rfl, N2, e3⟩ : Q2_21 Z w_PENDING w_FAILED w_RUNNING w_CANCELLED w_COMPLETED  h0 n0 _ T3.heap _)
def Q2_22 (Z : State) (w_PENDING : Addr) (w_FAILED : Addr) (w_RUNNING : Addr) (w_CANCELLED : Addr) (w_COMPLETED : Addr)  (h0 : Heap) (n0 : Nat) (v : Option Value) (h : Heap) (L : List Loc) : Prop := v = some (.int (0 : Int32)) ∧ Fr n0 L ∧ h = h0
theorem ef2_22 (m : MethodId) (x0 : Addr) (x1 : Addr) : entryFrame m #[(.ref x0), (.ref x1)] 2 = mkF m 0 #[.val (.ref x0), .val (.ref x1)] [] := by first | (simp [entryFrame, mkF, argsToLocals, Value.category]; done) | rfl
set_option maxRecDepth 65536 in
set_option maxHeartbeats 40000000 in
theorem rm2_22 (l : Launch) (Z : State) (a0 : Array Value) (hw : ∀ d ∈ tables_1, d.before a0 Z = true) (ws : List Jvm.Cond) {w_PENDING : Addr} {w_FAILED : Addr} {w_RUNNING : Addr} {w_CANCELLED : Addr} {w_COMPLETED : Addr} (G : Glob Z w_PENDING w_FAILED w_RUNNING w_CANCELLED w_COMPLETED)  (h0 : Heap) (n0 : Nat) (O0 : Old Z n0 h0) :
    MetFree l (⟨"com/example/hermit_crab/hermitcrab/JobState", "canMoveTo", "(Lcom/example/hermit_crab/hermitcrab/JobState;)Z"⟩ : MethodName) (head1 (Jvm.Cond.code (⟨"com/example/hermit_crab/hermitcrab/JobState", "canMoveTo", "(Lcom/example/hermit_crab/hermitcrab/JobState;)Z"⟩ : MethodName) prog_6_method_5_code 2 (some .boolean) :: ws) ({ frames := 1, cells := 0, slots := 0, locals := 12 } : Room)) (fun a U => a = #[(.ref w_FAILED), (.ref w_CANCELLED)] ∧ Z.Warmed39 U.vm ∧ U.heap = h0) (fun _ _ _ _ _ => True) (fun _ U o U' => ∃ v L, o = .returned v ∧ Q2_22 Z w_PENDING w_FAILED w_RUNNING w_CANCELLED w_COMPLETED  h0 n0 v U'.heap L ∧ FrameEnd U o U' L ({ frames := 1, cells := 0, slots := 0, locals := 12 } : Room).cells ({ frames := 1, cells := 0, slots := 0, locals := 12 } : Room).slots) := by
  refine MetFree.of_bodySF (plainFor_of_name pn_com_example_hermit_crab_hermitcrab_JobState) hisR ?_
  intro p e s m args below meth c s₁ Bd hml0 hP hK
  obtain ⟨rfl, hZ, hh⟩ := hP
  have hx := Bd.exec
  have hby := Bd.bytes
  have hml : c.maxLocals = 2 := hml0
  have hown : s.vm.findClass "com/example/hermit_crab/hermitcrab/JobState" = some m.cls := findClass_of_methodNamed Bd.named
  have hnm := (name_of_methodNamed Bd.named Bd.method).1
  have X0 : Stand p l e ({ frames := 1, cells := 0, slots := 0, locals := 12 } : Room) s m #[(.ref w_FAILED), (.ref w_CANCELLED)] below meth c s₁ [] 0 0 := Stand.of_body Bd
  have e0 : s₁.heap = h0 := by rw [← hh, Bd.state]; rfl
  have N0 := Fr.nil n0
  show OGot p.tables e below (s₁.setTop (entryFrame m #[(.ref w_FAILED), (.ref w_CANCELLED)] 2)) _
  refine OGot.go (fun t k => castTop (ef2_22 m w_FAILED w_CANCELLED) k) ?_
  show OGot p.tables e below (s₁.setTop (mkF m 0 #[.val (.ref w_FAILED), .val (.ref w_CANCELLED)] [])) _
  refine OGot.go (fun t k => XS.aloadN X0.here hx rfl (hb hby d2_0) rfl rfl k) ?_
  show OGot p.tables e below (s₁.setTop (mkF m 1 #[.val (.ref w_FAILED), .val (.ref w_CANCELLED)] [(.ref w_FAILED)])) _
  obtain ⟨cq3, kq3, q3a, q3b, q3c⟩ := isOf hZ e0 (G.2.2.2.1.ext O0.2)
  obtain ⟨_, _, ⟨T3, L3, k3, n3⟩, -, X3, ⟨Lc3, hQ3, l3, y3, z3⟩, st3⟩ := X0.virtualBackUp hx (x := (⟨"com/example/hermit_crab/hermitcrab/JobState", "ordinal", "()I"⟩ : MethodName)) (y := (⟨"java/lang/Enum", "ordinal", "()I"⟩ : MethodName)) (owner := "java/lang/Enum") hown (mvT hZ (ow hw 16 rfl)) (mvT hZ (ow hw 17 rfl)) (mvT hZ (ow hw 18 rfl)) (by decide) (mvT hZ (ow hw 20 rfl)) (mvT hZ (ow hw 19 rfl)) (backOf (W := 0) (rm3_3 l Z a0 hw [] G  h0 n0 O0 ) hZ (ow hw 22 rfl) (ow hw 21 rfl) (by decide) (by decide)) q3a q3c (g := (mkF m 1 #[.val (.ref w_FAILED), .val (.ref w_CANCELLED)] [(.ref w_FAILED)])) rfl (by rw [hml]; rfl) (Steps.refl _) (argsL := []) (rest := []) (lenOf pd_1 rfl) rfl (by show 2 * 0 + _ ≤ _; exact Nat.le_of_eq rfl) (hb hby d2_1) (fun _ _ => ⟨rfl, e0, (by decide : 0 + 0 ≤ _), (by decide : 0 + 0 ≤ _)⟩)
  dsimp only [Pt.U, Pt.locs, Pt.cells, Pt.slots] at X3 l3 y3 z3 st3 hQ3
  subst l3 y3 z3
  obtain ⟨rfl, N3q, e3⟩ := hQ3
  have N3 := Fr.app N0 N3q
  refine OGot.on st3 ?_
  show OGot p.tables e below (T3.setTop (mkF m 4 #[.val (.ref w_FAILED), .val (.ref w_CANCELLED)] [(.int (3 : Int32))])) _
  refine OGot.go (fun t k => XS.tswIn X3.here hx rfl (pc0 := 4) (pc' := 101) rfl (hb hby d2_4) rfl (by decide) (o := 97) (by decide) (by decide) (by decide) k) ?_
  show OGot p.tables e below (T3.setTop (mkF m 101 #[.val (.ref w_FAILED), .val (.ref w_CANCELLED)] [])) _
  refine OGot.go (fun t k => XS.aloadN X3.here hx rfl (hb hby d2_101) rfl rfl k) ?_
  show OGot p.tables e below (T3.setTop (mkF m 102 #[.val (.ref w_FAILED), .val (.ref w_CANCELLED)] [(.ref w_CANCELLED)])) _
  obtain ⟨T4, X4, e4, st4⟩ := getS2 X3 hx hZ hown (host := "") (Or.inl (ow hw 31 rfl)) Via.refl e3 (G.1.ext O0.2) (g := (mkF m 102 #[.val (.ref w_FAILED), .val (.ref w_CANCELLED)] [(.ref w_CANCELLED)])) rfl (hb hby d2_102)
  refine OGot.go st4 ?_
  show OGot p.tables e below (T4.setTop (mkF m 105 #[.val (.ref w_FAILED), .val (.ref w_CANCELLED)] [(.ref w_PENDING), (.ref w_CANCELLED)])) _
  have ne5 : w_CANCELLED ≠ w_PENDING := (Fld.ne G.2.2.2.2.2.2.2.2.2.2.2.2.2.1 G.2.2.2.2.2.2.2.2.2.2.1 (by decide))
  refine OGot.go (fun t k => Jvm.RoadKit.acmp (g := (mkF m 105 #[.val (.ref w_FAILED), .val (.ref w_CANCELLED)] [(.ref w_PENDING), (.ref w_CANCELLED)])) X4 hx rfl rfl rfl (pc0 := 105) (pc' := 112) (same := false) rfl (hb hby d2_105) rfl (decide_eq_false fun q => ne5 (Value.ref.inj q)) (by decide) (by decide) k) ?_
  show OGot p.tables e below (T4.setTop (mkF m 112 #[.val (.ref w_FAILED), .val (.ref w_CANCELLED)] [])) _
  refine OGot.go (fun t k => XS.iconst X4.here hx rfl (hb hby d2_112) k) ?_
  show OGot p.tables e below (T4.setTop (mkF m 113 #[.val (.ref w_FAILED), .val (.ref w_CANCELLED)] [(.int (0 : Int32))])) _
  refine OGot.go (fun t k => XS.goto X4.here hx rfl (pc0 := 113) (pc' := 117) rfl (hb hby d2_113) (by decide) (by decide) k) ?_
  show OGot p.tables e below (T4.setTop (mkF m 117 #[.val (.ref w_FAILED), .val (.ref w_CANCELLED)] [(.int (0 : Int32))])) _
  obtain ⟨fs, hr, hrun, hended, hW, hsame⟩ := X4.leave (v := some (.int (0 : Int32))) (fun h => by rw [Bd.returns] at h; cases h)
  refine ⟨_, _, retN X4 hx (t := .boolean) Bd.returns (by simp) (hb hby d2_117) hr, hrun, hended, _, _, rfl, ?_, ⟨_, rfl⟩, hW, hsame.mono (by decide) (by decide)⟩
  exact (⟨rfl, N3, e4⟩ : Q2_22 Z w_PENDING w_FAILED w_RUNNING w_CANCELLED w_COMPLETED  h0 n0 _ T4.heap _)
def Q2_23 (Z : State) (w_PENDING : Addr) (w_FAILED : Addr) (w_RUNNING : Addr) (w_CANCELLED : Addr) (w_COMPLETED : Addr)  (h0 : Heap) (n0 : Nat) (v : Option Value) (h : Heap) (L : List Loc) : Prop := v = some (.int (0 : Int32)) ∧ Fr n0 L ∧ h = h0
theorem ef2_23 (m : MethodId) (x0 : Addr) : entryFrame m #[(.ref x0), .null] 2 = mkF m 0 #[.val (.ref x0), .val .null] [] := by first | (simp [entryFrame, mkF, argsToLocals, Value.category]; done) | rfl
set_option maxRecDepth 65536 in
set_option maxHeartbeats 40000000 in
theorem rm2_23 (l : Launch) (Z : State) (a0 : Array Value) (hw : ∀ d ∈ tables_1, d.before a0 Z = true) (ws : List Jvm.Cond) {w_PENDING : Addr} {w_FAILED : Addr} {w_RUNNING : Addr} {w_CANCELLED : Addr} {w_COMPLETED : Addr} (G : Glob Z w_PENDING w_FAILED w_RUNNING w_CANCELLED w_COMPLETED)  (h0 : Heap) (n0 : Nat) (O0 : Old Z n0 h0) :
    MetFree l (⟨"com/example/hermit_crab/hermitcrab/JobState", "canMoveTo", "(Lcom/example/hermit_crab/hermitcrab/JobState;)Z"⟩ : MethodName) (head1 (Jvm.Cond.code (⟨"com/example/hermit_crab/hermitcrab/JobState", "canMoveTo", "(Lcom/example/hermit_crab/hermitcrab/JobState;)Z"⟩ : MethodName) prog_6_method_5_code 2 (some .boolean) :: ws) ({ frames := 1, cells := 0, slots := 0, locals := 12 } : Room)) (fun a U => a = #[(.ref w_FAILED), .null] ∧ Z.Warmed39 U.vm ∧ U.heap = h0) (fun _ _ _ _ _ => True) (fun _ U o U' => ∃ v L, o = .returned v ∧ Q2_23 Z w_PENDING w_FAILED w_RUNNING w_CANCELLED w_COMPLETED  h0 n0 v U'.heap L ∧ FrameEnd U o U' L ({ frames := 1, cells := 0, slots := 0, locals := 12 } : Room).cells ({ frames := 1, cells := 0, slots := 0, locals := 12 } : Room).slots) := by
  refine MetFree.of_bodySF (plainFor_of_name pn_com_example_hermit_crab_hermitcrab_JobState) hisR ?_
  intro p e s m args below meth c s₁ Bd hml0 hP hK
  obtain ⟨rfl, hZ, hh⟩ := hP
  have hx := Bd.exec
  have hby := Bd.bytes
  have hml : c.maxLocals = 2 := hml0
  have hown : s.vm.findClass "com/example/hermit_crab/hermitcrab/JobState" = some m.cls := findClass_of_methodNamed Bd.named
  have hnm := (name_of_methodNamed Bd.named Bd.method).1
  have X0 : Stand p l e ({ frames := 1, cells := 0, slots := 0, locals := 12 } : Room) s m #[(.ref w_FAILED), .null] below meth c s₁ [] 0 0 := Stand.of_body Bd
  have e0 : s₁.heap = h0 := by rw [← hh, Bd.state]; rfl
  have N0 := Fr.nil n0
  show OGot p.tables e below (s₁.setTop (entryFrame m #[(.ref w_FAILED), .null] 2)) _
  refine OGot.go (fun t k => castTop (ef2_23 m w_FAILED) k) ?_
  show OGot p.tables e below (s₁.setTop (mkF m 0 #[.val (.ref w_FAILED), .val .null] [])) _
  refine OGot.go (fun t k => XS.aloadN X0.here hx rfl (hb hby d2_0) rfl rfl k) ?_
  show OGot p.tables e below (s₁.setTop (mkF m 1 #[.val (.ref w_FAILED), .val .null] [(.ref w_FAILED)])) _
  obtain ⟨cq2, kq2, q2a, q2b, q2c⟩ := isOf hZ e0 (G.2.2.2.1.ext O0.2)
  obtain ⟨_, _, ⟨T2, L2, k2, n2⟩, -, X2, ⟨Lc2, hQ2, l2, y2, z2⟩, st2⟩ := X0.virtualBackUp hx (x := (⟨"com/example/hermit_crab/hermitcrab/JobState", "ordinal", "()I"⟩ : MethodName)) (y := (⟨"java/lang/Enum", "ordinal", "()I"⟩ : MethodName)) (owner := "java/lang/Enum") hown (mvT hZ (ow hw 16 rfl)) (mvT hZ (ow hw 17 rfl)) (mvT hZ (ow hw 18 rfl)) (by decide) (mvT hZ (ow hw 20 rfl)) (mvT hZ (ow hw 19 rfl)) (backOf (W := 0) (rm3_3 l Z a0 hw [] G  h0 n0 O0 ) hZ (ow hw 22 rfl) (ow hw 21 rfl) (by decide) (by decide)) q2a q2c (g := (mkF m 1 #[.val (.ref w_FAILED), .val .null] [(.ref w_FAILED)])) rfl (by rw [hml]; rfl) (Steps.refl _) (argsL := []) (rest := []) (lenOf pd_1 rfl) rfl (by show 2 * 0 + _ ≤ _; exact Nat.le_of_eq rfl) (hb hby d2_1) (fun _ _ => ⟨rfl, e0, (by decide : 0 + 0 ≤ _), (by decide : 0 + 0 ≤ _)⟩)
  dsimp only [Pt.U, Pt.locs, Pt.cells, Pt.slots] at X2 l2 y2 z2 st2 hQ2
  subst l2 y2 z2
  obtain ⟨rfl, N2q, e2⟩ := hQ2
  have N2 := Fr.app N0 N2q
  refine OGot.on st2 ?_
  show OGot p.tables e below (T2.setTop (mkF m 4 #[.val (.ref w_FAILED), .val .null] [(.int (3 : Int32))])) _
  refine OGot.go (fun t k => XS.tswIn X2.here hx rfl (pc0 := 4) (pc' := 101) rfl (hb hby d2_4) rfl (by decide) (o := 97) (by decide) (by decide) (by decide) k) ?_
  show OGot p.tables e below (T2.setTop (mkF m 101 #[.val (.ref w_FAILED), .val .null] [])) _
  refine OGot.go (fun t k => XS.aloadN X2.here hx rfl (hb hby d2_101) rfl rfl k) ?_
  show OGot p.tables e below (T2.setTop (mkF m 102 #[.val (.ref w_FAILED), .val .null] [.null])) _
  obtain ⟨T3, X3, e3, st3⟩ := getS2 X2 hx hZ hown (host := "") (Or.inl (ow hw 31 rfl)) Via.refl e2 (G.1.ext O0.2) (g := (mkF m 102 #[.val (.ref w_FAILED), .val .null] [.null])) rfl (hb hby d2_102)
  refine OGot.go st3 ?_
  show OGot p.tables e below (T3.setTop (mkF m 105 #[.val (.ref w_FAILED), .val .null] [(.ref w_PENDING), .null])) _
  refine OGot.go (fun t k => Jvm.RoadKit.acmp (g := (mkF m 105 #[.val (.ref w_FAILED), .val .null] [(.ref w_PENDING), .null])) X3 hx rfl rfl rfl (pc0 := 105) (pc' := 112) (same := false) rfl (hb hby d2_105) rfl (decide_eq_false nofun) (by decide) (by decide) k) ?_
  show OGot p.tables e below (T3.setTop (mkF m 112 #[.val (.ref w_FAILED), .val .null] [])) _
  refine OGot.go (fun t k => XS.iconst X3.here hx rfl (hb hby d2_112) k) ?_
  show OGot p.tables e below (T3.setTop (mkF m 113 #[.val (.ref w_FAILED), .val .null] [(.int (0 : Int32))])) _
  refine OGot.go (fun t k => XS.goto X3.here hx rfl (pc0 := 113) (pc' := 117) rfl (hb hby d2_113) (by decide) (by decide) k) ?_
  show OGot p.tables e below (T3.setTop (mkF m 117 #[.val (.ref w_FAILED), .val .null] [(.int (0 : Int32))])) _
  obtain ⟨fs, hr, hrun, hended, hW, hsame⟩ := X3.leave (v := some (.int (0 : Int32))) (fun h => by rw [Bd.returns] at h; cases h)
  refine ⟨_, _, retN X3 hx (t := .boolean) Bd.returns (by simp) (hb hby d2_117) hr, hrun, hended, _, _, rfl, ?_, ⟨_, rfl⟩, hW, hsame.mono (by decide) (by decide)⟩
  exact (⟨rfl, N2, e3⟩ : Q2_23 Z w_PENDING w_FAILED w_RUNNING w_CANCELLED w_COMPLETED  h0 n0 _ T3.heap _)
def Q3_4 (Z : State) (w_PENDING : Addr) (w_FAILED : Addr) (w_RUNNING : Addr) (w_CANCELLED : Addr) (w_COMPLETED : Addr)  (h0 : Heap) (n0 : Nat) (v : Option Value) (h : Heap) (L : List Loc) : Prop := v = some (.int (4 : Int32)) ∧ Fr n0 L ∧ h = h0
theorem ef3_4 (m : MethodId) (x0 : Addr) : entryFrame m #[(.ref x0)] 1 = mkF m 0 #[.val (.ref x0)] [] := by first | (simp [entryFrame, mkF, argsToLocals, Value.category]; done) | rfl
set_option maxRecDepth 65536 in
set_option maxHeartbeats 40000000 in
theorem rm3_4 (l : Launch) (Z : State) (a0 : Array Value) (hw : ∀ d ∈ tables_1, d.before a0 Z = true) (ws : List Jvm.Cond) {w_PENDING : Addr} {w_FAILED : Addr} {w_RUNNING : Addr} {w_CANCELLED : Addr} {w_COMPLETED : Addr} (G : Glob Z w_PENDING w_FAILED w_RUNNING w_CANCELLED w_COMPLETED)  (h0 : Heap) (n0 : Nat) (O0 : Old Z n0 h0) :
    MetFree l (⟨"java/lang/Enum", "ordinal", "()I"⟩ : MethodName) (head1 (Jvm.Cond.code (⟨"java/lang/Enum", "ordinal", "()I"⟩ : MethodName) jdk_37_method_2_code 1 (some .int) :: ws) ({ frames := 0, cells := 0, slots := 0, locals := 0 } : Room)) (fun a U => a = #[(.ref w_CANCELLED)] ∧ Z.Warmed39 U.vm ∧ U.heap = h0) (fun _ _ _ _ _ => True) (fun _ U o U' => ∃ v L, o = .returned v ∧ Q3_4 Z w_PENDING w_FAILED w_RUNNING w_CANCELLED w_COMPLETED  h0 n0 v U'.heap L ∧ FrameEnd U o U' L ({ frames := 0, cells := 0, slots := 0, locals := 0 } : Room).cells ({ frames := 0, cells := 0, slots := 0, locals := 0 } : Room).slots) := by
  refine MetFree.of_bodySF (plainFor_of_name pn_java_lang_Enum) hisR ?_
  intro p e s m args below meth c s₁ Bd hml0 hP hK
  obtain ⟨rfl, hZ, hh⟩ := hP
  have hx := Bd.exec
  have hby := Bd.bytes
  have hml : c.maxLocals = 1 := hml0
  have hown : s.vm.findClass "java/lang/Enum" = some m.cls := findClass_of_methodNamed Bd.named
  have hnm := (name_of_methodNamed Bd.named Bd.method).1
  have X0 : Stand p l e ({ frames := 0, cells := 0, slots := 0, locals := 0 } : Room) s m #[(.ref w_CANCELLED)] below meth c s₁ [] 0 0 := Stand.of_body Bd
  have e0 : s₁.heap = h0 := by rw [← hh, Bd.state]; rfl
  have N0 := Fr.nil n0
  show OGot p.tables e below (s₁.setTop (entryFrame m #[(.ref w_CANCELLED)] 1)) _
  refine OGot.go (fun t k => castTop (ef3_4 m w_CANCELLED) k) ?_
  show OGot p.tables e below (s₁.setTop (mkF m 0 #[.val (.ref w_CANCELLED)] [])) _
  refine OGot.go (fun t k => XS.aloadN X0.here hx rfl (hb hby d3_0) rfl rfl k) ?_
  show OGot p.tables e below (s₁.setTop (mkF m 1 #[.val (.ref w_CANCELLED)] [(.ref w_CANCELLED)])) _
  obtain ⟨T2, X2, e2, st2⟩ := getF X0 hx hZ hown (host := "") (Or.inl (ow hw 23 rfl)) Via.refl e0 (G.2.2.2.2.2.2.2.2.2.2.2.2.2.1.ext O0.2) (g := (mkF m 1 #[.val (.ref w_CANCELLED)] [(.ref w_CANCELLED)])) rfl rfl (hb hby d3_1)
  refine OGot.go st2 ?_
  show OGot p.tables e below (T2.setTop (mkF m 4 #[.val (.ref w_CANCELLED)] [(.int (4 : Int32))])) _
  obtain ⟨fs, hr, hrun, hended, hW, hsame⟩ := X2.leave (v := some (.int (4 : Int32))) (fun h => by rw [Bd.returns] at h; cases h)
  refine ⟨_, _, retI X2 hx Bd.returns (hb hby d3_4) hr, hrun, hended, _, _, rfl, ?_, ⟨_, rfl⟩, hW, hsame.mono (by decide) (by decide)⟩
  exact (⟨rfl, N0, e2⟩ : Q3_4 Z w_PENDING w_FAILED w_RUNNING w_CANCELLED w_COMPLETED  h0 n0 _ T2.heap _)
def Q2_24 (Z : State) (w_PENDING : Addr) (w_FAILED : Addr) (w_RUNNING : Addr) (w_CANCELLED : Addr) (w_COMPLETED : Addr)  (h0 : Heap) (n0 : Nat) (v : Option Value) (h : Heap) (L : List Loc) : Prop := v = some (.int (0 : Int32)) ∧ Fr n0 L ∧ h = h0
theorem ef2_24 (m : MethodId) (x0 : Addr) (x1 : Addr) : entryFrame m #[(.ref x0), (.ref x1)] 2 = mkF m 0 #[.val (.ref x0), .val (.ref x1)] [] := by first | (simp [entryFrame, mkF, argsToLocals, Value.category]; done) | rfl
set_option maxRecDepth 65536 in
set_option maxHeartbeats 40000000 in
theorem rm2_24 (l : Launch) (Z : State) (a0 : Array Value) (hw : ∀ d ∈ tables_1, d.before a0 Z = true) (ws : List Jvm.Cond) {w_PENDING : Addr} {w_FAILED : Addr} {w_RUNNING : Addr} {w_CANCELLED : Addr} {w_COMPLETED : Addr} (G : Glob Z w_PENDING w_FAILED w_RUNNING w_CANCELLED w_COMPLETED)  (h0 : Heap) (n0 : Nat) (O0 : Old Z n0 h0) :
    MetFree l (⟨"com/example/hermit_crab/hermitcrab/JobState", "canMoveTo", "(Lcom/example/hermit_crab/hermitcrab/JobState;)Z"⟩ : MethodName) (head1 (Jvm.Cond.code (⟨"com/example/hermit_crab/hermitcrab/JobState", "canMoveTo", "(Lcom/example/hermit_crab/hermitcrab/JobState;)Z"⟩ : MethodName) prog_6_method_5_code 2 (some .boolean) :: ws) ({ frames := 1, cells := 0, slots := 0, locals := 12 } : Room)) (fun a U => a = #[(.ref w_CANCELLED), (.ref w_PENDING)] ∧ Z.Warmed39 U.vm ∧ U.heap = h0) (fun _ _ _ _ _ => True) (fun _ U o U' => ∃ v L, o = .returned v ∧ Q2_24 Z w_PENDING w_FAILED w_RUNNING w_CANCELLED w_COMPLETED  h0 n0 v U'.heap L ∧ FrameEnd U o U' L ({ frames := 1, cells := 0, slots := 0, locals := 12 } : Room).cells ({ frames := 1, cells := 0, slots := 0, locals := 12 } : Room).slots) := by
  refine MetFree.of_bodySF (plainFor_of_name pn_com_example_hermit_crab_hermitcrab_JobState) hisR ?_
  intro p e s m args below meth c s₁ Bd hml0 hP hK
  obtain ⟨rfl, hZ, hh⟩ := hP
  have hx := Bd.exec
  have hby := Bd.bytes
  have hml : c.maxLocals = 2 := hml0
  have hown : s.vm.findClass "com/example/hermit_crab/hermitcrab/JobState" = some m.cls := findClass_of_methodNamed Bd.named
  have hnm := (name_of_methodNamed Bd.named Bd.method).1
  have X0 : Stand p l e ({ frames := 1, cells := 0, slots := 0, locals := 12 } : Room) s m #[(.ref w_CANCELLED), (.ref w_PENDING)] below meth c s₁ [] 0 0 := Stand.of_body Bd
  have e0 : s₁.heap = h0 := by rw [← hh, Bd.state]; rfl
  have N0 := Fr.nil n0
  show OGot p.tables e below (s₁.setTop (entryFrame m #[(.ref w_CANCELLED), (.ref w_PENDING)] 2)) _
  refine OGot.go (fun t k => castTop (ef2_24 m w_CANCELLED w_PENDING) k) ?_
  show OGot p.tables e below (s₁.setTop (mkF m 0 #[.val (.ref w_CANCELLED), .val (.ref w_PENDING)] [])) _
  refine OGot.go (fun t k => XS.aloadN X0.here hx rfl (hb hby d2_0) rfl rfl k) ?_
  show OGot p.tables e below (s₁.setTop (mkF m 1 #[.val (.ref w_CANCELLED), .val (.ref w_PENDING)] [(.ref w_CANCELLED)])) _
  obtain ⟨cq3, kq3, q3a, q3b, q3c⟩ := isOf hZ e0 (G.2.2.2.2.2.2.2.1.ext O0.2)
  obtain ⟨_, _, ⟨T3, L3, k3, n3⟩, -, X3, ⟨Lc3, hQ3, l3, y3, z3⟩, st3⟩ := X0.virtualBackUp hx (x := (⟨"com/example/hermit_crab/hermitcrab/JobState", "ordinal", "()I"⟩ : MethodName)) (y := (⟨"java/lang/Enum", "ordinal", "()I"⟩ : MethodName)) (owner := "java/lang/Enum") hown (mvT hZ (ow hw 16 rfl)) (mvT hZ (ow hw 17 rfl)) (mvT hZ (ow hw 18 rfl)) (by decide) (mvT hZ (ow hw 20 rfl)) (mvT hZ (ow hw 19 rfl)) (backOf (W := 0) (rm3_4 l Z a0 hw [] G  h0 n0 O0 ) hZ (ow hw 22 rfl) (ow hw 21 rfl) (by decide) (by decide)) q3a q3c (g := (mkF m 1 #[.val (.ref w_CANCELLED), .val (.ref w_PENDING)] [(.ref w_CANCELLED)])) rfl (by rw [hml]; rfl) (Steps.refl _) (argsL := []) (rest := []) (lenOf pd_1 rfl) rfl (by show 2 * 0 + _ ≤ _; exact Nat.le_of_eq rfl) (hb hby d2_1) (fun _ _ => ⟨rfl, e0, (by decide : 0 + 0 ≤ _), (by decide : 0 + 0 ≤ _)⟩)
  dsimp only [Pt.U, Pt.locs, Pt.cells, Pt.slots] at X3 l3 y3 z3 st3 hQ3
  subst l3 y3 z3
  obtain ⟨rfl, N3q, e3⟩ := hQ3
  have N3 := Fr.app N0 N3q
  refine OGot.on st3 ?_
  show OGot p.tables e below (T3.setTop (mkF m 4 #[.val (.ref w_CANCELLED), .val (.ref w_PENDING)] [(.int (4 : Int32))])) _
  refine OGot.go (fun t k => XS.tswIn X3.here hx rfl (pc0 := 4) (pc' := 116) rfl (hb hby d2_4) rfl (by decide) (o := 112) (by decide) (by decide) (by decide) k) ?_
  show OGot p.tables e below (T3.setTop (mkF m 116 #[.val (.ref w_CANCELLED), .val (.ref w_PENDING)] [])) _
  refine OGot.go (fun t k => XS.iconst X3.here hx rfl (hb hby d2_116) k) ?_
  show OGot p.tables e below (T3.setTop (mkF m 117 #[.val (.ref w_CANCELLED), .val (.ref w_PENDING)] [(.int (0 : Int32))])) _
  obtain ⟨fs, hr, hrun, hended, hW, hsame⟩ := X3.leave (v := some (.int (0 : Int32))) (fun h => by rw [Bd.returns] at h; cases h)
  refine ⟨_, _, retN X3 hx (t := .boolean) Bd.returns (by simp) (hb hby d2_117) hr, hrun, hended, _, _, rfl, ?_, ⟨_, rfl⟩, hW, hsame.mono (by decide) (by decide)⟩
  exact (⟨rfl, N3, e3⟩ : Q2_24 Z w_PENDING w_FAILED w_RUNNING w_CANCELLED w_COMPLETED  h0 n0 _ T3.heap _)
def Q2_25 (Z : State) (w_PENDING : Addr) (w_FAILED : Addr) (w_RUNNING : Addr) (w_CANCELLED : Addr) (w_COMPLETED : Addr)  (h0 : Heap) (n0 : Nat) (v : Option Value) (h : Heap) (L : List Loc) : Prop := v = some (.int (0 : Int32)) ∧ Fr n0 L ∧ h = h0
theorem ef2_25 (m : MethodId) (x0 : Addr) (x1 : Addr) : entryFrame m #[(.ref x0), (.ref x1)] 2 = mkF m 0 #[.val (.ref x0), .val (.ref x1)] [] := by first | (simp [entryFrame, mkF, argsToLocals, Value.category]; done) | rfl
set_option maxRecDepth 65536 in
set_option maxHeartbeats 40000000 in
theorem rm2_25 (l : Launch) (Z : State) (a0 : Array Value) (hw : ∀ d ∈ tables_1, d.before a0 Z = true) (ws : List Jvm.Cond) {w_PENDING : Addr} {w_FAILED : Addr} {w_RUNNING : Addr} {w_CANCELLED : Addr} {w_COMPLETED : Addr} (G : Glob Z w_PENDING w_FAILED w_RUNNING w_CANCELLED w_COMPLETED)  (h0 : Heap) (n0 : Nat) (O0 : Old Z n0 h0) :
    MetFree l (⟨"com/example/hermit_crab/hermitcrab/JobState", "canMoveTo", "(Lcom/example/hermit_crab/hermitcrab/JobState;)Z"⟩ : MethodName) (head1 (Jvm.Cond.code (⟨"com/example/hermit_crab/hermitcrab/JobState", "canMoveTo", "(Lcom/example/hermit_crab/hermitcrab/JobState;)Z"⟩ : MethodName) prog_6_method_5_code 2 (some .boolean) :: ws) ({ frames := 1, cells := 0, slots := 0, locals := 12 } : Room)) (fun a U => a = #[(.ref w_CANCELLED), (.ref w_RUNNING)] ∧ Z.Warmed39 U.vm ∧ U.heap = h0) (fun _ _ _ _ _ => True) (fun _ U o U' => ∃ v L, o = .returned v ∧ Q2_25 Z w_PENDING w_FAILED w_RUNNING w_CANCELLED w_COMPLETED  h0 n0 v U'.heap L ∧ FrameEnd U o U' L ({ frames := 1, cells := 0, slots := 0, locals := 12 } : Room).cells ({ frames := 1, cells := 0, slots := 0, locals := 12 } : Room).slots) := by
  refine MetFree.of_bodySF (plainFor_of_name pn_com_example_hermit_crab_hermitcrab_JobState) hisR ?_
  intro p e s m args below meth c s₁ Bd hml0 hP hK
  obtain ⟨rfl, hZ, hh⟩ := hP
  have hx := Bd.exec
  have hby := Bd.bytes
  have hml : c.maxLocals = 2 := hml0
  have hown : s.vm.findClass "com/example/hermit_crab/hermitcrab/JobState" = some m.cls := findClass_of_methodNamed Bd.named
  have hnm := (name_of_methodNamed Bd.named Bd.method).1
  have X0 : Stand p l e ({ frames := 1, cells := 0, slots := 0, locals := 12 } : Room) s m #[(.ref w_CANCELLED), (.ref w_RUNNING)] below meth c s₁ [] 0 0 := Stand.of_body Bd
  have e0 : s₁.heap = h0 := by rw [← hh, Bd.state]; rfl
  have N0 := Fr.nil n0
  show OGot p.tables e below (s₁.setTop (entryFrame m #[(.ref w_CANCELLED), (.ref w_RUNNING)] 2)) _
  refine OGot.go (fun t k => castTop (ef2_25 m w_CANCELLED w_RUNNING) k) ?_
  show OGot p.tables e below (s₁.setTop (mkF m 0 #[.val (.ref w_CANCELLED), .val (.ref w_RUNNING)] [])) _
  refine OGot.go (fun t k => XS.aloadN X0.here hx rfl (hb hby d2_0) rfl rfl k) ?_
  show OGot p.tables e below (s₁.setTop (mkF m 1 #[.val (.ref w_CANCELLED), .val (.ref w_RUNNING)] [(.ref w_CANCELLED)])) _
  obtain ⟨cq3, kq3, q3a, q3b, q3c⟩ := isOf hZ e0 (G.2.2.2.2.2.2.2.1.ext O0.2)
  obtain ⟨_, _, ⟨T3, L3, k3, n3⟩, -, X3, ⟨Lc3, hQ3, l3, y3, z3⟩, st3⟩ := X0.virtualBackUp hx (x := (⟨"com/example/hermit_crab/hermitcrab/JobState", "ordinal", "()I"⟩ : MethodName)) (y := (⟨"java/lang/Enum", "ordinal", "()I"⟩ : MethodName)) (owner := "java/lang/Enum") hown (mvT hZ (ow hw 16 rfl)) (mvT hZ (ow hw 17 rfl)) (mvT hZ (ow hw 18 rfl)) (by decide) (mvT hZ (ow hw 20 rfl)) (mvT hZ (ow hw 19 rfl)) (backOf (W := 0) (rm3_4 l Z a0 hw [] G  h0 n0 O0 ) hZ (ow hw 22 rfl) (ow hw 21 rfl) (by decide) (by decide)) q3a q3c (g := (mkF m 1 #[.val (.ref w_CANCELLED), .val (.ref w_RUNNING)] [(.ref w_CANCELLED)])) rfl (by rw [hml]; rfl) (Steps.refl _) (argsL := []) (rest := []) (lenOf pd_1 rfl) rfl (by show 2 * 0 + _ ≤ _; exact Nat.le_of_eq rfl) (hb hby d2_1) (fun _ _ => ⟨rfl, e0, (by decide : 0 + 0 ≤ _), (by decide : 0 + 0 ≤ _)⟩)
  dsimp only [Pt.U, Pt.locs, Pt.cells, Pt.slots] at X3 l3 y3 z3 st3 hQ3
  subst l3 y3 z3
  obtain ⟨rfl, N3q, e3⟩ := hQ3
  have N3 := Fr.app N0 N3q
  refine OGot.on st3 ?_
  show OGot p.tables e below (T3.setTop (mkF m 4 #[.val (.ref w_CANCELLED), .val (.ref w_RUNNING)] [(.int (4 : Int32))])) _
  refine OGot.go (fun t k => XS.tswIn X3.here hx rfl (pc0 := 4) (pc' := 116) rfl (hb hby d2_4) rfl (by decide) (o := 112) (by decide) (by decide) (by decide) k) ?_
  show OGot p.tables e below (T3.setTop (mkF m 116 #[.val (.ref w_CANCELLED), .val (.ref w_RUNNING)] [])) _
  refine OGot.go (fun t k => XS.iconst X3.here hx rfl (hb hby d2_116) k) ?_
  show OGot p.tables e below (T3.setTop (mkF m 117 #[.val (.ref w_CANCELLED), .val (.ref w_RUNNING)] [(.int (0 : Int32))])) _
  obtain ⟨fs, hr, hrun, hended, hW, hsame⟩ := X3.leave (v := some (.int (0 : Int32))) (fun h => by rw [Bd.returns] at h; cases h)
  refine ⟨_, _, retN X3 hx (t := .boolean) Bd.returns (by simp) (hb hby d2_117) hr, hrun, hended, _, _, rfl, ?_, ⟨_, rfl⟩, hW, hsame.mono (by decide) (by decide)⟩
  exact (⟨rfl, N3, e3⟩ : Q2_25 Z w_PENDING w_FAILED w_RUNNING w_CANCELLED w_COMPLETED  h0 n0 _ T3.heap _)
def Q2_26 (Z : State) (w_PENDING : Addr) (w_FAILED : Addr) (w_RUNNING : Addr) (w_CANCELLED : Addr) (w_COMPLETED : Addr)  (h0 : Heap) (n0 : Nat) (v : Option Value) (h : Heap) (L : List Loc) : Prop := v = some (.int (0 : Int32)) ∧ Fr n0 L ∧ h = h0
theorem ef2_26 (m : MethodId) (x0 : Addr) (x1 : Addr) : entryFrame m #[(.ref x0), (.ref x1)] 2 = mkF m 0 #[.val (.ref x0), .val (.ref x1)] [] := by first | (simp [entryFrame, mkF, argsToLocals, Value.category]; done) | rfl
set_option maxRecDepth 65536 in
set_option maxHeartbeats 40000000 in
theorem rm2_26 (l : Launch) (Z : State) (a0 : Array Value) (hw : ∀ d ∈ tables_1, d.before a0 Z = true) (ws : List Jvm.Cond) {w_PENDING : Addr} {w_FAILED : Addr} {w_RUNNING : Addr} {w_CANCELLED : Addr} {w_COMPLETED : Addr} (G : Glob Z w_PENDING w_FAILED w_RUNNING w_CANCELLED w_COMPLETED)  (h0 : Heap) (n0 : Nat) (O0 : Old Z n0 h0) :
    MetFree l (⟨"com/example/hermit_crab/hermitcrab/JobState", "canMoveTo", "(Lcom/example/hermit_crab/hermitcrab/JobState;)Z"⟩ : MethodName) (head1 (Jvm.Cond.code (⟨"com/example/hermit_crab/hermitcrab/JobState", "canMoveTo", "(Lcom/example/hermit_crab/hermitcrab/JobState;)Z"⟩ : MethodName) prog_6_method_5_code 2 (some .boolean) :: ws) ({ frames := 1, cells := 0, slots := 0, locals := 12 } : Room)) (fun a U => a = #[(.ref w_CANCELLED), (.ref w_COMPLETED)] ∧ Z.Warmed39 U.vm ∧ U.heap = h0) (fun _ _ _ _ _ => True) (fun _ U o U' => ∃ v L, o = .returned v ∧ Q2_26 Z w_PENDING w_FAILED w_RUNNING w_CANCELLED w_COMPLETED  h0 n0 v U'.heap L ∧ FrameEnd U o U' L ({ frames := 1, cells := 0, slots := 0, locals := 12 } : Room).cells ({ frames := 1, cells := 0, slots := 0, locals := 12 } : Room).slots) := by
  refine MetFree.of_bodySF (plainFor_of_name pn_com_example_hermit_crab_hermitcrab_JobState) hisR ?_
  intro p e s m args below meth c s₁ Bd hml0 hP hK
  obtain ⟨rfl, hZ, hh⟩ := hP
  have hx := Bd.exec
  have hby := Bd.bytes
  have hml : c.maxLocals = 2 := hml0
  have hown : s.vm.findClass "com/example/hermit_crab/hermitcrab/JobState" = some m.cls := findClass_of_methodNamed Bd.named
  have hnm := (name_of_methodNamed Bd.named Bd.method).1
  have X0 : Stand p l e ({ frames := 1, cells := 0, slots := 0, locals := 12 } : Room) s m #[(.ref w_CANCELLED), (.ref w_COMPLETED)] below meth c s₁ [] 0 0 := Stand.of_body Bd
  have e0 : s₁.heap = h0 := by rw [← hh, Bd.state]; rfl
  have N0 := Fr.nil n0
  show OGot p.tables e below (s₁.setTop (entryFrame m #[(.ref w_CANCELLED), (.ref w_COMPLETED)] 2)) _
  refine OGot.go (fun t k => castTop (ef2_26 m w_CANCELLED w_COMPLETED) k) ?_
  show OGot p.tables e below (s₁.setTop (mkF m 0 #[.val (.ref w_CANCELLED), .val (.ref w_COMPLETED)] [])) _
  refine OGot.go (fun t k => XS.aloadN X0.here hx rfl (hb hby d2_0) rfl rfl k) ?_
  show OGot p.tables e below (s₁.setTop (mkF m 1 #[.val (.ref w_CANCELLED), .val (.ref w_COMPLETED)] [(.ref w_CANCELLED)])) _
  obtain ⟨cq3, kq3, q3a, q3b, q3c⟩ := isOf hZ e0 (G.2.2.2.2.2.2.2.1.ext O0.2)
  obtain ⟨_, _, ⟨T3, L3, k3, n3⟩, -, X3, ⟨Lc3, hQ3, l3, y3, z3⟩, st3⟩ := X0.virtualBackUp hx (x := (⟨"com/example/hermit_crab/hermitcrab/JobState", "ordinal", "()I"⟩ : MethodName)) (y := (⟨"java/lang/Enum", "ordinal", "()I"⟩ : MethodName)) (owner := "java/lang/Enum") hown (mvT hZ (ow hw 16 rfl)) (mvT hZ (ow hw 17 rfl)) (mvT hZ (ow hw 18 rfl)) (by decide) (mvT hZ (ow hw 20 rfl)) (mvT hZ (ow hw 19 rfl)) (backOf (W := 0) (rm3_4 l Z a0 hw [] G  h0 n0 O0 ) hZ (ow hw 22 rfl) (ow hw 21 rfl) (by decide) (by decide)) q3a q3c (g := (mkF m 1 #[.val (.ref w_CANCELLED), .val (.ref w_COMPLETED)] [(.ref w_CANCELLED)])) rfl (by rw [hml]; rfl) (Steps.refl _) (argsL := []) (rest := []) (lenOf pd_1 rfl) rfl (by show 2 * 0 + _ ≤ _; exact Nat.le_of_eq rfl) (hb hby d2_1) (fun _ _ => ⟨rfl, e0, (by decide : 0 + 0 ≤ _), (by decide : 0 + 0 ≤ _)⟩)
  dsimp only [Pt.U, Pt.locs, Pt.cells, Pt.slots] at X3 l3 y3 z3 st3 hQ3
  subst l3 y3 z3
  obtain ⟨rfl, N3q, e3⟩ := hQ3
  have N3 := Fr.app N0 N3q
  refine OGot.on st3 ?_
  show OGot p.tables e below (T3.setTop (mkF m 4 #[.val (.ref w_CANCELLED), .val (.ref w_COMPLETED)] [(.int (4 : Int32))])) _
  refine OGot.go (fun t k => XS.tswIn X3.here hx rfl (pc0 := 4) (pc' := 116) rfl (hb hby d2_4) rfl (by decide) (o := 112) (by decide) (by decide) (by decide) k) ?_
  show OGot p.tables e below (T3.setTop (mkF m 116 #[.val (.ref w_CANCELLED), .val (.ref w_COMPLETED)] [])) _
  refine OGot.go (fun t k => XS.iconst X3.here hx rfl (hb hby d2_116) k) ?_
  show OGot p.tables e below (T3.setTop (mkF m 117 #[.val (.ref w_CANCELLED), .val (.ref w_COMPLETED)] [(.int (0 : Int32))])) _
  obtain ⟨fs, hr, hrun, hended, hW, hsame⟩ := X3.leave (v := some (.int (0 : Int32))) (fun h => by rw [Bd.returns] at h; cases h)
  refine ⟨_, _, retN X3 hx (t := .boolean) Bd.returns (by simp) (hb hby d2_117) hr, hrun, hended, _, _, rfl, ?_, ⟨_, rfl⟩, hW, hsame.mono (by decide) (by decide)⟩
  exact (⟨rfl, N3, e3⟩ : Q2_26 Z w_PENDING w_FAILED w_RUNNING w_CANCELLED w_COMPLETED  h0 n0 _ T3.heap _)
def Q2_27 (Z : State) (w_PENDING : Addr) (w_FAILED : Addr) (w_RUNNING : Addr) (w_CANCELLED : Addr) (w_COMPLETED : Addr)  (h0 : Heap) (n0 : Nat) (v : Option Value) (h : Heap) (L : List Loc) : Prop := v = some (.int (0 : Int32)) ∧ Fr n0 L ∧ h = h0
theorem ef2_27 (m : MethodId) (x0 : Addr) (x1 : Addr) : entryFrame m #[(.ref x0), (.ref x1)] 2 = mkF m 0 #[.val (.ref x0), .val (.ref x1)] [] := by first | (simp [entryFrame, mkF, argsToLocals, Value.category]; done) | rfl
set_option maxRecDepth 65536 in
set_option maxHeartbeats 40000000 in
theorem rm2_27 (l : Launch) (Z : State) (a0 : Array Value) (hw : ∀ d ∈ tables_1, d.before a0 Z = true) (ws : List Jvm.Cond) {w_PENDING : Addr} {w_FAILED : Addr} {w_RUNNING : Addr} {w_CANCELLED : Addr} {w_COMPLETED : Addr} (G : Glob Z w_PENDING w_FAILED w_RUNNING w_CANCELLED w_COMPLETED)  (h0 : Heap) (n0 : Nat) (O0 : Old Z n0 h0) :
    MetFree l (⟨"com/example/hermit_crab/hermitcrab/JobState", "canMoveTo", "(Lcom/example/hermit_crab/hermitcrab/JobState;)Z"⟩ : MethodName) (head1 (Jvm.Cond.code (⟨"com/example/hermit_crab/hermitcrab/JobState", "canMoveTo", "(Lcom/example/hermit_crab/hermitcrab/JobState;)Z"⟩ : MethodName) prog_6_method_5_code 2 (some .boolean) :: ws) ({ frames := 1, cells := 0, slots := 0, locals := 12 } : Room)) (fun a U => a = #[(.ref w_CANCELLED), (.ref w_FAILED)] ∧ Z.Warmed39 U.vm ∧ U.heap = h0) (fun _ _ _ _ _ => True) (fun _ U o U' => ∃ v L, o = .returned v ∧ Q2_27 Z w_PENDING w_FAILED w_RUNNING w_CANCELLED w_COMPLETED  h0 n0 v U'.heap L ∧ FrameEnd U o U' L ({ frames := 1, cells := 0, slots := 0, locals := 12 } : Room).cells ({ frames := 1, cells := 0, slots := 0, locals := 12 } : Room).slots) := by
  refine MetFree.of_bodySF (plainFor_of_name pn_com_example_hermit_crab_hermitcrab_JobState) hisR ?_
  intro p e s m args below meth c s₁ Bd hml0 hP hK
  obtain ⟨rfl, hZ, hh⟩ := hP
  have hx := Bd.exec
  have hby := Bd.bytes
  have hml : c.maxLocals = 2 := hml0
  have hown : s.vm.findClass "com/example/hermit_crab/hermitcrab/JobState" = some m.cls := findClass_of_methodNamed Bd.named
  have hnm := (name_of_methodNamed Bd.named Bd.method).1
  have X0 : Stand p l e ({ frames := 1, cells := 0, slots := 0, locals := 12 } : Room) s m #[(.ref w_CANCELLED), (.ref w_FAILED)] below meth c s₁ [] 0 0 := Stand.of_body Bd
  have e0 : s₁.heap = h0 := by rw [← hh, Bd.state]; rfl
  have N0 := Fr.nil n0
  show OGot p.tables e below (s₁.setTop (entryFrame m #[(.ref w_CANCELLED), (.ref w_FAILED)] 2)) _
  refine OGot.go (fun t k => castTop (ef2_27 m w_CANCELLED w_FAILED) k) ?_
  show OGot p.tables e below (s₁.setTop (mkF m 0 #[.val (.ref w_CANCELLED), .val (.ref w_FAILED)] [])) _
  refine OGot.go (fun t k => XS.aloadN X0.here hx rfl (hb hby d2_0) rfl rfl k) ?_
  show OGot p.tables e below (s₁.setTop (mkF m 1 #[.val (.ref w_CANCELLED), .val (.ref w_FAILED)] [(.ref w_CANCELLED)])) _
  obtain ⟨cq3, kq3, q3a, q3b, q3c⟩ := isOf hZ e0 (G.2.2.2.2.2.2.2.1.ext O0.2)
  obtain ⟨_, _, ⟨T3, L3, k3, n3⟩, -, X3, ⟨Lc3, hQ3, l3, y3, z3⟩, st3⟩ := X0.virtualBackUp hx (x := (⟨"com/example/hermit_crab/hermitcrab/JobState", "ordinal", "()I"⟩ : MethodName)) (y := (⟨"java/lang/Enum", "ordinal", "()I"⟩ : MethodName)) (owner := "java/lang/Enum") hown (mvT hZ (ow hw 16 rfl)) (mvT hZ (ow hw 17 rfl)) (mvT hZ (ow hw 18 rfl)) (by decide) (mvT hZ (ow hw 20 rfl)) (mvT hZ (ow hw 19 rfl)) (backOf (W := 0) (rm3_4 l Z a0 hw [] G  h0 n0 O0 ) hZ (ow hw 22 rfl) (ow hw 21 rfl) (by decide) (by decide)) q3a q3c (g := (mkF m 1 #[.val (.ref w_CANCELLED), .val (.ref w_FAILED)] [(.ref w_CANCELLED)])) rfl (by rw [hml]; rfl) (Steps.refl _) (argsL := []) (rest := []) (lenOf pd_1 rfl) rfl (by show 2 * 0 + _ ≤ _; exact Nat.le_of_eq rfl) (hb hby d2_1) (fun _ _ => ⟨rfl, e0, (by decide : 0 + 0 ≤ _), (by decide : 0 + 0 ≤ _)⟩)
  dsimp only [Pt.U, Pt.locs, Pt.cells, Pt.slots] at X3 l3 y3 z3 st3 hQ3
  subst l3 y3 z3
  obtain ⟨rfl, N3q, e3⟩ := hQ3
  have N3 := Fr.app N0 N3q
  refine OGot.on st3 ?_
  show OGot p.tables e below (T3.setTop (mkF m 4 #[.val (.ref w_CANCELLED), .val (.ref w_FAILED)] [(.int (4 : Int32))])) _
  refine OGot.go (fun t k => XS.tswIn X3.here hx rfl (pc0 := 4) (pc' := 116) rfl (hb hby d2_4) rfl (by decide) (o := 112) (by decide) (by decide) (by decide) k) ?_
  show OGot p.tables e below (T3.setTop (mkF m 116 #[.val (.ref w_CANCELLED), .val (.ref w_FAILED)] [])) _
  refine OGot.go (fun t k => XS.iconst X3.here hx rfl (hb hby d2_116) k) ?_
  show OGot p.tables e below (T3.setTop (mkF m 117 #[.val (.ref w_CANCELLED), .val (.ref w_FAILED)] [(.int (0 : Int32))])) _
  obtain ⟨fs, hr, hrun, hended, hW, hsame⟩ := X3.leave (v := some (.int (0 : Int32))) (fun h => by rw [Bd.returns] at h; cases h)
  refine ⟨_, _, retN X3 hx (t := .boolean) Bd.returns (by simp) (hb hby d2_117) hr, hrun, hended, _, _, rfl, ?_, ⟨_, rfl⟩, hW, hsame.mono (by decide) (by decide)⟩
  exact (⟨rfl, N3, e3⟩ : Q2_27 Z w_PENDING w_FAILED w_RUNNING w_CANCELLED w_COMPLETED  h0 n0 _ T3.heap _)
def Q2_28 (Z : State) (w_PENDING : Addr) (w_FAILED : Addr) (w_RUNNING : Addr) (w_CANCELLED : Addr) (w_COMPLETED : Addr)  (h0 : Heap) (n0 : Nat) (v : Option Value) (h : Heap) (L : List Loc) : Prop := v = some (.int (0 : Int32)) ∧ Fr n0 L ∧ h = h0
theorem ef2_28 (m : MethodId) (x0 : Addr) : entryFrame m #[(.ref x0), (.ref x0)] 2 = mkF m 0 #[.val (.ref x0), .val (.ref x0)] [] := by first | (simp [entryFrame, mkF, argsToLocals, Value.category]; done) | rfl
set_option maxRecDepth 65536 in
set_option maxHeartbeats 40000000 in
theorem rm2_28 (l : Launch) (Z : State) (a0 : Array Value) (hw : ∀ d ∈ tables_1, d.before a0 Z = true) (ws : List Jvm.Cond) {w_PENDING : Addr} {w_FAILED : Addr} {w_RUNNING : Addr} {w_CANCELLED : Addr} {w_COMPLETED : Addr} (G : Glob Z w_PENDING w_FAILED w_RUNNING w_CANCELLED w_COMPLETED)  (h0 : Heap) (n0 : Nat) (O0 : Old Z n0 h0) :
    MetFree l (⟨"com/example/hermit_crab/hermitcrab/JobState", "canMoveTo", "(Lcom/example/hermit_crab/hermitcrab/JobState;)Z"⟩ : MethodName) (head1 (Jvm.Cond.code (⟨"com/example/hermit_crab/hermitcrab/JobState", "canMoveTo", "(Lcom/example/hermit_crab/hermitcrab/JobState;)Z"⟩ : MethodName) prog_6_method_5_code 2 (some .boolean) :: ws) ({ frames := 1, cells := 0, slots := 0, locals := 12 } : Room)) (fun a U => a = #[(.ref w_CANCELLED), (.ref w_CANCELLED)] ∧ Z.Warmed39 U.vm ∧ U.heap = h0) (fun _ _ _ _ _ => True) (fun _ U o U' => ∃ v L, o = .returned v ∧ Q2_28 Z w_PENDING w_FAILED w_RUNNING w_CANCELLED w_COMPLETED  h0 n0 v U'.heap L ∧ FrameEnd U o U' L ({ frames := 1, cells := 0, slots := 0, locals := 12 } : Room).cells ({ frames := 1, cells := 0, slots := 0, locals := 12 } : Room).slots) := by
  refine MetFree.of_bodySF (plainFor_of_name pn_com_example_hermit_crab_hermitcrab_JobState) hisR ?_
  intro p e s m args below meth c s₁ Bd hml0 hP hK
  obtain ⟨rfl, hZ, hh⟩ := hP
  have hx := Bd.exec
  have hby := Bd.bytes
  have hml : c.maxLocals = 2 := hml0
  have hown : s.vm.findClass "com/example/hermit_crab/hermitcrab/JobState" = some m.cls := findClass_of_methodNamed Bd.named
  have hnm := (name_of_methodNamed Bd.named Bd.method).1
  have X0 : Stand p l e ({ frames := 1, cells := 0, slots := 0, locals := 12 } : Room) s m #[(.ref w_CANCELLED), (.ref w_CANCELLED)] below meth c s₁ [] 0 0 := Stand.of_body Bd
  have e0 : s₁.heap = h0 := by rw [← hh, Bd.state]; rfl
  have N0 := Fr.nil n0
  show OGot p.tables e below (s₁.setTop (entryFrame m #[(.ref w_CANCELLED), (.ref w_CANCELLED)] 2)) _
  refine OGot.go (fun t k => castTop (ef2_28 m w_CANCELLED) k) ?_
  show OGot p.tables e below (s₁.setTop (mkF m 0 #[.val (.ref w_CANCELLED), .val (.ref w_CANCELLED)] [])) _
  refine OGot.go (fun t k => XS.aloadN X0.here hx rfl (hb hby d2_0) rfl rfl k) ?_
  show OGot p.tables e below (s₁.setTop (mkF m 1 #[.val (.ref w_CANCELLED), .val (.ref w_CANCELLED)] [(.ref w_CANCELLED)])) _
  obtain ⟨cq2, kq2, q2a, q2b, q2c⟩ := isOf hZ e0 (G.2.2.2.2.2.2.2.1.ext O0.2)
  obtain ⟨_, _, ⟨T2, L2, k2, n2⟩, -, X2, ⟨Lc2, hQ2, l2, y2, z2⟩, st2⟩ := X0.virtualBackUp hx (x := (⟨"com/example/hermit_crab/hermitcrab/JobState", "ordinal", "()I"⟩ : MethodName)) (y := (⟨"java/lang/Enum", "ordinal", "()I"⟩ : MethodName)) (owner := "java/lang/Enum") hown (mvT hZ (ow hw 16 rfl)) (mvT hZ (ow hw 17 rfl)) (mvT hZ (ow hw 18 rfl)) (by decide) (mvT hZ (ow hw 20 rfl)) (mvT hZ (ow hw 19 rfl)) (backOf (W := 0) (rm3_4 l Z a0 hw [] G  h0 n0 O0 ) hZ (ow hw 22 rfl) (ow hw 21 rfl) (by decide) (by decide)) q2a q2c (g := (mkF m 1 #[.val (.ref w_CANCELLED), .val (.ref w_CANCELLED)] [(.ref w_CANCELLED)])) rfl (by rw [hml]; rfl) (Steps.refl _) (argsL := []) (rest := []) (lenOf pd_1 rfl) rfl (by show 2 * 0 + _ ≤ _; exact Nat.le_of_eq rfl) (hb hby d2_1) (fun _ _ => ⟨rfl, e0, (by decide : 0 + 0 ≤ _), (by decide : 0 + 0 ≤ _)⟩)
  dsimp only [Pt.U, Pt.locs, Pt.cells, Pt.slots] at X2 l2 y2 z2 st2 hQ2
  subst l2 y2 z2
  obtain ⟨rfl, N2q, e2⟩ := hQ2
  have N2 := Fr.app N0 N2q
  refine OGot.on st2 ?_
  show OGot p.tables e below (T2.setTop (mkF m 4 #[.val (.ref w_CANCELLED), .val (.ref w_CANCELLED)] [(.int (4 : Int32))])) _
  refine OGot.go (fun t k => XS.tswIn X2.here hx rfl (pc0 := 4) (pc' := 116) rfl (hb hby d2_4) rfl (by decide) (o := 112) (by decide) (by decide) (by decide) k) ?_
  show OGot p.tables e below (T2.setTop (mkF m 116 #[.val (.ref w_CANCELLED), .val (.ref w_CANCELLED)] [])) _
  refine OGot.go (fun t k => XS.iconst X2.here hx rfl (hb hby d2_116) k) ?_
  show OGot p.tables e below (T2.setTop (mkF m 117 #[.val (.ref w_CANCELLED), .val (.ref w_CANCELLED)] [(.int (0 : Int32))])) _
  obtain ⟨fs, hr, hrun, hended, hW, hsame⟩ := X2.leave (v := some (.int (0 : Int32))) (fun h => by rw [Bd.returns] at h; cases h)
  refine ⟨_, _, retN X2 hx (t := .boolean) Bd.returns (by simp) (hb hby d2_117) hr, hrun, hended, _, _, rfl, ?_, ⟨_, rfl⟩, hW, hsame.mono (by decide) (by decide)⟩
  exact (⟨rfl, N2, e2⟩ : Q2_28 Z w_PENDING w_FAILED w_RUNNING w_CANCELLED w_COMPLETED  h0 n0 _ T2.heap _)
def Q2_29 (Z : State) (w_PENDING : Addr) (w_FAILED : Addr) (w_RUNNING : Addr) (w_CANCELLED : Addr) (w_COMPLETED : Addr)  (h0 : Heap) (n0 : Nat) (v : Option Value) (h : Heap) (L : List Loc) : Prop := v = some (.int (0 : Int32)) ∧ Fr n0 L ∧ h = h0
theorem ef2_29 (m : MethodId) (x0 : Addr) : entryFrame m #[(.ref x0), .null] 2 = mkF m 0 #[.val (.ref x0), .val .null] [] := by first | (simp [entryFrame, mkF, argsToLocals, Value.category]; done) | rfl
set_option maxRecDepth 65536 in
set_option maxHeartbeats 40000000 in
theorem rm2_29 (l : Launch) (Z : State) (a0 : Array Value) (hw : ∀ d ∈ tables_1, d.before a0 Z = true) (ws : List Jvm.Cond) {w_PENDING : Addr} {w_FAILED : Addr} {w_RUNNING : Addr} {w_CANCELLED : Addr} {w_COMPLETED : Addr} (G : Glob Z w_PENDING w_FAILED w_RUNNING w_CANCELLED w_COMPLETED)  (h0 : Heap) (n0 : Nat) (O0 : Old Z n0 h0) :
    MetFree l (⟨"com/example/hermit_crab/hermitcrab/JobState", "canMoveTo", "(Lcom/example/hermit_crab/hermitcrab/JobState;)Z"⟩ : MethodName) (head1 (Jvm.Cond.code (⟨"com/example/hermit_crab/hermitcrab/JobState", "canMoveTo", "(Lcom/example/hermit_crab/hermitcrab/JobState;)Z"⟩ : MethodName) prog_6_method_5_code 2 (some .boolean) :: ws) ({ frames := 1, cells := 0, slots := 0, locals := 12 } : Room)) (fun a U => a = #[(.ref w_CANCELLED), .null] ∧ Z.Warmed39 U.vm ∧ U.heap = h0) (fun _ _ _ _ _ => True) (fun _ U o U' => ∃ v L, o = .returned v ∧ Q2_29 Z w_PENDING w_FAILED w_RUNNING w_CANCELLED w_COMPLETED  h0 n0 v U'.heap L ∧ FrameEnd U o U' L ({ frames := 1, cells := 0, slots := 0, locals := 12 } : Room).cells ({ frames := 1, cells := 0, slots := 0, locals := 12 } : Room).slots) := by
  refine MetFree.of_bodySF (plainFor_of_name pn_com_example_hermit_crab_hermitcrab_JobState) hisR ?_
  intro p e s m args below meth c s₁ Bd hml0 hP hK
  obtain ⟨rfl, hZ, hh⟩ := hP
  have hx := Bd.exec
  have hby := Bd.bytes
  have hml : c.maxLocals = 2 := hml0
  have hown : s.vm.findClass "com/example/hermit_crab/hermitcrab/JobState" = some m.cls := findClass_of_methodNamed Bd.named
  have hnm := (name_of_methodNamed Bd.named Bd.method).1
  have X0 : Stand p l e ({ frames := 1, cells := 0, slots := 0, locals := 12 } : Room) s m #[(.ref w_CANCELLED), .null] below meth c s₁ [] 0 0 := Stand.of_body Bd
  have e0 : s₁.heap = h0 := by rw [← hh, Bd.state]; rfl
  have N0 := Fr.nil n0
  show OGot p.tables e below (s₁.setTop (entryFrame m #[(.ref w_CANCELLED), .null] 2)) _
  refine OGot.go (fun t k => castTop (ef2_29 m w_CANCELLED) k) ?_
  show OGot p.tables e below (s₁.setTop (mkF m 0 #[.val (.ref w_CANCELLED), .val .null] [])) _
  refine OGot.go (fun t k => XS.aloadN X0.here hx rfl (hb hby d2_0) rfl rfl k) ?_
  show OGot p.tables e below (s₁.setTop (mkF m 1 #[.val (.ref w_CANCELLED), .val .null] [(.ref w_CANCELLED)])) _
  obtain ⟨cq2, kq2, q2a, q2b, q2c⟩ := isOf hZ e0 (G.2.2.2.2.2.2.2.1.ext O0.2)
  obtain ⟨_, _, ⟨T2, L2, k2, n2⟩, -, X2, ⟨Lc2, hQ2, l2, y2, z2⟩, st2⟩ := X0.virtualBackUp hx (x := (⟨"com/example/hermit_crab/hermitcrab/JobState", "ordinal", "()I"⟩ : MethodName)) (y := (⟨"java/lang/Enum", "ordinal", "()I"⟩ : MethodName)) (owner := "java/lang/Enum") hown (mvT hZ (ow hw 16 rfl)) (mvT hZ (ow hw 17 rfl)) (mvT hZ (ow hw 18 rfl)) (by decide) (mvT hZ (ow hw 20 rfl)) (mvT hZ (ow hw 19 rfl)) (backOf (W := 0) (rm3_4 l Z a0 hw [] G  h0 n0 O0 ) hZ (ow hw 22 rfl) (ow hw 21 rfl) (by decide) (by decide)) q2a q2c (g := (mkF m 1 #[.val (.ref w_CANCELLED), .val .null] [(.ref w_CANCELLED)])) rfl (by rw [hml]; rfl) (Steps.refl _) (argsL := []) (rest := []) (lenOf pd_1 rfl) rfl (by show 2 * 0 + _ ≤ _; exact Nat.le_of_eq rfl) (hb hby d2_1) (fun _ _ => ⟨rfl, e0, (by decide : 0 + 0 ≤ _), (by decide : 0 + 0 ≤ _)⟩)
  dsimp only [Pt.U, Pt.locs, Pt.cells, Pt.slots] at X2 l2 y2 z2 st2 hQ2
  subst l2 y2 z2
  obtain ⟨rfl, N2q, e2⟩ := hQ2
  have N2 := Fr.app N0 N2q
  refine OGot.on st2 ?_
  show OGot p.tables e below (T2.setTop (mkF m 4 #[.val (.ref w_CANCELLED), .val .null] [(.int (4 : Int32))])) _
  refine OGot.go (fun t k => XS.tswIn X2.here hx rfl (pc0 := 4) (pc' := 116) rfl (hb hby d2_4) rfl (by decide) (o := 112) (by decide) (by decide) (by decide) k) ?_
  show OGot p.tables e below (T2.setTop (mkF m 116 #[.val (.ref w_CANCELLED), .val .null] [])) _
  refine OGot.go (fun t k => XS.iconst X2.here hx rfl (hb hby d2_116) k) ?_
  show OGot p.tables e below (T2.setTop (mkF m 117 #[.val (.ref w_CANCELLED), .val .null] [(.int (0 : Int32))])) _
  obtain ⟨fs, hr, hrun, hended, hW, hsame⟩ := X2.leave (v := some (.int (0 : Int32))) (fun h => by rw [Bd.returns] at h; cases h)
  refine ⟨_, _, retN X2 hx (t := .boolean) Bd.returns (by simp) (hb hby d2_117) hr, hrun, hended, _, _, rfl, ?_, ⟨_, rfl⟩, hW, hsame.mono (by decide) (by decide)⟩
  exact (⟨rfl, N2, e2⟩ : Q2_29 Z w_PENDING w_FAILED w_RUNNING w_CANCELLED w_COMPLETED  h0 n0 _ T2.heap _)
def Q0 (Z : State) (w_PENDING : Addr) (w_FAILED : Addr) (w_RUNNING : Addr) (w_CANCELLED : Addr) (w_COMPLETED : Addr) (p1 : Int32) (p2 : Int32) (h0 : Heap) (n0 : Nat) (v : Option Value) (h : Heap) (L : List Loc) : Prop := v = some (.int (1 : Int32)) ∧ Fr n0 L
theorem ef0 (m : MethodId) (x0 : Int32) (x1 : Int32) : entryFrame m #[(.int x0), (.int x1)] maxLocals = mkF m 0 #[.val (.int x0), .val (.int x1), .unset, .unset, .unset, .unset, .unset] [] := by first | (simp [entryFrame, mkF, argsToLocals, Value.category, maxLocals]; done) | rfl
set_option maxRecDepth 65536 in
set_option maxHeartbeats 40000000 in
theorem rm0 (l : Launch) (Z : State) (a0 : Array Value) (hw : ∀ d ∈ tables_1, d.before a0 Z = true) (ws : List Jvm.Cond) {w_PENDING : Addr} {w_FAILED : Addr} {w_RUNNING : Addr} {w_CANCELLED : Addr} {w_COMPLETED : Addr} (G : Glob Z w_PENDING w_FAILED w_RUNNING w_CANCELLED w_COMPLETED) (p1 : Int32) (p2 : Int32) (h0 : Heap) (n0 : Nat) (O0 : Old Z n0 h0) :
    MetFree l x (head1 (Jvm.Cond.code x code maxLocals ret :: ws) room_1) (fun a U => a = #[(.int p1), (.int p2)] ∧ Z.Warmed39 U.vm ∧ U.heap = h0) (fun _ _ _ _ _ => True) (fun _ U o U' => ∃ v L, o = .returned v ∧ Q0 Z w_PENDING w_FAILED w_RUNNING w_CANCELLED w_COMPLETED p1 p2 h0 n0 v U'.heap L ∧ FrameEnd U o U' L room_1.cells room_1.slots) := by
  refine MetFree.of_bodySF (plainFor_of_name pn_com_example_hermit_crab_hermitcrab_JobStateCanMoveToPinLaw) hisR ?_
  intro p e s m args below meth c s₁ Bd hml0 hP hK
  obtain ⟨rfl, hZ, hh⟩ := hP
  have hx := Bd.exec
  have hby := Bd.bytes
  have hml : c.maxLocals = 7 := hml0
  have hown : s.vm.findClass "com/example/hermit_crab/hermitcrab/JobStateCanMoveToPinLaw" = some m.cls := findClass_of_methodNamed Bd.named
  have hnm := (name_of_methodNamed Bd.named Bd.method).1
  have X0 : Stand p l e room_1 s m #[(.int p1), (.int p2)] below meth c s₁ [] 0 0 := Stand.of_body Bd
  have e0 : s₁.heap = h0 := by rw [← hh, Bd.state]; rfl
  have N0 := Fr.nil n0
  show OGot p.tables e below (s₁.setTop (entryFrame m #[(.int p1), (.int p2)] maxLocals)) _
  refine OGot.go (fun t k => castTop (ef0 m p1 p2) k) ?_
  show OGot p.tables e below (s₁.setTop (mkF m 0 #[.val (.int p1), .val (.int p2), .unset, .unset, .unset, .unset, .unset] [])) _
  refine OGot.go (fun t k => XS.iloadN X0.here hx rfl (hb hby at_0) rfl k) ?_
  show OGot p.tables e below (s₁.setTop (mkF m 1 #[.val (.int p1), .val (.int p2), .unset, .unset, .unset, .unset, .unset] [(.int p1)])) _
  refine OGot.go (fun t k => X0.ldcInt hx hown (mvT hZ (ow hw 0 rfl)) (g := (mkF m 1 #[.val (.int p1), .val (.int p2), .unset, .unset, .unset, .unset, .unset] [(.int p1)])) rfl (hb hby at_1) _ k) ?_
  show OGot p.tables e below (s₁.setTop (mkF m 3 #[.val (.int p1), .val (.int p2), .unset, .unset, .unset, .unset, .unset] [(.int (2147483647 : Int32)), (.int p1)])) _
  refine OGot.go (fun t k => XS.iand X0.here hx rfl (hb hby at_3) rfl k) ?_
  show OGot p.tables e below (s₁.setTop (mkF m 4 #[.val (.int p1), .val (.int p2), .unset, .unset, .unset, .unset, .unset] [(.int (p1 &&& (2147483647 : Int32)))])) _
  refine OGot.go (fun t k => XS.iconst X0.here hx rfl (hb hby at_4) k) ?_
  show OGot p.tables e below (s₁.setTop (mkF m 5 #[.val (.int p1), .val (.int p2), .unset, .unset, .unset, .unset, .unset] [(.int (5 : Int32)), (.int (p1 &&& (2147483647 : Int32)))])) _
  refine OGot.go (fun t k => iremM X0 hx rfl (hb hby at_5) rfl (by decide) k) ?_
  show OGot p.tables e below (s₁.setTop (mkF m 6 #[.val (.int p1), .val (.int p2), .unset, .unset, .unset, .unset, .unset] [(.int ((p1 &&& (2147483647 : Int32)) % (5 : Int32)))])) _
  rcases own_rem5 p1 with hk3 | hk4 | hk5 | hk6 | hk7
  · rw [hk3]
    show OGot p.tables e below (s₁.setTop (mkF m 6 #[.val (.int p1), .val (.int p2), .unset, .unset, .unset, .unset, .unset] [(.int (0 : Int32))])) _
    refine OGot.go (fun t k => XS.istoreN X0.here hx rfl (hb hby at_6) rfl (l' := #[.val (.int p1), .val (.int p2), .val (.int (0 : Int32)), .unset, .unset, .unset, .unset]) rfl k) ?_
    show OGot p.tables e below (s₁.setTop (mkF m 7 #[.val (.int p1), .val (.int p2), .val (.int (0 : Int32)), .unset, .unset, .unset, .unset] [])) _
    refine OGot.go (fun t k => XS.iloadN X0.here hx rfl (hb hby at_7) rfl k) ?_
    show OGot p.tables e below (s₁.setTop (mkF m 8 #[.val (.int p1), .val (.int p2), .val (.int (0 : Int32)), .unset, .unset, .unset, .unset] [(.int p2)])) _
    refine OGot.go (fun t k => X0.ldcInt hx hown (mvT hZ (ow hw 0 rfl)) (g := (mkF m 8 #[.val (.int p1), .val (.int p2), .val (.int (0 : Int32)), .unset, .unset, .unset, .unset] [(.int p2)])) rfl (hb hby at_8) _ k) ?_
    show OGot p.tables e below (s₁.setTop (mkF m 10 #[.val (.int p1), .val (.int p2), .val (.int (0 : Int32)), .unset, .unset, .unset, .unset] [(.int (2147483647 : Int32)), (.int p2)])) _
    refine OGot.go (fun t k => XS.iand X0.here hx rfl (hb hby at_10) rfl k) ?_
    show OGot p.tables e below (s₁.setTop (mkF m 11 #[.val (.int p1), .val (.int p2), .val (.int (0 : Int32)), .unset, .unset, .unset, .unset] [(.int (p2 &&& (2147483647 : Int32)))])) _
    refine OGot.go (fun t k => XS.bipush X0.here hx rfl (hb hby at_11) k) ?_
    show OGot p.tables e below (s₁.setTop (mkF m 13 #[.val (.int p1), .val (.int p2), .val (.int (0 : Int32)), .unset, .unset, .unset, .unset] [(.int (6 : Int32)), (.int (p2 &&& (2147483647 : Int32)))])) _
    refine OGot.go (fun t k => iremM X0 hx rfl (hb hby at_13) rfl (by decide) k) ?_
    show OGot p.tables e below (s₁.setTop (mkF m 14 #[.val (.int p1), .val (.int p2), .val (.int (0 : Int32)), .unset, .unset, .unset, .unset] [(.int ((p2 &&& (2147483647 : Int32)) % (6 : Int32)))])) _
    rcases own_rem6 p2 with hk8 | hk9 | hk10 | hk11 | hk12 | hk13
    · rw [hk8]
      show OGot p.tables e below (s₁.setTop (mkF m 14 #[.val (.int p1), .val (.int p2), .val (.int (0 : Int32)), .unset, .unset, .unset, .unset] [(.int (0 : Int32))])) _
      refine OGot.go (fun t k => XS.istoreN X0.here hx rfl (hb hby at_14) rfl (l' := #[.val (.int p1), .val (.int p2), .val (.int (0 : Int32)), .val (.int (0 : Int32)), .unset, .unset, .unset]) rfl k) ?_
      show OGot p.tables e below (s₁.setTop (mkF m 15 #[.val (.int p1), .val (.int p2), .val (.int (0 : Int32)), .val (.int (0 : Int32)), .unset, .unset, .unset] [])) _
      refine OGot.go (fun t k => XS.iloadN X0.here hx rfl (hb hby at_15) rfl k) ?_
      show OGot p.tables e below (s₁.setTop (mkF m 16 #[.val (.int p1), .val (.int p2), .val (.int (0 : Int32)), .val (.int (0 : Int32)), .unset, .unset, .unset] [(.int (0 : Int32))])) _
      obtain ⟨_, _, ⟨T14, L14, k14, n14⟩, -, X14, ⟨Lc14, hQ14, l14, y14, z14⟩, st14⟩ := Jvm.LawKit.callS X0 hx (y := (⟨"com/example/hermit_crab/hermitcrab/JobStateCanMoveToPinLaw", "st", "(I)Lcom/example/hermit_crab/hermitcrab/JobState;"⟩ : MethodName)) hown (mvT hZ (ow hw 1 rfl)) (mvT hZ (ow hw 2 rfl)) (mvT hZ (ow hw 3 rfl)) (mvT hZ (ow hw 4 rfl)) (by decide) (backOf (W := 0) (rm1 l Z a0 hw [] G  h0 n0 O0 ) hZ (ow hw 4 rfl) (ow hw 3 rfl) (by decide) (by decide)) (g := (mkF m 16 #[.val (.int p1), .val (.int p2), .val (.int (0 : Int32)), .val (.int (0 : Int32)), .unset, .unset, .unset] [(.int (0 : Int32))])) rfl (by rw [hml]; rfl) (argsL := [(.int (0 : Int32))]) (rest := []) (lenOf pd_0 rfl) rfl (by show 2 * 0 + _ ≤ _; exact Nat.le_of_eq rfl) (hb hby at_16) (fun _ _ => ⟨rfl, e0, (by decide : 0 + 0 ≤ _), (by decide : 0 + 0 ≤ _)⟩)
      dsimp only [Pt.U, Pt.locs, Pt.cells, Pt.slots] at X14 l14 y14 z14 st14 hQ14
      subst l14 y14 z14
      obtain ⟨rfl, N14q, e14⟩ := hQ14
      have N14 := Fr.app N0 N14q
      refine OGot.go st14 ?_
      show OGot p.tables e below (T14.setTop (mkF m 19 #[.val (.int p1), .val (.int p2), .val (.int (0 : Int32)), .val (.int (0 : Int32)), .unset, .unset, .unset] [(.ref w_PENDING)])) _
      refine OGot.go (fun t k => XS.astore X14.here hx rfl (hb hby at_19) rfl rfl (l' := #[.val (.int p1), .val (.int p2), .val (.int (0 : Int32)), .val (.int (0 : Int32)), .val (.ref w_PENDING), .unset, .unset]) rfl k) ?_
      show OGot p.tables e below (T14.setTop (mkF m 21 #[.val (.int p1), .val (.int p2), .val (.int (0 : Int32)), .val (.int (0 : Int32)), .val (.ref w_PENDING), .unset, .unset] [])) _
      refine OGot.go (fun t k => XS.iloadN X14.here hx rfl (hb hby at_21) rfl k) ?_
      show OGot p.tables e below (T14.setTop (mkF m 22 #[.val (.int p1), .val (.int p2), .val (.int (0 : Int32)), .val (.int (0 : Int32)), .val (.ref w_PENDING), .unset, .unset] [(.int (0 : Int32))])) _
      refine OGot.go (fun t k => XS.iconst X14.here hx rfl (hb hby at_22) k) ?_
      show OGot p.tables e below (T14.setTop (mkF m 23 #[.val (.int p1), .val (.int p2), .val (.int (0 : Int32)), .val (.int (0 : Int32)), .val (.ref w_PENDING), .unset, .unset] [(.int (5 : Int32)), (.int (0 : Int32))])) _
      refine OGot.go (fun t k => XS.icmpYes X14.here hx rfl (pc0 := 23) (pc' := 30) rfl (hb hby at_23) rfl (by decide) (by decide) (by decide) k) ?_
      show OGot p.tables e below (T14.setTop (mkF m 30 #[.val (.int p1), .val (.int p2), .val (.int (0 : Int32)), .val (.int (0 : Int32)), .val (.ref w_PENDING), .unset, .unset] [])) _
      refine OGot.go (fun t k => XS.iloadN X14.here hx rfl (hb hby at_30) rfl k) ?_
      show OGot p.tables e below (T14.setTop (mkF m 31 #[.val (.int p1), .val (.int p2), .val (.int (0 : Int32)), .val (.int (0 : Int32)), .val (.ref w_PENDING), .unset, .unset] [(.int (0 : Int32))])) _
      obtain ⟨_, _, ⟨T15, L15, k15, n15⟩, -, X15, ⟨Lc15, hQ15, l15, y15, z15⟩, st15⟩ := Jvm.LawKit.callS X14 hx (y := (⟨"com/example/hermit_crab/hermitcrab/JobStateCanMoveToPinLaw", "st", "(I)Lcom/example/hermit_crab/hermitcrab/JobState;"⟩ : MethodName)) hown (mvT hZ (ow hw 1 rfl)) (mvT hZ (ow hw 2 rfl)) (mvT hZ (ow hw 3 rfl)) (mvT hZ (ow hw 4 rfl)) (by decide) (backOf (W := 0) (rm1 l Z a0 hw [] G  h0 n0 O0 ) hZ (ow hw 4 rfl) (ow hw 3 rfl) (by decide) (by decide)) (g := (mkF m 31 #[.val (.int p1), .val (.int p2), .val (.int (0 : Int32)), .val (.int (0 : Int32)), .val (.ref w_PENDING), .unset, .unset] [(.int (0 : Int32))])) rfl (by rw [hml]; rfl) (argsL := [(.int (0 : Int32))]) (rest := []) (lenOf pd_0 rfl) rfl (by show 2 * 0 + _ ≤ _; exact Nat.le_of_eq rfl) (hb hby at_31) (fun _ _ => ⟨rfl, e14, (by decide : 0 + 0 ≤ _), (by decide : 0 + 0 ≤ _)⟩)
      dsimp only [Pt.U, Pt.locs, Pt.cells, Pt.slots] at X15 l15 y15 z15 st15 hQ15
      subst l15 y15 z15
      obtain ⟨rfl, N15q, e15⟩ := hQ15
      have N15 := Fr.app N14 N15q
      refine OGot.go st15 ?_
      show OGot p.tables e below (T15.setTop (mkF m 34 #[.val (.int p1), .val (.int p2), .val (.int (0 : Int32)), .val (.int (0 : Int32)), .val (.ref w_PENDING), .unset, .unset] [(.ref w_PENDING)])) _
      refine OGot.go (fun t k => XS.astore X15.here hx rfl (hb hby at_34) rfl rfl (l' := #[.val (.int p1), .val (.int p2), .val (.int (0 : Int32)), .val (.int (0 : Int32)), .val (.ref w_PENDING), .val (.ref w_PENDING), .unset]) rfl k) ?_
      show OGot p.tables e below (T15.setTop (mkF m 36 #[.val (.int p1), .val (.int p2), .val (.int (0 : Int32)), .val (.int (0 : Int32)), .val (.ref w_PENDING), .val (.ref w_PENDING), .unset] [])) _
      refine OGot.go (fun t k => XS.iloadN X15.here hx rfl (hb hby at_36) rfl k) ?_
      show OGot p.tables e below (T15.setTop (mkF m 37 #[.val (.int p1), .val (.int p2), .val (.int (0 : Int32)), .val (.int (0 : Int32)), .val (.ref w_PENDING), .val (.ref w_PENDING), .unset] [(.int (0 : Int32))])) _
      refine OGot.go (fun t k => XS.iconst X15.here hx rfl (hb hby at_37) k) ?_
      show OGot p.tables e below (T15.setTop (mkF m 38 #[.val (.int p1), .val (.int p2), .val (.int (0 : Int32)), .val (.int (0 : Int32)), .val (.ref w_PENDING), .val (.ref w_PENDING), .unset] [(.int (5 : Int32)), (.int (0 : Int32))])) _
      refine OGot.go (fun t k => XS.icmpNo X15.here hx rfl (hb hby at_38) rfl (by decide) k) ?_
      show OGot p.tables e below (T15.setTop (mkF m 41 #[.val (.int p1), .val (.int p2), .val (.int (0 : Int32)), .val (.int (0 : Int32)), .val (.ref w_PENDING), .val (.ref w_PENDING), .unset] [])) _
      refine OGot.go (fun t k => X15.ldcInt hx hown (mvT hZ (ow hw 10 rfl)) (g := (mkF m 41 #[.val (.int p1), .val (.int p2), .val (.int (0 : Int32)), .val (.int (0 : Int32)), .val (.ref w_PENDING), .val (.ref w_PENDING), .unset] [])) rfl (hb hby at_41) _ k) ?_
      show OGot p.tables e below (T15.setTop (mkF m 43 #[.val (.int p1), .val (.int p2), .val (.int (0 : Int32)), .val (.int (0 : Int32)), .val (.ref w_PENDING), .val (.ref w_PENDING), .unset] [(.int (33202 : Int32))])) _
      refine OGot.go (fun t k => XS.iconst X15.here hx rfl (hb hby at_43) k) ?_
      show OGot p.tables e below (T15.setTop (mkF m 44 #[.val (.int p1), .val (.int p2), .val (.int (0 : Int32)), .val (.int (0 : Int32)), .val (.ref w_PENDING), .val (.ref w_PENDING), .unset] [(.int (5 : Int32)), (.int (33202 : Int32))])) _
      refine OGot.go (fun t k => XS.iloadN X15.here hx rfl (hb hby at_44) rfl k) ?_
      show OGot p.tables e below (T15.setTop (mkF m 45 #[.val (.int p1), .val (.int p2), .val (.int (0 : Int32)), .val (.int (0 : Int32)), .val (.ref w_PENDING), .val (.ref w_PENDING), .unset] [(.int (0 : Int32)), (.int (5 : Int32)), (.int (33202 : Int32))])) _
      refine OGot.go (fun t k => XS.imul X15.here hx rfl (hb hby at_45) rfl k) ?_
      show OGot p.tables e below (T15.setTop (mkF m 46 #[.val (.int p1), .val (.int p2), .val (.int (0 : Int32)), .val (.int (0 : Int32)), .val (.ref w_PENDING), .val (.ref w_PENDING), .unset] [(.int ((5 : Int32) * (0 : Int32))), (.int (33202 : Int32))])) _
      rw [show ((5 : Int32) * (0 : Int32)) = (0 : Int32) from by decide]
      show OGot p.tables e below (T15.setTop (mkF m 46 #[.val (.int p1), .val (.int p2), .val (.int (0 : Int32)), .val (.int (0 : Int32)), .val (.ref w_PENDING), .val (.ref w_PENDING), .unset] [(.int (0 : Int32)), (.int (33202 : Int32))])) _
      refine OGot.go (fun t k => XS.iloadN X15.here hx rfl (hb hby at_46) rfl k) ?_
      show OGot p.tables e below (T15.setTop (mkF m 47 #[.val (.int p1), .val (.int p2), .val (.int (0 : Int32)), .val (.int (0 : Int32)), .val (.ref w_PENDING), .val (.ref w_PENDING), .unset] [(.int (0 : Int32)), (.int (0 : Int32)), (.int (33202 : Int32))])) _
      refine OGot.go (fun t k => XS.iadd X15.here hx rfl (hb hby at_47) rfl k) ?_
      show OGot p.tables e below (T15.setTop (mkF m 48 #[.val (.int p1), .val (.int p2), .val (.int (0 : Int32)), .val (.int (0 : Int32)), .val (.ref w_PENDING), .val (.ref w_PENDING), .unset] [(.int ((0 : Int32) + (0 : Int32))), (.int (33202 : Int32))])) _
      rw [show ((0 : Int32) + (0 : Int32)) = (0 : Int32) from by decide]
      show OGot p.tables e below (T15.setTop (mkF m 48 #[.val (.int p1), .val (.int p2), .val (.int (0 : Int32)), .val (.int (0 : Int32)), .val (.ref w_PENDING), .val (.ref w_PENDING), .unset] [(.int (0 : Int32)), (.int (33202 : Int32))])) _
      refine OGot.go (fun t k => XS.ishr X15.here hx rfl (hb hby at_48) rfl k) ?_
      show OGot p.tables e below (T15.setTop (mkF m 49 #[.val (.int p1), .val (.int p2), .val (.int (0 : Int32)), .val (.int (0 : Int32)), .val (.ref w_PENDING), .val (.ref w_PENDING), .unset] [(.int ((33202 : Int32) >>> ((0 : Int32) &&& 31)))])) _
      rw [show ((33202 : Int32) >>> ((0 : Int32) &&& 31)) = (33202 : Int32) from by decide]
      show OGot p.tables e below (T15.setTop (mkF m 49 #[.val (.int p1), .val (.int p2), .val (.int (0 : Int32)), .val (.int (0 : Int32)), .val (.ref w_PENDING), .val (.ref w_PENDING), .unset] [(.int (33202 : Int32))])) _
      refine OGot.go (fun t k => XS.iconst X15.here hx rfl (hb hby at_49) k) ?_
      show OGot p.tables e below (T15.setTop (mkF m 50 #[.val (.int p1), .val (.int p2), .val (.int (0 : Int32)), .val (.int (0 : Int32)), .val (.ref w_PENDING), .val (.ref w_PENDING), .unset] [(.int (1 : Int32)), (.int (33202 : Int32))])) _
      refine OGot.go (fun t k => XS.iand X15.here hx rfl (hb hby at_50) rfl k) ?_
      show OGot p.tables e below (T15.setTop (mkF m 51 #[.val (.int p1), .val (.int p2), .val (.int (0 : Int32)), .val (.int (0 : Int32)), .val (.ref w_PENDING), .val (.ref w_PENDING), .unset] [(.int ((33202 : Int32) &&& (1 : Int32)))])) _
      rw [show ((33202 : Int32) &&& (1 : Int32)) = (0 : Int32) from by decide]
      show OGot p.tables e below (T15.setTop (mkF m 51 #[.val (.int p1), .val (.int p2), .val (.int (0 : Int32)), .val (.int (0 : Int32)), .val (.ref w_PENDING), .val (.ref w_PENDING), .unset] [(.int (0 : Int32))])) _
      refine OGot.go (fun t k => XS.ifYes X15.here hx rfl (pc0 := 51) (pc' := 58) rfl (hb hby at_51) rfl (by decide) (by decide) (by decide) k) ?_
      show OGot p.tables e below (T15.setTop (mkF m 58 #[.val (.int p1), .val (.int p2), .val (.int (0 : Int32)), .val (.int (0 : Int32)), .val (.ref w_PENDING), .val (.ref w_PENDING), .unset] [])) _
      refine OGot.go (fun t k => XS.iconst X15.here hx rfl (hb hby at_58) k) ?_
      show OGot p.tables e below (T15.setTop (mkF m 59 #[.val (.int p1), .val (.int p2), .val (.int (0 : Int32)), .val (.int (0 : Int32)), .val (.ref w_PENDING), .val (.ref w_PENDING), .unset] [(.int (0 : Int32))])) _
      refine OGot.go (fun t k => XS.istore X15.here hx rfl (hb hby at_59) rfl (l' := #[.val (.int p1), .val (.int p2), .val (.int (0 : Int32)), .val (.int (0 : Int32)), .val (.ref w_PENDING), .val (.ref w_PENDING), .val (.int (0 : Int32))]) rfl k) ?_
      show OGot p.tables e below (T15.setTop (mkF m 61 #[.val (.int p1), .val (.int p2), .val (.int (0 : Int32)), .val (.int (0 : Int32)), .val (.ref w_PENDING), .val (.ref w_PENDING), .val (.int (0 : Int32))] [])) _
      refine OGot.go (fun t k => XS.aload X15.here hx rfl (hb hby at_61) rfl rfl k) ?_
      show OGot p.tables e below (T15.setTop (mkF m 63 #[.val (.int p1), .val (.int p2), .val (.int (0 : Int32)), .val (.int (0 : Int32)), .val (.ref w_PENDING), .val (.ref w_PENDING), .val (.int (0 : Int32))] [(.ref w_PENDING)])) _
      refine OGot.go (fun t k => XS.aload X15.here hx rfl (hb hby at_63) rfl rfl k) ?_
      show OGot p.tables e below (T15.setTop (mkF m 65 #[.val (.int p1), .val (.int p2), .val (.int (0 : Int32)), .val (.int (0 : Int32)), .val (.ref w_PENDING), .val (.ref w_PENDING), .val (.int (0 : Int32))] [(.ref w_PENDING), (.ref w_PENDING)])) _
      obtain ⟨cq16, kq16, q16a, q16b, q16c⟩ := isOf hZ e15 (G.2.1.ext O0.2)
      obtain ⟨_, _, ⟨T16, L16, k16, n16⟩, -, X16, ⟨Lc16, hQ16, l16, y16, z16⟩, st16⟩ := X15.virtualBack hx (y := (⟨"com/example/hermit_crab/hermitcrab/JobState", "canMoveTo", "(Lcom/example/hermit_crab/hermitcrab/JobState;)Z"⟩ : MethodName)) (z := (⟨"com/example/hermit_crab/hermitcrab/JobState", "canMoveTo", "(Lcom/example/hermit_crab/hermitcrab/JobState;)Z"⟩ : MethodName)) hown (mvT hZ (ow hw 11 rfl)) (mvT hZ (ow hw 12 rfl)) (notFace_of_selects (args := #[]) (mvT hZ (ow hw 14 rfl))) (mvT hZ (ow hw 14 rfl)) (mvT hZ (ow hw 13 rfl)) (by decide) (backOf (W := 0) (rm2 l Z a0 hw [] G  h0 n0 O0 ) hZ (ow hw 15 rfl) (ow hw 6 rfl) (by decide) (by decide)) q16a q16c (g := (mkF m 65 #[.val (.int p1), .val (.int p2), .val (.int (0 : Int32)), .val (.int (0 : Int32)), .val (.ref w_PENDING), .val (.ref w_PENDING), .val (.int (0 : Int32))] [(.ref w_PENDING), (.ref w_PENDING)])) rfl (by rw [hml]; rfl) (Steps.refl _) (argsL := [(.ref w_PENDING)]) (rest := []) (lenOf pd_2 rfl) rfl (by show 2 * 0 + _ ≤ _; exact Nat.le_of_eq rfl) (hb hby at_65) (fun _ _ => ⟨rfl, e15, (by decide : 0 + 0 ≤ _), (by decide : 0 + 0 ≤ _)⟩)
      dsimp only [Pt.U, Pt.locs, Pt.cells, Pt.slots] at X16 l16 y16 z16 st16 hQ16
      subst l16 y16 z16
      obtain ⟨rfl, N16q, e16⟩ := hQ16
      have N16 := Fr.app N15 N16q
      refine OGot.on st16 ?_
      show OGot p.tables e below (T16.setTop (mkF m 68 #[.val (.int p1), .val (.int p2), .val (.int (0 : Int32)), .val (.int (0 : Int32)), .val (.ref w_PENDING), .val (.ref w_PENDING), .val (.int (0 : Int32))] [(.int (0 : Int32))])) _
      refine OGot.go (fun t k => XS.iload X16.here hx rfl (hb hby at_68) rfl k) ?_
      show OGot p.tables e below (T16.setTop (mkF m 70 #[.val (.int p1), .val (.int p2), .val (.int (0 : Int32)), .val (.int (0 : Int32)), .val (.ref w_PENDING), .val (.ref w_PENDING), .val (.int (0 : Int32))] [(.int (0 : Int32)), (.int (0 : Int32))])) _
      refine OGot.go (fun t k => XS.icmpNo X16.here hx rfl (hb hby at_70) rfl (by decide) k) ?_
      show OGot p.tables e below (T16.setTop (mkF m 73 #[.val (.int p1), .val (.int p2), .val (.int (0 : Int32)), .val (.int (0 : Int32)), .val (.ref w_PENDING), .val (.ref w_PENDING), .val (.int (0 : Int32))] [])) _
      refine OGot.go (fun t k => XS.iconst X16.here hx rfl (hb hby at_73) k) ?_
      show OGot p.tables e below (T16.setTop (mkF m 74 #[.val (.int p1), .val (.int p2), .val (.int (0 : Int32)), .val (.int (0 : Int32)), .val (.ref w_PENDING), .val (.ref w_PENDING), .val (.int (0 : Int32))] [(.int (1 : Int32))])) _
      refine OGot.go (fun t k => XS.goto X16.here hx rfl (pc0 := 74) (pc' := 78) rfl (hb hby at_74) (by decide) (by decide) k) ?_
      show OGot p.tables e below (T16.setTop (mkF m 78 #[.val (.int p1), .val (.int p2), .val (.int (0 : Int32)), .val (.int (0 : Int32)), .val (.ref w_PENDING), .val (.ref w_PENDING), .val (.int (0 : Int32))] [(.int (1 : Int32))])) _
      obtain ⟨fs, hr, hrun, hended, hW, hsame⟩ := X16.leave (v := some (.int (1 : Int32))) (fun h => by rw [Bd.returns] at h; cases h)
      refine ⟨_, _, retN X16 hx (t := .boolean) Bd.returns (by simp) (hb hby at_78) hr, hrun, hended, _, _, rfl, ?_, ⟨_, rfl⟩, hW, hsame.mono (by decide) (by decide)⟩
      exact (⟨rfl, N16⟩ : Q0 Z w_PENDING w_FAILED w_RUNNING w_CANCELLED w_COMPLETED p1 p2 h0 n0 _ T16.heap _)
    · rw [hk9]
      show OGot p.tables e below (s₁.setTop (mkF m 14 #[.val (.int p1), .val (.int p2), .val (.int (0 : Int32)), .unset, .unset, .unset, .unset] [(.int (1 : Int32))])) _
      refine OGot.go (fun t k => XS.istoreN X0.here hx rfl (hb hby at_14) rfl (l' := #[.val (.int p1), .val (.int p2), .val (.int (0 : Int32)), .val (.int (1 : Int32)), .unset, .unset, .unset]) rfl k) ?_
      show OGot p.tables e below (s₁.setTop (mkF m 15 #[.val (.int p1), .val (.int p2), .val (.int (0 : Int32)), .val (.int (1 : Int32)), .unset, .unset, .unset] [])) _
      refine OGot.go (fun t k => XS.iloadN X0.here hx rfl (hb hby at_15) rfl k) ?_
      show OGot p.tables e below (s₁.setTop (mkF m 16 #[.val (.int p1), .val (.int p2), .val (.int (0 : Int32)), .val (.int (1 : Int32)), .unset, .unset, .unset] [(.int (0 : Int32))])) _
      obtain ⟨_, _, ⟨T17, L17, k17, n17⟩, -, X17, ⟨Lc17, hQ17, l17, y17, z17⟩, st17⟩ := Jvm.LawKit.callS X0 hx (y := (⟨"com/example/hermit_crab/hermitcrab/JobStateCanMoveToPinLaw", "st", "(I)Lcom/example/hermit_crab/hermitcrab/JobState;"⟩ : MethodName)) hown (mvT hZ (ow hw 1 rfl)) (mvT hZ (ow hw 2 rfl)) (mvT hZ (ow hw 3 rfl)) (mvT hZ (ow hw 4 rfl)) (by decide) (backOf (W := 0) (rm1 l Z a0 hw [] G  h0 n0 O0 ) hZ (ow hw 4 rfl) (ow hw 3 rfl) (by decide) (by decide)) (g := (mkF m 16 #[.val (.int p1), .val (.int p2), .val (.int (0 : Int32)), .val (.int (1 : Int32)), .unset, .unset, .unset] [(.int (0 : Int32))])) rfl (by rw [hml]; rfl) (argsL := [(.int (0 : Int32))]) (rest := []) (lenOf pd_0 rfl) rfl (by show 2 * 0 + _ ≤ _; exact Nat.le_of_eq rfl) (hb hby at_16) (fun _ _ => ⟨rfl, e0, (by decide : 0 + 0 ≤ _), (by decide : 0 + 0 ≤ _)⟩)
      dsimp only [Pt.U, Pt.locs, Pt.cells, Pt.slots] at X17 l17 y17 z17 st17 hQ17
      subst l17 y17 z17
      obtain ⟨rfl, N17q, e17⟩ := hQ17
      have N17 := Fr.app N0 N17q
      refine OGot.go st17 ?_
      show OGot p.tables e below (T17.setTop (mkF m 19 #[.val (.int p1), .val (.int p2), .val (.int (0 : Int32)), .val (.int (1 : Int32)), .unset, .unset, .unset] [(.ref w_PENDING)])) _
      refine OGot.go (fun t k => XS.astore X17.here hx rfl (hb hby at_19) rfl rfl (l' := #[.val (.int p1), .val (.int p2), .val (.int (0 : Int32)), .val (.int (1 : Int32)), .val (.ref w_PENDING), .unset, .unset]) rfl k) ?_
      show OGot p.tables e below (T17.setTop (mkF m 21 #[.val (.int p1), .val (.int p2), .val (.int (0 : Int32)), .val (.int (1 : Int32)), .val (.ref w_PENDING), .unset, .unset] [])) _
      refine OGot.go (fun t k => XS.iloadN X17.here hx rfl (hb hby at_21) rfl k) ?_
      show OGot p.tables e below (T17.setTop (mkF m 22 #[.val (.int p1), .val (.int p2), .val (.int (0 : Int32)), .val (.int (1 : Int32)), .val (.ref w_PENDING), .unset, .unset] [(.int (1 : Int32))])) _
      refine OGot.go (fun t k => XS.iconst X17.here hx rfl (hb hby at_22) k) ?_
      show OGot p.tables e below (T17.setTop (mkF m 23 #[.val (.int p1), .val (.int p2), .val (.int (0 : Int32)), .val (.int (1 : Int32)), .val (.ref w_PENDING), .unset, .unset] [(.int (5 : Int32)), (.int (1 : Int32))])) _
      refine OGot.go (fun t k => XS.icmpYes X17.here hx rfl (pc0 := 23) (pc' := 30) rfl (hb hby at_23) rfl (by decide) (by decide) (by decide) k) ?_
      show OGot p.tables e below (T17.setTop (mkF m 30 #[.val (.int p1), .val (.int p2), .val (.int (0 : Int32)), .val (.int (1 : Int32)), .val (.ref w_PENDING), .unset, .unset] [])) _
      refine OGot.go (fun t k => XS.iloadN X17.here hx rfl (hb hby at_30) rfl k) ?_
      show OGot p.tables e below (T17.setTop (mkF m 31 #[.val (.int p1), .val (.int p2), .val (.int (0 : Int32)), .val (.int (1 : Int32)), .val (.ref w_PENDING), .unset, .unset] [(.int (1 : Int32))])) _
      obtain ⟨_, _, ⟨T18, L18, k18, n18⟩, -, X18, ⟨Lc18, hQ18, l18, y18, z18⟩, st18⟩ := Jvm.LawKit.callS X17 hx (y := (⟨"com/example/hermit_crab/hermitcrab/JobStateCanMoveToPinLaw", "st", "(I)Lcom/example/hermit_crab/hermitcrab/JobState;"⟩ : MethodName)) hown (mvT hZ (ow hw 1 rfl)) (mvT hZ (ow hw 2 rfl)) (mvT hZ (ow hw 3 rfl)) (mvT hZ (ow hw 4 rfl)) (by decide) (backOf (W := 0) (rm1_1 l Z a0 hw [] G  h0 n0 O0 ) hZ (ow hw 4 rfl) (ow hw 3 rfl) (by decide) (by decide)) (g := (mkF m 31 #[.val (.int p1), .val (.int p2), .val (.int (0 : Int32)), .val (.int (1 : Int32)), .val (.ref w_PENDING), .unset, .unset] [(.int (1 : Int32))])) rfl (by rw [hml]; rfl) (argsL := [(.int (1 : Int32))]) (rest := []) (lenOf pd_0 rfl) rfl (by show 2 * 0 + _ ≤ _; exact Nat.le_of_eq rfl) (hb hby at_31) (fun _ _ => ⟨rfl, e17, (by decide : 0 + 0 ≤ _), (by decide : 0 + 0 ≤ _)⟩)
      dsimp only [Pt.U, Pt.locs, Pt.cells, Pt.slots] at X18 l18 y18 z18 st18 hQ18
      subst l18 y18 z18
      obtain ⟨rfl, N18q, e18⟩ := hQ18
      have N18 := Fr.app N17 N18q
      refine OGot.go st18 ?_
      show OGot p.tables e below (T18.setTop (mkF m 34 #[.val (.int p1), .val (.int p2), .val (.int (0 : Int32)), .val (.int (1 : Int32)), .val (.ref w_PENDING), .unset, .unset] [(.ref w_RUNNING)])) _
      refine OGot.go (fun t k => XS.astore X18.here hx rfl (hb hby at_34) rfl rfl (l' := #[.val (.int p1), .val (.int p2), .val (.int (0 : Int32)), .val (.int (1 : Int32)), .val (.ref w_PENDING), .val (.ref w_RUNNING), .unset]) rfl k) ?_
      show OGot p.tables e below (T18.setTop (mkF m 36 #[.val (.int p1), .val (.int p2), .val (.int (0 : Int32)), .val (.int (1 : Int32)), .val (.ref w_PENDING), .val (.ref w_RUNNING), .unset] [])) _
      refine OGot.go (fun t k => XS.iloadN X18.here hx rfl (hb hby at_36) rfl k) ?_
      show OGot p.tables e below (T18.setTop (mkF m 37 #[.val (.int p1), .val (.int p2), .val (.int (0 : Int32)), .val (.int (1 : Int32)), .val (.ref w_PENDING), .val (.ref w_RUNNING), .unset] [(.int (1 : Int32))])) _
      refine OGot.go (fun t k => XS.iconst X18.here hx rfl (hb hby at_37) k) ?_
      show OGot p.tables e below (T18.setTop (mkF m 38 #[.val (.int p1), .val (.int p2), .val (.int (0 : Int32)), .val (.int (1 : Int32)), .val (.ref w_PENDING), .val (.ref w_RUNNING), .unset] [(.int (5 : Int32)), (.int (1 : Int32))])) _
      refine OGot.go (fun t k => XS.icmpNo X18.here hx rfl (hb hby at_38) rfl (by decide) k) ?_
      show OGot p.tables e below (T18.setTop (mkF m 41 #[.val (.int p1), .val (.int p2), .val (.int (0 : Int32)), .val (.int (1 : Int32)), .val (.ref w_PENDING), .val (.ref w_RUNNING), .unset] [])) _
      refine OGot.go (fun t k => X18.ldcInt hx hown (mvT hZ (ow hw 10 rfl)) (g := (mkF m 41 #[.val (.int p1), .val (.int p2), .val (.int (0 : Int32)), .val (.int (1 : Int32)), .val (.ref w_PENDING), .val (.ref w_RUNNING), .unset] [])) rfl (hb hby at_41) _ k) ?_
      show OGot p.tables e below (T18.setTop (mkF m 43 #[.val (.int p1), .val (.int p2), .val (.int (0 : Int32)), .val (.int (1 : Int32)), .val (.ref w_PENDING), .val (.ref w_RUNNING), .unset] [(.int (33202 : Int32))])) _
      refine OGot.go (fun t k => XS.iconst X18.here hx rfl (hb hby at_43) k) ?_
      show OGot p.tables e below (T18.setTop (mkF m 44 #[.val (.int p1), .val (.int p2), .val (.int (0 : Int32)), .val (.int (1 : Int32)), .val (.ref w_PENDING), .val (.ref w_RUNNING), .unset] [(.int (5 : Int32)), (.int (33202 : Int32))])) _
      refine OGot.go (fun t k => XS.iloadN X18.here hx rfl (hb hby at_44) rfl k) ?_
      show OGot p.tables e below (T18.setTop (mkF m 45 #[.val (.int p1), .val (.int p2), .val (.int (0 : Int32)), .val (.int (1 : Int32)), .val (.ref w_PENDING), .val (.ref w_RUNNING), .unset] [(.int (0 : Int32)), (.int (5 : Int32)), (.int (33202 : Int32))])) _
      refine OGot.go (fun t k => XS.imul X18.here hx rfl (hb hby at_45) rfl k) ?_
      show OGot p.tables e below (T18.setTop (mkF m 46 #[.val (.int p1), .val (.int p2), .val (.int (0 : Int32)), .val (.int (1 : Int32)), .val (.ref w_PENDING), .val (.ref w_RUNNING), .unset] [(.int ((5 : Int32) * (0 : Int32))), (.int (33202 : Int32))])) _
      rw [show ((5 : Int32) * (0 : Int32)) = (0 : Int32) from by decide]
      show OGot p.tables e below (T18.setTop (mkF m 46 #[.val (.int p1), .val (.int p2), .val (.int (0 : Int32)), .val (.int (1 : Int32)), .val (.ref w_PENDING), .val (.ref w_RUNNING), .unset] [(.int (0 : Int32)), (.int (33202 : Int32))])) _
      refine OGot.go (fun t k => XS.iloadN X18.here hx rfl (hb hby at_46) rfl k) ?_
      show OGot p.tables e below (T18.setTop (mkF m 47 #[.val (.int p1), .val (.int p2), .val (.int (0 : Int32)), .val (.int (1 : Int32)), .val (.ref w_PENDING), .val (.ref w_RUNNING), .unset] [(.int (1 : Int32)), (.int (0 : Int32)), (.int (33202 : Int32))])) _
      refine OGot.go (fun t k => XS.iadd X18.here hx rfl (hb hby at_47) rfl k) ?_
      show OGot p.tables e below (T18.setTop (mkF m 48 #[.val (.int p1), .val (.int p2), .val (.int (0 : Int32)), .val (.int (1 : Int32)), .val (.ref w_PENDING), .val (.ref w_RUNNING), .unset] [(.int ((0 : Int32) + (1 : Int32))), (.int (33202 : Int32))])) _
      rw [show ((0 : Int32) + (1 : Int32)) = (1 : Int32) from by decide]
      show OGot p.tables e below (T18.setTop (mkF m 48 #[.val (.int p1), .val (.int p2), .val (.int (0 : Int32)), .val (.int (1 : Int32)), .val (.ref w_PENDING), .val (.ref w_RUNNING), .unset] [(.int (1 : Int32)), (.int (33202 : Int32))])) _
      refine OGot.go (fun t k => XS.ishr X18.here hx rfl (hb hby at_48) rfl k) ?_
      show OGot p.tables e below (T18.setTop (mkF m 49 #[.val (.int p1), .val (.int p2), .val (.int (0 : Int32)), .val (.int (1 : Int32)), .val (.ref w_PENDING), .val (.ref w_RUNNING), .unset] [(.int ((33202 : Int32) >>> ((1 : Int32) &&& 31)))])) _
      rw [show ((33202 : Int32) >>> ((1 : Int32) &&& 31)) = (16601 : Int32) from by decide]
      show OGot p.tables e below (T18.setTop (mkF m 49 #[.val (.int p1), .val (.int p2), .val (.int (0 : Int32)), .val (.int (1 : Int32)), .val (.ref w_PENDING), .val (.ref w_RUNNING), .unset] [(.int (16601 : Int32))])) _
      refine OGot.go (fun t k => XS.iconst X18.here hx rfl (hb hby at_49) k) ?_
      show OGot p.tables e below (T18.setTop (mkF m 50 #[.val (.int p1), .val (.int p2), .val (.int (0 : Int32)), .val (.int (1 : Int32)), .val (.ref w_PENDING), .val (.ref w_RUNNING), .unset] [(.int (1 : Int32)), (.int (16601 : Int32))])) _
      refine OGot.go (fun t k => XS.iand X18.here hx rfl (hb hby at_50) rfl k) ?_
      show OGot p.tables e below (T18.setTop (mkF m 51 #[.val (.int p1), .val (.int p2), .val (.int (0 : Int32)), .val (.int (1 : Int32)), .val (.ref w_PENDING), .val (.ref w_RUNNING), .unset] [(.int ((16601 : Int32) &&& (1 : Int32)))])) _
      rw [show ((16601 : Int32) &&& (1 : Int32)) = (1 : Int32) from by decide]
      show OGot p.tables e below (T18.setTop (mkF m 51 #[.val (.int p1), .val (.int p2), .val (.int (0 : Int32)), .val (.int (1 : Int32)), .val (.ref w_PENDING), .val (.ref w_RUNNING), .unset] [(.int (1 : Int32))])) _
      refine OGot.go (fun t k => XS.ifNo X18.here hx rfl (hb hby at_51) rfl (by decide) k) ?_
      show OGot p.tables e below (T18.setTop (mkF m 54 #[.val (.int p1), .val (.int p2), .val (.int (0 : Int32)), .val (.int (1 : Int32)), .val (.ref w_PENDING), .val (.ref w_RUNNING), .unset] [])) _
      refine OGot.go (fun t k => XS.iconst X18.here hx rfl (hb hby at_54) k) ?_
      show OGot p.tables e below (T18.setTop (mkF m 55 #[.val (.int p1), .val (.int p2), .val (.int (0 : Int32)), .val (.int (1 : Int32)), .val (.ref w_PENDING), .val (.ref w_RUNNING), .unset] [(.int (1 : Int32))])) _
      refine OGot.go (fun t k => XS.goto X18.here hx rfl (pc0 := 55) (pc' := 59) rfl (hb hby at_55) (by decide) (by decide) k) ?_
      show OGot p.tables e below (T18.setTop (mkF m 59 #[.val (.int p1), .val (.int p2), .val (.int (0 : Int32)), .val (.int (1 : Int32)), .val (.ref w_PENDING), .val (.ref w_RUNNING), .unset] [(.int (1 : Int32))])) _
      refine OGot.go (fun t k => XS.istore X18.here hx rfl (hb hby at_59) rfl (l' := #[.val (.int p1), .val (.int p2), .val (.int (0 : Int32)), .val (.int (1 : Int32)), .val (.ref w_PENDING), .val (.ref w_RUNNING), .val (.int (1 : Int32))]) rfl k) ?_
      show OGot p.tables e below (T18.setTop (mkF m 61 #[.val (.int p1), .val (.int p2), .val (.int (0 : Int32)), .val (.int (1 : Int32)), .val (.ref w_PENDING), .val (.ref w_RUNNING), .val (.int (1 : Int32))] [])) _
      refine OGot.go (fun t k => XS.aload X18.here hx rfl (hb hby at_61) rfl rfl k) ?_
      show OGot p.tables e below (T18.setTop (mkF m 63 #[.val (.int p1), .val (.int p2), .val (.int (0 : Int32)), .val (.int (1 : Int32)), .val (.ref w_PENDING), .val (.ref w_RUNNING), .val (.int (1 : Int32))] [(.ref w_PENDING)])) _
      refine OGot.go (fun t k => XS.aload X18.here hx rfl (hb hby at_63) rfl rfl k) ?_
      show OGot p.tables e below (T18.setTop (mkF m 65 #[.val (.int p1), .val (.int p2), .val (.int (0 : Int32)), .val (.int (1 : Int32)), .val (.ref w_PENDING), .val (.ref w_RUNNING), .val (.int (1 : Int32))] [(.ref w_RUNNING), (.ref w_PENDING)])) _
      obtain ⟨cq19, kq19, q19a, q19b, q19c⟩ := isOf hZ e18 (G.2.1.ext O0.2)
      obtain ⟨_, _, ⟨T19, L19, k19, n19⟩, -, X19, ⟨Lc19, hQ19, l19, y19, z19⟩, st19⟩ := X18.virtualBack hx (y := (⟨"com/example/hermit_crab/hermitcrab/JobState", "canMoveTo", "(Lcom/example/hermit_crab/hermitcrab/JobState;)Z"⟩ : MethodName)) (z := (⟨"com/example/hermit_crab/hermitcrab/JobState", "canMoveTo", "(Lcom/example/hermit_crab/hermitcrab/JobState;)Z"⟩ : MethodName)) hown (mvT hZ (ow hw 11 rfl)) (mvT hZ (ow hw 12 rfl)) (notFace_of_selects (args := #[]) (mvT hZ (ow hw 14 rfl))) (mvT hZ (ow hw 14 rfl)) (mvT hZ (ow hw 13 rfl)) (by decide) (backOf (W := 0) (rm2_1 l Z a0 hw [] G  h0 n0 O0 ) hZ (ow hw 15 rfl) (ow hw 6 rfl) (by decide) (by decide)) q19a q19c (g := (mkF m 65 #[.val (.int p1), .val (.int p2), .val (.int (0 : Int32)), .val (.int (1 : Int32)), .val (.ref w_PENDING), .val (.ref w_RUNNING), .val (.int (1 : Int32))] [(.ref w_RUNNING), (.ref w_PENDING)])) rfl (by rw [hml]; rfl) (Steps.refl _) (argsL := [(.ref w_RUNNING)]) (rest := []) (lenOf pd_2 rfl) rfl (by show 2 * 0 + _ ≤ _; exact Nat.le_of_eq rfl) (hb hby at_65) (fun _ _ => ⟨rfl, e18, (by decide : 0 + 0 ≤ _), (by decide : 0 + 0 ≤ _)⟩)
      dsimp only [Pt.U, Pt.locs, Pt.cells, Pt.slots] at X19 l19 y19 z19 st19 hQ19
      subst l19 y19 z19
      obtain ⟨rfl, N19q, e19⟩ := hQ19
      have N19 := Fr.app N18 N19q
      refine OGot.on st19 ?_
      show OGot p.tables e below (T19.setTop (mkF m 68 #[.val (.int p1), .val (.int p2), .val (.int (0 : Int32)), .val (.int (1 : Int32)), .val (.ref w_PENDING), .val (.ref w_RUNNING), .val (.int (1 : Int32))] [(.int (1 : Int32))])) _
      refine OGot.go (fun t k => XS.iload X19.here hx rfl (hb hby at_68) rfl k) ?_
      show OGot p.tables e below (T19.setTop (mkF m 70 #[.val (.int p1), .val (.int p2), .val (.int (0 : Int32)), .val (.int (1 : Int32)), .val (.ref w_PENDING), .val (.ref w_RUNNING), .val (.int (1 : Int32))] [(.int (1 : Int32)), (.int (1 : Int32))])) _
      refine OGot.go (fun t k => XS.icmpNo X19.here hx rfl (hb hby at_70) rfl (by decide) k) ?_
      show OGot p.tables e below (T19.setTop (mkF m 73 #[.val (.int p1), .val (.int p2), .val (.int (0 : Int32)), .val (.int (1 : Int32)), .val (.ref w_PENDING), .val (.ref w_RUNNING), .val (.int (1 : Int32))] [])) _
      refine OGot.go (fun t k => XS.iconst X19.here hx rfl (hb hby at_73) k) ?_
      show OGot p.tables e below (T19.setTop (mkF m 74 #[.val (.int p1), .val (.int p2), .val (.int (0 : Int32)), .val (.int (1 : Int32)), .val (.ref w_PENDING), .val (.ref w_RUNNING), .val (.int (1 : Int32))] [(.int (1 : Int32))])) _
      refine OGot.go (fun t k => XS.goto X19.here hx rfl (pc0 := 74) (pc' := 78) rfl (hb hby at_74) (by decide) (by decide) k) ?_
      show OGot p.tables e below (T19.setTop (mkF m 78 #[.val (.int p1), .val (.int p2), .val (.int (0 : Int32)), .val (.int (1 : Int32)), .val (.ref w_PENDING), .val (.ref w_RUNNING), .val (.int (1 : Int32))] [(.int (1 : Int32))])) _
      obtain ⟨fs, hr, hrun, hended, hW, hsame⟩ := X19.leave (v := some (.int (1 : Int32))) (fun h => by rw [Bd.returns] at h; cases h)
      refine ⟨_, _, retN X19 hx (t := .boolean) Bd.returns (by simp) (hb hby at_78) hr, hrun, hended, _, _, rfl, ?_, ⟨_, rfl⟩, hW, hsame.mono (by decide) (by decide)⟩
      exact (⟨rfl, N19⟩ : Q0 Z w_PENDING w_FAILED w_RUNNING w_CANCELLED w_COMPLETED p1 p2 h0 n0 _ T19.heap _)
    · rw [hk10]
      show OGot p.tables e below (s₁.setTop (mkF m 14 #[.val (.int p1), .val (.int p2), .val (.int (0 : Int32)), .unset, .unset, .unset, .unset] [(.int (2 : Int32))])) _
      refine OGot.go (fun t k => XS.istoreN X0.here hx rfl (hb hby at_14) rfl (l' := #[.val (.int p1), .val (.int p2), .val (.int (0 : Int32)), .val (.int (2 : Int32)), .unset, .unset, .unset]) rfl k) ?_
      show OGot p.tables e below (s₁.setTop (mkF m 15 #[.val (.int p1), .val (.int p2), .val (.int (0 : Int32)), .val (.int (2 : Int32)), .unset, .unset, .unset] [])) _
      refine OGot.go (fun t k => XS.iloadN X0.here hx rfl (hb hby at_15) rfl k) ?_
      show OGot p.tables e below (s₁.setTop (mkF m 16 #[.val (.int p1), .val (.int p2), .val (.int (0 : Int32)), .val (.int (2 : Int32)), .unset, .unset, .unset] [(.int (0 : Int32))])) _
      obtain ⟨_, _, ⟨T20, L20, k20, n20⟩, -, X20, ⟨Lc20, hQ20, l20, y20, z20⟩, st20⟩ := Jvm.LawKit.callS X0 hx (y := (⟨"com/example/hermit_crab/hermitcrab/JobStateCanMoveToPinLaw", "st", "(I)Lcom/example/hermit_crab/hermitcrab/JobState;"⟩ : MethodName)) hown (mvT hZ (ow hw 1 rfl)) (mvT hZ (ow hw 2 rfl)) (mvT hZ (ow hw 3 rfl)) (mvT hZ (ow hw 4 rfl)) (by decide) (backOf (W := 0) (rm1 l Z a0 hw [] G  h0 n0 O0 ) hZ (ow hw 4 rfl) (ow hw 3 rfl) (by decide) (by decide)) (g := (mkF m 16 #[.val (.int p1), .val (.int p2), .val (.int (0 : Int32)), .val (.int (2 : Int32)), .unset, .unset, .unset] [(.int (0 : Int32))])) rfl (by rw [hml]; rfl) (argsL := [(.int (0 : Int32))]) (rest := []) (lenOf pd_0 rfl) rfl (by show 2 * 0 + _ ≤ _; exact Nat.le_of_eq rfl) (hb hby at_16) (fun _ _ => ⟨rfl, e0, (by decide : 0 + 0 ≤ _), (by decide : 0 + 0 ≤ _)⟩)
      dsimp only [Pt.U, Pt.locs, Pt.cells, Pt.slots] at X20 l20 y20 z20 st20 hQ20
      subst l20 y20 z20
      obtain ⟨rfl, N20q, e20⟩ := hQ20
      have N20 := Fr.app N0 N20q
      refine OGot.go st20 ?_
      show OGot p.tables e below (T20.setTop (mkF m 19 #[.val (.int p1), .val (.int p2), .val (.int (0 : Int32)), .val (.int (2 : Int32)), .unset, .unset, .unset] [(.ref w_PENDING)])) _
      refine OGot.go (fun t k => XS.astore X20.here hx rfl (hb hby at_19) rfl rfl (l' := #[.val (.int p1), .val (.int p2), .val (.int (0 : Int32)), .val (.int (2 : Int32)), .val (.ref w_PENDING), .unset, .unset]) rfl k) ?_
      show OGot p.tables e below (T20.setTop (mkF m 21 #[.val (.int p1), .val (.int p2), .val (.int (0 : Int32)), .val (.int (2 : Int32)), .val (.ref w_PENDING), .unset, .unset] [])) _
      refine OGot.go (fun t k => XS.iloadN X20.here hx rfl (hb hby at_21) rfl k) ?_
      show OGot p.tables e below (T20.setTop (mkF m 22 #[.val (.int p1), .val (.int p2), .val (.int (0 : Int32)), .val (.int (2 : Int32)), .val (.ref w_PENDING), .unset, .unset] [(.int (2 : Int32))])) _
      refine OGot.go (fun t k => XS.iconst X20.here hx rfl (hb hby at_22) k) ?_
      show OGot p.tables e below (T20.setTop (mkF m 23 #[.val (.int p1), .val (.int p2), .val (.int (0 : Int32)), .val (.int (2 : Int32)), .val (.ref w_PENDING), .unset, .unset] [(.int (5 : Int32)), (.int (2 : Int32))])) _
      refine OGot.go (fun t k => XS.icmpYes X20.here hx rfl (pc0 := 23) (pc' := 30) rfl (hb hby at_23) rfl (by decide) (by decide) (by decide) k) ?_
      show OGot p.tables e below (T20.setTop (mkF m 30 #[.val (.int p1), .val (.int p2), .val (.int (0 : Int32)), .val (.int (2 : Int32)), .val (.ref w_PENDING), .unset, .unset] [])) _
      refine OGot.go (fun t k => XS.iloadN X20.here hx rfl (hb hby at_30) rfl k) ?_
      show OGot p.tables e below (T20.setTop (mkF m 31 #[.val (.int p1), .val (.int p2), .val (.int (0 : Int32)), .val (.int (2 : Int32)), .val (.ref w_PENDING), .unset, .unset] [(.int (2 : Int32))])) _
      obtain ⟨_, _, ⟨T21, L21, k21, n21⟩, -, X21, ⟨Lc21, hQ21, l21, y21, z21⟩, st21⟩ := Jvm.LawKit.callS X20 hx (y := (⟨"com/example/hermit_crab/hermitcrab/JobStateCanMoveToPinLaw", "st", "(I)Lcom/example/hermit_crab/hermitcrab/JobState;"⟩ : MethodName)) hown (mvT hZ (ow hw 1 rfl)) (mvT hZ (ow hw 2 rfl)) (mvT hZ (ow hw 3 rfl)) (mvT hZ (ow hw 4 rfl)) (by decide) (backOf (W := 0) (rm1_2 l Z a0 hw [] G  h0 n0 O0 ) hZ (ow hw 4 rfl) (ow hw 3 rfl) (by decide) (by decide)) (g := (mkF m 31 #[.val (.int p1), .val (.int p2), .val (.int (0 : Int32)), .val (.int (2 : Int32)), .val (.ref w_PENDING), .unset, .unset] [(.int (2 : Int32))])) rfl (by rw [hml]; rfl) (argsL := [(.int (2 : Int32))]) (rest := []) (lenOf pd_0 rfl) rfl (by show 2 * 0 + _ ≤ _; exact Nat.le_of_eq rfl) (hb hby at_31) (fun _ _ => ⟨rfl, e20, (by decide : 0 + 0 ≤ _), (by decide : 0 + 0 ≤ _)⟩)
      dsimp only [Pt.U, Pt.locs, Pt.cells, Pt.slots] at X21 l21 y21 z21 st21 hQ21
      subst l21 y21 z21
      obtain ⟨rfl, N21q, e21⟩ := hQ21
      have N21 := Fr.app N20 N21q
      refine OGot.go st21 ?_
      show OGot p.tables e below (T21.setTop (mkF m 34 #[.val (.int p1), .val (.int p2), .val (.int (0 : Int32)), .val (.int (2 : Int32)), .val (.ref w_PENDING), .unset, .unset] [(.ref w_COMPLETED)])) _
      refine OGot.go (fun t k => XS.astore X21.here hx rfl (hb hby at_34) rfl rfl (l' := #[.val (.int p1), .val (.int p2), .val (.int (0 : Int32)), .val (.int (2 : Int32)), .val (.ref w_PENDING), .val (.ref w_COMPLETED), .unset]) rfl k) ?_
      show OGot p.tables e below (T21.setTop (mkF m 36 #[.val (.int p1), .val (.int p2), .val (.int (0 : Int32)), .val (.int (2 : Int32)), .val (.ref w_PENDING), .val (.ref w_COMPLETED), .unset] [])) _
      refine OGot.go (fun t k => XS.iloadN X21.here hx rfl (hb hby at_36) rfl k) ?_
      show OGot p.tables e below (T21.setTop (mkF m 37 #[.val (.int p1), .val (.int p2), .val (.int (0 : Int32)), .val (.int (2 : Int32)), .val (.ref w_PENDING), .val (.ref w_COMPLETED), .unset] [(.int (2 : Int32))])) _
      refine OGot.go (fun t k => XS.iconst X21.here hx rfl (hb hby at_37) k) ?_
      show OGot p.tables e below (T21.setTop (mkF m 38 #[.val (.int p1), .val (.int p2), .val (.int (0 : Int32)), .val (.int (2 : Int32)), .val (.ref w_PENDING), .val (.ref w_COMPLETED), .unset] [(.int (5 : Int32)), (.int (2 : Int32))])) _
      refine OGot.go (fun t k => XS.icmpNo X21.here hx rfl (hb hby at_38) rfl (by decide) k) ?_
      show OGot p.tables e below (T21.setTop (mkF m 41 #[.val (.int p1), .val (.int p2), .val (.int (0 : Int32)), .val (.int (2 : Int32)), .val (.ref w_PENDING), .val (.ref w_COMPLETED), .unset] [])) _
      refine OGot.go (fun t k => X21.ldcInt hx hown (mvT hZ (ow hw 10 rfl)) (g := (mkF m 41 #[.val (.int p1), .val (.int p2), .val (.int (0 : Int32)), .val (.int (2 : Int32)), .val (.ref w_PENDING), .val (.ref w_COMPLETED), .unset] [])) rfl (hb hby at_41) _ k) ?_
      show OGot p.tables e below (T21.setTop (mkF m 43 #[.val (.int p1), .val (.int p2), .val (.int (0 : Int32)), .val (.int (2 : Int32)), .val (.ref w_PENDING), .val (.ref w_COMPLETED), .unset] [(.int (33202 : Int32))])) _
      refine OGot.go (fun t k => XS.iconst X21.here hx rfl (hb hby at_43) k) ?_
      show OGot p.tables e below (T21.setTop (mkF m 44 #[.val (.int p1), .val (.int p2), .val (.int (0 : Int32)), .val (.int (2 : Int32)), .val (.ref w_PENDING), .val (.ref w_COMPLETED), .unset] [(.int (5 : Int32)), (.int (33202 : Int32))])) _
      refine OGot.go (fun t k => XS.iloadN X21.here hx rfl (hb hby at_44) rfl k) ?_
      show OGot p.tables e below (T21.setTop (mkF m 45 #[.val (.int p1), .val (.int p2), .val (.int (0 : Int32)), .val (.int (2 : Int32)), .val (.ref w_PENDING), .val (.ref w_COMPLETED), .unset] [(.int (0 : Int32)), (.int (5 : Int32)), (.int (33202 : Int32))])) _
      refine OGot.go (fun t k => XS.imul X21.here hx rfl (hb hby at_45) rfl k) ?_
      show OGot p.tables e below (T21.setTop (mkF m 46 #[.val (.int p1), .val (.int p2), .val (.int (0 : Int32)), .val (.int (2 : Int32)), .val (.ref w_PENDING), .val (.ref w_COMPLETED), .unset] [(.int ((5 : Int32) * (0 : Int32))), (.int (33202 : Int32))])) _
      rw [show ((5 : Int32) * (0 : Int32)) = (0 : Int32) from by decide]
      show OGot p.tables e below (T21.setTop (mkF m 46 #[.val (.int p1), .val (.int p2), .val (.int (0 : Int32)), .val (.int (2 : Int32)), .val (.ref w_PENDING), .val (.ref w_COMPLETED), .unset] [(.int (0 : Int32)), (.int (33202 : Int32))])) _
      refine OGot.go (fun t k => XS.iloadN X21.here hx rfl (hb hby at_46) rfl k) ?_
      show OGot p.tables e below (T21.setTop (mkF m 47 #[.val (.int p1), .val (.int p2), .val (.int (0 : Int32)), .val (.int (2 : Int32)), .val (.ref w_PENDING), .val (.ref w_COMPLETED), .unset] [(.int (2 : Int32)), (.int (0 : Int32)), (.int (33202 : Int32))])) _
      refine OGot.go (fun t k => XS.iadd X21.here hx rfl (hb hby at_47) rfl k) ?_
      show OGot p.tables e below (T21.setTop (mkF m 48 #[.val (.int p1), .val (.int p2), .val (.int (0 : Int32)), .val (.int (2 : Int32)), .val (.ref w_PENDING), .val (.ref w_COMPLETED), .unset] [(.int ((0 : Int32) + (2 : Int32))), (.int (33202 : Int32))])) _
      rw [show ((0 : Int32) + (2 : Int32)) = (2 : Int32) from by decide]
      show OGot p.tables e below (T21.setTop (mkF m 48 #[.val (.int p1), .val (.int p2), .val (.int (0 : Int32)), .val (.int (2 : Int32)), .val (.ref w_PENDING), .val (.ref w_COMPLETED), .unset] [(.int (2 : Int32)), (.int (33202 : Int32))])) _
      refine OGot.go (fun t k => XS.ishr X21.here hx rfl (hb hby at_48) rfl k) ?_
      show OGot p.tables e below (T21.setTop (mkF m 49 #[.val (.int p1), .val (.int p2), .val (.int (0 : Int32)), .val (.int (2 : Int32)), .val (.ref w_PENDING), .val (.ref w_COMPLETED), .unset] [(.int ((33202 : Int32) >>> ((2 : Int32) &&& 31)))])) _
      rw [show ((33202 : Int32) >>> ((2 : Int32) &&& 31)) = (8300 : Int32) from by decide]
      show OGot p.tables e below (T21.setTop (mkF m 49 #[.val (.int p1), .val (.int p2), .val (.int (0 : Int32)), .val (.int (2 : Int32)), .val (.ref w_PENDING), .val (.ref w_COMPLETED), .unset] [(.int (8300 : Int32))])) _
      refine OGot.go (fun t k => XS.iconst X21.here hx rfl (hb hby at_49) k) ?_
      show OGot p.tables e below (T21.setTop (mkF m 50 #[.val (.int p1), .val (.int p2), .val (.int (0 : Int32)), .val (.int (2 : Int32)), .val (.ref w_PENDING), .val (.ref w_COMPLETED), .unset] [(.int (1 : Int32)), (.int (8300 : Int32))])) _
      refine OGot.go (fun t k => XS.iand X21.here hx rfl (hb hby at_50) rfl k) ?_
      show OGot p.tables e below (T21.setTop (mkF m 51 #[.val (.int p1), .val (.int p2), .val (.int (0 : Int32)), .val (.int (2 : Int32)), .val (.ref w_PENDING), .val (.ref w_COMPLETED), .unset] [(.int ((8300 : Int32) &&& (1 : Int32)))])) _
      rw [show ((8300 : Int32) &&& (1 : Int32)) = (0 : Int32) from by decide]
      show OGot p.tables e below (T21.setTop (mkF m 51 #[.val (.int p1), .val (.int p2), .val (.int (0 : Int32)), .val (.int (2 : Int32)), .val (.ref w_PENDING), .val (.ref w_COMPLETED), .unset] [(.int (0 : Int32))])) _
      refine OGot.go (fun t k => XS.ifYes X21.here hx rfl (pc0 := 51) (pc' := 58) rfl (hb hby at_51) rfl (by decide) (by decide) (by decide) k) ?_
      show OGot p.tables e below (T21.setTop (mkF m 58 #[.val (.int p1), .val (.int p2), .val (.int (0 : Int32)), .val (.int (2 : Int32)), .val (.ref w_PENDING), .val (.ref w_COMPLETED), .unset] [])) _
      refine OGot.go (fun t k => XS.iconst X21.here hx rfl (hb hby at_58) k) ?_
      show OGot p.tables e below (T21.setTop (mkF m 59 #[.val (.int p1), .val (.int p2), .val (.int (0 : Int32)), .val (.int (2 : Int32)), .val (.ref w_PENDING), .val (.ref w_COMPLETED), .unset] [(.int (0 : Int32))])) _
      refine OGot.go (fun t k => XS.istore X21.here hx rfl (hb hby at_59) rfl (l' := #[.val (.int p1), .val (.int p2), .val (.int (0 : Int32)), .val (.int (2 : Int32)), .val (.ref w_PENDING), .val (.ref w_COMPLETED), .val (.int (0 : Int32))]) rfl k) ?_
      show OGot p.tables e below (T21.setTop (mkF m 61 #[.val (.int p1), .val (.int p2), .val (.int (0 : Int32)), .val (.int (2 : Int32)), .val (.ref w_PENDING), .val (.ref w_COMPLETED), .val (.int (0 : Int32))] [])) _
      refine OGot.go (fun t k => XS.aload X21.here hx rfl (hb hby at_61) rfl rfl k) ?_
      show OGot p.tables e below (T21.setTop (mkF m 63 #[.val (.int p1), .val (.int p2), .val (.int (0 : Int32)), .val (.int (2 : Int32)), .val (.ref w_PENDING), .val (.ref w_COMPLETED), .val (.int (0 : Int32))] [(.ref w_PENDING)])) _
      refine OGot.go (fun t k => XS.aload X21.here hx rfl (hb hby at_63) rfl rfl k) ?_
      show OGot p.tables e below (T21.setTop (mkF m 65 #[.val (.int p1), .val (.int p2), .val (.int (0 : Int32)), .val (.int (2 : Int32)), .val (.ref w_PENDING), .val (.ref w_COMPLETED), .val (.int (0 : Int32))] [(.ref w_COMPLETED), (.ref w_PENDING)])) _
      obtain ⟨cq22, kq22, q22a, q22b, q22c⟩ := isOf hZ e21 (G.2.1.ext O0.2)
      obtain ⟨_, _, ⟨T22, L22, k22, n22⟩, -, X22, ⟨Lc22, hQ22, l22, y22, z22⟩, st22⟩ := X21.virtualBack hx (y := (⟨"com/example/hermit_crab/hermitcrab/JobState", "canMoveTo", "(Lcom/example/hermit_crab/hermitcrab/JobState;)Z"⟩ : MethodName)) (z := (⟨"com/example/hermit_crab/hermitcrab/JobState", "canMoveTo", "(Lcom/example/hermit_crab/hermitcrab/JobState;)Z"⟩ : MethodName)) hown (mvT hZ (ow hw 11 rfl)) (mvT hZ (ow hw 12 rfl)) (notFace_of_selects (args := #[]) (mvT hZ (ow hw 14 rfl))) (mvT hZ (ow hw 14 rfl)) (mvT hZ (ow hw 13 rfl)) (by decide) (backOf (W := 0) (rm2_2 l Z a0 hw [] G  h0 n0 O0 ) hZ (ow hw 15 rfl) (ow hw 6 rfl) (by decide) (by decide)) q22a q22c (g := (mkF m 65 #[.val (.int p1), .val (.int p2), .val (.int (0 : Int32)), .val (.int (2 : Int32)), .val (.ref w_PENDING), .val (.ref w_COMPLETED), .val (.int (0 : Int32))] [(.ref w_COMPLETED), (.ref w_PENDING)])) rfl (by rw [hml]; rfl) (Steps.refl _) (argsL := [(.ref w_COMPLETED)]) (rest := []) (lenOf pd_2 rfl) rfl (by show 2 * 0 + _ ≤ _; exact Nat.le_of_eq rfl) (hb hby at_65) (fun _ _ => ⟨rfl, e21, (by decide : 0 + 0 ≤ _), (by decide : 0 + 0 ≤ _)⟩)
      dsimp only [Pt.U, Pt.locs, Pt.cells, Pt.slots] at X22 l22 y22 z22 st22 hQ22
      subst l22 y22 z22
      obtain ⟨rfl, N22q, e22⟩ := hQ22
      have N22 := Fr.app N21 N22q
      refine OGot.on st22 ?_
      show OGot p.tables e below (T22.setTop (mkF m 68 #[.val (.int p1), .val (.int p2), .val (.int (0 : Int32)), .val (.int (2 : Int32)), .val (.ref w_PENDING), .val (.ref w_COMPLETED), .val (.int (0 : Int32))] [(.int (0 : Int32))])) _
      refine OGot.go (fun t k => XS.iload X22.here hx rfl (hb hby at_68) rfl k) ?_
      show OGot p.tables e below (T22.setTop (mkF m 70 #[.val (.int p1), .val (.int p2), .val (.int (0 : Int32)), .val (.int (2 : Int32)), .val (.ref w_PENDING), .val (.ref w_COMPLETED), .val (.int (0 : Int32))] [(.int (0 : Int32)), (.int (0 : Int32))])) _
      refine OGot.go (fun t k => XS.icmpNo X22.here hx rfl (hb hby at_70) rfl (by decide) k) ?_
      show OGot p.tables e below (T22.setTop (mkF m 73 #[.val (.int p1), .val (.int p2), .val (.int (0 : Int32)), .val (.int (2 : Int32)), .val (.ref w_PENDING), .val (.ref w_COMPLETED), .val (.int (0 : Int32))] [])) _
      refine OGot.go (fun t k => XS.iconst X22.here hx rfl (hb hby at_73) k) ?_
      show OGot p.tables e below (T22.setTop (mkF m 74 #[.val (.int p1), .val (.int p2), .val (.int (0 : Int32)), .val (.int (2 : Int32)), .val (.ref w_PENDING), .val (.ref w_COMPLETED), .val (.int (0 : Int32))] [(.int (1 : Int32))])) _
      refine OGot.go (fun t k => XS.goto X22.here hx rfl (pc0 := 74) (pc' := 78) rfl (hb hby at_74) (by decide) (by decide) k) ?_
      show OGot p.tables e below (T22.setTop (mkF m 78 #[.val (.int p1), .val (.int p2), .val (.int (0 : Int32)), .val (.int (2 : Int32)), .val (.ref w_PENDING), .val (.ref w_COMPLETED), .val (.int (0 : Int32))] [(.int (1 : Int32))])) _
      obtain ⟨fs, hr, hrun, hended, hW, hsame⟩ := X22.leave (v := some (.int (1 : Int32))) (fun h => by rw [Bd.returns] at h; cases h)
      refine ⟨_, _, retN X22 hx (t := .boolean) Bd.returns (by simp) (hb hby at_78) hr, hrun, hended, _, _, rfl, ?_, ⟨_, rfl⟩, hW, hsame.mono (by decide) (by decide)⟩
      exact (⟨rfl, N22⟩ : Q0 Z w_PENDING w_FAILED w_RUNNING w_CANCELLED w_COMPLETED p1 p2 h0 n0 _ T22.heap _)
    · rw [hk11]
      show OGot p.tables e below (s₁.setTop (mkF m 14 #[.val (.int p1), .val (.int p2), .val (.int (0 : Int32)), .unset, .unset, .unset, .unset] [(.int (3 : Int32))])) _
      refine OGot.go (fun t k => XS.istoreN X0.here hx rfl (hb hby at_14) rfl (l' := #[.val (.int p1), .val (.int p2), .val (.int (0 : Int32)), .val (.int (3 : Int32)), .unset, .unset, .unset]) rfl k) ?_
      show OGot p.tables e below (s₁.setTop (mkF m 15 #[.val (.int p1), .val (.int p2), .val (.int (0 : Int32)), .val (.int (3 : Int32)), .unset, .unset, .unset] [])) _
      refine OGot.go (fun t k => XS.iloadN X0.here hx rfl (hb hby at_15) rfl k) ?_
      show OGot p.tables e below (s₁.setTop (mkF m 16 #[.val (.int p1), .val (.int p2), .val (.int (0 : Int32)), .val (.int (3 : Int32)), .unset, .unset, .unset] [(.int (0 : Int32))])) _
      obtain ⟨_, _, ⟨T23, L23, k23, n23⟩, -, X23, ⟨Lc23, hQ23, l23, y23, z23⟩, st23⟩ := Jvm.LawKit.callS X0 hx (y := (⟨"com/example/hermit_crab/hermitcrab/JobStateCanMoveToPinLaw", "st", "(I)Lcom/example/hermit_crab/hermitcrab/JobState;"⟩ : MethodName)) hown (mvT hZ (ow hw 1 rfl)) (mvT hZ (ow hw 2 rfl)) (mvT hZ (ow hw 3 rfl)) (mvT hZ (ow hw 4 rfl)) (by decide) (backOf (W := 0) (rm1 l Z a0 hw [] G  h0 n0 O0 ) hZ (ow hw 4 rfl) (ow hw 3 rfl) (by decide) (by decide)) (g := (mkF m 16 #[.val (.int p1), .val (.int p2), .val (.int (0 : Int32)), .val (.int (3 : Int32)), .unset, .unset, .unset] [(.int (0 : Int32))])) rfl (by rw [hml]; rfl) (argsL := [(.int (0 : Int32))]) (rest := []) (lenOf pd_0 rfl) rfl (by show 2 * 0 + _ ≤ _; exact Nat.le_of_eq rfl) (hb hby at_16) (fun _ _ => ⟨rfl, e0, (by decide : 0 + 0 ≤ _), (by decide : 0 + 0 ≤ _)⟩)
      dsimp only [Pt.U, Pt.locs, Pt.cells, Pt.slots] at X23 l23 y23 z23 st23 hQ23
      subst l23 y23 z23
      obtain ⟨rfl, N23q, e23⟩ := hQ23
      have N23 := Fr.app N0 N23q
      refine OGot.go st23 ?_
      show OGot p.tables e below (T23.setTop (mkF m 19 #[.val (.int p1), .val (.int p2), .val (.int (0 : Int32)), .val (.int (3 : Int32)), .unset, .unset, .unset] [(.ref w_PENDING)])) _
      refine OGot.go (fun t k => XS.astore X23.here hx rfl (hb hby at_19) rfl rfl (l' := #[.val (.int p1), .val (.int p2), .val (.int (0 : Int32)), .val (.int (3 : Int32)), .val (.ref w_PENDING), .unset, .unset]) rfl k) ?_
      show OGot p.tables e below (T23.setTop (mkF m 21 #[.val (.int p1), .val (.int p2), .val (.int (0 : Int32)), .val (.int (3 : Int32)), .val (.ref w_PENDING), .unset, .unset] [])) _
      refine OGot.go (fun t k => XS.iloadN X23.here hx rfl (hb hby at_21) rfl k) ?_
      show OGot p.tables e below (T23.setTop (mkF m 22 #[.val (.int p1), .val (.int p2), .val (.int (0 : Int32)), .val (.int (3 : Int32)), .val (.ref w_PENDING), .unset, .unset] [(.int (3 : Int32))])) _
      refine OGot.go (fun t k => XS.iconst X23.here hx rfl (hb hby at_22) k) ?_
      show OGot p.tables e below (T23.setTop (mkF m 23 #[.val (.int p1), .val (.int p2), .val (.int (0 : Int32)), .val (.int (3 : Int32)), .val (.ref w_PENDING), .unset, .unset] [(.int (5 : Int32)), (.int (3 : Int32))])) _
      refine OGot.go (fun t k => XS.icmpYes X23.here hx rfl (pc0 := 23) (pc' := 30) rfl (hb hby at_23) rfl (by decide) (by decide) (by decide) k) ?_
      show OGot p.tables e below (T23.setTop (mkF m 30 #[.val (.int p1), .val (.int p2), .val (.int (0 : Int32)), .val (.int (3 : Int32)), .val (.ref w_PENDING), .unset, .unset] [])) _
      refine OGot.go (fun t k => XS.iloadN X23.here hx rfl (hb hby at_30) rfl k) ?_
      show OGot p.tables e below (T23.setTop (mkF m 31 #[.val (.int p1), .val (.int p2), .val (.int (0 : Int32)), .val (.int (3 : Int32)), .val (.ref w_PENDING), .unset, .unset] [(.int (3 : Int32))])) _
      obtain ⟨_, _, ⟨T24, L24, k24, n24⟩, -, X24, ⟨Lc24, hQ24, l24, y24, z24⟩, st24⟩ := Jvm.LawKit.callS X23 hx (y := (⟨"com/example/hermit_crab/hermitcrab/JobStateCanMoveToPinLaw", "st", "(I)Lcom/example/hermit_crab/hermitcrab/JobState;"⟩ : MethodName)) hown (mvT hZ (ow hw 1 rfl)) (mvT hZ (ow hw 2 rfl)) (mvT hZ (ow hw 3 rfl)) (mvT hZ (ow hw 4 rfl)) (by decide) (backOf (W := 0) (rm1_3 l Z a0 hw [] G  h0 n0 O0 ) hZ (ow hw 4 rfl) (ow hw 3 rfl) (by decide) (by decide)) (g := (mkF m 31 #[.val (.int p1), .val (.int p2), .val (.int (0 : Int32)), .val (.int (3 : Int32)), .val (.ref w_PENDING), .unset, .unset] [(.int (3 : Int32))])) rfl (by rw [hml]; rfl) (argsL := [(.int (3 : Int32))]) (rest := []) (lenOf pd_0 rfl) rfl (by show 2 * 0 + _ ≤ _; exact Nat.le_of_eq rfl) (hb hby at_31) (fun _ _ => ⟨rfl, e23, (by decide : 0 + 0 ≤ _), (by decide : 0 + 0 ≤ _)⟩)
      dsimp only [Pt.U, Pt.locs, Pt.cells, Pt.slots] at X24 l24 y24 z24 st24 hQ24
      subst l24 y24 z24
      obtain ⟨rfl, N24q, e24⟩ := hQ24
      have N24 := Fr.app N23 N24q
      refine OGot.go st24 ?_
      show OGot p.tables e below (T24.setTop (mkF m 34 #[.val (.int p1), .val (.int p2), .val (.int (0 : Int32)), .val (.int (3 : Int32)), .val (.ref w_PENDING), .unset, .unset] [(.ref w_FAILED)])) _
      refine OGot.go (fun t k => XS.astore X24.here hx rfl (hb hby at_34) rfl rfl (l' := #[.val (.int p1), .val (.int p2), .val (.int (0 : Int32)), .val (.int (3 : Int32)), .val (.ref w_PENDING), .val (.ref w_FAILED), .unset]) rfl k) ?_
      show OGot p.tables e below (T24.setTop (mkF m 36 #[.val (.int p1), .val (.int p2), .val (.int (0 : Int32)), .val (.int (3 : Int32)), .val (.ref w_PENDING), .val (.ref w_FAILED), .unset] [])) _
      refine OGot.go (fun t k => XS.iloadN X24.here hx rfl (hb hby at_36) rfl k) ?_
      show OGot p.tables e below (T24.setTop (mkF m 37 #[.val (.int p1), .val (.int p2), .val (.int (0 : Int32)), .val (.int (3 : Int32)), .val (.ref w_PENDING), .val (.ref w_FAILED), .unset] [(.int (3 : Int32))])) _
      refine OGot.go (fun t k => XS.iconst X24.here hx rfl (hb hby at_37) k) ?_
      show OGot p.tables e below (T24.setTop (mkF m 38 #[.val (.int p1), .val (.int p2), .val (.int (0 : Int32)), .val (.int (3 : Int32)), .val (.ref w_PENDING), .val (.ref w_FAILED), .unset] [(.int (5 : Int32)), (.int (3 : Int32))])) _
      refine OGot.go (fun t k => XS.icmpNo X24.here hx rfl (hb hby at_38) rfl (by decide) k) ?_
      show OGot p.tables e below (T24.setTop (mkF m 41 #[.val (.int p1), .val (.int p2), .val (.int (0 : Int32)), .val (.int (3 : Int32)), .val (.ref w_PENDING), .val (.ref w_FAILED), .unset] [])) _
      refine OGot.go (fun t k => X24.ldcInt hx hown (mvT hZ (ow hw 10 rfl)) (g := (mkF m 41 #[.val (.int p1), .val (.int p2), .val (.int (0 : Int32)), .val (.int (3 : Int32)), .val (.ref w_PENDING), .val (.ref w_FAILED), .unset] [])) rfl (hb hby at_41) _ k) ?_
      show OGot p.tables e below (T24.setTop (mkF m 43 #[.val (.int p1), .val (.int p2), .val (.int (0 : Int32)), .val (.int (3 : Int32)), .val (.ref w_PENDING), .val (.ref w_FAILED), .unset] [(.int (33202 : Int32))])) _
      refine OGot.go (fun t k => XS.iconst X24.here hx rfl (hb hby at_43) k) ?_
      show OGot p.tables e below (T24.setTop (mkF m 44 #[.val (.int p1), .val (.int p2), .val (.int (0 : Int32)), .val (.int (3 : Int32)), .val (.ref w_PENDING), .val (.ref w_FAILED), .unset] [(.int (5 : Int32)), (.int (33202 : Int32))])) _
      refine OGot.go (fun t k => XS.iloadN X24.here hx rfl (hb hby at_44) rfl k) ?_
      show OGot p.tables e below (T24.setTop (mkF m 45 #[.val (.int p1), .val (.int p2), .val (.int (0 : Int32)), .val (.int (3 : Int32)), .val (.ref w_PENDING), .val (.ref w_FAILED), .unset] [(.int (0 : Int32)), (.int (5 : Int32)), (.int (33202 : Int32))])) _
      refine OGot.go (fun t k => XS.imul X24.here hx rfl (hb hby at_45) rfl k) ?_
      show OGot p.tables e below (T24.setTop (mkF m 46 #[.val (.int p1), .val (.int p2), .val (.int (0 : Int32)), .val (.int (3 : Int32)), .val (.ref w_PENDING), .val (.ref w_FAILED), .unset] [(.int ((5 : Int32) * (0 : Int32))), (.int (33202 : Int32))])) _
      rw [show ((5 : Int32) * (0 : Int32)) = (0 : Int32) from by decide]
      show OGot p.tables e below (T24.setTop (mkF m 46 #[.val (.int p1), .val (.int p2), .val (.int (0 : Int32)), .val (.int (3 : Int32)), .val (.ref w_PENDING), .val (.ref w_FAILED), .unset] [(.int (0 : Int32)), (.int (33202 : Int32))])) _
      refine OGot.go (fun t k => XS.iloadN X24.here hx rfl (hb hby at_46) rfl k) ?_
      show OGot p.tables e below (T24.setTop (mkF m 47 #[.val (.int p1), .val (.int p2), .val (.int (0 : Int32)), .val (.int (3 : Int32)), .val (.ref w_PENDING), .val (.ref w_FAILED), .unset] [(.int (3 : Int32)), (.int (0 : Int32)), (.int (33202 : Int32))])) _
      refine OGot.go (fun t k => XS.iadd X24.here hx rfl (hb hby at_47) rfl k) ?_
      show OGot p.tables e below (T24.setTop (mkF m 48 #[.val (.int p1), .val (.int p2), .val (.int (0 : Int32)), .val (.int (3 : Int32)), .val (.ref w_PENDING), .val (.ref w_FAILED), .unset] [(.int ((0 : Int32) + (3 : Int32))), (.int (33202 : Int32))])) _
      rw [show ((0 : Int32) + (3 : Int32)) = (3 : Int32) from by decide]
      show OGot p.tables e below (T24.setTop (mkF m 48 #[.val (.int p1), .val (.int p2), .val (.int (0 : Int32)), .val (.int (3 : Int32)), .val (.ref w_PENDING), .val (.ref w_FAILED), .unset] [(.int (3 : Int32)), (.int (33202 : Int32))])) _
      refine OGot.go (fun t k => XS.ishr X24.here hx rfl (hb hby at_48) rfl k) ?_
      show OGot p.tables e below (T24.setTop (mkF m 49 #[.val (.int p1), .val (.int p2), .val (.int (0 : Int32)), .val (.int (3 : Int32)), .val (.ref w_PENDING), .val (.ref w_FAILED), .unset] [(.int ((33202 : Int32) >>> ((3 : Int32) &&& 31)))])) _
      rw [show ((33202 : Int32) >>> ((3 : Int32) &&& 31)) = (4150 : Int32) from by decide]
      show OGot p.tables e below (T24.setTop (mkF m 49 #[.val (.int p1), .val (.int p2), .val (.int (0 : Int32)), .val (.int (3 : Int32)), .val (.ref w_PENDING), .val (.ref w_FAILED), .unset] [(.int (4150 : Int32))])) _
      refine OGot.go (fun t k => XS.iconst X24.here hx rfl (hb hby at_49) k) ?_
      show OGot p.tables e below (T24.setTop (mkF m 50 #[.val (.int p1), .val (.int p2), .val (.int (0 : Int32)), .val (.int (3 : Int32)), .val (.ref w_PENDING), .val (.ref w_FAILED), .unset] [(.int (1 : Int32)), (.int (4150 : Int32))])) _
      refine OGot.go (fun t k => XS.iand X24.here hx rfl (hb hby at_50) rfl k) ?_
      show OGot p.tables e below (T24.setTop (mkF m 51 #[.val (.int p1), .val (.int p2), .val (.int (0 : Int32)), .val (.int (3 : Int32)), .val (.ref w_PENDING), .val (.ref w_FAILED), .unset] [(.int ((4150 : Int32) &&& (1 : Int32)))])) _
      rw [show ((4150 : Int32) &&& (1 : Int32)) = (0 : Int32) from by decide]
      show OGot p.tables e below (T24.setTop (mkF m 51 #[.val (.int p1), .val (.int p2), .val (.int (0 : Int32)), .val (.int (3 : Int32)), .val (.ref w_PENDING), .val (.ref w_FAILED), .unset] [(.int (0 : Int32))])) _
      refine OGot.go (fun t k => XS.ifYes X24.here hx rfl (pc0 := 51) (pc' := 58) rfl (hb hby at_51) rfl (by decide) (by decide) (by decide) k) ?_
      show OGot p.tables e below (T24.setTop (mkF m 58 #[.val (.int p1), .val (.int p2), .val (.int (0 : Int32)), .val (.int (3 : Int32)), .val (.ref w_PENDING), .val (.ref w_FAILED), .unset] [])) _
      refine OGot.go (fun t k => XS.iconst X24.here hx rfl (hb hby at_58) k) ?_
      show OGot p.tables e below (T24.setTop (mkF m 59 #[.val (.int p1), .val (.int p2), .val (.int (0 : Int32)), .val (.int (3 : Int32)), .val (.ref w_PENDING), .val (.ref w_FAILED), .unset] [(.int (0 : Int32))])) _
      refine OGot.go (fun t k => XS.istore X24.here hx rfl (hb hby at_59) rfl (l' := #[.val (.int p1), .val (.int p2), .val (.int (0 : Int32)), .val (.int (3 : Int32)), .val (.ref w_PENDING), .val (.ref w_FAILED), .val (.int (0 : Int32))]) rfl k) ?_
      show OGot p.tables e below (T24.setTop (mkF m 61 #[.val (.int p1), .val (.int p2), .val (.int (0 : Int32)), .val (.int (3 : Int32)), .val (.ref w_PENDING), .val (.ref w_FAILED), .val (.int (0 : Int32))] [])) _
      refine OGot.go (fun t k => XS.aload X24.here hx rfl (hb hby at_61) rfl rfl k) ?_
      show OGot p.tables e below (T24.setTop (mkF m 63 #[.val (.int p1), .val (.int p2), .val (.int (0 : Int32)), .val (.int (3 : Int32)), .val (.ref w_PENDING), .val (.ref w_FAILED), .val (.int (0 : Int32))] [(.ref w_PENDING)])) _
      refine OGot.go (fun t k => XS.aload X24.here hx rfl (hb hby at_63) rfl rfl k) ?_
      show OGot p.tables e below (T24.setTop (mkF m 65 #[.val (.int p1), .val (.int p2), .val (.int (0 : Int32)), .val (.int (3 : Int32)), .val (.ref w_PENDING), .val (.ref w_FAILED), .val (.int (0 : Int32))] [(.ref w_FAILED), (.ref w_PENDING)])) _
      obtain ⟨cq25, kq25, q25a, q25b, q25c⟩ := isOf hZ e24 (G.2.1.ext O0.2)
      obtain ⟨_, _, ⟨T25, L25, k25, n25⟩, -, X25, ⟨Lc25, hQ25, l25, y25, z25⟩, st25⟩ := X24.virtualBack hx (y := (⟨"com/example/hermit_crab/hermitcrab/JobState", "canMoveTo", "(Lcom/example/hermit_crab/hermitcrab/JobState;)Z"⟩ : MethodName)) (z := (⟨"com/example/hermit_crab/hermitcrab/JobState", "canMoveTo", "(Lcom/example/hermit_crab/hermitcrab/JobState;)Z"⟩ : MethodName)) hown (mvT hZ (ow hw 11 rfl)) (mvT hZ (ow hw 12 rfl)) (notFace_of_selects (args := #[]) (mvT hZ (ow hw 14 rfl))) (mvT hZ (ow hw 14 rfl)) (mvT hZ (ow hw 13 rfl)) (by decide) (backOf (W := 0) (rm2_3 l Z a0 hw [] G  h0 n0 O0 ) hZ (ow hw 15 rfl) (ow hw 6 rfl) (by decide) (by decide)) q25a q25c (g := (mkF m 65 #[.val (.int p1), .val (.int p2), .val (.int (0 : Int32)), .val (.int (3 : Int32)), .val (.ref w_PENDING), .val (.ref w_FAILED), .val (.int (0 : Int32))] [(.ref w_FAILED), (.ref w_PENDING)])) rfl (by rw [hml]; rfl) (Steps.refl _) (argsL := [(.ref w_FAILED)]) (rest := []) (lenOf pd_2 rfl) rfl (by show 2 * 0 + _ ≤ _; exact Nat.le_of_eq rfl) (hb hby at_65) (fun _ _ => ⟨rfl, e24, (by decide : 0 + 0 ≤ _), (by decide : 0 + 0 ≤ _)⟩)
      dsimp only [Pt.U, Pt.locs, Pt.cells, Pt.slots] at X25 l25 y25 z25 st25 hQ25
      subst l25 y25 z25
      obtain ⟨rfl, N25q, e25⟩ := hQ25
      have N25 := Fr.app N24 N25q
      refine OGot.on st25 ?_
      show OGot p.tables e below (T25.setTop (mkF m 68 #[.val (.int p1), .val (.int p2), .val (.int (0 : Int32)), .val (.int (3 : Int32)), .val (.ref w_PENDING), .val (.ref w_FAILED), .val (.int (0 : Int32))] [(.int (0 : Int32))])) _
      refine OGot.go (fun t k => XS.iload X25.here hx rfl (hb hby at_68) rfl k) ?_
      show OGot p.tables e below (T25.setTop (mkF m 70 #[.val (.int p1), .val (.int p2), .val (.int (0 : Int32)), .val (.int (3 : Int32)), .val (.ref w_PENDING), .val (.ref w_FAILED), .val (.int (0 : Int32))] [(.int (0 : Int32)), (.int (0 : Int32))])) _
      refine OGot.go (fun t k => XS.icmpNo X25.here hx rfl (hb hby at_70) rfl (by decide) k) ?_
      show OGot p.tables e below (T25.setTop (mkF m 73 #[.val (.int p1), .val (.int p2), .val (.int (0 : Int32)), .val (.int (3 : Int32)), .val (.ref w_PENDING), .val (.ref w_FAILED), .val (.int (0 : Int32))] [])) _
      refine OGot.go (fun t k => XS.iconst X25.here hx rfl (hb hby at_73) k) ?_
      show OGot p.tables e below (T25.setTop (mkF m 74 #[.val (.int p1), .val (.int p2), .val (.int (0 : Int32)), .val (.int (3 : Int32)), .val (.ref w_PENDING), .val (.ref w_FAILED), .val (.int (0 : Int32))] [(.int (1 : Int32))])) _
      refine OGot.go (fun t k => XS.goto X25.here hx rfl (pc0 := 74) (pc' := 78) rfl (hb hby at_74) (by decide) (by decide) k) ?_
      show OGot p.tables e below (T25.setTop (mkF m 78 #[.val (.int p1), .val (.int p2), .val (.int (0 : Int32)), .val (.int (3 : Int32)), .val (.ref w_PENDING), .val (.ref w_FAILED), .val (.int (0 : Int32))] [(.int (1 : Int32))])) _
      obtain ⟨fs, hr, hrun, hended, hW, hsame⟩ := X25.leave (v := some (.int (1 : Int32))) (fun h => by rw [Bd.returns] at h; cases h)
      refine ⟨_, _, retN X25 hx (t := .boolean) Bd.returns (by simp) (hb hby at_78) hr, hrun, hended, _, _, rfl, ?_, ⟨_, rfl⟩, hW, hsame.mono (by decide) (by decide)⟩
      exact (⟨rfl, N25⟩ : Q0 Z w_PENDING w_FAILED w_RUNNING w_CANCELLED w_COMPLETED p1 p2 h0 n0 _ T25.heap _)
    · rw [hk12]
      show OGot p.tables e below (s₁.setTop (mkF m 14 #[.val (.int p1), .val (.int p2), .val (.int (0 : Int32)), .unset, .unset, .unset, .unset] [(.int (4 : Int32))])) _
      refine OGot.go (fun t k => XS.istoreN X0.here hx rfl (hb hby at_14) rfl (l' := #[.val (.int p1), .val (.int p2), .val (.int (0 : Int32)), .val (.int (4 : Int32)), .unset, .unset, .unset]) rfl k) ?_
      show OGot p.tables e below (s₁.setTop (mkF m 15 #[.val (.int p1), .val (.int p2), .val (.int (0 : Int32)), .val (.int (4 : Int32)), .unset, .unset, .unset] [])) _
      refine OGot.go (fun t k => XS.iloadN X0.here hx rfl (hb hby at_15) rfl k) ?_
      show OGot p.tables e below (s₁.setTop (mkF m 16 #[.val (.int p1), .val (.int p2), .val (.int (0 : Int32)), .val (.int (4 : Int32)), .unset, .unset, .unset] [(.int (0 : Int32))])) _
      obtain ⟨_, _, ⟨T26, L26, k26, n26⟩, -, X26, ⟨Lc26, hQ26, l26, y26, z26⟩, st26⟩ := Jvm.LawKit.callS X0 hx (y := (⟨"com/example/hermit_crab/hermitcrab/JobStateCanMoveToPinLaw", "st", "(I)Lcom/example/hermit_crab/hermitcrab/JobState;"⟩ : MethodName)) hown (mvT hZ (ow hw 1 rfl)) (mvT hZ (ow hw 2 rfl)) (mvT hZ (ow hw 3 rfl)) (mvT hZ (ow hw 4 rfl)) (by decide) (backOf (W := 0) (rm1 l Z a0 hw [] G  h0 n0 O0 ) hZ (ow hw 4 rfl) (ow hw 3 rfl) (by decide) (by decide)) (g := (mkF m 16 #[.val (.int p1), .val (.int p2), .val (.int (0 : Int32)), .val (.int (4 : Int32)), .unset, .unset, .unset] [(.int (0 : Int32))])) rfl (by rw [hml]; rfl) (argsL := [(.int (0 : Int32))]) (rest := []) (lenOf pd_0 rfl) rfl (by show 2 * 0 + _ ≤ _; exact Nat.le_of_eq rfl) (hb hby at_16) (fun _ _ => ⟨rfl, e0, (by decide : 0 + 0 ≤ _), (by decide : 0 + 0 ≤ _)⟩)
      dsimp only [Pt.U, Pt.locs, Pt.cells, Pt.slots] at X26 l26 y26 z26 st26 hQ26
      subst l26 y26 z26
      obtain ⟨rfl, N26q, e26⟩ := hQ26
      have N26 := Fr.app N0 N26q
      refine OGot.go st26 ?_
      show OGot p.tables e below (T26.setTop (mkF m 19 #[.val (.int p1), .val (.int p2), .val (.int (0 : Int32)), .val (.int (4 : Int32)), .unset, .unset, .unset] [(.ref w_PENDING)])) _
      refine OGot.go (fun t k => XS.astore X26.here hx rfl (hb hby at_19) rfl rfl (l' := #[.val (.int p1), .val (.int p2), .val (.int (0 : Int32)), .val (.int (4 : Int32)), .val (.ref w_PENDING), .unset, .unset]) rfl k) ?_
      show OGot p.tables e below (T26.setTop (mkF m 21 #[.val (.int p1), .val (.int p2), .val (.int (0 : Int32)), .val (.int (4 : Int32)), .val (.ref w_PENDING), .unset, .unset] [])) _
      refine OGot.go (fun t k => XS.iloadN X26.here hx rfl (hb hby at_21) rfl k) ?_
      show OGot p.tables e below (T26.setTop (mkF m 22 #[.val (.int p1), .val (.int p2), .val (.int (0 : Int32)), .val (.int (4 : Int32)), .val (.ref w_PENDING), .unset, .unset] [(.int (4 : Int32))])) _
      refine OGot.go (fun t k => XS.iconst X26.here hx rfl (hb hby at_22) k) ?_
      show OGot p.tables e below (T26.setTop (mkF m 23 #[.val (.int p1), .val (.int p2), .val (.int (0 : Int32)), .val (.int (4 : Int32)), .val (.ref w_PENDING), .unset, .unset] [(.int (5 : Int32)), (.int (4 : Int32))])) _
      refine OGot.go (fun t k => XS.icmpYes X26.here hx rfl (pc0 := 23) (pc' := 30) rfl (hb hby at_23) rfl (by decide) (by decide) (by decide) k) ?_
      show OGot p.tables e below (T26.setTop (mkF m 30 #[.val (.int p1), .val (.int p2), .val (.int (0 : Int32)), .val (.int (4 : Int32)), .val (.ref w_PENDING), .unset, .unset] [])) _
      refine OGot.go (fun t k => XS.iloadN X26.here hx rfl (hb hby at_30) rfl k) ?_
      show OGot p.tables e below (T26.setTop (mkF m 31 #[.val (.int p1), .val (.int p2), .val (.int (0 : Int32)), .val (.int (4 : Int32)), .val (.ref w_PENDING), .unset, .unset] [(.int (4 : Int32))])) _
      obtain ⟨_, _, ⟨T27, L27, k27, n27⟩, -, X27, ⟨Lc27, hQ27, l27, y27, z27⟩, st27⟩ := Jvm.LawKit.callS X26 hx (y := (⟨"com/example/hermit_crab/hermitcrab/JobStateCanMoveToPinLaw", "st", "(I)Lcom/example/hermit_crab/hermitcrab/JobState;"⟩ : MethodName)) hown (mvT hZ (ow hw 1 rfl)) (mvT hZ (ow hw 2 rfl)) (mvT hZ (ow hw 3 rfl)) (mvT hZ (ow hw 4 rfl)) (by decide) (backOf (W := 0) (rm1_4 l Z a0 hw [] G  h0 n0 O0 ) hZ (ow hw 4 rfl) (ow hw 3 rfl) (by decide) (by decide)) (g := (mkF m 31 #[.val (.int p1), .val (.int p2), .val (.int (0 : Int32)), .val (.int (4 : Int32)), .val (.ref w_PENDING), .unset, .unset] [(.int (4 : Int32))])) rfl (by rw [hml]; rfl) (argsL := [(.int (4 : Int32))]) (rest := []) (lenOf pd_0 rfl) rfl (by show 2 * 0 + _ ≤ _; exact Nat.le_of_eq rfl) (hb hby at_31) (fun _ _ => ⟨rfl, e26, (by decide : 0 + 0 ≤ _), (by decide : 0 + 0 ≤ _)⟩)
      dsimp only [Pt.U, Pt.locs, Pt.cells, Pt.slots] at X27 l27 y27 z27 st27 hQ27
      subst l27 y27 z27
      obtain ⟨rfl, N27q, e27⟩ := hQ27
      have N27 := Fr.app N26 N27q
      refine OGot.go st27 ?_
      show OGot p.tables e below (T27.setTop (mkF m 34 #[.val (.int p1), .val (.int p2), .val (.int (0 : Int32)), .val (.int (4 : Int32)), .val (.ref w_PENDING), .unset, .unset] [(.ref w_CANCELLED)])) _
      refine OGot.go (fun t k => XS.astore X27.here hx rfl (hb hby at_34) rfl rfl (l' := #[.val (.int p1), .val (.int p2), .val (.int (0 : Int32)), .val (.int (4 : Int32)), .val (.ref w_PENDING), .val (.ref w_CANCELLED), .unset]) rfl k) ?_
      show OGot p.tables e below (T27.setTop (mkF m 36 #[.val (.int p1), .val (.int p2), .val (.int (0 : Int32)), .val (.int (4 : Int32)), .val (.ref w_PENDING), .val (.ref w_CANCELLED), .unset] [])) _
      refine OGot.go (fun t k => XS.iloadN X27.here hx rfl (hb hby at_36) rfl k) ?_
      show OGot p.tables e below (T27.setTop (mkF m 37 #[.val (.int p1), .val (.int p2), .val (.int (0 : Int32)), .val (.int (4 : Int32)), .val (.ref w_PENDING), .val (.ref w_CANCELLED), .unset] [(.int (4 : Int32))])) _
      refine OGot.go (fun t k => XS.iconst X27.here hx rfl (hb hby at_37) k) ?_
      show OGot p.tables e below (T27.setTop (mkF m 38 #[.val (.int p1), .val (.int p2), .val (.int (0 : Int32)), .val (.int (4 : Int32)), .val (.ref w_PENDING), .val (.ref w_CANCELLED), .unset] [(.int (5 : Int32)), (.int (4 : Int32))])) _
      refine OGot.go (fun t k => XS.icmpNo X27.here hx rfl (hb hby at_38) rfl (by decide) k) ?_
      show OGot p.tables e below (T27.setTop (mkF m 41 #[.val (.int p1), .val (.int p2), .val (.int (0 : Int32)), .val (.int (4 : Int32)), .val (.ref w_PENDING), .val (.ref w_CANCELLED), .unset] [])) _
      refine OGot.go (fun t k => X27.ldcInt hx hown (mvT hZ (ow hw 10 rfl)) (g := (mkF m 41 #[.val (.int p1), .val (.int p2), .val (.int (0 : Int32)), .val (.int (4 : Int32)), .val (.ref w_PENDING), .val (.ref w_CANCELLED), .unset] [])) rfl (hb hby at_41) _ k) ?_
      show OGot p.tables e below (T27.setTop (mkF m 43 #[.val (.int p1), .val (.int p2), .val (.int (0 : Int32)), .val (.int (4 : Int32)), .val (.ref w_PENDING), .val (.ref w_CANCELLED), .unset] [(.int (33202 : Int32))])) _
      refine OGot.go (fun t k => XS.iconst X27.here hx rfl (hb hby at_43) k) ?_
      show OGot p.tables e below (T27.setTop (mkF m 44 #[.val (.int p1), .val (.int p2), .val (.int (0 : Int32)), .val (.int (4 : Int32)), .val (.ref w_PENDING), .val (.ref w_CANCELLED), .unset] [(.int (5 : Int32)), (.int (33202 : Int32))])) _
      refine OGot.go (fun t k => XS.iloadN X27.here hx rfl (hb hby at_44) rfl k) ?_
      show OGot p.tables e below (T27.setTop (mkF m 45 #[.val (.int p1), .val (.int p2), .val (.int (0 : Int32)), .val (.int (4 : Int32)), .val (.ref w_PENDING), .val (.ref w_CANCELLED), .unset] [(.int (0 : Int32)), (.int (5 : Int32)), (.int (33202 : Int32))])) _
      refine OGot.go (fun t k => XS.imul X27.here hx rfl (hb hby at_45) rfl k) ?_
      show OGot p.tables e below (T27.setTop (mkF m 46 #[.val (.int p1), .val (.int p2), .val (.int (0 : Int32)), .val (.int (4 : Int32)), .val (.ref w_PENDING), .val (.ref w_CANCELLED), .unset] [(.int ((5 : Int32) * (0 : Int32))), (.int (33202 : Int32))])) _
      rw [show ((5 : Int32) * (0 : Int32)) = (0 : Int32) from by decide]
      show OGot p.tables e below (T27.setTop (mkF m 46 #[.val (.int p1), .val (.int p2), .val (.int (0 : Int32)), .val (.int (4 : Int32)), .val (.ref w_PENDING), .val (.ref w_CANCELLED), .unset] [(.int (0 : Int32)), (.int (33202 : Int32))])) _
      refine OGot.go (fun t k => XS.iloadN X27.here hx rfl (hb hby at_46) rfl k) ?_
      show OGot p.tables e below (T27.setTop (mkF m 47 #[.val (.int p1), .val (.int p2), .val (.int (0 : Int32)), .val (.int (4 : Int32)), .val (.ref w_PENDING), .val (.ref w_CANCELLED), .unset] [(.int (4 : Int32)), (.int (0 : Int32)), (.int (33202 : Int32))])) _
      refine OGot.go (fun t k => XS.iadd X27.here hx rfl (hb hby at_47) rfl k) ?_
      show OGot p.tables e below (T27.setTop (mkF m 48 #[.val (.int p1), .val (.int p2), .val (.int (0 : Int32)), .val (.int (4 : Int32)), .val (.ref w_PENDING), .val (.ref w_CANCELLED), .unset] [(.int ((0 : Int32) + (4 : Int32))), (.int (33202 : Int32))])) _
      rw [show ((0 : Int32) + (4 : Int32)) = (4 : Int32) from by decide]
      show OGot p.tables e below (T27.setTop (mkF m 48 #[.val (.int p1), .val (.int p2), .val (.int (0 : Int32)), .val (.int (4 : Int32)), .val (.ref w_PENDING), .val (.ref w_CANCELLED), .unset] [(.int (4 : Int32)), (.int (33202 : Int32))])) _
      refine OGot.go (fun t k => XS.ishr X27.here hx rfl (hb hby at_48) rfl k) ?_
      show OGot p.tables e below (T27.setTop (mkF m 49 #[.val (.int p1), .val (.int p2), .val (.int (0 : Int32)), .val (.int (4 : Int32)), .val (.ref w_PENDING), .val (.ref w_CANCELLED), .unset] [(.int ((33202 : Int32) >>> ((4 : Int32) &&& 31)))])) _
      rw [show ((33202 : Int32) >>> ((4 : Int32) &&& 31)) = (2075 : Int32) from by decide]
      show OGot p.tables e below (T27.setTop (mkF m 49 #[.val (.int p1), .val (.int p2), .val (.int (0 : Int32)), .val (.int (4 : Int32)), .val (.ref w_PENDING), .val (.ref w_CANCELLED), .unset] [(.int (2075 : Int32))])) _
      refine OGot.go (fun t k => XS.iconst X27.here hx rfl (hb hby at_49) k) ?_
      show OGot p.tables e below (T27.setTop (mkF m 50 #[.val (.int p1), .val (.int p2), .val (.int (0 : Int32)), .val (.int (4 : Int32)), .val (.ref w_PENDING), .val (.ref w_CANCELLED), .unset] [(.int (1 : Int32)), (.int (2075 : Int32))])) _
      refine OGot.go (fun t k => XS.iand X27.here hx rfl (hb hby at_50) rfl k) ?_
      show OGot p.tables e below (T27.setTop (mkF m 51 #[.val (.int p1), .val (.int p2), .val (.int (0 : Int32)), .val (.int (4 : Int32)), .val (.ref w_PENDING), .val (.ref w_CANCELLED), .unset] [(.int ((2075 : Int32) &&& (1 : Int32)))])) _
      rw [show ((2075 : Int32) &&& (1 : Int32)) = (1 : Int32) from by decide]
      show OGot p.tables e below (T27.setTop (mkF m 51 #[.val (.int p1), .val (.int p2), .val (.int (0 : Int32)), .val (.int (4 : Int32)), .val (.ref w_PENDING), .val (.ref w_CANCELLED), .unset] [(.int (1 : Int32))])) _
      refine OGot.go (fun t k => XS.ifNo X27.here hx rfl (hb hby at_51) rfl (by decide) k) ?_
      show OGot p.tables e below (T27.setTop (mkF m 54 #[.val (.int p1), .val (.int p2), .val (.int (0 : Int32)), .val (.int (4 : Int32)), .val (.ref w_PENDING), .val (.ref w_CANCELLED), .unset] [])) _
      refine OGot.go (fun t k => XS.iconst X27.here hx rfl (hb hby at_54) k) ?_
      show OGot p.tables e below (T27.setTop (mkF m 55 #[.val (.int p1), .val (.int p2), .val (.int (0 : Int32)), .val (.int (4 : Int32)), .val (.ref w_PENDING), .val (.ref w_CANCELLED), .unset] [(.int (1 : Int32))])) _
      refine OGot.go (fun t k => XS.goto X27.here hx rfl (pc0 := 55) (pc' := 59) rfl (hb hby at_55) (by decide) (by decide) k) ?_
      show OGot p.tables e below (T27.setTop (mkF m 59 #[.val (.int p1), .val (.int p2), .val (.int (0 : Int32)), .val (.int (4 : Int32)), .val (.ref w_PENDING), .val (.ref w_CANCELLED), .unset] [(.int (1 : Int32))])) _
      refine OGot.go (fun t k => XS.istore X27.here hx rfl (hb hby at_59) rfl (l' := #[.val (.int p1), .val (.int p2), .val (.int (0 : Int32)), .val (.int (4 : Int32)), .val (.ref w_PENDING), .val (.ref w_CANCELLED), .val (.int (1 : Int32))]) rfl k) ?_
      show OGot p.tables e below (T27.setTop (mkF m 61 #[.val (.int p1), .val (.int p2), .val (.int (0 : Int32)), .val (.int (4 : Int32)), .val (.ref w_PENDING), .val (.ref w_CANCELLED), .val (.int (1 : Int32))] [])) _
      refine OGot.go (fun t k => XS.aload X27.here hx rfl (hb hby at_61) rfl rfl k) ?_
      show OGot p.tables e below (T27.setTop (mkF m 63 #[.val (.int p1), .val (.int p2), .val (.int (0 : Int32)), .val (.int (4 : Int32)), .val (.ref w_PENDING), .val (.ref w_CANCELLED), .val (.int (1 : Int32))] [(.ref w_PENDING)])) _
      refine OGot.go (fun t k => XS.aload X27.here hx rfl (hb hby at_63) rfl rfl k) ?_
      show OGot p.tables e below (T27.setTop (mkF m 65 #[.val (.int p1), .val (.int p2), .val (.int (0 : Int32)), .val (.int (4 : Int32)), .val (.ref w_PENDING), .val (.ref w_CANCELLED), .val (.int (1 : Int32))] [(.ref w_CANCELLED), (.ref w_PENDING)])) _
      obtain ⟨cq28, kq28, q28a, q28b, q28c⟩ := isOf hZ e27 (G.2.1.ext O0.2)
      obtain ⟨_, _, ⟨T28, L28, k28, n28⟩, -, X28, ⟨Lc28, hQ28, l28, y28, z28⟩, st28⟩ := X27.virtualBack hx (y := (⟨"com/example/hermit_crab/hermitcrab/JobState", "canMoveTo", "(Lcom/example/hermit_crab/hermitcrab/JobState;)Z"⟩ : MethodName)) (z := (⟨"com/example/hermit_crab/hermitcrab/JobState", "canMoveTo", "(Lcom/example/hermit_crab/hermitcrab/JobState;)Z"⟩ : MethodName)) hown (mvT hZ (ow hw 11 rfl)) (mvT hZ (ow hw 12 rfl)) (notFace_of_selects (args := #[]) (mvT hZ (ow hw 14 rfl))) (mvT hZ (ow hw 14 rfl)) (mvT hZ (ow hw 13 rfl)) (by decide) (backOf (W := 0) (rm2_4 l Z a0 hw [] G  h0 n0 O0 ) hZ (ow hw 15 rfl) (ow hw 6 rfl) (by decide) (by decide)) q28a q28c (g := (mkF m 65 #[.val (.int p1), .val (.int p2), .val (.int (0 : Int32)), .val (.int (4 : Int32)), .val (.ref w_PENDING), .val (.ref w_CANCELLED), .val (.int (1 : Int32))] [(.ref w_CANCELLED), (.ref w_PENDING)])) rfl (by rw [hml]; rfl) (Steps.refl _) (argsL := [(.ref w_CANCELLED)]) (rest := []) (lenOf pd_2 rfl) rfl (by show 2 * 0 + _ ≤ _; exact Nat.le_of_eq rfl) (hb hby at_65) (fun _ _ => ⟨rfl, e27, (by decide : 0 + 0 ≤ _), (by decide : 0 + 0 ≤ _)⟩)
      dsimp only [Pt.U, Pt.locs, Pt.cells, Pt.slots] at X28 l28 y28 z28 st28 hQ28
      subst l28 y28 z28
      obtain ⟨rfl, N28q, e28⟩ := hQ28
      have N28 := Fr.app N27 N28q
      refine OGot.on st28 ?_
      show OGot p.tables e below (T28.setTop (mkF m 68 #[.val (.int p1), .val (.int p2), .val (.int (0 : Int32)), .val (.int (4 : Int32)), .val (.ref w_PENDING), .val (.ref w_CANCELLED), .val (.int (1 : Int32))] [(.int (1 : Int32))])) _
      refine OGot.go (fun t k => XS.iload X28.here hx rfl (hb hby at_68) rfl k) ?_
      show OGot p.tables e below (T28.setTop (mkF m 70 #[.val (.int p1), .val (.int p2), .val (.int (0 : Int32)), .val (.int (4 : Int32)), .val (.ref w_PENDING), .val (.ref w_CANCELLED), .val (.int (1 : Int32))] [(.int (1 : Int32)), (.int (1 : Int32))])) _
      refine OGot.go (fun t k => XS.icmpNo X28.here hx rfl (hb hby at_70) rfl (by decide) k) ?_
      show OGot p.tables e below (T28.setTop (mkF m 73 #[.val (.int p1), .val (.int p2), .val (.int (0 : Int32)), .val (.int (4 : Int32)), .val (.ref w_PENDING), .val (.ref w_CANCELLED), .val (.int (1 : Int32))] [])) _
      refine OGot.go (fun t k => XS.iconst X28.here hx rfl (hb hby at_73) k) ?_
      show OGot p.tables e below (T28.setTop (mkF m 74 #[.val (.int p1), .val (.int p2), .val (.int (0 : Int32)), .val (.int (4 : Int32)), .val (.ref w_PENDING), .val (.ref w_CANCELLED), .val (.int (1 : Int32))] [(.int (1 : Int32))])) _
      refine OGot.go (fun t k => XS.goto X28.here hx rfl (pc0 := 74) (pc' := 78) rfl (hb hby at_74) (by decide) (by decide) k) ?_
      show OGot p.tables e below (T28.setTop (mkF m 78 #[.val (.int p1), .val (.int p2), .val (.int (0 : Int32)), .val (.int (4 : Int32)), .val (.ref w_PENDING), .val (.ref w_CANCELLED), .val (.int (1 : Int32))] [(.int (1 : Int32))])) _
      obtain ⟨fs, hr, hrun, hended, hW, hsame⟩ := X28.leave (v := some (.int (1 : Int32))) (fun h => by rw [Bd.returns] at h; cases h)
      refine ⟨_, _, retN X28 hx (t := .boolean) Bd.returns (by simp) (hb hby at_78) hr, hrun, hended, _, _, rfl, ?_, ⟨_, rfl⟩, hW, hsame.mono (by decide) (by decide)⟩
      exact (⟨rfl, N28⟩ : Q0 Z w_PENDING w_FAILED w_RUNNING w_CANCELLED w_COMPLETED p1 p2 h0 n0 _ T28.heap _)
    · rw [hk13]
      show OGot p.tables e below (s₁.setTop (mkF m 14 #[.val (.int p1), .val (.int p2), .val (.int (0 : Int32)), .unset, .unset, .unset, .unset] [(.int (5 : Int32))])) _
      refine OGot.go (fun t k => XS.istoreN X0.here hx rfl (hb hby at_14) rfl (l' := #[.val (.int p1), .val (.int p2), .val (.int (0 : Int32)), .val (.int (5 : Int32)), .unset, .unset, .unset]) rfl k) ?_
      show OGot p.tables e below (s₁.setTop (mkF m 15 #[.val (.int p1), .val (.int p2), .val (.int (0 : Int32)), .val (.int (5 : Int32)), .unset, .unset, .unset] [])) _
      refine OGot.go (fun t k => XS.iloadN X0.here hx rfl (hb hby at_15) rfl k) ?_
      show OGot p.tables e below (s₁.setTop (mkF m 16 #[.val (.int p1), .val (.int p2), .val (.int (0 : Int32)), .val (.int (5 : Int32)), .unset, .unset, .unset] [(.int (0 : Int32))])) _
      obtain ⟨_, _, ⟨T29, L29, k29, n29⟩, -, X29, ⟨Lc29, hQ29, l29, y29, z29⟩, st29⟩ := Jvm.LawKit.callS X0 hx (y := (⟨"com/example/hermit_crab/hermitcrab/JobStateCanMoveToPinLaw", "st", "(I)Lcom/example/hermit_crab/hermitcrab/JobState;"⟩ : MethodName)) hown (mvT hZ (ow hw 1 rfl)) (mvT hZ (ow hw 2 rfl)) (mvT hZ (ow hw 3 rfl)) (mvT hZ (ow hw 4 rfl)) (by decide) (backOf (W := 0) (rm1 l Z a0 hw [] G  h0 n0 O0 ) hZ (ow hw 4 rfl) (ow hw 3 rfl) (by decide) (by decide)) (g := (mkF m 16 #[.val (.int p1), .val (.int p2), .val (.int (0 : Int32)), .val (.int (5 : Int32)), .unset, .unset, .unset] [(.int (0 : Int32))])) rfl (by rw [hml]; rfl) (argsL := [(.int (0 : Int32))]) (rest := []) (lenOf pd_0 rfl) rfl (by show 2 * 0 + _ ≤ _; exact Nat.le_of_eq rfl) (hb hby at_16) (fun _ _ => ⟨rfl, e0, (by decide : 0 + 0 ≤ _), (by decide : 0 + 0 ≤ _)⟩)
      dsimp only [Pt.U, Pt.locs, Pt.cells, Pt.slots] at X29 l29 y29 z29 st29 hQ29
      subst l29 y29 z29
      obtain ⟨rfl, N29q, e29⟩ := hQ29
      have N29 := Fr.app N0 N29q
      refine OGot.go st29 ?_
      show OGot p.tables e below (T29.setTop (mkF m 19 #[.val (.int p1), .val (.int p2), .val (.int (0 : Int32)), .val (.int (5 : Int32)), .unset, .unset, .unset] [(.ref w_PENDING)])) _
      refine OGot.go (fun t k => XS.astore X29.here hx rfl (hb hby at_19) rfl rfl (l' := #[.val (.int p1), .val (.int p2), .val (.int (0 : Int32)), .val (.int (5 : Int32)), .val (.ref w_PENDING), .unset, .unset]) rfl k) ?_
      show OGot p.tables e below (T29.setTop (mkF m 21 #[.val (.int p1), .val (.int p2), .val (.int (0 : Int32)), .val (.int (5 : Int32)), .val (.ref w_PENDING), .unset, .unset] [])) _
      refine OGot.go (fun t k => XS.iloadN X29.here hx rfl (hb hby at_21) rfl k) ?_
      show OGot p.tables e below (T29.setTop (mkF m 22 #[.val (.int p1), .val (.int p2), .val (.int (0 : Int32)), .val (.int (5 : Int32)), .val (.ref w_PENDING), .unset, .unset] [(.int (5 : Int32))])) _
      refine OGot.go (fun t k => XS.iconst X29.here hx rfl (hb hby at_22) k) ?_
      show OGot p.tables e below (T29.setTop (mkF m 23 #[.val (.int p1), .val (.int p2), .val (.int (0 : Int32)), .val (.int (5 : Int32)), .val (.ref w_PENDING), .unset, .unset] [(.int (5 : Int32)), (.int (5 : Int32))])) _
      refine OGot.go (fun t k => XS.icmpNo X29.here hx rfl (hb hby at_23) rfl (by decide) k) ?_
      show OGot p.tables e below (T29.setTop (mkF m 26 #[.val (.int p1), .val (.int p2), .val (.int (0 : Int32)), .val (.int (5 : Int32)), .val (.ref w_PENDING), .unset, .unset] [])) _
      refine OGot.go (fun t k => XS.aconstNull X29.here hx rfl (hb hby at_26) k) ?_
      show OGot p.tables e below (T29.setTop (mkF m 27 #[.val (.int p1), .val (.int p2), .val (.int (0 : Int32)), .val (.int (5 : Int32)), .val (.ref w_PENDING), .unset, .unset] [.null])) _
      refine OGot.go (fun t k => XS.goto X29.here hx rfl (pc0 := 27) (pc' := 34) rfl (hb hby at_27) (by decide) (by decide) k) ?_
      show OGot p.tables e below (T29.setTop (mkF m 34 #[.val (.int p1), .val (.int p2), .val (.int (0 : Int32)), .val (.int (5 : Int32)), .val (.ref w_PENDING), .unset, .unset] [.null])) _
      refine OGot.go (fun t k => XS.astore X29.here hx rfl (hb hby at_34) rfl rfl (l' := #[.val (.int p1), .val (.int p2), .val (.int (0 : Int32)), .val (.int (5 : Int32)), .val (.ref w_PENDING), .val .null, .unset]) rfl k) ?_
      show OGot p.tables e below (T29.setTop (mkF m 36 #[.val (.int p1), .val (.int p2), .val (.int (0 : Int32)), .val (.int (5 : Int32)), .val (.ref w_PENDING), .val .null, .unset] [])) _
      refine OGot.go (fun t k => XS.iloadN X29.here hx rfl (hb hby at_36) rfl k) ?_
      show OGot p.tables e below (T29.setTop (mkF m 37 #[.val (.int p1), .val (.int p2), .val (.int (0 : Int32)), .val (.int (5 : Int32)), .val (.ref w_PENDING), .val .null, .unset] [(.int (5 : Int32))])) _
      refine OGot.go (fun t k => XS.iconst X29.here hx rfl (hb hby at_37) k) ?_
      show OGot p.tables e below (T29.setTop (mkF m 38 #[.val (.int p1), .val (.int p2), .val (.int (0 : Int32)), .val (.int (5 : Int32)), .val (.ref w_PENDING), .val .null, .unset] [(.int (5 : Int32)), (.int (5 : Int32))])) _
      refine OGot.go (fun t k => XS.icmpYes X29.here hx rfl (pc0 := 38) (pc' := 58) rfl (hb hby at_38) rfl (by decide) (by decide) (by decide) k) ?_
      show OGot p.tables e below (T29.setTop (mkF m 58 #[.val (.int p1), .val (.int p2), .val (.int (0 : Int32)), .val (.int (5 : Int32)), .val (.ref w_PENDING), .val .null, .unset] [])) _
      refine OGot.go (fun t k => XS.iconst X29.here hx rfl (hb hby at_58) k) ?_
      show OGot p.tables e below (T29.setTop (mkF m 59 #[.val (.int p1), .val (.int p2), .val (.int (0 : Int32)), .val (.int (5 : Int32)), .val (.ref w_PENDING), .val .null, .unset] [(.int (0 : Int32))])) _
      refine OGot.go (fun t k => XS.istore X29.here hx rfl (hb hby at_59) rfl (l' := #[.val (.int p1), .val (.int p2), .val (.int (0 : Int32)), .val (.int (5 : Int32)), .val (.ref w_PENDING), .val .null, .val (.int (0 : Int32))]) rfl k) ?_
      show OGot p.tables e below (T29.setTop (mkF m 61 #[.val (.int p1), .val (.int p2), .val (.int (0 : Int32)), .val (.int (5 : Int32)), .val (.ref w_PENDING), .val .null, .val (.int (0 : Int32))] [])) _
      refine OGot.go (fun t k => XS.aload X29.here hx rfl (hb hby at_61) rfl rfl k) ?_
      show OGot p.tables e below (T29.setTop (mkF m 63 #[.val (.int p1), .val (.int p2), .val (.int (0 : Int32)), .val (.int (5 : Int32)), .val (.ref w_PENDING), .val .null, .val (.int (0 : Int32))] [(.ref w_PENDING)])) _
      refine OGot.go (fun t k => XS.aload X29.here hx rfl (hb hby at_63) rfl rfl k) ?_
      show OGot p.tables e below (T29.setTop (mkF m 65 #[.val (.int p1), .val (.int p2), .val (.int (0 : Int32)), .val (.int (5 : Int32)), .val (.ref w_PENDING), .val .null, .val (.int (0 : Int32))] [.null, (.ref w_PENDING)])) _
      obtain ⟨cq30, kq30, q30a, q30b, q30c⟩ := isOf hZ e29 (G.2.1.ext O0.2)
      obtain ⟨_, _, ⟨T30, L30, k30, n30⟩, -, X30, ⟨Lc30, hQ30, l30, y30, z30⟩, st30⟩ := X29.virtualBack hx (y := (⟨"com/example/hermit_crab/hermitcrab/JobState", "canMoveTo", "(Lcom/example/hermit_crab/hermitcrab/JobState;)Z"⟩ : MethodName)) (z := (⟨"com/example/hermit_crab/hermitcrab/JobState", "canMoveTo", "(Lcom/example/hermit_crab/hermitcrab/JobState;)Z"⟩ : MethodName)) hown (mvT hZ (ow hw 11 rfl)) (mvT hZ (ow hw 12 rfl)) (notFace_of_selects (args := #[]) (mvT hZ (ow hw 14 rfl))) (mvT hZ (ow hw 14 rfl)) (mvT hZ (ow hw 13 rfl)) (by decide) (backOf (W := 0) (rm2_5 l Z a0 hw [] G  h0 n0 O0 ) hZ (ow hw 15 rfl) (ow hw 6 rfl) (by decide) (by decide)) q30a q30c (g := (mkF m 65 #[.val (.int p1), .val (.int p2), .val (.int (0 : Int32)), .val (.int (5 : Int32)), .val (.ref w_PENDING), .val .null, .val (.int (0 : Int32))] [.null, (.ref w_PENDING)])) rfl (by rw [hml]; rfl) (Steps.refl _) (argsL := [.null]) (rest := []) (lenOf pd_2 rfl) rfl (by show 2 * 0 + _ ≤ _; exact Nat.le_of_eq rfl) (hb hby at_65) (fun _ _ => ⟨rfl, e29, (by decide : 0 + 0 ≤ _), (by decide : 0 + 0 ≤ _)⟩)
      dsimp only [Pt.U, Pt.locs, Pt.cells, Pt.slots] at X30 l30 y30 z30 st30 hQ30
      subst l30 y30 z30
      obtain ⟨rfl, N30q, e30⟩ := hQ30
      have N30 := Fr.app N29 N30q
      refine OGot.on st30 ?_
      show OGot p.tables e below (T30.setTop (mkF m 68 #[.val (.int p1), .val (.int p2), .val (.int (0 : Int32)), .val (.int (5 : Int32)), .val (.ref w_PENDING), .val .null, .val (.int (0 : Int32))] [(.int (0 : Int32))])) _
      refine OGot.go (fun t k => XS.iload X30.here hx rfl (hb hby at_68) rfl k) ?_
      show OGot p.tables e below (T30.setTop (mkF m 70 #[.val (.int p1), .val (.int p2), .val (.int (0 : Int32)), .val (.int (5 : Int32)), .val (.ref w_PENDING), .val .null, .val (.int (0 : Int32))] [(.int (0 : Int32)), (.int (0 : Int32))])) _
      refine OGot.go (fun t k => XS.icmpNo X30.here hx rfl (hb hby at_70) rfl (by decide) k) ?_
      show OGot p.tables e below (T30.setTop (mkF m 73 #[.val (.int p1), .val (.int p2), .val (.int (0 : Int32)), .val (.int (5 : Int32)), .val (.ref w_PENDING), .val .null, .val (.int (0 : Int32))] [])) _
      refine OGot.go (fun t k => XS.iconst X30.here hx rfl (hb hby at_73) k) ?_
      show OGot p.tables e below (T30.setTop (mkF m 74 #[.val (.int p1), .val (.int p2), .val (.int (0 : Int32)), .val (.int (5 : Int32)), .val (.ref w_PENDING), .val .null, .val (.int (0 : Int32))] [(.int (1 : Int32))])) _
      refine OGot.go (fun t k => XS.goto X30.here hx rfl (pc0 := 74) (pc' := 78) rfl (hb hby at_74) (by decide) (by decide) k) ?_
      show OGot p.tables e below (T30.setTop (mkF m 78 #[.val (.int p1), .val (.int p2), .val (.int (0 : Int32)), .val (.int (5 : Int32)), .val (.ref w_PENDING), .val .null, .val (.int (0 : Int32))] [(.int (1 : Int32))])) _
      obtain ⟨fs, hr, hrun, hended, hW, hsame⟩ := X30.leave (v := some (.int (1 : Int32))) (fun h => by rw [Bd.returns] at h; cases h)
      refine ⟨_, _, retN X30 hx (t := .boolean) Bd.returns (by simp) (hb hby at_78) hr, hrun, hended, _, _, rfl, ?_, ⟨_, rfl⟩, hW, hsame.mono (by decide) (by decide)⟩
      exact (⟨rfl, N30⟩ : Q0 Z w_PENDING w_FAILED w_RUNNING w_CANCELLED w_COMPLETED p1 p2 h0 n0 _ T30.heap _)
  · rw [hk4]
    show OGot p.tables e below (s₁.setTop (mkF m 6 #[.val (.int p1), .val (.int p2), .unset, .unset, .unset, .unset, .unset] [(.int (1 : Int32))])) _
    refine OGot.go (fun t k => XS.istoreN X0.here hx rfl (hb hby at_6) rfl (l' := #[.val (.int p1), .val (.int p2), .val (.int (1 : Int32)), .unset, .unset, .unset, .unset]) rfl k) ?_
    show OGot p.tables e below (s₁.setTop (mkF m 7 #[.val (.int p1), .val (.int p2), .val (.int (1 : Int32)), .unset, .unset, .unset, .unset] [])) _
    refine OGot.go (fun t k => XS.iloadN X0.here hx rfl (hb hby at_7) rfl k) ?_
    show OGot p.tables e below (s₁.setTop (mkF m 8 #[.val (.int p1), .val (.int p2), .val (.int (1 : Int32)), .unset, .unset, .unset, .unset] [(.int p2)])) _
    refine OGot.go (fun t k => X0.ldcInt hx hown (mvT hZ (ow hw 0 rfl)) (g := (mkF m 8 #[.val (.int p1), .val (.int p2), .val (.int (1 : Int32)), .unset, .unset, .unset, .unset] [(.int p2)])) rfl (hb hby at_8) _ k) ?_
    show OGot p.tables e below (s₁.setTop (mkF m 10 #[.val (.int p1), .val (.int p2), .val (.int (1 : Int32)), .unset, .unset, .unset, .unset] [(.int (2147483647 : Int32)), (.int p2)])) _
    refine OGot.go (fun t k => XS.iand X0.here hx rfl (hb hby at_10) rfl k) ?_
    show OGot p.tables e below (s₁.setTop (mkF m 11 #[.val (.int p1), .val (.int p2), .val (.int (1 : Int32)), .unset, .unset, .unset, .unset] [(.int (p2 &&& (2147483647 : Int32)))])) _
    refine OGot.go (fun t k => XS.bipush X0.here hx rfl (hb hby at_11) k) ?_
    show OGot p.tables e below (s₁.setTop (mkF m 13 #[.val (.int p1), .val (.int p2), .val (.int (1 : Int32)), .unset, .unset, .unset, .unset] [(.int (6 : Int32)), (.int (p2 &&& (2147483647 : Int32)))])) _
    refine OGot.go (fun t k => iremM X0 hx rfl (hb hby at_13) rfl (by decide) k) ?_
    show OGot p.tables e below (s₁.setTop (mkF m 14 #[.val (.int p1), .val (.int p2), .val (.int (1 : Int32)), .unset, .unset, .unset, .unset] [(.int ((p2 &&& (2147483647 : Int32)) % (6 : Int32)))])) _
    rcases own_rem6 p2 with hk31 | hk32 | hk33 | hk34 | hk35 | hk36
    · rw [hk31]
      show OGot p.tables e below (s₁.setTop (mkF m 14 #[.val (.int p1), .val (.int p2), .val (.int (1 : Int32)), .unset, .unset, .unset, .unset] [(.int (0 : Int32))])) _
      refine OGot.go (fun t k => XS.istoreN X0.here hx rfl (hb hby at_14) rfl (l' := #[.val (.int p1), .val (.int p2), .val (.int (1 : Int32)), .val (.int (0 : Int32)), .unset, .unset, .unset]) rfl k) ?_
      show OGot p.tables e below (s₁.setTop (mkF m 15 #[.val (.int p1), .val (.int p2), .val (.int (1 : Int32)), .val (.int (0 : Int32)), .unset, .unset, .unset] [])) _
      refine OGot.go (fun t k => XS.iloadN X0.here hx rfl (hb hby at_15) rfl k) ?_
      show OGot p.tables e below (s₁.setTop (mkF m 16 #[.val (.int p1), .val (.int p2), .val (.int (1 : Int32)), .val (.int (0 : Int32)), .unset, .unset, .unset] [(.int (1 : Int32))])) _
      obtain ⟨_, _, ⟨T37, L37, k37, n37⟩, -, X37, ⟨Lc37, hQ37, l37, y37, z37⟩, st37⟩ := Jvm.LawKit.callS X0 hx (y := (⟨"com/example/hermit_crab/hermitcrab/JobStateCanMoveToPinLaw", "st", "(I)Lcom/example/hermit_crab/hermitcrab/JobState;"⟩ : MethodName)) hown (mvT hZ (ow hw 1 rfl)) (mvT hZ (ow hw 2 rfl)) (mvT hZ (ow hw 3 rfl)) (mvT hZ (ow hw 4 rfl)) (by decide) (backOf (W := 0) (rm1_1 l Z a0 hw [] G  h0 n0 O0 ) hZ (ow hw 4 rfl) (ow hw 3 rfl) (by decide) (by decide)) (g := (mkF m 16 #[.val (.int p1), .val (.int p2), .val (.int (1 : Int32)), .val (.int (0 : Int32)), .unset, .unset, .unset] [(.int (1 : Int32))])) rfl (by rw [hml]; rfl) (argsL := [(.int (1 : Int32))]) (rest := []) (lenOf pd_0 rfl) rfl (by show 2 * 0 + _ ≤ _; exact Nat.le_of_eq rfl) (hb hby at_16) (fun _ _ => ⟨rfl, e0, (by decide : 0 + 0 ≤ _), (by decide : 0 + 0 ≤ _)⟩)
      dsimp only [Pt.U, Pt.locs, Pt.cells, Pt.slots] at X37 l37 y37 z37 st37 hQ37
      subst l37 y37 z37
      obtain ⟨rfl, N37q, e37⟩ := hQ37
      have N37 := Fr.app N0 N37q
      refine OGot.go st37 ?_
      show OGot p.tables e below (T37.setTop (mkF m 19 #[.val (.int p1), .val (.int p2), .val (.int (1 : Int32)), .val (.int (0 : Int32)), .unset, .unset, .unset] [(.ref w_RUNNING)])) _
      refine OGot.go (fun t k => XS.astore X37.here hx rfl (hb hby at_19) rfl rfl (l' := #[.val (.int p1), .val (.int p2), .val (.int (1 : Int32)), .val (.int (0 : Int32)), .val (.ref w_RUNNING), .unset, .unset]) rfl k) ?_
      show OGot p.tables e below (T37.setTop (mkF m 21 #[.val (.int p1), .val (.int p2), .val (.int (1 : Int32)), .val (.int (0 : Int32)), .val (.ref w_RUNNING), .unset, .unset] [])) _
      refine OGot.go (fun t k => XS.iloadN X37.here hx rfl (hb hby at_21) rfl k) ?_
      show OGot p.tables e below (T37.setTop (mkF m 22 #[.val (.int p1), .val (.int p2), .val (.int (1 : Int32)), .val (.int (0 : Int32)), .val (.ref w_RUNNING), .unset, .unset] [(.int (0 : Int32))])) _
      refine OGot.go (fun t k => XS.iconst X37.here hx rfl (hb hby at_22) k) ?_
      show OGot p.tables e below (T37.setTop (mkF m 23 #[.val (.int p1), .val (.int p2), .val (.int (1 : Int32)), .val (.int (0 : Int32)), .val (.ref w_RUNNING), .unset, .unset] [(.int (5 : Int32)), (.int (0 : Int32))])) _
      refine OGot.go (fun t k => XS.icmpYes X37.here hx rfl (pc0 := 23) (pc' := 30) rfl (hb hby at_23) rfl (by decide) (by decide) (by decide) k) ?_
      show OGot p.tables e below (T37.setTop (mkF m 30 #[.val (.int p1), .val (.int p2), .val (.int (1 : Int32)), .val (.int (0 : Int32)), .val (.ref w_RUNNING), .unset, .unset] [])) _
      refine OGot.go (fun t k => XS.iloadN X37.here hx rfl (hb hby at_30) rfl k) ?_
      show OGot p.tables e below (T37.setTop (mkF m 31 #[.val (.int p1), .val (.int p2), .val (.int (1 : Int32)), .val (.int (0 : Int32)), .val (.ref w_RUNNING), .unset, .unset] [(.int (0 : Int32))])) _
      obtain ⟨_, _, ⟨T38, L38, k38, n38⟩, -, X38, ⟨Lc38, hQ38, l38, y38, z38⟩, st38⟩ := Jvm.LawKit.callS X37 hx (y := (⟨"com/example/hermit_crab/hermitcrab/JobStateCanMoveToPinLaw", "st", "(I)Lcom/example/hermit_crab/hermitcrab/JobState;"⟩ : MethodName)) hown (mvT hZ (ow hw 1 rfl)) (mvT hZ (ow hw 2 rfl)) (mvT hZ (ow hw 3 rfl)) (mvT hZ (ow hw 4 rfl)) (by decide) (backOf (W := 0) (rm1 l Z a0 hw [] G  h0 n0 O0 ) hZ (ow hw 4 rfl) (ow hw 3 rfl) (by decide) (by decide)) (g := (mkF m 31 #[.val (.int p1), .val (.int p2), .val (.int (1 : Int32)), .val (.int (0 : Int32)), .val (.ref w_RUNNING), .unset, .unset] [(.int (0 : Int32))])) rfl (by rw [hml]; rfl) (argsL := [(.int (0 : Int32))]) (rest := []) (lenOf pd_0 rfl) rfl (by show 2 * 0 + _ ≤ _; exact Nat.le_of_eq rfl) (hb hby at_31) (fun _ _ => ⟨rfl, e37, (by decide : 0 + 0 ≤ _), (by decide : 0 + 0 ≤ _)⟩)
      dsimp only [Pt.U, Pt.locs, Pt.cells, Pt.slots] at X38 l38 y38 z38 st38 hQ38
      subst l38 y38 z38
      obtain ⟨rfl, N38q, e38⟩ := hQ38
      have N38 := Fr.app N37 N38q
      refine OGot.go st38 ?_
      show OGot p.tables e below (T38.setTop (mkF m 34 #[.val (.int p1), .val (.int p2), .val (.int (1 : Int32)), .val (.int (0 : Int32)), .val (.ref w_RUNNING), .unset, .unset] [(.ref w_PENDING)])) _
      refine OGot.go (fun t k => XS.astore X38.here hx rfl (hb hby at_34) rfl rfl (l' := #[.val (.int p1), .val (.int p2), .val (.int (1 : Int32)), .val (.int (0 : Int32)), .val (.ref w_RUNNING), .val (.ref w_PENDING), .unset]) rfl k) ?_
      show OGot p.tables e below (T38.setTop (mkF m 36 #[.val (.int p1), .val (.int p2), .val (.int (1 : Int32)), .val (.int (0 : Int32)), .val (.ref w_RUNNING), .val (.ref w_PENDING), .unset] [])) _
      refine OGot.go (fun t k => XS.iloadN X38.here hx rfl (hb hby at_36) rfl k) ?_
      show OGot p.tables e below (T38.setTop (mkF m 37 #[.val (.int p1), .val (.int p2), .val (.int (1 : Int32)), .val (.int (0 : Int32)), .val (.ref w_RUNNING), .val (.ref w_PENDING), .unset] [(.int (0 : Int32))])) _
      refine OGot.go (fun t k => XS.iconst X38.here hx rfl (hb hby at_37) k) ?_
      show OGot p.tables e below (T38.setTop (mkF m 38 #[.val (.int p1), .val (.int p2), .val (.int (1 : Int32)), .val (.int (0 : Int32)), .val (.ref w_RUNNING), .val (.ref w_PENDING), .unset] [(.int (5 : Int32)), (.int (0 : Int32))])) _
      refine OGot.go (fun t k => XS.icmpNo X38.here hx rfl (hb hby at_38) rfl (by decide) k) ?_
      show OGot p.tables e below (T38.setTop (mkF m 41 #[.val (.int p1), .val (.int p2), .val (.int (1 : Int32)), .val (.int (0 : Int32)), .val (.ref w_RUNNING), .val (.ref w_PENDING), .unset] [])) _
      refine OGot.go (fun t k => X38.ldcInt hx hown (mvT hZ (ow hw 10 rfl)) (g := (mkF m 41 #[.val (.int p1), .val (.int p2), .val (.int (1 : Int32)), .val (.int (0 : Int32)), .val (.ref w_RUNNING), .val (.ref w_PENDING), .unset] [])) rfl (hb hby at_41) _ k) ?_
      show OGot p.tables e below (T38.setTop (mkF m 43 #[.val (.int p1), .val (.int p2), .val (.int (1 : Int32)), .val (.int (0 : Int32)), .val (.ref w_RUNNING), .val (.ref w_PENDING), .unset] [(.int (33202 : Int32))])) _
      refine OGot.go (fun t k => XS.iconst X38.here hx rfl (hb hby at_43) k) ?_
      show OGot p.tables e below (T38.setTop (mkF m 44 #[.val (.int p1), .val (.int p2), .val (.int (1 : Int32)), .val (.int (0 : Int32)), .val (.ref w_RUNNING), .val (.ref w_PENDING), .unset] [(.int (5 : Int32)), (.int (33202 : Int32))])) _
      refine OGot.go (fun t k => XS.iloadN X38.here hx rfl (hb hby at_44) rfl k) ?_
      show OGot p.tables e below (T38.setTop (mkF m 45 #[.val (.int p1), .val (.int p2), .val (.int (1 : Int32)), .val (.int (0 : Int32)), .val (.ref w_RUNNING), .val (.ref w_PENDING), .unset] [(.int (1 : Int32)), (.int (5 : Int32)), (.int (33202 : Int32))])) _
      refine OGot.go (fun t k => XS.imul X38.here hx rfl (hb hby at_45) rfl k) ?_
      show OGot p.tables e below (T38.setTop (mkF m 46 #[.val (.int p1), .val (.int p2), .val (.int (1 : Int32)), .val (.int (0 : Int32)), .val (.ref w_RUNNING), .val (.ref w_PENDING), .unset] [(.int ((5 : Int32) * (1 : Int32))), (.int (33202 : Int32))])) _
      rw [show ((5 : Int32) * (1 : Int32)) = (5 : Int32) from by decide]
      show OGot p.tables e below (T38.setTop (mkF m 46 #[.val (.int p1), .val (.int p2), .val (.int (1 : Int32)), .val (.int (0 : Int32)), .val (.ref w_RUNNING), .val (.ref w_PENDING), .unset] [(.int (5 : Int32)), (.int (33202 : Int32))])) _
      refine OGot.go (fun t k => XS.iloadN X38.here hx rfl (hb hby at_46) rfl k) ?_
      show OGot p.tables e below (T38.setTop (mkF m 47 #[.val (.int p1), .val (.int p2), .val (.int (1 : Int32)), .val (.int (0 : Int32)), .val (.ref w_RUNNING), .val (.ref w_PENDING), .unset] [(.int (0 : Int32)), (.int (5 : Int32)), (.int (33202 : Int32))])) _
      refine OGot.go (fun t k => XS.iadd X38.here hx rfl (hb hby at_47) rfl k) ?_
      show OGot p.tables e below (T38.setTop (mkF m 48 #[.val (.int p1), .val (.int p2), .val (.int (1 : Int32)), .val (.int (0 : Int32)), .val (.ref w_RUNNING), .val (.ref w_PENDING), .unset] [(.int ((5 : Int32) + (0 : Int32))), (.int (33202 : Int32))])) _
      rw [show ((5 : Int32) + (0 : Int32)) = (5 : Int32) from by decide]
      show OGot p.tables e below (T38.setTop (mkF m 48 #[.val (.int p1), .val (.int p2), .val (.int (1 : Int32)), .val (.int (0 : Int32)), .val (.ref w_RUNNING), .val (.ref w_PENDING), .unset] [(.int (5 : Int32)), (.int (33202 : Int32))])) _
      refine OGot.go (fun t k => XS.ishr X38.here hx rfl (hb hby at_48) rfl k) ?_
      show OGot p.tables e below (T38.setTop (mkF m 49 #[.val (.int p1), .val (.int p2), .val (.int (1 : Int32)), .val (.int (0 : Int32)), .val (.ref w_RUNNING), .val (.ref w_PENDING), .unset] [(.int ((33202 : Int32) >>> ((5 : Int32) &&& 31)))])) _
      rw [show ((33202 : Int32) >>> ((5 : Int32) &&& 31)) = (1037 : Int32) from by decide]
      show OGot p.tables e below (T38.setTop (mkF m 49 #[.val (.int p1), .val (.int p2), .val (.int (1 : Int32)), .val (.int (0 : Int32)), .val (.ref w_RUNNING), .val (.ref w_PENDING), .unset] [(.int (1037 : Int32))])) _
      refine OGot.go (fun t k => XS.iconst X38.here hx rfl (hb hby at_49) k) ?_
      show OGot p.tables e below (T38.setTop (mkF m 50 #[.val (.int p1), .val (.int p2), .val (.int (1 : Int32)), .val (.int (0 : Int32)), .val (.ref w_RUNNING), .val (.ref w_PENDING), .unset] [(.int (1 : Int32)), (.int (1037 : Int32))])) _
      refine OGot.go (fun t k => XS.iand X38.here hx rfl (hb hby at_50) rfl k) ?_
      show OGot p.tables e below (T38.setTop (mkF m 51 #[.val (.int p1), .val (.int p2), .val (.int (1 : Int32)), .val (.int (0 : Int32)), .val (.ref w_RUNNING), .val (.ref w_PENDING), .unset] [(.int ((1037 : Int32) &&& (1 : Int32)))])) _
      rw [show ((1037 : Int32) &&& (1 : Int32)) = (1 : Int32) from by decide]
      show OGot p.tables e below (T38.setTop (mkF m 51 #[.val (.int p1), .val (.int p2), .val (.int (1 : Int32)), .val (.int (0 : Int32)), .val (.ref w_RUNNING), .val (.ref w_PENDING), .unset] [(.int (1 : Int32))])) _
      refine OGot.go (fun t k => XS.ifNo X38.here hx rfl (hb hby at_51) rfl (by decide) k) ?_
      show OGot p.tables e below (T38.setTop (mkF m 54 #[.val (.int p1), .val (.int p2), .val (.int (1 : Int32)), .val (.int (0 : Int32)), .val (.ref w_RUNNING), .val (.ref w_PENDING), .unset] [])) _
      refine OGot.go (fun t k => XS.iconst X38.here hx rfl (hb hby at_54) k) ?_
      show OGot p.tables e below (T38.setTop (mkF m 55 #[.val (.int p1), .val (.int p2), .val (.int (1 : Int32)), .val (.int (0 : Int32)), .val (.ref w_RUNNING), .val (.ref w_PENDING), .unset] [(.int (1 : Int32))])) _
      refine OGot.go (fun t k => XS.goto X38.here hx rfl (pc0 := 55) (pc' := 59) rfl (hb hby at_55) (by decide) (by decide) k) ?_
      show OGot p.tables e below (T38.setTop (mkF m 59 #[.val (.int p1), .val (.int p2), .val (.int (1 : Int32)), .val (.int (0 : Int32)), .val (.ref w_RUNNING), .val (.ref w_PENDING), .unset] [(.int (1 : Int32))])) _
      refine OGot.go (fun t k => XS.istore X38.here hx rfl (hb hby at_59) rfl (l' := #[.val (.int p1), .val (.int p2), .val (.int (1 : Int32)), .val (.int (0 : Int32)), .val (.ref w_RUNNING), .val (.ref w_PENDING), .val (.int (1 : Int32))]) rfl k) ?_
      show OGot p.tables e below (T38.setTop (mkF m 61 #[.val (.int p1), .val (.int p2), .val (.int (1 : Int32)), .val (.int (0 : Int32)), .val (.ref w_RUNNING), .val (.ref w_PENDING), .val (.int (1 : Int32))] [])) _
      refine OGot.go (fun t k => XS.aload X38.here hx rfl (hb hby at_61) rfl rfl k) ?_
      show OGot p.tables e below (T38.setTop (mkF m 63 #[.val (.int p1), .val (.int p2), .val (.int (1 : Int32)), .val (.int (0 : Int32)), .val (.ref w_RUNNING), .val (.ref w_PENDING), .val (.int (1 : Int32))] [(.ref w_RUNNING)])) _
      refine OGot.go (fun t k => XS.aload X38.here hx rfl (hb hby at_63) rfl rfl k) ?_
      show OGot p.tables e below (T38.setTop (mkF m 65 #[.val (.int p1), .val (.int p2), .val (.int (1 : Int32)), .val (.int (0 : Int32)), .val (.ref w_RUNNING), .val (.ref w_PENDING), .val (.int (1 : Int32))] [(.ref w_PENDING), (.ref w_RUNNING)])) _
      obtain ⟨cq39, kq39, q39a, q39b, q39c⟩ := isOf hZ e38 (G.2.2.2.2.2.1.ext O0.2)
      obtain ⟨_, _, ⟨T39, L39, k39, n39⟩, -, X39, ⟨Lc39, hQ39, l39, y39, z39⟩, st39⟩ := X38.virtualBack hx (y := (⟨"com/example/hermit_crab/hermitcrab/JobState", "canMoveTo", "(Lcom/example/hermit_crab/hermitcrab/JobState;)Z"⟩ : MethodName)) (z := (⟨"com/example/hermit_crab/hermitcrab/JobState", "canMoveTo", "(Lcom/example/hermit_crab/hermitcrab/JobState;)Z"⟩ : MethodName)) hown (mvT hZ (ow hw 11 rfl)) (mvT hZ (ow hw 12 rfl)) (notFace_of_selects (args := #[]) (mvT hZ (ow hw 14 rfl))) (mvT hZ (ow hw 14 rfl)) (mvT hZ (ow hw 13 rfl)) (by decide) (backOf (W := 0) (rm2_6 l Z a0 hw [] G  h0 n0 O0 ) hZ (ow hw 15 rfl) (ow hw 6 rfl) (by decide) (by decide)) q39a q39c (g := (mkF m 65 #[.val (.int p1), .val (.int p2), .val (.int (1 : Int32)), .val (.int (0 : Int32)), .val (.ref w_RUNNING), .val (.ref w_PENDING), .val (.int (1 : Int32))] [(.ref w_PENDING), (.ref w_RUNNING)])) rfl (by rw [hml]; rfl) (Steps.refl _) (argsL := [(.ref w_PENDING)]) (rest := []) (lenOf pd_2 rfl) rfl (by show 2 * 0 + _ ≤ _; exact Nat.le_of_eq rfl) (hb hby at_65) (fun _ _ => ⟨rfl, e38, (by decide : 0 + 0 ≤ _), (by decide : 0 + 0 ≤ _)⟩)
      dsimp only [Pt.U, Pt.locs, Pt.cells, Pt.slots] at X39 l39 y39 z39 st39 hQ39
      subst l39 y39 z39
      obtain ⟨rfl, N39q, e39⟩ := hQ39
      have N39 := Fr.app N38 N39q
      refine OGot.on st39 ?_
      show OGot p.tables e below (T39.setTop (mkF m 68 #[.val (.int p1), .val (.int p2), .val (.int (1 : Int32)), .val (.int (0 : Int32)), .val (.ref w_RUNNING), .val (.ref w_PENDING), .val (.int (1 : Int32))] [(.int (1 : Int32))])) _
      refine OGot.go (fun t k => XS.iload X39.here hx rfl (hb hby at_68) rfl k) ?_
      show OGot p.tables e below (T39.setTop (mkF m 70 #[.val (.int p1), .val (.int p2), .val (.int (1 : Int32)), .val (.int (0 : Int32)), .val (.ref w_RUNNING), .val (.ref w_PENDING), .val (.int (1 : Int32))] [(.int (1 : Int32)), (.int (1 : Int32))])) _
      refine OGot.go (fun t k => XS.icmpNo X39.here hx rfl (hb hby at_70) rfl (by decide) k) ?_
      show OGot p.tables e below (T39.setTop (mkF m 73 #[.val (.int p1), .val (.int p2), .val (.int (1 : Int32)), .val (.int (0 : Int32)), .val (.ref w_RUNNING), .val (.ref w_PENDING), .val (.int (1 : Int32))] [])) _
      refine OGot.go (fun t k => XS.iconst X39.here hx rfl (hb hby at_73) k) ?_
      show OGot p.tables e below (T39.setTop (mkF m 74 #[.val (.int p1), .val (.int p2), .val (.int (1 : Int32)), .val (.int (0 : Int32)), .val (.ref w_RUNNING), .val (.ref w_PENDING), .val (.int (1 : Int32))] [(.int (1 : Int32))])) _
      refine OGot.go (fun t k => XS.goto X39.here hx rfl (pc0 := 74) (pc' := 78) rfl (hb hby at_74) (by decide) (by decide) k) ?_
      show OGot p.tables e below (T39.setTop (mkF m 78 #[.val (.int p1), .val (.int p2), .val (.int (1 : Int32)), .val (.int (0 : Int32)), .val (.ref w_RUNNING), .val (.ref w_PENDING), .val (.int (1 : Int32))] [(.int (1 : Int32))])) _
      obtain ⟨fs, hr, hrun, hended, hW, hsame⟩ := X39.leave (v := some (.int (1 : Int32))) (fun h => by rw [Bd.returns] at h; cases h)
      refine ⟨_, _, retN X39 hx (t := .boolean) Bd.returns (by simp) (hb hby at_78) hr, hrun, hended, _, _, rfl, ?_, ⟨_, rfl⟩, hW, hsame.mono (by decide) (by decide)⟩
      exact (⟨rfl, N39⟩ : Q0 Z w_PENDING w_FAILED w_RUNNING w_CANCELLED w_COMPLETED p1 p2 h0 n0 _ T39.heap _)
    · rw [hk32]
      show OGot p.tables e below (s₁.setTop (mkF m 14 #[.val (.int p1), .val (.int p2), .val (.int (1 : Int32)), .unset, .unset, .unset, .unset] [(.int (1 : Int32))])) _
      refine OGot.go (fun t k => XS.istoreN X0.here hx rfl (hb hby at_14) rfl (l' := #[.val (.int p1), .val (.int p2), .val (.int (1 : Int32)), .val (.int (1 : Int32)), .unset, .unset, .unset]) rfl k) ?_
      show OGot p.tables e below (s₁.setTop (mkF m 15 #[.val (.int p1), .val (.int p2), .val (.int (1 : Int32)), .val (.int (1 : Int32)), .unset, .unset, .unset] [])) _
      refine OGot.go (fun t k => XS.iloadN X0.here hx rfl (hb hby at_15) rfl k) ?_
      show OGot p.tables e below (s₁.setTop (mkF m 16 #[.val (.int p1), .val (.int p2), .val (.int (1 : Int32)), .val (.int (1 : Int32)), .unset, .unset, .unset] [(.int (1 : Int32))])) _
      obtain ⟨_, _, ⟨T40, L40, k40, n40⟩, -, X40, ⟨Lc40, hQ40, l40, y40, z40⟩, st40⟩ := Jvm.LawKit.callS X0 hx (y := (⟨"com/example/hermit_crab/hermitcrab/JobStateCanMoveToPinLaw", "st", "(I)Lcom/example/hermit_crab/hermitcrab/JobState;"⟩ : MethodName)) hown (mvT hZ (ow hw 1 rfl)) (mvT hZ (ow hw 2 rfl)) (mvT hZ (ow hw 3 rfl)) (mvT hZ (ow hw 4 rfl)) (by decide) (backOf (W := 0) (rm1_1 l Z a0 hw [] G  h0 n0 O0 ) hZ (ow hw 4 rfl) (ow hw 3 rfl) (by decide) (by decide)) (g := (mkF m 16 #[.val (.int p1), .val (.int p2), .val (.int (1 : Int32)), .val (.int (1 : Int32)), .unset, .unset, .unset] [(.int (1 : Int32))])) rfl (by rw [hml]; rfl) (argsL := [(.int (1 : Int32))]) (rest := []) (lenOf pd_0 rfl) rfl (by show 2 * 0 + _ ≤ _; exact Nat.le_of_eq rfl) (hb hby at_16) (fun _ _ => ⟨rfl, e0, (by decide : 0 + 0 ≤ _), (by decide : 0 + 0 ≤ _)⟩)
      dsimp only [Pt.U, Pt.locs, Pt.cells, Pt.slots] at X40 l40 y40 z40 st40 hQ40
      subst l40 y40 z40
      obtain ⟨rfl, N40q, e40⟩ := hQ40
      have N40 := Fr.app N0 N40q
      refine OGot.go st40 ?_
      show OGot p.tables e below (T40.setTop (mkF m 19 #[.val (.int p1), .val (.int p2), .val (.int (1 : Int32)), .val (.int (1 : Int32)), .unset, .unset, .unset] [(.ref w_RUNNING)])) _
      refine OGot.go (fun t k => XS.astore X40.here hx rfl (hb hby at_19) rfl rfl (l' := #[.val (.int p1), .val (.int p2), .val (.int (1 : Int32)), .val (.int (1 : Int32)), .val (.ref w_RUNNING), .unset, .unset]) rfl k) ?_
      show OGot p.tables e below (T40.setTop (mkF m 21 #[.val (.int p1), .val (.int p2), .val (.int (1 : Int32)), .val (.int (1 : Int32)), .val (.ref w_RUNNING), .unset, .unset] [])) _
      refine OGot.go (fun t k => XS.iloadN X40.here hx rfl (hb hby at_21) rfl k) ?_
      show OGot p.tables e below (T40.setTop (mkF m 22 #[.val (.int p1), .val (.int p2), .val (.int (1 : Int32)), .val (.int (1 : Int32)), .val (.ref w_RUNNING), .unset, .unset] [(.int (1 : Int32))])) _
      refine OGot.go (fun t k => XS.iconst X40.here hx rfl (hb hby at_22) k) ?_
      show OGot p.tables e below (T40.setTop (mkF m 23 #[.val (.int p1), .val (.int p2), .val (.int (1 : Int32)), .val (.int (1 : Int32)), .val (.ref w_RUNNING), .unset, .unset] [(.int (5 : Int32)), (.int (1 : Int32))])) _
      refine OGot.go (fun t k => XS.icmpYes X40.here hx rfl (pc0 := 23) (pc' := 30) rfl (hb hby at_23) rfl (by decide) (by decide) (by decide) k) ?_
      show OGot p.tables e below (T40.setTop (mkF m 30 #[.val (.int p1), .val (.int p2), .val (.int (1 : Int32)), .val (.int (1 : Int32)), .val (.ref w_RUNNING), .unset, .unset] [])) _
      refine OGot.go (fun t k => XS.iloadN X40.here hx rfl (hb hby at_30) rfl k) ?_
      show OGot p.tables e below (T40.setTop (mkF m 31 #[.val (.int p1), .val (.int p2), .val (.int (1 : Int32)), .val (.int (1 : Int32)), .val (.ref w_RUNNING), .unset, .unset] [(.int (1 : Int32))])) _
      obtain ⟨_, _, ⟨T41, L41, k41, n41⟩, -, X41, ⟨Lc41, hQ41, l41, y41, z41⟩, st41⟩ := Jvm.LawKit.callS X40 hx (y := (⟨"com/example/hermit_crab/hermitcrab/JobStateCanMoveToPinLaw", "st", "(I)Lcom/example/hermit_crab/hermitcrab/JobState;"⟩ : MethodName)) hown (mvT hZ (ow hw 1 rfl)) (mvT hZ (ow hw 2 rfl)) (mvT hZ (ow hw 3 rfl)) (mvT hZ (ow hw 4 rfl)) (by decide) (backOf (W := 0) (rm1_1 l Z a0 hw [] G  h0 n0 O0 ) hZ (ow hw 4 rfl) (ow hw 3 rfl) (by decide) (by decide)) (g := (mkF m 31 #[.val (.int p1), .val (.int p2), .val (.int (1 : Int32)), .val (.int (1 : Int32)), .val (.ref w_RUNNING), .unset, .unset] [(.int (1 : Int32))])) rfl (by rw [hml]; rfl) (argsL := [(.int (1 : Int32))]) (rest := []) (lenOf pd_0 rfl) rfl (by show 2 * 0 + _ ≤ _; exact Nat.le_of_eq rfl) (hb hby at_31) (fun _ _ => ⟨rfl, e40, (by decide : 0 + 0 ≤ _), (by decide : 0 + 0 ≤ _)⟩)
      dsimp only [Pt.U, Pt.locs, Pt.cells, Pt.slots] at X41 l41 y41 z41 st41 hQ41
      subst l41 y41 z41
      obtain ⟨rfl, N41q, e41⟩ := hQ41
      have N41 := Fr.app N40 N41q
      refine OGot.go st41 ?_
      show OGot p.tables e below (T41.setTop (mkF m 34 #[.val (.int p1), .val (.int p2), .val (.int (1 : Int32)), .val (.int (1 : Int32)), .val (.ref w_RUNNING), .unset, .unset] [(.ref w_RUNNING)])) _
      refine OGot.go (fun t k => XS.astore X41.here hx rfl (hb hby at_34) rfl rfl (l' := #[.val (.int p1), .val (.int p2), .val (.int (1 : Int32)), .val (.int (1 : Int32)), .val (.ref w_RUNNING), .val (.ref w_RUNNING), .unset]) rfl k) ?_
      show OGot p.tables e below (T41.setTop (mkF m 36 #[.val (.int p1), .val (.int p2), .val (.int (1 : Int32)), .val (.int (1 : Int32)), .val (.ref w_RUNNING), .val (.ref w_RUNNING), .unset] [])) _
      refine OGot.go (fun t k => XS.iloadN X41.here hx rfl (hb hby at_36) rfl k) ?_
      show OGot p.tables e below (T41.setTop (mkF m 37 #[.val (.int p1), .val (.int p2), .val (.int (1 : Int32)), .val (.int (1 : Int32)), .val (.ref w_RUNNING), .val (.ref w_RUNNING), .unset] [(.int (1 : Int32))])) _
      refine OGot.go (fun t k => XS.iconst X41.here hx rfl (hb hby at_37) k) ?_
      show OGot p.tables e below (T41.setTop (mkF m 38 #[.val (.int p1), .val (.int p2), .val (.int (1 : Int32)), .val (.int (1 : Int32)), .val (.ref w_RUNNING), .val (.ref w_RUNNING), .unset] [(.int (5 : Int32)), (.int (1 : Int32))])) _
      refine OGot.go (fun t k => XS.icmpNo X41.here hx rfl (hb hby at_38) rfl (by decide) k) ?_
      show OGot p.tables e below (T41.setTop (mkF m 41 #[.val (.int p1), .val (.int p2), .val (.int (1 : Int32)), .val (.int (1 : Int32)), .val (.ref w_RUNNING), .val (.ref w_RUNNING), .unset] [])) _
      refine OGot.go (fun t k => X41.ldcInt hx hown (mvT hZ (ow hw 10 rfl)) (g := (mkF m 41 #[.val (.int p1), .val (.int p2), .val (.int (1 : Int32)), .val (.int (1 : Int32)), .val (.ref w_RUNNING), .val (.ref w_RUNNING), .unset] [])) rfl (hb hby at_41) _ k) ?_
      show OGot p.tables e below (T41.setTop (mkF m 43 #[.val (.int p1), .val (.int p2), .val (.int (1 : Int32)), .val (.int (1 : Int32)), .val (.ref w_RUNNING), .val (.ref w_RUNNING), .unset] [(.int (33202 : Int32))])) _
      refine OGot.go (fun t k => XS.iconst X41.here hx rfl (hb hby at_43) k) ?_
      show OGot p.tables e below (T41.setTop (mkF m 44 #[.val (.int p1), .val (.int p2), .val (.int (1 : Int32)), .val (.int (1 : Int32)), .val (.ref w_RUNNING), .val (.ref w_RUNNING), .unset] [(.int (5 : Int32)), (.int (33202 : Int32))])) _
      refine OGot.go (fun t k => XS.iloadN X41.here hx rfl (hb hby at_44) rfl k) ?_
      show OGot p.tables e below (T41.setTop (mkF m 45 #[.val (.int p1), .val (.int p2), .val (.int (1 : Int32)), .val (.int (1 : Int32)), .val (.ref w_RUNNING), .val (.ref w_RUNNING), .unset] [(.int (1 : Int32)), (.int (5 : Int32)), (.int (33202 : Int32))])) _
      refine OGot.go (fun t k => XS.imul X41.here hx rfl (hb hby at_45) rfl k) ?_
      show OGot p.tables e below (T41.setTop (mkF m 46 #[.val (.int p1), .val (.int p2), .val (.int (1 : Int32)), .val (.int (1 : Int32)), .val (.ref w_RUNNING), .val (.ref w_RUNNING), .unset] [(.int ((5 : Int32) * (1 : Int32))), (.int (33202 : Int32))])) _
      rw [show ((5 : Int32) * (1 : Int32)) = (5 : Int32) from by decide]
      show OGot p.tables e below (T41.setTop (mkF m 46 #[.val (.int p1), .val (.int p2), .val (.int (1 : Int32)), .val (.int (1 : Int32)), .val (.ref w_RUNNING), .val (.ref w_RUNNING), .unset] [(.int (5 : Int32)), (.int (33202 : Int32))])) _
      refine OGot.go (fun t k => XS.iloadN X41.here hx rfl (hb hby at_46) rfl k) ?_
      show OGot p.tables e below (T41.setTop (mkF m 47 #[.val (.int p1), .val (.int p2), .val (.int (1 : Int32)), .val (.int (1 : Int32)), .val (.ref w_RUNNING), .val (.ref w_RUNNING), .unset] [(.int (1 : Int32)), (.int (5 : Int32)), (.int (33202 : Int32))])) _
      refine OGot.go (fun t k => XS.iadd X41.here hx rfl (hb hby at_47) rfl k) ?_
      show OGot p.tables e below (T41.setTop (mkF m 48 #[.val (.int p1), .val (.int p2), .val (.int (1 : Int32)), .val (.int (1 : Int32)), .val (.ref w_RUNNING), .val (.ref w_RUNNING), .unset] [(.int ((5 : Int32) + (1 : Int32))), (.int (33202 : Int32))])) _
      rw [show ((5 : Int32) + (1 : Int32)) = (6 : Int32) from by decide]
      show OGot p.tables e below (T41.setTop (mkF m 48 #[.val (.int p1), .val (.int p2), .val (.int (1 : Int32)), .val (.int (1 : Int32)), .val (.ref w_RUNNING), .val (.ref w_RUNNING), .unset] [(.int (6 : Int32)), (.int (33202 : Int32))])) _
      refine OGot.go (fun t k => XS.ishr X41.here hx rfl (hb hby at_48) rfl k) ?_
      show OGot p.tables e below (T41.setTop (mkF m 49 #[.val (.int p1), .val (.int p2), .val (.int (1 : Int32)), .val (.int (1 : Int32)), .val (.ref w_RUNNING), .val (.ref w_RUNNING), .unset] [(.int ((33202 : Int32) >>> ((6 : Int32) &&& 31)))])) _
      rw [show ((33202 : Int32) >>> ((6 : Int32) &&& 31)) = (518 : Int32) from by decide]
      show OGot p.tables e below (T41.setTop (mkF m 49 #[.val (.int p1), .val (.int p2), .val (.int (1 : Int32)), .val (.int (1 : Int32)), .val (.ref w_RUNNING), .val (.ref w_RUNNING), .unset] [(.int (518 : Int32))])) _
      refine OGot.go (fun t k => XS.iconst X41.here hx rfl (hb hby at_49) k) ?_
      show OGot p.tables e below (T41.setTop (mkF m 50 #[.val (.int p1), .val (.int p2), .val (.int (1 : Int32)), .val (.int (1 : Int32)), .val (.ref w_RUNNING), .val (.ref w_RUNNING), .unset] [(.int (1 : Int32)), (.int (518 : Int32))])) _
      refine OGot.go (fun t k => XS.iand X41.here hx rfl (hb hby at_50) rfl k) ?_
      show OGot p.tables e below (T41.setTop (mkF m 51 #[.val (.int p1), .val (.int p2), .val (.int (1 : Int32)), .val (.int (1 : Int32)), .val (.ref w_RUNNING), .val (.ref w_RUNNING), .unset] [(.int ((518 : Int32) &&& (1 : Int32)))])) _
      rw [show ((518 : Int32) &&& (1 : Int32)) = (0 : Int32) from by decide]
      show OGot p.tables e below (T41.setTop (mkF m 51 #[.val (.int p1), .val (.int p2), .val (.int (1 : Int32)), .val (.int (1 : Int32)), .val (.ref w_RUNNING), .val (.ref w_RUNNING), .unset] [(.int (0 : Int32))])) _
      refine OGot.go (fun t k => XS.ifYes X41.here hx rfl (pc0 := 51) (pc' := 58) rfl (hb hby at_51) rfl (by decide) (by decide) (by decide) k) ?_
      show OGot p.tables e below (T41.setTop (mkF m 58 #[.val (.int p1), .val (.int p2), .val (.int (1 : Int32)), .val (.int (1 : Int32)), .val (.ref w_RUNNING), .val (.ref w_RUNNING), .unset] [])) _
      refine OGot.go (fun t k => XS.iconst X41.here hx rfl (hb hby at_58) k) ?_
      show OGot p.tables e below (T41.setTop (mkF m 59 #[.val (.int p1), .val (.int p2), .val (.int (1 : Int32)), .val (.int (1 : Int32)), .val (.ref w_RUNNING), .val (.ref w_RUNNING), .unset] [(.int (0 : Int32))])) _
      refine OGot.go (fun t k => XS.istore X41.here hx rfl (hb hby at_59) rfl (l' := #[.val (.int p1), .val (.int p2), .val (.int (1 : Int32)), .val (.int (1 : Int32)), .val (.ref w_RUNNING), .val (.ref w_RUNNING), .val (.int (0 : Int32))]) rfl k) ?_
      show OGot p.tables e below (T41.setTop (mkF m 61 #[.val (.int p1), .val (.int p2), .val (.int (1 : Int32)), .val (.int (1 : Int32)), .val (.ref w_RUNNING), .val (.ref w_RUNNING), .val (.int (0 : Int32))] [])) _
      refine OGot.go (fun t k => XS.aload X41.here hx rfl (hb hby at_61) rfl rfl k) ?_
      show OGot p.tables e below (T41.setTop (mkF m 63 #[.val (.int p1), .val (.int p2), .val (.int (1 : Int32)), .val (.int (1 : Int32)), .val (.ref w_RUNNING), .val (.ref w_RUNNING), .val (.int (0 : Int32))] [(.ref w_RUNNING)])) _
      refine OGot.go (fun t k => XS.aload X41.here hx rfl (hb hby at_63) rfl rfl k) ?_
      show OGot p.tables e below (T41.setTop (mkF m 65 #[.val (.int p1), .val (.int p2), .val (.int (1 : Int32)), .val (.int (1 : Int32)), .val (.ref w_RUNNING), .val (.ref w_RUNNING), .val (.int (0 : Int32))] [(.ref w_RUNNING), (.ref w_RUNNING)])) _
      obtain ⟨cq42, kq42, q42a, q42b, q42c⟩ := isOf hZ e41 (G.2.2.2.2.2.1.ext O0.2)
      obtain ⟨_, _, ⟨T42, L42, k42, n42⟩, -, X42, ⟨Lc42, hQ42, l42, y42, z42⟩, st42⟩ := X41.virtualBack hx (y := (⟨"com/example/hermit_crab/hermitcrab/JobState", "canMoveTo", "(Lcom/example/hermit_crab/hermitcrab/JobState;)Z"⟩ : MethodName)) (z := (⟨"com/example/hermit_crab/hermitcrab/JobState", "canMoveTo", "(Lcom/example/hermit_crab/hermitcrab/JobState;)Z"⟩ : MethodName)) hown (mvT hZ (ow hw 11 rfl)) (mvT hZ (ow hw 12 rfl)) (notFace_of_selects (args := #[]) (mvT hZ (ow hw 14 rfl))) (mvT hZ (ow hw 14 rfl)) (mvT hZ (ow hw 13 rfl)) (by decide) (backOf (W := 0) (rm2_7 l Z a0 hw [] G  h0 n0 O0 ) hZ (ow hw 15 rfl) (ow hw 6 rfl) (by decide) (by decide)) q42a q42c (g := (mkF m 65 #[.val (.int p1), .val (.int p2), .val (.int (1 : Int32)), .val (.int (1 : Int32)), .val (.ref w_RUNNING), .val (.ref w_RUNNING), .val (.int (0 : Int32))] [(.ref w_RUNNING), (.ref w_RUNNING)])) rfl (by rw [hml]; rfl) (Steps.refl _) (argsL := [(.ref w_RUNNING)]) (rest := []) (lenOf pd_2 rfl) rfl (by show 2 * 0 + _ ≤ _; exact Nat.le_of_eq rfl) (hb hby at_65) (fun _ _ => ⟨rfl, e41, (by decide : 0 + 0 ≤ _), (by decide : 0 + 0 ≤ _)⟩)
      dsimp only [Pt.U, Pt.locs, Pt.cells, Pt.slots] at X42 l42 y42 z42 st42 hQ42
      subst l42 y42 z42
      obtain ⟨rfl, N42q, e42⟩ := hQ42
      have N42 := Fr.app N41 N42q
      refine OGot.on st42 ?_
      show OGot p.tables e below (T42.setTop (mkF m 68 #[.val (.int p1), .val (.int p2), .val (.int (1 : Int32)), .val (.int (1 : Int32)), .val (.ref w_RUNNING), .val (.ref w_RUNNING), .val (.int (0 : Int32))] [(.int (0 : Int32))])) _
      refine OGot.go (fun t k => XS.iload X42.here hx rfl (hb hby at_68) rfl k) ?_
      show OGot p.tables e below (T42.setTop (mkF m 70 #[.val (.int p1), .val (.int p2), .val (.int (1 : Int32)), .val (.int (1 : Int32)), .val (.ref w_RUNNING), .val (.ref w_RUNNING), .val (.int (0 : Int32))] [(.int (0 : Int32)), (.int (0 : Int32))])) _
      refine OGot.go (fun t k => XS.icmpNo X42.here hx rfl (hb hby at_70) rfl (by decide) k) ?_
      show OGot p.tables e below (T42.setTop (mkF m 73 #[.val (.int p1), .val (.int p2), .val (.int (1 : Int32)), .val (.int (1 : Int32)), .val (.ref w_RUNNING), .val (.ref w_RUNNING), .val (.int (0 : Int32))] [])) _
      refine OGot.go (fun t k => XS.iconst X42.here hx rfl (hb hby at_73) k) ?_
      show OGot p.tables e below (T42.setTop (mkF m 74 #[.val (.int p1), .val (.int p2), .val (.int (1 : Int32)), .val (.int (1 : Int32)), .val (.ref w_RUNNING), .val (.ref w_RUNNING), .val (.int (0 : Int32))] [(.int (1 : Int32))])) _
      refine OGot.go (fun t k => XS.goto X42.here hx rfl (pc0 := 74) (pc' := 78) rfl (hb hby at_74) (by decide) (by decide) k) ?_
      show OGot p.tables e below (T42.setTop (mkF m 78 #[.val (.int p1), .val (.int p2), .val (.int (1 : Int32)), .val (.int (1 : Int32)), .val (.ref w_RUNNING), .val (.ref w_RUNNING), .val (.int (0 : Int32))] [(.int (1 : Int32))])) _
      obtain ⟨fs, hr, hrun, hended, hW, hsame⟩ := X42.leave (v := some (.int (1 : Int32))) (fun h => by rw [Bd.returns] at h; cases h)
      refine ⟨_, _, retN X42 hx (t := .boolean) Bd.returns (by simp) (hb hby at_78) hr, hrun, hended, _, _, rfl, ?_, ⟨_, rfl⟩, hW, hsame.mono (by decide) (by decide)⟩
      exact (⟨rfl, N42⟩ : Q0 Z w_PENDING w_FAILED w_RUNNING w_CANCELLED w_COMPLETED p1 p2 h0 n0 _ T42.heap _)
    · rw [hk33]
      show OGot p.tables e below (s₁.setTop (mkF m 14 #[.val (.int p1), .val (.int p2), .val (.int (1 : Int32)), .unset, .unset, .unset, .unset] [(.int (2 : Int32))])) _
      refine OGot.go (fun t k => XS.istoreN X0.here hx rfl (hb hby at_14) rfl (l' := #[.val (.int p1), .val (.int p2), .val (.int (1 : Int32)), .val (.int (2 : Int32)), .unset, .unset, .unset]) rfl k) ?_
      show OGot p.tables e below (s₁.setTop (mkF m 15 #[.val (.int p1), .val (.int p2), .val (.int (1 : Int32)), .val (.int (2 : Int32)), .unset, .unset, .unset] [])) _
      refine OGot.go (fun t k => XS.iloadN X0.here hx rfl (hb hby at_15) rfl k) ?_
      show OGot p.tables e below (s₁.setTop (mkF m 16 #[.val (.int p1), .val (.int p2), .val (.int (1 : Int32)), .val (.int (2 : Int32)), .unset, .unset, .unset] [(.int (1 : Int32))])) _
      obtain ⟨_, _, ⟨T43, L43, k43, n43⟩, -, X43, ⟨Lc43, hQ43, l43, y43, z43⟩, st43⟩ := Jvm.LawKit.callS X0 hx (y := (⟨"com/example/hermit_crab/hermitcrab/JobStateCanMoveToPinLaw", "st", "(I)Lcom/example/hermit_crab/hermitcrab/JobState;"⟩ : MethodName)) hown (mvT hZ (ow hw 1 rfl)) (mvT hZ (ow hw 2 rfl)) (mvT hZ (ow hw 3 rfl)) (mvT hZ (ow hw 4 rfl)) (by decide) (backOf (W := 0) (rm1_1 l Z a0 hw [] G  h0 n0 O0 ) hZ (ow hw 4 rfl) (ow hw 3 rfl) (by decide) (by decide)) (g := (mkF m 16 #[.val (.int p1), .val (.int p2), .val (.int (1 : Int32)), .val (.int (2 : Int32)), .unset, .unset, .unset] [(.int (1 : Int32))])) rfl (by rw [hml]; rfl) (argsL := [(.int (1 : Int32))]) (rest := []) (lenOf pd_0 rfl) rfl (by show 2 * 0 + _ ≤ _; exact Nat.le_of_eq rfl) (hb hby at_16) (fun _ _ => ⟨rfl, e0, (by decide : 0 + 0 ≤ _), (by decide : 0 + 0 ≤ _)⟩)
      dsimp only [Pt.U, Pt.locs, Pt.cells, Pt.slots] at X43 l43 y43 z43 st43 hQ43
      subst l43 y43 z43
      obtain ⟨rfl, N43q, e43⟩ := hQ43
      have N43 := Fr.app N0 N43q
      refine OGot.go st43 ?_
      show OGot p.tables e below (T43.setTop (mkF m 19 #[.val (.int p1), .val (.int p2), .val (.int (1 : Int32)), .val (.int (2 : Int32)), .unset, .unset, .unset] [(.ref w_RUNNING)])) _
      refine OGot.go (fun t k => XS.astore X43.here hx rfl (hb hby at_19) rfl rfl (l' := #[.val (.int p1), .val (.int p2), .val (.int (1 : Int32)), .val (.int (2 : Int32)), .val (.ref w_RUNNING), .unset, .unset]) rfl k) ?_
      show OGot p.tables e below (T43.setTop (mkF m 21 #[.val (.int p1), .val (.int p2), .val (.int (1 : Int32)), .val (.int (2 : Int32)), .val (.ref w_RUNNING), .unset, .unset] [])) _
      refine OGot.go (fun t k => XS.iloadN X43.here hx rfl (hb hby at_21) rfl k) ?_
      show OGot p.tables e below (T43.setTop (mkF m 22 #[.val (.int p1), .val (.int p2), .val (.int (1 : Int32)), .val (.int (2 : Int32)), .val (.ref w_RUNNING), .unset, .unset] [(.int (2 : Int32))])) _
      refine OGot.go (fun t k => XS.iconst X43.here hx rfl (hb hby at_22) k) ?_
      show OGot p.tables e below (T43.setTop (mkF m 23 #[.val (.int p1), .val (.int p2), .val (.int (1 : Int32)), .val (.int (2 : Int32)), .val (.ref w_RUNNING), .unset, .unset] [(.int (5 : Int32)), (.int (2 : Int32))])) _
      refine OGot.go (fun t k => XS.icmpYes X43.here hx rfl (pc0 := 23) (pc' := 30) rfl (hb hby at_23) rfl (by decide) (by decide) (by decide) k) ?_
      show OGot p.tables e below (T43.setTop (mkF m 30 #[.val (.int p1), .val (.int p2), .val (.int (1 : Int32)), .val (.int (2 : Int32)), .val (.ref w_RUNNING), .unset, .unset] [])) _
      refine OGot.go (fun t k => XS.iloadN X43.here hx rfl (hb hby at_30) rfl k) ?_
      show OGot p.tables e below (T43.setTop (mkF m 31 #[.val (.int p1), .val (.int p2), .val (.int (1 : Int32)), .val (.int (2 : Int32)), .val (.ref w_RUNNING), .unset, .unset] [(.int (2 : Int32))])) _
      obtain ⟨_, _, ⟨T44, L44, k44, n44⟩, -, X44, ⟨Lc44, hQ44, l44, y44, z44⟩, st44⟩ := Jvm.LawKit.callS X43 hx (y := (⟨"com/example/hermit_crab/hermitcrab/JobStateCanMoveToPinLaw", "st", "(I)Lcom/example/hermit_crab/hermitcrab/JobState;"⟩ : MethodName)) hown (mvT hZ (ow hw 1 rfl)) (mvT hZ (ow hw 2 rfl)) (mvT hZ (ow hw 3 rfl)) (mvT hZ (ow hw 4 rfl)) (by decide) (backOf (W := 0) (rm1_2 l Z a0 hw [] G  h0 n0 O0 ) hZ (ow hw 4 rfl) (ow hw 3 rfl) (by decide) (by decide)) (g := (mkF m 31 #[.val (.int p1), .val (.int p2), .val (.int (1 : Int32)), .val (.int (2 : Int32)), .val (.ref w_RUNNING), .unset, .unset] [(.int (2 : Int32))])) rfl (by rw [hml]; rfl) (argsL := [(.int (2 : Int32))]) (rest := []) (lenOf pd_0 rfl) rfl (by show 2 * 0 + _ ≤ _; exact Nat.le_of_eq rfl) (hb hby at_31) (fun _ _ => ⟨rfl, e43, (by decide : 0 + 0 ≤ _), (by decide : 0 + 0 ≤ _)⟩)
      dsimp only [Pt.U, Pt.locs, Pt.cells, Pt.slots] at X44 l44 y44 z44 st44 hQ44
      subst l44 y44 z44
      obtain ⟨rfl, N44q, e44⟩ := hQ44
      have N44 := Fr.app N43 N44q
      refine OGot.go st44 ?_
      show OGot p.tables e below (T44.setTop (mkF m 34 #[.val (.int p1), .val (.int p2), .val (.int (1 : Int32)), .val (.int (2 : Int32)), .val (.ref w_RUNNING), .unset, .unset] [(.ref w_COMPLETED)])) _
      refine OGot.go (fun t k => XS.astore X44.here hx rfl (hb hby at_34) rfl rfl (l' := #[.val (.int p1), .val (.int p2), .val (.int (1 : Int32)), .val (.int (2 : Int32)), .val (.ref w_RUNNING), .val (.ref w_COMPLETED), .unset]) rfl k) ?_
      show OGot p.tables e below (T44.setTop (mkF m 36 #[.val (.int p1), .val (.int p2), .val (.int (1 : Int32)), .val (.int (2 : Int32)), .val (.ref w_RUNNING), .val (.ref w_COMPLETED), .unset] [])) _
      refine OGot.go (fun t k => XS.iloadN X44.here hx rfl (hb hby at_36) rfl k) ?_
      show OGot p.tables e below (T44.setTop (mkF m 37 #[.val (.int p1), .val (.int p2), .val (.int (1 : Int32)), .val (.int (2 : Int32)), .val (.ref w_RUNNING), .val (.ref w_COMPLETED), .unset] [(.int (2 : Int32))])) _
      refine OGot.go (fun t k => XS.iconst X44.here hx rfl (hb hby at_37) k) ?_
      show OGot p.tables e below (T44.setTop (mkF m 38 #[.val (.int p1), .val (.int p2), .val (.int (1 : Int32)), .val (.int (2 : Int32)), .val (.ref w_RUNNING), .val (.ref w_COMPLETED), .unset] [(.int (5 : Int32)), (.int (2 : Int32))])) _
      refine OGot.go (fun t k => XS.icmpNo X44.here hx rfl (hb hby at_38) rfl (by decide) k) ?_
      show OGot p.tables e below (T44.setTop (mkF m 41 #[.val (.int p1), .val (.int p2), .val (.int (1 : Int32)), .val (.int (2 : Int32)), .val (.ref w_RUNNING), .val (.ref w_COMPLETED), .unset] [])) _
      refine OGot.go (fun t k => X44.ldcInt hx hown (mvT hZ (ow hw 10 rfl)) (g := (mkF m 41 #[.val (.int p1), .val (.int p2), .val (.int (1 : Int32)), .val (.int (2 : Int32)), .val (.ref w_RUNNING), .val (.ref w_COMPLETED), .unset] [])) rfl (hb hby at_41) _ k) ?_
      show OGot p.tables e below (T44.setTop (mkF m 43 #[.val (.int p1), .val (.int p2), .val (.int (1 : Int32)), .val (.int (2 : Int32)), .val (.ref w_RUNNING), .val (.ref w_COMPLETED), .unset] [(.int (33202 : Int32))])) _
      refine OGot.go (fun t k => XS.iconst X44.here hx rfl (hb hby at_43) k) ?_
      show OGot p.tables e below (T44.setTop (mkF m 44 #[.val (.int p1), .val (.int p2), .val (.int (1 : Int32)), .val (.int (2 : Int32)), .val (.ref w_RUNNING), .val (.ref w_COMPLETED), .unset] [(.int (5 : Int32)), (.int (33202 : Int32))])) _
      refine OGot.go (fun t k => XS.iloadN X44.here hx rfl (hb hby at_44) rfl k) ?_
      show OGot p.tables e below (T44.setTop (mkF m 45 #[.val (.int p1), .val (.int p2), .val (.int (1 : Int32)), .val (.int (2 : Int32)), .val (.ref w_RUNNING), .val (.ref w_COMPLETED), .unset] [(.int (1 : Int32)), (.int (5 : Int32)), (.int (33202 : Int32))])) _
      refine OGot.go (fun t k => XS.imul X44.here hx rfl (hb hby at_45) rfl k) ?_
      show OGot p.tables e below (T44.setTop (mkF m 46 #[.val (.int p1), .val (.int p2), .val (.int (1 : Int32)), .val (.int (2 : Int32)), .val (.ref w_RUNNING), .val (.ref w_COMPLETED), .unset] [(.int ((5 : Int32) * (1 : Int32))), (.int (33202 : Int32))])) _
      rw [show ((5 : Int32) * (1 : Int32)) = (5 : Int32) from by decide]
      show OGot p.tables e below (T44.setTop (mkF m 46 #[.val (.int p1), .val (.int p2), .val (.int (1 : Int32)), .val (.int (2 : Int32)), .val (.ref w_RUNNING), .val (.ref w_COMPLETED), .unset] [(.int (5 : Int32)), (.int (33202 : Int32))])) _
      refine OGot.go (fun t k => XS.iloadN X44.here hx rfl (hb hby at_46) rfl k) ?_
      show OGot p.tables e below (T44.setTop (mkF m 47 #[.val (.int p1), .val (.int p2), .val (.int (1 : Int32)), .val (.int (2 : Int32)), .val (.ref w_RUNNING), .val (.ref w_COMPLETED), .unset] [(.int (2 : Int32)), (.int (5 : Int32)), (.int (33202 : Int32))])) _
      refine OGot.go (fun t k => XS.iadd X44.here hx rfl (hb hby at_47) rfl k) ?_
      show OGot p.tables e below (T44.setTop (mkF m 48 #[.val (.int p1), .val (.int p2), .val (.int (1 : Int32)), .val (.int (2 : Int32)), .val (.ref w_RUNNING), .val (.ref w_COMPLETED), .unset] [(.int ((5 : Int32) + (2 : Int32))), (.int (33202 : Int32))])) _
      rw [show ((5 : Int32) + (2 : Int32)) = (7 : Int32) from by decide]
      show OGot p.tables e below (T44.setTop (mkF m 48 #[.val (.int p1), .val (.int p2), .val (.int (1 : Int32)), .val (.int (2 : Int32)), .val (.ref w_RUNNING), .val (.ref w_COMPLETED), .unset] [(.int (7 : Int32)), (.int (33202 : Int32))])) _
      refine OGot.go (fun t k => XS.ishr X44.here hx rfl (hb hby at_48) rfl k) ?_
      show OGot p.tables e below (T44.setTop (mkF m 49 #[.val (.int p1), .val (.int p2), .val (.int (1 : Int32)), .val (.int (2 : Int32)), .val (.ref w_RUNNING), .val (.ref w_COMPLETED), .unset] [(.int ((33202 : Int32) >>> ((7 : Int32) &&& 31)))])) _
      rw [show ((33202 : Int32) >>> ((7 : Int32) &&& 31)) = (259 : Int32) from by decide]
      show OGot p.tables e below (T44.setTop (mkF m 49 #[.val (.int p1), .val (.int p2), .val (.int (1 : Int32)), .val (.int (2 : Int32)), .val (.ref w_RUNNING), .val (.ref w_COMPLETED), .unset] [(.int (259 : Int32))])) _
      refine OGot.go (fun t k => XS.iconst X44.here hx rfl (hb hby at_49) k) ?_
      show OGot p.tables e below (T44.setTop (mkF m 50 #[.val (.int p1), .val (.int p2), .val (.int (1 : Int32)), .val (.int (2 : Int32)), .val (.ref w_RUNNING), .val (.ref w_COMPLETED), .unset] [(.int (1 : Int32)), (.int (259 : Int32))])) _
      refine OGot.go (fun t k => XS.iand X44.here hx rfl (hb hby at_50) rfl k) ?_
      show OGot p.tables e below (T44.setTop (mkF m 51 #[.val (.int p1), .val (.int p2), .val (.int (1 : Int32)), .val (.int (2 : Int32)), .val (.ref w_RUNNING), .val (.ref w_COMPLETED), .unset] [(.int ((259 : Int32) &&& (1 : Int32)))])) _
      rw [show ((259 : Int32) &&& (1 : Int32)) = (1 : Int32) from by decide]
      show OGot p.tables e below (T44.setTop (mkF m 51 #[.val (.int p1), .val (.int p2), .val (.int (1 : Int32)), .val (.int (2 : Int32)), .val (.ref w_RUNNING), .val (.ref w_COMPLETED), .unset] [(.int (1 : Int32))])) _
      refine OGot.go (fun t k => XS.ifNo X44.here hx rfl (hb hby at_51) rfl (by decide) k) ?_
      show OGot p.tables e below (T44.setTop (mkF m 54 #[.val (.int p1), .val (.int p2), .val (.int (1 : Int32)), .val (.int (2 : Int32)), .val (.ref w_RUNNING), .val (.ref w_COMPLETED), .unset] [])) _
      refine OGot.go (fun t k => XS.iconst X44.here hx rfl (hb hby at_54) k) ?_
      show OGot p.tables e below (T44.setTop (mkF m 55 #[.val (.int p1), .val (.int p2), .val (.int (1 : Int32)), .val (.int (2 : Int32)), .val (.ref w_RUNNING), .val (.ref w_COMPLETED), .unset] [(.int (1 : Int32))])) _
      refine OGot.go (fun t k => XS.goto X44.here hx rfl (pc0 := 55) (pc' := 59) rfl (hb hby at_55) (by decide) (by decide) k) ?_
      show OGot p.tables e below (T44.setTop (mkF m 59 #[.val (.int p1), .val (.int p2), .val (.int (1 : Int32)), .val (.int (2 : Int32)), .val (.ref w_RUNNING), .val (.ref w_COMPLETED), .unset] [(.int (1 : Int32))])) _
      refine OGot.go (fun t k => XS.istore X44.here hx rfl (hb hby at_59) rfl (l' := #[.val (.int p1), .val (.int p2), .val (.int (1 : Int32)), .val (.int (2 : Int32)), .val (.ref w_RUNNING), .val (.ref w_COMPLETED), .val (.int (1 : Int32))]) rfl k) ?_
      show OGot p.tables e below (T44.setTop (mkF m 61 #[.val (.int p1), .val (.int p2), .val (.int (1 : Int32)), .val (.int (2 : Int32)), .val (.ref w_RUNNING), .val (.ref w_COMPLETED), .val (.int (1 : Int32))] [])) _
      refine OGot.go (fun t k => XS.aload X44.here hx rfl (hb hby at_61) rfl rfl k) ?_
      show OGot p.tables e below (T44.setTop (mkF m 63 #[.val (.int p1), .val (.int p2), .val (.int (1 : Int32)), .val (.int (2 : Int32)), .val (.ref w_RUNNING), .val (.ref w_COMPLETED), .val (.int (1 : Int32))] [(.ref w_RUNNING)])) _
      refine OGot.go (fun t k => XS.aload X44.here hx rfl (hb hby at_63) rfl rfl k) ?_
      show OGot p.tables e below (T44.setTop (mkF m 65 #[.val (.int p1), .val (.int p2), .val (.int (1 : Int32)), .val (.int (2 : Int32)), .val (.ref w_RUNNING), .val (.ref w_COMPLETED), .val (.int (1 : Int32))] [(.ref w_COMPLETED), (.ref w_RUNNING)])) _
      obtain ⟨cq45, kq45, q45a, q45b, q45c⟩ := isOf hZ e44 (G.2.2.2.2.2.1.ext O0.2)
      obtain ⟨_, _, ⟨T45, L45, k45, n45⟩, -, X45, ⟨Lc45, hQ45, l45, y45, z45⟩, st45⟩ := X44.virtualBack hx (y := (⟨"com/example/hermit_crab/hermitcrab/JobState", "canMoveTo", "(Lcom/example/hermit_crab/hermitcrab/JobState;)Z"⟩ : MethodName)) (z := (⟨"com/example/hermit_crab/hermitcrab/JobState", "canMoveTo", "(Lcom/example/hermit_crab/hermitcrab/JobState;)Z"⟩ : MethodName)) hown (mvT hZ (ow hw 11 rfl)) (mvT hZ (ow hw 12 rfl)) (notFace_of_selects (args := #[]) (mvT hZ (ow hw 14 rfl))) (mvT hZ (ow hw 14 rfl)) (mvT hZ (ow hw 13 rfl)) (by decide) (backOf (W := 0) (rm2_8 l Z a0 hw [] G  h0 n0 O0 ) hZ (ow hw 15 rfl) (ow hw 6 rfl) (by decide) (by decide)) q45a q45c (g := (mkF m 65 #[.val (.int p1), .val (.int p2), .val (.int (1 : Int32)), .val (.int (2 : Int32)), .val (.ref w_RUNNING), .val (.ref w_COMPLETED), .val (.int (1 : Int32))] [(.ref w_COMPLETED), (.ref w_RUNNING)])) rfl (by rw [hml]; rfl) (Steps.refl _) (argsL := [(.ref w_COMPLETED)]) (rest := []) (lenOf pd_2 rfl) rfl (by show 2 * 0 + _ ≤ _; exact Nat.le_of_eq rfl) (hb hby at_65) (fun _ _ => ⟨rfl, e44, (by decide : 0 + 0 ≤ _), (by decide : 0 + 0 ≤ _)⟩)
      dsimp only [Pt.U, Pt.locs, Pt.cells, Pt.slots] at X45 l45 y45 z45 st45 hQ45
      subst l45 y45 z45
      obtain ⟨rfl, N45q, e45⟩ := hQ45
      have N45 := Fr.app N44 N45q
      refine OGot.on st45 ?_
      show OGot p.tables e below (T45.setTop (mkF m 68 #[.val (.int p1), .val (.int p2), .val (.int (1 : Int32)), .val (.int (2 : Int32)), .val (.ref w_RUNNING), .val (.ref w_COMPLETED), .val (.int (1 : Int32))] [(.int (1 : Int32))])) _
      refine OGot.go (fun t k => XS.iload X45.here hx rfl (hb hby at_68) rfl k) ?_
      show OGot p.tables e below (T45.setTop (mkF m 70 #[.val (.int p1), .val (.int p2), .val (.int (1 : Int32)), .val (.int (2 : Int32)), .val (.ref w_RUNNING), .val (.ref w_COMPLETED), .val (.int (1 : Int32))] [(.int (1 : Int32)), (.int (1 : Int32))])) _
      refine OGot.go (fun t k => XS.icmpNo X45.here hx rfl (hb hby at_70) rfl (by decide) k) ?_
      show OGot p.tables e below (T45.setTop (mkF m 73 #[.val (.int p1), .val (.int p2), .val (.int (1 : Int32)), .val (.int (2 : Int32)), .val (.ref w_RUNNING), .val (.ref w_COMPLETED), .val (.int (1 : Int32))] [])) _
      refine OGot.go (fun t k => XS.iconst X45.here hx rfl (hb hby at_73) k) ?_
      show OGot p.tables e below (T45.setTop (mkF m 74 #[.val (.int p1), .val (.int p2), .val (.int (1 : Int32)), .val (.int (2 : Int32)), .val (.ref w_RUNNING), .val (.ref w_COMPLETED), .val (.int (1 : Int32))] [(.int (1 : Int32))])) _
      refine OGot.go (fun t k => XS.goto X45.here hx rfl (pc0 := 74) (pc' := 78) rfl (hb hby at_74) (by decide) (by decide) k) ?_
      show OGot p.tables e below (T45.setTop (mkF m 78 #[.val (.int p1), .val (.int p2), .val (.int (1 : Int32)), .val (.int (2 : Int32)), .val (.ref w_RUNNING), .val (.ref w_COMPLETED), .val (.int (1 : Int32))] [(.int (1 : Int32))])) _
      obtain ⟨fs, hr, hrun, hended, hW, hsame⟩ := X45.leave (v := some (.int (1 : Int32))) (fun h => by rw [Bd.returns] at h; cases h)
      refine ⟨_, _, retN X45 hx (t := .boolean) Bd.returns (by simp) (hb hby at_78) hr, hrun, hended, _, _, rfl, ?_, ⟨_, rfl⟩, hW, hsame.mono (by decide) (by decide)⟩
      exact (⟨rfl, N45⟩ : Q0 Z w_PENDING w_FAILED w_RUNNING w_CANCELLED w_COMPLETED p1 p2 h0 n0 _ T45.heap _)
    · rw [hk34]
      show OGot p.tables e below (s₁.setTop (mkF m 14 #[.val (.int p1), .val (.int p2), .val (.int (1 : Int32)), .unset, .unset, .unset, .unset] [(.int (3 : Int32))])) _
      refine OGot.go (fun t k => XS.istoreN X0.here hx rfl (hb hby at_14) rfl (l' := #[.val (.int p1), .val (.int p2), .val (.int (1 : Int32)), .val (.int (3 : Int32)), .unset, .unset, .unset]) rfl k) ?_
      show OGot p.tables e below (s₁.setTop (mkF m 15 #[.val (.int p1), .val (.int p2), .val (.int (1 : Int32)), .val (.int (3 : Int32)), .unset, .unset, .unset] [])) _
      refine OGot.go (fun t k => XS.iloadN X0.here hx rfl (hb hby at_15) rfl k) ?_
      show OGot p.tables e below (s₁.setTop (mkF m 16 #[.val (.int p1), .val (.int p2), .val (.int (1 : Int32)), .val (.int (3 : Int32)), .unset, .unset, .unset] [(.int (1 : Int32))])) _
      obtain ⟨_, _, ⟨T46, L46, k46, n46⟩, -, X46, ⟨Lc46, hQ46, l46, y46, z46⟩, st46⟩ := Jvm.LawKit.callS X0 hx (y := (⟨"com/example/hermit_crab/hermitcrab/JobStateCanMoveToPinLaw", "st", "(I)Lcom/example/hermit_crab/hermitcrab/JobState;"⟩ : MethodName)) hown (mvT hZ (ow hw 1 rfl)) (mvT hZ (ow hw 2 rfl)) (mvT hZ (ow hw 3 rfl)) (mvT hZ (ow hw 4 rfl)) (by decide) (backOf (W := 0) (rm1_1 l Z a0 hw [] G  h0 n0 O0 ) hZ (ow hw 4 rfl) (ow hw 3 rfl) (by decide) (by decide)) (g := (mkF m 16 #[.val (.int p1), .val (.int p2), .val (.int (1 : Int32)), .val (.int (3 : Int32)), .unset, .unset, .unset] [(.int (1 : Int32))])) rfl (by rw [hml]; rfl) (argsL := [(.int (1 : Int32))]) (rest := []) (lenOf pd_0 rfl) rfl (by show 2 * 0 + _ ≤ _; exact Nat.le_of_eq rfl) (hb hby at_16) (fun _ _ => ⟨rfl, e0, (by decide : 0 + 0 ≤ _), (by decide : 0 + 0 ≤ _)⟩)
      dsimp only [Pt.U, Pt.locs, Pt.cells, Pt.slots] at X46 l46 y46 z46 st46 hQ46
      subst l46 y46 z46
      obtain ⟨rfl, N46q, e46⟩ := hQ46
      have N46 := Fr.app N0 N46q
      refine OGot.go st46 ?_
      show OGot p.tables e below (T46.setTop (mkF m 19 #[.val (.int p1), .val (.int p2), .val (.int (1 : Int32)), .val (.int (3 : Int32)), .unset, .unset, .unset] [(.ref w_RUNNING)])) _
      refine OGot.go (fun t k => XS.astore X46.here hx rfl (hb hby at_19) rfl rfl (l' := #[.val (.int p1), .val (.int p2), .val (.int (1 : Int32)), .val (.int (3 : Int32)), .val (.ref w_RUNNING), .unset, .unset]) rfl k) ?_
      show OGot p.tables e below (T46.setTop (mkF m 21 #[.val (.int p1), .val (.int p2), .val (.int (1 : Int32)), .val (.int (3 : Int32)), .val (.ref w_RUNNING), .unset, .unset] [])) _
      refine OGot.go (fun t k => XS.iloadN X46.here hx rfl (hb hby at_21) rfl k) ?_
      show OGot p.tables e below (T46.setTop (mkF m 22 #[.val (.int p1), .val (.int p2), .val (.int (1 : Int32)), .val (.int (3 : Int32)), .val (.ref w_RUNNING), .unset, .unset] [(.int (3 : Int32))])) _
      refine OGot.go (fun t k => XS.iconst X46.here hx rfl (hb hby at_22) k) ?_
      show OGot p.tables e below (T46.setTop (mkF m 23 #[.val (.int p1), .val (.int p2), .val (.int (1 : Int32)), .val (.int (3 : Int32)), .val (.ref w_RUNNING), .unset, .unset] [(.int (5 : Int32)), (.int (3 : Int32))])) _
      refine OGot.go (fun t k => XS.icmpYes X46.here hx rfl (pc0 := 23) (pc' := 30) rfl (hb hby at_23) rfl (by decide) (by decide) (by decide) k) ?_
      show OGot p.tables e below (T46.setTop (mkF m 30 #[.val (.int p1), .val (.int p2), .val (.int (1 : Int32)), .val (.int (3 : Int32)), .val (.ref w_RUNNING), .unset, .unset] [])) _
      refine OGot.go (fun t k => XS.iloadN X46.here hx rfl (hb hby at_30) rfl k) ?_
      show OGot p.tables e below (T46.setTop (mkF m 31 #[.val (.int p1), .val (.int p2), .val (.int (1 : Int32)), .val (.int (3 : Int32)), .val (.ref w_RUNNING), .unset, .unset] [(.int (3 : Int32))])) _
      obtain ⟨_, _, ⟨T47, L47, k47, n47⟩, -, X47, ⟨Lc47, hQ47, l47, y47, z47⟩, st47⟩ := Jvm.LawKit.callS X46 hx (y := (⟨"com/example/hermit_crab/hermitcrab/JobStateCanMoveToPinLaw", "st", "(I)Lcom/example/hermit_crab/hermitcrab/JobState;"⟩ : MethodName)) hown (mvT hZ (ow hw 1 rfl)) (mvT hZ (ow hw 2 rfl)) (mvT hZ (ow hw 3 rfl)) (mvT hZ (ow hw 4 rfl)) (by decide) (backOf (W := 0) (rm1_3 l Z a0 hw [] G  h0 n0 O0 ) hZ (ow hw 4 rfl) (ow hw 3 rfl) (by decide) (by decide)) (g := (mkF m 31 #[.val (.int p1), .val (.int p2), .val (.int (1 : Int32)), .val (.int (3 : Int32)), .val (.ref w_RUNNING), .unset, .unset] [(.int (3 : Int32))])) rfl (by rw [hml]; rfl) (argsL := [(.int (3 : Int32))]) (rest := []) (lenOf pd_0 rfl) rfl (by show 2 * 0 + _ ≤ _; exact Nat.le_of_eq rfl) (hb hby at_31) (fun _ _ => ⟨rfl, e46, (by decide : 0 + 0 ≤ _), (by decide : 0 + 0 ≤ _)⟩)
      dsimp only [Pt.U, Pt.locs, Pt.cells, Pt.slots] at X47 l47 y47 z47 st47 hQ47
      subst l47 y47 z47
      obtain ⟨rfl, N47q, e47⟩ := hQ47
      have N47 := Fr.app N46 N47q
      refine OGot.go st47 ?_
      show OGot p.tables e below (T47.setTop (mkF m 34 #[.val (.int p1), .val (.int p2), .val (.int (1 : Int32)), .val (.int (3 : Int32)), .val (.ref w_RUNNING), .unset, .unset] [(.ref w_FAILED)])) _
      refine OGot.go (fun t k => XS.astore X47.here hx rfl (hb hby at_34) rfl rfl (l' := #[.val (.int p1), .val (.int p2), .val (.int (1 : Int32)), .val (.int (3 : Int32)), .val (.ref w_RUNNING), .val (.ref w_FAILED), .unset]) rfl k) ?_
      show OGot p.tables e below (T47.setTop (mkF m 36 #[.val (.int p1), .val (.int p2), .val (.int (1 : Int32)), .val (.int (3 : Int32)), .val (.ref w_RUNNING), .val (.ref w_FAILED), .unset] [])) _
      refine OGot.go (fun t k => XS.iloadN X47.here hx rfl (hb hby at_36) rfl k) ?_
      show OGot p.tables e below (T47.setTop (mkF m 37 #[.val (.int p1), .val (.int p2), .val (.int (1 : Int32)), .val (.int (3 : Int32)), .val (.ref w_RUNNING), .val (.ref w_FAILED), .unset] [(.int (3 : Int32))])) _
      refine OGot.go (fun t k => XS.iconst X47.here hx rfl (hb hby at_37) k) ?_
      show OGot p.tables e below (T47.setTop (mkF m 38 #[.val (.int p1), .val (.int p2), .val (.int (1 : Int32)), .val (.int (3 : Int32)), .val (.ref w_RUNNING), .val (.ref w_FAILED), .unset] [(.int (5 : Int32)), (.int (3 : Int32))])) _
      refine OGot.go (fun t k => XS.icmpNo X47.here hx rfl (hb hby at_38) rfl (by decide) k) ?_
      show OGot p.tables e below (T47.setTop (mkF m 41 #[.val (.int p1), .val (.int p2), .val (.int (1 : Int32)), .val (.int (3 : Int32)), .val (.ref w_RUNNING), .val (.ref w_FAILED), .unset] [])) _
      refine OGot.go (fun t k => X47.ldcInt hx hown (mvT hZ (ow hw 10 rfl)) (g := (mkF m 41 #[.val (.int p1), .val (.int p2), .val (.int (1 : Int32)), .val (.int (3 : Int32)), .val (.ref w_RUNNING), .val (.ref w_FAILED), .unset] [])) rfl (hb hby at_41) _ k) ?_
      show OGot p.tables e below (T47.setTop (mkF m 43 #[.val (.int p1), .val (.int p2), .val (.int (1 : Int32)), .val (.int (3 : Int32)), .val (.ref w_RUNNING), .val (.ref w_FAILED), .unset] [(.int (33202 : Int32))])) _
      refine OGot.go (fun t k => XS.iconst X47.here hx rfl (hb hby at_43) k) ?_
      show OGot p.tables e below (T47.setTop (mkF m 44 #[.val (.int p1), .val (.int p2), .val (.int (1 : Int32)), .val (.int (3 : Int32)), .val (.ref w_RUNNING), .val (.ref w_FAILED), .unset] [(.int (5 : Int32)), (.int (33202 : Int32))])) _
      refine OGot.go (fun t k => XS.iloadN X47.here hx rfl (hb hby at_44) rfl k) ?_
      show OGot p.tables e below (T47.setTop (mkF m 45 #[.val (.int p1), .val (.int p2), .val (.int (1 : Int32)), .val (.int (3 : Int32)), .val (.ref w_RUNNING), .val (.ref w_FAILED), .unset] [(.int (1 : Int32)), (.int (5 : Int32)), (.int (33202 : Int32))])) _
      refine OGot.go (fun t k => XS.imul X47.here hx rfl (hb hby at_45) rfl k) ?_
      show OGot p.tables e below (T47.setTop (mkF m 46 #[.val (.int p1), .val (.int p2), .val (.int (1 : Int32)), .val (.int (3 : Int32)), .val (.ref w_RUNNING), .val (.ref w_FAILED), .unset] [(.int ((5 : Int32) * (1 : Int32))), (.int (33202 : Int32))])) _
      rw [show ((5 : Int32) * (1 : Int32)) = (5 : Int32) from by decide]
      show OGot p.tables e below (T47.setTop (mkF m 46 #[.val (.int p1), .val (.int p2), .val (.int (1 : Int32)), .val (.int (3 : Int32)), .val (.ref w_RUNNING), .val (.ref w_FAILED), .unset] [(.int (5 : Int32)), (.int (33202 : Int32))])) _
      refine OGot.go (fun t k => XS.iloadN X47.here hx rfl (hb hby at_46) rfl k) ?_
      show OGot p.tables e below (T47.setTop (mkF m 47 #[.val (.int p1), .val (.int p2), .val (.int (1 : Int32)), .val (.int (3 : Int32)), .val (.ref w_RUNNING), .val (.ref w_FAILED), .unset] [(.int (3 : Int32)), (.int (5 : Int32)), (.int (33202 : Int32))])) _
      refine OGot.go (fun t k => XS.iadd X47.here hx rfl (hb hby at_47) rfl k) ?_
      show OGot p.tables e below (T47.setTop (mkF m 48 #[.val (.int p1), .val (.int p2), .val (.int (1 : Int32)), .val (.int (3 : Int32)), .val (.ref w_RUNNING), .val (.ref w_FAILED), .unset] [(.int ((5 : Int32) + (3 : Int32))), (.int (33202 : Int32))])) _
      rw [show ((5 : Int32) + (3 : Int32)) = (8 : Int32) from by decide]
      show OGot p.tables e below (T47.setTop (mkF m 48 #[.val (.int p1), .val (.int p2), .val (.int (1 : Int32)), .val (.int (3 : Int32)), .val (.ref w_RUNNING), .val (.ref w_FAILED), .unset] [(.int (8 : Int32)), (.int (33202 : Int32))])) _
      refine OGot.go (fun t k => XS.ishr X47.here hx rfl (hb hby at_48) rfl k) ?_
      show OGot p.tables e below (T47.setTop (mkF m 49 #[.val (.int p1), .val (.int p2), .val (.int (1 : Int32)), .val (.int (3 : Int32)), .val (.ref w_RUNNING), .val (.ref w_FAILED), .unset] [(.int ((33202 : Int32) >>> ((8 : Int32) &&& 31)))])) _
      rw [show ((33202 : Int32) >>> ((8 : Int32) &&& 31)) = (129 : Int32) from by decide]
      show OGot p.tables e below (T47.setTop (mkF m 49 #[.val (.int p1), .val (.int p2), .val (.int (1 : Int32)), .val (.int (3 : Int32)), .val (.ref w_RUNNING), .val (.ref w_FAILED), .unset] [(.int (129 : Int32))])) _
      refine OGot.go (fun t k => XS.iconst X47.here hx rfl (hb hby at_49) k) ?_
      show OGot p.tables e below (T47.setTop (mkF m 50 #[.val (.int p1), .val (.int p2), .val (.int (1 : Int32)), .val (.int (3 : Int32)), .val (.ref w_RUNNING), .val (.ref w_FAILED), .unset] [(.int (1 : Int32)), (.int (129 : Int32))])) _
      refine OGot.go (fun t k => XS.iand X47.here hx rfl (hb hby at_50) rfl k) ?_
      show OGot p.tables e below (T47.setTop (mkF m 51 #[.val (.int p1), .val (.int p2), .val (.int (1 : Int32)), .val (.int (3 : Int32)), .val (.ref w_RUNNING), .val (.ref w_FAILED), .unset] [(.int ((129 : Int32) &&& (1 : Int32)))])) _
      rw [show ((129 : Int32) &&& (1 : Int32)) = (1 : Int32) from by decide]
      show OGot p.tables e below (T47.setTop (mkF m 51 #[.val (.int p1), .val (.int p2), .val (.int (1 : Int32)), .val (.int (3 : Int32)), .val (.ref w_RUNNING), .val (.ref w_FAILED), .unset] [(.int (1 : Int32))])) _
      refine OGot.go (fun t k => XS.ifNo X47.here hx rfl (hb hby at_51) rfl (by decide) k) ?_
      show OGot p.tables e below (T47.setTop (mkF m 54 #[.val (.int p1), .val (.int p2), .val (.int (1 : Int32)), .val (.int (3 : Int32)), .val (.ref w_RUNNING), .val (.ref w_FAILED), .unset] [])) _
      refine OGot.go (fun t k => XS.iconst X47.here hx rfl (hb hby at_54) k) ?_
      show OGot p.tables e below (T47.setTop (mkF m 55 #[.val (.int p1), .val (.int p2), .val (.int (1 : Int32)), .val (.int (3 : Int32)), .val (.ref w_RUNNING), .val (.ref w_FAILED), .unset] [(.int (1 : Int32))])) _
      refine OGot.go (fun t k => XS.goto X47.here hx rfl (pc0 := 55) (pc' := 59) rfl (hb hby at_55) (by decide) (by decide) k) ?_
      show OGot p.tables e below (T47.setTop (mkF m 59 #[.val (.int p1), .val (.int p2), .val (.int (1 : Int32)), .val (.int (3 : Int32)), .val (.ref w_RUNNING), .val (.ref w_FAILED), .unset] [(.int (1 : Int32))])) _
      refine OGot.go (fun t k => XS.istore X47.here hx rfl (hb hby at_59) rfl (l' := #[.val (.int p1), .val (.int p2), .val (.int (1 : Int32)), .val (.int (3 : Int32)), .val (.ref w_RUNNING), .val (.ref w_FAILED), .val (.int (1 : Int32))]) rfl k) ?_
      show OGot p.tables e below (T47.setTop (mkF m 61 #[.val (.int p1), .val (.int p2), .val (.int (1 : Int32)), .val (.int (3 : Int32)), .val (.ref w_RUNNING), .val (.ref w_FAILED), .val (.int (1 : Int32))] [])) _
      refine OGot.go (fun t k => XS.aload X47.here hx rfl (hb hby at_61) rfl rfl k) ?_
      show OGot p.tables e below (T47.setTop (mkF m 63 #[.val (.int p1), .val (.int p2), .val (.int (1 : Int32)), .val (.int (3 : Int32)), .val (.ref w_RUNNING), .val (.ref w_FAILED), .val (.int (1 : Int32))] [(.ref w_RUNNING)])) _
      refine OGot.go (fun t k => XS.aload X47.here hx rfl (hb hby at_63) rfl rfl k) ?_
      show OGot p.tables e below (T47.setTop (mkF m 65 #[.val (.int p1), .val (.int p2), .val (.int (1 : Int32)), .val (.int (3 : Int32)), .val (.ref w_RUNNING), .val (.ref w_FAILED), .val (.int (1 : Int32))] [(.ref w_FAILED), (.ref w_RUNNING)])) _
      obtain ⟨cq48, kq48, q48a, q48b, q48c⟩ := isOf hZ e47 (G.2.2.2.2.2.1.ext O0.2)
      obtain ⟨_, _, ⟨T48, L48, k48, n48⟩, -, X48, ⟨Lc48, hQ48, l48, y48, z48⟩, st48⟩ := X47.virtualBack hx (y := (⟨"com/example/hermit_crab/hermitcrab/JobState", "canMoveTo", "(Lcom/example/hermit_crab/hermitcrab/JobState;)Z"⟩ : MethodName)) (z := (⟨"com/example/hermit_crab/hermitcrab/JobState", "canMoveTo", "(Lcom/example/hermit_crab/hermitcrab/JobState;)Z"⟩ : MethodName)) hown (mvT hZ (ow hw 11 rfl)) (mvT hZ (ow hw 12 rfl)) (notFace_of_selects (args := #[]) (mvT hZ (ow hw 14 rfl))) (mvT hZ (ow hw 14 rfl)) (mvT hZ (ow hw 13 rfl)) (by decide) (backOf (W := 0) (rm2_9 l Z a0 hw [] G  h0 n0 O0 ) hZ (ow hw 15 rfl) (ow hw 6 rfl) (by decide) (by decide)) q48a q48c (g := (mkF m 65 #[.val (.int p1), .val (.int p2), .val (.int (1 : Int32)), .val (.int (3 : Int32)), .val (.ref w_RUNNING), .val (.ref w_FAILED), .val (.int (1 : Int32))] [(.ref w_FAILED), (.ref w_RUNNING)])) rfl (by rw [hml]; rfl) (Steps.refl _) (argsL := [(.ref w_FAILED)]) (rest := []) (lenOf pd_2 rfl) rfl (by show 2 * 0 + _ ≤ _; exact Nat.le_of_eq rfl) (hb hby at_65) (fun _ _ => ⟨rfl, e47, (by decide : 0 + 0 ≤ _), (by decide : 0 + 0 ≤ _)⟩)
      dsimp only [Pt.U, Pt.locs, Pt.cells, Pt.slots] at X48 l48 y48 z48 st48 hQ48
      subst l48 y48 z48
      obtain ⟨rfl, N48q, e48⟩ := hQ48
      have N48 := Fr.app N47 N48q
      refine OGot.on st48 ?_
      show OGot p.tables e below (T48.setTop (mkF m 68 #[.val (.int p1), .val (.int p2), .val (.int (1 : Int32)), .val (.int (3 : Int32)), .val (.ref w_RUNNING), .val (.ref w_FAILED), .val (.int (1 : Int32))] [(.int (1 : Int32))])) _
      refine OGot.go (fun t k => XS.iload X48.here hx rfl (hb hby at_68) rfl k) ?_
      show OGot p.tables e below (T48.setTop (mkF m 70 #[.val (.int p1), .val (.int p2), .val (.int (1 : Int32)), .val (.int (3 : Int32)), .val (.ref w_RUNNING), .val (.ref w_FAILED), .val (.int (1 : Int32))] [(.int (1 : Int32)), (.int (1 : Int32))])) _
      refine OGot.go (fun t k => XS.icmpNo X48.here hx rfl (hb hby at_70) rfl (by decide) k) ?_
      show OGot p.tables e below (T48.setTop (mkF m 73 #[.val (.int p1), .val (.int p2), .val (.int (1 : Int32)), .val (.int (3 : Int32)), .val (.ref w_RUNNING), .val (.ref w_FAILED), .val (.int (1 : Int32))] [])) _
      refine OGot.go (fun t k => XS.iconst X48.here hx rfl (hb hby at_73) k) ?_
      show OGot p.tables e below (T48.setTop (mkF m 74 #[.val (.int p1), .val (.int p2), .val (.int (1 : Int32)), .val (.int (3 : Int32)), .val (.ref w_RUNNING), .val (.ref w_FAILED), .val (.int (1 : Int32))] [(.int (1 : Int32))])) _
      refine OGot.go (fun t k => XS.goto X48.here hx rfl (pc0 := 74) (pc' := 78) rfl (hb hby at_74) (by decide) (by decide) k) ?_
      show OGot p.tables e below (T48.setTop (mkF m 78 #[.val (.int p1), .val (.int p2), .val (.int (1 : Int32)), .val (.int (3 : Int32)), .val (.ref w_RUNNING), .val (.ref w_FAILED), .val (.int (1 : Int32))] [(.int (1 : Int32))])) _
      obtain ⟨fs, hr, hrun, hended, hW, hsame⟩ := X48.leave (v := some (.int (1 : Int32))) (fun h => by rw [Bd.returns] at h; cases h)
      refine ⟨_, _, retN X48 hx (t := .boolean) Bd.returns (by simp) (hb hby at_78) hr, hrun, hended, _, _, rfl, ?_, ⟨_, rfl⟩, hW, hsame.mono (by decide) (by decide)⟩
      exact (⟨rfl, N48⟩ : Q0 Z w_PENDING w_FAILED w_RUNNING w_CANCELLED w_COMPLETED p1 p2 h0 n0 _ T48.heap _)
    · rw [hk35]
      show OGot p.tables e below (s₁.setTop (mkF m 14 #[.val (.int p1), .val (.int p2), .val (.int (1 : Int32)), .unset, .unset, .unset, .unset] [(.int (4 : Int32))])) _
      refine OGot.go (fun t k => XS.istoreN X0.here hx rfl (hb hby at_14) rfl (l' := #[.val (.int p1), .val (.int p2), .val (.int (1 : Int32)), .val (.int (4 : Int32)), .unset, .unset, .unset]) rfl k) ?_
      show OGot p.tables e below (s₁.setTop (mkF m 15 #[.val (.int p1), .val (.int p2), .val (.int (1 : Int32)), .val (.int (4 : Int32)), .unset, .unset, .unset] [])) _
      refine OGot.go (fun t k => XS.iloadN X0.here hx rfl (hb hby at_15) rfl k) ?_
      show OGot p.tables e below (s₁.setTop (mkF m 16 #[.val (.int p1), .val (.int p2), .val (.int (1 : Int32)), .val (.int (4 : Int32)), .unset, .unset, .unset] [(.int (1 : Int32))])) _
      obtain ⟨_, _, ⟨T49, L49, k49, n49⟩, -, X49, ⟨Lc49, hQ49, l49, y49, z49⟩, st49⟩ := Jvm.LawKit.callS X0 hx (y := (⟨"com/example/hermit_crab/hermitcrab/JobStateCanMoveToPinLaw", "st", "(I)Lcom/example/hermit_crab/hermitcrab/JobState;"⟩ : MethodName)) hown (mvT hZ (ow hw 1 rfl)) (mvT hZ (ow hw 2 rfl)) (mvT hZ (ow hw 3 rfl)) (mvT hZ (ow hw 4 rfl)) (by decide) (backOf (W := 0) (rm1_1 l Z a0 hw [] G  h0 n0 O0 ) hZ (ow hw 4 rfl) (ow hw 3 rfl) (by decide) (by decide)) (g := (mkF m 16 #[.val (.int p1), .val (.int p2), .val (.int (1 : Int32)), .val (.int (4 : Int32)), .unset, .unset, .unset] [(.int (1 : Int32))])) rfl (by rw [hml]; rfl) (argsL := [(.int (1 : Int32))]) (rest := []) (lenOf pd_0 rfl) rfl (by show 2 * 0 + _ ≤ _; exact Nat.le_of_eq rfl) (hb hby at_16) (fun _ _ => ⟨rfl, e0, (by decide : 0 + 0 ≤ _), (by decide : 0 + 0 ≤ _)⟩)
      dsimp only [Pt.U, Pt.locs, Pt.cells, Pt.slots] at X49 l49 y49 z49 st49 hQ49
      subst l49 y49 z49
      obtain ⟨rfl, N49q, e49⟩ := hQ49
      have N49 := Fr.app N0 N49q
      refine OGot.go st49 ?_
      show OGot p.tables e below (T49.setTop (mkF m 19 #[.val (.int p1), .val (.int p2), .val (.int (1 : Int32)), .val (.int (4 : Int32)), .unset, .unset, .unset] [(.ref w_RUNNING)])) _
      refine OGot.go (fun t k => XS.astore X49.here hx rfl (hb hby at_19) rfl rfl (l' := #[.val (.int p1), .val (.int p2), .val (.int (1 : Int32)), .val (.int (4 : Int32)), .val (.ref w_RUNNING), .unset, .unset]) rfl k) ?_
      show OGot p.tables e below (T49.setTop (mkF m 21 #[.val (.int p1), .val (.int p2), .val (.int (1 : Int32)), .val (.int (4 : Int32)), .val (.ref w_RUNNING), .unset, .unset] [])) _
      refine OGot.go (fun t k => XS.iloadN X49.here hx rfl (hb hby at_21) rfl k) ?_
      show OGot p.tables e below (T49.setTop (mkF m 22 #[.val (.int p1), .val (.int p2), .val (.int (1 : Int32)), .val (.int (4 : Int32)), .val (.ref w_RUNNING), .unset, .unset] [(.int (4 : Int32))])) _
      refine OGot.go (fun t k => XS.iconst X49.here hx rfl (hb hby at_22) k) ?_
      show OGot p.tables e below (T49.setTop (mkF m 23 #[.val (.int p1), .val (.int p2), .val (.int (1 : Int32)), .val (.int (4 : Int32)), .val (.ref w_RUNNING), .unset, .unset] [(.int (5 : Int32)), (.int (4 : Int32))])) _
      refine OGot.go (fun t k => XS.icmpYes X49.here hx rfl (pc0 := 23) (pc' := 30) rfl (hb hby at_23) rfl (by decide) (by decide) (by decide) k) ?_
      show OGot p.tables e below (T49.setTop (mkF m 30 #[.val (.int p1), .val (.int p2), .val (.int (1 : Int32)), .val (.int (4 : Int32)), .val (.ref w_RUNNING), .unset, .unset] [])) _
      refine OGot.go (fun t k => XS.iloadN X49.here hx rfl (hb hby at_30) rfl k) ?_
      show OGot p.tables e below (T49.setTop (mkF m 31 #[.val (.int p1), .val (.int p2), .val (.int (1 : Int32)), .val (.int (4 : Int32)), .val (.ref w_RUNNING), .unset, .unset] [(.int (4 : Int32))])) _
      obtain ⟨_, _, ⟨T50, L50, k50, n50⟩, -, X50, ⟨Lc50, hQ50, l50, y50, z50⟩, st50⟩ := Jvm.LawKit.callS X49 hx (y := (⟨"com/example/hermit_crab/hermitcrab/JobStateCanMoveToPinLaw", "st", "(I)Lcom/example/hermit_crab/hermitcrab/JobState;"⟩ : MethodName)) hown (mvT hZ (ow hw 1 rfl)) (mvT hZ (ow hw 2 rfl)) (mvT hZ (ow hw 3 rfl)) (mvT hZ (ow hw 4 rfl)) (by decide) (backOf (W := 0) (rm1_4 l Z a0 hw [] G  h0 n0 O0 ) hZ (ow hw 4 rfl) (ow hw 3 rfl) (by decide) (by decide)) (g := (mkF m 31 #[.val (.int p1), .val (.int p2), .val (.int (1 : Int32)), .val (.int (4 : Int32)), .val (.ref w_RUNNING), .unset, .unset] [(.int (4 : Int32))])) rfl (by rw [hml]; rfl) (argsL := [(.int (4 : Int32))]) (rest := []) (lenOf pd_0 rfl) rfl (by show 2 * 0 + _ ≤ _; exact Nat.le_of_eq rfl) (hb hby at_31) (fun _ _ => ⟨rfl, e49, (by decide : 0 + 0 ≤ _), (by decide : 0 + 0 ≤ _)⟩)
      dsimp only [Pt.U, Pt.locs, Pt.cells, Pt.slots] at X50 l50 y50 z50 st50 hQ50
      subst l50 y50 z50
      obtain ⟨rfl, N50q, e50⟩ := hQ50
      have N50 := Fr.app N49 N50q
      refine OGot.go st50 ?_
      show OGot p.tables e below (T50.setTop (mkF m 34 #[.val (.int p1), .val (.int p2), .val (.int (1 : Int32)), .val (.int (4 : Int32)), .val (.ref w_RUNNING), .unset, .unset] [(.ref w_CANCELLED)])) _
      refine OGot.go (fun t k => XS.astore X50.here hx rfl (hb hby at_34) rfl rfl (l' := #[.val (.int p1), .val (.int p2), .val (.int (1 : Int32)), .val (.int (4 : Int32)), .val (.ref w_RUNNING), .val (.ref w_CANCELLED), .unset]) rfl k) ?_
      show OGot p.tables e below (T50.setTop (mkF m 36 #[.val (.int p1), .val (.int p2), .val (.int (1 : Int32)), .val (.int (4 : Int32)), .val (.ref w_RUNNING), .val (.ref w_CANCELLED), .unset] [])) _
      refine OGot.go (fun t k => XS.iloadN X50.here hx rfl (hb hby at_36) rfl k) ?_
      show OGot p.tables e below (T50.setTop (mkF m 37 #[.val (.int p1), .val (.int p2), .val (.int (1 : Int32)), .val (.int (4 : Int32)), .val (.ref w_RUNNING), .val (.ref w_CANCELLED), .unset] [(.int (4 : Int32))])) _
      refine OGot.go (fun t k => XS.iconst X50.here hx rfl (hb hby at_37) k) ?_
      show OGot p.tables e below (T50.setTop (mkF m 38 #[.val (.int p1), .val (.int p2), .val (.int (1 : Int32)), .val (.int (4 : Int32)), .val (.ref w_RUNNING), .val (.ref w_CANCELLED), .unset] [(.int (5 : Int32)), (.int (4 : Int32))])) _
      refine OGot.go (fun t k => XS.icmpNo X50.here hx rfl (hb hby at_38) rfl (by decide) k) ?_
      show OGot p.tables e below (T50.setTop (mkF m 41 #[.val (.int p1), .val (.int p2), .val (.int (1 : Int32)), .val (.int (4 : Int32)), .val (.ref w_RUNNING), .val (.ref w_CANCELLED), .unset] [])) _
      refine OGot.go (fun t k => X50.ldcInt hx hown (mvT hZ (ow hw 10 rfl)) (g := (mkF m 41 #[.val (.int p1), .val (.int p2), .val (.int (1 : Int32)), .val (.int (4 : Int32)), .val (.ref w_RUNNING), .val (.ref w_CANCELLED), .unset] [])) rfl (hb hby at_41) _ k) ?_
      show OGot p.tables e below (T50.setTop (mkF m 43 #[.val (.int p1), .val (.int p2), .val (.int (1 : Int32)), .val (.int (4 : Int32)), .val (.ref w_RUNNING), .val (.ref w_CANCELLED), .unset] [(.int (33202 : Int32))])) _
      refine OGot.go (fun t k => XS.iconst X50.here hx rfl (hb hby at_43) k) ?_
      show OGot p.tables e below (T50.setTop (mkF m 44 #[.val (.int p1), .val (.int p2), .val (.int (1 : Int32)), .val (.int (4 : Int32)), .val (.ref w_RUNNING), .val (.ref w_CANCELLED), .unset] [(.int (5 : Int32)), (.int (33202 : Int32))])) _
      refine OGot.go (fun t k => XS.iloadN X50.here hx rfl (hb hby at_44) rfl k) ?_
      show OGot p.tables e below (T50.setTop (mkF m 45 #[.val (.int p1), .val (.int p2), .val (.int (1 : Int32)), .val (.int (4 : Int32)), .val (.ref w_RUNNING), .val (.ref w_CANCELLED), .unset] [(.int (1 : Int32)), (.int (5 : Int32)), (.int (33202 : Int32))])) _
      refine OGot.go (fun t k => XS.imul X50.here hx rfl (hb hby at_45) rfl k) ?_
      show OGot p.tables e below (T50.setTop (mkF m 46 #[.val (.int p1), .val (.int p2), .val (.int (1 : Int32)), .val (.int (4 : Int32)), .val (.ref w_RUNNING), .val (.ref w_CANCELLED), .unset] [(.int ((5 : Int32) * (1 : Int32))), (.int (33202 : Int32))])) _
      rw [show ((5 : Int32) * (1 : Int32)) = (5 : Int32) from by decide]
      show OGot p.tables e below (T50.setTop (mkF m 46 #[.val (.int p1), .val (.int p2), .val (.int (1 : Int32)), .val (.int (4 : Int32)), .val (.ref w_RUNNING), .val (.ref w_CANCELLED), .unset] [(.int (5 : Int32)), (.int (33202 : Int32))])) _
      refine OGot.go (fun t k => XS.iloadN X50.here hx rfl (hb hby at_46) rfl k) ?_
      show OGot p.tables e below (T50.setTop (mkF m 47 #[.val (.int p1), .val (.int p2), .val (.int (1 : Int32)), .val (.int (4 : Int32)), .val (.ref w_RUNNING), .val (.ref w_CANCELLED), .unset] [(.int (4 : Int32)), (.int (5 : Int32)), (.int (33202 : Int32))])) _
      refine OGot.go (fun t k => XS.iadd X50.here hx rfl (hb hby at_47) rfl k) ?_
      show OGot p.tables e below (T50.setTop (mkF m 48 #[.val (.int p1), .val (.int p2), .val (.int (1 : Int32)), .val (.int (4 : Int32)), .val (.ref w_RUNNING), .val (.ref w_CANCELLED), .unset] [(.int ((5 : Int32) + (4 : Int32))), (.int (33202 : Int32))])) _
      rw [show ((5 : Int32) + (4 : Int32)) = (9 : Int32) from by decide]
      show OGot p.tables e below (T50.setTop (mkF m 48 #[.val (.int p1), .val (.int p2), .val (.int (1 : Int32)), .val (.int (4 : Int32)), .val (.ref w_RUNNING), .val (.ref w_CANCELLED), .unset] [(.int (9 : Int32)), (.int (33202 : Int32))])) _
      refine OGot.go (fun t k => XS.ishr X50.here hx rfl (hb hby at_48) rfl k) ?_
      show OGot p.tables e below (T50.setTop (mkF m 49 #[.val (.int p1), .val (.int p2), .val (.int (1 : Int32)), .val (.int (4 : Int32)), .val (.ref w_RUNNING), .val (.ref w_CANCELLED), .unset] [(.int ((33202 : Int32) >>> ((9 : Int32) &&& 31)))])) _
      rw [show ((33202 : Int32) >>> ((9 : Int32) &&& 31)) = (64 : Int32) from by decide]
      show OGot p.tables e below (T50.setTop (mkF m 49 #[.val (.int p1), .val (.int p2), .val (.int (1 : Int32)), .val (.int (4 : Int32)), .val (.ref w_RUNNING), .val (.ref w_CANCELLED), .unset] [(.int (64 : Int32))])) _
      refine OGot.go (fun t k => XS.iconst X50.here hx rfl (hb hby at_49) k) ?_
      show OGot p.tables e below (T50.setTop (mkF m 50 #[.val (.int p1), .val (.int p2), .val (.int (1 : Int32)), .val (.int (4 : Int32)), .val (.ref w_RUNNING), .val (.ref w_CANCELLED), .unset] [(.int (1 : Int32)), (.int (64 : Int32))])) _
      refine OGot.go (fun t k => XS.iand X50.here hx rfl (hb hby at_50) rfl k) ?_
      show OGot p.tables e below (T50.setTop (mkF m 51 #[.val (.int p1), .val (.int p2), .val (.int (1 : Int32)), .val (.int (4 : Int32)), .val (.ref w_RUNNING), .val (.ref w_CANCELLED), .unset] [(.int ((64 : Int32) &&& (1 : Int32)))])) _
      rw [show ((64 : Int32) &&& (1 : Int32)) = (0 : Int32) from by decide]
      show OGot p.tables e below (T50.setTop (mkF m 51 #[.val (.int p1), .val (.int p2), .val (.int (1 : Int32)), .val (.int (4 : Int32)), .val (.ref w_RUNNING), .val (.ref w_CANCELLED), .unset] [(.int (0 : Int32))])) _
      refine OGot.go (fun t k => XS.ifYes X50.here hx rfl (pc0 := 51) (pc' := 58) rfl (hb hby at_51) rfl (by decide) (by decide) (by decide) k) ?_
      show OGot p.tables e below (T50.setTop (mkF m 58 #[.val (.int p1), .val (.int p2), .val (.int (1 : Int32)), .val (.int (4 : Int32)), .val (.ref w_RUNNING), .val (.ref w_CANCELLED), .unset] [])) _
      refine OGot.go (fun t k => XS.iconst X50.here hx rfl (hb hby at_58) k) ?_
      show OGot p.tables e below (T50.setTop (mkF m 59 #[.val (.int p1), .val (.int p2), .val (.int (1 : Int32)), .val (.int (4 : Int32)), .val (.ref w_RUNNING), .val (.ref w_CANCELLED), .unset] [(.int (0 : Int32))])) _
      refine OGot.go (fun t k => XS.istore X50.here hx rfl (hb hby at_59) rfl (l' := #[.val (.int p1), .val (.int p2), .val (.int (1 : Int32)), .val (.int (4 : Int32)), .val (.ref w_RUNNING), .val (.ref w_CANCELLED), .val (.int (0 : Int32))]) rfl k) ?_
      show OGot p.tables e below (T50.setTop (mkF m 61 #[.val (.int p1), .val (.int p2), .val (.int (1 : Int32)), .val (.int (4 : Int32)), .val (.ref w_RUNNING), .val (.ref w_CANCELLED), .val (.int (0 : Int32))] [])) _
      refine OGot.go (fun t k => XS.aload X50.here hx rfl (hb hby at_61) rfl rfl k) ?_
      show OGot p.tables e below (T50.setTop (mkF m 63 #[.val (.int p1), .val (.int p2), .val (.int (1 : Int32)), .val (.int (4 : Int32)), .val (.ref w_RUNNING), .val (.ref w_CANCELLED), .val (.int (0 : Int32))] [(.ref w_RUNNING)])) _
      refine OGot.go (fun t k => XS.aload X50.here hx rfl (hb hby at_63) rfl rfl k) ?_
      show OGot p.tables e below (T50.setTop (mkF m 65 #[.val (.int p1), .val (.int p2), .val (.int (1 : Int32)), .val (.int (4 : Int32)), .val (.ref w_RUNNING), .val (.ref w_CANCELLED), .val (.int (0 : Int32))] [(.ref w_CANCELLED), (.ref w_RUNNING)])) _
      obtain ⟨cq51, kq51, q51a, q51b, q51c⟩ := isOf hZ e50 (G.2.2.2.2.2.1.ext O0.2)
      obtain ⟨_, _, ⟨T51, L51, k51, n51⟩, -, X51, ⟨Lc51, hQ51, l51, y51, z51⟩, st51⟩ := X50.virtualBack hx (y := (⟨"com/example/hermit_crab/hermitcrab/JobState", "canMoveTo", "(Lcom/example/hermit_crab/hermitcrab/JobState;)Z"⟩ : MethodName)) (z := (⟨"com/example/hermit_crab/hermitcrab/JobState", "canMoveTo", "(Lcom/example/hermit_crab/hermitcrab/JobState;)Z"⟩ : MethodName)) hown (mvT hZ (ow hw 11 rfl)) (mvT hZ (ow hw 12 rfl)) (notFace_of_selects (args := #[]) (mvT hZ (ow hw 14 rfl))) (mvT hZ (ow hw 14 rfl)) (mvT hZ (ow hw 13 rfl)) (by decide) (backOf (W := 0) (rm2_10 l Z a0 hw [] G  h0 n0 O0 ) hZ (ow hw 15 rfl) (ow hw 6 rfl) (by decide) (by decide)) q51a q51c (g := (mkF m 65 #[.val (.int p1), .val (.int p2), .val (.int (1 : Int32)), .val (.int (4 : Int32)), .val (.ref w_RUNNING), .val (.ref w_CANCELLED), .val (.int (0 : Int32))] [(.ref w_CANCELLED), (.ref w_RUNNING)])) rfl (by rw [hml]; rfl) (Steps.refl _) (argsL := [(.ref w_CANCELLED)]) (rest := []) (lenOf pd_2 rfl) rfl (by show 2 * 0 + _ ≤ _; exact Nat.le_of_eq rfl) (hb hby at_65) (fun _ _ => ⟨rfl, e50, (by decide : 0 + 0 ≤ _), (by decide : 0 + 0 ≤ _)⟩)
      dsimp only [Pt.U, Pt.locs, Pt.cells, Pt.slots] at X51 l51 y51 z51 st51 hQ51
      subst l51 y51 z51
      obtain ⟨rfl, N51q, e51⟩ := hQ51
      have N51 := Fr.app N50 N51q
      refine OGot.on st51 ?_
      show OGot p.tables e below (T51.setTop (mkF m 68 #[.val (.int p1), .val (.int p2), .val (.int (1 : Int32)), .val (.int (4 : Int32)), .val (.ref w_RUNNING), .val (.ref w_CANCELLED), .val (.int (0 : Int32))] [(.int (0 : Int32))])) _
      refine OGot.go (fun t k => XS.iload X51.here hx rfl (hb hby at_68) rfl k) ?_
      show OGot p.tables e below (T51.setTop (mkF m 70 #[.val (.int p1), .val (.int p2), .val (.int (1 : Int32)), .val (.int (4 : Int32)), .val (.ref w_RUNNING), .val (.ref w_CANCELLED), .val (.int (0 : Int32))] [(.int (0 : Int32)), (.int (0 : Int32))])) _
      refine OGot.go (fun t k => XS.icmpNo X51.here hx rfl (hb hby at_70) rfl (by decide) k) ?_
      show OGot p.tables e below (T51.setTop (mkF m 73 #[.val (.int p1), .val (.int p2), .val (.int (1 : Int32)), .val (.int (4 : Int32)), .val (.ref w_RUNNING), .val (.ref w_CANCELLED), .val (.int (0 : Int32))] [])) _
      refine OGot.go (fun t k => XS.iconst X51.here hx rfl (hb hby at_73) k) ?_
      show OGot p.tables e below (T51.setTop (mkF m 74 #[.val (.int p1), .val (.int p2), .val (.int (1 : Int32)), .val (.int (4 : Int32)), .val (.ref w_RUNNING), .val (.ref w_CANCELLED), .val (.int (0 : Int32))] [(.int (1 : Int32))])) _
      refine OGot.go (fun t k => XS.goto X51.here hx rfl (pc0 := 74) (pc' := 78) rfl (hb hby at_74) (by decide) (by decide) k) ?_
      show OGot p.tables e below (T51.setTop (mkF m 78 #[.val (.int p1), .val (.int p2), .val (.int (1 : Int32)), .val (.int (4 : Int32)), .val (.ref w_RUNNING), .val (.ref w_CANCELLED), .val (.int (0 : Int32))] [(.int (1 : Int32))])) _
      obtain ⟨fs, hr, hrun, hended, hW, hsame⟩ := X51.leave (v := some (.int (1 : Int32))) (fun h => by rw [Bd.returns] at h; cases h)
      refine ⟨_, _, retN X51 hx (t := .boolean) Bd.returns (by simp) (hb hby at_78) hr, hrun, hended, _, _, rfl, ?_, ⟨_, rfl⟩, hW, hsame.mono (by decide) (by decide)⟩
      exact (⟨rfl, N51⟩ : Q0 Z w_PENDING w_FAILED w_RUNNING w_CANCELLED w_COMPLETED p1 p2 h0 n0 _ T51.heap _)
    · rw [hk36]
      show OGot p.tables e below (s₁.setTop (mkF m 14 #[.val (.int p1), .val (.int p2), .val (.int (1 : Int32)), .unset, .unset, .unset, .unset] [(.int (5 : Int32))])) _
      refine OGot.go (fun t k => XS.istoreN X0.here hx rfl (hb hby at_14) rfl (l' := #[.val (.int p1), .val (.int p2), .val (.int (1 : Int32)), .val (.int (5 : Int32)), .unset, .unset, .unset]) rfl k) ?_
      show OGot p.tables e below (s₁.setTop (mkF m 15 #[.val (.int p1), .val (.int p2), .val (.int (1 : Int32)), .val (.int (5 : Int32)), .unset, .unset, .unset] [])) _
      refine OGot.go (fun t k => XS.iloadN X0.here hx rfl (hb hby at_15) rfl k) ?_
      show OGot p.tables e below (s₁.setTop (mkF m 16 #[.val (.int p1), .val (.int p2), .val (.int (1 : Int32)), .val (.int (5 : Int32)), .unset, .unset, .unset] [(.int (1 : Int32))])) _
      obtain ⟨_, _, ⟨T52, L52, k52, n52⟩, -, X52, ⟨Lc52, hQ52, l52, y52, z52⟩, st52⟩ := Jvm.LawKit.callS X0 hx (y := (⟨"com/example/hermit_crab/hermitcrab/JobStateCanMoveToPinLaw", "st", "(I)Lcom/example/hermit_crab/hermitcrab/JobState;"⟩ : MethodName)) hown (mvT hZ (ow hw 1 rfl)) (mvT hZ (ow hw 2 rfl)) (mvT hZ (ow hw 3 rfl)) (mvT hZ (ow hw 4 rfl)) (by decide) (backOf (W := 0) (rm1_1 l Z a0 hw [] G  h0 n0 O0 ) hZ (ow hw 4 rfl) (ow hw 3 rfl) (by decide) (by decide)) (g := (mkF m 16 #[.val (.int p1), .val (.int p2), .val (.int (1 : Int32)), .val (.int (5 : Int32)), .unset, .unset, .unset] [(.int (1 : Int32))])) rfl (by rw [hml]; rfl) (argsL := [(.int (1 : Int32))]) (rest := []) (lenOf pd_0 rfl) rfl (by show 2 * 0 + _ ≤ _; exact Nat.le_of_eq rfl) (hb hby at_16) (fun _ _ => ⟨rfl, e0, (by decide : 0 + 0 ≤ _), (by decide : 0 + 0 ≤ _)⟩)
      dsimp only [Pt.U, Pt.locs, Pt.cells, Pt.slots] at X52 l52 y52 z52 st52 hQ52
      subst l52 y52 z52
      obtain ⟨rfl, N52q, e52⟩ := hQ52
      have N52 := Fr.app N0 N52q
      refine OGot.go st52 ?_
      show OGot p.tables e below (T52.setTop (mkF m 19 #[.val (.int p1), .val (.int p2), .val (.int (1 : Int32)), .val (.int (5 : Int32)), .unset, .unset, .unset] [(.ref w_RUNNING)])) _
      refine OGot.go (fun t k => XS.astore X52.here hx rfl (hb hby at_19) rfl rfl (l' := #[.val (.int p1), .val (.int p2), .val (.int (1 : Int32)), .val (.int (5 : Int32)), .val (.ref w_RUNNING), .unset, .unset]) rfl k) ?_
      show OGot p.tables e below (T52.setTop (mkF m 21 #[.val (.int p1), .val (.int p2), .val (.int (1 : Int32)), .val (.int (5 : Int32)), .val (.ref w_RUNNING), .unset, .unset] [])) _
      refine OGot.go (fun t k => XS.iloadN X52.here hx rfl (hb hby at_21) rfl k) ?_
      show OGot p.tables e below (T52.setTop (mkF m 22 #[.val (.int p1), .val (.int p2), .val (.int (1 : Int32)), .val (.int (5 : Int32)), .val (.ref w_RUNNING), .unset, .unset] [(.int (5 : Int32))])) _
      refine OGot.go (fun t k => XS.iconst X52.here hx rfl (hb hby at_22) k) ?_
      show OGot p.tables e below (T52.setTop (mkF m 23 #[.val (.int p1), .val (.int p2), .val (.int (1 : Int32)), .val (.int (5 : Int32)), .val (.ref w_RUNNING), .unset, .unset] [(.int (5 : Int32)), (.int (5 : Int32))])) _
      refine OGot.go (fun t k => XS.icmpNo X52.here hx rfl (hb hby at_23) rfl (by decide) k) ?_
      show OGot p.tables e below (T52.setTop (mkF m 26 #[.val (.int p1), .val (.int p2), .val (.int (1 : Int32)), .val (.int (5 : Int32)), .val (.ref w_RUNNING), .unset, .unset] [])) _
      refine OGot.go (fun t k => XS.aconstNull X52.here hx rfl (hb hby at_26) k) ?_
      show OGot p.tables e below (T52.setTop (mkF m 27 #[.val (.int p1), .val (.int p2), .val (.int (1 : Int32)), .val (.int (5 : Int32)), .val (.ref w_RUNNING), .unset, .unset] [.null])) _
      refine OGot.go (fun t k => XS.goto X52.here hx rfl (pc0 := 27) (pc' := 34) rfl (hb hby at_27) (by decide) (by decide) k) ?_
      show OGot p.tables e below (T52.setTop (mkF m 34 #[.val (.int p1), .val (.int p2), .val (.int (1 : Int32)), .val (.int (5 : Int32)), .val (.ref w_RUNNING), .unset, .unset] [.null])) _
      refine OGot.go (fun t k => XS.astore X52.here hx rfl (hb hby at_34) rfl rfl (l' := #[.val (.int p1), .val (.int p2), .val (.int (1 : Int32)), .val (.int (5 : Int32)), .val (.ref w_RUNNING), .val .null, .unset]) rfl k) ?_
      show OGot p.tables e below (T52.setTop (mkF m 36 #[.val (.int p1), .val (.int p2), .val (.int (1 : Int32)), .val (.int (5 : Int32)), .val (.ref w_RUNNING), .val .null, .unset] [])) _
      refine OGot.go (fun t k => XS.iloadN X52.here hx rfl (hb hby at_36) rfl k) ?_
      show OGot p.tables e below (T52.setTop (mkF m 37 #[.val (.int p1), .val (.int p2), .val (.int (1 : Int32)), .val (.int (5 : Int32)), .val (.ref w_RUNNING), .val .null, .unset] [(.int (5 : Int32))])) _
      refine OGot.go (fun t k => XS.iconst X52.here hx rfl (hb hby at_37) k) ?_
      show OGot p.tables e below (T52.setTop (mkF m 38 #[.val (.int p1), .val (.int p2), .val (.int (1 : Int32)), .val (.int (5 : Int32)), .val (.ref w_RUNNING), .val .null, .unset] [(.int (5 : Int32)), (.int (5 : Int32))])) _
      refine OGot.go (fun t k => XS.icmpYes X52.here hx rfl (pc0 := 38) (pc' := 58) rfl (hb hby at_38) rfl (by decide) (by decide) (by decide) k) ?_
      show OGot p.tables e below (T52.setTop (mkF m 58 #[.val (.int p1), .val (.int p2), .val (.int (1 : Int32)), .val (.int (5 : Int32)), .val (.ref w_RUNNING), .val .null, .unset] [])) _
      refine OGot.go (fun t k => XS.iconst X52.here hx rfl (hb hby at_58) k) ?_
      show OGot p.tables e below (T52.setTop (mkF m 59 #[.val (.int p1), .val (.int p2), .val (.int (1 : Int32)), .val (.int (5 : Int32)), .val (.ref w_RUNNING), .val .null, .unset] [(.int (0 : Int32))])) _
      refine OGot.go (fun t k => XS.istore X52.here hx rfl (hb hby at_59) rfl (l' := #[.val (.int p1), .val (.int p2), .val (.int (1 : Int32)), .val (.int (5 : Int32)), .val (.ref w_RUNNING), .val .null, .val (.int (0 : Int32))]) rfl k) ?_
      show OGot p.tables e below (T52.setTop (mkF m 61 #[.val (.int p1), .val (.int p2), .val (.int (1 : Int32)), .val (.int (5 : Int32)), .val (.ref w_RUNNING), .val .null, .val (.int (0 : Int32))] [])) _
      refine OGot.go (fun t k => XS.aload X52.here hx rfl (hb hby at_61) rfl rfl k) ?_
      show OGot p.tables e below (T52.setTop (mkF m 63 #[.val (.int p1), .val (.int p2), .val (.int (1 : Int32)), .val (.int (5 : Int32)), .val (.ref w_RUNNING), .val .null, .val (.int (0 : Int32))] [(.ref w_RUNNING)])) _
      refine OGot.go (fun t k => XS.aload X52.here hx rfl (hb hby at_63) rfl rfl k) ?_
      show OGot p.tables e below (T52.setTop (mkF m 65 #[.val (.int p1), .val (.int p2), .val (.int (1 : Int32)), .val (.int (5 : Int32)), .val (.ref w_RUNNING), .val .null, .val (.int (0 : Int32))] [.null, (.ref w_RUNNING)])) _
      obtain ⟨cq53, kq53, q53a, q53b, q53c⟩ := isOf hZ e52 (G.2.2.2.2.2.1.ext O0.2)
      obtain ⟨_, _, ⟨T53, L53, k53, n53⟩, -, X53, ⟨Lc53, hQ53, l53, y53, z53⟩, st53⟩ := X52.virtualBack hx (y := (⟨"com/example/hermit_crab/hermitcrab/JobState", "canMoveTo", "(Lcom/example/hermit_crab/hermitcrab/JobState;)Z"⟩ : MethodName)) (z := (⟨"com/example/hermit_crab/hermitcrab/JobState", "canMoveTo", "(Lcom/example/hermit_crab/hermitcrab/JobState;)Z"⟩ : MethodName)) hown (mvT hZ (ow hw 11 rfl)) (mvT hZ (ow hw 12 rfl)) (notFace_of_selects (args := #[]) (mvT hZ (ow hw 14 rfl))) (mvT hZ (ow hw 14 rfl)) (mvT hZ (ow hw 13 rfl)) (by decide) (backOf (W := 0) (rm2_11 l Z a0 hw [] G  h0 n0 O0 ) hZ (ow hw 15 rfl) (ow hw 6 rfl) (by decide) (by decide)) q53a q53c (g := (mkF m 65 #[.val (.int p1), .val (.int p2), .val (.int (1 : Int32)), .val (.int (5 : Int32)), .val (.ref w_RUNNING), .val .null, .val (.int (0 : Int32))] [.null, (.ref w_RUNNING)])) rfl (by rw [hml]; rfl) (Steps.refl _) (argsL := [.null]) (rest := []) (lenOf pd_2 rfl) rfl (by show 2 * 0 + _ ≤ _; exact Nat.le_of_eq rfl) (hb hby at_65) (fun _ _ => ⟨rfl, e52, (by decide : 0 + 0 ≤ _), (by decide : 0 + 0 ≤ _)⟩)
      dsimp only [Pt.U, Pt.locs, Pt.cells, Pt.slots] at X53 l53 y53 z53 st53 hQ53
      subst l53 y53 z53
      obtain ⟨rfl, N53q, e53⟩ := hQ53
      have N53 := Fr.app N52 N53q
      refine OGot.on st53 ?_
      show OGot p.tables e below (T53.setTop (mkF m 68 #[.val (.int p1), .val (.int p2), .val (.int (1 : Int32)), .val (.int (5 : Int32)), .val (.ref w_RUNNING), .val .null, .val (.int (0 : Int32))] [(.int (0 : Int32))])) _
      refine OGot.go (fun t k => XS.iload X53.here hx rfl (hb hby at_68) rfl k) ?_
      show OGot p.tables e below (T53.setTop (mkF m 70 #[.val (.int p1), .val (.int p2), .val (.int (1 : Int32)), .val (.int (5 : Int32)), .val (.ref w_RUNNING), .val .null, .val (.int (0 : Int32))] [(.int (0 : Int32)), (.int (0 : Int32))])) _
      refine OGot.go (fun t k => XS.icmpNo X53.here hx rfl (hb hby at_70) rfl (by decide) k) ?_
      show OGot p.tables e below (T53.setTop (mkF m 73 #[.val (.int p1), .val (.int p2), .val (.int (1 : Int32)), .val (.int (5 : Int32)), .val (.ref w_RUNNING), .val .null, .val (.int (0 : Int32))] [])) _
      refine OGot.go (fun t k => XS.iconst X53.here hx rfl (hb hby at_73) k) ?_
      show OGot p.tables e below (T53.setTop (mkF m 74 #[.val (.int p1), .val (.int p2), .val (.int (1 : Int32)), .val (.int (5 : Int32)), .val (.ref w_RUNNING), .val .null, .val (.int (0 : Int32))] [(.int (1 : Int32))])) _
      refine OGot.go (fun t k => XS.goto X53.here hx rfl (pc0 := 74) (pc' := 78) rfl (hb hby at_74) (by decide) (by decide) k) ?_
      show OGot p.tables e below (T53.setTop (mkF m 78 #[.val (.int p1), .val (.int p2), .val (.int (1 : Int32)), .val (.int (5 : Int32)), .val (.ref w_RUNNING), .val .null, .val (.int (0 : Int32))] [(.int (1 : Int32))])) _
      obtain ⟨fs, hr, hrun, hended, hW, hsame⟩ := X53.leave (v := some (.int (1 : Int32))) (fun h => by rw [Bd.returns] at h; cases h)
      refine ⟨_, _, retN X53 hx (t := .boolean) Bd.returns (by simp) (hb hby at_78) hr, hrun, hended, _, _, rfl, ?_, ⟨_, rfl⟩, hW, hsame.mono (by decide) (by decide)⟩
      exact (⟨rfl, N53⟩ : Q0 Z w_PENDING w_FAILED w_RUNNING w_CANCELLED w_COMPLETED p1 p2 h0 n0 _ T53.heap _)
  · rw [hk5]
    show OGot p.tables e below (s₁.setTop (mkF m 6 #[.val (.int p1), .val (.int p2), .unset, .unset, .unset, .unset, .unset] [(.int (2 : Int32))])) _
    refine OGot.go (fun t k => XS.istoreN X0.here hx rfl (hb hby at_6) rfl (l' := #[.val (.int p1), .val (.int p2), .val (.int (2 : Int32)), .unset, .unset, .unset, .unset]) rfl k) ?_
    show OGot p.tables e below (s₁.setTop (mkF m 7 #[.val (.int p1), .val (.int p2), .val (.int (2 : Int32)), .unset, .unset, .unset, .unset] [])) _
    refine OGot.go (fun t k => XS.iloadN X0.here hx rfl (hb hby at_7) rfl k) ?_
    show OGot p.tables e below (s₁.setTop (mkF m 8 #[.val (.int p1), .val (.int p2), .val (.int (2 : Int32)), .unset, .unset, .unset, .unset] [(.int p2)])) _
    refine OGot.go (fun t k => X0.ldcInt hx hown (mvT hZ (ow hw 0 rfl)) (g := (mkF m 8 #[.val (.int p1), .val (.int p2), .val (.int (2 : Int32)), .unset, .unset, .unset, .unset] [(.int p2)])) rfl (hb hby at_8) _ k) ?_
    show OGot p.tables e below (s₁.setTop (mkF m 10 #[.val (.int p1), .val (.int p2), .val (.int (2 : Int32)), .unset, .unset, .unset, .unset] [(.int (2147483647 : Int32)), (.int p2)])) _
    refine OGot.go (fun t k => XS.iand X0.here hx rfl (hb hby at_10) rfl k) ?_
    show OGot p.tables e below (s₁.setTop (mkF m 11 #[.val (.int p1), .val (.int p2), .val (.int (2 : Int32)), .unset, .unset, .unset, .unset] [(.int (p2 &&& (2147483647 : Int32)))])) _
    refine OGot.go (fun t k => XS.bipush X0.here hx rfl (hb hby at_11) k) ?_
    show OGot p.tables e below (s₁.setTop (mkF m 13 #[.val (.int p1), .val (.int p2), .val (.int (2 : Int32)), .unset, .unset, .unset, .unset] [(.int (6 : Int32)), (.int (p2 &&& (2147483647 : Int32)))])) _
    refine OGot.go (fun t k => iremM X0 hx rfl (hb hby at_13) rfl (by decide) k) ?_
    show OGot p.tables e below (s₁.setTop (mkF m 14 #[.val (.int p1), .val (.int p2), .val (.int (2 : Int32)), .unset, .unset, .unset, .unset] [(.int ((p2 &&& (2147483647 : Int32)) % (6 : Int32)))])) _
    rcases own_rem6 p2 with hk54 | hk55 | hk56 | hk57 | hk58 | hk59
    · rw [hk54]
      show OGot p.tables e below (s₁.setTop (mkF m 14 #[.val (.int p1), .val (.int p2), .val (.int (2 : Int32)), .unset, .unset, .unset, .unset] [(.int (0 : Int32))])) _
      refine OGot.go (fun t k => XS.istoreN X0.here hx rfl (hb hby at_14) rfl (l' := #[.val (.int p1), .val (.int p2), .val (.int (2 : Int32)), .val (.int (0 : Int32)), .unset, .unset, .unset]) rfl k) ?_
      show OGot p.tables e below (s₁.setTop (mkF m 15 #[.val (.int p1), .val (.int p2), .val (.int (2 : Int32)), .val (.int (0 : Int32)), .unset, .unset, .unset] [])) _
      refine OGot.go (fun t k => XS.iloadN X0.here hx rfl (hb hby at_15) rfl k) ?_
      show OGot p.tables e below (s₁.setTop (mkF m 16 #[.val (.int p1), .val (.int p2), .val (.int (2 : Int32)), .val (.int (0 : Int32)), .unset, .unset, .unset] [(.int (2 : Int32))])) _
      obtain ⟨_, _, ⟨T60, L60, k60, n60⟩, -, X60, ⟨Lc60, hQ60, l60, y60, z60⟩, st60⟩ := Jvm.LawKit.callS X0 hx (y := (⟨"com/example/hermit_crab/hermitcrab/JobStateCanMoveToPinLaw", "st", "(I)Lcom/example/hermit_crab/hermitcrab/JobState;"⟩ : MethodName)) hown (mvT hZ (ow hw 1 rfl)) (mvT hZ (ow hw 2 rfl)) (mvT hZ (ow hw 3 rfl)) (mvT hZ (ow hw 4 rfl)) (by decide) (backOf (W := 0) (rm1_2 l Z a0 hw [] G  h0 n0 O0 ) hZ (ow hw 4 rfl) (ow hw 3 rfl) (by decide) (by decide)) (g := (mkF m 16 #[.val (.int p1), .val (.int p2), .val (.int (2 : Int32)), .val (.int (0 : Int32)), .unset, .unset, .unset] [(.int (2 : Int32))])) rfl (by rw [hml]; rfl) (argsL := [(.int (2 : Int32))]) (rest := []) (lenOf pd_0 rfl) rfl (by show 2 * 0 + _ ≤ _; exact Nat.le_of_eq rfl) (hb hby at_16) (fun _ _ => ⟨rfl, e0, (by decide : 0 + 0 ≤ _), (by decide : 0 + 0 ≤ _)⟩)
      dsimp only [Pt.U, Pt.locs, Pt.cells, Pt.slots] at X60 l60 y60 z60 st60 hQ60
      subst l60 y60 z60
      obtain ⟨rfl, N60q, e60⟩ := hQ60
      have N60 := Fr.app N0 N60q
      refine OGot.go st60 ?_
      show OGot p.tables e below (T60.setTop (mkF m 19 #[.val (.int p1), .val (.int p2), .val (.int (2 : Int32)), .val (.int (0 : Int32)), .unset, .unset, .unset] [(.ref w_COMPLETED)])) _
      refine OGot.go (fun t k => XS.astore X60.here hx rfl (hb hby at_19) rfl rfl (l' := #[.val (.int p1), .val (.int p2), .val (.int (2 : Int32)), .val (.int (0 : Int32)), .val (.ref w_COMPLETED), .unset, .unset]) rfl k) ?_
      show OGot p.tables e below (T60.setTop (mkF m 21 #[.val (.int p1), .val (.int p2), .val (.int (2 : Int32)), .val (.int (0 : Int32)), .val (.ref w_COMPLETED), .unset, .unset] [])) _
      refine OGot.go (fun t k => XS.iloadN X60.here hx rfl (hb hby at_21) rfl k) ?_
      show OGot p.tables e below (T60.setTop (mkF m 22 #[.val (.int p1), .val (.int p2), .val (.int (2 : Int32)), .val (.int (0 : Int32)), .val (.ref w_COMPLETED), .unset, .unset] [(.int (0 : Int32))])) _
      refine OGot.go (fun t k => XS.iconst X60.here hx rfl (hb hby at_22) k) ?_
      show OGot p.tables e below (T60.setTop (mkF m 23 #[.val (.int p1), .val (.int p2), .val (.int (2 : Int32)), .val (.int (0 : Int32)), .val (.ref w_COMPLETED), .unset, .unset] [(.int (5 : Int32)), (.int (0 : Int32))])) _
      refine OGot.go (fun t k => XS.icmpYes X60.here hx rfl (pc0 := 23) (pc' := 30) rfl (hb hby at_23) rfl (by decide) (by decide) (by decide) k) ?_
      show OGot p.tables e below (T60.setTop (mkF m 30 #[.val (.int p1), .val (.int p2), .val (.int (2 : Int32)), .val (.int (0 : Int32)), .val (.ref w_COMPLETED), .unset, .unset] [])) _
      refine OGot.go (fun t k => XS.iloadN X60.here hx rfl (hb hby at_30) rfl k) ?_
      show OGot p.tables e below (T60.setTop (mkF m 31 #[.val (.int p1), .val (.int p2), .val (.int (2 : Int32)), .val (.int (0 : Int32)), .val (.ref w_COMPLETED), .unset, .unset] [(.int (0 : Int32))])) _
      obtain ⟨_, _, ⟨T61, L61, k61, n61⟩, -, X61, ⟨Lc61, hQ61, l61, y61, z61⟩, st61⟩ := Jvm.LawKit.callS X60 hx (y := (⟨"com/example/hermit_crab/hermitcrab/JobStateCanMoveToPinLaw", "st", "(I)Lcom/example/hermit_crab/hermitcrab/JobState;"⟩ : MethodName)) hown (mvT hZ (ow hw 1 rfl)) (mvT hZ (ow hw 2 rfl)) (mvT hZ (ow hw 3 rfl)) (mvT hZ (ow hw 4 rfl)) (by decide) (backOf (W := 0) (rm1 l Z a0 hw [] G  h0 n0 O0 ) hZ (ow hw 4 rfl) (ow hw 3 rfl) (by decide) (by decide)) (g := (mkF m 31 #[.val (.int p1), .val (.int p2), .val (.int (2 : Int32)), .val (.int (0 : Int32)), .val (.ref w_COMPLETED), .unset, .unset] [(.int (0 : Int32))])) rfl (by rw [hml]; rfl) (argsL := [(.int (0 : Int32))]) (rest := []) (lenOf pd_0 rfl) rfl (by show 2 * 0 + _ ≤ _; exact Nat.le_of_eq rfl) (hb hby at_31) (fun _ _ => ⟨rfl, e60, (by decide : 0 + 0 ≤ _), (by decide : 0 + 0 ≤ _)⟩)
      dsimp only [Pt.U, Pt.locs, Pt.cells, Pt.slots] at X61 l61 y61 z61 st61 hQ61
      subst l61 y61 z61
      obtain ⟨rfl, N61q, e61⟩ := hQ61
      have N61 := Fr.app N60 N61q
      refine OGot.go st61 ?_
      show OGot p.tables e below (T61.setTop (mkF m 34 #[.val (.int p1), .val (.int p2), .val (.int (2 : Int32)), .val (.int (0 : Int32)), .val (.ref w_COMPLETED), .unset, .unset] [(.ref w_PENDING)])) _
      refine OGot.go (fun t k => XS.astore X61.here hx rfl (hb hby at_34) rfl rfl (l' := #[.val (.int p1), .val (.int p2), .val (.int (2 : Int32)), .val (.int (0 : Int32)), .val (.ref w_COMPLETED), .val (.ref w_PENDING), .unset]) rfl k) ?_
      show OGot p.tables e below (T61.setTop (mkF m 36 #[.val (.int p1), .val (.int p2), .val (.int (2 : Int32)), .val (.int (0 : Int32)), .val (.ref w_COMPLETED), .val (.ref w_PENDING), .unset] [])) _
      refine OGot.go (fun t k => XS.iloadN X61.here hx rfl (hb hby at_36) rfl k) ?_
      show OGot p.tables e below (T61.setTop (mkF m 37 #[.val (.int p1), .val (.int p2), .val (.int (2 : Int32)), .val (.int (0 : Int32)), .val (.ref w_COMPLETED), .val (.ref w_PENDING), .unset] [(.int (0 : Int32))])) _
      refine OGot.go (fun t k => XS.iconst X61.here hx rfl (hb hby at_37) k) ?_
      show OGot p.tables e below (T61.setTop (mkF m 38 #[.val (.int p1), .val (.int p2), .val (.int (2 : Int32)), .val (.int (0 : Int32)), .val (.ref w_COMPLETED), .val (.ref w_PENDING), .unset] [(.int (5 : Int32)), (.int (0 : Int32))])) _
      refine OGot.go (fun t k => XS.icmpNo X61.here hx rfl (hb hby at_38) rfl (by decide) k) ?_
      show OGot p.tables e below (T61.setTop (mkF m 41 #[.val (.int p1), .val (.int p2), .val (.int (2 : Int32)), .val (.int (0 : Int32)), .val (.ref w_COMPLETED), .val (.ref w_PENDING), .unset] [])) _
      refine OGot.go (fun t k => X61.ldcInt hx hown (mvT hZ (ow hw 10 rfl)) (g := (mkF m 41 #[.val (.int p1), .val (.int p2), .val (.int (2 : Int32)), .val (.int (0 : Int32)), .val (.ref w_COMPLETED), .val (.ref w_PENDING), .unset] [])) rfl (hb hby at_41) _ k) ?_
      show OGot p.tables e below (T61.setTop (mkF m 43 #[.val (.int p1), .val (.int p2), .val (.int (2 : Int32)), .val (.int (0 : Int32)), .val (.ref w_COMPLETED), .val (.ref w_PENDING), .unset] [(.int (33202 : Int32))])) _
      refine OGot.go (fun t k => XS.iconst X61.here hx rfl (hb hby at_43) k) ?_
      show OGot p.tables e below (T61.setTop (mkF m 44 #[.val (.int p1), .val (.int p2), .val (.int (2 : Int32)), .val (.int (0 : Int32)), .val (.ref w_COMPLETED), .val (.ref w_PENDING), .unset] [(.int (5 : Int32)), (.int (33202 : Int32))])) _
      refine OGot.go (fun t k => XS.iloadN X61.here hx rfl (hb hby at_44) rfl k) ?_
      show OGot p.tables e below (T61.setTop (mkF m 45 #[.val (.int p1), .val (.int p2), .val (.int (2 : Int32)), .val (.int (0 : Int32)), .val (.ref w_COMPLETED), .val (.ref w_PENDING), .unset] [(.int (2 : Int32)), (.int (5 : Int32)), (.int (33202 : Int32))])) _
      refine OGot.go (fun t k => XS.imul X61.here hx rfl (hb hby at_45) rfl k) ?_
      show OGot p.tables e below (T61.setTop (mkF m 46 #[.val (.int p1), .val (.int p2), .val (.int (2 : Int32)), .val (.int (0 : Int32)), .val (.ref w_COMPLETED), .val (.ref w_PENDING), .unset] [(.int ((5 : Int32) * (2 : Int32))), (.int (33202 : Int32))])) _
      rw [show ((5 : Int32) * (2 : Int32)) = (10 : Int32) from by decide]
      show OGot p.tables e below (T61.setTop (mkF m 46 #[.val (.int p1), .val (.int p2), .val (.int (2 : Int32)), .val (.int (0 : Int32)), .val (.ref w_COMPLETED), .val (.ref w_PENDING), .unset] [(.int (10 : Int32)), (.int (33202 : Int32))])) _
      refine OGot.go (fun t k => XS.iloadN X61.here hx rfl (hb hby at_46) rfl k) ?_
      show OGot p.tables e below (T61.setTop (mkF m 47 #[.val (.int p1), .val (.int p2), .val (.int (2 : Int32)), .val (.int (0 : Int32)), .val (.ref w_COMPLETED), .val (.ref w_PENDING), .unset] [(.int (0 : Int32)), (.int (10 : Int32)), (.int (33202 : Int32))])) _
      refine OGot.go (fun t k => XS.iadd X61.here hx rfl (hb hby at_47) rfl k) ?_
      show OGot p.tables e below (T61.setTop (mkF m 48 #[.val (.int p1), .val (.int p2), .val (.int (2 : Int32)), .val (.int (0 : Int32)), .val (.ref w_COMPLETED), .val (.ref w_PENDING), .unset] [(.int ((10 : Int32) + (0 : Int32))), (.int (33202 : Int32))])) _
      rw [show ((10 : Int32) + (0 : Int32)) = (10 : Int32) from by decide]
      show OGot p.tables e below (T61.setTop (mkF m 48 #[.val (.int p1), .val (.int p2), .val (.int (2 : Int32)), .val (.int (0 : Int32)), .val (.ref w_COMPLETED), .val (.ref w_PENDING), .unset] [(.int (10 : Int32)), (.int (33202 : Int32))])) _
      refine OGot.go (fun t k => XS.ishr X61.here hx rfl (hb hby at_48) rfl k) ?_
      show OGot p.tables e below (T61.setTop (mkF m 49 #[.val (.int p1), .val (.int p2), .val (.int (2 : Int32)), .val (.int (0 : Int32)), .val (.ref w_COMPLETED), .val (.ref w_PENDING), .unset] [(.int ((33202 : Int32) >>> ((10 : Int32) &&& 31)))])) _
      rw [show ((33202 : Int32) >>> ((10 : Int32) &&& 31)) = (32 : Int32) from by decide]
      show OGot p.tables e below (T61.setTop (mkF m 49 #[.val (.int p1), .val (.int p2), .val (.int (2 : Int32)), .val (.int (0 : Int32)), .val (.ref w_COMPLETED), .val (.ref w_PENDING), .unset] [(.int (32 : Int32))])) _
      refine OGot.go (fun t k => XS.iconst X61.here hx rfl (hb hby at_49) k) ?_
      show OGot p.tables e below (T61.setTop (mkF m 50 #[.val (.int p1), .val (.int p2), .val (.int (2 : Int32)), .val (.int (0 : Int32)), .val (.ref w_COMPLETED), .val (.ref w_PENDING), .unset] [(.int (1 : Int32)), (.int (32 : Int32))])) _
      refine OGot.go (fun t k => XS.iand X61.here hx rfl (hb hby at_50) rfl k) ?_
      show OGot p.tables e below (T61.setTop (mkF m 51 #[.val (.int p1), .val (.int p2), .val (.int (2 : Int32)), .val (.int (0 : Int32)), .val (.ref w_COMPLETED), .val (.ref w_PENDING), .unset] [(.int ((32 : Int32) &&& (1 : Int32)))])) _
      rw [show ((32 : Int32) &&& (1 : Int32)) = (0 : Int32) from by decide]
      show OGot p.tables e below (T61.setTop (mkF m 51 #[.val (.int p1), .val (.int p2), .val (.int (2 : Int32)), .val (.int (0 : Int32)), .val (.ref w_COMPLETED), .val (.ref w_PENDING), .unset] [(.int (0 : Int32))])) _
      refine OGot.go (fun t k => XS.ifYes X61.here hx rfl (pc0 := 51) (pc' := 58) rfl (hb hby at_51) rfl (by decide) (by decide) (by decide) k) ?_
      show OGot p.tables e below (T61.setTop (mkF m 58 #[.val (.int p1), .val (.int p2), .val (.int (2 : Int32)), .val (.int (0 : Int32)), .val (.ref w_COMPLETED), .val (.ref w_PENDING), .unset] [])) _
      refine OGot.go (fun t k => XS.iconst X61.here hx rfl (hb hby at_58) k) ?_
      show OGot p.tables e below (T61.setTop (mkF m 59 #[.val (.int p1), .val (.int p2), .val (.int (2 : Int32)), .val (.int (0 : Int32)), .val (.ref w_COMPLETED), .val (.ref w_PENDING), .unset] [(.int (0 : Int32))])) _
      refine OGot.go (fun t k => XS.istore X61.here hx rfl (hb hby at_59) rfl (l' := #[.val (.int p1), .val (.int p2), .val (.int (2 : Int32)), .val (.int (0 : Int32)), .val (.ref w_COMPLETED), .val (.ref w_PENDING), .val (.int (0 : Int32))]) rfl k) ?_
      show OGot p.tables e below (T61.setTop (mkF m 61 #[.val (.int p1), .val (.int p2), .val (.int (2 : Int32)), .val (.int (0 : Int32)), .val (.ref w_COMPLETED), .val (.ref w_PENDING), .val (.int (0 : Int32))] [])) _
      refine OGot.go (fun t k => XS.aload X61.here hx rfl (hb hby at_61) rfl rfl k) ?_
      show OGot p.tables e below (T61.setTop (mkF m 63 #[.val (.int p1), .val (.int p2), .val (.int (2 : Int32)), .val (.int (0 : Int32)), .val (.ref w_COMPLETED), .val (.ref w_PENDING), .val (.int (0 : Int32))] [(.ref w_COMPLETED)])) _
      refine OGot.go (fun t k => XS.aload X61.here hx rfl (hb hby at_63) rfl rfl k) ?_
      show OGot p.tables e below (T61.setTop (mkF m 65 #[.val (.int p1), .val (.int p2), .val (.int (2 : Int32)), .val (.int (0 : Int32)), .val (.ref w_COMPLETED), .val (.ref w_PENDING), .val (.int (0 : Int32))] [(.ref w_PENDING), (.ref w_COMPLETED)])) _
      obtain ⟨cq62, kq62, q62a, q62b, q62c⟩ := isOf hZ e61 (G.2.2.2.2.2.2.2.2.2.1.ext O0.2)
      obtain ⟨_, _, ⟨T62, L62, k62, n62⟩, -, X62, ⟨Lc62, hQ62, l62, y62, z62⟩, st62⟩ := X61.virtualBack hx (y := (⟨"com/example/hermit_crab/hermitcrab/JobState", "canMoveTo", "(Lcom/example/hermit_crab/hermitcrab/JobState;)Z"⟩ : MethodName)) (z := (⟨"com/example/hermit_crab/hermitcrab/JobState", "canMoveTo", "(Lcom/example/hermit_crab/hermitcrab/JobState;)Z"⟩ : MethodName)) hown (mvT hZ (ow hw 11 rfl)) (mvT hZ (ow hw 12 rfl)) (notFace_of_selects (args := #[]) (mvT hZ (ow hw 14 rfl))) (mvT hZ (ow hw 14 rfl)) (mvT hZ (ow hw 13 rfl)) (by decide) (backOf (W := 0) (rm2_12 l Z a0 hw [] G  h0 n0 O0 ) hZ (ow hw 15 rfl) (ow hw 6 rfl) (by decide) (by decide)) q62a q62c (g := (mkF m 65 #[.val (.int p1), .val (.int p2), .val (.int (2 : Int32)), .val (.int (0 : Int32)), .val (.ref w_COMPLETED), .val (.ref w_PENDING), .val (.int (0 : Int32))] [(.ref w_PENDING), (.ref w_COMPLETED)])) rfl (by rw [hml]; rfl) (Steps.refl _) (argsL := [(.ref w_PENDING)]) (rest := []) (lenOf pd_2 rfl) rfl (by show 2 * 0 + _ ≤ _; exact Nat.le_of_eq rfl) (hb hby at_65) (fun _ _ => ⟨rfl, e61, (by decide : 0 + 0 ≤ _), (by decide : 0 + 0 ≤ _)⟩)
      dsimp only [Pt.U, Pt.locs, Pt.cells, Pt.slots] at X62 l62 y62 z62 st62 hQ62
      subst l62 y62 z62
      obtain ⟨rfl, N62q, e62⟩ := hQ62
      have N62 := Fr.app N61 N62q
      refine OGot.on st62 ?_
      show OGot p.tables e below (T62.setTop (mkF m 68 #[.val (.int p1), .val (.int p2), .val (.int (2 : Int32)), .val (.int (0 : Int32)), .val (.ref w_COMPLETED), .val (.ref w_PENDING), .val (.int (0 : Int32))] [(.int (0 : Int32))])) _
      refine OGot.go (fun t k => XS.iload X62.here hx rfl (hb hby at_68) rfl k) ?_
      show OGot p.tables e below (T62.setTop (mkF m 70 #[.val (.int p1), .val (.int p2), .val (.int (2 : Int32)), .val (.int (0 : Int32)), .val (.ref w_COMPLETED), .val (.ref w_PENDING), .val (.int (0 : Int32))] [(.int (0 : Int32)), (.int (0 : Int32))])) _
      refine OGot.go (fun t k => XS.icmpNo X62.here hx rfl (hb hby at_70) rfl (by decide) k) ?_
      show OGot p.tables e below (T62.setTop (mkF m 73 #[.val (.int p1), .val (.int p2), .val (.int (2 : Int32)), .val (.int (0 : Int32)), .val (.ref w_COMPLETED), .val (.ref w_PENDING), .val (.int (0 : Int32))] [])) _
      refine OGot.go (fun t k => XS.iconst X62.here hx rfl (hb hby at_73) k) ?_
      show OGot p.tables e below (T62.setTop (mkF m 74 #[.val (.int p1), .val (.int p2), .val (.int (2 : Int32)), .val (.int (0 : Int32)), .val (.ref w_COMPLETED), .val (.ref w_PENDING), .val (.int (0 : Int32))] [(.int (1 : Int32))])) _
      refine OGot.go (fun t k => XS.goto X62.here hx rfl (pc0 := 74) (pc' := 78) rfl (hb hby at_74) (by decide) (by decide) k) ?_
      show OGot p.tables e below (T62.setTop (mkF m 78 #[.val (.int p1), .val (.int p2), .val (.int (2 : Int32)), .val (.int (0 : Int32)), .val (.ref w_COMPLETED), .val (.ref w_PENDING), .val (.int (0 : Int32))] [(.int (1 : Int32))])) _
      obtain ⟨fs, hr, hrun, hended, hW, hsame⟩ := X62.leave (v := some (.int (1 : Int32))) (fun h => by rw [Bd.returns] at h; cases h)
      refine ⟨_, _, retN X62 hx (t := .boolean) Bd.returns (by simp) (hb hby at_78) hr, hrun, hended, _, _, rfl, ?_, ⟨_, rfl⟩, hW, hsame.mono (by decide) (by decide)⟩
      exact (⟨rfl, N62⟩ : Q0 Z w_PENDING w_FAILED w_RUNNING w_CANCELLED w_COMPLETED p1 p2 h0 n0 _ T62.heap _)
    · rw [hk55]
      show OGot p.tables e below (s₁.setTop (mkF m 14 #[.val (.int p1), .val (.int p2), .val (.int (2 : Int32)), .unset, .unset, .unset, .unset] [(.int (1 : Int32))])) _
      refine OGot.go (fun t k => XS.istoreN X0.here hx rfl (hb hby at_14) rfl (l' := #[.val (.int p1), .val (.int p2), .val (.int (2 : Int32)), .val (.int (1 : Int32)), .unset, .unset, .unset]) rfl k) ?_
      show OGot p.tables e below (s₁.setTop (mkF m 15 #[.val (.int p1), .val (.int p2), .val (.int (2 : Int32)), .val (.int (1 : Int32)), .unset, .unset, .unset] [])) _
      refine OGot.go (fun t k => XS.iloadN X0.here hx rfl (hb hby at_15) rfl k) ?_
      show OGot p.tables e below (s₁.setTop (mkF m 16 #[.val (.int p1), .val (.int p2), .val (.int (2 : Int32)), .val (.int (1 : Int32)), .unset, .unset, .unset] [(.int (2 : Int32))])) _
      obtain ⟨_, _, ⟨T63, L63, k63, n63⟩, -, X63, ⟨Lc63, hQ63, l63, y63, z63⟩, st63⟩ := Jvm.LawKit.callS X0 hx (y := (⟨"com/example/hermit_crab/hermitcrab/JobStateCanMoveToPinLaw", "st", "(I)Lcom/example/hermit_crab/hermitcrab/JobState;"⟩ : MethodName)) hown (mvT hZ (ow hw 1 rfl)) (mvT hZ (ow hw 2 rfl)) (mvT hZ (ow hw 3 rfl)) (mvT hZ (ow hw 4 rfl)) (by decide) (backOf (W := 0) (rm1_2 l Z a0 hw [] G  h0 n0 O0 ) hZ (ow hw 4 rfl) (ow hw 3 rfl) (by decide) (by decide)) (g := (mkF m 16 #[.val (.int p1), .val (.int p2), .val (.int (2 : Int32)), .val (.int (1 : Int32)), .unset, .unset, .unset] [(.int (2 : Int32))])) rfl (by rw [hml]; rfl) (argsL := [(.int (2 : Int32))]) (rest := []) (lenOf pd_0 rfl) rfl (by show 2 * 0 + _ ≤ _; exact Nat.le_of_eq rfl) (hb hby at_16) (fun _ _ => ⟨rfl, e0, (by decide : 0 + 0 ≤ _), (by decide : 0 + 0 ≤ _)⟩)
      dsimp only [Pt.U, Pt.locs, Pt.cells, Pt.slots] at X63 l63 y63 z63 st63 hQ63
      subst l63 y63 z63
      obtain ⟨rfl, N63q, e63⟩ := hQ63
      have N63 := Fr.app N0 N63q
      refine OGot.go st63 ?_
      show OGot p.tables e below (T63.setTop (mkF m 19 #[.val (.int p1), .val (.int p2), .val (.int (2 : Int32)), .val (.int (1 : Int32)), .unset, .unset, .unset] [(.ref w_COMPLETED)])) _
      refine OGot.go (fun t k => XS.astore X63.here hx rfl (hb hby at_19) rfl rfl (l' := #[.val (.int p1), .val (.int p2), .val (.int (2 : Int32)), .val (.int (1 : Int32)), .val (.ref w_COMPLETED), .unset, .unset]) rfl k) ?_
      show OGot p.tables e below (T63.setTop (mkF m 21 #[.val (.int p1), .val (.int p2), .val (.int (2 : Int32)), .val (.int (1 : Int32)), .val (.ref w_COMPLETED), .unset, .unset] [])) _
      refine OGot.go (fun t k => XS.iloadN X63.here hx rfl (hb hby at_21) rfl k) ?_
      show OGot p.tables e below (T63.setTop (mkF m 22 #[.val (.int p1), .val (.int p2), .val (.int (2 : Int32)), .val (.int (1 : Int32)), .val (.ref w_COMPLETED), .unset, .unset] [(.int (1 : Int32))])) _
      refine OGot.go (fun t k => XS.iconst X63.here hx rfl (hb hby at_22) k) ?_
      show OGot p.tables e below (T63.setTop (mkF m 23 #[.val (.int p1), .val (.int p2), .val (.int (2 : Int32)), .val (.int (1 : Int32)), .val (.ref w_COMPLETED), .unset, .unset] [(.int (5 : Int32)), (.int (1 : Int32))])) _
      refine OGot.go (fun t k => XS.icmpYes X63.here hx rfl (pc0 := 23) (pc' := 30) rfl (hb hby at_23) rfl (by decide) (by decide) (by decide) k) ?_
      show OGot p.tables e below (T63.setTop (mkF m 30 #[.val (.int p1), .val (.int p2), .val (.int (2 : Int32)), .val (.int (1 : Int32)), .val (.ref w_COMPLETED), .unset, .unset] [])) _
      refine OGot.go (fun t k => XS.iloadN X63.here hx rfl (hb hby at_30) rfl k) ?_
      show OGot p.tables e below (T63.setTop (mkF m 31 #[.val (.int p1), .val (.int p2), .val (.int (2 : Int32)), .val (.int (1 : Int32)), .val (.ref w_COMPLETED), .unset, .unset] [(.int (1 : Int32))])) _
      obtain ⟨_, _, ⟨T64, L64, k64, n64⟩, -, X64, ⟨Lc64, hQ64, l64, y64, z64⟩, st64⟩ := Jvm.LawKit.callS X63 hx (y := (⟨"com/example/hermit_crab/hermitcrab/JobStateCanMoveToPinLaw", "st", "(I)Lcom/example/hermit_crab/hermitcrab/JobState;"⟩ : MethodName)) hown (mvT hZ (ow hw 1 rfl)) (mvT hZ (ow hw 2 rfl)) (mvT hZ (ow hw 3 rfl)) (mvT hZ (ow hw 4 rfl)) (by decide) (backOf (W := 0) (rm1_1 l Z a0 hw [] G  h0 n0 O0 ) hZ (ow hw 4 rfl) (ow hw 3 rfl) (by decide) (by decide)) (g := (mkF m 31 #[.val (.int p1), .val (.int p2), .val (.int (2 : Int32)), .val (.int (1 : Int32)), .val (.ref w_COMPLETED), .unset, .unset] [(.int (1 : Int32))])) rfl (by rw [hml]; rfl) (argsL := [(.int (1 : Int32))]) (rest := []) (lenOf pd_0 rfl) rfl (by show 2 * 0 + _ ≤ _; exact Nat.le_of_eq rfl) (hb hby at_31) (fun _ _ => ⟨rfl, e63, (by decide : 0 + 0 ≤ _), (by decide : 0 + 0 ≤ _)⟩)
      dsimp only [Pt.U, Pt.locs, Pt.cells, Pt.slots] at X64 l64 y64 z64 st64 hQ64
      subst l64 y64 z64
      obtain ⟨rfl, N64q, e64⟩ := hQ64
      have N64 := Fr.app N63 N64q
      refine OGot.go st64 ?_
      show OGot p.tables e below (T64.setTop (mkF m 34 #[.val (.int p1), .val (.int p2), .val (.int (2 : Int32)), .val (.int (1 : Int32)), .val (.ref w_COMPLETED), .unset, .unset] [(.ref w_RUNNING)])) _
      refine OGot.go (fun t k => XS.astore X64.here hx rfl (hb hby at_34) rfl rfl (l' := #[.val (.int p1), .val (.int p2), .val (.int (2 : Int32)), .val (.int (1 : Int32)), .val (.ref w_COMPLETED), .val (.ref w_RUNNING), .unset]) rfl k) ?_
      show OGot p.tables e below (T64.setTop (mkF m 36 #[.val (.int p1), .val (.int p2), .val (.int (2 : Int32)), .val (.int (1 : Int32)), .val (.ref w_COMPLETED), .val (.ref w_RUNNING), .unset] [])) _
      refine OGot.go (fun t k => XS.iloadN X64.here hx rfl (hb hby at_36) rfl k) ?_
      show OGot p.tables e below (T64.setTop (mkF m 37 #[.val (.int p1), .val (.int p2), .val (.int (2 : Int32)), .val (.int (1 : Int32)), .val (.ref w_COMPLETED), .val (.ref w_RUNNING), .unset] [(.int (1 : Int32))])) _
      refine OGot.go (fun t k => XS.iconst X64.here hx rfl (hb hby at_37) k) ?_
      show OGot p.tables e below (T64.setTop (mkF m 38 #[.val (.int p1), .val (.int p2), .val (.int (2 : Int32)), .val (.int (1 : Int32)), .val (.ref w_COMPLETED), .val (.ref w_RUNNING), .unset] [(.int (5 : Int32)), (.int (1 : Int32))])) _
      refine OGot.go (fun t k => XS.icmpNo X64.here hx rfl (hb hby at_38) rfl (by decide) k) ?_
      show OGot p.tables e below (T64.setTop (mkF m 41 #[.val (.int p1), .val (.int p2), .val (.int (2 : Int32)), .val (.int (1 : Int32)), .val (.ref w_COMPLETED), .val (.ref w_RUNNING), .unset] [])) _
      refine OGot.go (fun t k => X64.ldcInt hx hown (mvT hZ (ow hw 10 rfl)) (g := (mkF m 41 #[.val (.int p1), .val (.int p2), .val (.int (2 : Int32)), .val (.int (1 : Int32)), .val (.ref w_COMPLETED), .val (.ref w_RUNNING), .unset] [])) rfl (hb hby at_41) _ k) ?_
      show OGot p.tables e below (T64.setTop (mkF m 43 #[.val (.int p1), .val (.int p2), .val (.int (2 : Int32)), .val (.int (1 : Int32)), .val (.ref w_COMPLETED), .val (.ref w_RUNNING), .unset] [(.int (33202 : Int32))])) _
      refine OGot.go (fun t k => XS.iconst X64.here hx rfl (hb hby at_43) k) ?_
      show OGot p.tables e below (T64.setTop (mkF m 44 #[.val (.int p1), .val (.int p2), .val (.int (2 : Int32)), .val (.int (1 : Int32)), .val (.ref w_COMPLETED), .val (.ref w_RUNNING), .unset] [(.int (5 : Int32)), (.int (33202 : Int32))])) _
      refine OGot.go (fun t k => XS.iloadN X64.here hx rfl (hb hby at_44) rfl k) ?_
      show OGot p.tables e below (T64.setTop (mkF m 45 #[.val (.int p1), .val (.int p2), .val (.int (2 : Int32)), .val (.int (1 : Int32)), .val (.ref w_COMPLETED), .val (.ref w_RUNNING), .unset] [(.int (2 : Int32)), (.int (5 : Int32)), (.int (33202 : Int32))])) _
      refine OGot.go (fun t k => XS.imul X64.here hx rfl (hb hby at_45) rfl k) ?_
      show OGot p.tables e below (T64.setTop (mkF m 46 #[.val (.int p1), .val (.int p2), .val (.int (2 : Int32)), .val (.int (1 : Int32)), .val (.ref w_COMPLETED), .val (.ref w_RUNNING), .unset] [(.int ((5 : Int32) * (2 : Int32))), (.int (33202 : Int32))])) _
      rw [show ((5 : Int32) * (2 : Int32)) = (10 : Int32) from by decide]
      show OGot p.tables e below (T64.setTop (mkF m 46 #[.val (.int p1), .val (.int p2), .val (.int (2 : Int32)), .val (.int (1 : Int32)), .val (.ref w_COMPLETED), .val (.ref w_RUNNING), .unset] [(.int (10 : Int32)), (.int (33202 : Int32))])) _
      refine OGot.go (fun t k => XS.iloadN X64.here hx rfl (hb hby at_46) rfl k) ?_
      show OGot p.tables e below (T64.setTop (mkF m 47 #[.val (.int p1), .val (.int p2), .val (.int (2 : Int32)), .val (.int (1 : Int32)), .val (.ref w_COMPLETED), .val (.ref w_RUNNING), .unset] [(.int (1 : Int32)), (.int (10 : Int32)), (.int (33202 : Int32))])) _
      refine OGot.go (fun t k => XS.iadd X64.here hx rfl (hb hby at_47) rfl k) ?_
      show OGot p.tables e below (T64.setTop (mkF m 48 #[.val (.int p1), .val (.int p2), .val (.int (2 : Int32)), .val (.int (1 : Int32)), .val (.ref w_COMPLETED), .val (.ref w_RUNNING), .unset] [(.int ((10 : Int32) + (1 : Int32))), (.int (33202 : Int32))])) _
      rw [show ((10 : Int32) + (1 : Int32)) = (11 : Int32) from by decide]
      show OGot p.tables e below (T64.setTop (mkF m 48 #[.val (.int p1), .val (.int p2), .val (.int (2 : Int32)), .val (.int (1 : Int32)), .val (.ref w_COMPLETED), .val (.ref w_RUNNING), .unset] [(.int (11 : Int32)), (.int (33202 : Int32))])) _
      refine OGot.go (fun t k => XS.ishr X64.here hx rfl (hb hby at_48) rfl k) ?_
      show OGot p.tables e below (T64.setTop (mkF m 49 #[.val (.int p1), .val (.int p2), .val (.int (2 : Int32)), .val (.int (1 : Int32)), .val (.ref w_COMPLETED), .val (.ref w_RUNNING), .unset] [(.int ((33202 : Int32) >>> ((11 : Int32) &&& 31)))])) _
      rw [show ((33202 : Int32) >>> ((11 : Int32) &&& 31)) = (16 : Int32) from by decide]
      show OGot p.tables e below (T64.setTop (mkF m 49 #[.val (.int p1), .val (.int p2), .val (.int (2 : Int32)), .val (.int (1 : Int32)), .val (.ref w_COMPLETED), .val (.ref w_RUNNING), .unset] [(.int (16 : Int32))])) _
      refine OGot.go (fun t k => XS.iconst X64.here hx rfl (hb hby at_49) k) ?_
      show OGot p.tables e below (T64.setTop (mkF m 50 #[.val (.int p1), .val (.int p2), .val (.int (2 : Int32)), .val (.int (1 : Int32)), .val (.ref w_COMPLETED), .val (.ref w_RUNNING), .unset] [(.int (1 : Int32)), (.int (16 : Int32))])) _
      refine OGot.go (fun t k => XS.iand X64.here hx rfl (hb hby at_50) rfl k) ?_
      show OGot p.tables e below (T64.setTop (mkF m 51 #[.val (.int p1), .val (.int p2), .val (.int (2 : Int32)), .val (.int (1 : Int32)), .val (.ref w_COMPLETED), .val (.ref w_RUNNING), .unset] [(.int ((16 : Int32) &&& (1 : Int32)))])) _
      rw [show ((16 : Int32) &&& (1 : Int32)) = (0 : Int32) from by decide]
      show OGot p.tables e below (T64.setTop (mkF m 51 #[.val (.int p1), .val (.int p2), .val (.int (2 : Int32)), .val (.int (1 : Int32)), .val (.ref w_COMPLETED), .val (.ref w_RUNNING), .unset] [(.int (0 : Int32))])) _
      refine OGot.go (fun t k => XS.ifYes X64.here hx rfl (pc0 := 51) (pc' := 58) rfl (hb hby at_51) rfl (by decide) (by decide) (by decide) k) ?_
      show OGot p.tables e below (T64.setTop (mkF m 58 #[.val (.int p1), .val (.int p2), .val (.int (2 : Int32)), .val (.int (1 : Int32)), .val (.ref w_COMPLETED), .val (.ref w_RUNNING), .unset] [])) _
      refine OGot.go (fun t k => XS.iconst X64.here hx rfl (hb hby at_58) k) ?_
      show OGot p.tables e below (T64.setTop (mkF m 59 #[.val (.int p1), .val (.int p2), .val (.int (2 : Int32)), .val (.int (1 : Int32)), .val (.ref w_COMPLETED), .val (.ref w_RUNNING), .unset] [(.int (0 : Int32))])) _
      refine OGot.go (fun t k => XS.istore X64.here hx rfl (hb hby at_59) rfl (l' := #[.val (.int p1), .val (.int p2), .val (.int (2 : Int32)), .val (.int (1 : Int32)), .val (.ref w_COMPLETED), .val (.ref w_RUNNING), .val (.int (0 : Int32))]) rfl k) ?_
      show OGot p.tables e below (T64.setTop (mkF m 61 #[.val (.int p1), .val (.int p2), .val (.int (2 : Int32)), .val (.int (1 : Int32)), .val (.ref w_COMPLETED), .val (.ref w_RUNNING), .val (.int (0 : Int32))] [])) _
      refine OGot.go (fun t k => XS.aload X64.here hx rfl (hb hby at_61) rfl rfl k) ?_
      show OGot p.tables e below (T64.setTop (mkF m 63 #[.val (.int p1), .val (.int p2), .val (.int (2 : Int32)), .val (.int (1 : Int32)), .val (.ref w_COMPLETED), .val (.ref w_RUNNING), .val (.int (0 : Int32))] [(.ref w_COMPLETED)])) _
      refine OGot.go (fun t k => XS.aload X64.here hx rfl (hb hby at_63) rfl rfl k) ?_
      show OGot p.tables e below (T64.setTop (mkF m 65 #[.val (.int p1), .val (.int p2), .val (.int (2 : Int32)), .val (.int (1 : Int32)), .val (.ref w_COMPLETED), .val (.ref w_RUNNING), .val (.int (0 : Int32))] [(.ref w_RUNNING), (.ref w_COMPLETED)])) _
      obtain ⟨cq65, kq65, q65a, q65b, q65c⟩ := isOf hZ e64 (G.2.2.2.2.2.2.2.2.2.1.ext O0.2)
      obtain ⟨_, _, ⟨T65, L65, k65, n65⟩, -, X65, ⟨Lc65, hQ65, l65, y65, z65⟩, st65⟩ := X64.virtualBack hx (y := (⟨"com/example/hermit_crab/hermitcrab/JobState", "canMoveTo", "(Lcom/example/hermit_crab/hermitcrab/JobState;)Z"⟩ : MethodName)) (z := (⟨"com/example/hermit_crab/hermitcrab/JobState", "canMoveTo", "(Lcom/example/hermit_crab/hermitcrab/JobState;)Z"⟩ : MethodName)) hown (mvT hZ (ow hw 11 rfl)) (mvT hZ (ow hw 12 rfl)) (notFace_of_selects (args := #[]) (mvT hZ (ow hw 14 rfl))) (mvT hZ (ow hw 14 rfl)) (mvT hZ (ow hw 13 rfl)) (by decide) (backOf (W := 0) (rm2_13 l Z a0 hw [] G  h0 n0 O0 ) hZ (ow hw 15 rfl) (ow hw 6 rfl) (by decide) (by decide)) q65a q65c (g := (mkF m 65 #[.val (.int p1), .val (.int p2), .val (.int (2 : Int32)), .val (.int (1 : Int32)), .val (.ref w_COMPLETED), .val (.ref w_RUNNING), .val (.int (0 : Int32))] [(.ref w_RUNNING), (.ref w_COMPLETED)])) rfl (by rw [hml]; rfl) (Steps.refl _) (argsL := [(.ref w_RUNNING)]) (rest := []) (lenOf pd_2 rfl) rfl (by show 2 * 0 + _ ≤ _; exact Nat.le_of_eq rfl) (hb hby at_65) (fun _ _ => ⟨rfl, e64, (by decide : 0 + 0 ≤ _), (by decide : 0 + 0 ≤ _)⟩)
      dsimp only [Pt.U, Pt.locs, Pt.cells, Pt.slots] at X65 l65 y65 z65 st65 hQ65
      subst l65 y65 z65
      obtain ⟨rfl, N65q, e65⟩ := hQ65
      have N65 := Fr.app N64 N65q
      refine OGot.on st65 ?_
      show OGot p.tables e below (T65.setTop (mkF m 68 #[.val (.int p1), .val (.int p2), .val (.int (2 : Int32)), .val (.int (1 : Int32)), .val (.ref w_COMPLETED), .val (.ref w_RUNNING), .val (.int (0 : Int32))] [(.int (0 : Int32))])) _
      refine OGot.go (fun t k => XS.iload X65.here hx rfl (hb hby at_68) rfl k) ?_
      show OGot p.tables e below (T65.setTop (mkF m 70 #[.val (.int p1), .val (.int p2), .val (.int (2 : Int32)), .val (.int (1 : Int32)), .val (.ref w_COMPLETED), .val (.ref w_RUNNING), .val (.int (0 : Int32))] [(.int (0 : Int32)), (.int (0 : Int32))])) _
      refine OGot.go (fun t k => XS.icmpNo X65.here hx rfl (hb hby at_70) rfl (by decide) k) ?_
      show OGot p.tables e below (T65.setTop (mkF m 73 #[.val (.int p1), .val (.int p2), .val (.int (2 : Int32)), .val (.int (1 : Int32)), .val (.ref w_COMPLETED), .val (.ref w_RUNNING), .val (.int (0 : Int32))] [])) _
      refine OGot.go (fun t k => XS.iconst X65.here hx rfl (hb hby at_73) k) ?_
      show OGot p.tables e below (T65.setTop (mkF m 74 #[.val (.int p1), .val (.int p2), .val (.int (2 : Int32)), .val (.int (1 : Int32)), .val (.ref w_COMPLETED), .val (.ref w_RUNNING), .val (.int (0 : Int32))] [(.int (1 : Int32))])) _
      refine OGot.go (fun t k => XS.goto X65.here hx rfl (pc0 := 74) (pc' := 78) rfl (hb hby at_74) (by decide) (by decide) k) ?_
      show OGot p.tables e below (T65.setTop (mkF m 78 #[.val (.int p1), .val (.int p2), .val (.int (2 : Int32)), .val (.int (1 : Int32)), .val (.ref w_COMPLETED), .val (.ref w_RUNNING), .val (.int (0 : Int32))] [(.int (1 : Int32))])) _
      obtain ⟨fs, hr, hrun, hended, hW, hsame⟩ := X65.leave (v := some (.int (1 : Int32))) (fun h => by rw [Bd.returns] at h; cases h)
      refine ⟨_, _, retN X65 hx (t := .boolean) Bd.returns (by simp) (hb hby at_78) hr, hrun, hended, _, _, rfl, ?_, ⟨_, rfl⟩, hW, hsame.mono (by decide) (by decide)⟩
      exact (⟨rfl, N65⟩ : Q0 Z w_PENDING w_FAILED w_RUNNING w_CANCELLED w_COMPLETED p1 p2 h0 n0 _ T65.heap _)
    · rw [hk56]
      show OGot p.tables e below (s₁.setTop (mkF m 14 #[.val (.int p1), .val (.int p2), .val (.int (2 : Int32)), .unset, .unset, .unset, .unset] [(.int (2 : Int32))])) _
      refine OGot.go (fun t k => XS.istoreN X0.here hx rfl (hb hby at_14) rfl (l' := #[.val (.int p1), .val (.int p2), .val (.int (2 : Int32)), .val (.int (2 : Int32)), .unset, .unset, .unset]) rfl k) ?_
      show OGot p.tables e below (s₁.setTop (mkF m 15 #[.val (.int p1), .val (.int p2), .val (.int (2 : Int32)), .val (.int (2 : Int32)), .unset, .unset, .unset] [])) _
      refine OGot.go (fun t k => XS.iloadN X0.here hx rfl (hb hby at_15) rfl k) ?_
      show OGot p.tables e below (s₁.setTop (mkF m 16 #[.val (.int p1), .val (.int p2), .val (.int (2 : Int32)), .val (.int (2 : Int32)), .unset, .unset, .unset] [(.int (2 : Int32))])) _
      obtain ⟨_, _, ⟨T66, L66, k66, n66⟩, -, X66, ⟨Lc66, hQ66, l66, y66, z66⟩, st66⟩ := Jvm.LawKit.callS X0 hx (y := (⟨"com/example/hermit_crab/hermitcrab/JobStateCanMoveToPinLaw", "st", "(I)Lcom/example/hermit_crab/hermitcrab/JobState;"⟩ : MethodName)) hown (mvT hZ (ow hw 1 rfl)) (mvT hZ (ow hw 2 rfl)) (mvT hZ (ow hw 3 rfl)) (mvT hZ (ow hw 4 rfl)) (by decide) (backOf (W := 0) (rm1_2 l Z a0 hw [] G  h0 n0 O0 ) hZ (ow hw 4 rfl) (ow hw 3 rfl) (by decide) (by decide)) (g := (mkF m 16 #[.val (.int p1), .val (.int p2), .val (.int (2 : Int32)), .val (.int (2 : Int32)), .unset, .unset, .unset] [(.int (2 : Int32))])) rfl (by rw [hml]; rfl) (argsL := [(.int (2 : Int32))]) (rest := []) (lenOf pd_0 rfl) rfl (by show 2 * 0 + _ ≤ _; exact Nat.le_of_eq rfl) (hb hby at_16) (fun _ _ => ⟨rfl, e0, (by decide : 0 + 0 ≤ _), (by decide : 0 + 0 ≤ _)⟩)
      dsimp only [Pt.U, Pt.locs, Pt.cells, Pt.slots] at X66 l66 y66 z66 st66 hQ66
      subst l66 y66 z66
      obtain ⟨rfl, N66q, e66⟩ := hQ66
      have N66 := Fr.app N0 N66q
      refine OGot.go st66 ?_
      show OGot p.tables e below (T66.setTop (mkF m 19 #[.val (.int p1), .val (.int p2), .val (.int (2 : Int32)), .val (.int (2 : Int32)), .unset, .unset, .unset] [(.ref w_COMPLETED)])) _
      refine OGot.go (fun t k => XS.astore X66.here hx rfl (hb hby at_19) rfl rfl (l' := #[.val (.int p1), .val (.int p2), .val (.int (2 : Int32)), .val (.int (2 : Int32)), .val (.ref w_COMPLETED), .unset, .unset]) rfl k) ?_
      show OGot p.tables e below (T66.setTop (mkF m 21 #[.val (.int p1), .val (.int p2), .val (.int (2 : Int32)), .val (.int (2 : Int32)), .val (.ref w_COMPLETED), .unset, .unset] [])) _
      refine OGot.go (fun t k => XS.iloadN X66.here hx rfl (hb hby at_21) rfl k) ?_
      show OGot p.tables e below (T66.setTop (mkF m 22 #[.val (.int p1), .val (.int p2), .val (.int (2 : Int32)), .val (.int (2 : Int32)), .val (.ref w_COMPLETED), .unset, .unset] [(.int (2 : Int32))])) _
      refine OGot.go (fun t k => XS.iconst X66.here hx rfl (hb hby at_22) k) ?_
      show OGot p.tables e below (T66.setTop (mkF m 23 #[.val (.int p1), .val (.int p2), .val (.int (2 : Int32)), .val (.int (2 : Int32)), .val (.ref w_COMPLETED), .unset, .unset] [(.int (5 : Int32)), (.int (2 : Int32))])) _
      refine OGot.go (fun t k => XS.icmpYes X66.here hx rfl (pc0 := 23) (pc' := 30) rfl (hb hby at_23) rfl (by decide) (by decide) (by decide) k) ?_
      show OGot p.tables e below (T66.setTop (mkF m 30 #[.val (.int p1), .val (.int p2), .val (.int (2 : Int32)), .val (.int (2 : Int32)), .val (.ref w_COMPLETED), .unset, .unset] [])) _
      refine OGot.go (fun t k => XS.iloadN X66.here hx rfl (hb hby at_30) rfl k) ?_
      show OGot p.tables e below (T66.setTop (mkF m 31 #[.val (.int p1), .val (.int p2), .val (.int (2 : Int32)), .val (.int (2 : Int32)), .val (.ref w_COMPLETED), .unset, .unset] [(.int (2 : Int32))])) _
      obtain ⟨_, _, ⟨T67, L67, k67, n67⟩, -, X67, ⟨Lc67, hQ67, l67, y67, z67⟩, st67⟩ := Jvm.LawKit.callS X66 hx (y := (⟨"com/example/hermit_crab/hermitcrab/JobStateCanMoveToPinLaw", "st", "(I)Lcom/example/hermit_crab/hermitcrab/JobState;"⟩ : MethodName)) hown (mvT hZ (ow hw 1 rfl)) (mvT hZ (ow hw 2 rfl)) (mvT hZ (ow hw 3 rfl)) (mvT hZ (ow hw 4 rfl)) (by decide) (backOf (W := 0) (rm1_2 l Z a0 hw [] G  h0 n0 O0 ) hZ (ow hw 4 rfl) (ow hw 3 rfl) (by decide) (by decide)) (g := (mkF m 31 #[.val (.int p1), .val (.int p2), .val (.int (2 : Int32)), .val (.int (2 : Int32)), .val (.ref w_COMPLETED), .unset, .unset] [(.int (2 : Int32))])) rfl (by rw [hml]; rfl) (argsL := [(.int (2 : Int32))]) (rest := []) (lenOf pd_0 rfl) rfl (by show 2 * 0 + _ ≤ _; exact Nat.le_of_eq rfl) (hb hby at_31) (fun _ _ => ⟨rfl, e66, (by decide : 0 + 0 ≤ _), (by decide : 0 + 0 ≤ _)⟩)
      dsimp only [Pt.U, Pt.locs, Pt.cells, Pt.slots] at X67 l67 y67 z67 st67 hQ67
      subst l67 y67 z67
      obtain ⟨rfl, N67q, e67⟩ := hQ67
      have N67 := Fr.app N66 N67q
      refine OGot.go st67 ?_
      show OGot p.tables e below (T67.setTop (mkF m 34 #[.val (.int p1), .val (.int p2), .val (.int (2 : Int32)), .val (.int (2 : Int32)), .val (.ref w_COMPLETED), .unset, .unset] [(.ref w_COMPLETED)])) _
      refine OGot.go (fun t k => XS.astore X67.here hx rfl (hb hby at_34) rfl rfl (l' := #[.val (.int p1), .val (.int p2), .val (.int (2 : Int32)), .val (.int (2 : Int32)), .val (.ref w_COMPLETED), .val (.ref w_COMPLETED), .unset]) rfl k) ?_
      show OGot p.tables e below (T67.setTop (mkF m 36 #[.val (.int p1), .val (.int p2), .val (.int (2 : Int32)), .val (.int (2 : Int32)), .val (.ref w_COMPLETED), .val (.ref w_COMPLETED), .unset] [])) _
      refine OGot.go (fun t k => XS.iloadN X67.here hx rfl (hb hby at_36) rfl k) ?_
      show OGot p.tables e below (T67.setTop (mkF m 37 #[.val (.int p1), .val (.int p2), .val (.int (2 : Int32)), .val (.int (2 : Int32)), .val (.ref w_COMPLETED), .val (.ref w_COMPLETED), .unset] [(.int (2 : Int32))])) _
      refine OGot.go (fun t k => XS.iconst X67.here hx rfl (hb hby at_37) k) ?_
      show OGot p.tables e below (T67.setTop (mkF m 38 #[.val (.int p1), .val (.int p2), .val (.int (2 : Int32)), .val (.int (2 : Int32)), .val (.ref w_COMPLETED), .val (.ref w_COMPLETED), .unset] [(.int (5 : Int32)), (.int (2 : Int32))])) _
      refine OGot.go (fun t k => XS.icmpNo X67.here hx rfl (hb hby at_38) rfl (by decide) k) ?_
      show OGot p.tables e below (T67.setTop (mkF m 41 #[.val (.int p1), .val (.int p2), .val (.int (2 : Int32)), .val (.int (2 : Int32)), .val (.ref w_COMPLETED), .val (.ref w_COMPLETED), .unset] [])) _
      refine OGot.go (fun t k => X67.ldcInt hx hown (mvT hZ (ow hw 10 rfl)) (g := (mkF m 41 #[.val (.int p1), .val (.int p2), .val (.int (2 : Int32)), .val (.int (2 : Int32)), .val (.ref w_COMPLETED), .val (.ref w_COMPLETED), .unset] [])) rfl (hb hby at_41) _ k) ?_
      show OGot p.tables e below (T67.setTop (mkF m 43 #[.val (.int p1), .val (.int p2), .val (.int (2 : Int32)), .val (.int (2 : Int32)), .val (.ref w_COMPLETED), .val (.ref w_COMPLETED), .unset] [(.int (33202 : Int32))])) _
      refine OGot.go (fun t k => XS.iconst X67.here hx rfl (hb hby at_43) k) ?_
      show OGot p.tables e below (T67.setTop (mkF m 44 #[.val (.int p1), .val (.int p2), .val (.int (2 : Int32)), .val (.int (2 : Int32)), .val (.ref w_COMPLETED), .val (.ref w_COMPLETED), .unset] [(.int (5 : Int32)), (.int (33202 : Int32))])) _
      refine OGot.go (fun t k => XS.iloadN X67.here hx rfl (hb hby at_44) rfl k) ?_
      show OGot p.tables e below (T67.setTop (mkF m 45 #[.val (.int p1), .val (.int p2), .val (.int (2 : Int32)), .val (.int (2 : Int32)), .val (.ref w_COMPLETED), .val (.ref w_COMPLETED), .unset] [(.int (2 : Int32)), (.int (5 : Int32)), (.int (33202 : Int32))])) _
      refine OGot.go (fun t k => XS.imul X67.here hx rfl (hb hby at_45) rfl k) ?_
      show OGot p.tables e below (T67.setTop (mkF m 46 #[.val (.int p1), .val (.int p2), .val (.int (2 : Int32)), .val (.int (2 : Int32)), .val (.ref w_COMPLETED), .val (.ref w_COMPLETED), .unset] [(.int ((5 : Int32) * (2 : Int32))), (.int (33202 : Int32))])) _
      rw [show ((5 : Int32) * (2 : Int32)) = (10 : Int32) from by decide]
      show OGot p.tables e below (T67.setTop (mkF m 46 #[.val (.int p1), .val (.int p2), .val (.int (2 : Int32)), .val (.int (2 : Int32)), .val (.ref w_COMPLETED), .val (.ref w_COMPLETED), .unset] [(.int (10 : Int32)), (.int (33202 : Int32))])) _
      refine OGot.go (fun t k => XS.iloadN X67.here hx rfl (hb hby at_46) rfl k) ?_
      show OGot p.tables e below (T67.setTop (mkF m 47 #[.val (.int p1), .val (.int p2), .val (.int (2 : Int32)), .val (.int (2 : Int32)), .val (.ref w_COMPLETED), .val (.ref w_COMPLETED), .unset] [(.int (2 : Int32)), (.int (10 : Int32)), (.int (33202 : Int32))])) _
      refine OGot.go (fun t k => XS.iadd X67.here hx rfl (hb hby at_47) rfl k) ?_
      show OGot p.tables e below (T67.setTop (mkF m 48 #[.val (.int p1), .val (.int p2), .val (.int (2 : Int32)), .val (.int (2 : Int32)), .val (.ref w_COMPLETED), .val (.ref w_COMPLETED), .unset] [(.int ((10 : Int32) + (2 : Int32))), (.int (33202 : Int32))])) _
      rw [show ((10 : Int32) + (2 : Int32)) = (12 : Int32) from by decide]
      show OGot p.tables e below (T67.setTop (mkF m 48 #[.val (.int p1), .val (.int p2), .val (.int (2 : Int32)), .val (.int (2 : Int32)), .val (.ref w_COMPLETED), .val (.ref w_COMPLETED), .unset] [(.int (12 : Int32)), (.int (33202 : Int32))])) _
      refine OGot.go (fun t k => XS.ishr X67.here hx rfl (hb hby at_48) rfl k) ?_
      show OGot p.tables e below (T67.setTop (mkF m 49 #[.val (.int p1), .val (.int p2), .val (.int (2 : Int32)), .val (.int (2 : Int32)), .val (.ref w_COMPLETED), .val (.ref w_COMPLETED), .unset] [(.int ((33202 : Int32) >>> ((12 : Int32) &&& 31)))])) _
      rw [show ((33202 : Int32) >>> ((12 : Int32) &&& 31)) = (8 : Int32) from by decide]
      show OGot p.tables e below (T67.setTop (mkF m 49 #[.val (.int p1), .val (.int p2), .val (.int (2 : Int32)), .val (.int (2 : Int32)), .val (.ref w_COMPLETED), .val (.ref w_COMPLETED), .unset] [(.int (8 : Int32))])) _
      refine OGot.go (fun t k => XS.iconst X67.here hx rfl (hb hby at_49) k) ?_
      show OGot p.tables e below (T67.setTop (mkF m 50 #[.val (.int p1), .val (.int p2), .val (.int (2 : Int32)), .val (.int (2 : Int32)), .val (.ref w_COMPLETED), .val (.ref w_COMPLETED), .unset] [(.int (1 : Int32)), (.int (8 : Int32))])) _
      refine OGot.go (fun t k => XS.iand X67.here hx rfl (hb hby at_50) rfl k) ?_
      show OGot p.tables e below (T67.setTop (mkF m 51 #[.val (.int p1), .val (.int p2), .val (.int (2 : Int32)), .val (.int (2 : Int32)), .val (.ref w_COMPLETED), .val (.ref w_COMPLETED), .unset] [(.int ((8 : Int32) &&& (1 : Int32)))])) _
      rw [show ((8 : Int32) &&& (1 : Int32)) = (0 : Int32) from by decide]
      show OGot p.tables e below (T67.setTop (mkF m 51 #[.val (.int p1), .val (.int p2), .val (.int (2 : Int32)), .val (.int (2 : Int32)), .val (.ref w_COMPLETED), .val (.ref w_COMPLETED), .unset] [(.int (0 : Int32))])) _
      refine OGot.go (fun t k => XS.ifYes X67.here hx rfl (pc0 := 51) (pc' := 58) rfl (hb hby at_51) rfl (by decide) (by decide) (by decide) k) ?_
      show OGot p.tables e below (T67.setTop (mkF m 58 #[.val (.int p1), .val (.int p2), .val (.int (2 : Int32)), .val (.int (2 : Int32)), .val (.ref w_COMPLETED), .val (.ref w_COMPLETED), .unset] [])) _
      refine OGot.go (fun t k => XS.iconst X67.here hx rfl (hb hby at_58) k) ?_
      show OGot p.tables e below (T67.setTop (mkF m 59 #[.val (.int p1), .val (.int p2), .val (.int (2 : Int32)), .val (.int (2 : Int32)), .val (.ref w_COMPLETED), .val (.ref w_COMPLETED), .unset] [(.int (0 : Int32))])) _
      refine OGot.go (fun t k => XS.istore X67.here hx rfl (hb hby at_59) rfl (l' := #[.val (.int p1), .val (.int p2), .val (.int (2 : Int32)), .val (.int (2 : Int32)), .val (.ref w_COMPLETED), .val (.ref w_COMPLETED), .val (.int (0 : Int32))]) rfl k) ?_
      show OGot p.tables e below (T67.setTop (mkF m 61 #[.val (.int p1), .val (.int p2), .val (.int (2 : Int32)), .val (.int (2 : Int32)), .val (.ref w_COMPLETED), .val (.ref w_COMPLETED), .val (.int (0 : Int32))] [])) _
      refine OGot.go (fun t k => XS.aload X67.here hx rfl (hb hby at_61) rfl rfl k) ?_
      show OGot p.tables e below (T67.setTop (mkF m 63 #[.val (.int p1), .val (.int p2), .val (.int (2 : Int32)), .val (.int (2 : Int32)), .val (.ref w_COMPLETED), .val (.ref w_COMPLETED), .val (.int (0 : Int32))] [(.ref w_COMPLETED)])) _
      refine OGot.go (fun t k => XS.aload X67.here hx rfl (hb hby at_63) rfl rfl k) ?_
      show OGot p.tables e below (T67.setTop (mkF m 65 #[.val (.int p1), .val (.int p2), .val (.int (2 : Int32)), .val (.int (2 : Int32)), .val (.ref w_COMPLETED), .val (.ref w_COMPLETED), .val (.int (0 : Int32))] [(.ref w_COMPLETED), (.ref w_COMPLETED)])) _
      obtain ⟨cq68, kq68, q68a, q68b, q68c⟩ := isOf hZ e67 (G.2.2.2.2.2.2.2.2.2.1.ext O0.2)
      obtain ⟨_, _, ⟨T68, L68, k68, n68⟩, -, X68, ⟨Lc68, hQ68, l68, y68, z68⟩, st68⟩ := X67.virtualBack hx (y := (⟨"com/example/hermit_crab/hermitcrab/JobState", "canMoveTo", "(Lcom/example/hermit_crab/hermitcrab/JobState;)Z"⟩ : MethodName)) (z := (⟨"com/example/hermit_crab/hermitcrab/JobState", "canMoveTo", "(Lcom/example/hermit_crab/hermitcrab/JobState;)Z"⟩ : MethodName)) hown (mvT hZ (ow hw 11 rfl)) (mvT hZ (ow hw 12 rfl)) (notFace_of_selects (args := #[]) (mvT hZ (ow hw 14 rfl))) (mvT hZ (ow hw 14 rfl)) (mvT hZ (ow hw 13 rfl)) (by decide) (backOf (W := 0) (rm2_14 l Z a0 hw [] G  h0 n0 O0 ) hZ (ow hw 15 rfl) (ow hw 6 rfl) (by decide) (by decide)) q68a q68c (g := (mkF m 65 #[.val (.int p1), .val (.int p2), .val (.int (2 : Int32)), .val (.int (2 : Int32)), .val (.ref w_COMPLETED), .val (.ref w_COMPLETED), .val (.int (0 : Int32))] [(.ref w_COMPLETED), (.ref w_COMPLETED)])) rfl (by rw [hml]; rfl) (Steps.refl _) (argsL := [(.ref w_COMPLETED)]) (rest := []) (lenOf pd_2 rfl) rfl (by show 2 * 0 + _ ≤ _; exact Nat.le_of_eq rfl) (hb hby at_65) (fun _ _ => ⟨rfl, e67, (by decide : 0 + 0 ≤ _), (by decide : 0 + 0 ≤ _)⟩)
      dsimp only [Pt.U, Pt.locs, Pt.cells, Pt.slots] at X68 l68 y68 z68 st68 hQ68
      subst l68 y68 z68
      obtain ⟨rfl, N68q, e68⟩ := hQ68
      have N68 := Fr.app N67 N68q
      refine OGot.on st68 ?_
      show OGot p.tables e below (T68.setTop (mkF m 68 #[.val (.int p1), .val (.int p2), .val (.int (2 : Int32)), .val (.int (2 : Int32)), .val (.ref w_COMPLETED), .val (.ref w_COMPLETED), .val (.int (0 : Int32))] [(.int (0 : Int32))])) _
      refine OGot.go (fun t k => XS.iload X68.here hx rfl (hb hby at_68) rfl k) ?_
      show OGot p.tables e below (T68.setTop (mkF m 70 #[.val (.int p1), .val (.int p2), .val (.int (2 : Int32)), .val (.int (2 : Int32)), .val (.ref w_COMPLETED), .val (.ref w_COMPLETED), .val (.int (0 : Int32))] [(.int (0 : Int32)), (.int (0 : Int32))])) _
      refine OGot.go (fun t k => XS.icmpNo X68.here hx rfl (hb hby at_70) rfl (by decide) k) ?_
      show OGot p.tables e below (T68.setTop (mkF m 73 #[.val (.int p1), .val (.int p2), .val (.int (2 : Int32)), .val (.int (2 : Int32)), .val (.ref w_COMPLETED), .val (.ref w_COMPLETED), .val (.int (0 : Int32))] [])) _
      refine OGot.go (fun t k => XS.iconst X68.here hx rfl (hb hby at_73) k) ?_
      show OGot p.tables e below (T68.setTop (mkF m 74 #[.val (.int p1), .val (.int p2), .val (.int (2 : Int32)), .val (.int (2 : Int32)), .val (.ref w_COMPLETED), .val (.ref w_COMPLETED), .val (.int (0 : Int32))] [(.int (1 : Int32))])) _
      refine OGot.go (fun t k => XS.goto X68.here hx rfl (pc0 := 74) (pc' := 78) rfl (hb hby at_74) (by decide) (by decide) k) ?_
      show OGot p.tables e below (T68.setTop (mkF m 78 #[.val (.int p1), .val (.int p2), .val (.int (2 : Int32)), .val (.int (2 : Int32)), .val (.ref w_COMPLETED), .val (.ref w_COMPLETED), .val (.int (0 : Int32))] [(.int (1 : Int32))])) _
      obtain ⟨fs, hr, hrun, hended, hW, hsame⟩ := X68.leave (v := some (.int (1 : Int32))) (fun h => by rw [Bd.returns] at h; cases h)
      refine ⟨_, _, retN X68 hx (t := .boolean) Bd.returns (by simp) (hb hby at_78) hr, hrun, hended, _, _, rfl, ?_, ⟨_, rfl⟩, hW, hsame.mono (by decide) (by decide)⟩
      exact (⟨rfl, N68⟩ : Q0 Z w_PENDING w_FAILED w_RUNNING w_CANCELLED w_COMPLETED p1 p2 h0 n0 _ T68.heap _)
    · rw [hk57]
      show OGot p.tables e below (s₁.setTop (mkF m 14 #[.val (.int p1), .val (.int p2), .val (.int (2 : Int32)), .unset, .unset, .unset, .unset] [(.int (3 : Int32))])) _
      refine OGot.go (fun t k => XS.istoreN X0.here hx rfl (hb hby at_14) rfl (l' := #[.val (.int p1), .val (.int p2), .val (.int (2 : Int32)), .val (.int (3 : Int32)), .unset, .unset, .unset]) rfl k) ?_
      show OGot p.tables e below (s₁.setTop (mkF m 15 #[.val (.int p1), .val (.int p2), .val (.int (2 : Int32)), .val (.int (3 : Int32)), .unset, .unset, .unset] [])) _
      refine OGot.go (fun t k => XS.iloadN X0.here hx rfl (hb hby at_15) rfl k) ?_
      show OGot p.tables e below (s₁.setTop (mkF m 16 #[.val (.int p1), .val (.int p2), .val (.int (2 : Int32)), .val (.int (3 : Int32)), .unset, .unset, .unset] [(.int (2 : Int32))])) _
      obtain ⟨_, _, ⟨T69, L69, k69, n69⟩, -, X69, ⟨Lc69, hQ69, l69, y69, z69⟩, st69⟩ := Jvm.LawKit.callS X0 hx (y := (⟨"com/example/hermit_crab/hermitcrab/JobStateCanMoveToPinLaw", "st", "(I)Lcom/example/hermit_crab/hermitcrab/JobState;"⟩ : MethodName)) hown (mvT hZ (ow hw 1 rfl)) (mvT hZ (ow hw 2 rfl)) (mvT hZ (ow hw 3 rfl)) (mvT hZ (ow hw 4 rfl)) (by decide) (backOf (W := 0) (rm1_2 l Z a0 hw [] G  h0 n0 O0 ) hZ (ow hw 4 rfl) (ow hw 3 rfl) (by decide) (by decide)) (g := (mkF m 16 #[.val (.int p1), .val (.int p2), .val (.int (2 : Int32)), .val (.int (3 : Int32)), .unset, .unset, .unset] [(.int (2 : Int32))])) rfl (by rw [hml]; rfl) (argsL := [(.int (2 : Int32))]) (rest := []) (lenOf pd_0 rfl) rfl (by show 2 * 0 + _ ≤ _; exact Nat.le_of_eq rfl) (hb hby at_16) (fun _ _ => ⟨rfl, e0, (by decide : 0 + 0 ≤ _), (by decide : 0 + 0 ≤ _)⟩)
      dsimp only [Pt.U, Pt.locs, Pt.cells, Pt.slots] at X69 l69 y69 z69 st69 hQ69
      subst l69 y69 z69
      obtain ⟨rfl, N69q, e69⟩ := hQ69
      have N69 := Fr.app N0 N69q
      refine OGot.go st69 ?_
      show OGot p.tables e below (T69.setTop (mkF m 19 #[.val (.int p1), .val (.int p2), .val (.int (2 : Int32)), .val (.int (3 : Int32)), .unset, .unset, .unset] [(.ref w_COMPLETED)])) _
      refine OGot.go (fun t k => XS.astore X69.here hx rfl (hb hby at_19) rfl rfl (l' := #[.val (.int p1), .val (.int p2), .val (.int (2 : Int32)), .val (.int (3 : Int32)), .val (.ref w_COMPLETED), .unset, .unset]) rfl k) ?_
      show OGot p.tables e below (T69.setTop (mkF m 21 #[.val (.int p1), .val (.int p2), .val (.int (2 : Int32)), .val (.int (3 : Int32)), .val (.ref w_COMPLETED), .unset, .unset] [])) _
      refine OGot.go (fun t k => XS.iloadN X69.here hx rfl (hb hby at_21) rfl k) ?_
      show OGot p.tables e below (T69.setTop (mkF m 22 #[.val (.int p1), .val (.int p2), .val (.int (2 : Int32)), .val (.int (3 : Int32)), .val (.ref w_COMPLETED), .unset, .unset] [(.int (3 : Int32))])) _
      refine OGot.go (fun t k => XS.iconst X69.here hx rfl (hb hby at_22) k) ?_
      show OGot p.tables e below (T69.setTop (mkF m 23 #[.val (.int p1), .val (.int p2), .val (.int (2 : Int32)), .val (.int (3 : Int32)), .val (.ref w_COMPLETED), .unset, .unset] [(.int (5 : Int32)), (.int (3 : Int32))])) _
      refine OGot.go (fun t k => XS.icmpYes X69.here hx rfl (pc0 := 23) (pc' := 30) rfl (hb hby at_23) rfl (by decide) (by decide) (by decide) k) ?_
      show OGot p.tables e below (T69.setTop (mkF m 30 #[.val (.int p1), .val (.int p2), .val (.int (2 : Int32)), .val (.int (3 : Int32)), .val (.ref w_COMPLETED), .unset, .unset] [])) _
      refine OGot.go (fun t k => XS.iloadN X69.here hx rfl (hb hby at_30) rfl k) ?_
      show OGot p.tables e below (T69.setTop (mkF m 31 #[.val (.int p1), .val (.int p2), .val (.int (2 : Int32)), .val (.int (3 : Int32)), .val (.ref w_COMPLETED), .unset, .unset] [(.int (3 : Int32))])) _
      obtain ⟨_, _, ⟨T70, L70, k70, n70⟩, -, X70, ⟨Lc70, hQ70, l70, y70, z70⟩, st70⟩ := Jvm.LawKit.callS X69 hx (y := (⟨"com/example/hermit_crab/hermitcrab/JobStateCanMoveToPinLaw", "st", "(I)Lcom/example/hermit_crab/hermitcrab/JobState;"⟩ : MethodName)) hown (mvT hZ (ow hw 1 rfl)) (mvT hZ (ow hw 2 rfl)) (mvT hZ (ow hw 3 rfl)) (mvT hZ (ow hw 4 rfl)) (by decide) (backOf (W := 0) (rm1_3 l Z a0 hw [] G  h0 n0 O0 ) hZ (ow hw 4 rfl) (ow hw 3 rfl) (by decide) (by decide)) (g := (mkF m 31 #[.val (.int p1), .val (.int p2), .val (.int (2 : Int32)), .val (.int (3 : Int32)), .val (.ref w_COMPLETED), .unset, .unset] [(.int (3 : Int32))])) rfl (by rw [hml]; rfl) (argsL := [(.int (3 : Int32))]) (rest := []) (lenOf pd_0 rfl) rfl (by show 2 * 0 + _ ≤ _; exact Nat.le_of_eq rfl) (hb hby at_31) (fun _ _ => ⟨rfl, e69, (by decide : 0 + 0 ≤ _), (by decide : 0 + 0 ≤ _)⟩)
      dsimp only [Pt.U, Pt.locs, Pt.cells, Pt.slots] at X70 l70 y70 z70 st70 hQ70
      subst l70 y70 z70
      obtain ⟨rfl, N70q, e70⟩ := hQ70
      have N70 := Fr.app N69 N70q
      refine OGot.go st70 ?_
      show OGot p.tables e below (T70.setTop (mkF m 34 #[.val (.int p1), .val (.int p2), .val (.int (2 : Int32)), .val (.int (3 : Int32)), .val (.ref w_COMPLETED), .unset, .unset] [(.ref w_FAILED)])) _
      refine OGot.go (fun t k => XS.astore X70.here hx rfl (hb hby at_34) rfl rfl (l' := #[.val (.int p1), .val (.int p2), .val (.int (2 : Int32)), .val (.int (3 : Int32)), .val (.ref w_COMPLETED), .val (.ref w_FAILED), .unset]) rfl k) ?_
      show OGot p.tables e below (T70.setTop (mkF m 36 #[.val (.int p1), .val (.int p2), .val (.int (2 : Int32)), .val (.int (3 : Int32)), .val (.ref w_COMPLETED), .val (.ref w_FAILED), .unset] [])) _
      refine OGot.go (fun t k => XS.iloadN X70.here hx rfl (hb hby at_36) rfl k) ?_
      show OGot p.tables e below (T70.setTop (mkF m 37 #[.val (.int p1), .val (.int p2), .val (.int (2 : Int32)), .val (.int (3 : Int32)), .val (.ref w_COMPLETED), .val (.ref w_FAILED), .unset] [(.int (3 : Int32))])) _
      refine OGot.go (fun t k => XS.iconst X70.here hx rfl (hb hby at_37) k) ?_
      show OGot p.tables e below (T70.setTop (mkF m 38 #[.val (.int p1), .val (.int p2), .val (.int (2 : Int32)), .val (.int (3 : Int32)), .val (.ref w_COMPLETED), .val (.ref w_FAILED), .unset] [(.int (5 : Int32)), (.int (3 : Int32))])) _
      refine OGot.go (fun t k => XS.icmpNo X70.here hx rfl (hb hby at_38) rfl (by decide) k) ?_
      show OGot p.tables e below (T70.setTop (mkF m 41 #[.val (.int p1), .val (.int p2), .val (.int (2 : Int32)), .val (.int (3 : Int32)), .val (.ref w_COMPLETED), .val (.ref w_FAILED), .unset] [])) _
      refine OGot.go (fun t k => X70.ldcInt hx hown (mvT hZ (ow hw 10 rfl)) (g := (mkF m 41 #[.val (.int p1), .val (.int p2), .val (.int (2 : Int32)), .val (.int (3 : Int32)), .val (.ref w_COMPLETED), .val (.ref w_FAILED), .unset] [])) rfl (hb hby at_41) _ k) ?_
      show OGot p.tables e below (T70.setTop (mkF m 43 #[.val (.int p1), .val (.int p2), .val (.int (2 : Int32)), .val (.int (3 : Int32)), .val (.ref w_COMPLETED), .val (.ref w_FAILED), .unset] [(.int (33202 : Int32))])) _
      refine OGot.go (fun t k => XS.iconst X70.here hx rfl (hb hby at_43) k) ?_
      show OGot p.tables e below (T70.setTop (mkF m 44 #[.val (.int p1), .val (.int p2), .val (.int (2 : Int32)), .val (.int (3 : Int32)), .val (.ref w_COMPLETED), .val (.ref w_FAILED), .unset] [(.int (5 : Int32)), (.int (33202 : Int32))])) _
      refine OGot.go (fun t k => XS.iloadN X70.here hx rfl (hb hby at_44) rfl k) ?_
      show OGot p.tables e below (T70.setTop (mkF m 45 #[.val (.int p1), .val (.int p2), .val (.int (2 : Int32)), .val (.int (3 : Int32)), .val (.ref w_COMPLETED), .val (.ref w_FAILED), .unset] [(.int (2 : Int32)), (.int (5 : Int32)), (.int (33202 : Int32))])) _
      refine OGot.go (fun t k => XS.imul X70.here hx rfl (hb hby at_45) rfl k) ?_
      show OGot p.tables e below (T70.setTop (mkF m 46 #[.val (.int p1), .val (.int p2), .val (.int (2 : Int32)), .val (.int (3 : Int32)), .val (.ref w_COMPLETED), .val (.ref w_FAILED), .unset] [(.int ((5 : Int32) * (2 : Int32))), (.int (33202 : Int32))])) _
      rw [show ((5 : Int32) * (2 : Int32)) = (10 : Int32) from by decide]
      show OGot p.tables e below (T70.setTop (mkF m 46 #[.val (.int p1), .val (.int p2), .val (.int (2 : Int32)), .val (.int (3 : Int32)), .val (.ref w_COMPLETED), .val (.ref w_FAILED), .unset] [(.int (10 : Int32)), (.int (33202 : Int32))])) _
      refine OGot.go (fun t k => XS.iloadN X70.here hx rfl (hb hby at_46) rfl k) ?_
      show OGot p.tables e below (T70.setTop (mkF m 47 #[.val (.int p1), .val (.int p2), .val (.int (2 : Int32)), .val (.int (3 : Int32)), .val (.ref w_COMPLETED), .val (.ref w_FAILED), .unset] [(.int (3 : Int32)), (.int (10 : Int32)), (.int (33202 : Int32))])) _
      refine OGot.go (fun t k => XS.iadd X70.here hx rfl (hb hby at_47) rfl k) ?_
      show OGot p.tables e below (T70.setTop (mkF m 48 #[.val (.int p1), .val (.int p2), .val (.int (2 : Int32)), .val (.int (3 : Int32)), .val (.ref w_COMPLETED), .val (.ref w_FAILED), .unset] [(.int ((10 : Int32) + (3 : Int32))), (.int (33202 : Int32))])) _
      rw [show ((10 : Int32) + (3 : Int32)) = (13 : Int32) from by decide]
      show OGot p.tables e below (T70.setTop (mkF m 48 #[.val (.int p1), .val (.int p2), .val (.int (2 : Int32)), .val (.int (3 : Int32)), .val (.ref w_COMPLETED), .val (.ref w_FAILED), .unset] [(.int (13 : Int32)), (.int (33202 : Int32))])) _
      refine OGot.go (fun t k => XS.ishr X70.here hx rfl (hb hby at_48) rfl k) ?_
      show OGot p.tables e below (T70.setTop (mkF m 49 #[.val (.int p1), .val (.int p2), .val (.int (2 : Int32)), .val (.int (3 : Int32)), .val (.ref w_COMPLETED), .val (.ref w_FAILED), .unset] [(.int ((33202 : Int32) >>> ((13 : Int32) &&& 31)))])) _
      rw [show ((33202 : Int32) >>> ((13 : Int32) &&& 31)) = (4 : Int32) from by decide]
      show OGot p.tables e below (T70.setTop (mkF m 49 #[.val (.int p1), .val (.int p2), .val (.int (2 : Int32)), .val (.int (3 : Int32)), .val (.ref w_COMPLETED), .val (.ref w_FAILED), .unset] [(.int (4 : Int32))])) _
      refine OGot.go (fun t k => XS.iconst X70.here hx rfl (hb hby at_49) k) ?_
      show OGot p.tables e below (T70.setTop (mkF m 50 #[.val (.int p1), .val (.int p2), .val (.int (2 : Int32)), .val (.int (3 : Int32)), .val (.ref w_COMPLETED), .val (.ref w_FAILED), .unset] [(.int (1 : Int32)), (.int (4 : Int32))])) _
      refine OGot.go (fun t k => XS.iand X70.here hx rfl (hb hby at_50) rfl k) ?_
      show OGot p.tables e below (T70.setTop (mkF m 51 #[.val (.int p1), .val (.int p2), .val (.int (2 : Int32)), .val (.int (3 : Int32)), .val (.ref w_COMPLETED), .val (.ref w_FAILED), .unset] [(.int ((4 : Int32) &&& (1 : Int32)))])) _
      rw [show ((4 : Int32) &&& (1 : Int32)) = (0 : Int32) from by decide]
      show OGot p.tables e below (T70.setTop (mkF m 51 #[.val (.int p1), .val (.int p2), .val (.int (2 : Int32)), .val (.int (3 : Int32)), .val (.ref w_COMPLETED), .val (.ref w_FAILED), .unset] [(.int (0 : Int32))])) _
      refine OGot.go (fun t k => XS.ifYes X70.here hx rfl (pc0 := 51) (pc' := 58) rfl (hb hby at_51) rfl (by decide) (by decide) (by decide) k) ?_
      show OGot p.tables e below (T70.setTop (mkF m 58 #[.val (.int p1), .val (.int p2), .val (.int (2 : Int32)), .val (.int (3 : Int32)), .val (.ref w_COMPLETED), .val (.ref w_FAILED), .unset] [])) _
      refine OGot.go (fun t k => XS.iconst X70.here hx rfl (hb hby at_58) k) ?_
      show OGot p.tables e below (T70.setTop (mkF m 59 #[.val (.int p1), .val (.int p2), .val (.int (2 : Int32)), .val (.int (3 : Int32)), .val (.ref w_COMPLETED), .val (.ref w_FAILED), .unset] [(.int (0 : Int32))])) _
      refine OGot.go (fun t k => XS.istore X70.here hx rfl (hb hby at_59) rfl (l' := #[.val (.int p1), .val (.int p2), .val (.int (2 : Int32)), .val (.int (3 : Int32)), .val (.ref w_COMPLETED), .val (.ref w_FAILED), .val (.int (0 : Int32))]) rfl k) ?_
      show OGot p.tables e below (T70.setTop (mkF m 61 #[.val (.int p1), .val (.int p2), .val (.int (2 : Int32)), .val (.int (3 : Int32)), .val (.ref w_COMPLETED), .val (.ref w_FAILED), .val (.int (0 : Int32))] [])) _
      refine OGot.go (fun t k => XS.aload X70.here hx rfl (hb hby at_61) rfl rfl k) ?_
      show OGot p.tables e below (T70.setTop (mkF m 63 #[.val (.int p1), .val (.int p2), .val (.int (2 : Int32)), .val (.int (3 : Int32)), .val (.ref w_COMPLETED), .val (.ref w_FAILED), .val (.int (0 : Int32))] [(.ref w_COMPLETED)])) _
      refine OGot.go (fun t k => XS.aload X70.here hx rfl (hb hby at_63) rfl rfl k) ?_
      show OGot p.tables e below (T70.setTop (mkF m 65 #[.val (.int p1), .val (.int p2), .val (.int (2 : Int32)), .val (.int (3 : Int32)), .val (.ref w_COMPLETED), .val (.ref w_FAILED), .val (.int (0 : Int32))] [(.ref w_FAILED), (.ref w_COMPLETED)])) _
      obtain ⟨cq71, kq71, q71a, q71b, q71c⟩ := isOf hZ e70 (G.2.2.2.2.2.2.2.2.2.1.ext O0.2)
      obtain ⟨_, _, ⟨T71, L71, k71, n71⟩, -, X71, ⟨Lc71, hQ71, l71, y71, z71⟩, st71⟩ := X70.virtualBack hx (y := (⟨"com/example/hermit_crab/hermitcrab/JobState", "canMoveTo", "(Lcom/example/hermit_crab/hermitcrab/JobState;)Z"⟩ : MethodName)) (z := (⟨"com/example/hermit_crab/hermitcrab/JobState", "canMoveTo", "(Lcom/example/hermit_crab/hermitcrab/JobState;)Z"⟩ : MethodName)) hown (mvT hZ (ow hw 11 rfl)) (mvT hZ (ow hw 12 rfl)) (notFace_of_selects (args := #[]) (mvT hZ (ow hw 14 rfl))) (mvT hZ (ow hw 14 rfl)) (mvT hZ (ow hw 13 rfl)) (by decide) (backOf (W := 0) (rm2_15 l Z a0 hw [] G  h0 n0 O0 ) hZ (ow hw 15 rfl) (ow hw 6 rfl) (by decide) (by decide)) q71a q71c (g := (mkF m 65 #[.val (.int p1), .val (.int p2), .val (.int (2 : Int32)), .val (.int (3 : Int32)), .val (.ref w_COMPLETED), .val (.ref w_FAILED), .val (.int (0 : Int32))] [(.ref w_FAILED), (.ref w_COMPLETED)])) rfl (by rw [hml]; rfl) (Steps.refl _) (argsL := [(.ref w_FAILED)]) (rest := []) (lenOf pd_2 rfl) rfl (by show 2 * 0 + _ ≤ _; exact Nat.le_of_eq rfl) (hb hby at_65) (fun _ _ => ⟨rfl, e70, (by decide : 0 + 0 ≤ _), (by decide : 0 + 0 ≤ _)⟩)
      dsimp only [Pt.U, Pt.locs, Pt.cells, Pt.slots] at X71 l71 y71 z71 st71 hQ71
      subst l71 y71 z71
      obtain ⟨rfl, N71q, e71⟩ := hQ71
      have N71 := Fr.app N70 N71q
      refine OGot.on st71 ?_
      show OGot p.tables e below (T71.setTop (mkF m 68 #[.val (.int p1), .val (.int p2), .val (.int (2 : Int32)), .val (.int (3 : Int32)), .val (.ref w_COMPLETED), .val (.ref w_FAILED), .val (.int (0 : Int32))] [(.int (0 : Int32))])) _
      refine OGot.go (fun t k => XS.iload X71.here hx rfl (hb hby at_68) rfl k) ?_
      show OGot p.tables e below (T71.setTop (mkF m 70 #[.val (.int p1), .val (.int p2), .val (.int (2 : Int32)), .val (.int (3 : Int32)), .val (.ref w_COMPLETED), .val (.ref w_FAILED), .val (.int (0 : Int32))] [(.int (0 : Int32)), (.int (0 : Int32))])) _
      refine OGot.go (fun t k => XS.icmpNo X71.here hx rfl (hb hby at_70) rfl (by decide) k) ?_
      show OGot p.tables e below (T71.setTop (mkF m 73 #[.val (.int p1), .val (.int p2), .val (.int (2 : Int32)), .val (.int (3 : Int32)), .val (.ref w_COMPLETED), .val (.ref w_FAILED), .val (.int (0 : Int32))] [])) _
      refine OGot.go (fun t k => XS.iconst X71.here hx rfl (hb hby at_73) k) ?_
      show OGot p.tables e below (T71.setTop (mkF m 74 #[.val (.int p1), .val (.int p2), .val (.int (2 : Int32)), .val (.int (3 : Int32)), .val (.ref w_COMPLETED), .val (.ref w_FAILED), .val (.int (0 : Int32))] [(.int (1 : Int32))])) _
      refine OGot.go (fun t k => XS.goto X71.here hx rfl (pc0 := 74) (pc' := 78) rfl (hb hby at_74) (by decide) (by decide) k) ?_
      show OGot p.tables e below (T71.setTop (mkF m 78 #[.val (.int p1), .val (.int p2), .val (.int (2 : Int32)), .val (.int (3 : Int32)), .val (.ref w_COMPLETED), .val (.ref w_FAILED), .val (.int (0 : Int32))] [(.int (1 : Int32))])) _
      obtain ⟨fs, hr, hrun, hended, hW, hsame⟩ := X71.leave (v := some (.int (1 : Int32))) (fun h => by rw [Bd.returns] at h; cases h)
      refine ⟨_, _, retN X71 hx (t := .boolean) Bd.returns (by simp) (hb hby at_78) hr, hrun, hended, _, _, rfl, ?_, ⟨_, rfl⟩, hW, hsame.mono (by decide) (by decide)⟩
      exact (⟨rfl, N71⟩ : Q0 Z w_PENDING w_FAILED w_RUNNING w_CANCELLED w_COMPLETED p1 p2 h0 n0 _ T71.heap _)
    · rw [hk58]
      show OGot p.tables e below (s₁.setTop (mkF m 14 #[.val (.int p1), .val (.int p2), .val (.int (2 : Int32)), .unset, .unset, .unset, .unset] [(.int (4 : Int32))])) _
      refine OGot.go (fun t k => XS.istoreN X0.here hx rfl (hb hby at_14) rfl (l' := #[.val (.int p1), .val (.int p2), .val (.int (2 : Int32)), .val (.int (4 : Int32)), .unset, .unset, .unset]) rfl k) ?_
      show OGot p.tables e below (s₁.setTop (mkF m 15 #[.val (.int p1), .val (.int p2), .val (.int (2 : Int32)), .val (.int (4 : Int32)), .unset, .unset, .unset] [])) _
      refine OGot.go (fun t k => XS.iloadN X0.here hx rfl (hb hby at_15) rfl k) ?_
      show OGot p.tables e below (s₁.setTop (mkF m 16 #[.val (.int p1), .val (.int p2), .val (.int (2 : Int32)), .val (.int (4 : Int32)), .unset, .unset, .unset] [(.int (2 : Int32))])) _
      obtain ⟨_, _, ⟨T72, L72, k72, n72⟩, -, X72, ⟨Lc72, hQ72, l72, y72, z72⟩, st72⟩ := Jvm.LawKit.callS X0 hx (y := (⟨"com/example/hermit_crab/hermitcrab/JobStateCanMoveToPinLaw", "st", "(I)Lcom/example/hermit_crab/hermitcrab/JobState;"⟩ : MethodName)) hown (mvT hZ (ow hw 1 rfl)) (mvT hZ (ow hw 2 rfl)) (mvT hZ (ow hw 3 rfl)) (mvT hZ (ow hw 4 rfl)) (by decide) (backOf (W := 0) (rm1_2 l Z a0 hw [] G  h0 n0 O0 ) hZ (ow hw 4 rfl) (ow hw 3 rfl) (by decide) (by decide)) (g := (mkF m 16 #[.val (.int p1), .val (.int p2), .val (.int (2 : Int32)), .val (.int (4 : Int32)), .unset, .unset, .unset] [(.int (2 : Int32))])) rfl (by rw [hml]; rfl) (argsL := [(.int (2 : Int32))]) (rest := []) (lenOf pd_0 rfl) rfl (by show 2 * 0 + _ ≤ _; exact Nat.le_of_eq rfl) (hb hby at_16) (fun _ _ => ⟨rfl, e0, (by decide : 0 + 0 ≤ _), (by decide : 0 + 0 ≤ _)⟩)
      dsimp only [Pt.U, Pt.locs, Pt.cells, Pt.slots] at X72 l72 y72 z72 st72 hQ72
      subst l72 y72 z72
      obtain ⟨rfl, N72q, e72⟩ := hQ72
      have N72 := Fr.app N0 N72q
      refine OGot.go st72 ?_
      show OGot p.tables e below (T72.setTop (mkF m 19 #[.val (.int p1), .val (.int p2), .val (.int (2 : Int32)), .val (.int (4 : Int32)), .unset, .unset, .unset] [(.ref w_COMPLETED)])) _
      refine OGot.go (fun t k => XS.astore X72.here hx rfl (hb hby at_19) rfl rfl (l' := #[.val (.int p1), .val (.int p2), .val (.int (2 : Int32)), .val (.int (4 : Int32)), .val (.ref w_COMPLETED), .unset, .unset]) rfl k) ?_
      show OGot p.tables e below (T72.setTop (mkF m 21 #[.val (.int p1), .val (.int p2), .val (.int (2 : Int32)), .val (.int (4 : Int32)), .val (.ref w_COMPLETED), .unset, .unset] [])) _
      refine OGot.go (fun t k => XS.iloadN X72.here hx rfl (hb hby at_21) rfl k) ?_
      show OGot p.tables e below (T72.setTop (mkF m 22 #[.val (.int p1), .val (.int p2), .val (.int (2 : Int32)), .val (.int (4 : Int32)), .val (.ref w_COMPLETED), .unset, .unset] [(.int (4 : Int32))])) _
      refine OGot.go (fun t k => XS.iconst X72.here hx rfl (hb hby at_22) k) ?_
      show OGot p.tables e below (T72.setTop (mkF m 23 #[.val (.int p1), .val (.int p2), .val (.int (2 : Int32)), .val (.int (4 : Int32)), .val (.ref w_COMPLETED), .unset, .unset] [(.int (5 : Int32)), (.int (4 : Int32))])) _
      refine OGot.go (fun t k => XS.icmpYes X72.here hx rfl (pc0 := 23) (pc' := 30) rfl (hb hby at_23) rfl (by decide) (by decide) (by decide) k) ?_
      show OGot p.tables e below (T72.setTop (mkF m 30 #[.val (.int p1), .val (.int p2), .val (.int (2 : Int32)), .val (.int (4 : Int32)), .val (.ref w_COMPLETED), .unset, .unset] [])) _
      refine OGot.go (fun t k => XS.iloadN X72.here hx rfl (hb hby at_30) rfl k) ?_
      show OGot p.tables e below (T72.setTop (mkF m 31 #[.val (.int p1), .val (.int p2), .val (.int (2 : Int32)), .val (.int (4 : Int32)), .val (.ref w_COMPLETED), .unset, .unset] [(.int (4 : Int32))])) _
      obtain ⟨_, _, ⟨T73, L73, k73, n73⟩, -, X73, ⟨Lc73, hQ73, l73, y73, z73⟩, st73⟩ := Jvm.LawKit.callS X72 hx (y := (⟨"com/example/hermit_crab/hermitcrab/JobStateCanMoveToPinLaw", "st", "(I)Lcom/example/hermit_crab/hermitcrab/JobState;"⟩ : MethodName)) hown (mvT hZ (ow hw 1 rfl)) (mvT hZ (ow hw 2 rfl)) (mvT hZ (ow hw 3 rfl)) (mvT hZ (ow hw 4 rfl)) (by decide) (backOf (W := 0) (rm1_4 l Z a0 hw [] G  h0 n0 O0 ) hZ (ow hw 4 rfl) (ow hw 3 rfl) (by decide) (by decide)) (g := (mkF m 31 #[.val (.int p1), .val (.int p2), .val (.int (2 : Int32)), .val (.int (4 : Int32)), .val (.ref w_COMPLETED), .unset, .unset] [(.int (4 : Int32))])) rfl (by rw [hml]; rfl) (argsL := [(.int (4 : Int32))]) (rest := []) (lenOf pd_0 rfl) rfl (by show 2 * 0 + _ ≤ _; exact Nat.le_of_eq rfl) (hb hby at_31) (fun _ _ => ⟨rfl, e72, (by decide : 0 + 0 ≤ _), (by decide : 0 + 0 ≤ _)⟩)
      dsimp only [Pt.U, Pt.locs, Pt.cells, Pt.slots] at X73 l73 y73 z73 st73 hQ73
      subst l73 y73 z73
      obtain ⟨rfl, N73q, e73⟩ := hQ73
      have N73 := Fr.app N72 N73q
      refine OGot.go st73 ?_
      show OGot p.tables e below (T73.setTop (mkF m 34 #[.val (.int p1), .val (.int p2), .val (.int (2 : Int32)), .val (.int (4 : Int32)), .val (.ref w_COMPLETED), .unset, .unset] [(.ref w_CANCELLED)])) _
      refine OGot.go (fun t k => XS.astore X73.here hx rfl (hb hby at_34) rfl rfl (l' := #[.val (.int p1), .val (.int p2), .val (.int (2 : Int32)), .val (.int (4 : Int32)), .val (.ref w_COMPLETED), .val (.ref w_CANCELLED), .unset]) rfl k) ?_
      show OGot p.tables e below (T73.setTop (mkF m 36 #[.val (.int p1), .val (.int p2), .val (.int (2 : Int32)), .val (.int (4 : Int32)), .val (.ref w_COMPLETED), .val (.ref w_CANCELLED), .unset] [])) _
      refine OGot.go (fun t k => XS.iloadN X73.here hx rfl (hb hby at_36) rfl k) ?_
      show OGot p.tables e below (T73.setTop (mkF m 37 #[.val (.int p1), .val (.int p2), .val (.int (2 : Int32)), .val (.int (4 : Int32)), .val (.ref w_COMPLETED), .val (.ref w_CANCELLED), .unset] [(.int (4 : Int32))])) _
      refine OGot.go (fun t k => XS.iconst X73.here hx rfl (hb hby at_37) k) ?_
      show OGot p.tables e below (T73.setTop (mkF m 38 #[.val (.int p1), .val (.int p2), .val (.int (2 : Int32)), .val (.int (4 : Int32)), .val (.ref w_COMPLETED), .val (.ref w_CANCELLED), .unset] [(.int (5 : Int32)), (.int (4 : Int32))])) _
      refine OGot.go (fun t k => XS.icmpNo X73.here hx rfl (hb hby at_38) rfl (by decide) k) ?_
      show OGot p.tables e below (T73.setTop (mkF m 41 #[.val (.int p1), .val (.int p2), .val (.int (2 : Int32)), .val (.int (4 : Int32)), .val (.ref w_COMPLETED), .val (.ref w_CANCELLED), .unset] [])) _
      refine OGot.go (fun t k => X73.ldcInt hx hown (mvT hZ (ow hw 10 rfl)) (g := (mkF m 41 #[.val (.int p1), .val (.int p2), .val (.int (2 : Int32)), .val (.int (4 : Int32)), .val (.ref w_COMPLETED), .val (.ref w_CANCELLED), .unset] [])) rfl (hb hby at_41) _ k) ?_
      show OGot p.tables e below (T73.setTop (mkF m 43 #[.val (.int p1), .val (.int p2), .val (.int (2 : Int32)), .val (.int (4 : Int32)), .val (.ref w_COMPLETED), .val (.ref w_CANCELLED), .unset] [(.int (33202 : Int32))])) _
      refine OGot.go (fun t k => XS.iconst X73.here hx rfl (hb hby at_43) k) ?_
      show OGot p.tables e below (T73.setTop (mkF m 44 #[.val (.int p1), .val (.int p2), .val (.int (2 : Int32)), .val (.int (4 : Int32)), .val (.ref w_COMPLETED), .val (.ref w_CANCELLED), .unset] [(.int (5 : Int32)), (.int (33202 : Int32))])) _
      refine OGot.go (fun t k => XS.iloadN X73.here hx rfl (hb hby at_44) rfl k) ?_
      show OGot p.tables e below (T73.setTop (mkF m 45 #[.val (.int p1), .val (.int p2), .val (.int (2 : Int32)), .val (.int (4 : Int32)), .val (.ref w_COMPLETED), .val (.ref w_CANCELLED), .unset] [(.int (2 : Int32)), (.int (5 : Int32)), (.int (33202 : Int32))])) _
      refine OGot.go (fun t k => XS.imul X73.here hx rfl (hb hby at_45) rfl k) ?_
      show OGot p.tables e below (T73.setTop (mkF m 46 #[.val (.int p1), .val (.int p2), .val (.int (2 : Int32)), .val (.int (4 : Int32)), .val (.ref w_COMPLETED), .val (.ref w_CANCELLED), .unset] [(.int ((5 : Int32) * (2 : Int32))), (.int (33202 : Int32))])) _
      rw [show ((5 : Int32) * (2 : Int32)) = (10 : Int32) from by decide]
      show OGot p.tables e below (T73.setTop (mkF m 46 #[.val (.int p1), .val (.int p2), .val (.int (2 : Int32)), .val (.int (4 : Int32)), .val (.ref w_COMPLETED), .val (.ref w_CANCELLED), .unset] [(.int (10 : Int32)), (.int (33202 : Int32))])) _
      refine OGot.go (fun t k => XS.iloadN X73.here hx rfl (hb hby at_46) rfl k) ?_
      show OGot p.tables e below (T73.setTop (mkF m 47 #[.val (.int p1), .val (.int p2), .val (.int (2 : Int32)), .val (.int (4 : Int32)), .val (.ref w_COMPLETED), .val (.ref w_CANCELLED), .unset] [(.int (4 : Int32)), (.int (10 : Int32)), (.int (33202 : Int32))])) _
      refine OGot.go (fun t k => XS.iadd X73.here hx rfl (hb hby at_47) rfl k) ?_
      show OGot p.tables e below (T73.setTop (mkF m 48 #[.val (.int p1), .val (.int p2), .val (.int (2 : Int32)), .val (.int (4 : Int32)), .val (.ref w_COMPLETED), .val (.ref w_CANCELLED), .unset] [(.int ((10 : Int32) + (4 : Int32))), (.int (33202 : Int32))])) _
      rw [show ((10 : Int32) + (4 : Int32)) = (14 : Int32) from by decide]
      show OGot p.tables e below (T73.setTop (mkF m 48 #[.val (.int p1), .val (.int p2), .val (.int (2 : Int32)), .val (.int (4 : Int32)), .val (.ref w_COMPLETED), .val (.ref w_CANCELLED), .unset] [(.int (14 : Int32)), (.int (33202 : Int32))])) _
      refine OGot.go (fun t k => XS.ishr X73.here hx rfl (hb hby at_48) rfl k) ?_
      show OGot p.tables e below (T73.setTop (mkF m 49 #[.val (.int p1), .val (.int p2), .val (.int (2 : Int32)), .val (.int (4 : Int32)), .val (.ref w_COMPLETED), .val (.ref w_CANCELLED), .unset] [(.int ((33202 : Int32) >>> ((14 : Int32) &&& 31)))])) _
      rw [show ((33202 : Int32) >>> ((14 : Int32) &&& 31)) = (2 : Int32) from by decide]
      show OGot p.tables e below (T73.setTop (mkF m 49 #[.val (.int p1), .val (.int p2), .val (.int (2 : Int32)), .val (.int (4 : Int32)), .val (.ref w_COMPLETED), .val (.ref w_CANCELLED), .unset] [(.int (2 : Int32))])) _
      refine OGot.go (fun t k => XS.iconst X73.here hx rfl (hb hby at_49) k) ?_
      show OGot p.tables e below (T73.setTop (mkF m 50 #[.val (.int p1), .val (.int p2), .val (.int (2 : Int32)), .val (.int (4 : Int32)), .val (.ref w_COMPLETED), .val (.ref w_CANCELLED), .unset] [(.int (1 : Int32)), (.int (2 : Int32))])) _
      refine OGot.go (fun t k => XS.iand X73.here hx rfl (hb hby at_50) rfl k) ?_
      show OGot p.tables e below (T73.setTop (mkF m 51 #[.val (.int p1), .val (.int p2), .val (.int (2 : Int32)), .val (.int (4 : Int32)), .val (.ref w_COMPLETED), .val (.ref w_CANCELLED), .unset] [(.int ((2 : Int32) &&& (1 : Int32)))])) _
      rw [show ((2 : Int32) &&& (1 : Int32)) = (0 : Int32) from by decide]
      show OGot p.tables e below (T73.setTop (mkF m 51 #[.val (.int p1), .val (.int p2), .val (.int (2 : Int32)), .val (.int (4 : Int32)), .val (.ref w_COMPLETED), .val (.ref w_CANCELLED), .unset] [(.int (0 : Int32))])) _
      refine OGot.go (fun t k => XS.ifYes X73.here hx rfl (pc0 := 51) (pc' := 58) rfl (hb hby at_51) rfl (by decide) (by decide) (by decide) k) ?_
      show OGot p.tables e below (T73.setTop (mkF m 58 #[.val (.int p1), .val (.int p2), .val (.int (2 : Int32)), .val (.int (4 : Int32)), .val (.ref w_COMPLETED), .val (.ref w_CANCELLED), .unset] [])) _
      refine OGot.go (fun t k => XS.iconst X73.here hx rfl (hb hby at_58) k) ?_
      show OGot p.tables e below (T73.setTop (mkF m 59 #[.val (.int p1), .val (.int p2), .val (.int (2 : Int32)), .val (.int (4 : Int32)), .val (.ref w_COMPLETED), .val (.ref w_CANCELLED), .unset] [(.int (0 : Int32))])) _
      refine OGot.go (fun t k => XS.istore X73.here hx rfl (hb hby at_59) rfl (l' := #[.val (.int p1), .val (.int p2), .val (.int (2 : Int32)), .val (.int (4 : Int32)), .val (.ref w_COMPLETED), .val (.ref w_CANCELLED), .val (.int (0 : Int32))]) rfl k) ?_
      show OGot p.tables e below (T73.setTop (mkF m 61 #[.val (.int p1), .val (.int p2), .val (.int (2 : Int32)), .val (.int (4 : Int32)), .val (.ref w_COMPLETED), .val (.ref w_CANCELLED), .val (.int (0 : Int32))] [])) _
      refine OGot.go (fun t k => XS.aload X73.here hx rfl (hb hby at_61) rfl rfl k) ?_
      show OGot p.tables e below (T73.setTop (mkF m 63 #[.val (.int p1), .val (.int p2), .val (.int (2 : Int32)), .val (.int (4 : Int32)), .val (.ref w_COMPLETED), .val (.ref w_CANCELLED), .val (.int (0 : Int32))] [(.ref w_COMPLETED)])) _
      refine OGot.go (fun t k => XS.aload X73.here hx rfl (hb hby at_63) rfl rfl k) ?_
      show OGot p.tables e below (T73.setTop (mkF m 65 #[.val (.int p1), .val (.int p2), .val (.int (2 : Int32)), .val (.int (4 : Int32)), .val (.ref w_COMPLETED), .val (.ref w_CANCELLED), .val (.int (0 : Int32))] [(.ref w_CANCELLED), (.ref w_COMPLETED)])) _
      obtain ⟨cq74, kq74, q74a, q74b, q74c⟩ := isOf hZ e73 (G.2.2.2.2.2.2.2.2.2.1.ext O0.2)
      obtain ⟨_, _, ⟨T74, L74, k74, n74⟩, -, X74, ⟨Lc74, hQ74, l74, y74, z74⟩, st74⟩ := X73.virtualBack hx (y := (⟨"com/example/hermit_crab/hermitcrab/JobState", "canMoveTo", "(Lcom/example/hermit_crab/hermitcrab/JobState;)Z"⟩ : MethodName)) (z := (⟨"com/example/hermit_crab/hermitcrab/JobState", "canMoveTo", "(Lcom/example/hermit_crab/hermitcrab/JobState;)Z"⟩ : MethodName)) hown (mvT hZ (ow hw 11 rfl)) (mvT hZ (ow hw 12 rfl)) (notFace_of_selects (args := #[]) (mvT hZ (ow hw 14 rfl))) (mvT hZ (ow hw 14 rfl)) (mvT hZ (ow hw 13 rfl)) (by decide) (backOf (W := 0) (rm2_16 l Z a0 hw [] G  h0 n0 O0 ) hZ (ow hw 15 rfl) (ow hw 6 rfl) (by decide) (by decide)) q74a q74c (g := (mkF m 65 #[.val (.int p1), .val (.int p2), .val (.int (2 : Int32)), .val (.int (4 : Int32)), .val (.ref w_COMPLETED), .val (.ref w_CANCELLED), .val (.int (0 : Int32))] [(.ref w_CANCELLED), (.ref w_COMPLETED)])) rfl (by rw [hml]; rfl) (Steps.refl _) (argsL := [(.ref w_CANCELLED)]) (rest := []) (lenOf pd_2 rfl) rfl (by show 2 * 0 + _ ≤ _; exact Nat.le_of_eq rfl) (hb hby at_65) (fun _ _ => ⟨rfl, e73, (by decide : 0 + 0 ≤ _), (by decide : 0 + 0 ≤ _)⟩)
      dsimp only [Pt.U, Pt.locs, Pt.cells, Pt.slots] at X74 l74 y74 z74 st74 hQ74
      subst l74 y74 z74
      obtain ⟨rfl, N74q, e74⟩ := hQ74
      have N74 := Fr.app N73 N74q
      refine OGot.on st74 ?_
      show OGot p.tables e below (T74.setTop (mkF m 68 #[.val (.int p1), .val (.int p2), .val (.int (2 : Int32)), .val (.int (4 : Int32)), .val (.ref w_COMPLETED), .val (.ref w_CANCELLED), .val (.int (0 : Int32))] [(.int (0 : Int32))])) _
      refine OGot.go (fun t k => XS.iload X74.here hx rfl (hb hby at_68) rfl k) ?_
      show OGot p.tables e below (T74.setTop (mkF m 70 #[.val (.int p1), .val (.int p2), .val (.int (2 : Int32)), .val (.int (4 : Int32)), .val (.ref w_COMPLETED), .val (.ref w_CANCELLED), .val (.int (0 : Int32))] [(.int (0 : Int32)), (.int (0 : Int32))])) _
      refine OGot.go (fun t k => XS.icmpNo X74.here hx rfl (hb hby at_70) rfl (by decide) k) ?_
      show OGot p.tables e below (T74.setTop (mkF m 73 #[.val (.int p1), .val (.int p2), .val (.int (2 : Int32)), .val (.int (4 : Int32)), .val (.ref w_COMPLETED), .val (.ref w_CANCELLED), .val (.int (0 : Int32))] [])) _
      refine OGot.go (fun t k => XS.iconst X74.here hx rfl (hb hby at_73) k) ?_
      show OGot p.tables e below (T74.setTop (mkF m 74 #[.val (.int p1), .val (.int p2), .val (.int (2 : Int32)), .val (.int (4 : Int32)), .val (.ref w_COMPLETED), .val (.ref w_CANCELLED), .val (.int (0 : Int32))] [(.int (1 : Int32))])) _
      refine OGot.go (fun t k => XS.goto X74.here hx rfl (pc0 := 74) (pc' := 78) rfl (hb hby at_74) (by decide) (by decide) k) ?_
      show OGot p.tables e below (T74.setTop (mkF m 78 #[.val (.int p1), .val (.int p2), .val (.int (2 : Int32)), .val (.int (4 : Int32)), .val (.ref w_COMPLETED), .val (.ref w_CANCELLED), .val (.int (0 : Int32))] [(.int (1 : Int32))])) _
      obtain ⟨fs, hr, hrun, hended, hW, hsame⟩ := X74.leave (v := some (.int (1 : Int32))) (fun h => by rw [Bd.returns] at h; cases h)
      refine ⟨_, _, retN X74 hx (t := .boolean) Bd.returns (by simp) (hb hby at_78) hr, hrun, hended, _, _, rfl, ?_, ⟨_, rfl⟩, hW, hsame.mono (by decide) (by decide)⟩
      exact (⟨rfl, N74⟩ : Q0 Z w_PENDING w_FAILED w_RUNNING w_CANCELLED w_COMPLETED p1 p2 h0 n0 _ T74.heap _)
    · rw [hk59]
      show OGot p.tables e below (s₁.setTop (mkF m 14 #[.val (.int p1), .val (.int p2), .val (.int (2 : Int32)), .unset, .unset, .unset, .unset] [(.int (5 : Int32))])) _
      refine OGot.go (fun t k => XS.istoreN X0.here hx rfl (hb hby at_14) rfl (l' := #[.val (.int p1), .val (.int p2), .val (.int (2 : Int32)), .val (.int (5 : Int32)), .unset, .unset, .unset]) rfl k) ?_
      show OGot p.tables e below (s₁.setTop (mkF m 15 #[.val (.int p1), .val (.int p2), .val (.int (2 : Int32)), .val (.int (5 : Int32)), .unset, .unset, .unset] [])) _
      refine OGot.go (fun t k => XS.iloadN X0.here hx rfl (hb hby at_15) rfl k) ?_
      show OGot p.tables e below (s₁.setTop (mkF m 16 #[.val (.int p1), .val (.int p2), .val (.int (2 : Int32)), .val (.int (5 : Int32)), .unset, .unset, .unset] [(.int (2 : Int32))])) _
      obtain ⟨_, _, ⟨T75, L75, k75, n75⟩, -, X75, ⟨Lc75, hQ75, l75, y75, z75⟩, st75⟩ := Jvm.LawKit.callS X0 hx (y := (⟨"com/example/hermit_crab/hermitcrab/JobStateCanMoveToPinLaw", "st", "(I)Lcom/example/hermit_crab/hermitcrab/JobState;"⟩ : MethodName)) hown (mvT hZ (ow hw 1 rfl)) (mvT hZ (ow hw 2 rfl)) (mvT hZ (ow hw 3 rfl)) (mvT hZ (ow hw 4 rfl)) (by decide) (backOf (W := 0) (rm1_2 l Z a0 hw [] G  h0 n0 O0 ) hZ (ow hw 4 rfl) (ow hw 3 rfl) (by decide) (by decide)) (g := (mkF m 16 #[.val (.int p1), .val (.int p2), .val (.int (2 : Int32)), .val (.int (5 : Int32)), .unset, .unset, .unset] [(.int (2 : Int32))])) rfl (by rw [hml]; rfl) (argsL := [(.int (2 : Int32))]) (rest := []) (lenOf pd_0 rfl) rfl (by show 2 * 0 + _ ≤ _; exact Nat.le_of_eq rfl) (hb hby at_16) (fun _ _ => ⟨rfl, e0, (by decide : 0 + 0 ≤ _), (by decide : 0 + 0 ≤ _)⟩)
      dsimp only [Pt.U, Pt.locs, Pt.cells, Pt.slots] at X75 l75 y75 z75 st75 hQ75
      subst l75 y75 z75
      obtain ⟨rfl, N75q, e75⟩ := hQ75
      have N75 := Fr.app N0 N75q
      refine OGot.go st75 ?_
      show OGot p.tables e below (T75.setTop (mkF m 19 #[.val (.int p1), .val (.int p2), .val (.int (2 : Int32)), .val (.int (5 : Int32)), .unset, .unset, .unset] [(.ref w_COMPLETED)])) _
      refine OGot.go (fun t k => XS.astore X75.here hx rfl (hb hby at_19) rfl rfl (l' := #[.val (.int p1), .val (.int p2), .val (.int (2 : Int32)), .val (.int (5 : Int32)), .val (.ref w_COMPLETED), .unset, .unset]) rfl k) ?_
      show OGot p.tables e below (T75.setTop (mkF m 21 #[.val (.int p1), .val (.int p2), .val (.int (2 : Int32)), .val (.int (5 : Int32)), .val (.ref w_COMPLETED), .unset, .unset] [])) _
      refine OGot.go (fun t k => XS.iloadN X75.here hx rfl (hb hby at_21) rfl k) ?_
      show OGot p.tables e below (T75.setTop (mkF m 22 #[.val (.int p1), .val (.int p2), .val (.int (2 : Int32)), .val (.int (5 : Int32)), .val (.ref w_COMPLETED), .unset, .unset] [(.int (5 : Int32))])) _
      refine OGot.go (fun t k => XS.iconst X75.here hx rfl (hb hby at_22) k) ?_
      show OGot p.tables e below (T75.setTop (mkF m 23 #[.val (.int p1), .val (.int p2), .val (.int (2 : Int32)), .val (.int (5 : Int32)), .val (.ref w_COMPLETED), .unset, .unset] [(.int (5 : Int32)), (.int (5 : Int32))])) _
      refine OGot.go (fun t k => XS.icmpNo X75.here hx rfl (hb hby at_23) rfl (by decide) k) ?_
      show OGot p.tables e below (T75.setTop (mkF m 26 #[.val (.int p1), .val (.int p2), .val (.int (2 : Int32)), .val (.int (5 : Int32)), .val (.ref w_COMPLETED), .unset, .unset] [])) _
      refine OGot.go (fun t k => XS.aconstNull X75.here hx rfl (hb hby at_26) k) ?_
      show OGot p.tables e below (T75.setTop (mkF m 27 #[.val (.int p1), .val (.int p2), .val (.int (2 : Int32)), .val (.int (5 : Int32)), .val (.ref w_COMPLETED), .unset, .unset] [.null])) _
      refine OGot.go (fun t k => XS.goto X75.here hx rfl (pc0 := 27) (pc' := 34) rfl (hb hby at_27) (by decide) (by decide) k) ?_
      show OGot p.tables e below (T75.setTop (mkF m 34 #[.val (.int p1), .val (.int p2), .val (.int (2 : Int32)), .val (.int (5 : Int32)), .val (.ref w_COMPLETED), .unset, .unset] [.null])) _
      refine OGot.go (fun t k => XS.astore X75.here hx rfl (hb hby at_34) rfl rfl (l' := #[.val (.int p1), .val (.int p2), .val (.int (2 : Int32)), .val (.int (5 : Int32)), .val (.ref w_COMPLETED), .val .null, .unset]) rfl k) ?_
      show OGot p.tables e below (T75.setTop (mkF m 36 #[.val (.int p1), .val (.int p2), .val (.int (2 : Int32)), .val (.int (5 : Int32)), .val (.ref w_COMPLETED), .val .null, .unset] [])) _
      refine OGot.go (fun t k => XS.iloadN X75.here hx rfl (hb hby at_36) rfl k) ?_
      show OGot p.tables e below (T75.setTop (mkF m 37 #[.val (.int p1), .val (.int p2), .val (.int (2 : Int32)), .val (.int (5 : Int32)), .val (.ref w_COMPLETED), .val .null, .unset] [(.int (5 : Int32))])) _
      refine OGot.go (fun t k => XS.iconst X75.here hx rfl (hb hby at_37) k) ?_
      show OGot p.tables e below (T75.setTop (mkF m 38 #[.val (.int p1), .val (.int p2), .val (.int (2 : Int32)), .val (.int (5 : Int32)), .val (.ref w_COMPLETED), .val .null, .unset] [(.int (5 : Int32)), (.int (5 : Int32))])) _
      refine OGot.go (fun t k => XS.icmpYes X75.here hx rfl (pc0 := 38) (pc' := 58) rfl (hb hby at_38) rfl (by decide) (by decide) (by decide) k) ?_
      show OGot p.tables e below (T75.setTop (mkF m 58 #[.val (.int p1), .val (.int p2), .val (.int (2 : Int32)), .val (.int (5 : Int32)), .val (.ref w_COMPLETED), .val .null, .unset] [])) _
      refine OGot.go (fun t k => XS.iconst X75.here hx rfl (hb hby at_58) k) ?_
      show OGot p.tables e below (T75.setTop (mkF m 59 #[.val (.int p1), .val (.int p2), .val (.int (2 : Int32)), .val (.int (5 : Int32)), .val (.ref w_COMPLETED), .val .null, .unset] [(.int (0 : Int32))])) _
      refine OGot.go (fun t k => XS.istore X75.here hx rfl (hb hby at_59) rfl (l' := #[.val (.int p1), .val (.int p2), .val (.int (2 : Int32)), .val (.int (5 : Int32)), .val (.ref w_COMPLETED), .val .null, .val (.int (0 : Int32))]) rfl k) ?_
      show OGot p.tables e below (T75.setTop (mkF m 61 #[.val (.int p1), .val (.int p2), .val (.int (2 : Int32)), .val (.int (5 : Int32)), .val (.ref w_COMPLETED), .val .null, .val (.int (0 : Int32))] [])) _
      refine OGot.go (fun t k => XS.aload X75.here hx rfl (hb hby at_61) rfl rfl k) ?_
      show OGot p.tables e below (T75.setTop (mkF m 63 #[.val (.int p1), .val (.int p2), .val (.int (2 : Int32)), .val (.int (5 : Int32)), .val (.ref w_COMPLETED), .val .null, .val (.int (0 : Int32))] [(.ref w_COMPLETED)])) _
      refine OGot.go (fun t k => XS.aload X75.here hx rfl (hb hby at_63) rfl rfl k) ?_
      show OGot p.tables e below (T75.setTop (mkF m 65 #[.val (.int p1), .val (.int p2), .val (.int (2 : Int32)), .val (.int (5 : Int32)), .val (.ref w_COMPLETED), .val .null, .val (.int (0 : Int32))] [.null, (.ref w_COMPLETED)])) _
      obtain ⟨cq76, kq76, q76a, q76b, q76c⟩ := isOf hZ e75 (G.2.2.2.2.2.2.2.2.2.1.ext O0.2)
      obtain ⟨_, _, ⟨T76, L76, k76, n76⟩, -, X76, ⟨Lc76, hQ76, l76, y76, z76⟩, st76⟩ := X75.virtualBack hx (y := (⟨"com/example/hermit_crab/hermitcrab/JobState", "canMoveTo", "(Lcom/example/hermit_crab/hermitcrab/JobState;)Z"⟩ : MethodName)) (z := (⟨"com/example/hermit_crab/hermitcrab/JobState", "canMoveTo", "(Lcom/example/hermit_crab/hermitcrab/JobState;)Z"⟩ : MethodName)) hown (mvT hZ (ow hw 11 rfl)) (mvT hZ (ow hw 12 rfl)) (notFace_of_selects (args := #[]) (mvT hZ (ow hw 14 rfl))) (mvT hZ (ow hw 14 rfl)) (mvT hZ (ow hw 13 rfl)) (by decide) (backOf (W := 0) (rm2_17 l Z a0 hw [] G  h0 n0 O0 ) hZ (ow hw 15 rfl) (ow hw 6 rfl) (by decide) (by decide)) q76a q76c (g := (mkF m 65 #[.val (.int p1), .val (.int p2), .val (.int (2 : Int32)), .val (.int (5 : Int32)), .val (.ref w_COMPLETED), .val .null, .val (.int (0 : Int32))] [.null, (.ref w_COMPLETED)])) rfl (by rw [hml]; rfl) (Steps.refl _) (argsL := [.null]) (rest := []) (lenOf pd_2 rfl) rfl (by show 2 * 0 + _ ≤ _; exact Nat.le_of_eq rfl) (hb hby at_65) (fun _ _ => ⟨rfl, e75, (by decide : 0 + 0 ≤ _), (by decide : 0 + 0 ≤ _)⟩)
      dsimp only [Pt.U, Pt.locs, Pt.cells, Pt.slots] at X76 l76 y76 z76 st76 hQ76
      subst l76 y76 z76
      obtain ⟨rfl, N76q, e76⟩ := hQ76
      have N76 := Fr.app N75 N76q
      refine OGot.on st76 ?_
      show OGot p.tables e below (T76.setTop (mkF m 68 #[.val (.int p1), .val (.int p2), .val (.int (2 : Int32)), .val (.int (5 : Int32)), .val (.ref w_COMPLETED), .val .null, .val (.int (0 : Int32))] [(.int (0 : Int32))])) _
      refine OGot.go (fun t k => XS.iload X76.here hx rfl (hb hby at_68) rfl k) ?_
      show OGot p.tables e below (T76.setTop (mkF m 70 #[.val (.int p1), .val (.int p2), .val (.int (2 : Int32)), .val (.int (5 : Int32)), .val (.ref w_COMPLETED), .val .null, .val (.int (0 : Int32))] [(.int (0 : Int32)), (.int (0 : Int32))])) _
      refine OGot.go (fun t k => XS.icmpNo X76.here hx rfl (hb hby at_70) rfl (by decide) k) ?_
      show OGot p.tables e below (T76.setTop (mkF m 73 #[.val (.int p1), .val (.int p2), .val (.int (2 : Int32)), .val (.int (5 : Int32)), .val (.ref w_COMPLETED), .val .null, .val (.int (0 : Int32))] [])) _
      refine OGot.go (fun t k => XS.iconst X76.here hx rfl (hb hby at_73) k) ?_
      show OGot p.tables e below (T76.setTop (mkF m 74 #[.val (.int p1), .val (.int p2), .val (.int (2 : Int32)), .val (.int (5 : Int32)), .val (.ref w_COMPLETED), .val .null, .val (.int (0 : Int32))] [(.int (1 : Int32))])) _
      refine OGot.go (fun t k => XS.goto X76.here hx rfl (pc0 := 74) (pc' := 78) rfl (hb hby at_74) (by decide) (by decide) k) ?_
      show OGot p.tables e below (T76.setTop (mkF m 78 #[.val (.int p1), .val (.int p2), .val (.int (2 : Int32)), .val (.int (5 : Int32)), .val (.ref w_COMPLETED), .val .null, .val (.int (0 : Int32))] [(.int (1 : Int32))])) _
      obtain ⟨fs, hr, hrun, hended, hW, hsame⟩ := X76.leave (v := some (.int (1 : Int32))) (fun h => by rw [Bd.returns] at h; cases h)
      refine ⟨_, _, retN X76 hx (t := .boolean) Bd.returns (by simp) (hb hby at_78) hr, hrun, hended, _, _, rfl, ?_, ⟨_, rfl⟩, hW, hsame.mono (by decide) (by decide)⟩
      exact (⟨rfl, N76⟩ : Q0 Z w_PENDING w_FAILED w_RUNNING w_CANCELLED w_COMPLETED p1 p2 h0 n0 _ T76.heap _)
  · rw [hk6]
    show OGot p.tables e below (s₁.setTop (mkF m 6 #[.val (.int p1), .val (.int p2), .unset, .unset, .unset, .unset, .unset] [(.int (3 : Int32))])) _
    refine OGot.go (fun t k => XS.istoreN X0.here hx rfl (hb hby at_6) rfl (l' := #[.val (.int p1), .val (.int p2), .val (.int (3 : Int32)), .unset, .unset, .unset, .unset]) rfl k) ?_
    show OGot p.tables e below (s₁.setTop (mkF m 7 #[.val (.int p1), .val (.int p2), .val (.int (3 : Int32)), .unset, .unset, .unset, .unset] [])) _
    refine OGot.go (fun t k => XS.iloadN X0.here hx rfl (hb hby at_7) rfl k) ?_
    show OGot p.tables e below (s₁.setTop (mkF m 8 #[.val (.int p1), .val (.int p2), .val (.int (3 : Int32)), .unset, .unset, .unset, .unset] [(.int p2)])) _
    refine OGot.go (fun t k => X0.ldcInt hx hown (mvT hZ (ow hw 0 rfl)) (g := (mkF m 8 #[.val (.int p1), .val (.int p2), .val (.int (3 : Int32)), .unset, .unset, .unset, .unset] [(.int p2)])) rfl (hb hby at_8) _ k) ?_
    show OGot p.tables e below (s₁.setTop (mkF m 10 #[.val (.int p1), .val (.int p2), .val (.int (3 : Int32)), .unset, .unset, .unset, .unset] [(.int (2147483647 : Int32)), (.int p2)])) _
    refine OGot.go (fun t k => XS.iand X0.here hx rfl (hb hby at_10) rfl k) ?_
    show OGot p.tables e below (s₁.setTop (mkF m 11 #[.val (.int p1), .val (.int p2), .val (.int (3 : Int32)), .unset, .unset, .unset, .unset] [(.int (p2 &&& (2147483647 : Int32)))])) _
    refine OGot.go (fun t k => XS.bipush X0.here hx rfl (hb hby at_11) k) ?_
    show OGot p.tables e below (s₁.setTop (mkF m 13 #[.val (.int p1), .val (.int p2), .val (.int (3 : Int32)), .unset, .unset, .unset, .unset] [(.int (6 : Int32)), (.int (p2 &&& (2147483647 : Int32)))])) _
    refine OGot.go (fun t k => iremM X0 hx rfl (hb hby at_13) rfl (by decide) k) ?_
    show OGot p.tables e below (s₁.setTop (mkF m 14 #[.val (.int p1), .val (.int p2), .val (.int (3 : Int32)), .unset, .unset, .unset, .unset] [(.int ((p2 &&& (2147483647 : Int32)) % (6 : Int32)))])) _
    rcases own_rem6 p2 with hk77 | hk78 | hk79 | hk80 | hk81 | hk82
    · rw [hk77]
      show OGot p.tables e below (s₁.setTop (mkF m 14 #[.val (.int p1), .val (.int p2), .val (.int (3 : Int32)), .unset, .unset, .unset, .unset] [(.int (0 : Int32))])) _
      refine OGot.go (fun t k => XS.istoreN X0.here hx rfl (hb hby at_14) rfl (l' := #[.val (.int p1), .val (.int p2), .val (.int (3 : Int32)), .val (.int (0 : Int32)), .unset, .unset, .unset]) rfl k) ?_
      show OGot p.tables e below (s₁.setTop (mkF m 15 #[.val (.int p1), .val (.int p2), .val (.int (3 : Int32)), .val (.int (0 : Int32)), .unset, .unset, .unset] [])) _
      refine OGot.go (fun t k => XS.iloadN X0.here hx rfl (hb hby at_15) rfl k) ?_
      show OGot p.tables e below (s₁.setTop (mkF m 16 #[.val (.int p1), .val (.int p2), .val (.int (3 : Int32)), .val (.int (0 : Int32)), .unset, .unset, .unset] [(.int (3 : Int32))])) _
      obtain ⟨_, _, ⟨T83, L83, k83, n83⟩, -, X83, ⟨Lc83, hQ83, l83, y83, z83⟩, st83⟩ := Jvm.LawKit.callS X0 hx (y := (⟨"com/example/hermit_crab/hermitcrab/JobStateCanMoveToPinLaw", "st", "(I)Lcom/example/hermit_crab/hermitcrab/JobState;"⟩ : MethodName)) hown (mvT hZ (ow hw 1 rfl)) (mvT hZ (ow hw 2 rfl)) (mvT hZ (ow hw 3 rfl)) (mvT hZ (ow hw 4 rfl)) (by decide) (backOf (W := 0) (rm1_3 l Z a0 hw [] G  h0 n0 O0 ) hZ (ow hw 4 rfl) (ow hw 3 rfl) (by decide) (by decide)) (g := (mkF m 16 #[.val (.int p1), .val (.int p2), .val (.int (3 : Int32)), .val (.int (0 : Int32)), .unset, .unset, .unset] [(.int (3 : Int32))])) rfl (by rw [hml]; rfl) (argsL := [(.int (3 : Int32))]) (rest := []) (lenOf pd_0 rfl) rfl (by show 2 * 0 + _ ≤ _; exact Nat.le_of_eq rfl) (hb hby at_16) (fun _ _ => ⟨rfl, e0, (by decide : 0 + 0 ≤ _), (by decide : 0 + 0 ≤ _)⟩)
      dsimp only [Pt.U, Pt.locs, Pt.cells, Pt.slots] at X83 l83 y83 z83 st83 hQ83
      subst l83 y83 z83
      obtain ⟨rfl, N83q, e83⟩ := hQ83
      have N83 := Fr.app N0 N83q
      refine OGot.go st83 ?_
      show OGot p.tables e below (T83.setTop (mkF m 19 #[.val (.int p1), .val (.int p2), .val (.int (3 : Int32)), .val (.int (0 : Int32)), .unset, .unset, .unset] [(.ref w_FAILED)])) _
      refine OGot.go (fun t k => XS.astore X83.here hx rfl (hb hby at_19) rfl rfl (l' := #[.val (.int p1), .val (.int p2), .val (.int (3 : Int32)), .val (.int (0 : Int32)), .val (.ref w_FAILED), .unset, .unset]) rfl k) ?_
      show OGot p.tables e below (T83.setTop (mkF m 21 #[.val (.int p1), .val (.int p2), .val (.int (3 : Int32)), .val (.int (0 : Int32)), .val (.ref w_FAILED), .unset, .unset] [])) _
      refine OGot.go (fun t k => XS.iloadN X83.here hx rfl (hb hby at_21) rfl k) ?_
      show OGot p.tables e below (T83.setTop (mkF m 22 #[.val (.int p1), .val (.int p2), .val (.int (3 : Int32)), .val (.int (0 : Int32)), .val (.ref w_FAILED), .unset, .unset] [(.int (0 : Int32))])) _
      refine OGot.go (fun t k => XS.iconst X83.here hx rfl (hb hby at_22) k) ?_
      show OGot p.tables e below (T83.setTop (mkF m 23 #[.val (.int p1), .val (.int p2), .val (.int (3 : Int32)), .val (.int (0 : Int32)), .val (.ref w_FAILED), .unset, .unset] [(.int (5 : Int32)), (.int (0 : Int32))])) _
      refine OGot.go (fun t k => XS.icmpYes X83.here hx rfl (pc0 := 23) (pc' := 30) rfl (hb hby at_23) rfl (by decide) (by decide) (by decide) k) ?_
      show OGot p.tables e below (T83.setTop (mkF m 30 #[.val (.int p1), .val (.int p2), .val (.int (3 : Int32)), .val (.int (0 : Int32)), .val (.ref w_FAILED), .unset, .unset] [])) _
      refine OGot.go (fun t k => XS.iloadN X83.here hx rfl (hb hby at_30) rfl k) ?_
      show OGot p.tables e below (T83.setTop (mkF m 31 #[.val (.int p1), .val (.int p2), .val (.int (3 : Int32)), .val (.int (0 : Int32)), .val (.ref w_FAILED), .unset, .unset] [(.int (0 : Int32))])) _
      obtain ⟨_, _, ⟨T84, L84, k84, n84⟩, -, X84, ⟨Lc84, hQ84, l84, y84, z84⟩, st84⟩ := Jvm.LawKit.callS X83 hx (y := (⟨"com/example/hermit_crab/hermitcrab/JobStateCanMoveToPinLaw", "st", "(I)Lcom/example/hermit_crab/hermitcrab/JobState;"⟩ : MethodName)) hown (mvT hZ (ow hw 1 rfl)) (mvT hZ (ow hw 2 rfl)) (mvT hZ (ow hw 3 rfl)) (mvT hZ (ow hw 4 rfl)) (by decide) (backOf (W := 0) (rm1 l Z a0 hw [] G  h0 n0 O0 ) hZ (ow hw 4 rfl) (ow hw 3 rfl) (by decide) (by decide)) (g := (mkF m 31 #[.val (.int p1), .val (.int p2), .val (.int (3 : Int32)), .val (.int (0 : Int32)), .val (.ref w_FAILED), .unset, .unset] [(.int (0 : Int32))])) rfl (by rw [hml]; rfl) (argsL := [(.int (0 : Int32))]) (rest := []) (lenOf pd_0 rfl) rfl (by show 2 * 0 + _ ≤ _; exact Nat.le_of_eq rfl) (hb hby at_31) (fun _ _ => ⟨rfl, e83, (by decide : 0 + 0 ≤ _), (by decide : 0 + 0 ≤ _)⟩)
      dsimp only [Pt.U, Pt.locs, Pt.cells, Pt.slots] at X84 l84 y84 z84 st84 hQ84
      subst l84 y84 z84
      obtain ⟨rfl, N84q, e84⟩ := hQ84
      have N84 := Fr.app N83 N84q
      refine OGot.go st84 ?_
      show OGot p.tables e below (T84.setTop (mkF m 34 #[.val (.int p1), .val (.int p2), .val (.int (3 : Int32)), .val (.int (0 : Int32)), .val (.ref w_FAILED), .unset, .unset] [(.ref w_PENDING)])) _
      refine OGot.go (fun t k => XS.astore X84.here hx rfl (hb hby at_34) rfl rfl (l' := #[.val (.int p1), .val (.int p2), .val (.int (3 : Int32)), .val (.int (0 : Int32)), .val (.ref w_FAILED), .val (.ref w_PENDING), .unset]) rfl k) ?_
      show OGot p.tables e below (T84.setTop (mkF m 36 #[.val (.int p1), .val (.int p2), .val (.int (3 : Int32)), .val (.int (0 : Int32)), .val (.ref w_FAILED), .val (.ref w_PENDING), .unset] [])) _
      refine OGot.go (fun t k => XS.iloadN X84.here hx rfl (hb hby at_36) rfl k) ?_
      show OGot p.tables e below (T84.setTop (mkF m 37 #[.val (.int p1), .val (.int p2), .val (.int (3 : Int32)), .val (.int (0 : Int32)), .val (.ref w_FAILED), .val (.ref w_PENDING), .unset] [(.int (0 : Int32))])) _
      refine OGot.go (fun t k => XS.iconst X84.here hx rfl (hb hby at_37) k) ?_
      show OGot p.tables e below (T84.setTop (mkF m 38 #[.val (.int p1), .val (.int p2), .val (.int (3 : Int32)), .val (.int (0 : Int32)), .val (.ref w_FAILED), .val (.ref w_PENDING), .unset] [(.int (5 : Int32)), (.int (0 : Int32))])) _
      refine OGot.go (fun t k => XS.icmpNo X84.here hx rfl (hb hby at_38) rfl (by decide) k) ?_
      show OGot p.tables e below (T84.setTop (mkF m 41 #[.val (.int p1), .val (.int p2), .val (.int (3 : Int32)), .val (.int (0 : Int32)), .val (.ref w_FAILED), .val (.ref w_PENDING), .unset] [])) _
      refine OGot.go (fun t k => X84.ldcInt hx hown (mvT hZ (ow hw 10 rfl)) (g := (mkF m 41 #[.val (.int p1), .val (.int p2), .val (.int (3 : Int32)), .val (.int (0 : Int32)), .val (.ref w_FAILED), .val (.ref w_PENDING), .unset] [])) rfl (hb hby at_41) _ k) ?_
      show OGot p.tables e below (T84.setTop (mkF m 43 #[.val (.int p1), .val (.int p2), .val (.int (3 : Int32)), .val (.int (0 : Int32)), .val (.ref w_FAILED), .val (.ref w_PENDING), .unset] [(.int (33202 : Int32))])) _
      refine OGot.go (fun t k => XS.iconst X84.here hx rfl (hb hby at_43) k) ?_
      show OGot p.tables e below (T84.setTop (mkF m 44 #[.val (.int p1), .val (.int p2), .val (.int (3 : Int32)), .val (.int (0 : Int32)), .val (.ref w_FAILED), .val (.ref w_PENDING), .unset] [(.int (5 : Int32)), (.int (33202 : Int32))])) _
      refine OGot.go (fun t k => XS.iloadN X84.here hx rfl (hb hby at_44) rfl k) ?_
      show OGot p.tables e below (T84.setTop (mkF m 45 #[.val (.int p1), .val (.int p2), .val (.int (3 : Int32)), .val (.int (0 : Int32)), .val (.ref w_FAILED), .val (.ref w_PENDING), .unset] [(.int (3 : Int32)), (.int (5 : Int32)), (.int (33202 : Int32))])) _
      refine OGot.go (fun t k => XS.imul X84.here hx rfl (hb hby at_45) rfl k) ?_
      show OGot p.tables e below (T84.setTop (mkF m 46 #[.val (.int p1), .val (.int p2), .val (.int (3 : Int32)), .val (.int (0 : Int32)), .val (.ref w_FAILED), .val (.ref w_PENDING), .unset] [(.int ((5 : Int32) * (3 : Int32))), (.int (33202 : Int32))])) _
      rw [show ((5 : Int32) * (3 : Int32)) = (15 : Int32) from by decide]
      show OGot p.tables e below (T84.setTop (mkF m 46 #[.val (.int p1), .val (.int p2), .val (.int (3 : Int32)), .val (.int (0 : Int32)), .val (.ref w_FAILED), .val (.ref w_PENDING), .unset] [(.int (15 : Int32)), (.int (33202 : Int32))])) _
      refine OGot.go (fun t k => XS.iloadN X84.here hx rfl (hb hby at_46) rfl k) ?_
      show OGot p.tables e below (T84.setTop (mkF m 47 #[.val (.int p1), .val (.int p2), .val (.int (3 : Int32)), .val (.int (0 : Int32)), .val (.ref w_FAILED), .val (.ref w_PENDING), .unset] [(.int (0 : Int32)), (.int (15 : Int32)), (.int (33202 : Int32))])) _
      refine OGot.go (fun t k => XS.iadd X84.here hx rfl (hb hby at_47) rfl k) ?_
      show OGot p.tables e below (T84.setTop (mkF m 48 #[.val (.int p1), .val (.int p2), .val (.int (3 : Int32)), .val (.int (0 : Int32)), .val (.ref w_FAILED), .val (.ref w_PENDING), .unset] [(.int ((15 : Int32) + (0 : Int32))), (.int (33202 : Int32))])) _
      rw [show ((15 : Int32) + (0 : Int32)) = (15 : Int32) from by decide]
      show OGot p.tables e below (T84.setTop (mkF m 48 #[.val (.int p1), .val (.int p2), .val (.int (3 : Int32)), .val (.int (0 : Int32)), .val (.ref w_FAILED), .val (.ref w_PENDING), .unset] [(.int (15 : Int32)), (.int (33202 : Int32))])) _
      refine OGot.go (fun t k => XS.ishr X84.here hx rfl (hb hby at_48) rfl k) ?_
      show OGot p.tables e below (T84.setTop (mkF m 49 #[.val (.int p1), .val (.int p2), .val (.int (3 : Int32)), .val (.int (0 : Int32)), .val (.ref w_FAILED), .val (.ref w_PENDING), .unset] [(.int ((33202 : Int32) >>> ((15 : Int32) &&& 31)))])) _
      rw [show ((33202 : Int32) >>> ((15 : Int32) &&& 31)) = (1 : Int32) from by decide]
      show OGot p.tables e below (T84.setTop (mkF m 49 #[.val (.int p1), .val (.int p2), .val (.int (3 : Int32)), .val (.int (0 : Int32)), .val (.ref w_FAILED), .val (.ref w_PENDING), .unset] [(.int (1 : Int32))])) _
      refine OGot.go (fun t k => XS.iconst X84.here hx rfl (hb hby at_49) k) ?_
      show OGot p.tables e below (T84.setTop (mkF m 50 #[.val (.int p1), .val (.int p2), .val (.int (3 : Int32)), .val (.int (0 : Int32)), .val (.ref w_FAILED), .val (.ref w_PENDING), .unset] [(.int (1 : Int32)), (.int (1 : Int32))])) _
      refine OGot.go (fun t k => XS.iand X84.here hx rfl (hb hby at_50) rfl k) ?_
      show OGot p.tables e below (T84.setTop (mkF m 51 #[.val (.int p1), .val (.int p2), .val (.int (3 : Int32)), .val (.int (0 : Int32)), .val (.ref w_FAILED), .val (.ref w_PENDING), .unset] [(.int ((1 : Int32) &&& (1 : Int32)))])) _
      rw [show ((1 : Int32) &&& (1 : Int32)) = (1 : Int32) from by decide]
      show OGot p.tables e below (T84.setTop (mkF m 51 #[.val (.int p1), .val (.int p2), .val (.int (3 : Int32)), .val (.int (0 : Int32)), .val (.ref w_FAILED), .val (.ref w_PENDING), .unset] [(.int (1 : Int32))])) _
      refine OGot.go (fun t k => XS.ifNo X84.here hx rfl (hb hby at_51) rfl (by decide) k) ?_
      show OGot p.tables e below (T84.setTop (mkF m 54 #[.val (.int p1), .val (.int p2), .val (.int (3 : Int32)), .val (.int (0 : Int32)), .val (.ref w_FAILED), .val (.ref w_PENDING), .unset] [])) _
      refine OGot.go (fun t k => XS.iconst X84.here hx rfl (hb hby at_54) k) ?_
      show OGot p.tables e below (T84.setTop (mkF m 55 #[.val (.int p1), .val (.int p2), .val (.int (3 : Int32)), .val (.int (0 : Int32)), .val (.ref w_FAILED), .val (.ref w_PENDING), .unset] [(.int (1 : Int32))])) _
      refine OGot.go (fun t k => XS.goto X84.here hx rfl (pc0 := 55) (pc' := 59) rfl (hb hby at_55) (by decide) (by decide) k) ?_
      show OGot p.tables e below (T84.setTop (mkF m 59 #[.val (.int p1), .val (.int p2), .val (.int (3 : Int32)), .val (.int (0 : Int32)), .val (.ref w_FAILED), .val (.ref w_PENDING), .unset] [(.int (1 : Int32))])) _
      refine OGot.go (fun t k => XS.istore X84.here hx rfl (hb hby at_59) rfl (l' := #[.val (.int p1), .val (.int p2), .val (.int (3 : Int32)), .val (.int (0 : Int32)), .val (.ref w_FAILED), .val (.ref w_PENDING), .val (.int (1 : Int32))]) rfl k) ?_
      show OGot p.tables e below (T84.setTop (mkF m 61 #[.val (.int p1), .val (.int p2), .val (.int (3 : Int32)), .val (.int (0 : Int32)), .val (.ref w_FAILED), .val (.ref w_PENDING), .val (.int (1 : Int32))] [])) _
      refine OGot.go (fun t k => XS.aload X84.here hx rfl (hb hby at_61) rfl rfl k) ?_
      show OGot p.tables e below (T84.setTop (mkF m 63 #[.val (.int p1), .val (.int p2), .val (.int (3 : Int32)), .val (.int (0 : Int32)), .val (.ref w_FAILED), .val (.ref w_PENDING), .val (.int (1 : Int32))] [(.ref w_FAILED)])) _
      refine OGot.go (fun t k => XS.aload X84.here hx rfl (hb hby at_63) rfl rfl k) ?_
      show OGot p.tables e below (T84.setTop (mkF m 65 #[.val (.int p1), .val (.int p2), .val (.int (3 : Int32)), .val (.int (0 : Int32)), .val (.ref w_FAILED), .val (.ref w_PENDING), .val (.int (1 : Int32))] [(.ref w_PENDING), (.ref w_FAILED)])) _
      obtain ⟨cq85, kq85, q85a, q85b, q85c⟩ := isOf hZ e84 (G.2.2.2.1.ext O0.2)
      obtain ⟨_, _, ⟨T85, L85, k85, n85⟩, -, X85, ⟨Lc85, hQ85, l85, y85, z85⟩, st85⟩ := X84.virtualBack hx (y := (⟨"com/example/hermit_crab/hermitcrab/JobState", "canMoveTo", "(Lcom/example/hermit_crab/hermitcrab/JobState;)Z"⟩ : MethodName)) (z := (⟨"com/example/hermit_crab/hermitcrab/JobState", "canMoveTo", "(Lcom/example/hermit_crab/hermitcrab/JobState;)Z"⟩ : MethodName)) hown (mvT hZ (ow hw 11 rfl)) (mvT hZ (ow hw 12 rfl)) (notFace_of_selects (args := #[]) (mvT hZ (ow hw 14 rfl))) (mvT hZ (ow hw 14 rfl)) (mvT hZ (ow hw 13 rfl)) (by decide) (backOf (W := 0) (rm2_18 l Z a0 hw [] G  h0 n0 O0 ) hZ (ow hw 15 rfl) (ow hw 6 rfl) (by decide) (by decide)) q85a q85c (g := (mkF m 65 #[.val (.int p1), .val (.int p2), .val (.int (3 : Int32)), .val (.int (0 : Int32)), .val (.ref w_FAILED), .val (.ref w_PENDING), .val (.int (1 : Int32))] [(.ref w_PENDING), (.ref w_FAILED)])) rfl (by rw [hml]; rfl) (Steps.refl _) (argsL := [(.ref w_PENDING)]) (rest := []) (lenOf pd_2 rfl) rfl (by show 2 * 0 + _ ≤ _; exact Nat.le_of_eq rfl) (hb hby at_65) (fun _ _ => ⟨rfl, e84, (by decide : 0 + 0 ≤ _), (by decide : 0 + 0 ≤ _)⟩)
      dsimp only [Pt.U, Pt.locs, Pt.cells, Pt.slots] at X85 l85 y85 z85 st85 hQ85
      subst l85 y85 z85
      obtain ⟨rfl, N85q, e85⟩ := hQ85
      have N85 := Fr.app N84 N85q
      refine OGot.on st85 ?_
      show OGot p.tables e below (T85.setTop (mkF m 68 #[.val (.int p1), .val (.int p2), .val (.int (3 : Int32)), .val (.int (0 : Int32)), .val (.ref w_FAILED), .val (.ref w_PENDING), .val (.int (1 : Int32))] [(.int (1 : Int32))])) _
      refine OGot.go (fun t k => XS.iload X85.here hx rfl (hb hby at_68) rfl k) ?_
      show OGot p.tables e below (T85.setTop (mkF m 70 #[.val (.int p1), .val (.int p2), .val (.int (3 : Int32)), .val (.int (0 : Int32)), .val (.ref w_FAILED), .val (.ref w_PENDING), .val (.int (1 : Int32))] [(.int (1 : Int32)), (.int (1 : Int32))])) _
      refine OGot.go (fun t k => XS.icmpNo X85.here hx rfl (hb hby at_70) rfl (by decide) k) ?_
      show OGot p.tables e below (T85.setTop (mkF m 73 #[.val (.int p1), .val (.int p2), .val (.int (3 : Int32)), .val (.int (0 : Int32)), .val (.ref w_FAILED), .val (.ref w_PENDING), .val (.int (1 : Int32))] [])) _
      refine OGot.go (fun t k => XS.iconst X85.here hx rfl (hb hby at_73) k) ?_
      show OGot p.tables e below (T85.setTop (mkF m 74 #[.val (.int p1), .val (.int p2), .val (.int (3 : Int32)), .val (.int (0 : Int32)), .val (.ref w_FAILED), .val (.ref w_PENDING), .val (.int (1 : Int32))] [(.int (1 : Int32))])) _
      refine OGot.go (fun t k => XS.goto X85.here hx rfl (pc0 := 74) (pc' := 78) rfl (hb hby at_74) (by decide) (by decide) k) ?_
      show OGot p.tables e below (T85.setTop (mkF m 78 #[.val (.int p1), .val (.int p2), .val (.int (3 : Int32)), .val (.int (0 : Int32)), .val (.ref w_FAILED), .val (.ref w_PENDING), .val (.int (1 : Int32))] [(.int (1 : Int32))])) _
      obtain ⟨fs, hr, hrun, hended, hW, hsame⟩ := X85.leave (v := some (.int (1 : Int32))) (fun h => by rw [Bd.returns] at h; cases h)
      refine ⟨_, _, retN X85 hx (t := .boolean) Bd.returns (by simp) (hb hby at_78) hr, hrun, hended, _, _, rfl, ?_, ⟨_, rfl⟩, hW, hsame.mono (by decide) (by decide)⟩
      exact (⟨rfl, N85⟩ : Q0 Z w_PENDING w_FAILED w_RUNNING w_CANCELLED w_COMPLETED p1 p2 h0 n0 _ T85.heap _)
    · rw [hk78]
      show OGot p.tables e below (s₁.setTop (mkF m 14 #[.val (.int p1), .val (.int p2), .val (.int (3 : Int32)), .unset, .unset, .unset, .unset] [(.int (1 : Int32))])) _
      refine OGot.go (fun t k => XS.istoreN X0.here hx rfl (hb hby at_14) rfl (l' := #[.val (.int p1), .val (.int p2), .val (.int (3 : Int32)), .val (.int (1 : Int32)), .unset, .unset, .unset]) rfl k) ?_
      show OGot p.tables e below (s₁.setTop (mkF m 15 #[.val (.int p1), .val (.int p2), .val (.int (3 : Int32)), .val (.int (1 : Int32)), .unset, .unset, .unset] [])) _
      refine OGot.go (fun t k => XS.iloadN X0.here hx rfl (hb hby at_15) rfl k) ?_
      show OGot p.tables e below (s₁.setTop (mkF m 16 #[.val (.int p1), .val (.int p2), .val (.int (3 : Int32)), .val (.int (1 : Int32)), .unset, .unset, .unset] [(.int (3 : Int32))])) _
      obtain ⟨_, _, ⟨T86, L86, k86, n86⟩, -, X86, ⟨Lc86, hQ86, l86, y86, z86⟩, st86⟩ := Jvm.LawKit.callS X0 hx (y := (⟨"com/example/hermit_crab/hermitcrab/JobStateCanMoveToPinLaw", "st", "(I)Lcom/example/hermit_crab/hermitcrab/JobState;"⟩ : MethodName)) hown (mvT hZ (ow hw 1 rfl)) (mvT hZ (ow hw 2 rfl)) (mvT hZ (ow hw 3 rfl)) (mvT hZ (ow hw 4 rfl)) (by decide) (backOf (W := 0) (rm1_3 l Z a0 hw [] G  h0 n0 O0 ) hZ (ow hw 4 rfl) (ow hw 3 rfl) (by decide) (by decide)) (g := (mkF m 16 #[.val (.int p1), .val (.int p2), .val (.int (3 : Int32)), .val (.int (1 : Int32)), .unset, .unset, .unset] [(.int (3 : Int32))])) rfl (by rw [hml]; rfl) (argsL := [(.int (3 : Int32))]) (rest := []) (lenOf pd_0 rfl) rfl (by show 2 * 0 + _ ≤ _; exact Nat.le_of_eq rfl) (hb hby at_16) (fun _ _ => ⟨rfl, e0, (by decide : 0 + 0 ≤ _), (by decide : 0 + 0 ≤ _)⟩)
      dsimp only [Pt.U, Pt.locs, Pt.cells, Pt.slots] at X86 l86 y86 z86 st86 hQ86
      subst l86 y86 z86
      obtain ⟨rfl, N86q, e86⟩ := hQ86
      have N86 := Fr.app N0 N86q
      refine OGot.go st86 ?_
      show OGot p.tables e below (T86.setTop (mkF m 19 #[.val (.int p1), .val (.int p2), .val (.int (3 : Int32)), .val (.int (1 : Int32)), .unset, .unset, .unset] [(.ref w_FAILED)])) _
      refine OGot.go (fun t k => XS.astore X86.here hx rfl (hb hby at_19) rfl rfl (l' := #[.val (.int p1), .val (.int p2), .val (.int (3 : Int32)), .val (.int (1 : Int32)), .val (.ref w_FAILED), .unset, .unset]) rfl k) ?_
      show OGot p.tables e below (T86.setTop (mkF m 21 #[.val (.int p1), .val (.int p2), .val (.int (3 : Int32)), .val (.int (1 : Int32)), .val (.ref w_FAILED), .unset, .unset] [])) _
      refine OGot.go (fun t k => XS.iloadN X86.here hx rfl (hb hby at_21) rfl k) ?_
      show OGot p.tables e below (T86.setTop (mkF m 22 #[.val (.int p1), .val (.int p2), .val (.int (3 : Int32)), .val (.int (1 : Int32)), .val (.ref w_FAILED), .unset, .unset] [(.int (1 : Int32))])) _
      refine OGot.go (fun t k => XS.iconst X86.here hx rfl (hb hby at_22) k) ?_
      show OGot p.tables e below (T86.setTop (mkF m 23 #[.val (.int p1), .val (.int p2), .val (.int (3 : Int32)), .val (.int (1 : Int32)), .val (.ref w_FAILED), .unset, .unset] [(.int (5 : Int32)), (.int (1 : Int32))])) _
      refine OGot.go (fun t k => XS.icmpYes X86.here hx rfl (pc0 := 23) (pc' := 30) rfl (hb hby at_23) rfl (by decide) (by decide) (by decide) k) ?_
      show OGot p.tables e below (T86.setTop (mkF m 30 #[.val (.int p1), .val (.int p2), .val (.int (3 : Int32)), .val (.int (1 : Int32)), .val (.ref w_FAILED), .unset, .unset] [])) _
      refine OGot.go (fun t k => XS.iloadN X86.here hx rfl (hb hby at_30) rfl k) ?_
      show OGot p.tables e below (T86.setTop (mkF m 31 #[.val (.int p1), .val (.int p2), .val (.int (3 : Int32)), .val (.int (1 : Int32)), .val (.ref w_FAILED), .unset, .unset] [(.int (1 : Int32))])) _
      obtain ⟨_, _, ⟨T87, L87, k87, n87⟩, -, X87, ⟨Lc87, hQ87, l87, y87, z87⟩, st87⟩ := Jvm.LawKit.callS X86 hx (y := (⟨"com/example/hermit_crab/hermitcrab/JobStateCanMoveToPinLaw", "st", "(I)Lcom/example/hermit_crab/hermitcrab/JobState;"⟩ : MethodName)) hown (mvT hZ (ow hw 1 rfl)) (mvT hZ (ow hw 2 rfl)) (mvT hZ (ow hw 3 rfl)) (mvT hZ (ow hw 4 rfl)) (by decide) (backOf (W := 0) (rm1_1 l Z a0 hw [] G  h0 n0 O0 ) hZ (ow hw 4 rfl) (ow hw 3 rfl) (by decide) (by decide)) (g := (mkF m 31 #[.val (.int p1), .val (.int p2), .val (.int (3 : Int32)), .val (.int (1 : Int32)), .val (.ref w_FAILED), .unset, .unset] [(.int (1 : Int32))])) rfl (by rw [hml]; rfl) (argsL := [(.int (1 : Int32))]) (rest := []) (lenOf pd_0 rfl) rfl (by show 2 * 0 + _ ≤ _; exact Nat.le_of_eq rfl) (hb hby at_31) (fun _ _ => ⟨rfl, e86, (by decide : 0 + 0 ≤ _), (by decide : 0 + 0 ≤ _)⟩)
      dsimp only [Pt.U, Pt.locs, Pt.cells, Pt.slots] at X87 l87 y87 z87 st87 hQ87
      subst l87 y87 z87
      obtain ⟨rfl, N87q, e87⟩ := hQ87
      have N87 := Fr.app N86 N87q
      refine OGot.go st87 ?_
      show OGot p.tables e below (T87.setTop (mkF m 34 #[.val (.int p1), .val (.int p2), .val (.int (3 : Int32)), .val (.int (1 : Int32)), .val (.ref w_FAILED), .unset, .unset] [(.ref w_RUNNING)])) _
      refine OGot.go (fun t k => XS.astore X87.here hx rfl (hb hby at_34) rfl rfl (l' := #[.val (.int p1), .val (.int p2), .val (.int (3 : Int32)), .val (.int (1 : Int32)), .val (.ref w_FAILED), .val (.ref w_RUNNING), .unset]) rfl k) ?_
      show OGot p.tables e below (T87.setTop (mkF m 36 #[.val (.int p1), .val (.int p2), .val (.int (3 : Int32)), .val (.int (1 : Int32)), .val (.ref w_FAILED), .val (.ref w_RUNNING), .unset] [])) _
      refine OGot.go (fun t k => XS.iloadN X87.here hx rfl (hb hby at_36) rfl k) ?_
      show OGot p.tables e below (T87.setTop (mkF m 37 #[.val (.int p1), .val (.int p2), .val (.int (3 : Int32)), .val (.int (1 : Int32)), .val (.ref w_FAILED), .val (.ref w_RUNNING), .unset] [(.int (1 : Int32))])) _
      refine OGot.go (fun t k => XS.iconst X87.here hx rfl (hb hby at_37) k) ?_
      show OGot p.tables e below (T87.setTop (mkF m 38 #[.val (.int p1), .val (.int p2), .val (.int (3 : Int32)), .val (.int (1 : Int32)), .val (.ref w_FAILED), .val (.ref w_RUNNING), .unset] [(.int (5 : Int32)), (.int (1 : Int32))])) _
      refine OGot.go (fun t k => XS.icmpNo X87.here hx rfl (hb hby at_38) rfl (by decide) k) ?_
      show OGot p.tables e below (T87.setTop (mkF m 41 #[.val (.int p1), .val (.int p2), .val (.int (3 : Int32)), .val (.int (1 : Int32)), .val (.ref w_FAILED), .val (.ref w_RUNNING), .unset] [])) _
      refine OGot.go (fun t k => X87.ldcInt hx hown (mvT hZ (ow hw 10 rfl)) (g := (mkF m 41 #[.val (.int p1), .val (.int p2), .val (.int (3 : Int32)), .val (.int (1 : Int32)), .val (.ref w_FAILED), .val (.ref w_RUNNING), .unset] [])) rfl (hb hby at_41) _ k) ?_
      show OGot p.tables e below (T87.setTop (mkF m 43 #[.val (.int p1), .val (.int p2), .val (.int (3 : Int32)), .val (.int (1 : Int32)), .val (.ref w_FAILED), .val (.ref w_RUNNING), .unset] [(.int (33202 : Int32))])) _
      refine OGot.go (fun t k => XS.iconst X87.here hx rfl (hb hby at_43) k) ?_
      show OGot p.tables e below (T87.setTop (mkF m 44 #[.val (.int p1), .val (.int p2), .val (.int (3 : Int32)), .val (.int (1 : Int32)), .val (.ref w_FAILED), .val (.ref w_RUNNING), .unset] [(.int (5 : Int32)), (.int (33202 : Int32))])) _
      refine OGot.go (fun t k => XS.iloadN X87.here hx rfl (hb hby at_44) rfl k) ?_
      show OGot p.tables e below (T87.setTop (mkF m 45 #[.val (.int p1), .val (.int p2), .val (.int (3 : Int32)), .val (.int (1 : Int32)), .val (.ref w_FAILED), .val (.ref w_RUNNING), .unset] [(.int (3 : Int32)), (.int (5 : Int32)), (.int (33202 : Int32))])) _
      refine OGot.go (fun t k => XS.imul X87.here hx rfl (hb hby at_45) rfl k) ?_
      show OGot p.tables e below (T87.setTop (mkF m 46 #[.val (.int p1), .val (.int p2), .val (.int (3 : Int32)), .val (.int (1 : Int32)), .val (.ref w_FAILED), .val (.ref w_RUNNING), .unset] [(.int ((5 : Int32) * (3 : Int32))), (.int (33202 : Int32))])) _
      rw [show ((5 : Int32) * (3 : Int32)) = (15 : Int32) from by decide]
      show OGot p.tables e below (T87.setTop (mkF m 46 #[.val (.int p1), .val (.int p2), .val (.int (3 : Int32)), .val (.int (1 : Int32)), .val (.ref w_FAILED), .val (.ref w_RUNNING), .unset] [(.int (15 : Int32)), (.int (33202 : Int32))])) _
      refine OGot.go (fun t k => XS.iloadN X87.here hx rfl (hb hby at_46) rfl k) ?_
      show OGot p.tables e below (T87.setTop (mkF m 47 #[.val (.int p1), .val (.int p2), .val (.int (3 : Int32)), .val (.int (1 : Int32)), .val (.ref w_FAILED), .val (.ref w_RUNNING), .unset] [(.int (1 : Int32)), (.int (15 : Int32)), (.int (33202 : Int32))])) _
      refine OGot.go (fun t k => XS.iadd X87.here hx rfl (hb hby at_47) rfl k) ?_
      show OGot p.tables e below (T87.setTop (mkF m 48 #[.val (.int p1), .val (.int p2), .val (.int (3 : Int32)), .val (.int (1 : Int32)), .val (.ref w_FAILED), .val (.ref w_RUNNING), .unset] [(.int ((15 : Int32) + (1 : Int32))), (.int (33202 : Int32))])) _
      rw [show ((15 : Int32) + (1 : Int32)) = (16 : Int32) from by decide]
      show OGot p.tables e below (T87.setTop (mkF m 48 #[.val (.int p1), .val (.int p2), .val (.int (3 : Int32)), .val (.int (1 : Int32)), .val (.ref w_FAILED), .val (.ref w_RUNNING), .unset] [(.int (16 : Int32)), (.int (33202 : Int32))])) _
      refine OGot.go (fun t k => XS.ishr X87.here hx rfl (hb hby at_48) rfl k) ?_
      show OGot p.tables e below (T87.setTop (mkF m 49 #[.val (.int p1), .val (.int p2), .val (.int (3 : Int32)), .val (.int (1 : Int32)), .val (.ref w_FAILED), .val (.ref w_RUNNING), .unset] [(.int ((33202 : Int32) >>> ((16 : Int32) &&& 31)))])) _
      rw [show ((33202 : Int32) >>> ((16 : Int32) &&& 31)) = (0 : Int32) from by decide]
      show OGot p.tables e below (T87.setTop (mkF m 49 #[.val (.int p1), .val (.int p2), .val (.int (3 : Int32)), .val (.int (1 : Int32)), .val (.ref w_FAILED), .val (.ref w_RUNNING), .unset] [(.int (0 : Int32))])) _
      refine OGot.go (fun t k => XS.iconst X87.here hx rfl (hb hby at_49) k) ?_
      show OGot p.tables e below (T87.setTop (mkF m 50 #[.val (.int p1), .val (.int p2), .val (.int (3 : Int32)), .val (.int (1 : Int32)), .val (.ref w_FAILED), .val (.ref w_RUNNING), .unset] [(.int (1 : Int32)), (.int (0 : Int32))])) _
      refine OGot.go (fun t k => XS.iand X87.here hx rfl (hb hby at_50) rfl k) ?_
      show OGot p.tables e below (T87.setTop (mkF m 51 #[.val (.int p1), .val (.int p2), .val (.int (3 : Int32)), .val (.int (1 : Int32)), .val (.ref w_FAILED), .val (.ref w_RUNNING), .unset] [(.int ((0 : Int32) &&& (1 : Int32)))])) _
      rw [show ((0 : Int32) &&& (1 : Int32)) = (0 : Int32) from by decide]
      show OGot p.tables e below (T87.setTop (mkF m 51 #[.val (.int p1), .val (.int p2), .val (.int (3 : Int32)), .val (.int (1 : Int32)), .val (.ref w_FAILED), .val (.ref w_RUNNING), .unset] [(.int (0 : Int32))])) _
      refine OGot.go (fun t k => XS.ifYes X87.here hx rfl (pc0 := 51) (pc' := 58) rfl (hb hby at_51) rfl (by decide) (by decide) (by decide) k) ?_
      show OGot p.tables e below (T87.setTop (mkF m 58 #[.val (.int p1), .val (.int p2), .val (.int (3 : Int32)), .val (.int (1 : Int32)), .val (.ref w_FAILED), .val (.ref w_RUNNING), .unset] [])) _
      refine OGot.go (fun t k => XS.iconst X87.here hx rfl (hb hby at_58) k) ?_
      show OGot p.tables e below (T87.setTop (mkF m 59 #[.val (.int p1), .val (.int p2), .val (.int (3 : Int32)), .val (.int (1 : Int32)), .val (.ref w_FAILED), .val (.ref w_RUNNING), .unset] [(.int (0 : Int32))])) _
      refine OGot.go (fun t k => XS.istore X87.here hx rfl (hb hby at_59) rfl (l' := #[.val (.int p1), .val (.int p2), .val (.int (3 : Int32)), .val (.int (1 : Int32)), .val (.ref w_FAILED), .val (.ref w_RUNNING), .val (.int (0 : Int32))]) rfl k) ?_
      show OGot p.tables e below (T87.setTop (mkF m 61 #[.val (.int p1), .val (.int p2), .val (.int (3 : Int32)), .val (.int (1 : Int32)), .val (.ref w_FAILED), .val (.ref w_RUNNING), .val (.int (0 : Int32))] [])) _
      refine OGot.go (fun t k => XS.aload X87.here hx rfl (hb hby at_61) rfl rfl k) ?_
      show OGot p.tables e below (T87.setTop (mkF m 63 #[.val (.int p1), .val (.int p2), .val (.int (3 : Int32)), .val (.int (1 : Int32)), .val (.ref w_FAILED), .val (.ref w_RUNNING), .val (.int (0 : Int32))] [(.ref w_FAILED)])) _
      refine OGot.go (fun t k => XS.aload X87.here hx rfl (hb hby at_63) rfl rfl k) ?_
      show OGot p.tables e below (T87.setTop (mkF m 65 #[.val (.int p1), .val (.int p2), .val (.int (3 : Int32)), .val (.int (1 : Int32)), .val (.ref w_FAILED), .val (.ref w_RUNNING), .val (.int (0 : Int32))] [(.ref w_RUNNING), (.ref w_FAILED)])) _
      obtain ⟨cq88, kq88, q88a, q88b, q88c⟩ := isOf hZ e87 (G.2.2.2.1.ext O0.2)
      obtain ⟨_, _, ⟨T88, L88, k88, n88⟩, -, X88, ⟨Lc88, hQ88, l88, y88, z88⟩, st88⟩ := X87.virtualBack hx (y := (⟨"com/example/hermit_crab/hermitcrab/JobState", "canMoveTo", "(Lcom/example/hermit_crab/hermitcrab/JobState;)Z"⟩ : MethodName)) (z := (⟨"com/example/hermit_crab/hermitcrab/JobState", "canMoveTo", "(Lcom/example/hermit_crab/hermitcrab/JobState;)Z"⟩ : MethodName)) hown (mvT hZ (ow hw 11 rfl)) (mvT hZ (ow hw 12 rfl)) (notFace_of_selects (args := #[]) (mvT hZ (ow hw 14 rfl))) (mvT hZ (ow hw 14 rfl)) (mvT hZ (ow hw 13 rfl)) (by decide) (backOf (W := 0) (rm2_19 l Z a0 hw [] G  h0 n0 O0 ) hZ (ow hw 15 rfl) (ow hw 6 rfl) (by decide) (by decide)) q88a q88c (g := (mkF m 65 #[.val (.int p1), .val (.int p2), .val (.int (3 : Int32)), .val (.int (1 : Int32)), .val (.ref w_FAILED), .val (.ref w_RUNNING), .val (.int (0 : Int32))] [(.ref w_RUNNING), (.ref w_FAILED)])) rfl (by rw [hml]; rfl) (Steps.refl _) (argsL := [(.ref w_RUNNING)]) (rest := []) (lenOf pd_2 rfl) rfl (by show 2 * 0 + _ ≤ _; exact Nat.le_of_eq rfl) (hb hby at_65) (fun _ _ => ⟨rfl, e87, (by decide : 0 + 0 ≤ _), (by decide : 0 + 0 ≤ _)⟩)
      dsimp only [Pt.U, Pt.locs, Pt.cells, Pt.slots] at X88 l88 y88 z88 st88 hQ88
      subst l88 y88 z88
      obtain ⟨rfl, N88q, e88⟩ := hQ88
      have N88 := Fr.app N87 N88q
      refine OGot.on st88 ?_
      show OGot p.tables e below (T88.setTop (mkF m 68 #[.val (.int p1), .val (.int p2), .val (.int (3 : Int32)), .val (.int (1 : Int32)), .val (.ref w_FAILED), .val (.ref w_RUNNING), .val (.int (0 : Int32))] [(.int (0 : Int32))])) _
      refine OGot.go (fun t k => XS.iload X88.here hx rfl (hb hby at_68) rfl k) ?_
      show OGot p.tables e below (T88.setTop (mkF m 70 #[.val (.int p1), .val (.int p2), .val (.int (3 : Int32)), .val (.int (1 : Int32)), .val (.ref w_FAILED), .val (.ref w_RUNNING), .val (.int (0 : Int32))] [(.int (0 : Int32)), (.int (0 : Int32))])) _
      refine OGot.go (fun t k => XS.icmpNo X88.here hx rfl (hb hby at_70) rfl (by decide) k) ?_
      show OGot p.tables e below (T88.setTop (mkF m 73 #[.val (.int p1), .val (.int p2), .val (.int (3 : Int32)), .val (.int (1 : Int32)), .val (.ref w_FAILED), .val (.ref w_RUNNING), .val (.int (0 : Int32))] [])) _
      refine OGot.go (fun t k => XS.iconst X88.here hx rfl (hb hby at_73) k) ?_
      show OGot p.tables e below (T88.setTop (mkF m 74 #[.val (.int p1), .val (.int p2), .val (.int (3 : Int32)), .val (.int (1 : Int32)), .val (.ref w_FAILED), .val (.ref w_RUNNING), .val (.int (0 : Int32))] [(.int (1 : Int32))])) _
      refine OGot.go (fun t k => XS.goto X88.here hx rfl (pc0 := 74) (pc' := 78) rfl (hb hby at_74) (by decide) (by decide) k) ?_
      show OGot p.tables e below (T88.setTop (mkF m 78 #[.val (.int p1), .val (.int p2), .val (.int (3 : Int32)), .val (.int (1 : Int32)), .val (.ref w_FAILED), .val (.ref w_RUNNING), .val (.int (0 : Int32))] [(.int (1 : Int32))])) _
      obtain ⟨fs, hr, hrun, hended, hW, hsame⟩ := X88.leave (v := some (.int (1 : Int32))) (fun h => by rw [Bd.returns] at h; cases h)
      refine ⟨_, _, retN X88 hx (t := .boolean) Bd.returns (by simp) (hb hby at_78) hr, hrun, hended, _, _, rfl, ?_, ⟨_, rfl⟩, hW, hsame.mono (by decide) (by decide)⟩
      exact (⟨rfl, N88⟩ : Q0 Z w_PENDING w_FAILED w_RUNNING w_CANCELLED w_COMPLETED p1 p2 h0 n0 _ T88.heap _)
    · rw [hk79]
      show OGot p.tables e below (s₁.setTop (mkF m 14 #[.val (.int p1), .val (.int p2), .val (.int (3 : Int32)), .unset, .unset, .unset, .unset] [(.int (2 : Int32))])) _
      refine OGot.go (fun t k => XS.istoreN X0.here hx rfl (hb hby at_14) rfl (l' := #[.val (.int p1), .val (.int p2), .val (.int (3 : Int32)), .val (.int (2 : Int32)), .unset, .unset, .unset]) rfl k) ?_
      show OGot p.tables e below (s₁.setTop (mkF m 15 #[.val (.int p1), .val (.int p2), .val (.int (3 : Int32)), .val (.int (2 : Int32)), .unset, .unset, .unset] [])) _
      refine OGot.go (fun t k => XS.iloadN X0.here hx rfl (hb hby at_15) rfl k) ?_
      show OGot p.tables e below (s₁.setTop (mkF m 16 #[.val (.int p1), .val (.int p2), .val (.int (3 : Int32)), .val (.int (2 : Int32)), .unset, .unset, .unset] [(.int (3 : Int32))])) _
      obtain ⟨_, _, ⟨T89, L89, k89, n89⟩, -, X89, ⟨Lc89, hQ89, l89, y89, z89⟩, st89⟩ := Jvm.LawKit.callS X0 hx (y := (⟨"com/example/hermit_crab/hermitcrab/JobStateCanMoveToPinLaw", "st", "(I)Lcom/example/hermit_crab/hermitcrab/JobState;"⟩ : MethodName)) hown (mvT hZ (ow hw 1 rfl)) (mvT hZ (ow hw 2 rfl)) (mvT hZ (ow hw 3 rfl)) (mvT hZ (ow hw 4 rfl)) (by decide) (backOf (W := 0) (rm1_3 l Z a0 hw [] G  h0 n0 O0 ) hZ (ow hw 4 rfl) (ow hw 3 rfl) (by decide) (by decide)) (g := (mkF m 16 #[.val (.int p1), .val (.int p2), .val (.int (3 : Int32)), .val (.int (2 : Int32)), .unset, .unset, .unset] [(.int (3 : Int32))])) rfl (by rw [hml]; rfl) (argsL := [(.int (3 : Int32))]) (rest := []) (lenOf pd_0 rfl) rfl (by show 2 * 0 + _ ≤ _; exact Nat.le_of_eq rfl) (hb hby at_16) (fun _ _ => ⟨rfl, e0, (by decide : 0 + 0 ≤ _), (by decide : 0 + 0 ≤ _)⟩)
      dsimp only [Pt.U, Pt.locs, Pt.cells, Pt.slots] at X89 l89 y89 z89 st89 hQ89
      subst l89 y89 z89
      obtain ⟨rfl, N89q, e89⟩ := hQ89
      have N89 := Fr.app N0 N89q
      refine OGot.go st89 ?_
      show OGot p.tables e below (T89.setTop (mkF m 19 #[.val (.int p1), .val (.int p2), .val (.int (3 : Int32)), .val (.int (2 : Int32)), .unset, .unset, .unset] [(.ref w_FAILED)])) _
      refine OGot.go (fun t k => XS.astore X89.here hx rfl (hb hby at_19) rfl rfl (l' := #[.val (.int p1), .val (.int p2), .val (.int (3 : Int32)), .val (.int (2 : Int32)), .val (.ref w_FAILED), .unset, .unset]) rfl k) ?_
      show OGot p.tables e below (T89.setTop (mkF m 21 #[.val (.int p1), .val (.int p2), .val (.int (3 : Int32)), .val (.int (2 : Int32)), .val (.ref w_FAILED), .unset, .unset] [])) _
      refine OGot.go (fun t k => XS.iloadN X89.here hx rfl (hb hby at_21) rfl k) ?_
      show OGot p.tables e below (T89.setTop (mkF m 22 #[.val (.int p1), .val (.int p2), .val (.int (3 : Int32)), .val (.int (2 : Int32)), .val (.ref w_FAILED), .unset, .unset] [(.int (2 : Int32))])) _
      refine OGot.go (fun t k => XS.iconst X89.here hx rfl (hb hby at_22) k) ?_
      show OGot p.tables e below (T89.setTop (mkF m 23 #[.val (.int p1), .val (.int p2), .val (.int (3 : Int32)), .val (.int (2 : Int32)), .val (.ref w_FAILED), .unset, .unset] [(.int (5 : Int32)), (.int (2 : Int32))])) _
      refine OGot.go (fun t k => XS.icmpYes X89.here hx rfl (pc0 := 23) (pc' := 30) rfl (hb hby at_23) rfl (by decide) (by decide) (by decide) k) ?_
      show OGot p.tables e below (T89.setTop (mkF m 30 #[.val (.int p1), .val (.int p2), .val (.int (3 : Int32)), .val (.int (2 : Int32)), .val (.ref w_FAILED), .unset, .unset] [])) _
      refine OGot.go (fun t k => XS.iloadN X89.here hx rfl (hb hby at_30) rfl k) ?_
      show OGot p.tables e below (T89.setTop (mkF m 31 #[.val (.int p1), .val (.int p2), .val (.int (3 : Int32)), .val (.int (2 : Int32)), .val (.ref w_FAILED), .unset, .unset] [(.int (2 : Int32))])) _
      obtain ⟨_, _, ⟨T90, L90, k90, n90⟩, -, X90, ⟨Lc90, hQ90, l90, y90, z90⟩, st90⟩ := Jvm.LawKit.callS X89 hx (y := (⟨"com/example/hermit_crab/hermitcrab/JobStateCanMoveToPinLaw", "st", "(I)Lcom/example/hermit_crab/hermitcrab/JobState;"⟩ : MethodName)) hown (mvT hZ (ow hw 1 rfl)) (mvT hZ (ow hw 2 rfl)) (mvT hZ (ow hw 3 rfl)) (mvT hZ (ow hw 4 rfl)) (by decide) (backOf (W := 0) (rm1_2 l Z a0 hw [] G  h0 n0 O0 ) hZ (ow hw 4 rfl) (ow hw 3 rfl) (by decide) (by decide)) (g := (mkF m 31 #[.val (.int p1), .val (.int p2), .val (.int (3 : Int32)), .val (.int (2 : Int32)), .val (.ref w_FAILED), .unset, .unset] [(.int (2 : Int32))])) rfl (by rw [hml]; rfl) (argsL := [(.int (2 : Int32))]) (rest := []) (lenOf pd_0 rfl) rfl (by show 2 * 0 + _ ≤ _; exact Nat.le_of_eq rfl) (hb hby at_31) (fun _ _ => ⟨rfl, e89, (by decide : 0 + 0 ≤ _), (by decide : 0 + 0 ≤ _)⟩)
      dsimp only [Pt.U, Pt.locs, Pt.cells, Pt.slots] at X90 l90 y90 z90 st90 hQ90
      subst l90 y90 z90
      obtain ⟨rfl, N90q, e90⟩ := hQ90
      have N90 := Fr.app N89 N90q
      refine OGot.go st90 ?_
      show OGot p.tables e below (T90.setTop (mkF m 34 #[.val (.int p1), .val (.int p2), .val (.int (3 : Int32)), .val (.int (2 : Int32)), .val (.ref w_FAILED), .unset, .unset] [(.ref w_COMPLETED)])) _
      refine OGot.go (fun t k => XS.astore X90.here hx rfl (hb hby at_34) rfl rfl (l' := #[.val (.int p1), .val (.int p2), .val (.int (3 : Int32)), .val (.int (2 : Int32)), .val (.ref w_FAILED), .val (.ref w_COMPLETED), .unset]) rfl k) ?_
      show OGot p.tables e below (T90.setTop (mkF m 36 #[.val (.int p1), .val (.int p2), .val (.int (3 : Int32)), .val (.int (2 : Int32)), .val (.ref w_FAILED), .val (.ref w_COMPLETED), .unset] [])) _
      refine OGot.go (fun t k => XS.iloadN X90.here hx rfl (hb hby at_36) rfl k) ?_
      show OGot p.tables e below (T90.setTop (mkF m 37 #[.val (.int p1), .val (.int p2), .val (.int (3 : Int32)), .val (.int (2 : Int32)), .val (.ref w_FAILED), .val (.ref w_COMPLETED), .unset] [(.int (2 : Int32))])) _
      refine OGot.go (fun t k => XS.iconst X90.here hx rfl (hb hby at_37) k) ?_
      show OGot p.tables e below (T90.setTop (mkF m 38 #[.val (.int p1), .val (.int p2), .val (.int (3 : Int32)), .val (.int (2 : Int32)), .val (.ref w_FAILED), .val (.ref w_COMPLETED), .unset] [(.int (5 : Int32)), (.int (2 : Int32))])) _
      refine OGot.go (fun t k => XS.icmpNo X90.here hx rfl (hb hby at_38) rfl (by decide) k) ?_
      show OGot p.tables e below (T90.setTop (mkF m 41 #[.val (.int p1), .val (.int p2), .val (.int (3 : Int32)), .val (.int (2 : Int32)), .val (.ref w_FAILED), .val (.ref w_COMPLETED), .unset] [])) _
      refine OGot.go (fun t k => X90.ldcInt hx hown (mvT hZ (ow hw 10 rfl)) (g := (mkF m 41 #[.val (.int p1), .val (.int p2), .val (.int (3 : Int32)), .val (.int (2 : Int32)), .val (.ref w_FAILED), .val (.ref w_COMPLETED), .unset] [])) rfl (hb hby at_41) _ k) ?_
      show OGot p.tables e below (T90.setTop (mkF m 43 #[.val (.int p1), .val (.int p2), .val (.int (3 : Int32)), .val (.int (2 : Int32)), .val (.ref w_FAILED), .val (.ref w_COMPLETED), .unset] [(.int (33202 : Int32))])) _
      refine OGot.go (fun t k => XS.iconst X90.here hx rfl (hb hby at_43) k) ?_
      show OGot p.tables e below (T90.setTop (mkF m 44 #[.val (.int p1), .val (.int p2), .val (.int (3 : Int32)), .val (.int (2 : Int32)), .val (.ref w_FAILED), .val (.ref w_COMPLETED), .unset] [(.int (5 : Int32)), (.int (33202 : Int32))])) _
      refine OGot.go (fun t k => XS.iloadN X90.here hx rfl (hb hby at_44) rfl k) ?_
      show OGot p.tables e below (T90.setTop (mkF m 45 #[.val (.int p1), .val (.int p2), .val (.int (3 : Int32)), .val (.int (2 : Int32)), .val (.ref w_FAILED), .val (.ref w_COMPLETED), .unset] [(.int (3 : Int32)), (.int (5 : Int32)), (.int (33202 : Int32))])) _
      refine OGot.go (fun t k => XS.imul X90.here hx rfl (hb hby at_45) rfl k) ?_
      show OGot p.tables e below (T90.setTop (mkF m 46 #[.val (.int p1), .val (.int p2), .val (.int (3 : Int32)), .val (.int (2 : Int32)), .val (.ref w_FAILED), .val (.ref w_COMPLETED), .unset] [(.int ((5 : Int32) * (3 : Int32))), (.int (33202 : Int32))])) _
      rw [show ((5 : Int32) * (3 : Int32)) = (15 : Int32) from by decide]
      show OGot p.tables e below (T90.setTop (mkF m 46 #[.val (.int p1), .val (.int p2), .val (.int (3 : Int32)), .val (.int (2 : Int32)), .val (.ref w_FAILED), .val (.ref w_COMPLETED), .unset] [(.int (15 : Int32)), (.int (33202 : Int32))])) _
      refine OGot.go (fun t k => XS.iloadN X90.here hx rfl (hb hby at_46) rfl k) ?_
      show OGot p.tables e below (T90.setTop (mkF m 47 #[.val (.int p1), .val (.int p2), .val (.int (3 : Int32)), .val (.int (2 : Int32)), .val (.ref w_FAILED), .val (.ref w_COMPLETED), .unset] [(.int (2 : Int32)), (.int (15 : Int32)), (.int (33202 : Int32))])) _
      refine OGot.go (fun t k => XS.iadd X90.here hx rfl (hb hby at_47) rfl k) ?_
      show OGot p.tables e below (T90.setTop (mkF m 48 #[.val (.int p1), .val (.int p2), .val (.int (3 : Int32)), .val (.int (2 : Int32)), .val (.ref w_FAILED), .val (.ref w_COMPLETED), .unset] [(.int ((15 : Int32) + (2 : Int32))), (.int (33202 : Int32))])) _
      rw [show ((15 : Int32) + (2 : Int32)) = (17 : Int32) from by decide]
      show OGot p.tables e below (T90.setTop (mkF m 48 #[.val (.int p1), .val (.int p2), .val (.int (3 : Int32)), .val (.int (2 : Int32)), .val (.ref w_FAILED), .val (.ref w_COMPLETED), .unset] [(.int (17 : Int32)), (.int (33202 : Int32))])) _
      refine OGot.go (fun t k => XS.ishr X90.here hx rfl (hb hby at_48) rfl k) ?_
      show OGot p.tables e below (T90.setTop (mkF m 49 #[.val (.int p1), .val (.int p2), .val (.int (3 : Int32)), .val (.int (2 : Int32)), .val (.ref w_FAILED), .val (.ref w_COMPLETED), .unset] [(.int ((33202 : Int32) >>> ((17 : Int32) &&& 31)))])) _
      rw [show ((33202 : Int32) >>> ((17 : Int32) &&& 31)) = (0 : Int32) from by decide]
      show OGot p.tables e below (T90.setTop (mkF m 49 #[.val (.int p1), .val (.int p2), .val (.int (3 : Int32)), .val (.int (2 : Int32)), .val (.ref w_FAILED), .val (.ref w_COMPLETED), .unset] [(.int (0 : Int32))])) _
      refine OGot.go (fun t k => XS.iconst X90.here hx rfl (hb hby at_49) k) ?_
      show OGot p.tables e below (T90.setTop (mkF m 50 #[.val (.int p1), .val (.int p2), .val (.int (3 : Int32)), .val (.int (2 : Int32)), .val (.ref w_FAILED), .val (.ref w_COMPLETED), .unset] [(.int (1 : Int32)), (.int (0 : Int32))])) _
      refine OGot.go (fun t k => XS.iand X90.here hx rfl (hb hby at_50) rfl k) ?_
      show OGot p.tables e below (T90.setTop (mkF m 51 #[.val (.int p1), .val (.int p2), .val (.int (3 : Int32)), .val (.int (2 : Int32)), .val (.ref w_FAILED), .val (.ref w_COMPLETED), .unset] [(.int ((0 : Int32) &&& (1 : Int32)))])) _
      rw [show ((0 : Int32) &&& (1 : Int32)) = (0 : Int32) from by decide]
      show OGot p.tables e below (T90.setTop (mkF m 51 #[.val (.int p1), .val (.int p2), .val (.int (3 : Int32)), .val (.int (2 : Int32)), .val (.ref w_FAILED), .val (.ref w_COMPLETED), .unset] [(.int (0 : Int32))])) _
      refine OGot.go (fun t k => XS.ifYes X90.here hx rfl (pc0 := 51) (pc' := 58) rfl (hb hby at_51) rfl (by decide) (by decide) (by decide) k) ?_
      show OGot p.tables e below (T90.setTop (mkF m 58 #[.val (.int p1), .val (.int p2), .val (.int (3 : Int32)), .val (.int (2 : Int32)), .val (.ref w_FAILED), .val (.ref w_COMPLETED), .unset] [])) _
      refine OGot.go (fun t k => XS.iconst X90.here hx rfl (hb hby at_58) k) ?_
      show OGot p.tables e below (T90.setTop (mkF m 59 #[.val (.int p1), .val (.int p2), .val (.int (3 : Int32)), .val (.int (2 : Int32)), .val (.ref w_FAILED), .val (.ref w_COMPLETED), .unset] [(.int (0 : Int32))])) _
      refine OGot.go (fun t k => XS.istore X90.here hx rfl (hb hby at_59) rfl (l' := #[.val (.int p1), .val (.int p2), .val (.int (3 : Int32)), .val (.int (2 : Int32)), .val (.ref w_FAILED), .val (.ref w_COMPLETED), .val (.int (0 : Int32))]) rfl k) ?_
      show OGot p.tables e below (T90.setTop (mkF m 61 #[.val (.int p1), .val (.int p2), .val (.int (3 : Int32)), .val (.int (2 : Int32)), .val (.ref w_FAILED), .val (.ref w_COMPLETED), .val (.int (0 : Int32))] [])) _
      refine OGot.go (fun t k => XS.aload X90.here hx rfl (hb hby at_61) rfl rfl k) ?_
      show OGot p.tables e below (T90.setTop (mkF m 63 #[.val (.int p1), .val (.int p2), .val (.int (3 : Int32)), .val (.int (2 : Int32)), .val (.ref w_FAILED), .val (.ref w_COMPLETED), .val (.int (0 : Int32))] [(.ref w_FAILED)])) _
      refine OGot.go (fun t k => XS.aload X90.here hx rfl (hb hby at_63) rfl rfl k) ?_
      show OGot p.tables e below (T90.setTop (mkF m 65 #[.val (.int p1), .val (.int p2), .val (.int (3 : Int32)), .val (.int (2 : Int32)), .val (.ref w_FAILED), .val (.ref w_COMPLETED), .val (.int (0 : Int32))] [(.ref w_COMPLETED), (.ref w_FAILED)])) _
      obtain ⟨cq91, kq91, q91a, q91b, q91c⟩ := isOf hZ e90 (G.2.2.2.1.ext O0.2)
      obtain ⟨_, _, ⟨T91, L91, k91, n91⟩, -, X91, ⟨Lc91, hQ91, l91, y91, z91⟩, st91⟩ := X90.virtualBack hx (y := (⟨"com/example/hermit_crab/hermitcrab/JobState", "canMoveTo", "(Lcom/example/hermit_crab/hermitcrab/JobState;)Z"⟩ : MethodName)) (z := (⟨"com/example/hermit_crab/hermitcrab/JobState", "canMoveTo", "(Lcom/example/hermit_crab/hermitcrab/JobState;)Z"⟩ : MethodName)) hown (mvT hZ (ow hw 11 rfl)) (mvT hZ (ow hw 12 rfl)) (notFace_of_selects (args := #[]) (mvT hZ (ow hw 14 rfl))) (mvT hZ (ow hw 14 rfl)) (mvT hZ (ow hw 13 rfl)) (by decide) (backOf (W := 0) (rm2_20 l Z a0 hw [] G  h0 n0 O0 ) hZ (ow hw 15 rfl) (ow hw 6 rfl) (by decide) (by decide)) q91a q91c (g := (mkF m 65 #[.val (.int p1), .val (.int p2), .val (.int (3 : Int32)), .val (.int (2 : Int32)), .val (.ref w_FAILED), .val (.ref w_COMPLETED), .val (.int (0 : Int32))] [(.ref w_COMPLETED), (.ref w_FAILED)])) rfl (by rw [hml]; rfl) (Steps.refl _) (argsL := [(.ref w_COMPLETED)]) (rest := []) (lenOf pd_2 rfl) rfl (by show 2 * 0 + _ ≤ _; exact Nat.le_of_eq rfl) (hb hby at_65) (fun _ _ => ⟨rfl, e90, (by decide : 0 + 0 ≤ _), (by decide : 0 + 0 ≤ _)⟩)
      dsimp only [Pt.U, Pt.locs, Pt.cells, Pt.slots] at X91 l91 y91 z91 st91 hQ91
      subst l91 y91 z91
      obtain ⟨rfl, N91q, e91⟩ := hQ91
      have N91 := Fr.app N90 N91q
      refine OGot.on st91 ?_
      show OGot p.tables e below (T91.setTop (mkF m 68 #[.val (.int p1), .val (.int p2), .val (.int (3 : Int32)), .val (.int (2 : Int32)), .val (.ref w_FAILED), .val (.ref w_COMPLETED), .val (.int (0 : Int32))] [(.int (0 : Int32))])) _
      refine OGot.go (fun t k => XS.iload X91.here hx rfl (hb hby at_68) rfl k) ?_
      show OGot p.tables e below (T91.setTop (mkF m 70 #[.val (.int p1), .val (.int p2), .val (.int (3 : Int32)), .val (.int (2 : Int32)), .val (.ref w_FAILED), .val (.ref w_COMPLETED), .val (.int (0 : Int32))] [(.int (0 : Int32)), (.int (0 : Int32))])) _
      refine OGot.go (fun t k => XS.icmpNo X91.here hx rfl (hb hby at_70) rfl (by decide) k) ?_
      show OGot p.tables e below (T91.setTop (mkF m 73 #[.val (.int p1), .val (.int p2), .val (.int (3 : Int32)), .val (.int (2 : Int32)), .val (.ref w_FAILED), .val (.ref w_COMPLETED), .val (.int (0 : Int32))] [])) _
      refine OGot.go (fun t k => XS.iconst X91.here hx rfl (hb hby at_73) k) ?_
      show OGot p.tables e below (T91.setTop (mkF m 74 #[.val (.int p1), .val (.int p2), .val (.int (3 : Int32)), .val (.int (2 : Int32)), .val (.ref w_FAILED), .val (.ref w_COMPLETED), .val (.int (0 : Int32))] [(.int (1 : Int32))])) _
      refine OGot.go (fun t k => XS.goto X91.here hx rfl (pc0 := 74) (pc' := 78) rfl (hb hby at_74) (by decide) (by decide) k) ?_
      show OGot p.tables e below (T91.setTop (mkF m 78 #[.val (.int p1), .val (.int p2), .val (.int (3 : Int32)), .val (.int (2 : Int32)), .val (.ref w_FAILED), .val (.ref w_COMPLETED), .val (.int (0 : Int32))] [(.int (1 : Int32))])) _
      obtain ⟨fs, hr, hrun, hended, hW, hsame⟩ := X91.leave (v := some (.int (1 : Int32))) (fun h => by rw [Bd.returns] at h; cases h)
      refine ⟨_, _, retN X91 hx (t := .boolean) Bd.returns (by simp) (hb hby at_78) hr, hrun, hended, _, _, rfl, ?_, ⟨_, rfl⟩, hW, hsame.mono (by decide) (by decide)⟩
      exact (⟨rfl, N91⟩ : Q0 Z w_PENDING w_FAILED w_RUNNING w_CANCELLED w_COMPLETED p1 p2 h0 n0 _ T91.heap _)
    · rw [hk80]
      show OGot p.tables e below (s₁.setTop (mkF m 14 #[.val (.int p1), .val (.int p2), .val (.int (3 : Int32)), .unset, .unset, .unset, .unset] [(.int (3 : Int32))])) _
      refine OGot.go (fun t k => XS.istoreN X0.here hx rfl (hb hby at_14) rfl (l' := #[.val (.int p1), .val (.int p2), .val (.int (3 : Int32)), .val (.int (3 : Int32)), .unset, .unset, .unset]) rfl k) ?_
      show OGot p.tables e below (s₁.setTop (mkF m 15 #[.val (.int p1), .val (.int p2), .val (.int (3 : Int32)), .val (.int (3 : Int32)), .unset, .unset, .unset] [])) _
      refine OGot.go (fun t k => XS.iloadN X0.here hx rfl (hb hby at_15) rfl k) ?_
      show OGot p.tables e below (s₁.setTop (mkF m 16 #[.val (.int p1), .val (.int p2), .val (.int (3 : Int32)), .val (.int (3 : Int32)), .unset, .unset, .unset] [(.int (3 : Int32))])) _
      obtain ⟨_, _, ⟨T92, L92, k92, n92⟩, -, X92, ⟨Lc92, hQ92, l92, y92, z92⟩, st92⟩ := Jvm.LawKit.callS X0 hx (y := (⟨"com/example/hermit_crab/hermitcrab/JobStateCanMoveToPinLaw", "st", "(I)Lcom/example/hermit_crab/hermitcrab/JobState;"⟩ : MethodName)) hown (mvT hZ (ow hw 1 rfl)) (mvT hZ (ow hw 2 rfl)) (mvT hZ (ow hw 3 rfl)) (mvT hZ (ow hw 4 rfl)) (by decide) (backOf (W := 0) (rm1_3 l Z a0 hw [] G  h0 n0 O0 ) hZ (ow hw 4 rfl) (ow hw 3 rfl) (by decide) (by decide)) (g := (mkF m 16 #[.val (.int p1), .val (.int p2), .val (.int (3 : Int32)), .val (.int (3 : Int32)), .unset, .unset, .unset] [(.int (3 : Int32))])) rfl (by rw [hml]; rfl) (argsL := [(.int (3 : Int32))]) (rest := []) (lenOf pd_0 rfl) rfl (by show 2 * 0 + _ ≤ _; exact Nat.le_of_eq rfl) (hb hby at_16) (fun _ _ => ⟨rfl, e0, (by decide : 0 + 0 ≤ _), (by decide : 0 + 0 ≤ _)⟩)
      dsimp only [Pt.U, Pt.locs, Pt.cells, Pt.slots] at X92 l92 y92 z92 st92 hQ92
      subst l92 y92 z92
      obtain ⟨rfl, N92q, e92⟩ := hQ92
      have N92 := Fr.app N0 N92q
      refine OGot.go st92 ?_
      show OGot p.tables e below (T92.setTop (mkF m 19 #[.val (.int p1), .val (.int p2), .val (.int (3 : Int32)), .val (.int (3 : Int32)), .unset, .unset, .unset] [(.ref w_FAILED)])) _
      refine OGot.go (fun t k => XS.astore X92.here hx rfl (hb hby at_19) rfl rfl (l' := #[.val (.int p1), .val (.int p2), .val (.int (3 : Int32)), .val (.int (3 : Int32)), .val (.ref w_FAILED), .unset, .unset]) rfl k) ?_
      show OGot p.tables e below (T92.setTop (mkF m 21 #[.val (.int p1), .val (.int p2), .val (.int (3 : Int32)), .val (.int (3 : Int32)), .val (.ref w_FAILED), .unset, .unset] [])) _
      refine OGot.go (fun t k => XS.iloadN X92.here hx rfl (hb hby at_21) rfl k) ?_
      show OGot p.tables e below (T92.setTop (mkF m 22 #[.val (.int p1), .val (.int p2), .val (.int (3 : Int32)), .val (.int (3 : Int32)), .val (.ref w_FAILED), .unset, .unset] [(.int (3 : Int32))])) _
      refine OGot.go (fun t k => XS.iconst X92.here hx rfl (hb hby at_22) k) ?_
      show OGot p.tables e below (T92.setTop (mkF m 23 #[.val (.int p1), .val (.int p2), .val (.int (3 : Int32)), .val (.int (3 : Int32)), .val (.ref w_FAILED), .unset, .unset] [(.int (5 : Int32)), (.int (3 : Int32))])) _
      refine OGot.go (fun t k => XS.icmpYes X92.here hx rfl (pc0 := 23) (pc' := 30) rfl (hb hby at_23) rfl (by decide) (by decide) (by decide) k) ?_
      show OGot p.tables e below (T92.setTop (mkF m 30 #[.val (.int p1), .val (.int p2), .val (.int (3 : Int32)), .val (.int (3 : Int32)), .val (.ref w_FAILED), .unset, .unset] [])) _
      refine OGot.go (fun t k => XS.iloadN X92.here hx rfl (hb hby at_30) rfl k) ?_
      show OGot p.tables e below (T92.setTop (mkF m 31 #[.val (.int p1), .val (.int p2), .val (.int (3 : Int32)), .val (.int (3 : Int32)), .val (.ref w_FAILED), .unset, .unset] [(.int (3 : Int32))])) _
      obtain ⟨_, _, ⟨T93, L93, k93, n93⟩, -, X93, ⟨Lc93, hQ93, l93, y93, z93⟩, st93⟩ := Jvm.LawKit.callS X92 hx (y := (⟨"com/example/hermit_crab/hermitcrab/JobStateCanMoveToPinLaw", "st", "(I)Lcom/example/hermit_crab/hermitcrab/JobState;"⟩ : MethodName)) hown (mvT hZ (ow hw 1 rfl)) (mvT hZ (ow hw 2 rfl)) (mvT hZ (ow hw 3 rfl)) (mvT hZ (ow hw 4 rfl)) (by decide) (backOf (W := 0) (rm1_3 l Z a0 hw [] G  h0 n0 O0 ) hZ (ow hw 4 rfl) (ow hw 3 rfl) (by decide) (by decide)) (g := (mkF m 31 #[.val (.int p1), .val (.int p2), .val (.int (3 : Int32)), .val (.int (3 : Int32)), .val (.ref w_FAILED), .unset, .unset] [(.int (3 : Int32))])) rfl (by rw [hml]; rfl) (argsL := [(.int (3 : Int32))]) (rest := []) (lenOf pd_0 rfl) rfl (by show 2 * 0 + _ ≤ _; exact Nat.le_of_eq rfl) (hb hby at_31) (fun _ _ => ⟨rfl, e92, (by decide : 0 + 0 ≤ _), (by decide : 0 + 0 ≤ _)⟩)
      dsimp only [Pt.U, Pt.locs, Pt.cells, Pt.slots] at X93 l93 y93 z93 st93 hQ93
      subst l93 y93 z93
      obtain ⟨rfl, N93q, e93⟩ := hQ93
      have N93 := Fr.app N92 N93q
      refine OGot.go st93 ?_
      show OGot p.tables e below (T93.setTop (mkF m 34 #[.val (.int p1), .val (.int p2), .val (.int (3 : Int32)), .val (.int (3 : Int32)), .val (.ref w_FAILED), .unset, .unset] [(.ref w_FAILED)])) _
      refine OGot.go (fun t k => XS.astore X93.here hx rfl (hb hby at_34) rfl rfl (l' := #[.val (.int p1), .val (.int p2), .val (.int (3 : Int32)), .val (.int (3 : Int32)), .val (.ref w_FAILED), .val (.ref w_FAILED), .unset]) rfl k) ?_
      show OGot p.tables e below (T93.setTop (mkF m 36 #[.val (.int p1), .val (.int p2), .val (.int (3 : Int32)), .val (.int (3 : Int32)), .val (.ref w_FAILED), .val (.ref w_FAILED), .unset] [])) _
      refine OGot.go (fun t k => XS.iloadN X93.here hx rfl (hb hby at_36) rfl k) ?_
      show OGot p.tables e below (T93.setTop (mkF m 37 #[.val (.int p1), .val (.int p2), .val (.int (3 : Int32)), .val (.int (3 : Int32)), .val (.ref w_FAILED), .val (.ref w_FAILED), .unset] [(.int (3 : Int32))])) _
      refine OGot.go (fun t k => XS.iconst X93.here hx rfl (hb hby at_37) k) ?_
      show OGot p.tables e below (T93.setTop (mkF m 38 #[.val (.int p1), .val (.int p2), .val (.int (3 : Int32)), .val (.int (3 : Int32)), .val (.ref w_FAILED), .val (.ref w_FAILED), .unset] [(.int (5 : Int32)), (.int (3 : Int32))])) _
      refine OGot.go (fun t k => XS.icmpNo X93.here hx rfl (hb hby at_38) rfl (by decide) k) ?_
      show OGot p.tables e below (T93.setTop (mkF m 41 #[.val (.int p1), .val (.int p2), .val (.int (3 : Int32)), .val (.int (3 : Int32)), .val (.ref w_FAILED), .val (.ref w_FAILED), .unset] [])) _
      refine OGot.go (fun t k => X93.ldcInt hx hown (mvT hZ (ow hw 10 rfl)) (g := (mkF m 41 #[.val (.int p1), .val (.int p2), .val (.int (3 : Int32)), .val (.int (3 : Int32)), .val (.ref w_FAILED), .val (.ref w_FAILED), .unset] [])) rfl (hb hby at_41) _ k) ?_
      show OGot p.tables e below (T93.setTop (mkF m 43 #[.val (.int p1), .val (.int p2), .val (.int (3 : Int32)), .val (.int (3 : Int32)), .val (.ref w_FAILED), .val (.ref w_FAILED), .unset] [(.int (33202 : Int32))])) _
      refine OGot.go (fun t k => XS.iconst X93.here hx rfl (hb hby at_43) k) ?_
      show OGot p.tables e below (T93.setTop (mkF m 44 #[.val (.int p1), .val (.int p2), .val (.int (3 : Int32)), .val (.int (3 : Int32)), .val (.ref w_FAILED), .val (.ref w_FAILED), .unset] [(.int (5 : Int32)), (.int (33202 : Int32))])) _
      refine OGot.go (fun t k => XS.iloadN X93.here hx rfl (hb hby at_44) rfl k) ?_
      show OGot p.tables e below (T93.setTop (mkF m 45 #[.val (.int p1), .val (.int p2), .val (.int (3 : Int32)), .val (.int (3 : Int32)), .val (.ref w_FAILED), .val (.ref w_FAILED), .unset] [(.int (3 : Int32)), (.int (5 : Int32)), (.int (33202 : Int32))])) _
      refine OGot.go (fun t k => XS.imul X93.here hx rfl (hb hby at_45) rfl k) ?_
      show OGot p.tables e below (T93.setTop (mkF m 46 #[.val (.int p1), .val (.int p2), .val (.int (3 : Int32)), .val (.int (3 : Int32)), .val (.ref w_FAILED), .val (.ref w_FAILED), .unset] [(.int ((5 : Int32) * (3 : Int32))), (.int (33202 : Int32))])) _
      rw [show ((5 : Int32) * (3 : Int32)) = (15 : Int32) from by decide]
      show OGot p.tables e below (T93.setTop (mkF m 46 #[.val (.int p1), .val (.int p2), .val (.int (3 : Int32)), .val (.int (3 : Int32)), .val (.ref w_FAILED), .val (.ref w_FAILED), .unset] [(.int (15 : Int32)), (.int (33202 : Int32))])) _
      refine OGot.go (fun t k => XS.iloadN X93.here hx rfl (hb hby at_46) rfl k) ?_
      show OGot p.tables e below (T93.setTop (mkF m 47 #[.val (.int p1), .val (.int p2), .val (.int (3 : Int32)), .val (.int (3 : Int32)), .val (.ref w_FAILED), .val (.ref w_FAILED), .unset] [(.int (3 : Int32)), (.int (15 : Int32)), (.int (33202 : Int32))])) _
      refine OGot.go (fun t k => XS.iadd X93.here hx rfl (hb hby at_47) rfl k) ?_
      show OGot p.tables e below (T93.setTop (mkF m 48 #[.val (.int p1), .val (.int p2), .val (.int (3 : Int32)), .val (.int (3 : Int32)), .val (.ref w_FAILED), .val (.ref w_FAILED), .unset] [(.int ((15 : Int32) + (3 : Int32))), (.int (33202 : Int32))])) _
      rw [show ((15 : Int32) + (3 : Int32)) = (18 : Int32) from by decide]
      show OGot p.tables e below (T93.setTop (mkF m 48 #[.val (.int p1), .val (.int p2), .val (.int (3 : Int32)), .val (.int (3 : Int32)), .val (.ref w_FAILED), .val (.ref w_FAILED), .unset] [(.int (18 : Int32)), (.int (33202 : Int32))])) _
      refine OGot.go (fun t k => XS.ishr X93.here hx rfl (hb hby at_48) rfl k) ?_
      show OGot p.tables e below (T93.setTop (mkF m 49 #[.val (.int p1), .val (.int p2), .val (.int (3 : Int32)), .val (.int (3 : Int32)), .val (.ref w_FAILED), .val (.ref w_FAILED), .unset] [(.int ((33202 : Int32) >>> ((18 : Int32) &&& 31)))])) _
      rw [show ((33202 : Int32) >>> ((18 : Int32) &&& 31)) = (0 : Int32) from by decide]
      show OGot p.tables e below (T93.setTop (mkF m 49 #[.val (.int p1), .val (.int p2), .val (.int (3 : Int32)), .val (.int (3 : Int32)), .val (.ref w_FAILED), .val (.ref w_FAILED), .unset] [(.int (0 : Int32))])) _
      refine OGot.go (fun t k => XS.iconst X93.here hx rfl (hb hby at_49) k) ?_
      show OGot p.tables e below (T93.setTop (mkF m 50 #[.val (.int p1), .val (.int p2), .val (.int (3 : Int32)), .val (.int (3 : Int32)), .val (.ref w_FAILED), .val (.ref w_FAILED), .unset] [(.int (1 : Int32)), (.int (0 : Int32))])) _
      refine OGot.go (fun t k => XS.iand X93.here hx rfl (hb hby at_50) rfl k) ?_
      show OGot p.tables e below (T93.setTop (mkF m 51 #[.val (.int p1), .val (.int p2), .val (.int (3 : Int32)), .val (.int (3 : Int32)), .val (.ref w_FAILED), .val (.ref w_FAILED), .unset] [(.int ((0 : Int32) &&& (1 : Int32)))])) _
      rw [show ((0 : Int32) &&& (1 : Int32)) = (0 : Int32) from by decide]
      show OGot p.tables e below (T93.setTop (mkF m 51 #[.val (.int p1), .val (.int p2), .val (.int (3 : Int32)), .val (.int (3 : Int32)), .val (.ref w_FAILED), .val (.ref w_FAILED), .unset] [(.int (0 : Int32))])) _
      refine OGot.go (fun t k => XS.ifYes X93.here hx rfl (pc0 := 51) (pc' := 58) rfl (hb hby at_51) rfl (by decide) (by decide) (by decide) k) ?_
      show OGot p.tables e below (T93.setTop (mkF m 58 #[.val (.int p1), .val (.int p2), .val (.int (3 : Int32)), .val (.int (3 : Int32)), .val (.ref w_FAILED), .val (.ref w_FAILED), .unset] [])) _
      refine OGot.go (fun t k => XS.iconst X93.here hx rfl (hb hby at_58) k) ?_
      show OGot p.tables e below (T93.setTop (mkF m 59 #[.val (.int p1), .val (.int p2), .val (.int (3 : Int32)), .val (.int (3 : Int32)), .val (.ref w_FAILED), .val (.ref w_FAILED), .unset] [(.int (0 : Int32))])) _
      refine OGot.go (fun t k => XS.istore X93.here hx rfl (hb hby at_59) rfl (l' := #[.val (.int p1), .val (.int p2), .val (.int (3 : Int32)), .val (.int (3 : Int32)), .val (.ref w_FAILED), .val (.ref w_FAILED), .val (.int (0 : Int32))]) rfl k) ?_
      show OGot p.tables e below (T93.setTop (mkF m 61 #[.val (.int p1), .val (.int p2), .val (.int (3 : Int32)), .val (.int (3 : Int32)), .val (.ref w_FAILED), .val (.ref w_FAILED), .val (.int (0 : Int32))] [])) _
      refine OGot.go (fun t k => XS.aload X93.here hx rfl (hb hby at_61) rfl rfl k) ?_
      show OGot p.tables e below (T93.setTop (mkF m 63 #[.val (.int p1), .val (.int p2), .val (.int (3 : Int32)), .val (.int (3 : Int32)), .val (.ref w_FAILED), .val (.ref w_FAILED), .val (.int (0 : Int32))] [(.ref w_FAILED)])) _
      refine OGot.go (fun t k => XS.aload X93.here hx rfl (hb hby at_63) rfl rfl k) ?_
      show OGot p.tables e below (T93.setTop (mkF m 65 #[.val (.int p1), .val (.int p2), .val (.int (3 : Int32)), .val (.int (3 : Int32)), .val (.ref w_FAILED), .val (.ref w_FAILED), .val (.int (0 : Int32))] [(.ref w_FAILED), (.ref w_FAILED)])) _
      obtain ⟨cq94, kq94, q94a, q94b, q94c⟩ := isOf hZ e93 (G.2.2.2.1.ext O0.2)
      obtain ⟨_, _, ⟨T94, L94, k94, n94⟩, -, X94, ⟨Lc94, hQ94, l94, y94, z94⟩, st94⟩ := X93.virtualBack hx (y := (⟨"com/example/hermit_crab/hermitcrab/JobState", "canMoveTo", "(Lcom/example/hermit_crab/hermitcrab/JobState;)Z"⟩ : MethodName)) (z := (⟨"com/example/hermit_crab/hermitcrab/JobState", "canMoveTo", "(Lcom/example/hermit_crab/hermitcrab/JobState;)Z"⟩ : MethodName)) hown (mvT hZ (ow hw 11 rfl)) (mvT hZ (ow hw 12 rfl)) (notFace_of_selects (args := #[]) (mvT hZ (ow hw 14 rfl))) (mvT hZ (ow hw 14 rfl)) (mvT hZ (ow hw 13 rfl)) (by decide) (backOf (W := 0) (rm2_21 l Z a0 hw [] G  h0 n0 O0 ) hZ (ow hw 15 rfl) (ow hw 6 rfl) (by decide) (by decide)) q94a q94c (g := (mkF m 65 #[.val (.int p1), .val (.int p2), .val (.int (3 : Int32)), .val (.int (3 : Int32)), .val (.ref w_FAILED), .val (.ref w_FAILED), .val (.int (0 : Int32))] [(.ref w_FAILED), (.ref w_FAILED)])) rfl (by rw [hml]; rfl) (Steps.refl _) (argsL := [(.ref w_FAILED)]) (rest := []) (lenOf pd_2 rfl) rfl (by show 2 * 0 + _ ≤ _; exact Nat.le_of_eq rfl) (hb hby at_65) (fun _ _ => ⟨rfl, e93, (by decide : 0 + 0 ≤ _), (by decide : 0 + 0 ≤ _)⟩)
      dsimp only [Pt.U, Pt.locs, Pt.cells, Pt.slots] at X94 l94 y94 z94 st94 hQ94
      subst l94 y94 z94
      obtain ⟨rfl, N94q, e94⟩ := hQ94
      have N94 := Fr.app N93 N94q
      refine OGot.on st94 ?_
      show OGot p.tables e below (T94.setTop (mkF m 68 #[.val (.int p1), .val (.int p2), .val (.int (3 : Int32)), .val (.int (3 : Int32)), .val (.ref w_FAILED), .val (.ref w_FAILED), .val (.int (0 : Int32))] [(.int (0 : Int32))])) _
      refine OGot.go (fun t k => XS.iload X94.here hx rfl (hb hby at_68) rfl k) ?_
      show OGot p.tables e below (T94.setTop (mkF m 70 #[.val (.int p1), .val (.int p2), .val (.int (3 : Int32)), .val (.int (3 : Int32)), .val (.ref w_FAILED), .val (.ref w_FAILED), .val (.int (0 : Int32))] [(.int (0 : Int32)), (.int (0 : Int32))])) _
      refine OGot.go (fun t k => XS.icmpNo X94.here hx rfl (hb hby at_70) rfl (by decide) k) ?_
      show OGot p.tables e below (T94.setTop (mkF m 73 #[.val (.int p1), .val (.int p2), .val (.int (3 : Int32)), .val (.int (3 : Int32)), .val (.ref w_FAILED), .val (.ref w_FAILED), .val (.int (0 : Int32))] [])) _
      refine OGot.go (fun t k => XS.iconst X94.here hx rfl (hb hby at_73) k) ?_
      show OGot p.tables e below (T94.setTop (mkF m 74 #[.val (.int p1), .val (.int p2), .val (.int (3 : Int32)), .val (.int (3 : Int32)), .val (.ref w_FAILED), .val (.ref w_FAILED), .val (.int (0 : Int32))] [(.int (1 : Int32))])) _
      refine OGot.go (fun t k => XS.goto X94.here hx rfl (pc0 := 74) (pc' := 78) rfl (hb hby at_74) (by decide) (by decide) k) ?_
      show OGot p.tables e below (T94.setTop (mkF m 78 #[.val (.int p1), .val (.int p2), .val (.int (3 : Int32)), .val (.int (3 : Int32)), .val (.ref w_FAILED), .val (.ref w_FAILED), .val (.int (0 : Int32))] [(.int (1 : Int32))])) _
      obtain ⟨fs, hr, hrun, hended, hW, hsame⟩ := X94.leave (v := some (.int (1 : Int32))) (fun h => by rw [Bd.returns] at h; cases h)
      refine ⟨_, _, retN X94 hx (t := .boolean) Bd.returns (by simp) (hb hby at_78) hr, hrun, hended, _, _, rfl, ?_, ⟨_, rfl⟩, hW, hsame.mono (by decide) (by decide)⟩
      exact (⟨rfl, N94⟩ : Q0 Z w_PENDING w_FAILED w_RUNNING w_CANCELLED w_COMPLETED p1 p2 h0 n0 _ T94.heap _)
    · rw [hk81]
      show OGot p.tables e below (s₁.setTop (mkF m 14 #[.val (.int p1), .val (.int p2), .val (.int (3 : Int32)), .unset, .unset, .unset, .unset] [(.int (4 : Int32))])) _
      refine OGot.go (fun t k => XS.istoreN X0.here hx rfl (hb hby at_14) rfl (l' := #[.val (.int p1), .val (.int p2), .val (.int (3 : Int32)), .val (.int (4 : Int32)), .unset, .unset, .unset]) rfl k) ?_
      show OGot p.tables e below (s₁.setTop (mkF m 15 #[.val (.int p1), .val (.int p2), .val (.int (3 : Int32)), .val (.int (4 : Int32)), .unset, .unset, .unset] [])) _
      refine OGot.go (fun t k => XS.iloadN X0.here hx rfl (hb hby at_15) rfl k) ?_
      show OGot p.tables e below (s₁.setTop (mkF m 16 #[.val (.int p1), .val (.int p2), .val (.int (3 : Int32)), .val (.int (4 : Int32)), .unset, .unset, .unset] [(.int (3 : Int32))])) _
      obtain ⟨_, _, ⟨T95, L95, k95, n95⟩, -, X95, ⟨Lc95, hQ95, l95, y95, z95⟩, st95⟩ := Jvm.LawKit.callS X0 hx (y := (⟨"com/example/hermit_crab/hermitcrab/JobStateCanMoveToPinLaw", "st", "(I)Lcom/example/hermit_crab/hermitcrab/JobState;"⟩ : MethodName)) hown (mvT hZ (ow hw 1 rfl)) (mvT hZ (ow hw 2 rfl)) (mvT hZ (ow hw 3 rfl)) (mvT hZ (ow hw 4 rfl)) (by decide) (backOf (W := 0) (rm1_3 l Z a0 hw [] G  h0 n0 O0 ) hZ (ow hw 4 rfl) (ow hw 3 rfl) (by decide) (by decide)) (g := (mkF m 16 #[.val (.int p1), .val (.int p2), .val (.int (3 : Int32)), .val (.int (4 : Int32)), .unset, .unset, .unset] [(.int (3 : Int32))])) rfl (by rw [hml]; rfl) (argsL := [(.int (3 : Int32))]) (rest := []) (lenOf pd_0 rfl) rfl (by show 2 * 0 + _ ≤ _; exact Nat.le_of_eq rfl) (hb hby at_16) (fun _ _ => ⟨rfl, e0, (by decide : 0 + 0 ≤ _), (by decide : 0 + 0 ≤ _)⟩)
      dsimp only [Pt.U, Pt.locs, Pt.cells, Pt.slots] at X95 l95 y95 z95 st95 hQ95
      subst l95 y95 z95
      obtain ⟨rfl, N95q, e95⟩ := hQ95
      have N95 := Fr.app N0 N95q
      refine OGot.go st95 ?_
      show OGot p.tables e below (T95.setTop (mkF m 19 #[.val (.int p1), .val (.int p2), .val (.int (3 : Int32)), .val (.int (4 : Int32)), .unset, .unset, .unset] [(.ref w_FAILED)])) _
      refine OGot.go (fun t k => XS.astore X95.here hx rfl (hb hby at_19) rfl rfl (l' := #[.val (.int p1), .val (.int p2), .val (.int (3 : Int32)), .val (.int (4 : Int32)), .val (.ref w_FAILED), .unset, .unset]) rfl k) ?_
      show OGot p.tables e below (T95.setTop (mkF m 21 #[.val (.int p1), .val (.int p2), .val (.int (3 : Int32)), .val (.int (4 : Int32)), .val (.ref w_FAILED), .unset, .unset] [])) _
      refine OGot.go (fun t k => XS.iloadN X95.here hx rfl (hb hby at_21) rfl k) ?_
      show OGot p.tables e below (T95.setTop (mkF m 22 #[.val (.int p1), .val (.int p2), .val (.int (3 : Int32)), .val (.int (4 : Int32)), .val (.ref w_FAILED), .unset, .unset] [(.int (4 : Int32))])) _
      refine OGot.go (fun t k => XS.iconst X95.here hx rfl (hb hby at_22) k) ?_
      show OGot p.tables e below (T95.setTop (mkF m 23 #[.val (.int p1), .val (.int p2), .val (.int (3 : Int32)), .val (.int (4 : Int32)), .val (.ref w_FAILED), .unset, .unset] [(.int (5 : Int32)), (.int (4 : Int32))])) _
      refine OGot.go (fun t k => XS.icmpYes X95.here hx rfl (pc0 := 23) (pc' := 30) rfl (hb hby at_23) rfl (by decide) (by decide) (by decide) k) ?_
      show OGot p.tables e below (T95.setTop (mkF m 30 #[.val (.int p1), .val (.int p2), .val (.int (3 : Int32)), .val (.int (4 : Int32)), .val (.ref w_FAILED), .unset, .unset] [])) _
      refine OGot.go (fun t k => XS.iloadN X95.here hx rfl (hb hby at_30) rfl k) ?_
      show OGot p.tables e below (T95.setTop (mkF m 31 #[.val (.int p1), .val (.int p2), .val (.int (3 : Int32)), .val (.int (4 : Int32)), .val (.ref w_FAILED), .unset, .unset] [(.int (4 : Int32))])) _
      obtain ⟨_, _, ⟨T96, L96, k96, n96⟩, -, X96, ⟨Lc96, hQ96, l96, y96, z96⟩, st96⟩ := Jvm.LawKit.callS X95 hx (y := (⟨"com/example/hermit_crab/hermitcrab/JobStateCanMoveToPinLaw", "st", "(I)Lcom/example/hermit_crab/hermitcrab/JobState;"⟩ : MethodName)) hown (mvT hZ (ow hw 1 rfl)) (mvT hZ (ow hw 2 rfl)) (mvT hZ (ow hw 3 rfl)) (mvT hZ (ow hw 4 rfl)) (by decide) (backOf (W := 0) (rm1_4 l Z a0 hw [] G  h0 n0 O0 ) hZ (ow hw 4 rfl) (ow hw 3 rfl) (by decide) (by decide)) (g := (mkF m 31 #[.val (.int p1), .val (.int p2), .val (.int (3 : Int32)), .val (.int (4 : Int32)), .val (.ref w_FAILED), .unset, .unset] [(.int (4 : Int32))])) rfl (by rw [hml]; rfl) (argsL := [(.int (4 : Int32))]) (rest := []) (lenOf pd_0 rfl) rfl (by show 2 * 0 + _ ≤ _; exact Nat.le_of_eq rfl) (hb hby at_31) (fun _ _ => ⟨rfl, e95, (by decide : 0 + 0 ≤ _), (by decide : 0 + 0 ≤ _)⟩)
      dsimp only [Pt.U, Pt.locs, Pt.cells, Pt.slots] at X96 l96 y96 z96 st96 hQ96
      subst l96 y96 z96
      obtain ⟨rfl, N96q, e96⟩ := hQ96
      have N96 := Fr.app N95 N96q
      refine OGot.go st96 ?_
      show OGot p.tables e below (T96.setTop (mkF m 34 #[.val (.int p1), .val (.int p2), .val (.int (3 : Int32)), .val (.int (4 : Int32)), .val (.ref w_FAILED), .unset, .unset] [(.ref w_CANCELLED)])) _
      refine OGot.go (fun t k => XS.astore X96.here hx rfl (hb hby at_34) rfl rfl (l' := #[.val (.int p1), .val (.int p2), .val (.int (3 : Int32)), .val (.int (4 : Int32)), .val (.ref w_FAILED), .val (.ref w_CANCELLED), .unset]) rfl k) ?_
      show OGot p.tables e below (T96.setTop (mkF m 36 #[.val (.int p1), .val (.int p2), .val (.int (3 : Int32)), .val (.int (4 : Int32)), .val (.ref w_FAILED), .val (.ref w_CANCELLED), .unset] [])) _
      refine OGot.go (fun t k => XS.iloadN X96.here hx rfl (hb hby at_36) rfl k) ?_
      show OGot p.tables e below (T96.setTop (mkF m 37 #[.val (.int p1), .val (.int p2), .val (.int (3 : Int32)), .val (.int (4 : Int32)), .val (.ref w_FAILED), .val (.ref w_CANCELLED), .unset] [(.int (4 : Int32))])) _
      refine OGot.go (fun t k => XS.iconst X96.here hx rfl (hb hby at_37) k) ?_
      show OGot p.tables e below (T96.setTop (mkF m 38 #[.val (.int p1), .val (.int p2), .val (.int (3 : Int32)), .val (.int (4 : Int32)), .val (.ref w_FAILED), .val (.ref w_CANCELLED), .unset] [(.int (5 : Int32)), (.int (4 : Int32))])) _
      refine OGot.go (fun t k => XS.icmpNo X96.here hx rfl (hb hby at_38) rfl (by decide) k) ?_
      show OGot p.tables e below (T96.setTop (mkF m 41 #[.val (.int p1), .val (.int p2), .val (.int (3 : Int32)), .val (.int (4 : Int32)), .val (.ref w_FAILED), .val (.ref w_CANCELLED), .unset] [])) _
      refine OGot.go (fun t k => X96.ldcInt hx hown (mvT hZ (ow hw 10 rfl)) (g := (mkF m 41 #[.val (.int p1), .val (.int p2), .val (.int (3 : Int32)), .val (.int (4 : Int32)), .val (.ref w_FAILED), .val (.ref w_CANCELLED), .unset] [])) rfl (hb hby at_41) _ k) ?_
      show OGot p.tables e below (T96.setTop (mkF m 43 #[.val (.int p1), .val (.int p2), .val (.int (3 : Int32)), .val (.int (4 : Int32)), .val (.ref w_FAILED), .val (.ref w_CANCELLED), .unset] [(.int (33202 : Int32))])) _
      refine OGot.go (fun t k => XS.iconst X96.here hx rfl (hb hby at_43) k) ?_
      show OGot p.tables e below (T96.setTop (mkF m 44 #[.val (.int p1), .val (.int p2), .val (.int (3 : Int32)), .val (.int (4 : Int32)), .val (.ref w_FAILED), .val (.ref w_CANCELLED), .unset] [(.int (5 : Int32)), (.int (33202 : Int32))])) _
      refine OGot.go (fun t k => XS.iloadN X96.here hx rfl (hb hby at_44) rfl k) ?_
      show OGot p.tables e below (T96.setTop (mkF m 45 #[.val (.int p1), .val (.int p2), .val (.int (3 : Int32)), .val (.int (4 : Int32)), .val (.ref w_FAILED), .val (.ref w_CANCELLED), .unset] [(.int (3 : Int32)), (.int (5 : Int32)), (.int (33202 : Int32))])) _
      refine OGot.go (fun t k => XS.imul X96.here hx rfl (hb hby at_45) rfl k) ?_
      show OGot p.tables e below (T96.setTop (mkF m 46 #[.val (.int p1), .val (.int p2), .val (.int (3 : Int32)), .val (.int (4 : Int32)), .val (.ref w_FAILED), .val (.ref w_CANCELLED), .unset] [(.int ((5 : Int32) * (3 : Int32))), (.int (33202 : Int32))])) _
      rw [show ((5 : Int32) * (3 : Int32)) = (15 : Int32) from by decide]
      show OGot p.tables e below (T96.setTop (mkF m 46 #[.val (.int p1), .val (.int p2), .val (.int (3 : Int32)), .val (.int (4 : Int32)), .val (.ref w_FAILED), .val (.ref w_CANCELLED), .unset] [(.int (15 : Int32)), (.int (33202 : Int32))])) _
      refine OGot.go (fun t k => XS.iloadN X96.here hx rfl (hb hby at_46) rfl k) ?_
      show OGot p.tables e below (T96.setTop (mkF m 47 #[.val (.int p1), .val (.int p2), .val (.int (3 : Int32)), .val (.int (4 : Int32)), .val (.ref w_FAILED), .val (.ref w_CANCELLED), .unset] [(.int (4 : Int32)), (.int (15 : Int32)), (.int (33202 : Int32))])) _
      refine OGot.go (fun t k => XS.iadd X96.here hx rfl (hb hby at_47) rfl k) ?_
      show OGot p.tables e below (T96.setTop (mkF m 48 #[.val (.int p1), .val (.int p2), .val (.int (3 : Int32)), .val (.int (4 : Int32)), .val (.ref w_FAILED), .val (.ref w_CANCELLED), .unset] [(.int ((15 : Int32) + (4 : Int32))), (.int (33202 : Int32))])) _
      rw [show ((15 : Int32) + (4 : Int32)) = (19 : Int32) from by decide]
      show OGot p.tables e below (T96.setTop (mkF m 48 #[.val (.int p1), .val (.int p2), .val (.int (3 : Int32)), .val (.int (4 : Int32)), .val (.ref w_FAILED), .val (.ref w_CANCELLED), .unset] [(.int (19 : Int32)), (.int (33202 : Int32))])) _
      refine OGot.go (fun t k => XS.ishr X96.here hx rfl (hb hby at_48) rfl k) ?_
      show OGot p.tables e below (T96.setTop (mkF m 49 #[.val (.int p1), .val (.int p2), .val (.int (3 : Int32)), .val (.int (4 : Int32)), .val (.ref w_FAILED), .val (.ref w_CANCELLED), .unset] [(.int ((33202 : Int32) >>> ((19 : Int32) &&& 31)))])) _
      rw [show ((33202 : Int32) >>> ((19 : Int32) &&& 31)) = (0 : Int32) from by decide]
      show OGot p.tables e below (T96.setTop (mkF m 49 #[.val (.int p1), .val (.int p2), .val (.int (3 : Int32)), .val (.int (4 : Int32)), .val (.ref w_FAILED), .val (.ref w_CANCELLED), .unset] [(.int (0 : Int32))])) _
      refine OGot.go (fun t k => XS.iconst X96.here hx rfl (hb hby at_49) k) ?_
      show OGot p.tables e below (T96.setTop (mkF m 50 #[.val (.int p1), .val (.int p2), .val (.int (3 : Int32)), .val (.int (4 : Int32)), .val (.ref w_FAILED), .val (.ref w_CANCELLED), .unset] [(.int (1 : Int32)), (.int (0 : Int32))])) _
      refine OGot.go (fun t k => XS.iand X96.here hx rfl (hb hby at_50) rfl k) ?_
      show OGot p.tables e below (T96.setTop (mkF m 51 #[.val (.int p1), .val (.int p2), .val (.int (3 : Int32)), .val (.int (4 : Int32)), .val (.ref w_FAILED), .val (.ref w_CANCELLED), .unset] [(.int ((0 : Int32) &&& (1 : Int32)))])) _
      rw [show ((0 : Int32) &&& (1 : Int32)) = (0 : Int32) from by decide]
      show OGot p.tables e below (T96.setTop (mkF m 51 #[.val (.int p1), .val (.int p2), .val (.int (3 : Int32)), .val (.int (4 : Int32)), .val (.ref w_FAILED), .val (.ref w_CANCELLED), .unset] [(.int (0 : Int32))])) _
      refine OGot.go (fun t k => XS.ifYes X96.here hx rfl (pc0 := 51) (pc' := 58) rfl (hb hby at_51) rfl (by decide) (by decide) (by decide) k) ?_
      show OGot p.tables e below (T96.setTop (mkF m 58 #[.val (.int p1), .val (.int p2), .val (.int (3 : Int32)), .val (.int (4 : Int32)), .val (.ref w_FAILED), .val (.ref w_CANCELLED), .unset] [])) _
      refine OGot.go (fun t k => XS.iconst X96.here hx rfl (hb hby at_58) k) ?_
      show OGot p.tables e below (T96.setTop (mkF m 59 #[.val (.int p1), .val (.int p2), .val (.int (3 : Int32)), .val (.int (4 : Int32)), .val (.ref w_FAILED), .val (.ref w_CANCELLED), .unset] [(.int (0 : Int32))])) _
      refine OGot.go (fun t k => XS.istore X96.here hx rfl (hb hby at_59) rfl (l' := #[.val (.int p1), .val (.int p2), .val (.int (3 : Int32)), .val (.int (4 : Int32)), .val (.ref w_FAILED), .val (.ref w_CANCELLED), .val (.int (0 : Int32))]) rfl k) ?_
      show OGot p.tables e below (T96.setTop (mkF m 61 #[.val (.int p1), .val (.int p2), .val (.int (3 : Int32)), .val (.int (4 : Int32)), .val (.ref w_FAILED), .val (.ref w_CANCELLED), .val (.int (0 : Int32))] [])) _
      refine OGot.go (fun t k => XS.aload X96.here hx rfl (hb hby at_61) rfl rfl k) ?_
      show OGot p.tables e below (T96.setTop (mkF m 63 #[.val (.int p1), .val (.int p2), .val (.int (3 : Int32)), .val (.int (4 : Int32)), .val (.ref w_FAILED), .val (.ref w_CANCELLED), .val (.int (0 : Int32))] [(.ref w_FAILED)])) _
      refine OGot.go (fun t k => XS.aload X96.here hx rfl (hb hby at_63) rfl rfl k) ?_
      show OGot p.tables e below (T96.setTop (mkF m 65 #[.val (.int p1), .val (.int p2), .val (.int (3 : Int32)), .val (.int (4 : Int32)), .val (.ref w_FAILED), .val (.ref w_CANCELLED), .val (.int (0 : Int32))] [(.ref w_CANCELLED), (.ref w_FAILED)])) _
      obtain ⟨cq97, kq97, q97a, q97b, q97c⟩ := isOf hZ e96 (G.2.2.2.1.ext O0.2)
      obtain ⟨_, _, ⟨T97, L97, k97, n97⟩, -, X97, ⟨Lc97, hQ97, l97, y97, z97⟩, st97⟩ := X96.virtualBack hx (y := (⟨"com/example/hermit_crab/hermitcrab/JobState", "canMoveTo", "(Lcom/example/hermit_crab/hermitcrab/JobState;)Z"⟩ : MethodName)) (z := (⟨"com/example/hermit_crab/hermitcrab/JobState", "canMoveTo", "(Lcom/example/hermit_crab/hermitcrab/JobState;)Z"⟩ : MethodName)) hown (mvT hZ (ow hw 11 rfl)) (mvT hZ (ow hw 12 rfl)) (notFace_of_selects (args := #[]) (mvT hZ (ow hw 14 rfl))) (mvT hZ (ow hw 14 rfl)) (mvT hZ (ow hw 13 rfl)) (by decide) (backOf (W := 0) (rm2_22 l Z a0 hw [] G  h0 n0 O0 ) hZ (ow hw 15 rfl) (ow hw 6 rfl) (by decide) (by decide)) q97a q97c (g := (mkF m 65 #[.val (.int p1), .val (.int p2), .val (.int (3 : Int32)), .val (.int (4 : Int32)), .val (.ref w_FAILED), .val (.ref w_CANCELLED), .val (.int (0 : Int32))] [(.ref w_CANCELLED), (.ref w_FAILED)])) rfl (by rw [hml]; rfl) (Steps.refl _) (argsL := [(.ref w_CANCELLED)]) (rest := []) (lenOf pd_2 rfl) rfl (by show 2 * 0 + _ ≤ _; exact Nat.le_of_eq rfl) (hb hby at_65) (fun _ _ => ⟨rfl, e96, (by decide : 0 + 0 ≤ _), (by decide : 0 + 0 ≤ _)⟩)
      dsimp only [Pt.U, Pt.locs, Pt.cells, Pt.slots] at X97 l97 y97 z97 st97 hQ97
      subst l97 y97 z97
      obtain ⟨rfl, N97q, e97⟩ := hQ97
      have N97 := Fr.app N96 N97q
      refine OGot.on st97 ?_
      show OGot p.tables e below (T97.setTop (mkF m 68 #[.val (.int p1), .val (.int p2), .val (.int (3 : Int32)), .val (.int (4 : Int32)), .val (.ref w_FAILED), .val (.ref w_CANCELLED), .val (.int (0 : Int32))] [(.int (0 : Int32))])) _
      refine OGot.go (fun t k => XS.iload X97.here hx rfl (hb hby at_68) rfl k) ?_
      show OGot p.tables e below (T97.setTop (mkF m 70 #[.val (.int p1), .val (.int p2), .val (.int (3 : Int32)), .val (.int (4 : Int32)), .val (.ref w_FAILED), .val (.ref w_CANCELLED), .val (.int (0 : Int32))] [(.int (0 : Int32)), (.int (0 : Int32))])) _
      refine OGot.go (fun t k => XS.icmpNo X97.here hx rfl (hb hby at_70) rfl (by decide) k) ?_
      show OGot p.tables e below (T97.setTop (mkF m 73 #[.val (.int p1), .val (.int p2), .val (.int (3 : Int32)), .val (.int (4 : Int32)), .val (.ref w_FAILED), .val (.ref w_CANCELLED), .val (.int (0 : Int32))] [])) _
      refine OGot.go (fun t k => XS.iconst X97.here hx rfl (hb hby at_73) k) ?_
      show OGot p.tables e below (T97.setTop (mkF m 74 #[.val (.int p1), .val (.int p2), .val (.int (3 : Int32)), .val (.int (4 : Int32)), .val (.ref w_FAILED), .val (.ref w_CANCELLED), .val (.int (0 : Int32))] [(.int (1 : Int32))])) _
      refine OGot.go (fun t k => XS.goto X97.here hx rfl (pc0 := 74) (pc' := 78) rfl (hb hby at_74) (by decide) (by decide) k) ?_
      show OGot p.tables e below (T97.setTop (mkF m 78 #[.val (.int p1), .val (.int p2), .val (.int (3 : Int32)), .val (.int (4 : Int32)), .val (.ref w_FAILED), .val (.ref w_CANCELLED), .val (.int (0 : Int32))] [(.int (1 : Int32))])) _
      obtain ⟨fs, hr, hrun, hended, hW, hsame⟩ := X97.leave (v := some (.int (1 : Int32))) (fun h => by rw [Bd.returns] at h; cases h)
      refine ⟨_, _, retN X97 hx (t := .boolean) Bd.returns (by simp) (hb hby at_78) hr, hrun, hended, _, _, rfl, ?_, ⟨_, rfl⟩, hW, hsame.mono (by decide) (by decide)⟩
      exact (⟨rfl, N97⟩ : Q0 Z w_PENDING w_FAILED w_RUNNING w_CANCELLED w_COMPLETED p1 p2 h0 n0 _ T97.heap _)
    · rw [hk82]
      show OGot p.tables e below (s₁.setTop (mkF m 14 #[.val (.int p1), .val (.int p2), .val (.int (3 : Int32)), .unset, .unset, .unset, .unset] [(.int (5 : Int32))])) _
      refine OGot.go (fun t k => XS.istoreN X0.here hx rfl (hb hby at_14) rfl (l' := #[.val (.int p1), .val (.int p2), .val (.int (3 : Int32)), .val (.int (5 : Int32)), .unset, .unset, .unset]) rfl k) ?_
      show OGot p.tables e below (s₁.setTop (mkF m 15 #[.val (.int p1), .val (.int p2), .val (.int (3 : Int32)), .val (.int (5 : Int32)), .unset, .unset, .unset] [])) _
      refine OGot.go (fun t k => XS.iloadN X0.here hx rfl (hb hby at_15) rfl k) ?_
      show OGot p.tables e below (s₁.setTop (mkF m 16 #[.val (.int p1), .val (.int p2), .val (.int (3 : Int32)), .val (.int (5 : Int32)), .unset, .unset, .unset] [(.int (3 : Int32))])) _
      obtain ⟨_, _, ⟨T98, L98, k98, n98⟩, -, X98, ⟨Lc98, hQ98, l98, y98, z98⟩, st98⟩ := Jvm.LawKit.callS X0 hx (y := (⟨"com/example/hermit_crab/hermitcrab/JobStateCanMoveToPinLaw", "st", "(I)Lcom/example/hermit_crab/hermitcrab/JobState;"⟩ : MethodName)) hown (mvT hZ (ow hw 1 rfl)) (mvT hZ (ow hw 2 rfl)) (mvT hZ (ow hw 3 rfl)) (mvT hZ (ow hw 4 rfl)) (by decide) (backOf (W := 0) (rm1_3 l Z a0 hw [] G  h0 n0 O0 ) hZ (ow hw 4 rfl) (ow hw 3 rfl) (by decide) (by decide)) (g := (mkF m 16 #[.val (.int p1), .val (.int p2), .val (.int (3 : Int32)), .val (.int (5 : Int32)), .unset, .unset, .unset] [(.int (3 : Int32))])) rfl (by rw [hml]; rfl) (argsL := [(.int (3 : Int32))]) (rest := []) (lenOf pd_0 rfl) rfl (by show 2 * 0 + _ ≤ _; exact Nat.le_of_eq rfl) (hb hby at_16) (fun _ _ => ⟨rfl, e0, (by decide : 0 + 0 ≤ _), (by decide : 0 + 0 ≤ _)⟩)
      dsimp only [Pt.U, Pt.locs, Pt.cells, Pt.slots] at X98 l98 y98 z98 st98 hQ98
      subst l98 y98 z98
      obtain ⟨rfl, N98q, e98⟩ := hQ98
      have N98 := Fr.app N0 N98q
      refine OGot.go st98 ?_
      show OGot p.tables e below (T98.setTop (mkF m 19 #[.val (.int p1), .val (.int p2), .val (.int (3 : Int32)), .val (.int (5 : Int32)), .unset, .unset, .unset] [(.ref w_FAILED)])) _
      refine OGot.go (fun t k => XS.astore X98.here hx rfl (hb hby at_19) rfl rfl (l' := #[.val (.int p1), .val (.int p2), .val (.int (3 : Int32)), .val (.int (5 : Int32)), .val (.ref w_FAILED), .unset, .unset]) rfl k) ?_
      show OGot p.tables e below (T98.setTop (mkF m 21 #[.val (.int p1), .val (.int p2), .val (.int (3 : Int32)), .val (.int (5 : Int32)), .val (.ref w_FAILED), .unset, .unset] [])) _
      refine OGot.go (fun t k => XS.iloadN X98.here hx rfl (hb hby at_21) rfl k) ?_
      show OGot p.tables e below (T98.setTop (mkF m 22 #[.val (.int p1), .val (.int p2), .val (.int (3 : Int32)), .val (.int (5 : Int32)), .val (.ref w_FAILED), .unset, .unset] [(.int (5 : Int32))])) _
      refine OGot.go (fun t k => XS.iconst X98.here hx rfl (hb hby at_22) k) ?_
      show OGot p.tables e below (T98.setTop (mkF m 23 #[.val (.int p1), .val (.int p2), .val (.int (3 : Int32)), .val (.int (5 : Int32)), .val (.ref w_FAILED), .unset, .unset] [(.int (5 : Int32)), (.int (5 : Int32))])) _
      refine OGot.go (fun t k => XS.icmpNo X98.here hx rfl (hb hby at_23) rfl (by decide) k) ?_
      show OGot p.tables e below (T98.setTop (mkF m 26 #[.val (.int p1), .val (.int p2), .val (.int (3 : Int32)), .val (.int (5 : Int32)), .val (.ref w_FAILED), .unset, .unset] [])) _
      refine OGot.go (fun t k => XS.aconstNull X98.here hx rfl (hb hby at_26) k) ?_
      show OGot p.tables e below (T98.setTop (mkF m 27 #[.val (.int p1), .val (.int p2), .val (.int (3 : Int32)), .val (.int (5 : Int32)), .val (.ref w_FAILED), .unset, .unset] [.null])) _
      refine OGot.go (fun t k => XS.goto X98.here hx rfl (pc0 := 27) (pc' := 34) rfl (hb hby at_27) (by decide) (by decide) k) ?_
      show OGot p.tables e below (T98.setTop (mkF m 34 #[.val (.int p1), .val (.int p2), .val (.int (3 : Int32)), .val (.int (5 : Int32)), .val (.ref w_FAILED), .unset, .unset] [.null])) _
      refine OGot.go (fun t k => XS.astore X98.here hx rfl (hb hby at_34) rfl rfl (l' := #[.val (.int p1), .val (.int p2), .val (.int (3 : Int32)), .val (.int (5 : Int32)), .val (.ref w_FAILED), .val .null, .unset]) rfl k) ?_
      show OGot p.tables e below (T98.setTop (mkF m 36 #[.val (.int p1), .val (.int p2), .val (.int (3 : Int32)), .val (.int (5 : Int32)), .val (.ref w_FAILED), .val .null, .unset] [])) _
      refine OGot.go (fun t k => XS.iloadN X98.here hx rfl (hb hby at_36) rfl k) ?_
      show OGot p.tables e below (T98.setTop (mkF m 37 #[.val (.int p1), .val (.int p2), .val (.int (3 : Int32)), .val (.int (5 : Int32)), .val (.ref w_FAILED), .val .null, .unset] [(.int (5 : Int32))])) _
      refine OGot.go (fun t k => XS.iconst X98.here hx rfl (hb hby at_37) k) ?_
      show OGot p.tables e below (T98.setTop (mkF m 38 #[.val (.int p1), .val (.int p2), .val (.int (3 : Int32)), .val (.int (5 : Int32)), .val (.ref w_FAILED), .val .null, .unset] [(.int (5 : Int32)), (.int (5 : Int32))])) _
      refine OGot.go (fun t k => XS.icmpYes X98.here hx rfl (pc0 := 38) (pc' := 58) rfl (hb hby at_38) rfl (by decide) (by decide) (by decide) k) ?_
      show OGot p.tables e below (T98.setTop (mkF m 58 #[.val (.int p1), .val (.int p2), .val (.int (3 : Int32)), .val (.int (5 : Int32)), .val (.ref w_FAILED), .val .null, .unset] [])) _
      refine OGot.go (fun t k => XS.iconst X98.here hx rfl (hb hby at_58) k) ?_
      show OGot p.tables e below (T98.setTop (mkF m 59 #[.val (.int p1), .val (.int p2), .val (.int (3 : Int32)), .val (.int (5 : Int32)), .val (.ref w_FAILED), .val .null, .unset] [(.int (0 : Int32))])) _
      refine OGot.go (fun t k => XS.istore X98.here hx rfl (hb hby at_59) rfl (l' := #[.val (.int p1), .val (.int p2), .val (.int (3 : Int32)), .val (.int (5 : Int32)), .val (.ref w_FAILED), .val .null, .val (.int (0 : Int32))]) rfl k) ?_
      show OGot p.tables e below (T98.setTop (mkF m 61 #[.val (.int p1), .val (.int p2), .val (.int (3 : Int32)), .val (.int (5 : Int32)), .val (.ref w_FAILED), .val .null, .val (.int (0 : Int32))] [])) _
      refine OGot.go (fun t k => XS.aload X98.here hx rfl (hb hby at_61) rfl rfl k) ?_
      show OGot p.tables e below (T98.setTop (mkF m 63 #[.val (.int p1), .val (.int p2), .val (.int (3 : Int32)), .val (.int (5 : Int32)), .val (.ref w_FAILED), .val .null, .val (.int (0 : Int32))] [(.ref w_FAILED)])) _
      refine OGot.go (fun t k => XS.aload X98.here hx rfl (hb hby at_63) rfl rfl k) ?_
      show OGot p.tables e below (T98.setTop (mkF m 65 #[.val (.int p1), .val (.int p2), .val (.int (3 : Int32)), .val (.int (5 : Int32)), .val (.ref w_FAILED), .val .null, .val (.int (0 : Int32))] [.null, (.ref w_FAILED)])) _
      obtain ⟨cq99, kq99, q99a, q99b, q99c⟩ := isOf hZ e98 (G.2.2.2.1.ext O0.2)
      obtain ⟨_, _, ⟨T99, L99, k99, n99⟩, -, X99, ⟨Lc99, hQ99, l99, y99, z99⟩, st99⟩ := X98.virtualBack hx (y := (⟨"com/example/hermit_crab/hermitcrab/JobState", "canMoveTo", "(Lcom/example/hermit_crab/hermitcrab/JobState;)Z"⟩ : MethodName)) (z := (⟨"com/example/hermit_crab/hermitcrab/JobState", "canMoveTo", "(Lcom/example/hermit_crab/hermitcrab/JobState;)Z"⟩ : MethodName)) hown (mvT hZ (ow hw 11 rfl)) (mvT hZ (ow hw 12 rfl)) (notFace_of_selects (args := #[]) (mvT hZ (ow hw 14 rfl))) (mvT hZ (ow hw 14 rfl)) (mvT hZ (ow hw 13 rfl)) (by decide) (backOf (W := 0) (rm2_23 l Z a0 hw [] G  h0 n0 O0 ) hZ (ow hw 15 rfl) (ow hw 6 rfl) (by decide) (by decide)) q99a q99c (g := (mkF m 65 #[.val (.int p1), .val (.int p2), .val (.int (3 : Int32)), .val (.int (5 : Int32)), .val (.ref w_FAILED), .val .null, .val (.int (0 : Int32))] [.null, (.ref w_FAILED)])) rfl (by rw [hml]; rfl) (Steps.refl _) (argsL := [.null]) (rest := []) (lenOf pd_2 rfl) rfl (by show 2 * 0 + _ ≤ _; exact Nat.le_of_eq rfl) (hb hby at_65) (fun _ _ => ⟨rfl, e98, (by decide : 0 + 0 ≤ _), (by decide : 0 + 0 ≤ _)⟩)
      dsimp only [Pt.U, Pt.locs, Pt.cells, Pt.slots] at X99 l99 y99 z99 st99 hQ99
      subst l99 y99 z99
      obtain ⟨rfl, N99q, e99⟩ := hQ99
      have N99 := Fr.app N98 N99q
      refine OGot.on st99 ?_
      show OGot p.tables e below (T99.setTop (mkF m 68 #[.val (.int p1), .val (.int p2), .val (.int (3 : Int32)), .val (.int (5 : Int32)), .val (.ref w_FAILED), .val .null, .val (.int (0 : Int32))] [(.int (0 : Int32))])) _
      refine OGot.go (fun t k => XS.iload X99.here hx rfl (hb hby at_68) rfl k) ?_
      show OGot p.tables e below (T99.setTop (mkF m 70 #[.val (.int p1), .val (.int p2), .val (.int (3 : Int32)), .val (.int (5 : Int32)), .val (.ref w_FAILED), .val .null, .val (.int (0 : Int32))] [(.int (0 : Int32)), (.int (0 : Int32))])) _
      refine OGot.go (fun t k => XS.icmpNo X99.here hx rfl (hb hby at_70) rfl (by decide) k) ?_
      show OGot p.tables e below (T99.setTop (mkF m 73 #[.val (.int p1), .val (.int p2), .val (.int (3 : Int32)), .val (.int (5 : Int32)), .val (.ref w_FAILED), .val .null, .val (.int (0 : Int32))] [])) _
      refine OGot.go (fun t k => XS.iconst X99.here hx rfl (hb hby at_73) k) ?_
      show OGot p.tables e below (T99.setTop (mkF m 74 #[.val (.int p1), .val (.int p2), .val (.int (3 : Int32)), .val (.int (5 : Int32)), .val (.ref w_FAILED), .val .null, .val (.int (0 : Int32))] [(.int (1 : Int32))])) _
      refine OGot.go (fun t k => XS.goto X99.here hx rfl (pc0 := 74) (pc' := 78) rfl (hb hby at_74) (by decide) (by decide) k) ?_
      show OGot p.tables e below (T99.setTop (mkF m 78 #[.val (.int p1), .val (.int p2), .val (.int (3 : Int32)), .val (.int (5 : Int32)), .val (.ref w_FAILED), .val .null, .val (.int (0 : Int32))] [(.int (1 : Int32))])) _
      obtain ⟨fs, hr, hrun, hended, hW, hsame⟩ := X99.leave (v := some (.int (1 : Int32))) (fun h => by rw [Bd.returns] at h; cases h)
      refine ⟨_, _, retN X99 hx (t := .boolean) Bd.returns (by simp) (hb hby at_78) hr, hrun, hended, _, _, rfl, ?_, ⟨_, rfl⟩, hW, hsame.mono (by decide) (by decide)⟩
      exact (⟨rfl, N99⟩ : Q0 Z w_PENDING w_FAILED w_RUNNING w_CANCELLED w_COMPLETED p1 p2 h0 n0 _ T99.heap _)
  · rw [hk7]
    show OGot p.tables e below (s₁.setTop (mkF m 6 #[.val (.int p1), .val (.int p2), .unset, .unset, .unset, .unset, .unset] [(.int (4 : Int32))])) _
    refine OGot.go (fun t k => XS.istoreN X0.here hx rfl (hb hby at_6) rfl (l' := #[.val (.int p1), .val (.int p2), .val (.int (4 : Int32)), .unset, .unset, .unset, .unset]) rfl k) ?_
    show OGot p.tables e below (s₁.setTop (mkF m 7 #[.val (.int p1), .val (.int p2), .val (.int (4 : Int32)), .unset, .unset, .unset, .unset] [])) _
    refine OGot.go (fun t k => XS.iloadN X0.here hx rfl (hb hby at_7) rfl k) ?_
    show OGot p.tables e below (s₁.setTop (mkF m 8 #[.val (.int p1), .val (.int p2), .val (.int (4 : Int32)), .unset, .unset, .unset, .unset] [(.int p2)])) _
    refine OGot.go (fun t k => X0.ldcInt hx hown (mvT hZ (ow hw 0 rfl)) (g := (mkF m 8 #[.val (.int p1), .val (.int p2), .val (.int (4 : Int32)), .unset, .unset, .unset, .unset] [(.int p2)])) rfl (hb hby at_8) _ k) ?_
    show OGot p.tables e below (s₁.setTop (mkF m 10 #[.val (.int p1), .val (.int p2), .val (.int (4 : Int32)), .unset, .unset, .unset, .unset] [(.int (2147483647 : Int32)), (.int p2)])) _
    refine OGot.go (fun t k => XS.iand X0.here hx rfl (hb hby at_10) rfl k) ?_
    show OGot p.tables e below (s₁.setTop (mkF m 11 #[.val (.int p1), .val (.int p2), .val (.int (4 : Int32)), .unset, .unset, .unset, .unset] [(.int (p2 &&& (2147483647 : Int32)))])) _
    refine OGot.go (fun t k => XS.bipush X0.here hx rfl (hb hby at_11) k) ?_
    show OGot p.tables e below (s₁.setTop (mkF m 13 #[.val (.int p1), .val (.int p2), .val (.int (4 : Int32)), .unset, .unset, .unset, .unset] [(.int (6 : Int32)), (.int (p2 &&& (2147483647 : Int32)))])) _
    refine OGot.go (fun t k => iremM X0 hx rfl (hb hby at_13) rfl (by decide) k) ?_
    show OGot p.tables e below (s₁.setTop (mkF m 14 #[.val (.int p1), .val (.int p2), .val (.int (4 : Int32)), .unset, .unset, .unset, .unset] [(.int ((p2 &&& (2147483647 : Int32)) % (6 : Int32)))])) _
    rcases own_rem6 p2 with hk100 | hk101 | hk102 | hk103 | hk104 | hk105
    · rw [hk100]
      show OGot p.tables e below (s₁.setTop (mkF m 14 #[.val (.int p1), .val (.int p2), .val (.int (4 : Int32)), .unset, .unset, .unset, .unset] [(.int (0 : Int32))])) _
      refine OGot.go (fun t k => XS.istoreN X0.here hx rfl (hb hby at_14) rfl (l' := #[.val (.int p1), .val (.int p2), .val (.int (4 : Int32)), .val (.int (0 : Int32)), .unset, .unset, .unset]) rfl k) ?_
      show OGot p.tables e below (s₁.setTop (mkF m 15 #[.val (.int p1), .val (.int p2), .val (.int (4 : Int32)), .val (.int (0 : Int32)), .unset, .unset, .unset] [])) _
      refine OGot.go (fun t k => XS.iloadN X0.here hx rfl (hb hby at_15) rfl k) ?_
      show OGot p.tables e below (s₁.setTop (mkF m 16 #[.val (.int p1), .val (.int p2), .val (.int (4 : Int32)), .val (.int (0 : Int32)), .unset, .unset, .unset] [(.int (4 : Int32))])) _
      obtain ⟨_, _, ⟨T106, L106, k106, n106⟩, -, X106, ⟨Lc106, hQ106, l106, y106, z106⟩, st106⟩ := Jvm.LawKit.callS X0 hx (y := (⟨"com/example/hermit_crab/hermitcrab/JobStateCanMoveToPinLaw", "st", "(I)Lcom/example/hermit_crab/hermitcrab/JobState;"⟩ : MethodName)) hown (mvT hZ (ow hw 1 rfl)) (mvT hZ (ow hw 2 rfl)) (mvT hZ (ow hw 3 rfl)) (mvT hZ (ow hw 4 rfl)) (by decide) (backOf (W := 0) (rm1_4 l Z a0 hw [] G  h0 n0 O0 ) hZ (ow hw 4 rfl) (ow hw 3 rfl) (by decide) (by decide)) (g := (mkF m 16 #[.val (.int p1), .val (.int p2), .val (.int (4 : Int32)), .val (.int (0 : Int32)), .unset, .unset, .unset] [(.int (4 : Int32))])) rfl (by rw [hml]; rfl) (argsL := [(.int (4 : Int32))]) (rest := []) (lenOf pd_0 rfl) rfl (by show 2 * 0 + _ ≤ _; exact Nat.le_of_eq rfl) (hb hby at_16) (fun _ _ => ⟨rfl, e0, (by decide : 0 + 0 ≤ _), (by decide : 0 + 0 ≤ _)⟩)
      dsimp only [Pt.U, Pt.locs, Pt.cells, Pt.slots] at X106 l106 y106 z106 st106 hQ106
      subst l106 y106 z106
      obtain ⟨rfl, N106q, e106⟩ := hQ106
      have N106 := Fr.app N0 N106q
      refine OGot.go st106 ?_
      show OGot p.tables e below (T106.setTop (mkF m 19 #[.val (.int p1), .val (.int p2), .val (.int (4 : Int32)), .val (.int (0 : Int32)), .unset, .unset, .unset] [(.ref w_CANCELLED)])) _
      refine OGot.go (fun t k => XS.astore X106.here hx rfl (hb hby at_19) rfl rfl (l' := #[.val (.int p1), .val (.int p2), .val (.int (4 : Int32)), .val (.int (0 : Int32)), .val (.ref w_CANCELLED), .unset, .unset]) rfl k) ?_
      show OGot p.tables e below (T106.setTop (mkF m 21 #[.val (.int p1), .val (.int p2), .val (.int (4 : Int32)), .val (.int (0 : Int32)), .val (.ref w_CANCELLED), .unset, .unset] [])) _
      refine OGot.go (fun t k => XS.iloadN X106.here hx rfl (hb hby at_21) rfl k) ?_
      show OGot p.tables e below (T106.setTop (mkF m 22 #[.val (.int p1), .val (.int p2), .val (.int (4 : Int32)), .val (.int (0 : Int32)), .val (.ref w_CANCELLED), .unset, .unset] [(.int (0 : Int32))])) _
      refine OGot.go (fun t k => XS.iconst X106.here hx rfl (hb hby at_22) k) ?_
      show OGot p.tables e below (T106.setTop (mkF m 23 #[.val (.int p1), .val (.int p2), .val (.int (4 : Int32)), .val (.int (0 : Int32)), .val (.ref w_CANCELLED), .unset, .unset] [(.int (5 : Int32)), (.int (0 : Int32))])) _
      refine OGot.go (fun t k => XS.icmpYes X106.here hx rfl (pc0 := 23) (pc' := 30) rfl (hb hby at_23) rfl (by decide) (by decide) (by decide) k) ?_
      show OGot p.tables e below (T106.setTop (mkF m 30 #[.val (.int p1), .val (.int p2), .val (.int (4 : Int32)), .val (.int (0 : Int32)), .val (.ref w_CANCELLED), .unset, .unset] [])) _
      refine OGot.go (fun t k => XS.iloadN X106.here hx rfl (hb hby at_30) rfl k) ?_
      show OGot p.tables e below (T106.setTop (mkF m 31 #[.val (.int p1), .val (.int p2), .val (.int (4 : Int32)), .val (.int (0 : Int32)), .val (.ref w_CANCELLED), .unset, .unset] [(.int (0 : Int32))])) _
      obtain ⟨_, _, ⟨T107, L107, k107, n107⟩, -, X107, ⟨Lc107, hQ107, l107, y107, z107⟩, st107⟩ := Jvm.LawKit.callS X106 hx (y := (⟨"com/example/hermit_crab/hermitcrab/JobStateCanMoveToPinLaw", "st", "(I)Lcom/example/hermit_crab/hermitcrab/JobState;"⟩ : MethodName)) hown (mvT hZ (ow hw 1 rfl)) (mvT hZ (ow hw 2 rfl)) (mvT hZ (ow hw 3 rfl)) (mvT hZ (ow hw 4 rfl)) (by decide) (backOf (W := 0) (rm1 l Z a0 hw [] G  h0 n0 O0 ) hZ (ow hw 4 rfl) (ow hw 3 rfl) (by decide) (by decide)) (g := (mkF m 31 #[.val (.int p1), .val (.int p2), .val (.int (4 : Int32)), .val (.int (0 : Int32)), .val (.ref w_CANCELLED), .unset, .unset] [(.int (0 : Int32))])) rfl (by rw [hml]; rfl) (argsL := [(.int (0 : Int32))]) (rest := []) (lenOf pd_0 rfl) rfl (by show 2 * 0 + _ ≤ _; exact Nat.le_of_eq rfl) (hb hby at_31) (fun _ _ => ⟨rfl, e106, (by decide : 0 + 0 ≤ _), (by decide : 0 + 0 ≤ _)⟩)
      dsimp only [Pt.U, Pt.locs, Pt.cells, Pt.slots] at X107 l107 y107 z107 st107 hQ107
      subst l107 y107 z107
      obtain ⟨rfl, N107q, e107⟩ := hQ107
      have N107 := Fr.app N106 N107q
      refine OGot.go st107 ?_
      show OGot p.tables e below (T107.setTop (mkF m 34 #[.val (.int p1), .val (.int p2), .val (.int (4 : Int32)), .val (.int (0 : Int32)), .val (.ref w_CANCELLED), .unset, .unset] [(.ref w_PENDING)])) _
      refine OGot.go (fun t k => XS.astore X107.here hx rfl (hb hby at_34) rfl rfl (l' := #[.val (.int p1), .val (.int p2), .val (.int (4 : Int32)), .val (.int (0 : Int32)), .val (.ref w_CANCELLED), .val (.ref w_PENDING), .unset]) rfl k) ?_
      show OGot p.tables e below (T107.setTop (mkF m 36 #[.val (.int p1), .val (.int p2), .val (.int (4 : Int32)), .val (.int (0 : Int32)), .val (.ref w_CANCELLED), .val (.ref w_PENDING), .unset] [])) _
      refine OGot.go (fun t k => XS.iloadN X107.here hx rfl (hb hby at_36) rfl k) ?_
      show OGot p.tables e below (T107.setTop (mkF m 37 #[.val (.int p1), .val (.int p2), .val (.int (4 : Int32)), .val (.int (0 : Int32)), .val (.ref w_CANCELLED), .val (.ref w_PENDING), .unset] [(.int (0 : Int32))])) _
      refine OGot.go (fun t k => XS.iconst X107.here hx rfl (hb hby at_37) k) ?_
      show OGot p.tables e below (T107.setTop (mkF m 38 #[.val (.int p1), .val (.int p2), .val (.int (4 : Int32)), .val (.int (0 : Int32)), .val (.ref w_CANCELLED), .val (.ref w_PENDING), .unset] [(.int (5 : Int32)), (.int (0 : Int32))])) _
      refine OGot.go (fun t k => XS.icmpNo X107.here hx rfl (hb hby at_38) rfl (by decide) k) ?_
      show OGot p.tables e below (T107.setTop (mkF m 41 #[.val (.int p1), .val (.int p2), .val (.int (4 : Int32)), .val (.int (0 : Int32)), .val (.ref w_CANCELLED), .val (.ref w_PENDING), .unset] [])) _
      refine OGot.go (fun t k => X107.ldcInt hx hown (mvT hZ (ow hw 10 rfl)) (g := (mkF m 41 #[.val (.int p1), .val (.int p2), .val (.int (4 : Int32)), .val (.int (0 : Int32)), .val (.ref w_CANCELLED), .val (.ref w_PENDING), .unset] [])) rfl (hb hby at_41) _ k) ?_
      show OGot p.tables e below (T107.setTop (mkF m 43 #[.val (.int p1), .val (.int p2), .val (.int (4 : Int32)), .val (.int (0 : Int32)), .val (.ref w_CANCELLED), .val (.ref w_PENDING), .unset] [(.int (33202 : Int32))])) _
      refine OGot.go (fun t k => XS.iconst X107.here hx rfl (hb hby at_43) k) ?_
      show OGot p.tables e below (T107.setTop (mkF m 44 #[.val (.int p1), .val (.int p2), .val (.int (4 : Int32)), .val (.int (0 : Int32)), .val (.ref w_CANCELLED), .val (.ref w_PENDING), .unset] [(.int (5 : Int32)), (.int (33202 : Int32))])) _
      refine OGot.go (fun t k => XS.iloadN X107.here hx rfl (hb hby at_44) rfl k) ?_
      show OGot p.tables e below (T107.setTop (mkF m 45 #[.val (.int p1), .val (.int p2), .val (.int (4 : Int32)), .val (.int (0 : Int32)), .val (.ref w_CANCELLED), .val (.ref w_PENDING), .unset] [(.int (4 : Int32)), (.int (5 : Int32)), (.int (33202 : Int32))])) _
      refine OGot.go (fun t k => XS.imul X107.here hx rfl (hb hby at_45) rfl k) ?_
      show OGot p.tables e below (T107.setTop (mkF m 46 #[.val (.int p1), .val (.int p2), .val (.int (4 : Int32)), .val (.int (0 : Int32)), .val (.ref w_CANCELLED), .val (.ref w_PENDING), .unset] [(.int ((5 : Int32) * (4 : Int32))), (.int (33202 : Int32))])) _
      rw [show ((5 : Int32) * (4 : Int32)) = (20 : Int32) from by decide]
      show OGot p.tables e below (T107.setTop (mkF m 46 #[.val (.int p1), .val (.int p2), .val (.int (4 : Int32)), .val (.int (0 : Int32)), .val (.ref w_CANCELLED), .val (.ref w_PENDING), .unset] [(.int (20 : Int32)), (.int (33202 : Int32))])) _
      refine OGot.go (fun t k => XS.iloadN X107.here hx rfl (hb hby at_46) rfl k) ?_
      show OGot p.tables e below (T107.setTop (mkF m 47 #[.val (.int p1), .val (.int p2), .val (.int (4 : Int32)), .val (.int (0 : Int32)), .val (.ref w_CANCELLED), .val (.ref w_PENDING), .unset] [(.int (0 : Int32)), (.int (20 : Int32)), (.int (33202 : Int32))])) _
      refine OGot.go (fun t k => XS.iadd X107.here hx rfl (hb hby at_47) rfl k) ?_
      show OGot p.tables e below (T107.setTop (mkF m 48 #[.val (.int p1), .val (.int p2), .val (.int (4 : Int32)), .val (.int (0 : Int32)), .val (.ref w_CANCELLED), .val (.ref w_PENDING), .unset] [(.int ((20 : Int32) + (0 : Int32))), (.int (33202 : Int32))])) _
      rw [show ((20 : Int32) + (0 : Int32)) = (20 : Int32) from by decide]
      show OGot p.tables e below (T107.setTop (mkF m 48 #[.val (.int p1), .val (.int p2), .val (.int (4 : Int32)), .val (.int (0 : Int32)), .val (.ref w_CANCELLED), .val (.ref w_PENDING), .unset] [(.int (20 : Int32)), (.int (33202 : Int32))])) _
      refine OGot.go (fun t k => XS.ishr X107.here hx rfl (hb hby at_48) rfl k) ?_
      show OGot p.tables e below (T107.setTop (mkF m 49 #[.val (.int p1), .val (.int p2), .val (.int (4 : Int32)), .val (.int (0 : Int32)), .val (.ref w_CANCELLED), .val (.ref w_PENDING), .unset] [(.int ((33202 : Int32) >>> ((20 : Int32) &&& 31)))])) _
      rw [show ((33202 : Int32) >>> ((20 : Int32) &&& 31)) = (0 : Int32) from by decide]
      show OGot p.tables e below (T107.setTop (mkF m 49 #[.val (.int p1), .val (.int p2), .val (.int (4 : Int32)), .val (.int (0 : Int32)), .val (.ref w_CANCELLED), .val (.ref w_PENDING), .unset] [(.int (0 : Int32))])) _
      refine OGot.go (fun t k => XS.iconst X107.here hx rfl (hb hby at_49) k) ?_
      show OGot p.tables e below (T107.setTop (mkF m 50 #[.val (.int p1), .val (.int p2), .val (.int (4 : Int32)), .val (.int (0 : Int32)), .val (.ref w_CANCELLED), .val (.ref w_PENDING), .unset] [(.int (1 : Int32)), (.int (0 : Int32))])) _
      refine OGot.go (fun t k => XS.iand X107.here hx rfl (hb hby at_50) rfl k) ?_
      show OGot p.tables e below (T107.setTop (mkF m 51 #[.val (.int p1), .val (.int p2), .val (.int (4 : Int32)), .val (.int (0 : Int32)), .val (.ref w_CANCELLED), .val (.ref w_PENDING), .unset] [(.int ((0 : Int32) &&& (1 : Int32)))])) _
      rw [show ((0 : Int32) &&& (1 : Int32)) = (0 : Int32) from by decide]
      show OGot p.tables e below (T107.setTop (mkF m 51 #[.val (.int p1), .val (.int p2), .val (.int (4 : Int32)), .val (.int (0 : Int32)), .val (.ref w_CANCELLED), .val (.ref w_PENDING), .unset] [(.int (0 : Int32))])) _
      refine OGot.go (fun t k => XS.ifYes X107.here hx rfl (pc0 := 51) (pc' := 58) rfl (hb hby at_51) rfl (by decide) (by decide) (by decide) k) ?_
      show OGot p.tables e below (T107.setTop (mkF m 58 #[.val (.int p1), .val (.int p2), .val (.int (4 : Int32)), .val (.int (0 : Int32)), .val (.ref w_CANCELLED), .val (.ref w_PENDING), .unset] [])) _
      refine OGot.go (fun t k => XS.iconst X107.here hx rfl (hb hby at_58) k) ?_
      show OGot p.tables e below (T107.setTop (mkF m 59 #[.val (.int p1), .val (.int p2), .val (.int (4 : Int32)), .val (.int (0 : Int32)), .val (.ref w_CANCELLED), .val (.ref w_PENDING), .unset] [(.int (0 : Int32))])) _
      refine OGot.go (fun t k => XS.istore X107.here hx rfl (hb hby at_59) rfl (l' := #[.val (.int p1), .val (.int p2), .val (.int (4 : Int32)), .val (.int (0 : Int32)), .val (.ref w_CANCELLED), .val (.ref w_PENDING), .val (.int (0 : Int32))]) rfl k) ?_
      show OGot p.tables e below (T107.setTop (mkF m 61 #[.val (.int p1), .val (.int p2), .val (.int (4 : Int32)), .val (.int (0 : Int32)), .val (.ref w_CANCELLED), .val (.ref w_PENDING), .val (.int (0 : Int32))] [])) _
      refine OGot.go (fun t k => XS.aload X107.here hx rfl (hb hby at_61) rfl rfl k) ?_
      show OGot p.tables e below (T107.setTop (mkF m 63 #[.val (.int p1), .val (.int p2), .val (.int (4 : Int32)), .val (.int (0 : Int32)), .val (.ref w_CANCELLED), .val (.ref w_PENDING), .val (.int (0 : Int32))] [(.ref w_CANCELLED)])) _
      refine OGot.go (fun t k => XS.aload X107.here hx rfl (hb hby at_63) rfl rfl k) ?_
      show OGot p.tables e below (T107.setTop (mkF m 65 #[.val (.int p1), .val (.int p2), .val (.int (4 : Int32)), .val (.int (0 : Int32)), .val (.ref w_CANCELLED), .val (.ref w_PENDING), .val (.int (0 : Int32))] [(.ref w_PENDING), (.ref w_CANCELLED)])) _
      obtain ⟨cq108, kq108, q108a, q108b, q108c⟩ := isOf hZ e107 (G.2.2.2.2.2.2.2.1.ext O0.2)
      obtain ⟨_, _, ⟨T108, L108, k108, n108⟩, -, X108, ⟨Lc108, hQ108, l108, y108, z108⟩, st108⟩ := X107.virtualBack hx (y := (⟨"com/example/hermit_crab/hermitcrab/JobState", "canMoveTo", "(Lcom/example/hermit_crab/hermitcrab/JobState;)Z"⟩ : MethodName)) (z := (⟨"com/example/hermit_crab/hermitcrab/JobState", "canMoveTo", "(Lcom/example/hermit_crab/hermitcrab/JobState;)Z"⟩ : MethodName)) hown (mvT hZ (ow hw 11 rfl)) (mvT hZ (ow hw 12 rfl)) (notFace_of_selects (args := #[]) (mvT hZ (ow hw 14 rfl))) (mvT hZ (ow hw 14 rfl)) (mvT hZ (ow hw 13 rfl)) (by decide) (backOf (W := 0) (rm2_24 l Z a0 hw [] G  h0 n0 O0 ) hZ (ow hw 15 rfl) (ow hw 6 rfl) (by decide) (by decide)) q108a q108c (g := (mkF m 65 #[.val (.int p1), .val (.int p2), .val (.int (4 : Int32)), .val (.int (0 : Int32)), .val (.ref w_CANCELLED), .val (.ref w_PENDING), .val (.int (0 : Int32))] [(.ref w_PENDING), (.ref w_CANCELLED)])) rfl (by rw [hml]; rfl) (Steps.refl _) (argsL := [(.ref w_PENDING)]) (rest := []) (lenOf pd_2 rfl) rfl (by show 2 * 0 + _ ≤ _; exact Nat.le_of_eq rfl) (hb hby at_65) (fun _ _ => ⟨rfl, e107, (by decide : 0 + 0 ≤ _), (by decide : 0 + 0 ≤ _)⟩)
      dsimp only [Pt.U, Pt.locs, Pt.cells, Pt.slots] at X108 l108 y108 z108 st108 hQ108
      subst l108 y108 z108
      obtain ⟨rfl, N108q, e108⟩ := hQ108
      have N108 := Fr.app N107 N108q
      refine OGot.on st108 ?_
      show OGot p.tables e below (T108.setTop (mkF m 68 #[.val (.int p1), .val (.int p2), .val (.int (4 : Int32)), .val (.int (0 : Int32)), .val (.ref w_CANCELLED), .val (.ref w_PENDING), .val (.int (0 : Int32))] [(.int (0 : Int32))])) _
      refine OGot.go (fun t k => XS.iload X108.here hx rfl (hb hby at_68) rfl k) ?_
      show OGot p.tables e below (T108.setTop (mkF m 70 #[.val (.int p1), .val (.int p2), .val (.int (4 : Int32)), .val (.int (0 : Int32)), .val (.ref w_CANCELLED), .val (.ref w_PENDING), .val (.int (0 : Int32))] [(.int (0 : Int32)), (.int (0 : Int32))])) _
      refine OGot.go (fun t k => XS.icmpNo X108.here hx rfl (hb hby at_70) rfl (by decide) k) ?_
      show OGot p.tables e below (T108.setTop (mkF m 73 #[.val (.int p1), .val (.int p2), .val (.int (4 : Int32)), .val (.int (0 : Int32)), .val (.ref w_CANCELLED), .val (.ref w_PENDING), .val (.int (0 : Int32))] [])) _
      refine OGot.go (fun t k => XS.iconst X108.here hx rfl (hb hby at_73) k) ?_
      show OGot p.tables e below (T108.setTop (mkF m 74 #[.val (.int p1), .val (.int p2), .val (.int (4 : Int32)), .val (.int (0 : Int32)), .val (.ref w_CANCELLED), .val (.ref w_PENDING), .val (.int (0 : Int32))] [(.int (1 : Int32))])) _
      refine OGot.go (fun t k => XS.goto X108.here hx rfl (pc0 := 74) (pc' := 78) rfl (hb hby at_74) (by decide) (by decide) k) ?_
      show OGot p.tables e below (T108.setTop (mkF m 78 #[.val (.int p1), .val (.int p2), .val (.int (4 : Int32)), .val (.int (0 : Int32)), .val (.ref w_CANCELLED), .val (.ref w_PENDING), .val (.int (0 : Int32))] [(.int (1 : Int32))])) _
      obtain ⟨fs, hr, hrun, hended, hW, hsame⟩ := X108.leave (v := some (.int (1 : Int32))) (fun h => by rw [Bd.returns] at h; cases h)
      refine ⟨_, _, retN X108 hx (t := .boolean) Bd.returns (by simp) (hb hby at_78) hr, hrun, hended, _, _, rfl, ?_, ⟨_, rfl⟩, hW, hsame.mono (by decide) (by decide)⟩
      exact (⟨rfl, N108⟩ : Q0 Z w_PENDING w_FAILED w_RUNNING w_CANCELLED w_COMPLETED p1 p2 h0 n0 _ T108.heap _)
    · rw [hk101]
      show OGot p.tables e below (s₁.setTop (mkF m 14 #[.val (.int p1), .val (.int p2), .val (.int (4 : Int32)), .unset, .unset, .unset, .unset] [(.int (1 : Int32))])) _
      refine OGot.go (fun t k => XS.istoreN X0.here hx rfl (hb hby at_14) rfl (l' := #[.val (.int p1), .val (.int p2), .val (.int (4 : Int32)), .val (.int (1 : Int32)), .unset, .unset, .unset]) rfl k) ?_
      show OGot p.tables e below (s₁.setTop (mkF m 15 #[.val (.int p1), .val (.int p2), .val (.int (4 : Int32)), .val (.int (1 : Int32)), .unset, .unset, .unset] [])) _
      refine OGot.go (fun t k => XS.iloadN X0.here hx rfl (hb hby at_15) rfl k) ?_
      show OGot p.tables e below (s₁.setTop (mkF m 16 #[.val (.int p1), .val (.int p2), .val (.int (4 : Int32)), .val (.int (1 : Int32)), .unset, .unset, .unset] [(.int (4 : Int32))])) _
      obtain ⟨_, _, ⟨T109, L109, k109, n109⟩, -, X109, ⟨Lc109, hQ109, l109, y109, z109⟩, st109⟩ := Jvm.LawKit.callS X0 hx (y := (⟨"com/example/hermit_crab/hermitcrab/JobStateCanMoveToPinLaw", "st", "(I)Lcom/example/hermit_crab/hermitcrab/JobState;"⟩ : MethodName)) hown (mvT hZ (ow hw 1 rfl)) (mvT hZ (ow hw 2 rfl)) (mvT hZ (ow hw 3 rfl)) (mvT hZ (ow hw 4 rfl)) (by decide) (backOf (W := 0) (rm1_4 l Z a0 hw [] G  h0 n0 O0 ) hZ (ow hw 4 rfl) (ow hw 3 rfl) (by decide) (by decide)) (g := (mkF m 16 #[.val (.int p1), .val (.int p2), .val (.int (4 : Int32)), .val (.int (1 : Int32)), .unset, .unset, .unset] [(.int (4 : Int32))])) rfl (by rw [hml]; rfl) (argsL := [(.int (4 : Int32))]) (rest := []) (lenOf pd_0 rfl) rfl (by show 2 * 0 + _ ≤ _; exact Nat.le_of_eq rfl) (hb hby at_16) (fun _ _ => ⟨rfl, e0, (by decide : 0 + 0 ≤ _), (by decide : 0 + 0 ≤ _)⟩)
      dsimp only [Pt.U, Pt.locs, Pt.cells, Pt.slots] at X109 l109 y109 z109 st109 hQ109
      subst l109 y109 z109
      obtain ⟨rfl, N109q, e109⟩ := hQ109
      have N109 := Fr.app N0 N109q
      refine OGot.go st109 ?_
      show OGot p.tables e below (T109.setTop (mkF m 19 #[.val (.int p1), .val (.int p2), .val (.int (4 : Int32)), .val (.int (1 : Int32)), .unset, .unset, .unset] [(.ref w_CANCELLED)])) _
      refine OGot.go (fun t k => XS.astore X109.here hx rfl (hb hby at_19) rfl rfl (l' := #[.val (.int p1), .val (.int p2), .val (.int (4 : Int32)), .val (.int (1 : Int32)), .val (.ref w_CANCELLED), .unset, .unset]) rfl k) ?_
      show OGot p.tables e below (T109.setTop (mkF m 21 #[.val (.int p1), .val (.int p2), .val (.int (4 : Int32)), .val (.int (1 : Int32)), .val (.ref w_CANCELLED), .unset, .unset] [])) _
      refine OGot.go (fun t k => XS.iloadN X109.here hx rfl (hb hby at_21) rfl k) ?_
      show OGot p.tables e below (T109.setTop (mkF m 22 #[.val (.int p1), .val (.int p2), .val (.int (4 : Int32)), .val (.int (1 : Int32)), .val (.ref w_CANCELLED), .unset, .unset] [(.int (1 : Int32))])) _
      refine OGot.go (fun t k => XS.iconst X109.here hx rfl (hb hby at_22) k) ?_
      show OGot p.tables e below (T109.setTop (mkF m 23 #[.val (.int p1), .val (.int p2), .val (.int (4 : Int32)), .val (.int (1 : Int32)), .val (.ref w_CANCELLED), .unset, .unset] [(.int (5 : Int32)), (.int (1 : Int32))])) _
      refine OGot.go (fun t k => XS.icmpYes X109.here hx rfl (pc0 := 23) (pc' := 30) rfl (hb hby at_23) rfl (by decide) (by decide) (by decide) k) ?_
      show OGot p.tables e below (T109.setTop (mkF m 30 #[.val (.int p1), .val (.int p2), .val (.int (4 : Int32)), .val (.int (1 : Int32)), .val (.ref w_CANCELLED), .unset, .unset] [])) _
      refine OGot.go (fun t k => XS.iloadN X109.here hx rfl (hb hby at_30) rfl k) ?_
      show OGot p.tables e below (T109.setTop (mkF m 31 #[.val (.int p1), .val (.int p2), .val (.int (4 : Int32)), .val (.int (1 : Int32)), .val (.ref w_CANCELLED), .unset, .unset] [(.int (1 : Int32))])) _
      obtain ⟨_, _, ⟨T110, L110, k110, n110⟩, -, X110, ⟨Lc110, hQ110, l110, y110, z110⟩, st110⟩ := Jvm.LawKit.callS X109 hx (y := (⟨"com/example/hermit_crab/hermitcrab/JobStateCanMoveToPinLaw", "st", "(I)Lcom/example/hermit_crab/hermitcrab/JobState;"⟩ : MethodName)) hown (mvT hZ (ow hw 1 rfl)) (mvT hZ (ow hw 2 rfl)) (mvT hZ (ow hw 3 rfl)) (mvT hZ (ow hw 4 rfl)) (by decide) (backOf (W := 0) (rm1_1 l Z a0 hw [] G  h0 n0 O0 ) hZ (ow hw 4 rfl) (ow hw 3 rfl) (by decide) (by decide)) (g := (mkF m 31 #[.val (.int p1), .val (.int p2), .val (.int (4 : Int32)), .val (.int (1 : Int32)), .val (.ref w_CANCELLED), .unset, .unset] [(.int (1 : Int32))])) rfl (by rw [hml]; rfl) (argsL := [(.int (1 : Int32))]) (rest := []) (lenOf pd_0 rfl) rfl (by show 2 * 0 + _ ≤ _; exact Nat.le_of_eq rfl) (hb hby at_31) (fun _ _ => ⟨rfl, e109, (by decide : 0 + 0 ≤ _), (by decide : 0 + 0 ≤ _)⟩)
      dsimp only [Pt.U, Pt.locs, Pt.cells, Pt.slots] at X110 l110 y110 z110 st110 hQ110
      subst l110 y110 z110
      obtain ⟨rfl, N110q, e110⟩ := hQ110
      have N110 := Fr.app N109 N110q
      refine OGot.go st110 ?_
      show OGot p.tables e below (T110.setTop (mkF m 34 #[.val (.int p1), .val (.int p2), .val (.int (4 : Int32)), .val (.int (1 : Int32)), .val (.ref w_CANCELLED), .unset, .unset] [(.ref w_RUNNING)])) _
      refine OGot.go (fun t k => XS.astore X110.here hx rfl (hb hby at_34) rfl rfl (l' := #[.val (.int p1), .val (.int p2), .val (.int (4 : Int32)), .val (.int (1 : Int32)), .val (.ref w_CANCELLED), .val (.ref w_RUNNING), .unset]) rfl k) ?_
      show OGot p.tables e below (T110.setTop (mkF m 36 #[.val (.int p1), .val (.int p2), .val (.int (4 : Int32)), .val (.int (1 : Int32)), .val (.ref w_CANCELLED), .val (.ref w_RUNNING), .unset] [])) _
      refine OGot.go (fun t k => XS.iloadN X110.here hx rfl (hb hby at_36) rfl k) ?_
      show OGot p.tables e below (T110.setTop (mkF m 37 #[.val (.int p1), .val (.int p2), .val (.int (4 : Int32)), .val (.int (1 : Int32)), .val (.ref w_CANCELLED), .val (.ref w_RUNNING), .unset] [(.int (1 : Int32))])) _
      refine OGot.go (fun t k => XS.iconst X110.here hx rfl (hb hby at_37) k) ?_
      show OGot p.tables e below (T110.setTop (mkF m 38 #[.val (.int p1), .val (.int p2), .val (.int (4 : Int32)), .val (.int (1 : Int32)), .val (.ref w_CANCELLED), .val (.ref w_RUNNING), .unset] [(.int (5 : Int32)), (.int (1 : Int32))])) _
      refine OGot.go (fun t k => XS.icmpNo X110.here hx rfl (hb hby at_38) rfl (by decide) k) ?_
      show OGot p.tables e below (T110.setTop (mkF m 41 #[.val (.int p1), .val (.int p2), .val (.int (4 : Int32)), .val (.int (1 : Int32)), .val (.ref w_CANCELLED), .val (.ref w_RUNNING), .unset] [])) _
      refine OGot.go (fun t k => X110.ldcInt hx hown (mvT hZ (ow hw 10 rfl)) (g := (mkF m 41 #[.val (.int p1), .val (.int p2), .val (.int (4 : Int32)), .val (.int (1 : Int32)), .val (.ref w_CANCELLED), .val (.ref w_RUNNING), .unset] [])) rfl (hb hby at_41) _ k) ?_
      show OGot p.tables e below (T110.setTop (mkF m 43 #[.val (.int p1), .val (.int p2), .val (.int (4 : Int32)), .val (.int (1 : Int32)), .val (.ref w_CANCELLED), .val (.ref w_RUNNING), .unset] [(.int (33202 : Int32))])) _
      refine OGot.go (fun t k => XS.iconst X110.here hx rfl (hb hby at_43) k) ?_
      show OGot p.tables e below (T110.setTop (mkF m 44 #[.val (.int p1), .val (.int p2), .val (.int (4 : Int32)), .val (.int (1 : Int32)), .val (.ref w_CANCELLED), .val (.ref w_RUNNING), .unset] [(.int (5 : Int32)), (.int (33202 : Int32))])) _
      refine OGot.go (fun t k => XS.iloadN X110.here hx rfl (hb hby at_44) rfl k) ?_
      show OGot p.tables e below (T110.setTop (mkF m 45 #[.val (.int p1), .val (.int p2), .val (.int (4 : Int32)), .val (.int (1 : Int32)), .val (.ref w_CANCELLED), .val (.ref w_RUNNING), .unset] [(.int (4 : Int32)), (.int (5 : Int32)), (.int (33202 : Int32))])) _
      refine OGot.go (fun t k => XS.imul X110.here hx rfl (hb hby at_45) rfl k) ?_
      show OGot p.tables e below (T110.setTop (mkF m 46 #[.val (.int p1), .val (.int p2), .val (.int (4 : Int32)), .val (.int (1 : Int32)), .val (.ref w_CANCELLED), .val (.ref w_RUNNING), .unset] [(.int ((5 : Int32) * (4 : Int32))), (.int (33202 : Int32))])) _
      rw [show ((5 : Int32) * (4 : Int32)) = (20 : Int32) from by decide]
      show OGot p.tables e below (T110.setTop (mkF m 46 #[.val (.int p1), .val (.int p2), .val (.int (4 : Int32)), .val (.int (1 : Int32)), .val (.ref w_CANCELLED), .val (.ref w_RUNNING), .unset] [(.int (20 : Int32)), (.int (33202 : Int32))])) _
      refine OGot.go (fun t k => XS.iloadN X110.here hx rfl (hb hby at_46) rfl k) ?_
      show OGot p.tables e below (T110.setTop (mkF m 47 #[.val (.int p1), .val (.int p2), .val (.int (4 : Int32)), .val (.int (1 : Int32)), .val (.ref w_CANCELLED), .val (.ref w_RUNNING), .unset] [(.int (1 : Int32)), (.int (20 : Int32)), (.int (33202 : Int32))])) _
      refine OGot.go (fun t k => XS.iadd X110.here hx rfl (hb hby at_47) rfl k) ?_
      show OGot p.tables e below (T110.setTop (mkF m 48 #[.val (.int p1), .val (.int p2), .val (.int (4 : Int32)), .val (.int (1 : Int32)), .val (.ref w_CANCELLED), .val (.ref w_RUNNING), .unset] [(.int ((20 : Int32) + (1 : Int32))), (.int (33202 : Int32))])) _
      rw [show ((20 : Int32) + (1 : Int32)) = (21 : Int32) from by decide]
      show OGot p.tables e below (T110.setTop (mkF m 48 #[.val (.int p1), .val (.int p2), .val (.int (4 : Int32)), .val (.int (1 : Int32)), .val (.ref w_CANCELLED), .val (.ref w_RUNNING), .unset] [(.int (21 : Int32)), (.int (33202 : Int32))])) _
      refine OGot.go (fun t k => XS.ishr X110.here hx rfl (hb hby at_48) rfl k) ?_
      show OGot p.tables e below (T110.setTop (mkF m 49 #[.val (.int p1), .val (.int p2), .val (.int (4 : Int32)), .val (.int (1 : Int32)), .val (.ref w_CANCELLED), .val (.ref w_RUNNING), .unset] [(.int ((33202 : Int32) >>> ((21 : Int32) &&& 31)))])) _
      rw [show ((33202 : Int32) >>> ((21 : Int32) &&& 31)) = (0 : Int32) from by decide]
      show OGot p.tables e below (T110.setTop (mkF m 49 #[.val (.int p1), .val (.int p2), .val (.int (4 : Int32)), .val (.int (1 : Int32)), .val (.ref w_CANCELLED), .val (.ref w_RUNNING), .unset] [(.int (0 : Int32))])) _
      refine OGot.go (fun t k => XS.iconst X110.here hx rfl (hb hby at_49) k) ?_
      show OGot p.tables e below (T110.setTop (mkF m 50 #[.val (.int p1), .val (.int p2), .val (.int (4 : Int32)), .val (.int (1 : Int32)), .val (.ref w_CANCELLED), .val (.ref w_RUNNING), .unset] [(.int (1 : Int32)), (.int (0 : Int32))])) _
      refine OGot.go (fun t k => XS.iand X110.here hx rfl (hb hby at_50) rfl k) ?_
      show OGot p.tables e below (T110.setTop (mkF m 51 #[.val (.int p1), .val (.int p2), .val (.int (4 : Int32)), .val (.int (1 : Int32)), .val (.ref w_CANCELLED), .val (.ref w_RUNNING), .unset] [(.int ((0 : Int32) &&& (1 : Int32)))])) _
      rw [show ((0 : Int32) &&& (1 : Int32)) = (0 : Int32) from by decide]
      show OGot p.tables e below (T110.setTop (mkF m 51 #[.val (.int p1), .val (.int p2), .val (.int (4 : Int32)), .val (.int (1 : Int32)), .val (.ref w_CANCELLED), .val (.ref w_RUNNING), .unset] [(.int (0 : Int32))])) _
      refine OGot.go (fun t k => XS.ifYes X110.here hx rfl (pc0 := 51) (pc' := 58) rfl (hb hby at_51) rfl (by decide) (by decide) (by decide) k) ?_
      show OGot p.tables e below (T110.setTop (mkF m 58 #[.val (.int p1), .val (.int p2), .val (.int (4 : Int32)), .val (.int (1 : Int32)), .val (.ref w_CANCELLED), .val (.ref w_RUNNING), .unset] [])) _
      refine OGot.go (fun t k => XS.iconst X110.here hx rfl (hb hby at_58) k) ?_
      show OGot p.tables e below (T110.setTop (mkF m 59 #[.val (.int p1), .val (.int p2), .val (.int (4 : Int32)), .val (.int (1 : Int32)), .val (.ref w_CANCELLED), .val (.ref w_RUNNING), .unset] [(.int (0 : Int32))])) _
      refine OGot.go (fun t k => XS.istore X110.here hx rfl (hb hby at_59) rfl (l' := #[.val (.int p1), .val (.int p2), .val (.int (4 : Int32)), .val (.int (1 : Int32)), .val (.ref w_CANCELLED), .val (.ref w_RUNNING), .val (.int (0 : Int32))]) rfl k) ?_
      show OGot p.tables e below (T110.setTop (mkF m 61 #[.val (.int p1), .val (.int p2), .val (.int (4 : Int32)), .val (.int (1 : Int32)), .val (.ref w_CANCELLED), .val (.ref w_RUNNING), .val (.int (0 : Int32))] [])) _
      refine OGot.go (fun t k => XS.aload X110.here hx rfl (hb hby at_61) rfl rfl k) ?_
      show OGot p.tables e below (T110.setTop (mkF m 63 #[.val (.int p1), .val (.int p2), .val (.int (4 : Int32)), .val (.int (1 : Int32)), .val (.ref w_CANCELLED), .val (.ref w_RUNNING), .val (.int (0 : Int32))] [(.ref w_CANCELLED)])) _
      refine OGot.go (fun t k => XS.aload X110.here hx rfl (hb hby at_63) rfl rfl k) ?_
      show OGot p.tables e below (T110.setTop (mkF m 65 #[.val (.int p1), .val (.int p2), .val (.int (4 : Int32)), .val (.int (1 : Int32)), .val (.ref w_CANCELLED), .val (.ref w_RUNNING), .val (.int (0 : Int32))] [(.ref w_RUNNING), (.ref w_CANCELLED)])) _
      obtain ⟨cq111, kq111, q111a, q111b, q111c⟩ := isOf hZ e110 (G.2.2.2.2.2.2.2.1.ext O0.2)
      obtain ⟨_, _, ⟨T111, L111, k111, n111⟩, -, X111, ⟨Lc111, hQ111, l111, y111, z111⟩, st111⟩ := X110.virtualBack hx (y := (⟨"com/example/hermit_crab/hermitcrab/JobState", "canMoveTo", "(Lcom/example/hermit_crab/hermitcrab/JobState;)Z"⟩ : MethodName)) (z := (⟨"com/example/hermit_crab/hermitcrab/JobState", "canMoveTo", "(Lcom/example/hermit_crab/hermitcrab/JobState;)Z"⟩ : MethodName)) hown (mvT hZ (ow hw 11 rfl)) (mvT hZ (ow hw 12 rfl)) (notFace_of_selects (args := #[]) (mvT hZ (ow hw 14 rfl))) (mvT hZ (ow hw 14 rfl)) (mvT hZ (ow hw 13 rfl)) (by decide) (backOf (W := 0) (rm2_25 l Z a0 hw [] G  h0 n0 O0 ) hZ (ow hw 15 rfl) (ow hw 6 rfl) (by decide) (by decide)) q111a q111c (g := (mkF m 65 #[.val (.int p1), .val (.int p2), .val (.int (4 : Int32)), .val (.int (1 : Int32)), .val (.ref w_CANCELLED), .val (.ref w_RUNNING), .val (.int (0 : Int32))] [(.ref w_RUNNING), (.ref w_CANCELLED)])) rfl (by rw [hml]; rfl) (Steps.refl _) (argsL := [(.ref w_RUNNING)]) (rest := []) (lenOf pd_2 rfl) rfl (by show 2 * 0 + _ ≤ _; exact Nat.le_of_eq rfl) (hb hby at_65) (fun _ _ => ⟨rfl, e110, (by decide : 0 + 0 ≤ _), (by decide : 0 + 0 ≤ _)⟩)
      dsimp only [Pt.U, Pt.locs, Pt.cells, Pt.slots] at X111 l111 y111 z111 st111 hQ111
      subst l111 y111 z111
      obtain ⟨rfl, N111q, e111⟩ := hQ111
      have N111 := Fr.app N110 N111q
      refine OGot.on st111 ?_
      show OGot p.tables e below (T111.setTop (mkF m 68 #[.val (.int p1), .val (.int p2), .val (.int (4 : Int32)), .val (.int (1 : Int32)), .val (.ref w_CANCELLED), .val (.ref w_RUNNING), .val (.int (0 : Int32))] [(.int (0 : Int32))])) _
      refine OGot.go (fun t k => XS.iload X111.here hx rfl (hb hby at_68) rfl k) ?_
      show OGot p.tables e below (T111.setTop (mkF m 70 #[.val (.int p1), .val (.int p2), .val (.int (4 : Int32)), .val (.int (1 : Int32)), .val (.ref w_CANCELLED), .val (.ref w_RUNNING), .val (.int (0 : Int32))] [(.int (0 : Int32)), (.int (0 : Int32))])) _
      refine OGot.go (fun t k => XS.icmpNo X111.here hx rfl (hb hby at_70) rfl (by decide) k) ?_
      show OGot p.tables e below (T111.setTop (mkF m 73 #[.val (.int p1), .val (.int p2), .val (.int (4 : Int32)), .val (.int (1 : Int32)), .val (.ref w_CANCELLED), .val (.ref w_RUNNING), .val (.int (0 : Int32))] [])) _
      refine OGot.go (fun t k => XS.iconst X111.here hx rfl (hb hby at_73) k) ?_
      show OGot p.tables e below (T111.setTop (mkF m 74 #[.val (.int p1), .val (.int p2), .val (.int (4 : Int32)), .val (.int (1 : Int32)), .val (.ref w_CANCELLED), .val (.ref w_RUNNING), .val (.int (0 : Int32))] [(.int (1 : Int32))])) _
      refine OGot.go (fun t k => XS.goto X111.here hx rfl (pc0 := 74) (pc' := 78) rfl (hb hby at_74) (by decide) (by decide) k) ?_
      show OGot p.tables e below (T111.setTop (mkF m 78 #[.val (.int p1), .val (.int p2), .val (.int (4 : Int32)), .val (.int (1 : Int32)), .val (.ref w_CANCELLED), .val (.ref w_RUNNING), .val (.int (0 : Int32))] [(.int (1 : Int32))])) _
      obtain ⟨fs, hr, hrun, hended, hW, hsame⟩ := X111.leave (v := some (.int (1 : Int32))) (fun h => by rw [Bd.returns] at h; cases h)
      refine ⟨_, _, retN X111 hx (t := .boolean) Bd.returns (by simp) (hb hby at_78) hr, hrun, hended, _, _, rfl, ?_, ⟨_, rfl⟩, hW, hsame.mono (by decide) (by decide)⟩
      exact (⟨rfl, N111⟩ : Q0 Z w_PENDING w_FAILED w_RUNNING w_CANCELLED w_COMPLETED p1 p2 h0 n0 _ T111.heap _)
    · rw [hk102]
      show OGot p.tables e below (s₁.setTop (mkF m 14 #[.val (.int p1), .val (.int p2), .val (.int (4 : Int32)), .unset, .unset, .unset, .unset] [(.int (2 : Int32))])) _
      refine OGot.go (fun t k => XS.istoreN X0.here hx rfl (hb hby at_14) rfl (l' := #[.val (.int p1), .val (.int p2), .val (.int (4 : Int32)), .val (.int (2 : Int32)), .unset, .unset, .unset]) rfl k) ?_
      show OGot p.tables e below (s₁.setTop (mkF m 15 #[.val (.int p1), .val (.int p2), .val (.int (4 : Int32)), .val (.int (2 : Int32)), .unset, .unset, .unset] [])) _
      refine OGot.go (fun t k => XS.iloadN X0.here hx rfl (hb hby at_15) rfl k) ?_
      show OGot p.tables e below (s₁.setTop (mkF m 16 #[.val (.int p1), .val (.int p2), .val (.int (4 : Int32)), .val (.int (2 : Int32)), .unset, .unset, .unset] [(.int (4 : Int32))])) _
      obtain ⟨_, _, ⟨T112, L112, k112, n112⟩, -, X112, ⟨Lc112, hQ112, l112, y112, z112⟩, st112⟩ := Jvm.LawKit.callS X0 hx (y := (⟨"com/example/hermit_crab/hermitcrab/JobStateCanMoveToPinLaw", "st", "(I)Lcom/example/hermit_crab/hermitcrab/JobState;"⟩ : MethodName)) hown (mvT hZ (ow hw 1 rfl)) (mvT hZ (ow hw 2 rfl)) (mvT hZ (ow hw 3 rfl)) (mvT hZ (ow hw 4 rfl)) (by decide) (backOf (W := 0) (rm1_4 l Z a0 hw [] G  h0 n0 O0 ) hZ (ow hw 4 rfl) (ow hw 3 rfl) (by decide) (by decide)) (g := (mkF m 16 #[.val (.int p1), .val (.int p2), .val (.int (4 : Int32)), .val (.int (2 : Int32)), .unset, .unset, .unset] [(.int (4 : Int32))])) rfl (by rw [hml]; rfl) (argsL := [(.int (4 : Int32))]) (rest := []) (lenOf pd_0 rfl) rfl (by show 2 * 0 + _ ≤ _; exact Nat.le_of_eq rfl) (hb hby at_16) (fun _ _ => ⟨rfl, e0, (by decide : 0 + 0 ≤ _), (by decide : 0 + 0 ≤ _)⟩)
      dsimp only [Pt.U, Pt.locs, Pt.cells, Pt.slots] at X112 l112 y112 z112 st112 hQ112
      subst l112 y112 z112
      obtain ⟨rfl, N112q, e112⟩ := hQ112
      have N112 := Fr.app N0 N112q
      refine OGot.go st112 ?_
      show OGot p.tables e below (T112.setTop (mkF m 19 #[.val (.int p1), .val (.int p2), .val (.int (4 : Int32)), .val (.int (2 : Int32)), .unset, .unset, .unset] [(.ref w_CANCELLED)])) _
      refine OGot.go (fun t k => XS.astore X112.here hx rfl (hb hby at_19) rfl rfl (l' := #[.val (.int p1), .val (.int p2), .val (.int (4 : Int32)), .val (.int (2 : Int32)), .val (.ref w_CANCELLED), .unset, .unset]) rfl k) ?_
      show OGot p.tables e below (T112.setTop (mkF m 21 #[.val (.int p1), .val (.int p2), .val (.int (4 : Int32)), .val (.int (2 : Int32)), .val (.ref w_CANCELLED), .unset, .unset] [])) _
      refine OGot.go (fun t k => XS.iloadN X112.here hx rfl (hb hby at_21) rfl k) ?_
      show OGot p.tables e below (T112.setTop (mkF m 22 #[.val (.int p1), .val (.int p2), .val (.int (4 : Int32)), .val (.int (2 : Int32)), .val (.ref w_CANCELLED), .unset, .unset] [(.int (2 : Int32))])) _
      refine OGot.go (fun t k => XS.iconst X112.here hx rfl (hb hby at_22) k) ?_
      show OGot p.tables e below (T112.setTop (mkF m 23 #[.val (.int p1), .val (.int p2), .val (.int (4 : Int32)), .val (.int (2 : Int32)), .val (.ref w_CANCELLED), .unset, .unset] [(.int (5 : Int32)), (.int (2 : Int32))])) _
      refine OGot.go (fun t k => XS.icmpYes X112.here hx rfl (pc0 := 23) (pc' := 30) rfl (hb hby at_23) rfl (by decide) (by decide) (by decide) k) ?_
      show OGot p.tables e below (T112.setTop (mkF m 30 #[.val (.int p1), .val (.int p2), .val (.int (4 : Int32)), .val (.int (2 : Int32)), .val (.ref w_CANCELLED), .unset, .unset] [])) _
      refine OGot.go (fun t k => XS.iloadN X112.here hx rfl (hb hby at_30) rfl k) ?_
      show OGot p.tables e below (T112.setTop (mkF m 31 #[.val (.int p1), .val (.int p2), .val (.int (4 : Int32)), .val (.int (2 : Int32)), .val (.ref w_CANCELLED), .unset, .unset] [(.int (2 : Int32))])) _
      obtain ⟨_, _, ⟨T113, L113, k113, n113⟩, -, X113, ⟨Lc113, hQ113, l113, y113, z113⟩, st113⟩ := Jvm.LawKit.callS X112 hx (y := (⟨"com/example/hermit_crab/hermitcrab/JobStateCanMoveToPinLaw", "st", "(I)Lcom/example/hermit_crab/hermitcrab/JobState;"⟩ : MethodName)) hown (mvT hZ (ow hw 1 rfl)) (mvT hZ (ow hw 2 rfl)) (mvT hZ (ow hw 3 rfl)) (mvT hZ (ow hw 4 rfl)) (by decide) (backOf (W := 0) (rm1_2 l Z a0 hw [] G  h0 n0 O0 ) hZ (ow hw 4 rfl) (ow hw 3 rfl) (by decide) (by decide)) (g := (mkF m 31 #[.val (.int p1), .val (.int p2), .val (.int (4 : Int32)), .val (.int (2 : Int32)), .val (.ref w_CANCELLED), .unset, .unset] [(.int (2 : Int32))])) rfl (by rw [hml]; rfl) (argsL := [(.int (2 : Int32))]) (rest := []) (lenOf pd_0 rfl) rfl (by show 2 * 0 + _ ≤ _; exact Nat.le_of_eq rfl) (hb hby at_31) (fun _ _ => ⟨rfl, e112, (by decide : 0 + 0 ≤ _), (by decide : 0 + 0 ≤ _)⟩)
      dsimp only [Pt.U, Pt.locs, Pt.cells, Pt.slots] at X113 l113 y113 z113 st113 hQ113
      subst l113 y113 z113
      obtain ⟨rfl, N113q, e113⟩ := hQ113
      have N113 := Fr.app N112 N113q
      refine OGot.go st113 ?_
      show OGot p.tables e below (T113.setTop (mkF m 34 #[.val (.int p1), .val (.int p2), .val (.int (4 : Int32)), .val (.int (2 : Int32)), .val (.ref w_CANCELLED), .unset, .unset] [(.ref w_COMPLETED)])) _
      refine OGot.go (fun t k => XS.astore X113.here hx rfl (hb hby at_34) rfl rfl (l' := #[.val (.int p1), .val (.int p2), .val (.int (4 : Int32)), .val (.int (2 : Int32)), .val (.ref w_CANCELLED), .val (.ref w_COMPLETED), .unset]) rfl k) ?_
      show OGot p.tables e below (T113.setTop (mkF m 36 #[.val (.int p1), .val (.int p2), .val (.int (4 : Int32)), .val (.int (2 : Int32)), .val (.ref w_CANCELLED), .val (.ref w_COMPLETED), .unset] [])) _
      refine OGot.go (fun t k => XS.iloadN X113.here hx rfl (hb hby at_36) rfl k) ?_
      show OGot p.tables e below (T113.setTop (mkF m 37 #[.val (.int p1), .val (.int p2), .val (.int (4 : Int32)), .val (.int (2 : Int32)), .val (.ref w_CANCELLED), .val (.ref w_COMPLETED), .unset] [(.int (2 : Int32))])) _
      refine OGot.go (fun t k => XS.iconst X113.here hx rfl (hb hby at_37) k) ?_
      show OGot p.tables e below (T113.setTop (mkF m 38 #[.val (.int p1), .val (.int p2), .val (.int (4 : Int32)), .val (.int (2 : Int32)), .val (.ref w_CANCELLED), .val (.ref w_COMPLETED), .unset] [(.int (5 : Int32)), (.int (2 : Int32))])) _
      refine OGot.go (fun t k => XS.icmpNo X113.here hx rfl (hb hby at_38) rfl (by decide) k) ?_
      show OGot p.tables e below (T113.setTop (mkF m 41 #[.val (.int p1), .val (.int p2), .val (.int (4 : Int32)), .val (.int (2 : Int32)), .val (.ref w_CANCELLED), .val (.ref w_COMPLETED), .unset] [])) _
      refine OGot.go (fun t k => X113.ldcInt hx hown (mvT hZ (ow hw 10 rfl)) (g := (mkF m 41 #[.val (.int p1), .val (.int p2), .val (.int (4 : Int32)), .val (.int (2 : Int32)), .val (.ref w_CANCELLED), .val (.ref w_COMPLETED), .unset] [])) rfl (hb hby at_41) _ k) ?_
      show OGot p.tables e below (T113.setTop (mkF m 43 #[.val (.int p1), .val (.int p2), .val (.int (4 : Int32)), .val (.int (2 : Int32)), .val (.ref w_CANCELLED), .val (.ref w_COMPLETED), .unset] [(.int (33202 : Int32))])) _
      refine OGot.go (fun t k => XS.iconst X113.here hx rfl (hb hby at_43) k) ?_
      show OGot p.tables e below (T113.setTop (mkF m 44 #[.val (.int p1), .val (.int p2), .val (.int (4 : Int32)), .val (.int (2 : Int32)), .val (.ref w_CANCELLED), .val (.ref w_COMPLETED), .unset] [(.int (5 : Int32)), (.int (33202 : Int32))])) _
      refine OGot.go (fun t k => XS.iloadN X113.here hx rfl (hb hby at_44) rfl k) ?_
      show OGot p.tables e below (T113.setTop (mkF m 45 #[.val (.int p1), .val (.int p2), .val (.int (4 : Int32)), .val (.int (2 : Int32)), .val (.ref w_CANCELLED), .val (.ref w_COMPLETED), .unset] [(.int (4 : Int32)), (.int (5 : Int32)), (.int (33202 : Int32))])) _
      refine OGot.go (fun t k => XS.imul X113.here hx rfl (hb hby at_45) rfl k) ?_
      show OGot p.tables e below (T113.setTop (mkF m 46 #[.val (.int p1), .val (.int p2), .val (.int (4 : Int32)), .val (.int (2 : Int32)), .val (.ref w_CANCELLED), .val (.ref w_COMPLETED), .unset] [(.int ((5 : Int32) * (4 : Int32))), (.int (33202 : Int32))])) _
      rw [show ((5 : Int32) * (4 : Int32)) = (20 : Int32) from by decide]
      show OGot p.tables e below (T113.setTop (mkF m 46 #[.val (.int p1), .val (.int p2), .val (.int (4 : Int32)), .val (.int (2 : Int32)), .val (.ref w_CANCELLED), .val (.ref w_COMPLETED), .unset] [(.int (20 : Int32)), (.int (33202 : Int32))])) _
      refine OGot.go (fun t k => XS.iloadN X113.here hx rfl (hb hby at_46) rfl k) ?_
      show OGot p.tables e below (T113.setTop (mkF m 47 #[.val (.int p1), .val (.int p2), .val (.int (4 : Int32)), .val (.int (2 : Int32)), .val (.ref w_CANCELLED), .val (.ref w_COMPLETED), .unset] [(.int (2 : Int32)), (.int (20 : Int32)), (.int (33202 : Int32))])) _
      refine OGot.go (fun t k => XS.iadd X113.here hx rfl (hb hby at_47) rfl k) ?_
      show OGot p.tables e below (T113.setTop (mkF m 48 #[.val (.int p1), .val (.int p2), .val (.int (4 : Int32)), .val (.int (2 : Int32)), .val (.ref w_CANCELLED), .val (.ref w_COMPLETED), .unset] [(.int ((20 : Int32) + (2 : Int32))), (.int (33202 : Int32))])) _
      rw [show ((20 : Int32) + (2 : Int32)) = (22 : Int32) from by decide]
      show OGot p.tables e below (T113.setTop (mkF m 48 #[.val (.int p1), .val (.int p2), .val (.int (4 : Int32)), .val (.int (2 : Int32)), .val (.ref w_CANCELLED), .val (.ref w_COMPLETED), .unset] [(.int (22 : Int32)), (.int (33202 : Int32))])) _
      refine OGot.go (fun t k => XS.ishr X113.here hx rfl (hb hby at_48) rfl k) ?_
      show OGot p.tables e below (T113.setTop (mkF m 49 #[.val (.int p1), .val (.int p2), .val (.int (4 : Int32)), .val (.int (2 : Int32)), .val (.ref w_CANCELLED), .val (.ref w_COMPLETED), .unset] [(.int ((33202 : Int32) >>> ((22 : Int32) &&& 31)))])) _
      rw [show ((33202 : Int32) >>> ((22 : Int32) &&& 31)) = (0 : Int32) from by decide]
      show OGot p.tables e below (T113.setTop (mkF m 49 #[.val (.int p1), .val (.int p2), .val (.int (4 : Int32)), .val (.int (2 : Int32)), .val (.ref w_CANCELLED), .val (.ref w_COMPLETED), .unset] [(.int (0 : Int32))])) _
      refine OGot.go (fun t k => XS.iconst X113.here hx rfl (hb hby at_49) k) ?_
      show OGot p.tables e below (T113.setTop (mkF m 50 #[.val (.int p1), .val (.int p2), .val (.int (4 : Int32)), .val (.int (2 : Int32)), .val (.ref w_CANCELLED), .val (.ref w_COMPLETED), .unset] [(.int (1 : Int32)), (.int (0 : Int32))])) _
      refine OGot.go (fun t k => XS.iand X113.here hx rfl (hb hby at_50) rfl k) ?_
      show OGot p.tables e below (T113.setTop (mkF m 51 #[.val (.int p1), .val (.int p2), .val (.int (4 : Int32)), .val (.int (2 : Int32)), .val (.ref w_CANCELLED), .val (.ref w_COMPLETED), .unset] [(.int ((0 : Int32) &&& (1 : Int32)))])) _
      rw [show ((0 : Int32) &&& (1 : Int32)) = (0 : Int32) from by decide]
      show OGot p.tables e below (T113.setTop (mkF m 51 #[.val (.int p1), .val (.int p2), .val (.int (4 : Int32)), .val (.int (2 : Int32)), .val (.ref w_CANCELLED), .val (.ref w_COMPLETED), .unset] [(.int (0 : Int32))])) _
      refine OGot.go (fun t k => XS.ifYes X113.here hx rfl (pc0 := 51) (pc' := 58) rfl (hb hby at_51) rfl (by decide) (by decide) (by decide) k) ?_
      show OGot p.tables e below (T113.setTop (mkF m 58 #[.val (.int p1), .val (.int p2), .val (.int (4 : Int32)), .val (.int (2 : Int32)), .val (.ref w_CANCELLED), .val (.ref w_COMPLETED), .unset] [])) _
      refine OGot.go (fun t k => XS.iconst X113.here hx rfl (hb hby at_58) k) ?_
      show OGot p.tables e below (T113.setTop (mkF m 59 #[.val (.int p1), .val (.int p2), .val (.int (4 : Int32)), .val (.int (2 : Int32)), .val (.ref w_CANCELLED), .val (.ref w_COMPLETED), .unset] [(.int (0 : Int32))])) _
      refine OGot.go (fun t k => XS.istore X113.here hx rfl (hb hby at_59) rfl (l' := #[.val (.int p1), .val (.int p2), .val (.int (4 : Int32)), .val (.int (2 : Int32)), .val (.ref w_CANCELLED), .val (.ref w_COMPLETED), .val (.int (0 : Int32))]) rfl k) ?_
      show OGot p.tables e below (T113.setTop (mkF m 61 #[.val (.int p1), .val (.int p2), .val (.int (4 : Int32)), .val (.int (2 : Int32)), .val (.ref w_CANCELLED), .val (.ref w_COMPLETED), .val (.int (0 : Int32))] [])) _
      refine OGot.go (fun t k => XS.aload X113.here hx rfl (hb hby at_61) rfl rfl k) ?_
      show OGot p.tables e below (T113.setTop (mkF m 63 #[.val (.int p1), .val (.int p2), .val (.int (4 : Int32)), .val (.int (2 : Int32)), .val (.ref w_CANCELLED), .val (.ref w_COMPLETED), .val (.int (0 : Int32))] [(.ref w_CANCELLED)])) _
      refine OGot.go (fun t k => XS.aload X113.here hx rfl (hb hby at_63) rfl rfl k) ?_
      show OGot p.tables e below (T113.setTop (mkF m 65 #[.val (.int p1), .val (.int p2), .val (.int (4 : Int32)), .val (.int (2 : Int32)), .val (.ref w_CANCELLED), .val (.ref w_COMPLETED), .val (.int (0 : Int32))] [(.ref w_COMPLETED), (.ref w_CANCELLED)])) _
      obtain ⟨cq114, kq114, q114a, q114b, q114c⟩ := isOf hZ e113 (G.2.2.2.2.2.2.2.1.ext O0.2)
      obtain ⟨_, _, ⟨T114, L114, k114, n114⟩, -, X114, ⟨Lc114, hQ114, l114, y114, z114⟩, st114⟩ := X113.virtualBack hx (y := (⟨"com/example/hermit_crab/hermitcrab/JobState", "canMoveTo", "(Lcom/example/hermit_crab/hermitcrab/JobState;)Z"⟩ : MethodName)) (z := (⟨"com/example/hermit_crab/hermitcrab/JobState", "canMoveTo", "(Lcom/example/hermit_crab/hermitcrab/JobState;)Z"⟩ : MethodName)) hown (mvT hZ (ow hw 11 rfl)) (mvT hZ (ow hw 12 rfl)) (notFace_of_selects (args := #[]) (mvT hZ (ow hw 14 rfl))) (mvT hZ (ow hw 14 rfl)) (mvT hZ (ow hw 13 rfl)) (by decide) (backOf (W := 0) (rm2_26 l Z a0 hw [] G  h0 n0 O0 ) hZ (ow hw 15 rfl) (ow hw 6 rfl) (by decide) (by decide)) q114a q114c (g := (mkF m 65 #[.val (.int p1), .val (.int p2), .val (.int (4 : Int32)), .val (.int (2 : Int32)), .val (.ref w_CANCELLED), .val (.ref w_COMPLETED), .val (.int (0 : Int32))] [(.ref w_COMPLETED), (.ref w_CANCELLED)])) rfl (by rw [hml]; rfl) (Steps.refl _) (argsL := [(.ref w_COMPLETED)]) (rest := []) (lenOf pd_2 rfl) rfl (by show 2 * 0 + _ ≤ _; exact Nat.le_of_eq rfl) (hb hby at_65) (fun _ _ => ⟨rfl, e113, (by decide : 0 + 0 ≤ _), (by decide : 0 + 0 ≤ _)⟩)
      dsimp only [Pt.U, Pt.locs, Pt.cells, Pt.slots] at X114 l114 y114 z114 st114 hQ114
      subst l114 y114 z114
      obtain ⟨rfl, N114q, e114⟩ := hQ114
      have N114 := Fr.app N113 N114q
      refine OGot.on st114 ?_
      show OGot p.tables e below (T114.setTop (mkF m 68 #[.val (.int p1), .val (.int p2), .val (.int (4 : Int32)), .val (.int (2 : Int32)), .val (.ref w_CANCELLED), .val (.ref w_COMPLETED), .val (.int (0 : Int32))] [(.int (0 : Int32))])) _
      refine OGot.go (fun t k => XS.iload X114.here hx rfl (hb hby at_68) rfl k) ?_
      show OGot p.tables e below (T114.setTop (mkF m 70 #[.val (.int p1), .val (.int p2), .val (.int (4 : Int32)), .val (.int (2 : Int32)), .val (.ref w_CANCELLED), .val (.ref w_COMPLETED), .val (.int (0 : Int32))] [(.int (0 : Int32)), (.int (0 : Int32))])) _
      refine OGot.go (fun t k => XS.icmpNo X114.here hx rfl (hb hby at_70) rfl (by decide) k) ?_
      show OGot p.tables e below (T114.setTop (mkF m 73 #[.val (.int p1), .val (.int p2), .val (.int (4 : Int32)), .val (.int (2 : Int32)), .val (.ref w_CANCELLED), .val (.ref w_COMPLETED), .val (.int (0 : Int32))] [])) _
      refine OGot.go (fun t k => XS.iconst X114.here hx rfl (hb hby at_73) k) ?_
      show OGot p.tables e below (T114.setTop (mkF m 74 #[.val (.int p1), .val (.int p2), .val (.int (4 : Int32)), .val (.int (2 : Int32)), .val (.ref w_CANCELLED), .val (.ref w_COMPLETED), .val (.int (0 : Int32))] [(.int (1 : Int32))])) _
      refine OGot.go (fun t k => XS.goto X114.here hx rfl (pc0 := 74) (pc' := 78) rfl (hb hby at_74) (by decide) (by decide) k) ?_
      show OGot p.tables e below (T114.setTop (mkF m 78 #[.val (.int p1), .val (.int p2), .val (.int (4 : Int32)), .val (.int (2 : Int32)), .val (.ref w_CANCELLED), .val (.ref w_COMPLETED), .val (.int (0 : Int32))] [(.int (1 : Int32))])) _
      obtain ⟨fs, hr, hrun, hended, hW, hsame⟩ := X114.leave (v := some (.int (1 : Int32))) (fun h => by rw [Bd.returns] at h; cases h)
      refine ⟨_, _, retN X114 hx (t := .boolean) Bd.returns (by simp) (hb hby at_78) hr, hrun, hended, _, _, rfl, ?_, ⟨_, rfl⟩, hW, hsame.mono (by decide) (by decide)⟩
      exact (⟨rfl, N114⟩ : Q0 Z w_PENDING w_FAILED w_RUNNING w_CANCELLED w_COMPLETED p1 p2 h0 n0 _ T114.heap _)
    · rw [hk103]
      show OGot p.tables e below (s₁.setTop (mkF m 14 #[.val (.int p1), .val (.int p2), .val (.int (4 : Int32)), .unset, .unset, .unset, .unset] [(.int (3 : Int32))])) _
      refine OGot.go (fun t k => XS.istoreN X0.here hx rfl (hb hby at_14) rfl (l' := #[.val (.int p1), .val (.int p2), .val (.int (4 : Int32)), .val (.int (3 : Int32)), .unset, .unset, .unset]) rfl k) ?_
      show OGot p.tables e below (s₁.setTop (mkF m 15 #[.val (.int p1), .val (.int p2), .val (.int (4 : Int32)), .val (.int (3 : Int32)), .unset, .unset, .unset] [])) _
      refine OGot.go (fun t k => XS.iloadN X0.here hx rfl (hb hby at_15) rfl k) ?_
      show OGot p.tables e below (s₁.setTop (mkF m 16 #[.val (.int p1), .val (.int p2), .val (.int (4 : Int32)), .val (.int (3 : Int32)), .unset, .unset, .unset] [(.int (4 : Int32))])) _
      obtain ⟨_, _, ⟨T115, L115, k115, n115⟩, -, X115, ⟨Lc115, hQ115, l115, y115, z115⟩, st115⟩ := Jvm.LawKit.callS X0 hx (y := (⟨"com/example/hermit_crab/hermitcrab/JobStateCanMoveToPinLaw", "st", "(I)Lcom/example/hermit_crab/hermitcrab/JobState;"⟩ : MethodName)) hown (mvT hZ (ow hw 1 rfl)) (mvT hZ (ow hw 2 rfl)) (mvT hZ (ow hw 3 rfl)) (mvT hZ (ow hw 4 rfl)) (by decide) (backOf (W := 0) (rm1_4 l Z a0 hw [] G  h0 n0 O0 ) hZ (ow hw 4 rfl) (ow hw 3 rfl) (by decide) (by decide)) (g := (mkF m 16 #[.val (.int p1), .val (.int p2), .val (.int (4 : Int32)), .val (.int (3 : Int32)), .unset, .unset, .unset] [(.int (4 : Int32))])) rfl (by rw [hml]; rfl) (argsL := [(.int (4 : Int32))]) (rest := []) (lenOf pd_0 rfl) rfl (by show 2 * 0 + _ ≤ _; exact Nat.le_of_eq rfl) (hb hby at_16) (fun _ _ => ⟨rfl, e0, (by decide : 0 + 0 ≤ _), (by decide : 0 + 0 ≤ _)⟩)
      dsimp only [Pt.U, Pt.locs, Pt.cells, Pt.slots] at X115 l115 y115 z115 st115 hQ115
      subst l115 y115 z115
      obtain ⟨rfl, N115q, e115⟩ := hQ115
      have N115 := Fr.app N0 N115q
      refine OGot.go st115 ?_
      show OGot p.tables e below (T115.setTop (mkF m 19 #[.val (.int p1), .val (.int p2), .val (.int (4 : Int32)), .val (.int (3 : Int32)), .unset, .unset, .unset] [(.ref w_CANCELLED)])) _
      refine OGot.go (fun t k => XS.astore X115.here hx rfl (hb hby at_19) rfl rfl (l' := #[.val (.int p1), .val (.int p2), .val (.int (4 : Int32)), .val (.int (3 : Int32)), .val (.ref w_CANCELLED), .unset, .unset]) rfl k) ?_
      show OGot p.tables e below (T115.setTop (mkF m 21 #[.val (.int p1), .val (.int p2), .val (.int (4 : Int32)), .val (.int (3 : Int32)), .val (.ref w_CANCELLED), .unset, .unset] [])) _
      refine OGot.go (fun t k => XS.iloadN X115.here hx rfl (hb hby at_21) rfl k) ?_
      show OGot p.tables e below (T115.setTop (mkF m 22 #[.val (.int p1), .val (.int p2), .val (.int (4 : Int32)), .val (.int (3 : Int32)), .val (.ref w_CANCELLED), .unset, .unset] [(.int (3 : Int32))])) _
      refine OGot.go (fun t k => XS.iconst X115.here hx rfl (hb hby at_22) k) ?_
      show OGot p.tables e below (T115.setTop (mkF m 23 #[.val (.int p1), .val (.int p2), .val (.int (4 : Int32)), .val (.int (3 : Int32)), .val (.ref w_CANCELLED), .unset, .unset] [(.int (5 : Int32)), (.int (3 : Int32))])) _
      refine OGot.go (fun t k => XS.icmpYes X115.here hx rfl (pc0 := 23) (pc' := 30) rfl (hb hby at_23) rfl (by decide) (by decide) (by decide) k) ?_
      show OGot p.tables e below (T115.setTop (mkF m 30 #[.val (.int p1), .val (.int p2), .val (.int (4 : Int32)), .val (.int (3 : Int32)), .val (.ref w_CANCELLED), .unset, .unset] [])) _
      refine OGot.go (fun t k => XS.iloadN X115.here hx rfl (hb hby at_30) rfl k) ?_
      show OGot p.tables e below (T115.setTop (mkF m 31 #[.val (.int p1), .val (.int p2), .val (.int (4 : Int32)), .val (.int (3 : Int32)), .val (.ref w_CANCELLED), .unset, .unset] [(.int (3 : Int32))])) _
      obtain ⟨_, _, ⟨T116, L116, k116, n116⟩, -, X116, ⟨Lc116, hQ116, l116, y116, z116⟩, st116⟩ := Jvm.LawKit.callS X115 hx (y := (⟨"com/example/hermit_crab/hermitcrab/JobStateCanMoveToPinLaw", "st", "(I)Lcom/example/hermit_crab/hermitcrab/JobState;"⟩ : MethodName)) hown (mvT hZ (ow hw 1 rfl)) (mvT hZ (ow hw 2 rfl)) (mvT hZ (ow hw 3 rfl)) (mvT hZ (ow hw 4 rfl)) (by decide) (backOf (W := 0) (rm1_3 l Z a0 hw [] G  h0 n0 O0 ) hZ (ow hw 4 rfl) (ow hw 3 rfl) (by decide) (by decide)) (g := (mkF m 31 #[.val (.int p1), .val (.int p2), .val (.int (4 : Int32)), .val (.int (3 : Int32)), .val (.ref w_CANCELLED), .unset, .unset] [(.int (3 : Int32))])) rfl (by rw [hml]; rfl) (argsL := [(.int (3 : Int32))]) (rest := []) (lenOf pd_0 rfl) rfl (by show 2 * 0 + _ ≤ _; exact Nat.le_of_eq rfl) (hb hby at_31) (fun _ _ => ⟨rfl, e115, (by decide : 0 + 0 ≤ _), (by decide : 0 + 0 ≤ _)⟩)
      dsimp only [Pt.U, Pt.locs, Pt.cells, Pt.slots] at X116 l116 y116 z116 st116 hQ116
      subst l116 y116 z116
      obtain ⟨rfl, N116q, e116⟩ := hQ116
      have N116 := Fr.app N115 N116q
      refine OGot.go st116 ?_
      show OGot p.tables e below (T116.setTop (mkF m 34 #[.val (.int p1), .val (.int p2), .val (.int (4 : Int32)), .val (.int (3 : Int32)), .val (.ref w_CANCELLED), .unset, .unset] [(.ref w_FAILED)])) _
      refine OGot.go (fun t k => XS.astore X116.here hx rfl (hb hby at_34) rfl rfl (l' := #[.val (.int p1), .val (.int p2), .val (.int (4 : Int32)), .val (.int (3 : Int32)), .val (.ref w_CANCELLED), .val (.ref w_FAILED), .unset]) rfl k) ?_
      show OGot p.tables e below (T116.setTop (mkF m 36 #[.val (.int p1), .val (.int p2), .val (.int (4 : Int32)), .val (.int (3 : Int32)), .val (.ref w_CANCELLED), .val (.ref w_FAILED), .unset] [])) _
      refine OGot.go (fun t k => XS.iloadN X116.here hx rfl (hb hby at_36) rfl k) ?_
      show OGot p.tables e below (T116.setTop (mkF m 37 #[.val (.int p1), .val (.int p2), .val (.int (4 : Int32)), .val (.int (3 : Int32)), .val (.ref w_CANCELLED), .val (.ref w_FAILED), .unset] [(.int (3 : Int32))])) _
      refine OGot.go (fun t k => XS.iconst X116.here hx rfl (hb hby at_37) k) ?_
      show OGot p.tables e below (T116.setTop (mkF m 38 #[.val (.int p1), .val (.int p2), .val (.int (4 : Int32)), .val (.int (3 : Int32)), .val (.ref w_CANCELLED), .val (.ref w_FAILED), .unset] [(.int (5 : Int32)), (.int (3 : Int32))])) _
      refine OGot.go (fun t k => XS.icmpNo X116.here hx rfl (hb hby at_38) rfl (by decide) k) ?_
      show OGot p.tables e below (T116.setTop (mkF m 41 #[.val (.int p1), .val (.int p2), .val (.int (4 : Int32)), .val (.int (3 : Int32)), .val (.ref w_CANCELLED), .val (.ref w_FAILED), .unset] [])) _
      refine OGot.go (fun t k => X116.ldcInt hx hown (mvT hZ (ow hw 10 rfl)) (g := (mkF m 41 #[.val (.int p1), .val (.int p2), .val (.int (4 : Int32)), .val (.int (3 : Int32)), .val (.ref w_CANCELLED), .val (.ref w_FAILED), .unset] [])) rfl (hb hby at_41) _ k) ?_
      show OGot p.tables e below (T116.setTop (mkF m 43 #[.val (.int p1), .val (.int p2), .val (.int (4 : Int32)), .val (.int (3 : Int32)), .val (.ref w_CANCELLED), .val (.ref w_FAILED), .unset] [(.int (33202 : Int32))])) _
      refine OGot.go (fun t k => XS.iconst X116.here hx rfl (hb hby at_43) k) ?_
      show OGot p.tables e below (T116.setTop (mkF m 44 #[.val (.int p1), .val (.int p2), .val (.int (4 : Int32)), .val (.int (3 : Int32)), .val (.ref w_CANCELLED), .val (.ref w_FAILED), .unset] [(.int (5 : Int32)), (.int (33202 : Int32))])) _
      refine OGot.go (fun t k => XS.iloadN X116.here hx rfl (hb hby at_44) rfl k) ?_
      show OGot p.tables e below (T116.setTop (mkF m 45 #[.val (.int p1), .val (.int p2), .val (.int (4 : Int32)), .val (.int (3 : Int32)), .val (.ref w_CANCELLED), .val (.ref w_FAILED), .unset] [(.int (4 : Int32)), (.int (5 : Int32)), (.int (33202 : Int32))])) _
      refine OGot.go (fun t k => XS.imul X116.here hx rfl (hb hby at_45) rfl k) ?_
      show OGot p.tables e below (T116.setTop (mkF m 46 #[.val (.int p1), .val (.int p2), .val (.int (4 : Int32)), .val (.int (3 : Int32)), .val (.ref w_CANCELLED), .val (.ref w_FAILED), .unset] [(.int ((5 : Int32) * (4 : Int32))), (.int (33202 : Int32))])) _
      rw [show ((5 : Int32) * (4 : Int32)) = (20 : Int32) from by decide]
      show OGot p.tables e below (T116.setTop (mkF m 46 #[.val (.int p1), .val (.int p2), .val (.int (4 : Int32)), .val (.int (3 : Int32)), .val (.ref w_CANCELLED), .val (.ref w_FAILED), .unset] [(.int (20 : Int32)), (.int (33202 : Int32))])) _
      refine OGot.go (fun t k => XS.iloadN X116.here hx rfl (hb hby at_46) rfl k) ?_
      show OGot p.tables e below (T116.setTop (mkF m 47 #[.val (.int p1), .val (.int p2), .val (.int (4 : Int32)), .val (.int (3 : Int32)), .val (.ref w_CANCELLED), .val (.ref w_FAILED), .unset] [(.int (3 : Int32)), (.int (20 : Int32)), (.int (33202 : Int32))])) _
      refine OGot.go (fun t k => XS.iadd X116.here hx rfl (hb hby at_47) rfl k) ?_
      show OGot p.tables e below (T116.setTop (mkF m 48 #[.val (.int p1), .val (.int p2), .val (.int (4 : Int32)), .val (.int (3 : Int32)), .val (.ref w_CANCELLED), .val (.ref w_FAILED), .unset] [(.int ((20 : Int32) + (3 : Int32))), (.int (33202 : Int32))])) _
      rw [show ((20 : Int32) + (3 : Int32)) = (23 : Int32) from by decide]
      show OGot p.tables e below (T116.setTop (mkF m 48 #[.val (.int p1), .val (.int p2), .val (.int (4 : Int32)), .val (.int (3 : Int32)), .val (.ref w_CANCELLED), .val (.ref w_FAILED), .unset] [(.int (23 : Int32)), (.int (33202 : Int32))])) _
      refine OGot.go (fun t k => XS.ishr X116.here hx rfl (hb hby at_48) rfl k) ?_
      show OGot p.tables e below (T116.setTop (mkF m 49 #[.val (.int p1), .val (.int p2), .val (.int (4 : Int32)), .val (.int (3 : Int32)), .val (.ref w_CANCELLED), .val (.ref w_FAILED), .unset] [(.int ((33202 : Int32) >>> ((23 : Int32) &&& 31)))])) _
      rw [show ((33202 : Int32) >>> ((23 : Int32) &&& 31)) = (0 : Int32) from by decide]
      show OGot p.tables e below (T116.setTop (mkF m 49 #[.val (.int p1), .val (.int p2), .val (.int (4 : Int32)), .val (.int (3 : Int32)), .val (.ref w_CANCELLED), .val (.ref w_FAILED), .unset] [(.int (0 : Int32))])) _
      refine OGot.go (fun t k => XS.iconst X116.here hx rfl (hb hby at_49) k) ?_
      show OGot p.tables e below (T116.setTop (mkF m 50 #[.val (.int p1), .val (.int p2), .val (.int (4 : Int32)), .val (.int (3 : Int32)), .val (.ref w_CANCELLED), .val (.ref w_FAILED), .unset] [(.int (1 : Int32)), (.int (0 : Int32))])) _
      refine OGot.go (fun t k => XS.iand X116.here hx rfl (hb hby at_50) rfl k) ?_
      show OGot p.tables e below (T116.setTop (mkF m 51 #[.val (.int p1), .val (.int p2), .val (.int (4 : Int32)), .val (.int (3 : Int32)), .val (.ref w_CANCELLED), .val (.ref w_FAILED), .unset] [(.int ((0 : Int32) &&& (1 : Int32)))])) _
      rw [show ((0 : Int32) &&& (1 : Int32)) = (0 : Int32) from by decide]
      show OGot p.tables e below (T116.setTop (mkF m 51 #[.val (.int p1), .val (.int p2), .val (.int (4 : Int32)), .val (.int (3 : Int32)), .val (.ref w_CANCELLED), .val (.ref w_FAILED), .unset] [(.int (0 : Int32))])) _
      refine OGot.go (fun t k => XS.ifYes X116.here hx rfl (pc0 := 51) (pc' := 58) rfl (hb hby at_51) rfl (by decide) (by decide) (by decide) k) ?_
      show OGot p.tables e below (T116.setTop (mkF m 58 #[.val (.int p1), .val (.int p2), .val (.int (4 : Int32)), .val (.int (3 : Int32)), .val (.ref w_CANCELLED), .val (.ref w_FAILED), .unset] [])) _
      refine OGot.go (fun t k => XS.iconst X116.here hx rfl (hb hby at_58) k) ?_
      show OGot p.tables e below (T116.setTop (mkF m 59 #[.val (.int p1), .val (.int p2), .val (.int (4 : Int32)), .val (.int (3 : Int32)), .val (.ref w_CANCELLED), .val (.ref w_FAILED), .unset] [(.int (0 : Int32))])) _
      refine OGot.go (fun t k => XS.istore X116.here hx rfl (hb hby at_59) rfl (l' := #[.val (.int p1), .val (.int p2), .val (.int (4 : Int32)), .val (.int (3 : Int32)), .val (.ref w_CANCELLED), .val (.ref w_FAILED), .val (.int (0 : Int32))]) rfl k) ?_
      show OGot p.tables e below (T116.setTop (mkF m 61 #[.val (.int p1), .val (.int p2), .val (.int (4 : Int32)), .val (.int (3 : Int32)), .val (.ref w_CANCELLED), .val (.ref w_FAILED), .val (.int (0 : Int32))] [])) _
      refine OGot.go (fun t k => XS.aload X116.here hx rfl (hb hby at_61) rfl rfl k) ?_
      show OGot p.tables e below (T116.setTop (mkF m 63 #[.val (.int p1), .val (.int p2), .val (.int (4 : Int32)), .val (.int (3 : Int32)), .val (.ref w_CANCELLED), .val (.ref w_FAILED), .val (.int (0 : Int32))] [(.ref w_CANCELLED)])) _
      refine OGot.go (fun t k => XS.aload X116.here hx rfl (hb hby at_63) rfl rfl k) ?_
      show OGot p.tables e below (T116.setTop (mkF m 65 #[.val (.int p1), .val (.int p2), .val (.int (4 : Int32)), .val (.int (3 : Int32)), .val (.ref w_CANCELLED), .val (.ref w_FAILED), .val (.int (0 : Int32))] [(.ref w_FAILED), (.ref w_CANCELLED)])) _
      obtain ⟨cq117, kq117, q117a, q117b, q117c⟩ := isOf hZ e116 (G.2.2.2.2.2.2.2.1.ext O0.2)
      obtain ⟨_, _, ⟨T117, L117, k117, n117⟩, -, X117, ⟨Lc117, hQ117, l117, y117, z117⟩, st117⟩ := X116.virtualBack hx (y := (⟨"com/example/hermit_crab/hermitcrab/JobState", "canMoveTo", "(Lcom/example/hermit_crab/hermitcrab/JobState;)Z"⟩ : MethodName)) (z := (⟨"com/example/hermit_crab/hermitcrab/JobState", "canMoveTo", "(Lcom/example/hermit_crab/hermitcrab/JobState;)Z"⟩ : MethodName)) hown (mvT hZ (ow hw 11 rfl)) (mvT hZ (ow hw 12 rfl)) (notFace_of_selects (args := #[]) (mvT hZ (ow hw 14 rfl))) (mvT hZ (ow hw 14 rfl)) (mvT hZ (ow hw 13 rfl)) (by decide) (backOf (W := 0) (rm2_27 l Z a0 hw [] G  h0 n0 O0 ) hZ (ow hw 15 rfl) (ow hw 6 rfl) (by decide) (by decide)) q117a q117c (g := (mkF m 65 #[.val (.int p1), .val (.int p2), .val (.int (4 : Int32)), .val (.int (3 : Int32)), .val (.ref w_CANCELLED), .val (.ref w_FAILED), .val (.int (0 : Int32))] [(.ref w_FAILED), (.ref w_CANCELLED)])) rfl (by rw [hml]; rfl) (Steps.refl _) (argsL := [(.ref w_FAILED)]) (rest := []) (lenOf pd_2 rfl) rfl (by show 2 * 0 + _ ≤ _; exact Nat.le_of_eq rfl) (hb hby at_65) (fun _ _ => ⟨rfl, e116, (by decide : 0 + 0 ≤ _), (by decide : 0 + 0 ≤ _)⟩)
      dsimp only [Pt.U, Pt.locs, Pt.cells, Pt.slots] at X117 l117 y117 z117 st117 hQ117
      subst l117 y117 z117
      obtain ⟨rfl, N117q, e117⟩ := hQ117
      have N117 := Fr.app N116 N117q
      refine OGot.on st117 ?_
      show OGot p.tables e below (T117.setTop (mkF m 68 #[.val (.int p1), .val (.int p2), .val (.int (4 : Int32)), .val (.int (3 : Int32)), .val (.ref w_CANCELLED), .val (.ref w_FAILED), .val (.int (0 : Int32))] [(.int (0 : Int32))])) _
      refine OGot.go (fun t k => XS.iload X117.here hx rfl (hb hby at_68) rfl k) ?_
      show OGot p.tables e below (T117.setTop (mkF m 70 #[.val (.int p1), .val (.int p2), .val (.int (4 : Int32)), .val (.int (3 : Int32)), .val (.ref w_CANCELLED), .val (.ref w_FAILED), .val (.int (0 : Int32))] [(.int (0 : Int32)), (.int (0 : Int32))])) _
      refine OGot.go (fun t k => XS.icmpNo X117.here hx rfl (hb hby at_70) rfl (by decide) k) ?_
      show OGot p.tables e below (T117.setTop (mkF m 73 #[.val (.int p1), .val (.int p2), .val (.int (4 : Int32)), .val (.int (3 : Int32)), .val (.ref w_CANCELLED), .val (.ref w_FAILED), .val (.int (0 : Int32))] [])) _
      refine OGot.go (fun t k => XS.iconst X117.here hx rfl (hb hby at_73) k) ?_
      show OGot p.tables e below (T117.setTop (mkF m 74 #[.val (.int p1), .val (.int p2), .val (.int (4 : Int32)), .val (.int (3 : Int32)), .val (.ref w_CANCELLED), .val (.ref w_FAILED), .val (.int (0 : Int32))] [(.int (1 : Int32))])) _
      refine OGot.go (fun t k => XS.goto X117.here hx rfl (pc0 := 74) (pc' := 78) rfl (hb hby at_74) (by decide) (by decide) k) ?_
      show OGot p.tables e below (T117.setTop (mkF m 78 #[.val (.int p1), .val (.int p2), .val (.int (4 : Int32)), .val (.int (3 : Int32)), .val (.ref w_CANCELLED), .val (.ref w_FAILED), .val (.int (0 : Int32))] [(.int (1 : Int32))])) _
      obtain ⟨fs, hr, hrun, hended, hW, hsame⟩ := X117.leave (v := some (.int (1 : Int32))) (fun h => by rw [Bd.returns] at h; cases h)
      refine ⟨_, _, retN X117 hx (t := .boolean) Bd.returns (by simp) (hb hby at_78) hr, hrun, hended, _, _, rfl, ?_, ⟨_, rfl⟩, hW, hsame.mono (by decide) (by decide)⟩
      exact (⟨rfl, N117⟩ : Q0 Z w_PENDING w_FAILED w_RUNNING w_CANCELLED w_COMPLETED p1 p2 h0 n0 _ T117.heap _)
    · rw [hk104]
      show OGot p.tables e below (s₁.setTop (mkF m 14 #[.val (.int p1), .val (.int p2), .val (.int (4 : Int32)), .unset, .unset, .unset, .unset] [(.int (4 : Int32))])) _
      refine OGot.go (fun t k => XS.istoreN X0.here hx rfl (hb hby at_14) rfl (l' := #[.val (.int p1), .val (.int p2), .val (.int (4 : Int32)), .val (.int (4 : Int32)), .unset, .unset, .unset]) rfl k) ?_
      show OGot p.tables e below (s₁.setTop (mkF m 15 #[.val (.int p1), .val (.int p2), .val (.int (4 : Int32)), .val (.int (4 : Int32)), .unset, .unset, .unset] [])) _
      refine OGot.go (fun t k => XS.iloadN X0.here hx rfl (hb hby at_15) rfl k) ?_
      show OGot p.tables e below (s₁.setTop (mkF m 16 #[.val (.int p1), .val (.int p2), .val (.int (4 : Int32)), .val (.int (4 : Int32)), .unset, .unset, .unset] [(.int (4 : Int32))])) _
      obtain ⟨_, _, ⟨T118, L118, k118, n118⟩, -, X118, ⟨Lc118, hQ118, l118, y118, z118⟩, st118⟩ := Jvm.LawKit.callS X0 hx (y := (⟨"com/example/hermit_crab/hermitcrab/JobStateCanMoveToPinLaw", "st", "(I)Lcom/example/hermit_crab/hermitcrab/JobState;"⟩ : MethodName)) hown (mvT hZ (ow hw 1 rfl)) (mvT hZ (ow hw 2 rfl)) (mvT hZ (ow hw 3 rfl)) (mvT hZ (ow hw 4 rfl)) (by decide) (backOf (W := 0) (rm1_4 l Z a0 hw [] G  h0 n0 O0 ) hZ (ow hw 4 rfl) (ow hw 3 rfl) (by decide) (by decide)) (g := (mkF m 16 #[.val (.int p1), .val (.int p2), .val (.int (4 : Int32)), .val (.int (4 : Int32)), .unset, .unset, .unset] [(.int (4 : Int32))])) rfl (by rw [hml]; rfl) (argsL := [(.int (4 : Int32))]) (rest := []) (lenOf pd_0 rfl) rfl (by show 2 * 0 + _ ≤ _; exact Nat.le_of_eq rfl) (hb hby at_16) (fun _ _ => ⟨rfl, e0, (by decide : 0 + 0 ≤ _), (by decide : 0 + 0 ≤ _)⟩)
      dsimp only [Pt.U, Pt.locs, Pt.cells, Pt.slots] at X118 l118 y118 z118 st118 hQ118
      subst l118 y118 z118
      obtain ⟨rfl, N118q, e118⟩ := hQ118
      have N118 := Fr.app N0 N118q
      refine OGot.go st118 ?_
      show OGot p.tables e below (T118.setTop (mkF m 19 #[.val (.int p1), .val (.int p2), .val (.int (4 : Int32)), .val (.int (4 : Int32)), .unset, .unset, .unset] [(.ref w_CANCELLED)])) _
      refine OGot.go (fun t k => XS.astore X118.here hx rfl (hb hby at_19) rfl rfl (l' := #[.val (.int p1), .val (.int p2), .val (.int (4 : Int32)), .val (.int (4 : Int32)), .val (.ref w_CANCELLED), .unset, .unset]) rfl k) ?_
      show OGot p.tables e below (T118.setTop (mkF m 21 #[.val (.int p1), .val (.int p2), .val (.int (4 : Int32)), .val (.int (4 : Int32)), .val (.ref w_CANCELLED), .unset, .unset] [])) _
      refine OGot.go (fun t k => XS.iloadN X118.here hx rfl (hb hby at_21) rfl k) ?_
      show OGot p.tables e below (T118.setTop (mkF m 22 #[.val (.int p1), .val (.int p2), .val (.int (4 : Int32)), .val (.int (4 : Int32)), .val (.ref w_CANCELLED), .unset, .unset] [(.int (4 : Int32))])) _
      refine OGot.go (fun t k => XS.iconst X118.here hx rfl (hb hby at_22) k) ?_
      show OGot p.tables e below (T118.setTop (mkF m 23 #[.val (.int p1), .val (.int p2), .val (.int (4 : Int32)), .val (.int (4 : Int32)), .val (.ref w_CANCELLED), .unset, .unset] [(.int (5 : Int32)), (.int (4 : Int32))])) _
      refine OGot.go (fun t k => XS.icmpYes X118.here hx rfl (pc0 := 23) (pc' := 30) rfl (hb hby at_23) rfl (by decide) (by decide) (by decide) k) ?_
      show OGot p.tables e below (T118.setTop (mkF m 30 #[.val (.int p1), .val (.int p2), .val (.int (4 : Int32)), .val (.int (4 : Int32)), .val (.ref w_CANCELLED), .unset, .unset] [])) _
      refine OGot.go (fun t k => XS.iloadN X118.here hx rfl (hb hby at_30) rfl k) ?_
      show OGot p.tables e below (T118.setTop (mkF m 31 #[.val (.int p1), .val (.int p2), .val (.int (4 : Int32)), .val (.int (4 : Int32)), .val (.ref w_CANCELLED), .unset, .unset] [(.int (4 : Int32))])) _
      obtain ⟨_, _, ⟨T119, L119, k119, n119⟩, -, X119, ⟨Lc119, hQ119, l119, y119, z119⟩, st119⟩ := Jvm.LawKit.callS X118 hx (y := (⟨"com/example/hermit_crab/hermitcrab/JobStateCanMoveToPinLaw", "st", "(I)Lcom/example/hermit_crab/hermitcrab/JobState;"⟩ : MethodName)) hown (mvT hZ (ow hw 1 rfl)) (mvT hZ (ow hw 2 rfl)) (mvT hZ (ow hw 3 rfl)) (mvT hZ (ow hw 4 rfl)) (by decide) (backOf (W := 0) (rm1_4 l Z a0 hw [] G  h0 n0 O0 ) hZ (ow hw 4 rfl) (ow hw 3 rfl) (by decide) (by decide)) (g := (mkF m 31 #[.val (.int p1), .val (.int p2), .val (.int (4 : Int32)), .val (.int (4 : Int32)), .val (.ref w_CANCELLED), .unset, .unset] [(.int (4 : Int32))])) rfl (by rw [hml]; rfl) (argsL := [(.int (4 : Int32))]) (rest := []) (lenOf pd_0 rfl) rfl (by show 2 * 0 + _ ≤ _; exact Nat.le_of_eq rfl) (hb hby at_31) (fun _ _ => ⟨rfl, e118, (by decide : 0 + 0 ≤ _), (by decide : 0 + 0 ≤ _)⟩)
      dsimp only [Pt.U, Pt.locs, Pt.cells, Pt.slots] at X119 l119 y119 z119 st119 hQ119
      subst l119 y119 z119
      obtain ⟨rfl, N119q, e119⟩ := hQ119
      have N119 := Fr.app N118 N119q
      refine OGot.go st119 ?_
      show OGot p.tables e below (T119.setTop (mkF m 34 #[.val (.int p1), .val (.int p2), .val (.int (4 : Int32)), .val (.int (4 : Int32)), .val (.ref w_CANCELLED), .unset, .unset] [(.ref w_CANCELLED)])) _
      refine OGot.go (fun t k => XS.astore X119.here hx rfl (hb hby at_34) rfl rfl (l' := #[.val (.int p1), .val (.int p2), .val (.int (4 : Int32)), .val (.int (4 : Int32)), .val (.ref w_CANCELLED), .val (.ref w_CANCELLED), .unset]) rfl k) ?_
      show OGot p.tables e below (T119.setTop (mkF m 36 #[.val (.int p1), .val (.int p2), .val (.int (4 : Int32)), .val (.int (4 : Int32)), .val (.ref w_CANCELLED), .val (.ref w_CANCELLED), .unset] [])) _
      refine OGot.go (fun t k => XS.iloadN X119.here hx rfl (hb hby at_36) rfl k) ?_
      show OGot p.tables e below (T119.setTop (mkF m 37 #[.val (.int p1), .val (.int p2), .val (.int (4 : Int32)), .val (.int (4 : Int32)), .val (.ref w_CANCELLED), .val (.ref w_CANCELLED), .unset] [(.int (4 : Int32))])) _
      refine OGot.go (fun t k => XS.iconst X119.here hx rfl (hb hby at_37) k) ?_
      show OGot p.tables e below (T119.setTop (mkF m 38 #[.val (.int p1), .val (.int p2), .val (.int (4 : Int32)), .val (.int (4 : Int32)), .val (.ref w_CANCELLED), .val (.ref w_CANCELLED), .unset] [(.int (5 : Int32)), (.int (4 : Int32))])) _
      refine OGot.go (fun t k => XS.icmpNo X119.here hx rfl (hb hby at_38) rfl (by decide) k) ?_
      show OGot p.tables e below (T119.setTop (mkF m 41 #[.val (.int p1), .val (.int p2), .val (.int (4 : Int32)), .val (.int (4 : Int32)), .val (.ref w_CANCELLED), .val (.ref w_CANCELLED), .unset] [])) _
      refine OGot.go (fun t k => X119.ldcInt hx hown (mvT hZ (ow hw 10 rfl)) (g := (mkF m 41 #[.val (.int p1), .val (.int p2), .val (.int (4 : Int32)), .val (.int (4 : Int32)), .val (.ref w_CANCELLED), .val (.ref w_CANCELLED), .unset] [])) rfl (hb hby at_41) _ k) ?_
      show OGot p.tables e below (T119.setTop (mkF m 43 #[.val (.int p1), .val (.int p2), .val (.int (4 : Int32)), .val (.int (4 : Int32)), .val (.ref w_CANCELLED), .val (.ref w_CANCELLED), .unset] [(.int (33202 : Int32))])) _
      refine OGot.go (fun t k => XS.iconst X119.here hx rfl (hb hby at_43) k) ?_
      show OGot p.tables e below (T119.setTop (mkF m 44 #[.val (.int p1), .val (.int p2), .val (.int (4 : Int32)), .val (.int (4 : Int32)), .val (.ref w_CANCELLED), .val (.ref w_CANCELLED), .unset] [(.int (5 : Int32)), (.int (33202 : Int32))])) _
      refine OGot.go (fun t k => XS.iloadN X119.here hx rfl (hb hby at_44) rfl k) ?_
      show OGot p.tables e below (T119.setTop (mkF m 45 #[.val (.int p1), .val (.int p2), .val (.int (4 : Int32)), .val (.int (4 : Int32)), .val (.ref w_CANCELLED), .val (.ref w_CANCELLED), .unset] [(.int (4 : Int32)), (.int (5 : Int32)), (.int (33202 : Int32))])) _
      refine OGot.go (fun t k => XS.imul X119.here hx rfl (hb hby at_45) rfl k) ?_
      show OGot p.tables e below (T119.setTop (mkF m 46 #[.val (.int p1), .val (.int p2), .val (.int (4 : Int32)), .val (.int (4 : Int32)), .val (.ref w_CANCELLED), .val (.ref w_CANCELLED), .unset] [(.int ((5 : Int32) * (4 : Int32))), (.int (33202 : Int32))])) _
      rw [show ((5 : Int32) * (4 : Int32)) = (20 : Int32) from by decide]
      show OGot p.tables e below (T119.setTop (mkF m 46 #[.val (.int p1), .val (.int p2), .val (.int (4 : Int32)), .val (.int (4 : Int32)), .val (.ref w_CANCELLED), .val (.ref w_CANCELLED), .unset] [(.int (20 : Int32)), (.int (33202 : Int32))])) _
      refine OGot.go (fun t k => XS.iloadN X119.here hx rfl (hb hby at_46) rfl k) ?_
      show OGot p.tables e below (T119.setTop (mkF m 47 #[.val (.int p1), .val (.int p2), .val (.int (4 : Int32)), .val (.int (4 : Int32)), .val (.ref w_CANCELLED), .val (.ref w_CANCELLED), .unset] [(.int (4 : Int32)), (.int (20 : Int32)), (.int (33202 : Int32))])) _
      refine OGot.go (fun t k => XS.iadd X119.here hx rfl (hb hby at_47) rfl k) ?_
      show OGot p.tables e below (T119.setTop (mkF m 48 #[.val (.int p1), .val (.int p2), .val (.int (4 : Int32)), .val (.int (4 : Int32)), .val (.ref w_CANCELLED), .val (.ref w_CANCELLED), .unset] [(.int ((20 : Int32) + (4 : Int32))), (.int (33202 : Int32))])) _
      rw [show ((20 : Int32) + (4 : Int32)) = (24 : Int32) from by decide]
      show OGot p.tables e below (T119.setTop (mkF m 48 #[.val (.int p1), .val (.int p2), .val (.int (4 : Int32)), .val (.int (4 : Int32)), .val (.ref w_CANCELLED), .val (.ref w_CANCELLED), .unset] [(.int (24 : Int32)), (.int (33202 : Int32))])) _
      refine OGot.go (fun t k => XS.ishr X119.here hx rfl (hb hby at_48) rfl k) ?_
      show OGot p.tables e below (T119.setTop (mkF m 49 #[.val (.int p1), .val (.int p2), .val (.int (4 : Int32)), .val (.int (4 : Int32)), .val (.ref w_CANCELLED), .val (.ref w_CANCELLED), .unset] [(.int ((33202 : Int32) >>> ((24 : Int32) &&& 31)))])) _
      rw [show ((33202 : Int32) >>> ((24 : Int32) &&& 31)) = (0 : Int32) from by decide]
      show OGot p.tables e below (T119.setTop (mkF m 49 #[.val (.int p1), .val (.int p2), .val (.int (4 : Int32)), .val (.int (4 : Int32)), .val (.ref w_CANCELLED), .val (.ref w_CANCELLED), .unset] [(.int (0 : Int32))])) _
      refine OGot.go (fun t k => XS.iconst X119.here hx rfl (hb hby at_49) k) ?_
      show OGot p.tables e below (T119.setTop (mkF m 50 #[.val (.int p1), .val (.int p2), .val (.int (4 : Int32)), .val (.int (4 : Int32)), .val (.ref w_CANCELLED), .val (.ref w_CANCELLED), .unset] [(.int (1 : Int32)), (.int (0 : Int32))])) _
      refine OGot.go (fun t k => XS.iand X119.here hx rfl (hb hby at_50) rfl k) ?_
      show OGot p.tables e below (T119.setTop (mkF m 51 #[.val (.int p1), .val (.int p2), .val (.int (4 : Int32)), .val (.int (4 : Int32)), .val (.ref w_CANCELLED), .val (.ref w_CANCELLED), .unset] [(.int ((0 : Int32) &&& (1 : Int32)))])) _
      rw [show ((0 : Int32) &&& (1 : Int32)) = (0 : Int32) from by decide]
      show OGot p.tables e below (T119.setTop (mkF m 51 #[.val (.int p1), .val (.int p2), .val (.int (4 : Int32)), .val (.int (4 : Int32)), .val (.ref w_CANCELLED), .val (.ref w_CANCELLED), .unset] [(.int (0 : Int32))])) _
      refine OGot.go (fun t k => XS.ifYes X119.here hx rfl (pc0 := 51) (pc' := 58) rfl (hb hby at_51) rfl (by decide) (by decide) (by decide) k) ?_
      show OGot p.tables e below (T119.setTop (mkF m 58 #[.val (.int p1), .val (.int p2), .val (.int (4 : Int32)), .val (.int (4 : Int32)), .val (.ref w_CANCELLED), .val (.ref w_CANCELLED), .unset] [])) _
      refine OGot.go (fun t k => XS.iconst X119.here hx rfl (hb hby at_58) k) ?_
      show OGot p.tables e below (T119.setTop (mkF m 59 #[.val (.int p1), .val (.int p2), .val (.int (4 : Int32)), .val (.int (4 : Int32)), .val (.ref w_CANCELLED), .val (.ref w_CANCELLED), .unset] [(.int (0 : Int32))])) _
      refine OGot.go (fun t k => XS.istore X119.here hx rfl (hb hby at_59) rfl (l' := #[.val (.int p1), .val (.int p2), .val (.int (4 : Int32)), .val (.int (4 : Int32)), .val (.ref w_CANCELLED), .val (.ref w_CANCELLED), .val (.int (0 : Int32))]) rfl k) ?_
      show OGot p.tables e below (T119.setTop (mkF m 61 #[.val (.int p1), .val (.int p2), .val (.int (4 : Int32)), .val (.int (4 : Int32)), .val (.ref w_CANCELLED), .val (.ref w_CANCELLED), .val (.int (0 : Int32))] [])) _
      refine OGot.go (fun t k => XS.aload X119.here hx rfl (hb hby at_61) rfl rfl k) ?_
      show OGot p.tables e below (T119.setTop (mkF m 63 #[.val (.int p1), .val (.int p2), .val (.int (4 : Int32)), .val (.int (4 : Int32)), .val (.ref w_CANCELLED), .val (.ref w_CANCELLED), .val (.int (0 : Int32))] [(.ref w_CANCELLED)])) _
      refine OGot.go (fun t k => XS.aload X119.here hx rfl (hb hby at_63) rfl rfl k) ?_
      show OGot p.tables e below (T119.setTop (mkF m 65 #[.val (.int p1), .val (.int p2), .val (.int (4 : Int32)), .val (.int (4 : Int32)), .val (.ref w_CANCELLED), .val (.ref w_CANCELLED), .val (.int (0 : Int32))] [(.ref w_CANCELLED), (.ref w_CANCELLED)])) _
      obtain ⟨cq120, kq120, q120a, q120b, q120c⟩ := isOf hZ e119 (G.2.2.2.2.2.2.2.1.ext O0.2)
      obtain ⟨_, _, ⟨T120, L120, k120, n120⟩, -, X120, ⟨Lc120, hQ120, l120, y120, z120⟩, st120⟩ := X119.virtualBack hx (y := (⟨"com/example/hermit_crab/hermitcrab/JobState", "canMoveTo", "(Lcom/example/hermit_crab/hermitcrab/JobState;)Z"⟩ : MethodName)) (z := (⟨"com/example/hermit_crab/hermitcrab/JobState", "canMoveTo", "(Lcom/example/hermit_crab/hermitcrab/JobState;)Z"⟩ : MethodName)) hown (mvT hZ (ow hw 11 rfl)) (mvT hZ (ow hw 12 rfl)) (notFace_of_selects (args := #[]) (mvT hZ (ow hw 14 rfl))) (mvT hZ (ow hw 14 rfl)) (mvT hZ (ow hw 13 rfl)) (by decide) (backOf (W := 0) (rm2_28 l Z a0 hw [] G  h0 n0 O0 ) hZ (ow hw 15 rfl) (ow hw 6 rfl) (by decide) (by decide)) q120a q120c (g := (mkF m 65 #[.val (.int p1), .val (.int p2), .val (.int (4 : Int32)), .val (.int (4 : Int32)), .val (.ref w_CANCELLED), .val (.ref w_CANCELLED), .val (.int (0 : Int32))] [(.ref w_CANCELLED), (.ref w_CANCELLED)])) rfl (by rw [hml]; rfl) (Steps.refl _) (argsL := [(.ref w_CANCELLED)]) (rest := []) (lenOf pd_2 rfl) rfl (by show 2 * 0 + _ ≤ _; exact Nat.le_of_eq rfl) (hb hby at_65) (fun _ _ => ⟨rfl, e119, (by decide : 0 + 0 ≤ _), (by decide : 0 + 0 ≤ _)⟩)
      dsimp only [Pt.U, Pt.locs, Pt.cells, Pt.slots] at X120 l120 y120 z120 st120 hQ120
      subst l120 y120 z120
      obtain ⟨rfl, N120q, e120⟩ := hQ120
      have N120 := Fr.app N119 N120q
      refine OGot.on st120 ?_
      show OGot p.tables e below (T120.setTop (mkF m 68 #[.val (.int p1), .val (.int p2), .val (.int (4 : Int32)), .val (.int (4 : Int32)), .val (.ref w_CANCELLED), .val (.ref w_CANCELLED), .val (.int (0 : Int32))] [(.int (0 : Int32))])) _
      refine OGot.go (fun t k => XS.iload X120.here hx rfl (hb hby at_68) rfl k) ?_
      show OGot p.tables e below (T120.setTop (mkF m 70 #[.val (.int p1), .val (.int p2), .val (.int (4 : Int32)), .val (.int (4 : Int32)), .val (.ref w_CANCELLED), .val (.ref w_CANCELLED), .val (.int (0 : Int32))] [(.int (0 : Int32)), (.int (0 : Int32))])) _
      refine OGot.go (fun t k => XS.icmpNo X120.here hx rfl (hb hby at_70) rfl (by decide) k) ?_
      show OGot p.tables e below (T120.setTop (mkF m 73 #[.val (.int p1), .val (.int p2), .val (.int (4 : Int32)), .val (.int (4 : Int32)), .val (.ref w_CANCELLED), .val (.ref w_CANCELLED), .val (.int (0 : Int32))] [])) _
      refine OGot.go (fun t k => XS.iconst X120.here hx rfl (hb hby at_73) k) ?_
      show OGot p.tables e below (T120.setTop (mkF m 74 #[.val (.int p1), .val (.int p2), .val (.int (4 : Int32)), .val (.int (4 : Int32)), .val (.ref w_CANCELLED), .val (.ref w_CANCELLED), .val (.int (0 : Int32))] [(.int (1 : Int32))])) _
      refine OGot.go (fun t k => XS.goto X120.here hx rfl (pc0 := 74) (pc' := 78) rfl (hb hby at_74) (by decide) (by decide) k) ?_
      show OGot p.tables e below (T120.setTop (mkF m 78 #[.val (.int p1), .val (.int p2), .val (.int (4 : Int32)), .val (.int (4 : Int32)), .val (.ref w_CANCELLED), .val (.ref w_CANCELLED), .val (.int (0 : Int32))] [(.int (1 : Int32))])) _
      obtain ⟨fs, hr, hrun, hended, hW, hsame⟩ := X120.leave (v := some (.int (1 : Int32))) (fun h => by rw [Bd.returns] at h; cases h)
      refine ⟨_, _, retN X120 hx (t := .boolean) Bd.returns (by simp) (hb hby at_78) hr, hrun, hended, _, _, rfl, ?_, ⟨_, rfl⟩, hW, hsame.mono (by decide) (by decide)⟩
      exact (⟨rfl, N120⟩ : Q0 Z w_PENDING w_FAILED w_RUNNING w_CANCELLED w_COMPLETED p1 p2 h0 n0 _ T120.heap _)
    · rw [hk105]
      show OGot p.tables e below (s₁.setTop (mkF m 14 #[.val (.int p1), .val (.int p2), .val (.int (4 : Int32)), .unset, .unset, .unset, .unset] [(.int (5 : Int32))])) _
      refine OGot.go (fun t k => XS.istoreN X0.here hx rfl (hb hby at_14) rfl (l' := #[.val (.int p1), .val (.int p2), .val (.int (4 : Int32)), .val (.int (5 : Int32)), .unset, .unset, .unset]) rfl k) ?_
      show OGot p.tables e below (s₁.setTop (mkF m 15 #[.val (.int p1), .val (.int p2), .val (.int (4 : Int32)), .val (.int (5 : Int32)), .unset, .unset, .unset] [])) _
      refine OGot.go (fun t k => XS.iloadN X0.here hx rfl (hb hby at_15) rfl k) ?_
      show OGot p.tables e below (s₁.setTop (mkF m 16 #[.val (.int p1), .val (.int p2), .val (.int (4 : Int32)), .val (.int (5 : Int32)), .unset, .unset, .unset] [(.int (4 : Int32))])) _
      obtain ⟨_, _, ⟨T121, L121, k121, n121⟩, -, X121, ⟨Lc121, hQ121, l121, y121, z121⟩, st121⟩ := Jvm.LawKit.callS X0 hx (y := (⟨"com/example/hermit_crab/hermitcrab/JobStateCanMoveToPinLaw", "st", "(I)Lcom/example/hermit_crab/hermitcrab/JobState;"⟩ : MethodName)) hown (mvT hZ (ow hw 1 rfl)) (mvT hZ (ow hw 2 rfl)) (mvT hZ (ow hw 3 rfl)) (mvT hZ (ow hw 4 rfl)) (by decide) (backOf (W := 0) (rm1_4 l Z a0 hw [] G  h0 n0 O0 ) hZ (ow hw 4 rfl) (ow hw 3 rfl) (by decide) (by decide)) (g := (mkF m 16 #[.val (.int p1), .val (.int p2), .val (.int (4 : Int32)), .val (.int (5 : Int32)), .unset, .unset, .unset] [(.int (4 : Int32))])) rfl (by rw [hml]; rfl) (argsL := [(.int (4 : Int32))]) (rest := []) (lenOf pd_0 rfl) rfl (by show 2 * 0 + _ ≤ _; exact Nat.le_of_eq rfl) (hb hby at_16) (fun _ _ => ⟨rfl, e0, (by decide : 0 + 0 ≤ _), (by decide : 0 + 0 ≤ _)⟩)
      dsimp only [Pt.U, Pt.locs, Pt.cells, Pt.slots] at X121 l121 y121 z121 st121 hQ121
      subst l121 y121 z121
      obtain ⟨rfl, N121q, e121⟩ := hQ121
      have N121 := Fr.app N0 N121q
      refine OGot.go st121 ?_
      show OGot p.tables e below (T121.setTop (mkF m 19 #[.val (.int p1), .val (.int p2), .val (.int (4 : Int32)), .val (.int (5 : Int32)), .unset, .unset, .unset] [(.ref w_CANCELLED)])) _
      refine OGot.go (fun t k => XS.astore X121.here hx rfl (hb hby at_19) rfl rfl (l' := #[.val (.int p1), .val (.int p2), .val (.int (4 : Int32)), .val (.int (5 : Int32)), .val (.ref w_CANCELLED), .unset, .unset]) rfl k) ?_
      show OGot p.tables e below (T121.setTop (mkF m 21 #[.val (.int p1), .val (.int p2), .val (.int (4 : Int32)), .val (.int (5 : Int32)), .val (.ref w_CANCELLED), .unset, .unset] [])) _
      refine OGot.go (fun t k => XS.iloadN X121.here hx rfl (hb hby at_21) rfl k) ?_
      show OGot p.tables e below (T121.setTop (mkF m 22 #[.val (.int p1), .val (.int p2), .val (.int (4 : Int32)), .val (.int (5 : Int32)), .val (.ref w_CANCELLED), .unset, .unset] [(.int (5 : Int32))])) _
      refine OGot.go (fun t k => XS.iconst X121.here hx rfl (hb hby at_22) k) ?_
      show OGot p.tables e below (T121.setTop (mkF m 23 #[.val (.int p1), .val (.int p2), .val (.int (4 : Int32)), .val (.int (5 : Int32)), .val (.ref w_CANCELLED), .unset, .unset] [(.int (5 : Int32)), (.int (5 : Int32))])) _
      refine OGot.go (fun t k => XS.icmpNo X121.here hx rfl (hb hby at_23) rfl (by decide) k) ?_
      show OGot p.tables e below (T121.setTop (mkF m 26 #[.val (.int p1), .val (.int p2), .val (.int (4 : Int32)), .val (.int (5 : Int32)), .val (.ref w_CANCELLED), .unset, .unset] [])) _
      refine OGot.go (fun t k => XS.aconstNull X121.here hx rfl (hb hby at_26) k) ?_
      show OGot p.tables e below (T121.setTop (mkF m 27 #[.val (.int p1), .val (.int p2), .val (.int (4 : Int32)), .val (.int (5 : Int32)), .val (.ref w_CANCELLED), .unset, .unset] [.null])) _
      refine OGot.go (fun t k => XS.goto X121.here hx rfl (pc0 := 27) (pc' := 34) rfl (hb hby at_27) (by decide) (by decide) k) ?_
      show OGot p.tables e below (T121.setTop (mkF m 34 #[.val (.int p1), .val (.int p2), .val (.int (4 : Int32)), .val (.int (5 : Int32)), .val (.ref w_CANCELLED), .unset, .unset] [.null])) _
      refine OGot.go (fun t k => XS.astore X121.here hx rfl (hb hby at_34) rfl rfl (l' := #[.val (.int p1), .val (.int p2), .val (.int (4 : Int32)), .val (.int (5 : Int32)), .val (.ref w_CANCELLED), .val .null, .unset]) rfl k) ?_
      show OGot p.tables e below (T121.setTop (mkF m 36 #[.val (.int p1), .val (.int p2), .val (.int (4 : Int32)), .val (.int (5 : Int32)), .val (.ref w_CANCELLED), .val .null, .unset] [])) _
      refine OGot.go (fun t k => XS.iloadN X121.here hx rfl (hb hby at_36) rfl k) ?_
      show OGot p.tables e below (T121.setTop (mkF m 37 #[.val (.int p1), .val (.int p2), .val (.int (4 : Int32)), .val (.int (5 : Int32)), .val (.ref w_CANCELLED), .val .null, .unset] [(.int (5 : Int32))])) _
      refine OGot.go (fun t k => XS.iconst X121.here hx rfl (hb hby at_37) k) ?_
      show OGot p.tables e below (T121.setTop (mkF m 38 #[.val (.int p1), .val (.int p2), .val (.int (4 : Int32)), .val (.int (5 : Int32)), .val (.ref w_CANCELLED), .val .null, .unset] [(.int (5 : Int32)), (.int (5 : Int32))])) _
      refine OGot.go (fun t k => XS.icmpYes X121.here hx rfl (pc0 := 38) (pc' := 58) rfl (hb hby at_38) rfl (by decide) (by decide) (by decide) k) ?_
      show OGot p.tables e below (T121.setTop (mkF m 58 #[.val (.int p1), .val (.int p2), .val (.int (4 : Int32)), .val (.int (5 : Int32)), .val (.ref w_CANCELLED), .val .null, .unset] [])) _
      refine OGot.go (fun t k => XS.iconst X121.here hx rfl (hb hby at_58) k) ?_
      show OGot p.tables e below (T121.setTop (mkF m 59 #[.val (.int p1), .val (.int p2), .val (.int (4 : Int32)), .val (.int (5 : Int32)), .val (.ref w_CANCELLED), .val .null, .unset] [(.int (0 : Int32))])) _
      refine OGot.go (fun t k => XS.istore X121.here hx rfl (hb hby at_59) rfl (l' := #[.val (.int p1), .val (.int p2), .val (.int (4 : Int32)), .val (.int (5 : Int32)), .val (.ref w_CANCELLED), .val .null, .val (.int (0 : Int32))]) rfl k) ?_
      show OGot p.tables e below (T121.setTop (mkF m 61 #[.val (.int p1), .val (.int p2), .val (.int (4 : Int32)), .val (.int (5 : Int32)), .val (.ref w_CANCELLED), .val .null, .val (.int (0 : Int32))] [])) _
      refine OGot.go (fun t k => XS.aload X121.here hx rfl (hb hby at_61) rfl rfl k) ?_
      show OGot p.tables e below (T121.setTop (mkF m 63 #[.val (.int p1), .val (.int p2), .val (.int (4 : Int32)), .val (.int (5 : Int32)), .val (.ref w_CANCELLED), .val .null, .val (.int (0 : Int32))] [(.ref w_CANCELLED)])) _
      refine OGot.go (fun t k => XS.aload X121.here hx rfl (hb hby at_63) rfl rfl k) ?_
      show OGot p.tables e below (T121.setTop (mkF m 65 #[.val (.int p1), .val (.int p2), .val (.int (4 : Int32)), .val (.int (5 : Int32)), .val (.ref w_CANCELLED), .val .null, .val (.int (0 : Int32))] [.null, (.ref w_CANCELLED)])) _
      obtain ⟨cq122, kq122, q122a, q122b, q122c⟩ := isOf hZ e121 (G.2.2.2.2.2.2.2.1.ext O0.2)
      obtain ⟨_, _, ⟨T122, L122, k122, n122⟩, -, X122, ⟨Lc122, hQ122, l122, y122, z122⟩, st122⟩ := X121.virtualBack hx (y := (⟨"com/example/hermit_crab/hermitcrab/JobState", "canMoveTo", "(Lcom/example/hermit_crab/hermitcrab/JobState;)Z"⟩ : MethodName)) (z := (⟨"com/example/hermit_crab/hermitcrab/JobState", "canMoveTo", "(Lcom/example/hermit_crab/hermitcrab/JobState;)Z"⟩ : MethodName)) hown (mvT hZ (ow hw 11 rfl)) (mvT hZ (ow hw 12 rfl)) (notFace_of_selects (args := #[]) (mvT hZ (ow hw 14 rfl))) (mvT hZ (ow hw 14 rfl)) (mvT hZ (ow hw 13 rfl)) (by decide) (backOf (W := 0) (rm2_29 l Z a0 hw [] G  h0 n0 O0 ) hZ (ow hw 15 rfl) (ow hw 6 rfl) (by decide) (by decide)) q122a q122c (g := (mkF m 65 #[.val (.int p1), .val (.int p2), .val (.int (4 : Int32)), .val (.int (5 : Int32)), .val (.ref w_CANCELLED), .val .null, .val (.int (0 : Int32))] [.null, (.ref w_CANCELLED)])) rfl (by rw [hml]; rfl) (Steps.refl _) (argsL := [.null]) (rest := []) (lenOf pd_2 rfl) rfl (by show 2 * 0 + _ ≤ _; exact Nat.le_of_eq rfl) (hb hby at_65) (fun _ _ => ⟨rfl, e121, (by decide : 0 + 0 ≤ _), (by decide : 0 + 0 ≤ _)⟩)
      dsimp only [Pt.U, Pt.locs, Pt.cells, Pt.slots] at X122 l122 y122 z122 st122 hQ122
      subst l122 y122 z122
      obtain ⟨rfl, N122q, e122⟩ := hQ122
      have N122 := Fr.app N121 N122q
      refine OGot.on st122 ?_
      show OGot p.tables e below (T122.setTop (mkF m 68 #[.val (.int p1), .val (.int p2), .val (.int (4 : Int32)), .val (.int (5 : Int32)), .val (.ref w_CANCELLED), .val .null, .val (.int (0 : Int32))] [(.int (0 : Int32))])) _
      refine OGot.go (fun t k => XS.iload X122.here hx rfl (hb hby at_68) rfl k) ?_
      show OGot p.tables e below (T122.setTop (mkF m 70 #[.val (.int p1), .val (.int p2), .val (.int (4 : Int32)), .val (.int (5 : Int32)), .val (.ref w_CANCELLED), .val .null, .val (.int (0 : Int32))] [(.int (0 : Int32)), (.int (0 : Int32))])) _
      refine OGot.go (fun t k => XS.icmpNo X122.here hx rfl (hb hby at_70) rfl (by decide) k) ?_
      show OGot p.tables e below (T122.setTop (mkF m 73 #[.val (.int p1), .val (.int p2), .val (.int (4 : Int32)), .val (.int (5 : Int32)), .val (.ref w_CANCELLED), .val .null, .val (.int (0 : Int32))] [])) _
      refine OGot.go (fun t k => XS.iconst X122.here hx rfl (hb hby at_73) k) ?_
      show OGot p.tables e below (T122.setTop (mkF m 74 #[.val (.int p1), .val (.int p2), .val (.int (4 : Int32)), .val (.int (5 : Int32)), .val (.ref w_CANCELLED), .val .null, .val (.int (0 : Int32))] [(.int (1 : Int32))])) _
      refine OGot.go (fun t k => XS.goto X122.here hx rfl (pc0 := 74) (pc' := 78) rfl (hb hby at_74) (by decide) (by decide) k) ?_
      show OGot p.tables e below (T122.setTop (mkF m 78 #[.val (.int p1), .val (.int p2), .val (.int (4 : Int32)), .val (.int (5 : Int32)), .val (.ref w_CANCELLED), .val .null, .val (.int (0 : Int32))] [(.int (1 : Int32))])) _
      obtain ⟨fs, hr, hrun, hended, hW, hsame⟩ := X122.leave (v := some (.int (1 : Int32))) (fun h => by rw [Bd.returns] at h; cases h)
      refine ⟨_, _, retN X122 hx (t := .boolean) Bd.returns (by simp) (hb hby at_78) hr, hrun, hended, _, _, rfl, ?_, ⟨_, rfl⟩, hW, hsame.mono (by decide) (by decide)⟩
      exact (⟨rfl, N122⟩ : Q0 Z w_PENDING w_FAILED w_RUNNING w_CANCELLED w_COMPLETED p1 p2 h0 n0 _ T122.heap _)
set_option maxRecDepth 65536 in
set_option maxHeartbeats 40000000 in
theorem comes_1 {Post : Tables → Env → Array Value → State → Outcome → State → Prop} (hpost : ∀ tb e args s v u, (limb_1_1.after args s (.returned v) u = true ∧ limb_1_2.after args s (.returned v) u = true ∧ True) → FrameEnd s (.returned v) u (Jvm.fieldLocs frame_1_writes args s ++ Jvm.arrayLocs frame_1_arrays args s ++ Jvm.staticLocs frame_1_statics s) 0 0 → Post tb e args s (.returned v) u) :
    ArmFor flags0 classFile x code maxLocals ret World_1 tables_1 room_1 Calls_1 rest_1 Pre_1 Post := by
  intro l hfl _ _ p e ha hc hk s m args below hf hA hF happ hP
  obtain ⟨hcalls, hrest, hpre⟩ := hP
  obtain ⟨-, -, -, hnamed, -, -, -, hat⟩ := (Spec.applies_iff hf).mp happ
  obtain ⟨hg, hn⟩ := and_e (Cond.before_iff.mp (show (Jvm.Cond.and given_1 narrow_1).before args s = true from hpre))
  obtain ⟨g0, g0r⟩ := and_e hg
  obtain ⟨g1, g1r⟩ := and_e g0r
  obtain ⟨w0, w1, rfl⟩ : ∃ w0 w1 : Value, args = #[w0, w1] := by
    have hs : args.size = 2 := by simpa [Cond.value, given_1] using g0
    obtain ⟨L⟩ := args
    match L, hs with
    | [w0, w1], _ => exact ⟨w0, w1, rfl⟩
  have hw := fun d (hd : d ∈ tables_1) => atoms_spec (ws := Jvm.Cond.code x code maxLocals ret :: tables_1) hat d (List.mem_cons_of_mem _ hd)
  obtain ⟨i0, ei0⟩ := is_v g1
  obtain rfl : w0 = (.int i0) := Option.some.inj ei0
  obtain ⟨i1, ei1⟩ := is_v g1r
  obtain rfl : w1 = (.int i1) := Option.some.inj ei1
  obtain ⟨m0, m0r⟩ := and_e hn
  obtain ⟨m1, m1r⟩ := and_e m0r
  obtain ⟨m2, m2r⟩ := and_e m1r
  obtain ⟨m3, m3r⟩ := and_e m2r
  obtain ⟨m4, m4r⟩ := and_e m3r
  obtain ⟨m5, m5r⟩ := and_e m4r
  obtain ⟨m6, m6r⟩ := and_e m5r
  obtain ⟨m7, m7r⟩ := and_e m6r
  obtain ⟨m8, m8r⟩ := and_e m7r
  obtain ⟨w_PENDING, ev_w_PENDING⟩ := exa_v m0
  obtain ⟨w_FAILED, ev_w_FAILED⟩ := exa_v m1
  obtain ⟨w_RUNNING, ev_w_RUNNING⟩ := exa_v m3
  obtain ⟨w_CANCELLED, ev_w_CANCELLED⟩ := exa_v m6
  obtain ⟨w_COMPLETED, ev_w_COMPLETED⟩ := exa_v m8
  have G : Glob s w_PENDING w_FAILED w_RUNNING w_CANCELLED w_COMPLETED := ⟨(Sta.start ev_w_PENDING (Or.inr ⟨(ow hw 6 rfl), (ow hw 7 rfl)⟩)), (Exa.start ev_w_PENDING m0), (Sta.start ev_w_FAILED (Or.inr ⟨(ow hw 6 rfl), (ow hw 9 rfl)⟩)), (Exa.start ev_w_FAILED m1), (Sta.start ev_w_RUNNING (Or.inr ⟨(ow hw 6 rfl), (ow hw 26 rfl)⟩)), (Exa.start ev_w_RUNNING m3), (Sta.start ev_w_CANCELLED (Or.inr ⟨(ow hw 6 rfl), (ow hw 28 rfl)⟩)), (Exa.start ev_w_CANCELLED m6), (Sta.start ev_w_COMPLETED (Or.inr ⟨(ow hw 6 rfl), (ow hw 33 rfl)⟩)), (Exa.start ev_w_COMPLETED m8), (Fld.start ((fld_at ev_w_PENDING).symm.trans (oeq_int m2))), (Fld.start ((fld_at ev_w_FAILED).symm.trans (oeq_int m4))), (Fld.start ((fld_at ev_w_RUNNING).symm.trans (oeq_int m5))), (Fld.start ((fld_at ev_w_CANCELLED).symm.trans (oeq_int m7))), (Fld.start ((fld_at ev_w_COMPLETED).symm.trans (oeq_int m8r)))⟩
  obtain ⟨n, o, h1, h2, h3, _, L, rfl, ⟨rfl, N⟩, hq⟩ := rm0 l s _ hw tables_1 G i0 i1 s.heap s.heap.size (Old.start s) p e ha hc hk s m _ below hf ((Spec.applies_iff_loose hf).mp happ).1 ⟨rfl, State.Warmed39.refl s, rfl⟩ trivial
  refine ⟨n, _, h1, h2, h3, hpost _ _ _ _ _ _ ⟨Cond.after_iff.mpr rfl, Cond.after_iff.mpr (eq_i res_at (Term.int_eval (1)) rfl), trivial⟩ ⟨hq.1, hq.2.1, (hq.2.2.sift fun y hy => Or.inr (N y hy)).mono (by decide) (by decide)⟩⟩
theorem main_1_1 : Claimed_1_1 := comes_1 fun _ _ _ _ _ _ h hF => ⟨h.1, hF⟩
theorem main_1_2 : Claimed_1_2 := comes_1 fun _ _ _ _ _ _ h hF => ⟨h.2.1, hF⟩
end Jvm.Pilot.@@N@@
namespace Jvm.Pilot.@@N@@
open Jvm Jvm.ClassFile Sem Op Lib Jvm.Free Jvm.Stand Jvm.Pilot.@@N@@.Jvm.D
/-! MADE BY PROGRAM (witnessworld.py) out of the Statement's table words and the real class files: 12 classes; the members and pool entries that the words name. The judged class is class 1, her method 2. -/
namespace start1
open Jvm.ClassFile
def u (s : String) : CpInfo := .utf8 (stringToUtf16 s)
/-- a pool by its gaps: so many unusable entries, then the entry; so many at the end -/
def gap : Nat → List CpInfo → List CpInfo
  | 0, r => r
  | n + 1, r => .unusable :: gap n r
def poolList (es : List (Nat × CpInfo)) (last : Nat) : List CpInfo := es.foldr (fun e r => gap e.1 (e.2 :: r)) (gap last [])
def pool (es : List (Nat × CpInfo)) (last : Nat) : Array CpInfo := ⟨poolList es last⟩
def fileOf (pool : Array CpInfo) (this : Nat) (attrs : Array Attribute := #[]) (ms : Array MethodInfo := #[]) (fl : Nat := 33) (sup : Nat := 0) (ifs : Array Nat := #[]) (fds : Array FieldInfo := #[]) : ClassFile where
  minorVersion := 0
  majorVersion := 65
  constantPool := pool
  accessFlags := fl
  thisClass := this
  superClass := sup
  interfaces := ifs
  fields := fds
  methods := ms
  attributes := attrs
def plain (name : String) (sup : Option ClassId) : Class where
  name := name
  kind := .ordinary
  loader := none
  accessFlags := 33
  super := sup
  interfaces := #[]
  cf := none
  fields := #[]
  methods := #[]
  instanceTypes := #[]
  staticTypes := #[]
  resolved := #[]
  callSites := []
  init := .initialized
  statics := none
  mirror := none

def pool0 : Array CpInfo := pool [(5, u "<init>"), (0, u "()V"), (1, .class_ 10), (1, u "java/lang/Object")] 113

def k0m0 : Method := { name := "<init>", desc := "()V", sig := { parameters := [], returnType := none }, accessFlags := 1, code := none }
/-- java/lang/Object -/
def k0 : Class := { plain "java/lang/Object" none with
  accessFlags := 33
  interfaces := #[]
  cf := some (fileOf pool0 8 #[] #[{ accessFlags := 1, nameIndex := 5, descriptorIndex := 6, attributes := #[] }] 33 0 #[] #[])
  fields := #[]
  methods := #[k0m0]
  instanceTypes := #[]
  staticTypes := #[]
  resolved := Array.replicate 124 none
  statics := none }

def pool1 : Array CpInfo := pool [(2, .class_ 4), (1, u "java/lang/Object"), (0, u "<init>"), (0, u "()V"), (0, .fieldref 8 9), (0, .class_ 10), (0, .nameAndType 11 12), (0, u "com/example/hermit_crab/hermitcrab/JobState"), (0, u "PENDING"), (0, u "Lcom/example/hermit_crab/hermitcrab/JobState;"), (0, .fieldref 8 14), (0, .nameAndType 15 12), (0, u "RUNNING"), (0, .fieldref 8 17), (0, .nameAndType 18 12), (0, u "COMPLETED"), (0, .fieldref 8 20), (0, .nameAndType 21 12), (0, u "FAILED"), (0, .fieldref 8 23), (0, .nameAndType 24 12), (0, u "CANCELLED"), (0, .integer 2147483647), (0, .methodref 27 28), (0, .class_ 29), (0, .nameAndType 30 31), (0, u "com/example/hermit_crab/hermitcrab/JobStateCanMoveToPinLaw"), (0, u "st"), (0, u "(I)Lcom/example/hermit_crab/hermitcrab/JobState;"), (0, .integer 33202), (0, .methodref 8 34), (0, .nameAndType 35 36), (0, u "canMoveTo"), (0, u "(Lcom/example/hermit_crab/hermitcrab/JobState;)Z"), (0, u "TABLE"), (0, u "I"), (4, u "law"), (0, u "(II)Z")] 2

def k1m0 : Method := { name := "<init>", desc := "()V", sig := { parameters := [], returnType := none }, accessFlags := 1, code := none }
def k1c1 : Code := { maxStack := 2, maxLocals := 1, code := method_2_code, exceptionTable := #[], attributes := #[] }
def k1m1 : Method := { name := "st", desc := "(I)Lcom/example/hermit_crab/hermitcrab/JobState;", sig := { parameters := [.int], returnType := some (.object "com/example/hermit_crab/hermitcrab/JobState") }, accessFlags := 10, code := some k1c1 }
def k1c2 : Code := { maxStack := 3, maxLocals := 7, code := code, exceptionTable := #[], attributes := #[] }
def k1m2 : Method := { name := "law", desc := "(II)Z", sig := { parameters := [.int, .int], returnType := some .boolean }, accessFlags := 9, code := some k1c2 }
/-- com/example/hermit_crab/hermitcrab/JobStateCanMoveToPinLaw -/
def k1 : Class := { plain "com/example/hermit_crab/hermitcrab/JobStateCanMoveToPinLaw" (some 0) with
  accessFlags := 49
  interfaces := #[]
  cf := some (fileOf pool1 27 #[] #[{ accessFlags := 1, nameIndex := 5, descriptorIndex := 6, attributes := #[] }, { accessFlags := 10, nameIndex := 30, descriptorIndex := 31, attributes := #[] }, { accessFlags := 9, nameIndex := 43, descriptorIndex := 44, attributes := #[] }] 49 2 #[] #[{ accessFlags := 26, nameIndex := 37, descriptorIndex := 38, attributes := #[] }])
  fields := #[{ name := "TABLE", type := .int, accessFlags := 26, slot := 0, constantValue := 0 }]
  methods := #[k1m0, k1m1, k1m2]
  instanceTypes := #[]
  staticTypes := #[.int]
  resolved := Array.replicate 47 none
  statics := none }

def pool2 : Array CpInfo := pool [(1, .class_ 2), (0, u "java/lang/constant/Constable"), (0, .class_ 4), (0, u "java/lang/Object")] 6

/-- java/lang/constant/Constable -/
def k2 : Class := { plain "java/lang/constant/Constable" (some 0) with
  accessFlags := 1537
  interfaces := #[]
  cf := some (fileOf pool2 1 #[] #[] 1537 3 #[] #[])
  fields := #[]
  methods := #[]
  instanceTypes := #[]
  staticTypes := #[]
  resolved := Array.replicate 11 none
  statics := none }

def pool3 : Array CpInfo := pool [(1, .class_ 2), (0, u "java/lang/Comparable"), (0, .class_ 4), (0, u "java/lang/Object")] 7

/-- java/lang/Comparable -/
def k3 : Class := { plain "java/lang/Comparable" (some 0) with
  accessFlags := 1537
  interfaces := #[]
  cf := some (fileOf pool3 1 #[] #[] 1537 3 #[] #[])
  fields := #[]
  methods := #[]
  instanceTypes := #[]
  staticTypes := #[]
  resolved := Array.replicate 12 none
  statics := none }

def pool4 : Array CpInfo := pool [(1, .class_ 2), (0, u "java/io/Serializable"), (0, .class_ 4), (0, u "java/lang/Object")] 2

/-- java/io/Serializable -/
def k4 : Class := { plain "java/io/Serializable" (some 0) with
  accessFlags := 1537
  interfaces := #[]
  cf := some (fileOf pool4 1 #[] #[] 1537 3 #[] #[])
  fields := #[]
  methods := #[]
  instanceTypes := #[]
  staticTypes := #[]
  resolved := Array.replicate 7 none
  statics := none }

def pool5 : Array CpInfo := pool [(2, .class_ 4), (1, u "java/lang/Enum"), (0, u "name"), (0, u "Ljava/lang/String;"), (0, .fieldref 2 8), (0, .nameAndType 9 10), (0, u "ordinal"), (0, u "I"), (1, .class_ 14), (1, u "java/lang/Object"), (4, u "hash"), (86, .class_ 108), (1, u "java/lang/Enum$EnumDesc"), (2, .class_ 112), (0, u "java/lang/constant/Constable"), (0, .class_ 114), (0, u "java/lang/Comparable"), (0, .class_ 116), (0, u "java/io/Serializable"), (9, u "()I")] 77

def k5c0 : Code := { maxStack := 1, maxLocals := 1, code := jdk_37_method_2_code, exceptionTable := #[], attributes := #[] }
def k5m0 : Method := { name := "ordinal", desc := "()I", sig := { parameters := [], returnType := some .int }, accessFlags := 17, code := some k5c0 }
/-- java/lang/Enum -/
def k5 : Class := { plain "java/lang/Enum" (some 0) with
  accessFlags := 1057
  interfaces := #[2, 3, 4]
  cf := some (fileOf pool5 2 #[.nestMembers #[106]] #[{ accessFlags := 17, nameIndex := 9, descriptorIndex := 126, attributes := #[] }] 1057 12 #[111, 113, 115] #[{ accessFlags := 18, nameIndex := 5, descriptorIndex := 6, attributes := #[] }, { accessFlags := 18, nameIndex := 9, descriptorIndex := 10, attributes := #[] }, { accessFlags := 2, nameIndex := 19, descriptorIndex := 10, attributes := #[] }])
  fields := #[{ name := "name", type := (.object "java/lang/String"), accessFlags := 18, slot := 0, constantValue := 0 }, { name := "ordinal", type := .int, accessFlags := 18, slot := 1, constantValue := 0 }, { name := "hash", type := .int, accessFlags := 2, slot := 2, constantValue := 0 }]
  methods := #[k5m0]
  instanceTypes := #[(.object "java/lang/String"), .int, .int]
  staticTypes := #[]
  resolved := Array.replicate 204 none
  statics := none }

def pool6 : Array CpInfo := pool [(1, .class_ 2), (0, u "com/example/hermit_crab/hermitcrab/JobState"), (0, .fieldref 1 4), (0, .nameAndType 5 6), (0, u "PENDING"), (0, u "Lcom/example/hermit_crab/hermitcrab/JobState;"), (0, .fieldref 1 8), (0, .nameAndType 9 6), (0, u "RUNNING"), (0, .fieldref 1 11), (0, .nameAndType 12 6), (0, u "COMPLETED"), (0, .fieldref 1 14), (0, .nameAndType 15 6), (0, u "FAILED"), (0, .fieldref 1 17), (0, .nameAndType 18 6), (0, u "CANCELLED"), (2, u "$VALUES"), (0, u "[Lcom/example/hermit_crab/hermitcrab/JobState;"), (6, .class_ 31), (1, u "java/lang/Enum"), (6, .methodref 1 39), (0, .nameAndType 40 41), (0, u "ordinal"), (0, u "()I"), (25, u "canMoveTo"), (0, u "(Lcom/example/hermit_crab/hermitcrab/JobState;)Z")] 4

def k6c0 : Code := { maxStack := 4, maxLocals := 2, code := prog_6_method_5_code, exceptionTable := #[], attributes := #[] }
def k6m0 : Method := { name := "canMoveTo", desc := "(Lcom/example/hermit_crab/hermitcrab/JobState;)Z", sig := { parameters := [(.object "com/example/hermit_crab/hermitcrab/JobState")], returnType := some .boolean }, accessFlags := 1, code := some k6c0 }
/-- com/example/hermit_crab/hermitcrab/JobState -/
def k6 : Class := { plain "com/example/hermit_crab/hermitcrab/JobState" (some 5) with
  accessFlags := 16433
  interfaces := #[]
  cf := some (fileOf pool6 1 #[] #[{ accessFlags := 1, nameIndex := 67, descriptorIndex := 68, attributes := #[] }] 16433 29 #[] #[{ accessFlags := 16409, nameIndex := 5, descriptorIndex := 6, attributes := #[] }, { accessFlags := 16409, nameIndex := 9, descriptorIndex := 6, attributes := #[] }, { accessFlags := 16409, nameIndex := 12, descriptorIndex := 6, attributes := #[] }, { accessFlags := 16409, nameIndex := 15, descriptorIndex := 6, attributes := #[] }, { accessFlags := 16409, nameIndex := 18, descriptorIndex := 6, attributes := #[] }, { accessFlags := 4122, nameIndex := 21, descriptorIndex := 22, attributes := #[] }])
  fields := #[{ name := "PENDING", type := (.object "com/example/hermit_crab/hermitcrab/JobState"), accessFlags := 16409, slot := 0, constantValue := 0 }, { name := "RUNNING", type := (.object "com/example/hermit_crab/hermitcrab/JobState"), accessFlags := 16409, slot := 1, constantValue := 0 }, { name := "COMPLETED", type := (.object "com/example/hermit_crab/hermitcrab/JobState"), accessFlags := 16409, slot := 2, constantValue := 0 }, { name := "FAILED", type := (.object "com/example/hermit_crab/hermitcrab/JobState"), accessFlags := 16409, slot := 3, constantValue := 0 }, { name := "CANCELLED", type := (.object "com/example/hermit_crab/hermitcrab/JobState"), accessFlags := 16409, slot := 4, constantValue := 0 }, { name := "$VALUES", type := (.array (.object "com/example/hermit_crab/hermitcrab/JobState")), accessFlags := 4122, slot := 5, constantValue := 0 }]
  methods := #[k6m0]
  instanceTypes := #[(.object "java/lang/String"), .int, .int]
  staticTypes := #[(.object "com/example/hermit_crab/hermitcrab/JobState"), (.object "com/example/hermit_crab/hermitcrab/JobState"), (.object "com/example/hermit_crab/hermitcrab/JobState"), (.object "com/example/hermit_crab/hermitcrab/JobState"), (.object "com/example/hermit_crab/hermitcrab/JobState"), (.array (.object "com/example/hermit_crab/hermitcrab/JobState"))]
  resolved := Array.replicate 73 none
  statics := some 0 }

def pool7 : Array CpInfo := pool [(1, u "java/lang/Cloneable"), (0, .class_ 1), (0, u "java/lang/Object"), (0, .class_ 3)] 3

/-- java/lang/Cloneable -/
def k7 : Class := { plain "java/lang/Cloneable" (some 0) with
  accessFlags := 1537
  interfaces := #[]
  cf := some (fileOf pool7 2 #[] #[] 1537 4 #[] #[])
  fields := #[]
  methods := #[]
  instanceTypes := #[]
  staticTypes := #[]
  resolved := Array.replicate 8 none
  statics := none }

/-- the primitive byte -/
def k8 : Class := { plain "byte" none with kind := .primitive 'B', accessFlags := 0x411 }
/-- [B -/
def k9 : Class := { plain "[B" (some 0) with kind := .array 8 .byte, interfaces := #[7, 4], accessFlags := 1041 }

/-- the primitive int -/
def k10 : Class := { plain "int" none with kind := .primitive 'I', accessFlags := 0x411 }
/-- [I -/
def k11 : Class := { plain "[I" (some 0) with kind := .array 10 .int, interfaces := #[7, 4], accessFlags := 1041 }

def heap : Heap := #[{ cls := 6, slots := #[.ref 1, .ref 3, .ref 5, .ref 2, .ref 4, .null], vm := .statics 6 },
  { cls := 6, slots := #[.null, .int 0, .int 0], vm := .none },
  { cls := 6, slots := #[.null, .int 3, .int 0], vm := .none },
  { cls := 6, slots := #[.null, .int 1, .int 0], vm := .none },
  { cls := 6, slots := #[.null, .int 4, .int 0], vm := .none },
  { cls := 6, slots := #[.null, .int 2, .int 0], vm := .none }]
def classes : Array Class := #[k0, k1, k2, k3, k4, k5, k6, k7, k8, k9, k10, k11]
def interned : List (Array UInt16 × Addr) := []
def slotsUsed : Nat := 21
def theMethod : MethodId := ⟨1, 2⟩
def args0 : Array Value := #[.int 5, .int 6]
def aboutOver (below : List Frame) : State where
  vm := { classes := classes, interned := interned.toArray }
  heap := heap
  slotsUsed := slotsUsed
  threads := #[{ frames := .invoking theMethod args0 :: below }]
def below0 : List Frame := [.native { method := ⟨0, 0⟩, args := #[] }]
def about1 : State := aboutOver below0
def p0 : Program := .bare "" "" ""
def e0 : Env := launch0.env 0 0 0
theorem w_frames : about1.frames = Frame.invoking theMethod args0 :: below0 := rfl
set_option maxRecDepth 65536 in
theorem w_args : argsFit about1.vm theMethod args0 = true := by decide +kernel
set_option maxRecDepth 65536 in
theorem w_heap : heapFits about1 = true := by decide +kernel
set_option maxRecDepth 65536 in
theorem w_runnable : about1.curStatus? = some .runnable := by decide +kernel
set_option maxRecDepth 65536 in
theorem w_alone : about1.alone = true := by decide +kernel
set_option maxRecDepth 65536 in
theorem w_named : about1.methodNamed? x = some theMethod := by decide +kernel
set_option maxRecDepth 65536 in
theorem w_hears : about1.hears theMethod below0 = true := by decide +kernel
set_option maxRecDepth 65536 in
theorem w_ripe : about1.ripe theMethod args0 below0 = true := by decide +kernel
theorem w_running : about1.status = .running := rfl
set_option maxRecDepth 65536 in
theorem w_room : about1.hasRoom e0.platform room_1 = true :=
  launch0.hasRoom_least _ room_1 (by decide +kernel) (by decide +kernel) (by decide +kernel) (by decide +kernel) (by decide +kernel) (by decide +kernel)
theorem allAtoms_all (ts : List Jvm.Cond) (a : Array Jvm.Value) (st : Jvm.State) : (allAtoms ts).before a st = ts.all (fun c => c.before a st) := by
  induction ts with
  | nil => rfl
  | cons c t ih =>
    show (Jvm.Cond.and c (allAtoms t)).before a st = _
    rw [Jvm.Cond.before_and, ih, List.all_cons]
def words1 : List Jvm.Cond := Jvm.Cond.code x code maxLocals ret :: tables_1
/-- a 'code' word, met by the world's own term for the bytes: nothing is compared byte by byte -/
theorem code_word {y : MethodName} {bytes : ByteArray} {mx : Nat} {rt : Option FieldType} {a : Array Value} {s : State} {m : MethodId} {meth : Method} {c : Code} (h1 : s.methodNamed? y = some m) (h2 : s.vm.method? m = some meth) (h3 : meth.code = some c) (h4 : c.code = bytes)
    (h5 : (c.maxLocals == mx && c.exceptionTable.isEmpty && decide (c.maxStack ≤ mostOperands) && decide (meth.sig.returnType = rt) && !meth.locks && decide (parseMethodDescriptor y.desc = some meth.sig)) = true) : (Jvm.Cond.code y bytes mx rt).before a s = true := by
  simp only [Bool.and_eq_true, beq_iff_eq, Bool.not_eq_true', decide_eq_true_eq] at h5
  obtain ⟨⟨⟨⟨⟨g1, g2⟩, g3⟩, g4⟩, g5⟩, g6⟩ := h5
  simp [Cond.before, Cond.holds, Cond.value, h1, h2, h3, h4, g1, g2, g3, g4, g5, g6]
def isCode : Jvm.Cond → Bool
  | .code _ _ _ _ => true
  | _ => false
theorem all_split {L : List Jvm.Cond} {P : Jvm.Cond → Bool} (h1 : L.all (fun c => isCode c || P c) = true) (h2 : ∀ c ∈ L.filter isCode, P c = true) : L.all P = true := by
  refine List.all_eq_true.mpr fun c hc => ?_
  have h := List.all_eq_true.mp h1 c hc
  rcases Bool.eq_false_or_eq_true (isCode c) with hi | hi
  · exact h2 c (List.mem_filter.mpr ⟨hc, hi⟩)
  · simpa [hi] using h
set_option maxRecDepth 65536 in
theorem w_c0 : (Jvm.Cond.code x code maxLocals ret).before args0 about1 = true := code_word (m := ⟨1, 2⟩) (meth := k1m2) (c := k1c2) (by decide +kernel) rfl rfl rfl (by decide +kernel)
set_option maxRecDepth 65536 in
theorem w_c1 : (Jvm.Cond.code ({ cls := "com/example/hermit_crab/hermitcrab/JobStateCanMoveToPinLaw", name := "st", desc := "(I)Lcom/example/hermit_crab/hermitcrab/JobState;" } : Jvm.MethodName) method_2_code (1 : Nat) (Option.some (Jvm.ClassFile.FieldType.object "com/example/hermit_crab/hermitcrab/JobState"))).before args0 about1 = true := code_word (m := ⟨1, 1⟩) (meth := k1m1) (c := k1c1) (by decide +kernel) rfl rfl rfl (by decide +kernel)
set_option maxRecDepth 65536 in
theorem w_c2 : (Jvm.Cond.code ({ cls := "com/example/hermit_crab/hermitcrab/JobState", name := "canMoveTo", desc := "(Lcom/example/hermit_crab/hermitcrab/JobState;)Z" } : Jvm.MethodName) prog_6_method_5_code (2 : Nat) (Option.some Jvm.ClassFile.FieldType.boolean)).before args0 about1 = true := code_word (m := ⟨6, 0⟩) (meth := k6m0) (c := k6c0) (by decide +kernel) rfl rfl rfl (by decide +kernel)
set_option maxRecDepth 65536 in
theorem w_c3 : (Jvm.Cond.code ({ cls := "java/lang/Enum", name := "ordinal", desc := "()I" } : Jvm.MethodName) jdk_37_method_2_code (1 : Nat) (Option.some Jvm.ClassFile.FieldType.int)).before args0 about1 = true := code_word (m := ⟨5, 0⟩) (meth := k5m0) (c := k5c0) (by decide +kernel) rfl rfl rfl (by decide +kernel)
def codes1 : List Jvm.Cond := [Jvm.Cond.code x code maxLocals ret, Jvm.Cond.code ({ cls := "com/example/hermit_crab/hermitcrab/JobStateCanMoveToPinLaw", name := "st", desc := "(I)Lcom/example/hermit_crab/hermitcrab/JobState;" } : Jvm.MethodName) method_2_code (1 : Nat) (Option.some (Jvm.ClassFile.FieldType.object "com/example/hermit_crab/hermitcrab/JobState")), Jvm.Cond.code ({ cls := "com/example/hermit_crab/hermitcrab/JobState", name := "canMoveTo", desc := "(Lcom/example/hermit_crab/hermitcrab/JobState;)Z" } : Jvm.MethodName) prog_6_method_5_code (2 : Nat) (Option.some Jvm.ClassFile.FieldType.boolean), Jvm.Cond.code ({ cls := "java/lang/Enum", name := "ordinal", desc := "()I" } : Jvm.MethodName) jdk_37_method_2_code (1 : Nat) (Option.some Jvm.ClassFile.FieldType.int)]
set_option maxRecDepth 65536 in
theorem codes_eq : words1.filter isCode = codes1 := rfl
theorem w_codes : ∀ c ∈ words1.filter isCode, c.before args0 about1 = true := by
  rw [codes_eq]
  intro c hc
  simp only [codes1, List.mem_cons, List.not_mem_nil, or_false] at hc
  rcases hc with rfl | rfl | rfl | rfl
  · exact w_c0
  · exact w_c1
  · exact w_c2
  · exact w_c3
set_option maxRecDepth 65536 in
theorem w_t1 : (words1.take 24).all (fun c => isCode c || c.before args0 about1) = true := by decide +kernel
set_option maxRecDepth 65536 in
theorem w_t2 : (words1.drop 24).all (fun c => isCode c || c.before args0 about1) = true := by decide +kernel
theorem w_tables : (allAtoms (Jvm.Cond.code x code maxLocals ret :: tables_1)).before args0 about1 = true := by
  rw [allAtoms_all]
  show words1.all (fun c => c.before args0 about1) = true
  refine all_split ?_ w_codes
  rw [← List.take_append_drop 24 words1, List.all_append, w_t1, w_t2]
  rfl
set_option maxRecDepth 65536 in
theorem w_case : (Jvm.Cond.and given_1 narrow_1).before args0 about1 = true := by decide +kernel
theorem w_applies : (headSpec (Jvm.Cond.code x code maxLocals ret :: tables_1) room_1).applies x e0.platform about1 = true :=
  (Spec.applies_iff w_frames).mpr ⟨w_running, w_runnable, w_alone, w_named, w_hears, w_ripe, w_room, w_tables⟩
theorem atStart : AtStart classFile x code maxLocals ret World_1 tables_1 room_1 Calls_1 rest_1 Pre_1 launch0 p0 e0 about1 theMethod args0 below0 :=
  ⟨lists_1, trivial, launch0.admits_env _ _ _, launch0.least_env, fairChoices_fair.cas, fairChoices_fair.clock, w_frames, w_args, w_heap, w_applies, trivial, trivial, w_case⟩
end start1
theorem witness_1 : WitnessClaimed_1 := ⟨start1.p0, start1.e0, start1.about1, start1.theMethod, start1.args0, start1.below0, start1.atStart⟩
end Jvm.Pilot.@@N@@
