import JvmDerived
import JvmDerived.Pilot.@@N@@Statement
import JvmDerived.Pilot.@@N@@Code
set_option linter.unusedVariables false
set_option linter.unusedSimpArgs false
namespace Jvm.Pilot.@@N@@
open Jvm Jvm.ClassFile Sem Op Lib Jvm.Free Jvm.Stand Jvm.LawKit Jvm.RoadKit Bundle Jvm.Pilot.@@N@@.Jvm.D
section OwnKit
variable {p : Program} {l : Launch} {e : Env} {R : Room} {s : State} {m : MethodId} {args : Array Value} {below : List Frame} {meth : Method} {c : Code} {T : State} {locs : List Loc} {cells slots : Nat}
theorem retI (X : Stand p l e R s m args below meth c T locs cells slots) (hx : p.tables.exec = Jvm.exec) {pc : Nat} {Ls : Array Slot} {z : Int32} {rest : List Value} (hret : meth.sig.returnType = some .int) (hd : decode c.code pc = .ok (.ireturn, 1)) {fs : List Frame}
    (hl : ∀ (f : JFrame) (acts : List Action), f.method = m → f.locked = none → f.entered = [] → (doReturn e (T.setTop f) acts (some (.int z))).1 = T.setFrames fs) : Steps p.tables e below (T.setTop (mkF m pc Ls (.int z :: rest))) (T.setFrames fs) :=
  retOut X hx hret rfl (Or.inl ⟨rfl, Or.inl rfl, z, rfl⟩) hd hl
theorem oretJ (X : Stand p l e R s m args below meth c T locs cells slots) (hx : p.tables.exec = Jvm.exec) {pc : Nat} {Ls : Array Slot} {z : Int64} {rest : List Value} (hret : meth.sig.returnType = some .long) (hd : decode c.code pc = .ok (.lreturn, 1)) {fs : List Frame}
    (hl : ∀ (f : JFrame) (acts : List Action), f.method = m → f.locked = none → f.entered = [] → (doReturn e (T.setTop f) acts (some (.long z))).1 = T.setFrames fs) : Steps p.tables e below (T.setTop (mkF m pc Ls (.long z :: rest))) (T.setFrames fs) :=
  retOut X hx hret rfl (Or.inr (Or.inl ⟨rfl, rfl, z, rfl⟩)) hd hl
theorem oretA (X : Stand p l e R s m args below meth c T locs cells slots) (hx : p.tables.exec = Jvm.exec) {pc : Nat} {Ls : Array Slot} {w : Value} {t : FieldType} {rest : List Value} (hret : meth.sig.returnType = some t) (ht : t.isReference = true) (hw : w.isRef = true) (hd : decode c.code pc = .ok (.areturn, 1)) {fs : List Frame}
    (hl : ∀ (f : JFrame) (acts : List Action), f.method = m → f.locked = none → f.entered = [] → (doReturn e (T.setTop f) acts (some w)).1 = T.setFrames fs) : Steps p.tables e below (T.setTop (mkF m pc Ls (w :: rest))) (T.setFrames fs) :=
  retOut X hx hret (by rcases ref_cases hw with rfl | ⟨a, rfl⟩ <;> cases t <;> rfl) (Or.inr (Or.inr (Or.inr (Or.inr ⟨rfl, ht, hw⟩)))) hd hl
end OwnKit
/-- the run that stands at A comes to an end of which P holds -/
def OGot (tb : Tables) (e : Env) (below : List Frame) (A : State) (P : State → Outcome → Prop) : Prop := ∃ U o, Steps tb e below A U ∧ P U o
theorem OGot.go {tb : Tables} {e : Env} {below : List Frame} {A B : State} {P : State → Outcome → Prop} (st : ∀ t, Steps tb e below B t → Steps tb e below A t) (h : OGot tb e below B P) : OGot tb e below A P := by
  obtain ⟨U, o, h1, h2⟩ := h
  exact ⟨U, o, st U h1, h2⟩
theorem OGot.on {tb : Tables} {e : Env} {below : List Frame} {A B : State} {P : State → Outcome → Prop} (st : Steps tb e below A B) (h : OGot tb e below B P) : OGot tb e below A P := by
  obtain ⟨U, o, h1, h2⟩ := h
  exact ⟨U, o, st.trans h1, h2⟩
section OwnFacts
variable {Z : State} {h h' h0 : Heap} {a b : Addr} {C n d : String} {v : Value} {sl : Nat} {n0 : Nat} {ws ws' : List (Addr × Nat)} {k : ClassId} {ty : FieldType} {z : Int32} {vs : List Value} {dv : Value}
theorem osz (X : Old Z n0 h) : n0 ≤ h.size := X.1 ▸ X.2.1
theorem oheap {U : State} {P : Heap → Prop} (q : U.heap = h) (x : P h) : P U.heap := q ▸ x
/-- what stood in h0 stands in h, but for the places at ws -/
def OKeep (h0 h : Heap) (ws : List (Addr × Nat)) : Prop := h0.size ≤ h.size ∧ ∀ (x : Addr) (c : Cell), h0[x]? = some c → ∃ c' : Cell, h[x]? = some c' ∧ c'.cls = c.cls ∧ c'.vm = c.vm ∧ c'.slots.size = c.slots.size ∧ (∀ i, (x, i) ∉ ws → c'.slots[i]? = c.slots[i]?) ∧ ((∀ i, (x, i) ∉ ws) → c' = c)
theorem OKeep.refl (h : Heap) (ws : List (Addr × Nat)) : OKeep h h ws := ⟨Nat.le_refl _, fun _ c q => ⟨c, q, rfl, rfl, rfl, fun _ _ => rfl, fun _ => rfl⟩⟩
theorem OKeep.ext (K : OKeep h0 h ws) (E : Ext h h') : OKeep h0 h' ws := ⟨Nat.le_trans K.1 E.1, fun x c q => by
  obtain ⟨c', q', r⟩ := K.2 x c q
  exact ⟨c', E.2 x c' q', r⟩⟩
theorem OKeep.trans (K : OKeep h0 h ws) (K' : OKeep h h' ws') (q : ∀ x ∈ ws', x ∈ ws ∨ h0.size ≤ x.1) : OKeep h0 h' ws := by
  refine ⟨Nat.le_trans K.1 K'.1, fun x c hx => ?_⟩
  have lt : x < h0.size := (Array.getElem?_eq_some_iff.mp hx).1
  have out : ∀ i, (x, i) ∉ ws → (x, i) ∉ ws' := fun i r z => (q _ z).elim r fun y => Nat.not_lt.mpr y lt
  obtain ⟨c1, q1, r1, r2, r3, r4, r5⟩ := K.2 x c hx
  obtain ⟨c2, q2, t1, t2, t3, t4, t5⟩ := K'.2 x c1 q1
  exact ⟨c2, q2, t1.trans r1, t2.trans r2, t3.trans r3, fun i r => (t4 i (out i r)).trans (r4 i r), fun r => (t5 fun i => out i (r i)).trans (r5 r)⟩
theorem OKeep.of_wr (W : Wr h h' a sl v) : OKeep h h' [(a, sl)] := by
  refine ⟨Nat.le_of_eq W.size.symm, fun x c q => ?_⟩
  obtain ⟨c', e1, e2, e3, e4, e5, e6, -⟩ := wr_at W q
  refine ⟨c', e1, e2, e3, e4, fun i r => ?_, fun r => e5 fun z => r sl (by simp [z])⟩
  by_cases z : x = a
  · subst z
    exact e6 i fun y => r (by simp [y])
  · rw [e5 z]
theorem OKeep.wr (K : OKeep h0 h ws) (W : Wr h h' a sl v) (q : (a, sl) ∈ ws ∨ h0.size ≤ a) : OKeep h0 h' ws := K.trans (OKeep.of_wr W) fun x hx => by cases List.mem_singleton.mp hx; exact q
theorem oslot {x : ClassId × Class × Nat × Field} (h2 : Z.fieldFound? C n d = some x) : Jvm.RoadKit.slotOf Z C n d = x.2.2.2.slot := by
  show ((Z.fieldFound? C n d).map (·.2.2.2.slot)).getD 0 = _
  rw [h2]; rfl
theorem OKeep.fld (F : Fld Z h a C n d v) (K : OKeep h h' ws) (q : (a, Jvm.RoadKit.slotOf Z C n d) ∉ ws) : Fld Z h' a C n d v := by
  obtain ⟨cell, cf, k, i, f, h1, h2, h3, h4, h5, h6, h7⟩ := F
  obtain ⟨c', r, r1, r2, -, r4, -⟩ := K.2 a cell h1
  exact ⟨c', cf, k, i, f, r, h2, h3, by rw [r2]; exact h4, by rw [r2]; exact h5, by rw [r1]; exact h6, by rw [r4 f.slot (fun y => q (by rw [oslot h2]; exact y))]; exact h7⟩
theorem OKeep.exa (F : Exa Z h a C) (K : OKeep h h' ws) : Exa Z h' a C := by
  obtain ⟨cell, k, h1, h2, h3, h4, h5⟩ := F
  obtain ⟨c', q, r1, r2, r3, -, -⟩ := K.2 a cell h1
  exact ⟨c', k, q, r1 ▸ h2, r1 ▸ h3, r2 ▸ h4, r3 ▸ h5⟩
theorem OKeep.arv (F : Arv Z h a k ty z vs dv) (K : OKeep h h' ws) (q : ∀ x ∈ ws, a ≠ x.1) : Arv Z h' a k ty z vs dv := by
  obtain ⟨c, A, r⟩ := F
  obtain ⟨c', e1, -, -, -, -, e5⟩ := K.2 a c A.1
  cases e5 fun i y => q _ y rfl
  exact ⟨c, ⟨e1, A.2⟩, r⟩
theorem OKeep.old (X : Old Z n0 h) (K : OKeep h h' ws) (q : ∀ x ∈ ws, n0 ≤ x.1) : Old Z n0 h' := ⟨X.1, Nat.le_trans X.2.1 K.1, fun x c r => by
  obtain ⟨c', e1, -, -, -, -, e5⟩ := K.2 x c (X.2.2 x c r)
  cases e5 fun i y => absurd (X.1 ▸ (Array.getElem?_eq_some_iff.mp r).1) (Nat.not_lt.mpr (q _ y))
  exact e1⟩
theorem onin0 {x : Addr × Nat} : x ∉ ([] : List (Addr × Nat)) := fun q => nomatch q
theorem oninA {t : Nat} {L : List (Addr × Nat)} (q : a ≠ b) (r : (a, sl) ∉ L) : (a, sl) ∉ (b, t) :: L := fun y => (List.mem_cons.mp y).elim (fun u => q (congrArg Prod.fst u)) r
theorem oninS {t : Nat} {L : List (Addr × Nat)} (q : sl ≠ t) (r : (a, sl) ∉ L) : (a, sl) ∉ (b, t) :: L := fun y => (List.mem_cons.mp y).elim (fun u => q (congrArg Prod.snd u)) r
theorem oall0 : ∀ x ∈ ([] : List (Addr × Nat)), a ≠ x.1 := fun _ q => nomatch q
theorem oallS {t : Nat} {L : List (Addr × Nat)} (q : a ≠ b) (r : ∀ x ∈ L, a ≠ x.1) : ∀ x ∈ (b, t) :: L, a ≠ x.1 := fun x y => (List.mem_cons.mp y).elim (fun u => by subst u; exact q) (r x)
theorem oge0 : ∀ x ∈ ([] : List (Addr × Nat)), n0 ≤ x.1 := fun _ q => nomatch q
theorem ogeS {t : Nat} {L : List (Addr × Nat)} (q : n0 ≤ b) (r : ∀ x ∈ L, n0 ≤ x.1) : ∀ x ∈ (b, t) :: L, n0 ≤ x.1 := fun x y => (List.mem_cons.mp y).elim (fun u => by subst u; exact q) (r x)
theorem oin0 {P : Addr × Nat → Prop} : ∀ x ∈ ([] : List (Addr × Nat)), P x := fun _ q => nomatch q
theorem oinS {P : Addr × Nat → Prop} {y : Addr × Nat} {L : List (Addr × Nat)} (q : P y) (r : ∀ x ∈ L, P x) : ∀ x ∈ y :: L, P x := fun x u => (List.mem_cons.mp u).elim (fun w => w ▸ q) (r x)
theorem oeq_int {args : Array Value} {first s : State} {o : Option Outcome} {idx : List Nat} {t : Term} {w : Int32} (q : (Jvm.Cond.eq t (.int w)).value args first o s idx = some true) : t.eval args first o idx s = some (.int w) := by
  simp only [Jvm.Cond.value, Term.eval] at q
  cases ht : t.eval args first o idx s with
  | none => simp [ht] at q
  | some x => cases x <;> simp [ht] at q ⊢; exact q
theorem oeq_ref {args : Array Value} {first s : State} {o : Option Outcome} {idx : List Nat} {t u : Term} {w : Addr} (q : (Jvm.Cond.eq t u).value args first o s idx = some true) (r : u.eval args first o idx s = some (.ref w)) : t.eval args first o idx s = some (.ref w) := by
  obtain ⟨x, y, e1, e2, k1, k2⟩ := cmp_v (Or.inl q)
  cases r.symm.trans e2
  rcases ref_cases k2.2 with rfl | ⟨z, rfl⟩
  · have := eq_R e1 e2 rfl rfl
    rw [q] at this
    simp at this
  · have := gotT (eq_R e1 e2 rfl rfl) q
    rw [e1, this]
theorem one_int {args : Array Value} {first s : State} {o : Option Outcome} {idx : List Nat} {t : Term} {w : Int32} (r : t.eval args first o idx s = some (.int w)) (q : (Jvm.Cond.not (.eq t (.int 0))).value args first o s idx = some true) : ¬ (w = (0 : Int32)) := by
  have := not_v q
  exact gotF (Cond.eq_ints r rfl) this
theorem olen {args : Array Value} {first s : State} {o : Option Outcome} {idx : List Nat} {t : Term} {cl : Cell} {w : Int32} (q : (Term.length t).eval args first o idx s = some (.int w)) (ht : t.eval args first o idx s = some (.ref a)) (ha : s.arrayAt? a = some cl) : cl.slots.size < 2 ^ 31 ∧ cl.slots.size.toInt32 = w := by
  simp only [Term.eval, ht, ha, Option.bind_eq_bind, Option.bind_some] at q
  by_cases y : cl.slots.size < 2 ^ 31
  · exact ⟨y, by simpa [y] using q⟩
  · simp [y] at q
theorem osub128 {args : Array Value} {j : Int32} (hj : ¬ j < 0) : (Term.sub (.index 0) (.int 128)).eval args Z none [j.toNatClampNeg] Z = some (.int (j - 128)) := by
  have e := idx_at (args := args) (first := Z) (s := Z) (o := none) hj
  simp only [Term.eval] at e ⊢
  simp [e]
  exact (back32 hj).1
def obox (c : Cell) (j : Int32) : Addr := match c.slots[j.toNatClampNeg]? with
  | some (.ref b) => b
  | _ => 0
theorem obox_at {cl : Cell} {K dd : String} {w : Int32} {val : Int32 → Value} (B : Bxs Z a cl K dd w val) {j : Int32} (hj : ¬ (j < 0 ∨ cl.slots.size ≤ j.toNatClampNeg)) : cl.slots[j.toNatClampNeg]? = some (.ref (obox cl j)) ∧ Exa Z Z.heap (obox cl j) K ∧ Fld Z Z.heap (obox cl j) K "value" dd (val j) := by
  obtain ⟨b, h1, h2, h3⟩ := B.2.2.2 j hj
  have e : obox cl j = b := by unfold obox; rw [h1]
  rw [e]; exact ⟨h1, h2, h3⟩
theorem oNS.root {a0 : Array Value} {O K : String} {i : Nat} (w : (Cond.noSuperclass O).before a0 Z = true) (wk : (Cond.instantiable K i).before a0 Z = true) (hn : O ≠ K) : NS Z O K := by
  obtain ⟨c, k, h1, h2, h3, -, -⟩ := Cond.noSuperclass_spec w
  obtain ⟨t, kt, g1, -⟩ := Cond.instantiable_spec wk
  have ne := ids_ne h1 g1 hn
  refine ⟨c, t, h1, g1, fun fuel => ?_⟩
  cases fuel with
  | zero => rfl
  | succ f => simp [Vm.isSubclassAux, ne, h2, h3]
theorem oNS.no {a0 : Array Value} {C S K : String} {i : Nat} (w : (Cond.superclass C S).before a0 Z = true) (wk : (Cond.instantiable K i).before a0 Z = true) (q : NS Z C K) (hn : C ≠ K) : ∃ c t, Z.vm.findClass C = some c ∧ Z.vm.findClass K = some t ∧ Z.vm.assignable c t = false := by
  obtain ⟨c, t, h0, g0, n3⟩ := q
  obtain ⟨p, k, kp, h1, h2, h3, h4, h5, -, h7⟩ := Cond.superclass_spec h0 w
  obtain ⟨t', k', g1, g2, g3, g4, -⟩ := Cond.instantiable_spec wk
  cases g0.symm.trans g1
  have ne := ids_ne h0 g0 hn
  have g7 : k'.isInterface = false := (Bool.or_eq_false_iff.mp g4).1
  refine ⟨c, t, h0, g0, ?_⟩
  show Z.vm.assignableAux (255 + 1) c t = false
  simp [Vm.assignableAux, ne, h2, g2, h5, g3, g7, Vm.isSubclass, n3]
end OwnFacts
theorem ow {Z : State} {a0 : Array Value} (hw : ∀ d ∈ tables_1, d.before a0 Z = true) (i : Nat) {d : Jvm.Cond} (h : tables_1[i]? = some d) : d.before a0 Z = true := hw _ (List.mem_of_getElem? h)
theorem own_rem5 (x : Int32) : ((x &&& (2147483647 : Int32)) % (5 : Int32)) = (0 : Int32) ∨ ((x &&& (2147483647 : Int32)) % (5 : Int32)) = (1 : Int32) ∨ ((x &&& (2147483647 : Int32)) % (5 : Int32)) = (2 : Int32) ∨ ((x &&& (2147483647 : Int32)) % (5 : Int32)) = (3 : Int32) ∨ ((x &&& (2147483647 : Int32)) % (5 : Int32)) = (4 : Int32) := by
  have e1 : (x &&& (2147483647 : Int32)).toInt = x.toInt % ((2 ^ 31 : Nat) : Int) := c_mask x 2147483647 31 (by decide) (by decide)
  have p : ((2 ^ 31 : Nat) : Int) = 2147483648 := rfl
  rw [p] at e1
  have e : ((x &&& (2147483647 : Int32)) % (5 : Int32)).toInt = (x &&& (2147483647 : Int32)).toInt % 5 := (c_irem (x &&& (2147483647 : Int32)) (5 : Int32) 5 (by decide)).1 (by omega)
  simp only [← Int32.toInt_inj, e]
  have : (0 : Int32).toInt = 0 ∧ (1 : Int32).toInt = 1 ∧ (2 : Int32).toInt = 2 ∧ (3 : Int32).toInt = 3 ∧ (4 : Int32).toInt = 4 := by decide
  omega
def Glob (Z : State) (w_PENDING : Addr) (w_RUNNING : Addr) (w_COMPLETED : Addr) (w_FAILED : Addr) (w_CANCELLED : Addr) : Prop := Sta Z Z.heap "com/example/hermit_crab/hermitcrab/JobState" "PENDING" "Lcom/example/hermit_crab/hermitcrab/JobState;" (.ref w_PENDING) ∧ Exa Z Z.heap w_PENDING "com/example/hermit_crab/hermitcrab/JobState" ∧ Sta Z Z.heap "com/example/hermit_crab/hermitcrab/JobState" "RUNNING" "Lcom/example/hermit_crab/hermitcrab/JobState;" (.ref w_RUNNING) ∧ Exa Z Z.heap w_RUNNING "com/example/hermit_crab/hermitcrab/JobState" ∧ Sta Z Z.heap "com/example/hermit_crab/hermitcrab/JobState" "COMPLETED" "Lcom/example/hermit_crab/hermitcrab/JobState;" (.ref w_COMPLETED) ∧ Exa Z Z.heap w_COMPLETED "com/example/hermit_crab/hermitcrab/JobState" ∧ Sta Z Z.heap "com/example/hermit_crab/hermitcrab/JobState" "FAILED" "Lcom/example/hermit_crab/hermitcrab/JobState;" (.ref w_FAILED) ∧ Exa Z Z.heap w_FAILED "com/example/hermit_crab/hermitcrab/JobState" ∧ Sta Z Z.heap "com/example/hermit_crab/hermitcrab/JobState" "CANCELLED" "Lcom/example/hermit_crab/hermitcrab/JobState;" (.ref w_CANCELLED) ∧ Exa Z Z.heap w_CANCELLED "com/example/hermit_crab/hermitcrab/JobState" ∧ Fld Z Z.heap w_PENDING "java/lang/Enum" "ordinal" "I" (.int (0 : Int32)) ∧ Fld Z Z.heap w_COMPLETED "java/lang/Enum" "ordinal" "I" (.int (2 : Int32)) ∧ Fld Z Z.heap w_FAILED "java/lang/Enum" "ordinal" "I" (.int (3 : Int32)) ∧ Fld Z Z.heap w_CANCELLED "java/lang/Enum" "ordinal" "I" (.int (4 : Int32)) ∧ Fld Z Z.heap w_RUNNING "java/lang/Enum" "ordinal" "I" (.int (1 : Int32))
theorem d1_0 : decode prog_6_method_4_code 0 = .ok (.aload_n 0, 1) := by decide +kernel
theorem d1_1 : decode prog_6_method_4_code 1 = .ok (.getstatic 10, 3) := by decide +kernel
theorem d1_4 : decode prog_6_method_4_code 4 = .ok (.if_acmp .eq 17, 3) := by decide +kernel
theorem d1_7 : decode prog_6_method_4_code 7 = .ok (.aload_n 0, 1) := by decide +kernel
theorem d1_8 : decode prog_6_method_4_code 8 = .ok (.getstatic 13, 3) := by decide +kernel
theorem d1_11 : decode prog_6_method_4_code 11 = .ok (.if_acmp .eq 10, 3) := by decide +kernel
theorem d1_14 : decode prog_6_method_4_code 14 = .ok (.aload_n 0, 1) := by decide +kernel
theorem d1_15 : decode prog_6_method_4_code 15 = .ok (.getstatic 16, 3) := by decide +kernel
theorem d1_18 : decode prog_6_method_4_code 18 = .ok (.if_acmp .ne 7, 3) := by decide +kernel
theorem d1_25 : decode prog_6_method_4_code 25 = .ok (.iconst 0, 1) := by decide +kernel
theorem d1_26 : decode prog_6_method_4_code 26 = .ok (.ireturn, 1) := by decide +kernel
theorem pn_com_example_hermit_crab_hermitcrab_JobState : plainName "com/example/hermit_crab/hermitcrab/JobState" = true := by first | (simp [plainName, overriddenIn]; done) | decide +kernel
def Q1 (Z : State) (w_PENDING : Addr) (w_RUNNING : Addr) (w_COMPLETED : Addr) (w_FAILED : Addr) (w_CANCELLED : Addr)  (h0 : Heap) (n0 : Nat) (v : Option Value) (h : Heap) (L : List Loc) : Prop := v = some (.int (0 : Int32)) ∧ Fr n0 L ∧ h = h0
theorem ef1 (m : MethodId) (x0 : Addr) : entryFrame m #[(.ref x0)] 1 = mkF m 0 #[.val (.ref x0)] [] := by first | (simp [entryFrame, mkF, argsToLocals, Value.category]; done) | rfl
set_option maxRecDepth 65536 in
set_option maxHeartbeats 40000000 in
theorem rm1 (l : Launch) (Z : State) (a0 : Array Value) (hw : ∀ d ∈ tables_1, d.before a0 Z = true) (ws : List Jvm.Cond) {w_PENDING : Addr} {w_RUNNING : Addr} {w_COMPLETED : Addr} {w_FAILED : Addr} {w_CANCELLED : Addr} (G : Glob Z w_PENDING w_RUNNING w_COMPLETED w_FAILED w_CANCELLED)  (h0 : Heap) (n0 : Nat) (O0 : Old Z n0 h0) :
    MetFree l (⟨"com/example/hermit_crab/hermitcrab/JobState", "isFinal", "()Z"⟩ : MethodName) (head1 (Jvm.Cond.code (⟨"com/example/hermit_crab/hermitcrab/JobState", "isFinal", "()Z"⟩ : MethodName) prog_6_method_4_code 1 (some .boolean) :: ws) ({ frames := 0, cells := 0, slots := 0, locals := 0 } : Room)) (fun a U => a = #[(.ref w_PENDING)] ∧ Z.Warmed39 U.vm ∧ U.heap = h0) (fun _ _ _ _ _ => True) (fun _ U o U' => ∃ v L, o = .returned v ∧ Q1 Z w_PENDING w_RUNNING w_COMPLETED w_FAILED w_CANCELLED  h0 n0 v U'.heap L ∧ FrameEnd U o U' L ({ frames := 0, cells := 0, slots := 0, locals := 0 } : Room).cells ({ frames := 0, cells := 0, slots := 0, locals := 0 } : Room).slots) := by
  refine MetFree.of_bodySF (plainFor_of_name pn_com_example_hermit_crab_hermitcrab_JobState) hisR ?_
  intro p e s m args below meth c s₁ Bd hml0 hP hK
  obtain ⟨rfl, hZ, hh⟩ := hP
  have hx := Bd.exec
  have hby := Bd.bytes
  have hml : c.maxLocals = 1 := hml0
  have hown : s.vm.findClass "com/example/hermit_crab/hermitcrab/JobState" = some m.cls := findClass_of_methodNamed Bd.named
  have hnm := (name_of_methodNamed Bd.named Bd.method).1
  have X0 : Stand p l e ({ frames := 0, cells := 0, slots := 0, locals := 0 } : Room) s m #[(.ref w_PENDING)] below meth c s₁ [] 0 0 := Stand.of_body Bd
  have e0 : s₁.heap = h0 := by rw [← hh, Bd.state]; rfl
  have N0 := Fr.nil n0
  show OGot p.tables e below (s₁.setTop (entryFrame m #[(.ref w_PENDING)] 1)) _
  refine OGot.go (fun t k => castTop (ef1 m w_PENDING) k) ?_
  show OGot p.tables e below (s₁.setTop (mkF m 0 #[.val (.ref w_PENDING)] [])) _
  refine OGot.go (fun t k => XS.aloadN X0.here hx rfl (hb hby d1_0) rfl rfl k) ?_
  show OGot p.tables e below (s₁.setTop (mkF m 1 #[.val (.ref w_PENDING)] [(.ref w_PENDING)])) _
  obtain ⟨T2, X2, e2, st2⟩ := getS2 X0 hx hZ hown (host := "") (Or.inl (ow hw 20 rfl)) Via.refl e0 (G.2.2.2.2.1.ext O0.2) (g := (mkF m 1 #[.val (.ref w_PENDING)] [(.ref w_PENDING)])) rfl (hb hby d1_1)
  refine OGot.go st2 ?_
  show OGot p.tables e below (T2.setTop (mkF m 4 #[.val (.ref w_PENDING)] [(.ref w_COMPLETED), (.ref w_PENDING)])) _
  have ne3 : w_PENDING ≠ w_COMPLETED := (Fld.ne G.2.2.2.2.2.2.2.2.2.2.1 G.2.2.2.2.2.2.2.2.2.2.2.1 (by decide))
  refine OGot.go (fun t k => Jvm.RoadKit.acmp (g := (mkF m 4 #[.val (.ref w_PENDING)] [(.ref w_COMPLETED), (.ref w_PENDING)])) X2 hx rfl rfl rfl (pc0 := 4) (pc' := 7) (same := false) rfl (hb hby d1_4) rfl (decide_eq_false fun q => ne3 (Value.ref.inj q)) (by decide) (by decide) k) ?_
  show OGot p.tables e below (T2.setTop (mkF m 7 #[.val (.ref w_PENDING)] [])) _
  refine OGot.go (fun t k => XS.aloadN X2.here hx rfl (hb hby d1_7) rfl rfl k) ?_
  show OGot p.tables e below (T2.setTop (mkF m 8 #[.val (.ref w_PENDING)] [(.ref w_PENDING)])) _
  obtain ⟨T4, X4, e4, st4⟩ := getS2 X2 hx hZ hown (host := "") (Or.inl (ow hw 21 rfl)) Via.refl e2 (G.2.2.2.2.2.2.1.ext O0.2) (g := (mkF m 8 #[.val (.ref w_PENDING)] [(.ref w_PENDING)])) rfl (hb hby d1_8)
  refine OGot.go st4 ?_
  show OGot p.tables e below (T4.setTop (mkF m 11 #[.val (.ref w_PENDING)] [(.ref w_FAILED), (.ref w_PENDING)])) _
  have ne5 : w_PENDING ≠ w_FAILED := (Fld.ne G.2.2.2.2.2.2.2.2.2.2.1 G.2.2.2.2.2.2.2.2.2.2.2.2.1 (by decide))
  refine OGot.go (fun t k => Jvm.RoadKit.acmp (g := (mkF m 11 #[.val (.ref w_PENDING)] [(.ref w_FAILED), (.ref w_PENDING)])) X4 hx rfl rfl rfl (pc0 := 11) (pc' := 14) (same := false) rfl (hb hby d1_11) rfl (decide_eq_false fun q => ne5 (Value.ref.inj q)) (by decide) (by decide) k) ?_
  show OGot p.tables e below (T4.setTop (mkF m 14 #[.val (.ref w_PENDING)] [])) _
  refine OGot.go (fun t k => XS.aloadN X4.here hx rfl (hb hby d1_14) rfl rfl k) ?_
  show OGot p.tables e below (T4.setTop (mkF m 15 #[.val (.ref w_PENDING)] [(.ref w_PENDING)])) _
  obtain ⟨T6, X6, e6, st6⟩ := getS2 X4 hx hZ hown (host := "") (Or.inl (ow hw 22 rfl)) Via.refl e4 (G.2.2.2.2.2.2.2.2.1.ext O0.2) (g := (mkF m 15 #[.val (.ref w_PENDING)] [(.ref w_PENDING)])) rfl (hb hby d1_15)
  refine OGot.go st6 ?_
  show OGot p.tables e below (T6.setTop (mkF m 18 #[.val (.ref w_PENDING)] [(.ref w_CANCELLED), (.ref w_PENDING)])) _
  have ne7 : w_PENDING ≠ w_CANCELLED := (Fld.ne G.2.2.2.2.2.2.2.2.2.2.1 G.2.2.2.2.2.2.2.2.2.2.2.2.2.1 (by decide))
  refine OGot.go (fun t k => Jvm.RoadKit.acmp (g := (mkF m 18 #[.val (.ref w_PENDING)] [(.ref w_CANCELLED), (.ref w_PENDING)])) X6 hx rfl rfl rfl (pc0 := 18) (pc' := 25) (same := false) rfl (hb hby d1_18) rfl (decide_eq_false fun q => ne7 (Value.ref.inj q)) (by decide) (by decide) k) ?_
  show OGot p.tables e below (T6.setTop (mkF m 25 #[.val (.ref w_PENDING)] [])) _
  refine OGot.go (fun t k => XS.iconst X6.here hx rfl (hb hby d1_25) k) ?_
  show OGot p.tables e below (T6.setTop (mkF m 26 #[.val (.ref w_PENDING)] [(.int (0 : Int32))])) _
  obtain ⟨fs, hr, hrun, hended, hW, hsame⟩ := X6.leave (v := some (.int (0 : Int32))) (fun h => by rw [Bd.returns] at h; cases h)
  refine ⟨_, _, retN X6 hx (t := .boolean) Bd.returns (by simp) (hb hby d1_26) hr, hrun, hended, _, _, rfl, ?_, ⟨_, rfl⟩, hW, hsame.mono (by decide) (by decide)⟩
  exact (⟨rfl, N0, e6⟩ : Q1 Z w_PENDING w_RUNNING w_COMPLETED w_FAILED w_CANCELLED  h0 n0 _ T6.heap _)
theorem pd_0 : parseMethodDescriptor "()Z" = some ⟨[], some .boolean⟩ := by decide +kernel
def Q1_1 (Z : State) (w_PENDING : Addr) (w_RUNNING : Addr) (w_COMPLETED : Addr) (w_FAILED : Addr) (w_CANCELLED : Addr)  (h0 : Heap) (n0 : Nat) (v : Option Value) (h : Heap) (L : List Loc) : Prop := v = some (.int (0 : Int32)) ∧ Fr n0 L ∧ h = h0
theorem ef1_1 (m : MethodId) (x0 : Addr) : entryFrame m #[(.ref x0)] 1 = mkF m 0 #[.val (.ref x0)] [] := by first | (simp [entryFrame, mkF, argsToLocals, Value.category]; done) | rfl
set_option maxRecDepth 65536 in
set_option maxHeartbeats 40000000 in
theorem rm1_1 (l : Launch) (Z : State) (a0 : Array Value) (hw : ∀ d ∈ tables_1, d.before a0 Z = true) (ws : List Jvm.Cond) {w_PENDING : Addr} {w_RUNNING : Addr} {w_COMPLETED : Addr} {w_FAILED : Addr} {w_CANCELLED : Addr} (G : Glob Z w_PENDING w_RUNNING w_COMPLETED w_FAILED w_CANCELLED)  (h0 : Heap) (n0 : Nat) (O0 : Old Z n0 h0) :
    MetFree l (⟨"com/example/hermit_crab/hermitcrab/JobState", "isFinal", "()Z"⟩ : MethodName) (head1 (Jvm.Cond.code (⟨"com/example/hermit_crab/hermitcrab/JobState", "isFinal", "()Z"⟩ : MethodName) prog_6_method_4_code 1 (some .boolean) :: ws) ({ frames := 0, cells := 0, slots := 0, locals := 0 } : Room)) (fun a U => a = #[(.ref w_RUNNING)] ∧ Z.Warmed39 U.vm ∧ U.heap = h0) (fun _ _ _ _ _ => True) (fun _ U o U' => ∃ v L, o = .returned v ∧ Q1_1 Z w_PENDING w_RUNNING w_COMPLETED w_FAILED w_CANCELLED  h0 n0 v U'.heap L ∧ FrameEnd U o U' L ({ frames := 0, cells := 0, slots := 0, locals := 0 } : Room).cells ({ frames := 0, cells := 0, slots := 0, locals := 0 } : Room).slots) := by
  refine MetFree.of_bodySF (plainFor_of_name pn_com_example_hermit_crab_hermitcrab_JobState) hisR ?_
  intro p e s m args below meth c s₁ Bd hml0 hP hK
  obtain ⟨rfl, hZ, hh⟩ := hP
  have hx := Bd.exec
  have hby := Bd.bytes
  have hml : c.maxLocals = 1 := hml0
  have hown : s.vm.findClass "com/example/hermit_crab/hermitcrab/JobState" = some m.cls := findClass_of_methodNamed Bd.named
  have hnm := (name_of_methodNamed Bd.named Bd.method).1
  have X0 : Stand p l e ({ frames := 0, cells := 0, slots := 0, locals := 0 } : Room) s m #[(.ref w_RUNNING)] below meth c s₁ [] 0 0 := Stand.of_body Bd
  have e0 : s₁.heap = h0 := by rw [← hh, Bd.state]; rfl
  have N0 := Fr.nil n0
  show OGot p.tables e below (s₁.setTop (entryFrame m #[(.ref w_RUNNING)] 1)) _
  refine OGot.go (fun t k => castTop (ef1_1 m w_RUNNING) k) ?_
  show OGot p.tables e below (s₁.setTop (mkF m 0 #[.val (.ref w_RUNNING)] [])) _
  refine OGot.go (fun t k => XS.aloadN X0.here hx rfl (hb hby d1_0) rfl rfl k) ?_
  show OGot p.tables e below (s₁.setTop (mkF m 1 #[.val (.ref w_RUNNING)] [(.ref w_RUNNING)])) _
  obtain ⟨T2, X2, e2, st2⟩ := getS2 X0 hx hZ hown (host := "") (Or.inl (ow hw 20 rfl)) Via.refl e0 (G.2.2.2.2.1.ext O0.2) (g := (mkF m 1 #[.val (.ref w_RUNNING)] [(.ref w_RUNNING)])) rfl (hb hby d1_1)
  refine OGot.go st2 ?_
  show OGot p.tables e below (T2.setTop (mkF m 4 #[.val (.ref w_RUNNING)] [(.ref w_COMPLETED), (.ref w_RUNNING)])) _
  have ne3 : w_RUNNING ≠ w_COMPLETED := (Fld.ne G.2.2.2.2.2.2.2.2.2.2.2.2.2.2 G.2.2.2.2.2.2.2.2.2.2.2.1 (by decide))
  refine OGot.go (fun t k => Jvm.RoadKit.acmp (g := (mkF m 4 #[.val (.ref w_RUNNING)] [(.ref w_COMPLETED), (.ref w_RUNNING)])) X2 hx rfl rfl rfl (pc0 := 4) (pc' := 7) (same := false) rfl (hb hby d1_4) rfl (decide_eq_false fun q => ne3 (Value.ref.inj q)) (by decide) (by decide) k) ?_
  show OGot p.tables e below (T2.setTop (mkF m 7 #[.val (.ref w_RUNNING)] [])) _
  refine OGot.go (fun t k => XS.aloadN X2.here hx rfl (hb hby d1_7) rfl rfl k) ?_
  show OGot p.tables e below (T2.setTop (mkF m 8 #[.val (.ref w_RUNNING)] [(.ref w_RUNNING)])) _
  obtain ⟨T4, X4, e4, st4⟩ := getS2 X2 hx hZ hown (host := "") (Or.inl (ow hw 21 rfl)) Via.refl e2 (G.2.2.2.2.2.2.1.ext O0.2) (g := (mkF m 8 #[.val (.ref w_RUNNING)] [(.ref w_RUNNING)])) rfl (hb hby d1_8)
  refine OGot.go st4 ?_
  show OGot p.tables e below (T4.setTop (mkF m 11 #[.val (.ref w_RUNNING)] [(.ref w_FAILED), (.ref w_RUNNING)])) _
  have ne5 : w_RUNNING ≠ w_FAILED := (Fld.ne G.2.2.2.2.2.2.2.2.2.2.2.2.2.2 G.2.2.2.2.2.2.2.2.2.2.2.2.1 (by decide))
  refine OGot.go (fun t k => Jvm.RoadKit.acmp (g := (mkF m 11 #[.val (.ref w_RUNNING)] [(.ref w_FAILED), (.ref w_RUNNING)])) X4 hx rfl rfl rfl (pc0 := 11) (pc' := 14) (same := false) rfl (hb hby d1_11) rfl (decide_eq_false fun q => ne5 (Value.ref.inj q)) (by decide) (by decide) k) ?_
  show OGot p.tables e below (T4.setTop (mkF m 14 #[.val (.ref w_RUNNING)] [])) _
  refine OGot.go (fun t k => XS.aloadN X4.here hx rfl (hb hby d1_14) rfl rfl k) ?_
  show OGot p.tables e below (T4.setTop (mkF m 15 #[.val (.ref w_RUNNING)] [(.ref w_RUNNING)])) _
  obtain ⟨T6, X6, e6, st6⟩ := getS2 X4 hx hZ hown (host := "") (Or.inl (ow hw 22 rfl)) Via.refl e4 (G.2.2.2.2.2.2.2.2.1.ext O0.2) (g := (mkF m 15 #[.val (.ref w_RUNNING)] [(.ref w_RUNNING)])) rfl (hb hby d1_15)
  refine OGot.go st6 ?_
  show OGot p.tables e below (T6.setTop (mkF m 18 #[.val (.ref w_RUNNING)] [(.ref w_CANCELLED), (.ref w_RUNNING)])) _
  have ne7 : w_RUNNING ≠ w_CANCELLED := (Fld.ne G.2.2.2.2.2.2.2.2.2.2.2.2.2.2 G.2.2.2.2.2.2.2.2.2.2.2.2.2.1 (by decide))
  refine OGot.go (fun t k => Jvm.RoadKit.acmp (g := (mkF m 18 #[.val (.ref w_RUNNING)] [(.ref w_CANCELLED), (.ref w_RUNNING)])) X6 hx rfl rfl rfl (pc0 := 18) (pc' := 25) (same := false) rfl (hb hby d1_18) rfl (decide_eq_false fun q => ne7 (Value.ref.inj q)) (by decide) (by decide) k) ?_
  show OGot p.tables e below (T6.setTop (mkF m 25 #[.val (.ref w_RUNNING)] [])) _
  refine OGot.go (fun t k => XS.iconst X6.here hx rfl (hb hby d1_25) k) ?_
  show OGot p.tables e below (T6.setTop (mkF m 26 #[.val (.ref w_RUNNING)] [(.int (0 : Int32))])) _
  obtain ⟨fs, hr, hrun, hended, hW, hsame⟩ := X6.leave (v := some (.int (0 : Int32))) (fun h => by rw [Bd.returns] at h; cases h)
  refine ⟨_, _, retN X6 hx (t := .boolean) Bd.returns (by simp) (hb hby d1_26) hr, hrun, hended, _, _, rfl, ?_, ⟨_, rfl⟩, hW, hsame.mono (by decide) (by decide)⟩
  exact (⟨rfl, N0, e6⟩ : Q1_1 Z w_PENDING w_RUNNING w_COMPLETED w_FAILED w_CANCELLED  h0 n0 _ T6.heap _)
theorem d1_21 : decode prog_6_method_4_code 21 = .ok (.iconst 1, 1) := by decide +kernel
theorem d1_22 : decode prog_6_method_4_code 22 = .ok (.goto 4, 3) := by decide +kernel
def Q1_2 (Z : State) (w_PENDING : Addr) (w_RUNNING : Addr) (w_COMPLETED : Addr) (w_FAILED : Addr) (w_CANCELLED : Addr)  (h0 : Heap) (n0 : Nat) (v : Option Value) (h : Heap) (L : List Loc) : Prop := v = some (.int (1 : Int32)) ∧ Fr n0 L ∧ h = h0
theorem ef1_2 (m : MethodId) (x0 : Addr) : entryFrame m #[(.ref x0)] 1 = mkF m 0 #[.val (.ref x0)] [] := by first | (simp [entryFrame, mkF, argsToLocals, Value.category]; done) | rfl
set_option maxRecDepth 65536 in
set_option maxHeartbeats 40000000 in
theorem rm1_2 (l : Launch) (Z : State) (a0 : Array Value) (hw : ∀ d ∈ tables_1, d.before a0 Z = true) (ws : List Jvm.Cond) {w_PENDING : Addr} {w_RUNNING : Addr} {w_COMPLETED : Addr} {w_FAILED : Addr} {w_CANCELLED : Addr} (G : Glob Z w_PENDING w_RUNNING w_COMPLETED w_FAILED w_CANCELLED)  (h0 : Heap) (n0 : Nat) (O0 : Old Z n0 h0) :
    MetFree l (⟨"com/example/hermit_crab/hermitcrab/JobState", "isFinal", "()Z"⟩ : MethodName) (head1 (Jvm.Cond.code (⟨"com/example/hermit_crab/hermitcrab/JobState", "isFinal", "()Z"⟩ : MethodName) prog_6_method_4_code 1 (some .boolean) :: ws) ({ frames := 0, cells := 0, slots := 0, locals := 0 } : Room)) (fun a U => a = #[(.ref w_COMPLETED)] ∧ Z.Warmed39 U.vm ∧ U.heap = h0) (fun _ _ _ _ _ => True) (fun _ U o U' => ∃ v L, o = .returned v ∧ Q1_2 Z w_PENDING w_RUNNING w_COMPLETED w_FAILED w_CANCELLED  h0 n0 v U'.heap L ∧ FrameEnd U o U' L ({ frames := 0, cells := 0, slots := 0, locals := 0 } : Room).cells ({ frames := 0, cells := 0, slots := 0, locals := 0 } : Room).slots) := by
  refine MetFree.of_bodySF (plainFor_of_name pn_com_example_hermit_crab_hermitcrab_JobState) hisR ?_
  intro p e s m args below meth c s₁ Bd hml0 hP hK
  obtain ⟨rfl, hZ, hh⟩ := hP
  have hx := Bd.exec
  have hby := Bd.bytes
  have hml : c.maxLocals = 1 := hml0
  have hown : s.vm.findClass "com/example/hermit_crab/hermitcrab/JobState" = some m.cls := findClass_of_methodNamed Bd.named
  have hnm := (name_of_methodNamed Bd.named Bd.method).1
  have X0 : Stand p l e ({ frames := 0, cells := 0, slots := 0, locals := 0 } : Room) s m #[(.ref w_COMPLETED)] below meth c s₁ [] 0 0 := Stand.of_body Bd
  have e0 : s₁.heap = h0 := by rw [← hh, Bd.state]; rfl
  have N0 := Fr.nil n0
  show OGot p.tables e below (s₁.setTop (entryFrame m #[(.ref w_COMPLETED)] 1)) _
  refine OGot.go (fun t k => castTop (ef1_2 m w_COMPLETED) k) ?_
  show OGot p.tables e below (s₁.setTop (mkF m 0 #[.val (.ref w_COMPLETED)] [])) _
  refine OGot.go (fun t k => XS.aloadN X0.here hx rfl (hb hby d1_0) rfl rfl k) ?_
  show OGot p.tables e below (s₁.setTop (mkF m 1 #[.val (.ref w_COMPLETED)] [(.ref w_COMPLETED)])) _
  obtain ⟨T2, X2, e2, st2⟩ := getS2 X0 hx hZ hown (host := "") (Or.inl (ow hw 20 rfl)) Via.refl e0 (G.2.2.2.2.1.ext O0.2) (g := (mkF m 1 #[.val (.ref w_COMPLETED)] [(.ref w_COMPLETED)])) rfl (hb hby d1_1)
  refine OGot.go st2 ?_
  show OGot p.tables e below (T2.setTop (mkF m 4 #[.val (.ref w_COMPLETED)] [(.ref w_COMPLETED), (.ref w_COMPLETED)])) _
  refine OGot.go (fun t k => Jvm.RoadKit.acmp (g := (mkF m 4 #[.val (.ref w_COMPLETED)] [(.ref w_COMPLETED), (.ref w_COMPLETED)])) X2 hx rfl rfl rfl (pc0 := 4) (pc' := 21) (same := true) rfl (hb hby d1_4) rfl (decide_eq_true rfl) (by decide) (by decide) k) ?_
  show OGot p.tables e below (T2.setTop (mkF m 21 #[.val (.ref w_COMPLETED)] [])) _
  refine OGot.go (fun t k => XS.iconst X2.here hx rfl (hb hby d1_21) k) ?_
  show OGot p.tables e below (T2.setTop (mkF m 22 #[.val (.ref w_COMPLETED)] [(.int (1 : Int32))])) _
  refine OGot.go (fun t k => XS.goto X2.here hx rfl (pc0 := 22) (pc' := 26) rfl (hb hby d1_22) (by decide) (by decide) k) ?_
  show OGot p.tables e below (T2.setTop (mkF m 26 #[.val (.ref w_COMPLETED)] [(.int (1 : Int32))])) _
  obtain ⟨fs, hr, hrun, hended, hW, hsame⟩ := X2.leave (v := some (.int (1 : Int32))) (fun h => by rw [Bd.returns] at h; cases h)
  refine ⟨_, _, retN X2 hx (t := .boolean) Bd.returns (by simp) (hb hby d1_26) hr, hrun, hended, _, _, rfl, ?_, ⟨_, rfl⟩, hW, hsame.mono (by decide) (by decide)⟩
  exact (⟨rfl, N0, e2⟩ : Q1_2 Z w_PENDING w_RUNNING w_COMPLETED w_FAILED w_CANCELLED  h0 n0 _ T2.heap _)
theorem d2_0 : decode prog_6_method_5_code 0 = .ok (.aload_n 0, 1) := by decide +kernel
theorem d2_1 : decode prog_6_method_5_code 1 = .ok (.invokevirtual 38, 3) := by decide +kernel
theorem d3_0 : decode jdk_37_method_2_code 0 = .ok (.aload_n 0, 1) := by decide +kernel
theorem d3_1 : decode jdk_37_method_2_code 1 = .ok (.getfield 7, 3) := by decide +kernel
theorem d3_4 : decode jdk_37_method_2_code 4 = .ok (.ireturn, 1) := by decide +kernel
theorem pn_java_lang_Enum : plainName "java/lang/Enum" = true := by first | (simp [plainName, overriddenIn]; done) | decide +kernel
def Q3 (Z : State) (w_PENDING : Addr) (w_RUNNING : Addr) (w_COMPLETED : Addr) (w_FAILED : Addr) (w_CANCELLED : Addr)  (h0 : Heap) (n0 : Nat) (v : Option Value) (h : Heap) (L : List Loc) : Prop := v = some (.int (2 : Int32)) ∧ Fr n0 L ∧ h = h0
theorem ef3 (m : MethodId) (x0 : Addr) : entryFrame m #[(.ref x0)] 1 = mkF m 0 #[.val (.ref x0)] [] := by first | (simp [entryFrame, mkF, argsToLocals, Value.category]; done) | rfl
set_option maxRecDepth 65536 in
set_option maxHeartbeats 40000000 in
theorem rm3 (l : Launch) (Z : State) (a0 : Array Value) (hw : ∀ d ∈ tables_1, d.before a0 Z = true) (ws : List Jvm.Cond) {w_PENDING : Addr} {w_RUNNING : Addr} {w_COMPLETED : Addr} {w_FAILED : Addr} {w_CANCELLED : Addr} (G : Glob Z w_PENDING w_RUNNING w_COMPLETED w_FAILED w_CANCELLED)  (h0 : Heap) (n0 : Nat) (O0 : Old Z n0 h0) :
    MetFree l (⟨"java/lang/Enum", "ordinal", "()I"⟩ : MethodName) (head1 (Jvm.Cond.code (⟨"java/lang/Enum", "ordinal", "()I"⟩ : MethodName) jdk_37_method_2_code 1 (some .int) :: ws) ({ frames := 0, cells := 0, slots := 0, locals := 0 } : Room)) (fun a U => a = #[(.ref w_COMPLETED)] ∧ Z.Warmed39 U.vm ∧ U.heap = h0) (fun _ _ _ _ _ => True) (fun _ U o U' => ∃ v L, o = .returned v ∧ Q3 Z w_PENDING w_RUNNING w_COMPLETED w_FAILED w_CANCELLED  h0 n0 v U'.heap L ∧ FrameEnd U o U' L ({ frames := 0, cells := 0, slots := 0, locals := 0 } : Room).cells ({ frames := 0, cells := 0, slots := 0, locals := 0 } : Room).slots) := by
  refine MetFree.of_bodySF (plainFor_of_name pn_java_lang_Enum) hisR ?_
  intro p e s m args below meth c s₁ Bd hml0 hP hK
  obtain ⟨rfl, hZ, hh⟩ := hP
  have hx := Bd.exec
  have hby := Bd.bytes
  have hml : c.maxLocals = 1 := hml0
  have hown : s.vm.findClass "java/lang/Enum" = some m.cls := findClass_of_methodNamed Bd.named
  have hnm := (name_of_methodNamed Bd.named Bd.method).1
  have X0 : Stand p l e ({ frames := 0, cells := 0, slots := 0, locals := 0 } : Room) s m #[(.ref w_COMPLETED)] below meth c s₁ [] 0 0 := Stand.of_body Bd
  have e0 : s₁.heap = h0 := by rw [← hh, Bd.state]; rfl
  have N0 := Fr.nil n0
  show OGot p.tables e below (s₁.setTop (entryFrame m #[(.ref w_COMPLETED)] 1)) _
  refine OGot.go (fun t k => castTop (ef3 m w_COMPLETED) k) ?_
  show OGot p.tables e below (s₁.setTop (mkF m 0 #[.val (.ref w_COMPLETED)] [])) _
  refine OGot.go (fun t k => XS.aloadN X0.here hx rfl (hb hby d3_0) rfl rfl k) ?_
  show OGot p.tables e below (s₁.setTop (mkF m 1 #[.val (.ref w_COMPLETED)] [(.ref w_COMPLETED)])) _
  obtain ⟨T2, X2, e2, st2⟩ := getF X0 hx hZ hown (host := "") (Or.inl (ow hw 35 rfl)) Via.refl e0 (G.2.2.2.2.2.2.2.2.2.2.2.1.ext O0.2) (g := (mkF m 1 #[.val (.ref w_COMPLETED)] [(.ref w_COMPLETED)])) rfl rfl (hb hby d3_1)
  refine OGot.go st2 ?_
  show OGot p.tables e below (T2.setTop (mkF m 4 #[.val (.ref w_COMPLETED)] [(.int (2 : Int32))])) _
  obtain ⟨fs, hr, hrun, hended, hW, hsame⟩ := X2.leave (v := some (.int (2 : Int32))) (fun h => by rw [Bd.returns] at h; cases h)
  refine ⟨_, _, retI X2 hx Bd.returns (hb hby d3_4) hr, hrun, hended, _, _, rfl, ?_, ⟨_, rfl⟩, hW, hsame.mono (by decide) (by decide)⟩
  exact (⟨rfl, N0, e2⟩ : Q3 Z w_PENDING w_RUNNING w_COMPLETED w_FAILED w_CANCELLED  h0 n0 _ T2.heap _)
theorem pd_1 : parseMethodDescriptor "()I" = some ⟨[], some .int⟩ := by decide +kernel
theorem d2_4 : decode prog_6_method_5_code 4 = .ok (.tableswitch 36 0 4 #[46, 68, 112, 97, 112], 36) := by decide +kernel
theorem d2_116 : decode prog_6_method_5_code 116 = .ok (.iconst 0, 1) := by decide +kernel
theorem d2_117 : decode prog_6_method_5_code 117 = .ok (.ireturn, 1) := by decide +kernel
def Q2 (Z : State) (w_PENDING : Addr) (w_RUNNING : Addr) (w_COMPLETED : Addr) (w_FAILED : Addr) (w_CANCELLED : Addr)  (h0 : Heap) (n0 : Nat) (v : Option Value) (h : Heap) (L : List Loc) : Prop := v = some (.int (0 : Int32)) ∧ Fr n0 L ∧ h = h0
theorem ef2 (m : MethodId) (x0 : Addr) (x1 : Addr) : entryFrame m #[(.ref x0), (.ref x1)] 2 = mkF m 0 #[.val (.ref x0), .val (.ref x1)] [] := by first | (simp [entryFrame, mkF, argsToLocals, Value.category]; done) | rfl
set_option maxRecDepth 65536 in
set_option maxHeartbeats 40000000 in
theorem rm2 (l : Launch) (Z : State) (a0 : Array Value) (hw : ∀ d ∈ tables_1, d.before a0 Z = true) (ws : List Jvm.Cond) {w_PENDING : Addr} {w_RUNNING : Addr} {w_COMPLETED : Addr} {w_FAILED : Addr} {w_CANCELLED : Addr} (G : Glob Z w_PENDING w_RUNNING w_COMPLETED w_FAILED w_CANCELLED)  (h0 : Heap) (n0 : Nat) (O0 : Old Z n0 h0) :
    MetFree l (⟨"com/example/hermit_crab/hermitcrab/JobState", "canMoveTo", "(Lcom/example/hermit_crab/hermitcrab/JobState;)Z"⟩ : MethodName) (head1 (Jvm.Cond.code (⟨"com/example/hermit_crab/hermitcrab/JobState", "canMoveTo", "(Lcom/example/hermit_crab/hermitcrab/JobState;)Z"⟩ : MethodName) prog_6_method_5_code 2 (some .boolean) :: ws) ({ frames := 1, cells := 0, slots := 0, locals := 12 } : Room)) (fun a U => a = #[(.ref w_COMPLETED), (.ref w_PENDING)] ∧ Z.Warmed39 U.vm ∧ U.heap = h0) (fun _ _ _ _ _ => True) (fun _ U o U' => ∃ v L, o = .returned v ∧ Q2 Z w_PENDING w_RUNNING w_COMPLETED w_FAILED w_CANCELLED  h0 n0 v U'.heap L ∧ FrameEnd U o U' L ({ frames := 1, cells := 0, slots := 0, locals := 12 } : Room).cells ({ frames := 1, cells := 0, slots := 0, locals := 12 } : Room).slots) := by
  refine MetFree.of_bodySF (plainFor_of_name pn_com_example_hermit_crab_hermitcrab_JobState) hisR ?_
  intro p e s m args below meth c s₁ Bd hml0 hP hK
  obtain ⟨rfl, hZ, hh⟩ := hP
  have hx := Bd.exec
  have hby := Bd.bytes
  have hml : c.maxLocals = 2 := hml0
  have hown : s.vm.findClass "com/example/hermit_crab/hermitcrab/JobState" = some m.cls := findClass_of_methodNamed Bd.named
  have hnm := (name_of_methodNamed Bd.named Bd.method).1
  have X0 : Stand p l e ({ frames := 1, cells := 0, slots := 0, locals := 12 } : Room) s m #[(.ref w_COMPLETED), (.ref w_PENDING)] below meth c s₁ [] 0 0 := Stand.of_body Bd
  have e0 : s₁.heap = h0 := by rw [← hh, Bd.state]; rfl
  have N0 := Fr.nil n0
  show OGot p.tables e below (s₁.setTop (entryFrame m #[(.ref w_COMPLETED), (.ref w_PENDING)] 2)) _
  refine OGot.go (fun t k => castTop (ef2 m w_COMPLETED w_PENDING) k) ?_
  show OGot p.tables e below (s₁.setTop (mkF m 0 #[.val (.ref w_COMPLETED), .val (.ref w_PENDING)] [])) _
  refine OGot.go (fun t k => XS.aloadN X0.here hx rfl (hb hby d2_0) rfl rfl k) ?_
  show OGot p.tables e below (s₁.setTop (mkF m 1 #[.val (.ref w_COMPLETED), .val (.ref w_PENDING)] [(.ref w_COMPLETED)])) _
  obtain ⟨cq3, kq3, q3a, q3b, q3c⟩ := isOf hZ e0 (G.2.2.2.2.2.1.ext O0.2)
  obtain ⟨_, _, ⟨T3, L3, k3, n3⟩, -, X3, ⟨Lc3, hQ3, l3, y3, z3⟩, st3⟩ := X0.virtualBackUp hx (x := (⟨"com/example/hermit_crab/hermitcrab/JobState", "ordinal", "()I"⟩ : MethodName)) (y := (⟨"java/lang/Enum", "ordinal", "()I"⟩ : MethodName)) (owner := "java/lang/Enum") hown (mvT hZ (ow hw 28 rfl)) (mvT hZ (ow hw 29 rfl)) (mvT hZ (ow hw 30 rfl)) (by decide) (mvT hZ (ow hw 32 rfl)) (mvT hZ (ow hw 31 rfl)) (backOf (W := 0) (rm3 l Z a0 hw [] G  h0 n0 O0 ) hZ (ow hw 34 rfl) (ow hw 33 rfl) (by decide) (by decide)) q3a q3c (g := (mkF m 1 #[.val (.ref w_COMPLETED), .val (.ref w_PENDING)] [(.ref w_COMPLETED)])) rfl (by rw [hml]; rfl) (Steps.refl _) (argsL := []) (rest := []) (lenOf pd_1 rfl) rfl (by show 2 * 0 + _ ≤ _; exact Nat.le_of_eq rfl) (hb hby d2_1) (fun _ _ => ⟨rfl, e0, (by decide : 0 + 0 ≤ _), (by decide : 0 + 0 ≤ _)⟩)
  dsimp only [Pt.U, Pt.locs, Pt.cells, Pt.slots] at X3 l3 y3 z3 st3 hQ3
  subst l3 y3 z3
  obtain ⟨rfl, N3q, e3⟩ := hQ3
  have N3 := Fr.app N0 N3q
  refine OGot.on st3 ?_
  show OGot p.tables e below (T3.setTop (mkF m 4 #[.val (.ref w_COMPLETED), .val (.ref w_PENDING)] [(.int (2 : Int32))])) _
  refine OGot.go (fun t k => XS.tswIn X3.here hx rfl (pc0 := 4) (pc' := 116) rfl (hb hby d2_4) rfl (by decide) (o := 112) (by decide) (by decide) (by decide) k) ?_
  show OGot p.tables e below (T3.setTop (mkF m 116 #[.val (.ref w_COMPLETED), .val (.ref w_PENDING)] [])) _
  refine OGot.go (fun t k => XS.iconst X3.here hx rfl (hb hby d2_116) k) ?_
  show OGot p.tables e below (T3.setTop (mkF m 117 #[.val (.ref w_COMPLETED), .val (.ref w_PENDING)] [(.int (0 : Int32))])) _
  obtain ⟨fs, hr, hrun, hended, hW, hsame⟩ := X3.leave (v := some (.int (0 : Int32))) (fun h => by rw [Bd.returns] at h; cases h)
  refine ⟨_, _, retN X3 hx (t := .boolean) Bd.returns (by simp) (hb hby d2_117) hr, hrun, hended, _, _, rfl, ?_, ⟨_, rfl⟩, hW, hsame.mono (by decide) (by decide)⟩
  exact (⟨rfl, N3, e3⟩ : Q2 Z w_PENDING w_RUNNING w_COMPLETED w_FAILED w_CANCELLED  h0 n0 _ T3.heap _)
theorem pd_2 : parseMethodDescriptor "(Lcom/example/hermit_crab/hermitcrab/JobState;)Z" = some ⟨[(.object "com/example/hermit_crab/hermitcrab/JobState")], some .boolean⟩ := by decide +kernel
def Q2_1 (Z : State) (w_PENDING : Addr) (w_RUNNING : Addr) (w_COMPLETED : Addr) (w_FAILED : Addr) (w_CANCELLED : Addr)  (h0 : Heap) (n0 : Nat) (v : Option Value) (h : Heap) (L : List Loc) : Prop := v = some (.int (0 : Int32)) ∧ Fr n0 L ∧ h = h0
theorem ef2_1 (m : MethodId) (x0 : Addr) (x1 : Addr) : entryFrame m #[(.ref x0), (.ref x1)] 2 = mkF m 0 #[.val (.ref x0), .val (.ref x1)] [] := by first | (simp [entryFrame, mkF, argsToLocals, Value.category]; done) | rfl
set_option maxRecDepth 65536 in
set_option maxHeartbeats 40000000 in
theorem rm2_1 (l : Launch) (Z : State) (a0 : Array Value) (hw : ∀ d ∈ tables_1, d.before a0 Z = true) (ws : List Jvm.Cond) {w_PENDING : Addr} {w_RUNNING : Addr} {w_COMPLETED : Addr} {w_FAILED : Addr} {w_CANCELLED : Addr} (G : Glob Z w_PENDING w_RUNNING w_COMPLETED w_FAILED w_CANCELLED)  (h0 : Heap) (n0 : Nat) (O0 : Old Z n0 h0) :
    MetFree l (⟨"com/example/hermit_crab/hermitcrab/JobState", "canMoveTo", "(Lcom/example/hermit_crab/hermitcrab/JobState;)Z"⟩ : MethodName) (head1 (Jvm.Cond.code (⟨"com/example/hermit_crab/hermitcrab/JobState", "canMoveTo", "(Lcom/example/hermit_crab/hermitcrab/JobState;)Z"⟩ : MethodName) prog_6_method_5_code 2 (some .boolean) :: ws) ({ frames := 1, cells := 0, slots := 0, locals := 12 } : Room)) (fun a U => a = #[(.ref w_COMPLETED), (.ref w_RUNNING)] ∧ Z.Warmed39 U.vm ∧ U.heap = h0) (fun _ _ _ _ _ => True) (fun _ U o U' => ∃ v L, o = .returned v ∧ Q2_1 Z w_PENDING w_RUNNING w_COMPLETED w_FAILED w_CANCELLED  h0 n0 v U'.heap L ∧ FrameEnd U o U' L ({ frames := 1, cells := 0, slots := 0, locals := 12 } : Room).cells ({ frames := 1, cells := 0, slots := 0, locals := 12 } : Room).slots) := by
  refine MetFree.of_bodySF (plainFor_of_name pn_com_example_hermit_crab_hermitcrab_JobState) hisR ?_
  intro p e s m args below meth c s₁ Bd hml0 hP hK
  obtain ⟨rfl, hZ, hh⟩ := hP
  have hx := Bd.exec
  have hby := Bd.bytes
  have hml : c.maxLocals = 2 := hml0
  have hown : s.vm.findClass "com/example/hermit_crab/hermitcrab/JobState" = some m.cls := findClass_of_methodNamed Bd.named
  have hnm := (name_of_methodNamed Bd.named Bd.method).1
  have X0 : Stand p l e ({ frames := 1, cells := 0, slots := 0, locals := 12 } : Room) s m #[(.ref w_COMPLETED), (.ref w_RUNNING)] below meth c s₁ [] 0 0 := Stand.of_body Bd
  have e0 : s₁.heap = h0 := by rw [← hh, Bd.state]; rfl
  have N0 := Fr.nil n0
  show OGot p.tables e below (s₁.setTop (entryFrame m #[(.ref w_COMPLETED), (.ref w_RUNNING)] 2)) _
  refine OGot.go (fun t k => castTop (ef2_1 m w_COMPLETED w_RUNNING) k) ?_
  show OGot p.tables e below (s₁.setTop (mkF m 0 #[.val (.ref w_COMPLETED), .val (.ref w_RUNNING)] [])) _
  refine OGot.go (fun t k => XS.aloadN X0.here hx rfl (hb hby d2_0) rfl rfl k) ?_
  show OGot p.tables e below (s₁.setTop (mkF m 1 #[.val (.ref w_COMPLETED), .val (.ref w_RUNNING)] [(.ref w_COMPLETED)])) _
  obtain ⟨cq3, kq3, q3a, q3b, q3c⟩ := isOf hZ e0 (G.2.2.2.2.2.1.ext O0.2)
  obtain ⟨_, _, ⟨T3, L3, k3, n3⟩, -, X3, ⟨Lc3, hQ3, l3, y3, z3⟩, st3⟩ := X0.virtualBackUp hx (x := (⟨"com/example/hermit_crab/hermitcrab/JobState", "ordinal", "()I"⟩ : MethodName)) (y := (⟨"java/lang/Enum", "ordinal", "()I"⟩ : MethodName)) (owner := "java/lang/Enum") hown (mvT hZ (ow hw 28 rfl)) (mvT hZ (ow hw 29 rfl)) (mvT hZ (ow hw 30 rfl)) (by decide) (mvT hZ (ow hw 32 rfl)) (mvT hZ (ow hw 31 rfl)) (backOf (W := 0) (rm3 l Z a0 hw [] G  h0 n0 O0 ) hZ (ow hw 34 rfl) (ow hw 33 rfl) (by decide) (by decide)) q3a q3c (g := (mkF m 1 #[.val (.ref w_COMPLETED), .val (.ref w_RUNNING)] [(.ref w_COMPLETED)])) rfl (by rw [hml]; rfl) (Steps.refl _) (argsL := []) (rest := []) (lenOf pd_1 rfl) rfl (by show 2 * 0 + _ ≤ _; exact Nat.le_of_eq rfl) (hb hby d2_1) (fun _ _ => ⟨rfl, e0, (by decide : 0 + 0 ≤ _), (by decide : 0 + 0 ≤ _)⟩)
  dsimp only [Pt.U, Pt.locs, Pt.cells, Pt.slots] at X3 l3 y3 z3 st3 hQ3
  subst l3 y3 z3
  obtain ⟨rfl, N3q, e3⟩ := hQ3
  have N3 := Fr.app N0 N3q
  refine OGot.on st3 ?_
  show OGot p.tables e below (T3.setTop (mkF m 4 #[.val (.ref w_COMPLETED), .val (.ref w_RUNNING)] [(.int (2 : Int32))])) _
  refine OGot.go (fun t k => XS.tswIn X3.here hx rfl (pc0 := 4) (pc' := 116) rfl (hb hby d2_4) rfl (by decide) (o := 112) (by decide) (by decide) (by decide) k) ?_
  show OGot p.tables e below (T3.setTop (mkF m 116 #[.val (.ref w_COMPLETED), .val (.ref w_RUNNING)] [])) _
  refine OGot.go (fun t k => XS.iconst X3.here hx rfl (hb hby d2_116) k) ?_
  show OGot p.tables e below (T3.setTop (mkF m 117 #[.val (.ref w_COMPLETED), .val (.ref w_RUNNING)] [(.int (0 : Int32))])) _
  obtain ⟨fs, hr, hrun, hended, hW, hsame⟩ := X3.leave (v := some (.int (0 : Int32))) (fun h => by rw [Bd.returns] at h; cases h)
  refine ⟨_, _, retN X3 hx (t := .boolean) Bd.returns (by simp) (hb hby d2_117) hr, hrun, hended, _, _, rfl, ?_, ⟨_, rfl⟩, hW, hsame.mono (by decide) (by decide)⟩
  exact (⟨rfl, N3, e3⟩ : Q2_1 Z w_PENDING w_RUNNING w_COMPLETED w_FAILED w_CANCELLED  h0 n0 _ T3.heap _)
def Q2_2 (Z : State) (w_PENDING : Addr) (w_RUNNING : Addr) (w_COMPLETED : Addr) (w_FAILED : Addr) (w_CANCELLED : Addr)  (h0 : Heap) (n0 : Nat) (v : Option Value) (h : Heap) (L : List Loc) : Prop := v = some (.int (0 : Int32)) ∧ Fr n0 L ∧ h = h0
theorem ef2_2 (m : MethodId) (x0 : Addr) : entryFrame m #[(.ref x0), (.ref x0)] 2 = mkF m 0 #[.val (.ref x0), .val (.ref x0)] [] := by first | (simp [entryFrame, mkF, argsToLocals, Value.category]; done) | rfl
set_option maxRecDepth 65536 in
set_option maxHeartbeats 40000000 in
theorem rm2_2 (l : Launch) (Z : State) (a0 : Array Value) (hw : ∀ d ∈ tables_1, d.before a0 Z = true) (ws : List Jvm.Cond) {w_PENDING : Addr} {w_RUNNING : Addr} {w_COMPLETED : Addr} {w_FAILED : Addr} {w_CANCELLED : Addr} (G : Glob Z w_PENDING w_RUNNING w_COMPLETED w_FAILED w_CANCELLED)  (h0 : Heap) (n0 : Nat) (O0 : Old Z n0 h0) :
    MetFree l (⟨"com/example/hermit_crab/hermitcrab/JobState", "canMoveTo", "(Lcom/example/hermit_crab/hermitcrab/JobState;)Z"⟩ : MethodName) (head1 (Jvm.Cond.code (⟨"com/example/hermit_crab/hermitcrab/JobState", "canMoveTo", "(Lcom/example/hermit_crab/hermitcrab/JobState;)Z"⟩ : MethodName) prog_6_method_5_code 2 (some .boolean) :: ws) ({ frames := 1, cells := 0, slots := 0, locals := 12 } : Room)) (fun a U => a = #[(.ref w_COMPLETED), (.ref w_COMPLETED)] ∧ Z.Warmed39 U.vm ∧ U.heap = h0) (fun _ _ _ _ _ => True) (fun _ U o U' => ∃ v L, o = .returned v ∧ Q2_2 Z w_PENDING w_RUNNING w_COMPLETED w_FAILED w_CANCELLED  h0 n0 v U'.heap L ∧ FrameEnd U o U' L ({ frames := 1, cells := 0, slots := 0, locals := 12 } : Room).cells ({ frames := 1, cells := 0, slots := 0, locals := 12 } : Room).slots) := by
  refine MetFree.of_bodySF (plainFor_of_name pn_com_example_hermit_crab_hermitcrab_JobState) hisR ?_
  intro p e s m args below meth c s₁ Bd hml0 hP hK
  obtain ⟨rfl, hZ, hh⟩ := hP
  have hx := Bd.exec
  have hby := Bd.bytes
  have hml : c.maxLocals = 2 := hml0
  have hown : s.vm.findClass "com/example/hermit_crab/hermitcrab/JobState" = some m.cls := findClass_of_methodNamed Bd.named
  have hnm := (name_of_methodNamed Bd.named Bd.method).1
  have X0 : Stand p l e ({ frames := 1, cells := 0, slots := 0, locals := 12 } : Room) s m #[(.ref w_COMPLETED), (.ref w_COMPLETED)] below meth c s₁ [] 0 0 := Stand.of_body Bd
  have e0 : s₁.heap = h0 := by rw [← hh, Bd.state]; rfl
  have N0 := Fr.nil n0
  show OGot p.tables e below (s₁.setTop (entryFrame m #[(.ref w_COMPLETED), (.ref w_COMPLETED)] 2)) _
  refine OGot.go (fun t k => castTop (ef2_2 m w_COMPLETED) k) ?_
  show OGot p.tables e below (s₁.setTop (mkF m 0 #[.val (.ref w_COMPLETED), .val (.ref w_COMPLETED)] [])) _
  refine OGot.go (fun t k => XS.aloadN X0.here hx rfl (hb hby d2_0) rfl rfl k) ?_
  show OGot p.tables e below (s₁.setTop (mkF m 1 #[.val (.ref w_COMPLETED), .val (.ref w_COMPLETED)] [(.ref w_COMPLETED)])) _
  obtain ⟨cq2, kq2, q2a, q2b, q2c⟩ := isOf hZ e0 (G.2.2.2.2.2.1.ext O0.2)
  obtain ⟨_, _, ⟨T2, L2, k2, n2⟩, -, X2, ⟨Lc2, hQ2, l2, y2, z2⟩, st2⟩ := X0.virtualBackUp hx (x := (⟨"com/example/hermit_crab/hermitcrab/JobState", "ordinal", "()I"⟩ : MethodName)) (y := (⟨"java/lang/Enum", "ordinal", "()I"⟩ : MethodName)) (owner := "java/lang/Enum") hown (mvT hZ (ow hw 28 rfl)) (mvT hZ (ow hw 29 rfl)) (mvT hZ (ow hw 30 rfl)) (by decide) (mvT hZ (ow hw 32 rfl)) (mvT hZ (ow hw 31 rfl)) (backOf (W := 0) (rm3 l Z a0 hw [] G  h0 n0 O0 ) hZ (ow hw 34 rfl) (ow hw 33 rfl) (by decide) (by decide)) q2a q2c (g := (mkF m 1 #[.val (.ref w_COMPLETED), .val (.ref w_COMPLETED)] [(.ref w_COMPLETED)])) rfl (by rw [hml]; rfl) (Steps.refl _) (argsL := []) (rest := []) (lenOf pd_1 rfl) rfl (by show 2 * 0 + _ ≤ _; exact Nat.le_of_eq rfl) (hb hby d2_1) (fun _ _ => ⟨rfl, e0, (by decide : 0 + 0 ≤ _), (by decide : 0 + 0 ≤ _)⟩)
  dsimp only [Pt.U, Pt.locs, Pt.cells, Pt.slots] at X2 l2 y2 z2 st2 hQ2
  subst l2 y2 z2
  obtain ⟨rfl, N2q, e2⟩ := hQ2
  have N2 := Fr.app N0 N2q
  refine OGot.on st2 ?_
  show OGot p.tables e below (T2.setTop (mkF m 4 #[.val (.ref w_COMPLETED), .val (.ref w_COMPLETED)] [(.int (2 : Int32))])) _
  refine OGot.go (fun t k => XS.tswIn X2.here hx rfl (pc0 := 4) (pc' := 116) rfl (hb hby d2_4) rfl (by decide) (o := 112) (by decide) (by decide) (by decide) k) ?_
  show OGot p.tables e below (T2.setTop (mkF m 116 #[.val (.ref w_COMPLETED), .val (.ref w_COMPLETED)] [])) _
  refine OGot.go (fun t k => XS.iconst X2.here hx rfl (hb hby d2_116) k) ?_
  show OGot p.tables e below (T2.setTop (mkF m 117 #[.val (.ref w_COMPLETED), .val (.ref w_COMPLETED)] [(.int (0 : Int32))])) _
  obtain ⟨fs, hr, hrun, hended, hW, hsame⟩ := X2.leave (v := some (.int (0 : Int32))) (fun h => by rw [Bd.returns] at h; cases h)
  refine ⟨_, _, retN X2 hx (t := .boolean) Bd.returns (by simp) (hb hby d2_117) hr, hrun, hended, _, _, rfl, ?_, ⟨_, rfl⟩, hW, hsame.mono (by decide) (by decide)⟩
  exact (⟨rfl, N2, e2⟩ : Q2_2 Z w_PENDING w_RUNNING w_COMPLETED w_FAILED w_CANCELLED  h0 n0 _ T2.heap _)
def Q2_3 (Z : State) (w_PENDING : Addr) (w_RUNNING : Addr) (w_COMPLETED : Addr) (w_FAILED : Addr) (w_CANCELLED : Addr)  (h0 : Heap) (n0 : Nat) (v : Option Value) (h : Heap) (L : List Loc) : Prop := v = some (.int (0 : Int32)) ∧ Fr n0 L ∧ h = h0
theorem ef2_3 (m : MethodId) (x0 : Addr) (x1 : Addr) : entryFrame m #[(.ref x0), (.ref x1)] 2 = mkF m 0 #[.val (.ref x0), .val (.ref x1)] [] := by first | (simp [entryFrame, mkF, argsToLocals, Value.category]; done) | rfl
set_option maxRecDepth 65536 in
set_option maxHeartbeats 40000000 in
theorem rm2_3 (l : Launch) (Z : State) (a0 : Array Value) (hw : ∀ d ∈ tables_1, d.before a0 Z = true) (ws : List Jvm.Cond) {w_PENDING : Addr} {w_RUNNING : Addr} {w_COMPLETED : Addr} {w_FAILED : Addr} {w_CANCELLED : Addr} (G : Glob Z w_PENDING w_RUNNING w_COMPLETED w_FAILED w_CANCELLED)  (h0 : Heap) (n0 : Nat) (O0 : Old Z n0 h0) :
    MetFree l (⟨"com/example/hermit_crab/hermitcrab/JobState", "canMoveTo", "(Lcom/example/hermit_crab/hermitcrab/JobState;)Z"⟩ : MethodName) (head1 (Jvm.Cond.code (⟨"com/example/hermit_crab/hermitcrab/JobState", "canMoveTo", "(Lcom/example/hermit_crab/hermitcrab/JobState;)Z"⟩ : MethodName) prog_6_method_5_code 2 (some .boolean) :: ws) ({ frames := 1, cells := 0, slots := 0, locals := 12 } : Room)) (fun a U => a = #[(.ref w_COMPLETED), (.ref w_FAILED)] ∧ Z.Warmed39 U.vm ∧ U.heap = h0) (fun _ _ _ _ _ => True) (fun _ U o U' => ∃ v L, o = .returned v ∧ Q2_3 Z w_PENDING w_RUNNING w_COMPLETED w_FAILED w_CANCELLED  h0 n0 v U'.heap L ∧ FrameEnd U o U' L ({ frames := 1, cells := 0, slots := 0, locals := 12 } : Room).cells ({ frames := 1, cells := 0, slots := 0, locals := 12 } : Room).slots) := by
  refine MetFree.of_bodySF (plainFor_of_name pn_com_example_hermit_crab_hermitcrab_JobState) hisR ?_
  intro p e s m args below meth c s₁ Bd hml0 hP hK
  obtain ⟨rfl, hZ, hh⟩ := hP
  have hx := Bd.exec
  have hby := Bd.bytes
  have hml : c.maxLocals = 2 := hml0
  have hown : s.vm.findClass "com/example/hermit_crab/hermitcrab/JobState" = some m.cls := findClass_of_methodNamed Bd.named
  have hnm := (name_of_methodNamed Bd.named Bd.method).1
  have X0 : Stand p l e ({ frames := 1, cells := 0, slots := 0, locals := 12 } : Room) s m #[(.ref w_COMPLETED), (.ref w_FAILED)] below meth c s₁ [] 0 0 := Stand.of_body Bd
  have e0 : s₁.heap = h0 := by rw [← hh, Bd.state]; rfl
  have N0 := Fr.nil n0
  show OGot p.tables e below (s₁.setTop (entryFrame m #[(.ref w_COMPLETED), (.ref w_FAILED)] 2)) _
  refine OGot.go (fun t k => castTop (ef2_3 m w_COMPLETED w_FAILED) k) ?_
  show OGot p.tables e below (s₁.setTop (mkF m 0 #[.val (.ref w_COMPLETED), .val (.ref w_FAILED)] [])) _
  refine OGot.go (fun t k => XS.aloadN X0.here hx rfl (hb hby d2_0) rfl rfl k) ?_
  show OGot p.tables e below (s₁.setTop (mkF m 1 #[.val (.ref w_COMPLETED), .val (.ref w_FAILED)] [(.ref w_COMPLETED)])) _
  obtain ⟨cq3, kq3, q3a, q3b, q3c⟩ := isOf hZ e0 (G.2.2.2.2.2.1.ext O0.2)
  obtain ⟨_, _, ⟨T3, L3, k3, n3⟩, -, X3, ⟨Lc3, hQ3, l3, y3, z3⟩, st3⟩ := X0.virtualBackUp hx (x := (⟨"com/example/hermit_crab/hermitcrab/JobState", "ordinal", "()I"⟩ : MethodName)) (y := (⟨"java/lang/Enum", "ordinal", "()I"⟩ : MethodName)) (owner := "java/lang/Enum") hown (mvT hZ (ow hw 28 rfl)) (mvT hZ (ow hw 29 rfl)) (mvT hZ (ow hw 30 rfl)) (by decide) (mvT hZ (ow hw 32 rfl)) (mvT hZ (ow hw 31 rfl)) (backOf (W := 0) (rm3 l Z a0 hw [] G  h0 n0 O0 ) hZ (ow hw 34 rfl) (ow hw 33 rfl) (by decide) (by decide)) q3a q3c (g := (mkF m 1 #[.val (.ref w_COMPLETED), .val (.ref w_FAILED)] [(.ref w_COMPLETED)])) rfl (by rw [hml]; rfl) (Steps.refl _) (argsL := []) (rest := []) (lenOf pd_1 rfl) rfl (by show 2 * 0 + _ ≤ _; exact Nat.le_of_eq rfl) (hb hby d2_1) (fun _ _ => ⟨rfl, e0, (by decide : 0 + 0 ≤ _), (by decide : 0 + 0 ≤ _)⟩)
  dsimp only [Pt.U, Pt.locs, Pt.cells, Pt.slots] at X3 l3 y3 z3 st3 hQ3
  subst l3 y3 z3
  obtain ⟨rfl, N3q, e3⟩ := hQ3
  have N3 := Fr.app N0 N3q
  refine OGot.on st3 ?_
  show OGot p.tables e below (T3.setTop (mkF m 4 #[.val (.ref w_COMPLETED), .val (.ref w_FAILED)] [(.int (2 : Int32))])) _
  refine OGot.go (fun t k => XS.tswIn X3.here hx rfl (pc0 := 4) (pc' := 116) rfl (hb hby d2_4) rfl (by decide) (o := 112) (by decide) (by decide) (by decide) k) ?_
  show OGot p.tables e below (T3.setTop (mkF m 116 #[.val (.ref w_COMPLETED), .val (.ref w_FAILED)] [])) _
  refine OGot.go (fun t k => XS.iconst X3.here hx rfl (hb hby d2_116) k) ?_
  show OGot p.tables e below (T3.setTop (mkF m 117 #[.val (.ref w_COMPLETED), .val (.ref w_FAILED)] [(.int (0 : Int32))])) _
  obtain ⟨fs, hr, hrun, hended, hW, hsame⟩ := X3.leave (v := some (.int (0 : Int32))) (fun h => by rw [Bd.returns] at h; cases h)
  refine ⟨_, _, retN X3 hx (t := .boolean) Bd.returns (by simp) (hb hby d2_117) hr, hrun, hended, _, _, rfl, ?_, ⟨_, rfl⟩, hW, hsame.mono (by decide) (by decide)⟩
  exact (⟨rfl, N3, e3⟩ : Q2_3 Z w_PENDING w_RUNNING w_COMPLETED w_FAILED w_CANCELLED  h0 n0 _ T3.heap _)
def Q2_4 (Z : State) (w_PENDING : Addr) (w_RUNNING : Addr) (w_COMPLETED : Addr) (w_FAILED : Addr) (w_CANCELLED : Addr)  (h0 : Heap) (n0 : Nat) (v : Option Value) (h : Heap) (L : List Loc) : Prop := v = some (.int (0 : Int32)) ∧ Fr n0 L ∧ h = h0
theorem ef2_4 (m : MethodId) (x0 : Addr) (x1 : Addr) : entryFrame m #[(.ref x0), (.ref x1)] 2 = mkF m 0 #[.val (.ref x0), .val (.ref x1)] [] := by first | (simp [entryFrame, mkF, argsToLocals, Value.category]; done) | rfl
set_option maxRecDepth 65536 in
set_option maxHeartbeats 40000000 in
theorem rm2_4 (l : Launch) (Z : State) (a0 : Array Value) (hw : ∀ d ∈ tables_1, d.before a0 Z = true) (ws : List Jvm.Cond) {w_PENDING : Addr} {w_RUNNING : Addr} {w_COMPLETED : Addr} {w_FAILED : Addr} {w_CANCELLED : Addr} (G : Glob Z w_PENDING w_RUNNING w_COMPLETED w_FAILED w_CANCELLED)  (h0 : Heap) (n0 : Nat) (O0 : Old Z n0 h0) :
    MetFree l (⟨"com/example/hermit_crab/hermitcrab/JobState", "canMoveTo", "(Lcom/example/hermit_crab/hermitcrab/JobState;)Z"⟩ : MethodName) (head1 (Jvm.Cond.code (⟨"com/example/hermit_crab/hermitcrab/JobState", "canMoveTo", "(Lcom/example/hermit_crab/hermitcrab/JobState;)Z"⟩ : MethodName) prog_6_method_5_code 2 (some .boolean) :: ws) ({ frames := 1, cells := 0, slots := 0, locals := 12 } : Room)) (fun a U => a = #[(.ref w_COMPLETED), (.ref w_CANCELLED)] ∧ Z.Warmed39 U.vm ∧ U.heap = h0) (fun _ _ _ _ _ => True) (fun _ U o U' => ∃ v L, o = .returned v ∧ Q2_4 Z w_PENDING w_RUNNING w_COMPLETED w_FAILED w_CANCELLED  h0 n0 v U'.heap L ∧ FrameEnd U o U' L ({ frames := 1, cells := 0, slots := 0, locals := 12 } : Room).cells ({ frames := 1, cells := 0, slots := 0, locals := 12 } : Room).slots) := by
  refine MetFree.of_bodySF (plainFor_of_name pn_com_example_hermit_crab_hermitcrab_JobState) hisR ?_
  intro p e s m args below meth c s₁ Bd hml0 hP hK
  obtain ⟨rfl, hZ, hh⟩ := hP
  have hx := Bd.exec
  have hby := Bd.bytes
  have hml : c.maxLocals = 2 := hml0
  have hown : s.vm.findClass "com/example/hermit_crab/hermitcrab/JobState" = some m.cls := findClass_of_methodNamed Bd.named
  have hnm := (name_of_methodNamed Bd.named Bd.method).1
  have X0 : Stand p l e ({ frames := 1, cells := 0, slots := 0, locals := 12 } : Room) s m #[(.ref w_COMPLETED), (.ref w_CANCELLED)] below meth c s₁ [] 0 0 := Stand.of_body Bd
  have e0 : s₁.heap = h0 := by rw [← hh, Bd.state]; rfl
  have N0 := Fr.nil n0
  show OGot p.tables e below (s₁.setTop (entryFrame m #[(.ref w_COMPLETED), (.ref w_CANCELLED)] 2)) _
  refine OGot.go (fun t k => castTop (ef2_4 m w_COMPLETED w_CANCELLED) k) ?_
  show OGot p.tables e below (s₁.setTop (mkF m 0 #[.val (.ref w_COMPLETED), .val (.ref w_CANCELLED)] [])) _
  refine OGot.go (fun t k => XS.aloadN X0.here hx rfl (hb hby d2_0) rfl rfl k) ?_
  show OGot p.tables e below (s₁.setTop (mkF m 1 #[.val (.ref w_COMPLETED), .val (.ref w_CANCELLED)] [(.ref w_COMPLETED)])) _
  obtain ⟨cq3, kq3, q3a, q3b, q3c⟩ := isOf hZ e0 (G.2.2.2.2.2.1.ext O0.2)
  obtain ⟨_, _, ⟨T3, L3, k3, n3⟩, -, X3, ⟨Lc3, hQ3, l3, y3, z3⟩, st3⟩ := X0.virtualBackUp hx (x := (⟨"com/example/hermit_crab/hermitcrab/JobState", "ordinal", "()I"⟩ : MethodName)) (y := (⟨"java/lang/Enum", "ordinal", "()I"⟩ : MethodName)) (owner := "java/lang/Enum") hown (mvT hZ (ow hw 28 rfl)) (mvT hZ (ow hw 29 rfl)) (mvT hZ (ow hw 30 rfl)) (by decide) (mvT hZ (ow hw 32 rfl)) (mvT hZ (ow hw 31 rfl)) (backOf (W := 0) (rm3 l Z a0 hw [] G  h0 n0 O0 ) hZ (ow hw 34 rfl) (ow hw 33 rfl) (by decide) (by decide)) q3a q3c (g := (mkF m 1 #[.val (.ref w_COMPLETED), .val (.ref w_CANCELLED)] [(.ref w_COMPLETED)])) rfl (by rw [hml]; rfl) (Steps.refl _) (argsL := []) (rest := []) (lenOf pd_1 rfl) rfl (by show 2 * 0 + _ ≤ _; exact Nat.le_of_eq rfl) (hb hby d2_1) (fun _ _ => ⟨rfl, e0, (by decide : 0 + 0 ≤ _), (by decide : 0 + 0 ≤ _)⟩)
  dsimp only [Pt.U, Pt.locs, Pt.cells, Pt.slots] at X3 l3 y3 z3 st3 hQ3
  subst l3 y3 z3
  obtain ⟨rfl, N3q, e3⟩ := hQ3
  have N3 := Fr.app N0 N3q
  refine OGot.on st3 ?_
  show OGot p.tables e below (T3.setTop (mkF m 4 #[.val (.ref w_COMPLETED), .val (.ref w_CANCELLED)] [(.int (2 : Int32))])) _
  refine OGot.go (fun t k => XS.tswIn X3.here hx rfl (pc0 := 4) (pc' := 116) rfl (hb hby d2_4) rfl (by decide) (o := 112) (by decide) (by decide) (by decide) k) ?_
  show OGot p.tables e below (T3.setTop (mkF m 116 #[.val (.ref w_COMPLETED), .val (.ref w_CANCELLED)] [])) _
  refine OGot.go (fun t k => XS.iconst X3.here hx rfl (hb hby d2_116) k) ?_
  show OGot p.tables e below (T3.setTop (mkF m 117 #[.val (.ref w_COMPLETED), .val (.ref w_CANCELLED)] [(.int (0 : Int32))])) _
  obtain ⟨fs, hr, hrun, hended, hW, hsame⟩ := X3.leave (v := some (.int (0 : Int32))) (fun h => by rw [Bd.returns] at h; cases h)
  refine ⟨_, _, retN X3 hx (t := .boolean) Bd.returns (by simp) (hb hby d2_117) hr, hrun, hended, _, _, rfl, ?_, ⟨_, rfl⟩, hW, hsame.mono (by decide) (by decide)⟩
  exact (⟨rfl, N3, e3⟩ : Q2_4 Z w_PENDING w_RUNNING w_COMPLETED w_FAILED w_CANCELLED  h0 n0 _ T3.heap _)
def Q1_3 (Z : State) (w_PENDING : Addr) (w_RUNNING : Addr) (w_COMPLETED : Addr) (w_FAILED : Addr) (w_CANCELLED : Addr)  (h0 : Heap) (n0 : Nat) (v : Option Value) (h : Heap) (L : List Loc) : Prop := v = some (.int (1 : Int32)) ∧ Fr n0 L ∧ h = h0
theorem ef1_3 (m : MethodId) (x0 : Addr) : entryFrame m #[(.ref x0)] 1 = mkF m 0 #[.val (.ref x0)] [] := by first | (simp [entryFrame, mkF, argsToLocals, Value.category]; done) | rfl
set_option maxRecDepth 65536 in
set_option maxHeartbeats 40000000 in
theorem rm1_3 (l : Launch) (Z : State) (a0 : Array Value) (hw : ∀ d ∈ tables_1, d.before a0 Z = true) (ws : List Jvm.Cond) {w_PENDING : Addr} {w_RUNNING : Addr} {w_COMPLETED : Addr} {w_FAILED : Addr} {w_CANCELLED : Addr} (G : Glob Z w_PENDING w_RUNNING w_COMPLETED w_FAILED w_CANCELLED)  (h0 : Heap) (n0 : Nat) (O0 : Old Z n0 h0) :
    MetFree l (⟨"com/example/hermit_crab/hermitcrab/JobState", "isFinal", "()Z"⟩ : MethodName) (head1 (Jvm.Cond.code (⟨"com/example/hermit_crab/hermitcrab/JobState", "isFinal", "()Z"⟩ : MethodName) prog_6_method_4_code 1 (some .boolean) :: ws) ({ frames := 0, cells := 0, slots := 0, locals := 0 } : Room)) (fun a U => a = #[(.ref w_FAILED)] ∧ Z.Warmed39 U.vm ∧ U.heap = h0) (fun _ _ _ _ _ => True) (fun _ U o U' => ∃ v L, o = .returned v ∧ Q1_3 Z w_PENDING w_RUNNING w_COMPLETED w_FAILED w_CANCELLED  h0 n0 v U'.heap L ∧ FrameEnd U o U' L ({ frames := 0, cells := 0, slots := 0, locals := 0 } : Room).cells ({ frames := 0, cells := 0, slots := 0, locals := 0 } : Room).slots) := by
  refine MetFree.of_bodySF (plainFor_of_name pn_com_example_hermit_crab_hermitcrab_JobState) hisR ?_
  intro p e s m args below meth c s₁ Bd hml0 hP hK
  obtain ⟨rfl, hZ, hh⟩ := hP
  have hx := Bd.exec
  have hby := Bd.bytes
  have hml : c.maxLocals = 1 := hml0
  have hown : s.vm.findClass "com/example/hermit_crab/hermitcrab/JobState" = some m.cls := findClass_of_methodNamed Bd.named
  have hnm := (name_of_methodNamed Bd.named Bd.method).1
  have X0 : Stand p l e ({ frames := 0, cells := 0, slots := 0, locals := 0 } : Room) s m #[(.ref w_FAILED)] below meth c s₁ [] 0 0 := Stand.of_body Bd
  have e0 : s₁.heap = h0 := by rw [← hh, Bd.state]; rfl
  have N0 := Fr.nil n0
  show OGot p.tables e below (s₁.setTop (entryFrame m #[(.ref w_FAILED)] 1)) _
  refine OGot.go (fun t k => castTop (ef1_3 m w_FAILED) k) ?_
  show OGot p.tables e below (s₁.setTop (mkF m 0 #[.val (.ref w_FAILED)] [])) _
  refine OGot.go (fun t k => XS.aloadN X0.here hx rfl (hb hby d1_0) rfl rfl k) ?_
  show OGot p.tables e below (s₁.setTop (mkF m 1 #[.val (.ref w_FAILED)] [(.ref w_FAILED)])) _
  obtain ⟨T2, X2, e2, st2⟩ := getS2 X0 hx hZ hown (host := "") (Or.inl (ow hw 20 rfl)) Via.refl e0 (G.2.2.2.2.1.ext O0.2) (g := (mkF m 1 #[.val (.ref w_FAILED)] [(.ref w_FAILED)])) rfl (hb hby d1_1)
  refine OGot.go st2 ?_
  show OGot p.tables e below (T2.setTop (mkF m 4 #[.val (.ref w_FAILED)] [(.ref w_COMPLETED), (.ref w_FAILED)])) _
  have ne3 : w_FAILED ≠ w_COMPLETED := (Fld.ne G.2.2.2.2.2.2.2.2.2.2.2.2.1 G.2.2.2.2.2.2.2.2.2.2.2.1 (by decide))
  refine OGot.go (fun t k => Jvm.RoadKit.acmp (g := (mkF m 4 #[.val (.ref w_FAILED)] [(.ref w_COMPLETED), (.ref w_FAILED)])) X2 hx rfl rfl rfl (pc0 := 4) (pc' := 7) (same := false) rfl (hb hby d1_4) rfl (decide_eq_false fun q => ne3 (Value.ref.inj q)) (by decide) (by decide) k) ?_
  show OGot p.tables e below (T2.setTop (mkF m 7 #[.val (.ref w_FAILED)] [])) _
  refine OGot.go (fun t k => XS.aloadN X2.here hx rfl (hb hby d1_7) rfl rfl k) ?_
  show OGot p.tables e below (T2.setTop (mkF m 8 #[.val (.ref w_FAILED)] [(.ref w_FAILED)])) _
  obtain ⟨T4, X4, e4, st4⟩ := getS2 X2 hx hZ hown (host := "") (Or.inl (ow hw 21 rfl)) Via.refl e2 (G.2.2.2.2.2.2.1.ext O0.2) (g := (mkF m 8 #[.val (.ref w_FAILED)] [(.ref w_FAILED)])) rfl (hb hby d1_8)
  refine OGot.go st4 ?_
  show OGot p.tables e below (T4.setTop (mkF m 11 #[.val (.ref w_FAILED)] [(.ref w_FAILED), (.ref w_FAILED)])) _
  refine OGot.go (fun t k => Jvm.RoadKit.acmp (g := (mkF m 11 #[.val (.ref w_FAILED)] [(.ref w_FAILED), (.ref w_FAILED)])) X4 hx rfl rfl rfl (pc0 := 11) (pc' := 21) (same := true) rfl (hb hby d1_11) rfl (decide_eq_true rfl) (by decide) (by decide) k) ?_
  show OGot p.tables e below (T4.setTop (mkF m 21 #[.val (.ref w_FAILED)] [])) _
  refine OGot.go (fun t k => XS.iconst X4.here hx rfl (hb hby d1_21) k) ?_
  show OGot p.tables e below (T4.setTop (mkF m 22 #[.val (.ref w_FAILED)] [(.int (1 : Int32))])) _
  refine OGot.go (fun t k => XS.goto X4.here hx rfl (pc0 := 22) (pc' := 26) rfl (hb hby d1_22) (by decide) (by decide) k) ?_
  show OGot p.tables e below (T4.setTop (mkF m 26 #[.val (.ref w_FAILED)] [(.int (1 : Int32))])) _
  obtain ⟨fs, hr, hrun, hended, hW, hsame⟩ := X4.leave (v := some (.int (1 : Int32))) (fun h => by rw [Bd.returns] at h; cases h)
  refine ⟨_, _, retN X4 hx (t := .boolean) Bd.returns (by simp) (hb hby d1_26) hr, hrun, hended, _, _, rfl, ?_, ⟨_, rfl⟩, hW, hsame.mono (by decide) (by decide)⟩
  exact (⟨rfl, N0, e4⟩ : Q1_3 Z w_PENDING w_RUNNING w_COMPLETED w_FAILED w_CANCELLED  h0 n0 _ T4.heap _)
def Q3_1 (Z : State) (w_PENDING : Addr) (w_RUNNING : Addr) (w_COMPLETED : Addr) (w_FAILED : Addr) (w_CANCELLED : Addr)  (h0 : Heap) (n0 : Nat) (v : Option Value) (h : Heap) (L : List Loc) : Prop := v = some (.int (3 : Int32)) ∧ Fr n0 L ∧ h = h0
theorem ef3_1 (m : MethodId) (x0 : Addr) : entryFrame m #[(.ref x0)] 1 = mkF m 0 #[.val (.ref x0)] [] := by first | (simp [entryFrame, mkF, argsToLocals, Value.category]; done) | rfl
set_option maxRecDepth 65536 in
set_option maxHeartbeats 40000000 in
theorem rm3_1 (l : Launch) (Z : State) (a0 : Array Value) (hw : ∀ d ∈ tables_1, d.before a0 Z = true) (ws : List Jvm.Cond) {w_PENDING : Addr} {w_RUNNING : Addr} {w_COMPLETED : Addr} {w_FAILED : Addr} {w_CANCELLED : Addr} (G : Glob Z w_PENDING w_RUNNING w_COMPLETED w_FAILED w_CANCELLED)  (h0 : Heap) (n0 : Nat) (O0 : Old Z n0 h0) :
    MetFree l (⟨"java/lang/Enum", "ordinal", "()I"⟩ : MethodName) (head1 (Jvm.Cond.code (⟨"java/lang/Enum", "ordinal", "()I"⟩ : MethodName) jdk_37_method_2_code 1 (some .int) :: ws) ({ frames := 0, cells := 0, slots := 0, locals := 0 } : Room)) (fun a U => a = #[(.ref w_FAILED)] ∧ Z.Warmed39 U.vm ∧ U.heap = h0) (fun _ _ _ _ _ => True) (fun _ U o U' => ∃ v L, o = .returned v ∧ Q3_1 Z w_PENDING w_RUNNING w_COMPLETED w_FAILED w_CANCELLED  h0 n0 v U'.heap L ∧ FrameEnd U o U' L ({ frames := 0, cells := 0, slots := 0, locals := 0 } : Room).cells ({ frames := 0, cells := 0, slots := 0, locals := 0 } : Room).slots) := by
  refine MetFree.of_bodySF (plainFor_of_name pn_java_lang_Enum) hisR ?_
  intro p e s m args below meth c s₁ Bd hml0 hP hK
  obtain ⟨rfl, hZ, hh⟩ := hP
  have hx := Bd.exec
  have hby := Bd.bytes
  have hml : c.maxLocals = 1 := hml0
  have hown : s.vm.findClass "java/lang/Enum" = some m.cls := findClass_of_methodNamed Bd.named
  have hnm := (name_of_methodNamed Bd.named Bd.method).1
  have X0 : Stand p l e ({ frames := 0, cells := 0, slots := 0, locals := 0 } : Room) s m #[(.ref w_FAILED)] below meth c s₁ [] 0 0 := Stand.of_body Bd
  have e0 : s₁.heap = h0 := by rw [← hh, Bd.state]; rfl
  have N0 := Fr.nil n0
  show OGot p.tables e below (s₁.setTop (entryFrame m #[(.ref w_FAILED)] 1)) _
  refine OGot.go (fun t k => castTop (ef3_1 m w_FAILED) k) ?_
  show OGot p.tables e below (s₁.setTop (mkF m 0 #[.val (.ref w_FAILED)] [])) _
  refine OGot.go (fun t k => XS.aloadN X0.here hx rfl (hb hby d3_0) rfl rfl k) ?_
  show OGot p.tables e below (s₁.setTop (mkF m 1 #[.val (.ref w_FAILED)] [(.ref w_FAILED)])) _
  obtain ⟨T2, X2, e2, st2⟩ := getF X0 hx hZ hown (host := "") (Or.inl (ow hw 35 rfl)) Via.refl e0 (G.2.2.2.2.2.2.2.2.2.2.2.2.1.ext O0.2) (g := (mkF m 1 #[.val (.ref w_FAILED)] [(.ref w_FAILED)])) rfl rfl (hb hby d3_1)
  refine OGot.go st2 ?_
  show OGot p.tables e below (T2.setTop (mkF m 4 #[.val (.ref w_FAILED)] [(.int (3 : Int32))])) _
  obtain ⟨fs, hr, hrun, hended, hW, hsame⟩ := X2.leave (v := some (.int (3 : Int32))) (fun h => by rw [Bd.returns] at h; cases h)
  refine ⟨_, _, retI X2 hx Bd.returns (hb hby d3_4) hr, hrun, hended, _, _, rfl, ?_, ⟨_, rfl⟩, hW, hsame.mono (by decide) (by decide)⟩
  exact (⟨rfl, N0, e2⟩ : Q3_1 Z w_PENDING w_RUNNING w_COMPLETED w_FAILED w_CANCELLED  h0 n0 _ T2.heap _)
theorem d2_101 : decode prog_6_method_5_code 101 = .ok (.aload_n 1, 1) := by decide +kernel
theorem d2_102 : decode prog_6_method_5_code 102 = .ok (.getstatic 3, 3) := by decide +kernel
theorem d2_105 : decode prog_6_method_5_code 105 = .ok (.if_acmp .ne 7, 3) := by decide +kernel
theorem d2_108 : decode prog_6_method_5_code 108 = .ok (.iconst 1, 1) := by decide +kernel
theorem d2_109 : decode prog_6_method_5_code 109 = .ok (.goto 8, 3) := by decide +kernel
def Q2_5 (Z : State) (w_PENDING : Addr) (w_RUNNING : Addr) (w_COMPLETED : Addr) (w_FAILED : Addr) (w_CANCELLED : Addr)  (h0 : Heap) (n0 : Nat) (v : Option Value) (h : Heap) (L : List Loc) : Prop := v = some (.int (1 : Int32)) ∧ Fr n0 L ∧ h = h0
theorem ef2_5 (m : MethodId) (x0 : Addr) (x1 : Addr) : entryFrame m #[(.ref x0), (.ref x1)] 2 = mkF m 0 #[.val (.ref x0), .val (.ref x1)] [] := by first | (simp [entryFrame, mkF, argsToLocals, Value.category]; done) | rfl
set_option maxRecDepth 65536 in
set_option maxHeartbeats 40000000 in
theorem rm2_5 (l : Launch) (Z : State) (a0 : Array Value) (hw : ∀ d ∈ tables_1, d.before a0 Z = true) (ws : List Jvm.Cond) {w_PENDING : Addr} {w_RUNNING : Addr} {w_COMPLETED : Addr} {w_FAILED : Addr} {w_CANCELLED : Addr} (G : Glob Z w_PENDING w_RUNNING w_COMPLETED w_FAILED w_CANCELLED)  (h0 : Heap) (n0 : Nat) (O0 : Old Z n0 h0) :
    MetFree l (⟨"com/example/hermit_crab/hermitcrab/JobState", "canMoveTo", "(Lcom/example/hermit_crab/hermitcrab/JobState;)Z"⟩ : MethodName) (head1 (Jvm.Cond.code (⟨"com/example/hermit_crab/hermitcrab/JobState", "canMoveTo", "(Lcom/example/hermit_crab/hermitcrab/JobState;)Z"⟩ : MethodName) prog_6_method_5_code 2 (some .boolean) :: ws) ({ frames := 1, cells := 0, slots := 0, locals := 12 } : Room)) (fun a U => a = #[(.ref w_FAILED), (.ref w_PENDING)] ∧ Z.Warmed39 U.vm ∧ U.heap = h0) (fun _ _ _ _ _ => True) (fun _ U o U' => ∃ v L, o = .returned v ∧ Q2_5 Z w_PENDING w_RUNNING w_COMPLETED w_FAILED w_CANCELLED  h0 n0 v U'.heap L ∧ FrameEnd U o U' L ({ frames := 1, cells := 0, slots := 0, locals := 12 } : Room).cells ({ frames := 1, cells := 0, slots := 0, locals := 12 } : Room).slots) := by
  refine MetFree.of_bodySF (plainFor_of_name pn_com_example_hermit_crab_hermitcrab_JobState) hisR ?_
  intro p e s m args below meth c s₁ Bd hml0 hP hK
  obtain ⟨rfl, hZ, hh⟩ := hP
  have hx := Bd.exec
  have hby := Bd.bytes
  have hml : c.maxLocals = 2 := hml0
  have hown : s.vm.findClass "com/example/hermit_crab/hermitcrab/JobState" = some m.cls := findClass_of_methodNamed Bd.named
  have hnm := (name_of_methodNamed Bd.named Bd.method).1
  have X0 : Stand p l e ({ frames := 1, cells := 0, slots := 0, locals := 12 } : Room) s m #[(.ref w_FAILED), (.ref w_PENDING)] below meth c s₁ [] 0 0 := Stand.of_body Bd
  have e0 : s₁.heap = h0 := by rw [← hh, Bd.state]; rfl
  have N0 := Fr.nil n0
  show OGot p.tables e below (s₁.setTop (entryFrame m #[(.ref w_FAILED), (.ref w_PENDING)] 2)) _
  refine OGot.go (fun t k => castTop (ef2_5 m w_FAILED w_PENDING) k) ?_
  show OGot p.tables e below (s₁.setTop (mkF m 0 #[.val (.ref w_FAILED), .val (.ref w_PENDING)] [])) _
  refine OGot.go (fun t k => XS.aloadN X0.here hx rfl (hb hby d2_0) rfl rfl k) ?_
  show OGot p.tables e below (s₁.setTop (mkF m 1 #[.val (.ref w_FAILED), .val (.ref w_PENDING)] [(.ref w_FAILED)])) _
  obtain ⟨cq3, kq3, q3a, q3b, q3c⟩ := isOf hZ e0 (G.2.2.2.2.2.2.2.1.ext O0.2)
  obtain ⟨_, _, ⟨T3, L3, k3, n3⟩, -, X3, ⟨Lc3, hQ3, l3, y3, z3⟩, st3⟩ := X0.virtualBackUp hx (x := (⟨"com/example/hermit_crab/hermitcrab/JobState", "ordinal", "()I"⟩ : MethodName)) (y := (⟨"java/lang/Enum", "ordinal", "()I"⟩ : MethodName)) (owner := "java/lang/Enum") hown (mvT hZ (ow hw 28 rfl)) (mvT hZ (ow hw 29 rfl)) (mvT hZ (ow hw 30 rfl)) (by decide) (mvT hZ (ow hw 32 rfl)) (mvT hZ (ow hw 31 rfl)) (backOf (W := 0) (rm3_1 l Z a0 hw [] G  h0 n0 O0 ) hZ (ow hw 34 rfl) (ow hw 33 rfl) (by decide) (by decide)) q3a q3c (g := (mkF m 1 #[.val (.ref w_FAILED), .val (.ref w_PENDING)] [(.ref w_FAILED)])) rfl (by rw [hml]; rfl) (Steps.refl _) (argsL := []) (rest := []) (lenOf pd_1 rfl) rfl (by show 2 * 0 + _ ≤ _; exact Nat.le_of_eq rfl) (hb hby d2_1) (fun _ _ => ⟨rfl, e0, (by decide : 0 + 0 ≤ _), (by decide : 0 + 0 ≤ _)⟩)
  dsimp only [Pt.U, Pt.locs, Pt.cells, Pt.slots] at X3 l3 y3 z3 st3 hQ3
  subst l3 y3 z3
  obtain ⟨rfl, N3q, e3⟩ := hQ3
  have N3 := Fr.app N0 N3q
  refine OGot.on st3 ?_
  show OGot p.tables e below (T3.setTop (mkF m 4 #[.val (.ref w_FAILED), .val (.ref w_PENDING)] [(.int (3 : Int32))])) _
  refine OGot.go (fun t k => XS.tswIn X3.here hx rfl (pc0 := 4) (pc' := 101) rfl (hb hby d2_4) rfl (by decide) (o := 97) (by decide) (by decide) (by decide) k) ?_
  show OGot p.tables e below (T3.setTop (mkF m 101 #[.val (.ref w_FAILED), .val (.ref w_PENDING)] [])) _
  refine OGot.go (fun t k => XS.aloadN X3.here hx rfl (hb hby d2_101) rfl rfl k) ?_
  show OGot p.tables e below (T3.setTop (mkF m 102 #[.val (.ref w_FAILED), .val (.ref w_PENDING)] [(.ref w_PENDING)])) _
  obtain ⟨T4, X4, e4, st4⟩ := getS2 X3 hx hZ hown (host := "") (Or.inl (ow hw 37 rfl)) Via.refl e3 (G.1.ext O0.2) (g := (mkF m 102 #[.val (.ref w_FAILED), .val (.ref w_PENDING)] [(.ref w_PENDING)])) rfl (hb hby d2_102)
  refine OGot.go st4 ?_
  show OGot p.tables e below (T4.setTop (mkF m 105 #[.val (.ref w_FAILED), .val (.ref w_PENDING)] [(.ref w_PENDING), (.ref w_PENDING)])) _
  refine OGot.go (fun t k => Jvm.RoadKit.acmp (g := (mkF m 105 #[.val (.ref w_FAILED), .val (.ref w_PENDING)] [(.ref w_PENDING), (.ref w_PENDING)])) X4 hx rfl rfl rfl (pc0 := 105) (pc' := 108) (same := true) rfl (hb hby d2_105) rfl (decide_eq_true rfl) (by decide) (by decide) k) ?_
  show OGot p.tables e below (T4.setTop (mkF m 108 #[.val (.ref w_FAILED), .val (.ref w_PENDING)] [])) _
  refine OGot.go (fun t k => XS.iconst X4.here hx rfl (hb hby d2_108) k) ?_
  show OGot p.tables e below (T4.setTop (mkF m 109 #[.val (.ref w_FAILED), .val (.ref w_PENDING)] [(.int (1 : Int32))])) _
  refine OGot.go (fun t k => XS.goto X4.here hx rfl (pc0 := 109) (pc' := 117) rfl (hb hby d2_109) (by decide) (by decide) k) ?_
  show OGot p.tables e below (T4.setTop (mkF m 117 #[.val (.ref w_FAILED), .val (.ref w_PENDING)] [(.int (1 : Int32))])) _
  obtain ⟨fs, hr, hrun, hended, hW, hsame⟩ := X4.leave (v := some (.int (1 : Int32))) (fun h => by rw [Bd.returns] at h; cases h)
  refine ⟨_, _, retN X4 hx (t := .boolean) Bd.returns (by simp) (hb hby d2_117) hr, hrun, hended, _, _, rfl, ?_, ⟨_, rfl⟩, hW, hsame.mono (by decide) (by decide)⟩
  exact (⟨rfl, N3, e4⟩ : Q2_5 Z w_PENDING w_RUNNING w_COMPLETED w_FAILED w_CANCELLED  h0 n0 _ T4.heap _)
theorem d2_112 : decode prog_6_method_5_code 112 = .ok (.iconst 0, 1) := by decide +kernel
theorem d2_113 : decode prog_6_method_5_code 113 = .ok (.goto 4, 3) := by decide +kernel
def Q2_6 (Z : State) (w_PENDING : Addr) (w_RUNNING : Addr) (w_COMPLETED : Addr) (w_FAILED : Addr) (w_CANCELLED : Addr)  (h0 : Heap) (n0 : Nat) (v : Option Value) (h : Heap) (L : List Loc) : Prop := v = some (.int (0 : Int32)) ∧ Fr n0 L ∧ h = h0
theorem ef2_6 (m : MethodId) (x0 : Addr) (x1 : Addr) : entryFrame m #[(.ref x0), (.ref x1)] 2 = mkF m 0 #[.val (.ref x0), .val (.ref x1)] [] := by first | (simp [entryFrame, mkF, argsToLocals, Value.category]; done) | rfl
set_option maxRecDepth 65536 in
set_option maxHeartbeats 40000000 in
theorem rm2_6 (l : Launch) (Z : State) (a0 : Array Value) (hw : ∀ d ∈ tables_1, d.before a0 Z = true) (ws : List Jvm.Cond) {w_PENDING : Addr} {w_RUNNING : Addr} {w_COMPLETED : Addr} {w_FAILED : Addr} {w_CANCELLED : Addr} (G : Glob Z w_PENDING w_RUNNING w_COMPLETED w_FAILED w_CANCELLED)  (h0 : Heap) (n0 : Nat) (O0 : Old Z n0 h0) :
    MetFree l (⟨"com/example/hermit_crab/hermitcrab/JobState", "canMoveTo", "(Lcom/example/hermit_crab/hermitcrab/JobState;)Z"⟩ : MethodName) (head1 (Jvm.Cond.code (⟨"com/example/hermit_crab/hermitcrab/JobState", "canMoveTo", "(Lcom/example/hermit_crab/hermitcrab/JobState;)Z"⟩ : MethodName) prog_6_method_5_code 2 (some .boolean) :: ws) ({ frames := 1, cells := 0, slots := 0, locals := 12 } : Room)) (fun a U => a = #[(.ref w_FAILED), (.ref w_RUNNING)] ∧ Z.Warmed39 U.vm ∧ U.heap = h0) (fun _ _ _ _ _ => True) (fun _ U o U' => ∃ v L, o = .returned v ∧ Q2_6 Z w_PENDING w_RUNNING w_COMPLETED w_FAILED w_CANCELLED  h0 n0 v U'.heap L ∧ FrameEnd U o U' L ({ frames := 1, cells := 0, slots := 0, locals := 12 } : Room).cells ({ frames := 1, cells := 0, slots := 0, locals := 12 } : Room).slots) := by
  refine MetFree.of_bodySF (plainFor_of_name pn_com_example_hermit_crab_hermitcrab_JobState) hisR ?_
  intro p e s m args below meth c s₁ Bd hml0 hP hK
  obtain ⟨rfl, hZ, hh⟩ := hP
  have hx := Bd.exec
  have hby := Bd.bytes
  have hml : c.maxLocals = 2 := hml0
  have hown : s.vm.findClass "com/example/hermit_crab/hermitcrab/JobState" = some m.cls := findClass_of_methodNamed Bd.named
  have hnm := (name_of_methodNamed Bd.named Bd.method).1
  have X0 : Stand p l e ({ frames := 1, cells := 0, slots := 0, locals := 12 } : Room) s m #[(.ref w_FAILED), (.ref w_RUNNING)] below meth c s₁ [] 0 0 := Stand.of_body Bd
  have e0 : s₁.heap = h0 := by rw [← hh, Bd.state]; rfl
  have N0 := Fr.nil n0
  show OGot p.tables e below (s₁.setTop (entryFrame m #[(.ref w_FAILED), (.ref w_RUNNING)] 2)) _
  refine OGot.go (fun t k => castTop (ef2_6 m w_FAILED w_RUNNING) k) ?_
  show OGot p.tables e below (s₁.setTop (mkF m 0 #[.val (.ref w_FAILED), .val (.ref w_RUNNING)] [])) _
  refine OGot.go (fun t k => XS.aloadN X0.here hx rfl (hb hby d2_0) rfl rfl k) ?_
  show OGot p.tables e below (s₁.setTop (mkF m 1 #[.val (.ref w_FAILED), .val (.ref w_RUNNING)] [(.ref w_FAILED)])) _
  obtain ⟨cq3, kq3, q3a, q3b, q3c⟩ := isOf hZ e0 (G.2.2.2.2.2.2.2.1.ext O0.2)
  obtain ⟨_, _, ⟨T3, L3, k3, n3⟩, -, X3, ⟨Lc3, hQ3, l3, y3, z3⟩, st3⟩ := X0.virtualBackUp hx (x := (⟨"com/example/hermit_crab/hermitcrab/JobState", "ordinal", "()I"⟩ : MethodName)) (y := (⟨"java/lang/Enum", "ordinal", "()I"⟩ : MethodName)) (owner := "java/lang/Enum") hown (mvT hZ (ow hw 28 rfl)) (mvT hZ (ow hw 29 rfl)) (mvT hZ (ow hw 30 rfl)) (by decide) (mvT hZ (ow hw 32 rfl)) (mvT hZ (ow hw 31 rfl)) (backOf (W := 0) (rm3_1 l Z a0 hw [] G  h0 n0 O0 ) hZ (ow hw 34 rfl) (ow hw 33 rfl) (by decide) (by decide)) q3a q3c (g := (mkF m 1 #[.val (.ref w_FAILED), .val (.ref w_RUNNING)] [(.ref w_FAILED)])) rfl (by rw [hml]; rfl) (Steps.refl _) (argsL := []) (rest := []) (lenOf pd_1 rfl) rfl (by show 2 * 0 + _ ≤ _; exact Nat.le_of_eq rfl) (hb hby d2_1) (fun _ _ => ⟨rfl, e0, (by decide : 0 + 0 ≤ _), (by decide : 0 + 0 ≤ _)⟩)
  dsimp only [Pt.U, Pt.locs, Pt.cells, Pt.slots] at X3 l3 y3 z3 st3 hQ3
  subst l3 y3 z3
  obtain ⟨rfl, N3q, e3⟩ := hQ3
  have N3 := Fr.app N0 N3q
  refine OGot.on st3 ?_
  show OGot p.tables e below (T3.setTop (mkF m 4 #[.val (.ref w_FAILED), .val (.ref w_RUNNING)] [(.int (3 : Int32))])) _
  refine OGot.go (fun t k => XS.tswIn X3.here hx rfl (pc0 := 4) (pc' := 101) rfl (hb hby d2_4) rfl (by decide) (o := 97) (by decide) (by decide) (by decide) k) ?_
  show OGot p.tables e below (T3.setTop (mkF m 101 #[.val (.ref w_FAILED), .val (.ref w_RUNNING)] [])) _
  refine OGot.go (fun t k => XS.aloadN X3.here hx rfl (hb hby d2_101) rfl rfl k) ?_
  show OGot p.tables e below (T3.setTop (mkF m 102 #[.val (.ref w_FAILED), .val (.ref w_RUNNING)] [(.ref w_RUNNING)])) _
  obtain ⟨T4, X4, e4, st4⟩ := getS2 X3 hx hZ hown (host := "") (Or.inl (ow hw 37 rfl)) Via.refl e3 (G.1.ext O0.2) (g := (mkF m 102 #[.val (.ref w_FAILED), .val (.ref w_RUNNING)] [(.ref w_RUNNING)])) rfl (hb hby d2_102)
  refine OGot.go st4 ?_
  show OGot p.tables e below (T4.setTop (mkF m 105 #[.val (.ref w_FAILED), .val (.ref w_RUNNING)] [(.ref w_PENDING), (.ref w_RUNNING)])) _
  have ne5 : w_RUNNING ≠ w_PENDING := (Fld.ne G.2.2.2.2.2.2.2.2.2.2.2.2.2.2 G.2.2.2.2.2.2.2.2.2.2.1 (by decide))
  refine OGot.go (fun t k => Jvm.RoadKit.acmp (g := (mkF m 105 #[.val (.ref w_FAILED), .val (.ref w_RUNNING)] [(.ref w_PENDING), (.ref w_RUNNING)])) X4 hx rfl rfl rfl (pc0 := 105) (pc' := 112) (same := false) rfl (hb hby d2_105) rfl (decide_eq_false fun q => ne5 (Value.ref.inj q)) (by decide) (by decide) k) ?_
  show OGot p.tables e below (T4.setTop (mkF m 112 #[.val (.ref w_FAILED), .val (.ref w_RUNNING)] [])) _
  refine OGot.go (fun t k => XS.iconst X4.here hx rfl (hb hby d2_112) k) ?_
  show OGot p.tables e below (T4.setTop (mkF m 113 #[.val (.ref w_FAILED), .val (.ref w_RUNNING)] [(.int (0 : Int32))])) _
  refine OGot.go (fun t k => XS.goto X4.here hx rfl (pc0 := 113) (pc' := 117) rfl (hb hby d2_113) (by decide) (by decide) k) ?_
  show OGot p.tables e below (T4.setTop (mkF m 117 #[.val (.ref w_FAILED), .val (.ref w_RUNNING)] [(.int (0 : Int32))])) _
  obtain ⟨fs, hr, hrun, hended, hW, hsame⟩ := X4.leave (v := some (.int (0 : Int32))) (fun h => by rw [Bd.returns] at h; cases h)
  refine ⟨_, _, retN X4 hx (t := .boolean) Bd.returns (by simp) (hb hby d2_117) hr, hrun, hended, _, _, rfl, ?_, ⟨_, rfl⟩, hW, hsame.mono (by decide) (by decide)⟩
  exact (⟨rfl, N3, e4⟩ : Q2_6 Z w_PENDING w_RUNNING w_COMPLETED w_FAILED w_CANCELLED  h0 n0 _ T4.heap _)
def Q2_7 (Z : State) (w_PENDING : Addr) (w_RUNNING : Addr) (w_COMPLETED : Addr) (w_FAILED : Addr) (w_CANCELLED : Addr)  (h0 : Heap) (n0 : Nat) (v : Option Value) (h : Heap) (L : List Loc) : Prop := v = some (.int (0 : Int32)) ∧ Fr n0 L ∧ h = h0
theorem ef2_7 (m : MethodId) (x0 : Addr) (x1 : Addr) : entryFrame m #[(.ref x0), (.ref x1)] 2 = mkF m 0 #[.val (.ref x0), .val (.ref x1)] [] := by first | (simp [entryFrame, mkF, argsToLocals, Value.category]; done) | rfl
set_option maxRecDepth 65536 in
set_option maxHeartbeats 40000000 in
theorem rm2_7 (l : Launch) (Z : State) (a0 : Array Value) (hw : ∀ d ∈ tables_1, d.before a0 Z = true) (ws : List Jvm.Cond) {w_PENDING : Addr} {w_RUNNING : Addr} {w_COMPLETED : Addr} {w_FAILED : Addr} {w_CANCELLED : Addr} (G : Glob Z w_PENDING w_RUNNING w_COMPLETED w_FAILED w_CANCELLED)  (h0 : Heap) (n0 : Nat) (O0 : Old Z n0 h0) :
    MetFree l (⟨"com/example/hermit_crab/hermitcrab/JobState", "canMoveTo", "(Lcom/example/hermit_crab/hermitcrab/JobState;)Z"⟩ : MethodName) (head1 (Jvm.Cond.code (⟨"com/example/hermit_crab/hermitcrab/JobState", "canMoveTo", "(Lcom/example/hermit_crab/hermitcrab/JobState;)Z"⟩ : MethodName) prog_6_method_5_code 2 (some .boolean) :: ws) ({ frames := 1, cells := 0, slots := 0, locals := 12 } : Room)) (fun a U => a = #[(.ref w_FAILED), (.ref w_COMPLETED)] ∧ Z.Warmed39 U.vm ∧ U.heap = h0) (fun _ _ _ _ _ => True) (fun _ U o U' => ∃ v L, o = .returned v ∧ Q2_7 Z w_PENDING w_RUNNING w_COMPLETED w_FAILED w_CANCELLED  h0 n0 v U'.heap L ∧ FrameEnd U o U' L ({ frames := 1, cells := 0, slots := 0, locals := 12 } : Room).cells ({ frames := 1, cells := 0, slots := 0, locals := 12 } : Room).slots) := by
  refine MetFree.of_bodySF (plainFor_of_name pn_com_example_hermit_crab_hermitcrab_JobState) hisR ?_
  intro p e s m args below meth c s₁ Bd hml0 hP hK
  obtain ⟨rfl, hZ, hh⟩ := hP
  have hx := Bd.exec
  have hby := Bd.bytes
  have hml : c.maxLocals = 2 := hml0
  have hown : s.vm.findClass "com/example/hermit_crab/hermitcrab/JobState" = some m.cls := findClass_of_methodNamed Bd.named
  have hnm := (name_of_methodNamed Bd.named Bd.method).1
  have X0 : Stand p l e ({ frames := 1, cells := 0, slots := 0, locals := 12 } : Room) s m #[(.ref w_FAILED), (.ref w_COMPLETED)] below meth c s₁ [] 0 0 := Stand.of_body Bd
  have e0 : s₁.heap = h0 := by rw [← hh, Bd.state]; rfl
  have N0 := Fr.nil n0
  show OGot p.tables e below (s₁.setTop (entryFrame m #[(.ref w_FAILED), (.ref w_COMPLETED)] 2)) _
  refine OGot.go (fun t k => castTop (ef2_7 m w_FAILED w_COMPLETED) k) ?_
  show OGot p.tables e below (s₁.setTop (mkF m 0 #[.val (.ref w_FAILED), .val (.ref w_COMPLETED)] [])) _
  refine OGot.go (fun t k => XS.aloadN X0.here hx rfl (hb hby d2_0) rfl rfl k) ?_
  show OGot p.tables e below (s₁.setTop (mkF m 1 #[.val (.ref w_FAILED), .val (.ref w_COMPLETED)] [(.ref w_FAILED)])) _
  obtain ⟨cq3, kq3, q3a, q3b, q3c⟩ := isOf hZ e0 (G.2.2.2.2.2.2.2.1.ext O0.2)
  obtain ⟨_, _, ⟨T3, L3, k3, n3⟩, -, X3, ⟨Lc3, hQ3, l3, y3, z3⟩, st3⟩ := X0.virtualBackUp hx (x := (⟨"com/example/hermit_crab/hermitcrab/JobState", "ordinal", "()I"⟩ : MethodName)) (y := (⟨"java/lang/Enum", "ordinal", "()I"⟩ : MethodName)) (owner := "java/lang/Enum") hown (mvT hZ (ow hw 28 rfl)) (mvT hZ (ow hw 29 rfl)) (mvT hZ (ow hw 30 rfl)) (by decide) (mvT hZ (ow hw 32 rfl)) (mvT hZ (ow hw 31 rfl)) (backOf (W := 0) (rm3_1 l Z a0 hw [] G  h0 n0 O0 ) hZ (ow hw 34 rfl) (ow hw 33 rfl) (by decide) (by decide)) q3a q3c (g := (mkF m 1 #[.val (.ref w_FAILED), .val (.ref w_COMPLETED)] [(.ref w_FAILED)])) rfl (by rw [hml]; rfl) (Steps.refl _) (argsL := []) (rest := []) (lenOf pd_1 rfl) rfl (by show 2 * 0 + _ ≤ _; exact Nat.le_of_eq rfl) (hb hby d2_1) (fun _ _ => ⟨rfl, e0, (by decide : 0 + 0 ≤ _), (by decide : 0 + 0 ≤ _)⟩)
  dsimp only [Pt.U, Pt.locs, Pt.cells, Pt.slots] at X3 l3 y3 z3 st3 hQ3
  subst l3 y3 z3
  obtain ⟨rfl, N3q, e3⟩ := hQ3
  have N3 := Fr.app N0 N3q
  refine OGot.on st3 ?_
  show OGot p.tables e below (T3.setTop (mkF m 4 #[.val (.ref w_FAILED), .val (.ref w_COMPLETED)] [(.int (3 : Int32))])) _
  refine OGot.go (fun t k => XS.tswIn X3.here hx rfl (pc0 := 4) (pc' := 101) rfl (hb hby d2_4) rfl (by decide) (o := 97) (by decide) (by decide) (by decide) k) ?_
  show OGot p.tables e below (T3.setTop (mkF m 101 #[.val (.ref w_FAILED), .val (.ref w_COMPLETED)] [])) _
  refine OGot.go (fun t k => XS.aloadN X3.here hx rfl (hb hby d2_101) rfl rfl k) ?_
  show OGot p.tables e below (T3.setTop (mkF m 102 #[.val (.ref w_FAILED), .val (.ref w_COMPLETED)] [(.ref w_COMPLETED)])) _
  obtain ⟨T4, X4, e4, st4⟩ := getS2 X3 hx hZ hown (host := "") (Or.inl (ow hw 37 rfl)) Via.refl e3 (G.1.ext O0.2) (g := (mkF m 102 #[.val (.ref w_FAILED), .val (.ref w_COMPLETED)] [(.ref w_COMPLETED)])) rfl (hb hby d2_102)
  refine OGot.go st4 ?_
  show OGot p.tables e below (T4.setTop (mkF m 105 #[.val (.ref w_FAILED), .val (.ref w_COMPLETED)] [(.ref w_PENDING), (.ref w_COMPLETED)])) _
  have ne5 : w_COMPLETED ≠ w_PENDING := (Fld.ne G.2.2.2.2.2.2.2.2.2.2.2.1 G.2.2.2.2.2.2.2.2.2.2.1 (by decide))
  refine OGot.go (fun t k => Jvm.RoadKit.acmp (g := (mkF m 105 #[.val (.ref w_FAILED), .val (.ref w_COMPLETED)] [(.ref w_PENDING), (.ref w_COMPLETED)])) X4 hx rfl rfl rfl (pc0 := 105) (pc' := 112) (same := false) rfl (hb hby d2_105) rfl (decide_eq_false fun q => ne5 (Value.ref.inj q)) (by decide) (by decide) k) ?_
  show OGot p.tables e below (T4.setTop (mkF m 112 #[.val (.ref w_FAILED), .val (.ref w_COMPLETED)] [])) _
  refine OGot.go (fun t k => XS.iconst X4.here hx rfl (hb hby d2_112) k) ?_
  show OGot p.tables e below (T4.setTop (mkF m 113 #[.val (.ref w_FAILED), .val (.ref w_COMPLETED)] [(.int (0 : Int32))])) _
  refine OGot.go (fun t k => XS.goto X4.here hx rfl (pc0 := 113) (pc' := 117) rfl (hb hby d2_113) (by decide) (by decide) k) ?_
  show OGot p.tables e below (T4.setTop (mkF m 117 #[.val (.ref w_FAILED), .val (.ref w_COMPLETED)] [(.int (0 : Int32))])) _
  obtain ⟨fs, hr, hrun, hended, hW, hsame⟩ := X4.leave (v := some (.int (0 : Int32))) (fun h => by rw [Bd.returns] at h; cases h)
  refine ⟨_, _, retN X4 hx (t := .boolean) Bd.returns (by simp) (hb hby d2_117) hr, hrun, hended, _, _, rfl, ?_, ⟨_, rfl⟩, hW, hsame.mono (by decide) (by decide)⟩
  exact (⟨rfl, N3, e4⟩ : Q2_7 Z w_PENDING w_RUNNING w_COMPLETED w_FAILED w_CANCELLED  h0 n0 _ T4.heap _)
def Q2_8 (Z : State) (w_PENDING : Addr) (w_RUNNING : Addr) (w_COMPLETED : Addr) (w_FAILED : Addr) (w_CANCELLED : Addr)  (h0 : Heap) (n0 : Nat) (v : Option Value) (h : Heap) (L : List Loc) : Prop := v = some (.int (0 : Int32)) ∧ Fr n0 L ∧ h = h0
theorem ef2_8 (m : MethodId) (x0 : Addr) : entryFrame m #[(.ref x0), (.ref x0)] 2 = mkF m 0 #[.val (.ref x0), .val (.ref x0)] [] := by first | (simp [entryFrame, mkF, argsToLocals, Value.category]; done) | rfl
set_option maxRecDepth 65536 in
set_option maxHeartbeats 40000000 in
theorem rm2_8 (l : Launch) (Z : State) (a0 : Array Value) (hw : ∀ d ∈ tables_1, d.before a0 Z = true) (ws : List Jvm.Cond) {w_PENDING : Addr} {w_RUNNING : Addr} {w_COMPLETED : Addr} {w_FAILED : Addr} {w_CANCELLED : Addr} (G : Glob Z w_PENDING w_RUNNING w_COMPLETED w_FAILED w_CANCELLED)  (h0 : Heap) (n0 : Nat) (O0 : Old Z n0 h0) :
    MetFree l (⟨"com/example/hermit_crab/hermitcrab/JobState", "canMoveTo", "(Lcom/example/hermit_crab/hermitcrab/JobState;)Z"⟩ : MethodName) (head1 (Jvm.Cond.code (⟨"com/example/hermit_crab/hermitcrab/JobState", "canMoveTo", "(Lcom/example/hermit_crab/hermitcrab/JobState;)Z"⟩ : MethodName) prog_6_method_5_code 2 (some .boolean) :: ws) ({ frames := 1, cells := 0, slots := 0, locals := 12 } : Room)) (fun a U => a = #[(.ref w_FAILED), (.ref w_FAILED)] ∧ Z.Warmed39 U.vm ∧ U.heap = h0) (fun _ _ _ _ _ => True) (fun _ U o U' => ∃ v L, o = .returned v ∧ Q2_8 Z w_PENDING w_RUNNING w_COMPLETED w_FAILED w_CANCELLED  h0 n0 v U'.heap L ∧ FrameEnd U o U' L ({ frames := 1, cells := 0, slots := 0, locals := 12 } : Room).cells ({ frames := 1, cells := 0, slots := 0, locals := 12 } : Room).slots) := by
  refine MetFree.of_bodySF (plainFor_of_name pn_com_example_hermit_crab_hermitcrab_JobState) hisR ?_
  intro p e s m args below meth c s₁ Bd hml0 hP hK
  obtain ⟨rfl, hZ, hh⟩ := hP
  have hx := Bd.exec
  have hby := Bd.bytes
  have hml : c.maxLocals = 2 := hml0
  have hown : s.vm.findClass "com/example/hermit_crab/hermitcrab/JobState" = some m.cls := findClass_of_methodNamed Bd.named
  have hnm := (name_of_methodNamed Bd.named Bd.method).1
  have X0 : Stand p l e ({ frames := 1, cells := 0, slots := 0, locals := 12 } : Room) s m #[(.ref w_FAILED), (.ref w_FAILED)] below meth c s₁ [] 0 0 := Stand.of_body Bd
  have e0 : s₁.heap = h0 := by rw [← hh, Bd.state]; rfl
  have N0 := Fr.nil n0
  show OGot p.tables e below (s₁.setTop (entryFrame m #[(.ref w_FAILED), (.ref w_FAILED)] 2)) _
  refine OGot.go (fun t k => castTop (ef2_8 m w_FAILED) k) ?_
  show OGot p.tables e below (s₁.setTop (mkF m 0 #[.val (.ref w_FAILED), .val (.ref w_FAILED)] [])) _
  refine OGot.go (fun t k => XS.aloadN X0.here hx rfl (hb hby d2_0) rfl rfl k) ?_
  show OGot p.tables e below (s₁.setTop (mkF m 1 #[.val (.ref w_FAILED), .val (.ref w_FAILED)] [(.ref w_FAILED)])) _
  obtain ⟨cq2, kq2, q2a, q2b, q2c⟩ := isOf hZ e0 (G.2.2.2.2.2.2.2.1.ext O0.2)
  obtain ⟨_, _, ⟨T2, L2, k2, n2⟩, -, X2, ⟨Lc2, hQ2, l2, y2, z2⟩, st2⟩ := X0.virtualBackUp hx (x := (⟨"com/example/hermit_crab/hermitcrab/JobState", "ordinal", "()I"⟩ : MethodName)) (y := (⟨"java/lang/Enum", "ordinal", "()I"⟩ : MethodName)) (owner := "java/lang/Enum") hown (mvT hZ (ow hw 28 rfl)) (mvT hZ (ow hw 29 rfl)) (mvT hZ (ow hw 30 rfl)) (by decide) (mvT hZ (ow hw 32 rfl)) (mvT hZ (ow hw 31 rfl)) (backOf (W := 0) (rm3_1 l Z a0 hw [] G  h0 n0 O0 ) hZ (ow hw 34 rfl) (ow hw 33 rfl) (by decide) (by decide)) q2a q2c (g := (mkF m 1 #[.val (.ref w_FAILED), .val (.ref w_FAILED)] [(.ref w_FAILED)])) rfl (by rw [hml]; rfl) (Steps.refl _) (argsL := []) (rest := []) (lenOf pd_1 rfl) rfl (by show 2 * 0 + _ ≤ _; exact Nat.le_of_eq rfl) (hb hby d2_1) (fun _ _ => ⟨rfl, e0, (by decide : 0 + 0 ≤ _), (by decide : 0 + 0 ≤ _)⟩)
  dsimp only [Pt.U, Pt.locs, Pt.cells, Pt.slots] at X2 l2 y2 z2 st2 hQ2
  subst l2 y2 z2
  obtain ⟨rfl, N2q, e2⟩ := hQ2
  have N2 := Fr.app N0 N2q
  refine OGot.on st2 ?_
  show OGot p.tables e below (T2.setTop (mkF m 4 #[.val (.ref w_FAILED), .val (.ref w_FAILED)] [(.int (3 : Int32))])) _
  refine OGot.go (fun t k => XS.tswIn X2.here hx rfl (pc0 := 4) (pc' := 101) rfl (hb hby d2_4) rfl (by decide) (o := 97) (by decide) (by decide) (by decide) k) ?_
  show OGot p.tables e below (T2.setTop (mkF m 101 #[.val (.ref w_FAILED), .val (.ref w_FAILED)] [])) _
  refine OGot.go (fun t k => XS.aloadN X2.here hx rfl (hb hby d2_101) rfl rfl k) ?_
  show OGot p.tables e below (T2.setTop (mkF m 102 #[.val (.ref w_FAILED), .val (.ref w_FAILED)] [(.ref w_FAILED)])) _
  obtain ⟨T3, X3, e3, st3⟩ := getS2 X2 hx hZ hown (host := "") (Or.inl (ow hw 37 rfl)) Via.refl e2 (G.1.ext O0.2) (g := (mkF m 102 #[.val (.ref w_FAILED), .val (.ref w_FAILED)] [(.ref w_FAILED)])) rfl (hb hby d2_102)
  refine OGot.go st3 ?_
  show OGot p.tables e below (T3.setTop (mkF m 105 #[.val (.ref w_FAILED), .val (.ref w_FAILED)] [(.ref w_PENDING), (.ref w_FAILED)])) _
  have ne4 : w_FAILED ≠ w_PENDING := (Fld.ne G.2.2.2.2.2.2.2.2.2.2.2.2.1 G.2.2.2.2.2.2.2.2.2.2.1 (by decide))
  refine OGot.go (fun t k => Jvm.RoadKit.acmp (g := (mkF m 105 #[.val (.ref w_FAILED), .val (.ref w_FAILED)] [(.ref w_PENDING), (.ref w_FAILED)])) X3 hx rfl rfl rfl (pc0 := 105) (pc' := 112) (same := false) rfl (hb hby d2_105) rfl (decide_eq_false fun q => ne4 (Value.ref.inj q)) (by decide) (by decide) k) ?_
  show OGot p.tables e below (T3.setTop (mkF m 112 #[.val (.ref w_FAILED), .val (.ref w_FAILED)] [])) _
  refine OGot.go (fun t k => XS.iconst X3.here hx rfl (hb hby d2_112) k) ?_
  show OGot p.tables e below (T3.setTop (mkF m 113 #[.val (.ref w_FAILED), .val (.ref w_FAILED)] [(.int (0 : Int32))])) _
  refine OGot.go (fun t k => XS.goto X3.here hx rfl (pc0 := 113) (pc' := 117) rfl (hb hby d2_113) (by decide) (by decide) k) ?_
  show OGot p.tables e below (T3.setTop (mkF m 117 #[.val (.ref w_FAILED), .val (.ref w_FAILED)] [(.int (0 : Int32))])) _
  obtain ⟨fs, hr, hrun, hended, hW, hsame⟩ := X3.leave (v := some (.int (0 : Int32))) (fun h => by rw [Bd.returns] at h; cases h)
  refine ⟨_, _, retN X3 hx (t := .boolean) Bd.returns (by simp) (hb hby d2_117) hr, hrun, hended, _, _, rfl, ?_, ⟨_, rfl⟩, hW, hsame.mono (by decide) (by decide)⟩
  exact (⟨rfl, N2, e3⟩ : Q2_8 Z w_PENDING w_RUNNING w_COMPLETED w_FAILED w_CANCELLED  h0 n0 _ T3.heap _)
def Q2_9 (Z : State) (w_PENDING : Addr) (w_RUNNING : Addr) (w_COMPLETED : Addr) (w_FAILED : Addr) (w_CANCELLED : Addr)  (h0 : Heap) (n0 : Nat) (v : Option Value) (h : Heap) (L : List Loc) : Prop := v = some (.int (0 : Int32)) ∧ Fr n0 L ∧ h = h0
theorem ef2_9 (m : MethodId) (x0 : Addr) (x1 : Addr) : entryFrame m #[(.ref x0), (.ref x1)] 2 = mkF m 0 #[.val (.ref x0), .val (.ref x1)] [] := by first | (simp [entryFrame, mkF, argsToLocals, Value.category]; done) | rfl
set_option maxRecDepth 65536 in
set_option maxHeartbeats 40000000 in
theorem rm2_9 (l : Launch) (Z : State) (a0 : Array Value) (hw : ∀ d ∈ tables_1, d.before a0 Z = true) (ws : List Jvm.Cond) {w_PENDING : Addr} {w_RUNNING : Addr} {w_COMPLETED : Addr} {w_FAILED : Addr} {w_CANCELLED : Addr} (G : Glob Z w_PENDING w_RUNNING w_COMPLETED w_FAILED w_CANCELLED)  (h0 : Heap) (n0 : Nat) (O0 : Old Z n0 h0) :
    MetFree l (⟨"com/example/hermit_crab/hermitcrab/JobState", "canMoveTo", "(Lcom/example/hermit_crab/hermitcrab/JobState;)Z"⟩ : MethodName) (head1 (Jvm.Cond.code (⟨"com/example/hermit_crab/hermitcrab/JobState", "canMoveTo", "(Lcom/example/hermit_crab/hermitcrab/JobState;)Z"⟩ : MethodName) prog_6_method_5_code 2 (some .boolean) :: ws) ({ frames := 1, cells := 0, slots := 0, locals := 12 } : Room)) (fun a U => a = #[(.ref w_FAILED), (.ref w_CANCELLED)] ∧ Z.Warmed39 U.vm ∧ U.heap = h0) (fun _ _ _ _ _ => True) (fun _ U o U' => ∃ v L, o = .returned v ∧ Q2_9 Z w_PENDING w_RUNNING w_COMPLETED w_FAILED w_CANCELLED  h0 n0 v U'.heap L ∧ FrameEnd U o U' L ({ frames := 1, cells := 0, slots := 0, locals := 12 } : Room).cells ({ frames := 1, cells := 0, slots := 0, locals := 12 } : Room).slots) := by
  refine MetFree.of_bodySF (plainFor_of_name pn_com_example_hermit_crab_hermitcrab_JobState) hisR ?_
  intro p e s m args below meth c s₁ Bd hml0 hP hK
  obtain ⟨rfl, hZ, hh⟩ := hP
  have hx := Bd.exec
  have hby := Bd.bytes
  have hml : c.maxLocals = 2 := hml0
  have hown : s.vm.findClass "com/example/hermit_crab/hermitcrab/JobState" = some m.cls := findClass_of_methodNamed Bd.named
  have hnm := (name_of_methodNamed Bd.named Bd.method).1
  have X0 : Stand p l e ({ frames := 1, cells := 0, slots := 0, locals := 12 } : Room) s m #[(.ref w_FAILED), (.ref w_CANCELLED)] below meth c s₁ [] 0 0 := Stand.of_body Bd
  have e0 : s₁.heap = h0 := by rw [← hh, Bd.state]; rfl
  have N0 := Fr.nil n0
  show OGot p.tables e below (s₁.setTop (entryFrame m #[(.ref w_FAILED), (.ref w_CANCELLED)] 2)) _
  refine OGot.go (fun t k => castTop (ef2_9 m w_FAILED w_CANCELLED) k) ?_
  show OGot p.tables e below (s₁.setTop (mkF m 0 #[.val (.ref w_FAILED), .val (.ref w_CANCELLED)] [])) _
  refine OGot.go (fun t k => XS.aloadN X0.here hx rfl (hb hby d2_0) rfl rfl k) ?_
  show OGot p.tables e below (s₁.setTop (mkF m 1 #[.val (.ref w_FAILED), .val (.ref w_CANCELLED)] [(.ref w_FAILED)])) _
  obtain ⟨cq3, kq3, q3a, q3b, q3c⟩ := isOf hZ e0 (G.2.2.2.2.2.2.2.1.ext O0.2)
  obtain ⟨_, _, ⟨T3, L3, k3, n3⟩, -, X3, ⟨Lc3, hQ3, l3, y3, z3⟩, st3⟩ := X0.virtualBackUp hx (x := (⟨"com/example/hermit_crab/hermitcrab/JobState", "ordinal", "()I"⟩ : MethodName)) (y := (⟨"java/lang/Enum", "ordinal", "()I"⟩ : MethodName)) (owner := "java/lang/Enum") hown (mvT hZ (ow hw 28 rfl)) (mvT hZ (ow hw 29 rfl)) (mvT hZ (ow hw 30 rfl)) (by decide) (mvT hZ (ow hw 32 rfl)) (mvT hZ (ow hw 31 rfl)) (backOf (W := 0) (rm3_1 l Z a0 hw [] G  h0 n0 O0 ) hZ (ow hw 34 rfl) (ow hw 33 rfl) (by decide) (by decide)) q3a q3c (g := (mkF m 1 #[.val (.ref w_FAILED), .val (.ref w_CANCELLED)] [(.ref w_FAILED)])) rfl (by rw [hml]; rfl) (Steps.refl _) (argsL := []) (rest := []) (lenOf pd_1 rfl) rfl (by show 2 * 0 + _ ≤ _; exact Nat.le_of_eq rfl) (hb hby d2_1) (fun _ _ => ⟨rfl, e0, (by decide : 0 + 0 ≤ _), (by decide : 0 + 0 ≤ _)⟩)
  dsimp only [Pt.U, Pt.locs, Pt.cells, Pt.slots] at X3 l3 y3 z3 st3 hQ3
  subst l3 y3 z3
  obtain ⟨rfl, N3q, e3⟩ := hQ3
  have N3 := Fr.app N0 N3q
  refine OGot.on st3 ?_
  show OGot p.tables e below (T3.setTop (mkF m 4 #[.val (.ref w_FAILED), .val (.ref w_CANCELLED)] [(.int (3 : Int32))])) _
  refine OGot.go (fun t k => XS.tswIn X3.here hx rfl (pc0 := 4) (pc' := 101) rfl (hb hby d2_4) rfl (by decide) (o := 97) (by decide) (by decide) (by decide) k) ?_
  show OGot p.tables e below (T3.setTop (mkF m 101 #[.val (.ref w_FAILED), .val (.ref w_CANCELLED)] [])) _
  refine OGot.go (fun t k => XS.aloadN X3.here hx rfl (hb hby d2_101) rfl rfl k) ?_
  show OGot p.tables e below (T3.setTop (mkF m 102 #[.val (.ref w_FAILED), .val (.ref w_CANCELLED)] [(.ref w_CANCELLED)])) _
  obtain ⟨T4, X4, e4, st4⟩ := getS2 X3 hx hZ hown (host := "") (Or.inl (ow hw 37 rfl)) Via.refl e3 (G.1.ext O0.2) (g := (mkF m 102 #[.val (.ref w_FAILED), .val (.ref w_CANCELLED)] [(.ref w_CANCELLED)])) rfl (hb hby d2_102)
  refine OGot.go st4 ?_
  show OGot p.tables e below (T4.setTop (mkF m 105 #[.val (.ref w_FAILED), .val (.ref w_CANCELLED)] [(.ref w_PENDING), (.ref w_CANCELLED)])) _
  have ne5 : w_CANCELLED ≠ w_PENDING := (Fld.ne G.2.2.2.2.2.2.2.2.2.2.2.2.2.1 G.2.2.2.2.2.2.2.2.2.2.1 (by decide))
  refine OGot.go (fun t k => Jvm.RoadKit.acmp (g := (mkF m 105 #[.val (.ref w_FAILED), .val (.ref w_CANCELLED)] [(.ref w_PENDING), (.ref w_CANCELLED)])) X4 hx rfl rfl rfl (pc0 := 105) (pc' := 112) (same := false) rfl (hb hby d2_105) rfl (decide_eq_false fun q => ne5 (Value.ref.inj q)) (by decide) (by decide) k) ?_
  show OGot p.tables e below (T4.setTop (mkF m 112 #[.val (.ref w_FAILED), .val (.ref w_CANCELLED)] [])) _
  refine OGot.go (fun t k => XS.iconst X4.here hx rfl (hb hby d2_112) k) ?_
  show OGot p.tables e below (T4.setTop (mkF m 113 #[.val (.ref w_FAILED), .val (.ref w_CANCELLED)] [(.int (0 : Int32))])) _
  refine OGot.go (fun t k => XS.goto X4.here hx rfl (pc0 := 113) (pc' := 117) rfl (hb hby d2_113) (by decide) (by decide) k) ?_
  show OGot p.tables e below (T4.setTop (mkF m 117 #[.val (.ref w_FAILED), .val (.ref w_CANCELLED)] [(.int (0 : Int32))])) _
  obtain ⟨fs, hr, hrun, hended, hW, hsame⟩ := X4.leave (v := some (.int (0 : Int32))) (fun h => by rw [Bd.returns] at h; cases h)
  refine ⟨_, _, retN X4 hx (t := .boolean) Bd.returns (by simp) (hb hby d2_117) hr, hrun, hended, _, _, rfl, ?_, ⟨_, rfl⟩, hW, hsame.mono (by decide) (by decide)⟩
  exact (⟨rfl, N3, e4⟩ : Q2_9 Z w_PENDING w_RUNNING w_COMPLETED w_FAILED w_CANCELLED  h0 n0 _ T4.heap _)
def Q1_4 (Z : State) (w_PENDING : Addr) (w_RUNNING : Addr) (w_COMPLETED : Addr) (w_FAILED : Addr) (w_CANCELLED : Addr)  (h0 : Heap) (n0 : Nat) (v : Option Value) (h : Heap) (L : List Loc) : Prop := v = some (.int (1 : Int32)) ∧ Fr n0 L ∧ h = h0
theorem ef1_4 (m : MethodId) (x0 : Addr) : entryFrame m #[(.ref x0)] 1 = mkF m 0 #[.val (.ref x0)] [] := by first | (simp [entryFrame, mkF, argsToLocals, Value.category]; done) | rfl
set_option maxRecDepth 65536 in
set_option maxHeartbeats 40000000 in
theorem rm1_4 (l : Launch) (Z : State) (a0 : Array Value) (hw : ∀ d ∈ tables_1, d.before a0 Z = true) (ws : List Jvm.Cond) {w_PENDING : Addr} {w_RUNNING : Addr} {w_COMPLETED : Addr} {w_FAILED : Addr} {w_CANCELLED : Addr} (G : Glob Z w_PENDING w_RUNNING w_COMPLETED w_FAILED w_CANCELLED)  (h0 : Heap) (n0 : Nat) (O0 : Old Z n0 h0) :
    MetFree l (⟨"com/example/hermit_crab/hermitcrab/JobState", "isFinal", "()Z"⟩ : MethodName) (head1 (Jvm.Cond.code (⟨"com/example/hermit_crab/hermitcrab/JobState", "isFinal", "()Z"⟩ : MethodName) prog_6_method_4_code 1 (some .boolean) :: ws) ({ frames := 0, cells := 0, slots := 0, locals := 0 } : Room)) (fun a U => a = #[(.ref w_CANCELLED)] ∧ Z.Warmed39 U.vm ∧ U.heap = h0) (fun _ _ _ _ _ => True) (fun _ U o U' => ∃ v L, o = .returned v ∧ Q1_4 Z w_PENDING w_RUNNING w_COMPLETED w_FAILED w_CANCELLED  h0 n0 v U'.heap L ∧ FrameEnd U o U' L ({ frames := 0, cells := 0, slots := 0, locals := 0 } : Room).cells ({ frames := 0, cells := 0, slots := 0, locals := 0 } : Room).slots) := by
  refine MetFree.of_bodySF (plainFor_of_name pn_com_example_hermit_crab_hermitcrab_JobState) hisR ?_
  intro p e s m args below meth c s₁ Bd hml0 hP hK
  obtain ⟨rfl, hZ, hh⟩ := hP
  have hx := Bd.exec
  have hby := Bd.bytes
  have hml : c.maxLocals = 1 := hml0
  have hown : s.vm.findClass "com/example/hermit_crab/hermitcrab/JobState" = some m.cls := findClass_of_methodNamed Bd.named
  have hnm := (name_of_methodNamed Bd.named Bd.method).1
  have X0 : Stand p l e ({ frames := 0, cells := 0, slots := 0, locals := 0 } : Room) s m #[(.ref w_CANCELLED)] below meth c s₁ [] 0 0 := Stand.of_body Bd
  have e0 : s₁.heap = h0 := by rw [← hh, Bd.state]; rfl
  have N0 := Fr.nil n0
  show OGot p.tables e below (s₁.setTop (entryFrame m #[(.ref w_CANCELLED)] 1)) _
  refine OGot.go (fun t k => castTop (ef1_4 m w_CANCELLED) k) ?_
  show OGot p.tables e below (s₁.setTop (mkF m 0 #[.val (.ref w_CANCELLED)] [])) _
  refine OGot.go (fun t k => XS.aloadN X0.here hx rfl (hb hby d1_0) rfl rfl k) ?_
  show OGot p.tables e below (s₁.setTop (mkF m 1 #[.val (.ref w_CANCELLED)] [(.ref w_CANCELLED)])) _
  obtain ⟨T2, X2, e2, st2⟩ := getS2 X0 hx hZ hown (host := "") (Or.inl (ow hw 20 rfl)) Via.refl e0 (G.2.2.2.2.1.ext O0.2) (g := (mkF m 1 #[.val (.ref w_CANCELLED)] [(.ref w_CANCELLED)])) rfl (hb hby d1_1)
  refine OGot.go st2 ?_
  show OGot p.tables e below (T2.setTop (mkF m 4 #[.val (.ref w_CANCELLED)] [(.ref w_COMPLETED), (.ref w_CANCELLED)])) _
  have ne3 : w_CANCELLED ≠ w_COMPLETED := (Fld.ne G.2.2.2.2.2.2.2.2.2.2.2.2.2.1 G.2.2.2.2.2.2.2.2.2.2.2.1 (by decide))
  refine OGot.go (fun t k => Jvm.RoadKit.acmp (g := (mkF m 4 #[.val (.ref w_CANCELLED)] [(.ref w_COMPLETED), (.ref w_CANCELLED)])) X2 hx rfl rfl rfl (pc0 := 4) (pc' := 7) (same := false) rfl (hb hby d1_4) rfl (decide_eq_false fun q => ne3 (Value.ref.inj q)) (by decide) (by decide) k) ?_
  show OGot p.tables e below (T2.setTop (mkF m 7 #[.val (.ref w_CANCELLED)] [])) _
  refine OGot.go (fun t k => XS.aloadN X2.here hx rfl (hb hby d1_7) rfl rfl k) ?_
  show OGot p.tables e below (T2.setTop (mkF m 8 #[.val (.ref w_CANCELLED)] [(.ref w_CANCELLED)])) _
  obtain ⟨T4, X4, e4, st4⟩ := getS2 X2 hx hZ hown (host := "") (Or.inl (ow hw 21 rfl)) Via.refl e2 (G.2.2.2.2.2.2.1.ext O0.2) (g := (mkF m 8 #[.val (.ref w_CANCELLED)] [(.ref w_CANCELLED)])) rfl (hb hby d1_8)
  refine OGot.go st4 ?_
  show OGot p.tables e below (T4.setTop (mkF m 11 #[.val (.ref w_CANCELLED)] [(.ref w_FAILED), (.ref w_CANCELLED)])) _
  have ne5 : w_CANCELLED ≠ w_FAILED := (Fld.ne G.2.2.2.2.2.2.2.2.2.2.2.2.2.1 G.2.2.2.2.2.2.2.2.2.2.2.2.1 (by decide))
  refine OGot.go (fun t k => Jvm.RoadKit.acmp (g := (mkF m 11 #[.val (.ref w_CANCELLED)] [(.ref w_FAILED), (.ref w_CANCELLED)])) X4 hx rfl rfl rfl (pc0 := 11) (pc' := 14) (same := false) rfl (hb hby d1_11) rfl (decide_eq_false fun q => ne5 (Value.ref.inj q)) (by decide) (by decide) k) ?_
  show OGot p.tables e below (T4.setTop (mkF m 14 #[.val (.ref w_CANCELLED)] [])) _
  refine OGot.go (fun t k => XS.aloadN X4.here hx rfl (hb hby d1_14) rfl rfl k) ?_
  show OGot p.tables e below (T4.setTop (mkF m 15 #[.val (.ref w_CANCELLED)] [(.ref w_CANCELLED)])) _
  obtain ⟨T6, X6, e6, st6⟩ := getS2 X4 hx hZ hown (host := "") (Or.inl (ow hw 22 rfl)) Via.refl e4 (G.2.2.2.2.2.2.2.2.1.ext O0.2) (g := (mkF m 15 #[.val (.ref w_CANCELLED)] [(.ref w_CANCELLED)])) rfl (hb hby d1_15)
  refine OGot.go st6 ?_
  show OGot p.tables e below (T6.setTop (mkF m 18 #[.val (.ref w_CANCELLED)] [(.ref w_CANCELLED), (.ref w_CANCELLED)])) _
  refine OGot.go (fun t k => Jvm.RoadKit.acmp (g := (mkF m 18 #[.val (.ref w_CANCELLED)] [(.ref w_CANCELLED), (.ref w_CANCELLED)])) X6 hx rfl rfl rfl (pc0 := 18) (pc' := 21) (same := true) rfl (hb hby d1_18) rfl (decide_eq_true rfl) (by decide) (by decide) k) ?_
  show OGot p.tables e below (T6.setTop (mkF m 21 #[.val (.ref w_CANCELLED)] [])) _
  refine OGot.go (fun t k => XS.iconst X6.here hx rfl (hb hby d1_21) k) ?_
  show OGot p.tables e below (T6.setTop (mkF m 22 #[.val (.ref w_CANCELLED)] [(.int (1 : Int32))])) _
  refine OGot.go (fun t k => XS.goto X6.here hx rfl (pc0 := 22) (pc' := 26) rfl (hb hby d1_22) (by decide) (by decide) k) ?_
  show OGot p.tables e below (T6.setTop (mkF m 26 #[.val (.ref w_CANCELLED)] [(.int (1 : Int32))])) _
  obtain ⟨fs, hr, hrun, hended, hW, hsame⟩ := X6.leave (v := some (.int (1 : Int32))) (fun h => by rw [Bd.returns] at h; cases h)
  refine ⟨_, _, retN X6 hx (t := .boolean) Bd.returns (by simp) (hb hby d1_26) hr, hrun, hended, _, _, rfl, ?_, ⟨_, rfl⟩, hW, hsame.mono (by decide) (by decide)⟩
  exact (⟨rfl, N0, e6⟩ : Q1_4 Z w_PENDING w_RUNNING w_COMPLETED w_FAILED w_CANCELLED  h0 n0 _ T6.heap _)
def Q3_2 (Z : State) (w_PENDING : Addr) (w_RUNNING : Addr) (w_COMPLETED : Addr) (w_FAILED : Addr) (w_CANCELLED : Addr)  (h0 : Heap) (n0 : Nat) (v : Option Value) (h : Heap) (L : List Loc) : Prop := v = some (.int (4 : Int32)) ∧ Fr n0 L ∧ h = h0
theorem ef3_2 (m : MethodId) (x0 : Addr) : entryFrame m #[(.ref x0)] 1 = mkF m 0 #[.val (.ref x0)] [] := by first | (simp [entryFrame, mkF, argsToLocals, Value.category]; done) | rfl
set_option maxRecDepth 65536 in
set_option maxHeartbeats 40000000 in
theorem rm3_2 (l : Launch) (Z : State) (a0 : Array Value) (hw : ∀ d ∈ tables_1, d.before a0 Z = true) (ws : List Jvm.Cond) {w_PENDING : Addr} {w_RUNNING : Addr} {w_COMPLETED : Addr} {w_FAILED : Addr} {w_CANCELLED : Addr} (G : Glob Z w_PENDING w_RUNNING w_COMPLETED w_FAILED w_CANCELLED)  (h0 : Heap) (n0 : Nat) (O0 : Old Z n0 h0) :
    MetFree l (⟨"java/lang/Enum", "ordinal", "()I"⟩ : MethodName) (head1 (Jvm.Cond.code (⟨"java/lang/Enum", "ordinal", "()I"⟩ : MethodName) jdk_37_method_2_code 1 (some .int) :: ws) ({ frames := 0, cells := 0, slots := 0, locals := 0 } : Room)) (fun a U => a = #[(.ref w_CANCELLED)] ∧ Z.Warmed39 U.vm ∧ U.heap = h0) (fun _ _ _ _ _ => True) (fun _ U o U' => ∃ v L, o = .returned v ∧ Q3_2 Z w_PENDING w_RUNNING w_COMPLETED w_FAILED w_CANCELLED  h0 n0 v U'.heap L ∧ FrameEnd U o U' L ({ frames := 0, cells := 0, slots := 0, locals := 0 } : Room).cells ({ frames := 0, cells := 0, slots := 0, locals := 0 } : Room).slots) := by
  refine MetFree.of_bodySF (plainFor_of_name pn_java_lang_Enum) hisR ?_
  intro p e s m args below meth c s₁ Bd hml0 hP hK
  obtain ⟨rfl, hZ, hh⟩ := hP
  have hx := Bd.exec
  have hby := Bd.bytes
  have hml : c.maxLocals = 1 := hml0
  have hown : s.vm.findClass "java/lang/Enum" = some m.cls := findClass_of_methodNamed Bd.named
  have hnm := (name_of_methodNamed Bd.named Bd.method).1
  have X0 : Stand p l e ({ frames := 0, cells := 0, slots := 0, locals := 0 } : Room) s m #[(.ref w_CANCELLED)] below meth c s₁ [] 0 0 := Stand.of_body Bd
  have e0 : s₁.heap = h0 := by rw [← hh, Bd.state]; rfl
  have N0 := Fr.nil n0
  show OGot p.tables e below (s₁.setTop (entryFrame m #[(.ref w_CANCELLED)] 1)) _
  refine OGot.go (fun t k => castTop (ef3_2 m w_CANCELLED) k) ?_
  show OGot p.tables e below (s₁.setTop (mkF m 0 #[.val (.ref w_CANCELLED)] [])) _
  refine OGot.go (fun t k => XS.aloadN X0.here hx rfl (hb hby d3_0) rfl rfl k) ?_
  show OGot p.tables e below (s₁.setTop (mkF m 1 #[.val (.ref w_CANCELLED)] [(.ref w_CANCELLED)])) _
  obtain ⟨T2, X2, e2, st2⟩ := getF X0 hx hZ hown (host := "") (Or.inl (ow hw 35 rfl)) Via.refl e0 (G.2.2.2.2.2.2.2.2.2.2.2.2.2.1.ext O0.2) (g := (mkF m 1 #[.val (.ref w_CANCELLED)] [(.ref w_CANCELLED)])) rfl rfl (hb hby d3_1)
  refine OGot.go st2 ?_
  show OGot p.tables e below (T2.setTop (mkF m 4 #[.val (.ref w_CANCELLED)] [(.int (4 : Int32))])) _
  obtain ⟨fs, hr, hrun, hended, hW, hsame⟩ := X2.leave (v := some (.int (4 : Int32))) (fun h => by rw [Bd.returns] at h; cases h)
  refine ⟨_, _, retI X2 hx Bd.returns (hb hby d3_4) hr, hrun, hended, _, _, rfl, ?_, ⟨_, rfl⟩, hW, hsame.mono (by decide) (by decide)⟩
  exact (⟨rfl, N0, e2⟩ : Q3_2 Z w_PENDING w_RUNNING w_COMPLETED w_FAILED w_CANCELLED  h0 n0 _ T2.heap _)
def Q2_10 (Z : State) (w_PENDING : Addr) (w_RUNNING : Addr) (w_COMPLETED : Addr) (w_FAILED : Addr) (w_CANCELLED : Addr)  (h0 : Heap) (n0 : Nat) (v : Option Value) (h : Heap) (L : List Loc) : Prop := v = some (.int (0 : Int32)) ∧ Fr n0 L ∧ h = h0
theorem ef2_10 (m : MethodId) (x0 : Addr) (x1 : Addr) : entryFrame m #[(.ref x0), (.ref x1)] 2 = mkF m 0 #[.val (.ref x0), .val (.ref x1)] [] := by first | (simp [entryFrame, mkF, argsToLocals, Value.category]; done) | rfl
set_option maxRecDepth 65536 in
set_option maxHeartbeats 40000000 in
theorem rm2_10 (l : Launch) (Z : State) (a0 : Array Value) (hw : ∀ d ∈ tables_1, d.before a0 Z = true) (ws : List Jvm.Cond) {w_PENDING : Addr} {w_RUNNING : Addr} {w_COMPLETED : Addr} {w_FAILED : Addr} {w_CANCELLED : Addr} (G : Glob Z w_PENDING w_RUNNING w_COMPLETED w_FAILED w_CANCELLED)  (h0 : Heap) (n0 : Nat) (O0 : Old Z n0 h0) :
    MetFree l (⟨"com/example/hermit_crab/hermitcrab/JobState", "canMoveTo", "(Lcom/example/hermit_crab/hermitcrab/JobState;)Z"⟩ : MethodName) (head1 (Jvm.Cond.code (⟨"com/example/hermit_crab/hermitcrab/JobState", "canMoveTo", "(Lcom/example/hermit_crab/hermitcrab/JobState;)Z"⟩ : MethodName) prog_6_method_5_code 2 (some .boolean) :: ws) ({ frames := 1, cells := 0, slots := 0, locals := 12 } : Room)) (fun a U => a = #[(.ref w_CANCELLED), (.ref w_PENDING)] ∧ Z.Warmed39 U.vm ∧ U.heap = h0) (fun _ _ _ _ _ => True) (fun _ U o U' => ∃ v L, o = .returned v ∧ Q2_10 Z w_PENDING w_RUNNING w_COMPLETED w_FAILED w_CANCELLED  h0 n0 v U'.heap L ∧ FrameEnd U o U' L ({ frames := 1, cells := 0, slots := 0, locals := 12 } : Room).cells ({ frames := 1, cells := 0, slots := 0, locals := 12 } : Room).slots) := by
  refine MetFree.of_bodySF (plainFor_of_name pn_com_example_hermit_crab_hermitcrab_JobState) hisR ?_
  intro p e s m args below meth c s₁ Bd hml0 hP hK
  obtain ⟨rfl, hZ, hh⟩ := hP
  have hx := Bd.exec
  have hby := Bd.bytes
  have hml : c.maxLocals = 2 := hml0
  have hown : s.vm.findClass "com/example/hermit_crab/hermitcrab/JobState" = some m.cls := findClass_of_methodNamed Bd.named
  have hnm := (name_of_methodNamed Bd.named Bd.method).1
  have X0 : Stand p l e ({ frames := 1, cells := 0, slots := 0, locals := 12 } : Room) s m #[(.ref w_CANCELLED), (.ref w_PENDING)] below meth c s₁ [] 0 0 := Stand.of_body Bd
  have e0 : s₁.heap = h0 := by rw [← hh, Bd.state]; rfl
  have N0 := Fr.nil n0
  show OGot p.tables e below (s₁.setTop (entryFrame m #[(.ref w_CANCELLED), (.ref w_PENDING)] 2)) _
  refine OGot.go (fun t k => castTop (ef2_10 m w_CANCELLED w_PENDING) k) ?_
  show OGot p.tables e below (s₁.setTop (mkF m 0 #[.val (.ref w_CANCELLED), .val (.ref w_PENDING)] [])) _
  refine OGot.go (fun t k => XS.aloadN X0.here hx rfl (hb hby d2_0) rfl rfl k) ?_
  show OGot p.tables e below (s₁.setTop (mkF m 1 #[.val (.ref w_CANCELLED), .val (.ref w_PENDING)] [(.ref w_CANCELLED)])) _
  obtain ⟨cq3, kq3, q3a, q3b, q3c⟩ := isOf hZ e0 (G.2.2.2.2.2.2.2.2.2.1.ext O0.2)
  obtain ⟨_, _, ⟨T3, L3, k3, n3⟩, -, X3, ⟨Lc3, hQ3, l3, y3, z3⟩, st3⟩ := X0.virtualBackUp hx (x := (⟨"com/example/hermit_crab/hermitcrab/JobState", "ordinal", "()I"⟩ : MethodName)) (y := (⟨"java/lang/Enum", "ordinal", "()I"⟩ : MethodName)) (owner := "java/lang/Enum") hown (mvT hZ (ow hw 28 rfl)) (mvT hZ (ow hw 29 rfl)) (mvT hZ (ow hw 30 rfl)) (by decide) (mvT hZ (ow hw 32 rfl)) (mvT hZ (ow hw 31 rfl)) (backOf (W := 0) (rm3_2 l Z a0 hw [] G  h0 n0 O0 ) hZ (ow hw 34 rfl) (ow hw 33 rfl) (by decide) (by decide)) q3a q3c (g := (mkF m 1 #[.val (.ref w_CANCELLED), .val (.ref w_PENDING)] [(.ref w_CANCELLED)])) rfl (by rw [hml]; rfl) (Steps.refl _) (argsL := []) (rest := []) (lenOf pd_1 rfl) rfl (by show 2 * 0 + _ ≤ _; exact Nat.le_of_eq rfl) (hb hby d2_1) (fun _ _ => ⟨rfl, e0, (by decide : 0 + 0 ≤ _), (by decide : 0 + 0 ≤ _)⟩)
  dsimp only [Pt.U, Pt.locs, Pt.cells, Pt.slots] at X3 l3 y3 z3 st3 hQ3
  subst l3 y3 z3
  obtain ⟨rfl, N3q, e3⟩ := hQ3
  have N3 := Fr.app N0 N3q
  refine OGot.on st3 ?_
  show OGot p.tables e below (T3.setTop (mkF m 4 #[.val (.ref w_CANCELLED), .val (.ref w_PENDING)] [(.int (4 : Int32))])) _
  refine OGot.go (fun t k => XS.tswIn X3.here hx rfl (pc0 := 4) (pc' := 116) rfl (hb hby d2_4) rfl (by decide) (o := 112) (by decide) (by decide) (by decide) k) ?_
  show OGot p.tables e below (T3.setTop (mkF m 116 #[.val (.ref w_CANCELLED), .val (.ref w_PENDING)] [])) _
  refine OGot.go (fun t k => XS.iconst X3.here hx rfl (hb hby d2_116) k) ?_
  show OGot p.tables e below (T3.setTop (mkF m 117 #[.val (.ref w_CANCELLED), .val (.ref w_PENDING)] [(.int (0 : Int32))])) _
  obtain ⟨fs, hr, hrun, hended, hW, hsame⟩ := X3.leave (v := some (.int (0 : Int32))) (fun h => by rw [Bd.returns] at h; cases h)
  refine ⟨_, _, retN X3 hx (t := .boolean) Bd.returns (by simp) (hb hby d2_117) hr, hrun, hended, _, _, rfl, ?_, ⟨_, rfl⟩, hW, hsame.mono (by decide) (by decide)⟩
  exact (⟨rfl, N3, e3⟩ : Q2_10 Z w_PENDING w_RUNNING w_COMPLETED w_FAILED w_CANCELLED  h0 n0 _ T3.heap _)
def Q2_11 (Z : State) (w_PENDING : Addr) (w_RUNNING : Addr) (w_COMPLETED : Addr) (w_FAILED : Addr) (w_CANCELLED : Addr)  (h0 : Heap) (n0 : Nat) (v : Option Value) (h : Heap) (L : List Loc) : Prop := v = some (.int (0 : Int32)) ∧ Fr n0 L ∧ h = h0
theorem ef2_11 (m : MethodId) (x0 : Addr) (x1 : Addr) : entryFrame m #[(.ref x0), (.ref x1)] 2 = mkF m 0 #[.val (.ref x0), .val (.ref x1)] [] := by first | (simp [entryFrame, mkF, argsToLocals, Value.category]; done) | rfl
set_option maxRecDepth 65536 in
set_option maxHeartbeats 40000000 in
theorem rm2_11 (l : Launch) (Z : State) (a0 : Array Value) (hw : ∀ d ∈ tables_1, d.before a0 Z = true) (ws : List Jvm.Cond) {w_PENDING : Addr} {w_RUNNING : Addr} {w_COMPLETED : Addr} {w_FAILED : Addr} {w_CANCELLED : Addr} (G : Glob Z w_PENDING w_RUNNING w_COMPLETED w_FAILED w_CANCELLED)  (h0 : Heap) (n0 : Nat) (O0 : Old Z n0 h0) :
    MetFree l (⟨"com/example/hermit_crab/hermitcrab/JobState", "canMoveTo", "(Lcom/example/hermit_crab/hermitcrab/JobState;)Z"⟩ : MethodName) (head1 (Jvm.Cond.code (⟨"com/example/hermit_crab/hermitcrab/JobState", "canMoveTo", "(Lcom/example/hermit_crab/hermitcrab/JobState;)Z"⟩ : MethodName) prog_6_method_5_code 2 (some .boolean) :: ws) ({ frames := 1, cells := 0, slots := 0, locals := 12 } : Room)) (fun a U => a = #[(.ref w_CANCELLED), (.ref w_RUNNING)] ∧ Z.Warmed39 U.vm ∧ U.heap = h0) (fun _ _ _ _ _ => True) (fun _ U o U' => ∃ v L, o = .returned v ∧ Q2_11 Z w_PENDING w_RUNNING w_COMPLETED w_FAILED w_CANCELLED  h0 n0 v U'.heap L ∧ FrameEnd U o U' L ({ frames := 1, cells := 0, slots := 0, locals := 12 } : Room).cells ({ frames := 1, cells := 0, slots := 0, locals := 12 } : Room).slots) := by
  refine MetFree.of_bodySF (plainFor_of_name pn_com_example_hermit_crab_hermitcrab_JobState) hisR ?_
  intro p e s m args below meth c s₁ Bd hml0 hP hK
  obtain ⟨rfl, hZ, hh⟩ := hP
  have hx := Bd.exec
  have hby := Bd.bytes
  have hml : c.maxLocals = 2 := hml0
  have hown : s.vm.findClass "com/example/hermit_crab/hermitcrab/JobState" = some m.cls := findClass_of_methodNamed Bd.named
  have hnm := (name_of_methodNamed Bd.named Bd.method).1
  have X0 : Stand p l e ({ frames := 1, cells := 0, slots := 0, locals := 12 } : Room) s m #[(.ref w_CANCELLED), (.ref w_RUNNING)] below meth c s₁ [] 0 0 := Stand.of_body Bd
  have e0 : s₁.heap = h0 := by rw [← hh, Bd.state]; rfl
  have N0 := Fr.nil n0
  show OGot p.tables e below (s₁.setTop (entryFrame m #[(.ref w_CANCELLED), (.ref w_RUNNING)] 2)) _
  refine OGot.go (fun t k => castTop (ef2_11 m w_CANCELLED w_RUNNING) k) ?_
  show OGot p.tables e below (s₁.setTop (mkF m 0 #[.val (.ref w_CANCELLED), .val (.ref w_RUNNING)] [])) _
  refine OGot.go (fun t k => XS.aloadN X0.here hx rfl (hb hby d2_0) rfl rfl k) ?_
  show OGot p.tables e below (s₁.setTop (mkF m 1 #[.val (.ref w_CANCELLED), .val (.ref w_RUNNING)] [(.ref w_CANCELLED)])) _
  obtain ⟨cq3, kq3, q3a, q3b, q3c⟩ := isOf hZ e0 (G.2.2.2.2.2.2.2.2.2.1.ext O0.2)
  obtain ⟨_, _, ⟨T3, L3, k3, n3⟩, -, X3, ⟨Lc3, hQ3, l3, y3, z3⟩, st3⟩ := X0.virtualBackUp hx (x := (⟨"com/example/hermit_crab/hermitcrab/JobState", "ordinal", "()I"⟩ : MethodName)) (y := (⟨"java/lang/Enum", "ordinal", "()I"⟩ : MethodName)) (owner := "java/lang/Enum") hown (mvT hZ (ow hw 28 rfl)) (mvT hZ (ow hw 29 rfl)) (mvT hZ (ow hw 30 rfl)) (by decide) (mvT hZ (ow hw 32 rfl)) (mvT hZ (ow hw 31 rfl)) (backOf (W := 0) (rm3_2 l Z a0 hw [] G  h0 n0 O0 ) hZ (ow hw 34 rfl) (ow hw 33 rfl) (by decide) (by decide)) q3a q3c (g := (mkF m 1 #[.val (.ref w_CANCELLED), .val (.ref w_RUNNING)] [(.ref w_CANCELLED)])) rfl (by rw [hml]; rfl) (Steps.refl _) (argsL := []) (rest := []) (lenOf pd_1 rfl) rfl (by show 2 * 0 + _ ≤ _; exact Nat.le_of_eq rfl) (hb hby d2_1) (fun _ _ => ⟨rfl, e0, (by decide : 0 + 0 ≤ _), (by decide : 0 + 0 ≤ _)⟩)
  dsimp only [Pt.U, Pt.locs, Pt.cells, Pt.slots] at X3 l3 y3 z3 st3 hQ3
  subst l3 y3 z3
  obtain ⟨rfl, N3q, e3⟩ := hQ3
  have N3 := Fr.app N0 N3q
  refine OGot.on st3 ?_
  show OGot p.tables e below (T3.setTop (mkF m 4 #[.val (.ref w_CANCELLED), .val (.ref w_RUNNING)] [(.int (4 : Int32))])) _
  refine OGot.go (fun t k => XS.tswIn X3.here hx rfl (pc0 := 4) (pc' := 116) rfl (hb hby d2_4) rfl (by decide) (o := 112) (by decide) (by decide) (by decide) k) ?_
  show OGot p.tables e below (T3.setTop (mkF m 116 #[.val (.ref w_CANCELLED), .val (.ref w_RUNNING)] [])) _
  refine OGot.go (fun t k => XS.iconst X3.here hx rfl (hb hby d2_116) k) ?_
  show OGot p.tables e below (T3.setTop (mkF m 117 #[.val (.ref w_CANCELLED), .val (.ref w_RUNNING)] [(.int (0 : Int32))])) _
  obtain ⟨fs, hr, hrun, hended, hW, hsame⟩ := X3.leave (v := some (.int (0 : Int32))) (fun h => by rw [Bd.returns] at h; cases h)
  refine ⟨_, _, retN X3 hx (t := .boolean) Bd.returns (by simp) (hb hby d2_117) hr, hrun, hended, _, _, rfl, ?_, ⟨_, rfl⟩, hW, hsame.mono (by decide) (by decide)⟩
  exact (⟨rfl, N3, e3⟩ : Q2_11 Z w_PENDING w_RUNNING w_COMPLETED w_FAILED w_CANCELLED  h0 n0 _ T3.heap _)
def Q2_12 (Z : State) (w_PENDING : Addr) (w_RUNNING : Addr) (w_COMPLETED : Addr) (w_FAILED : Addr) (w_CANCELLED : Addr)  (h0 : Heap) (n0 : Nat) (v : Option Value) (h : Heap) (L : List Loc) : Prop := v = some (.int (0 : Int32)) ∧ Fr n0 L ∧ h = h0
theorem ef2_12 (m : MethodId) (x0 : Addr) (x1 : Addr) : entryFrame m #[(.ref x0), (.ref x1)] 2 = mkF m 0 #[.val (.ref x0), .val (.ref x1)] [] := by first | (simp [entryFrame, mkF, argsToLocals, Value.category]; done) | rfl
set_option maxRecDepth 65536 in
set_option maxHeartbeats 40000000 in
theorem rm2_12 (l : Launch) (Z : State) (a0 : Array Value) (hw : ∀ d ∈ tables_1, d.before a0 Z = true) (ws : List Jvm.Cond) {w_PENDING : Addr} {w_RUNNING : Addr} {w_COMPLETED : Addr} {w_FAILED : Addr} {w_CANCELLED : Addr} (G : Glob Z w_PENDING w_RUNNING w_COMPLETED w_FAILED w_CANCELLED)  (h0 : Heap) (n0 : Nat) (O0 : Old Z n0 h0) :
    MetFree l (⟨"com/example/hermit_crab/hermitcrab/JobState", "canMoveTo", "(Lcom/example/hermit_crab/hermitcrab/JobState;)Z"⟩ : MethodName) (head1 (Jvm.Cond.code (⟨"com/example/hermit_crab/hermitcrab/JobState", "canMoveTo", "(Lcom/example/hermit_crab/hermitcrab/JobState;)Z"⟩ : MethodName) prog_6_method_5_code 2 (some .boolean) :: ws) ({ frames := 1, cells := 0, slots := 0, locals := 12 } : Room)) (fun a U => a = #[(.ref w_CANCELLED), (.ref w_COMPLETED)] ∧ Z.Warmed39 U.vm ∧ U.heap = h0) (fun _ _ _ _ _ => True) (fun _ U o U' => ∃ v L, o = .returned v ∧ Q2_12 Z w_PENDING w_RUNNING w_COMPLETED w_FAILED w_CANCELLED  h0 n0 v U'.heap L ∧ FrameEnd U o U' L ({ frames := 1, cells := 0, slots := 0, locals := 12 } : Room).cells ({ frames := 1, cells := 0, slots := 0, locals := 12 } : Room).slots) := by
  refine MetFree.of_bodySF (plainFor_of_name pn_com_example_hermit_crab_hermitcrab_JobState) hisR ?_
  intro p e s m args below meth c s₁ Bd hml0 hP hK
  obtain ⟨rfl, hZ, hh⟩ := hP
  have hx := Bd.exec
  have hby := Bd.bytes
  have hml : c.maxLocals = 2 := hml0
  have hown : s.vm.findClass "com/example/hermit_crab/hermitcrab/JobState" = some m.cls := findClass_of_methodNamed Bd.named
  have hnm := (name_of_methodNamed Bd.named Bd.method).1
  have X0 : Stand p l e ({ frames := 1, cells := 0, slots := 0, locals := 12 } : Room) s m #[(.ref w_CANCELLED), (.ref w_COMPLETED)] below meth c s₁ [] 0 0 := Stand.of_body Bd
  have e0 : s₁.heap = h0 := by rw [← hh, Bd.state]; rfl
  have N0 := Fr.nil n0
  show OGot p.tables e below (s₁.setTop (entryFrame m #[(.ref w_CANCELLED), (.ref w_COMPLETED)] 2)) _
  refine OGot.go (fun t k => castTop (ef2_12 m w_CANCELLED w_COMPLETED) k) ?_
  show OGot p.tables e below (s₁.setTop (mkF m 0 #[.val (.ref w_CANCELLED), .val (.ref w_COMPLETED)] [])) _
  refine OGot.go (fun t k => XS.aloadN X0.here hx rfl (hb hby d2_0) rfl rfl k) ?_
  show OGot p.tables e below (s₁.setTop (mkF m 1 #[.val (.ref w_CANCELLED), .val (.ref w_COMPLETED)] [(.ref w_CANCELLED)])) _
  obtain ⟨cq3, kq3, q3a, q3b, q3c⟩ := isOf hZ e0 (G.2.2.2.2.2.2.2.2.2.1.ext O0.2)
  obtain ⟨_, _, ⟨T3, L3, k3, n3⟩, -, X3, ⟨Lc3, hQ3, l3, y3, z3⟩, st3⟩ := X0.virtualBackUp hx (x := (⟨"com/example/hermit_crab/hermitcrab/JobState", "ordinal", "()I"⟩ : MethodName)) (y := (⟨"java/lang/Enum", "ordinal", "()I"⟩ : MethodName)) (owner := "java/lang/Enum") hown (mvT hZ (ow hw 28 rfl)) (mvT hZ (ow hw 29 rfl)) (mvT hZ (ow hw 30 rfl)) (by decide) (mvT hZ (ow hw 32 rfl)) (mvT hZ (ow hw 31 rfl)) (backOf (W := 0) (rm3_2 l Z a0 hw [] G  h0 n0 O0 ) hZ (ow hw 34 rfl) (ow hw 33 rfl) (by decide) (by decide)) q3a q3c (g := (mkF m 1 #[.val (.ref w_CANCELLED), .val (.ref w_COMPLETED)] [(.ref w_CANCELLED)])) rfl (by rw [hml]; rfl) (Steps.refl _) (argsL := []) (rest := []) (lenOf pd_1 rfl) rfl (by show 2 * 0 + _ ≤ _; exact Nat.le_of_eq rfl) (hb hby d2_1) (fun _ _ => ⟨rfl, e0, (by decide : 0 + 0 ≤ _), (by decide : 0 + 0 ≤ _)⟩)
  dsimp only [Pt.U, Pt.locs, Pt.cells, Pt.slots] at X3 l3 y3 z3 st3 hQ3
  subst l3 y3 z3
  obtain ⟨rfl, N3q, e3⟩ := hQ3
  have N3 := Fr.app N0 N3q
  refine OGot.on st3 ?_
  show OGot p.tables e below (T3.setTop (mkF m 4 #[.val (.ref w_CANCELLED), .val (.ref w_COMPLETED)] [(.int (4 : Int32))])) _
  refine OGot.go (fun t k => XS.tswIn X3.here hx rfl (pc0 := 4) (pc' := 116) rfl (hb hby d2_4) rfl (by decide) (o := 112) (by decide) (by decide) (by decide) k) ?_
  show OGot p.tables e below (T3.setTop (mkF m 116 #[.val (.ref w_CANCELLED), .val (.ref w_COMPLETED)] [])) _
  refine OGot.go (fun t k => XS.iconst X3.here hx rfl (hb hby d2_116) k) ?_
  show OGot p.tables e below (T3.setTop (mkF m 117 #[.val (.ref w_CANCELLED), .val (.ref w_COMPLETED)] [(.int (0 : Int32))])) _
  obtain ⟨fs, hr, hrun, hended, hW, hsame⟩ := X3.leave (v := some (.int (0 : Int32))) (fun h => by rw [Bd.returns] at h; cases h)
  refine ⟨_, _, retN X3 hx (t := .boolean) Bd.returns (by simp) (hb hby d2_117) hr, hrun, hended, _, _, rfl, ?_, ⟨_, rfl⟩, hW, hsame.mono (by decide) (by decide)⟩
  exact (⟨rfl, N3, e3⟩ : Q2_12 Z w_PENDING w_RUNNING w_COMPLETED w_FAILED w_CANCELLED  h0 n0 _ T3.heap _)
def Q2_13 (Z : State) (w_PENDING : Addr) (w_RUNNING : Addr) (w_COMPLETED : Addr) (w_FAILED : Addr) (w_CANCELLED : Addr)  (h0 : Heap) (n0 : Nat) (v : Option Value) (h : Heap) (L : List Loc) : Prop := v = some (.int (0 : Int32)) ∧ Fr n0 L ∧ h = h0
theorem ef2_13 (m : MethodId) (x0 : Addr) (x1 : Addr) : entryFrame m #[(.ref x0), (.ref x1)] 2 = mkF m 0 #[.val (.ref x0), .val (.ref x1)] [] := by first | (simp [entryFrame, mkF, argsToLocals, Value.category]; done) | rfl
set_option maxRecDepth 65536 in
set_option maxHeartbeats 40000000 in
theorem rm2_13 (l : Launch) (Z : State) (a0 : Array Value) (hw : ∀ d ∈ tables_1, d.before a0 Z = true) (ws : List Jvm.Cond) {w_PENDING : Addr} {w_RUNNING : Addr} {w_COMPLETED : Addr} {w_FAILED : Addr} {w_CANCELLED : Addr} (G : Glob Z w_PENDING w_RUNNING w_COMPLETED w_FAILED w_CANCELLED)  (h0 : Heap) (n0 : Nat) (O0 : Old Z n0 h0) :
    MetFree l (⟨"com/example/hermit_crab/hermitcrab/JobState", "canMoveTo", "(Lcom/example/hermit_crab/hermitcrab/JobState;)Z"⟩ : MethodName) (head1 (Jvm.Cond.code (⟨"com/example/hermit_crab/hermitcrab/JobState", "canMoveTo", "(Lcom/example/hermit_crab/hermitcrab/JobState;)Z"⟩ : MethodName) prog_6_method_5_code 2 (some .boolean) :: ws) ({ frames := 1, cells := 0, slots := 0, locals := 12 } : Room)) (fun a U => a = #[(.ref w_CANCELLED), (.ref w_FAILED)] ∧ Z.Warmed39 U.vm ∧ U.heap = h0) (fun _ _ _ _ _ => True) (fun _ U o U' => ∃ v L, o = .returned v ∧ Q2_13 Z w_PENDING w_RUNNING w_COMPLETED w_FAILED w_CANCELLED  h0 n0 v U'.heap L ∧ FrameEnd U o U' L ({ frames := 1, cells := 0, slots := 0, locals := 12 } : Room).cells ({ frames := 1, cells := 0, slots := 0, locals := 12 } : Room).slots) := by
  refine MetFree.of_bodySF (plainFor_of_name pn_com_example_hermit_crab_hermitcrab_JobState) hisR ?_
  intro p e s m args below meth c s₁ Bd hml0 hP hK
  obtain ⟨rfl, hZ, hh⟩ := hP
  have hx := Bd.exec
  have hby := Bd.bytes
  have hml : c.maxLocals = 2 := hml0
  have hown : s.vm.findClass "com/example/hermit_crab/hermitcrab/JobState" = some m.cls := findClass_of_methodNamed Bd.named
  have hnm := (name_of_methodNamed Bd.named Bd.method).1
  have X0 : Stand p l e ({ frames := 1, cells := 0, slots := 0, locals := 12 } : Room) s m #[(.ref w_CANCELLED), (.ref w_FAILED)] below meth c s₁ [] 0 0 := Stand.of_body Bd
  have e0 : s₁.heap = h0 := by rw [← hh, Bd.state]; rfl
  have N0 := Fr.nil n0
  show OGot p.tables e below (s₁.setTop (entryFrame m #[(.ref w_CANCELLED), (.ref w_FAILED)] 2)) _
  refine OGot.go (fun t k => castTop (ef2_13 m w_CANCELLED w_FAILED) k) ?_
  show OGot p.tables e below (s₁.setTop (mkF m 0 #[.val (.ref w_CANCELLED), .val (.ref w_FAILED)] [])) _
  refine OGot.go (fun t k => XS.aloadN X0.here hx rfl (hb hby d2_0) rfl rfl k) ?_
  show OGot p.tables e below (s₁.setTop (mkF m 1 #[.val (.ref w_CANCELLED), .val (.ref w_FAILED)] [(.ref w_CANCELLED)])) _
  obtain ⟨cq3, kq3, q3a, q3b, q3c⟩ := isOf hZ e0 (G.2.2.2.2.2.2.2.2.2.1.ext O0.2)
  obtain ⟨_, _, ⟨T3, L3, k3, n3⟩, -, X3, ⟨Lc3, hQ3, l3, y3, z3⟩, st3⟩ := X0.virtualBackUp hx (x := (⟨"com/example/hermit_crab/hermitcrab/JobState", "ordinal", "()I"⟩ : MethodName)) (y := (⟨"java/lang/Enum", "ordinal", "()I"⟩ : MethodName)) (owner := "java/lang/Enum") hown (mvT hZ (ow hw 28 rfl)) (mvT hZ (ow hw 29 rfl)) (mvT hZ (ow hw 30 rfl)) (by decide) (mvT hZ (ow hw 32 rfl)) (mvT hZ (ow hw 31 rfl)) (backOf (W := 0) (rm3_2 l Z a0 hw [] G  h0 n0 O0 ) hZ (ow hw 34 rfl) (ow hw 33 rfl) (by decide) (by decide)) q3a q3c (g := (mkF m 1 #[.val (.ref w_CANCELLED), .val (.ref w_FAILED)] [(.ref w_CANCELLED)])) rfl (by rw [hml]; rfl) (Steps.refl _) (argsL := []) (rest := []) (lenOf pd_1 rfl) rfl (by show 2 * 0 + _ ≤ _; exact Nat.le_of_eq rfl) (hb hby d2_1) (fun _ _ => ⟨rfl, e0, (by decide : 0 + 0 ≤ _), (by decide : 0 + 0 ≤ _)⟩)
  dsimp only [Pt.U, Pt.locs, Pt.cells, Pt.slots] at X3 l3 y3 z3 st3 hQ3
  subst l3 y3 z3
  obtain ⟨rfl, N3q, e3⟩ := hQ3
  have N3 := Fr.app N0 N3q
  refine OGot.on st3 ?_
  show OGot p.tables e below (T3.setTop (mkF m 4 #[.val (.ref w_CANCELLED), .val (.ref w_FAILED)] [(.int (4 : Int32))])) _
  refine OGot.go (fun t k => XS.tswIn X3.here hx rfl (pc0 := 4) (pc' := 116) rfl (hb hby d2_4) rfl (by decide) (o := 112) (by decide) (by decide) (by decide) k) ?_
  show OGot p.tables e below (T3.setTop (mkF m 116 #[.val (.ref w_CANCELLED), .val (.ref w_FAILED)] [])) _
  refine OGot.go (fun t k => XS.iconst X3.here hx rfl (hb hby d2_116) k) ?_
  show OGot p.tables e below (T3.setTop (mkF m 117 #[.val (.ref w_CANCELLED), .val (.ref w_FAILED)] [(.int (0 : Int32))])) _
  obtain ⟨fs, hr, hrun, hended, hW, hsame⟩ := X3.leave (v := some (.int (0 : Int32))) (fun h => by rw [Bd.returns] at h; cases h)
  refine ⟨_, _, retN X3 hx (t := .boolean) Bd.returns (by simp) (hb hby d2_117) hr, hrun, hended, _, _, rfl, ?_, ⟨_, rfl⟩, hW, hsame.mono (by decide) (by decide)⟩
  exact (⟨rfl, N3, e3⟩ : Q2_13 Z w_PENDING w_RUNNING w_COMPLETED w_FAILED w_CANCELLED  h0 n0 _ T3.heap _)
def Q2_14 (Z : State) (w_PENDING : Addr) (w_RUNNING : Addr) (w_COMPLETED : Addr) (w_FAILED : Addr) (w_CANCELLED : Addr)  (h0 : Heap) (n0 : Nat) (v : Option Value) (h : Heap) (L : List Loc) : Prop := v = some (.int (0 : Int32)) ∧ Fr n0 L ∧ h = h0
theorem ef2_14 (m : MethodId) (x0 : Addr) : entryFrame m #[(.ref x0), (.ref x0)] 2 = mkF m 0 #[.val (.ref x0), .val (.ref x0)] [] := by first | (simp [entryFrame, mkF, argsToLocals, Value.category]; done) | rfl
set_option maxRecDepth 65536 in
set_option maxHeartbeats 40000000 in
theorem rm2_14 (l : Launch) (Z : State) (a0 : Array Value) (hw : ∀ d ∈ tables_1, d.before a0 Z = true) (ws : List Jvm.Cond) {w_PENDING : Addr} {w_RUNNING : Addr} {w_COMPLETED : Addr} {w_FAILED : Addr} {w_CANCELLED : Addr} (G : Glob Z w_PENDING w_RUNNING w_COMPLETED w_FAILED w_CANCELLED)  (h0 : Heap) (n0 : Nat) (O0 : Old Z n0 h0) :
    MetFree l (⟨"com/example/hermit_crab/hermitcrab/JobState", "canMoveTo", "(Lcom/example/hermit_crab/hermitcrab/JobState;)Z"⟩ : MethodName) (head1 (Jvm.Cond.code (⟨"com/example/hermit_crab/hermitcrab/JobState", "canMoveTo", "(Lcom/example/hermit_crab/hermitcrab/JobState;)Z"⟩ : MethodName) prog_6_method_5_code 2 (some .boolean) :: ws) ({ frames := 1, cells := 0, slots := 0, locals := 12 } : Room)) (fun a U => a = #[(.ref w_CANCELLED), (.ref w_CANCELLED)] ∧ Z.Warmed39 U.vm ∧ U.heap = h0) (fun _ _ _ _ _ => True) (fun _ U o U' => ∃ v L, o = .returned v ∧ Q2_14 Z w_PENDING w_RUNNING w_COMPLETED w_FAILED w_CANCELLED  h0 n0 v U'.heap L ∧ FrameEnd U o U' L ({ frames := 1, cells := 0, slots := 0, locals := 12 } : Room).cells ({ frames := 1, cells := 0, slots := 0, locals := 12 } : Room).slots) := by
  refine MetFree.of_bodySF (plainFor_of_name pn_com_example_hermit_crab_hermitcrab_JobState) hisR ?_
  intro p e s m args below meth c s₁ Bd hml0 hP hK
  obtain ⟨rfl, hZ, hh⟩ := hP
  have hx := Bd.exec
  have hby := Bd.bytes
  have hml : c.maxLocals = 2 := hml0
  have hown : s.vm.findClass "com/example/hermit_crab/hermitcrab/JobState" = some m.cls := findClass_of_methodNamed Bd.named
  have hnm := (name_of_methodNamed Bd.named Bd.method).1
  have X0 : Stand p l e ({ frames := 1, cells := 0, slots := 0, locals := 12 } : Room) s m #[(.ref w_CANCELLED), (.ref w_CANCELLED)] below meth c s₁ [] 0 0 := Stand.of_body Bd
  have e0 : s₁.heap = h0 := by rw [← hh, Bd.state]; rfl
  have N0 := Fr.nil n0
  show OGot p.tables e below (s₁.setTop (entryFrame m #[(.ref w_CANCELLED), (.ref w_CANCELLED)] 2)) _
  refine OGot.go (fun t k => castTop (ef2_14 m w_CANCELLED) k) ?_
  show OGot p.tables e below (s₁.setTop (mkF m 0 #[.val (.ref w_CANCELLED), .val (.ref w_CANCELLED)] [])) _
  refine OGot.go (fun t k => XS.aloadN X0.here hx rfl (hb hby d2_0) rfl rfl k) ?_
  show OGot p.tables e below (s₁.setTop (mkF m 1 #[.val (.ref w_CANCELLED), .val (.ref w_CANCELLED)] [(.ref w_CANCELLED)])) _
  obtain ⟨cq2, kq2, q2a, q2b, q2c⟩ := isOf hZ e0 (G.2.2.2.2.2.2.2.2.2.1.ext O0.2)
  obtain ⟨_, _, ⟨T2, L2, k2, n2⟩, -, X2, ⟨Lc2, hQ2, l2, y2, z2⟩, st2⟩ := X0.virtualBackUp hx (x := (⟨"com/example/hermit_crab/hermitcrab/JobState", "ordinal", "()I"⟩ : MethodName)) (y := (⟨"java/lang/Enum", "ordinal", "()I"⟩ : MethodName)) (owner := "java/lang/Enum") hown (mvT hZ (ow hw 28 rfl)) (mvT hZ (ow hw 29 rfl)) (mvT hZ (ow hw 30 rfl)) (by decide) (mvT hZ (ow hw 32 rfl)) (mvT hZ (ow hw 31 rfl)) (backOf (W := 0) (rm3_2 l Z a0 hw [] G  h0 n0 O0 ) hZ (ow hw 34 rfl) (ow hw 33 rfl) (by decide) (by decide)) q2a q2c (g := (mkF m 1 #[.val (.ref w_CANCELLED), .val (.ref w_CANCELLED)] [(.ref w_CANCELLED)])) rfl (by rw [hml]; rfl) (Steps.refl _) (argsL := []) (rest := []) (lenOf pd_1 rfl) rfl (by show 2 * 0 + _ ≤ _; exact Nat.le_of_eq rfl) (hb hby d2_1) (fun _ _ => ⟨rfl, e0, (by decide : 0 + 0 ≤ _), (by decide : 0 + 0 ≤ _)⟩)
  dsimp only [Pt.U, Pt.locs, Pt.cells, Pt.slots] at X2 l2 y2 z2 st2 hQ2
  subst l2 y2 z2
  obtain ⟨rfl, N2q, e2⟩ := hQ2
  have N2 := Fr.app N0 N2q
  refine OGot.on st2 ?_
  show OGot p.tables e below (T2.setTop (mkF m 4 #[.val (.ref w_CANCELLED), .val (.ref w_CANCELLED)] [(.int (4 : Int32))])) _
  refine OGot.go (fun t k => XS.tswIn X2.here hx rfl (pc0 := 4) (pc' := 116) rfl (hb hby d2_4) rfl (by decide) (o := 112) (by decide) (by decide) (by decide) k) ?_
  show OGot p.tables e below (T2.setTop (mkF m 116 #[.val (.ref w_CANCELLED), .val (.ref w_CANCELLED)] [])) _
  refine OGot.go (fun t k => XS.iconst X2.here hx rfl (hb hby d2_116) k) ?_
  show OGot p.tables e below (T2.setTop (mkF m 117 #[.val (.ref w_CANCELLED), .val (.ref w_CANCELLED)] [(.int (0 : Int32))])) _
  obtain ⟨fs, hr, hrun, hended, hW, hsame⟩ := X2.leave (v := some (.int (0 : Int32))) (fun h => by rw [Bd.returns] at h; cases h)
  refine ⟨_, _, retN X2 hx (t := .boolean) Bd.returns (by simp) (hb hby d2_117) hr, hrun, hended, _, _, rfl, ?_, ⟨_, rfl⟩, hW, hsame.mono (by decide) (by decide)⟩
  exact (⟨rfl, N2, e2⟩ : Q2_14 Z w_PENDING w_RUNNING w_COMPLETED w_FAILED w_CANCELLED  h0 n0 _ T2.heap _)
theorem pn_com_example_hermit_crab_hermitcrab_JobStateIsFinalPinLaw : plainName "com/example/hermit_crab/hermitcrab/JobStateIsFinalPinLaw" = true := by first | (simp [plainName, overriddenIn]; done) | decide +kernel
def Q0 (Z : State) (w_PENDING : Addr) (w_RUNNING : Addr) (w_COMPLETED : Addr) (w_FAILED : Addr) (w_CANCELLED : Addr) (p1 : Int32) (p2 : Int32) (h0 : Heap) (n0 : Nat) (v : Option Value) (h : Heap) (L : List Loc) : Prop := v = some (.int (1 : Int32)) ∧ Fr n0 L
theorem ef0 (m : MethodId) (x0 : Int32) (x1 : Int32) : entryFrame m #[(.int x0), (.int x1)] maxLocals = mkF m 0 #[.val (.int x0), .val (.int x1), .unset, .unset, .unset, .unset, .unset, .unset, .unset] [] := by first | (simp [entryFrame, mkF, argsToLocals, Value.category, maxLocals]; done) | rfl
set_option maxRecDepth 65536 in
set_option maxHeartbeats 40000000 in
theorem rm0 (l : Launch) (Z : State) (a0 : Array Value) (hw : ∀ d ∈ tables_1, d.before a0 Z = true) (ws : List Jvm.Cond) {w_PENDING : Addr} {w_RUNNING : Addr} {w_COMPLETED : Addr} {w_FAILED : Addr} {w_CANCELLED : Addr} (G : Glob Z w_PENDING w_RUNNING w_COMPLETED w_FAILED w_CANCELLED) (p1 : Int32) (p2 : Int32) (h0 : Heap) (n0 : Nat) (O0 : Old Z n0 h0) :
    MetFree l x (head1 (Jvm.Cond.code x code maxLocals ret :: ws) room_1) (fun a U => a = #[(.int p1), (.int p2)] ∧ Z.Warmed39 U.vm ∧ U.heap = h0) (fun _ _ _ _ _ => True) (fun _ U o U' => ∃ v L, o = .returned v ∧ Q0 Z w_PENDING w_RUNNING w_COMPLETED w_FAILED w_CANCELLED p1 p2 h0 n0 v U'.heap L ∧ FrameEnd U o U' L room_1.cells room_1.slots) := by
  refine MetFree.of_bodySF (plainFor_of_name pn_com_example_hermit_crab_hermitcrab_JobStateIsFinalPinLaw) hisR ?_
  intro p e s m args below meth c s₁ Bd hml0 hP hK
  obtain ⟨rfl, hZ, hh⟩ := hP
  have hx := Bd.exec
  have hby := Bd.bytes
  have hml : c.maxLocals = 9 := hml0
  have hown : s.vm.findClass "com/example/hermit_crab/hermitcrab/JobStateIsFinalPinLaw" = some m.cls := findClass_of_methodNamed Bd.named
  have hnm := (name_of_methodNamed Bd.named Bd.method).1
  have X0 : Stand p l e room_1 s m #[(.int p1), (.int p2)] below meth c s₁ [] 0 0 := Stand.of_body Bd
  have e0 : s₁.heap = h0 := by rw [← hh, Bd.state]; rfl
  have N0 := Fr.nil n0
  show OGot p.tables e below (s₁.setTop (entryFrame m #[(.int p1), (.int p2)] maxLocals)) _
  refine OGot.go (fun t k => castTop (ef0 m p1 p2) k) ?_
  show OGot p.tables e below (s₁.setTop (mkF m 0 #[.val (.int p1), .val (.int p2), .unset, .unset, .unset, .unset, .unset, .unset, .unset] [])) _
  refine OGot.go (fun t k => XS.iconst X0.here hx rfl (hb hby at_0) k) ?_
  show OGot p.tables e below (s₁.setTop (mkF m 1 #[.val (.int p1), .val (.int p2), .unset, .unset, .unset, .unset, .unset, .unset, .unset] [(.int (5 : Int32))])) _
  obtain ⟨T3, h3, k3, X3, e3, E3, A3, Ea3, V3, st3⟩ := newRE X0 hx hZ hown (ow hw 0 rfl) (ow hw 1 rfl) e0 (g := (mkF m 1 #[.val (.int p1), .val (.int p2), .unset, .unset, .unset, .unset, .unset, .unset, .unset] [(.int (5 : Int32))])) rfl (hb hby at_1) rfl (by decide) (cap := 5) (by decide) (by decide) (by decide) (by decide) (ad := "[Lcom/example/hermit_crab/hermitcrab/JobState;") (by decide)
  obtain ⟨b3, g3⟩ : ∃ z, z = h0.size := ⟨_, rfl⟩
  rw [← g3] at A3 Ea3 st3
  refine OGot.go st3 ?_
  have g_b3 : n0 ≤ b3 := Nat.le_trans (osz O0) (Nat.le_of_eq g3.symm)
  have sy_b3 : h0.size ≤ b3 := Nat.le_of_eq g3.symm
  have O3 := O0.ext E3
  have Va3 : Arv Z h3 b3 k3 (.object "com/example/hermit_crab/hermitcrab/JobState") (5 : Int32) [.null, .null, .null, .null, .null] .null := (Arv.new A3 (by decide)).pad (pad_rep [] .null 5)
  show OGot p.tables e below (T3.setTop (mkF m 4 #[.val (.int p1), .val (.int p2), .unset, .unset, .unset, .unset, .unset, .unset, .unset] [(.ref b3)])) _
  refine OGot.go (fun t k => XS.dup X3.here hx rfl (hb hby at_4) rfl rfl k) ?_
  show OGot p.tables e below (T3.setTop (mkF m 5 #[.val (.int p1), .val (.int p2), .unset, .unset, .unset, .unset, .unset, .unset, .unset] [(.ref b3), (.ref b3)])) _
  refine OGot.go (fun t k => XS.iconst X3.here hx rfl (hb hby at_5) k) ?_
  show OGot p.tables e below (T3.setTop (mkF m 6 #[.val (.int p1), .val (.int p2), .unset, .unset, .unset, .unset, .unset, .unset, .unset] [(.int (0 : Int32)), (.ref b3), (.ref b3)])) _
  obtain ⟨T4, X4, e4, st4⟩ := getS2 X3 hx hZ hown (host := "") (Or.inl (ow hw 2 rfl)) Via.refl e3 (G.1.ext O3.2) (g := (mkF m 6 #[.val (.int p1), .val (.int p2), .unset, .unset, .unset, .unset, .unset, .unset, .unset] [(.int (0 : Int32)), (.ref b3), (.ref b3)])) rfl (hb hby at_6)
  refine OGot.go st4 ?_
  show OGot p.tables e below (T4.setTop (mkF m 9 #[.val (.int p1), .val (.int p2), .unset, .unset, .unset, .unset, .unset, .unset, .unset] [(.ref w_PENDING), (.int (0 : Int32)), (.ref b3), (.ref b3)])) _
  obtain ⟨cl5, Ar5, qc5, Sz5, Ng5, Hh5, Gg5⟩ := id (Va3)
  have hin5 : ¬ ((0 : Int32) < 0 ∨ cl5.slots.size ≤ ((0 : Int32)).toNatClampNeg) := inb_of Sz5 ⟨by decide, by decide⟩
  obtain ⟨T5, h5, X5, e5, W5, st5⟩ := stR X4 hx hZ e4 Ar5 (j := (0 : Int32)) hin5 rfl (Sto.ofV Ar5 qc5 V3 (Ins.self (G.2.1.ext O3.2))) (g := (mkF m 9 #[.val (.int p1), .val (.int p2), .unset, .unset, .unset, .unset, .unset, .unset, .unset] [(.ref w_PENDING), (.int (0 : Int32)), (.ref b3), (.ref b3)])) rfl rfl (hb hby at_9)
  refine OGot.go st5 ?_
  have N5 := Fr.snoc X5 N0 g_b3
  have O5 := O3.wr W5 g_b3
  have Va5 : Arv Z h5 b3 k3 (.object "com/example/hermit_crab/hermitcrab/JobState") (5 : Int32) [(.ref w_PENDING), .null, .null, .null, .null] .null := Arv.set Ar5 qc5 Sz5 Ng5 Hh5 Gg5 rfl W5 0 rfl (Nat.le_of_ble_eq_true rfl)
  show OGot p.tables e below (T5.setTop (mkF m 10 #[.val (.int p1), .val (.int p2), .unset, .unset, .unset, .unset, .unset, .unset, .unset] [(.ref b3)])) _
  refine OGot.go (fun t k => XS.dup X5.here hx rfl (hb hby at_10) rfl rfl k) ?_
  show OGot p.tables e below (T5.setTop (mkF m 11 #[.val (.int p1), .val (.int p2), .unset, .unset, .unset, .unset, .unset, .unset, .unset] [(.ref b3), (.ref b3)])) _
  refine OGot.go (fun t k => XS.iconst X5.here hx rfl (hb hby at_11) k) ?_
  show OGot p.tables e below (T5.setTop (mkF m 12 #[.val (.int p1), .val (.int p2), .unset, .unset, .unset, .unset, .unset, .unset, .unset] [(.int (1 : Int32)), (.ref b3), (.ref b3)])) _
  obtain ⟨T6, X6, e6, st6⟩ := getS2 X5 hx hZ hown (host := "") (Or.inl (ow hw 6 rfl)) Via.refl e5 (G.2.2.1.ext O5.2) (g := (mkF m 12 #[.val (.int p1), .val (.int p2), .unset, .unset, .unset, .unset, .unset, .unset, .unset] [(.int (1 : Int32)), (.ref b3), (.ref b3)])) rfl (hb hby at_12)
  refine OGot.go st6 ?_
  show OGot p.tables e below (T6.setTop (mkF m 15 #[.val (.int p1), .val (.int p2), .unset, .unset, .unset, .unset, .unset, .unset, .unset] [(.ref w_RUNNING), (.int (1 : Int32)), (.ref b3), (.ref b3)])) _
  obtain ⟨cl7, Ar7, qc7, Sz7, Ng7, Hh7, Gg7⟩ := id (Va5)
  have hin7 : ¬ ((1 : Int32) < 0 ∨ cl7.slots.size ≤ ((1 : Int32)).toNatClampNeg) := inb_of Sz7 ⟨by decide, by decide⟩
  obtain ⟨T7, h7, X7, e7, W7, st7⟩ := stR X6 hx hZ e6 Ar7 (j := (1 : Int32)) hin7 rfl (Sto.ofV Ar7 qc7 V3 (Ins.self (G.2.2.2.1.ext O5.2))) (g := (mkF m 15 #[.val (.int p1), .val (.int p2), .unset, .unset, .unset, .unset, .unset, .unset, .unset] [(.ref w_RUNNING), (.int (1 : Int32)), (.ref b3), (.ref b3)])) rfl rfl (hb hby at_15)
  refine OGot.go st7 ?_
  have N7 := Fr.snoc X7 N5 g_b3
  have O7 := O5.wr W7 g_b3
  have Va7 : Arv Z h7 b3 k3 (.object "com/example/hermit_crab/hermitcrab/JobState") (5 : Int32) [(.ref w_PENDING), (.ref w_RUNNING), .null, .null, .null] .null := Arv.set Ar7 qc7 Sz7 Ng7 Hh7 Gg7 rfl W7 1 rfl (Nat.le_of_ble_eq_true rfl)
  show OGot p.tables e below (T7.setTop (mkF m 16 #[.val (.int p1), .val (.int p2), .unset, .unset, .unset, .unset, .unset, .unset, .unset] [(.ref b3)])) _
  refine OGot.go (fun t k => XS.dup X7.here hx rfl (hb hby at_16) rfl rfl k) ?_
  show OGot p.tables e below (T7.setTop (mkF m 17 #[.val (.int p1), .val (.int p2), .unset, .unset, .unset, .unset, .unset, .unset, .unset] [(.ref b3), (.ref b3)])) _
  refine OGot.go (fun t k => XS.iconst X7.here hx rfl (hb hby at_17) k) ?_
  show OGot p.tables e below (T7.setTop (mkF m 18 #[.val (.int p1), .val (.int p2), .unset, .unset, .unset, .unset, .unset, .unset, .unset] [(.int (2 : Int32)), (.ref b3), (.ref b3)])) _
  obtain ⟨T8, X8, e8, st8⟩ := getS2 X7 hx hZ hown (host := "") (Or.inl (ow hw 8 rfl)) Via.refl e7 (G.2.2.2.2.1.ext O7.2) (g := (mkF m 18 #[.val (.int p1), .val (.int p2), .unset, .unset, .unset, .unset, .unset, .unset, .unset] [(.int (2 : Int32)), (.ref b3), (.ref b3)])) rfl (hb hby at_18)
  refine OGot.go st8 ?_
  show OGot p.tables e below (T8.setTop (mkF m 21 #[.val (.int p1), .val (.int p2), .unset, .unset, .unset, .unset, .unset, .unset, .unset] [(.ref w_COMPLETED), (.int (2 : Int32)), (.ref b3), (.ref b3)])) _
  obtain ⟨cl9, Ar9, qc9, Sz9, Ng9, Hh9, Gg9⟩ := id (Va7)
  have hin9 : ¬ ((2 : Int32) < 0 ∨ cl9.slots.size ≤ ((2 : Int32)).toNatClampNeg) := inb_of Sz9 ⟨by decide, by decide⟩
  obtain ⟨T9, h9, X9, e9, W9, st9⟩ := stR X8 hx hZ e8 Ar9 (j := (2 : Int32)) hin9 rfl (Sto.ofV Ar9 qc9 V3 (Ins.self (G.2.2.2.2.2.1.ext O7.2))) (g := (mkF m 21 #[.val (.int p1), .val (.int p2), .unset, .unset, .unset, .unset, .unset, .unset, .unset] [(.ref w_COMPLETED), (.int (2 : Int32)), (.ref b3), (.ref b3)])) rfl rfl (hb hby at_21)
  refine OGot.go st9 ?_
  have N9 := Fr.snoc X9 N7 g_b3
  have O9 := O7.wr W9 g_b3
  have Va9 : Arv Z h9 b3 k3 (.object "com/example/hermit_crab/hermitcrab/JobState") (5 : Int32) [(.ref w_PENDING), (.ref w_RUNNING), (.ref w_COMPLETED), .null, .null] .null := Arv.set Ar9 qc9 Sz9 Ng9 Hh9 Gg9 rfl W9 2 rfl (Nat.le_of_ble_eq_true rfl)
  show OGot p.tables e below (T9.setTop (mkF m 22 #[.val (.int p1), .val (.int p2), .unset, .unset, .unset, .unset, .unset, .unset, .unset] [(.ref b3)])) _
  refine OGot.go (fun t k => XS.dup X9.here hx rfl (hb hby at_22) rfl rfl k) ?_
  show OGot p.tables e below (T9.setTop (mkF m 23 #[.val (.int p1), .val (.int p2), .unset, .unset, .unset, .unset, .unset, .unset, .unset] [(.ref b3), (.ref b3)])) _
  refine OGot.go (fun t k => XS.iconst X9.here hx rfl (hb hby at_23) k) ?_
  show OGot p.tables e below (T9.setTop (mkF m 24 #[.val (.int p1), .val (.int p2), .unset, .unset, .unset, .unset, .unset, .unset, .unset] [(.int (3 : Int32)), (.ref b3), (.ref b3)])) _
  obtain ⟨T10, X10, e10, st10⟩ := getS2 X9 hx hZ hown (host := "") (Or.inl (ow hw 10 rfl)) Via.refl e9 (G.2.2.2.2.2.2.1.ext O9.2) (g := (mkF m 24 #[.val (.int p1), .val (.int p2), .unset, .unset, .unset, .unset, .unset, .unset, .unset] [(.int (3 : Int32)), (.ref b3), (.ref b3)])) rfl (hb hby at_24)
  refine OGot.go st10 ?_
  show OGot p.tables e below (T10.setTop (mkF m 27 #[.val (.int p1), .val (.int p2), .unset, .unset, .unset, .unset, .unset, .unset, .unset] [(.ref w_FAILED), (.int (3 : Int32)), (.ref b3), (.ref b3)])) _
  obtain ⟨cl11, Ar11, qc11, Sz11, Ng11, Hh11, Gg11⟩ := id (Va9)
  have hin11 : ¬ ((3 : Int32) < 0 ∨ cl11.slots.size ≤ ((3 : Int32)).toNatClampNeg) := inb_of Sz11 ⟨by decide, by decide⟩
  obtain ⟨T11, h11, X11, e11, W11, st11⟩ := stR X10 hx hZ e10 Ar11 (j := (3 : Int32)) hin11 rfl (Sto.ofV Ar11 qc11 V3 (Ins.self (G.2.2.2.2.2.2.2.1.ext O9.2))) (g := (mkF m 27 #[.val (.int p1), .val (.int p2), .unset, .unset, .unset, .unset, .unset, .unset, .unset] [(.ref w_FAILED), (.int (3 : Int32)), (.ref b3), (.ref b3)])) rfl rfl (hb hby at_27)
  refine OGot.go st11 ?_
  have N11 := Fr.snoc X11 N9 g_b3
  have O11 := O9.wr W11 g_b3
  have Va11 : Arv Z h11 b3 k3 (.object "com/example/hermit_crab/hermitcrab/JobState") (5 : Int32) [(.ref w_PENDING), (.ref w_RUNNING), (.ref w_COMPLETED), (.ref w_FAILED), .null] .null := Arv.set Ar11 qc11 Sz11 Ng11 Hh11 Gg11 rfl W11 3 rfl (Nat.le_of_ble_eq_true rfl)
  show OGot p.tables e below (T11.setTop (mkF m 28 #[.val (.int p1), .val (.int p2), .unset, .unset, .unset, .unset, .unset, .unset, .unset] [(.ref b3)])) _
  refine OGot.go (fun t k => XS.dup X11.here hx rfl (hb hby at_28) rfl rfl k) ?_
  show OGot p.tables e below (T11.setTop (mkF m 29 #[.val (.int p1), .val (.int p2), .unset, .unset, .unset, .unset, .unset, .unset, .unset] [(.ref b3), (.ref b3)])) _
  refine OGot.go (fun t k => XS.iconst X11.here hx rfl (hb hby at_29) k) ?_
  show OGot p.tables e below (T11.setTop (mkF m 30 #[.val (.int p1), .val (.int p2), .unset, .unset, .unset, .unset, .unset, .unset, .unset] [(.int (4 : Int32)), (.ref b3), (.ref b3)])) _
  obtain ⟨T12, X12, e12, st12⟩ := getS2 X11 hx hZ hown (host := "") (Or.inl (ow hw 12 rfl)) Via.refl e11 (G.2.2.2.2.2.2.2.2.1.ext O11.2) (g := (mkF m 30 #[.val (.int p1), .val (.int p2), .unset, .unset, .unset, .unset, .unset, .unset, .unset] [(.int (4 : Int32)), (.ref b3), (.ref b3)])) rfl (hb hby at_30)
  refine OGot.go st12 ?_
  show OGot p.tables e below (T12.setTop (mkF m 33 #[.val (.int p1), .val (.int p2), .unset, .unset, .unset, .unset, .unset, .unset, .unset] [(.ref w_CANCELLED), (.int (4 : Int32)), (.ref b3), (.ref b3)])) _
  obtain ⟨cl13, Ar13, qc13, Sz13, Ng13, Hh13, Gg13⟩ := id (Va11)
  have hin13 : ¬ ((4 : Int32) < 0 ∨ cl13.slots.size ≤ ((4 : Int32)).toNatClampNeg) := inb_of Sz13 ⟨by decide, by decide⟩
  obtain ⟨T13, h13, X13, e13, W13, st13⟩ := stR X12 hx hZ e12 Ar13 (j := (4 : Int32)) hin13 rfl (Sto.ofV Ar13 qc13 V3 (Ins.self (G.2.2.2.2.2.2.2.2.2.1.ext O11.2))) (g := (mkF m 33 #[.val (.int p1), .val (.int p2), .unset, .unset, .unset, .unset, .unset, .unset, .unset] [(.ref w_CANCELLED), (.int (4 : Int32)), (.ref b3), (.ref b3)])) rfl rfl (hb hby at_33)
  refine OGot.go st13 ?_
  have N13 := Fr.snoc X13 N11 g_b3
  have O13 := O11.wr W13 g_b3
  have Va13 : Arv Z h13 b3 k3 (.object "com/example/hermit_crab/hermitcrab/JobState") (5 : Int32) [(.ref w_PENDING), (.ref w_RUNNING), (.ref w_COMPLETED), (.ref w_FAILED), (.ref w_CANCELLED)] .null := Arv.set Ar13 qc13 Sz13 Ng13 Hh13 Gg13 rfl W13 4 rfl (Nat.le_of_ble_eq_true rfl)
  show OGot p.tables e below (T13.setTop (mkF m 34 #[.val (.int p1), .val (.int p2), .unset, .unset, .unset, .unset, .unset, .unset, .unset] [(.ref b3)])) _
  refine OGot.go (fun t k => XS.astoreN X13.here hx rfl (hb hby at_34) rfl rfl (l' := #[.val (.int p1), .val (.int p2), .val (.ref b3), .unset, .unset, .unset, .unset, .unset, .unset]) rfl k) ?_
  show OGot p.tables e below (T13.setTop (mkF m 35 #[.val (.int p1), .val (.int p2), .val (.ref b3), .unset, .unset, .unset, .unset, .unset, .unset] [])) _
  refine OGot.go (fun t k => XS.iloadN X13.here hx rfl (hb hby at_35) rfl k) ?_
  show OGot p.tables e below (T13.setTop (mkF m 36 #[.val (.int p1), .val (.int p2), .val (.ref b3), .unset, .unset, .unset, .unset, .unset, .unset] [(.int p1)])) _
  refine OGot.go (fun t k => X13.ldcInt hx hown (mvT hZ (ow hw 14 rfl)) (g := (mkF m 36 #[.val (.int p1), .val (.int p2), .val (.ref b3), .unset, .unset, .unset, .unset, .unset, .unset] [(.int p1)])) rfl (hb hby at_36) _ k) ?_
  show OGot p.tables e below (T13.setTop (mkF m 38 #[.val (.int p1), .val (.int p2), .val (.ref b3), .unset, .unset, .unset, .unset, .unset, .unset] [(.int (2147483647 : Int32)), (.int p1)])) _
  refine OGot.go (fun t k => XS.iand X13.here hx rfl (hb hby at_38) rfl k) ?_
  show OGot p.tables e below (T13.setTop (mkF m 39 #[.val (.int p1), .val (.int p2), .val (.ref b3), .unset, .unset, .unset, .unset, .unset, .unset] [(.int (p1 &&& (2147483647 : Int32)))])) _
  refine OGot.go (fun t k => XS.iconst X13.here hx rfl (hb hby at_39) k) ?_
  show OGot p.tables e below (T13.setTop (mkF m 40 #[.val (.int p1), .val (.int p2), .val (.ref b3), .unset, .unset, .unset, .unset, .unset, .unset] [(.int (5 : Int32)), (.int (p1 &&& (2147483647 : Int32)))])) _
  refine OGot.go (fun t k => iremM X13 hx rfl (hb hby at_40) rfl (by decide) k) ?_
  show OGot p.tables e below (T13.setTop (mkF m 41 #[.val (.int p1), .val (.int p2), .val (.ref b3), .unset, .unset, .unset, .unset, .unset, .unset] [(.int ((p1 &&& (2147483647 : Int32)) % (5 : Int32)))])) _
  rcases own_rem5 p1 with hk14 | hk15 | hk16 | hk17 | hk18
  · rw [hk14]
    show OGot p.tables e below (T13.setTop (mkF m 41 #[.val (.int p1), .val (.int p2), .val (.ref b3), .unset, .unset, .unset, .unset, .unset, .unset] [(.int (0 : Int32))])) _
    refine OGot.go (fun t k => XS.istoreN X13.here hx rfl (hb hby at_41) rfl (l' := #[.val (.int p1), .val (.int p2), .val (.ref b3), .val (.int (0 : Int32)), .unset, .unset, .unset, .unset, .unset]) rfl k) ?_
    show OGot p.tables e below (T13.setTop (mkF m 42 #[.val (.int p1), .val (.int p2), .val (.ref b3), .val (.int (0 : Int32)), .unset, .unset, .unset, .unset, .unset] [])) _
    refine OGot.go (fun t k => XS.iloadN X13.here hx rfl (hb hby at_42) rfl k) ?_
    show OGot p.tables e below (T13.setTop (mkF m 43 #[.val (.int p1), .val (.int p2), .val (.ref b3), .val (.int (0 : Int32)), .unset, .unset, .unset, .unset, .unset] [(.int p2)])) _
    refine OGot.go (fun t k => X13.ldcInt hx hown (mvT hZ (ow hw 14 rfl)) (g := (mkF m 43 #[.val (.int p1), .val (.int p2), .val (.ref b3), .val (.int (0 : Int32)), .unset, .unset, .unset, .unset, .unset] [(.int p2)])) rfl (hb hby at_43) _ k) ?_
    show OGot p.tables e below (T13.setTop (mkF m 45 #[.val (.int p1), .val (.int p2), .val (.ref b3), .val (.int (0 : Int32)), .unset, .unset, .unset, .unset, .unset] [(.int (2147483647 : Int32)), (.int p2)])) _
    refine OGot.go (fun t k => XS.iand X13.here hx rfl (hb hby at_45) rfl k) ?_
    show OGot p.tables e below (T13.setTop (mkF m 46 #[.val (.int p1), .val (.int p2), .val (.ref b3), .val (.int (0 : Int32)), .unset, .unset, .unset, .unset, .unset] [(.int (p2 &&& (2147483647 : Int32)))])) _
    refine OGot.go (fun t k => XS.iconst X13.here hx rfl (hb hby at_46) k) ?_
    show OGot p.tables e below (T13.setTop (mkF m 47 #[.val (.int p1), .val (.int p2), .val (.ref b3), .val (.int (0 : Int32)), .unset, .unset, .unset, .unset, .unset] [(.int (5 : Int32)), (.int (p2 &&& (2147483647 : Int32)))])) _
    refine OGot.go (fun t k => iremM X13 hx rfl (hb hby at_47) rfl (by decide) k) ?_
    show OGot p.tables e below (T13.setTop (mkF m 48 #[.val (.int p1), .val (.int p2), .val (.ref b3), .val (.int (0 : Int32)), .unset, .unset, .unset, .unset, .unset] [(.int ((p2 &&& (2147483647 : Int32)) % (5 : Int32)))])) _
    rcases own_rem5 p2 with hk19 | hk20 | hk21 | hk22 | hk23
    · rw [hk19]
      show OGot p.tables e below (T13.setTop (mkF m 48 #[.val (.int p1), .val (.int p2), .val (.ref b3), .val (.int (0 : Int32)), .unset, .unset, .unset, .unset, .unset] [(.int (0 : Int32))])) _
      refine OGot.go (fun t k => XS.istore X13.here hx rfl (hb hby at_48) rfl (l' := #[.val (.int p1), .val (.int p2), .val (.ref b3), .val (.int (0 : Int32)), .val (.int (0 : Int32)), .unset, .unset, .unset, .unset]) rfl k) ?_
      show OGot p.tables e below (T13.setTop (mkF m 50 #[.val (.int p1), .val (.int p2), .val (.ref b3), .val (.int (0 : Int32)), .val (.int (0 : Int32)), .unset, .unset, .unset, .unset] [])) _
      refine OGot.go (fun t k => XS.aloadN X13.here hx rfl (hb hby at_50) rfl rfl k) ?_
      show OGot p.tables e below (T13.setTop (mkF m 51 #[.val (.int p1), .val (.int p2), .val (.ref b3), .val (.int (0 : Int32)), .val (.int (0 : Int32)), .unset, .unset, .unset, .unset] [(.ref b3)])) _
      refine OGot.go (fun t k => XS.iloadN X13.here hx rfl (hb hby at_51) rfl k) ?_
      show OGot p.tables e below (T13.setTop (mkF m 52 #[.val (.int p1), .val (.int p2), .val (.ref b3), .val (.int (0 : Int32)), .val (.int (0 : Int32)), .unset, .unset, .unset, .unset] [(.int (0 : Int32)), (.ref b3)])) _
      obtain ⟨cl24, Ar24, qc24, Sz24, Ng24, Hh24, Gg24⟩ := id (Va13)
      have hin24 : ¬ ((0 : Int32) < 0 ∨ cl24.slots.size ≤ ((0 : Int32)).toNatClampNeg) := inb_of Sz24 ⟨by decide, by decide⟩
      have hat24 : cl24.slots[((0 : Int32)).toNatClampNeg]? = some (.ref w_PENDING) := Hh24.at hin24 rfl
      refine OGot.go (fun t k => X13.aaload hx (j := (0 : Int32)) (v := (.ref w_PENDING)) (by rw [e13]; exact Ar24.1) (State.isArrayOf_alike hZ.alike Ar24.2.1) rfl Ar24.2.2 hin24 hat24 (g := (mkF m 52 #[.val (.int p1), .val (.int p2), .val (.ref b3), .val (.int (0 : Int32)), .val (.int (0 : Int32)), .unset, .unset, .unset, .unset] [(.int (0 : Int32)), (.ref b3)])) rfl rfl (hb hby at_52) _ k) ?_
      show OGot p.tables e below (T13.setTop (mkF m 53 #[.val (.int p1), .val (.int p2), .val (.ref b3), .val (.int (0 : Int32)), .val (.int (0 : Int32)), .unset, .unset, .unset, .unset] [(.ref w_PENDING)])) _
      refine OGot.go (fun t k => XS.astore X13.here hx rfl (hb hby at_53) rfl rfl (l' := #[.val (.int p1), .val (.int p2), .val (.ref b3), .val (.int (0 : Int32)), .val (.int (0 : Int32)), .val (.ref w_PENDING), .unset, .unset, .unset]) rfl k) ?_
      show OGot p.tables e below (T13.setTop (mkF m 55 #[.val (.int p1), .val (.int p2), .val (.ref b3), .val (.int (0 : Int32)), .val (.int (0 : Int32)), .val (.ref w_PENDING), .unset, .unset, .unset] [])) _
      refine OGot.go (fun t k => XS.aloadN X13.here hx rfl (hb hby at_55) rfl rfl k) ?_
      show OGot p.tables e below (T13.setTop (mkF m 56 #[.val (.int p1), .val (.int p2), .val (.ref b3), .val (.int (0 : Int32)), .val (.int (0 : Int32)), .val (.ref w_PENDING), .unset, .unset, .unset] [(.ref b3)])) _
      refine OGot.go (fun t k => XS.iload X13.here hx rfl (hb hby at_56) rfl k) ?_
      show OGot p.tables e below (T13.setTop (mkF m 58 #[.val (.int p1), .val (.int p2), .val (.ref b3), .val (.int (0 : Int32)), .val (.int (0 : Int32)), .val (.ref w_PENDING), .unset, .unset, .unset] [(.int (0 : Int32)), (.ref b3)])) _
      obtain ⟨cl25, Ar25, qc25, Sz25, Ng25, Hh25, Gg25⟩ := id (Va13)
      have hin25 : ¬ ((0 : Int32) < 0 ∨ cl25.slots.size ≤ ((0 : Int32)).toNatClampNeg) := inb_of Sz25 ⟨by decide, by decide⟩
      have hat25 : cl25.slots[((0 : Int32)).toNatClampNeg]? = some (.ref w_PENDING) := Hh25.at hin25 rfl
      refine OGot.go (fun t k => X13.aaload hx (j := (0 : Int32)) (v := (.ref w_PENDING)) (by rw [e13]; exact Ar25.1) (State.isArrayOf_alike hZ.alike Ar25.2.1) rfl Ar25.2.2 hin25 hat25 (g := (mkF m 58 #[.val (.int p1), .val (.int p2), .val (.ref b3), .val (.int (0 : Int32)), .val (.int (0 : Int32)), .val (.ref w_PENDING), .unset, .unset, .unset] [(.int (0 : Int32)), (.ref b3)])) rfl rfl (hb hby at_58) _ k) ?_
      show OGot p.tables e below (T13.setTop (mkF m 59 #[.val (.int p1), .val (.int p2), .val (.ref b3), .val (.int (0 : Int32)), .val (.int (0 : Int32)), .val (.ref w_PENDING), .unset, .unset, .unset] [(.ref w_PENDING)])) _
      refine OGot.go (fun t k => XS.astore X13.here hx rfl (hb hby at_59) rfl rfl (l' := #[.val (.int p1), .val (.int p2), .val (.ref b3), .val (.int (0 : Int32)), .val (.int (0 : Int32)), .val (.ref w_PENDING), .val (.ref w_PENDING), .unset, .unset]) rfl k) ?_
      show OGot p.tables e below (T13.setTop (mkF m 61 #[.val (.int p1), .val (.int p2), .val (.ref b3), .val (.int (0 : Int32)), .val (.int (0 : Int32)), .val (.ref w_PENDING), .val (.ref w_PENDING), .unset, .unset] [])) _
      refine OGot.go (fun t k => XS.iloadN X13.here hx rfl (hb hby at_61) rfl k) ?_
      show OGot p.tables e below (T13.setTop (mkF m 62 #[.val (.int p1), .val (.int p2), .val (.ref b3), .val (.int (0 : Int32)), .val (.int (0 : Int32)), .val (.ref w_PENDING), .val (.ref w_PENDING), .unset, .unset] [(.int (0 : Int32))])) _
      refine OGot.go (fun t k => XS.ifYes X13.here hx rfl (pc0 := 62) (pc' := 74) rfl (hb hby at_62) rfl (by decide) (by decide) (by decide) k) ?_
      show OGot p.tables e below (T13.setTop (mkF m 74 #[.val (.int p1), .val (.int p2), .val (.ref b3), .val (.int (0 : Int32)), .val (.int (0 : Int32)), .val (.ref w_PENDING), .val (.ref w_PENDING), .unset, .unset] [])) _
      refine OGot.go (fun t k => XS.iconst X13.here hx rfl (hb hby at_74) k) ?_
      show OGot p.tables e below (T13.setTop (mkF m 75 #[.val (.int p1), .val (.int p2), .val (.ref b3), .val (.int (0 : Int32)), .val (.int (0 : Int32)), .val (.ref w_PENDING), .val (.ref w_PENDING), .unset, .unset] [(.int (0 : Int32))])) _
      refine OGot.go (fun t k => XS.istore X13.here hx rfl (hb hby at_75) rfl (l' := #[.val (.int p1), .val (.int p2), .val (.ref b3), .val (.int (0 : Int32)), .val (.int (0 : Int32)), .val (.ref w_PENDING), .val (.ref w_PENDING), .val (.int (0 : Int32)), .unset]) rfl k) ?_
      show OGot p.tables e below (T13.setTop (mkF m 77 #[.val (.int p1), .val (.int p2), .val (.ref b3), .val (.int (0 : Int32)), .val (.int (0 : Int32)), .val (.ref w_PENDING), .val (.ref w_PENDING), .val (.int (0 : Int32)), .unset] [])) _
      refine OGot.go (fun t k => XS.aload X13.here hx rfl (hb hby at_77) rfl rfl k) ?_
      show OGot p.tables e below (T13.setTop (mkF m 79 #[.val (.int p1), .val (.int p2), .val (.ref b3), .val (.int (0 : Int32)), .val (.int (0 : Int32)), .val (.ref w_PENDING), .val (.ref w_PENDING), .val (.int (0 : Int32)), .unset] [(.ref w_PENDING)])) _
      obtain ⟨cq26, kq26, q26a, q26b, q26c⟩ := isOf hZ e13 (G.2.1.ext O13.2)
      obtain ⟨_, _, ⟨T26, L26, k26, n26⟩, -, X26, ⟨Lc26, hQ26, l26, y26, z26⟩, st26⟩ := X13.virtualBack hx (y := (⟨"com/example/hermit_crab/hermitcrab/JobState", "isFinal", "()Z"⟩ : MethodName)) (z := (⟨"com/example/hermit_crab/hermitcrab/JobState", "isFinal", "()Z"⟩ : MethodName)) hown (mvT hZ (ow hw 15 rfl)) (mvT hZ (ow hw 16 rfl)) (notFace_of_selects (args := #[]) (mvT hZ (ow hw 18 rfl))) (mvT hZ (ow hw 18 rfl)) (mvT hZ (ow hw 17 rfl)) (by decide) (backOf (W := 0) (rm1 l Z a0 hw [] G  h13 n0 O13 ) hZ (ow hw 19 rfl) (ow hw 3 rfl) (by decide) (by decide)) q26a q26c (g := (mkF m 79 #[.val (.int p1), .val (.int p2), .val (.ref b3), .val (.int (0 : Int32)), .val (.int (0 : Int32)), .val (.ref w_PENDING), .val (.ref w_PENDING), .val (.int (0 : Int32)), .unset] [(.ref w_PENDING)])) rfl (by rw [hml]; rfl) (Steps.refl _) (argsL := []) (rest := []) (lenOf pd_0 rfl) rfl (by show 2 * 0 + _ ≤ _; exact Nat.le_of_eq rfl) (hb hby at_79) (fun _ _ => ⟨rfl, e13, (by decide : 1 + 0 ≤ _), (by decide : 5 + 0 ≤ _)⟩)
      dsimp only [Pt.U, Pt.locs, Pt.cells, Pt.slots] at X26 l26 y26 z26 st26 hQ26
      subst l26 y26 z26
      obtain ⟨rfl, N26q, e26⟩ := hQ26
      have N26 := Fr.app N13 N26q
      refine OGot.on st26 ?_
      show OGot p.tables e below (T26.setTop (mkF m 82 #[.val (.int p1), .val (.int p2), .val (.ref b3), .val (.int (0 : Int32)), .val (.int (0 : Int32)), .val (.ref w_PENDING), .val (.ref w_PENDING), .val (.int (0 : Int32)), .unset] [(.int (0 : Int32))])) _
      refine OGot.go (fun t k => XS.istore X26.here hx rfl (hb hby at_82) rfl (l' := #[.val (.int p1), .val (.int p2), .val (.ref b3), .val (.int (0 : Int32)), .val (.int (0 : Int32)), .val (.ref w_PENDING), .val (.ref w_PENDING), .val (.int (0 : Int32)), .val (.int (0 : Int32))]) rfl k) ?_
      show OGot p.tables e below (T26.setTop (mkF m 84 #[.val (.int p1), .val (.int p2), .val (.ref b3), .val (.int (0 : Int32)), .val (.int (0 : Int32)), .val (.ref w_PENDING), .val (.ref w_PENDING), .val (.int (0 : Int32)), .val (.int (0 : Int32))] [])) _
      refine OGot.go (fun t k => XS.iload X26.here hx rfl (hb hby at_84) rfl k) ?_
      show OGot p.tables e below (T26.setTop (mkF m 86 #[.val (.int p1), .val (.int p2), .val (.ref b3), .val (.int (0 : Int32)), .val (.int (0 : Int32)), .val (.ref w_PENDING), .val (.ref w_PENDING), .val (.int (0 : Int32)), .val (.int (0 : Int32))] [(.int (0 : Int32))])) _
      refine OGot.go (fun t k => XS.iload X26.here hx rfl (hb hby at_86) rfl k) ?_
      show OGot p.tables e below (T26.setTop (mkF m 88 #[.val (.int p1), .val (.int p2), .val (.ref b3), .val (.int (0 : Int32)), .val (.int (0 : Int32)), .val (.ref w_PENDING), .val (.ref w_PENDING), .val (.int (0 : Int32)), .val (.int (0 : Int32))] [(.int (0 : Int32)), (.int (0 : Int32))])) _
      refine OGot.go (fun t k => XS.icmpYes X26.here hx rfl (pc0 := 88) (pc' := 93) rfl (hb hby at_88) rfl (by decide) (by decide) (by decide) k) ?_
      show OGot p.tables e below (T26.setTop (mkF m 93 #[.val (.int p1), .val (.int p2), .val (.ref b3), .val (.int (0 : Int32)), .val (.int (0 : Int32)), .val (.ref w_PENDING), .val (.ref w_PENDING), .val (.int (0 : Int32)), .val (.int (0 : Int32))] [])) _
      refine OGot.go (fun t k => XS.iload X26.here hx rfl (hb hby at_93) rfl k) ?_
      show OGot p.tables e below (T26.setTop (mkF m 95 #[.val (.int p1), .val (.int p2), .val (.ref b3), .val (.int (0 : Int32)), .val (.int (0 : Int32)), .val (.ref w_PENDING), .val (.ref w_PENDING), .val (.int (0 : Int32)), .val (.int (0 : Int32))] [(.int (0 : Int32))])) _
      refine OGot.go (fun t k => XS.ifYes X26.here hx rfl (pc0 := 95) (pc' := 124) rfl (hb hby at_95) rfl (by decide) (by decide) (by decide) k) ?_
      show OGot p.tables e below (T26.setTop (mkF m 124 #[.val (.int p1), .val (.int p2), .val (.ref b3), .val (.int (0 : Int32)), .val (.int (0 : Int32)), .val (.ref w_PENDING), .val (.ref w_PENDING), .val (.int (0 : Int32)), .val (.int (0 : Int32))] [])) _
      refine OGot.go (fun t k => XS.iconst X26.here hx rfl (hb hby at_124) k) ?_
      show OGot p.tables e below (T26.setTop (mkF m 125 #[.val (.int p1), .val (.int p2), .val (.ref b3), .val (.int (0 : Int32)), .val (.int (0 : Int32)), .val (.ref w_PENDING), .val (.ref w_PENDING), .val (.int (0 : Int32)), .val (.int (0 : Int32))] [(.int (1 : Int32))])) _
      obtain ⟨fs, hr, hrun, hended, hW, hsame⟩ := X26.leave (v := some (.int (1 : Int32))) (fun h => by rw [Bd.returns] at h; cases h)
      refine ⟨_, _, retN X26 hx (t := .boolean) Bd.returns (by simp) (hb hby at_125) hr, hrun, hended, _, _, rfl, ?_, ⟨_, rfl⟩, hW, hsame.mono (by decide) (by decide)⟩
      exact (⟨rfl, N26⟩ : Q0 Z w_PENDING w_RUNNING w_COMPLETED w_FAILED w_CANCELLED p1 p2 h0 n0 _ T26.heap _)
    · rw [hk20]
      show OGot p.tables e below (T13.setTop (mkF m 48 #[.val (.int p1), .val (.int p2), .val (.ref b3), .val (.int (0 : Int32)), .unset, .unset, .unset, .unset, .unset] [(.int (1 : Int32))])) _
      refine OGot.go (fun t k => XS.istore X13.here hx rfl (hb hby at_48) rfl (l' := #[.val (.int p1), .val (.int p2), .val (.ref b3), .val (.int (0 : Int32)), .val (.int (1 : Int32)), .unset, .unset, .unset, .unset]) rfl k) ?_
      show OGot p.tables e below (T13.setTop (mkF m 50 #[.val (.int p1), .val (.int p2), .val (.ref b3), .val (.int (0 : Int32)), .val (.int (1 : Int32)), .unset, .unset, .unset, .unset] [])) _
      refine OGot.go (fun t k => XS.aloadN X13.here hx rfl (hb hby at_50) rfl rfl k) ?_
      show OGot p.tables e below (T13.setTop (mkF m 51 #[.val (.int p1), .val (.int p2), .val (.ref b3), .val (.int (0 : Int32)), .val (.int (1 : Int32)), .unset, .unset, .unset, .unset] [(.ref b3)])) _
      refine OGot.go (fun t k => XS.iloadN X13.here hx rfl (hb hby at_51) rfl k) ?_
      show OGot p.tables e below (T13.setTop (mkF m 52 #[.val (.int p1), .val (.int p2), .val (.ref b3), .val (.int (0 : Int32)), .val (.int (1 : Int32)), .unset, .unset, .unset, .unset] [(.int (0 : Int32)), (.ref b3)])) _
      obtain ⟨cl27, Ar27, qc27, Sz27, Ng27, Hh27, Gg27⟩ := id (Va13)
      have hin27 : ¬ ((0 : Int32) < 0 ∨ cl27.slots.size ≤ ((0 : Int32)).toNatClampNeg) := inb_of Sz27 ⟨by decide, by decide⟩
      have hat27 : cl27.slots[((0 : Int32)).toNatClampNeg]? = some (.ref w_PENDING) := Hh27.at hin27 rfl
      refine OGot.go (fun t k => X13.aaload hx (j := (0 : Int32)) (v := (.ref w_PENDING)) (by rw [e13]; exact Ar27.1) (State.isArrayOf_alike hZ.alike Ar27.2.1) rfl Ar27.2.2 hin27 hat27 (g := (mkF m 52 #[.val (.int p1), .val (.int p2), .val (.ref b3), .val (.int (0 : Int32)), .val (.int (1 : Int32)), .unset, .unset, .unset, .unset] [(.int (0 : Int32)), (.ref b3)])) rfl rfl (hb hby at_52) _ k) ?_
      show OGot p.tables e below (T13.setTop (mkF m 53 #[.val (.int p1), .val (.int p2), .val (.ref b3), .val (.int (0 : Int32)), .val (.int (1 : Int32)), .unset, .unset, .unset, .unset] [(.ref w_PENDING)])) _
      refine OGot.go (fun t k => XS.astore X13.here hx rfl (hb hby at_53) rfl rfl (l' := #[.val (.int p1), .val (.int p2), .val (.ref b3), .val (.int (0 : Int32)), .val (.int (1 : Int32)), .val (.ref w_PENDING), .unset, .unset, .unset]) rfl k) ?_
      show OGot p.tables e below (T13.setTop (mkF m 55 #[.val (.int p1), .val (.int p2), .val (.ref b3), .val (.int (0 : Int32)), .val (.int (1 : Int32)), .val (.ref w_PENDING), .unset, .unset, .unset] [])) _
      refine OGot.go (fun t k => XS.aloadN X13.here hx rfl (hb hby at_55) rfl rfl k) ?_
      show OGot p.tables e below (T13.setTop (mkF m 56 #[.val (.int p1), .val (.int p2), .val (.ref b3), .val (.int (0 : Int32)), .val (.int (1 : Int32)), .val (.ref w_PENDING), .unset, .unset, .unset] [(.ref b3)])) _
      refine OGot.go (fun t k => XS.iload X13.here hx rfl (hb hby at_56) rfl k) ?_
      show OGot p.tables e below (T13.setTop (mkF m 58 #[.val (.int p1), .val (.int p2), .val (.ref b3), .val (.int (0 : Int32)), .val (.int (1 : Int32)), .val (.ref w_PENDING), .unset, .unset, .unset] [(.int (1 : Int32)), (.ref b3)])) _
      obtain ⟨cl28, Ar28, qc28, Sz28, Ng28, Hh28, Gg28⟩ := id (Va13)
      have hin28 : ¬ ((1 : Int32) < 0 ∨ cl28.slots.size ≤ ((1 : Int32)).toNatClampNeg) := inb_of Sz28 ⟨by decide, by decide⟩
      have hat28 : cl28.slots[((1 : Int32)).toNatClampNeg]? = some (.ref w_RUNNING) := Hh28.at hin28 rfl
      refine OGot.go (fun t k => X13.aaload hx (j := (1 : Int32)) (v := (.ref w_RUNNING)) (by rw [e13]; exact Ar28.1) (State.isArrayOf_alike hZ.alike Ar28.2.1) rfl Ar28.2.2 hin28 hat28 (g := (mkF m 58 #[.val (.int p1), .val (.int p2), .val (.ref b3), .val (.int (0 : Int32)), .val (.int (1 : Int32)), .val (.ref w_PENDING), .unset, .unset, .unset] [(.int (1 : Int32)), (.ref b3)])) rfl rfl (hb hby at_58) _ k) ?_
      show OGot p.tables e below (T13.setTop (mkF m 59 #[.val (.int p1), .val (.int p2), .val (.ref b3), .val (.int (0 : Int32)), .val (.int (1 : Int32)), .val (.ref w_PENDING), .unset, .unset, .unset] [(.ref w_RUNNING)])) _
      refine OGot.go (fun t k => XS.astore X13.here hx rfl (hb hby at_59) rfl rfl (l' := #[.val (.int p1), .val (.int p2), .val (.ref b3), .val (.int (0 : Int32)), .val (.int (1 : Int32)), .val (.ref w_PENDING), .val (.ref w_RUNNING), .unset, .unset]) rfl k) ?_
      show OGot p.tables e below (T13.setTop (mkF m 61 #[.val (.int p1), .val (.int p2), .val (.ref b3), .val (.int (0 : Int32)), .val (.int (1 : Int32)), .val (.ref w_PENDING), .val (.ref w_RUNNING), .unset, .unset] [])) _
      refine OGot.go (fun t k => XS.iloadN X13.here hx rfl (hb hby at_61) rfl k) ?_
      show OGot p.tables e below (T13.setTop (mkF m 62 #[.val (.int p1), .val (.int p2), .val (.ref b3), .val (.int (0 : Int32)), .val (.int (1 : Int32)), .val (.ref w_PENDING), .val (.ref w_RUNNING), .unset, .unset] [(.int (0 : Int32))])) _
      refine OGot.go (fun t k => XS.ifYes X13.here hx rfl (pc0 := 62) (pc' := 74) rfl (hb hby at_62) rfl (by decide) (by decide) (by decide) k) ?_
      show OGot p.tables e below (T13.setTop (mkF m 74 #[.val (.int p1), .val (.int p2), .val (.ref b3), .val (.int (0 : Int32)), .val (.int (1 : Int32)), .val (.ref w_PENDING), .val (.ref w_RUNNING), .unset, .unset] [])) _
      refine OGot.go (fun t k => XS.iconst X13.here hx rfl (hb hby at_74) k) ?_
      show OGot p.tables e below (T13.setTop (mkF m 75 #[.val (.int p1), .val (.int p2), .val (.ref b3), .val (.int (0 : Int32)), .val (.int (1 : Int32)), .val (.ref w_PENDING), .val (.ref w_RUNNING), .unset, .unset] [(.int (0 : Int32))])) _
      refine OGot.go (fun t k => XS.istore X13.here hx rfl (hb hby at_75) rfl (l' := #[.val (.int p1), .val (.int p2), .val (.ref b3), .val (.int (0 : Int32)), .val (.int (1 : Int32)), .val (.ref w_PENDING), .val (.ref w_RUNNING), .val (.int (0 : Int32)), .unset]) rfl k) ?_
      show OGot p.tables e below (T13.setTop (mkF m 77 #[.val (.int p1), .val (.int p2), .val (.ref b3), .val (.int (0 : Int32)), .val (.int (1 : Int32)), .val (.ref w_PENDING), .val (.ref w_RUNNING), .val (.int (0 : Int32)), .unset] [])) _
      refine OGot.go (fun t k => XS.aload X13.here hx rfl (hb hby at_77) rfl rfl k) ?_
      show OGot p.tables e below (T13.setTop (mkF m 79 #[.val (.int p1), .val (.int p2), .val (.ref b3), .val (.int (0 : Int32)), .val (.int (1 : Int32)), .val (.ref w_PENDING), .val (.ref w_RUNNING), .val (.int (0 : Int32)), .unset] [(.ref w_PENDING)])) _
      obtain ⟨cq29, kq29, q29a, q29b, q29c⟩ := isOf hZ e13 (G.2.1.ext O13.2)
      obtain ⟨_, _, ⟨T29, L29, k29, n29⟩, -, X29, ⟨Lc29, hQ29, l29, y29, z29⟩, st29⟩ := X13.virtualBack hx (y := (⟨"com/example/hermit_crab/hermitcrab/JobState", "isFinal", "()Z"⟩ : MethodName)) (z := (⟨"com/example/hermit_crab/hermitcrab/JobState", "isFinal", "()Z"⟩ : MethodName)) hown (mvT hZ (ow hw 15 rfl)) (mvT hZ (ow hw 16 rfl)) (notFace_of_selects (args := #[]) (mvT hZ (ow hw 18 rfl))) (mvT hZ (ow hw 18 rfl)) (mvT hZ (ow hw 17 rfl)) (by decide) (backOf (W := 0) (rm1 l Z a0 hw [] G  h13 n0 O13 ) hZ (ow hw 19 rfl) (ow hw 3 rfl) (by decide) (by decide)) q29a q29c (g := (mkF m 79 #[.val (.int p1), .val (.int p2), .val (.ref b3), .val (.int (0 : Int32)), .val (.int (1 : Int32)), .val (.ref w_PENDING), .val (.ref w_RUNNING), .val (.int (0 : Int32)), .unset] [(.ref w_PENDING)])) rfl (by rw [hml]; rfl) (Steps.refl _) (argsL := []) (rest := []) (lenOf pd_0 rfl) rfl (by show 2 * 0 + _ ≤ _; exact Nat.le_of_eq rfl) (hb hby at_79) (fun _ _ => ⟨rfl, e13, (by decide : 1 + 0 ≤ _), (by decide : 5 + 0 ≤ _)⟩)
      dsimp only [Pt.U, Pt.locs, Pt.cells, Pt.slots] at X29 l29 y29 z29 st29 hQ29
      subst l29 y29 z29
      obtain ⟨rfl, N29q, e29⟩ := hQ29
      have N29 := Fr.app N13 N29q
      refine OGot.on st29 ?_
      show OGot p.tables e below (T29.setTop (mkF m 82 #[.val (.int p1), .val (.int p2), .val (.ref b3), .val (.int (0 : Int32)), .val (.int (1 : Int32)), .val (.ref w_PENDING), .val (.ref w_RUNNING), .val (.int (0 : Int32)), .unset] [(.int (0 : Int32))])) _
      refine OGot.go (fun t k => XS.istore X29.here hx rfl (hb hby at_82) rfl (l' := #[.val (.int p1), .val (.int p2), .val (.ref b3), .val (.int (0 : Int32)), .val (.int (1 : Int32)), .val (.ref w_PENDING), .val (.ref w_RUNNING), .val (.int (0 : Int32)), .val (.int (0 : Int32))]) rfl k) ?_
      show OGot p.tables e below (T29.setTop (mkF m 84 #[.val (.int p1), .val (.int p2), .val (.ref b3), .val (.int (0 : Int32)), .val (.int (1 : Int32)), .val (.ref w_PENDING), .val (.ref w_RUNNING), .val (.int (0 : Int32)), .val (.int (0 : Int32))] [])) _
      refine OGot.go (fun t k => XS.iload X29.here hx rfl (hb hby at_84) rfl k) ?_
      show OGot p.tables e below (T29.setTop (mkF m 86 #[.val (.int p1), .val (.int p2), .val (.ref b3), .val (.int (0 : Int32)), .val (.int (1 : Int32)), .val (.ref w_PENDING), .val (.ref w_RUNNING), .val (.int (0 : Int32)), .val (.int (0 : Int32))] [(.int (0 : Int32))])) _
      refine OGot.go (fun t k => XS.iload X29.here hx rfl (hb hby at_86) rfl k) ?_
      show OGot p.tables e below (T29.setTop (mkF m 88 #[.val (.int p1), .val (.int p2), .val (.ref b3), .val (.int (0 : Int32)), .val (.int (1 : Int32)), .val (.ref w_PENDING), .val (.ref w_RUNNING), .val (.int (0 : Int32)), .val (.int (0 : Int32))] [(.int (0 : Int32)), (.int (0 : Int32))])) _
      refine OGot.go (fun t k => XS.icmpYes X29.here hx rfl (pc0 := 88) (pc' := 93) rfl (hb hby at_88) rfl (by decide) (by decide) (by decide) k) ?_
      show OGot p.tables e below (T29.setTop (mkF m 93 #[.val (.int p1), .val (.int p2), .val (.ref b3), .val (.int (0 : Int32)), .val (.int (1 : Int32)), .val (.ref w_PENDING), .val (.ref w_RUNNING), .val (.int (0 : Int32)), .val (.int (0 : Int32))] [])) _
      refine OGot.go (fun t k => XS.iload X29.here hx rfl (hb hby at_93) rfl k) ?_
      show OGot p.tables e below (T29.setTop (mkF m 95 #[.val (.int p1), .val (.int p2), .val (.ref b3), .val (.int (0 : Int32)), .val (.int (1 : Int32)), .val (.ref w_PENDING), .val (.ref w_RUNNING), .val (.int (0 : Int32)), .val (.int (0 : Int32))] [(.int (0 : Int32))])) _
      refine OGot.go (fun t k => XS.ifYes X29.here hx rfl (pc0 := 95) (pc' := 124) rfl (hb hby at_95) rfl (by decide) (by decide) (by decide) k) ?_
      show OGot p.tables e below (T29.setTop (mkF m 124 #[.val (.int p1), .val (.int p2), .val (.ref b3), .val (.int (0 : Int32)), .val (.int (1 : Int32)), .val (.ref w_PENDING), .val (.ref w_RUNNING), .val (.int (0 : Int32)), .val (.int (0 : Int32))] [])) _
      refine OGot.go (fun t k => XS.iconst X29.here hx rfl (hb hby at_124) k) ?_
      show OGot p.tables e below (T29.setTop (mkF m 125 #[.val (.int p1), .val (.int p2), .val (.ref b3), .val (.int (0 : Int32)), .val (.int (1 : Int32)), .val (.ref w_PENDING), .val (.ref w_RUNNING), .val (.int (0 : Int32)), .val (.int (0 : Int32))] [(.int (1 : Int32))])) _
      obtain ⟨fs, hr, hrun, hended, hW, hsame⟩ := X29.leave (v := some (.int (1 : Int32))) (fun h => by rw [Bd.returns] at h; cases h)
      refine ⟨_, _, retN X29 hx (t := .boolean) Bd.returns (by simp) (hb hby at_125) hr, hrun, hended, _, _, rfl, ?_, ⟨_, rfl⟩, hW, hsame.mono (by decide) (by decide)⟩
      exact (⟨rfl, N29⟩ : Q0 Z w_PENDING w_RUNNING w_COMPLETED w_FAILED w_CANCELLED p1 p2 h0 n0 _ T29.heap _)
    · rw [hk21]
      show OGot p.tables e below (T13.setTop (mkF m 48 #[.val (.int p1), .val (.int p2), .val (.ref b3), .val (.int (0 : Int32)), .unset, .unset, .unset, .unset, .unset] [(.int (2 : Int32))])) _
      refine OGot.go (fun t k => XS.istore X13.here hx rfl (hb hby at_48) rfl (l' := #[.val (.int p1), .val (.int p2), .val (.ref b3), .val (.int (0 : Int32)), .val (.int (2 : Int32)), .unset, .unset, .unset, .unset]) rfl k) ?_
      show OGot p.tables e below (T13.setTop (mkF m 50 #[.val (.int p1), .val (.int p2), .val (.ref b3), .val (.int (0 : Int32)), .val (.int (2 : Int32)), .unset, .unset, .unset, .unset] [])) _
      refine OGot.go (fun t k => XS.aloadN X13.here hx rfl (hb hby at_50) rfl rfl k) ?_
      show OGot p.tables e below (T13.setTop (mkF m 51 #[.val (.int p1), .val (.int p2), .val (.ref b3), .val (.int (0 : Int32)), .val (.int (2 : Int32)), .unset, .unset, .unset, .unset] [(.ref b3)])) _
      refine OGot.go (fun t k => XS.iloadN X13.here hx rfl (hb hby at_51) rfl k) ?_
      show OGot p.tables e below (T13.setTop (mkF m 52 #[.val (.int p1), .val (.int p2), .val (.ref b3), .val (.int (0 : Int32)), .val (.int (2 : Int32)), .unset, .unset, .unset, .unset] [(.int (0 : Int32)), (.ref b3)])) _
      obtain ⟨cl30, Ar30, qc30, Sz30, Ng30, Hh30, Gg30⟩ := id (Va13)
      have hin30 : ¬ ((0 : Int32) < 0 ∨ cl30.slots.size ≤ ((0 : Int32)).toNatClampNeg) := inb_of Sz30 ⟨by decide, by decide⟩
      have hat30 : cl30.slots[((0 : Int32)).toNatClampNeg]? = some (.ref w_PENDING) := Hh30.at hin30 rfl
      refine OGot.go (fun t k => X13.aaload hx (j := (0 : Int32)) (v := (.ref w_PENDING)) (by rw [e13]; exact Ar30.1) (State.isArrayOf_alike hZ.alike Ar30.2.1) rfl Ar30.2.2 hin30 hat30 (g := (mkF m 52 #[.val (.int p1), .val (.int p2), .val (.ref b3), .val (.int (0 : Int32)), .val (.int (2 : Int32)), .unset, .unset, .unset, .unset] [(.int (0 : Int32)), (.ref b3)])) rfl rfl (hb hby at_52) _ k) ?_
      show OGot p.tables e below (T13.setTop (mkF m 53 #[.val (.int p1), .val (.int p2), .val (.ref b3), .val (.int (0 : Int32)), .val (.int (2 : Int32)), .unset, .unset, .unset, .unset] [(.ref w_PENDING)])) _
      refine OGot.go (fun t k => XS.astore X13.here hx rfl (hb hby at_53) rfl rfl (l' := #[.val (.int p1), .val (.int p2), .val (.ref b3), .val (.int (0 : Int32)), .val (.int (2 : Int32)), .val (.ref w_PENDING), .unset, .unset, .unset]) rfl k) ?_
      show OGot p.tables e below (T13.setTop (mkF m 55 #[.val (.int p1), .val (.int p2), .val (.ref b3), .val (.int (0 : Int32)), .val (.int (2 : Int32)), .val (.ref w_PENDING), .unset, .unset, .unset] [])) _
      refine OGot.go (fun t k => XS.aloadN X13.here hx rfl (hb hby at_55) rfl rfl k) ?_
      show OGot p.tables e below (T13.setTop (mkF m 56 #[.val (.int p1), .val (.int p2), .val (.ref b3), .val (.int (0 : Int32)), .val (.int (2 : Int32)), .val (.ref w_PENDING), .unset, .unset, .unset] [(.ref b3)])) _
      refine OGot.go (fun t k => XS.iload X13.here hx rfl (hb hby at_56) rfl k) ?_
      show OGot p.tables e below (T13.setTop (mkF m 58 #[.val (.int p1), .val (.int p2), .val (.ref b3), .val (.int (0 : Int32)), .val (.int (2 : Int32)), .val (.ref w_PENDING), .unset, .unset, .unset] [(.int (2 : Int32)), (.ref b3)])) _
      obtain ⟨cl31, Ar31, qc31, Sz31, Ng31, Hh31, Gg31⟩ := id (Va13)
      have hin31 : ¬ ((2 : Int32) < 0 ∨ cl31.slots.size ≤ ((2 : Int32)).toNatClampNeg) := inb_of Sz31 ⟨by decide, by decide⟩
      have hat31 : cl31.slots[((2 : Int32)).toNatClampNeg]? = some (.ref w_COMPLETED) := Hh31.at hin31 rfl
      refine OGot.go (fun t k => X13.aaload hx (j := (2 : Int32)) (v := (.ref w_COMPLETED)) (by rw [e13]; exact Ar31.1) (State.isArrayOf_alike hZ.alike Ar31.2.1) rfl Ar31.2.2 hin31 hat31 (g := (mkF m 58 #[.val (.int p1), .val (.int p2), .val (.ref b3), .val (.int (0 : Int32)), .val (.int (2 : Int32)), .val (.ref w_PENDING), .unset, .unset, .unset] [(.int (2 : Int32)), (.ref b3)])) rfl rfl (hb hby at_58) _ k) ?_
      show OGot p.tables e below (T13.setTop (mkF m 59 #[.val (.int p1), .val (.int p2), .val (.ref b3), .val (.int (0 : Int32)), .val (.int (2 : Int32)), .val (.ref w_PENDING), .unset, .unset, .unset] [(.ref w_COMPLETED)])) _
      refine OGot.go (fun t k => XS.astore X13.here hx rfl (hb hby at_59) rfl rfl (l' := #[.val (.int p1), .val (.int p2), .val (.ref b3), .val (.int (0 : Int32)), .val (.int (2 : Int32)), .val (.ref w_PENDING), .val (.ref w_COMPLETED), .unset, .unset]) rfl k) ?_
      show OGot p.tables e below (T13.setTop (mkF m 61 #[.val (.int p1), .val (.int p2), .val (.ref b3), .val (.int (0 : Int32)), .val (.int (2 : Int32)), .val (.ref w_PENDING), .val (.ref w_COMPLETED), .unset, .unset] [])) _
      refine OGot.go (fun t k => XS.iloadN X13.here hx rfl (hb hby at_61) rfl k) ?_
      show OGot p.tables e below (T13.setTop (mkF m 62 #[.val (.int p1), .val (.int p2), .val (.ref b3), .val (.int (0 : Int32)), .val (.int (2 : Int32)), .val (.ref w_PENDING), .val (.ref w_COMPLETED), .unset, .unset] [(.int (0 : Int32))])) _
      refine OGot.go (fun t k => XS.ifYes X13.here hx rfl (pc0 := 62) (pc' := 74) rfl (hb hby at_62) rfl (by decide) (by decide) (by decide) k) ?_
      show OGot p.tables e below (T13.setTop (mkF m 74 #[.val (.int p1), .val (.int p2), .val (.ref b3), .val (.int (0 : Int32)), .val (.int (2 : Int32)), .val (.ref w_PENDING), .val (.ref w_COMPLETED), .unset, .unset] [])) _
      refine OGot.go (fun t k => XS.iconst X13.here hx rfl (hb hby at_74) k) ?_
      show OGot p.tables e below (T13.setTop (mkF m 75 #[.val (.int p1), .val (.int p2), .val (.ref b3), .val (.int (0 : Int32)), .val (.int (2 : Int32)), .val (.ref w_PENDING), .val (.ref w_COMPLETED), .unset, .unset] [(.int (0 : Int32))])) _
      refine OGot.go (fun t k => XS.istore X13.here hx rfl (hb hby at_75) rfl (l' := #[.val (.int p1), .val (.int p2), .val (.ref b3), .val (.int (0 : Int32)), .val (.int (2 : Int32)), .val (.ref w_PENDING), .val (.ref w_COMPLETED), .val (.int (0 : Int32)), .unset]) rfl k) ?_
      show OGot p.tables e below (T13.setTop (mkF m 77 #[.val (.int p1), .val (.int p2), .val (.ref b3), .val (.int (0 : Int32)), .val (.int (2 : Int32)), .val (.ref w_PENDING), .val (.ref w_COMPLETED), .val (.int (0 : Int32)), .unset] [])) _
      refine OGot.go (fun t k => XS.aload X13.here hx rfl (hb hby at_77) rfl rfl k) ?_
      show OGot p.tables e below (T13.setTop (mkF m 79 #[.val (.int p1), .val (.int p2), .val (.ref b3), .val (.int (0 : Int32)), .val (.int (2 : Int32)), .val (.ref w_PENDING), .val (.ref w_COMPLETED), .val (.int (0 : Int32)), .unset] [(.ref w_PENDING)])) _
      obtain ⟨cq32, kq32, q32a, q32b, q32c⟩ := isOf hZ e13 (G.2.1.ext O13.2)
      obtain ⟨_, _, ⟨T32, L32, k32, n32⟩, -, X32, ⟨Lc32, hQ32, l32, y32, z32⟩, st32⟩ := X13.virtualBack hx (y := (⟨"com/example/hermit_crab/hermitcrab/JobState", "isFinal", "()Z"⟩ : MethodName)) (z := (⟨"com/example/hermit_crab/hermitcrab/JobState", "isFinal", "()Z"⟩ : MethodName)) hown (mvT hZ (ow hw 15 rfl)) (mvT hZ (ow hw 16 rfl)) (notFace_of_selects (args := #[]) (mvT hZ (ow hw 18 rfl))) (mvT hZ (ow hw 18 rfl)) (mvT hZ (ow hw 17 rfl)) (by decide) (backOf (W := 0) (rm1 l Z a0 hw [] G  h13 n0 O13 ) hZ (ow hw 19 rfl) (ow hw 3 rfl) (by decide) (by decide)) q32a q32c (g := (mkF m 79 #[.val (.int p1), .val (.int p2), .val (.ref b3), .val (.int (0 : Int32)), .val (.int (2 : Int32)), .val (.ref w_PENDING), .val (.ref w_COMPLETED), .val (.int (0 : Int32)), .unset] [(.ref w_PENDING)])) rfl (by rw [hml]; rfl) (Steps.refl _) (argsL := []) (rest := []) (lenOf pd_0 rfl) rfl (by show 2 * 0 + _ ≤ _; exact Nat.le_of_eq rfl) (hb hby at_79) (fun _ _ => ⟨rfl, e13, (by decide : 1 + 0 ≤ _), (by decide : 5 + 0 ≤ _)⟩)
      dsimp only [Pt.U, Pt.locs, Pt.cells, Pt.slots] at X32 l32 y32 z32 st32 hQ32
      subst l32 y32 z32
      obtain ⟨rfl, N32q, e32⟩ := hQ32
      have N32 := Fr.app N13 N32q
      refine OGot.on st32 ?_
      show OGot p.tables e below (T32.setTop (mkF m 82 #[.val (.int p1), .val (.int p2), .val (.ref b3), .val (.int (0 : Int32)), .val (.int (2 : Int32)), .val (.ref w_PENDING), .val (.ref w_COMPLETED), .val (.int (0 : Int32)), .unset] [(.int (0 : Int32))])) _
      refine OGot.go (fun t k => XS.istore X32.here hx rfl (hb hby at_82) rfl (l' := #[.val (.int p1), .val (.int p2), .val (.ref b3), .val (.int (0 : Int32)), .val (.int (2 : Int32)), .val (.ref w_PENDING), .val (.ref w_COMPLETED), .val (.int (0 : Int32)), .val (.int (0 : Int32))]) rfl k) ?_
      show OGot p.tables e below (T32.setTop (mkF m 84 #[.val (.int p1), .val (.int p2), .val (.ref b3), .val (.int (0 : Int32)), .val (.int (2 : Int32)), .val (.ref w_PENDING), .val (.ref w_COMPLETED), .val (.int (0 : Int32)), .val (.int (0 : Int32))] [])) _
      refine OGot.go (fun t k => XS.iload X32.here hx rfl (hb hby at_84) rfl k) ?_
      show OGot p.tables e below (T32.setTop (mkF m 86 #[.val (.int p1), .val (.int p2), .val (.ref b3), .val (.int (0 : Int32)), .val (.int (2 : Int32)), .val (.ref w_PENDING), .val (.ref w_COMPLETED), .val (.int (0 : Int32)), .val (.int (0 : Int32))] [(.int (0 : Int32))])) _
      refine OGot.go (fun t k => XS.iload X32.here hx rfl (hb hby at_86) rfl k) ?_
      show OGot p.tables e below (T32.setTop (mkF m 88 #[.val (.int p1), .val (.int p2), .val (.ref b3), .val (.int (0 : Int32)), .val (.int (2 : Int32)), .val (.ref w_PENDING), .val (.ref w_COMPLETED), .val (.int (0 : Int32)), .val (.int (0 : Int32))] [(.int (0 : Int32)), (.int (0 : Int32))])) _
      refine OGot.go (fun t k => XS.icmpYes X32.here hx rfl (pc0 := 88) (pc' := 93) rfl (hb hby at_88) rfl (by decide) (by decide) (by decide) k) ?_
      show OGot p.tables e below (T32.setTop (mkF m 93 #[.val (.int p1), .val (.int p2), .val (.ref b3), .val (.int (0 : Int32)), .val (.int (2 : Int32)), .val (.ref w_PENDING), .val (.ref w_COMPLETED), .val (.int (0 : Int32)), .val (.int (0 : Int32))] [])) _
      refine OGot.go (fun t k => XS.iload X32.here hx rfl (hb hby at_93) rfl k) ?_
      show OGot p.tables e below (T32.setTop (mkF m 95 #[.val (.int p1), .val (.int p2), .val (.ref b3), .val (.int (0 : Int32)), .val (.int (2 : Int32)), .val (.ref w_PENDING), .val (.ref w_COMPLETED), .val (.int (0 : Int32)), .val (.int (0 : Int32))] [(.int (0 : Int32))])) _
      refine OGot.go (fun t k => XS.ifYes X32.here hx rfl (pc0 := 95) (pc' := 124) rfl (hb hby at_95) rfl (by decide) (by decide) (by decide) k) ?_
      show OGot p.tables e below (T32.setTop (mkF m 124 #[.val (.int p1), .val (.int p2), .val (.ref b3), .val (.int (0 : Int32)), .val (.int (2 : Int32)), .val (.ref w_PENDING), .val (.ref w_COMPLETED), .val (.int (0 : Int32)), .val (.int (0 : Int32))] [])) _
      refine OGot.go (fun t k => XS.iconst X32.here hx rfl (hb hby at_124) k) ?_
      show OGot p.tables e below (T32.setTop (mkF m 125 #[.val (.int p1), .val (.int p2), .val (.ref b3), .val (.int (0 : Int32)), .val (.int (2 : Int32)), .val (.ref w_PENDING), .val (.ref w_COMPLETED), .val (.int (0 : Int32)), .val (.int (0 : Int32))] [(.int (1 : Int32))])) _
      obtain ⟨fs, hr, hrun, hended, hW, hsame⟩ := X32.leave (v := some (.int (1 : Int32))) (fun h => by rw [Bd.returns] at h; cases h)
      refine ⟨_, _, retN X32 hx (t := .boolean) Bd.returns (by simp) (hb hby at_125) hr, hrun, hended, _, _, rfl, ?_, ⟨_, rfl⟩, hW, hsame.mono (by decide) (by decide)⟩
      exact (⟨rfl, N32⟩ : Q0 Z w_PENDING w_RUNNING w_COMPLETED w_FAILED w_CANCELLED p1 p2 h0 n0 _ T32.heap _)
    · rw [hk22]
      show OGot p.tables e below (T13.setTop (mkF m 48 #[.val (.int p1), .val (.int p2), .val (.ref b3), .val (.int (0 : Int32)), .unset, .unset, .unset, .unset, .unset] [(.int (3 : Int32))])) _
      refine OGot.go (fun t k => XS.istore X13.here hx rfl (hb hby at_48) rfl (l' := #[.val (.int p1), .val (.int p2), .val (.ref b3), .val (.int (0 : Int32)), .val (.int (3 : Int32)), .unset, .unset, .unset, .unset]) rfl k) ?_
      show OGot p.tables e below (T13.setTop (mkF m 50 #[.val (.int p1), .val (.int p2), .val (.ref b3), .val (.int (0 : Int32)), .val (.int (3 : Int32)), .unset, .unset, .unset, .unset] [])) _
      refine OGot.go (fun t k => XS.aloadN X13.here hx rfl (hb hby at_50) rfl rfl k) ?_
      show OGot p.tables e below (T13.setTop (mkF m 51 #[.val (.int p1), .val (.int p2), .val (.ref b3), .val (.int (0 : Int32)), .val (.int (3 : Int32)), .unset, .unset, .unset, .unset] [(.ref b3)])) _
      refine OGot.go (fun t k => XS.iloadN X13.here hx rfl (hb hby at_51) rfl k) ?_
      show OGot p.tables e below (T13.setTop (mkF m 52 #[.val (.int p1), .val (.int p2), .val (.ref b3), .val (.int (0 : Int32)), .val (.int (3 : Int32)), .unset, .unset, .unset, .unset] [(.int (0 : Int32)), (.ref b3)])) _
      obtain ⟨cl33, Ar33, qc33, Sz33, Ng33, Hh33, Gg33⟩ := id (Va13)
      have hin33 : ¬ ((0 : Int32) < 0 ∨ cl33.slots.size ≤ ((0 : Int32)).toNatClampNeg) := inb_of Sz33 ⟨by decide, by decide⟩
      have hat33 : cl33.slots[((0 : Int32)).toNatClampNeg]? = some (.ref w_PENDING) := Hh33.at hin33 rfl
      refine OGot.go (fun t k => X13.aaload hx (j := (0 : Int32)) (v := (.ref w_PENDING)) (by rw [e13]; exact Ar33.1) (State.isArrayOf_alike hZ.alike Ar33.2.1) rfl Ar33.2.2 hin33 hat33 (g := (mkF m 52 #[.val (.int p1), .val (.int p2), .val (.ref b3), .val (.int (0 : Int32)), .val (.int (3 : Int32)), .unset, .unset, .unset, .unset] [(.int (0 : Int32)), (.ref b3)])) rfl rfl (hb hby at_52) _ k) ?_
      show OGot p.tables e below (T13.setTop (mkF m 53 #[.val (.int p1), .val (.int p2), .val (.ref b3), .val (.int (0 : Int32)), .val (.int (3 : Int32)), .unset, .unset, .unset, .unset] [(.ref w_PENDING)])) _
      refine OGot.go (fun t k => XS.astore X13.here hx rfl (hb hby at_53) rfl rfl (l' := #[.val (.int p1), .val (.int p2), .val (.ref b3), .val (.int (0 : Int32)), .val (.int (3 : Int32)), .val (.ref w_PENDING), .unset, .unset, .unset]) rfl k) ?_
      show OGot p.tables e below (T13.setTop (mkF m 55 #[.val (.int p1), .val (.int p2), .val (.ref b3), .val (.int (0 : Int32)), .val (.int (3 : Int32)), .val (.ref w_PENDING), .unset, .unset, .unset] [])) _
      refine OGot.go (fun t k => XS.aloadN X13.here hx rfl (hb hby at_55) rfl rfl k) ?_
      show OGot p.tables e below (T13.setTop (mkF m 56 #[.val (.int p1), .val (.int p2), .val (.ref b3), .val (.int (0 : Int32)), .val (.int (3 : Int32)), .val (.ref w_PENDING), .unset, .unset, .unset] [(.ref b3)])) _
      refine OGot.go (fun t k => XS.iload X13.here hx rfl (hb hby at_56) rfl k) ?_
      show OGot p.tables e below (T13.setTop (mkF m 58 #[.val (.int p1), .val (.int p2), .val (.ref b3), .val (.int (0 : Int32)), .val (.int (3 : Int32)), .val (.ref w_PENDING), .unset, .unset, .unset] [(.int (3 : Int32)), (.ref b3)])) _
      obtain ⟨cl34, Ar34, qc34, Sz34, Ng34, Hh34, Gg34⟩ := id (Va13)
      have hin34 : ¬ ((3 : Int32) < 0 ∨ cl34.slots.size ≤ ((3 : Int32)).toNatClampNeg) := inb_of Sz34 ⟨by decide, by decide⟩
      have hat34 : cl34.slots[((3 : Int32)).toNatClampNeg]? = some (.ref w_FAILED) := Hh34.at hin34 rfl
      refine OGot.go (fun t k => X13.aaload hx (j := (3 : Int32)) (v := (.ref w_FAILED)) (by rw [e13]; exact Ar34.1) (State.isArrayOf_alike hZ.alike Ar34.2.1) rfl Ar34.2.2 hin34 hat34 (g := (mkF m 58 #[.val (.int p1), .val (.int p2), .val (.ref b3), .val (.int (0 : Int32)), .val (.int (3 : Int32)), .val (.ref w_PENDING), .unset, .unset, .unset] [(.int (3 : Int32)), (.ref b3)])) rfl rfl (hb hby at_58) _ k) ?_
      show OGot p.tables e below (T13.setTop (mkF m 59 #[.val (.int p1), .val (.int p2), .val (.ref b3), .val (.int (0 : Int32)), .val (.int (3 : Int32)), .val (.ref w_PENDING), .unset, .unset, .unset] [(.ref w_FAILED)])) _
      refine OGot.go (fun t k => XS.astore X13.here hx rfl (hb hby at_59) rfl rfl (l' := #[.val (.int p1), .val (.int p2), .val (.ref b3), .val (.int (0 : Int32)), .val (.int (3 : Int32)), .val (.ref w_PENDING), .val (.ref w_FAILED), .unset, .unset]) rfl k) ?_
      show OGot p.tables e below (T13.setTop (mkF m 61 #[.val (.int p1), .val (.int p2), .val (.ref b3), .val (.int (0 : Int32)), .val (.int (3 : Int32)), .val (.ref w_PENDING), .val (.ref w_FAILED), .unset, .unset] [])) _
      refine OGot.go (fun t k => XS.iloadN X13.here hx rfl (hb hby at_61) rfl k) ?_
      show OGot p.tables e below (T13.setTop (mkF m 62 #[.val (.int p1), .val (.int p2), .val (.ref b3), .val (.int (0 : Int32)), .val (.int (3 : Int32)), .val (.ref w_PENDING), .val (.ref w_FAILED), .unset, .unset] [(.int (0 : Int32))])) _
      refine OGot.go (fun t k => XS.ifYes X13.here hx rfl (pc0 := 62) (pc' := 74) rfl (hb hby at_62) rfl (by decide) (by decide) (by decide) k) ?_
      show OGot p.tables e below (T13.setTop (mkF m 74 #[.val (.int p1), .val (.int p2), .val (.ref b3), .val (.int (0 : Int32)), .val (.int (3 : Int32)), .val (.ref w_PENDING), .val (.ref w_FAILED), .unset, .unset] [])) _
      refine OGot.go (fun t k => XS.iconst X13.here hx rfl (hb hby at_74) k) ?_
      show OGot p.tables e below (T13.setTop (mkF m 75 #[.val (.int p1), .val (.int p2), .val (.ref b3), .val (.int (0 : Int32)), .val (.int (3 : Int32)), .val (.ref w_PENDING), .val (.ref w_FAILED), .unset, .unset] [(.int (0 : Int32))])) _
      refine OGot.go (fun t k => XS.istore X13.here hx rfl (hb hby at_75) rfl (l' := #[.val (.int p1), .val (.int p2), .val (.ref b3), .val (.int (0 : Int32)), .val (.int (3 : Int32)), .val (.ref w_PENDING), .val (.ref w_FAILED), .val (.int (0 : Int32)), .unset]) rfl k) ?_
      show OGot p.tables e below (T13.setTop (mkF m 77 #[.val (.int p1), .val (.int p2), .val (.ref b3), .val (.int (0 : Int32)), .val (.int (3 : Int32)), .val (.ref w_PENDING), .val (.ref w_FAILED), .val (.int (0 : Int32)), .unset] [])) _
      refine OGot.go (fun t k => XS.aload X13.here hx rfl (hb hby at_77) rfl rfl k) ?_
      show OGot p.tables e below (T13.setTop (mkF m 79 #[.val (.int p1), .val (.int p2), .val (.ref b3), .val (.int (0 : Int32)), .val (.int (3 : Int32)), .val (.ref w_PENDING), .val (.ref w_FAILED), .val (.int (0 : Int32)), .unset] [(.ref w_PENDING)])) _
      obtain ⟨cq35, kq35, q35a, q35b, q35c⟩ := isOf hZ e13 (G.2.1.ext O13.2)
      obtain ⟨_, _, ⟨T35, L35, k35, n35⟩, -, X35, ⟨Lc35, hQ35, l35, y35, z35⟩, st35⟩ := X13.virtualBack hx (y := (⟨"com/example/hermit_crab/hermitcrab/JobState", "isFinal", "()Z"⟩ : MethodName)) (z := (⟨"com/example/hermit_crab/hermitcrab/JobState", "isFinal", "()Z"⟩ : MethodName)) hown (mvT hZ (ow hw 15 rfl)) (mvT hZ (ow hw 16 rfl)) (notFace_of_selects (args := #[]) (mvT hZ (ow hw 18 rfl))) (mvT hZ (ow hw 18 rfl)) (mvT hZ (ow hw 17 rfl)) (by decide) (backOf (W := 0) (rm1 l Z a0 hw [] G  h13 n0 O13 ) hZ (ow hw 19 rfl) (ow hw 3 rfl) (by decide) (by decide)) q35a q35c (g := (mkF m 79 #[.val (.int p1), .val (.int p2), .val (.ref b3), .val (.int (0 : Int32)), .val (.int (3 : Int32)), .val (.ref w_PENDING), .val (.ref w_FAILED), .val (.int (0 : Int32)), .unset] [(.ref w_PENDING)])) rfl (by rw [hml]; rfl) (Steps.refl _) (argsL := []) (rest := []) (lenOf pd_0 rfl) rfl (by show 2 * 0 + _ ≤ _; exact Nat.le_of_eq rfl) (hb hby at_79) (fun _ _ => ⟨rfl, e13, (by decide : 1 + 0 ≤ _), (by decide : 5 + 0 ≤ _)⟩)
      dsimp only [Pt.U, Pt.locs, Pt.cells, Pt.slots] at X35 l35 y35 z35 st35 hQ35
      subst l35 y35 z35
      obtain ⟨rfl, N35q, e35⟩ := hQ35
      have N35 := Fr.app N13 N35q
      refine OGot.on st35 ?_
      show OGot p.tables e below (T35.setTop (mkF m 82 #[.val (.int p1), .val (.int p2), .val (.ref b3), .val (.int (0 : Int32)), .val (.int (3 : Int32)), .val (.ref w_PENDING), .val (.ref w_FAILED), .val (.int (0 : Int32)), .unset] [(.int (0 : Int32))])) _
      refine OGot.go (fun t k => XS.istore X35.here hx rfl (hb hby at_82) rfl (l' := #[.val (.int p1), .val (.int p2), .val (.ref b3), .val (.int (0 : Int32)), .val (.int (3 : Int32)), .val (.ref w_PENDING), .val (.ref w_FAILED), .val (.int (0 : Int32)), .val (.int (0 : Int32))]) rfl k) ?_
      show OGot p.tables e below (T35.setTop (mkF m 84 #[.val (.int p1), .val (.int p2), .val (.ref b3), .val (.int (0 : Int32)), .val (.int (3 : Int32)), .val (.ref w_PENDING), .val (.ref w_FAILED), .val (.int (0 : Int32)), .val (.int (0 : Int32))] [])) _
      refine OGot.go (fun t k => XS.iload X35.here hx rfl (hb hby at_84) rfl k) ?_
      show OGot p.tables e below (T35.setTop (mkF m 86 #[.val (.int p1), .val (.int p2), .val (.ref b3), .val (.int (0 : Int32)), .val (.int (3 : Int32)), .val (.ref w_PENDING), .val (.ref w_FAILED), .val (.int (0 : Int32)), .val (.int (0 : Int32))] [(.int (0 : Int32))])) _
      refine OGot.go (fun t k => XS.iload X35.here hx rfl (hb hby at_86) rfl k) ?_
      show OGot p.tables e below (T35.setTop (mkF m 88 #[.val (.int p1), .val (.int p2), .val (.ref b3), .val (.int (0 : Int32)), .val (.int (3 : Int32)), .val (.ref w_PENDING), .val (.ref w_FAILED), .val (.int (0 : Int32)), .val (.int (0 : Int32))] [(.int (0 : Int32)), (.int (0 : Int32))])) _
      refine OGot.go (fun t k => XS.icmpYes X35.here hx rfl (pc0 := 88) (pc' := 93) rfl (hb hby at_88) rfl (by decide) (by decide) (by decide) k) ?_
      show OGot p.tables e below (T35.setTop (mkF m 93 #[.val (.int p1), .val (.int p2), .val (.ref b3), .val (.int (0 : Int32)), .val (.int (3 : Int32)), .val (.ref w_PENDING), .val (.ref w_FAILED), .val (.int (0 : Int32)), .val (.int (0 : Int32))] [])) _
      refine OGot.go (fun t k => XS.iload X35.here hx rfl (hb hby at_93) rfl k) ?_
      show OGot p.tables e below (T35.setTop (mkF m 95 #[.val (.int p1), .val (.int p2), .val (.ref b3), .val (.int (0 : Int32)), .val (.int (3 : Int32)), .val (.ref w_PENDING), .val (.ref w_FAILED), .val (.int (0 : Int32)), .val (.int (0 : Int32))] [(.int (0 : Int32))])) _
      refine OGot.go (fun t k => XS.ifYes X35.here hx rfl (pc0 := 95) (pc' := 124) rfl (hb hby at_95) rfl (by decide) (by decide) (by decide) k) ?_
      show OGot p.tables e below (T35.setTop (mkF m 124 #[.val (.int p1), .val (.int p2), .val (.ref b3), .val (.int (0 : Int32)), .val (.int (3 : Int32)), .val (.ref w_PENDING), .val (.ref w_FAILED), .val (.int (0 : Int32)), .val (.int (0 : Int32))] [])) _
      refine OGot.go (fun t k => XS.iconst X35.here hx rfl (hb hby at_124) k) ?_
      show OGot p.tables e below (T35.setTop (mkF m 125 #[.val (.int p1), .val (.int p2), .val (.ref b3), .val (.int (0 : Int32)), .val (.int (3 : Int32)), .val (.ref w_PENDING), .val (.ref w_FAILED), .val (.int (0 : Int32)), .val (.int (0 : Int32))] [(.int (1 : Int32))])) _
      obtain ⟨fs, hr, hrun, hended, hW, hsame⟩ := X35.leave (v := some (.int (1 : Int32))) (fun h => by rw [Bd.returns] at h; cases h)
      refine ⟨_, _, retN X35 hx (t := .boolean) Bd.returns (by simp) (hb hby at_125) hr, hrun, hended, _, _, rfl, ?_, ⟨_, rfl⟩, hW, hsame.mono (by decide) (by decide)⟩
      exact (⟨rfl, N35⟩ : Q0 Z w_PENDING w_RUNNING w_COMPLETED w_FAILED w_CANCELLED p1 p2 h0 n0 _ T35.heap _)
    · rw [hk23]
      show OGot p.tables e below (T13.setTop (mkF m 48 #[.val (.int p1), .val (.int p2), .val (.ref b3), .val (.int (0 : Int32)), .unset, .unset, .unset, .unset, .unset] [(.int (4 : Int32))])) _
      refine OGot.go (fun t k => XS.istore X13.here hx rfl (hb hby at_48) rfl (l' := #[.val (.int p1), .val (.int p2), .val (.ref b3), .val (.int (0 : Int32)), .val (.int (4 : Int32)), .unset, .unset, .unset, .unset]) rfl k) ?_
      show OGot p.tables e below (T13.setTop (mkF m 50 #[.val (.int p1), .val (.int p2), .val (.ref b3), .val (.int (0 : Int32)), .val (.int (4 : Int32)), .unset, .unset, .unset, .unset] [])) _
      refine OGot.go (fun t k => XS.aloadN X13.here hx rfl (hb hby at_50) rfl rfl k) ?_
      show OGot p.tables e below (T13.setTop (mkF m 51 #[.val (.int p1), .val (.int p2), .val (.ref b3), .val (.int (0 : Int32)), .val (.int (4 : Int32)), .unset, .unset, .unset, .unset] [(.ref b3)])) _
      refine OGot.go (fun t k => XS.iloadN X13.here hx rfl (hb hby at_51) rfl k) ?_
      show OGot p.tables e below (T13.setTop (mkF m 52 #[.val (.int p1), .val (.int p2), .val (.ref b3), .val (.int (0 : Int32)), .val (.int (4 : Int32)), .unset, .unset, .unset, .unset] [(.int (0 : Int32)), (.ref b3)])) _
      obtain ⟨cl36, Ar36, qc36, Sz36, Ng36, Hh36, Gg36⟩ := id (Va13)
      have hin36 : ¬ ((0 : Int32) < 0 ∨ cl36.slots.size ≤ ((0 : Int32)).toNatClampNeg) := inb_of Sz36 ⟨by decide, by decide⟩
      have hat36 : cl36.slots[((0 : Int32)).toNatClampNeg]? = some (.ref w_PENDING) := Hh36.at hin36 rfl
      refine OGot.go (fun t k => X13.aaload hx (j := (0 : Int32)) (v := (.ref w_PENDING)) (by rw [e13]; exact Ar36.1) (State.isArrayOf_alike hZ.alike Ar36.2.1) rfl Ar36.2.2 hin36 hat36 (g := (mkF m 52 #[.val (.int p1), .val (.int p2), .val (.ref b3), .val (.int (0 : Int32)), .val (.int (4 : Int32)), .unset, .unset, .unset, .unset] [(.int (0 : Int32)), (.ref b3)])) rfl rfl (hb hby at_52) _ k) ?_
      show OGot p.tables e below (T13.setTop (mkF m 53 #[.val (.int p1), .val (.int p2), .val (.ref b3), .val (.int (0 : Int32)), .val (.int (4 : Int32)), .unset, .unset, .unset, .unset] [(.ref w_PENDING)])) _
      refine OGot.go (fun t k => XS.astore X13.here hx rfl (hb hby at_53) rfl rfl (l' := #[.val (.int p1), .val (.int p2), .val (.ref b3), .val (.int (0 : Int32)), .val (.int (4 : Int32)), .val (.ref w_PENDING), .unset, .unset, .unset]) rfl k) ?_
      show OGot p.tables e below (T13.setTop (mkF m 55 #[.val (.int p1), .val (.int p2), .val (.ref b3), .val (.int (0 : Int32)), .val (.int (4 : Int32)), .val (.ref w_PENDING), .unset, .unset, .unset] [])) _
      refine OGot.go (fun t k => XS.aloadN X13.here hx rfl (hb hby at_55) rfl rfl k) ?_
      show OGot p.tables e below (T13.setTop (mkF m 56 #[.val (.int p1), .val (.int p2), .val (.ref b3), .val (.int (0 : Int32)), .val (.int (4 : Int32)), .val (.ref w_PENDING), .unset, .unset, .unset] [(.ref b3)])) _
      refine OGot.go (fun t k => XS.iload X13.here hx rfl (hb hby at_56) rfl k) ?_
      show OGot p.tables e below (T13.setTop (mkF m 58 #[.val (.int p1), .val (.int p2), .val (.ref b3), .val (.int (0 : Int32)), .val (.int (4 : Int32)), .val (.ref w_PENDING), .unset, .unset, .unset] [(.int (4 : Int32)), (.ref b3)])) _
      obtain ⟨cl37, Ar37, qc37, Sz37, Ng37, Hh37, Gg37⟩ := id (Va13)
      have hin37 : ¬ ((4 : Int32) < 0 ∨ cl37.slots.size ≤ ((4 : Int32)).toNatClampNeg) := inb_of Sz37 ⟨by decide, by decide⟩
      have hat37 : cl37.slots[((4 : Int32)).toNatClampNeg]? = some (.ref w_CANCELLED) := Hh37.at hin37 rfl
      refine OGot.go (fun t k => X13.aaload hx (j := (4 : Int32)) (v := (.ref w_CANCELLED)) (by rw [e13]; exact Ar37.1) (State.isArrayOf_alike hZ.alike Ar37.2.1) rfl Ar37.2.2 hin37 hat37 (g := (mkF m 58 #[.val (.int p1), .val (.int p2), .val (.ref b3), .val (.int (0 : Int32)), .val (.int (4 : Int32)), .val (.ref w_PENDING), .unset, .unset, .unset] [(.int (4 : Int32)), (.ref b3)])) rfl rfl (hb hby at_58) _ k) ?_
      show OGot p.tables e below (T13.setTop (mkF m 59 #[.val (.int p1), .val (.int p2), .val (.ref b3), .val (.int (0 : Int32)), .val (.int (4 : Int32)), .val (.ref w_PENDING), .unset, .unset, .unset] [(.ref w_CANCELLED)])) _
      refine OGot.go (fun t k => XS.astore X13.here hx rfl (hb hby at_59) rfl rfl (l' := #[.val (.int p1), .val (.int p2), .val (.ref b3), .val (.int (0 : Int32)), .val (.int (4 : Int32)), .val (.ref w_PENDING), .val (.ref w_CANCELLED), .unset, .unset]) rfl k) ?_
      show OGot p.tables e below (T13.setTop (mkF m 61 #[.val (.int p1), .val (.int p2), .val (.ref b3), .val (.int (0 : Int32)), .val (.int (4 : Int32)), .val (.ref w_PENDING), .val (.ref w_CANCELLED), .unset, .unset] [])) _
      refine OGot.go (fun t k => XS.iloadN X13.here hx rfl (hb hby at_61) rfl k) ?_
      show OGot p.tables e below (T13.setTop (mkF m 62 #[.val (.int p1), .val (.int p2), .val (.ref b3), .val (.int (0 : Int32)), .val (.int (4 : Int32)), .val (.ref w_PENDING), .val (.ref w_CANCELLED), .unset, .unset] [(.int (0 : Int32))])) _
      refine OGot.go (fun t k => XS.ifYes X13.here hx rfl (pc0 := 62) (pc' := 74) rfl (hb hby at_62) rfl (by decide) (by decide) (by decide) k) ?_
      show OGot p.tables e below (T13.setTop (mkF m 74 #[.val (.int p1), .val (.int p2), .val (.ref b3), .val (.int (0 : Int32)), .val (.int (4 : Int32)), .val (.ref w_PENDING), .val (.ref w_CANCELLED), .unset, .unset] [])) _
      refine OGot.go (fun t k => XS.iconst X13.here hx rfl (hb hby at_74) k) ?_
      show OGot p.tables e below (T13.setTop (mkF m 75 #[.val (.int p1), .val (.int p2), .val (.ref b3), .val (.int (0 : Int32)), .val (.int (4 : Int32)), .val (.ref w_PENDING), .val (.ref w_CANCELLED), .unset, .unset] [(.int (0 : Int32))])) _
      refine OGot.go (fun t k => XS.istore X13.here hx rfl (hb hby at_75) rfl (l' := #[.val (.int p1), .val (.int p2), .val (.ref b3), .val (.int (0 : Int32)), .val (.int (4 : Int32)), .val (.ref w_PENDING), .val (.ref w_CANCELLED), .val (.int (0 : Int32)), .unset]) rfl k) ?_
      show OGot p.tables e below (T13.setTop (mkF m 77 #[.val (.int p1), .val (.int p2), .val (.ref b3), .val (.int (0 : Int32)), .val (.int (4 : Int32)), .val (.ref w_PENDING), .val (.ref w_CANCELLED), .val (.int (0 : Int32)), .unset] [])) _
      refine OGot.go (fun t k => XS.aload X13.here hx rfl (hb hby at_77) rfl rfl k) ?_
      show OGot p.tables e below (T13.setTop (mkF m 79 #[.val (.int p1), .val (.int p2), .val (.ref b3), .val (.int (0 : Int32)), .val (.int (4 : Int32)), .val (.ref w_PENDING), .val (.ref w_CANCELLED), .val (.int (0 : Int32)), .unset] [(.ref w_PENDING)])) _
      obtain ⟨cq38, kq38, q38a, q38b, q38c⟩ := isOf hZ e13 (G.2.1.ext O13.2)
      obtain ⟨_, _, ⟨T38, L38, k38, n38⟩, -, X38, ⟨Lc38, hQ38, l38, y38, z38⟩, st38⟩ := X13.virtualBack hx (y := (⟨"com/example/hermit_crab/hermitcrab/JobState", "isFinal", "()Z"⟩ : MethodName)) (z := (⟨"com/example/hermit_crab/hermitcrab/JobState", "isFinal", "()Z"⟩ : MethodName)) hown (mvT hZ (ow hw 15 rfl)) (mvT hZ (ow hw 16 rfl)) (notFace_of_selects (args := #[]) (mvT hZ (ow hw 18 rfl))) (mvT hZ (ow hw 18 rfl)) (mvT hZ (ow hw 17 rfl)) (by decide) (backOf (W := 0) (rm1 l Z a0 hw [] G  h13 n0 O13 ) hZ (ow hw 19 rfl) (ow hw 3 rfl) (by decide) (by decide)) q38a q38c (g := (mkF m 79 #[.val (.int p1), .val (.int p2), .val (.ref b3), .val (.int (0 : Int32)), .val (.int (4 : Int32)), .val (.ref w_PENDING), .val (.ref w_CANCELLED), .val (.int (0 : Int32)), .unset] [(.ref w_PENDING)])) rfl (by rw [hml]; rfl) (Steps.refl _) (argsL := []) (rest := []) (lenOf pd_0 rfl) rfl (by show 2 * 0 + _ ≤ _; exact Nat.le_of_eq rfl) (hb hby at_79) (fun _ _ => ⟨rfl, e13, (by decide : 1 + 0 ≤ _), (by decide : 5 + 0 ≤ _)⟩)
      dsimp only [Pt.U, Pt.locs, Pt.cells, Pt.slots] at X38 l38 y38 z38 st38 hQ38
      subst l38 y38 z38
      obtain ⟨rfl, N38q, e38⟩ := hQ38
      have N38 := Fr.app N13 N38q
      refine OGot.on st38 ?_
      show OGot p.tables e below (T38.setTop (mkF m 82 #[.val (.int p1), .val (.int p2), .val (.ref b3), .val (.int (0 : Int32)), .val (.int (4 : Int32)), .val (.ref w_PENDING), .val (.ref w_CANCELLED), .val (.int (0 : Int32)), .unset] [(.int (0 : Int32))])) _
      refine OGot.go (fun t k => XS.istore X38.here hx rfl (hb hby at_82) rfl (l' := #[.val (.int p1), .val (.int p2), .val (.ref b3), .val (.int (0 : Int32)), .val (.int (4 : Int32)), .val (.ref w_PENDING), .val (.ref w_CANCELLED), .val (.int (0 : Int32)), .val (.int (0 : Int32))]) rfl k) ?_
      show OGot p.tables e below (T38.setTop (mkF m 84 #[.val (.int p1), .val (.int p2), .val (.ref b3), .val (.int (0 : Int32)), .val (.int (4 : Int32)), .val (.ref w_PENDING), .val (.ref w_CANCELLED), .val (.int (0 : Int32)), .val (.int (0 : Int32))] [])) _
      refine OGot.go (fun t k => XS.iload X38.here hx rfl (hb hby at_84) rfl k) ?_
      show OGot p.tables e below (T38.setTop (mkF m 86 #[.val (.int p1), .val (.int p2), .val (.ref b3), .val (.int (0 : Int32)), .val (.int (4 : Int32)), .val (.ref w_PENDING), .val (.ref w_CANCELLED), .val (.int (0 : Int32)), .val (.int (0 : Int32))] [(.int (0 : Int32))])) _
      refine OGot.go (fun t k => XS.iload X38.here hx rfl (hb hby at_86) rfl k) ?_
      show OGot p.tables e below (T38.setTop (mkF m 88 #[.val (.int p1), .val (.int p2), .val (.ref b3), .val (.int (0 : Int32)), .val (.int (4 : Int32)), .val (.ref w_PENDING), .val (.ref w_CANCELLED), .val (.int (0 : Int32)), .val (.int (0 : Int32))] [(.int (0 : Int32)), (.int (0 : Int32))])) _
      refine OGot.go (fun t k => XS.icmpYes X38.here hx rfl (pc0 := 88) (pc' := 93) rfl (hb hby at_88) rfl (by decide) (by decide) (by decide) k) ?_
      show OGot p.tables e below (T38.setTop (mkF m 93 #[.val (.int p1), .val (.int p2), .val (.ref b3), .val (.int (0 : Int32)), .val (.int (4 : Int32)), .val (.ref w_PENDING), .val (.ref w_CANCELLED), .val (.int (0 : Int32)), .val (.int (0 : Int32))] [])) _
      refine OGot.go (fun t k => XS.iload X38.here hx rfl (hb hby at_93) rfl k) ?_
      show OGot p.tables e below (T38.setTop (mkF m 95 #[.val (.int p1), .val (.int p2), .val (.ref b3), .val (.int (0 : Int32)), .val (.int (4 : Int32)), .val (.ref w_PENDING), .val (.ref w_CANCELLED), .val (.int (0 : Int32)), .val (.int (0 : Int32))] [(.int (0 : Int32))])) _
      refine OGot.go (fun t k => XS.ifYes X38.here hx rfl (pc0 := 95) (pc' := 124) rfl (hb hby at_95) rfl (by decide) (by decide) (by decide) k) ?_
      show OGot p.tables e below (T38.setTop (mkF m 124 #[.val (.int p1), .val (.int p2), .val (.ref b3), .val (.int (0 : Int32)), .val (.int (4 : Int32)), .val (.ref w_PENDING), .val (.ref w_CANCELLED), .val (.int (0 : Int32)), .val (.int (0 : Int32))] [])) _
      refine OGot.go (fun t k => XS.iconst X38.here hx rfl (hb hby at_124) k) ?_
      show OGot p.tables e below (T38.setTop (mkF m 125 #[.val (.int p1), .val (.int p2), .val (.ref b3), .val (.int (0 : Int32)), .val (.int (4 : Int32)), .val (.ref w_PENDING), .val (.ref w_CANCELLED), .val (.int (0 : Int32)), .val (.int (0 : Int32))] [(.int (1 : Int32))])) _
      obtain ⟨fs, hr, hrun, hended, hW, hsame⟩ := X38.leave (v := some (.int (1 : Int32))) (fun h => by rw [Bd.returns] at h; cases h)
      refine ⟨_, _, retN X38 hx (t := .boolean) Bd.returns (by simp) (hb hby at_125) hr, hrun, hended, _, _, rfl, ?_, ⟨_, rfl⟩, hW, hsame.mono (by decide) (by decide)⟩
      exact (⟨rfl, N38⟩ : Q0 Z w_PENDING w_RUNNING w_COMPLETED w_FAILED w_CANCELLED p1 p2 h0 n0 _ T38.heap _)
  · rw [hk15]
    show OGot p.tables e below (T13.setTop (mkF m 41 #[.val (.int p1), .val (.int p2), .val (.ref b3), .unset, .unset, .unset, .unset, .unset, .unset] [(.int (1 : Int32))])) _
    refine OGot.go (fun t k => XS.istoreN X13.here hx rfl (hb hby at_41) rfl (l' := #[.val (.int p1), .val (.int p2), .val (.ref b3), .val (.int (1 : Int32)), .unset, .unset, .unset, .unset, .unset]) rfl k) ?_
    show OGot p.tables e below (T13.setTop (mkF m 42 #[.val (.int p1), .val (.int p2), .val (.ref b3), .val (.int (1 : Int32)), .unset, .unset, .unset, .unset, .unset] [])) _
    refine OGot.go (fun t k => XS.iloadN X13.here hx rfl (hb hby at_42) rfl k) ?_
    show OGot p.tables e below (T13.setTop (mkF m 43 #[.val (.int p1), .val (.int p2), .val (.ref b3), .val (.int (1 : Int32)), .unset, .unset, .unset, .unset, .unset] [(.int p2)])) _
    refine OGot.go (fun t k => X13.ldcInt hx hown (mvT hZ (ow hw 14 rfl)) (g := (mkF m 43 #[.val (.int p1), .val (.int p2), .val (.ref b3), .val (.int (1 : Int32)), .unset, .unset, .unset, .unset, .unset] [(.int p2)])) rfl (hb hby at_43) _ k) ?_
    show OGot p.tables e below (T13.setTop (mkF m 45 #[.val (.int p1), .val (.int p2), .val (.ref b3), .val (.int (1 : Int32)), .unset, .unset, .unset, .unset, .unset] [(.int (2147483647 : Int32)), (.int p2)])) _
    refine OGot.go (fun t k => XS.iand X13.here hx rfl (hb hby at_45) rfl k) ?_
    show OGot p.tables e below (T13.setTop (mkF m 46 #[.val (.int p1), .val (.int p2), .val (.ref b3), .val (.int (1 : Int32)), .unset, .unset, .unset, .unset, .unset] [(.int (p2 &&& (2147483647 : Int32)))])) _
    refine OGot.go (fun t k => XS.iconst X13.here hx rfl (hb hby at_46) k) ?_
    show OGot p.tables e below (T13.setTop (mkF m 47 #[.val (.int p1), .val (.int p2), .val (.ref b3), .val (.int (1 : Int32)), .unset, .unset, .unset, .unset, .unset] [(.int (5 : Int32)), (.int (p2 &&& (2147483647 : Int32)))])) _
    refine OGot.go (fun t k => iremM X13 hx rfl (hb hby at_47) rfl (by decide) k) ?_
    show OGot p.tables e below (T13.setTop (mkF m 48 #[.val (.int p1), .val (.int p2), .val (.ref b3), .val (.int (1 : Int32)), .unset, .unset, .unset, .unset, .unset] [(.int ((p2 &&& (2147483647 : Int32)) % (5 : Int32)))])) _
    rcases own_rem5 p2 with hk39 | hk40 | hk41 | hk42 | hk43
    · rw [hk39]
      show OGot p.tables e below (T13.setTop (mkF m 48 #[.val (.int p1), .val (.int p2), .val (.ref b3), .val (.int (1 : Int32)), .unset, .unset, .unset, .unset, .unset] [(.int (0 : Int32))])) _
      refine OGot.go (fun t k => XS.istore X13.here hx rfl (hb hby at_48) rfl (l' := #[.val (.int p1), .val (.int p2), .val (.ref b3), .val (.int (1 : Int32)), .val (.int (0 : Int32)), .unset, .unset, .unset, .unset]) rfl k) ?_
      show OGot p.tables e below (T13.setTop (mkF m 50 #[.val (.int p1), .val (.int p2), .val (.ref b3), .val (.int (1 : Int32)), .val (.int (0 : Int32)), .unset, .unset, .unset, .unset] [])) _
      refine OGot.go (fun t k => XS.aloadN X13.here hx rfl (hb hby at_50) rfl rfl k) ?_
      show OGot p.tables e below (T13.setTop (mkF m 51 #[.val (.int p1), .val (.int p2), .val (.ref b3), .val (.int (1 : Int32)), .val (.int (0 : Int32)), .unset, .unset, .unset, .unset] [(.ref b3)])) _
      refine OGot.go (fun t k => XS.iloadN X13.here hx rfl (hb hby at_51) rfl k) ?_
      show OGot p.tables e below (T13.setTop (mkF m 52 #[.val (.int p1), .val (.int p2), .val (.ref b3), .val (.int (1 : Int32)), .val (.int (0 : Int32)), .unset, .unset, .unset, .unset] [(.int (1 : Int32)), (.ref b3)])) _
      obtain ⟨cl44, Ar44, qc44, Sz44, Ng44, Hh44, Gg44⟩ := id (Va13)
      have hin44 : ¬ ((1 : Int32) < 0 ∨ cl44.slots.size ≤ ((1 : Int32)).toNatClampNeg) := inb_of Sz44 ⟨by decide, by decide⟩
      have hat44 : cl44.slots[((1 : Int32)).toNatClampNeg]? = some (.ref w_RUNNING) := Hh44.at hin44 rfl
      refine OGot.go (fun t k => X13.aaload hx (j := (1 : Int32)) (v := (.ref w_RUNNING)) (by rw [e13]; exact Ar44.1) (State.isArrayOf_alike hZ.alike Ar44.2.1) rfl Ar44.2.2 hin44 hat44 (g := (mkF m 52 #[.val (.int p1), .val (.int p2), .val (.ref b3), .val (.int (1 : Int32)), .val (.int (0 : Int32)), .unset, .unset, .unset, .unset] [(.int (1 : Int32)), (.ref b3)])) rfl rfl (hb hby at_52) _ k) ?_
      show OGot p.tables e below (T13.setTop (mkF m 53 #[.val (.int p1), .val (.int p2), .val (.ref b3), .val (.int (1 : Int32)), .val (.int (0 : Int32)), .unset, .unset, .unset, .unset] [(.ref w_RUNNING)])) _
      refine OGot.go (fun t k => XS.astore X13.here hx rfl (hb hby at_53) rfl rfl (l' := #[.val (.int p1), .val (.int p2), .val (.ref b3), .val (.int (1 : Int32)), .val (.int (0 : Int32)), .val (.ref w_RUNNING), .unset, .unset, .unset]) rfl k) ?_
      show OGot p.tables e below (T13.setTop (mkF m 55 #[.val (.int p1), .val (.int p2), .val (.ref b3), .val (.int (1 : Int32)), .val (.int (0 : Int32)), .val (.ref w_RUNNING), .unset, .unset, .unset] [])) _
      refine OGot.go (fun t k => XS.aloadN X13.here hx rfl (hb hby at_55) rfl rfl k) ?_
      show OGot p.tables e below (T13.setTop (mkF m 56 #[.val (.int p1), .val (.int p2), .val (.ref b3), .val (.int (1 : Int32)), .val (.int (0 : Int32)), .val (.ref w_RUNNING), .unset, .unset, .unset] [(.ref b3)])) _
      refine OGot.go (fun t k => XS.iload X13.here hx rfl (hb hby at_56) rfl k) ?_
      show OGot p.tables e below (T13.setTop (mkF m 58 #[.val (.int p1), .val (.int p2), .val (.ref b3), .val (.int (1 : Int32)), .val (.int (0 : Int32)), .val (.ref w_RUNNING), .unset, .unset, .unset] [(.int (0 : Int32)), (.ref b3)])) _
      obtain ⟨cl45, Ar45, qc45, Sz45, Ng45, Hh45, Gg45⟩ := id (Va13)
      have hin45 : ¬ ((0 : Int32) < 0 ∨ cl45.slots.size ≤ ((0 : Int32)).toNatClampNeg) := inb_of Sz45 ⟨by decide, by decide⟩
      have hat45 : cl45.slots[((0 : Int32)).toNatClampNeg]? = some (.ref w_PENDING) := Hh45.at hin45 rfl
      refine OGot.go (fun t k => X13.aaload hx (j := (0 : Int32)) (v := (.ref w_PENDING)) (by rw [e13]; exact Ar45.1) (State.isArrayOf_alike hZ.alike Ar45.2.1) rfl Ar45.2.2 hin45 hat45 (g := (mkF m 58 #[.val (.int p1), .val (.int p2), .val (.ref b3), .val (.int (1 : Int32)), .val (.int (0 : Int32)), .val (.ref w_RUNNING), .unset, .unset, .unset] [(.int (0 : Int32)), (.ref b3)])) rfl rfl (hb hby at_58) _ k) ?_
      show OGot p.tables e below (T13.setTop (mkF m 59 #[.val (.int p1), .val (.int p2), .val (.ref b3), .val (.int (1 : Int32)), .val (.int (0 : Int32)), .val (.ref w_RUNNING), .unset, .unset, .unset] [(.ref w_PENDING)])) _
      refine OGot.go (fun t k => XS.astore X13.here hx rfl (hb hby at_59) rfl rfl (l' := #[.val (.int p1), .val (.int p2), .val (.ref b3), .val (.int (1 : Int32)), .val (.int (0 : Int32)), .val (.ref w_RUNNING), .val (.ref w_PENDING), .unset, .unset]) rfl k) ?_
      show OGot p.tables e below (T13.setTop (mkF m 61 #[.val (.int p1), .val (.int p2), .val (.ref b3), .val (.int (1 : Int32)), .val (.int (0 : Int32)), .val (.ref w_RUNNING), .val (.ref w_PENDING), .unset, .unset] [])) _
      refine OGot.go (fun t k => XS.iloadN X13.here hx rfl (hb hby at_61) rfl k) ?_
      show OGot p.tables e below (T13.setTop (mkF m 62 #[.val (.int p1), .val (.int p2), .val (.ref b3), .val (.int (1 : Int32)), .val (.int (0 : Int32)), .val (.ref w_RUNNING), .val (.ref w_PENDING), .unset, .unset] [(.int (1 : Int32))])) _
      refine OGot.go (fun t k => XS.ifNo X13.here hx rfl (hb hby at_62) rfl (by decide) k) ?_
      show OGot p.tables e below (T13.setTop (mkF m 65 #[.val (.int p1), .val (.int p2), .val (.ref b3), .val (.int (1 : Int32)), .val (.int (0 : Int32)), .val (.ref w_RUNNING), .val (.ref w_PENDING), .unset, .unset] [])) _
      refine OGot.go (fun t k => XS.iloadN X13.here hx rfl (hb hby at_65) rfl k) ?_
      show OGot p.tables e below (T13.setTop (mkF m 66 #[.val (.int p1), .val (.int p2), .val (.ref b3), .val (.int (1 : Int32)), .val (.int (0 : Int32)), .val (.ref w_RUNNING), .val (.ref w_PENDING), .unset, .unset] [(.int (1 : Int32))])) _
      refine OGot.go (fun t k => XS.iconst X13.here hx rfl (hb hby at_66) k) ?_
      show OGot p.tables e below (T13.setTop (mkF m 67 #[.val (.int p1), .val (.int p2), .val (.ref b3), .val (.int (1 : Int32)), .val (.int (0 : Int32)), .val (.ref w_RUNNING), .val (.ref w_PENDING), .unset, .unset] [(.int (1 : Int32)), (.int (1 : Int32))])) _
      refine OGot.go (fun t k => XS.icmpYes X13.here hx rfl (pc0 := 67) (pc' := 74) rfl (hb hby at_67) rfl (by decide) (by decide) (by decide) k) ?_
      show OGot p.tables e below (T13.setTop (mkF m 74 #[.val (.int p1), .val (.int p2), .val (.ref b3), .val (.int (1 : Int32)), .val (.int (0 : Int32)), .val (.ref w_RUNNING), .val (.ref w_PENDING), .unset, .unset] [])) _
      refine OGot.go (fun t k => XS.iconst X13.here hx rfl (hb hby at_74) k) ?_
      show OGot p.tables e below (T13.setTop (mkF m 75 #[.val (.int p1), .val (.int p2), .val (.ref b3), .val (.int (1 : Int32)), .val (.int (0 : Int32)), .val (.ref w_RUNNING), .val (.ref w_PENDING), .unset, .unset] [(.int (0 : Int32))])) _
      refine OGot.go (fun t k => XS.istore X13.here hx rfl (hb hby at_75) rfl (l' := #[.val (.int p1), .val (.int p2), .val (.ref b3), .val (.int (1 : Int32)), .val (.int (0 : Int32)), .val (.ref w_RUNNING), .val (.ref w_PENDING), .val (.int (0 : Int32)), .unset]) rfl k) ?_
      show OGot p.tables e below (T13.setTop (mkF m 77 #[.val (.int p1), .val (.int p2), .val (.ref b3), .val (.int (1 : Int32)), .val (.int (0 : Int32)), .val (.ref w_RUNNING), .val (.ref w_PENDING), .val (.int (0 : Int32)), .unset] [])) _
      refine OGot.go (fun t k => XS.aload X13.here hx rfl (hb hby at_77) rfl rfl k) ?_
      show OGot p.tables e below (T13.setTop (mkF m 79 #[.val (.int p1), .val (.int p2), .val (.ref b3), .val (.int (1 : Int32)), .val (.int (0 : Int32)), .val (.ref w_RUNNING), .val (.ref w_PENDING), .val (.int (0 : Int32)), .unset] [(.ref w_RUNNING)])) _
      obtain ⟨cq46, kq46, q46a, q46b, q46c⟩ := isOf hZ e13 (G.2.2.2.1.ext O13.2)
      obtain ⟨_, _, ⟨T46, L46, k46, n46⟩, -, X46, ⟨Lc46, hQ46, l46, y46, z46⟩, st46⟩ := X13.virtualBack hx (y := (⟨"com/example/hermit_crab/hermitcrab/JobState", "isFinal", "()Z"⟩ : MethodName)) (z := (⟨"com/example/hermit_crab/hermitcrab/JobState", "isFinal", "()Z"⟩ : MethodName)) hown (mvT hZ (ow hw 15 rfl)) (mvT hZ (ow hw 16 rfl)) (notFace_of_selects (args := #[]) (mvT hZ (ow hw 18 rfl))) (mvT hZ (ow hw 18 rfl)) (mvT hZ (ow hw 17 rfl)) (by decide) (backOf (W := 0) (rm1_1 l Z a0 hw [] G  h13 n0 O13 ) hZ (ow hw 19 rfl) (ow hw 3 rfl) (by decide) (by decide)) q46a q46c (g := (mkF m 79 #[.val (.int p1), .val (.int p2), .val (.ref b3), .val (.int (1 : Int32)), .val (.int (0 : Int32)), .val (.ref w_RUNNING), .val (.ref w_PENDING), .val (.int (0 : Int32)), .unset] [(.ref w_RUNNING)])) rfl (by rw [hml]; rfl) (Steps.refl _) (argsL := []) (rest := []) (lenOf pd_0 rfl) rfl (by show 2 * 0 + _ ≤ _; exact Nat.le_of_eq rfl) (hb hby at_79) (fun _ _ => ⟨rfl, e13, (by decide : 1 + 0 ≤ _), (by decide : 5 + 0 ≤ _)⟩)
      dsimp only [Pt.U, Pt.locs, Pt.cells, Pt.slots] at X46 l46 y46 z46 st46 hQ46
      subst l46 y46 z46
      obtain ⟨rfl, N46q, e46⟩ := hQ46
      have N46 := Fr.app N13 N46q
      refine OGot.on st46 ?_
      show OGot p.tables e below (T46.setTop (mkF m 82 #[.val (.int p1), .val (.int p2), .val (.ref b3), .val (.int (1 : Int32)), .val (.int (0 : Int32)), .val (.ref w_RUNNING), .val (.ref w_PENDING), .val (.int (0 : Int32)), .unset] [(.int (0 : Int32))])) _
      refine OGot.go (fun t k => XS.istore X46.here hx rfl (hb hby at_82) rfl (l' := #[.val (.int p1), .val (.int p2), .val (.ref b3), .val (.int (1 : Int32)), .val (.int (0 : Int32)), .val (.ref w_RUNNING), .val (.ref w_PENDING), .val (.int (0 : Int32)), .val (.int (0 : Int32))]) rfl k) ?_
      show OGot p.tables e below (T46.setTop (mkF m 84 #[.val (.int p1), .val (.int p2), .val (.ref b3), .val (.int (1 : Int32)), .val (.int (0 : Int32)), .val (.ref w_RUNNING), .val (.ref w_PENDING), .val (.int (0 : Int32)), .val (.int (0 : Int32))] [])) _
      refine OGot.go (fun t k => XS.iload X46.here hx rfl (hb hby at_84) rfl k) ?_
      show OGot p.tables e below (T46.setTop (mkF m 86 #[.val (.int p1), .val (.int p2), .val (.ref b3), .val (.int (1 : Int32)), .val (.int (0 : Int32)), .val (.ref w_RUNNING), .val (.ref w_PENDING), .val (.int (0 : Int32)), .val (.int (0 : Int32))] [(.int (0 : Int32))])) _
      refine OGot.go (fun t k => XS.iload X46.here hx rfl (hb hby at_86) rfl k) ?_
      show OGot p.tables e below (T46.setTop (mkF m 88 #[.val (.int p1), .val (.int p2), .val (.ref b3), .val (.int (1 : Int32)), .val (.int (0 : Int32)), .val (.ref w_RUNNING), .val (.ref w_PENDING), .val (.int (0 : Int32)), .val (.int (0 : Int32))] [(.int (0 : Int32)), (.int (0 : Int32))])) _
      refine OGot.go (fun t k => XS.icmpYes X46.here hx rfl (pc0 := 88) (pc' := 93) rfl (hb hby at_88) rfl (by decide) (by decide) (by decide) k) ?_
      show OGot p.tables e below (T46.setTop (mkF m 93 #[.val (.int p1), .val (.int p2), .val (.ref b3), .val (.int (1 : Int32)), .val (.int (0 : Int32)), .val (.ref w_RUNNING), .val (.ref w_PENDING), .val (.int (0 : Int32)), .val (.int (0 : Int32))] [])) _
      refine OGot.go (fun t k => XS.iload X46.here hx rfl (hb hby at_93) rfl k) ?_
      show OGot p.tables e below (T46.setTop (mkF m 95 #[.val (.int p1), .val (.int p2), .val (.ref b3), .val (.int (1 : Int32)), .val (.int (0 : Int32)), .val (.ref w_RUNNING), .val (.ref w_PENDING), .val (.int (0 : Int32)), .val (.int (0 : Int32))] [(.int (0 : Int32))])) _
      refine OGot.go (fun t k => XS.ifYes X46.here hx rfl (pc0 := 95) (pc' := 124) rfl (hb hby at_95) rfl (by decide) (by decide) (by decide) k) ?_
      show OGot p.tables e below (T46.setTop (mkF m 124 #[.val (.int p1), .val (.int p2), .val (.ref b3), .val (.int (1 : Int32)), .val (.int (0 : Int32)), .val (.ref w_RUNNING), .val (.ref w_PENDING), .val (.int (0 : Int32)), .val (.int (0 : Int32))] [])) _
      refine OGot.go (fun t k => XS.iconst X46.here hx rfl (hb hby at_124) k) ?_
      show OGot p.tables e below (T46.setTop (mkF m 125 #[.val (.int p1), .val (.int p2), .val (.ref b3), .val (.int (1 : Int32)), .val (.int (0 : Int32)), .val (.ref w_RUNNING), .val (.ref w_PENDING), .val (.int (0 : Int32)), .val (.int (0 : Int32))] [(.int (1 : Int32))])) _
      obtain ⟨fs, hr, hrun, hended, hW, hsame⟩ := X46.leave (v := some (.int (1 : Int32))) (fun h => by rw [Bd.returns] at h; cases h)
      refine ⟨_, _, retN X46 hx (t := .boolean) Bd.returns (by simp) (hb hby at_125) hr, hrun, hended, _, _, rfl, ?_, ⟨_, rfl⟩, hW, hsame.mono (by decide) (by decide)⟩
      exact (⟨rfl, N46⟩ : Q0 Z w_PENDING w_RUNNING w_COMPLETED w_FAILED w_CANCELLED p1 p2 h0 n0 _ T46.heap _)
    · rw [hk40]
      show OGot p.tables e below (T13.setTop (mkF m 48 #[.val (.int p1), .val (.int p2), .val (.ref b3), .val (.int (1 : Int32)), .unset, .unset, .unset, .unset, .unset] [(.int (1 : Int32))])) _
      refine OGot.go (fun t k => XS.istore X13.here hx rfl (hb hby at_48) rfl (l' := #[.val (.int p1), .val (.int p2), .val (.ref b3), .val (.int (1 : Int32)), .val (.int (1 : Int32)), .unset, .unset, .unset, .unset]) rfl k) ?_
      show OGot p.tables e below (T13.setTop (mkF m 50 #[.val (.int p1), .val (.int p2), .val (.ref b3), .val (.int (1 : Int32)), .val (.int (1 : Int32)), .unset, .unset, .unset, .unset] [])) _
      refine OGot.go (fun t k => XS.aloadN X13.here hx rfl (hb hby at_50) rfl rfl k) ?_
      show OGot p.tables e below (T13.setTop (mkF m 51 #[.val (.int p1), .val (.int p2), .val (.ref b3), .val (.int (1 : Int32)), .val (.int (1 : Int32)), .unset, .unset, .unset, .unset] [(.ref b3)])) _
      refine OGot.go (fun t k => XS.iloadN X13.here hx rfl (hb hby at_51) rfl k) ?_
      show OGot p.tables e below (T13.setTop (mkF m 52 #[.val (.int p1), .val (.int p2), .val (.ref b3), .val (.int (1 : Int32)), .val (.int (1 : Int32)), .unset, .unset, .unset, .unset] [(.int (1 : Int32)), (.ref b3)])) _
      obtain ⟨cl47, Ar47, qc47, Sz47, Ng47, Hh47, Gg47⟩ := id (Va13)
      have hin47 : ¬ ((1 : Int32) < 0 ∨ cl47.slots.size ≤ ((1 : Int32)).toNatClampNeg) := inb_of Sz47 ⟨by decide, by decide⟩
      have hat47 : cl47.slots[((1 : Int32)).toNatClampNeg]? = some (.ref w_RUNNING) := Hh47.at hin47 rfl
      refine OGot.go (fun t k => X13.aaload hx (j := (1 : Int32)) (v := (.ref w_RUNNING)) (by rw [e13]; exact Ar47.1) (State.isArrayOf_alike hZ.alike Ar47.2.1) rfl Ar47.2.2 hin47 hat47 (g := (mkF m 52 #[.val (.int p1), .val (.int p2), .val (.ref b3), .val (.int (1 : Int32)), .val (.int (1 : Int32)), .unset, .unset, .unset, .unset] [(.int (1 : Int32)), (.ref b3)])) rfl rfl (hb hby at_52) _ k) ?_
      show OGot p.tables e below (T13.setTop (mkF m 53 #[.val (.int p1), .val (.int p2), .val (.ref b3), .val (.int (1 : Int32)), .val (.int (1 : Int32)), .unset, .unset, .unset, .unset] [(.ref w_RUNNING)])) _
      refine OGot.go (fun t k => XS.astore X13.here hx rfl (hb hby at_53) rfl rfl (l' := #[.val (.int p1), .val (.int p2), .val (.ref b3), .val (.int (1 : Int32)), .val (.int (1 : Int32)), .val (.ref w_RUNNING), .unset, .unset, .unset]) rfl k) ?_
      show OGot p.tables e below (T13.setTop (mkF m 55 #[.val (.int p1), .val (.int p2), .val (.ref b3), .val (.int (1 : Int32)), .val (.int (1 : Int32)), .val (.ref w_RUNNING), .unset, .unset, .unset] [])) _
      refine OGot.go (fun t k => XS.aloadN X13.here hx rfl (hb hby at_55) rfl rfl k) ?_
      show OGot p.tables e below (T13.setTop (mkF m 56 #[.val (.int p1), .val (.int p2), .val (.ref b3), .val (.int (1 : Int32)), .val (.int (1 : Int32)), .val (.ref w_RUNNING), .unset, .unset, .unset] [(.ref b3)])) _
      refine OGot.go (fun t k => XS.iload X13.here hx rfl (hb hby at_56) rfl k) ?_
      show OGot p.tables e below (T13.setTop (mkF m 58 #[.val (.int p1), .val (.int p2), .val (.ref b3), .val (.int (1 : Int32)), .val (.int (1 : Int32)), .val (.ref w_RUNNING), .unset, .unset, .unset] [(.int (1 : Int32)), (.ref b3)])) _
      obtain ⟨cl48, Ar48, qc48, Sz48, Ng48, Hh48, Gg48⟩ := id (Va13)
      have hin48 : ¬ ((1 : Int32) < 0 ∨ cl48.slots.size ≤ ((1 : Int32)).toNatClampNeg) := inb_of Sz48 ⟨by decide, by decide⟩
      have hat48 : cl48.slots[((1 : Int32)).toNatClampNeg]? = some (.ref w_RUNNING) := Hh48.at hin48 rfl
      refine OGot.go (fun t k => X13.aaload hx (j := (1 : Int32)) (v := (.ref w_RUNNING)) (by rw [e13]; exact Ar48.1) (State.isArrayOf_alike hZ.alike Ar48.2.1) rfl Ar48.2.2 hin48 hat48 (g := (mkF m 58 #[.val (.int p1), .val (.int p2), .val (.ref b3), .val (.int (1 : Int32)), .val (.int (1 : Int32)), .val (.ref w_RUNNING), .unset, .unset, .unset] [(.int (1 : Int32)), (.ref b3)])) rfl rfl (hb hby at_58) _ k) ?_
      show OGot p.tables e below (T13.setTop (mkF m 59 #[.val (.int p1), .val (.int p2), .val (.ref b3), .val (.int (1 : Int32)), .val (.int (1 : Int32)), .val (.ref w_RUNNING), .unset, .unset, .unset] [(.ref w_RUNNING)])) _
      refine OGot.go (fun t k => XS.astore X13.here hx rfl (hb hby at_59) rfl rfl (l' := #[.val (.int p1), .val (.int p2), .val (.ref b3), .val (.int (1 : Int32)), .val (.int (1 : Int32)), .val (.ref w_RUNNING), .val (.ref w_RUNNING), .unset, .unset]) rfl k) ?_
      show OGot p.tables e below (T13.setTop (mkF m 61 #[.val (.int p1), .val (.int p2), .val (.ref b3), .val (.int (1 : Int32)), .val (.int (1 : Int32)), .val (.ref w_RUNNING), .val (.ref w_RUNNING), .unset, .unset] [])) _
      refine OGot.go (fun t k => XS.iloadN X13.here hx rfl (hb hby at_61) rfl k) ?_
      show OGot p.tables e below (T13.setTop (mkF m 62 #[.val (.int p1), .val (.int p2), .val (.ref b3), .val (.int (1 : Int32)), .val (.int (1 : Int32)), .val (.ref w_RUNNING), .val (.ref w_RUNNING), .unset, .unset] [(.int (1 : Int32))])) _
      refine OGot.go (fun t k => XS.ifNo X13.here hx rfl (hb hby at_62) rfl (by decide) k) ?_
      show OGot p.tables e below (T13.setTop (mkF m 65 #[.val (.int p1), .val (.int p2), .val (.ref b3), .val (.int (1 : Int32)), .val (.int (1 : Int32)), .val (.ref w_RUNNING), .val (.ref w_RUNNING), .unset, .unset] [])) _
      refine OGot.go (fun t k => XS.iloadN X13.here hx rfl (hb hby at_65) rfl k) ?_
      show OGot p.tables e below (T13.setTop (mkF m 66 #[.val (.int p1), .val (.int p2), .val (.ref b3), .val (.int (1 : Int32)), .val (.int (1 : Int32)), .val (.ref w_RUNNING), .val (.ref w_RUNNING), .unset, .unset] [(.int (1 : Int32))])) _
      refine OGot.go (fun t k => XS.iconst X13.here hx rfl (hb hby at_66) k) ?_
      show OGot p.tables e below (T13.setTop (mkF m 67 #[.val (.int p1), .val (.int p2), .val (.ref b3), .val (.int (1 : Int32)), .val (.int (1 : Int32)), .val (.ref w_RUNNING), .val (.ref w_RUNNING), .unset, .unset] [(.int (1 : Int32)), (.int (1 : Int32))])) _
      refine OGot.go (fun t k => XS.icmpYes X13.here hx rfl (pc0 := 67) (pc' := 74) rfl (hb hby at_67) rfl (by decide) (by decide) (by decide) k) ?_
      show OGot p.tables e below (T13.setTop (mkF m 74 #[.val (.int p1), .val (.int p2), .val (.ref b3), .val (.int (1 : Int32)), .val (.int (1 : Int32)), .val (.ref w_RUNNING), .val (.ref w_RUNNING), .unset, .unset] [])) _
      refine OGot.go (fun t k => XS.iconst X13.here hx rfl (hb hby at_74) k) ?_
      show OGot p.tables e below (T13.setTop (mkF m 75 #[.val (.int p1), .val (.int p2), .val (.ref b3), .val (.int (1 : Int32)), .val (.int (1 : Int32)), .val (.ref w_RUNNING), .val (.ref w_RUNNING), .unset, .unset] [(.int (0 : Int32))])) _
      refine OGot.go (fun t k => XS.istore X13.here hx rfl (hb hby at_75) rfl (l' := #[.val (.int p1), .val (.int p2), .val (.ref b3), .val (.int (1 : Int32)), .val (.int (1 : Int32)), .val (.ref w_RUNNING), .val (.ref w_RUNNING), .val (.int (0 : Int32)), .unset]) rfl k) ?_
      show OGot p.tables e below (T13.setTop (mkF m 77 #[.val (.int p1), .val (.int p2), .val (.ref b3), .val (.int (1 : Int32)), .val (.int (1 : Int32)), .val (.ref w_RUNNING), .val (.ref w_RUNNING), .val (.int (0 : Int32)), .unset] [])) _
      refine OGot.go (fun t k => XS.aload X13.here hx rfl (hb hby at_77) rfl rfl k) ?_
      show OGot p.tables e below (T13.setTop (mkF m 79 #[.val (.int p1), .val (.int p2), .val (.ref b3), .val (.int (1 : Int32)), .val (.int (1 : Int32)), .val (.ref w_RUNNING), .val (.ref w_RUNNING), .val (.int (0 : Int32)), .unset] [(.ref w_RUNNING)])) _
      obtain ⟨cq49, kq49, q49a, q49b, q49c⟩ := isOf hZ e13 (G.2.2.2.1.ext O13.2)
      obtain ⟨_, _, ⟨T49, L49, k49, n49⟩, -, X49, ⟨Lc49, hQ49, l49, y49, z49⟩, st49⟩ := X13.virtualBack hx (y := (⟨"com/example/hermit_crab/hermitcrab/JobState", "isFinal", "()Z"⟩ : MethodName)) (z := (⟨"com/example/hermit_crab/hermitcrab/JobState", "isFinal", "()Z"⟩ : MethodName)) hown (mvT hZ (ow hw 15 rfl)) (mvT hZ (ow hw 16 rfl)) (notFace_of_selects (args := #[]) (mvT hZ (ow hw 18 rfl))) (mvT hZ (ow hw 18 rfl)) (mvT hZ (ow hw 17 rfl)) (by decide) (backOf (W := 0) (rm1_1 l Z a0 hw [] G  h13 n0 O13 ) hZ (ow hw 19 rfl) (ow hw 3 rfl) (by decide) (by decide)) q49a q49c (g := (mkF m 79 #[.val (.int p1), .val (.int p2), .val (.ref b3), .val (.int (1 : Int32)), .val (.int (1 : Int32)), .val (.ref w_RUNNING), .val (.ref w_RUNNING), .val (.int (0 : Int32)), .unset] [(.ref w_RUNNING)])) rfl (by rw [hml]; rfl) (Steps.refl _) (argsL := []) (rest := []) (lenOf pd_0 rfl) rfl (by show 2 * 0 + _ ≤ _; exact Nat.le_of_eq rfl) (hb hby at_79) (fun _ _ => ⟨rfl, e13, (by decide : 1 + 0 ≤ _), (by decide : 5 + 0 ≤ _)⟩)
      dsimp only [Pt.U, Pt.locs, Pt.cells, Pt.slots] at X49 l49 y49 z49 st49 hQ49
      subst l49 y49 z49
      obtain ⟨rfl, N49q, e49⟩ := hQ49
      have N49 := Fr.app N13 N49q
      refine OGot.on st49 ?_
      show OGot p.tables e below (T49.setTop (mkF m 82 #[.val (.int p1), .val (.int p2), .val (.ref b3), .val (.int (1 : Int32)), .val (.int (1 : Int32)), .val (.ref w_RUNNING), .val (.ref w_RUNNING), .val (.int (0 : Int32)), .unset] [(.int (0 : Int32))])) _
      refine OGot.go (fun t k => XS.istore X49.here hx rfl (hb hby at_82) rfl (l' := #[.val (.int p1), .val (.int p2), .val (.ref b3), .val (.int (1 : Int32)), .val (.int (1 : Int32)), .val (.ref w_RUNNING), .val (.ref w_RUNNING), .val (.int (0 : Int32)), .val (.int (0 : Int32))]) rfl k) ?_
      show OGot p.tables e below (T49.setTop (mkF m 84 #[.val (.int p1), .val (.int p2), .val (.ref b3), .val (.int (1 : Int32)), .val (.int (1 : Int32)), .val (.ref w_RUNNING), .val (.ref w_RUNNING), .val (.int (0 : Int32)), .val (.int (0 : Int32))] [])) _
      refine OGot.go (fun t k => XS.iload X49.here hx rfl (hb hby at_84) rfl k) ?_
      show OGot p.tables e below (T49.setTop (mkF m 86 #[.val (.int p1), .val (.int p2), .val (.ref b3), .val (.int (1 : Int32)), .val (.int (1 : Int32)), .val (.ref w_RUNNING), .val (.ref w_RUNNING), .val (.int (0 : Int32)), .val (.int (0 : Int32))] [(.int (0 : Int32))])) _
      refine OGot.go (fun t k => XS.iload X49.here hx rfl (hb hby at_86) rfl k) ?_
      show OGot p.tables e below (T49.setTop (mkF m 88 #[.val (.int p1), .val (.int p2), .val (.ref b3), .val (.int (1 : Int32)), .val (.int (1 : Int32)), .val (.ref w_RUNNING), .val (.ref w_RUNNING), .val (.int (0 : Int32)), .val (.int (0 : Int32))] [(.int (0 : Int32)), (.int (0 : Int32))])) _
      refine OGot.go (fun t k => XS.icmpYes X49.here hx rfl (pc0 := 88) (pc' := 93) rfl (hb hby at_88) rfl (by decide) (by decide) (by decide) k) ?_
      show OGot p.tables e below (T49.setTop (mkF m 93 #[.val (.int p1), .val (.int p2), .val (.ref b3), .val (.int (1 : Int32)), .val (.int (1 : Int32)), .val (.ref w_RUNNING), .val (.ref w_RUNNING), .val (.int (0 : Int32)), .val (.int (0 : Int32))] [])) _
      refine OGot.go (fun t k => XS.iload X49.here hx rfl (hb hby at_93) rfl k) ?_
      show OGot p.tables e below (T49.setTop (mkF m 95 #[.val (.int p1), .val (.int p2), .val (.ref b3), .val (.int (1 : Int32)), .val (.int (1 : Int32)), .val (.ref w_RUNNING), .val (.ref w_RUNNING), .val (.int (0 : Int32)), .val (.int (0 : Int32))] [(.int (0 : Int32))])) _
      refine OGot.go (fun t k => XS.ifYes X49.here hx rfl (pc0 := 95) (pc' := 124) rfl (hb hby at_95) rfl (by decide) (by decide) (by decide) k) ?_
      show OGot p.tables e below (T49.setTop (mkF m 124 #[.val (.int p1), .val (.int p2), .val (.ref b3), .val (.int (1 : Int32)), .val (.int (1 : Int32)), .val (.ref w_RUNNING), .val (.ref w_RUNNING), .val (.int (0 : Int32)), .val (.int (0 : Int32))] [])) _
      refine OGot.go (fun t k => XS.iconst X49.here hx rfl (hb hby at_124) k) ?_
      show OGot p.tables e below (T49.setTop (mkF m 125 #[.val (.int p1), .val (.int p2), .val (.ref b3), .val (.int (1 : Int32)), .val (.int (1 : Int32)), .val (.ref w_RUNNING), .val (.ref w_RUNNING), .val (.int (0 : Int32)), .val (.int (0 : Int32))] [(.int (1 : Int32))])) _
      obtain ⟨fs, hr, hrun, hended, hW, hsame⟩ := X49.leave (v := some (.int (1 : Int32))) (fun h => by rw [Bd.returns] at h; cases h)
      refine ⟨_, _, retN X49 hx (t := .boolean) Bd.returns (by simp) (hb hby at_125) hr, hrun, hended, _, _, rfl, ?_, ⟨_, rfl⟩, hW, hsame.mono (by decide) (by decide)⟩
      exact (⟨rfl, N49⟩ : Q0 Z w_PENDING w_RUNNING w_COMPLETED w_FAILED w_CANCELLED p1 p2 h0 n0 _ T49.heap _)
    · rw [hk41]
      show OGot p.tables e below (T13.setTop (mkF m 48 #[.val (.int p1), .val (.int p2), .val (.ref b3), .val (.int (1 : Int32)), .unset, .unset, .unset, .unset, .unset] [(.int (2 : Int32))])) _
      refine OGot.go (fun t k => XS.istore X13.here hx rfl (hb hby at_48) rfl (l' := #[.val (.int p1), .val (.int p2), .val (.ref b3), .val (.int (1 : Int32)), .val (.int (2 : Int32)), .unset, .unset, .unset, .unset]) rfl k) ?_
      show OGot p.tables e below (T13.setTop (mkF m 50 #[.val (.int p1), .val (.int p2), .val (.ref b3), .val (.int (1 : Int32)), .val (.int (2 : Int32)), .unset, .unset, .unset, .unset] [])) _
      refine OGot.go (fun t k => XS.aloadN X13.here hx rfl (hb hby at_50) rfl rfl k) ?_
      show OGot p.tables e below (T13.setTop (mkF m 51 #[.val (.int p1), .val (.int p2), .val (.ref b3), .val (.int (1 : Int32)), .val (.int (2 : Int32)), .unset, .unset, .unset, .unset] [(.ref b3)])) _
      refine OGot.go (fun t k => XS.iloadN X13.here hx rfl (hb hby at_51) rfl k) ?_
      show OGot p.tables e below (T13.setTop (mkF m 52 #[.val (.int p1), .val (.int p2), .val (.ref b3), .val (.int (1 : Int32)), .val (.int (2 : Int32)), .unset, .unset, .unset, .unset] [(.int (1 : Int32)), (.ref b3)])) _
      obtain ⟨cl50, Ar50, qc50, Sz50, Ng50, Hh50, Gg50⟩ := id (Va13)
      have hin50 : ¬ ((1 : Int32) < 0 ∨ cl50.slots.size ≤ ((1 : Int32)).toNatClampNeg) := inb_of Sz50 ⟨by decide, by decide⟩
      have hat50 : cl50.slots[((1 : Int32)).toNatClampNeg]? = some (.ref w_RUNNING) := Hh50.at hin50 rfl
      refine OGot.go (fun t k => X13.aaload hx (j := (1 : Int32)) (v := (.ref w_RUNNING)) (by rw [e13]; exact Ar50.1) (State.isArrayOf_alike hZ.alike Ar50.2.1) rfl Ar50.2.2 hin50 hat50 (g := (mkF m 52 #[.val (.int p1), .val (.int p2), .val (.ref b3), .val (.int (1 : Int32)), .val (.int (2 : Int32)), .unset, .unset, .unset, .unset] [(.int (1 : Int32)), (.ref b3)])) rfl rfl (hb hby at_52) _ k) ?_
      show OGot p.tables e below (T13.setTop (mkF m 53 #[.val (.int p1), .val (.int p2), .val (.ref b3), .val (.int (1 : Int32)), .val (.int (2 : Int32)), .unset, .unset, .unset, .unset] [(.ref w_RUNNING)])) _
      refine OGot.go (fun t k => XS.astore X13.here hx rfl (hb hby at_53) rfl rfl (l' := #[.val (.int p1), .val (.int p2), .val (.ref b3), .val (.int (1 : Int32)), .val (.int (2 : Int32)), .val (.ref w_RUNNING), .unset, .unset, .unset]) rfl k) ?_
      show OGot p.tables e below (T13.setTop (mkF m 55 #[.val (.int p1), .val (.int p2), .val (.ref b3), .val (.int (1 : Int32)), .val (.int (2 : Int32)), .val (.ref w_RUNNING), .unset, .unset, .unset] [])) _
      refine OGot.go (fun t k => XS.aloadN X13.here hx rfl (hb hby at_55) rfl rfl k) ?_
      show OGot p.tables e below (T13.setTop (mkF m 56 #[.val (.int p1), .val (.int p2), .val (.ref b3), .val (.int (1 : Int32)), .val (.int (2 : Int32)), .val (.ref w_RUNNING), .unset, .unset, .unset] [(.ref b3)])) _
      refine OGot.go (fun t k => XS.iload X13.here hx rfl (hb hby at_56) rfl k) ?_
      show OGot p.tables e below (T13.setTop (mkF m 58 #[.val (.int p1), .val (.int p2), .val (.ref b3), .val (.int (1 : Int32)), .val (.int (2 : Int32)), .val (.ref w_RUNNING), .unset, .unset, .unset] [(.int (2 : Int32)), (.ref b3)])) _
      obtain ⟨cl51, Ar51, qc51, Sz51, Ng51, Hh51, Gg51⟩ := id (Va13)
      have hin51 : ¬ ((2 : Int32) < 0 ∨ cl51.slots.size ≤ ((2 : Int32)).toNatClampNeg) := inb_of Sz51 ⟨by decide, by decide⟩
      have hat51 : cl51.slots[((2 : Int32)).toNatClampNeg]? = some (.ref w_COMPLETED) := Hh51.at hin51 rfl
      refine OGot.go (fun t k => X13.aaload hx (j := (2 : Int32)) (v := (.ref w_COMPLETED)) (by rw [e13]; exact Ar51.1) (State.isArrayOf_alike hZ.alike Ar51.2.1) rfl Ar51.2.2 hin51 hat51 (g := (mkF m 58 #[.val (.int p1), .val (.int p2), .val (.ref b3), .val (.int (1 : Int32)), .val (.int (2 : Int32)), .val (.ref w_RUNNING), .unset, .unset, .unset] [(.int (2 : Int32)), (.ref b3)])) rfl rfl (hb hby at_58) _ k) ?_
      show OGot p.tables e below (T13.setTop (mkF m 59 #[.val (.int p1), .val (.int p2), .val (.ref b3), .val (.int (1 : Int32)), .val (.int (2 : Int32)), .val (.ref w_RUNNING), .unset, .unset, .unset] [(.ref w_COMPLETED)])) _
      refine OGot.go (fun t k => XS.astore X13.here hx rfl (hb hby at_59) rfl rfl (l' := #[.val (.int p1), .val (.int p2), .val (.ref b3), .val (.int (1 : Int32)), .val (.int (2 : Int32)), .val (.ref w_RUNNING), .val (.ref w_COMPLETED), .unset, .unset]) rfl k) ?_
      show OGot p.tables e below (T13.setTop (mkF m 61 #[.val (.int p1), .val (.int p2), .val (.ref b3), .val (.int (1 : Int32)), .val (.int (2 : Int32)), .val (.ref w_RUNNING), .val (.ref w_COMPLETED), .unset, .unset] [])) _
      refine OGot.go (fun t k => XS.iloadN X13.here hx rfl (hb hby at_61) rfl k) ?_
      show OGot p.tables e below (T13.setTop (mkF m 62 #[.val (.int p1), .val (.int p2), .val (.ref b3), .val (.int (1 : Int32)), .val (.int (2 : Int32)), .val (.ref w_RUNNING), .val (.ref w_COMPLETED), .unset, .unset] [(.int (1 : Int32))])) _
      refine OGot.go (fun t k => XS.ifNo X13.here hx rfl (hb hby at_62) rfl (by decide) k) ?_
      show OGot p.tables e below (T13.setTop (mkF m 65 #[.val (.int p1), .val (.int p2), .val (.ref b3), .val (.int (1 : Int32)), .val (.int (2 : Int32)), .val (.ref w_RUNNING), .val (.ref w_COMPLETED), .unset, .unset] [])) _
      refine OGot.go (fun t k => XS.iloadN X13.here hx rfl (hb hby at_65) rfl k) ?_
      show OGot p.tables e below (T13.setTop (mkF m 66 #[.val (.int p1), .val (.int p2), .val (.ref b3), .val (.int (1 : Int32)), .val (.int (2 : Int32)), .val (.ref w_RUNNING), .val (.ref w_COMPLETED), .unset, .unset] [(.int (1 : Int32))])) _
      refine OGot.go (fun t k => XS.iconst X13.here hx rfl (hb hby at_66) k) ?_
      show OGot p.tables e below (T13.setTop (mkF m 67 #[.val (.int p1), .val (.int p2), .val (.ref b3), .val (.int (1 : Int32)), .val (.int (2 : Int32)), .val (.ref w_RUNNING), .val (.ref w_COMPLETED), .unset, .unset] [(.int (1 : Int32)), (.int (1 : Int32))])) _
      refine OGot.go (fun t k => XS.icmpYes X13.here hx rfl (pc0 := 67) (pc' := 74) rfl (hb hby at_67) rfl (by decide) (by decide) (by decide) k) ?_
      show OGot p.tables e below (T13.setTop (mkF m 74 #[.val (.int p1), .val (.int p2), .val (.ref b3), .val (.int (1 : Int32)), .val (.int (2 : Int32)), .val (.ref w_RUNNING), .val (.ref w_COMPLETED), .unset, .unset] [])) _
      refine OGot.go (fun t k => XS.iconst X13.here hx rfl (hb hby at_74) k) ?_
      show OGot p.tables e below (T13.setTop (mkF m 75 #[.val (.int p1), .val (.int p2), .val (.ref b3), .val (.int (1 : Int32)), .val (.int (2 : Int32)), .val (.ref w_RUNNING), .val (.ref w_COMPLETED), .unset, .unset] [(.int (0 : Int32))])) _
      refine OGot.go (fun t k => XS.istore X13.here hx rfl (hb hby at_75) rfl (l' := #[.val (.int p1), .val (.int p2), .val (.ref b3), .val (.int (1 : Int32)), .val (.int (2 : Int32)), .val (.ref w_RUNNING), .val (.ref w_COMPLETED), .val (.int (0 : Int32)), .unset]) rfl k) ?_
      show OGot p.tables e below (T13.setTop (mkF m 77 #[.val (.int p1), .val (.int p2), .val (.ref b3), .val (.int (1 : Int32)), .val (.int (2 : Int32)), .val (.ref w_RUNNING), .val (.ref w_COMPLETED), .val (.int (0 : Int32)), .unset] [])) _
      refine OGot.go (fun t k => XS.aload X13.here hx rfl (hb hby at_77) rfl rfl k) ?_
      show OGot p.tables e below (T13.setTop (mkF m 79 #[.val (.int p1), .val (.int p2), .val (.ref b3), .val (.int (1 : Int32)), .val (.int (2 : Int32)), .val (.ref w_RUNNING), .val (.ref w_COMPLETED), .val (.int (0 : Int32)), .unset] [(.ref w_RUNNING)])) _
      obtain ⟨cq52, kq52, q52a, q52b, q52c⟩ := isOf hZ e13 (G.2.2.2.1.ext O13.2)
      obtain ⟨_, _, ⟨T52, L52, k52, n52⟩, -, X52, ⟨Lc52, hQ52, l52, y52, z52⟩, st52⟩ := X13.virtualBack hx (y := (⟨"com/example/hermit_crab/hermitcrab/JobState", "isFinal", "()Z"⟩ : MethodName)) (z := (⟨"com/example/hermit_crab/hermitcrab/JobState", "isFinal", "()Z"⟩ : MethodName)) hown (mvT hZ (ow hw 15 rfl)) (mvT hZ (ow hw 16 rfl)) (notFace_of_selects (args := #[]) (mvT hZ (ow hw 18 rfl))) (mvT hZ (ow hw 18 rfl)) (mvT hZ (ow hw 17 rfl)) (by decide) (backOf (W := 0) (rm1_1 l Z a0 hw [] G  h13 n0 O13 ) hZ (ow hw 19 rfl) (ow hw 3 rfl) (by decide) (by decide)) q52a q52c (g := (mkF m 79 #[.val (.int p1), .val (.int p2), .val (.ref b3), .val (.int (1 : Int32)), .val (.int (2 : Int32)), .val (.ref w_RUNNING), .val (.ref w_COMPLETED), .val (.int (0 : Int32)), .unset] [(.ref w_RUNNING)])) rfl (by rw [hml]; rfl) (Steps.refl _) (argsL := []) (rest := []) (lenOf pd_0 rfl) rfl (by show 2 * 0 + _ ≤ _; exact Nat.le_of_eq rfl) (hb hby at_79) (fun _ _ => ⟨rfl, e13, (by decide : 1 + 0 ≤ _), (by decide : 5 + 0 ≤ _)⟩)
      dsimp only [Pt.U, Pt.locs, Pt.cells, Pt.slots] at X52 l52 y52 z52 st52 hQ52
      subst l52 y52 z52
      obtain ⟨rfl, N52q, e52⟩ := hQ52
      have N52 := Fr.app N13 N52q
      refine OGot.on st52 ?_
      show OGot p.tables e below (T52.setTop (mkF m 82 #[.val (.int p1), .val (.int p2), .val (.ref b3), .val (.int (1 : Int32)), .val (.int (2 : Int32)), .val (.ref w_RUNNING), .val (.ref w_COMPLETED), .val (.int (0 : Int32)), .unset] [(.int (0 : Int32))])) _
      refine OGot.go (fun t k => XS.istore X52.here hx rfl (hb hby at_82) rfl (l' := #[.val (.int p1), .val (.int p2), .val (.ref b3), .val (.int (1 : Int32)), .val (.int (2 : Int32)), .val (.ref w_RUNNING), .val (.ref w_COMPLETED), .val (.int (0 : Int32)), .val (.int (0 : Int32))]) rfl k) ?_
      show OGot p.tables e below (T52.setTop (mkF m 84 #[.val (.int p1), .val (.int p2), .val (.ref b3), .val (.int (1 : Int32)), .val (.int (2 : Int32)), .val (.ref w_RUNNING), .val (.ref w_COMPLETED), .val (.int (0 : Int32)), .val (.int (0 : Int32))] [])) _
      refine OGot.go (fun t k => XS.iload X52.here hx rfl (hb hby at_84) rfl k) ?_
      show OGot p.tables e below (T52.setTop (mkF m 86 #[.val (.int p1), .val (.int p2), .val (.ref b3), .val (.int (1 : Int32)), .val (.int (2 : Int32)), .val (.ref w_RUNNING), .val (.ref w_COMPLETED), .val (.int (0 : Int32)), .val (.int (0 : Int32))] [(.int (0 : Int32))])) _
      refine OGot.go (fun t k => XS.iload X52.here hx rfl (hb hby at_86) rfl k) ?_
      show OGot p.tables e below (T52.setTop (mkF m 88 #[.val (.int p1), .val (.int p2), .val (.ref b3), .val (.int (1 : Int32)), .val (.int (2 : Int32)), .val (.ref w_RUNNING), .val (.ref w_COMPLETED), .val (.int (0 : Int32)), .val (.int (0 : Int32))] [(.int (0 : Int32)), (.int (0 : Int32))])) _
      refine OGot.go (fun t k => XS.icmpYes X52.here hx rfl (pc0 := 88) (pc' := 93) rfl (hb hby at_88) rfl (by decide) (by decide) (by decide) k) ?_
      show OGot p.tables e below (T52.setTop (mkF m 93 #[.val (.int p1), .val (.int p2), .val (.ref b3), .val (.int (1 : Int32)), .val (.int (2 : Int32)), .val (.ref w_RUNNING), .val (.ref w_COMPLETED), .val (.int (0 : Int32)), .val (.int (0 : Int32))] [])) _
      refine OGot.go (fun t k => XS.iload X52.here hx rfl (hb hby at_93) rfl k) ?_
      show OGot p.tables e below (T52.setTop (mkF m 95 #[.val (.int p1), .val (.int p2), .val (.ref b3), .val (.int (1 : Int32)), .val (.int (2 : Int32)), .val (.ref w_RUNNING), .val (.ref w_COMPLETED), .val (.int (0 : Int32)), .val (.int (0 : Int32))] [(.int (0 : Int32))])) _
      refine OGot.go (fun t k => XS.ifYes X52.here hx rfl (pc0 := 95) (pc' := 124) rfl (hb hby at_95) rfl (by decide) (by decide) (by decide) k) ?_
      show OGot p.tables e below (T52.setTop (mkF m 124 #[.val (.int p1), .val (.int p2), .val (.ref b3), .val (.int (1 : Int32)), .val (.int (2 : Int32)), .val (.ref w_RUNNING), .val (.ref w_COMPLETED), .val (.int (0 : Int32)), .val (.int (0 : Int32))] [])) _
      refine OGot.go (fun t k => XS.iconst X52.here hx rfl (hb hby at_124) k) ?_
      show OGot p.tables e below (T52.setTop (mkF m 125 #[.val (.int p1), .val (.int p2), .val (.ref b3), .val (.int (1 : Int32)), .val (.int (2 : Int32)), .val (.ref w_RUNNING), .val (.ref w_COMPLETED), .val (.int (0 : Int32)), .val (.int (0 : Int32))] [(.int (1 : Int32))])) _
      obtain ⟨fs, hr, hrun, hended, hW, hsame⟩ := X52.leave (v := some (.int (1 : Int32))) (fun h => by rw [Bd.returns] at h; cases h)
      refine ⟨_, _, retN X52 hx (t := .boolean) Bd.returns (by simp) (hb hby at_125) hr, hrun, hended, _, _, rfl, ?_, ⟨_, rfl⟩, hW, hsame.mono (by decide) (by decide)⟩
      exact (⟨rfl, N52⟩ : Q0 Z w_PENDING w_RUNNING w_COMPLETED w_FAILED w_CANCELLED p1 p2 h0 n0 _ T52.heap _)
    · rw [hk42]
      show OGot p.tables e below (T13.setTop (mkF m 48 #[.val (.int p1), .val (.int p2), .val (.ref b3), .val (.int (1 : Int32)), .unset, .unset, .unset, .unset, .unset] [(.int (3 : Int32))])) _
      refine OGot.go (fun t k => XS.istore X13.here hx rfl (hb hby at_48) rfl (l' := #[.val (.int p1), .val (.int p2), .val (.ref b3), .val (.int (1 : Int32)), .val (.int (3 : Int32)), .unset, .unset, .unset, .unset]) rfl k) ?_
      show OGot p.tables e below (T13.setTop (mkF m 50 #[.val (.int p1), .val (.int p2), .val (.ref b3), .val (.int (1 : Int32)), .val (.int (3 : Int32)), .unset, .unset, .unset, .unset] [])) _
      refine OGot.go (fun t k => XS.aloadN X13.here hx rfl (hb hby at_50) rfl rfl k) ?_
      show OGot p.tables e below (T13.setTop (mkF m 51 #[.val (.int p1), .val (.int p2), .val (.ref b3), .val (.int (1 : Int32)), .val (.int (3 : Int32)), .unset, .unset, .unset, .unset] [(.ref b3)])) _
      refine OGot.go (fun t k => XS.iloadN X13.here hx rfl (hb hby at_51) rfl k) ?_
      show OGot p.tables e below (T13.setTop (mkF m 52 #[.val (.int p1), .val (.int p2), .val (.ref b3), .val (.int (1 : Int32)), .val (.int (3 : Int32)), .unset, .unset, .unset, .unset] [(.int (1 : Int32)), (.ref b3)])) _
      obtain ⟨cl53, Ar53, qc53, Sz53, Ng53, Hh53, Gg53⟩ := id (Va13)
      have hin53 : ¬ ((1 : Int32) < 0 ∨ cl53.slots.size ≤ ((1 : Int32)).toNatClampNeg) := inb_of Sz53 ⟨by decide, by decide⟩
      have hat53 : cl53.slots[((1 : Int32)).toNatClampNeg]? = some (.ref w_RUNNING) := Hh53.at hin53 rfl
      refine OGot.go (fun t k => X13.aaload hx (j := (1 : Int32)) (v := (.ref w_RUNNING)) (by rw [e13]; exact Ar53.1) (State.isArrayOf_alike hZ.alike Ar53.2.1) rfl Ar53.2.2 hin53 hat53 (g := (mkF m 52 #[.val (.int p1), .val (.int p2), .val (.ref b3), .val (.int (1 : Int32)), .val (.int (3 : Int32)), .unset, .unset, .unset, .unset] [(.int (1 : Int32)), (.ref b3)])) rfl rfl (hb hby at_52) _ k) ?_
      show OGot p.tables e below (T13.setTop (mkF m 53 #[.val (.int p1), .val (.int p2), .val (.ref b3), .val (.int (1 : Int32)), .val (.int (3 : Int32)), .unset, .unset, .unset, .unset] [(.ref w_RUNNING)])) _
      refine OGot.go (fun t k => XS.astore X13.here hx rfl (hb hby at_53) rfl rfl (l' := #[.val (.int p1), .val (.int p2), .val (.ref b3), .val (.int (1 : Int32)), .val (.int (3 : Int32)), .val (.ref w_RUNNING), .unset, .unset, .unset]) rfl k) ?_
      show OGot p.tables e below (T13.setTop (mkF m 55 #[.val (.int p1), .val (.int p2), .val (.ref b3), .val (.int (1 : Int32)), .val (.int (3 : Int32)), .val (.ref w_RUNNING), .unset, .unset, .unset] [])) _
      refine OGot.go (fun t k => XS.aloadN X13.here hx rfl (hb hby at_55) rfl rfl k) ?_
      show OGot p.tables e below (T13.setTop (mkF m 56 #[.val (.int p1), .val (.int p2), .val (.ref b3), .val (.int (1 : Int32)), .val (.int (3 : Int32)), .val (.ref w_RUNNING), .unset, .unset, .unset] [(.ref b3)])) _
      refine OGot.go (fun t k => XS.iload X13.here hx rfl (hb hby at_56) rfl k) ?_
      show OGot p.tables e below (T13.setTop (mkF m 58 #[.val (.int p1), .val (.int p2), .val (.ref b3), .val (.int (1 : Int32)), .val (.int (3 : Int32)), .val (.ref w_RUNNING), .unset, .unset, .unset] [(.int (3 : Int32)), (.ref b3)])) _
      obtain ⟨cl54, Ar54, qc54, Sz54, Ng54, Hh54, Gg54⟩ := id (Va13)
      have hin54 : ¬ ((3 : Int32) < 0 ∨ cl54.slots.size ≤ ((3 : Int32)).toNatClampNeg) := inb_of Sz54 ⟨by decide, by decide⟩
      have hat54 : cl54.slots[((3 : Int32)).toNatClampNeg]? = some (.ref w_FAILED) := Hh54.at hin54 rfl
      refine OGot.go (fun t k => X13.aaload hx (j := (3 : Int32)) (v := (.ref w_FAILED)) (by rw [e13]; exact Ar54.1) (State.isArrayOf_alike hZ.alike Ar54.2.1) rfl Ar54.2.2 hin54 hat54 (g := (mkF m 58 #[.val (.int p1), .val (.int p2), .val (.ref b3), .val (.int (1 : Int32)), .val (.int (3 : Int32)), .val (.ref w_RUNNING), .unset, .unset, .unset] [(.int (3 : Int32)), (.ref b3)])) rfl rfl (hb hby at_58) _ k) ?_
      show OGot p.tables e below (T13.setTop (mkF m 59 #[.val (.int p1), .val (.int p2), .val (.ref b3), .val (.int (1 : Int32)), .val (.int (3 : Int32)), .val (.ref w_RUNNING), .unset, .unset, .unset] [(.ref w_FAILED)])) _
      refine OGot.go (fun t k => XS.astore X13.here hx rfl (hb hby at_59) rfl rfl (l' := #[.val (.int p1), .val (.int p2), .val (.ref b3), .val (.int (1 : Int32)), .val (.int (3 : Int32)), .val (.ref w_RUNNING), .val (.ref w_FAILED), .unset, .unset]) rfl k) ?_
      show OGot p.tables e below (T13.setTop (mkF m 61 #[.val (.int p1), .val (.int p2), .val (.ref b3), .val (.int (1 : Int32)), .val (.int (3 : Int32)), .val (.ref w_RUNNING), .val (.ref w_FAILED), .unset, .unset] [])) _
      refine OGot.go (fun t k => XS.iloadN X13.here hx rfl (hb hby at_61) rfl k) ?_
      show OGot p.tables e below (T13.setTop (mkF m 62 #[.val (.int p1), .val (.int p2), .val (.ref b3), .val (.int (1 : Int32)), .val (.int (3 : Int32)), .val (.ref w_RUNNING), .val (.ref w_FAILED), .unset, .unset] [(.int (1 : Int32))])) _
      refine OGot.go (fun t k => XS.ifNo X13.here hx rfl (hb hby at_62) rfl (by decide) k) ?_
      show OGot p.tables e below (T13.setTop (mkF m 65 #[.val (.int p1), .val (.int p2), .val (.ref b3), .val (.int (1 : Int32)), .val (.int (3 : Int32)), .val (.ref w_RUNNING), .val (.ref w_FAILED), .unset, .unset] [])) _
      refine OGot.go (fun t k => XS.iloadN X13.here hx rfl (hb hby at_65) rfl k) ?_
      show OGot p.tables e below (T13.setTop (mkF m 66 #[.val (.int p1), .val (.int p2), .val (.ref b3), .val (.int (1 : Int32)), .val (.int (3 : Int32)), .val (.ref w_RUNNING), .val (.ref w_FAILED), .unset, .unset] [(.int (1 : Int32))])) _
      refine OGot.go (fun t k => XS.iconst X13.here hx rfl (hb hby at_66) k) ?_
      show OGot p.tables e below (T13.setTop (mkF m 67 #[.val (.int p1), .val (.int p2), .val (.ref b3), .val (.int (1 : Int32)), .val (.int (3 : Int32)), .val (.ref w_RUNNING), .val (.ref w_FAILED), .unset, .unset] [(.int (1 : Int32)), (.int (1 : Int32))])) _
      refine OGot.go (fun t k => XS.icmpYes X13.here hx rfl (pc0 := 67) (pc' := 74) rfl (hb hby at_67) rfl (by decide) (by decide) (by decide) k) ?_
      show OGot p.tables e below (T13.setTop (mkF m 74 #[.val (.int p1), .val (.int p2), .val (.ref b3), .val (.int (1 : Int32)), .val (.int (3 : Int32)), .val (.ref w_RUNNING), .val (.ref w_FAILED), .unset, .unset] [])) _
      refine OGot.go (fun t k => XS.iconst X13.here hx rfl (hb hby at_74) k) ?_
      show OGot p.tables e below (T13.setTop (mkF m 75 #[.val (.int p1), .val (.int p2), .val (.ref b3), .val (.int (1 : Int32)), .val (.int (3 : Int32)), .val (.ref w_RUNNING), .val (.ref w_FAILED), .unset, .unset] [(.int (0 : Int32))])) _
      refine OGot.go (fun t k => XS.istore X13.here hx rfl (hb hby at_75) rfl (l' := #[.val (.int p1), .val (.int p2), .val (.ref b3), .val (.int (1 : Int32)), .val (.int (3 : Int32)), .val (.ref w_RUNNING), .val (.ref w_FAILED), .val (.int (0 : Int32)), .unset]) rfl k) ?_
      show OGot p.tables e below (T13.setTop (mkF m 77 #[.val (.int p1), .val (.int p2), .val (.ref b3), .val (.int (1 : Int32)), .val (.int (3 : Int32)), .val (.ref w_RUNNING), .val (.ref w_FAILED), .val (.int (0 : Int32)), .unset] [])) _
      refine OGot.go (fun t k => XS.aload X13.here hx rfl (hb hby at_77) rfl rfl k) ?_
      show OGot p.tables e below (T13.setTop (mkF m 79 #[.val (.int p1), .val (.int p2), .val (.ref b3), .val (.int (1 : Int32)), .val (.int (3 : Int32)), .val (.ref w_RUNNING), .val (.ref w_FAILED), .val (.int (0 : Int32)), .unset] [(.ref w_RUNNING)])) _
      obtain ⟨cq55, kq55, q55a, q55b, q55c⟩ := isOf hZ e13 (G.2.2.2.1.ext O13.2)
      obtain ⟨_, _, ⟨T55, L55, k55, n55⟩, -, X55, ⟨Lc55, hQ55, l55, y55, z55⟩, st55⟩ := X13.virtualBack hx (y := (⟨"com/example/hermit_crab/hermitcrab/JobState", "isFinal", "()Z"⟩ : MethodName)) (z := (⟨"com/example/hermit_crab/hermitcrab/JobState", "isFinal", "()Z"⟩ : MethodName)) hown (mvT hZ (ow hw 15 rfl)) (mvT hZ (ow hw 16 rfl)) (notFace_of_selects (args := #[]) (mvT hZ (ow hw 18 rfl))) (mvT hZ (ow hw 18 rfl)) (mvT hZ (ow hw 17 rfl)) (by decide) (backOf (W := 0) (rm1_1 l Z a0 hw [] G  h13 n0 O13 ) hZ (ow hw 19 rfl) (ow hw 3 rfl) (by decide) (by decide)) q55a q55c (g := (mkF m 79 #[.val (.int p1), .val (.int p2), .val (.ref b3), .val (.int (1 : Int32)), .val (.int (3 : Int32)), .val (.ref w_RUNNING), .val (.ref w_FAILED), .val (.int (0 : Int32)), .unset] [(.ref w_RUNNING)])) rfl (by rw [hml]; rfl) (Steps.refl _) (argsL := []) (rest := []) (lenOf pd_0 rfl) rfl (by show 2 * 0 + _ ≤ _; exact Nat.le_of_eq rfl) (hb hby at_79) (fun _ _ => ⟨rfl, e13, (by decide : 1 + 0 ≤ _), (by decide : 5 + 0 ≤ _)⟩)
      dsimp only [Pt.U, Pt.locs, Pt.cells, Pt.slots] at X55 l55 y55 z55 st55 hQ55
      subst l55 y55 z55
      obtain ⟨rfl, N55q, e55⟩ := hQ55
      have N55 := Fr.app N13 N55q
      refine OGot.on st55 ?_
      show OGot p.tables e below (T55.setTop (mkF m 82 #[.val (.int p1), .val (.int p2), .val (.ref b3), .val (.int (1 : Int32)), .val (.int (3 : Int32)), .val (.ref w_RUNNING), .val (.ref w_FAILED), .val (.int (0 : Int32)), .unset] [(.int (0 : Int32))])) _
      refine OGot.go (fun t k => XS.istore X55.here hx rfl (hb hby at_82) rfl (l' := #[.val (.int p1), .val (.int p2), .val (.ref b3), .val (.int (1 : Int32)), .val (.int (3 : Int32)), .val (.ref w_RUNNING), .val (.ref w_FAILED), .val (.int (0 : Int32)), .val (.int (0 : Int32))]) rfl k) ?_
      show OGot p.tables e below (T55.setTop (mkF m 84 #[.val (.int p1), .val (.int p2), .val (.ref b3), .val (.int (1 : Int32)), .val (.int (3 : Int32)), .val (.ref w_RUNNING), .val (.ref w_FAILED), .val (.int (0 : Int32)), .val (.int (0 : Int32))] [])) _
      refine OGot.go (fun t k => XS.iload X55.here hx rfl (hb hby at_84) rfl k) ?_
      show OGot p.tables e below (T55.setTop (mkF m 86 #[.val (.int p1), .val (.int p2), .val (.ref b3), .val (.int (1 : Int32)), .val (.int (3 : Int32)), .val (.ref w_RUNNING), .val (.ref w_FAILED), .val (.int (0 : Int32)), .val (.int (0 : Int32))] [(.int (0 : Int32))])) _
      refine OGot.go (fun t k => XS.iload X55.here hx rfl (hb hby at_86) rfl k) ?_
      show OGot p.tables e below (T55.setTop (mkF m 88 #[.val (.int p1), .val (.int p2), .val (.ref b3), .val (.int (1 : Int32)), .val (.int (3 : Int32)), .val (.ref w_RUNNING), .val (.ref w_FAILED), .val (.int (0 : Int32)), .val (.int (0 : Int32))] [(.int (0 : Int32)), (.int (0 : Int32))])) _
      refine OGot.go (fun t k => XS.icmpYes X55.here hx rfl (pc0 := 88) (pc' := 93) rfl (hb hby at_88) rfl (by decide) (by decide) (by decide) k) ?_
      show OGot p.tables e below (T55.setTop (mkF m 93 #[.val (.int p1), .val (.int p2), .val (.ref b3), .val (.int (1 : Int32)), .val (.int (3 : Int32)), .val (.ref w_RUNNING), .val (.ref w_FAILED), .val (.int (0 : Int32)), .val (.int (0 : Int32))] [])) _
      refine OGot.go (fun t k => XS.iload X55.here hx rfl (hb hby at_93) rfl k) ?_
      show OGot p.tables e below (T55.setTop (mkF m 95 #[.val (.int p1), .val (.int p2), .val (.ref b3), .val (.int (1 : Int32)), .val (.int (3 : Int32)), .val (.ref w_RUNNING), .val (.ref w_FAILED), .val (.int (0 : Int32)), .val (.int (0 : Int32))] [(.int (0 : Int32))])) _
      refine OGot.go (fun t k => XS.ifYes X55.here hx rfl (pc0 := 95) (pc' := 124) rfl (hb hby at_95) rfl (by decide) (by decide) (by decide) k) ?_
      show OGot p.tables e below (T55.setTop (mkF m 124 #[.val (.int p1), .val (.int p2), .val (.ref b3), .val (.int (1 : Int32)), .val (.int (3 : Int32)), .val (.ref w_RUNNING), .val (.ref w_FAILED), .val (.int (0 : Int32)), .val (.int (0 : Int32))] [])) _
      refine OGot.go (fun t k => XS.iconst X55.here hx rfl (hb hby at_124) k) ?_
      show OGot p.tables e below (T55.setTop (mkF m 125 #[.val (.int p1), .val (.int p2), .val (.ref b3), .val (.int (1 : Int32)), .val (.int (3 : Int32)), .val (.ref w_RUNNING), .val (.ref w_FAILED), .val (.int (0 : Int32)), .val (.int (0 : Int32))] [(.int (1 : Int32))])) _
      obtain ⟨fs, hr, hrun, hended, hW, hsame⟩ := X55.leave (v := some (.int (1 : Int32))) (fun h => by rw [Bd.returns] at h; cases h)
      refine ⟨_, _, retN X55 hx (t := .boolean) Bd.returns (by simp) (hb hby at_125) hr, hrun, hended, _, _, rfl, ?_, ⟨_, rfl⟩, hW, hsame.mono (by decide) (by decide)⟩
      exact (⟨rfl, N55⟩ : Q0 Z w_PENDING w_RUNNING w_COMPLETED w_FAILED w_CANCELLED p1 p2 h0 n0 _ T55.heap _)
    · rw [hk43]
      show OGot p.tables e below (T13.setTop (mkF m 48 #[.val (.int p1), .val (.int p2), .val (.ref b3), .val (.int (1 : Int32)), .unset, .unset, .unset, .unset, .unset] [(.int (4 : Int32))])) _
      refine OGot.go (fun t k => XS.istore X13.here hx rfl (hb hby at_48) rfl (l' := #[.val (.int p1), .val (.int p2), .val (.ref b3), .val (.int (1 : Int32)), .val (.int (4 : Int32)), .unset, .unset, .unset, .unset]) rfl k) ?_
      show OGot p.tables e below (T13.setTop (mkF m 50 #[.val (.int p1), .val (.int p2), .val (.ref b3), .val (.int (1 : Int32)), .val (.int (4 : Int32)), .unset, .unset, .unset, .unset] [])) _
      refine OGot.go (fun t k => XS.aloadN X13.here hx rfl (hb hby at_50) rfl rfl k) ?_
      show OGot p.tables e below (T13.setTop (mkF m 51 #[.val (.int p1), .val (.int p2), .val (.ref b3), .val (.int (1 : Int32)), .val (.int (4 : Int32)), .unset, .unset, .unset, .unset] [(.ref b3)])) _
      refine OGot.go (fun t k => XS.iloadN X13.here hx rfl (hb hby at_51) rfl k) ?_
      show OGot p.tables e below (T13.setTop (mkF m 52 #[.val (.int p1), .val (.int p2), .val (.ref b3), .val (.int (1 : Int32)), .val (.int (4 : Int32)), .unset, .unset, .unset, .unset] [(.int (1 : Int32)), (.ref b3)])) _
      obtain ⟨cl56, Ar56, qc56, Sz56, Ng56, Hh56, Gg56⟩ := id (Va13)
      have hin56 : ¬ ((1 : Int32) < 0 ∨ cl56.slots.size ≤ ((1 : Int32)).toNatClampNeg) := inb_of Sz56 ⟨by decide, by decide⟩
      have hat56 : cl56.slots[((1 : Int32)).toNatClampNeg]? = some (.ref w_RUNNING) := Hh56.at hin56 rfl
      refine OGot.go (fun t k => X13.aaload hx (j := (1 : Int32)) (v := (.ref w_RUNNING)) (by rw [e13]; exact Ar56.1) (State.isArrayOf_alike hZ.alike Ar56.2.1) rfl Ar56.2.2 hin56 hat56 (g := (mkF m 52 #[.val (.int p1), .val (.int p2), .val (.ref b3), .val (.int (1 : Int32)), .val (.int (4 : Int32)), .unset, .unset, .unset, .unset] [(.int (1 : Int32)), (.ref b3)])) rfl rfl (hb hby at_52) _ k) ?_
      show OGot p.tables e below (T13.setTop (mkF m 53 #[.val (.int p1), .val (.int p2), .val (.ref b3), .val (.int (1 : Int32)), .val (.int (4 : Int32)), .unset, .unset, .unset, .unset] [(.ref w_RUNNING)])) _
      refine OGot.go (fun t k => XS.astore X13.here hx rfl (hb hby at_53) rfl rfl (l' := #[.val (.int p1), .val (.int p2), .val (.ref b3), .val (.int (1 : Int32)), .val (.int (4 : Int32)), .val (.ref w_RUNNING), .unset, .unset, .unset]) rfl k) ?_
      show OGot p.tables e below (T13.setTop (mkF m 55 #[.val (.int p1), .val (.int p2), .val (.ref b3), .val (.int (1 : Int32)), .val (.int (4 : Int32)), .val (.ref w_RUNNING), .unset, .unset, .unset] [])) _
      refine OGot.go (fun t k => XS.aloadN X13.here hx rfl (hb hby at_55) rfl rfl k) ?_
      show OGot p.tables e below (T13.setTop (mkF m 56 #[.val (.int p1), .val (.int p2), .val (.ref b3), .val (.int (1 : Int32)), .val (.int (4 : Int32)), .val (.ref w_RUNNING), .unset, .unset, .unset] [(.ref b3)])) _
      refine OGot.go (fun t k => XS.iload X13.here hx rfl (hb hby at_56) rfl k) ?_
      show OGot p.tables e below (T13.setTop (mkF m 58 #[.val (.int p1), .val (.int p2), .val (.ref b3), .val (.int (1 : Int32)), .val (.int (4 : Int32)), .val (.ref w_RUNNING), .unset, .unset, .unset] [(.int (4 : Int32)), (.ref b3)])) _
      obtain ⟨cl57, Ar57, qc57, Sz57, Ng57, Hh57, Gg57⟩ := id (Va13)
      have hin57 : ¬ ((4 : Int32) < 0 ∨ cl57.slots.size ≤ ((4 : Int32)).toNatClampNeg) := inb_of Sz57 ⟨by decide, by decide⟩
      have hat57 : cl57.slots[((4 : Int32)).toNatClampNeg]? = some (.ref w_CANCELLED) := Hh57.at hin57 rfl
      refine OGot.go (fun t k => X13.aaload hx (j := (4 : Int32)) (v := (.ref w_CANCELLED)) (by rw [e13]; exact Ar57.1) (State.isArrayOf_alike hZ.alike Ar57.2.1) rfl Ar57.2.2 hin57 hat57 (g := (mkF m 58 #[.val (.int p1), .val (.int p2), .val (.ref b3), .val (.int (1 : Int32)), .val (.int (4 : Int32)), .val (.ref w_RUNNING), .unset, .unset, .unset] [(.int (4 : Int32)), (.ref b3)])) rfl rfl (hb hby at_58) _ k) ?_
      show OGot p.tables e below (T13.setTop (mkF m 59 #[.val (.int p1), .val (.int p2), .val (.ref b3), .val (.int (1 : Int32)), .val (.int (4 : Int32)), .val (.ref w_RUNNING), .unset, .unset, .unset] [(.ref w_CANCELLED)])) _
      refine OGot.go (fun t k => XS.astore X13.here hx rfl (hb hby at_59) rfl rfl (l' := #[.val (.int p1), .val (.int p2), .val (.ref b3), .val (.int (1 : Int32)), .val (.int (4 : Int32)), .val (.ref w_RUNNING), .val (.ref w_CANCELLED), .unset, .unset]) rfl k) ?_
      show OGot p.tables e below (T13.setTop (mkF m 61 #[.val (.int p1), .val (.int p2), .val (.ref b3), .val (.int (1 : Int32)), .val (.int (4 : Int32)), .val (.ref w_RUNNING), .val (.ref w_CANCELLED), .unset, .unset] [])) _
      refine OGot.go (fun t k => XS.iloadN X13.here hx rfl (hb hby at_61) rfl k) ?_
      show OGot p.tables e below (T13.setTop (mkF m 62 #[.val (.int p1), .val (.int p2), .val (.ref b3), .val (.int (1 : Int32)), .val (.int (4 : Int32)), .val (.ref w_RUNNING), .val (.ref w_CANCELLED), .unset, .unset] [(.int (1 : Int32))])) _
      refine OGot.go (fun t k => XS.ifNo X13.here hx rfl (hb hby at_62) rfl (by decide) k) ?_
      show OGot p.tables e below (T13.setTop (mkF m 65 #[.val (.int p1), .val (.int p2), .val (.ref b3), .val (.int (1 : Int32)), .val (.int (4 : Int32)), .val (.ref w_RUNNING), .val (.ref w_CANCELLED), .unset, .unset] [])) _
      refine OGot.go (fun t k => XS.iloadN X13.here hx rfl (hb hby at_65) rfl k) ?_
      show OGot p.tables e below (T13.setTop (mkF m 66 #[.val (.int p1), .val (.int p2), .val (.ref b3), .val (.int (1 : Int32)), .val (.int (4 : Int32)), .val (.ref w_RUNNING), .val (.ref w_CANCELLED), .unset, .unset] [(.int (1 : Int32))])) _
      refine OGot.go (fun t k => XS.iconst X13.here hx rfl (hb hby at_66) k) ?_
      show OGot p.tables e below (T13.setTop (mkF m 67 #[.val (.int p1), .val (.int p2), .val (.ref b3), .val (.int (1 : Int32)), .val (.int (4 : Int32)), .val (.ref w_RUNNING), .val (.ref w_CANCELLED), .unset, .unset] [(.int (1 : Int32)), (.int (1 : Int32))])) _
      refine OGot.go (fun t k => XS.icmpYes X13.here hx rfl (pc0 := 67) (pc' := 74) rfl (hb hby at_67) rfl (by decide) (by decide) (by decide) k) ?_
      show OGot p.tables e below (T13.setTop (mkF m 74 #[.val (.int p1), .val (.int p2), .val (.ref b3), .val (.int (1 : Int32)), .val (.int (4 : Int32)), .val (.ref w_RUNNING), .val (.ref w_CANCELLED), .unset, .unset] [])) _
      refine OGot.go (fun t k => XS.iconst X13.here hx rfl (hb hby at_74) k) ?_
      show OGot p.tables e below (T13.setTop (mkF m 75 #[.val (.int p1), .val (.int p2), .val (.ref b3), .val (.int (1 : Int32)), .val (.int (4 : Int32)), .val (.ref w_RUNNING), .val (.ref w_CANCELLED), .unset, .unset] [(.int (0 : Int32))])) _
      refine OGot.go (fun t k => XS.istore X13.here hx rfl (hb hby at_75) rfl (l' := #[.val (.int p1), .val (.int p2), .val (.ref b3), .val (.int (1 : Int32)), .val (.int (4 : Int32)), .val (.ref w_RUNNING), .val (.ref w_CANCELLED), .val (.int (0 : Int32)), .unset]) rfl k) ?_
      show OGot p.tables e below (T13.setTop (mkF m 77 #[.val (.int p1), .val (.int p2), .val (.ref b3), .val (.int (1 : Int32)), .val (.int (4 : Int32)), .val (.ref w_RUNNING), .val (.ref w_CANCELLED), .val (.int (0 : Int32)), .unset] [])) _
      refine OGot.go (fun t k => XS.aload X13.here hx rfl (hb hby at_77) rfl rfl k) ?_
      show OGot p.tables e below (T13.setTop (mkF m 79 #[.val (.int p1), .val (.int p2), .val (.ref b3), .val (.int (1 : Int32)), .val (.int (4 : Int32)), .val (.ref w_RUNNING), .val (.ref w_CANCELLED), .val (.int (0 : Int32)), .unset] [(.ref w_RUNNING)])) _
      obtain ⟨cq58, kq58, q58a, q58b, q58c⟩ := isOf hZ e13 (G.2.2.2.1.ext O13.2)
      obtain ⟨_, _, ⟨T58, L58, k58, n58⟩, -, X58, ⟨Lc58, hQ58, l58, y58, z58⟩, st58⟩ := X13.virtualBack hx (y := (⟨"com/example/hermit_crab/hermitcrab/JobState", "isFinal", "()Z"⟩ : MethodName)) (z := (⟨"com/example/hermit_crab/hermitcrab/JobState", "isFinal", "()Z"⟩ : MethodName)) hown (mvT hZ (ow hw 15 rfl)) (mvT hZ (ow hw 16 rfl)) (notFace_of_selects (args := #[]) (mvT hZ (ow hw 18 rfl))) (mvT hZ (ow hw 18 rfl)) (mvT hZ (ow hw 17 rfl)) (by decide) (backOf (W := 0) (rm1_1 l Z a0 hw [] G  h13 n0 O13 ) hZ (ow hw 19 rfl) (ow hw 3 rfl) (by decide) (by decide)) q58a q58c (g := (mkF m 79 #[.val (.int p1), .val (.int p2), .val (.ref b3), .val (.int (1 : Int32)), .val (.int (4 : Int32)), .val (.ref w_RUNNING), .val (.ref w_CANCELLED), .val (.int (0 : Int32)), .unset] [(.ref w_RUNNING)])) rfl (by rw [hml]; rfl) (Steps.refl _) (argsL := []) (rest := []) (lenOf pd_0 rfl) rfl (by show 2 * 0 + _ ≤ _; exact Nat.le_of_eq rfl) (hb hby at_79) (fun _ _ => ⟨rfl, e13, (by decide : 1 + 0 ≤ _), (by decide : 5 + 0 ≤ _)⟩)
      dsimp only [Pt.U, Pt.locs, Pt.cells, Pt.slots] at X58 l58 y58 z58 st58 hQ58
      subst l58 y58 z58
      obtain ⟨rfl, N58q, e58⟩ := hQ58
      have N58 := Fr.app N13 N58q
      refine OGot.on st58 ?_
      show OGot p.tables e below (T58.setTop (mkF m 82 #[.val (.int p1), .val (.int p2), .val (.ref b3), .val (.int (1 : Int32)), .val (.int (4 : Int32)), .val (.ref w_RUNNING), .val (.ref w_CANCELLED), .val (.int (0 : Int32)), .unset] [(.int (0 : Int32))])) _
      refine OGot.go (fun t k => XS.istore X58.here hx rfl (hb hby at_82) rfl (l' := #[.val (.int p1), .val (.int p2), .val (.ref b3), .val (.int (1 : Int32)), .val (.int (4 : Int32)), .val (.ref w_RUNNING), .val (.ref w_CANCELLED), .val (.int (0 : Int32)), .val (.int (0 : Int32))]) rfl k) ?_
      show OGot p.tables e below (T58.setTop (mkF m 84 #[.val (.int p1), .val (.int p2), .val (.ref b3), .val (.int (1 : Int32)), .val (.int (4 : Int32)), .val (.ref w_RUNNING), .val (.ref w_CANCELLED), .val (.int (0 : Int32)), .val (.int (0 : Int32))] [])) _
      refine OGot.go (fun t k => XS.iload X58.here hx rfl (hb hby at_84) rfl k) ?_
      show OGot p.tables e below (T58.setTop (mkF m 86 #[.val (.int p1), .val (.int p2), .val (.ref b3), .val (.int (1 : Int32)), .val (.int (4 : Int32)), .val (.ref w_RUNNING), .val (.ref w_CANCELLED), .val (.int (0 : Int32)), .val (.int (0 : Int32))] [(.int (0 : Int32))])) _
      refine OGot.go (fun t k => XS.iload X58.here hx rfl (hb hby at_86) rfl k) ?_
      show OGot p.tables e below (T58.setTop (mkF m 88 #[.val (.int p1), .val (.int p2), .val (.ref b3), .val (.int (1 : Int32)), .val (.int (4 : Int32)), .val (.ref w_RUNNING), .val (.ref w_CANCELLED), .val (.int (0 : Int32)), .val (.int (0 : Int32))] [(.int (0 : Int32)), (.int (0 : Int32))])) _
      refine OGot.go (fun t k => XS.icmpYes X58.here hx rfl (pc0 := 88) (pc' := 93) rfl (hb hby at_88) rfl (by decide) (by decide) (by decide) k) ?_
      show OGot p.tables e below (T58.setTop (mkF m 93 #[.val (.int p1), .val (.int p2), .val (.ref b3), .val (.int (1 : Int32)), .val (.int (4 : Int32)), .val (.ref w_RUNNING), .val (.ref w_CANCELLED), .val (.int (0 : Int32)), .val (.int (0 : Int32))] [])) _
      refine OGot.go (fun t k => XS.iload X58.here hx rfl (hb hby at_93) rfl k) ?_
      show OGot p.tables e below (T58.setTop (mkF m 95 #[.val (.int p1), .val (.int p2), .val (.ref b3), .val (.int (1 : Int32)), .val (.int (4 : Int32)), .val (.ref w_RUNNING), .val (.ref w_CANCELLED), .val (.int (0 : Int32)), .val (.int (0 : Int32))] [(.int (0 : Int32))])) _
      refine OGot.go (fun t k => XS.ifYes X58.here hx rfl (pc0 := 95) (pc' := 124) rfl (hb hby at_95) rfl (by decide) (by decide) (by decide) k) ?_
      show OGot p.tables e below (T58.setTop (mkF m 124 #[.val (.int p1), .val (.int p2), .val (.ref b3), .val (.int (1 : Int32)), .val (.int (4 : Int32)), .val (.ref w_RUNNING), .val (.ref w_CANCELLED), .val (.int (0 : Int32)), .val (.int (0 : Int32))] [])) _
      refine OGot.go (fun t k => XS.iconst X58.here hx rfl (hb hby at_124) k) ?_
      show OGot p.tables e below (T58.setTop (mkF m 125 #[.val (.int p1), .val (.int p2), .val (.ref b3), .val (.int (1 : Int32)), .val (.int (4 : Int32)), .val (.ref w_RUNNING), .val (.ref w_CANCELLED), .val (.int (0 : Int32)), .val (.int (0 : Int32))] [(.int (1 : Int32))])) _
      obtain ⟨fs, hr, hrun, hended, hW, hsame⟩ := X58.leave (v := some (.int (1 : Int32))) (fun h => by rw [Bd.returns] at h; cases h)
      refine ⟨_, _, retN X58 hx (t := .boolean) Bd.returns (by simp) (hb hby at_125) hr, hrun, hended, _, _, rfl, ?_, ⟨_, rfl⟩, hW, hsame.mono (by decide) (by decide)⟩
      exact (⟨rfl, N58⟩ : Q0 Z w_PENDING w_RUNNING w_COMPLETED w_FAILED w_CANCELLED p1 p2 h0 n0 _ T58.heap _)
  · rw [hk16]
    show OGot p.tables e below (T13.setTop (mkF m 41 #[.val (.int p1), .val (.int p2), .val (.ref b3), .unset, .unset, .unset, .unset, .unset, .unset] [(.int (2 : Int32))])) _
    refine OGot.go (fun t k => XS.istoreN X13.here hx rfl (hb hby at_41) rfl (l' := #[.val (.int p1), .val (.int p2), .val (.ref b3), .val (.int (2 : Int32)), .unset, .unset, .unset, .unset, .unset]) rfl k) ?_
    show OGot p.tables e below (T13.setTop (mkF m 42 #[.val (.int p1), .val (.int p2), .val (.ref b3), .val (.int (2 : Int32)), .unset, .unset, .unset, .unset, .unset] [])) _
    refine OGot.go (fun t k => XS.iloadN X13.here hx rfl (hb hby at_42) rfl k) ?_
    show OGot p.tables e below (T13.setTop (mkF m 43 #[.val (.int p1), .val (.int p2), .val (.ref b3), .val (.int (2 : Int32)), .unset, .unset, .unset, .unset, .unset] [(.int p2)])) _
    refine OGot.go (fun t k => X13.ldcInt hx hown (mvT hZ (ow hw 14 rfl)) (g := (mkF m 43 #[.val (.int p1), .val (.int p2), .val (.ref b3), .val (.int (2 : Int32)), .unset, .unset, .unset, .unset, .unset] [(.int p2)])) rfl (hb hby at_43) _ k) ?_
    show OGot p.tables e below (T13.setTop (mkF m 45 #[.val (.int p1), .val (.int p2), .val (.ref b3), .val (.int (2 : Int32)), .unset, .unset, .unset, .unset, .unset] [(.int (2147483647 : Int32)), (.int p2)])) _
    refine OGot.go (fun t k => XS.iand X13.here hx rfl (hb hby at_45) rfl k) ?_
    show OGot p.tables e below (T13.setTop (mkF m 46 #[.val (.int p1), .val (.int p2), .val (.ref b3), .val (.int (2 : Int32)), .unset, .unset, .unset, .unset, .unset] [(.int (p2 &&& (2147483647 : Int32)))])) _
    refine OGot.go (fun t k => XS.iconst X13.here hx rfl (hb hby at_46) k) ?_
    show OGot p.tables e below (T13.setTop (mkF m 47 #[.val (.int p1), .val (.int p2), .val (.ref b3), .val (.int (2 : Int32)), .unset, .unset, .unset, .unset, .unset] [(.int (5 : Int32)), (.int (p2 &&& (2147483647 : Int32)))])) _
    refine OGot.go (fun t k => iremM X13 hx rfl (hb hby at_47) rfl (by decide) k) ?_
    show OGot p.tables e below (T13.setTop (mkF m 48 #[.val (.int p1), .val (.int p2), .val (.ref b3), .val (.int (2 : Int32)), .unset, .unset, .unset, .unset, .unset] [(.int ((p2 &&& (2147483647 : Int32)) % (5 : Int32)))])) _
    rcases own_rem5 p2 with hk59 | hk60 | hk61 | hk62 | hk63
    · rw [hk59]
      show OGot p.tables e below (T13.setTop (mkF m 48 #[.val (.int p1), .val (.int p2), .val (.ref b3), .val (.int (2 : Int32)), .unset, .unset, .unset, .unset, .unset] [(.int (0 : Int32))])) _
      refine OGot.go (fun t k => XS.istore X13.here hx rfl (hb hby at_48) rfl (l' := #[.val (.int p1), .val (.int p2), .val (.ref b3), .val (.int (2 : Int32)), .val (.int (0 : Int32)), .unset, .unset, .unset, .unset]) rfl k) ?_
      show OGot p.tables e below (T13.setTop (mkF m 50 #[.val (.int p1), .val (.int p2), .val (.ref b3), .val (.int (2 : Int32)), .val (.int (0 : Int32)), .unset, .unset, .unset, .unset] [])) _
      refine OGot.go (fun t k => XS.aloadN X13.here hx rfl (hb hby at_50) rfl rfl k) ?_
      show OGot p.tables e below (T13.setTop (mkF m 51 #[.val (.int p1), .val (.int p2), .val (.ref b3), .val (.int (2 : Int32)), .val (.int (0 : Int32)), .unset, .unset, .unset, .unset] [(.ref b3)])) _
      refine OGot.go (fun t k => XS.iloadN X13.here hx rfl (hb hby at_51) rfl k) ?_
      show OGot p.tables e below (T13.setTop (mkF m 52 #[.val (.int p1), .val (.int p2), .val (.ref b3), .val (.int (2 : Int32)), .val (.int (0 : Int32)), .unset, .unset, .unset, .unset] [(.int (2 : Int32)), (.ref b3)])) _
      obtain ⟨cl64, Ar64, qc64, Sz64, Ng64, Hh64, Gg64⟩ := id (Va13)
      have hin64 : ¬ ((2 : Int32) < 0 ∨ cl64.slots.size ≤ ((2 : Int32)).toNatClampNeg) := inb_of Sz64 ⟨by decide, by decide⟩
      have hat64 : cl64.slots[((2 : Int32)).toNatClampNeg]? = some (.ref w_COMPLETED) := Hh64.at hin64 rfl
      refine OGot.go (fun t k => X13.aaload hx (j := (2 : Int32)) (v := (.ref w_COMPLETED)) (by rw [e13]; exact Ar64.1) (State.isArrayOf_alike hZ.alike Ar64.2.1) rfl Ar64.2.2 hin64 hat64 (g := (mkF m 52 #[.val (.int p1), .val (.int p2), .val (.ref b3), .val (.int (2 : Int32)), .val (.int (0 : Int32)), .unset, .unset, .unset, .unset] [(.int (2 : Int32)), (.ref b3)])) rfl rfl (hb hby at_52) _ k) ?_
      show OGot p.tables e below (T13.setTop (mkF m 53 #[.val (.int p1), .val (.int p2), .val (.ref b3), .val (.int (2 : Int32)), .val (.int (0 : Int32)), .unset, .unset, .unset, .unset] [(.ref w_COMPLETED)])) _
      refine OGot.go (fun t k => XS.astore X13.here hx rfl (hb hby at_53) rfl rfl (l' := #[.val (.int p1), .val (.int p2), .val (.ref b3), .val (.int (2 : Int32)), .val (.int (0 : Int32)), .val (.ref w_COMPLETED), .unset, .unset, .unset]) rfl k) ?_
      show OGot p.tables e below (T13.setTop (mkF m 55 #[.val (.int p1), .val (.int p2), .val (.ref b3), .val (.int (2 : Int32)), .val (.int (0 : Int32)), .val (.ref w_COMPLETED), .unset, .unset, .unset] [])) _
      refine OGot.go (fun t k => XS.aloadN X13.here hx rfl (hb hby at_55) rfl rfl k) ?_
      show OGot p.tables e below (T13.setTop (mkF m 56 #[.val (.int p1), .val (.int p2), .val (.ref b3), .val (.int (2 : Int32)), .val (.int (0 : Int32)), .val (.ref w_COMPLETED), .unset, .unset, .unset] [(.ref b3)])) _
      refine OGot.go (fun t k => XS.iload X13.here hx rfl (hb hby at_56) rfl k) ?_
      show OGot p.tables e below (T13.setTop (mkF m 58 #[.val (.int p1), .val (.int p2), .val (.ref b3), .val (.int (2 : Int32)), .val (.int (0 : Int32)), .val (.ref w_COMPLETED), .unset, .unset, .unset] [(.int (0 : Int32)), (.ref b3)])) _
      obtain ⟨cl65, Ar65, qc65, Sz65, Ng65, Hh65, Gg65⟩ := id (Va13)
      have hin65 : ¬ ((0 : Int32) < 0 ∨ cl65.slots.size ≤ ((0 : Int32)).toNatClampNeg) := inb_of Sz65 ⟨by decide, by decide⟩
      have hat65 : cl65.slots[((0 : Int32)).toNatClampNeg]? = some (.ref w_PENDING) := Hh65.at hin65 rfl
      refine OGot.go (fun t k => X13.aaload hx (j := (0 : Int32)) (v := (.ref w_PENDING)) (by rw [e13]; exact Ar65.1) (State.isArrayOf_alike hZ.alike Ar65.2.1) rfl Ar65.2.2 hin65 hat65 (g := (mkF m 58 #[.val (.int p1), .val (.int p2), .val (.ref b3), .val (.int (2 : Int32)), .val (.int (0 : Int32)), .val (.ref w_COMPLETED), .unset, .unset, .unset] [(.int (0 : Int32)), (.ref b3)])) rfl rfl (hb hby at_58) _ k) ?_
      show OGot p.tables e below (T13.setTop (mkF m 59 #[.val (.int p1), .val (.int p2), .val (.ref b3), .val (.int (2 : Int32)), .val (.int (0 : Int32)), .val (.ref w_COMPLETED), .unset, .unset, .unset] [(.ref w_PENDING)])) _
      refine OGot.go (fun t k => XS.astore X13.here hx rfl (hb hby at_59) rfl rfl (l' := #[.val (.int p1), .val (.int p2), .val (.ref b3), .val (.int (2 : Int32)), .val (.int (0 : Int32)), .val (.ref w_COMPLETED), .val (.ref w_PENDING), .unset, .unset]) rfl k) ?_
      show OGot p.tables e below (T13.setTop (mkF m 61 #[.val (.int p1), .val (.int p2), .val (.ref b3), .val (.int (2 : Int32)), .val (.int (0 : Int32)), .val (.ref w_COMPLETED), .val (.ref w_PENDING), .unset, .unset] [])) _
      refine OGot.go (fun t k => XS.iloadN X13.here hx rfl (hb hby at_61) rfl k) ?_
      show OGot p.tables e below (T13.setTop (mkF m 62 #[.val (.int p1), .val (.int p2), .val (.ref b3), .val (.int (2 : Int32)), .val (.int (0 : Int32)), .val (.ref w_COMPLETED), .val (.ref w_PENDING), .unset, .unset] [(.int (2 : Int32))])) _
      refine OGot.go (fun t k => XS.ifNo X13.here hx rfl (hb hby at_62) rfl (by decide) k) ?_
      show OGot p.tables e below (T13.setTop (mkF m 65 #[.val (.int p1), .val (.int p2), .val (.ref b3), .val (.int (2 : Int32)), .val (.int (0 : Int32)), .val (.ref w_COMPLETED), .val (.ref w_PENDING), .unset, .unset] [])) _
      refine OGot.go (fun t k => XS.iloadN X13.here hx rfl (hb hby at_65) rfl k) ?_
      show OGot p.tables e below (T13.setTop (mkF m 66 #[.val (.int p1), .val (.int p2), .val (.ref b3), .val (.int (2 : Int32)), .val (.int (0 : Int32)), .val (.ref w_COMPLETED), .val (.ref w_PENDING), .unset, .unset] [(.int (2 : Int32))])) _
      refine OGot.go (fun t k => XS.iconst X13.here hx rfl (hb hby at_66) k) ?_
      show OGot p.tables e below (T13.setTop (mkF m 67 #[.val (.int p1), .val (.int p2), .val (.ref b3), .val (.int (2 : Int32)), .val (.int (0 : Int32)), .val (.ref w_COMPLETED), .val (.ref w_PENDING), .unset, .unset] [(.int (1 : Int32)), (.int (2 : Int32))])) _
      refine OGot.go (fun t k => XS.icmpNo X13.here hx rfl (hb hby at_67) rfl (by decide) k) ?_
      show OGot p.tables e below (T13.setTop (mkF m 70 #[.val (.int p1), .val (.int p2), .val (.ref b3), .val (.int (2 : Int32)), .val (.int (0 : Int32)), .val (.ref w_COMPLETED), .val (.ref w_PENDING), .unset, .unset] [])) _
      refine OGot.go (fun t k => XS.iconst X13.here hx rfl (hb hby at_70) k) ?_
      show OGot p.tables e below (T13.setTop (mkF m 71 #[.val (.int p1), .val (.int p2), .val (.ref b3), .val (.int (2 : Int32)), .val (.int (0 : Int32)), .val (.ref w_COMPLETED), .val (.ref w_PENDING), .unset, .unset] [(.int (1 : Int32))])) _
      refine OGot.go (fun t k => XS.goto X13.here hx rfl (pc0 := 71) (pc' := 75) rfl (hb hby at_71) (by decide) (by decide) k) ?_
      show OGot p.tables e below (T13.setTop (mkF m 75 #[.val (.int p1), .val (.int p2), .val (.ref b3), .val (.int (2 : Int32)), .val (.int (0 : Int32)), .val (.ref w_COMPLETED), .val (.ref w_PENDING), .unset, .unset] [(.int (1 : Int32))])) _
      refine OGot.go (fun t k => XS.istore X13.here hx rfl (hb hby at_75) rfl (l' := #[.val (.int p1), .val (.int p2), .val (.ref b3), .val (.int (2 : Int32)), .val (.int (0 : Int32)), .val (.ref w_COMPLETED), .val (.ref w_PENDING), .val (.int (1 : Int32)), .unset]) rfl k) ?_
      show OGot p.tables e below (T13.setTop (mkF m 77 #[.val (.int p1), .val (.int p2), .val (.ref b3), .val (.int (2 : Int32)), .val (.int (0 : Int32)), .val (.ref w_COMPLETED), .val (.ref w_PENDING), .val (.int (1 : Int32)), .unset] [])) _
      refine OGot.go (fun t k => XS.aload X13.here hx rfl (hb hby at_77) rfl rfl k) ?_
      show OGot p.tables e below (T13.setTop (mkF m 79 #[.val (.int p1), .val (.int p2), .val (.ref b3), .val (.int (2 : Int32)), .val (.int (0 : Int32)), .val (.ref w_COMPLETED), .val (.ref w_PENDING), .val (.int (1 : Int32)), .unset] [(.ref w_COMPLETED)])) _
      obtain ⟨cq66, kq66, q66a, q66b, q66c⟩ := isOf hZ e13 (G.2.2.2.2.2.1.ext O13.2)
      obtain ⟨_, _, ⟨T66, L66, k66, n66⟩, -, X66, ⟨Lc66, hQ66, l66, y66, z66⟩, st66⟩ := X13.virtualBack hx (y := (⟨"com/example/hermit_crab/hermitcrab/JobState", "isFinal", "()Z"⟩ : MethodName)) (z := (⟨"com/example/hermit_crab/hermitcrab/JobState", "isFinal", "()Z"⟩ : MethodName)) hown (mvT hZ (ow hw 15 rfl)) (mvT hZ (ow hw 16 rfl)) (notFace_of_selects (args := #[]) (mvT hZ (ow hw 18 rfl))) (mvT hZ (ow hw 18 rfl)) (mvT hZ (ow hw 17 rfl)) (by decide) (backOf (W := 0) (rm1_2 l Z a0 hw [] G  h13 n0 O13 ) hZ (ow hw 19 rfl) (ow hw 3 rfl) (by decide) (by decide)) q66a q66c (g := (mkF m 79 #[.val (.int p1), .val (.int p2), .val (.ref b3), .val (.int (2 : Int32)), .val (.int (0 : Int32)), .val (.ref w_COMPLETED), .val (.ref w_PENDING), .val (.int (1 : Int32)), .unset] [(.ref w_COMPLETED)])) rfl (by rw [hml]; rfl) (Steps.refl _) (argsL := []) (rest := []) (lenOf pd_0 rfl) rfl (by show 2 * 0 + _ ≤ _; exact Nat.le_of_eq rfl) (hb hby at_79) (fun _ _ => ⟨rfl, e13, (by decide : 1 + 0 ≤ _), (by decide : 5 + 0 ≤ _)⟩)
      dsimp only [Pt.U, Pt.locs, Pt.cells, Pt.slots] at X66 l66 y66 z66 st66 hQ66
      subst l66 y66 z66
      obtain ⟨rfl, N66q, e66⟩ := hQ66
      have N66 := Fr.app N13 N66q
      refine OGot.on st66 ?_
      show OGot p.tables e below (T66.setTop (mkF m 82 #[.val (.int p1), .val (.int p2), .val (.ref b3), .val (.int (2 : Int32)), .val (.int (0 : Int32)), .val (.ref w_COMPLETED), .val (.ref w_PENDING), .val (.int (1 : Int32)), .unset] [(.int (1 : Int32))])) _
      refine OGot.go (fun t k => XS.istore X66.here hx rfl (hb hby at_82) rfl (l' := #[.val (.int p1), .val (.int p2), .val (.ref b3), .val (.int (2 : Int32)), .val (.int (0 : Int32)), .val (.ref w_COMPLETED), .val (.ref w_PENDING), .val (.int (1 : Int32)), .val (.int (1 : Int32))]) rfl k) ?_
      show OGot p.tables e below (T66.setTop (mkF m 84 #[.val (.int p1), .val (.int p2), .val (.ref b3), .val (.int (2 : Int32)), .val (.int (0 : Int32)), .val (.ref w_COMPLETED), .val (.ref w_PENDING), .val (.int (1 : Int32)), .val (.int (1 : Int32))] [])) _
      refine OGot.go (fun t k => XS.iload X66.here hx rfl (hb hby at_84) rfl k) ?_
      show OGot p.tables e below (T66.setTop (mkF m 86 #[.val (.int p1), .val (.int p2), .val (.ref b3), .val (.int (2 : Int32)), .val (.int (0 : Int32)), .val (.ref w_COMPLETED), .val (.ref w_PENDING), .val (.int (1 : Int32)), .val (.int (1 : Int32))] [(.int (1 : Int32))])) _
      refine OGot.go (fun t k => XS.iload X66.here hx rfl (hb hby at_86) rfl k) ?_
      show OGot p.tables e below (T66.setTop (mkF m 88 #[.val (.int p1), .val (.int p2), .val (.ref b3), .val (.int (2 : Int32)), .val (.int (0 : Int32)), .val (.ref w_COMPLETED), .val (.ref w_PENDING), .val (.int (1 : Int32)), .val (.int (1 : Int32))] [(.int (1 : Int32)), (.int (1 : Int32))])) _
      refine OGot.go (fun t k => XS.icmpYes X66.here hx rfl (pc0 := 88) (pc' := 93) rfl (hb hby at_88) rfl (by decide) (by decide) (by decide) k) ?_
      show OGot p.tables e below (T66.setTop (mkF m 93 #[.val (.int p1), .val (.int p2), .val (.ref b3), .val (.int (2 : Int32)), .val (.int (0 : Int32)), .val (.ref w_COMPLETED), .val (.ref w_PENDING), .val (.int (1 : Int32)), .val (.int (1 : Int32))] [])) _
      refine OGot.go (fun t k => XS.iload X66.here hx rfl (hb hby at_93) rfl k) ?_
      show OGot p.tables e below (T66.setTop (mkF m 95 #[.val (.int p1), .val (.int p2), .val (.ref b3), .val (.int (2 : Int32)), .val (.int (0 : Int32)), .val (.ref w_COMPLETED), .val (.ref w_PENDING), .val (.int (1 : Int32)), .val (.int (1 : Int32))] [(.int (1 : Int32))])) _
      refine OGot.go (fun t k => XS.ifNo X66.here hx rfl (hb hby at_95) rfl (by decide) k) ?_
      show OGot p.tables e below (T66.setTop (mkF m 98 #[.val (.int p1), .val (.int p2), .val (.ref b3), .val (.int (2 : Int32)), .val (.int (0 : Int32)), .val (.ref w_COMPLETED), .val (.ref w_PENDING), .val (.int (1 : Int32)), .val (.int (1 : Int32))] [])) _
      refine OGot.go (fun t k => XS.aload X66.here hx rfl (hb hby at_98) rfl rfl k) ?_
      show OGot p.tables e below (T66.setTop (mkF m 100 #[.val (.int p1), .val (.int p2), .val (.ref b3), .val (.int (2 : Int32)), .val (.int (0 : Int32)), .val (.ref w_COMPLETED), .val (.ref w_PENDING), .val (.int (1 : Int32)), .val (.int (1 : Int32))] [(.ref w_COMPLETED)])) _
      refine OGot.go (fun t k => XS.aload X66.here hx rfl (hb hby at_100) rfl rfl k) ?_
      show OGot p.tables e below (T66.setTop (mkF m 102 #[.val (.int p1), .val (.int p2), .val (.ref b3), .val (.int (2 : Int32)), .val (.int (0 : Int32)), .val (.ref w_COMPLETED), .val (.ref w_PENDING), .val (.int (1 : Int32)), .val (.int (1 : Int32))] [(.ref w_PENDING), (.ref w_COMPLETED)])) _
      obtain ⟨cq67, kq67, q67a, q67b, q67c⟩ := isOf hZ e66 (G.2.2.2.2.2.1.ext O13.2)
      obtain ⟨_, _, ⟨T67, L67, k67, n67⟩, -, X67, ⟨Lc67, hQ67, l67, y67, z67⟩, st67⟩ := X66.virtualBack hx (y := (⟨"com/example/hermit_crab/hermitcrab/JobState", "canMoveTo", "(Lcom/example/hermit_crab/hermitcrab/JobState;)Z"⟩ : MethodName)) (z := (⟨"com/example/hermit_crab/hermitcrab/JobState", "canMoveTo", "(Lcom/example/hermit_crab/hermitcrab/JobState;)Z"⟩ : MethodName)) hown (mvT hZ (ow hw 23 rfl)) (mvT hZ (ow hw 24 rfl)) (notFace_of_selects (args := #[]) (mvT hZ (ow hw 26 rfl))) (mvT hZ (ow hw 26 rfl)) (mvT hZ (ow hw 25 rfl)) (by decide) (backOf (W := 0) (rm2 l Z a0 hw [] G  h13 n0 O13 ) hZ (ow hw 27 rfl) (ow hw 3 rfl) (by decide) (by decide)) q67a q67c (g := (mkF m 102 #[.val (.int p1), .val (.int p2), .val (.ref b3), .val (.int (2 : Int32)), .val (.int (0 : Int32)), .val (.ref w_COMPLETED), .val (.ref w_PENDING), .val (.int (1 : Int32)), .val (.int (1 : Int32))] [(.ref w_PENDING), (.ref w_COMPLETED)])) rfl (by rw [hml]; rfl) (Steps.refl _) (argsL := [(.ref w_PENDING)]) (rest := []) (lenOf pd_2 rfl) rfl (by show 2 * 0 + _ ≤ _; exact Nat.le_of_eq rfl) (hb hby at_102) (fun _ _ => ⟨rfl, e66, (by decide : 1 + 0 ≤ _), (by decide : 5 + 0 ≤ _)⟩)
      dsimp only [Pt.U, Pt.locs, Pt.cells, Pt.slots] at X67 l67 y67 z67 st67 hQ67
      subst l67 y67 z67
      obtain ⟨rfl, N67q, e67⟩ := hQ67
      have N67 := Fr.app N66 N67q
      refine OGot.on st67 ?_
      show OGot p.tables e below (T67.setTop (mkF m 105 #[.val (.int p1), .val (.int p2), .val (.ref b3), .val (.int (2 : Int32)), .val (.int (0 : Int32)), .val (.ref w_COMPLETED), .val (.ref w_PENDING), .val (.int (1 : Int32)), .val (.int (1 : Int32))] [(.int (0 : Int32))])) _
      refine OGot.go (fun t k => XS.ifYes X67.here hx rfl (pc0 := 105) (pc' := 124) rfl (hb hby at_105) rfl (by decide) (by decide) (by decide) k) ?_
      show OGot p.tables e below (T67.setTop (mkF m 124 #[.val (.int p1), .val (.int p2), .val (.ref b3), .val (.int (2 : Int32)), .val (.int (0 : Int32)), .val (.ref w_COMPLETED), .val (.ref w_PENDING), .val (.int (1 : Int32)), .val (.int (1 : Int32))] [])) _
      refine OGot.go (fun t k => XS.iconst X67.here hx rfl (hb hby at_124) k) ?_
      show OGot p.tables e below (T67.setTop (mkF m 125 #[.val (.int p1), .val (.int p2), .val (.ref b3), .val (.int (2 : Int32)), .val (.int (0 : Int32)), .val (.ref w_COMPLETED), .val (.ref w_PENDING), .val (.int (1 : Int32)), .val (.int (1 : Int32))] [(.int (1 : Int32))])) _
      obtain ⟨fs, hr, hrun, hended, hW, hsame⟩ := X67.leave (v := some (.int (1 : Int32))) (fun h => by rw [Bd.returns] at h; cases h)
      refine ⟨_, _, retN X67 hx (t := .boolean) Bd.returns (by simp) (hb hby at_125) hr, hrun, hended, _, _, rfl, ?_, ⟨_, rfl⟩, hW, hsame.mono (by decide) (by decide)⟩
      exact (⟨rfl, N67⟩ : Q0 Z w_PENDING w_RUNNING w_COMPLETED w_FAILED w_CANCELLED p1 p2 h0 n0 _ T67.heap _)
    · rw [hk60]
      show OGot p.tables e below (T13.setTop (mkF m 48 #[.val (.int p1), .val (.int p2), .val (.ref b3), .val (.int (2 : Int32)), .unset, .unset, .unset, .unset, .unset] [(.int (1 : Int32))])) _
      refine OGot.go (fun t k => XS.istore X13.here hx rfl (hb hby at_48) rfl (l' := #[.val (.int p1), .val (.int p2), .val (.ref b3), .val (.int (2 : Int32)), .val (.int (1 : Int32)), .unset, .unset, .unset, .unset]) rfl k) ?_
      show OGot p.tables e below (T13.setTop (mkF m 50 #[.val (.int p1), .val (.int p2), .val (.ref b3), .val (.int (2 : Int32)), .val (.int (1 : Int32)), .unset, .unset, .unset, .unset] [])) _
      refine OGot.go (fun t k => XS.aloadN X13.here hx rfl (hb hby at_50) rfl rfl k) ?_
      show OGot p.tables e below (T13.setTop (mkF m 51 #[.val (.int p1), .val (.int p2), .val (.ref b3), .val (.int (2 : Int32)), .val (.int (1 : Int32)), .unset, .unset, .unset, .unset] [(.ref b3)])) _
      refine OGot.go (fun t k => XS.iloadN X13.here hx rfl (hb hby at_51) rfl k) ?_
      show OGot p.tables e below (T13.setTop (mkF m 52 #[.val (.int p1), .val (.int p2), .val (.ref b3), .val (.int (2 : Int32)), .val (.int (1 : Int32)), .unset, .unset, .unset, .unset] [(.int (2 : Int32)), (.ref b3)])) _
      obtain ⟨cl68, Ar68, qc68, Sz68, Ng68, Hh68, Gg68⟩ := id (Va13)
      have hin68 : ¬ ((2 : Int32) < 0 ∨ cl68.slots.size ≤ ((2 : Int32)).toNatClampNeg) := inb_of Sz68 ⟨by decide, by decide⟩
      have hat68 : cl68.slots[((2 : Int32)).toNatClampNeg]? = some (.ref w_COMPLETED) := Hh68.at hin68 rfl
      refine OGot.go (fun t k => X13.aaload hx (j := (2 : Int32)) (v := (.ref w_COMPLETED)) (by rw [e13]; exact Ar68.1) (State.isArrayOf_alike hZ.alike Ar68.2.1) rfl Ar68.2.2 hin68 hat68 (g := (mkF m 52 #[.val (.int p1), .val (.int p2), .val (.ref b3), .val (.int (2 : Int32)), .val (.int (1 : Int32)), .unset, .unset, .unset, .unset] [(.int (2 : Int32)), (.ref b3)])) rfl rfl (hb hby at_52) _ k) ?_
      show OGot p.tables e below (T13.setTop (mkF m 53 #[.val (.int p1), .val (.int p2), .val (.ref b3), .val (.int (2 : Int32)), .val (.int (1 : Int32)), .unset, .unset, .unset, .unset] [(.ref w_COMPLETED)])) _
      refine OGot.go (fun t k => XS.astore X13.here hx rfl (hb hby at_53) rfl rfl (l' := #[.val (.int p1), .val (.int p2), .val (.ref b3), .val (.int (2 : Int32)), .val (.int (1 : Int32)), .val (.ref w_COMPLETED), .unset, .unset, .unset]) rfl k) ?_
      show OGot p.tables e below (T13.setTop (mkF m 55 #[.val (.int p1), .val (.int p2), .val (.ref b3), .val (.int (2 : Int32)), .val (.int (1 : Int32)), .val (.ref w_COMPLETED), .unset, .unset, .unset] [])) _
      refine OGot.go (fun t k => XS.aloadN X13.here hx rfl (hb hby at_55) rfl rfl k) ?_
      show OGot p.tables e below (T13.setTop (mkF m 56 #[.val (.int p1), .val (.int p2), .val (.ref b3), .val (.int (2 : Int32)), .val (.int (1 : Int32)), .val (.ref w_COMPLETED), .unset, .unset, .unset] [(.ref b3)])) _
      refine OGot.go (fun t k => XS.iload X13.here hx rfl (hb hby at_56) rfl k) ?_
      show OGot p.tables e below (T13.setTop (mkF m 58 #[.val (.int p1), .val (.int p2), .val (.ref b3), .val (.int (2 : Int32)), .val (.int (1 : Int32)), .val (.ref w_COMPLETED), .unset, .unset, .unset] [(.int (1 : Int32)), (.ref b3)])) _
      obtain ⟨cl69, Ar69, qc69, Sz69, Ng69, Hh69, Gg69⟩ := id (Va13)
      have hin69 : ¬ ((1 : Int32) < 0 ∨ cl69.slots.size ≤ ((1 : Int32)).toNatClampNeg) := inb_of Sz69 ⟨by decide, by decide⟩
      have hat69 : cl69.slots[((1 : Int32)).toNatClampNeg]? = some (.ref w_RUNNING) := Hh69.at hin69 rfl
      refine OGot.go (fun t k => X13.aaload hx (j := (1 : Int32)) (v := (.ref w_RUNNING)) (by rw [e13]; exact Ar69.1) (State.isArrayOf_alike hZ.alike Ar69.2.1) rfl Ar69.2.2 hin69 hat69 (g := (mkF m 58 #[.val (.int p1), .val (.int p2), .val (.ref b3), .val (.int (2 : Int32)), .val (.int (1 : Int32)), .val (.ref w_COMPLETED), .unset, .unset, .unset] [(.int (1 : Int32)), (.ref b3)])) rfl rfl (hb hby at_58) _ k) ?_
      show OGot p.tables e below (T13.setTop (mkF m 59 #[.val (.int p1), .val (.int p2), .val (.ref b3), .val (.int (2 : Int32)), .val (.int (1 : Int32)), .val (.ref w_COMPLETED), .unset, .unset, .unset] [(.ref w_RUNNING)])) _
      refine OGot.go (fun t k => XS.astore X13.here hx rfl (hb hby at_59) rfl rfl (l' := #[.val (.int p1), .val (.int p2), .val (.ref b3), .val (.int (2 : Int32)), .val (.int (1 : Int32)), .val (.ref w_COMPLETED), .val (.ref w_RUNNING), .unset, .unset]) rfl k) ?_
      show OGot p.tables e below (T13.setTop (mkF m 61 #[.val (.int p1), .val (.int p2), .val (.ref b3), .val (.int (2 : Int32)), .val (.int (1 : Int32)), .val (.ref w_COMPLETED), .val (.ref w_RUNNING), .unset, .unset] [])) _
      refine OGot.go (fun t k => XS.iloadN X13.here hx rfl (hb hby at_61) rfl k) ?_
      show OGot p.tables e below (T13.setTop (mkF m 62 #[.val (.int p1), .val (.int p2), .val (.ref b3), .val (.int (2 : Int32)), .val (.int (1 : Int32)), .val (.ref w_COMPLETED), .val (.ref w_RUNNING), .unset, .unset] [(.int (2 : Int32))])) _
      refine OGot.go (fun t k => XS.ifNo X13.here hx rfl (hb hby at_62) rfl (by decide) k) ?_
      show OGot p.tables e below (T13.setTop (mkF m 65 #[.val (.int p1), .val (.int p2), .val (.ref b3), .val (.int (2 : Int32)), .val (.int (1 : Int32)), .val (.ref w_COMPLETED), .val (.ref w_RUNNING), .unset, .unset] [])) _
      refine OGot.go (fun t k => XS.iloadN X13.here hx rfl (hb hby at_65) rfl k) ?_
      show OGot p.tables e below (T13.setTop (mkF m 66 #[.val (.int p1), .val (.int p2), .val (.ref b3), .val (.int (2 : Int32)), .val (.int (1 : Int32)), .val (.ref w_COMPLETED), .val (.ref w_RUNNING), .unset, .unset] [(.int (2 : Int32))])) _
      refine OGot.go (fun t k => XS.iconst X13.here hx rfl (hb hby at_66) k) ?_
      show OGot p.tables e below (T13.setTop (mkF m 67 #[.val (.int p1), .val (.int p2), .val (.ref b3), .val (.int (2 : Int32)), .val (.int (1 : Int32)), .val (.ref w_COMPLETED), .val (.ref w_RUNNING), .unset, .unset] [(.int (1 : Int32)), (.int (2 : Int32))])) _
      refine OGot.go (fun t k => XS.icmpNo X13.here hx rfl (hb hby at_67) rfl (by decide) k) ?_
      show OGot p.tables e below (T13.setTop (mkF m 70 #[.val (.int p1), .val (.int p2), .val (.ref b3), .val (.int (2 : Int32)), .val (.int (1 : Int32)), .val (.ref w_COMPLETED), .val (.ref w_RUNNING), .unset, .unset] [])) _
      refine OGot.go (fun t k => XS.iconst X13.here hx rfl (hb hby at_70) k) ?_
      show OGot p.tables e below (T13.setTop (mkF m 71 #[.val (.int p1), .val (.int p2), .val (.ref b3), .val (.int (2 : Int32)), .val (.int (1 : Int32)), .val (.ref w_COMPLETED), .val (.ref w_RUNNING), .unset, .unset] [(.int (1 : Int32))])) _
      refine OGot.go (fun t k => XS.goto X13.here hx rfl (pc0 := 71) (pc' := 75) rfl (hb hby at_71) (by decide) (by decide) k) ?_
      show OGot p.tables e below (T13.setTop (mkF m 75 #[.val (.int p1), .val (.int p2), .val (.ref b3), .val (.int (2 : Int32)), .val (.int (1 : Int32)), .val (.ref w_COMPLETED), .val (.ref w_RUNNING), .unset, .unset] [(.int (1 : Int32))])) _
      refine OGot.go (fun t k => XS.istore X13.here hx rfl (hb hby at_75) rfl (l' := #[.val (.int p1), .val (.int p2), .val (.ref b3), .val (.int (2 : Int32)), .val (.int (1 : Int32)), .val (.ref w_COMPLETED), .val (.ref w_RUNNING), .val (.int (1 : Int32)), .unset]) rfl k) ?_
      show OGot p.tables e below (T13.setTop (mkF m 77 #[.val (.int p1), .val (.int p2), .val (.ref b3), .val (.int (2 : Int32)), .val (.int (1 : Int32)), .val (.ref w_COMPLETED), .val (.ref w_RUNNING), .val (.int (1 : Int32)), .unset] [])) _
      refine OGot.go (fun t k => XS.aload X13.here hx rfl (hb hby at_77) rfl rfl k) ?_
      show OGot p.tables e below (T13.setTop (mkF m 79 #[.val (.int p1), .val (.int p2), .val (.ref b3), .val (.int (2 : Int32)), .val (.int (1 : Int32)), .val (.ref w_COMPLETED), .val (.ref w_RUNNING), .val (.int (1 : Int32)), .unset] [(.ref w_COMPLETED)])) _
      obtain ⟨cq70, kq70, q70a, q70b, q70c⟩ := isOf hZ e13 (G.2.2.2.2.2.1.ext O13.2)
      obtain ⟨_, _, ⟨T70, L70, k70, n70⟩, -, X70, ⟨Lc70, hQ70, l70, y70, z70⟩, st70⟩ := X13.virtualBack hx (y := (⟨"com/example/hermit_crab/hermitcrab/JobState", "isFinal", "()Z"⟩ : MethodName)) (z := (⟨"com/example/hermit_crab/hermitcrab/JobState", "isFinal", "()Z"⟩ : MethodName)) hown (mvT hZ (ow hw 15 rfl)) (mvT hZ (ow hw 16 rfl)) (notFace_of_selects (args := #[]) (mvT hZ (ow hw 18 rfl))) (mvT hZ (ow hw 18 rfl)) (mvT hZ (ow hw 17 rfl)) (by decide) (backOf (W := 0) (rm1_2 l Z a0 hw [] G  h13 n0 O13 ) hZ (ow hw 19 rfl) (ow hw 3 rfl) (by decide) (by decide)) q70a q70c (g := (mkF m 79 #[.val (.int p1), .val (.int p2), .val (.ref b3), .val (.int (2 : Int32)), .val (.int (1 : Int32)), .val (.ref w_COMPLETED), .val (.ref w_RUNNING), .val (.int (1 : Int32)), .unset] [(.ref w_COMPLETED)])) rfl (by rw [hml]; rfl) (Steps.refl _) (argsL := []) (rest := []) (lenOf pd_0 rfl) rfl (by show 2 * 0 + _ ≤ _; exact Nat.le_of_eq rfl) (hb hby at_79) (fun _ _ => ⟨rfl, e13, (by decide : 1 + 0 ≤ _), (by decide : 5 + 0 ≤ _)⟩)
      dsimp only [Pt.U, Pt.locs, Pt.cells, Pt.slots] at X70 l70 y70 z70 st70 hQ70
      subst l70 y70 z70
      obtain ⟨rfl, N70q, e70⟩ := hQ70
      have N70 := Fr.app N13 N70q
      refine OGot.on st70 ?_
      show OGot p.tables e below (T70.setTop (mkF m 82 #[.val (.int p1), .val (.int p2), .val (.ref b3), .val (.int (2 : Int32)), .val (.int (1 : Int32)), .val (.ref w_COMPLETED), .val (.ref w_RUNNING), .val (.int (1 : Int32)), .unset] [(.int (1 : Int32))])) _
      refine OGot.go (fun t k => XS.istore X70.here hx rfl (hb hby at_82) rfl (l' := #[.val (.int p1), .val (.int p2), .val (.ref b3), .val (.int (2 : Int32)), .val (.int (1 : Int32)), .val (.ref w_COMPLETED), .val (.ref w_RUNNING), .val (.int (1 : Int32)), .val (.int (1 : Int32))]) rfl k) ?_
      show OGot p.tables e below (T70.setTop (mkF m 84 #[.val (.int p1), .val (.int p2), .val (.ref b3), .val (.int (2 : Int32)), .val (.int (1 : Int32)), .val (.ref w_COMPLETED), .val (.ref w_RUNNING), .val (.int (1 : Int32)), .val (.int (1 : Int32))] [])) _
      refine OGot.go (fun t k => XS.iload X70.here hx rfl (hb hby at_84) rfl k) ?_
      show OGot p.tables e below (T70.setTop (mkF m 86 #[.val (.int p1), .val (.int p2), .val (.ref b3), .val (.int (2 : Int32)), .val (.int (1 : Int32)), .val (.ref w_COMPLETED), .val (.ref w_RUNNING), .val (.int (1 : Int32)), .val (.int (1 : Int32))] [(.int (1 : Int32))])) _
      refine OGot.go (fun t k => XS.iload X70.here hx rfl (hb hby at_86) rfl k) ?_
      show OGot p.tables e below (T70.setTop (mkF m 88 #[.val (.int p1), .val (.int p2), .val (.ref b3), .val (.int (2 : Int32)), .val (.int (1 : Int32)), .val (.ref w_COMPLETED), .val (.ref w_RUNNING), .val (.int (1 : Int32)), .val (.int (1 : Int32))] [(.int (1 : Int32)), (.int (1 : Int32))])) _
      refine OGot.go (fun t k => XS.icmpYes X70.here hx rfl (pc0 := 88) (pc' := 93) rfl (hb hby at_88) rfl (by decide) (by decide) (by decide) k) ?_
      show OGot p.tables e below (T70.setTop (mkF m 93 #[.val (.int p1), .val (.int p2), .val (.ref b3), .val (.int (2 : Int32)), .val (.int (1 : Int32)), .val (.ref w_COMPLETED), .val (.ref w_RUNNING), .val (.int (1 : Int32)), .val (.int (1 : Int32))] [])) _
      refine OGot.go (fun t k => XS.iload X70.here hx rfl (hb hby at_93) rfl k) ?_
      show OGot p.tables e below (T70.setTop (mkF m 95 #[.val (.int p1), .val (.int p2), .val (.ref b3), .val (.int (2 : Int32)), .val (.int (1 : Int32)), .val (.ref w_COMPLETED), .val (.ref w_RUNNING), .val (.int (1 : Int32)), .val (.int (1 : Int32))] [(.int (1 : Int32))])) _
      refine OGot.go (fun t k => XS.ifNo X70.here hx rfl (hb hby at_95) rfl (by decide) k) ?_
      show OGot p.tables e below (T70.setTop (mkF m 98 #[.val (.int p1), .val (.int p2), .val (.ref b3), .val (.int (2 : Int32)), .val (.int (1 : Int32)), .val (.ref w_COMPLETED), .val (.ref w_RUNNING), .val (.int (1 : Int32)), .val (.int (1 : Int32))] [])) _
      refine OGot.go (fun t k => XS.aload X70.here hx rfl (hb hby at_98) rfl rfl k) ?_
      show OGot p.tables e below (T70.setTop (mkF m 100 #[.val (.int p1), .val (.int p2), .val (.ref b3), .val (.int (2 : Int32)), .val (.int (1 : Int32)), .val (.ref w_COMPLETED), .val (.ref w_RUNNING), .val (.int (1 : Int32)), .val (.int (1 : Int32))] [(.ref w_COMPLETED)])) _
      refine OGot.go (fun t k => XS.aload X70.here hx rfl (hb hby at_100) rfl rfl k) ?_
      show OGot p.tables e below (T70.setTop (mkF m 102 #[.val (.int p1), .val (.int p2), .val (.ref b3), .val (.int (2 : Int32)), .val (.int (1 : Int32)), .val (.ref w_COMPLETED), .val (.ref w_RUNNING), .val (.int (1 : Int32)), .val (.int (1 : Int32))] [(.ref w_RUNNING), (.ref w_COMPLETED)])) _
      obtain ⟨cq71, kq71, q71a, q71b, q71c⟩ := isOf hZ e70 (G.2.2.2.2.2.1.ext O13.2)
      obtain ⟨_, _, ⟨T71, L71, k71, n71⟩, -, X71, ⟨Lc71, hQ71, l71, y71, z71⟩, st71⟩ := X70.virtualBack hx (y := (⟨"com/example/hermit_crab/hermitcrab/JobState", "canMoveTo", "(Lcom/example/hermit_crab/hermitcrab/JobState;)Z"⟩ : MethodName)) (z := (⟨"com/example/hermit_crab/hermitcrab/JobState", "canMoveTo", "(Lcom/example/hermit_crab/hermitcrab/JobState;)Z"⟩ : MethodName)) hown (mvT hZ (ow hw 23 rfl)) (mvT hZ (ow hw 24 rfl)) (notFace_of_selects (args := #[]) (mvT hZ (ow hw 26 rfl))) (mvT hZ (ow hw 26 rfl)) (mvT hZ (ow hw 25 rfl)) (by decide) (backOf (W := 0) (rm2_1 l Z a0 hw [] G  h13 n0 O13 ) hZ (ow hw 27 rfl) (ow hw 3 rfl) (by decide) (by decide)) q71a q71c (g := (mkF m 102 #[.val (.int p1), .val (.int p2), .val (.ref b3), .val (.int (2 : Int32)), .val (.int (1 : Int32)), .val (.ref w_COMPLETED), .val (.ref w_RUNNING), .val (.int (1 : Int32)), .val (.int (1 : Int32))] [(.ref w_RUNNING), (.ref w_COMPLETED)])) rfl (by rw [hml]; rfl) (Steps.refl _) (argsL := [(.ref w_RUNNING)]) (rest := []) (lenOf pd_2 rfl) rfl (by show 2 * 0 + _ ≤ _; exact Nat.le_of_eq rfl) (hb hby at_102) (fun _ _ => ⟨rfl, e70, (by decide : 1 + 0 ≤ _), (by decide : 5 + 0 ≤ _)⟩)
      dsimp only [Pt.U, Pt.locs, Pt.cells, Pt.slots] at X71 l71 y71 z71 st71 hQ71
      subst l71 y71 z71
      obtain ⟨rfl, N71q, e71⟩ := hQ71
      have N71 := Fr.app N70 N71q
      refine OGot.on st71 ?_
      show OGot p.tables e below (T71.setTop (mkF m 105 #[.val (.int p1), .val (.int p2), .val (.ref b3), .val (.int (2 : Int32)), .val (.int (1 : Int32)), .val (.ref w_COMPLETED), .val (.ref w_RUNNING), .val (.int (1 : Int32)), .val (.int (1 : Int32))] [(.int (0 : Int32))])) _
      refine OGot.go (fun t k => XS.ifYes X71.here hx rfl (pc0 := 105) (pc' := 124) rfl (hb hby at_105) rfl (by decide) (by decide) (by decide) k) ?_
      show OGot p.tables e below (T71.setTop (mkF m 124 #[.val (.int p1), .val (.int p2), .val (.ref b3), .val (.int (2 : Int32)), .val (.int (1 : Int32)), .val (.ref w_COMPLETED), .val (.ref w_RUNNING), .val (.int (1 : Int32)), .val (.int (1 : Int32))] [])) _
      refine OGot.go (fun t k => XS.iconst X71.here hx rfl (hb hby at_124) k) ?_
      show OGot p.tables e below (T71.setTop (mkF m 125 #[.val (.int p1), .val (.int p2), .val (.ref b3), .val (.int (2 : Int32)), .val (.int (1 : Int32)), .val (.ref w_COMPLETED), .val (.ref w_RUNNING), .val (.int (1 : Int32)), .val (.int (1 : Int32))] [(.int (1 : Int32))])) _
      obtain ⟨fs, hr, hrun, hended, hW, hsame⟩ := X71.leave (v := some (.int (1 : Int32))) (fun h => by rw [Bd.returns] at h; cases h)
      refine ⟨_, _, retN X71 hx (t := .boolean) Bd.returns (by simp) (hb hby at_125) hr, hrun, hended, _, _, rfl, ?_, ⟨_, rfl⟩, hW, hsame.mono (by decide) (by decide)⟩
      exact (⟨rfl, N71⟩ : Q0 Z w_PENDING w_RUNNING w_COMPLETED w_FAILED w_CANCELLED p1 p2 h0 n0 _ T71.heap _)
    · rw [hk61]
      show OGot p.tables e below (T13.setTop (mkF m 48 #[.val (.int p1), .val (.int p2), .val (.ref b3), .val (.int (2 : Int32)), .unset, .unset, .unset, .unset, .unset] [(.int (2 : Int32))])) _
      refine OGot.go (fun t k => XS.istore X13.here hx rfl (hb hby at_48) rfl (l' := #[.val (.int p1), .val (.int p2), .val (.ref b3), .val (.int (2 : Int32)), .val (.int (2 : Int32)), .unset, .unset, .unset, .unset]) rfl k) ?_
      show OGot p.tables e below (T13.setTop (mkF m 50 #[.val (.int p1), .val (.int p2), .val (.ref b3), .val (.int (2 : Int32)), .val (.int (2 : Int32)), .unset, .unset, .unset, .unset] [])) _
      refine OGot.go (fun t k => XS.aloadN X13.here hx rfl (hb hby at_50) rfl rfl k) ?_
      show OGot p.tables e below (T13.setTop (mkF m 51 #[.val (.int p1), .val (.int p2), .val (.ref b3), .val (.int (2 : Int32)), .val (.int (2 : Int32)), .unset, .unset, .unset, .unset] [(.ref b3)])) _
      refine OGot.go (fun t k => XS.iloadN X13.here hx rfl (hb hby at_51) rfl k) ?_
      show OGot p.tables e below (T13.setTop (mkF m 52 #[.val (.int p1), .val (.int p2), .val (.ref b3), .val (.int (2 : Int32)), .val (.int (2 : Int32)), .unset, .unset, .unset, .unset] [(.int (2 : Int32)), (.ref b3)])) _
      obtain ⟨cl72, Ar72, qc72, Sz72, Ng72, Hh72, Gg72⟩ := id (Va13)
      have hin72 : ¬ ((2 : Int32) < 0 ∨ cl72.slots.size ≤ ((2 : Int32)).toNatClampNeg) := inb_of Sz72 ⟨by decide, by decide⟩
      have hat72 : cl72.slots[((2 : Int32)).toNatClampNeg]? = some (.ref w_COMPLETED) := Hh72.at hin72 rfl
      refine OGot.go (fun t k => X13.aaload hx (j := (2 : Int32)) (v := (.ref w_COMPLETED)) (by rw [e13]; exact Ar72.1) (State.isArrayOf_alike hZ.alike Ar72.2.1) rfl Ar72.2.2 hin72 hat72 (g := (mkF m 52 #[.val (.int p1), .val (.int p2), .val (.ref b3), .val (.int (2 : Int32)), .val (.int (2 : Int32)), .unset, .unset, .unset, .unset] [(.int (2 : Int32)), (.ref b3)])) rfl rfl (hb hby at_52) _ k) ?_
      show OGot p.tables e below (T13.setTop (mkF m 53 #[.val (.int p1), .val (.int p2), .val (.ref b3), .val (.int (2 : Int32)), .val (.int (2 : Int32)), .unset, .unset, .unset, .unset] [(.ref w_COMPLETED)])) _
      refine OGot.go (fun t k => XS.astore X13.here hx rfl (hb hby at_53) rfl rfl (l' := #[.val (.int p1), .val (.int p2), .val (.ref b3), .val (.int (2 : Int32)), .val (.int (2 : Int32)), .val (.ref w_COMPLETED), .unset, .unset, .unset]) rfl k) ?_
      show OGot p.tables e below (T13.setTop (mkF m 55 #[.val (.int p1), .val (.int p2), .val (.ref b3), .val (.int (2 : Int32)), .val (.int (2 : Int32)), .val (.ref w_COMPLETED), .unset, .unset, .unset] [])) _
      refine OGot.go (fun t k => XS.aloadN X13.here hx rfl (hb hby at_55) rfl rfl k) ?_
      show OGot p.tables e below (T13.setTop (mkF m 56 #[.val (.int p1), .val (.int p2), .val (.ref b3), .val (.int (2 : Int32)), .val (.int (2 : Int32)), .val (.ref w_COMPLETED), .unset, .unset, .unset] [(.ref b3)])) _
      refine OGot.go (fun t k => XS.iload X13.here hx rfl (hb hby at_56) rfl k) ?_
      show OGot p.tables e below (T13.setTop (mkF m 58 #[.val (.int p1), .val (.int p2), .val (.ref b3), .val (.int (2 : Int32)), .val (.int (2 : Int32)), .val (.ref w_COMPLETED), .unset, .unset, .unset] [(.int (2 : Int32)), (.ref b3)])) _
      obtain ⟨cl73, Ar73, qc73, Sz73, Ng73, Hh73, Gg73⟩ := id (Va13)
      have hin73 : ¬ ((2 : Int32) < 0 ∨ cl73.slots.size ≤ ((2 : Int32)).toNatClampNeg) := inb_of Sz73 ⟨by decide, by decide⟩
      have hat73 : cl73.slots[((2 : Int32)).toNatClampNeg]? = some (.ref w_COMPLETED) := Hh73.at hin73 rfl
      refine OGot.go (fun t k => X13.aaload hx (j := (2 : Int32)) (v := (.ref w_COMPLETED)) (by rw [e13]; exact Ar73.1) (State.isArrayOf_alike hZ.alike Ar73.2.1) rfl Ar73.2.2 hin73 hat73 (g := (mkF m 58 #[.val (.int p1), .val (.int p2), .val (.ref b3), .val (.int (2 : Int32)), .val (.int (2 : Int32)), .val (.ref w_COMPLETED), .unset, .unset, .unset] [(.int (2 : Int32)), (.ref b3)])) rfl rfl (hb hby at_58) _ k) ?_
      show OGot p.tables e below (T13.setTop (mkF m 59 #[.val (.int p1), .val (.int p2), .val (.ref b3), .val (.int (2 : Int32)), .val (.int (2 : Int32)), .val (.ref w_COMPLETED), .unset, .unset, .unset] [(.ref w_COMPLETED)])) _
      refine OGot.go (fun t k => XS.astore X13.here hx rfl (hb hby at_59) rfl rfl (l' := #[.val (.int p1), .val (.int p2), .val (.ref b3), .val (.int (2 : Int32)), .val (.int (2 : Int32)), .val (.ref w_COMPLETED), .val (.ref w_COMPLETED), .unset, .unset]) rfl k) ?_
      show OGot p.tables e below (T13.setTop (mkF m 61 #[.val (.int p1), .val (.int p2), .val (.ref b3), .val (.int (2 : Int32)), .val (.int (2 : Int32)), .val (.ref w_COMPLETED), .val (.ref w_COMPLETED), .unset, .unset] [])) _
      refine OGot.go (fun t k => XS.iloadN X13.here hx rfl (hb hby at_61) rfl k) ?_
      show OGot p.tables e below (T13.setTop (mkF m 62 #[.val (.int p1), .val (.int p2), .val (.ref b3), .val (.int (2 : Int32)), .val (.int (2 : Int32)), .val (.ref w_COMPLETED), .val (.ref w_COMPLETED), .unset, .unset] [(.int (2 : Int32))])) _
      refine OGot.go (fun t k => XS.ifNo X13.here hx rfl (hb hby at_62) rfl (by decide) k) ?_
      show OGot p.tables e below (T13.setTop (mkF m 65 #[.val (.int p1), .val (.int p2), .val (.ref b3), .val (.int (2 : Int32)), .val (.int (2 : Int32)), .val (.ref w_COMPLETED), .val (.ref w_COMPLETED), .unset, .unset] [])) _
      refine OGot.go (fun t k => XS.iloadN X13.here hx rfl (hb hby at_65) rfl k) ?_
      show OGot p.tables e below (T13.setTop (mkF m 66 #[.val (.int p1), .val (.int p2), .val (.ref b3), .val (.int (2 : Int32)), .val (.int (2 : Int32)), .val (.ref w_COMPLETED), .val (.ref w_COMPLETED), .unset, .unset] [(.int (2 : Int32))])) _
      refine OGot.go (fun t k => XS.iconst X13.here hx rfl (hb hby at_66) k) ?_
      show OGot p.tables e below (T13.setTop (mkF m 67 #[.val (.int p1), .val (.int p2), .val (.ref b3), .val (.int (2 : Int32)), .val (.int (2 : Int32)), .val (.ref w_COMPLETED), .val (.ref w_COMPLETED), .unset, .unset] [(.int (1 : Int32)), (.int (2 : Int32))])) _
      refine OGot.go (fun t k => XS.icmpNo X13.here hx rfl (hb hby at_67) rfl (by decide) k) ?_
      show OGot p.tables e below (T13.setTop (mkF m 70 #[.val (.int p1), .val (.int p2), .val (.ref b3), .val (.int (2 : Int32)), .val (.int (2 : Int32)), .val (.ref w_COMPLETED), .val (.ref w_COMPLETED), .unset, .unset] [])) _
      refine OGot.go (fun t k => XS.iconst X13.here hx rfl (hb hby at_70) k) ?_
      show OGot p.tables e below (T13.setTop (mkF m 71 #[.val (.int p1), .val (.int p2), .val (.ref b3), .val (.int (2 : Int32)), .val (.int (2 : Int32)), .val (.ref w_COMPLETED), .val (.ref w_COMPLETED), .unset, .unset] [(.int (1 : Int32))])) _
      refine OGot.go (fun t k => XS.goto X13.here hx rfl (pc0 := 71) (pc' := 75) rfl (hb hby at_71) (by decide) (by decide) k) ?_
      show OGot p.tables e below (T13.setTop (mkF m 75 #[.val (.int p1), .val (.int p2), .val (.ref b3), .val (.int (2 : Int32)), .val (.int (2 : Int32)), .val (.ref w_COMPLETED), .val (.ref w_COMPLETED), .unset, .unset] [(.int (1 : Int32))])) _
      refine OGot.go (fun t k => XS.istore X13.here hx rfl (hb hby at_75) rfl (l' := #[.val (.int p1), .val (.int p2), .val (.ref b3), .val (.int (2 : Int32)), .val (.int (2 : Int32)), .val (.ref w_COMPLETED), .val (.ref w_COMPLETED), .val (.int (1 : Int32)), .unset]) rfl k) ?_
      show OGot p.tables e below (T13.setTop (mkF m 77 #[.val (.int p1), .val (.int p2), .val (.ref b3), .val (.int (2 : Int32)), .val (.int (2 : Int32)), .val (.ref w_COMPLETED), .val (.ref w_COMPLETED), .val (.int (1 : Int32)), .unset] [])) _
      refine OGot.go (fun t k => XS.aload X13.here hx rfl (hb hby at_77) rfl rfl k) ?_
      show OGot p.tables e below (T13.setTop (mkF m 79 #[.val (.int p1), .val (.int p2), .val (.ref b3), .val (.int (2 : Int32)), .val (.int (2 : Int32)), .val (.ref w_COMPLETED), .val (.ref w_COMPLETED), .val (.int (1 : Int32)), .unset] [(.ref w_COMPLETED)])) _
      obtain ⟨cq74, kq74, q74a, q74b, q74c⟩ := isOf hZ e13 (G.2.2.2.2.2.1.ext O13.2)
      obtain ⟨_, _, ⟨T74, L74, k74, n74⟩, -, X74, ⟨Lc74, hQ74, l74, y74, z74⟩, st74⟩ := X13.virtualBack hx (y := (⟨"com/example/hermit_crab/hermitcrab/JobState", "isFinal", "()Z"⟩ : MethodName)) (z := (⟨"com/example/hermit_crab/hermitcrab/JobState", "isFinal", "()Z"⟩ : MethodName)) hown (mvT hZ (ow hw 15 rfl)) (mvT hZ (ow hw 16 rfl)) (notFace_of_selects (args := #[]) (mvT hZ (ow hw 18 rfl))) (mvT hZ (ow hw 18 rfl)) (mvT hZ (ow hw 17 rfl)) (by decide) (backOf (W := 0) (rm1_2 l Z a0 hw [] G  h13 n0 O13 ) hZ (ow hw 19 rfl) (ow hw 3 rfl) (by decide) (by decide)) q74a q74c (g := (mkF m 79 #[.val (.int p1), .val (.int p2), .val (.ref b3), .val (.int (2 : Int32)), .val (.int (2 : Int32)), .val (.ref w_COMPLETED), .val (.ref w_COMPLETED), .val (.int (1 : Int32)), .unset] [(.ref w_COMPLETED)])) rfl (by rw [hml]; rfl) (Steps.refl _) (argsL := []) (rest := []) (lenOf pd_0 rfl) rfl (by show 2 * 0 + _ ≤ _; exact Nat.le_of_eq rfl) (hb hby at_79) (fun _ _ => ⟨rfl, e13, (by decide : 1 + 0 ≤ _), (by decide : 5 + 0 ≤ _)⟩)
      dsimp only [Pt.U, Pt.locs, Pt.cells, Pt.slots] at X74 l74 y74 z74 st74 hQ74
      subst l74 y74 z74
      obtain ⟨rfl, N74q, e74⟩ := hQ74
      have N74 := Fr.app N13 N74q
      refine OGot.on st74 ?_
      show OGot p.tables e below (T74.setTop (mkF m 82 #[.val (.int p1), .val (.int p2), .val (.ref b3), .val (.int (2 : Int32)), .val (.int (2 : Int32)), .val (.ref w_COMPLETED), .val (.ref w_COMPLETED), .val (.int (1 : Int32)), .unset] [(.int (1 : Int32))])) _
      refine OGot.go (fun t k => XS.istore X74.here hx rfl (hb hby at_82) rfl (l' := #[.val (.int p1), .val (.int p2), .val (.ref b3), .val (.int (2 : Int32)), .val (.int (2 : Int32)), .val (.ref w_COMPLETED), .val (.ref w_COMPLETED), .val (.int (1 : Int32)), .val (.int (1 : Int32))]) rfl k) ?_
      show OGot p.tables e below (T74.setTop (mkF m 84 #[.val (.int p1), .val (.int p2), .val (.ref b3), .val (.int (2 : Int32)), .val (.int (2 : Int32)), .val (.ref w_COMPLETED), .val (.ref w_COMPLETED), .val (.int (1 : Int32)), .val (.int (1 : Int32))] [])) _
      refine OGot.go (fun t k => XS.iload X74.here hx rfl (hb hby at_84) rfl k) ?_
      show OGot p.tables e below (T74.setTop (mkF m 86 #[.val (.int p1), .val (.int p2), .val (.ref b3), .val (.int (2 : Int32)), .val (.int (2 : Int32)), .val (.ref w_COMPLETED), .val (.ref w_COMPLETED), .val (.int (1 : Int32)), .val (.int (1 : Int32))] [(.int (1 : Int32))])) _
      refine OGot.go (fun t k => XS.iload X74.here hx rfl (hb hby at_86) rfl k) ?_
      show OGot p.tables e below (T74.setTop (mkF m 88 #[.val (.int p1), .val (.int p2), .val (.ref b3), .val (.int (2 : Int32)), .val (.int (2 : Int32)), .val (.ref w_COMPLETED), .val (.ref w_COMPLETED), .val (.int (1 : Int32)), .val (.int (1 : Int32))] [(.int (1 : Int32)), (.int (1 : Int32))])) _
      refine OGot.go (fun t k => XS.icmpYes X74.here hx rfl (pc0 := 88) (pc' := 93) rfl (hb hby at_88) rfl (by decide) (by decide) (by decide) k) ?_
      show OGot p.tables e below (T74.setTop (mkF m 93 #[.val (.int p1), .val (.int p2), .val (.ref b3), .val (.int (2 : Int32)), .val (.int (2 : Int32)), .val (.ref w_COMPLETED), .val (.ref w_COMPLETED), .val (.int (1 : Int32)), .val (.int (1 : Int32))] [])) _
      refine OGot.go (fun t k => XS.iload X74.here hx rfl (hb hby at_93) rfl k) ?_
      show OGot p.tables e below (T74.setTop (mkF m 95 #[.val (.int p1), .val (.int p2), .val (.ref b3), .val (.int (2 : Int32)), .val (.int (2 : Int32)), .val (.ref w_COMPLETED), .val (.ref w_COMPLETED), .val (.int (1 : Int32)), .val (.int (1 : Int32))] [(.int (1 : Int32))])) _
      refine OGot.go (fun t k => XS.ifNo X74.here hx rfl (hb hby at_95) rfl (by decide) k) ?_
      show OGot p.tables e below (T74.setTop (mkF m 98 #[.val (.int p1), .val (.int p2), .val (.ref b3), .val (.int (2 : Int32)), .val (.int (2 : Int32)), .val (.ref w_COMPLETED), .val (.ref w_COMPLETED), .val (.int (1 : Int32)), .val (.int (1 : Int32))] [])) _
      refine OGot.go (fun t k => XS.aload X74.here hx rfl (hb hby at_98) rfl rfl k) ?_
      show OGot p.tables e below (T74.setTop (mkF m 100 #[.val (.int p1), .val (.int p2), .val (.ref b3), .val (.int (2 : Int32)), .val (.int (2 : Int32)), .val (.ref w_COMPLETED), .val (.ref w_COMPLETED), .val (.int (1 : Int32)), .val (.int (1 : Int32))] [(.ref w_COMPLETED)])) _
      refine OGot.go (fun t k => XS.aload X74.here hx rfl (hb hby at_100) rfl rfl k) ?_
      show OGot p.tables e below (T74.setTop (mkF m 102 #[.val (.int p1), .val (.int p2), .val (.ref b3), .val (.int (2 : Int32)), .val (.int (2 : Int32)), .val (.ref w_COMPLETED), .val (.ref w_COMPLETED), .val (.int (1 : Int32)), .val (.int (1 : Int32))] [(.ref w_COMPLETED), (.ref w_COMPLETED)])) _
      obtain ⟨cq75, kq75, q75a, q75b, q75c⟩ := isOf hZ e74 (G.2.2.2.2.2.1.ext O13.2)
      obtain ⟨_, _, ⟨T75, L75, k75, n75⟩, -, X75, ⟨Lc75, hQ75, l75, y75, z75⟩, st75⟩ := X74.virtualBack hx (y := (⟨"com/example/hermit_crab/hermitcrab/JobState", "canMoveTo", "(Lcom/example/hermit_crab/hermitcrab/JobState;)Z"⟩ : MethodName)) (z := (⟨"com/example/hermit_crab/hermitcrab/JobState", "canMoveTo", "(Lcom/example/hermit_crab/hermitcrab/JobState;)Z"⟩ : MethodName)) hown (mvT hZ (ow hw 23 rfl)) (mvT hZ (ow hw 24 rfl)) (notFace_of_selects (args := #[]) (mvT hZ (ow hw 26 rfl))) (mvT hZ (ow hw 26 rfl)) (mvT hZ (ow hw 25 rfl)) (by decide) (backOf (W := 0) (rm2_2 l Z a0 hw [] G  h13 n0 O13 ) hZ (ow hw 27 rfl) (ow hw 3 rfl) (by decide) (by decide)) q75a q75c (g := (mkF m 102 #[.val (.int p1), .val (.int p2), .val (.ref b3), .val (.int (2 : Int32)), .val (.int (2 : Int32)), .val (.ref w_COMPLETED), .val (.ref w_COMPLETED), .val (.int (1 : Int32)), .val (.int (1 : Int32))] [(.ref w_COMPLETED), (.ref w_COMPLETED)])) rfl (by rw [hml]; rfl) (Steps.refl _) (argsL := [(.ref w_COMPLETED)]) (rest := []) (lenOf pd_2 rfl) rfl (by show 2 * 0 + _ ≤ _; exact Nat.le_of_eq rfl) (hb hby at_102) (fun _ _ => ⟨rfl, e74, (by decide : 1 + 0 ≤ _), (by decide : 5 + 0 ≤ _)⟩)
      dsimp only [Pt.U, Pt.locs, Pt.cells, Pt.slots] at X75 l75 y75 z75 st75 hQ75
      subst l75 y75 z75
      obtain ⟨rfl, N75q, e75⟩ := hQ75
      have N75 := Fr.app N74 N75q
      refine OGot.on st75 ?_
      show OGot p.tables e below (T75.setTop (mkF m 105 #[.val (.int p1), .val (.int p2), .val (.ref b3), .val (.int (2 : Int32)), .val (.int (2 : Int32)), .val (.ref w_COMPLETED), .val (.ref w_COMPLETED), .val (.int (1 : Int32)), .val (.int (1 : Int32))] [(.int (0 : Int32))])) _
      refine OGot.go (fun t k => XS.ifYes X75.here hx rfl (pc0 := 105) (pc' := 124) rfl (hb hby at_105) rfl (by decide) (by decide) (by decide) k) ?_
      show OGot p.tables e below (T75.setTop (mkF m 124 #[.val (.int p1), .val (.int p2), .val (.ref b3), .val (.int (2 : Int32)), .val (.int (2 : Int32)), .val (.ref w_COMPLETED), .val (.ref w_COMPLETED), .val (.int (1 : Int32)), .val (.int (1 : Int32))] [])) _
      refine OGot.go (fun t k => XS.iconst X75.here hx rfl (hb hby at_124) k) ?_
      show OGot p.tables e below (T75.setTop (mkF m 125 #[.val (.int p1), .val (.int p2), .val (.ref b3), .val (.int (2 : Int32)), .val (.int (2 : Int32)), .val (.ref w_COMPLETED), .val (.ref w_COMPLETED), .val (.int (1 : Int32)), .val (.int (1 : Int32))] [(.int (1 : Int32))])) _
      obtain ⟨fs, hr, hrun, hended, hW, hsame⟩ := X75.leave (v := some (.int (1 : Int32))) (fun h => by rw [Bd.returns] at h; cases h)
      refine ⟨_, _, retN X75 hx (t := .boolean) Bd.returns (by simp) (hb hby at_125) hr, hrun, hended, _, _, rfl, ?_, ⟨_, rfl⟩, hW, hsame.mono (by decide) (by decide)⟩
      exact (⟨rfl, N75⟩ : Q0 Z w_PENDING w_RUNNING w_COMPLETED w_FAILED w_CANCELLED p1 p2 h0 n0 _ T75.heap _)
    · rw [hk62]
      show OGot p.tables e below (T13.setTop (mkF m 48 #[.val (.int p1), .val (.int p2), .val (.ref b3), .val (.int (2 : Int32)), .unset, .unset, .unset, .unset, .unset] [(.int (3 : Int32))])) _
      refine OGot.go (fun t k => XS.istore X13.here hx rfl (hb hby at_48) rfl (l' := #[.val (.int p1), .val (.int p2), .val (.ref b3), .val (.int (2 : Int32)), .val (.int (3 : Int32)), .unset, .unset, .unset, .unset]) rfl k) ?_
      show OGot p.tables e below (T13.setTop (mkF m 50 #[.val (.int p1), .val (.int p2), .val (.ref b3), .val (.int (2 : Int32)), .val (.int (3 : Int32)), .unset, .unset, .unset, .unset] [])) _
      refine OGot.go (fun t k => XS.aloadN X13.here hx rfl (hb hby at_50) rfl rfl k) ?_
      show OGot p.tables e below (T13.setTop (mkF m 51 #[.val (.int p1), .val (.int p2), .val (.ref b3), .val (.int (2 : Int32)), .val (.int (3 : Int32)), .unset, .unset, .unset, .unset] [(.ref b3)])) _
      refine OGot.go (fun t k => XS.iloadN X13.here hx rfl (hb hby at_51) rfl k) ?_
      show OGot p.tables e below (T13.setTop (mkF m 52 #[.val (.int p1), .val (.int p2), .val (.ref b3), .val (.int (2 : Int32)), .val (.int (3 : Int32)), .unset, .unset, .unset, .unset] [(.int (2 : Int32)), (.ref b3)])) _
      obtain ⟨cl76, Ar76, qc76, Sz76, Ng76, Hh76, Gg76⟩ := id (Va13)
      have hin76 : ¬ ((2 : Int32) < 0 ∨ cl76.slots.size ≤ ((2 : Int32)).toNatClampNeg) := inb_of Sz76 ⟨by decide, by decide⟩
      have hat76 : cl76.slots[((2 : Int32)).toNatClampNeg]? = some (.ref w_COMPLETED) := Hh76.at hin76 rfl
      refine OGot.go (fun t k => X13.aaload hx (j := (2 : Int32)) (v := (.ref w_COMPLETED)) (by rw [e13]; exact Ar76.1) (State.isArrayOf_alike hZ.alike Ar76.2.1) rfl Ar76.2.2 hin76 hat76 (g := (mkF m 52 #[.val (.int p1), .val (.int p2), .val (.ref b3), .val (.int (2 : Int32)), .val (.int (3 : Int32)), .unset, .unset, .unset, .unset] [(.int (2 : Int32)), (.ref b3)])) rfl rfl (hb hby at_52) _ k) ?_
      show OGot p.tables e below (T13.setTop (mkF m 53 #[.val (.int p1), .val (.int p2), .val (.ref b3), .val (.int (2 : Int32)), .val (.int (3 : Int32)), .unset, .unset, .unset, .unset] [(.ref w_COMPLETED)])) _
      refine OGot.go (fun t k => XS.astore X13.here hx rfl (hb hby at_53) rfl rfl (l' := #[.val (.int p1), .val (.int p2), .val (.ref b3), .val (.int (2 : Int32)), .val (.int (3 : Int32)), .val (.ref w_COMPLETED), .unset, .unset, .unset]) rfl k) ?_
      show OGot p.tables e below (T13.setTop (mkF m 55 #[.val (.int p1), .val (.int p2), .val (.ref b3), .val (.int (2 : Int32)), .val (.int (3 : Int32)), .val (.ref w_COMPLETED), .unset, .unset, .unset] [])) _
      refine OGot.go (fun t k => XS.aloadN X13.here hx rfl (hb hby at_55) rfl rfl k) ?_
      show OGot p.tables e below (T13.setTop (mkF m 56 #[.val (.int p1), .val (.int p2), .val (.ref b3), .val (.int (2 : Int32)), .val (.int (3 : Int32)), .val (.ref w_COMPLETED), .unset, .unset, .unset] [(.ref b3)])) _
      refine OGot.go (fun t k => XS.iload X13.here hx rfl (hb hby at_56) rfl k) ?_
      show OGot p.tables e below (T13.setTop (mkF m 58 #[.val (.int p1), .val (.int p2), .val (.ref b3), .val (.int (2 : Int32)), .val (.int (3 : Int32)), .val (.ref w_COMPLETED), .unset, .unset, .unset] [(.int (3 : Int32)), (.ref b3)])) _
      obtain ⟨cl77, Ar77, qc77, Sz77, Ng77, Hh77, Gg77⟩ := id (Va13)
      have hin77 : ¬ ((3 : Int32) < 0 ∨ cl77.slots.size ≤ ((3 : Int32)).toNatClampNeg) := inb_of Sz77 ⟨by decide, by decide⟩
      have hat77 : cl77.slots[((3 : Int32)).toNatClampNeg]? = some (.ref w_FAILED) := Hh77.at hin77 rfl
      refine OGot.go (fun t k => X13.aaload hx (j := (3 : Int32)) (v := (.ref w_FAILED)) (by rw [e13]; exact Ar77.1) (State.isArrayOf_alike hZ.alike Ar77.2.1) rfl Ar77.2.2 hin77 hat77 (g := (mkF m 58 #[.val (.int p1), .val (.int p2), .val (.ref b3), .val (.int (2 : Int32)), .val (.int (3 : Int32)), .val (.ref w_COMPLETED), .unset, .unset, .unset] [(.int (3 : Int32)), (.ref b3)])) rfl rfl (hb hby at_58) _ k) ?_
      show OGot p.tables e below (T13.setTop (mkF m 59 #[.val (.int p1), .val (.int p2), .val (.ref b3), .val (.int (2 : Int32)), .val (.int (3 : Int32)), .val (.ref w_COMPLETED), .unset, .unset, .unset] [(.ref w_FAILED)])) _
      refine OGot.go (fun t k => XS.astore X13.here hx rfl (hb hby at_59) rfl rfl (l' := #[.val (.int p1), .val (.int p2), .val (.ref b3), .val (.int (2 : Int32)), .val (.int (3 : Int32)), .val (.ref w_COMPLETED), .val (.ref w_FAILED), .unset, .unset]) rfl k) ?_
      show OGot p.tables e below (T13.setTop (mkF m 61 #[.val (.int p1), .val (.int p2), .val (.ref b3), .val (.int (2 : Int32)), .val (.int (3 : Int32)), .val (.ref w_COMPLETED), .val (.ref w_FAILED), .unset, .unset] [])) _
      refine OGot.go (fun t k => XS.iloadN X13.here hx rfl (hb hby at_61) rfl k) ?_
      show OGot p.tables e below (T13.setTop (mkF m 62 #[.val (.int p1), .val (.int p2), .val (.ref b3), .val (.int (2 : Int32)), .val (.int (3 : Int32)), .val (.ref w_COMPLETED), .val (.ref w_FAILED), .unset, .unset] [(.int (2 : Int32))])) _
      refine OGot.go (fun t k => XS.ifNo X13.here hx rfl (hb hby at_62) rfl (by decide) k) ?_
      show OGot p.tables e below (T13.setTop (mkF m 65 #[.val (.int p1), .val (.int p2), .val (.ref b3), .val (.int (2 : Int32)), .val (.int (3 : Int32)), .val (.ref w_COMPLETED), .val (.ref w_FAILED), .unset, .unset] [])) _
      refine OGot.go (fun t k => XS.iloadN X13.here hx rfl (hb hby at_65) rfl k) ?_
      show OGot p.tables e below (T13.setTop (mkF m 66 #[.val (.int p1), .val (.int p2), .val (.ref b3), .val (.int (2 : Int32)), .val (.int (3 : Int32)), .val (.ref w_COMPLETED), .val (.ref w_FAILED), .unset, .unset] [(.int (2 : Int32))])) _
      refine OGot.go (fun t k => XS.iconst X13.here hx rfl (hb hby at_66) k) ?_
      show OGot p.tables e below (T13.setTop (mkF m 67 #[.val (.int p1), .val (.int p2), .val (.ref b3), .val (.int (2 : Int32)), .val (.int (3 : Int32)), .val (.ref w_COMPLETED), .val (.ref w_FAILED), .unset, .unset] [(.int (1 : Int32)), (.int (2 : Int32))])) _
      refine OGot.go (fun t k => XS.icmpNo X13.here hx rfl (hb hby at_67) rfl (by decide) k) ?_
      show OGot p.tables e below (T13.setTop (mkF m 70 #[.val (.int p1), .val (.int p2), .val (.ref b3), .val (.int (2 : Int32)), .val (.int (3 : Int32)), .val (.ref w_COMPLETED), .val (.ref w_FAILED), .unset, .unset] [])) _
      refine OGot.go (fun t k => XS.iconst X13.here hx rfl (hb hby at_70) k) ?_
      show OGot p.tables e below (T13.setTop (mkF m 71 #[.val (.int p1), .val (.int p2), .val (.ref b3), .val (.int (2 : Int32)), .val (.int (3 : Int32)), .val (.ref w_COMPLETED), .val (.ref w_FAILED), .unset, .unset] [(.int (1 : Int32))])) _
      refine OGot.go (fun t k => XS.goto X13.here hx rfl (pc0 := 71) (pc' := 75) rfl (hb hby at_71) (by decide) (by decide) k) ?_
      show OGot p.tables e below (T13.setTop (mkF m 75 #[.val (.int p1), .val (.int p2), .val (.ref b3), .val (.int (2 : Int32)), .val (.int (3 : Int32)), .val (.ref w_COMPLETED), .val (.ref w_FAILED), .unset, .unset] [(.int (1 : Int32))])) _
      refine OGot.go (fun t k => XS.istore X13.here hx rfl (hb hby at_75) rfl (l' := #[.val (.int p1), .val (.int p2), .val (.ref b3), .val (.int (2 : Int32)), .val (.int (3 : Int32)), .val (.ref w_COMPLETED), .val (.ref w_FAILED), .val (.int (1 : Int32)), .unset]) rfl k) ?_
      show OGot p.tables e below (T13.setTop (mkF m 77 #[.val (.int p1), .val (.int p2), .val (.ref b3), .val (.int (2 : Int32)), .val (.int (3 : Int32)), .val (.ref w_COMPLETED), .val (.ref w_FAILED), .val (.int (1 : Int32)), .unset] [])) _
      refine OGot.go (fun t k => XS.aload X13.here hx rfl (hb hby at_77) rfl rfl k) ?_
      show OGot p.tables e below (T13.setTop (mkF m 79 #[.val (.int p1), .val (.int p2), .val (.ref b3), .val (.int (2 : Int32)), .val (.int (3 : Int32)), .val (.ref w_COMPLETED), .val (.ref w_FAILED), .val (.int (1 : Int32)), .unset] [(.ref w_COMPLETED)])) _
      obtain ⟨cq78, kq78, q78a, q78b, q78c⟩ := isOf hZ e13 (G.2.2.2.2.2.1.ext O13.2)
      obtain ⟨_, _, ⟨T78, L78, k78, n78⟩, -, X78, ⟨Lc78, hQ78, l78, y78, z78⟩, st78⟩ := X13.virtualBack hx (y := (⟨"com/example/hermit_crab/hermitcrab/JobState", "isFinal", "()Z"⟩ : MethodName)) (z := (⟨"com/example/hermit_crab/hermitcrab/JobState", "isFinal", "()Z"⟩ : MethodName)) hown (mvT hZ (ow hw 15 rfl)) (mvT hZ (ow hw 16 rfl)) (notFace_of_selects (args := #[]) (mvT hZ (ow hw 18 rfl))) (mvT hZ (ow hw 18 rfl)) (mvT hZ (ow hw 17 rfl)) (by decide) (backOf (W := 0) (rm1_2 l Z a0 hw [] G  h13 n0 O13 ) hZ (ow hw 19 rfl) (ow hw 3 rfl) (by decide) (by decide)) q78a q78c (g := (mkF m 79 #[.val (.int p1), .val (.int p2), .val (.ref b3), .val (.int (2 : Int32)), .val (.int (3 : Int32)), .val (.ref w_COMPLETED), .val (.ref w_FAILED), .val (.int (1 : Int32)), .unset] [(.ref w_COMPLETED)])) rfl (by rw [hml]; rfl) (Steps.refl _) (argsL := []) (rest := []) (lenOf pd_0 rfl) rfl (by show 2 * 0 + _ ≤ _; exact Nat.le_of_eq rfl) (hb hby at_79) (fun _ _ => ⟨rfl, e13, (by decide : 1 + 0 ≤ _), (by decide : 5 + 0 ≤ _)⟩)
      dsimp only [Pt.U, Pt.locs, Pt.cells, Pt.slots] at X78 l78 y78 z78 st78 hQ78
      subst l78 y78 z78
      obtain ⟨rfl, N78q, e78⟩ := hQ78
      have N78 := Fr.app N13 N78q
      refine OGot.on st78 ?_
      show OGot p.tables e below (T78.setTop (mkF m 82 #[.val (.int p1), .val (.int p2), .val (.ref b3), .val (.int (2 : Int32)), .val (.int (3 : Int32)), .val (.ref w_COMPLETED), .val (.ref w_FAILED), .val (.int (1 : Int32)), .unset] [(.int (1 : Int32))])) _
      refine OGot.go (fun t k => XS.istore X78.here hx rfl (hb hby at_82) rfl (l' := #[.val (.int p1), .val (.int p2), .val (.ref b3), .val (.int (2 : Int32)), .val (.int (3 : Int32)), .val (.ref w_COMPLETED), .val (.ref w_FAILED), .val (.int (1 : Int32)), .val (.int (1 : Int32))]) rfl k) ?_
      show OGot p.tables e below (T78.setTop (mkF m 84 #[.val (.int p1), .val (.int p2), .val (.ref b3), .val (.int (2 : Int32)), .val (.int (3 : Int32)), .val (.ref w_COMPLETED), .val (.ref w_FAILED), .val (.int (1 : Int32)), .val (.int (1 : Int32))] [])) _
      refine OGot.go (fun t k => XS.iload X78.here hx rfl (hb hby at_84) rfl k) ?_
      show OGot p.tables e below (T78.setTop (mkF m 86 #[.val (.int p1), .val (.int p2), .val (.ref b3), .val (.int (2 : Int32)), .val (.int (3 : Int32)), .val (.ref w_COMPLETED), .val (.ref w_FAILED), .val (.int (1 : Int32)), .val (.int (1 : Int32))] [(.int (1 : Int32))])) _
      refine OGot.go (fun t k => XS.iload X78.here hx rfl (hb hby at_86) rfl k) ?_
      show OGot p.tables e below (T78.setTop (mkF m 88 #[.val (.int p1), .val (.int p2), .val (.ref b3), .val (.int (2 : Int32)), .val (.int (3 : Int32)), .val (.ref w_COMPLETED), .val (.ref w_FAILED), .val (.int (1 : Int32)), .val (.int (1 : Int32))] [(.int (1 : Int32)), (.int (1 : Int32))])) _
      refine OGot.go (fun t k => XS.icmpYes X78.here hx rfl (pc0 := 88) (pc' := 93) rfl (hb hby at_88) rfl (by decide) (by decide) (by decide) k) ?_
      show OGot p.tables e below (T78.setTop (mkF m 93 #[.val (.int p1), .val (.int p2), .val (.ref b3), .val (.int (2 : Int32)), .val (.int (3 : Int32)), .val (.ref w_COMPLETED), .val (.ref w_FAILED), .val (.int (1 : Int32)), .val (.int (1 : Int32))] [])) _
      refine OGot.go (fun t k => XS.iload X78.here hx rfl (hb hby at_93) rfl k) ?_
      show OGot p.tables e below (T78.setTop (mkF m 95 #[.val (.int p1), .val (.int p2), .val (.ref b3), .val (.int (2 : Int32)), .val (.int (3 : Int32)), .val (.ref w_COMPLETED), .val (.ref w_FAILED), .val (.int (1 : Int32)), .val (.int (1 : Int32))] [(.int (1 : Int32))])) _
      refine OGot.go (fun t k => XS.ifNo X78.here hx rfl (hb hby at_95) rfl (by decide) k) ?_
      show OGot p.tables e below (T78.setTop (mkF m 98 #[.val (.int p1), .val (.int p2), .val (.ref b3), .val (.int (2 : Int32)), .val (.int (3 : Int32)), .val (.ref w_COMPLETED), .val (.ref w_FAILED), .val (.int (1 : Int32)), .val (.int (1 : Int32))] [])) _
      refine OGot.go (fun t k => XS.aload X78.here hx rfl (hb hby at_98) rfl rfl k) ?_
      show OGot p.tables e below (T78.setTop (mkF m 100 #[.val (.int p1), .val (.int p2), .val (.ref b3), .val (.int (2 : Int32)), .val (.int (3 : Int32)), .val (.ref w_COMPLETED), .val (.ref w_FAILED), .val (.int (1 : Int32)), .val (.int (1 : Int32))] [(.ref w_COMPLETED)])) _
      refine OGot.go (fun t k => XS.aload X78.here hx rfl (hb hby at_100) rfl rfl k) ?_
      show OGot p.tables e below (T78.setTop (mkF m 102 #[.val (.int p1), .val (.int p2), .val (.ref b3), .val (.int (2 : Int32)), .val (.int (3 : Int32)), .val (.ref w_COMPLETED), .val (.ref w_FAILED), .val (.int (1 : Int32)), .val (.int (1 : Int32))] [(.ref w_FAILED), (.ref w_COMPLETED)])) _
      obtain ⟨cq79, kq79, q79a, q79b, q79c⟩ := isOf hZ e78 (G.2.2.2.2.2.1.ext O13.2)
      obtain ⟨_, _, ⟨T79, L79, k79, n79⟩, -, X79, ⟨Lc79, hQ79, l79, y79, z79⟩, st79⟩ := X78.virtualBack hx (y := (⟨"com/example/hermit_crab/hermitcrab/JobState", "canMoveTo", "(Lcom/example/hermit_crab/hermitcrab/JobState;)Z"⟩ : MethodName)) (z := (⟨"com/example/hermit_crab/hermitcrab/JobState", "canMoveTo", "(Lcom/example/hermit_crab/hermitcrab/JobState;)Z"⟩ : MethodName)) hown (mvT hZ (ow hw 23 rfl)) (mvT hZ (ow hw 24 rfl)) (notFace_of_selects (args := #[]) (mvT hZ (ow hw 26 rfl))) (mvT hZ (ow hw 26 rfl)) (mvT hZ (ow hw 25 rfl)) (by decide) (backOf (W := 0) (rm2_3 l Z a0 hw [] G  h13 n0 O13 ) hZ (ow hw 27 rfl) (ow hw 3 rfl) (by decide) (by decide)) q79a q79c (g := (mkF m 102 #[.val (.int p1), .val (.int p2), .val (.ref b3), .val (.int (2 : Int32)), .val (.int (3 : Int32)), .val (.ref w_COMPLETED), .val (.ref w_FAILED), .val (.int (1 : Int32)), .val (.int (1 : Int32))] [(.ref w_FAILED), (.ref w_COMPLETED)])) rfl (by rw [hml]; rfl) (Steps.refl _) (argsL := [(.ref w_FAILED)]) (rest := []) (lenOf pd_2 rfl) rfl (by show 2 * 0 + _ ≤ _; exact Nat.le_of_eq rfl) (hb hby at_102) (fun _ _ => ⟨rfl, e78, (by decide : 1 + 0 ≤ _), (by decide : 5 + 0 ≤ _)⟩)
      dsimp only [Pt.U, Pt.locs, Pt.cells, Pt.slots] at X79 l79 y79 z79 st79 hQ79
      subst l79 y79 z79
      obtain ⟨rfl, N79q, e79⟩ := hQ79
      have N79 := Fr.app N78 N79q
      refine OGot.on st79 ?_
      show OGot p.tables e below (T79.setTop (mkF m 105 #[.val (.int p1), .val (.int p2), .val (.ref b3), .val (.int (2 : Int32)), .val (.int (3 : Int32)), .val (.ref w_COMPLETED), .val (.ref w_FAILED), .val (.int (1 : Int32)), .val (.int (1 : Int32))] [(.int (0 : Int32))])) _
      refine OGot.go (fun t k => XS.ifYes X79.here hx rfl (pc0 := 105) (pc' := 124) rfl (hb hby at_105) rfl (by decide) (by decide) (by decide) k) ?_
      show OGot p.tables e below (T79.setTop (mkF m 124 #[.val (.int p1), .val (.int p2), .val (.ref b3), .val (.int (2 : Int32)), .val (.int (3 : Int32)), .val (.ref w_COMPLETED), .val (.ref w_FAILED), .val (.int (1 : Int32)), .val (.int (1 : Int32))] [])) _
      refine OGot.go (fun t k => XS.iconst X79.here hx rfl (hb hby at_124) k) ?_
      show OGot p.tables e below (T79.setTop (mkF m 125 #[.val (.int p1), .val (.int p2), .val (.ref b3), .val (.int (2 : Int32)), .val (.int (3 : Int32)), .val (.ref w_COMPLETED), .val (.ref w_FAILED), .val (.int (1 : Int32)), .val (.int (1 : Int32))] [(.int (1 : Int32))])) _
      obtain ⟨fs, hr, hrun, hended, hW, hsame⟩ := X79.leave (v := some (.int (1 : Int32))) (fun h => by rw [Bd.returns] at h; cases h)
      refine ⟨_, _, retN X79 hx (t := .boolean) Bd.returns (by simp) (hb hby at_125) hr, hrun, hended, _, _, rfl, ?_, ⟨_, rfl⟩, hW, hsame.mono (by decide) (by decide)⟩
      exact (⟨rfl, N79⟩ : Q0 Z w_PENDING w_RUNNING w_COMPLETED w_FAILED w_CANCELLED p1 p2 h0 n0 _ T79.heap _)
    · rw [hk63]
      show OGot p.tables e below (T13.setTop (mkF m 48 #[.val (.int p1), .val (.int p2), .val (.ref b3), .val (.int (2 : Int32)), .unset, .unset, .unset, .unset, .unset] [(.int (4 : Int32))])) _
      refine OGot.go (fun t k => XS.istore X13.here hx rfl (hb hby at_48) rfl (l' := #[.val (.int p1), .val (.int p2), .val (.ref b3), .val (.int (2 : Int32)), .val (.int (4 : Int32)), .unset, .unset, .unset, .unset]) rfl k) ?_
      show OGot p.tables e below (T13.setTop (mkF m 50 #[.val (.int p1), .val (.int p2), .val (.ref b3), .val (.int (2 : Int32)), .val (.int (4 : Int32)), .unset, .unset, .unset, .unset] [])) _
      refine OGot.go (fun t k => XS.aloadN X13.here hx rfl (hb hby at_50) rfl rfl k) ?_
      show OGot p.tables e below (T13.setTop (mkF m 51 #[.val (.int p1), .val (.int p2), .val (.ref b3), .val (.int (2 : Int32)), .val (.int (4 : Int32)), .unset, .unset, .unset, .unset] [(.ref b3)])) _
      refine OGot.go (fun t k => XS.iloadN X13.here hx rfl (hb hby at_51) rfl k) ?_
      show OGot p.tables e below (T13.setTop (mkF m 52 #[.val (.int p1), .val (.int p2), .val (.ref b3), .val (.int (2 : Int32)), .val (.int (4 : Int32)), .unset, .unset, .unset, .unset] [(.int (2 : Int32)), (.ref b3)])) _
      obtain ⟨cl80, Ar80, qc80, Sz80, Ng80, Hh80, Gg80⟩ := id (Va13)
      have hin80 : ¬ ((2 : Int32) < 0 ∨ cl80.slots.size ≤ ((2 : Int32)).toNatClampNeg) := inb_of Sz80 ⟨by decide, by decide⟩
      have hat80 : cl80.slots[((2 : Int32)).toNatClampNeg]? = some (.ref w_COMPLETED) := Hh80.at hin80 rfl
      refine OGot.go (fun t k => X13.aaload hx (j := (2 : Int32)) (v := (.ref w_COMPLETED)) (by rw [e13]; exact Ar80.1) (State.isArrayOf_alike hZ.alike Ar80.2.1) rfl Ar80.2.2 hin80 hat80 (g := (mkF m 52 #[.val (.int p1), .val (.int p2), .val (.ref b3), .val (.int (2 : Int32)), .val (.int (4 : Int32)), .unset, .unset, .unset, .unset] [(.int (2 : Int32)), (.ref b3)])) rfl rfl (hb hby at_52) _ k) ?_
      show OGot p.tables e below (T13.setTop (mkF m 53 #[.val (.int p1), .val (.int p2), .val (.ref b3), .val (.int (2 : Int32)), .val (.int (4 : Int32)), .unset, .unset, .unset, .unset] [(.ref w_COMPLETED)])) _
      refine OGot.go (fun t k => XS.astore X13.here hx rfl (hb hby at_53) rfl rfl (l' := #[.val (.int p1), .val (.int p2), .val (.ref b3), .val (.int (2 : Int32)), .val (.int (4 : Int32)), .val (.ref w_COMPLETED), .unset, .unset, .unset]) rfl k) ?_
      show OGot p.tables e below (T13.setTop (mkF m 55 #[.val (.int p1), .val (.int p2), .val (.ref b3), .val (.int (2 : Int32)), .val (.int (4 : Int32)), .val (.ref w_COMPLETED), .unset, .unset, .unset] [])) _
      refine OGot.go (fun t k => XS.aloadN X13.here hx rfl (hb hby at_55) rfl rfl k) ?_
      show OGot p.tables e below (T13.setTop (mkF m 56 #[.val (.int p1), .val (.int p2), .val (.ref b3), .val (.int (2 : Int32)), .val (.int (4 : Int32)), .val (.ref w_COMPLETED), .unset, .unset, .unset] [(.ref b3)])) _
      refine OGot.go (fun t k => XS.iload X13.here hx rfl (hb hby at_56) rfl k) ?_
      show OGot p.tables e below (T13.setTop (mkF m 58 #[.val (.int p1), .val (.int p2), .val (.ref b3), .val (.int (2 : Int32)), .val (.int (4 : Int32)), .val (.ref w_COMPLETED), .unset, .unset, .unset] [(.int (4 : Int32)), (.ref b3)])) _
      obtain ⟨cl81, Ar81, qc81, Sz81, Ng81, Hh81, Gg81⟩ := id (Va13)
      have hin81 : ¬ ((4 : Int32) < 0 ∨ cl81.slots.size ≤ ((4 : Int32)).toNatClampNeg) := inb_of Sz81 ⟨by decide, by decide⟩
      have hat81 : cl81.slots[((4 : Int32)).toNatClampNeg]? = some (.ref w_CANCELLED) := Hh81.at hin81 rfl
      refine OGot.go (fun t k => X13.aaload hx (j := (4 : Int32)) (v := (.ref w_CANCELLED)) (by rw [e13]; exact Ar81.1) (State.isArrayOf_alike hZ.alike Ar81.2.1) rfl Ar81.2.2 hin81 hat81 (g := (mkF m 58 #[.val (.int p1), .val (.int p2), .val (.ref b3), .val (.int (2 : Int32)), .val (.int (4 : Int32)), .val (.ref w_COMPLETED), .unset, .unset, .unset] [(.int (4 : Int32)), (.ref b3)])) rfl rfl (hb hby at_58) _ k) ?_
      show OGot p.tables e below (T13.setTop (mkF m 59 #[.val (.int p1), .val (.int p2), .val (.ref b3), .val (.int (2 : Int32)), .val (.int (4 : Int32)), .val (.ref w_COMPLETED), .unset, .unset, .unset] [(.ref w_CANCELLED)])) _
      refine OGot.go (fun t k => XS.astore X13.here hx rfl (hb hby at_59) rfl rfl (l' := #[.val (.int p1), .val (.int p2), .val (.ref b3), .val (.int (2 : Int32)), .val (.int (4 : Int32)), .val (.ref w_COMPLETED), .val (.ref w_CANCELLED), .unset, .unset]) rfl k) ?_
      show OGot p.tables e below (T13.setTop (mkF m 61 #[.val (.int p1), .val (.int p2), .val (.ref b3), .val (.int (2 : Int32)), .val (.int (4 : Int32)), .val (.ref w_COMPLETED), .val (.ref w_CANCELLED), .unset, .unset] [])) _
      refine OGot.go (fun t k => XS.iloadN X13.here hx rfl (hb hby at_61) rfl k) ?_
      show OGot p.tables e below (T13.setTop (mkF m 62 #[.val (.int p1), .val (.int p2), .val (.ref b3), .val (.int (2 : Int32)), .val (.int (4 : Int32)), .val (.ref w_COMPLETED), .val (.ref w_CANCELLED), .unset, .unset] [(.int (2 : Int32))])) _
      refine OGot.go (fun t k => XS.ifNo X13.here hx rfl (hb hby at_62) rfl (by decide) k) ?_
      show OGot p.tables e below (T13.setTop (mkF m 65 #[.val (.int p1), .val (.int p2), .val (.ref b3), .val (.int (2 : Int32)), .val (.int (4 : Int32)), .val (.ref w_COMPLETED), .val (.ref w_CANCELLED), .unset, .unset] [])) _
      refine OGot.go (fun t k => XS.iloadN X13.here hx rfl (hb hby at_65) rfl k) ?_
      show OGot p.tables e below (T13.setTop (mkF m 66 #[.val (.int p1), .val (.int p2), .val (.ref b3), .val (.int (2 : Int32)), .val (.int (4 : Int32)), .val (.ref w_COMPLETED), .val (.ref w_CANCELLED), .unset, .unset] [(.int (2 : Int32))])) _
      refine OGot.go (fun t k => XS.iconst X13.here hx rfl (hb hby at_66) k) ?_
      show OGot p.tables e below (T13.setTop (mkF m 67 #[.val (.int p1), .val (.int p2), .val (.ref b3), .val (.int (2 : Int32)), .val (.int (4 : Int32)), .val (.ref w_COMPLETED), .val (.ref w_CANCELLED), .unset, .unset] [(.int (1 : Int32)), (.int (2 : Int32))])) _
      refine OGot.go (fun t k => XS.icmpNo X13.here hx rfl (hb hby at_67) rfl (by decide) k) ?_
      show OGot p.tables e below (T13.setTop (mkF m 70 #[.val (.int p1), .val (.int p2), .val (.ref b3), .val (.int (2 : Int32)), .val (.int (4 : Int32)), .val (.ref w_COMPLETED), .val (.ref w_CANCELLED), .unset, .unset] [])) _
      refine OGot.go (fun t k => XS.iconst X13.here hx rfl (hb hby at_70) k) ?_
      show OGot p.tables e below (T13.setTop (mkF m 71 #[.val (.int p1), .val (.int p2), .val (.ref b3), .val (.int (2 : Int32)), .val (.int (4 : Int32)), .val (.ref w_COMPLETED), .val (.ref w_CANCELLED), .unset, .unset] [(.int (1 : Int32))])) _
      refine OGot.go (fun t k => XS.goto X13.here hx rfl (pc0 := 71) (pc' := 75) rfl (hb hby at_71) (by decide) (by decide) k) ?_
      show OGot p.tables e below (T13.setTop (mkF m 75 #[.val (.int p1), .val (.int p2), .val (.ref b3), .val (.int (2 : Int32)), .val (.int (4 : Int32)), .val (.ref w_COMPLETED), .val (.ref w_CANCELLED), .unset, .unset] [(.int (1 : Int32))])) _
      refine OGot.go (fun t k => XS.istore X13.here hx rfl (hb hby at_75) rfl (l' := #[.val (.int p1), .val (.int p2), .val (.ref b3), .val (.int (2 : Int32)), .val (.int (4 : Int32)), .val (.ref w_COMPLETED), .val (.ref w_CANCELLED), .val (.int (1 : Int32)), .unset]) rfl k) ?_
      show OGot p.tables e below (T13.setTop (mkF m 77 #[.val (.int p1), .val (.int p2), .val (.ref b3), .val (.int (2 : Int32)), .val (.int (4 : Int32)), .val (.ref w_COMPLETED), .val (.ref w_CANCELLED), .val (.int (1 : Int32)), .unset] [])) _
      refine OGot.go (fun t k => XS.aload X13.here hx rfl (hb hby at_77) rfl rfl k) ?_
      show OGot p.tables e below (T13.setTop (mkF m 79 #[.val (.int p1), .val (.int p2), .val (.ref b3), .val (.int (2 : Int32)), .val (.int (4 : Int32)), .val (.ref w_COMPLETED), .val (.ref w_CANCELLED), .val (.int (1 : Int32)), .unset] [(.ref w_COMPLETED)])) _
      obtain ⟨cq82, kq82, q82a, q82b, q82c⟩ := isOf hZ e13 (G.2.2.2.2.2.1.ext O13.2)
      obtain ⟨_, _, ⟨T82, L82, k82, n82⟩, -, X82, ⟨Lc82, hQ82, l82, y82, z82⟩, st82⟩ := X13.virtualBack hx (y := (⟨"com/example/hermit_crab/hermitcrab/JobState", "isFinal", "()Z"⟩ : MethodName)) (z := (⟨"com/example/hermit_crab/hermitcrab/JobState", "isFinal", "()Z"⟩ : MethodName)) hown (mvT hZ (ow hw 15 rfl)) (mvT hZ (ow hw 16 rfl)) (notFace_of_selects (args := #[]) (mvT hZ (ow hw 18 rfl))) (mvT hZ (ow hw 18 rfl)) (mvT hZ (ow hw 17 rfl)) (by decide) (backOf (W := 0) (rm1_2 l Z a0 hw [] G  h13 n0 O13 ) hZ (ow hw 19 rfl) (ow hw 3 rfl) (by decide) (by decide)) q82a q82c (g := (mkF m 79 #[.val (.int p1), .val (.int p2), .val (.ref b3), .val (.int (2 : Int32)), .val (.int (4 : Int32)), .val (.ref w_COMPLETED), .val (.ref w_CANCELLED), .val (.int (1 : Int32)), .unset] [(.ref w_COMPLETED)])) rfl (by rw [hml]; rfl) (Steps.refl _) (argsL := []) (rest := []) (lenOf pd_0 rfl) rfl (by show 2 * 0 + _ ≤ _; exact Nat.le_of_eq rfl) (hb hby at_79) (fun _ _ => ⟨rfl, e13, (by decide : 1 + 0 ≤ _), (by decide : 5 + 0 ≤ _)⟩)
      dsimp only [Pt.U, Pt.locs, Pt.cells, Pt.slots] at X82 l82 y82 z82 st82 hQ82
      subst l82 y82 z82
      obtain ⟨rfl, N82q, e82⟩ := hQ82
      have N82 := Fr.app N13 N82q
      refine OGot.on st82 ?_
      show OGot p.tables e below (T82.setTop (mkF m 82 #[.val (.int p1), .val (.int p2), .val (.ref b3), .val (.int (2 : Int32)), .val (.int (4 : Int32)), .val (.ref w_COMPLETED), .val (.ref w_CANCELLED), .val (.int (1 : Int32)), .unset] [(.int (1 : Int32))])) _
      refine OGot.go (fun t k => XS.istore X82.here hx rfl (hb hby at_82) rfl (l' := #[.val (.int p1), .val (.int p2), .val (.ref b3), .val (.int (2 : Int32)), .val (.int (4 : Int32)), .val (.ref w_COMPLETED), .val (.ref w_CANCELLED), .val (.int (1 : Int32)), .val (.int (1 : Int32))]) rfl k) ?_
      show OGot p.tables e below (T82.setTop (mkF m 84 #[.val (.int p1), .val (.int p2), .val (.ref b3), .val (.int (2 : Int32)), .val (.int (4 : Int32)), .val (.ref w_COMPLETED), .val (.ref w_CANCELLED), .val (.int (1 : Int32)), .val (.int (1 : Int32))] [])) _
      refine OGot.go (fun t k => XS.iload X82.here hx rfl (hb hby at_84) rfl k) ?_
      show OGot p.tables e below (T82.setTop (mkF m 86 #[.val (.int p1), .val (.int p2), .val (.ref b3), .val (.int (2 : Int32)), .val (.int (4 : Int32)), .val (.ref w_COMPLETED), .val (.ref w_CANCELLED), .val (.int (1 : Int32)), .val (.int (1 : Int32))] [(.int (1 : Int32))])) _
      refine OGot.go (fun t k => XS.iload X82.here hx rfl (hb hby at_86) rfl k) ?_
      show OGot p.tables e below (T82.setTop (mkF m 88 #[.val (.int p1), .val (.int p2), .val (.ref b3), .val (.int (2 : Int32)), .val (.int (4 : Int32)), .val (.ref w_COMPLETED), .val (.ref w_CANCELLED), .val (.int (1 : Int32)), .val (.int (1 : Int32))] [(.int (1 : Int32)), (.int (1 : Int32))])) _
      refine OGot.go (fun t k => XS.icmpYes X82.here hx rfl (pc0 := 88) (pc' := 93) rfl (hb hby at_88) rfl (by decide) (by decide) (by decide) k) ?_
      show OGot p.tables e below (T82.setTop (mkF m 93 #[.val (.int p1), .val (.int p2), .val (.ref b3), .val (.int (2 : Int32)), .val (.int (4 : Int32)), .val (.ref w_COMPLETED), .val (.ref w_CANCELLED), .val (.int (1 : Int32)), .val (.int (1 : Int32))] [])) _
      refine OGot.go (fun t k => XS.iload X82.here hx rfl (hb hby at_93) rfl k) ?_
      show OGot p.tables e below (T82.setTop (mkF m 95 #[.val (.int p1), .val (.int p2), .val (.ref b3), .val (.int (2 : Int32)), .val (.int (4 : Int32)), .val (.ref w_COMPLETED), .val (.ref w_CANCELLED), .val (.int (1 : Int32)), .val (.int (1 : Int32))] [(.int (1 : Int32))])) _
      refine OGot.go (fun t k => XS.ifNo X82.here hx rfl (hb hby at_95) rfl (by decide) k) ?_
      show OGot p.tables e below (T82.setTop (mkF m 98 #[.val (.int p1), .val (.int p2), .val (.ref b3), .val (.int (2 : Int32)), .val (.int (4 : Int32)), .val (.ref w_COMPLETED), .val (.ref w_CANCELLED), .val (.int (1 : Int32)), .val (.int (1 : Int32))] [])) _
      refine OGot.go (fun t k => XS.aload X82.here hx rfl (hb hby at_98) rfl rfl k) ?_
      show OGot p.tables e below (T82.setTop (mkF m 100 #[.val (.int p1), .val (.int p2), .val (.ref b3), .val (.int (2 : Int32)), .val (.int (4 : Int32)), .val (.ref w_COMPLETED), .val (.ref w_CANCELLED), .val (.int (1 : Int32)), .val (.int (1 : Int32))] [(.ref w_COMPLETED)])) _
      refine OGot.go (fun t k => XS.aload X82.here hx rfl (hb hby at_100) rfl rfl k) ?_
      show OGot p.tables e below (T82.setTop (mkF m 102 #[.val (.int p1), .val (.int p2), .val (.ref b3), .val (.int (2 : Int32)), .val (.int (4 : Int32)), .val (.ref w_COMPLETED), .val (.ref w_CANCELLED), .val (.int (1 : Int32)), .val (.int (1 : Int32))] [(.ref w_CANCELLED), (.ref w_COMPLETED)])) _
      obtain ⟨cq83, kq83, q83a, q83b, q83c⟩ := isOf hZ e82 (G.2.2.2.2.2.1.ext O13.2)
      obtain ⟨_, _, ⟨T83, L83, k83, n83⟩, -, X83, ⟨Lc83, hQ83, l83, y83, z83⟩, st83⟩ := X82.virtualBack hx (y := (⟨"com/example/hermit_crab/hermitcrab/JobState", "canMoveTo", "(Lcom/example/hermit_crab/hermitcrab/JobState;)Z"⟩ : MethodName)) (z := (⟨"com/example/hermit_crab/hermitcrab/JobState", "canMoveTo", "(Lcom/example/hermit_crab/hermitcrab/JobState;)Z"⟩ : MethodName)) hown (mvT hZ (ow hw 23 rfl)) (mvT hZ (ow hw 24 rfl)) (notFace_of_selects (args := #[]) (mvT hZ (ow hw 26 rfl))) (mvT hZ (ow hw 26 rfl)) (mvT hZ (ow hw 25 rfl)) (by decide) (backOf (W := 0) (rm2_4 l Z a0 hw [] G  h13 n0 O13 ) hZ (ow hw 27 rfl) (ow hw 3 rfl) (by decide) (by decide)) q83a q83c (g := (mkF m 102 #[.val (.int p1), .val (.int p2), .val (.ref b3), .val (.int (2 : Int32)), .val (.int (4 : Int32)), .val (.ref w_COMPLETED), .val (.ref w_CANCELLED), .val (.int (1 : Int32)), .val (.int (1 : Int32))] [(.ref w_CANCELLED), (.ref w_COMPLETED)])) rfl (by rw [hml]; rfl) (Steps.refl _) (argsL := [(.ref w_CANCELLED)]) (rest := []) (lenOf pd_2 rfl) rfl (by show 2 * 0 + _ ≤ _; exact Nat.le_of_eq rfl) (hb hby at_102) (fun _ _ => ⟨rfl, e82, (by decide : 1 + 0 ≤ _), (by decide : 5 + 0 ≤ _)⟩)
      dsimp only [Pt.U, Pt.locs, Pt.cells, Pt.slots] at X83 l83 y83 z83 st83 hQ83
      subst l83 y83 z83
      obtain ⟨rfl, N83q, e83⟩ := hQ83
      have N83 := Fr.app N82 N83q
      refine OGot.on st83 ?_
      show OGot p.tables e below (T83.setTop (mkF m 105 #[.val (.int p1), .val (.int p2), .val (.ref b3), .val (.int (2 : Int32)), .val (.int (4 : Int32)), .val (.ref w_COMPLETED), .val (.ref w_CANCELLED), .val (.int (1 : Int32)), .val (.int (1 : Int32))] [(.int (0 : Int32))])) _
      refine OGot.go (fun t k => XS.ifYes X83.here hx rfl (pc0 := 105) (pc' := 124) rfl (hb hby at_105) rfl (by decide) (by decide) (by decide) k) ?_
      show OGot p.tables e below (T83.setTop (mkF m 124 #[.val (.int p1), .val (.int p2), .val (.ref b3), .val (.int (2 : Int32)), .val (.int (4 : Int32)), .val (.ref w_COMPLETED), .val (.ref w_CANCELLED), .val (.int (1 : Int32)), .val (.int (1 : Int32))] [])) _
      refine OGot.go (fun t k => XS.iconst X83.here hx rfl (hb hby at_124) k) ?_
      show OGot p.tables e below (T83.setTop (mkF m 125 #[.val (.int p1), .val (.int p2), .val (.ref b3), .val (.int (2 : Int32)), .val (.int (4 : Int32)), .val (.ref w_COMPLETED), .val (.ref w_CANCELLED), .val (.int (1 : Int32)), .val (.int (1 : Int32))] [(.int (1 : Int32))])) _
      obtain ⟨fs, hr, hrun, hended, hW, hsame⟩ := X83.leave (v := some (.int (1 : Int32))) (fun h => by rw [Bd.returns] at h; cases h)
      refine ⟨_, _, retN X83 hx (t := .boolean) Bd.returns (by simp) (hb hby at_125) hr, hrun, hended, _, _, rfl, ?_, ⟨_, rfl⟩, hW, hsame.mono (by decide) (by decide)⟩
      exact (⟨rfl, N83⟩ : Q0 Z w_PENDING w_RUNNING w_COMPLETED w_FAILED w_CANCELLED p1 p2 h0 n0 _ T83.heap _)
  · rw [hk17]
    show OGot p.tables e below (T13.setTop (mkF m 41 #[.val (.int p1), .val (.int p2), .val (.ref b3), .unset, .unset, .unset, .unset, .unset, .unset] [(.int (3 : Int32))])) _
    refine OGot.go (fun t k => XS.istoreN X13.here hx rfl (hb hby at_41) rfl (l' := #[.val (.int p1), .val (.int p2), .val (.ref b3), .val (.int (3 : Int32)), .unset, .unset, .unset, .unset, .unset]) rfl k) ?_
    show OGot p.tables e below (T13.setTop (mkF m 42 #[.val (.int p1), .val (.int p2), .val (.ref b3), .val (.int (3 : Int32)), .unset, .unset, .unset, .unset, .unset] [])) _
    refine OGot.go (fun t k => XS.iloadN X13.here hx rfl (hb hby at_42) rfl k) ?_
    show OGot p.tables e below (T13.setTop (mkF m 43 #[.val (.int p1), .val (.int p2), .val (.ref b3), .val (.int (3 : Int32)), .unset, .unset, .unset, .unset, .unset] [(.int p2)])) _
    refine OGot.go (fun t k => X13.ldcInt hx hown (mvT hZ (ow hw 14 rfl)) (g := (mkF m 43 #[.val (.int p1), .val (.int p2), .val (.ref b3), .val (.int (3 : Int32)), .unset, .unset, .unset, .unset, .unset] [(.int p2)])) rfl (hb hby at_43) _ k) ?_
    show OGot p.tables e below (T13.setTop (mkF m 45 #[.val (.int p1), .val (.int p2), .val (.ref b3), .val (.int (3 : Int32)), .unset, .unset, .unset, .unset, .unset] [(.int (2147483647 : Int32)), (.int p2)])) _
    refine OGot.go (fun t k => XS.iand X13.here hx rfl (hb hby at_45) rfl k) ?_
    show OGot p.tables e below (T13.setTop (mkF m 46 #[.val (.int p1), .val (.int p2), .val (.ref b3), .val (.int (3 : Int32)), .unset, .unset, .unset, .unset, .unset] [(.int (p2 &&& (2147483647 : Int32)))])) _
    refine OGot.go (fun t k => XS.iconst X13.here hx rfl (hb hby at_46) k) ?_
    show OGot p.tables e below (T13.setTop (mkF m 47 #[.val (.int p1), .val (.int p2), .val (.ref b3), .val (.int (3 : Int32)), .unset, .unset, .unset, .unset, .unset] [(.int (5 : Int32)), (.int (p2 &&& (2147483647 : Int32)))])) _
    refine OGot.go (fun t k => iremM X13 hx rfl (hb hby at_47) rfl (by decide) k) ?_
    show OGot p.tables e below (T13.setTop (mkF m 48 #[.val (.int p1), .val (.int p2), .val (.ref b3), .val (.int (3 : Int32)), .unset, .unset, .unset, .unset, .unset] [(.int ((p2 &&& (2147483647 : Int32)) % (5 : Int32)))])) _
    rcases own_rem5 p2 with hk84 | hk85 | hk86 | hk87 | hk88
    · rw [hk84]
      show OGot p.tables e below (T13.setTop (mkF m 48 #[.val (.int p1), .val (.int p2), .val (.ref b3), .val (.int (3 : Int32)), .unset, .unset, .unset, .unset, .unset] [(.int (0 : Int32))])) _
      refine OGot.go (fun t k => XS.istore X13.here hx rfl (hb hby at_48) rfl (l' := #[.val (.int p1), .val (.int p2), .val (.ref b3), .val (.int (3 : Int32)), .val (.int (0 : Int32)), .unset, .unset, .unset, .unset]) rfl k) ?_
      show OGot p.tables e below (T13.setTop (mkF m 50 #[.val (.int p1), .val (.int p2), .val (.ref b3), .val (.int (3 : Int32)), .val (.int (0 : Int32)), .unset, .unset, .unset, .unset] [])) _
      refine OGot.go (fun t k => XS.aloadN X13.here hx rfl (hb hby at_50) rfl rfl k) ?_
      show OGot p.tables e below (T13.setTop (mkF m 51 #[.val (.int p1), .val (.int p2), .val (.ref b3), .val (.int (3 : Int32)), .val (.int (0 : Int32)), .unset, .unset, .unset, .unset] [(.ref b3)])) _
      refine OGot.go (fun t k => XS.iloadN X13.here hx rfl (hb hby at_51) rfl k) ?_
      show OGot p.tables e below (T13.setTop (mkF m 52 #[.val (.int p1), .val (.int p2), .val (.ref b3), .val (.int (3 : Int32)), .val (.int (0 : Int32)), .unset, .unset, .unset, .unset] [(.int (3 : Int32)), (.ref b3)])) _
      obtain ⟨cl89, Ar89, qc89, Sz89, Ng89, Hh89, Gg89⟩ := id (Va13)
      have hin89 : ¬ ((3 : Int32) < 0 ∨ cl89.slots.size ≤ ((3 : Int32)).toNatClampNeg) := inb_of Sz89 ⟨by decide, by decide⟩
      have hat89 : cl89.slots[((3 : Int32)).toNatClampNeg]? = some (.ref w_FAILED) := Hh89.at hin89 rfl
      refine OGot.go (fun t k => X13.aaload hx (j := (3 : Int32)) (v := (.ref w_FAILED)) (by rw [e13]; exact Ar89.1) (State.isArrayOf_alike hZ.alike Ar89.2.1) rfl Ar89.2.2 hin89 hat89 (g := (mkF m 52 #[.val (.int p1), .val (.int p2), .val (.ref b3), .val (.int (3 : Int32)), .val (.int (0 : Int32)), .unset, .unset, .unset, .unset] [(.int (3 : Int32)), (.ref b3)])) rfl rfl (hb hby at_52) _ k) ?_
      show OGot p.tables e below (T13.setTop (mkF m 53 #[.val (.int p1), .val (.int p2), .val (.ref b3), .val (.int (3 : Int32)), .val (.int (0 : Int32)), .unset, .unset, .unset, .unset] [(.ref w_FAILED)])) _
      refine OGot.go (fun t k => XS.astore X13.here hx rfl (hb hby at_53) rfl rfl (l' := #[.val (.int p1), .val (.int p2), .val (.ref b3), .val (.int (3 : Int32)), .val (.int (0 : Int32)), .val (.ref w_FAILED), .unset, .unset, .unset]) rfl k) ?_
      show OGot p.tables e below (T13.setTop (mkF m 55 #[.val (.int p1), .val (.int p2), .val (.ref b3), .val (.int (3 : Int32)), .val (.int (0 : Int32)), .val (.ref w_FAILED), .unset, .unset, .unset] [])) _
      refine OGot.go (fun t k => XS.aloadN X13.here hx rfl (hb hby at_55) rfl rfl k) ?_
      show OGot p.tables e below (T13.setTop (mkF m 56 #[.val (.int p1), .val (.int p2), .val (.ref b3), .val (.int (3 : Int32)), .val (.int (0 : Int32)), .val (.ref w_FAILED), .unset, .unset, .unset] [(.ref b3)])) _
      refine OGot.go (fun t k => XS.iload X13.here hx rfl (hb hby at_56) rfl k) ?_
      show OGot p.tables e below (T13.setTop (mkF m 58 #[.val (.int p1), .val (.int p2), .val (.ref b3), .val (.int (3 : Int32)), .val (.int (0 : Int32)), .val (.ref w_FAILED), .unset, .unset, .unset] [(.int (0 : Int32)), (.ref b3)])) _
      obtain ⟨cl90, Ar90, qc90, Sz90, Ng90, Hh90, Gg90⟩ := id (Va13)
      have hin90 : ¬ ((0 : Int32) < 0 ∨ cl90.slots.size ≤ ((0 : Int32)).toNatClampNeg) := inb_of Sz90 ⟨by decide, by decide⟩
      have hat90 : cl90.slots[((0 : Int32)).toNatClampNeg]? = some (.ref w_PENDING) := Hh90.at hin90 rfl
      refine OGot.go (fun t k => X13.aaload hx (j := (0 : Int32)) (v := (.ref w_PENDING)) (by rw [e13]; exact Ar90.1) (State.isArrayOf_alike hZ.alike Ar90.2.1) rfl Ar90.2.2 hin90 hat90 (g := (mkF m 58 #[.val (.int p1), .val (.int p2), .val (.ref b3), .val (.int (3 : Int32)), .val (.int (0 : Int32)), .val (.ref w_FAILED), .unset, .unset, .unset] [(.int (0 : Int32)), (.ref b3)])) rfl rfl (hb hby at_58) _ k) ?_
      show OGot p.tables e below (T13.setTop (mkF m 59 #[.val (.int p1), .val (.int p2), .val (.ref b3), .val (.int (3 : Int32)), .val (.int (0 : Int32)), .val (.ref w_FAILED), .unset, .unset, .unset] [(.ref w_PENDING)])) _
      refine OGot.go (fun t k => XS.astore X13.here hx rfl (hb hby at_59) rfl rfl (l' := #[.val (.int p1), .val (.int p2), .val (.ref b3), .val (.int (3 : Int32)), .val (.int (0 : Int32)), .val (.ref w_FAILED), .val (.ref w_PENDING), .unset, .unset]) rfl k) ?_
      show OGot p.tables e below (T13.setTop (mkF m 61 #[.val (.int p1), .val (.int p2), .val (.ref b3), .val (.int (3 : Int32)), .val (.int (0 : Int32)), .val (.ref w_FAILED), .val (.ref w_PENDING), .unset, .unset] [])) _
      refine OGot.go (fun t k => XS.iloadN X13.here hx rfl (hb hby at_61) rfl k) ?_
      show OGot p.tables e below (T13.setTop (mkF m 62 #[.val (.int p1), .val (.int p2), .val (.ref b3), .val (.int (3 : Int32)), .val (.int (0 : Int32)), .val (.ref w_FAILED), .val (.ref w_PENDING), .unset, .unset] [(.int (3 : Int32))])) _
      refine OGot.go (fun t k => XS.ifNo X13.here hx rfl (hb hby at_62) rfl (by decide) k) ?_
      show OGot p.tables e below (T13.setTop (mkF m 65 #[.val (.int p1), .val (.int p2), .val (.ref b3), .val (.int (3 : Int32)), .val (.int (0 : Int32)), .val (.ref w_FAILED), .val (.ref w_PENDING), .unset, .unset] [])) _
      refine OGot.go (fun t k => XS.iloadN X13.here hx rfl (hb hby at_65) rfl k) ?_
      show OGot p.tables e below (T13.setTop (mkF m 66 #[.val (.int p1), .val (.int p2), .val (.ref b3), .val (.int (3 : Int32)), .val (.int (0 : Int32)), .val (.ref w_FAILED), .val (.ref w_PENDING), .unset, .unset] [(.int (3 : Int32))])) _
      refine OGot.go (fun t k => XS.iconst X13.here hx rfl (hb hby at_66) k) ?_
      show OGot p.tables e below (T13.setTop (mkF m 67 #[.val (.int p1), .val (.int p2), .val (.ref b3), .val (.int (3 : Int32)), .val (.int (0 : Int32)), .val (.ref w_FAILED), .val (.ref w_PENDING), .unset, .unset] [(.int (1 : Int32)), (.int (3 : Int32))])) _
      refine OGot.go (fun t k => XS.icmpNo X13.here hx rfl (hb hby at_67) rfl (by decide) k) ?_
      show OGot p.tables e below (T13.setTop (mkF m 70 #[.val (.int p1), .val (.int p2), .val (.ref b3), .val (.int (3 : Int32)), .val (.int (0 : Int32)), .val (.ref w_FAILED), .val (.ref w_PENDING), .unset, .unset] [])) _
      refine OGot.go (fun t k => XS.iconst X13.here hx rfl (hb hby at_70) k) ?_
      show OGot p.tables e below (T13.setTop (mkF m 71 #[.val (.int p1), .val (.int p2), .val (.ref b3), .val (.int (3 : Int32)), .val (.int (0 : Int32)), .val (.ref w_FAILED), .val (.ref w_PENDING), .unset, .unset] [(.int (1 : Int32))])) _
      refine OGot.go (fun t k => XS.goto X13.here hx rfl (pc0 := 71) (pc' := 75) rfl (hb hby at_71) (by decide) (by decide) k) ?_
      show OGot p.tables e below (T13.setTop (mkF m 75 #[.val (.int p1), .val (.int p2), .val (.ref b3), .val (.int (3 : Int32)), .val (.int (0 : Int32)), .val (.ref w_FAILED), .val (.ref w_PENDING), .unset, .unset] [(.int (1 : Int32))])) _
      refine OGot.go (fun t k => XS.istore X13.here hx rfl (hb hby at_75) rfl (l' := #[.val (.int p1), .val (.int p2), .val (.ref b3), .val (.int (3 : Int32)), .val (.int (0 : Int32)), .val (.ref w_FAILED), .val (.ref w_PENDING), .val (.int (1 : Int32)), .unset]) rfl k) ?_
      show OGot p.tables e below (T13.setTop (mkF m 77 #[.val (.int p1), .val (.int p2), .val (.ref b3), .val (.int (3 : Int32)), .val (.int (0 : Int32)), .val (.ref w_FAILED), .val (.ref w_PENDING), .val (.int (1 : Int32)), .unset] [])) _
      refine OGot.go (fun t k => XS.aload X13.here hx rfl (hb hby at_77) rfl rfl k) ?_
      show OGot p.tables e below (T13.setTop (mkF m 79 #[.val (.int p1), .val (.int p2), .val (.ref b3), .val (.int (3 : Int32)), .val (.int (0 : Int32)), .val (.ref w_FAILED), .val (.ref w_PENDING), .val (.int (1 : Int32)), .unset] [(.ref w_FAILED)])) _
      obtain ⟨cq91, kq91, q91a, q91b, q91c⟩ := isOf hZ e13 (G.2.2.2.2.2.2.2.1.ext O13.2)
      obtain ⟨_, _, ⟨T91, L91, k91, n91⟩, -, X91, ⟨Lc91, hQ91, l91, y91, z91⟩, st91⟩ := X13.virtualBack hx (y := (⟨"com/example/hermit_crab/hermitcrab/JobState", "isFinal", "()Z"⟩ : MethodName)) (z := (⟨"com/example/hermit_crab/hermitcrab/JobState", "isFinal", "()Z"⟩ : MethodName)) hown (mvT hZ (ow hw 15 rfl)) (mvT hZ (ow hw 16 rfl)) (notFace_of_selects (args := #[]) (mvT hZ (ow hw 18 rfl))) (mvT hZ (ow hw 18 rfl)) (mvT hZ (ow hw 17 rfl)) (by decide) (backOf (W := 0) (rm1_3 l Z a0 hw [] G  h13 n0 O13 ) hZ (ow hw 19 rfl) (ow hw 3 rfl) (by decide) (by decide)) q91a q91c (g := (mkF m 79 #[.val (.int p1), .val (.int p2), .val (.ref b3), .val (.int (3 : Int32)), .val (.int (0 : Int32)), .val (.ref w_FAILED), .val (.ref w_PENDING), .val (.int (1 : Int32)), .unset] [(.ref w_FAILED)])) rfl (by rw [hml]; rfl) (Steps.refl _) (argsL := []) (rest := []) (lenOf pd_0 rfl) rfl (by show 2 * 0 + _ ≤ _; exact Nat.le_of_eq rfl) (hb hby at_79) (fun _ _ => ⟨rfl, e13, (by decide : 1 + 0 ≤ _), (by decide : 5 + 0 ≤ _)⟩)
      dsimp only [Pt.U, Pt.locs, Pt.cells, Pt.slots] at X91 l91 y91 z91 st91 hQ91
      subst l91 y91 z91
      obtain ⟨rfl, N91q, e91⟩ := hQ91
      have N91 := Fr.app N13 N91q
      refine OGot.on st91 ?_
      show OGot p.tables e below (T91.setTop (mkF m 82 #[.val (.int p1), .val (.int p2), .val (.ref b3), .val (.int (3 : Int32)), .val (.int (0 : Int32)), .val (.ref w_FAILED), .val (.ref w_PENDING), .val (.int (1 : Int32)), .unset] [(.int (1 : Int32))])) _
      refine OGot.go (fun t k => XS.istore X91.here hx rfl (hb hby at_82) rfl (l' := #[.val (.int p1), .val (.int p2), .val (.ref b3), .val (.int (3 : Int32)), .val (.int (0 : Int32)), .val (.ref w_FAILED), .val (.ref w_PENDING), .val (.int (1 : Int32)), .val (.int (1 : Int32))]) rfl k) ?_
      show OGot p.tables e below (T91.setTop (mkF m 84 #[.val (.int p1), .val (.int p2), .val (.ref b3), .val (.int (3 : Int32)), .val (.int (0 : Int32)), .val (.ref w_FAILED), .val (.ref w_PENDING), .val (.int (1 : Int32)), .val (.int (1 : Int32))] [])) _
      refine OGot.go (fun t k => XS.iload X91.here hx rfl (hb hby at_84) rfl k) ?_
      show OGot p.tables e below (T91.setTop (mkF m 86 #[.val (.int p1), .val (.int p2), .val (.ref b3), .val (.int (3 : Int32)), .val (.int (0 : Int32)), .val (.ref w_FAILED), .val (.ref w_PENDING), .val (.int (1 : Int32)), .val (.int (1 : Int32))] [(.int (1 : Int32))])) _
      refine OGot.go (fun t k => XS.iload X91.here hx rfl (hb hby at_86) rfl k) ?_
      show OGot p.tables e below (T91.setTop (mkF m 88 #[.val (.int p1), .val (.int p2), .val (.ref b3), .val (.int (3 : Int32)), .val (.int (0 : Int32)), .val (.ref w_FAILED), .val (.ref w_PENDING), .val (.int (1 : Int32)), .val (.int (1 : Int32))] [(.int (1 : Int32)), (.int (1 : Int32))])) _
      refine OGot.go (fun t k => XS.icmpYes X91.here hx rfl (pc0 := 88) (pc' := 93) rfl (hb hby at_88) rfl (by decide) (by decide) (by decide) k) ?_
      show OGot p.tables e below (T91.setTop (mkF m 93 #[.val (.int p1), .val (.int p2), .val (.ref b3), .val (.int (3 : Int32)), .val (.int (0 : Int32)), .val (.ref w_FAILED), .val (.ref w_PENDING), .val (.int (1 : Int32)), .val (.int (1 : Int32))] [])) _
      refine OGot.go (fun t k => XS.iload X91.here hx rfl (hb hby at_93) rfl k) ?_
      show OGot p.tables e below (T91.setTop (mkF m 95 #[.val (.int p1), .val (.int p2), .val (.ref b3), .val (.int (3 : Int32)), .val (.int (0 : Int32)), .val (.ref w_FAILED), .val (.ref w_PENDING), .val (.int (1 : Int32)), .val (.int (1 : Int32))] [(.int (1 : Int32))])) _
      refine OGot.go (fun t k => XS.ifNo X91.here hx rfl (hb hby at_95) rfl (by decide) k) ?_
      show OGot p.tables e below (T91.setTop (mkF m 98 #[.val (.int p1), .val (.int p2), .val (.ref b3), .val (.int (3 : Int32)), .val (.int (0 : Int32)), .val (.ref w_FAILED), .val (.ref w_PENDING), .val (.int (1 : Int32)), .val (.int (1 : Int32))] [])) _
      refine OGot.go (fun t k => XS.aload X91.here hx rfl (hb hby at_98) rfl rfl k) ?_
      show OGot p.tables e below (T91.setTop (mkF m 100 #[.val (.int p1), .val (.int p2), .val (.ref b3), .val (.int (3 : Int32)), .val (.int (0 : Int32)), .val (.ref w_FAILED), .val (.ref w_PENDING), .val (.int (1 : Int32)), .val (.int (1 : Int32))] [(.ref w_FAILED)])) _
      refine OGot.go (fun t k => XS.aload X91.here hx rfl (hb hby at_100) rfl rfl k) ?_
      show OGot p.tables e below (T91.setTop (mkF m 102 #[.val (.int p1), .val (.int p2), .val (.ref b3), .val (.int (3 : Int32)), .val (.int (0 : Int32)), .val (.ref w_FAILED), .val (.ref w_PENDING), .val (.int (1 : Int32)), .val (.int (1 : Int32))] [(.ref w_PENDING), (.ref w_FAILED)])) _
      obtain ⟨cq92, kq92, q92a, q92b, q92c⟩ := isOf hZ e91 (G.2.2.2.2.2.2.2.1.ext O13.2)
      obtain ⟨_, _, ⟨T92, L92, k92, n92⟩, -, X92, ⟨Lc92, hQ92, l92, y92, z92⟩, st92⟩ := X91.virtualBack hx (y := (⟨"com/example/hermit_crab/hermitcrab/JobState", "canMoveTo", "(Lcom/example/hermit_crab/hermitcrab/JobState;)Z"⟩ : MethodName)) (z := (⟨"com/example/hermit_crab/hermitcrab/JobState", "canMoveTo", "(Lcom/example/hermit_crab/hermitcrab/JobState;)Z"⟩ : MethodName)) hown (mvT hZ (ow hw 23 rfl)) (mvT hZ (ow hw 24 rfl)) (notFace_of_selects (args := #[]) (mvT hZ (ow hw 26 rfl))) (mvT hZ (ow hw 26 rfl)) (mvT hZ (ow hw 25 rfl)) (by decide) (backOf (W := 0) (rm2_5 l Z a0 hw [] G  h13 n0 O13 ) hZ (ow hw 27 rfl) (ow hw 3 rfl) (by decide) (by decide)) q92a q92c (g := (mkF m 102 #[.val (.int p1), .val (.int p2), .val (.ref b3), .val (.int (3 : Int32)), .val (.int (0 : Int32)), .val (.ref w_FAILED), .val (.ref w_PENDING), .val (.int (1 : Int32)), .val (.int (1 : Int32))] [(.ref w_PENDING), (.ref w_FAILED)])) rfl (by rw [hml]; rfl) (Steps.refl _) (argsL := [(.ref w_PENDING)]) (rest := []) (lenOf pd_2 rfl) rfl (by show 2 * 0 + _ ≤ _; exact Nat.le_of_eq rfl) (hb hby at_102) (fun _ _ => ⟨rfl, e91, (by decide : 1 + 0 ≤ _), (by decide : 5 + 0 ≤ _)⟩)
      dsimp only [Pt.U, Pt.locs, Pt.cells, Pt.slots] at X92 l92 y92 z92 st92 hQ92
      subst l92 y92 z92
      obtain ⟨rfl, N92q, e92⟩ := hQ92
      have N92 := Fr.app N91 N92q
      refine OGot.on st92 ?_
      show OGot p.tables e below (T92.setTop (mkF m 105 #[.val (.int p1), .val (.int p2), .val (.ref b3), .val (.int (3 : Int32)), .val (.int (0 : Int32)), .val (.ref w_FAILED), .val (.ref w_PENDING), .val (.int (1 : Int32)), .val (.int (1 : Int32))] [(.int (1 : Int32))])) _
      refine OGot.go (fun t k => XS.ifNo X92.here hx rfl (hb hby at_105) rfl (by decide) k) ?_
      show OGot p.tables e below (T92.setTop (mkF m 108 #[.val (.int p1), .val (.int p2), .val (.ref b3), .val (.int (3 : Int32)), .val (.int (0 : Int32)), .val (.ref w_FAILED), .val (.ref w_PENDING), .val (.int (1 : Int32)), .val (.int (1 : Int32))] [])) _
      refine OGot.go (fun t k => XS.iloadN X92.here hx rfl (hb hby at_108) rfl k) ?_
      show OGot p.tables e below (T92.setTop (mkF m 109 #[.val (.int p1), .val (.int p2), .val (.ref b3), .val (.int (3 : Int32)), .val (.int (0 : Int32)), .val (.ref w_FAILED), .val (.ref w_PENDING), .val (.int (1 : Int32)), .val (.int (1 : Int32))] [(.int (3 : Int32))])) _
      refine OGot.go (fun t k => XS.iconst X92.here hx rfl (hb hby at_109) k) ?_
      show OGot p.tables e below (T92.setTop (mkF m 110 #[.val (.int p1), .val (.int p2), .val (.ref b3), .val (.int (3 : Int32)), .val (.int (0 : Int32)), .val (.ref w_FAILED), .val (.ref w_PENDING), .val (.int (1 : Int32)), .val (.int (1 : Int32))] [(.int (3 : Int32)), (.int (3 : Int32))])) _
      refine OGot.go (fun t k => XS.icmpNo X92.here hx rfl (hb hby at_110) rfl (by decide) k) ?_
      show OGot p.tables e below (T92.setTop (mkF m 113 #[.val (.int p1), .val (.int p2), .val (.ref b3), .val (.int (3 : Int32)), .val (.int (0 : Int32)), .val (.ref w_FAILED), .val (.ref w_PENDING), .val (.int (1 : Int32)), .val (.int (1 : Int32))] [])) _
      refine OGot.go (fun t k => XS.iload X92.here hx rfl (hb hby at_113) rfl k) ?_
      show OGot p.tables e below (T92.setTop (mkF m 115 #[.val (.int p1), .val (.int p2), .val (.ref b3), .val (.int (3 : Int32)), .val (.int (0 : Int32)), .val (.ref w_FAILED), .val (.ref w_PENDING), .val (.int (1 : Int32)), .val (.int (1 : Int32))] [(.int (0 : Int32))])) _
      refine OGot.go (fun t k => XS.ifNo X92.here hx rfl (hb hby at_115) rfl (by decide) k) ?_
      show OGot p.tables e below (T92.setTop (mkF m 118 #[.val (.int p1), .val (.int p2), .val (.ref b3), .val (.int (3 : Int32)), .val (.int (0 : Int32)), .val (.ref w_FAILED), .val (.ref w_PENDING), .val (.int (1 : Int32)), .val (.int (1 : Int32))] [])) _
      refine OGot.go (fun t k => XS.iconst X92.here hx rfl (hb hby at_118) k) ?_
      show OGot p.tables e below (T92.setTop (mkF m 119 #[.val (.int p1), .val (.int p2), .val (.ref b3), .val (.int (3 : Int32)), .val (.int (0 : Int32)), .val (.ref w_FAILED), .val (.ref w_PENDING), .val (.int (1 : Int32)), .val (.int (1 : Int32))] [(.int (1 : Int32))])) _
      refine OGot.go (fun t k => XS.goto X92.here hx rfl (pc0 := 119) (pc' := 123) rfl (hb hby at_119) (by decide) (by decide) k) ?_
      show OGot p.tables e below (T92.setTop (mkF m 123 #[.val (.int p1), .val (.int p2), .val (.ref b3), .val (.int (3 : Int32)), .val (.int (0 : Int32)), .val (.ref w_FAILED), .val (.ref w_PENDING), .val (.int (1 : Int32)), .val (.int (1 : Int32))] [(.int (1 : Int32))])) _
      obtain ⟨fs, hr, hrun, hended, hW, hsame⟩ := X92.leave (v := some (.int (1 : Int32))) (fun h => by rw [Bd.returns] at h; cases h)
      refine ⟨_, _, retN X92 hx (t := .boolean) Bd.returns (by simp) (hb hby at_123) hr, hrun, hended, _, _, rfl, ?_, ⟨_, rfl⟩, hW, hsame.mono (by decide) (by decide)⟩
      exact (⟨rfl, N92⟩ : Q0 Z w_PENDING w_RUNNING w_COMPLETED w_FAILED w_CANCELLED p1 p2 h0 n0 _ T92.heap _)
    · rw [hk85]
      show OGot p.tables e below (T13.setTop (mkF m 48 #[.val (.int p1), .val (.int p2), .val (.ref b3), .val (.int (3 : Int32)), .unset, .unset, .unset, .unset, .unset] [(.int (1 : Int32))])) _
      refine OGot.go (fun t k => XS.istore X13.here hx rfl (hb hby at_48) rfl (l' := #[.val (.int p1), .val (.int p2), .val (.ref b3), .val (.int (3 : Int32)), .val (.int (1 : Int32)), .unset, .unset, .unset, .unset]) rfl k) ?_
      show OGot p.tables e below (T13.setTop (mkF m 50 #[.val (.int p1), .val (.int p2), .val (.ref b3), .val (.int (3 : Int32)), .val (.int (1 : Int32)), .unset, .unset, .unset, .unset] [])) _
      refine OGot.go (fun t k => XS.aloadN X13.here hx rfl (hb hby at_50) rfl rfl k) ?_
      show OGot p.tables e below (T13.setTop (mkF m 51 #[.val (.int p1), .val (.int p2), .val (.ref b3), .val (.int (3 : Int32)), .val (.int (1 : Int32)), .unset, .unset, .unset, .unset] [(.ref b3)])) _
      refine OGot.go (fun t k => XS.iloadN X13.here hx rfl (hb hby at_51) rfl k) ?_
      show OGot p.tables e below (T13.setTop (mkF m 52 #[.val (.int p1), .val (.int p2), .val (.ref b3), .val (.int (3 : Int32)), .val (.int (1 : Int32)), .unset, .unset, .unset, .unset] [(.int (3 : Int32)), (.ref b3)])) _
      obtain ⟨cl93, Ar93, qc93, Sz93, Ng93, Hh93, Gg93⟩ := id (Va13)
      have hin93 : ¬ ((3 : Int32) < 0 ∨ cl93.slots.size ≤ ((3 : Int32)).toNatClampNeg) := inb_of Sz93 ⟨by decide, by decide⟩
      have hat93 : cl93.slots[((3 : Int32)).toNatClampNeg]? = some (.ref w_FAILED) := Hh93.at hin93 rfl
      refine OGot.go (fun t k => X13.aaload hx (j := (3 : Int32)) (v := (.ref w_FAILED)) (by rw [e13]; exact Ar93.1) (State.isArrayOf_alike hZ.alike Ar93.2.1) rfl Ar93.2.2 hin93 hat93 (g := (mkF m 52 #[.val (.int p1), .val (.int p2), .val (.ref b3), .val (.int (3 : Int32)), .val (.int (1 : Int32)), .unset, .unset, .unset, .unset] [(.int (3 : Int32)), (.ref b3)])) rfl rfl (hb hby at_52) _ k) ?_
      show OGot p.tables e below (T13.setTop (mkF m 53 #[.val (.int p1), .val (.int p2), .val (.ref b3), .val (.int (3 : Int32)), .val (.int (1 : Int32)), .unset, .unset, .unset, .unset] [(.ref w_FAILED)])) _
      refine OGot.go (fun t k => XS.astore X13.here hx rfl (hb hby at_53) rfl rfl (l' := #[.val (.int p1), .val (.int p2), .val (.ref b3), .val (.int (3 : Int32)), .val (.int (1 : Int32)), .val (.ref w_FAILED), .unset, .unset, .unset]) rfl k) ?_
      show OGot p.tables e below (T13.setTop (mkF m 55 #[.val (.int p1), .val (.int p2), .val (.ref b3), .val (.int (3 : Int32)), .val (.int (1 : Int32)), .val (.ref w_FAILED), .unset, .unset, .unset] [])) _
      refine OGot.go (fun t k => XS.aloadN X13.here hx rfl (hb hby at_55) rfl rfl k) ?_
      show OGot p.tables e below (T13.setTop (mkF m 56 #[.val (.int p1), .val (.int p2), .val (.ref b3), .val (.int (3 : Int32)), .val (.int (1 : Int32)), .val (.ref w_FAILED), .unset, .unset, .unset] [(.ref b3)])) _
      refine OGot.go (fun t k => XS.iload X13.here hx rfl (hb hby at_56) rfl k) ?_
      show OGot p.tables e below (T13.setTop (mkF m 58 #[.val (.int p1), .val (.int p2), .val (.ref b3), .val (.int (3 : Int32)), .val (.int (1 : Int32)), .val (.ref w_FAILED), .unset, .unset, .unset] [(.int (1 : Int32)), (.ref b3)])) _
      obtain ⟨cl94, Ar94, qc94, Sz94, Ng94, Hh94, Gg94⟩ := id (Va13)
      have hin94 : ¬ ((1 : Int32) < 0 ∨ cl94.slots.size ≤ ((1 : Int32)).toNatClampNeg) := inb_of Sz94 ⟨by decide, by decide⟩
      have hat94 : cl94.slots[((1 : Int32)).toNatClampNeg]? = some (.ref w_RUNNING) := Hh94.at hin94 rfl
      refine OGot.go (fun t k => X13.aaload hx (j := (1 : Int32)) (v := (.ref w_RUNNING)) (by rw [e13]; exact Ar94.1) (State.isArrayOf_alike hZ.alike Ar94.2.1) rfl Ar94.2.2 hin94 hat94 (g := (mkF m 58 #[.val (.int p1), .val (.int p2), .val (.ref b3), .val (.int (3 : Int32)), .val (.int (1 : Int32)), .val (.ref w_FAILED), .unset, .unset, .unset] [(.int (1 : Int32)), (.ref b3)])) rfl rfl (hb hby at_58) _ k) ?_
      show OGot p.tables e below (T13.setTop (mkF m 59 #[.val (.int p1), .val (.int p2), .val (.ref b3), .val (.int (3 : Int32)), .val (.int (1 : Int32)), .val (.ref w_FAILED), .unset, .unset, .unset] [(.ref w_RUNNING)])) _
      refine OGot.go (fun t k => XS.astore X13.here hx rfl (hb hby at_59) rfl rfl (l' := #[.val (.int p1), .val (.int p2), .val (.ref b3), .val (.int (3 : Int32)), .val (.int (1 : Int32)), .val (.ref w_FAILED), .val (.ref w_RUNNING), .unset, .unset]) rfl k) ?_
      show OGot p.tables e below (T13.setTop (mkF m 61 #[.val (.int p1), .val (.int p2), .val (.ref b3), .val (.int (3 : Int32)), .val (.int (1 : Int32)), .val (.ref w_FAILED), .val (.ref w_RUNNING), .unset, .unset] [])) _
      refine OGot.go (fun t k => XS.iloadN X13.here hx rfl (hb hby at_61) rfl k) ?_
      show OGot p.tables e below (T13.setTop (mkF m 62 #[.val (.int p1), .val (.int p2), .val (.ref b3), .val (.int (3 : Int32)), .val (.int (1 : Int32)), .val (.ref w_FAILED), .val (.ref w_RUNNING), .unset, .unset] [(.int (3 : Int32))])) _
      refine OGot.go (fun t k => XS.ifNo X13.here hx rfl (hb hby at_62) rfl (by decide) k) ?_
      show OGot p.tables e below (T13.setTop (mkF m 65 #[.val (.int p1), .val (.int p2), .val (.ref b3), .val (.int (3 : Int32)), .val (.int (1 : Int32)), .val (.ref w_FAILED), .val (.ref w_RUNNING), .unset, .unset] [])) _
      refine OGot.go (fun t k => XS.iloadN X13.here hx rfl (hb hby at_65) rfl k) ?_
      show OGot p.tables e below (T13.setTop (mkF m 66 #[.val (.int p1), .val (.int p2), .val (.ref b3), .val (.int (3 : Int32)), .val (.int (1 : Int32)), .val (.ref w_FAILED), .val (.ref w_RUNNING), .unset, .unset] [(.int (3 : Int32))])) _
      refine OGot.go (fun t k => XS.iconst X13.here hx rfl (hb hby at_66) k) ?_
      show OGot p.tables e below (T13.setTop (mkF m 67 #[.val (.int p1), .val (.int p2), .val (.ref b3), .val (.int (3 : Int32)), .val (.int (1 : Int32)), .val (.ref w_FAILED), .val (.ref w_RUNNING), .unset, .unset] [(.int (1 : Int32)), (.int (3 : Int32))])) _
      refine OGot.go (fun t k => XS.icmpNo X13.here hx rfl (hb hby at_67) rfl (by decide) k) ?_
      show OGot p.tables e below (T13.setTop (mkF m 70 #[.val (.int p1), .val (.int p2), .val (.ref b3), .val (.int (3 : Int32)), .val (.int (1 : Int32)), .val (.ref w_FAILED), .val (.ref w_RUNNING), .unset, .unset] [])) _
      refine OGot.go (fun t k => XS.iconst X13.here hx rfl (hb hby at_70) k) ?_
      show OGot p.tables e below (T13.setTop (mkF m 71 #[.val (.int p1), .val (.int p2), .val (.ref b3), .val (.int (3 : Int32)), .val (.int (1 : Int32)), .val (.ref w_FAILED), .val (.ref w_RUNNING), .unset, .unset] [(.int (1 : Int32))])) _
      refine OGot.go (fun t k => XS.goto X13.here hx rfl (pc0 := 71) (pc' := 75) rfl (hb hby at_71) (by decide) (by decide) k) ?_
      show OGot p.tables e below (T13.setTop (mkF m 75 #[.val (.int p1), .val (.int p2), .val (.ref b3), .val (.int (3 : Int32)), .val (.int (1 : Int32)), .val (.ref w_FAILED), .val (.ref w_RUNNING), .unset, .unset] [(.int (1 : Int32))])) _
      refine OGot.go (fun t k => XS.istore X13.here hx rfl (hb hby at_75) rfl (l' := #[.val (.int p1), .val (.int p2), .val (.ref b3), .val (.int (3 : Int32)), .val (.int (1 : Int32)), .val (.ref w_FAILED), .val (.ref w_RUNNING), .val (.int (1 : Int32)), .unset]) rfl k) ?_
      show OGot p.tables e below (T13.setTop (mkF m 77 #[.val (.int p1), .val (.int p2), .val (.ref b3), .val (.int (3 : Int32)), .val (.int (1 : Int32)), .val (.ref w_FAILED), .val (.ref w_RUNNING), .val (.int (1 : Int32)), .unset] [])) _
      refine OGot.go (fun t k => XS.aload X13.here hx rfl (hb hby at_77) rfl rfl k) ?_
      show OGot p.tables e below (T13.setTop (mkF m 79 #[.val (.int p1), .val (.int p2), .val (.ref b3), .val (.int (3 : Int32)), .val (.int (1 : Int32)), .val (.ref w_FAILED), .val (.ref w_RUNNING), .val (.int (1 : Int32)), .unset] [(.ref w_FAILED)])) _
      obtain ⟨cq95, kq95, q95a, q95b, q95c⟩ := isOf hZ e13 (G.2.2.2.2.2.2.2.1.ext O13.2)
      obtain ⟨_, _, ⟨T95, L95, k95, n95⟩, -, X95, ⟨Lc95, hQ95, l95, y95, z95⟩, st95⟩ := X13.virtualBack hx (y := (⟨"com/example/hermit_crab/hermitcrab/JobState", "isFinal", "()Z"⟩ : MethodName)) (z := (⟨"com/example/hermit_crab/hermitcrab/JobState", "isFinal", "()Z"⟩ : MethodName)) hown (mvT hZ (ow hw 15 rfl)) (mvT hZ (ow hw 16 rfl)) (notFace_of_selects (args := #[]) (mvT hZ (ow hw 18 rfl))) (mvT hZ (ow hw 18 rfl)) (mvT hZ (ow hw 17 rfl)) (by decide) (backOf (W := 0) (rm1_3 l Z a0 hw [] G  h13 n0 O13 ) hZ (ow hw 19 rfl) (ow hw 3 rfl) (by decide) (by decide)) q95a q95c (g := (mkF m 79 #[.val (.int p1), .val (.int p2), .val (.ref b3), .val (.int (3 : Int32)), .val (.int (1 : Int32)), .val (.ref w_FAILED), .val (.ref w_RUNNING), .val (.int (1 : Int32)), .unset] [(.ref w_FAILED)])) rfl (by rw [hml]; rfl) (Steps.refl _) (argsL := []) (rest := []) (lenOf pd_0 rfl) rfl (by show 2 * 0 + _ ≤ _; exact Nat.le_of_eq rfl) (hb hby at_79) (fun _ _ => ⟨rfl, e13, (by decide : 1 + 0 ≤ _), (by decide : 5 + 0 ≤ _)⟩)
      dsimp only [Pt.U, Pt.locs, Pt.cells, Pt.slots] at X95 l95 y95 z95 st95 hQ95
      subst l95 y95 z95
      obtain ⟨rfl, N95q, e95⟩ := hQ95
      have N95 := Fr.app N13 N95q
      refine OGot.on st95 ?_
      show OGot p.tables e below (T95.setTop (mkF m 82 #[.val (.int p1), .val (.int p2), .val (.ref b3), .val (.int (3 : Int32)), .val (.int (1 : Int32)), .val (.ref w_FAILED), .val (.ref w_RUNNING), .val (.int (1 : Int32)), .unset] [(.int (1 : Int32))])) _
      refine OGot.go (fun t k => XS.istore X95.here hx rfl (hb hby at_82) rfl (l' := #[.val (.int p1), .val (.int p2), .val (.ref b3), .val (.int (3 : Int32)), .val (.int (1 : Int32)), .val (.ref w_FAILED), .val (.ref w_RUNNING), .val (.int (1 : Int32)), .val (.int (1 : Int32))]) rfl k) ?_
      show OGot p.tables e below (T95.setTop (mkF m 84 #[.val (.int p1), .val (.int p2), .val (.ref b3), .val (.int (3 : Int32)), .val (.int (1 : Int32)), .val (.ref w_FAILED), .val (.ref w_RUNNING), .val (.int (1 : Int32)), .val (.int (1 : Int32))] [])) _
      refine OGot.go (fun t k => XS.iload X95.here hx rfl (hb hby at_84) rfl k) ?_
      show OGot p.tables e below (T95.setTop (mkF m 86 #[.val (.int p1), .val (.int p2), .val (.ref b3), .val (.int (3 : Int32)), .val (.int (1 : Int32)), .val (.ref w_FAILED), .val (.ref w_RUNNING), .val (.int (1 : Int32)), .val (.int (1 : Int32))] [(.int (1 : Int32))])) _
      refine OGot.go (fun t k => XS.iload X95.here hx rfl (hb hby at_86) rfl k) ?_
      show OGot p.tables e below (T95.setTop (mkF m 88 #[.val (.int p1), .val (.int p2), .val (.ref b3), .val (.int (3 : Int32)), .val (.int (1 : Int32)), .val (.ref w_FAILED), .val (.ref w_RUNNING), .val (.int (1 : Int32)), .val (.int (1 : Int32))] [(.int (1 : Int32)), (.int (1 : Int32))])) _
      refine OGot.go (fun t k => XS.icmpYes X95.here hx rfl (pc0 := 88) (pc' := 93) rfl (hb hby at_88) rfl (by decide) (by decide) (by decide) k) ?_
      show OGot p.tables e below (T95.setTop (mkF m 93 #[.val (.int p1), .val (.int p2), .val (.ref b3), .val (.int (3 : Int32)), .val (.int (1 : Int32)), .val (.ref w_FAILED), .val (.ref w_RUNNING), .val (.int (1 : Int32)), .val (.int (1 : Int32))] [])) _
      refine OGot.go (fun t k => XS.iload X95.here hx rfl (hb hby at_93) rfl k) ?_
      show OGot p.tables e below (T95.setTop (mkF m 95 #[.val (.int p1), .val (.int p2), .val (.ref b3), .val (.int (3 : Int32)), .val (.int (1 : Int32)), .val (.ref w_FAILED), .val (.ref w_RUNNING), .val (.int (1 : Int32)), .val (.int (1 : Int32))] [(.int (1 : Int32))])) _
      refine OGot.go (fun t k => XS.ifNo X95.here hx rfl (hb hby at_95) rfl (by decide) k) ?_
      show OGot p.tables e below (T95.setTop (mkF m 98 #[.val (.int p1), .val (.int p2), .val (.ref b3), .val (.int (3 : Int32)), .val (.int (1 : Int32)), .val (.ref w_FAILED), .val (.ref w_RUNNING), .val (.int (1 : Int32)), .val (.int (1 : Int32))] [])) _
      refine OGot.go (fun t k => XS.aload X95.here hx rfl (hb hby at_98) rfl rfl k) ?_
      show OGot p.tables e below (T95.setTop (mkF m 100 #[.val (.int p1), .val (.int p2), .val (.ref b3), .val (.int (3 : Int32)), .val (.int (1 : Int32)), .val (.ref w_FAILED), .val (.ref w_RUNNING), .val (.int (1 : Int32)), .val (.int (1 : Int32))] [(.ref w_FAILED)])) _
      refine OGot.go (fun t k => XS.aload X95.here hx rfl (hb hby at_100) rfl rfl k) ?_
      show OGot p.tables e below (T95.setTop (mkF m 102 #[.val (.int p1), .val (.int p2), .val (.ref b3), .val (.int (3 : Int32)), .val (.int (1 : Int32)), .val (.ref w_FAILED), .val (.ref w_RUNNING), .val (.int (1 : Int32)), .val (.int (1 : Int32))] [(.ref w_RUNNING), (.ref w_FAILED)])) _
      obtain ⟨cq96, kq96, q96a, q96b, q96c⟩ := isOf hZ e95 (G.2.2.2.2.2.2.2.1.ext O13.2)
      obtain ⟨_, _, ⟨T96, L96, k96, n96⟩, -, X96, ⟨Lc96, hQ96, l96, y96, z96⟩, st96⟩ := X95.virtualBack hx (y := (⟨"com/example/hermit_crab/hermitcrab/JobState", "canMoveTo", "(Lcom/example/hermit_crab/hermitcrab/JobState;)Z"⟩ : MethodName)) (z := (⟨"com/example/hermit_crab/hermitcrab/JobState", "canMoveTo", "(Lcom/example/hermit_crab/hermitcrab/JobState;)Z"⟩ : MethodName)) hown (mvT hZ (ow hw 23 rfl)) (mvT hZ (ow hw 24 rfl)) (notFace_of_selects (args := #[]) (mvT hZ (ow hw 26 rfl))) (mvT hZ (ow hw 26 rfl)) (mvT hZ (ow hw 25 rfl)) (by decide) (backOf (W := 0) (rm2_6 l Z a0 hw [] G  h13 n0 O13 ) hZ (ow hw 27 rfl) (ow hw 3 rfl) (by decide) (by decide)) q96a q96c (g := (mkF m 102 #[.val (.int p1), .val (.int p2), .val (.ref b3), .val (.int (3 : Int32)), .val (.int (1 : Int32)), .val (.ref w_FAILED), .val (.ref w_RUNNING), .val (.int (1 : Int32)), .val (.int (1 : Int32))] [(.ref w_RUNNING), (.ref w_FAILED)])) rfl (by rw [hml]; rfl) (Steps.refl _) (argsL := [(.ref w_RUNNING)]) (rest := []) (lenOf pd_2 rfl) rfl (by show 2 * 0 + _ ≤ _; exact Nat.le_of_eq rfl) (hb hby at_102) (fun _ _ => ⟨rfl, e95, (by decide : 1 + 0 ≤ _), (by decide : 5 + 0 ≤ _)⟩)
      dsimp only [Pt.U, Pt.locs, Pt.cells, Pt.slots] at X96 l96 y96 z96 st96 hQ96
      subst l96 y96 z96
      obtain ⟨rfl, N96q, e96⟩ := hQ96
      have N96 := Fr.app N95 N96q
      refine OGot.on st96 ?_
      show OGot p.tables e below (T96.setTop (mkF m 105 #[.val (.int p1), .val (.int p2), .val (.ref b3), .val (.int (3 : Int32)), .val (.int (1 : Int32)), .val (.ref w_FAILED), .val (.ref w_RUNNING), .val (.int (1 : Int32)), .val (.int (1 : Int32))] [(.int (0 : Int32))])) _
      refine OGot.go (fun t k => XS.ifYes X96.here hx rfl (pc0 := 105) (pc' := 124) rfl (hb hby at_105) rfl (by decide) (by decide) (by decide) k) ?_
      show OGot p.tables e below (T96.setTop (mkF m 124 #[.val (.int p1), .val (.int p2), .val (.ref b3), .val (.int (3 : Int32)), .val (.int (1 : Int32)), .val (.ref w_FAILED), .val (.ref w_RUNNING), .val (.int (1 : Int32)), .val (.int (1 : Int32))] [])) _
      refine OGot.go (fun t k => XS.iconst X96.here hx rfl (hb hby at_124) k) ?_
      show OGot p.tables e below (T96.setTop (mkF m 125 #[.val (.int p1), .val (.int p2), .val (.ref b3), .val (.int (3 : Int32)), .val (.int (1 : Int32)), .val (.ref w_FAILED), .val (.ref w_RUNNING), .val (.int (1 : Int32)), .val (.int (1 : Int32))] [(.int (1 : Int32))])) _
      obtain ⟨fs, hr, hrun, hended, hW, hsame⟩ := X96.leave (v := some (.int (1 : Int32))) (fun h => by rw [Bd.returns] at h; cases h)
      refine ⟨_, _, retN X96 hx (t := .boolean) Bd.returns (by simp) (hb hby at_125) hr, hrun, hended, _, _, rfl, ?_, ⟨_, rfl⟩, hW, hsame.mono (by decide) (by decide)⟩
      exact (⟨rfl, N96⟩ : Q0 Z w_PENDING w_RUNNING w_COMPLETED w_FAILED w_CANCELLED p1 p2 h0 n0 _ T96.heap _)
    · rw [hk86]
      show OGot p.tables e below (T13.setTop (mkF m 48 #[.val (.int p1), .val (.int p2), .val (.ref b3), .val (.int (3 : Int32)), .unset, .unset, .unset, .unset, .unset] [(.int (2 : Int32))])) _
      refine OGot.go (fun t k => XS.istore X13.here hx rfl (hb hby at_48) rfl (l' := #[.val (.int p1), .val (.int p2), .val (.ref b3), .val (.int (3 : Int32)), .val (.int (2 : Int32)), .unset, .unset, .unset, .unset]) rfl k) ?_
      show OGot p.tables e below (T13.setTop (mkF m 50 #[.val (.int p1), .val (.int p2), .val (.ref b3), .val (.int (3 : Int32)), .val (.int (2 : Int32)), .unset, .unset, .unset, .unset] [])) _
      refine OGot.go (fun t k => XS.aloadN X13.here hx rfl (hb hby at_50) rfl rfl k) ?_
      show OGot p.tables e below (T13.setTop (mkF m 51 #[.val (.int p1), .val (.int p2), .val (.ref b3), .val (.int (3 : Int32)), .val (.int (2 : Int32)), .unset, .unset, .unset, .unset] [(.ref b3)])) _
      refine OGot.go (fun t k => XS.iloadN X13.here hx rfl (hb hby at_51) rfl k) ?_
      show OGot p.tables e below (T13.setTop (mkF m 52 #[.val (.int p1), .val (.int p2), .val (.ref b3), .val (.int (3 : Int32)), .val (.int (2 : Int32)), .unset, .unset, .unset, .unset] [(.int (3 : Int32)), (.ref b3)])) _
      obtain ⟨cl97, Ar97, qc97, Sz97, Ng97, Hh97, Gg97⟩ := id (Va13)
      have hin97 : ¬ ((3 : Int32) < 0 ∨ cl97.slots.size ≤ ((3 : Int32)).toNatClampNeg) := inb_of Sz97 ⟨by decide, by decide⟩
      have hat97 : cl97.slots[((3 : Int32)).toNatClampNeg]? = some (.ref w_FAILED) := Hh97.at hin97 rfl
      refine OGot.go (fun t k => X13.aaload hx (j := (3 : Int32)) (v := (.ref w_FAILED)) (by rw [e13]; exact Ar97.1) (State.isArrayOf_alike hZ.alike Ar97.2.1) rfl Ar97.2.2 hin97 hat97 (g := (mkF m 52 #[.val (.int p1), .val (.int p2), .val (.ref b3), .val (.int (3 : Int32)), .val (.int (2 : Int32)), .unset, .unset, .unset, .unset] [(.int (3 : Int32)), (.ref b3)])) rfl rfl (hb hby at_52) _ k) ?_
      show OGot p.tables e below (T13.setTop (mkF m 53 #[.val (.int p1), .val (.int p2), .val (.ref b3), .val (.int (3 : Int32)), .val (.int (2 : Int32)), .unset, .unset, .unset, .unset] [(.ref w_FAILED)])) _
      refine OGot.go (fun t k => XS.astore X13.here hx rfl (hb hby at_53) rfl rfl (l' := #[.val (.int p1), .val (.int p2), .val (.ref b3), .val (.int (3 : Int32)), .val (.int (2 : Int32)), .val (.ref w_FAILED), .unset, .unset, .unset]) rfl k) ?_
      show OGot p.tables e below (T13.setTop (mkF m 55 #[.val (.int p1), .val (.int p2), .val (.ref b3), .val (.int (3 : Int32)), .val (.int (2 : Int32)), .val (.ref w_FAILED), .unset, .unset, .unset] [])) _
      refine OGot.go (fun t k => XS.aloadN X13.here hx rfl (hb hby at_55) rfl rfl k) ?_
      show OGot p.tables e below (T13.setTop (mkF m 56 #[.val (.int p1), .val (.int p2), .val (.ref b3), .val (.int (3 : Int32)), .val (.int (2 : Int32)), .val (.ref w_FAILED), .unset, .unset, .unset] [(.ref b3)])) _
      refine OGot.go (fun t k => XS.iload X13.here hx rfl (hb hby at_56) rfl k) ?_
      show OGot p.tables e below (T13.setTop (mkF m 58 #[.val (.int p1), .val (.int p2), .val (.ref b3), .val (.int (3 : Int32)), .val (.int (2 : Int32)), .val (.ref w_FAILED), .unset, .unset, .unset] [(.int (2 : Int32)), (.ref b3)])) _
      obtain ⟨cl98, Ar98, qc98, Sz98, Ng98, Hh98, Gg98⟩ := id (Va13)
      have hin98 : ¬ ((2 : Int32) < 0 ∨ cl98.slots.size ≤ ((2 : Int32)).toNatClampNeg) := inb_of Sz98 ⟨by decide, by decide⟩
      have hat98 : cl98.slots[((2 : Int32)).toNatClampNeg]? = some (.ref w_COMPLETED) := Hh98.at hin98 rfl
      refine OGot.go (fun t k => X13.aaload hx (j := (2 : Int32)) (v := (.ref w_COMPLETED)) (by rw [e13]; exact Ar98.1) (State.isArrayOf_alike hZ.alike Ar98.2.1) rfl Ar98.2.2 hin98 hat98 (g := (mkF m 58 #[.val (.int p1), .val (.int p2), .val (.ref b3), .val (.int (3 : Int32)), .val (.int (2 : Int32)), .val (.ref w_FAILED), .unset, .unset, .unset] [(.int (2 : Int32)), (.ref b3)])) rfl rfl (hb hby at_58) _ k) ?_
      show OGot p.tables e below (T13.setTop (mkF m 59 #[.val (.int p1), .val (.int p2), .val (.ref b3), .val (.int (3 : Int32)), .val (.int (2 : Int32)), .val (.ref w_FAILED), .unset, .unset, .unset] [(.ref w_COMPLETED)])) _
      refine OGot.go (fun t k => XS.astore X13.here hx rfl (hb hby at_59) rfl rfl (l' := #[.val (.int p1), .val (.int p2), .val (.ref b3), .val (.int (3 : Int32)), .val (.int (2 : Int32)), .val (.ref w_FAILED), .val (.ref w_COMPLETED), .unset, .unset]) rfl k) ?_
      show OGot p.tables e below (T13.setTop (mkF m 61 #[.val (.int p1), .val (.int p2), .val (.ref b3), .val (.int (3 : Int32)), .val (.int (2 : Int32)), .val (.ref w_FAILED), .val (.ref w_COMPLETED), .unset, .unset] [])) _
      refine OGot.go (fun t k => XS.iloadN X13.here hx rfl (hb hby at_61) rfl k) ?_
      show OGot p.tables e below (T13.setTop (mkF m 62 #[.val (.int p1), .val (.int p2), .val (.ref b3), .val (.int (3 : Int32)), .val (.int (2 : Int32)), .val (.ref w_FAILED), .val (.ref w_COMPLETED), .unset, .unset] [(.int (3 : Int32))])) _
      refine OGot.go (fun t k => XS.ifNo X13.here hx rfl (hb hby at_62) rfl (by decide) k) ?_
      show OGot p.tables e below (T13.setTop (mkF m 65 #[.val (.int p1), .val (.int p2), .val (.ref b3), .val (.int (3 : Int32)), .val (.int (2 : Int32)), .val (.ref w_FAILED), .val (.ref w_COMPLETED), .unset, .unset] [])) _
      refine OGot.go (fun t k => XS.iloadN X13.here hx rfl (hb hby at_65) rfl k) ?_
      show OGot p.tables e below (T13.setTop (mkF m 66 #[.val (.int p1), .val (.int p2), .val (.ref b3), .val (.int (3 : Int32)), .val (.int (2 : Int32)), .val (.ref w_FAILED), .val (.ref w_COMPLETED), .unset, .unset] [(.int (3 : Int32))])) _
      refine OGot.go (fun t k => XS.iconst X13.here hx rfl (hb hby at_66) k) ?_
      show OGot p.tables e below (T13.setTop (mkF m 67 #[.val (.int p1), .val (.int p2), .val (.ref b3), .val (.int (3 : Int32)), .val (.int (2 : Int32)), .val (.ref w_FAILED), .val (.ref w_COMPLETED), .unset, .unset] [(.int (1 : Int32)), (.int (3 : Int32))])) _
      refine OGot.go (fun t k => XS.icmpNo X13.here hx rfl (hb hby at_67) rfl (by decide) k) ?_
      show OGot p.tables e below (T13.setTop (mkF m 70 #[.val (.int p1), .val (.int p2), .val (.ref b3), .val (.int (3 : Int32)), .val (.int (2 : Int32)), .val (.ref w_FAILED), .val (.ref w_COMPLETED), .unset, .unset] [])) _
      refine OGot.go (fun t k => XS.iconst X13.here hx rfl (hb hby at_70) k) ?_
      show OGot p.tables e below (T13.setTop (mkF m 71 #[.val (.int p1), .val (.int p2), .val (.ref b3), .val (.int (3 : Int32)), .val (.int (2 : Int32)), .val (.ref w_FAILED), .val (.ref w_COMPLETED), .unset, .unset] [(.int (1 : Int32))])) _
      refine OGot.go (fun t k => XS.goto X13.here hx rfl (pc0 := 71) (pc' := 75) rfl (hb hby at_71) (by decide) (by decide) k) ?_
      show OGot p.tables e below (T13.setTop (mkF m 75 #[.val (.int p1), .val (.int p2), .val (.ref b3), .val (.int (3 : Int32)), .val (.int (2 : Int32)), .val (.ref w_FAILED), .val (.ref w_COMPLETED), .unset, .unset] [(.int (1 : Int32))])) _
      refine OGot.go (fun t k => XS.istore X13.here hx rfl (hb hby at_75) rfl (l' := #[.val (.int p1), .val (.int p2), .val (.ref b3), .val (.int (3 : Int32)), .val (.int (2 : Int32)), .val (.ref w_FAILED), .val (.ref w_COMPLETED), .val (.int (1 : Int32)), .unset]) rfl k) ?_
      show OGot p.tables e below (T13.setTop (mkF m 77 #[.val (.int p1), .val (.int p2), .val (.ref b3), .val (.int (3 : Int32)), .val (.int (2 : Int32)), .val (.ref w_FAILED), .val (.ref w_COMPLETED), .val (.int (1 : Int32)), .unset] [])) _
      refine OGot.go (fun t k => XS.aload X13.here hx rfl (hb hby at_77) rfl rfl k) ?_
      show OGot p.tables e below (T13.setTop (mkF m 79 #[.val (.int p1), .val (.int p2), .val (.ref b3), .val (.int (3 : Int32)), .val (.int (2 : Int32)), .val (.ref w_FAILED), .val (.ref w_COMPLETED), .val (.int (1 : Int32)), .unset] [(.ref w_FAILED)])) _
      obtain ⟨cq99, kq99, q99a, q99b, q99c⟩ := isOf hZ e13 (G.2.2.2.2.2.2.2.1.ext O13.2)
      obtain ⟨_, _, ⟨T99, L99, k99, n99⟩, -, X99, ⟨Lc99, hQ99, l99, y99, z99⟩, st99⟩ := X13.virtualBack hx (y := (⟨"com/example/hermit_crab/hermitcrab/JobState", "isFinal", "()Z"⟩ : MethodName)) (z := (⟨"com/example/hermit_crab/hermitcrab/JobState", "isFinal", "()Z"⟩ : MethodName)) hown (mvT hZ (ow hw 15 rfl)) (mvT hZ (ow hw 16 rfl)) (notFace_of_selects (args := #[]) (mvT hZ (ow hw 18 rfl))) (mvT hZ (ow hw 18 rfl)) (mvT hZ (ow hw 17 rfl)) (by decide) (backOf (W := 0) (rm1_3 l Z a0 hw [] G  h13 n0 O13 ) hZ (ow hw 19 rfl) (ow hw 3 rfl) (by decide) (by decide)) q99a q99c (g := (mkF m 79 #[.val (.int p1), .val (.int p2), .val (.ref b3), .val (.int (3 : Int32)), .val (.int (2 : Int32)), .val (.ref w_FAILED), .val (.ref w_COMPLETED), .val (.int (1 : Int32)), .unset] [(.ref w_FAILED)])) rfl (by rw [hml]; rfl) (Steps.refl _) (argsL := []) (rest := []) (lenOf pd_0 rfl) rfl (by show 2 * 0 + _ ≤ _; exact Nat.le_of_eq rfl) (hb hby at_79) (fun _ _ => ⟨rfl, e13, (by decide : 1 + 0 ≤ _), (by decide : 5 + 0 ≤ _)⟩)
      dsimp only [Pt.U, Pt.locs, Pt.cells, Pt.slots] at X99 l99 y99 z99 st99 hQ99
      subst l99 y99 z99
      obtain ⟨rfl, N99q, e99⟩ := hQ99
      have N99 := Fr.app N13 N99q
      refine OGot.on st99 ?_
      show OGot p.tables e below (T99.setTop (mkF m 82 #[.val (.int p1), .val (.int p2), .val (.ref b3), .val (.int (3 : Int32)), .val (.int (2 : Int32)), .val (.ref w_FAILED), .val (.ref w_COMPLETED), .val (.int (1 : Int32)), .unset] [(.int (1 : Int32))])) _
      refine OGot.go (fun t k => XS.istore X99.here hx rfl (hb hby at_82) rfl (l' := #[.val (.int p1), .val (.int p2), .val (.ref b3), .val (.int (3 : Int32)), .val (.int (2 : Int32)), .val (.ref w_FAILED), .val (.ref w_COMPLETED), .val (.int (1 : Int32)), .val (.int (1 : Int32))]) rfl k) ?_
      show OGot p.tables e below (T99.setTop (mkF m 84 #[.val (.int p1), .val (.int p2), .val (.ref b3), .val (.int (3 : Int32)), .val (.int (2 : Int32)), .val (.ref w_FAILED), .val (.ref w_COMPLETED), .val (.int (1 : Int32)), .val (.int (1 : Int32))] [])) _
      refine OGot.go (fun t k => XS.iload X99.here hx rfl (hb hby at_84) rfl k) ?_
      show OGot p.tables e below (T99.setTop (mkF m 86 #[.val (.int p1), .val (.int p2), .val (.ref b3), .val (.int (3 : Int32)), .val (.int (2 : Int32)), .val (.ref w_FAILED), .val (.ref w_COMPLETED), .val (.int (1 : Int32)), .val (.int (1 : Int32))] [(.int (1 : Int32))])) _
      refine OGot.go (fun t k => XS.iload X99.here hx rfl (hb hby at_86) rfl k) ?_
      show OGot p.tables e below (T99.setTop (mkF m 88 #[.val (.int p1), .val (.int p2), .val (.ref b3), .val (.int (3 : Int32)), .val (.int (2 : Int32)), .val (.ref w_FAILED), .val (.ref w_COMPLETED), .val (.int (1 : Int32)), .val (.int (1 : Int32))] [(.int (1 : Int32)), (.int (1 : Int32))])) _
      refine OGot.go (fun t k => XS.icmpYes X99.here hx rfl (pc0 := 88) (pc' := 93) rfl (hb hby at_88) rfl (by decide) (by decide) (by decide) k) ?_
      show OGot p.tables e below (T99.setTop (mkF m 93 #[.val (.int p1), .val (.int p2), .val (.ref b3), .val (.int (3 : Int32)), .val (.int (2 : Int32)), .val (.ref w_FAILED), .val (.ref w_COMPLETED), .val (.int (1 : Int32)), .val (.int (1 : Int32))] [])) _
      refine OGot.go (fun t k => XS.iload X99.here hx rfl (hb hby at_93) rfl k) ?_
      show OGot p.tables e below (T99.setTop (mkF m 95 #[.val (.int p1), .val (.int p2), .val (.ref b3), .val (.int (3 : Int32)), .val (.int (2 : Int32)), .val (.ref w_FAILED), .val (.ref w_COMPLETED), .val (.int (1 : Int32)), .val (.int (1 : Int32))] [(.int (1 : Int32))])) _
      refine OGot.go (fun t k => XS.ifNo X99.here hx rfl (hb hby at_95) rfl (by decide) k) ?_
      show OGot p.tables e below (T99.setTop (mkF m 98 #[.val (.int p1), .val (.int p2), .val (.ref b3), .val (.int (3 : Int32)), .val (.int (2 : Int32)), .val (.ref w_FAILED), .val (.ref w_COMPLETED), .val (.int (1 : Int32)), .val (.int (1 : Int32))] [])) _
      refine OGot.go (fun t k => XS.aload X99.here hx rfl (hb hby at_98) rfl rfl k) ?_
      show OGot p.tables e below (T99.setTop (mkF m 100 #[.val (.int p1), .val (.int p2), .val (.ref b3), .val (.int (3 : Int32)), .val (.int (2 : Int32)), .val (.ref w_FAILED), .val (.ref w_COMPLETED), .val (.int (1 : Int32)), .val (.int (1 : Int32))] [(.ref w_FAILED)])) _
      refine OGot.go (fun t k => XS.aload X99.here hx rfl (hb hby at_100) rfl rfl k) ?_
      show OGot p.tables e below (T99.setTop (mkF m 102 #[.val (.int p1), .val (.int p2), .val (.ref b3), .val (.int (3 : Int32)), .val (.int (2 : Int32)), .val (.ref w_FAILED), .val (.ref w_COMPLETED), .val (.int (1 : Int32)), .val (.int (1 : Int32))] [(.ref w_COMPLETED), (.ref w_FAILED)])) _
      obtain ⟨cq100, kq100, q100a, q100b, q100c⟩ := isOf hZ e99 (G.2.2.2.2.2.2.2.1.ext O13.2)
      obtain ⟨_, _, ⟨T100, L100, k100, n100⟩, -, X100, ⟨Lc100, hQ100, l100, y100, z100⟩, st100⟩ := X99.virtualBack hx (y := (⟨"com/example/hermit_crab/hermitcrab/JobState", "canMoveTo", "(Lcom/example/hermit_crab/hermitcrab/JobState;)Z"⟩ : MethodName)) (z := (⟨"com/example/hermit_crab/hermitcrab/JobState", "canMoveTo", "(Lcom/example/hermit_crab/hermitcrab/JobState;)Z"⟩ : MethodName)) hown (mvT hZ (ow hw 23 rfl)) (mvT hZ (ow hw 24 rfl)) (notFace_of_selects (args := #[]) (mvT hZ (ow hw 26 rfl))) (mvT hZ (ow hw 26 rfl)) (mvT hZ (ow hw 25 rfl)) (by decide) (backOf (W := 0) (rm2_7 l Z a0 hw [] G  h13 n0 O13 ) hZ (ow hw 27 rfl) (ow hw 3 rfl) (by decide) (by decide)) q100a q100c (g := (mkF m 102 #[.val (.int p1), .val (.int p2), .val (.ref b3), .val (.int (3 : Int32)), .val (.int (2 : Int32)), .val (.ref w_FAILED), .val (.ref w_COMPLETED), .val (.int (1 : Int32)), .val (.int (1 : Int32))] [(.ref w_COMPLETED), (.ref w_FAILED)])) rfl (by rw [hml]; rfl) (Steps.refl _) (argsL := [(.ref w_COMPLETED)]) (rest := []) (lenOf pd_2 rfl) rfl (by show 2 * 0 + _ ≤ _; exact Nat.le_of_eq rfl) (hb hby at_102) (fun _ _ => ⟨rfl, e99, (by decide : 1 + 0 ≤ _), (by decide : 5 + 0 ≤ _)⟩)
      dsimp only [Pt.U, Pt.locs, Pt.cells, Pt.slots] at X100 l100 y100 z100 st100 hQ100
      subst l100 y100 z100
      obtain ⟨rfl, N100q, e100⟩ := hQ100
      have N100 := Fr.app N99 N100q
      refine OGot.on st100 ?_
      show OGot p.tables e below (T100.setTop (mkF m 105 #[.val (.int p1), .val (.int p2), .val (.ref b3), .val (.int (3 : Int32)), .val (.int (2 : Int32)), .val (.ref w_FAILED), .val (.ref w_COMPLETED), .val (.int (1 : Int32)), .val (.int (1 : Int32))] [(.int (0 : Int32))])) _
      refine OGot.go (fun t k => XS.ifYes X100.here hx rfl (pc0 := 105) (pc' := 124) rfl (hb hby at_105) rfl (by decide) (by decide) (by decide) k) ?_
      show OGot p.tables e below (T100.setTop (mkF m 124 #[.val (.int p1), .val (.int p2), .val (.ref b3), .val (.int (3 : Int32)), .val (.int (2 : Int32)), .val (.ref w_FAILED), .val (.ref w_COMPLETED), .val (.int (1 : Int32)), .val (.int (1 : Int32))] [])) _
      refine OGot.go (fun t k => XS.iconst X100.here hx rfl (hb hby at_124) k) ?_
      show OGot p.tables e below (T100.setTop (mkF m 125 #[.val (.int p1), .val (.int p2), .val (.ref b3), .val (.int (3 : Int32)), .val (.int (2 : Int32)), .val (.ref w_FAILED), .val (.ref w_COMPLETED), .val (.int (1 : Int32)), .val (.int (1 : Int32))] [(.int (1 : Int32))])) _
      obtain ⟨fs, hr, hrun, hended, hW, hsame⟩ := X100.leave (v := some (.int (1 : Int32))) (fun h => by rw [Bd.returns] at h; cases h)
      refine ⟨_, _, retN X100 hx (t := .boolean) Bd.returns (by simp) (hb hby at_125) hr, hrun, hended, _, _, rfl, ?_, ⟨_, rfl⟩, hW, hsame.mono (by decide) (by decide)⟩
      exact (⟨rfl, N100⟩ : Q0 Z w_PENDING w_RUNNING w_COMPLETED w_FAILED w_CANCELLED p1 p2 h0 n0 _ T100.heap _)
    · rw [hk87]
      show OGot p.tables e below (T13.setTop (mkF m 48 #[.val (.int p1), .val (.int p2), .val (.ref b3), .val (.int (3 : Int32)), .unset, .unset, .unset, .unset, .unset] [(.int (3 : Int32))])) _
      refine OGot.go (fun t k => XS.istore X13.here hx rfl (hb hby at_48) rfl (l' := #[.val (.int p1), .val (.int p2), .val (.ref b3), .val (.int (3 : Int32)), .val (.int (3 : Int32)), .unset, .unset, .unset, .unset]) rfl k) ?_
      show OGot p.tables e below (T13.setTop (mkF m 50 #[.val (.int p1), .val (.int p2), .val (.ref b3), .val (.int (3 : Int32)), .val (.int (3 : Int32)), .unset, .unset, .unset, .unset] [])) _
      refine OGot.go (fun t k => XS.aloadN X13.here hx rfl (hb hby at_50) rfl rfl k) ?_
      show OGot p.tables e below (T13.setTop (mkF m 51 #[.val (.int p1), .val (.int p2), .val (.ref b3), .val (.int (3 : Int32)), .val (.int (3 : Int32)), .unset, .unset, .unset, .unset] [(.ref b3)])) _
      refine OGot.go (fun t k => XS.iloadN X13.here hx rfl (hb hby at_51) rfl k) ?_
      show OGot p.tables e below (T13.setTop (mkF m 52 #[.val (.int p1), .val (.int p2), .val (.ref b3), .val (.int (3 : Int32)), .val (.int (3 : Int32)), .unset, .unset, .unset, .unset] [(.int (3 : Int32)), (.ref b3)])) _
      obtain ⟨cl101, Ar101, qc101, Sz101, Ng101, Hh101, Gg101⟩ := id (Va13)
      have hin101 : ¬ ((3 : Int32) < 0 ∨ cl101.slots.size ≤ ((3 : Int32)).toNatClampNeg) := inb_of Sz101 ⟨by decide, by decide⟩
      have hat101 : cl101.slots[((3 : Int32)).toNatClampNeg]? = some (.ref w_FAILED) := Hh101.at hin101 rfl
      refine OGot.go (fun t k => X13.aaload hx (j := (3 : Int32)) (v := (.ref w_FAILED)) (by rw [e13]; exact Ar101.1) (State.isArrayOf_alike hZ.alike Ar101.2.1) rfl Ar101.2.2 hin101 hat101 (g := (mkF m 52 #[.val (.int p1), .val (.int p2), .val (.ref b3), .val (.int (3 : Int32)), .val (.int (3 : Int32)), .unset, .unset, .unset, .unset] [(.int (3 : Int32)), (.ref b3)])) rfl rfl (hb hby at_52) _ k) ?_
      show OGot p.tables e below (T13.setTop (mkF m 53 #[.val (.int p1), .val (.int p2), .val (.ref b3), .val (.int (3 : Int32)), .val (.int (3 : Int32)), .unset, .unset, .unset, .unset] [(.ref w_FAILED)])) _
      refine OGot.go (fun t k => XS.astore X13.here hx rfl (hb hby at_53) rfl rfl (l' := #[.val (.int p1), .val (.int p2), .val (.ref b3), .val (.int (3 : Int32)), .val (.int (3 : Int32)), .val (.ref w_FAILED), .unset, .unset, .unset]) rfl k) ?_
      show OGot p.tables e below (T13.setTop (mkF m 55 #[.val (.int p1), .val (.int p2), .val (.ref b3), .val (.int (3 : Int32)), .val (.int (3 : Int32)), .val (.ref w_FAILED), .unset, .unset, .unset] [])) _
      refine OGot.go (fun t k => XS.aloadN X13.here hx rfl (hb hby at_55) rfl rfl k) ?_
      show OGot p.tables e below (T13.setTop (mkF m 56 #[.val (.int p1), .val (.int p2), .val (.ref b3), .val (.int (3 : Int32)), .val (.int (3 : Int32)), .val (.ref w_FAILED), .unset, .unset, .unset] [(.ref b3)])) _
      refine OGot.go (fun t k => XS.iload X13.here hx rfl (hb hby at_56) rfl k) ?_
      show OGot p.tables e below (T13.setTop (mkF m 58 #[.val (.int p1), .val (.int p2), .val (.ref b3), .val (.int (3 : Int32)), .val (.int (3 : Int32)), .val (.ref w_FAILED), .unset, .unset, .unset] [(.int (3 : Int32)), (.ref b3)])) _
      obtain ⟨cl102, Ar102, qc102, Sz102, Ng102, Hh102, Gg102⟩ := id (Va13)
      have hin102 : ¬ ((3 : Int32) < 0 ∨ cl102.slots.size ≤ ((3 : Int32)).toNatClampNeg) := inb_of Sz102 ⟨by decide, by decide⟩
      have hat102 : cl102.slots[((3 : Int32)).toNatClampNeg]? = some (.ref w_FAILED) := Hh102.at hin102 rfl
      refine OGot.go (fun t k => X13.aaload hx (j := (3 : Int32)) (v := (.ref w_FAILED)) (by rw [e13]; exact Ar102.1) (State.isArrayOf_alike hZ.alike Ar102.2.1) rfl Ar102.2.2 hin102 hat102 (g := (mkF m 58 #[.val (.int p1), .val (.int p2), .val (.ref b3), .val (.int (3 : Int32)), .val (.int (3 : Int32)), .val (.ref w_FAILED), .unset, .unset, .unset] [(.int (3 : Int32)), (.ref b3)])) rfl rfl (hb hby at_58) _ k) ?_
      show OGot p.tables e below (T13.setTop (mkF m 59 #[.val (.int p1), .val (.int p2), .val (.ref b3), .val (.int (3 : Int32)), .val (.int (3 : Int32)), .val (.ref w_FAILED), .unset, .unset, .unset] [(.ref w_FAILED)])) _
      refine OGot.go (fun t k => XS.astore X13.here hx rfl (hb hby at_59) rfl rfl (l' := #[.val (.int p1), .val (.int p2), .val (.ref b3), .val (.int (3 : Int32)), .val (.int (3 : Int32)), .val (.ref w_FAILED), .val (.ref w_FAILED), .unset, .unset]) rfl k) ?_
      show OGot p.tables e below (T13.setTop (mkF m 61 #[.val (.int p1), .val (.int p2), .val (.ref b3), .val (.int (3 : Int32)), .val (.int (3 : Int32)), .val (.ref w_FAILED), .val (.ref w_FAILED), .unset, .unset] [])) _
      refine OGot.go (fun t k => XS.iloadN X13.here hx rfl (hb hby at_61) rfl k) ?_
      show OGot p.tables e below (T13.setTop (mkF m 62 #[.val (.int p1), .val (.int p2), .val (.ref b3), .val (.int (3 : Int32)), .val (.int (3 : Int32)), .val (.ref w_FAILED), .val (.ref w_FAILED), .unset, .unset] [(.int (3 : Int32))])) _
      refine OGot.go (fun t k => XS.ifNo X13.here hx rfl (hb hby at_62) rfl (by decide) k) ?_
      show OGot p.tables e below (T13.setTop (mkF m 65 #[.val (.int p1), .val (.int p2), .val (.ref b3), .val (.int (3 : Int32)), .val (.int (3 : Int32)), .val (.ref w_FAILED), .val (.ref w_FAILED), .unset, .unset] [])) _
      refine OGot.go (fun t k => XS.iloadN X13.here hx rfl (hb hby at_65) rfl k) ?_
      show OGot p.tables e below (T13.setTop (mkF m 66 #[.val (.int p1), .val (.int p2), .val (.ref b3), .val (.int (3 : Int32)), .val (.int (3 : Int32)), .val (.ref w_FAILED), .val (.ref w_FAILED), .unset, .unset] [(.int (3 : Int32))])) _
      refine OGot.go (fun t k => XS.iconst X13.here hx rfl (hb hby at_66) k) ?_
      show OGot p.tables e below (T13.setTop (mkF m 67 #[.val (.int p1), .val (.int p2), .val (.ref b3), .val (.int (3 : Int32)), .val (.int (3 : Int32)), .val (.ref w_FAILED), .val (.ref w_FAILED), .unset, .unset] [(.int (1 : Int32)), (.int (3 : Int32))])) _
      refine OGot.go (fun t k => XS.icmpNo X13.here hx rfl (hb hby at_67) rfl (by decide) k) ?_
      show OGot p.tables e below (T13.setTop (mkF m 70 #[.val (.int p1), .val (.int p2), .val (.ref b3), .val (.int (3 : Int32)), .val (.int (3 : Int32)), .val (.ref w_FAILED), .val (.ref w_FAILED), .unset, .unset] [])) _
      refine OGot.go (fun t k => XS.iconst X13.here hx rfl (hb hby at_70) k) ?_
      show OGot p.tables e below (T13.setTop (mkF m 71 #[.val (.int p1), .val (.int p2), .val (.ref b3), .val (.int (3 : Int32)), .val (.int (3 : Int32)), .val (.ref w_FAILED), .val (.ref w_FAILED), .unset, .unset] [(.int (1 : Int32))])) _
      refine OGot.go (fun t k => XS.goto X13.here hx rfl (pc0 := 71) (pc' := 75) rfl (hb hby at_71) (by decide) (by decide) k) ?_
      show OGot p.tables e below (T13.setTop (mkF m 75 #[.val (.int p1), .val (.int p2), .val (.ref b3), .val (.int (3 : Int32)), .val (.int (3 : Int32)), .val (.ref w_FAILED), .val (.ref w_FAILED), .unset, .unset] [(.int (1 : Int32))])) _
      refine OGot.go (fun t k => XS.istore X13.here hx rfl (hb hby at_75) rfl (l' := #[.val (.int p1), .val (.int p2), .val (.ref b3), .val (.int (3 : Int32)), .val (.int (3 : Int32)), .val (.ref w_FAILED), .val (.ref w_FAILED), .val (.int (1 : Int32)), .unset]) rfl k) ?_
      show OGot p.tables e below (T13.setTop (mkF m 77 #[.val (.int p1), .val (.int p2), .val (.ref b3), .val (.int (3 : Int32)), .val (.int (3 : Int32)), .val (.ref w_FAILED), .val (.ref w_FAILED), .val (.int (1 : Int32)), .unset] [])) _
      refine OGot.go (fun t k => XS.aload X13.here hx rfl (hb hby at_77) rfl rfl k) ?_
      show OGot p.tables e below (T13.setTop (mkF m 79 #[.val (.int p1), .val (.int p2), .val (.ref b3), .val (.int (3 : Int32)), .val (.int (3 : Int32)), .val (.ref w_FAILED), .val (.ref w_FAILED), .val (.int (1 : Int32)), .unset] [(.ref w_FAILED)])) _
      obtain ⟨cq103, kq103, q103a, q103b, q103c⟩ := isOf hZ e13 (G.2.2.2.2.2.2.2.1.ext O13.2)
      obtain ⟨_, _, ⟨T103, L103, k103, n103⟩, -, X103, ⟨Lc103, hQ103, l103, y103, z103⟩, st103⟩ := X13.virtualBack hx (y := (⟨"com/example/hermit_crab/hermitcrab/JobState", "isFinal", "()Z"⟩ : MethodName)) (z := (⟨"com/example/hermit_crab/hermitcrab/JobState", "isFinal", "()Z"⟩ : MethodName)) hown (mvT hZ (ow hw 15 rfl)) (mvT hZ (ow hw 16 rfl)) (notFace_of_selects (args := #[]) (mvT hZ (ow hw 18 rfl))) (mvT hZ (ow hw 18 rfl)) (mvT hZ (ow hw 17 rfl)) (by decide) (backOf (W := 0) (rm1_3 l Z a0 hw [] G  h13 n0 O13 ) hZ (ow hw 19 rfl) (ow hw 3 rfl) (by decide) (by decide)) q103a q103c (g := (mkF m 79 #[.val (.int p1), .val (.int p2), .val (.ref b3), .val (.int (3 : Int32)), .val (.int (3 : Int32)), .val (.ref w_FAILED), .val (.ref w_FAILED), .val (.int (1 : Int32)), .unset] [(.ref w_FAILED)])) rfl (by rw [hml]; rfl) (Steps.refl _) (argsL := []) (rest := []) (lenOf pd_0 rfl) rfl (by show 2 * 0 + _ ≤ _; exact Nat.le_of_eq rfl) (hb hby at_79) (fun _ _ => ⟨rfl, e13, (by decide : 1 + 0 ≤ _), (by decide : 5 + 0 ≤ _)⟩)
      dsimp only [Pt.U, Pt.locs, Pt.cells, Pt.slots] at X103 l103 y103 z103 st103 hQ103
      subst l103 y103 z103
      obtain ⟨rfl, N103q, e103⟩ := hQ103
      have N103 := Fr.app N13 N103q
      refine OGot.on st103 ?_
      show OGot p.tables e below (T103.setTop (mkF m 82 #[.val (.int p1), .val (.int p2), .val (.ref b3), .val (.int (3 : Int32)), .val (.int (3 : Int32)), .val (.ref w_FAILED), .val (.ref w_FAILED), .val (.int (1 : Int32)), .unset] [(.int (1 : Int32))])) _
      refine OGot.go (fun t k => XS.istore X103.here hx rfl (hb hby at_82) rfl (l' := #[.val (.int p1), .val (.int p2), .val (.ref b3), .val (.int (3 : Int32)), .val (.int (3 : Int32)), .val (.ref w_FAILED), .val (.ref w_FAILED), .val (.int (1 : Int32)), .val (.int (1 : Int32))]) rfl k) ?_
      show OGot p.tables e below (T103.setTop (mkF m 84 #[.val (.int p1), .val (.int p2), .val (.ref b3), .val (.int (3 : Int32)), .val (.int (3 : Int32)), .val (.ref w_FAILED), .val (.ref w_FAILED), .val (.int (1 : Int32)), .val (.int (1 : Int32))] [])) _
      refine OGot.go (fun t k => XS.iload X103.here hx rfl (hb hby at_84) rfl k) ?_
      show OGot p.tables e below (T103.setTop (mkF m 86 #[.val (.int p1), .val (.int p2), .val (.ref b3), .val (.int (3 : Int32)), .val (.int (3 : Int32)), .val (.ref w_FAILED), .val (.ref w_FAILED), .val (.int (1 : Int32)), .val (.int (1 : Int32))] [(.int (1 : Int32))])) _
      refine OGot.go (fun t k => XS.iload X103.here hx rfl (hb hby at_86) rfl k) ?_
      show OGot p.tables e below (T103.setTop (mkF m 88 #[.val (.int p1), .val (.int p2), .val (.ref b3), .val (.int (3 : Int32)), .val (.int (3 : Int32)), .val (.ref w_FAILED), .val (.ref w_FAILED), .val (.int (1 : Int32)), .val (.int (1 : Int32))] [(.int (1 : Int32)), (.int (1 : Int32))])) _
      refine OGot.go (fun t k => XS.icmpYes X103.here hx rfl (pc0 := 88) (pc' := 93) rfl (hb hby at_88) rfl (by decide) (by decide) (by decide) k) ?_
      show OGot p.tables e below (T103.setTop (mkF m 93 #[.val (.int p1), .val (.int p2), .val (.ref b3), .val (.int (3 : Int32)), .val (.int (3 : Int32)), .val (.ref w_FAILED), .val (.ref w_FAILED), .val (.int (1 : Int32)), .val (.int (1 : Int32))] [])) _
      refine OGot.go (fun t k => XS.iload X103.here hx rfl (hb hby at_93) rfl k) ?_
      show OGot p.tables e below (T103.setTop (mkF m 95 #[.val (.int p1), .val (.int p2), .val (.ref b3), .val (.int (3 : Int32)), .val (.int (3 : Int32)), .val (.ref w_FAILED), .val (.ref w_FAILED), .val (.int (1 : Int32)), .val (.int (1 : Int32))] [(.int (1 : Int32))])) _
      refine OGot.go (fun t k => XS.ifNo X103.here hx rfl (hb hby at_95) rfl (by decide) k) ?_
      show OGot p.tables e below (T103.setTop (mkF m 98 #[.val (.int p1), .val (.int p2), .val (.ref b3), .val (.int (3 : Int32)), .val (.int (3 : Int32)), .val (.ref w_FAILED), .val (.ref w_FAILED), .val (.int (1 : Int32)), .val (.int (1 : Int32))] [])) _
      refine OGot.go (fun t k => XS.aload X103.here hx rfl (hb hby at_98) rfl rfl k) ?_
      show OGot p.tables e below (T103.setTop (mkF m 100 #[.val (.int p1), .val (.int p2), .val (.ref b3), .val (.int (3 : Int32)), .val (.int (3 : Int32)), .val (.ref w_FAILED), .val (.ref w_FAILED), .val (.int (1 : Int32)), .val (.int (1 : Int32))] [(.ref w_FAILED)])) _
      refine OGot.go (fun t k => XS.aload X103.here hx rfl (hb hby at_100) rfl rfl k) ?_
      show OGot p.tables e below (T103.setTop (mkF m 102 #[.val (.int p1), .val (.int p2), .val (.ref b3), .val (.int (3 : Int32)), .val (.int (3 : Int32)), .val (.ref w_FAILED), .val (.ref w_FAILED), .val (.int (1 : Int32)), .val (.int (1 : Int32))] [(.ref w_FAILED), (.ref w_FAILED)])) _
      obtain ⟨cq104, kq104, q104a, q104b, q104c⟩ := isOf hZ e103 (G.2.2.2.2.2.2.2.1.ext O13.2)
      obtain ⟨_, _, ⟨T104, L104, k104, n104⟩, -, X104, ⟨Lc104, hQ104, l104, y104, z104⟩, st104⟩ := X103.virtualBack hx (y := (⟨"com/example/hermit_crab/hermitcrab/JobState", "canMoveTo", "(Lcom/example/hermit_crab/hermitcrab/JobState;)Z"⟩ : MethodName)) (z := (⟨"com/example/hermit_crab/hermitcrab/JobState", "canMoveTo", "(Lcom/example/hermit_crab/hermitcrab/JobState;)Z"⟩ : MethodName)) hown (mvT hZ (ow hw 23 rfl)) (mvT hZ (ow hw 24 rfl)) (notFace_of_selects (args := #[]) (mvT hZ (ow hw 26 rfl))) (mvT hZ (ow hw 26 rfl)) (mvT hZ (ow hw 25 rfl)) (by decide) (backOf (W := 0) (rm2_8 l Z a0 hw [] G  h13 n0 O13 ) hZ (ow hw 27 rfl) (ow hw 3 rfl) (by decide) (by decide)) q104a q104c (g := (mkF m 102 #[.val (.int p1), .val (.int p2), .val (.ref b3), .val (.int (3 : Int32)), .val (.int (3 : Int32)), .val (.ref w_FAILED), .val (.ref w_FAILED), .val (.int (1 : Int32)), .val (.int (1 : Int32))] [(.ref w_FAILED), (.ref w_FAILED)])) rfl (by rw [hml]; rfl) (Steps.refl _) (argsL := [(.ref w_FAILED)]) (rest := []) (lenOf pd_2 rfl) rfl (by show 2 * 0 + _ ≤ _; exact Nat.le_of_eq rfl) (hb hby at_102) (fun _ _ => ⟨rfl, e103, (by decide : 1 + 0 ≤ _), (by decide : 5 + 0 ≤ _)⟩)
      dsimp only [Pt.U, Pt.locs, Pt.cells, Pt.slots] at X104 l104 y104 z104 st104 hQ104
      subst l104 y104 z104
      obtain ⟨rfl, N104q, e104⟩ := hQ104
      have N104 := Fr.app N103 N104q
      refine OGot.on st104 ?_
      show OGot p.tables e below (T104.setTop (mkF m 105 #[.val (.int p1), .val (.int p2), .val (.ref b3), .val (.int (3 : Int32)), .val (.int (3 : Int32)), .val (.ref w_FAILED), .val (.ref w_FAILED), .val (.int (1 : Int32)), .val (.int (1 : Int32))] [(.int (0 : Int32))])) _
      refine OGot.go (fun t k => XS.ifYes X104.here hx rfl (pc0 := 105) (pc' := 124) rfl (hb hby at_105) rfl (by decide) (by decide) (by decide) k) ?_
      show OGot p.tables e below (T104.setTop (mkF m 124 #[.val (.int p1), .val (.int p2), .val (.ref b3), .val (.int (3 : Int32)), .val (.int (3 : Int32)), .val (.ref w_FAILED), .val (.ref w_FAILED), .val (.int (1 : Int32)), .val (.int (1 : Int32))] [])) _
      refine OGot.go (fun t k => XS.iconst X104.here hx rfl (hb hby at_124) k) ?_
      show OGot p.tables e below (T104.setTop (mkF m 125 #[.val (.int p1), .val (.int p2), .val (.ref b3), .val (.int (3 : Int32)), .val (.int (3 : Int32)), .val (.ref w_FAILED), .val (.ref w_FAILED), .val (.int (1 : Int32)), .val (.int (1 : Int32))] [(.int (1 : Int32))])) _
      obtain ⟨fs, hr, hrun, hended, hW, hsame⟩ := X104.leave (v := some (.int (1 : Int32))) (fun h => by rw [Bd.returns] at h; cases h)
      refine ⟨_, _, retN X104 hx (t := .boolean) Bd.returns (by simp) (hb hby at_125) hr, hrun, hended, _, _, rfl, ?_, ⟨_, rfl⟩, hW, hsame.mono (by decide) (by decide)⟩
      exact (⟨rfl, N104⟩ : Q0 Z w_PENDING w_RUNNING w_COMPLETED w_FAILED w_CANCELLED p1 p2 h0 n0 _ T104.heap _)
    · rw [hk88]
      show OGot p.tables e below (T13.setTop (mkF m 48 #[.val (.int p1), .val (.int p2), .val (.ref b3), .val (.int (3 : Int32)), .unset, .unset, .unset, .unset, .unset] [(.int (4 : Int32))])) _
      refine OGot.go (fun t k => XS.istore X13.here hx rfl (hb hby at_48) rfl (l' := #[.val (.int p1), .val (.int p2), .val (.ref b3), .val (.int (3 : Int32)), .val (.int (4 : Int32)), .unset, .unset, .unset, .unset]) rfl k) ?_
      show OGot p.tables e below (T13.setTop (mkF m 50 #[.val (.int p1), .val (.int p2), .val (.ref b3), .val (.int (3 : Int32)), .val (.int (4 : Int32)), .unset, .unset, .unset, .unset] [])) _
      refine OGot.go (fun t k => XS.aloadN X13.here hx rfl (hb hby at_50) rfl rfl k) ?_
      show OGot p.tables e below (T13.setTop (mkF m 51 #[.val (.int p1), .val (.int p2), .val (.ref b3), .val (.int (3 : Int32)), .val (.int (4 : Int32)), .unset, .unset, .unset, .unset] [(.ref b3)])) _
      refine OGot.go (fun t k => XS.iloadN X13.here hx rfl (hb hby at_51) rfl k) ?_
      show OGot p.tables e below (T13.setTop (mkF m 52 #[.val (.int p1), .val (.int p2), .val (.ref b3), .val (.int (3 : Int32)), .val (.int (4 : Int32)), .unset, .unset, .unset, .unset] [(.int (3 : Int32)), (.ref b3)])) _
      obtain ⟨cl105, Ar105, qc105, Sz105, Ng105, Hh105, Gg105⟩ := id (Va13)
      have hin105 : ¬ ((3 : Int32) < 0 ∨ cl105.slots.size ≤ ((3 : Int32)).toNatClampNeg) := inb_of Sz105 ⟨by decide, by decide⟩
      have hat105 : cl105.slots[((3 : Int32)).toNatClampNeg]? = some (.ref w_FAILED) := Hh105.at hin105 rfl
      refine OGot.go (fun t k => X13.aaload hx (j := (3 : Int32)) (v := (.ref w_FAILED)) (by rw [e13]; exact Ar105.1) (State.isArrayOf_alike hZ.alike Ar105.2.1) rfl Ar105.2.2 hin105 hat105 (g := (mkF m 52 #[.val (.int p1), .val (.int p2), .val (.ref b3), .val (.int (3 : Int32)), .val (.int (4 : Int32)), .unset, .unset, .unset, .unset] [(.int (3 : Int32)), (.ref b3)])) rfl rfl (hb hby at_52) _ k) ?_
      show OGot p.tables e below (T13.setTop (mkF m 53 #[.val (.int p1), .val (.int p2), .val (.ref b3), .val (.int (3 : Int32)), .val (.int (4 : Int32)), .unset, .unset, .unset, .unset] [(.ref w_FAILED)])) _
      refine OGot.go (fun t k => XS.astore X13.here hx rfl (hb hby at_53) rfl rfl (l' := #[.val (.int p1), .val (.int p2), .val (.ref b3), .val (.int (3 : Int32)), .val (.int (4 : Int32)), .val (.ref w_FAILED), .unset, .unset, .unset]) rfl k) ?_
      show OGot p.tables e below (T13.setTop (mkF m 55 #[.val (.int p1), .val (.int p2), .val (.ref b3), .val (.int (3 : Int32)), .val (.int (4 : Int32)), .val (.ref w_FAILED), .unset, .unset, .unset] [])) _
      refine OGot.go (fun t k => XS.aloadN X13.here hx rfl (hb hby at_55) rfl rfl k) ?_
      show OGot p.tables e below (T13.setTop (mkF m 56 #[.val (.int p1), .val (.int p2), .val (.ref b3), .val (.int (3 : Int32)), .val (.int (4 : Int32)), .val (.ref w_FAILED), .unset, .unset, .unset] [(.ref b3)])) _
      refine OGot.go (fun t k => XS.iload X13.here hx rfl (hb hby at_56) rfl k) ?_
      show OGot p.tables e below (T13.setTop (mkF m 58 #[.val (.int p1), .val (.int p2), .val (.ref b3), .val (.int (3 : Int32)), .val (.int (4 : Int32)), .val (.ref w_FAILED), .unset, .unset, .unset] [(.int (4 : Int32)), (.ref b3)])) _
      obtain ⟨cl106, Ar106, qc106, Sz106, Ng106, Hh106, Gg106⟩ := id (Va13)
      have hin106 : ¬ ((4 : Int32) < 0 ∨ cl106.slots.size ≤ ((4 : Int32)).toNatClampNeg) := inb_of Sz106 ⟨by decide, by decide⟩
      have hat106 : cl106.slots[((4 : Int32)).toNatClampNeg]? = some (.ref w_CANCELLED) := Hh106.at hin106 rfl
      refine OGot.go (fun t k => X13.aaload hx (j := (4 : Int32)) (v := (.ref w_CANCELLED)) (by rw [e13]; exact Ar106.1) (State.isArrayOf_alike hZ.alike Ar106.2.1) rfl Ar106.2.2 hin106 hat106 (g := (mkF m 58 #[.val (.int p1), .val (.int p2), .val (.ref b3), .val (.int (3 : Int32)), .val (.int (4 : Int32)), .val (.ref w_FAILED), .unset, .unset, .unset] [(.int (4 : Int32)), (.ref b3)])) rfl rfl (hb hby at_58) _ k) ?_
      show OGot p.tables e below (T13.setTop (mkF m 59 #[.val (.int p1), .val (.int p2), .val (.ref b3), .val (.int (3 : Int32)), .val (.int (4 : Int32)), .val (.ref w_FAILED), .unset, .unset, .unset] [(.ref w_CANCELLED)])) _
      refine OGot.go (fun t k => XS.astore X13.here hx rfl (hb hby at_59) rfl rfl (l' := #[.val (.int p1), .val (.int p2), .val (.ref b3), .val (.int (3 : Int32)), .val (.int (4 : Int32)), .val (.ref w_FAILED), .val (.ref w_CANCELLED), .unset, .unset]) rfl k) ?_
      show OGot p.tables e below (T13.setTop (mkF m 61 #[.val (.int p1), .val (.int p2), .val (.ref b3), .val (.int (3 : Int32)), .val (.int (4 : Int32)), .val (.ref w_FAILED), .val (.ref w_CANCELLED), .unset, .unset] [])) _
      refine OGot.go (fun t k => XS.iloadN X13.here hx rfl (hb hby at_61) rfl k) ?_
      show OGot p.tables e below (T13.setTop (mkF m 62 #[.val (.int p1), .val (.int p2), .val (.ref b3), .val (.int (3 : Int32)), .val (.int (4 : Int32)), .val (.ref w_FAILED), .val (.ref w_CANCELLED), .unset, .unset] [(.int (3 : Int32))])) _
      refine OGot.go (fun t k => XS.ifNo X13.here hx rfl (hb hby at_62) rfl (by decide) k) ?_
      show OGot p.tables e below (T13.setTop (mkF m 65 #[.val (.int p1), .val (.int p2), .val (.ref b3), .val (.int (3 : Int32)), .val (.int (4 : Int32)), .val (.ref w_FAILED), .val (.ref w_CANCELLED), .unset, .unset] [])) _
      refine OGot.go (fun t k => XS.iloadN X13.here hx rfl (hb hby at_65) rfl k) ?_
      show OGot p.tables e below (T13.setTop (mkF m 66 #[.val (.int p1), .val (.int p2), .val (.ref b3), .val (.int (3 : Int32)), .val (.int (4 : Int32)), .val (.ref w_FAILED), .val (.ref w_CANCELLED), .unset, .unset] [(.int (3 : Int32))])) _
      refine OGot.go (fun t k => XS.iconst X13.here hx rfl (hb hby at_66) k) ?_
      show OGot p.tables e below (T13.setTop (mkF m 67 #[.val (.int p1), .val (.int p2), .val (.ref b3), .val (.int (3 : Int32)), .val (.int (4 : Int32)), .val (.ref w_FAILED), .val (.ref w_CANCELLED), .unset, .unset] [(.int (1 : Int32)), (.int (3 : Int32))])) _
      refine OGot.go (fun t k => XS.icmpNo X13.here hx rfl (hb hby at_67) rfl (by decide) k) ?_
      show OGot p.tables e below (T13.setTop (mkF m 70 #[.val (.int p1), .val (.int p2), .val (.ref b3), .val (.int (3 : Int32)), .val (.int (4 : Int32)), .val (.ref w_FAILED), .val (.ref w_CANCELLED), .unset, .unset] [])) _
      refine OGot.go (fun t k => XS.iconst X13.here hx rfl (hb hby at_70) k) ?_
      show OGot p.tables e below (T13.setTop (mkF m 71 #[.val (.int p1), .val (.int p2), .val (.ref b3), .val (.int (3 : Int32)), .val (.int (4 : Int32)), .val (.ref w_FAILED), .val (.ref w_CANCELLED), .unset, .unset] [(.int (1 : Int32))])) _
      refine OGot.go (fun t k => XS.goto X13.here hx rfl (pc0 := 71) (pc' := 75) rfl (hb hby at_71) (by decide) (by decide) k) ?_
      show OGot p.tables e below (T13.setTop (mkF m 75 #[.val (.int p1), .val (.int p2), .val (.ref b3), .val (.int (3 : Int32)), .val (.int (4 : Int32)), .val (.ref w_FAILED), .val (.ref w_CANCELLED), .unset, .unset] [(.int (1 : Int32))])) _
      refine OGot.go (fun t k => XS.istore X13.here hx rfl (hb hby at_75) rfl (l' := #[.val (.int p1), .val (.int p2), .val (.ref b3), .val (.int (3 : Int32)), .val (.int (4 : Int32)), .val (.ref w_FAILED), .val (.ref w_CANCELLED), .val (.int (1 : Int32)), .unset]) rfl k) ?_
      show OGot p.tables e below (T13.setTop (mkF m 77 #[.val (.int p1), .val (.int p2), .val (.ref b3), .val (.int (3 : Int32)), .val (.int (4 : Int32)), .val (.ref w_FAILED), .val (.ref w_CANCELLED), .val (.int (1 : Int32)), .unset] [])) _
      refine OGot.go (fun t k => XS.aload X13.here hx rfl (hb hby at_77) rfl rfl k) ?_
      show OGot p.tables e below (T13.setTop (mkF m 79 #[.val (.int p1), .val (.int p2), .val (.ref b3), .val (.int (3 : Int32)), .val (.int (4 : Int32)), .val (.ref w_FAILED), .val (.ref w_CANCELLED), .val (.int (1 : Int32)), .unset] [(.ref w_FAILED)])) _
      obtain ⟨cq107, kq107, q107a, q107b, q107c⟩ := isOf hZ e13 (G.2.2.2.2.2.2.2.1.ext O13.2)
      obtain ⟨_, _, ⟨T107, L107, k107, n107⟩, -, X107, ⟨Lc107, hQ107, l107, y107, z107⟩, st107⟩ := X13.virtualBack hx (y := (⟨"com/example/hermit_crab/hermitcrab/JobState", "isFinal", "()Z"⟩ : MethodName)) (z := (⟨"com/example/hermit_crab/hermitcrab/JobState", "isFinal", "()Z"⟩ : MethodName)) hown (mvT hZ (ow hw 15 rfl)) (mvT hZ (ow hw 16 rfl)) (notFace_of_selects (args := #[]) (mvT hZ (ow hw 18 rfl))) (mvT hZ (ow hw 18 rfl)) (mvT hZ (ow hw 17 rfl)) (by decide) (backOf (W := 0) (rm1_3 l Z a0 hw [] G  h13 n0 O13 ) hZ (ow hw 19 rfl) (ow hw 3 rfl) (by decide) (by decide)) q107a q107c (g := (mkF m 79 #[.val (.int p1), .val (.int p2), .val (.ref b3), .val (.int (3 : Int32)), .val (.int (4 : Int32)), .val (.ref w_FAILED), .val (.ref w_CANCELLED), .val (.int (1 : Int32)), .unset] [(.ref w_FAILED)])) rfl (by rw [hml]; rfl) (Steps.refl _) (argsL := []) (rest := []) (lenOf pd_0 rfl) rfl (by show 2 * 0 + _ ≤ _; exact Nat.le_of_eq rfl) (hb hby at_79) (fun _ _ => ⟨rfl, e13, (by decide : 1 + 0 ≤ _), (by decide : 5 + 0 ≤ _)⟩)
      dsimp only [Pt.U, Pt.locs, Pt.cells, Pt.slots] at X107 l107 y107 z107 st107 hQ107
      subst l107 y107 z107
      obtain ⟨rfl, N107q, e107⟩ := hQ107
      have N107 := Fr.app N13 N107q
      refine OGot.on st107 ?_
      show OGot p.tables e below (T107.setTop (mkF m 82 #[.val (.int p1), .val (.int p2), .val (.ref b3), .val (.int (3 : Int32)), .val (.int (4 : Int32)), .val (.ref w_FAILED), .val (.ref w_CANCELLED), .val (.int (1 : Int32)), .unset] [(.int (1 : Int32))])) _
      refine OGot.go (fun t k => XS.istore X107.here hx rfl (hb hby at_82) rfl (l' := #[.val (.int p1), .val (.int p2), .val (.ref b3), .val (.int (3 : Int32)), .val (.int (4 : Int32)), .val (.ref w_FAILED), .val (.ref w_CANCELLED), .val (.int (1 : Int32)), .val (.int (1 : Int32))]) rfl k) ?_
      show OGot p.tables e below (T107.setTop (mkF m 84 #[.val (.int p1), .val (.int p2), .val (.ref b3), .val (.int (3 : Int32)), .val (.int (4 : Int32)), .val (.ref w_FAILED), .val (.ref w_CANCELLED), .val (.int (1 : Int32)), .val (.int (1 : Int32))] [])) _
      refine OGot.go (fun t k => XS.iload X107.here hx rfl (hb hby at_84) rfl k) ?_
      show OGot p.tables e below (T107.setTop (mkF m 86 #[.val (.int p1), .val (.int p2), .val (.ref b3), .val (.int (3 : Int32)), .val (.int (4 : Int32)), .val (.ref w_FAILED), .val (.ref w_CANCELLED), .val (.int (1 : Int32)), .val (.int (1 : Int32))] [(.int (1 : Int32))])) _
      refine OGot.go (fun t k => XS.iload X107.here hx rfl (hb hby at_86) rfl k) ?_
      show OGot p.tables e below (T107.setTop (mkF m 88 #[.val (.int p1), .val (.int p2), .val (.ref b3), .val (.int (3 : Int32)), .val (.int (4 : Int32)), .val (.ref w_FAILED), .val (.ref w_CANCELLED), .val (.int (1 : Int32)), .val (.int (1 : Int32))] [(.int (1 : Int32)), (.int (1 : Int32))])) _
      refine OGot.go (fun t k => XS.icmpYes X107.here hx rfl (pc0 := 88) (pc' := 93) rfl (hb hby at_88) rfl (by decide) (by decide) (by decide) k) ?_
      show OGot p.tables e below (T107.setTop (mkF m 93 #[.val (.int p1), .val (.int p2), .val (.ref b3), .val (.int (3 : Int32)), .val (.int (4 : Int32)), .val (.ref w_FAILED), .val (.ref w_CANCELLED), .val (.int (1 : Int32)), .val (.int (1 : Int32))] [])) _
      refine OGot.go (fun t k => XS.iload X107.here hx rfl (hb hby at_93) rfl k) ?_
      show OGot p.tables e below (T107.setTop (mkF m 95 #[.val (.int p1), .val (.int p2), .val (.ref b3), .val (.int (3 : Int32)), .val (.int (4 : Int32)), .val (.ref w_FAILED), .val (.ref w_CANCELLED), .val (.int (1 : Int32)), .val (.int (1 : Int32))] [(.int (1 : Int32))])) _
      refine OGot.go (fun t k => XS.ifNo X107.here hx rfl (hb hby at_95) rfl (by decide) k) ?_
      show OGot p.tables e below (T107.setTop (mkF m 98 #[.val (.int p1), .val (.int p2), .val (.ref b3), .val (.int (3 : Int32)), .val (.int (4 : Int32)), .val (.ref w_FAILED), .val (.ref w_CANCELLED), .val (.int (1 : Int32)), .val (.int (1 : Int32))] [])) _
      refine OGot.go (fun t k => XS.aload X107.here hx rfl (hb hby at_98) rfl rfl k) ?_
      show OGot p.tables e below (T107.setTop (mkF m 100 #[.val (.int p1), .val (.int p2), .val (.ref b3), .val (.int (3 : Int32)), .val (.int (4 : Int32)), .val (.ref w_FAILED), .val (.ref w_CANCELLED), .val (.int (1 : Int32)), .val (.int (1 : Int32))] [(.ref w_FAILED)])) _
      refine OGot.go (fun t k => XS.aload X107.here hx rfl (hb hby at_100) rfl rfl k) ?_
      show OGot p.tables e below (T107.setTop (mkF m 102 #[.val (.int p1), .val (.int p2), .val (.ref b3), .val (.int (3 : Int32)), .val (.int (4 : Int32)), .val (.ref w_FAILED), .val (.ref w_CANCELLED), .val (.int (1 : Int32)), .val (.int (1 : Int32))] [(.ref w_CANCELLED), (.ref w_FAILED)])) _
      obtain ⟨cq108, kq108, q108a, q108b, q108c⟩ := isOf hZ e107 (G.2.2.2.2.2.2.2.1.ext O13.2)
      obtain ⟨_, _, ⟨T108, L108, k108, n108⟩, -, X108, ⟨Lc108, hQ108, l108, y108, z108⟩, st108⟩ := X107.virtualBack hx (y := (⟨"com/example/hermit_crab/hermitcrab/JobState", "canMoveTo", "(Lcom/example/hermit_crab/hermitcrab/JobState;)Z"⟩ : MethodName)) (z := (⟨"com/example/hermit_crab/hermitcrab/JobState", "canMoveTo", "(Lcom/example/hermit_crab/hermitcrab/JobState;)Z"⟩ : MethodName)) hown (mvT hZ (ow hw 23 rfl)) (mvT hZ (ow hw 24 rfl)) (notFace_of_selects (args := #[]) (mvT hZ (ow hw 26 rfl))) (mvT hZ (ow hw 26 rfl)) (mvT hZ (ow hw 25 rfl)) (by decide) (backOf (W := 0) (rm2_9 l Z a0 hw [] G  h13 n0 O13 ) hZ (ow hw 27 rfl) (ow hw 3 rfl) (by decide) (by decide)) q108a q108c (g := (mkF m 102 #[.val (.int p1), .val (.int p2), .val (.ref b3), .val (.int (3 : Int32)), .val (.int (4 : Int32)), .val (.ref w_FAILED), .val (.ref w_CANCELLED), .val (.int (1 : Int32)), .val (.int (1 : Int32))] [(.ref w_CANCELLED), (.ref w_FAILED)])) rfl (by rw [hml]; rfl) (Steps.refl _) (argsL := [(.ref w_CANCELLED)]) (rest := []) (lenOf pd_2 rfl) rfl (by show 2 * 0 + _ ≤ _; exact Nat.le_of_eq rfl) (hb hby at_102) (fun _ _ => ⟨rfl, e107, (by decide : 1 + 0 ≤ _), (by decide : 5 + 0 ≤ _)⟩)
      dsimp only [Pt.U, Pt.locs, Pt.cells, Pt.slots] at X108 l108 y108 z108 st108 hQ108
      subst l108 y108 z108
      obtain ⟨rfl, N108q, e108⟩ := hQ108
      have N108 := Fr.app N107 N108q
      refine OGot.on st108 ?_
      show OGot p.tables e below (T108.setTop (mkF m 105 #[.val (.int p1), .val (.int p2), .val (.ref b3), .val (.int (3 : Int32)), .val (.int (4 : Int32)), .val (.ref w_FAILED), .val (.ref w_CANCELLED), .val (.int (1 : Int32)), .val (.int (1 : Int32))] [(.int (0 : Int32))])) _
      refine OGot.go (fun t k => XS.ifYes X108.here hx rfl (pc0 := 105) (pc' := 124) rfl (hb hby at_105) rfl (by decide) (by decide) (by decide) k) ?_
      show OGot p.tables e below (T108.setTop (mkF m 124 #[.val (.int p1), .val (.int p2), .val (.ref b3), .val (.int (3 : Int32)), .val (.int (4 : Int32)), .val (.ref w_FAILED), .val (.ref w_CANCELLED), .val (.int (1 : Int32)), .val (.int (1 : Int32))] [])) _
      refine OGot.go (fun t k => XS.iconst X108.here hx rfl (hb hby at_124) k) ?_
      show OGot p.tables e below (T108.setTop (mkF m 125 #[.val (.int p1), .val (.int p2), .val (.ref b3), .val (.int (3 : Int32)), .val (.int (4 : Int32)), .val (.ref w_FAILED), .val (.ref w_CANCELLED), .val (.int (1 : Int32)), .val (.int (1 : Int32))] [(.int (1 : Int32))])) _
      obtain ⟨fs, hr, hrun, hended, hW, hsame⟩ := X108.leave (v := some (.int (1 : Int32))) (fun h => by rw [Bd.returns] at h; cases h)
      refine ⟨_, _, retN X108 hx (t := .boolean) Bd.returns (by simp) (hb hby at_125) hr, hrun, hended, _, _, rfl, ?_, ⟨_, rfl⟩, hW, hsame.mono (by decide) (by decide)⟩
      exact (⟨rfl, N108⟩ : Q0 Z w_PENDING w_RUNNING w_COMPLETED w_FAILED w_CANCELLED p1 p2 h0 n0 _ T108.heap _)
  · rw [hk18]
    show OGot p.tables e below (T13.setTop (mkF m 41 #[.val (.int p1), .val (.int p2), .val (.ref b3), .unset, .unset, .unset, .unset, .unset, .unset] [(.int (4 : Int32))])) _
    refine OGot.go (fun t k => XS.istoreN X13.here hx rfl (hb hby at_41) rfl (l' := #[.val (.int p1), .val (.int p2), .val (.ref b3), .val (.int (4 : Int32)), .unset, .unset, .unset, .unset, .unset]) rfl k) ?_
    show OGot p.tables e below (T13.setTop (mkF m 42 #[.val (.int p1), .val (.int p2), .val (.ref b3), .val (.int (4 : Int32)), .unset, .unset, .unset, .unset, .unset] [])) _
    refine OGot.go (fun t k => XS.iloadN X13.here hx rfl (hb hby at_42) rfl k) ?_
    show OGot p.tables e below (T13.setTop (mkF m 43 #[.val (.int p1), .val (.int p2), .val (.ref b3), .val (.int (4 : Int32)), .unset, .unset, .unset, .unset, .unset] [(.int p2)])) _
    refine OGot.go (fun t k => X13.ldcInt hx hown (mvT hZ (ow hw 14 rfl)) (g := (mkF m 43 #[.val (.int p1), .val (.int p2), .val (.ref b3), .val (.int (4 : Int32)), .unset, .unset, .unset, .unset, .unset] [(.int p2)])) rfl (hb hby at_43) _ k) ?_
    show OGot p.tables e below (T13.setTop (mkF m 45 #[.val (.int p1), .val (.int p2), .val (.ref b3), .val (.int (4 : Int32)), .unset, .unset, .unset, .unset, .unset] [(.int (2147483647 : Int32)), (.int p2)])) _
    refine OGot.go (fun t k => XS.iand X13.here hx rfl (hb hby at_45) rfl k) ?_
    show OGot p.tables e below (T13.setTop (mkF m 46 #[.val (.int p1), .val (.int p2), .val (.ref b3), .val (.int (4 : Int32)), .unset, .unset, .unset, .unset, .unset] [(.int (p2 &&& (2147483647 : Int32)))])) _
    refine OGot.go (fun t k => XS.iconst X13.here hx rfl (hb hby at_46) k) ?_
    show OGot p.tables e below (T13.setTop (mkF m 47 #[.val (.int p1), .val (.int p2), .val (.ref b3), .val (.int (4 : Int32)), .unset, .unset, .unset, .unset, .unset] [(.int (5 : Int32)), (.int (p2 &&& (2147483647 : Int32)))])) _
    refine OGot.go (fun t k => iremM X13 hx rfl (hb hby at_47) rfl (by decide) k) ?_
    show OGot p.tables e below (T13.setTop (mkF m 48 #[.val (.int p1), .val (.int p2), .val (.ref b3), .val (.int (4 : Int32)), .unset, .unset, .unset, .unset, .unset] [(.int ((p2 &&& (2147483647 : Int32)) % (5 : Int32)))])) _
    rcases own_rem5 p2 with hk109 | hk110 | hk111 | hk112 | hk113
    · rw [hk109]
      show OGot p.tables e below (T13.setTop (mkF m 48 #[.val (.int p1), .val (.int p2), .val (.ref b3), .val (.int (4 : Int32)), .unset, .unset, .unset, .unset, .unset] [(.int (0 : Int32))])) _
      refine OGot.go (fun t k => XS.istore X13.here hx rfl (hb hby at_48) rfl (l' := #[.val (.int p1), .val (.int p2), .val (.ref b3), .val (.int (4 : Int32)), .val (.int (0 : Int32)), .unset, .unset, .unset, .unset]) rfl k) ?_
      show OGot p.tables e below (T13.setTop (mkF m 50 #[.val (.int p1), .val (.int p2), .val (.ref b3), .val (.int (4 : Int32)), .val (.int (0 : Int32)), .unset, .unset, .unset, .unset] [])) _
      refine OGot.go (fun t k => XS.aloadN X13.here hx rfl (hb hby at_50) rfl rfl k) ?_
      show OGot p.tables e below (T13.setTop (mkF m 51 #[.val (.int p1), .val (.int p2), .val (.ref b3), .val (.int (4 : Int32)), .val (.int (0 : Int32)), .unset, .unset, .unset, .unset] [(.ref b3)])) _
      refine OGot.go (fun t k => XS.iloadN X13.here hx rfl (hb hby at_51) rfl k) ?_
      show OGot p.tables e below (T13.setTop (mkF m 52 #[.val (.int p1), .val (.int p2), .val (.ref b3), .val (.int (4 : Int32)), .val (.int (0 : Int32)), .unset, .unset, .unset, .unset] [(.int (4 : Int32)), (.ref b3)])) _
      obtain ⟨cl114, Ar114, qc114, Sz114, Ng114, Hh114, Gg114⟩ := id (Va13)
      have hin114 : ¬ ((4 : Int32) < 0 ∨ cl114.slots.size ≤ ((4 : Int32)).toNatClampNeg) := inb_of Sz114 ⟨by decide, by decide⟩
      have hat114 : cl114.slots[((4 : Int32)).toNatClampNeg]? = some (.ref w_CANCELLED) := Hh114.at hin114 rfl
      refine OGot.go (fun t k => X13.aaload hx (j := (4 : Int32)) (v := (.ref w_CANCELLED)) (by rw [e13]; exact Ar114.1) (State.isArrayOf_alike hZ.alike Ar114.2.1) rfl Ar114.2.2 hin114 hat114 (g := (mkF m 52 #[.val (.int p1), .val (.int p2), .val (.ref b3), .val (.int (4 : Int32)), .val (.int (0 : Int32)), .unset, .unset, .unset, .unset] [(.int (4 : Int32)), (.ref b3)])) rfl rfl (hb hby at_52) _ k) ?_
      show OGot p.tables e below (T13.setTop (mkF m 53 #[.val (.int p1), .val (.int p2), .val (.ref b3), .val (.int (4 : Int32)), .val (.int (0 : Int32)), .unset, .unset, .unset, .unset] [(.ref w_CANCELLED)])) _
      refine OGot.go (fun t k => XS.astore X13.here hx rfl (hb hby at_53) rfl rfl (l' := #[.val (.int p1), .val (.int p2), .val (.ref b3), .val (.int (4 : Int32)), .val (.int (0 : Int32)), .val (.ref w_CANCELLED), .unset, .unset, .unset]) rfl k) ?_
      show OGot p.tables e below (T13.setTop (mkF m 55 #[.val (.int p1), .val (.int p2), .val (.ref b3), .val (.int (4 : Int32)), .val (.int (0 : Int32)), .val (.ref w_CANCELLED), .unset, .unset, .unset] [])) _
      refine OGot.go (fun t k => XS.aloadN X13.here hx rfl (hb hby at_55) rfl rfl k) ?_
      show OGot p.tables e below (T13.setTop (mkF m 56 #[.val (.int p1), .val (.int p2), .val (.ref b3), .val (.int (4 : Int32)), .val (.int (0 : Int32)), .val (.ref w_CANCELLED), .unset, .unset, .unset] [(.ref b3)])) _
      refine OGot.go (fun t k => XS.iload X13.here hx rfl (hb hby at_56) rfl k) ?_
      show OGot p.tables e below (T13.setTop (mkF m 58 #[.val (.int p1), .val (.int p2), .val (.ref b3), .val (.int (4 : Int32)), .val (.int (0 : Int32)), .val (.ref w_CANCELLED), .unset, .unset, .unset] [(.int (0 : Int32)), (.ref b3)])) _
      obtain ⟨cl115, Ar115, qc115, Sz115, Ng115, Hh115, Gg115⟩ := id (Va13)
      have hin115 : ¬ ((0 : Int32) < 0 ∨ cl115.slots.size ≤ ((0 : Int32)).toNatClampNeg) := inb_of Sz115 ⟨by decide, by decide⟩
      have hat115 : cl115.slots[((0 : Int32)).toNatClampNeg]? = some (.ref w_PENDING) := Hh115.at hin115 rfl
      refine OGot.go (fun t k => X13.aaload hx (j := (0 : Int32)) (v := (.ref w_PENDING)) (by rw [e13]; exact Ar115.1) (State.isArrayOf_alike hZ.alike Ar115.2.1) rfl Ar115.2.2 hin115 hat115 (g := (mkF m 58 #[.val (.int p1), .val (.int p2), .val (.ref b3), .val (.int (4 : Int32)), .val (.int (0 : Int32)), .val (.ref w_CANCELLED), .unset, .unset, .unset] [(.int (0 : Int32)), (.ref b3)])) rfl rfl (hb hby at_58) _ k) ?_
      show OGot p.tables e below (T13.setTop (mkF m 59 #[.val (.int p1), .val (.int p2), .val (.ref b3), .val (.int (4 : Int32)), .val (.int (0 : Int32)), .val (.ref w_CANCELLED), .unset, .unset, .unset] [(.ref w_PENDING)])) _
      refine OGot.go (fun t k => XS.astore X13.here hx rfl (hb hby at_59) rfl rfl (l' := #[.val (.int p1), .val (.int p2), .val (.ref b3), .val (.int (4 : Int32)), .val (.int (0 : Int32)), .val (.ref w_CANCELLED), .val (.ref w_PENDING), .unset, .unset]) rfl k) ?_
      show OGot p.tables e below (T13.setTop (mkF m 61 #[.val (.int p1), .val (.int p2), .val (.ref b3), .val (.int (4 : Int32)), .val (.int (0 : Int32)), .val (.ref w_CANCELLED), .val (.ref w_PENDING), .unset, .unset] [])) _
      refine OGot.go (fun t k => XS.iloadN X13.here hx rfl (hb hby at_61) rfl k) ?_
      show OGot p.tables e below (T13.setTop (mkF m 62 #[.val (.int p1), .val (.int p2), .val (.ref b3), .val (.int (4 : Int32)), .val (.int (0 : Int32)), .val (.ref w_CANCELLED), .val (.ref w_PENDING), .unset, .unset] [(.int (4 : Int32))])) _
      refine OGot.go (fun t k => XS.ifNo X13.here hx rfl (hb hby at_62) rfl (by decide) k) ?_
      show OGot p.tables e below (T13.setTop (mkF m 65 #[.val (.int p1), .val (.int p2), .val (.ref b3), .val (.int (4 : Int32)), .val (.int (0 : Int32)), .val (.ref w_CANCELLED), .val (.ref w_PENDING), .unset, .unset] [])) _
      refine OGot.go (fun t k => XS.iloadN X13.here hx rfl (hb hby at_65) rfl k) ?_
      show OGot p.tables e below (T13.setTop (mkF m 66 #[.val (.int p1), .val (.int p2), .val (.ref b3), .val (.int (4 : Int32)), .val (.int (0 : Int32)), .val (.ref w_CANCELLED), .val (.ref w_PENDING), .unset, .unset] [(.int (4 : Int32))])) _
      refine OGot.go (fun t k => XS.iconst X13.here hx rfl (hb hby at_66) k) ?_
      show OGot p.tables e below (T13.setTop (mkF m 67 #[.val (.int p1), .val (.int p2), .val (.ref b3), .val (.int (4 : Int32)), .val (.int (0 : Int32)), .val (.ref w_CANCELLED), .val (.ref w_PENDING), .unset, .unset] [(.int (1 : Int32)), (.int (4 : Int32))])) _
      refine OGot.go (fun t k => XS.icmpNo X13.here hx rfl (hb hby at_67) rfl (by decide) k) ?_
      show OGot p.tables e below (T13.setTop (mkF m 70 #[.val (.int p1), .val (.int p2), .val (.ref b3), .val (.int (4 : Int32)), .val (.int (0 : Int32)), .val (.ref w_CANCELLED), .val (.ref w_PENDING), .unset, .unset] [])) _
      refine OGot.go (fun t k => XS.iconst X13.here hx rfl (hb hby at_70) k) ?_
      show OGot p.tables e below (T13.setTop (mkF m 71 #[.val (.int p1), .val (.int p2), .val (.ref b3), .val (.int (4 : Int32)), .val (.int (0 : Int32)), .val (.ref w_CANCELLED), .val (.ref w_PENDING), .unset, .unset] [(.int (1 : Int32))])) _
      refine OGot.go (fun t k => XS.goto X13.here hx rfl (pc0 := 71) (pc' := 75) rfl (hb hby at_71) (by decide) (by decide) k) ?_
      show OGot p.tables e below (T13.setTop (mkF m 75 #[.val (.int p1), .val (.int p2), .val (.ref b3), .val (.int (4 : Int32)), .val (.int (0 : Int32)), .val (.ref w_CANCELLED), .val (.ref w_PENDING), .unset, .unset] [(.int (1 : Int32))])) _
      refine OGot.go (fun t k => XS.istore X13.here hx rfl (hb hby at_75) rfl (l' := #[.val (.int p1), .val (.int p2), .val (.ref b3), .val (.int (4 : Int32)), .val (.int (0 : Int32)), .val (.ref w_CANCELLED), .val (.ref w_PENDING), .val (.int (1 : Int32)), .unset]) rfl k) ?_
      show OGot p.tables e below (T13.setTop (mkF m 77 #[.val (.int p1), .val (.int p2), .val (.ref b3), .val (.int (4 : Int32)), .val (.int (0 : Int32)), .val (.ref w_CANCELLED), .val (.ref w_PENDING), .val (.int (1 : Int32)), .unset] [])) _
      refine OGot.go (fun t k => XS.aload X13.here hx rfl (hb hby at_77) rfl rfl k) ?_
      show OGot p.tables e below (T13.setTop (mkF m 79 #[.val (.int p1), .val (.int p2), .val (.ref b3), .val (.int (4 : Int32)), .val (.int (0 : Int32)), .val (.ref w_CANCELLED), .val (.ref w_PENDING), .val (.int (1 : Int32)), .unset] [(.ref w_CANCELLED)])) _
      obtain ⟨cq116, kq116, q116a, q116b, q116c⟩ := isOf hZ e13 (G.2.2.2.2.2.2.2.2.2.1.ext O13.2)
      obtain ⟨_, _, ⟨T116, L116, k116, n116⟩, -, X116, ⟨Lc116, hQ116, l116, y116, z116⟩, st116⟩ := X13.virtualBack hx (y := (⟨"com/example/hermit_crab/hermitcrab/JobState", "isFinal", "()Z"⟩ : MethodName)) (z := (⟨"com/example/hermit_crab/hermitcrab/JobState", "isFinal", "()Z"⟩ : MethodName)) hown (mvT hZ (ow hw 15 rfl)) (mvT hZ (ow hw 16 rfl)) (notFace_of_selects (args := #[]) (mvT hZ (ow hw 18 rfl))) (mvT hZ (ow hw 18 rfl)) (mvT hZ (ow hw 17 rfl)) (by decide) (backOf (W := 0) (rm1_4 l Z a0 hw [] G  h13 n0 O13 ) hZ (ow hw 19 rfl) (ow hw 3 rfl) (by decide) (by decide)) q116a q116c (g := (mkF m 79 #[.val (.int p1), .val (.int p2), .val (.ref b3), .val (.int (4 : Int32)), .val (.int (0 : Int32)), .val (.ref w_CANCELLED), .val (.ref w_PENDING), .val (.int (1 : Int32)), .unset] [(.ref w_CANCELLED)])) rfl (by rw [hml]; rfl) (Steps.refl _) (argsL := []) (rest := []) (lenOf pd_0 rfl) rfl (by show 2 * 0 + _ ≤ _; exact Nat.le_of_eq rfl) (hb hby at_79) (fun _ _ => ⟨rfl, e13, (by decide : 1 + 0 ≤ _), (by decide : 5 + 0 ≤ _)⟩)
      dsimp only [Pt.U, Pt.locs, Pt.cells, Pt.slots] at X116 l116 y116 z116 st116 hQ116
      subst l116 y116 z116
      obtain ⟨rfl, N116q, e116⟩ := hQ116
      have N116 := Fr.app N13 N116q
      refine OGot.on st116 ?_
      show OGot p.tables e below (T116.setTop (mkF m 82 #[.val (.int p1), .val (.int p2), .val (.ref b3), .val (.int (4 : Int32)), .val (.int (0 : Int32)), .val (.ref w_CANCELLED), .val (.ref w_PENDING), .val (.int (1 : Int32)), .unset] [(.int (1 : Int32))])) _
      refine OGot.go (fun t k => XS.istore X116.here hx rfl (hb hby at_82) rfl (l' := #[.val (.int p1), .val (.int p2), .val (.ref b3), .val (.int (4 : Int32)), .val (.int (0 : Int32)), .val (.ref w_CANCELLED), .val (.ref w_PENDING), .val (.int (1 : Int32)), .val (.int (1 : Int32))]) rfl k) ?_
      show OGot p.tables e below (T116.setTop (mkF m 84 #[.val (.int p1), .val (.int p2), .val (.ref b3), .val (.int (4 : Int32)), .val (.int (0 : Int32)), .val (.ref w_CANCELLED), .val (.ref w_PENDING), .val (.int (1 : Int32)), .val (.int (1 : Int32))] [])) _
      refine OGot.go (fun t k => XS.iload X116.here hx rfl (hb hby at_84) rfl k) ?_
      show OGot p.tables e below (T116.setTop (mkF m 86 #[.val (.int p1), .val (.int p2), .val (.ref b3), .val (.int (4 : Int32)), .val (.int (0 : Int32)), .val (.ref w_CANCELLED), .val (.ref w_PENDING), .val (.int (1 : Int32)), .val (.int (1 : Int32))] [(.int (1 : Int32))])) _
      refine OGot.go (fun t k => XS.iload X116.here hx rfl (hb hby at_86) rfl k) ?_
      show OGot p.tables e below (T116.setTop (mkF m 88 #[.val (.int p1), .val (.int p2), .val (.ref b3), .val (.int (4 : Int32)), .val (.int (0 : Int32)), .val (.ref w_CANCELLED), .val (.ref w_PENDING), .val (.int (1 : Int32)), .val (.int (1 : Int32))] [(.int (1 : Int32)), (.int (1 : Int32))])) _
      refine OGot.go (fun t k => XS.icmpYes X116.here hx rfl (pc0 := 88) (pc' := 93) rfl (hb hby at_88) rfl (by decide) (by decide) (by decide) k) ?_
      show OGot p.tables e below (T116.setTop (mkF m 93 #[.val (.int p1), .val (.int p2), .val (.ref b3), .val (.int (4 : Int32)), .val (.int (0 : Int32)), .val (.ref w_CANCELLED), .val (.ref w_PENDING), .val (.int (1 : Int32)), .val (.int (1 : Int32))] [])) _
      refine OGot.go (fun t k => XS.iload X116.here hx rfl (hb hby at_93) rfl k) ?_
      show OGot p.tables e below (T116.setTop (mkF m 95 #[.val (.int p1), .val (.int p2), .val (.ref b3), .val (.int (4 : Int32)), .val (.int (0 : Int32)), .val (.ref w_CANCELLED), .val (.ref w_PENDING), .val (.int (1 : Int32)), .val (.int (1 : Int32))] [(.int (1 : Int32))])) _
      refine OGot.go (fun t k => XS.ifNo X116.here hx rfl (hb hby at_95) rfl (by decide) k) ?_
      show OGot p.tables e below (T116.setTop (mkF m 98 #[.val (.int p1), .val (.int p2), .val (.ref b3), .val (.int (4 : Int32)), .val (.int (0 : Int32)), .val (.ref w_CANCELLED), .val (.ref w_PENDING), .val (.int (1 : Int32)), .val (.int (1 : Int32))] [])) _
      refine OGot.go (fun t k => XS.aload X116.here hx rfl (hb hby at_98) rfl rfl k) ?_
      show OGot p.tables e below (T116.setTop (mkF m 100 #[.val (.int p1), .val (.int p2), .val (.ref b3), .val (.int (4 : Int32)), .val (.int (0 : Int32)), .val (.ref w_CANCELLED), .val (.ref w_PENDING), .val (.int (1 : Int32)), .val (.int (1 : Int32))] [(.ref w_CANCELLED)])) _
      refine OGot.go (fun t k => XS.aload X116.here hx rfl (hb hby at_100) rfl rfl k) ?_
      show OGot p.tables e below (T116.setTop (mkF m 102 #[.val (.int p1), .val (.int p2), .val (.ref b3), .val (.int (4 : Int32)), .val (.int (0 : Int32)), .val (.ref w_CANCELLED), .val (.ref w_PENDING), .val (.int (1 : Int32)), .val (.int (1 : Int32))] [(.ref w_PENDING), (.ref w_CANCELLED)])) _
      obtain ⟨cq117, kq117, q117a, q117b, q117c⟩ := isOf hZ e116 (G.2.2.2.2.2.2.2.2.2.1.ext O13.2)
      obtain ⟨_, _, ⟨T117, L117, k117, n117⟩, -, X117, ⟨Lc117, hQ117, l117, y117, z117⟩, st117⟩ := X116.virtualBack hx (y := (⟨"com/example/hermit_crab/hermitcrab/JobState", "canMoveTo", "(Lcom/example/hermit_crab/hermitcrab/JobState;)Z"⟩ : MethodName)) (z := (⟨"com/example/hermit_crab/hermitcrab/JobState", "canMoveTo", "(Lcom/example/hermit_crab/hermitcrab/JobState;)Z"⟩ : MethodName)) hown (mvT hZ (ow hw 23 rfl)) (mvT hZ (ow hw 24 rfl)) (notFace_of_selects (args := #[]) (mvT hZ (ow hw 26 rfl))) (mvT hZ (ow hw 26 rfl)) (mvT hZ (ow hw 25 rfl)) (by decide) (backOf (W := 0) (rm2_10 l Z a0 hw [] G  h13 n0 O13 ) hZ (ow hw 27 rfl) (ow hw 3 rfl) (by decide) (by decide)) q117a q117c (g := (mkF m 102 #[.val (.int p1), .val (.int p2), .val (.ref b3), .val (.int (4 : Int32)), .val (.int (0 : Int32)), .val (.ref w_CANCELLED), .val (.ref w_PENDING), .val (.int (1 : Int32)), .val (.int (1 : Int32))] [(.ref w_PENDING), (.ref w_CANCELLED)])) rfl (by rw [hml]; rfl) (Steps.refl _) (argsL := [(.ref w_PENDING)]) (rest := []) (lenOf pd_2 rfl) rfl (by show 2 * 0 + _ ≤ _; exact Nat.le_of_eq rfl) (hb hby at_102) (fun _ _ => ⟨rfl, e116, (by decide : 1 + 0 ≤ _), (by decide : 5 + 0 ≤ _)⟩)
      dsimp only [Pt.U, Pt.locs, Pt.cells, Pt.slots] at X117 l117 y117 z117 st117 hQ117
      subst l117 y117 z117
      obtain ⟨rfl, N117q, e117⟩ := hQ117
      have N117 := Fr.app N116 N117q
      refine OGot.on st117 ?_
      show OGot p.tables e below (T117.setTop (mkF m 105 #[.val (.int p1), .val (.int p2), .val (.ref b3), .val (.int (4 : Int32)), .val (.int (0 : Int32)), .val (.ref w_CANCELLED), .val (.ref w_PENDING), .val (.int (1 : Int32)), .val (.int (1 : Int32))] [(.int (0 : Int32))])) _
      refine OGot.go (fun t k => XS.ifYes X117.here hx rfl (pc0 := 105) (pc' := 124) rfl (hb hby at_105) rfl (by decide) (by decide) (by decide) k) ?_
      show OGot p.tables e below (T117.setTop (mkF m 124 #[.val (.int p1), .val (.int p2), .val (.ref b3), .val (.int (4 : Int32)), .val (.int (0 : Int32)), .val (.ref w_CANCELLED), .val (.ref w_PENDING), .val (.int (1 : Int32)), .val (.int (1 : Int32))] [])) _
      refine OGot.go (fun t k => XS.iconst X117.here hx rfl (hb hby at_124) k) ?_
      show OGot p.tables e below (T117.setTop (mkF m 125 #[.val (.int p1), .val (.int p2), .val (.ref b3), .val (.int (4 : Int32)), .val (.int (0 : Int32)), .val (.ref w_CANCELLED), .val (.ref w_PENDING), .val (.int (1 : Int32)), .val (.int (1 : Int32))] [(.int (1 : Int32))])) _
      obtain ⟨fs, hr, hrun, hended, hW, hsame⟩ := X117.leave (v := some (.int (1 : Int32))) (fun h => by rw [Bd.returns] at h; cases h)
      refine ⟨_, _, retN X117 hx (t := .boolean) Bd.returns (by simp) (hb hby at_125) hr, hrun, hended, _, _, rfl, ?_, ⟨_, rfl⟩, hW, hsame.mono (by decide) (by decide)⟩
      exact (⟨rfl, N117⟩ : Q0 Z w_PENDING w_RUNNING w_COMPLETED w_FAILED w_CANCELLED p1 p2 h0 n0 _ T117.heap _)
    · rw [hk110]
      show OGot p.tables e below (T13.setTop (mkF m 48 #[.val (.int p1), .val (.int p2), .val (.ref b3), .val (.int (4 : Int32)), .unset, .unset, .unset, .unset, .unset] [(.int (1 : Int32))])) _
      refine OGot.go (fun t k => XS.istore X13.here hx rfl (hb hby at_48) rfl (l' := #[.val (.int p1), .val (.int p2), .val (.ref b3), .val (.int (4 : Int32)), .val (.int (1 : Int32)), .unset, .unset, .unset, .unset]) rfl k) ?_
      show OGot p.tables e below (T13.setTop (mkF m 50 #[.val (.int p1), .val (.int p2), .val (.ref b3), .val (.int (4 : Int32)), .val (.int (1 : Int32)), .unset, .unset, .unset, .unset] [])) _
      refine OGot.go (fun t k => XS.aloadN X13.here hx rfl (hb hby at_50) rfl rfl k) ?_
      show OGot p.tables e below (T13.setTop (mkF m 51 #[.val (.int p1), .val (.int p2), .val (.ref b3), .val (.int (4 : Int32)), .val (.int (1 : Int32)), .unset, .unset, .unset, .unset] [(.ref b3)])) _
      refine OGot.go (fun t k => XS.iloadN X13.here hx rfl (hb hby at_51) rfl k) ?_
      show OGot p.tables e below (T13.setTop (mkF m 52 #[.val (.int p1), .val (.int p2), .val (.ref b3), .val (.int (4 : Int32)), .val (.int (1 : Int32)), .unset, .unset, .unset, .unset] [(.int (4 : Int32)), (.ref b3)])) _
      obtain ⟨cl118, Ar118, qc118, Sz118, Ng118, Hh118, Gg118⟩ := id (Va13)
      have hin118 : ¬ ((4 : Int32) < 0 ∨ cl118.slots.size ≤ ((4 : Int32)).toNatClampNeg) := inb_of Sz118 ⟨by decide, by decide⟩
      have hat118 : cl118.slots[((4 : Int32)).toNatClampNeg]? = some (.ref w_CANCELLED) := Hh118.at hin118 rfl
      refine OGot.go (fun t k => X13.aaload hx (j := (4 : Int32)) (v := (.ref w_CANCELLED)) (by rw [e13]; exact Ar118.1) (State.isArrayOf_alike hZ.alike Ar118.2.1) rfl Ar118.2.2 hin118 hat118 (g := (mkF m 52 #[.val (.int p1), .val (.int p2), .val (.ref b3), .val (.int (4 : Int32)), .val (.int (1 : Int32)), .unset, .unset, .unset, .unset] [(.int (4 : Int32)), (.ref b3)])) rfl rfl (hb hby at_52) _ k) ?_
      show OGot p.tables e below (T13.setTop (mkF m 53 #[.val (.int p1), .val (.int p2), .val (.ref b3), .val (.int (4 : Int32)), .val (.int (1 : Int32)), .unset, .unset, .unset, .unset] [(.ref w_CANCELLED)])) _
      refine OGot.go (fun t k => XS.astore X13.here hx rfl (hb hby at_53) rfl rfl (l' := #[.val (.int p1), .val (.int p2), .val (.ref b3), .val (.int (4 : Int32)), .val (.int (1 : Int32)), .val (.ref w_CANCELLED), .unset, .unset, .unset]) rfl k) ?_
      show OGot p.tables e below (T13.setTop (mkF m 55 #[.val (.int p1), .val (.int p2), .val (.ref b3), .val (.int (4 : Int32)), .val (.int (1 : Int32)), .val (.ref w_CANCELLED), .unset, .unset, .unset] [])) _
      refine OGot.go (fun t k => XS.aloadN X13.here hx rfl (hb hby at_55) rfl rfl k) ?_
      show OGot p.tables e below (T13.setTop (mkF m 56 #[.val (.int p1), .val (.int p2), .val (.ref b3), .val (.int (4 : Int32)), .val (.int (1 : Int32)), .val (.ref w_CANCELLED), .unset, .unset, .unset] [(.ref b3)])) _
      refine OGot.go (fun t k => XS.iload X13.here hx rfl (hb hby at_56) rfl k) ?_
      show OGot p.tables e below (T13.setTop (mkF m 58 #[.val (.int p1), .val (.int p2), .val (.ref b3), .val (.int (4 : Int32)), .val (.int (1 : Int32)), .val (.ref w_CANCELLED), .unset, .unset, .unset] [(.int (1 : Int32)), (.ref b3)])) _
      obtain ⟨cl119, Ar119, qc119, Sz119, Ng119, Hh119, Gg119⟩ := id (Va13)
      have hin119 : ¬ ((1 : Int32) < 0 ∨ cl119.slots.size ≤ ((1 : Int32)).toNatClampNeg) := inb_of Sz119 ⟨by decide, by decide⟩
      have hat119 : cl119.slots[((1 : Int32)).toNatClampNeg]? = some (.ref w_RUNNING) := Hh119.at hin119 rfl
      refine OGot.go (fun t k => X13.aaload hx (j := (1 : Int32)) (v := (.ref w_RUNNING)) (by rw [e13]; exact Ar119.1) (State.isArrayOf_alike hZ.alike Ar119.2.1) rfl Ar119.2.2 hin119 hat119 (g := (mkF m 58 #[.val (.int p1), .val (.int p2), .val (.ref b3), .val (.int (4 : Int32)), .val (.int (1 : Int32)), .val (.ref w_CANCELLED), .unset, .unset, .unset] [(.int (1 : Int32)), (.ref b3)])) rfl rfl (hb hby at_58) _ k) ?_
      show OGot p.tables e below (T13.setTop (mkF m 59 #[.val (.int p1), .val (.int p2), .val (.ref b3), .val (.int (4 : Int32)), .val (.int (1 : Int32)), .val (.ref w_CANCELLED), .unset, .unset, .unset] [(.ref w_RUNNING)])) _
      refine OGot.go (fun t k => XS.astore X13.here hx rfl (hb hby at_59) rfl rfl (l' := #[.val (.int p1), .val (.int p2), .val (.ref b3), .val (.int (4 : Int32)), .val (.int (1 : Int32)), .val (.ref w_CANCELLED), .val (.ref w_RUNNING), .unset, .unset]) rfl k) ?_
      show OGot p.tables e below (T13.setTop (mkF m 61 #[.val (.int p1), .val (.int p2), .val (.ref b3), .val (.int (4 : Int32)), .val (.int (1 : Int32)), .val (.ref w_CANCELLED), .val (.ref w_RUNNING), .unset, .unset] [])) _
      refine OGot.go (fun t k => XS.iloadN X13.here hx rfl (hb hby at_61) rfl k) ?_
      show OGot p.tables e below (T13.setTop (mkF m 62 #[.val (.int p1), .val (.int p2), .val (.ref b3), .val (.int (4 : Int32)), .val (.int (1 : Int32)), .val (.ref w_CANCELLED), .val (.ref w_RUNNING), .unset, .unset] [(.int (4 : Int32))])) _
      refine OGot.go (fun t k => XS.ifNo X13.here hx rfl (hb hby at_62) rfl (by decide) k) ?_
      show OGot p.tables e below (T13.setTop (mkF m 65 #[.val (.int p1), .val (.int p2), .val (.ref b3), .val (.int (4 : Int32)), .val (.int (1 : Int32)), .val (.ref w_CANCELLED), .val (.ref w_RUNNING), .unset, .unset] [])) _
      refine OGot.go (fun t k => XS.iloadN X13.here hx rfl (hb hby at_65) rfl k) ?_
      show OGot p.tables e below (T13.setTop (mkF m 66 #[.val (.int p1), .val (.int p2), .val (.ref b3), .val (.int (4 : Int32)), .val (.int (1 : Int32)), .val (.ref w_CANCELLED), .val (.ref w_RUNNING), .unset, .unset] [(.int (4 : Int32))])) _
      refine OGot.go (fun t k => XS.iconst X13.here hx rfl (hb hby at_66) k) ?_
      show OGot p.tables e below (T13.setTop (mkF m 67 #[.val (.int p1), .val (.int p2), .val (.ref b3), .val (.int (4 : Int32)), .val (.int (1 : Int32)), .val (.ref w_CANCELLED), .val (.ref w_RUNNING), .unset, .unset] [(.int (1 : Int32)), (.int (4 : Int32))])) _
      refine OGot.go (fun t k => XS.icmpNo X13.here hx rfl (hb hby at_67) rfl (by decide) k) ?_
      show OGot p.tables e below (T13.setTop (mkF m 70 #[.val (.int p1), .val (.int p2), .val (.ref b3), .val (.int (4 : Int32)), .val (.int (1 : Int32)), .val (.ref w_CANCELLED), .val (.ref w_RUNNING), .unset, .unset] [])) _
      refine OGot.go (fun t k => XS.iconst X13.here hx rfl (hb hby at_70) k) ?_
      show OGot p.tables e below (T13.setTop (mkF m 71 #[.val (.int p1), .val (.int p2), .val (.ref b3), .val (.int (4 : Int32)), .val (.int (1 : Int32)), .val (.ref w_CANCELLED), .val (.ref w_RUNNING), .unset, .unset] [(.int (1 : Int32))])) _
      refine OGot.go (fun t k => XS.goto X13.here hx rfl (pc0 := 71) (pc' := 75) rfl (hb hby at_71) (by decide) (by decide) k) ?_
      show OGot p.tables e below (T13.setTop (mkF m 75 #[.val (.int p1), .val (.int p2), .val (.ref b3), .val (.int (4 : Int32)), .val (.int (1 : Int32)), .val (.ref w_CANCELLED), .val (.ref w_RUNNING), .unset, .unset] [(.int (1 : Int32))])) _
      refine OGot.go (fun t k => XS.istore X13.here hx rfl (hb hby at_75) rfl (l' := #[.val (.int p1), .val (.int p2), .val (.ref b3), .val (.int (4 : Int32)), .val (.int (1 : Int32)), .val (.ref w_CANCELLED), .val (.ref w_RUNNING), .val (.int (1 : Int32)), .unset]) rfl k) ?_
      show OGot p.tables e below (T13.setTop (mkF m 77 #[.val (.int p1), .val (.int p2), .val (.ref b3), .val (.int (4 : Int32)), .val (.int (1 : Int32)), .val (.ref w_CANCELLED), .val (.ref w_RUNNING), .val (.int (1 : Int32)), .unset] [])) _
      refine OGot.go (fun t k => XS.aload X13.here hx rfl (hb hby at_77) rfl rfl k) ?_
      show OGot p.tables e below (T13.setTop (mkF m 79 #[.val (.int p1), .val (.int p2), .val (.ref b3), .val (.int (4 : Int32)), .val (.int (1 : Int32)), .val (.ref w_CANCELLED), .val (.ref w_RUNNING), .val (.int (1 : Int32)), .unset] [(.ref w_CANCELLED)])) _
      obtain ⟨cq120, kq120, q120a, q120b, q120c⟩ := isOf hZ e13 (G.2.2.2.2.2.2.2.2.2.1.ext O13.2)
      obtain ⟨_, _, ⟨T120, L120, k120, n120⟩, -, X120, ⟨Lc120, hQ120, l120, y120, z120⟩, st120⟩ := X13.virtualBack hx (y := (⟨"com/example/hermit_crab/hermitcrab/JobState", "isFinal", "()Z"⟩ : MethodName)) (z := (⟨"com/example/hermit_crab/hermitcrab/JobState", "isFinal", "()Z"⟩ : MethodName)) hown (mvT hZ (ow hw 15 rfl)) (mvT hZ (ow hw 16 rfl)) (notFace_of_selects (args := #[]) (mvT hZ (ow hw 18 rfl))) (mvT hZ (ow hw 18 rfl)) (mvT hZ (ow hw 17 rfl)) (by decide) (backOf (W := 0) (rm1_4 l Z a0 hw [] G  h13 n0 O13 ) hZ (ow hw 19 rfl) (ow hw 3 rfl) (by decide) (by decide)) q120a q120c (g := (mkF m 79 #[.val (.int p1), .val (.int p2), .val (.ref b3), .val (.int (4 : Int32)), .val (.int (1 : Int32)), .val (.ref w_CANCELLED), .val (.ref w_RUNNING), .val (.int (1 : Int32)), .unset] [(.ref w_CANCELLED)])) rfl (by rw [hml]; rfl) (Steps.refl _) (argsL := []) (rest := []) (lenOf pd_0 rfl) rfl (by show 2 * 0 + _ ≤ _; exact Nat.le_of_eq rfl) (hb hby at_79) (fun _ _ => ⟨rfl, e13, (by decide : 1 + 0 ≤ _), (by decide : 5 + 0 ≤ _)⟩)
      dsimp only [Pt.U, Pt.locs, Pt.cells, Pt.slots] at X120 l120 y120 z120 st120 hQ120
      subst l120 y120 z120
      obtain ⟨rfl, N120q, e120⟩ := hQ120
      have N120 := Fr.app N13 N120q
      refine OGot.on st120 ?_
      show OGot p.tables e below (T120.setTop (mkF m 82 #[.val (.int p1), .val (.int p2), .val (.ref b3), .val (.int (4 : Int32)), .val (.int (1 : Int32)), .val (.ref w_CANCELLED), .val (.ref w_RUNNING), .val (.int (1 : Int32)), .unset] [(.int (1 : Int32))])) _
      refine OGot.go (fun t k => XS.istore X120.here hx rfl (hb hby at_82) rfl (l' := #[.val (.int p1), .val (.int p2), .val (.ref b3), .val (.int (4 : Int32)), .val (.int (1 : Int32)), .val (.ref w_CANCELLED), .val (.ref w_RUNNING), .val (.int (1 : Int32)), .val (.int (1 : Int32))]) rfl k) ?_
      show OGot p.tables e below (T120.setTop (mkF m 84 #[.val (.int p1), .val (.int p2), .val (.ref b3), .val (.int (4 : Int32)), .val (.int (1 : Int32)), .val (.ref w_CANCELLED), .val (.ref w_RUNNING), .val (.int (1 : Int32)), .val (.int (1 : Int32))] [])) _
      refine OGot.go (fun t k => XS.iload X120.here hx rfl (hb hby at_84) rfl k) ?_
      show OGot p.tables e below (T120.setTop (mkF m 86 #[.val (.int p1), .val (.int p2), .val (.ref b3), .val (.int (4 : Int32)), .val (.int (1 : Int32)), .val (.ref w_CANCELLED), .val (.ref w_RUNNING), .val (.int (1 : Int32)), .val (.int (1 : Int32))] [(.int (1 : Int32))])) _
      refine OGot.go (fun t k => XS.iload X120.here hx rfl (hb hby at_86) rfl k) ?_
      show OGot p.tables e below (T120.setTop (mkF m 88 #[.val (.int p1), .val (.int p2), .val (.ref b3), .val (.int (4 : Int32)), .val (.int (1 : Int32)), .val (.ref w_CANCELLED), .val (.ref w_RUNNING), .val (.int (1 : Int32)), .val (.int (1 : Int32))] [(.int (1 : Int32)), (.int (1 : Int32))])) _
      refine OGot.go (fun t k => XS.icmpYes X120.here hx rfl (pc0 := 88) (pc' := 93) rfl (hb hby at_88) rfl (by decide) (by decide) (by decide) k) ?_
      show OGot p.tables e below (T120.setTop (mkF m 93 #[.val (.int p1), .val (.int p2), .val (.ref b3), .val (.int (4 : Int32)), .val (.int (1 : Int32)), .val (.ref w_CANCELLED), .val (.ref w_RUNNING), .val (.int (1 : Int32)), .val (.int (1 : Int32))] [])) _
      refine OGot.go (fun t k => XS.iload X120.here hx rfl (hb hby at_93) rfl k) ?_
      show OGot p.tables e below (T120.setTop (mkF m 95 #[.val (.int p1), .val (.int p2), .val (.ref b3), .val (.int (4 : Int32)), .val (.int (1 : Int32)), .val (.ref w_CANCELLED), .val (.ref w_RUNNING), .val (.int (1 : Int32)), .val (.int (1 : Int32))] [(.int (1 : Int32))])) _
      refine OGot.go (fun t k => XS.ifNo X120.here hx rfl (hb hby at_95) rfl (by decide) k) ?_
      show OGot p.tables e below (T120.setTop (mkF m 98 #[.val (.int p1), .val (.int p2), .val (.ref b3), .val (.int (4 : Int32)), .val (.int (1 : Int32)), .val (.ref w_CANCELLED), .val (.ref w_RUNNING), .val (.int (1 : Int32)), .val (.int (1 : Int32))] [])) _
      refine OGot.go (fun t k => XS.aload X120.here hx rfl (hb hby at_98) rfl rfl k) ?_
      show OGot p.tables e below (T120.setTop (mkF m 100 #[.val (.int p1), .val (.int p2), .val (.ref b3), .val (.int (4 : Int32)), .val (.int (1 : Int32)), .val (.ref w_CANCELLED), .val (.ref w_RUNNING), .val (.int (1 : Int32)), .val (.int (1 : Int32))] [(.ref w_CANCELLED)])) _
      refine OGot.go (fun t k => XS.aload X120.here hx rfl (hb hby at_100) rfl rfl k) ?_
      show OGot p.tables e below (T120.setTop (mkF m 102 #[.val (.int p1), .val (.int p2), .val (.ref b3), .val (.int (4 : Int32)), .val (.int (1 : Int32)), .val (.ref w_CANCELLED), .val (.ref w_RUNNING), .val (.int (1 : Int32)), .val (.int (1 : Int32))] [(.ref w_RUNNING), (.ref w_CANCELLED)])) _
      obtain ⟨cq121, kq121, q121a, q121b, q121c⟩ := isOf hZ e120 (G.2.2.2.2.2.2.2.2.2.1.ext O13.2)
      obtain ⟨_, _, ⟨T121, L121, k121, n121⟩, -, X121, ⟨Lc121, hQ121, l121, y121, z121⟩, st121⟩ := X120.virtualBack hx (y := (⟨"com/example/hermit_crab/hermitcrab/JobState", "canMoveTo", "(Lcom/example/hermit_crab/hermitcrab/JobState;)Z"⟩ : MethodName)) (z := (⟨"com/example/hermit_crab/hermitcrab/JobState", "canMoveTo", "(Lcom/example/hermit_crab/hermitcrab/JobState;)Z"⟩ : MethodName)) hown (mvT hZ (ow hw 23 rfl)) (mvT hZ (ow hw 24 rfl)) (notFace_of_selects (args := #[]) (mvT hZ (ow hw 26 rfl))) (mvT hZ (ow hw 26 rfl)) (mvT hZ (ow hw 25 rfl)) (by decide) (backOf (W := 0) (rm2_11 l Z a0 hw [] G  h13 n0 O13 ) hZ (ow hw 27 rfl) (ow hw 3 rfl) (by decide) (by decide)) q121a q121c (g := (mkF m 102 #[.val (.int p1), .val (.int p2), .val (.ref b3), .val (.int (4 : Int32)), .val (.int (1 : Int32)), .val (.ref w_CANCELLED), .val (.ref w_RUNNING), .val (.int (1 : Int32)), .val (.int (1 : Int32))] [(.ref w_RUNNING), (.ref w_CANCELLED)])) rfl (by rw [hml]; rfl) (Steps.refl _) (argsL := [(.ref w_RUNNING)]) (rest := []) (lenOf pd_2 rfl) rfl (by show 2 * 0 + _ ≤ _; exact Nat.le_of_eq rfl) (hb hby at_102) (fun _ _ => ⟨rfl, e120, (by decide : 1 + 0 ≤ _), (by decide : 5 + 0 ≤ _)⟩)
      dsimp only [Pt.U, Pt.locs, Pt.cells, Pt.slots] at X121 l121 y121 z121 st121 hQ121
      subst l121 y121 z121
      obtain ⟨rfl, N121q, e121⟩ := hQ121
      have N121 := Fr.app N120 N121q
      refine OGot.on st121 ?_
      show OGot p.tables e below (T121.setTop (mkF m 105 #[.val (.int p1), .val (.int p2), .val (.ref b3), .val (.int (4 : Int32)), .val (.int (1 : Int32)), .val (.ref w_CANCELLED), .val (.ref w_RUNNING), .val (.int (1 : Int32)), .val (.int (1 : Int32))] [(.int (0 : Int32))])) _
      refine OGot.go (fun t k => XS.ifYes X121.here hx rfl (pc0 := 105) (pc' := 124) rfl (hb hby at_105) rfl (by decide) (by decide) (by decide) k) ?_
      show OGot p.tables e below (T121.setTop (mkF m 124 #[.val (.int p1), .val (.int p2), .val (.ref b3), .val (.int (4 : Int32)), .val (.int (1 : Int32)), .val (.ref w_CANCELLED), .val (.ref w_RUNNING), .val (.int (1 : Int32)), .val (.int (1 : Int32))] [])) _
      refine OGot.go (fun t k => XS.iconst X121.here hx rfl (hb hby at_124) k) ?_
      show OGot p.tables e below (T121.setTop (mkF m 125 #[.val (.int p1), .val (.int p2), .val (.ref b3), .val (.int (4 : Int32)), .val (.int (1 : Int32)), .val (.ref w_CANCELLED), .val (.ref w_RUNNING), .val (.int (1 : Int32)), .val (.int (1 : Int32))] [(.int (1 : Int32))])) _
      obtain ⟨fs, hr, hrun, hended, hW, hsame⟩ := X121.leave (v := some (.int (1 : Int32))) (fun h => by rw [Bd.returns] at h; cases h)
      refine ⟨_, _, retN X121 hx (t := .boolean) Bd.returns (by simp) (hb hby at_125) hr, hrun, hended, _, _, rfl, ?_, ⟨_, rfl⟩, hW, hsame.mono (by decide) (by decide)⟩
      exact (⟨rfl, N121⟩ : Q0 Z w_PENDING w_RUNNING w_COMPLETED w_FAILED w_CANCELLED p1 p2 h0 n0 _ T121.heap _)
    · rw [hk111]
      show OGot p.tables e below (T13.setTop (mkF m 48 #[.val (.int p1), .val (.int p2), .val (.ref b3), .val (.int (4 : Int32)), .unset, .unset, .unset, .unset, .unset] [(.int (2 : Int32))])) _
      refine OGot.go (fun t k => XS.istore X13.here hx rfl (hb hby at_48) rfl (l' := #[.val (.int p1), .val (.int p2), .val (.ref b3), .val (.int (4 : Int32)), .val (.int (2 : Int32)), .unset, .unset, .unset, .unset]) rfl k) ?_
      show OGot p.tables e below (T13.setTop (mkF m 50 #[.val (.int p1), .val (.int p2), .val (.ref b3), .val (.int (4 : Int32)), .val (.int (2 : Int32)), .unset, .unset, .unset, .unset] [])) _
      refine OGot.go (fun t k => XS.aloadN X13.here hx rfl (hb hby at_50) rfl rfl k) ?_
      show OGot p.tables e below (T13.setTop (mkF m 51 #[.val (.int p1), .val (.int p2), .val (.ref b3), .val (.int (4 : Int32)), .val (.int (2 : Int32)), .unset, .unset, .unset, .unset] [(.ref b3)])) _
      refine OGot.go (fun t k => XS.iloadN X13.here hx rfl (hb hby at_51) rfl k) ?_
      show OGot p.tables e below (T13.setTop (mkF m 52 #[.val (.int p1), .val (.int p2), .val (.ref b3), .val (.int (4 : Int32)), .val (.int (2 : Int32)), .unset, .unset, .unset, .unset] [(.int (4 : Int32)), (.ref b3)])) _
      obtain ⟨cl122, Ar122, qc122, Sz122, Ng122, Hh122, Gg122⟩ := id (Va13)
      have hin122 : ¬ ((4 : Int32) < 0 ∨ cl122.slots.size ≤ ((4 : Int32)).toNatClampNeg) := inb_of Sz122 ⟨by decide, by decide⟩
      have hat122 : cl122.slots[((4 : Int32)).toNatClampNeg]? = some (.ref w_CANCELLED) := Hh122.at hin122 rfl
      refine OGot.go (fun t k => X13.aaload hx (j := (4 : Int32)) (v := (.ref w_CANCELLED)) (by rw [e13]; exact Ar122.1) (State.isArrayOf_alike hZ.alike Ar122.2.1) rfl Ar122.2.2 hin122 hat122 (g := (mkF m 52 #[.val (.int p1), .val (.int p2), .val (.ref b3), .val (.int (4 : Int32)), .val (.int (2 : Int32)), .unset, .unset, .unset, .unset] [(.int (4 : Int32)), (.ref b3)])) rfl rfl (hb hby at_52) _ k) ?_
      show OGot p.tables e below (T13.setTop (mkF m 53 #[.val (.int p1), .val (.int p2), .val (.ref b3), .val (.int (4 : Int32)), .val (.int (2 : Int32)), .unset, .unset, .unset, .unset] [(.ref w_CANCELLED)])) _
      refine OGot.go (fun t k => XS.astore X13.here hx rfl (hb hby at_53) rfl rfl (l' := #[.val (.int p1), .val (.int p2), .val (.ref b3), .val (.int (4 : Int32)), .val (.int (2 : Int32)), .val (.ref w_CANCELLED), .unset, .unset, .unset]) rfl k) ?_
      show OGot p.tables e below (T13.setTop (mkF m 55 #[.val (.int p1), .val (.int p2), .val (.ref b3), .val (.int (4 : Int32)), .val (.int (2 : Int32)), .val (.ref w_CANCELLED), .unset, .unset, .unset] [])) _
      refine OGot.go (fun t k => XS.aloadN X13.here hx rfl (hb hby at_55) rfl rfl k) ?_
      show OGot p.tables e below (T13.setTop (mkF m 56 #[.val (.int p1), .val (.int p2), .val (.ref b3), .val (.int (4 : Int32)), .val (.int (2 : Int32)), .val (.ref w_CANCELLED), .unset, .unset, .unset] [(.ref b3)])) _
      refine OGot.go (fun t k => XS.iload X13.here hx rfl (hb hby at_56) rfl k) ?_
      show OGot p.tables e below (T13.setTop (mkF m 58 #[.val (.int p1), .val (.int p2), .val (.ref b3), .val (.int (4 : Int32)), .val (.int (2 : Int32)), .val (.ref w_CANCELLED), .unset, .unset, .unset] [(.int (2 : Int32)), (.ref b3)])) _
      obtain ⟨cl123, Ar123, qc123, Sz123, Ng123, Hh123, Gg123⟩ := id (Va13)
      have hin123 : ¬ ((2 : Int32) < 0 ∨ cl123.slots.size ≤ ((2 : Int32)).toNatClampNeg) := inb_of Sz123 ⟨by decide, by decide⟩
      have hat123 : cl123.slots[((2 : Int32)).toNatClampNeg]? = some (.ref w_COMPLETED) := Hh123.at hin123 rfl
      refine OGot.go (fun t k => X13.aaload hx (j := (2 : Int32)) (v := (.ref w_COMPLETED)) (by rw [e13]; exact Ar123.1) (State.isArrayOf_alike hZ.alike Ar123.2.1) rfl Ar123.2.2 hin123 hat123 (g := (mkF m 58 #[.val (.int p1), .val (.int p2), .val (.ref b3), .val (.int (4 : Int32)), .val (.int (2 : Int32)), .val (.ref w_CANCELLED), .unset, .unset, .unset] [(.int (2 : Int32)), (.ref b3)])) rfl rfl (hb hby at_58) _ k) ?_
      show OGot p.tables e below (T13.setTop (mkF m 59 #[.val (.int p1), .val (.int p2), .val (.ref b3), .val (.int (4 : Int32)), .val (.int (2 : Int32)), .val (.ref w_CANCELLED), .unset, .unset, .unset] [(.ref w_COMPLETED)])) _
      refine OGot.go (fun t k => XS.astore X13.here hx rfl (hb hby at_59) rfl rfl (l' := #[.val (.int p1), .val (.int p2), .val (.ref b3), .val (.int (4 : Int32)), .val (.int (2 : Int32)), .val (.ref w_CANCELLED), .val (.ref w_COMPLETED), .unset, .unset]) rfl k) ?_
      show OGot p.tables e below (T13.setTop (mkF m 61 #[.val (.int p1), .val (.int p2), .val (.ref b3), .val (.int (4 : Int32)), .val (.int (2 : Int32)), .val (.ref w_CANCELLED), .val (.ref w_COMPLETED), .unset, .unset] [])) _
      refine OGot.go (fun t k => XS.iloadN X13.here hx rfl (hb hby at_61) rfl k) ?_
      show OGot p.tables e below (T13.setTop (mkF m 62 #[.val (.int p1), .val (.int p2), .val (.ref b3), .val (.int (4 : Int32)), .val (.int (2 : Int32)), .val (.ref w_CANCELLED), .val (.ref w_COMPLETED), .unset, .unset] [(.int (4 : Int32))])) _
      refine OGot.go (fun t k => XS.ifNo X13.here hx rfl (hb hby at_62) rfl (by decide) k) ?_
      show OGot p.tables e below (T13.setTop (mkF m 65 #[.val (.int p1), .val (.int p2), .val (.ref b3), .val (.int (4 : Int32)), .val (.int (2 : Int32)), .val (.ref w_CANCELLED), .val (.ref w_COMPLETED), .unset, .unset] [])) _
      refine OGot.go (fun t k => XS.iloadN X13.here hx rfl (hb hby at_65) rfl k) ?_
      show OGot p.tables e below (T13.setTop (mkF m 66 #[.val (.int p1), .val (.int p2), .val (.ref b3), .val (.int (4 : Int32)), .val (.int (2 : Int32)), .val (.ref w_CANCELLED), .val (.ref w_COMPLETED), .unset, .unset] [(.int (4 : Int32))])) _
      refine OGot.go (fun t k => XS.iconst X13.here hx rfl (hb hby at_66) k) ?_
      show OGot p.tables e below (T13.setTop (mkF m 67 #[.val (.int p1), .val (.int p2), .val (.ref b3), .val (.int (4 : Int32)), .val (.int (2 : Int32)), .val (.ref w_CANCELLED), .val (.ref w_COMPLETED), .unset, .unset] [(.int (1 : Int32)), (.int (4 : Int32))])) _
      refine OGot.go (fun t k => XS.icmpNo X13.here hx rfl (hb hby at_67) rfl (by decide) k) ?_
      show OGot p.tables e below (T13.setTop (mkF m 70 #[.val (.int p1), .val (.int p2), .val (.ref b3), .val (.int (4 : Int32)), .val (.int (2 : Int32)), .val (.ref w_CANCELLED), .val (.ref w_COMPLETED), .unset, .unset] [])) _
      refine OGot.go (fun t k => XS.iconst X13.here hx rfl (hb hby at_70) k) ?_
      show OGot p.tables e below (T13.setTop (mkF m 71 #[.val (.int p1), .val (.int p2), .val (.ref b3), .val (.int (4 : Int32)), .val (.int (2 : Int32)), .val (.ref w_CANCELLED), .val (.ref w_COMPLETED), .unset, .unset] [(.int (1 : Int32))])) _
      refine OGot.go (fun t k => XS.goto X13.here hx rfl (pc0 := 71) (pc' := 75) rfl (hb hby at_71) (by decide) (by decide) k) ?_
      show OGot p.tables e below (T13.setTop (mkF m 75 #[.val (.int p1), .val (.int p2), .val (.ref b3), .val (.int (4 : Int32)), .val (.int (2 : Int32)), .val (.ref w_CANCELLED), .val (.ref w_COMPLETED), .unset, .unset] [(.int (1 : Int32))])) _
      refine OGot.go (fun t k => XS.istore X13.here hx rfl (hb hby at_75) rfl (l' := #[.val (.int p1), .val (.int p2), .val (.ref b3), .val (.int (4 : Int32)), .val (.int (2 : Int32)), .val (.ref w_CANCELLED), .val (.ref w_COMPLETED), .val (.int (1 : Int32)), .unset]) rfl k) ?_
      show OGot p.tables e below (T13.setTop (mkF m 77 #[.val (.int p1), .val (.int p2), .val (.ref b3), .val (.int (4 : Int32)), .val (.int (2 : Int32)), .val (.ref w_CANCELLED), .val (.ref w_COMPLETED), .val (.int (1 : Int32)), .unset] [])) _
      refine OGot.go (fun t k => XS.aload X13.here hx rfl (hb hby at_77) rfl rfl k) ?_
      show OGot p.tables e below (T13.setTop (mkF m 79 #[.val (.int p1), .val (.int p2), .val (.ref b3), .val (.int (4 : Int32)), .val (.int (2 : Int32)), .val (.ref w_CANCELLED), .val (.ref w_COMPLETED), .val (.int (1 : Int32)), .unset] [(.ref w_CANCELLED)])) _
      obtain ⟨cq124, kq124, q124a, q124b, q124c⟩ := isOf hZ e13 (G.2.2.2.2.2.2.2.2.2.1.ext O13.2)
      obtain ⟨_, _, ⟨T124, L124, k124, n124⟩, -, X124, ⟨Lc124, hQ124, l124, y124, z124⟩, st124⟩ := X13.virtualBack hx (y := (⟨"com/example/hermit_crab/hermitcrab/JobState", "isFinal", "()Z"⟩ : MethodName)) (z := (⟨"com/example/hermit_crab/hermitcrab/JobState", "isFinal", "()Z"⟩ : MethodName)) hown (mvT hZ (ow hw 15 rfl)) (mvT hZ (ow hw 16 rfl)) (notFace_of_selects (args := #[]) (mvT hZ (ow hw 18 rfl))) (mvT hZ (ow hw 18 rfl)) (mvT hZ (ow hw 17 rfl)) (by decide) (backOf (W := 0) (rm1_4 l Z a0 hw [] G  h13 n0 O13 ) hZ (ow hw 19 rfl) (ow hw 3 rfl) (by decide) (by decide)) q124a q124c (g := (mkF m 79 #[.val (.int p1), .val (.int p2), .val (.ref b3), .val (.int (4 : Int32)), .val (.int (2 : Int32)), .val (.ref w_CANCELLED), .val (.ref w_COMPLETED), .val (.int (1 : Int32)), .unset] [(.ref w_CANCELLED)])) rfl (by rw [hml]; rfl) (Steps.refl _) (argsL := []) (rest := []) (lenOf pd_0 rfl) rfl (by show 2 * 0 + _ ≤ _; exact Nat.le_of_eq rfl) (hb hby at_79) (fun _ _ => ⟨rfl, e13, (by decide : 1 + 0 ≤ _), (by decide : 5 + 0 ≤ _)⟩)
      dsimp only [Pt.U, Pt.locs, Pt.cells, Pt.slots] at X124 l124 y124 z124 st124 hQ124
      subst l124 y124 z124
      obtain ⟨rfl, N124q, e124⟩ := hQ124
      have N124 := Fr.app N13 N124q
      refine OGot.on st124 ?_
      show OGot p.tables e below (T124.setTop (mkF m 82 #[.val (.int p1), .val (.int p2), .val (.ref b3), .val (.int (4 : Int32)), .val (.int (2 : Int32)), .val (.ref w_CANCELLED), .val (.ref w_COMPLETED), .val (.int (1 : Int32)), .unset] [(.int (1 : Int32))])) _
      refine OGot.go (fun t k => XS.istore X124.here hx rfl (hb hby at_82) rfl (l' := #[.val (.int p1), .val (.int p2), .val (.ref b3), .val (.int (4 : Int32)), .val (.int (2 : Int32)), .val (.ref w_CANCELLED), .val (.ref w_COMPLETED), .val (.int (1 : Int32)), .val (.int (1 : Int32))]) rfl k) ?_
      show OGot p.tables e below (T124.setTop (mkF m 84 #[.val (.int p1), .val (.int p2), .val (.ref b3), .val (.int (4 : Int32)), .val (.int (2 : Int32)), .val (.ref w_CANCELLED), .val (.ref w_COMPLETED), .val (.int (1 : Int32)), .val (.int (1 : Int32))] [])) _
      refine OGot.go (fun t k => XS.iload X124.here hx rfl (hb hby at_84) rfl k) ?_
      show OGot p.tables e below (T124.setTop (mkF m 86 #[.val (.int p1), .val (.int p2), .val (.ref b3), .val (.int (4 : Int32)), .val (.int (2 : Int32)), .val (.ref w_CANCELLED), .val (.ref w_COMPLETED), .val (.int (1 : Int32)), .val (.int (1 : Int32))] [(.int (1 : Int32))])) _
      refine OGot.go (fun t k => XS.iload X124.here hx rfl (hb hby at_86) rfl k) ?_
      show OGot p.tables e below (T124.setTop (mkF m 88 #[.val (.int p1), .val (.int p2), .val (.ref b3), .val (.int (4 : Int32)), .val (.int (2 : Int32)), .val (.ref w_CANCELLED), .val (.ref w_COMPLETED), .val (.int (1 : Int32)), .val (.int (1 : Int32))] [(.int (1 : Int32)), (.int (1 : Int32))])) _
      refine OGot.go (fun t k => XS.icmpYes X124.here hx rfl (pc0 := 88) (pc' := 93) rfl (hb hby at_88) rfl (by decide) (by decide) (by decide) k) ?_
      show OGot p.tables e below (T124.setTop (mkF m 93 #[.val (.int p1), .val (.int p2), .val (.ref b3), .val (.int (4 : Int32)), .val (.int (2 : Int32)), .val (.ref w_CANCELLED), .val (.ref w_COMPLETED), .val (.int (1 : Int32)), .val (.int (1 : Int32))] [])) _
      refine OGot.go (fun t k => XS.iload X124.here hx rfl (hb hby at_93) rfl k) ?_
      show OGot p.tables e below (T124.setTop (mkF m 95 #[.val (.int p1), .val (.int p2), .val (.ref b3), .val (.int (4 : Int32)), .val (.int (2 : Int32)), .val (.ref w_CANCELLED), .val (.ref w_COMPLETED), .val (.int (1 : Int32)), .val (.int (1 : Int32))] [(.int (1 : Int32))])) _
      refine OGot.go (fun t k => XS.ifNo X124.here hx rfl (hb hby at_95) rfl (by decide) k) ?_
      show OGot p.tables e below (T124.setTop (mkF m 98 #[.val (.int p1), .val (.int p2), .val (.ref b3), .val (.int (4 : Int32)), .val (.int (2 : Int32)), .val (.ref w_CANCELLED), .val (.ref w_COMPLETED), .val (.int (1 : Int32)), .val (.int (1 : Int32))] [])) _
      refine OGot.go (fun t k => XS.aload X124.here hx rfl (hb hby at_98) rfl rfl k) ?_
      show OGot p.tables e below (T124.setTop (mkF m 100 #[.val (.int p1), .val (.int p2), .val (.ref b3), .val (.int (4 : Int32)), .val (.int (2 : Int32)), .val (.ref w_CANCELLED), .val (.ref w_COMPLETED), .val (.int (1 : Int32)), .val (.int (1 : Int32))] [(.ref w_CANCELLED)])) _
      refine OGot.go (fun t k => XS.aload X124.here hx rfl (hb hby at_100) rfl rfl k) ?_
      show OGot p.tables e below (T124.setTop (mkF m 102 #[.val (.int p1), .val (.int p2), .val (.ref b3), .val (.int (4 : Int32)), .val (.int (2 : Int32)), .val (.ref w_CANCELLED), .val (.ref w_COMPLETED), .val (.int (1 : Int32)), .val (.int (1 : Int32))] [(.ref w_COMPLETED), (.ref w_CANCELLED)])) _
      obtain ⟨cq125, kq125, q125a, q125b, q125c⟩ := isOf hZ e124 (G.2.2.2.2.2.2.2.2.2.1.ext O13.2)
      obtain ⟨_, _, ⟨T125, L125, k125, n125⟩, -, X125, ⟨Lc125, hQ125, l125, y125, z125⟩, st125⟩ := X124.virtualBack hx (y := (⟨"com/example/hermit_crab/hermitcrab/JobState", "canMoveTo", "(Lcom/example/hermit_crab/hermitcrab/JobState;)Z"⟩ : MethodName)) (z := (⟨"com/example/hermit_crab/hermitcrab/JobState", "canMoveTo", "(Lcom/example/hermit_crab/hermitcrab/JobState;)Z"⟩ : MethodName)) hown (mvT hZ (ow hw 23 rfl)) (mvT hZ (ow hw 24 rfl)) (notFace_of_selects (args := #[]) (mvT hZ (ow hw 26 rfl))) (mvT hZ (ow hw 26 rfl)) (mvT hZ (ow hw 25 rfl)) (by decide) (backOf (W := 0) (rm2_12 l Z a0 hw [] G  h13 n0 O13 ) hZ (ow hw 27 rfl) (ow hw 3 rfl) (by decide) (by decide)) q125a q125c (g := (mkF m 102 #[.val (.int p1), .val (.int p2), .val (.ref b3), .val (.int (4 : Int32)), .val (.int (2 : Int32)), .val (.ref w_CANCELLED), .val (.ref w_COMPLETED), .val (.int (1 : Int32)), .val (.int (1 : Int32))] [(.ref w_COMPLETED), (.ref w_CANCELLED)])) rfl (by rw [hml]; rfl) (Steps.refl _) (argsL := [(.ref w_COMPLETED)]) (rest := []) (lenOf pd_2 rfl) rfl (by show 2 * 0 + _ ≤ _; exact Nat.le_of_eq rfl) (hb hby at_102) (fun _ _ => ⟨rfl, e124, (by decide : 1 + 0 ≤ _), (by decide : 5 + 0 ≤ _)⟩)
      dsimp only [Pt.U, Pt.locs, Pt.cells, Pt.slots] at X125 l125 y125 z125 st125 hQ125
      subst l125 y125 z125
      obtain ⟨rfl, N125q, e125⟩ := hQ125
      have N125 := Fr.app N124 N125q
      refine OGot.on st125 ?_
      show OGot p.tables e below (T125.setTop (mkF m 105 #[.val (.int p1), .val (.int p2), .val (.ref b3), .val (.int (4 : Int32)), .val (.int (2 : Int32)), .val (.ref w_CANCELLED), .val (.ref w_COMPLETED), .val (.int (1 : Int32)), .val (.int (1 : Int32))] [(.int (0 : Int32))])) _
      refine OGot.go (fun t k => XS.ifYes X125.here hx rfl (pc0 := 105) (pc' := 124) rfl (hb hby at_105) rfl (by decide) (by decide) (by decide) k) ?_
      show OGot p.tables e below (T125.setTop (mkF m 124 #[.val (.int p1), .val (.int p2), .val (.ref b3), .val (.int (4 : Int32)), .val (.int (2 : Int32)), .val (.ref w_CANCELLED), .val (.ref w_COMPLETED), .val (.int (1 : Int32)), .val (.int (1 : Int32))] [])) _
      refine OGot.go (fun t k => XS.iconst X125.here hx rfl (hb hby at_124) k) ?_
      show OGot p.tables e below (T125.setTop (mkF m 125 #[.val (.int p1), .val (.int p2), .val (.ref b3), .val (.int (4 : Int32)), .val (.int (2 : Int32)), .val (.ref w_CANCELLED), .val (.ref w_COMPLETED), .val (.int (1 : Int32)), .val (.int (1 : Int32))] [(.int (1 : Int32))])) _
      obtain ⟨fs, hr, hrun, hended, hW, hsame⟩ := X125.leave (v := some (.int (1 : Int32))) (fun h => by rw [Bd.returns] at h; cases h)
      refine ⟨_, _, retN X125 hx (t := .boolean) Bd.returns (by simp) (hb hby at_125) hr, hrun, hended, _, _, rfl, ?_, ⟨_, rfl⟩, hW, hsame.mono (by decide) (by decide)⟩
      exact (⟨rfl, N125⟩ : Q0 Z w_PENDING w_RUNNING w_COMPLETED w_FAILED w_CANCELLED p1 p2 h0 n0 _ T125.heap _)
    · rw [hk112]
      show OGot p.tables e below (T13.setTop (mkF m 48 #[.val (.int p1), .val (.int p2), .val (.ref b3), .val (.int (4 : Int32)), .unset, .unset, .unset, .unset, .unset] [(.int (3 : Int32))])) _
      refine OGot.go (fun t k => XS.istore X13.here hx rfl (hb hby at_48) rfl (l' := #[.val (.int p1), .val (.int p2), .val (.ref b3), .val (.int (4 : Int32)), .val (.int (3 : Int32)), .unset, .unset, .unset, .unset]) rfl k) ?_
      show OGot p.tables e below (T13.setTop (mkF m 50 #[.val (.int p1), .val (.int p2), .val (.ref b3), .val (.int (4 : Int32)), .val (.int (3 : Int32)), .unset, .unset, .unset, .unset] [])) _
      refine OGot.go (fun t k => XS.aloadN X13.here hx rfl (hb hby at_50) rfl rfl k) ?_
      show OGot p.tables e below (T13.setTop (mkF m 51 #[.val (.int p1), .val (.int p2), .val (.ref b3), .val (.int (4 : Int32)), .val (.int (3 : Int32)), .unset, .unset, .unset, .unset] [(.ref b3)])) _
      refine OGot.go (fun t k => XS.iloadN X13.here hx rfl (hb hby at_51) rfl k) ?_
      show OGot p.tables e below (T13.setTop (mkF m 52 #[.val (.int p1), .val (.int p2), .val (.ref b3), .val (.int (4 : Int32)), .val (.int (3 : Int32)), .unset, .unset, .unset, .unset] [(.int (4 : Int32)), (.ref b3)])) _
      obtain ⟨cl126, Ar126, qc126, Sz126, Ng126, Hh126, Gg126⟩ := id (Va13)
      have hin126 : ¬ ((4 : Int32) < 0 ∨ cl126.slots.size ≤ ((4 : Int32)).toNatClampNeg) := inb_of Sz126 ⟨by decide, by decide⟩
      have hat126 : cl126.slots[((4 : Int32)).toNatClampNeg]? = some (.ref w_CANCELLED) := Hh126.at hin126 rfl
      refine OGot.go (fun t k => X13.aaload hx (j := (4 : Int32)) (v := (.ref w_CANCELLED)) (by rw [e13]; exact Ar126.1) (State.isArrayOf_alike hZ.alike Ar126.2.1) rfl Ar126.2.2 hin126 hat126 (g := (mkF m 52 #[.val (.int p1), .val (.int p2), .val (.ref b3), .val (.int (4 : Int32)), .val (.int (3 : Int32)), .unset, .unset, .unset, .unset] [(.int (4 : Int32)), (.ref b3)])) rfl rfl (hb hby at_52) _ k) ?_
      show OGot p.tables e below (T13.setTop (mkF m 53 #[.val (.int p1), .val (.int p2), .val (.ref b3), .val (.int (4 : Int32)), .val (.int (3 : Int32)), .unset, .unset, .unset, .unset] [(.ref w_CANCELLED)])) _
      refine OGot.go (fun t k => XS.astore X13.here hx rfl (hb hby at_53) rfl rfl (l' := #[.val (.int p1), .val (.int p2), .val (.ref b3), .val (.int (4 : Int32)), .val (.int (3 : Int32)), .val (.ref w_CANCELLED), .unset, .unset, .unset]) rfl k) ?_
      show OGot p.tables e below (T13.setTop (mkF m 55 #[.val (.int p1), .val (.int p2), .val (.ref b3), .val (.int (4 : Int32)), .val (.int (3 : Int32)), .val (.ref w_CANCELLED), .unset, .unset, .unset] [])) _
      refine OGot.go (fun t k => XS.aloadN X13.here hx rfl (hb hby at_55) rfl rfl k) ?_
      show OGot p.tables e below (T13.setTop (mkF m 56 #[.val (.int p1), .val (.int p2), .val (.ref b3), .val (.int (4 : Int32)), .val (.int (3 : Int32)), .val (.ref w_CANCELLED), .unset, .unset, .unset] [(.ref b3)])) _
      refine OGot.go (fun t k => XS.iload X13.here hx rfl (hb hby at_56) rfl k) ?_
      show OGot p.tables e below (T13.setTop (mkF m 58 #[.val (.int p1), .val (.int p2), .val (.ref b3), .val (.int (4 : Int32)), .val (.int (3 : Int32)), .val (.ref w_CANCELLED), .unset, .unset, .unset] [(.int (3 : Int32)), (.ref b3)])) _
      obtain ⟨cl127, Ar127, qc127, Sz127, Ng127, Hh127, Gg127⟩ := id (Va13)
      have hin127 : ¬ ((3 : Int32) < 0 ∨ cl127.slots.size ≤ ((3 : Int32)).toNatClampNeg) := inb_of Sz127 ⟨by decide, by decide⟩
      have hat127 : cl127.slots[((3 : Int32)).toNatClampNeg]? = some (.ref w_FAILED) := Hh127.at hin127 rfl
      refine OGot.go (fun t k => X13.aaload hx (j := (3 : Int32)) (v := (.ref w_FAILED)) (by rw [e13]; exact Ar127.1) (State.isArrayOf_alike hZ.alike Ar127.2.1) rfl Ar127.2.2 hin127 hat127 (g := (mkF m 58 #[.val (.int p1), .val (.int p2), .val (.ref b3), .val (.int (4 : Int32)), .val (.int (3 : Int32)), .val (.ref w_CANCELLED), .unset, .unset, .unset] [(.int (3 : Int32)), (.ref b3)])) rfl rfl (hb hby at_58) _ k) ?_
      show OGot p.tables e below (T13.setTop (mkF m 59 #[.val (.int p1), .val (.int p2), .val (.ref b3), .val (.int (4 : Int32)), .val (.int (3 : Int32)), .val (.ref w_CANCELLED), .unset, .unset, .unset] [(.ref w_FAILED)])) _
      refine OGot.go (fun t k => XS.astore X13.here hx rfl (hb hby at_59) rfl rfl (l' := #[.val (.int p1), .val (.int p2), .val (.ref b3), .val (.int (4 : Int32)), .val (.int (3 : Int32)), .val (.ref w_CANCELLED), .val (.ref w_FAILED), .unset, .unset]) rfl k) ?_
      show OGot p.tables e below (T13.setTop (mkF m 61 #[.val (.int p1), .val (.int p2), .val (.ref b3), .val (.int (4 : Int32)), .val (.int (3 : Int32)), .val (.ref w_CANCELLED), .val (.ref w_FAILED), .unset, .unset] [])) _
      refine OGot.go (fun t k => XS.iloadN X13.here hx rfl (hb hby at_61) rfl k) ?_
      show OGot p.tables e below (T13.setTop (mkF m 62 #[.val (.int p1), .val (.int p2), .val (.ref b3), .val (.int (4 : Int32)), .val (.int (3 : Int32)), .val (.ref w_CANCELLED), .val (.ref w_FAILED), .unset, .unset] [(.int (4 : Int32))])) _
      refine OGot.go (fun t k => XS.ifNo X13.here hx rfl (hb hby at_62) rfl (by decide) k) ?_
      show OGot p.tables e below (T13.setTop (mkF m 65 #[.val (.int p1), .val (.int p2), .val (.ref b3), .val (.int (4 : Int32)), .val (.int (3 : Int32)), .val (.ref w_CANCELLED), .val (.ref w_FAILED), .unset, .unset] [])) _
      refine OGot.go (fun t k => XS.iloadN X13.here hx rfl (hb hby at_65) rfl k) ?_
      show OGot p.tables e below (T13.setTop (mkF m 66 #[.val (.int p1), .val (.int p2), .val (.ref b3), .val (.int (4 : Int32)), .val (.int (3 : Int32)), .val (.ref w_CANCELLED), .val (.ref w_FAILED), .unset, .unset] [(.int (4 : Int32))])) _
      refine OGot.go (fun t k => XS.iconst X13.here hx rfl (hb hby at_66) k) ?_
      show OGot p.tables e below (T13.setTop (mkF m 67 #[.val (.int p1), .val (.int p2), .val (.ref b3), .val (.int (4 : Int32)), .val (.int (3 : Int32)), .val (.ref w_CANCELLED), .val (.ref w_FAILED), .unset, .unset] [(.int (1 : Int32)), (.int (4 : Int32))])) _
      refine OGot.go (fun t k => XS.icmpNo X13.here hx rfl (hb hby at_67) rfl (by decide) k) ?_
      show OGot p.tables e below (T13.setTop (mkF m 70 #[.val (.int p1), .val (.int p2), .val (.ref b3), .val (.int (4 : Int32)), .val (.int (3 : Int32)), .val (.ref w_CANCELLED), .val (.ref w_FAILED), .unset, .unset] [])) _
      refine OGot.go (fun t k => XS.iconst X13.here hx rfl (hb hby at_70) k) ?_
      show OGot p.tables e below (T13.setTop (mkF m 71 #[.val (.int p1), .val (.int p2), .val (.ref b3), .val (.int (4 : Int32)), .val (.int (3 : Int32)), .val (.ref w_CANCELLED), .val (.ref w_FAILED), .unset, .unset] [(.int (1 : Int32))])) _
      refine OGot.go (fun t k => XS.goto X13.here hx rfl (pc0 := 71) (pc' := 75) rfl (hb hby at_71) (by decide) (by decide) k) ?_
      show OGot p.tables e below (T13.setTop (mkF m 75 #[.val (.int p1), .val (.int p2), .val (.ref b3), .val (.int (4 : Int32)), .val (.int (3 : Int32)), .val (.ref w_CANCELLED), .val (.ref w_FAILED), .unset, .unset] [(.int (1 : Int32))])) _
      refine OGot.go (fun t k => XS.istore X13.here hx rfl (hb hby at_75) rfl (l' := #[.val (.int p1), .val (.int p2), .val (.ref b3), .val (.int (4 : Int32)), .val (.int (3 : Int32)), .val (.ref w_CANCELLED), .val (.ref w_FAILED), .val (.int (1 : Int32)), .unset]) rfl k) ?_
      show OGot p.tables e below (T13.setTop (mkF m 77 #[.val (.int p1), .val (.int p2), .val (.ref b3), .val (.int (4 : Int32)), .val (.int (3 : Int32)), .val (.ref w_CANCELLED), .val (.ref w_FAILED), .val (.int (1 : Int32)), .unset] [])) _
      refine OGot.go (fun t k => XS.aload X13.here hx rfl (hb hby at_77) rfl rfl k) ?_
      show OGot p.tables e below (T13.setTop (mkF m 79 #[.val (.int p1), .val (.int p2), .val (.ref b3), .val (.int (4 : Int32)), .val (.int (3 : Int32)), .val (.ref w_CANCELLED), .val (.ref w_FAILED), .val (.int (1 : Int32)), .unset] [(.ref w_CANCELLED)])) _
      obtain ⟨cq128, kq128, q128a, q128b, q128c⟩ := isOf hZ e13 (G.2.2.2.2.2.2.2.2.2.1.ext O13.2)
      obtain ⟨_, _, ⟨T128, L128, k128, n128⟩, -, X128, ⟨Lc128, hQ128, l128, y128, z128⟩, st128⟩ := X13.virtualBack hx (y := (⟨"com/example/hermit_crab/hermitcrab/JobState", "isFinal", "()Z"⟩ : MethodName)) (z := (⟨"com/example/hermit_crab/hermitcrab/JobState", "isFinal", "()Z"⟩ : MethodName)) hown (mvT hZ (ow hw 15 rfl)) (mvT hZ (ow hw 16 rfl)) (notFace_of_selects (args := #[]) (mvT hZ (ow hw 18 rfl))) (mvT hZ (ow hw 18 rfl)) (mvT hZ (ow hw 17 rfl)) (by decide) (backOf (W := 0) (rm1_4 l Z a0 hw [] G  h13 n0 O13 ) hZ (ow hw 19 rfl) (ow hw 3 rfl) (by decide) (by decide)) q128a q128c (g := (mkF m 79 #[.val (.int p1), .val (.int p2), .val (.ref b3), .val (.int (4 : Int32)), .val (.int (3 : Int32)), .val (.ref w_CANCELLED), .val (.ref w_FAILED), .val (.int (1 : Int32)), .unset] [(.ref w_CANCELLED)])) rfl (by rw [hml]; rfl) (Steps.refl _) (argsL := []) (rest := []) (lenOf pd_0 rfl) rfl (by show 2 * 0 + _ ≤ _; exact Nat.le_of_eq rfl) (hb hby at_79) (fun _ _ => ⟨rfl, e13, (by decide : 1 + 0 ≤ _), (by decide : 5 + 0 ≤ _)⟩)
      dsimp only [Pt.U, Pt.locs, Pt.cells, Pt.slots] at X128 l128 y128 z128 st128 hQ128
      subst l128 y128 z128
      obtain ⟨rfl, N128q, e128⟩ := hQ128
      have N128 := Fr.app N13 N128q
      refine OGot.on st128 ?_
      show OGot p.tables e below (T128.setTop (mkF m 82 #[.val (.int p1), .val (.int p2), .val (.ref b3), .val (.int (4 : Int32)), .val (.int (3 : Int32)), .val (.ref w_CANCELLED), .val (.ref w_FAILED), .val (.int (1 : Int32)), .unset] [(.int (1 : Int32))])) _
      refine OGot.go (fun t k => XS.istore X128.here hx rfl (hb hby at_82) rfl (l' := #[.val (.int p1), .val (.int p2), .val (.ref b3), .val (.int (4 : Int32)), .val (.int (3 : Int32)), .val (.ref w_CANCELLED), .val (.ref w_FAILED), .val (.int (1 : Int32)), .val (.int (1 : Int32))]) rfl k) ?_
      show OGot p.tables e below (T128.setTop (mkF m 84 #[.val (.int p1), .val (.int p2), .val (.ref b3), .val (.int (4 : Int32)), .val (.int (3 : Int32)), .val (.ref w_CANCELLED), .val (.ref w_FAILED), .val (.int (1 : Int32)), .val (.int (1 : Int32))] [])) _
      refine OGot.go (fun t k => XS.iload X128.here hx rfl (hb hby at_84) rfl k) ?_
      show OGot p.tables e below (T128.setTop (mkF m 86 #[.val (.int p1), .val (.int p2), .val (.ref b3), .val (.int (4 : Int32)), .val (.int (3 : Int32)), .val (.ref w_CANCELLED), .val (.ref w_FAILED), .val (.int (1 : Int32)), .val (.int (1 : Int32))] [(.int (1 : Int32))])) _
      refine OGot.go (fun t k => XS.iload X128.here hx rfl (hb hby at_86) rfl k) ?_
      show OGot p.tables e below (T128.setTop (mkF m 88 #[.val (.int p1), .val (.int p2), .val (.ref b3), .val (.int (4 : Int32)), .val (.int (3 : Int32)), .val (.ref w_CANCELLED), .val (.ref w_FAILED), .val (.int (1 : Int32)), .val (.int (1 : Int32))] [(.int (1 : Int32)), (.int (1 : Int32))])) _
      refine OGot.go (fun t k => XS.icmpYes X128.here hx rfl (pc0 := 88) (pc' := 93) rfl (hb hby at_88) rfl (by decide) (by decide) (by decide) k) ?_
      show OGot p.tables e below (T128.setTop (mkF m 93 #[.val (.int p1), .val (.int p2), .val (.ref b3), .val (.int (4 : Int32)), .val (.int (3 : Int32)), .val (.ref w_CANCELLED), .val (.ref w_FAILED), .val (.int (1 : Int32)), .val (.int (1 : Int32))] [])) _
      refine OGot.go (fun t k => XS.iload X128.here hx rfl (hb hby at_93) rfl k) ?_
      show OGot p.tables e below (T128.setTop (mkF m 95 #[.val (.int p1), .val (.int p2), .val (.ref b3), .val (.int (4 : Int32)), .val (.int (3 : Int32)), .val (.ref w_CANCELLED), .val (.ref w_FAILED), .val (.int (1 : Int32)), .val (.int (1 : Int32))] [(.int (1 : Int32))])) _
      refine OGot.go (fun t k => XS.ifNo X128.here hx rfl (hb hby at_95) rfl (by decide) k) ?_
      show OGot p.tables e below (T128.setTop (mkF m 98 #[.val (.int p1), .val (.int p2), .val (.ref b3), .val (.int (4 : Int32)), .val (.int (3 : Int32)), .val (.ref w_CANCELLED), .val (.ref w_FAILED), .val (.int (1 : Int32)), .val (.int (1 : Int32))] [])) _
      refine OGot.go (fun t k => XS.aload X128.here hx rfl (hb hby at_98) rfl rfl k) ?_
      show OGot p.tables e below (T128.setTop (mkF m 100 #[.val (.int p1), .val (.int p2), .val (.ref b3), .val (.int (4 : Int32)), .val (.int (3 : Int32)), .val (.ref w_CANCELLED), .val (.ref w_FAILED), .val (.int (1 : Int32)), .val (.int (1 : Int32))] [(.ref w_CANCELLED)])) _
      refine OGot.go (fun t k => XS.aload X128.here hx rfl (hb hby at_100) rfl rfl k) ?_
      show OGot p.tables e below (T128.setTop (mkF m 102 #[.val (.int p1), .val (.int p2), .val (.ref b3), .val (.int (4 : Int32)), .val (.int (3 : Int32)), .val (.ref w_CANCELLED), .val (.ref w_FAILED), .val (.int (1 : Int32)), .val (.int (1 : Int32))] [(.ref w_FAILED), (.ref w_CANCELLED)])) _
      obtain ⟨cq129, kq129, q129a, q129b, q129c⟩ := isOf hZ e128 (G.2.2.2.2.2.2.2.2.2.1.ext O13.2)
      obtain ⟨_, _, ⟨T129, L129, k129, n129⟩, -, X129, ⟨Lc129, hQ129, l129, y129, z129⟩, st129⟩ := X128.virtualBack hx (y := (⟨"com/example/hermit_crab/hermitcrab/JobState", "canMoveTo", "(Lcom/example/hermit_crab/hermitcrab/JobState;)Z"⟩ : MethodName)) (z := (⟨"com/example/hermit_crab/hermitcrab/JobState", "canMoveTo", "(Lcom/example/hermit_crab/hermitcrab/JobState;)Z"⟩ : MethodName)) hown (mvT hZ (ow hw 23 rfl)) (mvT hZ (ow hw 24 rfl)) (notFace_of_selects (args := #[]) (mvT hZ (ow hw 26 rfl))) (mvT hZ (ow hw 26 rfl)) (mvT hZ (ow hw 25 rfl)) (by decide) (backOf (W := 0) (rm2_13 l Z a0 hw [] G  h13 n0 O13 ) hZ (ow hw 27 rfl) (ow hw 3 rfl) (by decide) (by decide)) q129a q129c (g := (mkF m 102 #[.val (.int p1), .val (.int p2), .val (.ref b3), .val (.int (4 : Int32)), .val (.int (3 : Int32)), .val (.ref w_CANCELLED), .val (.ref w_FAILED), .val (.int (1 : Int32)), .val (.int (1 : Int32))] [(.ref w_FAILED), (.ref w_CANCELLED)])) rfl (by rw [hml]; rfl) (Steps.refl _) (argsL := [(.ref w_FAILED)]) (rest := []) (lenOf pd_2 rfl) rfl (by show 2 * 0 + _ ≤ _; exact Nat.le_of_eq rfl) (hb hby at_102) (fun _ _ => ⟨rfl, e128, (by decide : 1 + 0 ≤ _), (by decide : 5 + 0 ≤ _)⟩)
      dsimp only [Pt.U, Pt.locs, Pt.cells, Pt.slots] at X129 l129 y129 z129 st129 hQ129
      subst l129 y129 z129
      obtain ⟨rfl, N129q, e129⟩ := hQ129
      have N129 := Fr.app N128 N129q
      refine OGot.on st129 ?_
      show OGot p.tables e below (T129.setTop (mkF m 105 #[.val (.int p1), .val (.int p2), .val (.ref b3), .val (.int (4 : Int32)), .val (.int (3 : Int32)), .val (.ref w_CANCELLED), .val (.ref w_FAILED), .val (.int (1 : Int32)), .val (.int (1 : Int32))] [(.int (0 : Int32))])) _
      refine OGot.go (fun t k => XS.ifYes X129.here hx rfl (pc0 := 105) (pc' := 124) rfl (hb hby at_105) rfl (by decide) (by decide) (by decide) k) ?_
      show OGot p.tables e below (T129.setTop (mkF m 124 #[.val (.int p1), .val (.int p2), .val (.ref b3), .val (.int (4 : Int32)), .val (.int (3 : Int32)), .val (.ref w_CANCELLED), .val (.ref w_FAILED), .val (.int (1 : Int32)), .val (.int (1 : Int32))] [])) _
      refine OGot.go (fun t k => XS.iconst X129.here hx rfl (hb hby at_124) k) ?_
      show OGot p.tables e below (T129.setTop (mkF m 125 #[.val (.int p1), .val (.int p2), .val (.ref b3), .val (.int (4 : Int32)), .val (.int (3 : Int32)), .val (.ref w_CANCELLED), .val (.ref w_FAILED), .val (.int (1 : Int32)), .val (.int (1 : Int32))] [(.int (1 : Int32))])) _
      obtain ⟨fs, hr, hrun, hended, hW, hsame⟩ := X129.leave (v := some (.int (1 : Int32))) (fun h => by rw [Bd.returns] at h; cases h)
      refine ⟨_, _, retN X129 hx (t := .boolean) Bd.returns (by simp) (hb hby at_125) hr, hrun, hended, _, _, rfl, ?_, ⟨_, rfl⟩, hW, hsame.mono (by decide) (by decide)⟩
      exact (⟨rfl, N129⟩ : Q0 Z w_PENDING w_RUNNING w_COMPLETED w_FAILED w_CANCELLED p1 p2 h0 n0 _ T129.heap _)
    · rw [hk113]
      show OGot p.tables e below (T13.setTop (mkF m 48 #[.val (.int p1), .val (.int p2), .val (.ref b3), .val (.int (4 : Int32)), .unset, .unset, .unset, .unset, .unset] [(.int (4 : Int32))])) _
      refine OGot.go (fun t k => XS.istore X13.here hx rfl (hb hby at_48) rfl (l' := #[.val (.int p1), .val (.int p2), .val (.ref b3), .val (.int (4 : Int32)), .val (.int (4 : Int32)), .unset, .unset, .unset, .unset]) rfl k) ?_
      show OGot p.tables e below (T13.setTop (mkF m 50 #[.val (.int p1), .val (.int p2), .val (.ref b3), .val (.int (4 : Int32)), .val (.int (4 : Int32)), .unset, .unset, .unset, .unset] [])) _
      refine OGot.go (fun t k => XS.aloadN X13.here hx rfl (hb hby at_50) rfl rfl k) ?_
      show OGot p.tables e below (T13.setTop (mkF m 51 #[.val (.int p1), .val (.int p2), .val (.ref b3), .val (.int (4 : Int32)), .val (.int (4 : Int32)), .unset, .unset, .unset, .unset] [(.ref b3)])) _
      refine OGot.go (fun t k => XS.iloadN X13.here hx rfl (hb hby at_51) rfl k) ?_
      show OGot p.tables e below (T13.setTop (mkF m 52 #[.val (.int p1), .val (.int p2), .val (.ref b3), .val (.int (4 : Int32)), .val (.int (4 : Int32)), .unset, .unset, .unset, .unset] [(.int (4 : Int32)), (.ref b3)])) _
      obtain ⟨cl130, Ar130, qc130, Sz130, Ng130, Hh130, Gg130⟩ := id (Va13)
      have hin130 : ¬ ((4 : Int32) < 0 ∨ cl130.slots.size ≤ ((4 : Int32)).toNatClampNeg) := inb_of Sz130 ⟨by decide, by decide⟩
      have hat130 : cl130.slots[((4 : Int32)).toNatClampNeg]? = some (.ref w_CANCELLED) := Hh130.at hin130 rfl
      refine OGot.go (fun t k => X13.aaload hx (j := (4 : Int32)) (v := (.ref w_CANCELLED)) (by rw [e13]; exact Ar130.1) (State.isArrayOf_alike hZ.alike Ar130.2.1) rfl Ar130.2.2 hin130 hat130 (g := (mkF m 52 #[.val (.int p1), .val (.int p2), .val (.ref b3), .val (.int (4 : Int32)), .val (.int (4 : Int32)), .unset, .unset, .unset, .unset] [(.int (4 : Int32)), (.ref b3)])) rfl rfl (hb hby at_52) _ k) ?_
      show OGot p.tables e below (T13.setTop (mkF m 53 #[.val (.int p1), .val (.int p2), .val (.ref b3), .val (.int (4 : Int32)), .val (.int (4 : Int32)), .unset, .unset, .unset, .unset] [(.ref w_CANCELLED)])) _
      refine OGot.go (fun t k => XS.astore X13.here hx rfl (hb hby at_53) rfl rfl (l' := #[.val (.int p1), .val (.int p2), .val (.ref b3), .val (.int (4 : Int32)), .val (.int (4 : Int32)), .val (.ref w_CANCELLED), .unset, .unset, .unset]) rfl k) ?_
      show OGot p.tables e below (T13.setTop (mkF m 55 #[.val (.int p1), .val (.int p2), .val (.ref b3), .val (.int (4 : Int32)), .val (.int (4 : Int32)), .val (.ref w_CANCELLED), .unset, .unset, .unset] [])) _
      refine OGot.go (fun t k => XS.aloadN X13.here hx rfl (hb hby at_55) rfl rfl k) ?_
      show OGot p.tables e below (T13.setTop (mkF m 56 #[.val (.int p1), .val (.int p2), .val (.ref b3), .val (.int (4 : Int32)), .val (.int (4 : Int32)), .val (.ref w_CANCELLED), .unset, .unset, .unset] [(.ref b3)])) _
      refine OGot.go (fun t k => XS.iload X13.here hx rfl (hb hby at_56) rfl k) ?_
      show OGot p.tables e below (T13.setTop (mkF m 58 #[.val (.int p1), .val (.int p2), .val (.ref b3), .val (.int (4 : Int32)), .val (.int (4 : Int32)), .val (.ref w_CANCELLED), .unset, .unset, .unset] [(.int (4 : Int32)), (.ref b3)])) _
      obtain ⟨cl131, Ar131, qc131, Sz131, Ng131, Hh131, Gg131⟩ := id (Va13)
      have hin131 : ¬ ((4 : Int32) < 0 ∨ cl131.slots.size ≤ ((4 : Int32)).toNatClampNeg) := inb_of Sz131 ⟨by decide, by decide⟩
      have hat131 : cl131.slots[((4 : Int32)).toNatClampNeg]? = some (.ref w_CANCELLED) := Hh131.at hin131 rfl
      refine OGot.go (fun t k => X13.aaload hx (j := (4 : Int32)) (v := (.ref w_CANCELLED)) (by rw [e13]; exact Ar131.1) (State.isArrayOf_alike hZ.alike Ar131.2.1) rfl Ar131.2.2 hin131 hat131 (g := (mkF m 58 #[.val (.int p1), .val (.int p2), .val (.ref b3), .val (.int (4 : Int32)), .val (.int (4 : Int32)), .val (.ref w_CANCELLED), .unset, .unset, .unset] [(.int (4 : Int32)), (.ref b3)])) rfl rfl (hb hby at_58) _ k) ?_
      show OGot p.tables e below (T13.setTop (mkF m 59 #[.val (.int p1), .val (.int p2), .val (.ref b3), .val (.int (4 : Int32)), .val (.int (4 : Int32)), .val (.ref w_CANCELLED), .unset, .unset, .unset] [(.ref w_CANCELLED)])) _
      refine OGot.go (fun t k => XS.astore X13.here hx rfl (hb hby at_59) rfl rfl (l' := #[.val (.int p1), .val (.int p2), .val (.ref b3), .val (.int (4 : Int32)), .val (.int (4 : Int32)), .val (.ref w_CANCELLED), .val (.ref w_CANCELLED), .unset, .unset]) rfl k) ?_
      show OGot p.tables e below (T13.setTop (mkF m 61 #[.val (.int p1), .val (.int p2), .val (.ref b3), .val (.int (4 : Int32)), .val (.int (4 : Int32)), .val (.ref w_CANCELLED), .val (.ref w_CANCELLED), .unset, .unset] [])) _
      refine OGot.go (fun t k => XS.iloadN X13.here hx rfl (hb hby at_61) rfl k) ?_
      show OGot p.tables e below (T13.setTop (mkF m 62 #[.val (.int p1), .val (.int p2), .val (.ref b3), .val (.int (4 : Int32)), .val (.int (4 : Int32)), .val (.ref w_CANCELLED), .val (.ref w_CANCELLED), .unset, .unset] [(.int (4 : Int32))])) _
      refine OGot.go (fun t k => XS.ifNo X13.here hx rfl (hb hby at_62) rfl (by decide) k) ?_
      show OGot p.tables e below (T13.setTop (mkF m 65 #[.val (.int p1), .val (.int p2), .val (.ref b3), .val (.int (4 : Int32)), .val (.int (4 : Int32)), .val (.ref w_CANCELLED), .val (.ref w_CANCELLED), .unset, .unset] [])) _
      refine OGot.go (fun t k => XS.iloadN X13.here hx rfl (hb hby at_65) rfl k) ?_
      show OGot p.tables e below (T13.setTop (mkF m 66 #[.val (.int p1), .val (.int p2), .val (.ref b3), .val (.int (4 : Int32)), .val (.int (4 : Int32)), .val (.ref w_CANCELLED), .val (.ref w_CANCELLED), .unset, .unset] [(.int (4 : Int32))])) _
      refine OGot.go (fun t k => XS.iconst X13.here hx rfl (hb hby at_66) k) ?_
      show OGot p.tables e below (T13.setTop (mkF m 67 #[.val (.int p1), .val (.int p2), .val (.ref b3), .val (.int (4 : Int32)), .val (.int (4 : Int32)), .val (.ref w_CANCELLED), .val (.ref w_CANCELLED), .unset, .unset] [(.int (1 : Int32)), (.int (4 : Int32))])) _
      refine OGot.go (fun t k => XS.icmpNo X13.here hx rfl (hb hby at_67) rfl (by decide) k) ?_
      show OGot p.tables e below (T13.setTop (mkF m 70 #[.val (.int p1), .val (.int p2), .val (.ref b3), .val (.int (4 : Int32)), .val (.int (4 : Int32)), .val (.ref w_CANCELLED), .val (.ref w_CANCELLED), .unset, .unset] [])) _
      refine OGot.go (fun t k => XS.iconst X13.here hx rfl (hb hby at_70) k) ?_
      show OGot p.tables e below (T13.setTop (mkF m 71 #[.val (.int p1), .val (.int p2), .val (.ref b3), .val (.int (4 : Int32)), .val (.int (4 : Int32)), .val (.ref w_CANCELLED), .val (.ref w_CANCELLED), .unset, .unset] [(.int (1 : Int32))])) _
      refine OGot.go (fun t k => XS.goto X13.here hx rfl (pc0 := 71) (pc' := 75) rfl (hb hby at_71) (by decide) (by decide) k) ?_
      show OGot p.tables e below (T13.setTop (mkF m 75 #[.val (.int p1), .val (.int p2), .val (.ref b3), .val (.int (4 : Int32)), .val (.int (4 : Int32)), .val (.ref w_CANCELLED), .val (.ref w_CANCELLED), .unset, .unset] [(.int (1 : Int32))])) _
      refine OGot.go (fun t k => XS.istore X13.here hx rfl (hb hby at_75) rfl (l' := #[.val (.int p1), .val (.int p2), .val (.ref b3), .val (.int (4 : Int32)), .val (.int (4 : Int32)), .val (.ref w_CANCELLED), .val (.ref w_CANCELLED), .val (.int (1 : Int32)), .unset]) rfl k) ?_
      show OGot p.tables e below (T13.setTop (mkF m 77 #[.val (.int p1), .val (.int p2), .val (.ref b3), .val (.int (4 : Int32)), .val (.int (4 : Int32)), .val (.ref w_CANCELLED), .val (.ref w_CANCELLED), .val (.int (1 : Int32)), .unset] [])) _
      refine OGot.go (fun t k => XS.aload X13.here hx rfl (hb hby at_77) rfl rfl k) ?_
      show OGot p.tables e below (T13.setTop (mkF m 79 #[.val (.int p1), .val (.int p2), .val (.ref b3), .val (.int (4 : Int32)), .val (.int (4 : Int32)), .val (.ref w_CANCELLED), .val (.ref w_CANCELLED), .val (.int (1 : Int32)), .unset] [(.ref w_CANCELLED)])) _
      obtain ⟨cq132, kq132, q132a, q132b, q132c⟩ := isOf hZ e13 (G.2.2.2.2.2.2.2.2.2.1.ext O13.2)
      obtain ⟨_, _, ⟨T132, L132, k132, n132⟩, -, X132, ⟨Lc132, hQ132, l132, y132, z132⟩, st132⟩ := X13.virtualBack hx (y := (⟨"com/example/hermit_crab/hermitcrab/JobState", "isFinal", "()Z"⟩ : MethodName)) (z := (⟨"com/example/hermit_crab/hermitcrab/JobState", "isFinal", "()Z"⟩ : MethodName)) hown (mvT hZ (ow hw 15 rfl)) (mvT hZ (ow hw 16 rfl)) (notFace_of_selects (args := #[]) (mvT hZ (ow hw 18 rfl))) (mvT hZ (ow hw 18 rfl)) (mvT hZ (ow hw 17 rfl)) (by decide) (backOf (W := 0) (rm1_4 l Z a0 hw [] G  h13 n0 O13 ) hZ (ow hw 19 rfl) (ow hw 3 rfl) (by decide) (by decide)) q132a q132c (g := (mkF m 79 #[.val (.int p1), .val (.int p2), .val (.ref b3), .val (.int (4 : Int32)), .val (.int (4 : Int32)), .val (.ref w_CANCELLED), .val (.ref w_CANCELLED), .val (.int (1 : Int32)), .unset] [(.ref w_CANCELLED)])) rfl (by rw [hml]; rfl) (Steps.refl _) (argsL := []) (rest := []) (lenOf pd_0 rfl) rfl (by show 2 * 0 + _ ≤ _; exact Nat.le_of_eq rfl) (hb hby at_79) (fun _ _ => ⟨rfl, e13, (by decide : 1 + 0 ≤ _), (by decide : 5 + 0 ≤ _)⟩)
      dsimp only [Pt.U, Pt.locs, Pt.cells, Pt.slots] at X132 l132 y132 z132 st132 hQ132
      subst l132 y132 z132
      obtain ⟨rfl, N132q, e132⟩ := hQ132
      have N132 := Fr.app N13 N132q
      refine OGot.on st132 ?_
      show OGot p.tables e below (T132.setTop (mkF m 82 #[.val (.int p1), .val (.int p2), .val (.ref b3), .val (.int (4 : Int32)), .val (.int (4 : Int32)), .val (.ref w_CANCELLED), .val (.ref w_CANCELLED), .val (.int (1 : Int32)), .unset] [(.int (1 : Int32))])) _
      refine OGot.go (fun t k => XS.istore X132.here hx rfl (hb hby at_82) rfl (l' := #[.val (.int p1), .val (.int p2), .val (.ref b3), .val (.int (4 : Int32)), .val (.int (4 : Int32)), .val (.ref w_CANCELLED), .val (.ref w_CANCELLED), .val (.int (1 : Int32)), .val (.int (1 : Int32))]) rfl k) ?_
      show OGot p.tables e below (T132.setTop (mkF m 84 #[.val (.int p1), .val (.int p2), .val (.ref b3), .val (.int (4 : Int32)), .val (.int (4 : Int32)), .val (.ref w_CANCELLED), .val (.ref w_CANCELLED), .val (.int (1 : Int32)), .val (.int (1 : Int32))] [])) _
      refine OGot.go (fun t k => XS.iload X132.here hx rfl (hb hby at_84) rfl k) ?_
      show OGot p.tables e below (T132.setTop (mkF m 86 #[.val (.int p1), .val (.int p2), .val (.ref b3), .val (.int (4 : Int32)), .val (.int (4 : Int32)), .val (.ref w_CANCELLED), .val (.ref w_CANCELLED), .val (.int (1 : Int32)), .val (.int (1 : Int32))] [(.int (1 : Int32))])) _
      refine OGot.go (fun t k => XS.iload X132.here hx rfl (hb hby at_86) rfl k) ?_
      show OGot p.tables e below (T132.setTop (mkF m 88 #[.val (.int p1), .val (.int p2), .val (.ref b3), .val (.int (4 : Int32)), .val (.int (4 : Int32)), .val (.ref w_CANCELLED), .val (.ref w_CANCELLED), .val (.int (1 : Int32)), .val (.int (1 : Int32))] [(.int (1 : Int32)), (.int (1 : Int32))])) _
      refine OGot.go (fun t k => XS.icmpYes X132.here hx rfl (pc0 := 88) (pc' := 93) rfl (hb hby at_88) rfl (by decide) (by decide) (by decide) k) ?_
      show OGot p.tables e below (T132.setTop (mkF m 93 #[.val (.int p1), .val (.int p2), .val (.ref b3), .val (.int (4 : Int32)), .val (.int (4 : Int32)), .val (.ref w_CANCELLED), .val (.ref w_CANCELLED), .val (.int (1 : Int32)), .val (.int (1 : Int32))] [])) _
      refine OGot.go (fun t k => XS.iload X132.here hx rfl (hb hby at_93) rfl k) ?_
      show OGot p.tables e below (T132.setTop (mkF m 95 #[.val (.int p1), .val (.int p2), .val (.ref b3), .val (.int (4 : Int32)), .val (.int (4 : Int32)), .val (.ref w_CANCELLED), .val (.ref w_CANCELLED), .val (.int (1 : Int32)), .val (.int (1 : Int32))] [(.int (1 : Int32))])) _
      refine OGot.go (fun t k => XS.ifNo X132.here hx rfl (hb hby at_95) rfl (by decide) k) ?_
      show OGot p.tables e below (T132.setTop (mkF m 98 #[.val (.int p1), .val (.int p2), .val (.ref b3), .val (.int (4 : Int32)), .val (.int (4 : Int32)), .val (.ref w_CANCELLED), .val (.ref w_CANCELLED), .val (.int (1 : Int32)), .val (.int (1 : Int32))] [])) _
      refine OGot.go (fun t k => XS.aload X132.here hx rfl (hb hby at_98) rfl rfl k) ?_
      show OGot p.tables e below (T132.setTop (mkF m 100 #[.val (.int p1), .val (.int p2), .val (.ref b3), .val (.int (4 : Int32)), .val (.int (4 : Int32)), .val (.ref w_CANCELLED), .val (.ref w_CANCELLED), .val (.int (1 : Int32)), .val (.int (1 : Int32))] [(.ref w_CANCELLED)])) _
      refine OGot.go (fun t k => XS.aload X132.here hx rfl (hb hby at_100) rfl rfl k) ?_
      show OGot p.tables e below (T132.setTop (mkF m 102 #[.val (.int p1), .val (.int p2), .val (.ref b3), .val (.int (4 : Int32)), .val (.int (4 : Int32)), .val (.ref w_CANCELLED), .val (.ref w_CANCELLED), .val (.int (1 : Int32)), .val (.int (1 : Int32))] [(.ref w_CANCELLED), (.ref w_CANCELLED)])) _
      obtain ⟨cq133, kq133, q133a, q133b, q133c⟩ := isOf hZ e132 (G.2.2.2.2.2.2.2.2.2.1.ext O13.2)
      obtain ⟨_, _, ⟨T133, L133, k133, n133⟩, -, X133, ⟨Lc133, hQ133, l133, y133, z133⟩, st133⟩ := X132.virtualBack hx (y := (⟨"com/example/hermit_crab/hermitcrab/JobState", "canMoveTo", "(Lcom/example/hermit_crab/hermitcrab/JobState;)Z"⟩ : MethodName)) (z := (⟨"com/example/hermit_crab/hermitcrab/JobState", "canMoveTo", "(Lcom/example/hermit_crab/hermitcrab/JobState;)Z"⟩ : MethodName)) hown (mvT hZ (ow hw 23 rfl)) (mvT hZ (ow hw 24 rfl)) (notFace_of_selects (args := #[]) (mvT hZ (ow hw 26 rfl))) (mvT hZ (ow hw 26 rfl)) (mvT hZ (ow hw 25 rfl)) (by decide) (backOf (W := 0) (rm2_14 l Z a0 hw [] G  h13 n0 O13 ) hZ (ow hw 27 rfl) (ow hw 3 rfl) (by decide) (by decide)) q133a q133c (g := (mkF m 102 #[.val (.int p1), .val (.int p2), .val (.ref b3), .val (.int (4 : Int32)), .val (.int (4 : Int32)), .val (.ref w_CANCELLED), .val (.ref w_CANCELLED), .val (.int (1 : Int32)), .val (.int (1 : Int32))] [(.ref w_CANCELLED), (.ref w_CANCELLED)])) rfl (by rw [hml]; rfl) (Steps.refl _) (argsL := [(.ref w_CANCELLED)]) (rest := []) (lenOf pd_2 rfl) rfl (by show 2 * 0 + _ ≤ _; exact Nat.le_of_eq rfl) (hb hby at_102) (fun _ _ => ⟨rfl, e132, (by decide : 1 + 0 ≤ _), (by decide : 5 + 0 ≤ _)⟩)
      dsimp only [Pt.U, Pt.locs, Pt.cells, Pt.slots] at X133 l133 y133 z133 st133 hQ133
      subst l133 y133 z133
      obtain ⟨rfl, N133q, e133⟩ := hQ133
      have N133 := Fr.app N132 N133q
      refine OGot.on st133 ?_
      show OGot p.tables e below (T133.setTop (mkF m 105 #[.val (.int p1), .val (.int p2), .val (.ref b3), .val (.int (4 : Int32)), .val (.int (4 : Int32)), .val (.ref w_CANCELLED), .val (.ref w_CANCELLED), .val (.int (1 : Int32)), .val (.int (1 : Int32))] [(.int (0 : Int32))])) _
      refine OGot.go (fun t k => XS.ifYes X133.here hx rfl (pc0 := 105) (pc' := 124) rfl (hb hby at_105) rfl (by decide) (by decide) (by decide) k) ?_
      show OGot p.tables e below (T133.setTop (mkF m 124 #[.val (.int p1), .val (.int p2), .val (.ref b3), .val (.int (4 : Int32)), .val (.int (4 : Int32)), .val (.ref w_CANCELLED), .val (.ref w_CANCELLED), .val (.int (1 : Int32)), .val (.int (1 : Int32))] [])) _
      refine OGot.go (fun t k => XS.iconst X133.here hx rfl (hb hby at_124) k) ?_
      show OGot p.tables e below (T133.setTop (mkF m 125 #[.val (.int p1), .val (.int p2), .val (.ref b3), .val (.int (4 : Int32)), .val (.int (4 : Int32)), .val (.ref w_CANCELLED), .val (.ref w_CANCELLED), .val (.int (1 : Int32)), .val (.int (1 : Int32))] [(.int (1 : Int32))])) _
      obtain ⟨fs, hr, hrun, hended, hW, hsame⟩ := X133.leave (v := some (.int (1 : Int32))) (fun h => by rw [Bd.returns] at h; cases h)
      refine ⟨_, _, retN X133 hx (t := .boolean) Bd.returns (by simp) (hb hby at_125) hr, hrun, hended, _, _, rfl, ?_, ⟨_, rfl⟩, hW, hsame.mono (by decide) (by decide)⟩
      exact (⟨rfl, N133⟩ : Q0 Z w_PENDING w_RUNNING w_COMPLETED w_FAILED w_CANCELLED p1 p2 h0 n0 _ T133.heap _)
set_option maxRecDepth 65536 in
set_option maxHeartbeats 40000000 in
theorem comes_1 {Post : Tables → Env → Array Value → State → Outcome → State → Prop} (hpost : ∀ tb e args s v u, (limb_1_1.after args s (.returned v) u = true ∧ limb_1_2.after args s (.returned v) u = true ∧ True) → FrameEnd s (.returned v) u (Jvm.fieldLocs frame_1_writes args s ++ Jvm.arrayLocs frame_1_arrays args s ++ Jvm.staticLocs frame_1_statics s) 16 128 → Post tb e args s (.returned v) u) :
    ArmFor flags0 classFile x code maxLocals ret World_1 tables_1 room_1 Calls_1 rest_1 Pre_1 Post := by
  intro l hfl _ _ p e ha hc hk s m args below hf hA hF happ hP
  obtain ⟨hcalls, hrest, hpre⟩ := hP
  obtain ⟨-, -, -, hnamed, -, -, -, hat⟩ := (Spec.applies_iff hf).mp happ
  obtain ⟨hg, hn⟩ := and_e (Cond.before_iff.mp (show (Jvm.Cond.and given_1 narrow_1).before args s = true from hpre))
  obtain ⟨g0, g0r⟩ := and_e hg
  obtain ⟨g1, g1r⟩ := and_e g0r
  obtain ⟨w0, w1, rfl⟩ : ∃ w0 w1 : Value, args = #[w0, w1] := by
    have hs : args.size = 2 := by simpa [Cond.value, given_1] using g0
    obtain ⟨L⟩ := args
    match L, hs with
    | [w0, w1], _ => exact ⟨w0, w1, rfl⟩
  have hw := fun d (hd : d ∈ tables_1) => atoms_spec (ws := Jvm.Cond.code x code maxLocals ret :: tables_1) hat d (List.mem_cons_of_mem _ hd)
  obtain ⟨i0, ei0⟩ := is_v g1
  obtain rfl : w0 = (.int i0) := Option.some.inj ei0
  obtain ⟨i1, ei1⟩ := is_v g1r
  obtain rfl : w1 = (.int i1) := Option.some.inj ei1
  obtain ⟨m0, m0r⟩ := and_e hn
  obtain ⟨m1, m1r⟩ := and_e m0r
  obtain ⟨m2, m2r⟩ := and_e m1r
  obtain ⟨m3, m3r⟩ := and_e m2r
  obtain ⟨m4, m4r⟩ := and_e m3r
  obtain ⟨m5, m5r⟩ := and_e m4r
  obtain ⟨m6, m6r⟩ := and_e m5r
  obtain ⟨m7, m7r⟩ := and_e m6r
  obtain ⟨m8, m8r⟩ := and_e m7r
  obtain ⟨w_PENDING, ev_w_PENDING⟩ := exa_v m0
  obtain ⟨w_RUNNING, ev_w_RUNNING⟩ := exa_v m1
  obtain ⟨w_COMPLETED, ev_w_COMPLETED⟩ := exa_v m2
  obtain ⟨w_FAILED, ev_w_FAILED⟩ := exa_v m3
  obtain ⟨w_CANCELLED, ev_w_CANCELLED⟩ := exa_v m4
  have G : Glob s w_PENDING w_RUNNING w_COMPLETED w_FAILED w_CANCELLED := ⟨(Sta.start ev_w_PENDING (Or.inr ⟨(ow hw 3 rfl), (ow hw 4 rfl)⟩)), (Exa.start ev_w_PENDING m0), (Sta.start ev_w_RUNNING (Or.inr ⟨(ow hw 3 rfl), (ow hw 7 rfl)⟩)), (Exa.start ev_w_RUNNING m1), (Sta.start ev_w_COMPLETED (Or.inr ⟨(ow hw 3 rfl), (ow hw 9 rfl)⟩)), (Exa.start ev_w_COMPLETED m2), (Sta.start ev_w_FAILED (Or.inr ⟨(ow hw 3 rfl), (ow hw 11 rfl)⟩)), (Exa.start ev_w_FAILED m3), (Sta.start ev_w_CANCELLED (Or.inr ⟨(ow hw 3 rfl), (ow hw 13 rfl)⟩)), (Exa.start ev_w_CANCELLED m4), (Fld.start ((fld_at ev_w_PENDING).symm.trans (oeq_int m5))), (Fld.start ((fld_at ev_w_COMPLETED).symm.trans (oeq_int m6))), (Fld.start ((fld_at ev_w_FAILED).symm.trans (oeq_int m7))), (Fld.start ((fld_at ev_w_CANCELLED).symm.trans (oeq_int m8))), (Fld.start ((fld_at ev_w_RUNNING).symm.trans (oeq_int m8r)))⟩
  obtain ⟨n, o, h1, h2, h3, _, L, rfl, ⟨rfl, N⟩, hq⟩ := rm0 l s _ hw tables_1 G i0 i1 s.heap s.heap.size (Old.start s) p e ha hc hk s m _ below hf ((Spec.applies_iff_loose hf).mp happ).1 ⟨rfl, State.Warmed39.refl s, rfl⟩ trivial
  refine ⟨n, _, h1, h2, h3, hpost _ _ _ _ _ _ ⟨Cond.after_iff.mpr rfl, Cond.after_iff.mpr (eq_i res_at (Term.int_eval (1)) rfl), trivial⟩ ⟨hq.1, hq.2.1, (hq.2.2.sift fun y hy => Or.inr (N y hy)).mono (by decide) (by decide)⟩⟩
theorem main_1_1 : Claimed_1_1 := comes_1 fun _ _ _ _ _ _ h hF => ⟨h.1, hF⟩
theorem main_1_2 : Claimed_1_2 := comes_1 fun _ _ _ _ _ _ h hF => ⟨h.2.1, hF⟩
end Jvm.Pilot.@@N@@
namespace Jvm.Pilot.@@N@@
open Jvm Jvm.ClassFile Sem Op Lib Jvm.Free Jvm.Stand Jvm.Pilot.@@N@@.Jvm.D
/-! MADE BY PROGRAM (witnessworld.py) out of the Statement's table words and the real class files: 13 classes; the members and pool entries that the words name. The judged class is class 1, her method 1. -/
namespace start1
open Jvm.ClassFile
def u (s : String) : CpInfo := .utf8 (stringToUtf16 s)
/-- a pool by its gaps: so many unusable entries, then the entry; so many at the end -/
def gap : Nat → List CpInfo → List CpInfo
  | 0, r => r
  | n + 1, r => .unusable :: gap n r
def poolList (es : List (Nat × CpInfo)) (last : Nat) : List CpInfo := es.foldr (fun e r => gap e.1 (e.2 :: r)) (gap last [])
def pool (es : List (Nat × CpInfo)) (last : Nat) : Array CpInfo := ⟨poolList es last⟩
def fileOf (pool : Array CpInfo) (this : Nat) (attrs : Array Attribute := #[]) (ms : Array MethodInfo := #[]) (fl : Nat := 33) (sup : Nat := 0) (ifs : Array Nat := #[]) (fds : Array FieldInfo := #[]) : ClassFile where
  minorVersion := 0
  majorVersion := 65
  constantPool := pool
  accessFlags := fl
  thisClass := this
  superClass := sup
  interfaces := ifs
  fields := fds
  methods := ms
  attributes := attrs
def plain (name : String) (sup : Option ClassId) : Class where
  name := name
  kind := .ordinary
  loader := none
  accessFlags := 33
  super := sup
  interfaces := #[]
  cf := none
  fields := #[]
  methods := #[]
  instanceTypes := #[]
  staticTypes := #[]
  resolved := #[]
  callSites := []
  init := .initialized
  statics := none
  mirror := none

def pool0 : Array CpInfo := pool [(5, u "<init>"), (0, u "()V"), (1, .class_ 10), (1, u "java/lang/Object")] 113

def k0m0 : Method := { name := "<init>", desc := "()V", sig := { parameters := [], returnType := none }, accessFlags := 1, code := none }
/-- java/lang/Object -/
def k0 : Class := { plain "java/lang/Object" none with
  accessFlags := 33
  interfaces := #[]
  cf := some (fileOf pool0 8 #[] #[{ accessFlags := 1, nameIndex := 5, descriptorIndex := 6, attributes := #[] }] 33 0 #[] #[])
  fields := #[]
  methods := #[k0m0]
  instanceTypes := #[]
  staticTypes := #[]
  resolved := Array.replicate 124 none
  statics := none }

def pool1 : Array CpInfo := pool [(2, .class_ 4), (1, u "java/lang/Object"), (0, u "<init>"), (0, u "()V"), (0, .class_ 8), (0, u "com/example/hermit_crab/hermitcrab/JobState"), (0, .fieldref 7 10), (0, .nameAndType 11 12), (0, u "PENDING"), (0, u "Lcom/example/hermit_crab/hermitcrab/JobState;"), (0, .fieldref 7 14), (0, .nameAndType 15 12), (0, u "RUNNING"), (0, .fieldref 7 17), (0, .nameAndType 18 12), (0, u "COMPLETED"), (0, .fieldref 7 20), (0, .nameAndType 21 12), (0, u "FAILED"), (0, .fieldref 7 23), (0, .nameAndType 24 12), (0, u "CANCELLED"), (0, .integer 2147483647), (0, .methodref 7 27), (0, .nameAndType 28 29), (0, u "isFinal"), (0, u "()Z"), (0, .methodref 7 31), (0, .nameAndType 32 33), (0, u "canMoveTo"), (0, u "(Lcom/example/hermit_crab/hermitcrab/JobState;)Z"), (0, .class_ 35), (0, u "com/example/hermit_crab/hermitcrab/JobStateIsFinalPinLaw"), (2, u "law"), (0, u "(II)Z")] 5

def k1m0 : Method := { name := "<init>", desc := "()V", sig := { parameters := [], returnType := none }, accessFlags := 1, code := none }
def k1c1 : Code := { maxStack := 4, maxLocals := 9, code := code, exceptionTable := #[], attributes := #[] }
def k1m1 : Method := { name := "law", desc := "(II)Z", sig := { parameters := [.int, .int], returnType := some .boolean }, accessFlags := 9, code := some k1c1 }
/-- com/example/hermit_crab/hermitcrab/JobStateIsFinalPinLaw -/
def k1 : Class := { plain "com/example/hermit_crab/hermitcrab/JobStateIsFinalPinLaw" (some 0) with
  accessFlags := 49
  interfaces := #[]
  cf := some (fileOf pool1 34 #[] #[{ accessFlags := 1, nameIndex := 5, descriptorIndex := 6, attributes := #[] }, { accessFlags := 9, nameIndex := 38, descriptorIndex := 39, attributes := #[] }] 49 2 #[] #[])
  fields := #[]
  methods := #[k1m0, k1m1]
  instanceTypes := #[]
  staticTypes := #[]
  resolved := Array.replicate 45 none
  statics := none }

def pool2 : Array CpInfo := pool [(1, .class_ 2), (0, u "java/lang/constant/Constable"), (0, .class_ 4), (0, u "java/lang/Object")] 6

/-- java/lang/constant/Constable -/
def k2 : Class := { plain "java/lang/constant/Constable" (some 0) with
  accessFlags := 1537
  interfaces := #[]
  cf := some (fileOf pool2 1 #[] #[] 1537 3 #[] #[])
  fields := #[]
  methods := #[]
  instanceTypes := #[]
  staticTypes := #[]
  resolved := Array.replicate 11 none
  statics := none }

def pool3 : Array CpInfo := pool [(1, .class_ 2), (0, u "java/lang/Comparable"), (0, .class_ 4), (0, u "java/lang/Object")] 7

/-- java/lang/Comparable -/
def k3 : Class := { plain "java/lang/Comparable" (some 0) with
  accessFlags := 1537
  interfaces := #[]
  cf := some (fileOf pool3 1 #[] #[] 1537 3 #[] #[])
  fields := #[]
  methods := #[]
  instanceTypes := #[]
  staticTypes := #[]
  resolved := Array.replicate 12 none
  statics := none }

def pool4 : Array CpInfo := pool [(1, .class_ 2), (0, u "java/io/Serializable"), (0, .class_ 4), (0, u "java/lang/Object")] 2

/-- java/io/Serializable -/
def k4 : Class := { plain "java/io/Serializable" (some 0) with
  accessFlags := 1537
  interfaces := #[]
  cf := some (fileOf pool4 1 #[] #[] 1537 3 #[] #[])
  fields := #[]
  methods := #[]
  instanceTypes := #[]
  staticTypes := #[]
  resolved := Array.replicate 7 none
  statics := none }

def pool5 : Array CpInfo := pool [(2, .class_ 4), (1, u "java/lang/Enum"), (0, u "name"), (0, u "Ljava/lang/String;"), (0, .fieldref 2 8), (0, .nameAndType 9 10), (0, u "ordinal"), (0, u "I"), (1, .class_ 14), (1, u "java/lang/Object"), (4, u "hash"), (86, .class_ 108), (1, u "java/lang/Enum$EnumDesc"), (2, .class_ 112), (0, u "java/lang/constant/Constable"), (0, .class_ 114), (0, u "java/lang/Comparable"), (0, .class_ 116), (0, u "java/io/Serializable"), (9, u "()I")] 77

def k5c0 : Code := { maxStack := 1, maxLocals := 1, code := jdk_37_method_2_code, exceptionTable := #[], attributes := #[] }
def k5m0 : Method := { name := "ordinal", desc := "()I", sig := { parameters := [], returnType := some .int }, accessFlags := 17, code := some k5c0 }
/-- java/lang/Enum -/
def k5 : Class := { plain "java/lang/Enum" (some 0) with
  accessFlags := 1057
  interfaces := #[2, 3, 4]
  cf := some (fileOf pool5 2 #[.nestMembers #[106]] #[{ accessFlags := 17, nameIndex := 9, descriptorIndex := 126, attributes := #[] }] 1057 12 #[111, 113, 115] #[{ accessFlags := 18, nameIndex := 5, descriptorIndex := 6, attributes := #[] }, { accessFlags := 18, nameIndex := 9, descriptorIndex := 10, attributes := #[] }, { accessFlags := 2, nameIndex := 19, descriptorIndex := 10, attributes := #[] }])
  fields := #[{ name := "name", type := (.object "java/lang/String"), accessFlags := 18, slot := 0, constantValue := 0 }, { name := "ordinal", type := .int, accessFlags := 18, slot := 1, constantValue := 0 }, { name := "hash", type := .int, accessFlags := 2, slot := 2, constantValue := 0 }]
  methods := #[k5m0]
  instanceTypes := #[(.object "java/lang/String"), .int, .int]
  staticTypes := #[]
  resolved := Array.replicate 204 none
  statics := none }

def pool6 : Array CpInfo := pool [(1, .class_ 2), (0, u "com/example/hermit_crab/hermitcrab/JobState"), (0, .fieldref 1 4), (0, .nameAndType 5 6), (0, u "PENDING"), (0, u "Lcom/example/hermit_crab/hermitcrab/JobState;"), (2, u "RUNNING"), (0, .fieldref 1 11), (0, .nameAndType 12 6), (0, u "COMPLETED"), (0, .fieldref 1 14), (0, .nameAndType 15 6), (0, u "FAILED"), (0, .fieldref 1 17), (0, .nameAndType 18 6), (0, u "CANCELLED"), (2, u "$VALUES"), (0, u "[Lcom/example/hermit_crab/hermitcrab/JobState;"), (6, .class_ 31), (1, u "java/lang/Enum"), (6, .methodref 1 39), (0, .nameAndType 40 41), (0, u "ordinal"), (0, u "()I"), (22, u "isFinal"), (0, u "()Z"), (1, u "canMoveTo"), (0, u "(Lcom/example/hermit_crab/hermitcrab/JobState;)Z")] 4

def k6c0 : Code := { maxStack := 2, maxLocals := 1, code := prog_6_method_4_code, exceptionTable := #[], attributes := #[] }
def k6m0 : Method := { name := "isFinal", desc := "()Z", sig := { parameters := [], returnType := some .boolean }, accessFlags := 1, code := some k6c0 }
def k6c1 : Code := { maxStack := 4, maxLocals := 2, code := prog_6_method_5_code, exceptionTable := #[], attributes := #[] }
def k6m1 : Method := { name := "canMoveTo", desc := "(Lcom/example/hermit_crab/hermitcrab/JobState;)Z", sig := { parameters := [(.object "com/example/hermit_crab/hermitcrab/JobState")], returnType := some .boolean }, accessFlags := 1, code := some k6c1 }
/-- com/example/hermit_crab/hermitcrab/JobState -/
def k6 : Class := { plain "com/example/hermit_crab/hermitcrab/JobState" (some 5) with
  accessFlags := 16433
  interfaces := #[]
  cf := some (fileOf pool6 1 #[] #[{ accessFlags := 1, nameIndex := 64, descriptorIndex := 65, attributes := #[] }, { accessFlags := 1, nameIndex := 67, descriptorIndex := 68, attributes := #[] }] 16433 29 #[] #[{ accessFlags := 16409, nameIndex := 5, descriptorIndex := 6, attributes := #[] }, { accessFlags := 16409, nameIndex := 9, descriptorIndex := 6, attributes := #[] }, { accessFlags := 16409, nameIndex := 12, descriptorIndex := 6, attributes := #[] }, { accessFlags := 16409, nameIndex := 15, descriptorIndex := 6, attributes := #[] }, { accessFlags := 16409, nameIndex := 18, descriptorIndex := 6, attributes := #[] }, { accessFlags := 4122, nameIndex := 21, descriptorIndex := 22, attributes := #[] }])
  fields := #[{ name := "PENDING", type := (.object "com/example/hermit_crab/hermitcrab/JobState"), accessFlags := 16409, slot := 0, constantValue := 0 }, { name := "RUNNING", type := (.object "com/example/hermit_crab/hermitcrab/JobState"), accessFlags := 16409, slot := 1, constantValue := 0 }, { name := "COMPLETED", type := (.object "com/example/hermit_crab/hermitcrab/JobState"), accessFlags := 16409, slot := 2, constantValue := 0 }, { name := "FAILED", type := (.object "com/example/hermit_crab/hermitcrab/JobState"), accessFlags := 16409, slot := 3, constantValue := 0 }, { name := "CANCELLED", type := (.object "com/example/hermit_crab/hermitcrab/JobState"), accessFlags := 16409, slot := 4, constantValue := 0 }, { name := "$VALUES", type := (.array (.object "com/example/hermit_crab/hermitcrab/JobState")), accessFlags := 4122, slot := 5, constantValue := 0 }]
  methods := #[k6m0, k6m1]
  instanceTypes := #[(.object "java/lang/String"), .int, .int]
  staticTypes := #[(.object "com/example/hermit_crab/hermitcrab/JobState"), (.object "com/example/hermit_crab/hermitcrab/JobState"), (.object "com/example/hermit_crab/hermitcrab/JobState"), (.object "com/example/hermit_crab/hermitcrab/JobState"), (.object "com/example/hermit_crab/hermitcrab/JobState"), (.array (.object "com/example/hermit_crab/hermitcrab/JobState"))]
  resolved := Array.replicate 73 none
  statics := some 0 }

def pool7 : Array CpInfo := pool [(1, u "java/lang/Cloneable"), (0, .class_ 1), (0, u "java/lang/Object"), (0, .class_ 3)] 3

/-- java/lang/Cloneable -/
def k7 : Class := { plain "java/lang/Cloneable" (some 0) with
  accessFlags := 1537
  interfaces := #[]
  cf := some (fileOf pool7 2 #[] #[] 1537 4 #[] #[])
  fields := #[]
  methods := #[]
  instanceTypes := #[]
  staticTypes := #[]
  resolved := Array.replicate 8 none
  statics := none }

/-- the primitive byte -/
def k8 : Class := { plain "byte" none with kind := .primitive 'B', accessFlags := 0x411 }
/-- [B -/
def k9 : Class := { plain "[B" (some 0) with kind := .array 8 .byte, interfaces := #[7, 4], accessFlags := 1041 }

/-- the primitive int -/
def k10 : Class := { plain "int" none with kind := .primitive 'I', accessFlags := 0x411 }
/-- [I -/
def k11 : Class := { plain "[I" (some 0) with kind := .array 10 .int, interfaces := #[7, 4], accessFlags := 1041 }

/-- [Lcom/example/hermit_crab/hermitcrab/JobState; -/
def k12 : Class := { plain "[Lcom/example/hermit_crab/hermitcrab/JobState;" (some 0) with kind := .array 6 (.object "com/example/hermit_crab/hermitcrab/JobState"), interfaces := #[7, 4], accessFlags := 1041 }

def heap : Heap := #[{ cls := 6, slots := #[.ref 1, .ref 2, .ref 3, .ref 4, .ref 5, .null], vm := .statics 6 },
  { cls := 6, slots := #[.null, .int 0, .int 0], vm := .none },
  { cls := 6, slots := #[.null, .int 1, .int 0], vm := .none },
  { cls := 6, slots := #[.null, .int 2, .int 0], vm := .none },
  { cls := 6, slots := #[.null, .int 3, .int 0], vm := .none },
  { cls := 6, slots := #[.null, .int 4, .int 0], vm := .none }]
def classes : Array Class := #[k0, k1, k2, k3, k4, k5, k6, k7, k8, k9, k10, k11, k12]
def interned : List (Array UInt16 × Addr) := []
def slotsUsed : Nat := 21
def theMethod : MethodId := ⟨1, 1⟩
def args0 : Array Value := #[.int 5, .int 6]
def aboutOver (below : List Frame) : State where
  vm := { classes := classes, interned := interned.toArray }
  heap := heap
  slotsUsed := slotsUsed
  threads := #[{ frames := .invoking theMethod args0 :: below }]
def below0 : List Frame := [.native { method := ⟨0, 0⟩, args := #[] }]
def about1 : State := aboutOver below0
def p0 : Program := .bare "" "" ""
def e0 : Env := launch0.env 0 0 0
theorem w_frames : about1.frames = Frame.invoking theMethod args0 :: below0 := rfl
set_option maxRecDepth 65536 in
theorem w_args : argsFit about1.vm theMethod args0 = true := by decide +kernel
set_option maxRecDepth 65536 in
theorem w_heap : heapFits about1 = true := by decide +kernel
set_option maxRecDepth 65536 in
theorem w_runnable : about1.curStatus? = some .runnable := by decide +kernel
set_option maxRecDepth 65536 in
theorem w_alone : about1.alone = true := by decide +kernel
set_option maxRecDepth 65536 in
theorem w_named : about1.methodNamed? x = some theMethod := by decide +kernel
set_option maxRecDepth 65536 in
theorem w_hears : about1.hears theMethod below0 = true := by decide +kernel
set_option maxRecDepth 65536 in
theorem w_ripe : about1.ripe theMethod args0 below0 = true := by decide +kernel
theorem w_running : about1.status = .running := rfl
set_option maxRecDepth 65536 in
theorem w_room : about1.hasRoom e0.platform room_1 = true :=
  launch0.hasRoom_least _ room_1 (by decide +kernel) (by decide +kernel) (by decide +kernel) (by decide +kernel) (by decide +kernel) (by decide +kernel)
theorem allAtoms_all (ts : List Jvm.Cond) (a : Array Jvm.Value) (st : Jvm.State) : (allAtoms ts).before a st = ts.all (fun c => c.before a st) := by
  induction ts with
  | nil => rfl
  | cons c t ih =>
    show (Jvm.Cond.and c (allAtoms t)).before a st = _
    rw [Jvm.Cond.before_and, ih, List.all_cons]
def words1 : List Jvm.Cond := Jvm.Cond.code x code maxLocals ret :: tables_1
/-- a 'code' word, met by the world's own term for the bytes: nothing is compared byte by byte -/
theorem code_word {y : MethodName} {bytes : ByteArray} {mx : Nat} {rt : Option FieldType} {a : Array Value} {s : State} {m : MethodId} {meth : Method} {c : Code} (h1 : s.methodNamed? y = some m) (h2 : s.vm.method? m = some meth) (h3 : meth.code = some c) (h4 : c.code = bytes)
    (h5 : (c.maxLocals == mx && c.exceptionTable.isEmpty && decide (c.maxStack ≤ mostOperands) && decide (meth.sig.returnType = rt) && !meth.locks && decide (parseMethodDescriptor y.desc = some meth.sig)) = true) : (Jvm.Cond.code y bytes mx rt).before a s = true := by
  simp only [Bool.and_eq_true, beq_iff_eq, Bool.not_eq_true', decide_eq_true_eq] at h5
  obtain ⟨⟨⟨⟨⟨g1, g2⟩, g3⟩, g4⟩, g5⟩, g6⟩ := h5
  simp [Cond.before, Cond.holds, Cond.value, h1, h2, h3, h4, g1, g2, g3, g4, g5, g6]
def isCode : Jvm.Cond → Bool
  | .code _ _ _ _ => true
  | _ => false
theorem all_split {L : List Jvm.Cond} {P : Jvm.Cond → Bool} (h1 : L.all (fun c => isCode c || P c) = true) (h2 : ∀ c ∈ L.filter isCode, P c = true) : L.all P = true := by
  refine List.all_eq_true.mpr fun c hc => ?_
  have h := List.all_eq_true.mp h1 c hc
  rcases Bool.eq_false_or_eq_true (isCode c) with hi | hi
  · exact h2 c (List.mem_filter.mpr ⟨hc, hi⟩)
  · simpa [hi] using h
set_option maxRecDepth 65536 in
theorem w_c0 : (Jvm.Cond.code x code maxLocals ret).before args0 about1 = true := code_word (m := ⟨1, 1⟩) (meth := k1m1) (c := k1c1) (by decide +kernel) rfl rfl rfl (by decide +kernel)
set_option maxRecDepth 65536 in
theorem w_c1 : (Jvm.Cond.code ({ cls := "com/example/hermit_crab/hermitcrab/JobState", name := "isFinal", desc := "()Z" } : Jvm.MethodName) prog_6_method_4_code (1 : Nat) (Option.some Jvm.ClassFile.FieldType.boolean)).before args0 about1 = true := code_word (m := ⟨6, 0⟩) (meth := k6m0) (c := k6c0) (by decide +kernel) rfl rfl rfl (by decide +kernel)
set_option maxRecDepth 65536 in
theorem w_c2 : (Jvm.Cond.code ({ cls := "com/example/hermit_crab/hermitcrab/JobState", name := "canMoveTo", desc := "(Lcom/example/hermit_crab/hermitcrab/JobState;)Z" } : Jvm.MethodName) prog_6_method_5_code (2 : Nat) (Option.some Jvm.ClassFile.FieldType.boolean)).before args0 about1 = true := code_word (m := ⟨6, 1⟩) (meth := k6m1) (c := k6c1) (by decide +kernel) rfl rfl rfl (by decide +kernel)
set_option maxRecDepth 65536 in
theorem w_c3 : (Jvm.Cond.code ({ cls := "java/lang/Enum", name := "ordinal", desc := "()I" } : Jvm.MethodName) jdk_37_method_2_code (1 : Nat) (Option.some Jvm.ClassFile.FieldType.int)).before args0 about1 = true := code_word (m := ⟨5, 0⟩) (meth := k5m0) (c := k5c0) (by decide +kernel) rfl rfl rfl (by decide +kernel)
def codes1 : List Jvm.Cond := [Jvm.Cond.code x code maxLocals ret, Jvm.Cond.code ({ cls := "com/example/hermit_crab/hermitcrab/JobState", name := "isFinal", desc := "()Z" } : Jvm.MethodName) prog_6_method_4_code (1 : Nat) (Option.some Jvm.ClassFile.FieldType.boolean), Jvm.Cond.code ({ cls := "com/example/hermit_crab/hermitcrab/JobState", name := "canMoveTo", desc := "(Lcom/example/hermit_crab/hermitcrab/JobState;)Z" } : Jvm.MethodName) prog_6_method_5_code (2 : Nat) (Option.some Jvm.ClassFile.FieldType.boolean), Jvm.Cond.code ({ cls := "java/lang/Enum", name := "ordinal", desc := "()I" } : Jvm.MethodName) jdk_37_method_2_code (1 : Nat) (Option.some Jvm.ClassFile.FieldType.int)]
set_option maxRecDepth 65536 in
theorem codes_eq : words1.filter isCode = codes1 := rfl
theorem w_codes : ∀ c ∈ words1.filter isCode, c.before args0 about1 = true := by
  rw [codes_eq]
  intro c hc
  simp only [codes1, List.mem_cons, List.not_mem_nil, or_false] at hc
  rcases hc with rfl | rfl | rfl | rfl
  · exact w_c0
  · exact w_c1
  · exact w_c2
  · exact w_c3
set_option maxRecDepth 65536 in
theorem w_t1 : (words1.take 24).all (fun c => isCode c || c.before args0 about1) = true := by decide +kernel
set_option maxRecDepth 65536 in
theorem w_t2 : (words1.drop 24).all (fun c => isCode c || c.before args0 about1) = true := by decide +kernel
theorem w_tables : (allAtoms (Jvm.Cond.code x code maxLocals ret :: tables_1)).before args0 about1 = true := by
  rw [allAtoms_all]
  show words1.all (fun c => c.before args0 about1) = true
  refine all_split ?_ w_codes
  rw [← List.take_append_drop 24 words1, List.all_append, w_t1, w_t2]
  rfl
set_option maxRecDepth 65536 in
theorem w_case : (Jvm.Cond.and given_1 narrow_1).before args0 about1 = true := by decide +kernel
theorem w_applies : (headSpec (Jvm.Cond.code x code maxLocals ret :: tables_1) room_1).applies x e0.platform about1 = true :=
  (Spec.applies_iff w_frames).mpr ⟨w_running, w_runnable, w_alone, w_named, w_hears, w_ripe, w_room, w_tables⟩
theorem atStart : AtStart classFile x code maxLocals ret World_1 tables_1 room_1 Calls_1 rest_1 Pre_1 launch0 p0 e0 about1 theMethod args0 below0 :=
  ⟨lists_1, trivial, launch0.admits_env _ _ _, launch0.least_env, fairChoices_fair.cas, fairChoices_fair.clock, w_frames, w_args, w_heap, w_applies, trivial, trivial, w_case⟩
end start1
theorem witness_1 : WitnessClaimed_1 := ⟨start1.p0, start1.e0, start1.about1, start1.theMethod, start1.args0, start1.below0, start1.atStart⟩
end Jvm.Pilot.@@N@@
