import JvmDerived
import JvmDerived.Pilot.@@N@@Statement
import JvmDerived.Pilot.@@N@@Code
set_option linter.unusedVariables false
set_option linter.unusedSimpArgs false
namespace Jvm.Pilot.@@N@@
open Jvm Jvm.ClassFile Sem Op Lib Jvm.Free Jvm.Stand Jvm.LawKit Jvm.RoadKit Bundle Jvm.Pilot.@@N@@.Jvm.D
section OwnKit
variable {p : Program} {l : Launch} {e : Env} {R : Room} {s : State} {m : MethodId} {args : Array Value} {below : List Frame} {meth : Method} {c : Code} {T : State} {locs : List Loc} {cells slots : Nat}
theorem retI (X : Stand p l e R s m args below meth c T locs cells slots) (hx : p.tables.exec = Jvm.exec) {pc : Nat} {Ls : Array Slot} {z : Int32} {rest : List Value} (hret : meth.sig.returnType = some .int) (hd : decode c.code pc = .ok (.ireturn, 1)) {fs : List Frame}
    (hl : ∀ (f : JFrame) (acts : List Action), f.method = m → f.locked = none → f.entered = [] → (doReturn e (T.setTop f) acts (some (.int z))).1 = T.setFrames fs) : Steps p.tables e below (T.setTop (mkF m pc Ls (.int z :: rest))) (T.setFrames fs) :=
  retOut X hx hret rfl (Or.inl ⟨rfl, Or.inl rfl, z, rfl⟩) hd hl
theorem oretJ (X : Stand p l e R s m args below meth c T locs cells slots) (hx : p.tables.exec = Jvm.exec) {pc : Nat} {Ls : Array Slot} {z : Int64} {rest : List Value} (hret : meth.sig.returnType = some .long) (hd : decode c.code pc = .ok (.lreturn, 1)) {fs : List Frame}
    (hl : ∀ (f : JFrame) (acts : List Action), f.method = m → f.locked = none → f.entered = [] → (doReturn e (T.setTop f) acts (some (.long z))).1 = T.setFrames fs) : Steps p.tables e below (T.setTop (mkF m pc Ls (.long z :: rest))) (T.setFrames fs) :=
  retOut X hx hret rfl (Or.inr (Or.inl ⟨rfl, rfl, z, rfl⟩)) hd hl
theorem oretA (X : Stand p l e R s m args below meth c T locs cells slots) (hx : p.tables.exec = Jvm.exec) {pc : Nat} {Ls : Array Slot} {w : Value} {t : FieldType} {rest : List Value} (hret : meth.sig.returnType = some t) (ht : t.isReference = true) (hw : w.isRef = true) (hd : decode c.code pc = .ok (.areturn, 1)) {fs : List Frame}
    (hl : ∀ (f : JFrame) (acts : List Action), f.method = m → f.locked = none → f.entered = [] → (doReturn e (T.setTop f) acts (some w)).1 = T.setFrames fs) : Steps p.tables e below (T.setTop (mkF m pc Ls (w :: rest))) (T.setFrames fs) :=
  retOut X hx hret (by rcases ref_cases hw with rfl | ⟨a, rfl⟩ <;> cases t <;> rfl) (Or.inr (Or.inr (Or.inr (Or.inr ⟨rfl, ht, hw⟩)))) hd hl
end OwnKit
/-- the run that stands at A comes to an end of which P holds -/
def OGot (tb : Tables) (e : Env) (below : List Frame) (A : State) (P : State → Outcome → Prop) : Prop := ∃ U o, Steps tb e below A U ∧ P U o
theorem OGot.go {tb : Tables} {e : Env} {below : List Frame} {A B : State} {P : State → Outcome → Prop} (st : ∀ t, Steps tb e below B t → Steps tb e below A t) (h : OGot tb e below B P) : OGot tb e below A P := by
  obtain ⟨U, o, h1, h2⟩ := h
  exact ⟨U, o, st U h1, h2⟩
theorem OGot.on {tb : Tables} {e : Env} {below : List Frame} {A B : State} {P : State → Outcome → Prop} (st : Steps tb e below A B) (h : OGot tb e below B P) : OGot tb e below A P := by
  obtain ⟨U, o, h1, h2⟩ := h
  exact ⟨U, o, st.trans h1, h2⟩
section OwnFacts
variable {Z : State} {h h' h0 : Heap} {a b : Addr} {C n d : String} {v : Value} {sl : Nat} {n0 : Nat} {ws ws' : List (Addr × Nat)} {k : ClassId} {ty : FieldType} {z : Int32} {vs : List Value} {dv : Value}
theorem osz (X : Old Z n0 h) : n0 ≤ h.size := X.1 ▸ X.2.1
theorem oheap {U : State} {P : Heap → Prop} (q : U.heap = h) (x : P h) : P U.heap := q ▸ x
/-- what stood in h0 stands in h, but for the places at ws -/
def OKeep (h0 h : Heap) (ws : List (Addr × Nat)) : Prop := h0.size ≤ h.size ∧ ∀ (x : Addr) (c : Cell), h0[x]? = some c → ∃ c' : Cell, h[x]? = some c' ∧ c'.cls = c.cls ∧ c'.vm = c.vm ∧ c'.slots.size = c.slots.size ∧ (∀ i, (x, i) ∉ ws → c'.slots[i]? = c.slots[i]?) ∧ ((∀ i, (x, i) ∉ ws) → c' = c)
theorem OKeep.refl (h : Heap) (ws : List (Addr × Nat)) : OKeep h h ws := ⟨Nat.le_refl _, fun _ c q => ⟨c, q, rfl, rfl, rfl, fun _ _ => rfl, fun _ => rfl⟩⟩
theorem OKeep.ext (K : OKeep h0 h ws) (E : Ext h h') : OKeep h0 h' ws := ⟨Nat.le_trans K.1 E.1, fun x c q => by
  obtain ⟨c', q', r⟩ := K.2 x c q
  exact ⟨c', E.2 x c' q', r⟩⟩
theorem OKeep.trans (K : OKeep h0 h ws) (K' : OKeep h h' ws') (q : ∀ x ∈ ws', x ∈ ws ∨ h0.size ≤ x.1) : OKeep h0 h' ws := by
  refine ⟨Nat.le_trans K.1 K'.1, fun x c hx => ?_⟩
  have lt : x < h0.size := (Array.getElem?_eq_some_iff.mp hx).1
  have out : ∀ i, (x, i) ∉ ws → (x, i) ∉ ws' := fun i r z => (q _ z).elim r fun y => Nat.not_lt.mpr y lt
  obtain ⟨c1, q1, r1, r2, r3, r4, r5⟩ := K.2 x c hx
  obtain ⟨c2, q2, t1, t2, t3, t4, t5⟩ := K'.2 x c1 q1
  exact ⟨c2, q2, t1.trans r1, t2.trans r2, t3.trans r3, fun i r => (t4 i (out i r)).trans (r4 i r), fun r => (t5 fun i => out i (r i)).trans (r5 r)⟩
theorem OKeep.of_wr (W : Wr h h' a sl v) : OKeep h h' [(a, sl)] := by
  refine ⟨Nat.le_of_eq W.size.symm, fun x c q => ?_⟩
  obtain ⟨c', e1, e2, e3, e4, e5, e6, -⟩ := wr_at W q
  refine ⟨c', e1, e2, e3, e4, fun i r => ?_, fun r => e5 fun z => r sl (by simp [z])⟩
  by_cases z : x = a
  · subst z
    exact e6 i fun y => r (by simp [y])
  · rw [e5 z]
theorem OKeep.wr (K : OKeep h0 h ws) (W : Wr h h' a sl v) (q : (a, sl) ∈ ws ∨ h0.size ≤ a) : OKeep h0 h' ws := K.trans (OKeep.of_wr W) fun x hx => by cases List.mem_singleton.mp hx; exact q
theorem oslot {x : ClassId × Class × Nat × Field} (h2 : Z.fieldFound? C n d = some x) : Jvm.RoadKit.slotOf Z C n d = x.2.2.2.slot := by
  show ((Z.fieldFound? C n d).map (·.2.2.2.slot)).getD 0 = _
  rw [h2]; rfl
theorem OKeep.fld (F : Fld Z h a C n d v) (K : OKeep h h' ws) (q : (a, Jvm.RoadKit.slotOf Z C n d) ∉ ws) : Fld Z h' a C n d v := by
  obtain ⟨cell, cf, k, i, f, h1, h2, h3, h4, h5, h6, h7⟩ := F
  obtain ⟨c', r, r1, r2, -, r4, -⟩ := K.2 a cell h1
  exact ⟨c', cf, k, i, f, r, h2, h3, by rw [r2]; exact h4, by rw [r2]; exact h5, by rw [r1]; exact h6, by rw [r4 f.slot (fun y => q (by rw [oslot h2]; exact y))]; exact h7⟩
theorem OKeep.exa (F : Exa Z h a C) (K : OKeep h h' ws) : Exa Z h' a C := by
  obtain ⟨cell, k, h1, h2, h3, h4, h5⟩ := F
  obtain ⟨c', q, r1, r2, r3, -, -⟩ := K.2 a cell h1
  exact ⟨c', k, q, r1 ▸ h2, r1 ▸ h3, r2 ▸ h4, r3 ▸ h5⟩
theorem OKeep.arv (F : Arv Z h a k ty z vs dv) (K : OKeep h h' ws) (q : ∀ x ∈ ws, a ≠ x.1) : Arv Z h' a k ty z vs dv := by
  obtain ⟨c, A, r⟩ := F
  obtain ⟨c', e1, -, -, -, -, e5⟩ := K.2 a c A.1
  cases e5 fun i y => q _ y rfl
  exact ⟨c, ⟨e1, A.2⟩, r⟩
theorem OKeep.old (X : Old Z n0 h) (K : OKeep h h' ws) (q : ∀ x ∈ ws, n0 ≤ x.1) : Old Z n0 h' := ⟨X.1, Nat.le_trans X.2.1 K.1, fun x c r => by
  obtain ⟨c', e1, -, -, -, -, e5⟩ := K.2 x c (X.2.2 x c r)
  cases e5 fun i y => absurd (X.1 ▸ (Array.getElem?_eq_some_iff.mp r).1) (Nat.not_lt.mpr (q _ y))
  exact e1⟩
theorem onin0 {x : Addr × Nat} : x ∉ ([] : List (Addr × Nat)) := fun q => nomatch q
theorem oninA {t : Nat} {L : List (Addr × Nat)} (q : a ≠ b) (r : (a, sl) ∉ L) : (a, sl) ∉ (b, t) :: L := fun y => (List.mem_cons.mp y).elim (fun u => q (congrArg Prod.fst u)) r
theorem oninS {t : Nat} {L : List (Addr × Nat)} (q : sl ≠ t) (r : (a, sl) ∉ L) : (a, sl) ∉ (b, t) :: L := fun y => (List.mem_cons.mp y).elim (fun u => q (congrArg Prod.snd u)) r
theorem oall0 : ∀ x ∈ ([] : List (Addr × Nat)), a ≠ x.1 := fun _ q => nomatch q
theorem oallS {t : Nat} {L : List (Addr × Nat)} (q : a ≠ b) (r : ∀ x ∈ L, a ≠ x.1) : ∀ x ∈ (b, t) :: L, a ≠ x.1 := fun x y => (List.mem_cons.mp y).elim (fun u => by subst u; exact q) (r x)
theorem oge0 : ∀ x ∈ ([] : List (Addr × Nat)), n0 ≤ x.1 := fun _ q => nomatch q
theorem ogeS {t : Nat} {L : List (Addr × Nat)} (q : n0 ≤ b) (r : ∀ x ∈ L, n0 ≤ x.1) : ∀ x ∈ (b, t) :: L, n0 ≤ x.1 := fun x y => (List.mem_cons.mp y).elim (fun u => by subst u; exact q) (r x)
theorem oin0 {P : Addr × Nat → Prop} : ∀ x ∈ ([] : List (Addr × Nat)), P x := fun _ q => nomatch q
theorem oinS {P : Addr × Nat → Prop} {y : Addr × Nat} {L : List (Addr × Nat)} (q : P y) (r : ∀ x ∈ L, P x) : ∀ x ∈ y :: L, P x := fun x u => (List.mem_cons.mp u).elim (fun w => w ▸ q) (r x)
theorem oeq_int {args : Array Value} {first s : State} {o : Option Outcome} {idx : List Nat} {t : Term} {w : Int32} (q : (Jvm.Cond.eq t (.int w)).value args first o s idx = some true) : t.eval args first o idx s = some (.int w) := by
  simp only [Jvm.Cond.value, Term.eval] at q
  cases ht : t.eval args first o idx s with
  | none => simp [ht] at q
  | some x => cases x <;> simp [ht] at q ⊢; exact q
theorem oeq_ref {args : Array Value} {first s : State} {o : Option Outcome} {idx : List Nat} {t u : Term} {w : Addr} (q : (Jvm.Cond.eq t u).value args first o s idx = some true) (r : u.eval args first o idx s = some (.ref w)) : t.eval args first o idx s = some (.ref w) := by
  obtain ⟨x, y, e1, e2, k1, k2⟩ := cmp_v (Or.inl q)
  cases r.symm.trans e2
  rcases ref_cases k2.2 with rfl | ⟨z, rfl⟩
  · have := eq_R e1 e2 rfl rfl
    rw [q] at this
    simp at this
  · have := gotT (eq_R e1 e2 rfl rfl) q
    rw [e1, this]
theorem one_int {args : Array Value} {first s : State} {o : Option Outcome} {idx : List Nat} {t : Term} {w : Int32} (r : t.eval args first o idx s = some (.int w)) (q : (Jvm.Cond.not (.eq t (.int 0))).value args first o s idx = some true) : ¬ (w = (0 : Int32)) := by
  have := not_v q
  exact gotF (Cond.eq_ints r rfl) this
theorem olen {args : Array Value} {first s : State} {o : Option Outcome} {idx : List Nat} {t : Term} {cl : Cell} {w : Int32} (q : (Term.length t).eval args first o idx s = some (.int w)) (ht : t.eval args first o idx s = some (.ref a)) (ha : s.arrayAt? a = some cl) : cl.slots.size < 2 ^ 31 ∧ cl.slots.size.toInt32 = w := by
  simp only [Term.eval, ht, ha, Option.bind_eq_bind, Option.bind_some] at q
  by_cases y : cl.slots.size < 2 ^ 31
  · exact ⟨y, by simpa [y] using q⟩
  · simp [y] at q
theorem osub128 {args : Array Value} {j : Int32} (hj : ¬ j < 0) : (Term.sub (.index 0) (.int 128)).eval args Z none [j.toNatClampNeg] Z = some (.int (j - 128)) := by
  have e := idx_at (args := args) (first := Z) (s := Z) (o := none) hj
  simp only [Term.eval] at e ⊢
  simp [e]
  exact (back32 hj).1
def obox (c : Cell) (j : Int32) : Addr := match c.slots[j.toNatClampNeg]? with
  | some (.ref b) => b
  | _ => 0
theorem obox_at {cl : Cell} {K dd : String} {w : Int32} {val : Int32 → Value} (B : Bxs Z a cl K dd w val) {j : Int32} (hj : ¬ (j < 0 ∨ cl.slots.size ≤ j.toNatClampNeg)) : cl.slots[j.toNatClampNeg]? = some (.ref (obox cl j)) ∧ Exa Z Z.heap (obox cl j) K ∧ Fld Z Z.heap (obox cl j) K "value" dd (val j) := by
  obtain ⟨b, h1, h2, h3⟩ := B.2.2.2 j hj
  have e : obox cl j = b := by unfold obox; rw [h1]
  rw [e]; exact ⟨h1, h2, h3⟩
theorem oNS.root {a0 : Array Value} {O K : String} {i : Nat} (w : (Cond.noSuperclass O).before a0 Z = true) (wk : (Cond.instantiable K i).before a0 Z = true) (hn : O ≠ K) : NS Z O K := by
  obtain ⟨c, k, h1, h2, h3, -, -⟩ := Cond.noSuperclass_spec w
  obtain ⟨t, kt, g1, -⟩ := Cond.instantiable_spec wk
  have ne := ids_ne h1 g1 hn
  refine ⟨c, t, h1, g1, fun fuel => ?_⟩
  cases fuel with
  | zero => rfl
  | succ f => simp [Vm.isSubclassAux, ne, h2, h3]
theorem oNS.no {a0 : Array Value} {C S K : String} {i : Nat} (w : (Cond.superclass C S).before a0 Z = true) (wk : (Cond.instantiable K i).before a0 Z = true) (q : NS Z C K) (hn : C ≠ K) : ∃ c t, Z.vm.findClass C = some c ∧ Z.vm.findClass K = some t ∧ Z.vm.assignable c t = false := by
  obtain ⟨c, t, h0, g0, n3⟩ := q
  obtain ⟨p, k, kp, h1, h2, h3, h4, h5, -, h7⟩ := Cond.superclass_spec h0 w
  obtain ⟨t', k', g1, g2, g3, g4, -⟩ := Cond.instantiable_spec wk
  cases g0.symm.trans g1
  have ne := ids_ne h0 g0 hn
  have g7 : k'.isInterface = false := (Bool.or_eq_false_iff.mp g4).1
  refine ⟨c, t, h0, g0, ?_⟩
  show Z.vm.assignableAux (255 + 1) c t = false
  simp [Vm.assignableAux, ne, h2, g2, h5, g3, g7, Vm.isSubclass, n3]
end OwnFacts
theorem ow {Z : State} {a0 : Array Value} (hw : ∀ d ∈ tables_1, d.before a0 Z = true) (i : Nat) {d : Jvm.Cond} (h : tables_1[i]? = some d) : d.before a0 Z = true := hw _ (List.mem_of_getElem? h)
theorem own_and3 (x : Int32) : (x &&& (3 : Int32)) = (0 : Int32) ∨ (x &&& (3 : Int32)) = (1 : Int32) ∨ (x &&& (3 : Int32)) = (2 : Int32) ∨ (x &&& (3 : Int32)) = (3 : Int32) := by
  have e : (x &&& (3 : Int32)).toInt = x.toInt % ((2 ^ 2 : Nat) : Int) := c_mask x 3 2 (by decide) (by decide)
  have p : ((2 ^ 2 : Nat) : Int) = 4 := rfl
  rw [p] at e
  simp only [← Int32.toInt_inj, e]
  have : (0 : Int32).toInt = 0 ∧ (1 : Int32).toInt = 1 ∧ (2 : Int32).toInt = 2 ∧ (3 : Int32).toInt = 3 := by decide
  omega
def Glob (Z : State) (w_PARTITION_KEY : Addr) (w_REGULAR : Addr) (w_CLUSTERING : Addr) (w_STATIC : Addr) : Prop := Sta Z Z.heap "com/example/grundriss/grundriss/ColumnKind" "PARTITION_KEY" "Lcom/example/grundriss/grundriss/ColumnKind;" (.ref w_PARTITION_KEY) ∧ Exa Z Z.heap w_PARTITION_KEY "com/example/grundriss/grundriss/ColumnKind" ∧ Sta Z Z.heap "com/example/grundriss/grundriss/ColumnKind" "REGULAR" "Lcom/example/grundriss/grundriss/ColumnKind;" (.ref w_REGULAR) ∧ Exa Z Z.heap w_REGULAR "com/example/grundriss/grundriss/ColumnKind" ∧ Sta Z Z.heap "com/example/grundriss/grundriss/ColumnKind" "CLUSTERING" "Lcom/example/grundriss/grundriss/ColumnKind;" (.ref w_CLUSTERING) ∧ Exa Z Z.heap w_CLUSTERING "com/example/grundriss/grundriss/ColumnKind" ∧ Sta Z Z.heap "com/example/grundriss/grundriss/ColumnKind" "STATIC" "Lcom/example/grundriss/grundriss/ColumnKind;" (.ref w_STATIC) ∧ Exa Z Z.heap w_STATIC "com/example/grundriss/grundriss/ColumnKind" ∧ Fld Z Z.heap w_REGULAR "java/lang/Enum" "ordinal" "I" (.int (3 : Int32)) ∧ Fld Z Z.heap w_PARTITION_KEY "java/lang/Enum" "ordinal" "I" (.int (0 : Int32)) ∧ Fld Z Z.heap w_CLUSTERING "java/lang/Enum" "ordinal" "I" (.int (1 : Int32)) ∧ Fld Z Z.heap w_STATIC "java/lang/Enum" "ordinal" "I" (.int (2 : Int32))
theorem d1_0 : decode method_2_code 0 = .ok (.iload_n 0, 1) := by decide +kernel
theorem d1_1 : decode method_2_code 1 = .ok (.ifCond .ne 7, 3) := by decide +kernel
theorem d1_4 : decode method_2_code 4 = .ok (.getstatic 7, 3) := by decide +kernel
theorem d1_7 : decode method_2_code 7 = .ok (.areturn, 1) := by decide +kernel
theorem pn_com_example_grundriss_grundriss_ColumnKindIsPrimaryKeyPinLaw : plainName "com/example/grundriss/grundriss/ColumnKindIsPrimaryKeyPinLaw" = true := by first | (simp [plainName, overriddenIn]; done) | decide +kernel
def Q1 (Z : State) (w_PARTITION_KEY : Addr) (w_REGULAR : Addr) (w_CLUSTERING : Addr) (w_STATIC : Addr)  (h0 : Heap) (n0 : Nat) (v : Option Value) (h : Heap) (L : List Loc) : Prop := v = some (.ref w_PARTITION_KEY) ∧ Fr n0 L ∧ h = h0
theorem ef1 (m : MethodId)  : entryFrame m #[(.int (0 : Int32))] 1 = mkF m 0 #[.val (.int (0 : Int32))] [] := by first | (simp [entryFrame, mkF, argsToLocals, Value.category]; done) | rfl
set_option maxRecDepth 65536 in
set_option maxHeartbeats 40000000 in
theorem rm1 (l : Launch) (Z : State) (a0 : Array Value) (hw : ∀ d ∈ tables_1, d.before a0 Z = true) (ws : List Jvm.Cond) {w_PARTITION_KEY : Addr} {w_REGULAR : Addr} {w_CLUSTERING : Addr} {w_STATIC : Addr} (G : Glob Z w_PARTITION_KEY w_REGULAR w_CLUSTERING w_STATIC)  (h0 : Heap) (n0 : Nat) (O0 : Old Z n0 h0) :
    MetFree l (⟨"com/example/grundriss/grundriss/ColumnKindIsPrimaryKeyPinLaw", "pick", "(I)Lcom/example/grundriss/grundriss/ColumnKind;"⟩ : MethodName) (head1 (Jvm.Cond.code (⟨"com/example/grundriss/grundriss/ColumnKindIsPrimaryKeyPinLaw", "pick", "(I)Lcom/example/grundriss/grundriss/ColumnKind;"⟩ : MethodName) method_2_code 1 (some (.object "com/example/grundriss/grundriss/ColumnKind")) :: ws) ({ frames := 0, cells := 0, slots := 0, locals := 0 } : Room)) (fun a U => a = #[(.int (0 : Int32))] ∧ Z.Warmed39 U.vm ∧ U.heap = h0) (fun _ _ _ _ _ => True) (fun _ U o U' => ∃ v L, o = .returned v ∧ Q1 Z w_PARTITION_KEY w_REGULAR w_CLUSTERING w_STATIC  h0 n0 v U'.heap L ∧ FrameEnd U o U' L ({ frames := 0, cells := 0, slots := 0, locals := 0 } : Room).cells ({ frames := 0, cells := 0, slots := 0, locals := 0 } : Room).slots) := by
  refine MetFree.of_bodySF (plainFor_of_name pn_com_example_grundriss_grundriss_ColumnKindIsPrimaryKeyPinLaw) hisR ?_
  intro p e s m args below meth c s₁ Bd hml0 hP hK
  obtain ⟨rfl, hZ, hh⟩ := hP
  have hx := Bd.exec
  have hby := Bd.bytes
  have hml : c.maxLocals = 1 := hml0
  have hown : s.vm.findClass "com/example/grundriss/grundriss/ColumnKindIsPrimaryKeyPinLaw" = some m.cls := findClass_of_methodNamed Bd.named
  have hnm := (name_of_methodNamed Bd.named Bd.method).1
  have X0 : Stand p l e ({ frames := 0, cells := 0, slots := 0, locals := 0 } : Room) s m #[(.int (0 : Int32))] below meth c s₁ [] 0 0 := Stand.of_body Bd
  have e0 : s₁.heap = h0 := by rw [← hh, Bd.state]; rfl
  have N0 := Fr.nil n0
  show OGot p.tables e below (s₁.setTop (entryFrame m #[(.int (0 : Int32))] 1)) _
  refine OGot.go (fun t k => castTop (ef1 m ) k) ?_
  show OGot p.tables e below (s₁.setTop (mkF m 0 #[.val (.int (0 : Int32))] [])) _
  refine OGot.go (fun t k => XS.iloadN X0.here hx rfl (hb hby d1_0) rfl k) ?_
  show OGot p.tables e below (s₁.setTop (mkF m 1 #[.val (.int (0 : Int32))] [(.int (0 : Int32))])) _
  refine OGot.go (fun t k => XS.ifNo X0.here hx rfl (hb hby d1_1) rfl (by decide) k) ?_
  show OGot p.tables e below (s₁.setTop (mkF m 4 #[.val (.int (0 : Int32))] [])) _
  obtain ⟨T1, X1, e1, st1⟩ := getS2 X0 hx hZ hown (host := "") (Or.inl (ow hw 4 rfl)) Via.refl e0 (G.1.ext O0.2) (g := (mkF m 4 #[.val (.int (0 : Int32))] [])) rfl (hb hby d1_4)
  refine OGot.go st1 ?_
  show OGot p.tables e below (T1.setTop (mkF m 7 #[.val (.int (0 : Int32))] [(.ref w_PARTITION_KEY)])) _
  obtain ⟨fs, hr, hrun, hended, hW, hsame⟩ := X1.leave (v := some (.ref w_PARTITION_KEY)) (fun h => by rw [Bd.returns] at h; cases h)
  refine ⟨_, _, oretA X1 hx Bd.returns rfl rfl (hb hby d1_7) hr, hrun, hended, _, _, rfl, ?_, ⟨_, rfl⟩, hW, hsame.mono (by decide) (by decide)⟩
  exact (⟨rfl, N0, e1⟩ : Q1 Z w_PARTITION_KEY w_REGULAR w_CLUSTERING w_STATIC  h0 n0 _ T1.heap _)
theorem pd_0 : parseMethodDescriptor "(I)Lcom/example/grundriss/grundriss/ColumnKind;" = some ⟨[.int], some (.object "com/example/grundriss/grundriss/ColumnKind")⟩ := by decide +kernel
theorem d2_0 : decode prog_10_method_4_code 0 = .ok (.aload_n 0, 1) := by decide +kernel
theorem d2_1 : decode prog_10_method_4_code 1 = .ok (.getstatic 3, 3) := by decide +kernel
theorem d2_4 : decode prog_10_method_4_code 4 = .ok (.if_acmp .eq 10, 3) := by decide +kernel
theorem d2_14 : decode prog_10_method_4_code 14 = .ok (.iconst 1, 1) := by decide +kernel
theorem d2_15 : decode prog_10_method_4_code 15 = .ok (.goto 4, 3) := by decide +kernel
theorem d2_19 : decode prog_10_method_4_code 19 = .ok (.ireturn, 1) := by decide +kernel
theorem pn_com_example_grundriss_grundriss_ColumnKind : plainName "com/example/grundriss/grundriss/ColumnKind" = true := by first | (simp [plainName, overriddenIn]; done) | decide +kernel
def Q2 (Z : State) (w_PARTITION_KEY : Addr) (w_REGULAR : Addr) (w_CLUSTERING : Addr) (w_STATIC : Addr)  (h0 : Heap) (n0 : Nat) (v : Option Value) (h : Heap) (L : List Loc) : Prop := v = some (.int (1 : Int32)) ∧ Fr n0 L ∧ h = h0
theorem ef2 (m : MethodId) (x0 : Addr) : entryFrame m #[(.ref x0)] 1 = mkF m 0 #[.val (.ref x0)] [] := by first | (simp [entryFrame, mkF, argsToLocals, Value.category]; done) | rfl
set_option maxRecDepth 65536 in
set_option maxHeartbeats 40000000 in
theorem rm2 (l : Launch) (Z : State) (a0 : Array Value) (hw : ∀ d ∈ tables_1, d.before a0 Z = true) (ws : List Jvm.Cond) {w_PARTITION_KEY : Addr} {w_REGULAR : Addr} {w_CLUSTERING : Addr} {w_STATIC : Addr} (G : Glob Z w_PARTITION_KEY w_REGULAR w_CLUSTERING w_STATIC)  (h0 : Heap) (n0 : Nat) (O0 : Old Z n0 h0) :
    MetFree l (⟨"com/example/grundriss/grundriss/ColumnKind", "isPrimaryKey", "()Z"⟩ : MethodName) (head1 (Jvm.Cond.code (⟨"com/example/grundriss/grundriss/ColumnKind", "isPrimaryKey", "()Z"⟩ : MethodName) prog_10_method_4_code 1 (some .boolean) :: ws) ({ frames := 0, cells := 0, slots := 0, locals := 0 } : Room)) (fun a U => a = #[(.ref w_PARTITION_KEY)] ∧ Z.Warmed39 U.vm ∧ U.heap = h0) (fun _ _ _ _ _ => True) (fun _ U o U' => ∃ v L, o = .returned v ∧ Q2 Z w_PARTITION_KEY w_REGULAR w_CLUSTERING w_STATIC  h0 n0 v U'.heap L ∧ FrameEnd U o U' L ({ frames := 0, cells := 0, slots := 0, locals := 0 } : Room).cells ({ frames := 0, cells := 0, slots := 0, locals := 0 } : Room).slots) := by
  refine MetFree.of_bodySF (plainFor_of_name pn_com_example_grundriss_grundriss_ColumnKind) hisR ?_
  intro p e s m args below meth c s₁ Bd hml0 hP hK
  obtain ⟨rfl, hZ, hh⟩ := hP
  have hx := Bd.exec
  have hby := Bd.bytes
  have hml : c.maxLocals = 1 := hml0
  have hown : s.vm.findClass "com/example/grundriss/grundriss/ColumnKind" = some m.cls := findClass_of_methodNamed Bd.named
  have hnm := (name_of_methodNamed Bd.named Bd.method).1
  have X0 : Stand p l e ({ frames := 0, cells := 0, slots := 0, locals := 0 } : Room) s m #[(.ref w_PARTITION_KEY)] below meth c s₁ [] 0 0 := Stand.of_body Bd
  have e0 : s₁.heap = h0 := by rw [← hh, Bd.state]; rfl
  have N0 := Fr.nil n0
  show OGot p.tables e below (s₁.setTop (entryFrame m #[(.ref w_PARTITION_KEY)] 1)) _
  refine OGot.go (fun t k => castTop (ef2 m w_PARTITION_KEY) k) ?_
  show OGot p.tables e below (s₁.setTop (mkF m 0 #[.val (.ref w_PARTITION_KEY)] [])) _
  refine OGot.go (fun t k => XS.aloadN X0.here hx rfl (hb hby d2_0) rfl rfl k) ?_
  show OGot p.tables e below (s₁.setTop (mkF m 1 #[.val (.ref w_PARTITION_KEY)] [(.ref w_PARTITION_KEY)])) _
  obtain ⟨T2, X2, e2, st2⟩ := getS2 X0 hx hZ hown (host := "") (Or.inl (ow hw 12 rfl)) Via.refl e0 (G.1.ext O0.2) (g := (mkF m 1 #[.val (.ref w_PARTITION_KEY)] [(.ref w_PARTITION_KEY)])) rfl (hb hby d2_1)
  refine OGot.go st2 ?_
  show OGot p.tables e below (T2.setTop (mkF m 4 #[.val (.ref w_PARTITION_KEY)] [(.ref w_PARTITION_KEY), (.ref w_PARTITION_KEY)])) _
  refine OGot.go (fun t k => Jvm.RoadKit.acmp (g := (mkF m 4 #[.val (.ref w_PARTITION_KEY)] [(.ref w_PARTITION_KEY), (.ref w_PARTITION_KEY)])) X2 hx rfl rfl rfl (pc0 := 4) (pc' := 14) (same := true) rfl (hb hby d2_4) rfl (decide_eq_true rfl) (by decide) (by decide) k) ?_
  show OGot p.tables e below (T2.setTop (mkF m 14 #[.val (.ref w_PARTITION_KEY)] [])) _
  refine OGot.go (fun t k => XS.iconst X2.here hx rfl (hb hby d2_14) k) ?_
  show OGot p.tables e below (T2.setTop (mkF m 15 #[.val (.ref w_PARTITION_KEY)] [(.int (1 : Int32))])) _
  refine OGot.go (fun t k => XS.goto X2.here hx rfl (pc0 := 15) (pc' := 19) rfl (hb hby d2_15) (by decide) (by decide) k) ?_
  show OGot p.tables e below (T2.setTop (mkF m 19 #[.val (.ref w_PARTITION_KEY)] [(.int (1 : Int32))])) _
  obtain ⟨fs, hr, hrun, hended, hW, hsame⟩ := X2.leave (v := some (.int (1 : Int32))) (fun h => by rw [Bd.returns] at h; cases h)
  refine ⟨_, _, retN X2 hx (t := .boolean) Bd.returns (by simp) (hb hby d2_19) hr, hrun, hended, _, _, rfl, ?_, ⟨_, rfl⟩, hW, hsame.mono (by decide) (by decide)⟩
  exact (⟨rfl, N0, e2⟩ : Q2 Z w_PARTITION_KEY w_REGULAR w_CLUSTERING w_STATIC  h0 n0 _ T2.heap _)
theorem pd_1 : parseMethodDescriptor "()Z" = some ⟨[], some .boolean⟩ := by decide +kernel
theorem d3_0 : decode method_3_code 0 = .ok (.iload_n 0, 1) := by decide +kernel
theorem d3_1 : decode method_3_code 1 = .ok (.ifCond .ne 5, 3) := by decide +kernel
theorem d3_4 : decode method_3_code 4 = .ok (.iconst 1, 1) := by decide +kernel
theorem d3_5 : decode method_3_code 5 = .ok (.ireturn, 1) := by decide +kernel
def Q3 (Z : State) (w_PARTITION_KEY : Addr) (w_REGULAR : Addr) (w_CLUSTERING : Addr) (w_STATIC : Addr)  (h0 : Heap) (n0 : Nat) (v : Option Value) (h : Heap) (L : List Loc) : Prop := v = some (.int (1 : Int32)) ∧ Fr n0 L ∧ h = h0
theorem ef3 (m : MethodId)  : entryFrame m #[(.int (0 : Int32))] 1 = mkF m 0 #[.val (.int (0 : Int32))] [] := by first | (simp [entryFrame, mkF, argsToLocals, Value.category]; done) | rfl
set_option maxRecDepth 65536 in
set_option maxHeartbeats 40000000 in
theorem rm3 (l : Launch) (Z : State) (a0 : Array Value) (hw : ∀ d ∈ tables_1, d.before a0 Z = true) (ws : List Jvm.Cond) {w_PARTITION_KEY : Addr} {w_REGULAR : Addr} {w_CLUSTERING : Addr} {w_STATIC : Addr} (G : Glob Z w_PARTITION_KEY w_REGULAR w_CLUSTERING w_STATIC)  (h0 : Heap) (n0 : Nat) (O0 : Old Z n0 h0) :
    MetFree l (⟨"com/example/grundriss/grundriss/ColumnKindIsPrimaryKeyPinLaw", "expected", "(I)Z"⟩ : MethodName) (head1 (Jvm.Cond.code (⟨"com/example/grundriss/grundriss/ColumnKindIsPrimaryKeyPinLaw", "expected", "(I)Z"⟩ : MethodName) method_3_code 1 (some .boolean) :: ws) ({ frames := 0, cells := 0, slots := 0, locals := 0 } : Room)) (fun a U => a = #[(.int (0 : Int32))] ∧ Z.Warmed39 U.vm ∧ U.heap = h0) (fun _ _ _ _ _ => True) (fun _ U o U' => ∃ v L, o = .returned v ∧ Q3 Z w_PARTITION_KEY w_REGULAR w_CLUSTERING w_STATIC  h0 n0 v U'.heap L ∧ FrameEnd U o U' L ({ frames := 0, cells := 0, slots := 0, locals := 0 } : Room).cells ({ frames := 0, cells := 0, slots := 0, locals := 0 } : Room).slots) := by
  refine MetFree.of_bodySF (plainFor_of_name pn_com_example_grundriss_grundriss_ColumnKindIsPrimaryKeyPinLaw) hisR ?_
  intro p e s m args below meth c s₁ Bd hml0 hP hK
  obtain ⟨rfl, hZ, hh⟩ := hP
  have hx := Bd.exec
  have hby := Bd.bytes
  have hml : c.maxLocals = 1 := hml0
  have hown : s.vm.findClass "com/example/grundriss/grundriss/ColumnKindIsPrimaryKeyPinLaw" = some m.cls := findClass_of_methodNamed Bd.named
  have hnm := (name_of_methodNamed Bd.named Bd.method).1
  have X0 : Stand p l e ({ frames := 0, cells := 0, slots := 0, locals := 0 } : Room) s m #[(.int (0 : Int32))] below meth c s₁ [] 0 0 := Stand.of_body Bd
  have e0 : s₁.heap = h0 := by rw [← hh, Bd.state]; rfl
  have N0 := Fr.nil n0
  show OGot p.tables e below (s₁.setTop (entryFrame m #[(.int (0 : Int32))] 1)) _
  refine OGot.go (fun t k => castTop (ef3 m ) k) ?_
  show OGot p.tables e below (s₁.setTop (mkF m 0 #[.val (.int (0 : Int32))] [])) _
  refine OGot.go (fun t k => XS.iloadN X0.here hx rfl (hb hby d3_0) rfl k) ?_
  show OGot p.tables e below (s₁.setTop (mkF m 1 #[.val (.int (0 : Int32))] [(.int (0 : Int32))])) _
  refine OGot.go (fun t k => XS.ifNo X0.here hx rfl (hb hby d3_1) rfl (by decide) k) ?_
  show OGot p.tables e below (s₁.setTop (mkF m 4 #[.val (.int (0 : Int32))] [])) _
  refine OGot.go (fun t k => XS.iconst X0.here hx rfl (hb hby d3_4) k) ?_
  show OGot p.tables e below (s₁.setTop (mkF m 5 #[.val (.int (0 : Int32))] [(.int (1 : Int32))])) _
  obtain ⟨fs, hr, hrun, hended, hW, hsame⟩ := X0.leave (v := some (.int (1 : Int32))) (fun h => by rw [Bd.returns] at h; cases h)
  refine ⟨_, _, retN X0 hx (t := .boolean) Bd.returns (by simp) (hb hby d3_5) hr, hrun, hended, _, _, rfl, ?_, ⟨_, rfl⟩, hW, hsame.mono (by decide) (by decide)⟩
  exact (⟨rfl, N0, e0⟩ : Q3 Z w_PARTITION_KEY w_REGULAR w_CLUSTERING w_STATIC  h0 n0 _ s₁.heap _)
theorem pd_2 : parseMethodDescriptor "(I)Z" = some ⟨[.int], some .boolean⟩ := by decide +kernel
theorem d1_8 : decode method_2_code 8 = .ok (.iload_n 0, 1) := by decide +kernel
theorem d1_9 : decode method_2_code 9 = .ok (.iconst 1, 1) := by decide +kernel
theorem d1_10 : decode method_2_code 10 = .ok (.if_icmp .ne 7, 3) := by decide +kernel
theorem d1_13 : decode method_2_code 13 = .ok (.getstatic 13, 3) := by decide +kernel
theorem d1_16 : decode method_2_code 16 = .ok (.areturn, 1) := by decide +kernel
def Q1_1 (Z : State) (w_PARTITION_KEY : Addr) (w_REGULAR : Addr) (w_CLUSTERING : Addr) (w_STATIC : Addr)  (h0 : Heap) (n0 : Nat) (v : Option Value) (h : Heap) (L : List Loc) : Prop := v = some (.ref w_CLUSTERING) ∧ Fr n0 L ∧ h = h0
theorem ef1_1 (m : MethodId)  : entryFrame m #[(.int (1 : Int32))] 1 = mkF m 0 #[.val (.int (1 : Int32))] [] := by first | (simp [entryFrame, mkF, argsToLocals, Value.category]; done) | rfl
set_option maxRecDepth 65536 in
set_option maxHeartbeats 40000000 in
theorem rm1_1 (l : Launch) (Z : State) (a0 : Array Value) (hw : ∀ d ∈ tables_1, d.before a0 Z = true) (ws : List Jvm.Cond) {w_PARTITION_KEY : Addr} {w_REGULAR : Addr} {w_CLUSTERING : Addr} {w_STATIC : Addr} (G : Glob Z w_PARTITION_KEY w_REGULAR w_CLUSTERING w_STATIC)  (h0 : Heap) (n0 : Nat) (O0 : Old Z n0 h0) :
    MetFree l (⟨"com/example/grundriss/grundriss/ColumnKindIsPrimaryKeyPinLaw", "pick", "(I)Lcom/example/grundriss/grundriss/ColumnKind;"⟩ : MethodName) (head1 (Jvm.Cond.code (⟨"com/example/grundriss/grundriss/ColumnKindIsPrimaryKeyPinLaw", "pick", "(I)Lcom/example/grundriss/grundriss/ColumnKind;"⟩ : MethodName) method_2_code 1 (some (.object "com/example/grundriss/grundriss/ColumnKind")) :: ws) ({ frames := 0, cells := 0, slots := 0, locals := 0 } : Room)) (fun a U => a = #[(.int (1 : Int32))] ∧ Z.Warmed39 U.vm ∧ U.heap = h0) (fun _ _ _ _ _ => True) (fun _ U o U' => ∃ v L, o = .returned v ∧ Q1_1 Z w_PARTITION_KEY w_REGULAR w_CLUSTERING w_STATIC  h0 n0 v U'.heap L ∧ FrameEnd U o U' L ({ frames := 0, cells := 0, slots := 0, locals := 0 } : Room).cells ({ frames := 0, cells := 0, slots := 0, locals := 0 } : Room).slots) := by
  refine MetFree.of_bodySF (plainFor_of_name pn_com_example_grundriss_grundriss_ColumnKindIsPrimaryKeyPinLaw) hisR ?_
  intro p e s m args below meth c s₁ Bd hml0 hP hK
  obtain ⟨rfl, hZ, hh⟩ := hP
  have hx := Bd.exec
  have hby := Bd.bytes
  have hml : c.maxLocals = 1 := hml0
  have hown : s.vm.findClass "com/example/grundriss/grundriss/ColumnKindIsPrimaryKeyPinLaw" = some m.cls := findClass_of_methodNamed Bd.named
  have hnm := (name_of_methodNamed Bd.named Bd.method).1
  have X0 : Stand p l e ({ frames := 0, cells := 0, slots := 0, locals := 0 } : Room) s m #[(.int (1 : Int32))] below meth c s₁ [] 0 0 := Stand.of_body Bd
  have e0 : s₁.heap = h0 := by rw [← hh, Bd.state]; rfl
  have N0 := Fr.nil n0
  show OGot p.tables e below (s₁.setTop (entryFrame m #[(.int (1 : Int32))] 1)) _
  refine OGot.go (fun t k => castTop (ef1_1 m ) k) ?_
  show OGot p.tables e below (s₁.setTop (mkF m 0 #[.val (.int (1 : Int32))] [])) _
  refine OGot.go (fun t k => XS.iloadN X0.here hx rfl (hb hby d1_0) rfl k) ?_
  show OGot p.tables e below (s₁.setTop (mkF m 1 #[.val (.int (1 : Int32))] [(.int (1 : Int32))])) _
  refine OGot.go (fun t k => XS.ifYes X0.here hx rfl (pc0 := 1) (pc' := 8) rfl (hb hby d1_1) rfl (by decide) (by decide) (by decide) k) ?_
  show OGot p.tables e below (s₁.setTop (mkF m 8 #[.val (.int (1 : Int32))] [])) _
  refine OGot.go (fun t k => XS.iloadN X0.here hx rfl (hb hby d1_8) rfl k) ?_
  show OGot p.tables e below (s₁.setTop (mkF m 9 #[.val (.int (1 : Int32))] [(.int (1 : Int32))])) _
  refine OGot.go (fun t k => XS.iconst X0.here hx rfl (hb hby d1_9) k) ?_
  show OGot p.tables e below (s₁.setTop (mkF m 10 #[.val (.int (1 : Int32))] [(.int (1 : Int32)), (.int (1 : Int32))])) _
  refine OGot.go (fun t k => XS.icmpNo X0.here hx rfl (hb hby d1_10) rfl (by decide) k) ?_
  show OGot p.tables e below (s₁.setTop (mkF m 13 #[.val (.int (1 : Int32))] [])) _
  obtain ⟨T1, X1, e1, st1⟩ := getS2 X0 hx hZ hown (host := "") (Or.inl (ow hw 22 rfl)) Via.refl e0 (G.2.2.2.2.1.ext O0.2) (g := (mkF m 13 #[.val (.int (1 : Int32))] [])) rfl (hb hby d1_13)
  refine OGot.go st1 ?_
  show OGot p.tables e below (T1.setTop (mkF m 16 #[.val (.int (1 : Int32))] [(.ref w_CLUSTERING)])) _
  obtain ⟨fs, hr, hrun, hended, hW, hsame⟩ := X1.leave (v := some (.ref w_CLUSTERING)) (fun h => by rw [Bd.returns] at h; cases h)
  refine ⟨_, _, oretA X1 hx Bd.returns rfl rfl (hb hby d1_16) hr, hrun, hended, _, _, rfl, ?_, ⟨_, rfl⟩, hW, hsame.mono (by decide) (by decide)⟩
  exact (⟨rfl, N0, e1⟩ : Q1_1 Z w_PARTITION_KEY w_REGULAR w_CLUSTERING w_STATIC  h0 n0 _ T1.heap _)
theorem d2_7 : decode prog_10_method_4_code 7 = .ok (.aload_n 0, 1) := by decide +kernel
theorem d2_8 : decode prog_10_method_4_code 8 = .ok (.getstatic 7, 3) := by decide +kernel
theorem d2_11 : decode prog_10_method_4_code 11 = .ok (.if_acmp .ne 7, 3) := by decide +kernel
def Q2_1 (Z : State) (w_PARTITION_KEY : Addr) (w_REGULAR : Addr) (w_CLUSTERING : Addr) (w_STATIC : Addr)  (h0 : Heap) (n0 : Nat) (v : Option Value) (h : Heap) (L : List Loc) : Prop := v = some (.int (1 : Int32)) ∧ Fr n0 L ∧ h = h0
theorem ef2_1 (m : MethodId) (x0 : Addr) : entryFrame m #[(.ref x0)] 1 = mkF m 0 #[.val (.ref x0)] [] := by first | (simp [entryFrame, mkF, argsToLocals, Value.category]; done) | rfl
set_option maxRecDepth 65536 in
set_option maxHeartbeats 40000000 in
theorem rm2_1 (l : Launch) (Z : State) (a0 : Array Value) (hw : ∀ d ∈ tables_1, d.before a0 Z = true) (ws : List Jvm.Cond) {w_PARTITION_KEY : Addr} {w_REGULAR : Addr} {w_CLUSTERING : Addr} {w_STATIC : Addr} (G : Glob Z w_PARTITION_KEY w_REGULAR w_CLUSTERING w_STATIC)  (h0 : Heap) (n0 : Nat) (O0 : Old Z n0 h0) :
    MetFree l (⟨"com/example/grundriss/grundriss/ColumnKind", "isPrimaryKey", "()Z"⟩ : MethodName) (head1 (Jvm.Cond.code (⟨"com/example/grundriss/grundriss/ColumnKind", "isPrimaryKey", "()Z"⟩ : MethodName) prog_10_method_4_code 1 (some .boolean) :: ws) ({ frames := 0, cells := 0, slots := 0, locals := 0 } : Room)) (fun a U => a = #[(.ref w_CLUSTERING)] ∧ Z.Warmed39 U.vm ∧ U.heap = h0) (fun _ _ _ _ _ => True) (fun _ U o U' => ∃ v L, o = .returned v ∧ Q2_1 Z w_PARTITION_KEY w_REGULAR w_CLUSTERING w_STATIC  h0 n0 v U'.heap L ∧ FrameEnd U o U' L ({ frames := 0, cells := 0, slots := 0, locals := 0 } : Room).cells ({ frames := 0, cells := 0, slots := 0, locals := 0 } : Room).slots) := by
  refine MetFree.of_bodySF (plainFor_of_name pn_com_example_grundriss_grundriss_ColumnKind) hisR ?_
  intro p e s m args below meth c s₁ Bd hml0 hP hK
  obtain ⟨rfl, hZ, hh⟩ := hP
  have hx := Bd.exec
  have hby := Bd.bytes
  have hml : c.maxLocals = 1 := hml0
  have hown : s.vm.findClass "com/example/grundriss/grundriss/ColumnKind" = some m.cls := findClass_of_methodNamed Bd.named
  have hnm := (name_of_methodNamed Bd.named Bd.method).1
  have X0 : Stand p l e ({ frames := 0, cells := 0, slots := 0, locals := 0 } : Room) s m #[(.ref w_CLUSTERING)] below meth c s₁ [] 0 0 := Stand.of_body Bd
  have e0 : s₁.heap = h0 := by rw [← hh, Bd.state]; rfl
  have N0 := Fr.nil n0
  show OGot p.tables e below (s₁.setTop (entryFrame m #[(.ref w_CLUSTERING)] 1)) _
  refine OGot.go (fun t k => castTop (ef2_1 m w_CLUSTERING) k) ?_
  show OGot p.tables e below (s₁.setTop (mkF m 0 #[.val (.ref w_CLUSTERING)] [])) _
  refine OGot.go (fun t k => XS.aloadN X0.here hx rfl (hb hby d2_0) rfl rfl k) ?_
  show OGot p.tables e below (s₁.setTop (mkF m 1 #[.val (.ref w_CLUSTERING)] [(.ref w_CLUSTERING)])) _
  obtain ⟨T2, X2, e2, st2⟩ := getS2 X0 hx hZ hown (host := "") (Or.inl (ow hw 12 rfl)) Via.refl e0 (G.1.ext O0.2) (g := (mkF m 1 #[.val (.ref w_CLUSTERING)] [(.ref w_CLUSTERING)])) rfl (hb hby d2_1)
  refine OGot.go st2 ?_
  show OGot p.tables e below (T2.setTop (mkF m 4 #[.val (.ref w_CLUSTERING)] [(.ref w_PARTITION_KEY), (.ref w_CLUSTERING)])) _
  have ne3 : w_CLUSTERING ≠ w_PARTITION_KEY := (Fld.ne G.2.2.2.2.2.2.2.2.2.2.1 G.2.2.2.2.2.2.2.2.2.1 (by decide))
  refine OGot.go (fun t k => Jvm.RoadKit.acmp (g := (mkF m 4 #[.val (.ref w_CLUSTERING)] [(.ref w_PARTITION_KEY), (.ref w_CLUSTERING)])) X2 hx rfl rfl rfl (pc0 := 4) (pc' := 7) (same := false) rfl (hb hby d2_4) rfl (decide_eq_false fun q => ne3 (Value.ref.inj q)) (by decide) (by decide) k) ?_
  show OGot p.tables e below (T2.setTop (mkF m 7 #[.val (.ref w_CLUSTERING)] [])) _
  refine OGot.go (fun t k => XS.aloadN X2.here hx rfl (hb hby d2_7) rfl rfl k) ?_
  show OGot p.tables e below (T2.setTop (mkF m 8 #[.val (.ref w_CLUSTERING)] [(.ref w_CLUSTERING)])) _
  obtain ⟨T4, X4, e4, st4⟩ := getS2 X2 hx hZ hown (host := "") (Or.inl (ow hw 18 rfl)) Via.refl e2 (G.2.2.2.2.1.ext O0.2) (g := (mkF m 8 #[.val (.ref w_CLUSTERING)] [(.ref w_CLUSTERING)])) rfl (hb hby d2_8)
  refine OGot.go st4 ?_
  show OGot p.tables e below (T4.setTop (mkF m 11 #[.val (.ref w_CLUSTERING)] [(.ref w_CLUSTERING), (.ref w_CLUSTERING)])) _
  refine OGot.go (fun t k => Jvm.RoadKit.acmp (g := (mkF m 11 #[.val (.ref w_CLUSTERING)] [(.ref w_CLUSTERING), (.ref w_CLUSTERING)])) X4 hx rfl rfl rfl (pc0 := 11) (pc' := 14) (same := true) rfl (hb hby d2_11) rfl (decide_eq_true rfl) (by decide) (by decide) k) ?_
  show OGot p.tables e below (T4.setTop (mkF m 14 #[.val (.ref w_CLUSTERING)] [])) _
  refine OGot.go (fun t k => XS.iconst X4.here hx rfl (hb hby d2_14) k) ?_
  show OGot p.tables e below (T4.setTop (mkF m 15 #[.val (.ref w_CLUSTERING)] [(.int (1 : Int32))])) _
  refine OGot.go (fun t k => XS.goto X4.here hx rfl (pc0 := 15) (pc' := 19) rfl (hb hby d2_15) (by decide) (by decide) k) ?_
  show OGot p.tables e below (T4.setTop (mkF m 19 #[.val (.ref w_CLUSTERING)] [(.int (1 : Int32))])) _
  obtain ⟨fs, hr, hrun, hended, hW, hsame⟩ := X4.leave (v := some (.int (1 : Int32))) (fun h => by rw [Bd.returns] at h; cases h)
  refine ⟨_, _, retN X4 hx (t := .boolean) Bd.returns (by simp) (hb hby d2_19) hr, hrun, hended, _, _, rfl, ?_, ⟨_, rfl⟩, hW, hsame.mono (by decide) (by decide)⟩
  exact (⟨rfl, N0, e4⟩ : Q2_1 Z w_PARTITION_KEY w_REGULAR w_CLUSTERING w_STATIC  h0 n0 _ T4.heap _)
theorem d3_6 : decode method_3_code 6 = .ok (.iload_n 0, 1) := by decide +kernel
theorem d3_7 : decode method_3_code 7 = .ok (.iconst 1, 1) := by decide +kernel
theorem d3_8 : decode method_3_code 8 = .ok (.if_icmp .ne 5, 3) := by decide +kernel
theorem d3_11 : decode method_3_code 11 = .ok (.iconst 1, 1) := by decide +kernel
theorem d3_12 : decode method_3_code 12 = .ok (.ireturn, 1) := by decide +kernel
def Q3_1 (Z : State) (w_PARTITION_KEY : Addr) (w_REGULAR : Addr) (w_CLUSTERING : Addr) (w_STATIC : Addr)  (h0 : Heap) (n0 : Nat) (v : Option Value) (h : Heap) (L : List Loc) : Prop := v = some (.int (1 : Int32)) ∧ Fr n0 L ∧ h = h0
theorem ef3_1 (m : MethodId)  : entryFrame m #[(.int (1 : Int32))] 1 = mkF m 0 #[.val (.int (1 : Int32))] [] := by first | (simp [entryFrame, mkF, argsToLocals, Value.category]; done) | rfl
set_option maxRecDepth 65536 in
set_option maxHeartbeats 40000000 in
theorem rm3_1 (l : Launch) (Z : State) (a0 : Array Value) (hw : ∀ d ∈ tables_1, d.before a0 Z = true) (ws : List Jvm.Cond) {w_PARTITION_KEY : Addr} {w_REGULAR : Addr} {w_CLUSTERING : Addr} {w_STATIC : Addr} (G : Glob Z w_PARTITION_KEY w_REGULAR w_CLUSTERING w_STATIC)  (h0 : Heap) (n0 : Nat) (O0 : Old Z n0 h0) :
    MetFree l (⟨"com/example/grundriss/grundriss/ColumnKindIsPrimaryKeyPinLaw", "expected", "(I)Z"⟩ : MethodName) (head1 (Jvm.Cond.code (⟨"com/example/grundriss/grundriss/ColumnKindIsPrimaryKeyPinLaw", "expected", "(I)Z"⟩ : MethodName) method_3_code 1 (some .boolean) :: ws) ({ frames := 0, cells := 0, slots := 0, locals := 0 } : Room)) (fun a U => a = #[(.int (1 : Int32))] ∧ Z.Warmed39 U.vm ∧ U.heap = h0) (fun _ _ _ _ _ => True) (fun _ U o U' => ∃ v L, o = .returned v ∧ Q3_1 Z w_PARTITION_KEY w_REGULAR w_CLUSTERING w_STATIC  h0 n0 v U'.heap L ∧ FrameEnd U o U' L ({ frames := 0, cells := 0, slots := 0, locals := 0 } : Room).cells ({ frames := 0, cells := 0, slots := 0, locals := 0 } : Room).slots) := by
  refine MetFree.of_bodySF (plainFor_of_name pn_com_example_grundriss_grundriss_ColumnKindIsPrimaryKeyPinLaw) hisR ?_
  intro p e s m args below meth c s₁ Bd hml0 hP hK
  obtain ⟨rfl, hZ, hh⟩ := hP
  have hx := Bd.exec
  have hby := Bd.bytes
  have hml : c.maxLocals = 1 := hml0
  have hown : s.vm.findClass "com/example/grundriss/grundriss/ColumnKindIsPrimaryKeyPinLaw" = some m.cls := findClass_of_methodNamed Bd.named
  have hnm := (name_of_methodNamed Bd.named Bd.method).1
  have X0 : Stand p l e ({ frames := 0, cells := 0, slots := 0, locals := 0 } : Room) s m #[(.int (1 : Int32))] below meth c s₁ [] 0 0 := Stand.of_body Bd
  have e0 : s₁.heap = h0 := by rw [← hh, Bd.state]; rfl
  have N0 := Fr.nil n0
  show OGot p.tables e below (s₁.setTop (entryFrame m #[(.int (1 : Int32))] 1)) _
  refine OGot.go (fun t k => castTop (ef3_1 m ) k) ?_
  show OGot p.tables e below (s₁.setTop (mkF m 0 #[.val (.int (1 : Int32))] [])) _
  refine OGot.go (fun t k => XS.iloadN X0.here hx rfl (hb hby d3_0) rfl k) ?_
  show OGot p.tables e below (s₁.setTop (mkF m 1 #[.val (.int (1 : Int32))] [(.int (1 : Int32))])) _
  refine OGot.go (fun t k => XS.ifYes X0.here hx rfl (pc0 := 1) (pc' := 6) rfl (hb hby d3_1) rfl (by decide) (by decide) (by decide) k) ?_
  show OGot p.tables e below (s₁.setTop (mkF m 6 #[.val (.int (1 : Int32))] [])) _
  refine OGot.go (fun t k => XS.iloadN X0.here hx rfl (hb hby d3_6) rfl k) ?_
  show OGot p.tables e below (s₁.setTop (mkF m 7 #[.val (.int (1 : Int32))] [(.int (1 : Int32))])) _
  refine OGot.go (fun t k => XS.iconst X0.here hx rfl (hb hby d3_7) k) ?_
  show OGot p.tables e below (s₁.setTop (mkF m 8 #[.val (.int (1 : Int32))] [(.int (1 : Int32)), (.int (1 : Int32))])) _
  refine OGot.go (fun t k => XS.icmpNo X0.here hx rfl (hb hby d3_8) rfl (by decide) k) ?_
  show OGot p.tables e below (s₁.setTop (mkF m 11 #[.val (.int (1 : Int32))] [])) _
  refine OGot.go (fun t k => XS.iconst X0.here hx rfl (hb hby d3_11) k) ?_
  show OGot p.tables e below (s₁.setTop (mkF m 12 #[.val (.int (1 : Int32))] [(.int (1 : Int32))])) _
  obtain ⟨fs, hr, hrun, hended, hW, hsame⟩ := X0.leave (v := some (.int (1 : Int32))) (fun h => by rw [Bd.returns] at h; cases h)
  refine ⟨_, _, retN X0 hx (t := .boolean) Bd.returns (by simp) (hb hby d3_12) hr, hrun, hended, _, _, rfl, ?_, ⟨_, rfl⟩, hW, hsame.mono (by decide) (by decide)⟩
  exact (⟨rfl, N0, e0⟩ : Q3_1 Z w_PARTITION_KEY w_REGULAR w_CLUSTERING w_STATIC  h0 n0 _ s₁.heap _)
theorem d1_17 : decode method_2_code 17 = .ok (.iload_n 0, 1) := by decide +kernel
theorem d1_18 : decode method_2_code 18 = .ok (.iconst 2, 1) := by decide +kernel
theorem d1_19 : decode method_2_code 19 = .ok (.if_icmp .ne 7, 3) := by decide +kernel
theorem d1_22 : decode method_2_code 22 = .ok (.getstatic 16, 3) := by decide +kernel
theorem d1_25 : decode method_2_code 25 = .ok (.areturn, 1) := by decide +kernel
def Q1_2 (Z : State) (w_PARTITION_KEY : Addr) (w_REGULAR : Addr) (w_CLUSTERING : Addr) (w_STATIC : Addr)  (h0 : Heap) (n0 : Nat) (v : Option Value) (h : Heap) (L : List Loc) : Prop := v = some (.ref w_STATIC) ∧ Fr n0 L ∧ h = h0
theorem ef1_2 (m : MethodId)  : entryFrame m #[(.int (2 : Int32))] 1 = mkF m 0 #[.val (.int (2 : Int32))] [] := by first | (simp [entryFrame, mkF, argsToLocals, Value.category]; done) | rfl
set_option maxRecDepth 65536 in
set_option maxHeartbeats 40000000 in
theorem rm1_2 (l : Launch) (Z : State) (a0 : Array Value) (hw : ∀ d ∈ tables_1, d.before a0 Z = true) (ws : List Jvm.Cond) {w_PARTITION_KEY : Addr} {w_REGULAR : Addr} {w_CLUSTERING : Addr} {w_STATIC : Addr} (G : Glob Z w_PARTITION_KEY w_REGULAR w_CLUSTERING w_STATIC)  (h0 : Heap) (n0 : Nat) (O0 : Old Z n0 h0) :
    MetFree l (⟨"com/example/grundriss/grundriss/ColumnKindIsPrimaryKeyPinLaw", "pick", "(I)Lcom/example/grundriss/grundriss/ColumnKind;"⟩ : MethodName) (head1 (Jvm.Cond.code (⟨"com/example/grundriss/grundriss/ColumnKindIsPrimaryKeyPinLaw", "pick", "(I)Lcom/example/grundriss/grundriss/ColumnKind;"⟩ : MethodName) method_2_code 1 (some (.object "com/example/grundriss/grundriss/ColumnKind")) :: ws) ({ frames := 0, cells := 0, slots := 0, locals := 0 } : Room)) (fun a U => a = #[(.int (2 : Int32))] ∧ Z.Warmed39 U.vm ∧ U.heap = h0) (fun _ _ _ _ _ => True) (fun _ U o U' => ∃ v L, o = .returned v ∧ Q1_2 Z w_PARTITION_KEY w_REGULAR w_CLUSTERING w_STATIC  h0 n0 v U'.heap L ∧ FrameEnd U o U' L ({ frames := 0, cells := 0, slots := 0, locals := 0 } : Room).cells ({ frames := 0, cells := 0, slots := 0, locals := 0 } : Room).slots) := by
  refine MetFree.of_bodySF (plainFor_of_name pn_com_example_grundriss_grundriss_ColumnKindIsPrimaryKeyPinLaw) hisR ?_
  intro p e s m args below meth c s₁ Bd hml0 hP hK
  obtain ⟨rfl, hZ, hh⟩ := hP
  have hx := Bd.exec
  have hby := Bd.bytes
  have hml : c.maxLocals = 1 := hml0
  have hown : s.vm.findClass "com/example/grundriss/grundriss/ColumnKindIsPrimaryKeyPinLaw" = some m.cls := findClass_of_methodNamed Bd.named
  have hnm := (name_of_methodNamed Bd.named Bd.method).1
  have X0 : Stand p l e ({ frames := 0, cells := 0, slots := 0, locals := 0 } : Room) s m #[(.int (2 : Int32))] below meth c s₁ [] 0 0 := Stand.of_body Bd
  have e0 : s₁.heap = h0 := by rw [← hh, Bd.state]; rfl
  have N0 := Fr.nil n0
  show OGot p.tables e below (s₁.setTop (entryFrame m #[(.int (2 : Int32))] 1)) _
  refine OGot.go (fun t k => castTop (ef1_2 m ) k) ?_
  show OGot p.tables e below (s₁.setTop (mkF m 0 #[.val (.int (2 : Int32))] [])) _
  refine OGot.go (fun t k => XS.iloadN X0.here hx rfl (hb hby d1_0) rfl k) ?_
  show OGot p.tables e below (s₁.setTop (mkF m 1 #[.val (.int (2 : Int32))] [(.int (2 : Int32))])) _
  refine OGot.go (fun t k => XS.ifYes X0.here hx rfl (pc0 := 1) (pc' := 8) rfl (hb hby d1_1) rfl (by decide) (by decide) (by decide) k) ?_
  show OGot p.tables e below (s₁.setTop (mkF m 8 #[.val (.int (2 : Int32))] [])) _
  refine OGot.go (fun t k => XS.iloadN X0.here hx rfl (hb hby d1_8) rfl k) ?_
  show OGot p.tables e below (s₁.setTop (mkF m 9 #[.val (.int (2 : Int32))] [(.int (2 : Int32))])) _
  refine OGot.go (fun t k => XS.iconst X0.here hx rfl (hb hby d1_9) k) ?_
  show OGot p.tables e below (s₁.setTop (mkF m 10 #[.val (.int (2 : Int32))] [(.int (1 : Int32)), (.int (2 : Int32))])) _
  refine OGot.go (fun t k => XS.icmpYes X0.here hx rfl (pc0 := 10) (pc' := 17) rfl (hb hby d1_10) rfl (by decide) (by decide) (by decide) k) ?_
  show OGot p.tables e below (s₁.setTop (mkF m 17 #[.val (.int (2 : Int32))] [])) _
  refine OGot.go (fun t k => XS.iloadN X0.here hx rfl (hb hby d1_17) rfl k) ?_
  show OGot p.tables e below (s₁.setTop (mkF m 18 #[.val (.int (2 : Int32))] [(.int (2 : Int32))])) _
  refine OGot.go (fun t k => XS.iconst X0.here hx rfl (hb hby d1_18) k) ?_
  show OGot p.tables e below (s₁.setTop (mkF m 19 #[.val (.int (2 : Int32))] [(.int (2 : Int32)), (.int (2 : Int32))])) _
  refine OGot.go (fun t k => XS.icmpNo X0.here hx rfl (hb hby d1_19) rfl (by decide) k) ?_
  show OGot p.tables e below (s₁.setTop (mkF m 22 #[.val (.int (2 : Int32))] [])) _
  obtain ⟨T1, X1, e1, st1⟩ := getS2 X0 hx hZ hown (host := "") (Or.inl (ow hw 20 rfl)) Via.refl e0 (G.2.2.2.2.2.2.1.ext O0.2) (g := (mkF m 22 #[.val (.int (2 : Int32))] [])) rfl (hb hby d1_22)
  refine OGot.go st1 ?_
  show OGot p.tables e below (T1.setTop (mkF m 25 #[.val (.int (2 : Int32))] [(.ref w_STATIC)])) _
  obtain ⟨fs, hr, hrun, hended, hW, hsame⟩ := X1.leave (v := some (.ref w_STATIC)) (fun h => by rw [Bd.returns] at h; cases h)
  refine ⟨_, _, oretA X1 hx Bd.returns rfl rfl (hb hby d1_25) hr, hrun, hended, _, _, rfl, ?_, ⟨_, rfl⟩, hW, hsame.mono (by decide) (by decide)⟩
  exact (⟨rfl, N0, e1⟩ : Q1_2 Z w_PARTITION_KEY w_REGULAR w_CLUSTERING w_STATIC  h0 n0 _ T1.heap _)
theorem d2_18 : decode prog_10_method_4_code 18 = .ok (.iconst 0, 1) := by decide +kernel
def Q2_2 (Z : State) (w_PARTITION_KEY : Addr) (w_REGULAR : Addr) (w_CLUSTERING : Addr) (w_STATIC : Addr)  (h0 : Heap) (n0 : Nat) (v : Option Value) (h : Heap) (L : List Loc) : Prop := v = some (.int (0 : Int32)) ∧ Fr n0 L ∧ h = h0
theorem ef2_2 (m : MethodId) (x0 : Addr) : entryFrame m #[(.ref x0)] 1 = mkF m 0 #[.val (.ref x0)] [] := by first | (simp [entryFrame, mkF, argsToLocals, Value.category]; done) | rfl
set_option maxRecDepth 65536 in
set_option maxHeartbeats 40000000 in
theorem rm2_2 (l : Launch) (Z : State) (a0 : Array Value) (hw : ∀ d ∈ tables_1, d.before a0 Z = true) (ws : List Jvm.Cond) {w_PARTITION_KEY : Addr} {w_REGULAR : Addr} {w_CLUSTERING : Addr} {w_STATIC : Addr} (G : Glob Z w_PARTITION_KEY w_REGULAR w_CLUSTERING w_STATIC)  (h0 : Heap) (n0 : Nat) (O0 : Old Z n0 h0) :
    MetFree l (⟨"com/example/grundriss/grundriss/ColumnKind", "isPrimaryKey", "()Z"⟩ : MethodName) (head1 (Jvm.Cond.code (⟨"com/example/grundriss/grundriss/ColumnKind", "isPrimaryKey", "()Z"⟩ : MethodName) prog_10_method_4_code 1 (some .boolean) :: ws) ({ frames := 0, cells := 0, slots := 0, locals := 0 } : Room)) (fun a U => a = #[(.ref w_STATIC)] ∧ Z.Warmed39 U.vm ∧ U.heap = h0) (fun _ _ _ _ _ => True) (fun _ U o U' => ∃ v L, o = .returned v ∧ Q2_2 Z w_PARTITION_KEY w_REGULAR w_CLUSTERING w_STATIC  h0 n0 v U'.heap L ∧ FrameEnd U o U' L ({ frames := 0, cells := 0, slots := 0, locals := 0 } : Room).cells ({ frames := 0, cells := 0, slots := 0, locals := 0 } : Room).slots) := by
  refine MetFree.of_bodySF (plainFor_of_name pn_com_example_grundriss_grundriss_ColumnKind) hisR ?_
  intro p e s m args below meth c s₁ Bd hml0 hP hK
  obtain ⟨rfl, hZ, hh⟩ := hP
  have hx := Bd.exec
  have hby := Bd.bytes
  have hml : c.maxLocals = 1 := hml0
  have hown : s.vm.findClass "com/example/grundriss/grundriss/ColumnKind" = some m.cls := findClass_of_methodNamed Bd.named
  have hnm := (name_of_methodNamed Bd.named Bd.method).1
  have X0 : Stand p l e ({ frames := 0, cells := 0, slots := 0, locals := 0 } : Room) s m #[(.ref w_STATIC)] below meth c s₁ [] 0 0 := Stand.of_body Bd
  have e0 : s₁.heap = h0 := by rw [← hh, Bd.state]; rfl
  have N0 := Fr.nil n0
  show OGot p.tables e below (s₁.setTop (entryFrame m #[(.ref w_STATIC)] 1)) _
  refine OGot.go (fun t k => castTop (ef2_2 m w_STATIC) k) ?_
  show OGot p.tables e below (s₁.setTop (mkF m 0 #[.val (.ref w_STATIC)] [])) _
  refine OGot.go (fun t k => XS.aloadN X0.here hx rfl (hb hby d2_0) rfl rfl k) ?_
  show OGot p.tables e below (s₁.setTop (mkF m 1 #[.val (.ref w_STATIC)] [(.ref w_STATIC)])) _
  obtain ⟨T2, X2, e2, st2⟩ := getS2 X0 hx hZ hown (host := "") (Or.inl (ow hw 12 rfl)) Via.refl e0 (G.1.ext O0.2) (g := (mkF m 1 #[.val (.ref w_STATIC)] [(.ref w_STATIC)])) rfl (hb hby d2_1)
  refine OGot.go st2 ?_
  show OGot p.tables e below (T2.setTop (mkF m 4 #[.val (.ref w_STATIC)] [(.ref w_PARTITION_KEY), (.ref w_STATIC)])) _
  have ne3 : w_STATIC ≠ w_PARTITION_KEY := (Fld.ne G.2.2.2.2.2.2.2.2.2.2.2 G.2.2.2.2.2.2.2.2.2.1 (by decide))
  refine OGot.go (fun t k => Jvm.RoadKit.acmp (g := (mkF m 4 #[.val (.ref w_STATIC)] [(.ref w_PARTITION_KEY), (.ref w_STATIC)])) X2 hx rfl rfl rfl (pc0 := 4) (pc' := 7) (same := false) rfl (hb hby d2_4) rfl (decide_eq_false fun q => ne3 (Value.ref.inj q)) (by decide) (by decide) k) ?_
  show OGot p.tables e below (T2.setTop (mkF m 7 #[.val (.ref w_STATIC)] [])) _
  refine OGot.go (fun t k => XS.aloadN X2.here hx rfl (hb hby d2_7) rfl rfl k) ?_
  show OGot p.tables e below (T2.setTop (mkF m 8 #[.val (.ref w_STATIC)] [(.ref w_STATIC)])) _
  obtain ⟨T4, X4, e4, st4⟩ := getS2 X2 hx hZ hown (host := "") (Or.inl (ow hw 18 rfl)) Via.refl e2 (G.2.2.2.2.1.ext O0.2) (g := (mkF m 8 #[.val (.ref w_STATIC)] [(.ref w_STATIC)])) rfl (hb hby d2_8)
  refine OGot.go st4 ?_
  show OGot p.tables e below (T4.setTop (mkF m 11 #[.val (.ref w_STATIC)] [(.ref w_CLUSTERING), (.ref w_STATIC)])) _
  have ne5 : w_STATIC ≠ w_CLUSTERING := (Fld.ne G.2.2.2.2.2.2.2.2.2.2.2 G.2.2.2.2.2.2.2.2.2.2.1 (by decide))
  refine OGot.go (fun t k => Jvm.RoadKit.acmp (g := (mkF m 11 #[.val (.ref w_STATIC)] [(.ref w_CLUSTERING), (.ref w_STATIC)])) X4 hx rfl rfl rfl (pc0 := 11) (pc' := 18) (same := false) rfl (hb hby d2_11) rfl (decide_eq_false fun q => ne5 (Value.ref.inj q)) (by decide) (by decide) k) ?_
  show OGot p.tables e below (T4.setTop (mkF m 18 #[.val (.ref w_STATIC)] [])) _
  refine OGot.go (fun t k => XS.iconst X4.here hx rfl (hb hby d2_18) k) ?_
  show OGot p.tables e below (T4.setTop (mkF m 19 #[.val (.ref w_STATIC)] [(.int (0 : Int32))])) _
  obtain ⟨fs, hr, hrun, hended, hW, hsame⟩ := X4.leave (v := some (.int (0 : Int32))) (fun h => by rw [Bd.returns] at h; cases h)
  refine ⟨_, _, retN X4 hx (t := .boolean) Bd.returns (by simp) (hb hby d2_19) hr, hrun, hended, _, _, rfl, ?_, ⟨_, rfl⟩, hW, hsame.mono (by decide) (by decide)⟩
  exact (⟨rfl, N0, e4⟩ : Q2_2 Z w_PARTITION_KEY w_REGULAR w_CLUSTERING w_STATIC  h0 n0 _ T4.heap _)
theorem d3_13 : decode method_3_code 13 = .ok (.iload_n 0, 1) := by decide +kernel
theorem d3_14 : decode method_3_code 14 = .ok (.iconst 2, 1) := by decide +kernel
theorem d3_15 : decode method_3_code 15 = .ok (.if_icmp .ne 5, 3) := by decide +kernel
theorem d3_18 : decode method_3_code 18 = .ok (.iconst 0, 1) := by decide +kernel
theorem d3_19 : decode method_3_code 19 = .ok (.ireturn, 1) := by decide +kernel
def Q3_2 (Z : State) (w_PARTITION_KEY : Addr) (w_REGULAR : Addr) (w_CLUSTERING : Addr) (w_STATIC : Addr)  (h0 : Heap) (n0 : Nat) (v : Option Value) (h : Heap) (L : List Loc) : Prop := v = some (.int (0 : Int32)) ∧ Fr n0 L ∧ h = h0
theorem ef3_2 (m : MethodId)  : entryFrame m #[(.int (2 : Int32))] 1 = mkF m 0 #[.val (.int (2 : Int32))] [] := by first | (simp [entryFrame, mkF, argsToLocals, Value.category]; done) | rfl
set_option maxRecDepth 65536 in
set_option maxHeartbeats 40000000 in
theorem rm3_2 (l : Launch) (Z : State) (a0 : Array Value) (hw : ∀ d ∈ tables_1, d.before a0 Z = true) (ws : List Jvm.Cond) {w_PARTITION_KEY : Addr} {w_REGULAR : Addr} {w_CLUSTERING : Addr} {w_STATIC : Addr} (G : Glob Z w_PARTITION_KEY w_REGULAR w_CLUSTERING w_STATIC)  (h0 : Heap) (n0 : Nat) (O0 : Old Z n0 h0) :
    MetFree l (⟨"com/example/grundriss/grundriss/ColumnKindIsPrimaryKeyPinLaw", "expected", "(I)Z"⟩ : MethodName) (head1 (Jvm.Cond.code (⟨"com/example/grundriss/grundriss/ColumnKindIsPrimaryKeyPinLaw", "expected", "(I)Z"⟩ : MethodName) method_3_code 1 (some .boolean) :: ws) ({ frames := 0, cells := 0, slots := 0, locals := 0 } : Room)) (fun a U => a = #[(.int (2 : Int32))] ∧ Z.Warmed39 U.vm ∧ U.heap = h0) (fun _ _ _ _ _ => True) (fun _ U o U' => ∃ v L, o = .returned v ∧ Q3_2 Z w_PARTITION_KEY w_REGULAR w_CLUSTERING w_STATIC  h0 n0 v U'.heap L ∧ FrameEnd U o U' L ({ frames := 0, cells := 0, slots := 0, locals := 0 } : Room).cells ({ frames := 0, cells := 0, slots := 0, locals := 0 } : Room).slots) := by
  refine MetFree.of_bodySF (plainFor_of_name pn_com_example_grundriss_grundriss_ColumnKindIsPrimaryKeyPinLaw) hisR ?_
  intro p e s m args below meth c s₁ Bd hml0 hP hK
  obtain ⟨rfl, hZ, hh⟩ := hP
  have hx := Bd.exec
  have hby := Bd.bytes
  have hml : c.maxLocals = 1 := hml0
  have hown : s.vm.findClass "com/example/grundriss/grundriss/ColumnKindIsPrimaryKeyPinLaw" = some m.cls := findClass_of_methodNamed Bd.named
  have hnm := (name_of_methodNamed Bd.named Bd.method).1
  have X0 : Stand p l e ({ frames := 0, cells := 0, slots := 0, locals := 0 } : Room) s m #[(.int (2 : Int32))] below meth c s₁ [] 0 0 := Stand.of_body Bd
  have e0 : s₁.heap = h0 := by rw [← hh, Bd.state]; rfl
  have N0 := Fr.nil n0
  show OGot p.tables e below (s₁.setTop (entryFrame m #[(.int (2 : Int32))] 1)) _
  refine OGot.go (fun t k => castTop (ef3_2 m ) k) ?_
  show OGot p.tables e below (s₁.setTop (mkF m 0 #[.val (.int (2 : Int32))] [])) _
  refine OGot.go (fun t k => XS.iloadN X0.here hx rfl (hb hby d3_0) rfl k) ?_
  show OGot p.tables e below (s₁.setTop (mkF m 1 #[.val (.int (2 : Int32))] [(.int (2 : Int32))])) _
  refine OGot.go (fun t k => XS.ifYes X0.here hx rfl (pc0 := 1) (pc' := 6) rfl (hb hby d3_1) rfl (by decide) (by decide) (by decide) k) ?_
  show OGot p.tables e below (s₁.setTop (mkF m 6 #[.val (.int (2 : Int32))] [])) _
  refine OGot.go (fun t k => XS.iloadN X0.here hx rfl (hb hby d3_6) rfl k) ?_
  show OGot p.tables e below (s₁.setTop (mkF m 7 #[.val (.int (2 : Int32))] [(.int (2 : Int32))])) _
  refine OGot.go (fun t k => XS.iconst X0.here hx rfl (hb hby d3_7) k) ?_
  show OGot p.tables e below (s₁.setTop (mkF m 8 #[.val (.int (2 : Int32))] [(.int (1 : Int32)), (.int (2 : Int32))])) _
  refine OGot.go (fun t k => XS.icmpYes X0.here hx rfl (pc0 := 8) (pc' := 13) rfl (hb hby d3_8) rfl (by decide) (by decide) (by decide) k) ?_
  show OGot p.tables e below (s₁.setTop (mkF m 13 #[.val (.int (2 : Int32))] [])) _
  refine OGot.go (fun t k => XS.iloadN X0.here hx rfl (hb hby d3_13) rfl k) ?_
  show OGot p.tables e below (s₁.setTop (mkF m 14 #[.val (.int (2 : Int32))] [(.int (2 : Int32))])) _
  refine OGot.go (fun t k => XS.iconst X0.here hx rfl (hb hby d3_14) k) ?_
  show OGot p.tables e below (s₁.setTop (mkF m 15 #[.val (.int (2 : Int32))] [(.int (2 : Int32)), (.int (2 : Int32))])) _
  refine OGot.go (fun t k => XS.icmpNo X0.here hx rfl (hb hby d3_15) rfl (by decide) k) ?_
  show OGot p.tables e below (s₁.setTop (mkF m 18 #[.val (.int (2 : Int32))] [])) _
  refine OGot.go (fun t k => XS.iconst X0.here hx rfl (hb hby d3_18) k) ?_
  show OGot p.tables e below (s₁.setTop (mkF m 19 #[.val (.int (2 : Int32))] [(.int (0 : Int32))])) _
  obtain ⟨fs, hr, hrun, hended, hW, hsame⟩ := X0.leave (v := some (.int (0 : Int32))) (fun h => by rw [Bd.returns] at h; cases h)
  refine ⟨_, _, retN X0 hx (t := .boolean) Bd.returns (by simp) (hb hby d3_19) hr, hrun, hended, _, _, rfl, ?_, ⟨_, rfl⟩, hW, hsame.mono (by decide) (by decide)⟩
  exact (⟨rfl, N0, e0⟩ : Q3_2 Z w_PARTITION_KEY w_REGULAR w_CLUSTERING w_STATIC  h0 n0 _ s₁.heap _)
theorem d1_26 : decode method_2_code 26 = .ok (.getstatic 19, 3) := by decide +kernel
theorem d1_29 : decode method_2_code 29 = .ok (.areturn, 1) := by decide +kernel
def Q1_3 (Z : State) (w_PARTITION_KEY : Addr) (w_REGULAR : Addr) (w_CLUSTERING : Addr) (w_STATIC : Addr)  (h0 : Heap) (n0 : Nat) (v : Option Value) (h : Heap) (L : List Loc) : Prop := v = some (.ref w_REGULAR) ∧ Fr n0 L ∧ h = h0
theorem ef1_3 (m : MethodId)  : entryFrame m #[(.int (3 : Int32))] 1 = mkF m 0 #[.val (.int (3 : Int32))] [] := by first | (simp [entryFrame, mkF, argsToLocals, Value.category]; done) | rfl
set_option maxRecDepth 65536 in
set_option maxHeartbeats 40000000 in
theorem rm1_3 (l : Launch) (Z : State) (a0 : Array Value) (hw : ∀ d ∈ tables_1, d.before a0 Z = true) (ws : List Jvm.Cond) {w_PARTITION_KEY : Addr} {w_REGULAR : Addr} {w_CLUSTERING : Addr} {w_STATIC : Addr} (G : Glob Z w_PARTITION_KEY w_REGULAR w_CLUSTERING w_STATIC)  (h0 : Heap) (n0 : Nat) (O0 : Old Z n0 h0) :
    MetFree l (⟨"com/example/grundriss/grundriss/ColumnKindIsPrimaryKeyPinLaw", "pick", "(I)Lcom/example/grundriss/grundriss/ColumnKind;"⟩ : MethodName) (head1 (Jvm.Cond.code (⟨"com/example/grundriss/grundriss/ColumnKindIsPrimaryKeyPinLaw", "pick", "(I)Lcom/example/grundriss/grundriss/ColumnKind;"⟩ : MethodName) method_2_code 1 (some (.object "com/example/grundriss/grundriss/ColumnKind")) :: ws) ({ frames := 0, cells := 0, slots := 0, locals := 0 } : Room)) (fun a U => a = #[(.int (3 : Int32))] ∧ Z.Warmed39 U.vm ∧ U.heap = h0) (fun _ _ _ _ _ => True) (fun _ U o U' => ∃ v L, o = .returned v ∧ Q1_3 Z w_PARTITION_KEY w_REGULAR w_CLUSTERING w_STATIC  h0 n0 v U'.heap L ∧ FrameEnd U o U' L ({ frames := 0, cells := 0, slots := 0, locals := 0 } : Room).cells ({ frames := 0, cells := 0, slots := 0, locals := 0 } : Room).slots) := by
  refine MetFree.of_bodySF (plainFor_of_name pn_com_example_grundriss_grundriss_ColumnKindIsPrimaryKeyPinLaw) hisR ?_
  intro p e s m args below meth c s₁ Bd hml0 hP hK
  obtain ⟨rfl, hZ, hh⟩ := hP
  have hx := Bd.exec
  have hby := Bd.bytes
  have hml : c.maxLocals = 1 := hml0
  have hown : s.vm.findClass "com/example/grundriss/grundriss/ColumnKindIsPrimaryKeyPinLaw" = some m.cls := findClass_of_methodNamed Bd.named
  have hnm := (name_of_methodNamed Bd.named Bd.method).1
  have X0 : Stand p l e ({ frames := 0, cells := 0, slots := 0, locals := 0 } : Room) s m #[(.int (3 : Int32))] below meth c s₁ [] 0 0 := Stand.of_body Bd
  have e0 : s₁.heap = h0 := by rw [← hh, Bd.state]; rfl
  have N0 := Fr.nil n0
  show OGot p.tables e below (s₁.setTop (entryFrame m #[(.int (3 : Int32))] 1)) _
  refine OGot.go (fun t k => castTop (ef1_3 m ) k) ?_
  show OGot p.tables e below (s₁.setTop (mkF m 0 #[.val (.int (3 : Int32))] [])) _
  refine OGot.go (fun t k => XS.iloadN X0.here hx rfl (hb hby d1_0) rfl k) ?_
  show OGot p.tables e below (s₁.setTop (mkF m 1 #[.val (.int (3 : Int32))] [(.int (3 : Int32))])) _
  refine OGot.go (fun t k => XS.ifYes X0.here hx rfl (pc0 := 1) (pc' := 8) rfl (hb hby d1_1) rfl (by decide) (by decide) (by decide) k) ?_
  show OGot p.tables e below (s₁.setTop (mkF m 8 #[.val (.int (3 : Int32))] [])) _
  refine OGot.go (fun t k => XS.iloadN X0.here hx rfl (hb hby d1_8) rfl k) ?_
  show OGot p.tables e below (s₁.setTop (mkF m 9 #[.val (.int (3 : Int32))] [(.int (3 : Int32))])) _
  refine OGot.go (fun t k => XS.iconst X0.here hx rfl (hb hby d1_9) k) ?_
  show OGot p.tables e below (s₁.setTop (mkF m 10 #[.val (.int (3 : Int32))] [(.int (1 : Int32)), (.int (3 : Int32))])) _
  refine OGot.go (fun t k => XS.icmpYes X0.here hx rfl (pc0 := 10) (pc' := 17) rfl (hb hby d1_10) rfl (by decide) (by decide) (by decide) k) ?_
  show OGot p.tables e below (s₁.setTop (mkF m 17 #[.val (.int (3 : Int32))] [])) _
  refine OGot.go (fun t k => XS.iloadN X0.here hx rfl (hb hby d1_17) rfl k) ?_
  show OGot p.tables e below (s₁.setTop (mkF m 18 #[.val (.int (3 : Int32))] [(.int (3 : Int32))])) _
  refine OGot.go (fun t k => XS.iconst X0.here hx rfl (hb hby d1_18) k) ?_
  show OGot p.tables e below (s₁.setTop (mkF m 19 #[.val (.int (3 : Int32))] [(.int (2 : Int32)), (.int (3 : Int32))])) _
  refine OGot.go (fun t k => XS.icmpYes X0.here hx rfl (pc0 := 19) (pc' := 26) rfl (hb hby d1_19) rfl (by decide) (by decide) (by decide) k) ?_
  show OGot p.tables e below (s₁.setTop (mkF m 26 #[.val (.int (3 : Int32))] [])) _
  obtain ⟨T1, X1, e1, st1⟩ := getS2 X0 hx hZ hown (host := "") (Or.inl (ow hw 16 rfl)) Via.refl e0 (G.2.2.1.ext O0.2) (g := (mkF m 26 #[.val (.int (3 : Int32))] [])) rfl (hb hby d1_26)
  refine OGot.go st1 ?_
  show OGot p.tables e below (T1.setTop (mkF m 29 #[.val (.int (3 : Int32))] [(.ref w_REGULAR)])) _
  obtain ⟨fs, hr, hrun, hended, hW, hsame⟩ := X1.leave (v := some (.ref w_REGULAR)) (fun h => by rw [Bd.returns] at h; cases h)
  refine ⟨_, _, oretA X1 hx Bd.returns rfl rfl (hb hby d1_29) hr, hrun, hended, _, _, rfl, ?_, ⟨_, rfl⟩, hW, hsame.mono (by decide) (by decide)⟩
  exact (⟨rfl, N0, e1⟩ : Q1_3 Z w_PARTITION_KEY w_REGULAR w_CLUSTERING w_STATIC  h0 n0 _ T1.heap _)
def Q2_3 (Z : State) (w_PARTITION_KEY : Addr) (w_REGULAR : Addr) (w_CLUSTERING : Addr) (w_STATIC : Addr)  (h0 : Heap) (n0 : Nat) (v : Option Value) (h : Heap) (L : List Loc) : Prop := v = some (.int (0 : Int32)) ∧ Fr n0 L ∧ h = h0
theorem ef2_3 (m : MethodId) (x0 : Addr) : entryFrame m #[(.ref x0)] 1 = mkF m 0 #[.val (.ref x0)] [] := by first | (simp [entryFrame, mkF, argsToLocals, Value.category]; done) | rfl
set_option maxRecDepth 65536 in
set_option maxHeartbeats 40000000 in
theorem rm2_3 (l : Launch) (Z : State) (a0 : Array Value) (hw : ∀ d ∈ tables_1, d.before a0 Z = true) (ws : List Jvm.Cond) {w_PARTITION_KEY : Addr} {w_REGULAR : Addr} {w_CLUSTERING : Addr} {w_STATIC : Addr} (G : Glob Z w_PARTITION_KEY w_REGULAR w_CLUSTERING w_STATIC)  (h0 : Heap) (n0 : Nat) (O0 : Old Z n0 h0) :
    MetFree l (⟨"com/example/grundriss/grundriss/ColumnKind", "isPrimaryKey", "()Z"⟩ : MethodName) (head1 (Jvm.Cond.code (⟨"com/example/grundriss/grundriss/ColumnKind", "isPrimaryKey", "()Z"⟩ : MethodName) prog_10_method_4_code 1 (some .boolean) :: ws) ({ frames := 0, cells := 0, slots := 0, locals := 0 } : Room)) (fun a U => a = #[(.ref w_REGULAR)] ∧ Z.Warmed39 U.vm ∧ U.heap = h0) (fun _ _ _ _ _ => True) (fun _ U o U' => ∃ v L, o = .returned v ∧ Q2_3 Z w_PARTITION_KEY w_REGULAR w_CLUSTERING w_STATIC  h0 n0 v U'.heap L ∧ FrameEnd U o U' L ({ frames := 0, cells := 0, slots := 0, locals := 0 } : Room).cells ({ frames := 0, cells := 0, slots := 0, locals := 0 } : Room).slots) := by
  refine MetFree.of_bodySF (plainFor_of_name pn_com_example_grundriss_grundriss_ColumnKind) hisR ?_
  intro p e s m args below meth c s₁ Bd hml0 hP hK
  obtain ⟨rfl, hZ, hh⟩ := hP
  have hx := Bd.exec
  have hby := Bd.bytes
  have hml : c.maxLocals = 1 := hml0
  have hown : s.vm.findClass "com/example/grundriss/grundriss/ColumnKind" = some m.cls := findClass_of_methodNamed Bd.named
  have hnm := (name_of_methodNamed Bd.named Bd.method).1
  have X0 : Stand p l e ({ frames := 0, cells := 0, slots := 0, locals := 0 } : Room) s m #[(.ref w_REGULAR)] below meth c s₁ [] 0 0 := Stand.of_body Bd
  have e0 : s₁.heap = h0 := by rw [← hh, Bd.state]; rfl
  have N0 := Fr.nil n0
  show OGot p.tables e below (s₁.setTop (entryFrame m #[(.ref w_REGULAR)] 1)) _
  refine OGot.go (fun t k => castTop (ef2_3 m w_REGULAR) k) ?_
  show OGot p.tables e below (s₁.setTop (mkF m 0 #[.val (.ref w_REGULAR)] [])) _
  refine OGot.go (fun t k => XS.aloadN X0.here hx rfl (hb hby d2_0) rfl rfl k) ?_
  show OGot p.tables e below (s₁.setTop (mkF m 1 #[.val (.ref w_REGULAR)] [(.ref w_REGULAR)])) _
  obtain ⟨T2, X2, e2, st2⟩ := getS2 X0 hx hZ hown (host := "") (Or.inl (ow hw 12 rfl)) Via.refl e0 (G.1.ext O0.2) (g := (mkF m 1 #[.val (.ref w_REGULAR)] [(.ref w_REGULAR)])) rfl (hb hby d2_1)
  refine OGot.go st2 ?_
  show OGot p.tables e below (T2.setTop (mkF m 4 #[.val (.ref w_REGULAR)] [(.ref w_PARTITION_KEY), (.ref w_REGULAR)])) _
  have ne3 : w_REGULAR ≠ w_PARTITION_KEY := (Fld.ne G.2.2.2.2.2.2.2.2.1 G.2.2.2.2.2.2.2.2.2.1 (by decide))
  refine OGot.go (fun t k => Jvm.RoadKit.acmp (g := (mkF m 4 #[.val (.ref w_REGULAR)] [(.ref w_PARTITION_KEY), (.ref w_REGULAR)])) X2 hx rfl rfl rfl (pc0 := 4) (pc' := 7) (same := false) rfl (hb hby d2_4) rfl (decide_eq_false fun q => ne3 (Value.ref.inj q)) (by decide) (by decide) k) ?_
  show OGot p.tables e below (T2.setTop (mkF m 7 #[.val (.ref w_REGULAR)] [])) _
  refine OGot.go (fun t k => XS.aloadN X2.here hx rfl (hb hby d2_7) rfl rfl k) ?_
  show OGot p.tables e below (T2.setTop (mkF m 8 #[.val (.ref w_REGULAR)] [(.ref w_REGULAR)])) _
  obtain ⟨T4, X4, e4, st4⟩ := getS2 X2 hx hZ hown (host := "") (Or.inl (ow hw 18 rfl)) Via.refl e2 (G.2.2.2.2.1.ext O0.2) (g := (mkF m 8 #[.val (.ref w_REGULAR)] [(.ref w_REGULAR)])) rfl (hb hby d2_8)
  refine OGot.go st4 ?_
  show OGot p.tables e below (T4.setTop (mkF m 11 #[.val (.ref w_REGULAR)] [(.ref w_CLUSTERING), (.ref w_REGULAR)])) _
  have ne5 : w_REGULAR ≠ w_CLUSTERING := (Fld.ne G.2.2.2.2.2.2.2.2.1 G.2.2.2.2.2.2.2.2.2.2.1 (by decide))
  refine OGot.go (fun t k => Jvm.RoadKit.acmp (g := (mkF m 11 #[.val (.ref w_REGULAR)] [(.ref w_CLUSTERING), (.ref w_REGULAR)])) X4 hx rfl rfl rfl (pc0 := 11) (pc' := 18) (same := false) rfl (hb hby d2_11) rfl (decide_eq_false fun q => ne5 (Value.ref.inj q)) (by decide) (by decide) k) ?_
  show OGot p.tables e below (T4.setTop (mkF m 18 #[.val (.ref w_REGULAR)] [])) _
  refine OGot.go (fun t k => XS.iconst X4.here hx rfl (hb hby d2_18) k) ?_
  show OGot p.tables e below (T4.setTop (mkF m 19 #[.val (.ref w_REGULAR)] [(.int (0 : Int32))])) _
  obtain ⟨fs, hr, hrun, hended, hW, hsame⟩ := X4.leave (v := some (.int (0 : Int32))) (fun h => by rw [Bd.returns] at h; cases h)
  refine ⟨_, _, retN X4 hx (t := .boolean) Bd.returns (by simp) (hb hby d2_19) hr, hrun, hended, _, _, rfl, ?_, ⟨_, rfl⟩, hW, hsame.mono (by decide) (by decide)⟩
  exact (⟨rfl, N0, e4⟩ : Q2_3 Z w_PARTITION_KEY w_REGULAR w_CLUSTERING w_STATIC  h0 n0 _ T4.heap _)
theorem d3_20 : decode method_3_code 20 = .ok (.iconst 0, 1) := by decide +kernel
theorem d3_21 : decode method_3_code 21 = .ok (.ireturn, 1) := by decide +kernel
def Q3_3 (Z : State) (w_PARTITION_KEY : Addr) (w_REGULAR : Addr) (w_CLUSTERING : Addr) (w_STATIC : Addr)  (h0 : Heap) (n0 : Nat) (v : Option Value) (h : Heap) (L : List Loc) : Prop := v = some (.int (0 : Int32)) ∧ Fr n0 L ∧ h = h0
theorem ef3_3 (m : MethodId)  : entryFrame m #[(.int (3 : Int32))] 1 = mkF m 0 #[.val (.int (3 : Int32))] [] := by first | (simp [entryFrame, mkF, argsToLocals, Value.category]; done) | rfl
set_option maxRecDepth 65536 in
set_option maxHeartbeats 40000000 in
theorem rm3_3 (l : Launch) (Z : State) (a0 : Array Value) (hw : ∀ d ∈ tables_1, d.before a0 Z = true) (ws : List Jvm.Cond) {w_PARTITION_KEY : Addr} {w_REGULAR : Addr} {w_CLUSTERING : Addr} {w_STATIC : Addr} (G : Glob Z w_PARTITION_KEY w_REGULAR w_CLUSTERING w_STATIC)  (h0 : Heap) (n0 : Nat) (O0 : Old Z n0 h0) :
    MetFree l (⟨"com/example/grundriss/grundriss/ColumnKindIsPrimaryKeyPinLaw", "expected", "(I)Z"⟩ : MethodName) (head1 (Jvm.Cond.code (⟨"com/example/grundriss/grundriss/ColumnKindIsPrimaryKeyPinLaw", "expected", "(I)Z"⟩ : MethodName) method_3_code 1 (some .boolean) :: ws) ({ frames := 0, cells := 0, slots := 0, locals := 0 } : Room)) (fun a U => a = #[(.int (3 : Int32))] ∧ Z.Warmed39 U.vm ∧ U.heap = h0) (fun _ _ _ _ _ => True) (fun _ U o U' => ∃ v L, o = .returned v ∧ Q3_3 Z w_PARTITION_KEY w_REGULAR w_CLUSTERING w_STATIC  h0 n0 v U'.heap L ∧ FrameEnd U o U' L ({ frames := 0, cells := 0, slots := 0, locals := 0 } : Room).cells ({ frames := 0, cells := 0, slots := 0, locals := 0 } : Room).slots) := by
  refine MetFree.of_bodySF (plainFor_of_name pn_com_example_grundriss_grundriss_ColumnKindIsPrimaryKeyPinLaw) hisR ?_
  intro p e s m args below meth c s₁ Bd hml0 hP hK
  obtain ⟨rfl, hZ, hh⟩ := hP
  have hx := Bd.exec
  have hby := Bd.bytes
  have hml : c.maxLocals = 1 := hml0
  have hown : s.vm.findClass "com/example/grundriss/grundriss/ColumnKindIsPrimaryKeyPinLaw" = some m.cls := findClass_of_methodNamed Bd.named
  have hnm := (name_of_methodNamed Bd.named Bd.method).1
  have X0 : Stand p l e ({ frames := 0, cells := 0, slots := 0, locals := 0 } : Room) s m #[(.int (3 : Int32))] below meth c s₁ [] 0 0 := Stand.of_body Bd
  have e0 : s₁.heap = h0 := by rw [← hh, Bd.state]; rfl
  have N0 := Fr.nil n0
  show OGot p.tables e below (s₁.setTop (entryFrame m #[(.int (3 : Int32))] 1)) _
  refine OGot.go (fun t k => castTop (ef3_3 m ) k) ?_
  show OGot p.tables e below (s₁.setTop (mkF m 0 #[.val (.int (3 : Int32))] [])) _
  refine OGot.go (fun t k => XS.iloadN X0.here hx rfl (hb hby d3_0) rfl k) ?_
  show OGot p.tables e below (s₁.setTop (mkF m 1 #[.val (.int (3 : Int32))] [(.int (3 : Int32))])) _
  refine OGot.go (fun t k => XS.ifYes X0.here hx rfl (pc0 := 1) (pc' := 6) rfl (hb hby d3_1) rfl (by decide) (by decide) (by decide) k) ?_
  show OGot p.tables e below (s₁.setTop (mkF m 6 #[.val (.int (3 : Int32))] [])) _
  refine OGot.go (fun t k => XS.iloadN X0.here hx rfl (hb hby d3_6) rfl k) ?_
  show OGot p.tables e below (s₁.setTop (mkF m 7 #[.val (.int (3 : Int32))] [(.int (3 : Int32))])) _
  refine OGot.go (fun t k => XS.iconst X0.here hx rfl (hb hby d3_7) k) ?_
  show OGot p.tables e below (s₁.setTop (mkF m 8 #[.val (.int (3 : Int32))] [(.int (1 : Int32)), (.int (3 : Int32))])) _
  refine OGot.go (fun t k => XS.icmpYes X0.here hx rfl (pc0 := 8) (pc' := 13) rfl (hb hby d3_8) rfl (by decide) (by decide) (by decide) k) ?_
  show OGot p.tables e below (s₁.setTop (mkF m 13 #[.val (.int (3 : Int32))] [])) _
  refine OGot.go (fun t k => XS.iloadN X0.here hx rfl (hb hby d3_13) rfl k) ?_
  show OGot p.tables e below (s₁.setTop (mkF m 14 #[.val (.int (3 : Int32))] [(.int (3 : Int32))])) _
  refine OGot.go (fun t k => XS.iconst X0.here hx rfl (hb hby d3_14) k) ?_
  show OGot p.tables e below (s₁.setTop (mkF m 15 #[.val (.int (3 : Int32))] [(.int (2 : Int32)), (.int (3 : Int32))])) _
  refine OGot.go (fun t k => XS.icmpYes X0.here hx rfl (pc0 := 15) (pc' := 20) rfl (hb hby d3_15) rfl (by decide) (by decide) (by decide) k) ?_
  show OGot p.tables e below (s₁.setTop (mkF m 20 #[.val (.int (3 : Int32))] [])) _
  refine OGot.go (fun t k => XS.iconst X0.here hx rfl (hb hby d3_20) k) ?_
  show OGot p.tables e below (s₁.setTop (mkF m 21 #[.val (.int (3 : Int32))] [(.int (0 : Int32))])) _
  obtain ⟨fs, hr, hrun, hended, hW, hsame⟩ := X0.leave (v := some (.int (0 : Int32))) (fun h => by rw [Bd.returns] at h; cases h)
  refine ⟨_, _, retN X0 hx (t := .boolean) Bd.returns (by simp) (hb hby d3_21) hr, hrun, hended, _, _, rfl, ?_, ⟨_, rfl⟩, hW, hsame.mono (by decide) (by decide)⟩
  exact (⟨rfl, N0, e0⟩ : Q3_3 Z w_PARTITION_KEY w_REGULAR w_CLUSTERING w_STATIC  h0 n0 _ s₁.heap _)
def Q0 (Z : State) (w_PARTITION_KEY : Addr) (w_REGULAR : Addr) (w_CLUSTERING : Addr) (w_STATIC : Addr) (p1 : Int32) (h0 : Heap) (n0 : Nat) (v : Option Value) (h : Heap) (L : List Loc) : Prop := v = some (.int (1 : Int32)) ∧ Fr n0 L
theorem ef0 (m : MethodId) (x0 : Int32) : entryFrame m #[(.int x0)] maxLocals = mkF m 0 #[.val (.int x0), .unset, .unset] [] := by first | (simp [entryFrame, mkF, argsToLocals, Value.category, maxLocals]; done) | rfl
set_option maxRecDepth 65536 in
set_option maxHeartbeats 40000000 in
theorem rm0 (l : Launch) (Z : State) (a0 : Array Value) (hw : ∀ d ∈ tables_1, d.before a0 Z = true) (ws : List Jvm.Cond) {w_PARTITION_KEY : Addr} {w_REGULAR : Addr} {w_CLUSTERING : Addr} {w_STATIC : Addr} (G : Glob Z w_PARTITION_KEY w_REGULAR w_CLUSTERING w_STATIC) (p1 : Int32) (h0 : Heap) (n0 : Nat) (O0 : Old Z n0 h0) :
    MetFree l x (head1 (Jvm.Cond.code x code maxLocals ret :: ws) room_1) (fun a U => a = #[(.int p1)] ∧ Z.Warmed39 U.vm ∧ U.heap = h0) (fun _ _ _ _ _ => True) (fun _ U o U' => ∃ v L, o = .returned v ∧ Q0 Z w_PARTITION_KEY w_REGULAR w_CLUSTERING w_STATIC p1 h0 n0 v U'.heap L ∧ FrameEnd U o U' L room_1.cells room_1.slots) := by
  refine MetFree.of_bodySF (plainFor_of_name pn_com_example_grundriss_grundriss_ColumnKindIsPrimaryKeyPinLaw) hisR ?_
  intro p e s m args below meth c s₁ Bd hml0 hP hK
  obtain ⟨rfl, hZ, hh⟩ := hP
  have hx := Bd.exec
  have hby := Bd.bytes
  have hml : c.maxLocals = 3 := hml0
  have hown : s.vm.findClass "com/example/grundriss/grundriss/ColumnKindIsPrimaryKeyPinLaw" = some m.cls := findClass_of_methodNamed Bd.named
  have hnm := (name_of_methodNamed Bd.named Bd.method).1
  have X0 : Stand p l e room_1 s m #[(.int p1)] below meth c s₁ [] 0 0 := Stand.of_body Bd
  have e0 : s₁.heap = h0 := by rw [← hh, Bd.state]; rfl
  have N0 := Fr.nil n0
  show OGot p.tables e below (s₁.setTop (entryFrame m #[(.int p1)] maxLocals)) _
  refine OGot.go (fun t k => castTop (ef0 m p1) k) ?_
  show OGot p.tables e below (s₁.setTop (mkF m 0 #[.val (.int p1), .unset, .unset] [])) _
  refine OGot.go (fun t k => XS.iloadN X0.here hx rfl (hb hby at_0) rfl k) ?_
  show OGot p.tables e below (s₁.setTop (mkF m 1 #[.val (.int p1), .unset, .unset] [(.int p1)])) _
  refine OGot.go (fun t k => XS.iconst X0.here hx rfl (hb hby at_1) k) ?_
  show OGot p.tables e below (s₁.setTop (mkF m 2 #[.val (.int p1), .unset, .unset] [(.int (3 : Int32)), (.int p1)])) _
  refine OGot.go (fun t k => XS.iand X0.here hx rfl (hb hby at_2) rfl k) ?_
  show OGot p.tables e below (s₁.setTop (mkF m 3 #[.val (.int p1), .unset, .unset] [(.int (p1 &&& (3 : Int32)))])) _
  rcases own_and3 p1 with hk2 | hk3 | hk4 | hk5
  · rw [hk2]
    show OGot p.tables e below (s₁.setTop (mkF m 3 #[.val (.int p1), .unset, .unset] [(.int (0 : Int32))])) _
    refine OGot.go (fun t k => XS.istoreN X0.here hx rfl (hb hby at_3) rfl (l' := #[.val (.int p1), .val (.int (0 : Int32)), .unset]) rfl k) ?_
    show OGot p.tables e below (s₁.setTop (mkF m 4 #[.val (.int p1), .val (.int (0 : Int32)), .unset] [])) _
    refine OGot.go (fun t k => XS.iloadN X0.here hx rfl (hb hby at_4) rfl k) ?_
    show OGot p.tables e below (s₁.setTop (mkF m 5 #[.val (.int p1), .val (.int (0 : Int32)), .unset] [(.int (0 : Int32))])) _
    obtain ⟨_, _, ⟨T6, L6, k6, n6⟩, -, X6, ⟨Lc6, hQ6, l6, y6, z6⟩, st6⟩ := Jvm.LawKit.callS X0 hx (y := (⟨"com/example/grundriss/grundriss/ColumnKindIsPrimaryKeyPinLaw", "pick", "(I)Lcom/example/grundriss/grundriss/ColumnKind;"⟩ : MethodName)) hown (mvT hZ (ow hw 0 rfl)) (mvT hZ (ow hw 1 rfl)) (mvT hZ (ow hw 2 rfl)) (mvT hZ (ow hw 3 rfl)) (by decide) (backOf (W := 0) (rm1 l Z a0 hw [] G  h0 n0 O0 ) hZ (ow hw 3 rfl) (ow hw 2 rfl) (by decide) (by decide)) (g := (mkF m 5 #[.val (.int p1), .val (.int (0 : Int32)), .unset] [(.int (0 : Int32))])) rfl (by rw [hml]; rfl) (argsL := [(.int (0 : Int32))]) (rest := []) (lenOf pd_0 rfl) rfl (by show 2 * 0 + _ ≤ _; exact Nat.le_of_eq rfl) (hb hby at_5) (fun _ _ => ⟨rfl, e0, (by decide : 0 + 0 ≤ _), (by decide : 0 + 0 ≤ _)⟩)
    dsimp only [Pt.U, Pt.locs, Pt.cells, Pt.slots] at X6 l6 y6 z6 st6 hQ6
    subst l6 y6 z6
    obtain ⟨rfl, N6q, e6⟩ := hQ6
    have N6 := Fr.app N0 N6q
    refine OGot.go st6 ?_
    show OGot p.tables e below (T6.setTop (mkF m 8 #[.val (.int p1), .val (.int (0 : Int32)), .unset] [(.ref w_PARTITION_KEY)])) _
    refine OGot.go (fun t k => XS.astoreN X6.here hx rfl (hb hby at_8) rfl rfl (l' := #[.val (.int p1), .val (.int (0 : Int32)), .val (.ref w_PARTITION_KEY)]) rfl k) ?_
    show OGot p.tables e below (T6.setTop (mkF m 9 #[.val (.int p1), .val (.int (0 : Int32)), .val (.ref w_PARTITION_KEY)] [])) _
    refine OGot.go (fun t k => XS.aloadN X6.here hx rfl (hb hby at_9) rfl rfl k) ?_
    show OGot p.tables e below (T6.setTop (mkF m 10 #[.val (.int p1), .val (.int (0 : Int32)), .val (.ref w_PARTITION_KEY)] [(.ref w_PARTITION_KEY)])) _
    obtain ⟨cq7, kq7, q7a, q7b, q7c⟩ := isOf hZ e6 (G.2.1.ext O0.2)
    obtain ⟨_, _, ⟨T7, L7, k7, n7⟩, -, X7, ⟨Lc7, hQ7, l7, y7, z7⟩, st7⟩ := X6.virtualBack hx (y := (⟨"com/example/grundriss/grundriss/ColumnKind", "isPrimaryKey", "()Z"⟩ : MethodName)) (z := (⟨"com/example/grundriss/grundriss/ColumnKind", "isPrimaryKey", "()Z"⟩ : MethodName)) hown (mvT hZ (ow hw 7 rfl)) (mvT hZ (ow hw 8 rfl)) (notFace_of_selects (args := #[]) (mvT hZ (ow hw 10 rfl))) (mvT hZ (ow hw 10 rfl)) (mvT hZ (ow hw 9 rfl)) (by decide) (backOf (W := 0) (rm2 l Z a0 hw [] G  h0 n0 O0 ) hZ (ow hw 11 rfl) (ow hw 5 rfl) (by decide) (by decide)) q7a q7c (g := (mkF m 10 #[.val (.int p1), .val (.int (0 : Int32)), .val (.ref w_PARTITION_KEY)] [(.ref w_PARTITION_KEY)])) rfl (by rw [hml]; rfl) (Steps.refl _) (argsL := []) (rest := []) (lenOf pd_1 rfl) rfl (by show 2 * 0 + _ ≤ _; exact Nat.le_of_eq rfl) (hb hby at_10) (fun _ _ => ⟨rfl, e6, (by decide : 0 + 0 ≤ _), (by decide : 0 + 0 ≤ _)⟩)
    dsimp only [Pt.U, Pt.locs, Pt.cells, Pt.slots] at X7 l7 y7 z7 st7 hQ7
    subst l7 y7 z7
    obtain ⟨rfl, N7q, e7⟩ := hQ7
    have N7 := Fr.app N6 N7q
    refine OGot.on st7 ?_
    show OGot p.tables e below (T7.setTop (mkF m 13 #[.val (.int p1), .val (.int (0 : Int32)), .val (.ref w_PARTITION_KEY)] [(.int (1 : Int32))])) _
    refine OGot.go (fun t k => XS.iloadN X7.here hx rfl (hb hby at_13) rfl k) ?_
    show OGot p.tables e below (T7.setTop (mkF m 14 #[.val (.int p1), .val (.int (0 : Int32)), .val (.ref w_PARTITION_KEY)] [(.int (0 : Int32)), (.int (1 : Int32))])) _
    obtain ⟨_, _, ⟨T8, L8, k8, n8⟩, -, X8, ⟨Lc8, hQ8, l8, y8, z8⟩, st8⟩ := Jvm.LawKit.callS X7 hx (y := (⟨"com/example/grundriss/grundriss/ColumnKindIsPrimaryKeyPinLaw", "expected", "(I)Z"⟩ : MethodName)) hown (mvT hZ (ow hw 13 rfl)) (mvT hZ (ow hw 14 rfl)) (mvT hZ (ow hw 2 rfl)) (mvT hZ (ow hw 15 rfl)) (by decide) (backOf (W := 1) (rm3 l Z a0 hw [] G  h0 n0 O0 ) hZ (ow hw 15 rfl) (ow hw 2 rfl) (by decide) (by decide)) (g := (mkF m 14 #[.val (.int p1), .val (.int (0 : Int32)), .val (.ref w_PARTITION_KEY)] [(.int (0 : Int32)), (.int (1 : Int32))])) rfl (by rw [hml]; rfl) (argsL := [(.int (0 : Int32))]) (rest := [(.int (1 : Int32))]) (lenOf pd_2 rfl) rfl (by show 2 * 0 + _ ≤ _; exact Nat.le_of_eq rfl) (hb hby at_14) (fun _ _ => ⟨rfl, e7, (by decide : 0 + 0 ≤ _), (by decide : 0 + 0 ≤ _)⟩)
    dsimp only [Pt.U, Pt.locs, Pt.cells, Pt.slots] at X8 l8 y8 z8 st8 hQ8
    subst l8 y8 z8
    obtain ⟨rfl, N8q, e8⟩ := hQ8
    have N8 := Fr.app N7 N8q
    refine OGot.go st8 ?_
    show OGot p.tables e below (T8.setTop (mkF m 17 #[.val (.int p1), .val (.int (0 : Int32)), .val (.ref w_PARTITION_KEY)] [(.int (1 : Int32)), (.int (1 : Int32))])) _
    refine OGot.go (fun t k => XS.icmpNo X8.here hx rfl (hb hby at_17) rfl (by decide) k) ?_
    show OGot p.tables e below (T8.setTop (mkF m 20 #[.val (.int p1), .val (.int (0 : Int32)), .val (.ref w_PARTITION_KEY)] [])) _
    refine OGot.go (fun t k => XS.iconst X8.here hx rfl (hb hby at_20) k) ?_
    show OGot p.tables e below (T8.setTop (mkF m 21 #[.val (.int p1), .val (.int (0 : Int32)), .val (.ref w_PARTITION_KEY)] [(.int (1 : Int32))])) _
    refine OGot.go (fun t k => XS.goto X8.here hx rfl (pc0 := 21) (pc' := 25) rfl (hb hby at_21) (by decide) (by decide) k) ?_
    show OGot p.tables e below (T8.setTop (mkF m 25 #[.val (.int p1), .val (.int (0 : Int32)), .val (.ref w_PARTITION_KEY)] [(.int (1 : Int32))])) _
    obtain ⟨fs, hr, hrun, hended, hW, hsame⟩ := X8.leave (v := some (.int (1 : Int32))) (fun h => by rw [Bd.returns] at h; cases h)
    refine ⟨_, _, retN X8 hx (t := .boolean) Bd.returns (by simp) (hb hby at_25) hr, hrun, hended, _, _, rfl, ?_, ⟨_, rfl⟩, hW, hsame.mono (by decide) (by decide)⟩
    exact (⟨rfl, N8⟩ : Q0 Z w_PARTITION_KEY w_REGULAR w_CLUSTERING w_STATIC p1 h0 n0 _ T8.heap _)
  · rw [hk3]
    show OGot p.tables e below (s₁.setTop (mkF m 3 #[.val (.int p1), .unset, .unset] [(.int (1 : Int32))])) _
    refine OGot.go (fun t k => XS.istoreN X0.here hx rfl (hb hby at_3) rfl (l' := #[.val (.int p1), .val (.int (1 : Int32)), .unset]) rfl k) ?_
    show OGot p.tables e below (s₁.setTop (mkF m 4 #[.val (.int p1), .val (.int (1 : Int32)), .unset] [])) _
    refine OGot.go (fun t k => XS.iloadN X0.here hx rfl (hb hby at_4) rfl k) ?_
    show OGot p.tables e below (s₁.setTop (mkF m 5 #[.val (.int p1), .val (.int (1 : Int32)), .unset] [(.int (1 : Int32))])) _
    obtain ⟨_, _, ⟨T9, L9, k9, n9⟩, -, X9, ⟨Lc9, hQ9, l9, y9, z9⟩, st9⟩ := Jvm.LawKit.callS X0 hx (y := (⟨"com/example/grundriss/grundriss/ColumnKindIsPrimaryKeyPinLaw", "pick", "(I)Lcom/example/grundriss/grundriss/ColumnKind;"⟩ : MethodName)) hown (mvT hZ (ow hw 0 rfl)) (mvT hZ (ow hw 1 rfl)) (mvT hZ (ow hw 2 rfl)) (mvT hZ (ow hw 3 rfl)) (by decide) (backOf (W := 0) (rm1_1 l Z a0 hw [] G  h0 n0 O0 ) hZ (ow hw 3 rfl) (ow hw 2 rfl) (by decide) (by decide)) (g := (mkF m 5 #[.val (.int p1), .val (.int (1 : Int32)), .unset] [(.int (1 : Int32))])) rfl (by rw [hml]; rfl) (argsL := [(.int (1 : Int32))]) (rest := []) (lenOf pd_0 rfl) rfl (by show 2 * 0 + _ ≤ _; exact Nat.le_of_eq rfl) (hb hby at_5) (fun _ _ => ⟨rfl, e0, (by decide : 0 + 0 ≤ _), (by decide : 0 + 0 ≤ _)⟩)
    dsimp only [Pt.U, Pt.locs, Pt.cells, Pt.slots] at X9 l9 y9 z9 st9 hQ9
    subst l9 y9 z9
    obtain ⟨rfl, N9q, e9⟩ := hQ9
    have N9 := Fr.app N0 N9q
    refine OGot.go st9 ?_
    show OGot p.tables e below (T9.setTop (mkF m 8 #[.val (.int p1), .val (.int (1 : Int32)), .unset] [(.ref w_CLUSTERING)])) _
    refine OGot.go (fun t k => XS.astoreN X9.here hx rfl (hb hby at_8) rfl rfl (l' := #[.val (.int p1), .val (.int (1 : Int32)), .val (.ref w_CLUSTERING)]) rfl k) ?_
    show OGot p.tables e below (T9.setTop (mkF m 9 #[.val (.int p1), .val (.int (1 : Int32)), .val (.ref w_CLUSTERING)] [])) _
    refine OGot.go (fun t k => XS.aloadN X9.here hx rfl (hb hby at_9) rfl rfl k) ?_
    show OGot p.tables e below (T9.setTop (mkF m 10 #[.val (.int p1), .val (.int (1 : Int32)), .val (.ref w_CLUSTERING)] [(.ref w_CLUSTERING)])) _
    obtain ⟨cq10, kq10, q10a, q10b, q10c⟩ := isOf hZ e9 (G.2.2.2.2.2.1.ext O0.2)
    obtain ⟨_, _, ⟨T10, L10, k10, n10⟩, -, X10, ⟨Lc10, hQ10, l10, y10, z10⟩, st10⟩ := X9.virtualBack hx (y := (⟨"com/example/grundriss/grundriss/ColumnKind", "isPrimaryKey", "()Z"⟩ : MethodName)) (z := (⟨"com/example/grundriss/grundriss/ColumnKind", "isPrimaryKey", "()Z"⟩ : MethodName)) hown (mvT hZ (ow hw 7 rfl)) (mvT hZ (ow hw 8 rfl)) (notFace_of_selects (args := #[]) (mvT hZ (ow hw 10 rfl))) (mvT hZ (ow hw 10 rfl)) (mvT hZ (ow hw 9 rfl)) (by decide) (backOf (W := 0) (rm2_1 l Z a0 hw [] G  h0 n0 O0 ) hZ (ow hw 11 rfl) (ow hw 5 rfl) (by decide) (by decide)) q10a q10c (g := (mkF m 10 #[.val (.int p1), .val (.int (1 : Int32)), .val (.ref w_CLUSTERING)] [(.ref w_CLUSTERING)])) rfl (by rw [hml]; rfl) (Steps.refl _) (argsL := []) (rest := []) (lenOf pd_1 rfl) rfl (by show 2 * 0 + _ ≤ _; exact Nat.le_of_eq rfl) (hb hby at_10) (fun _ _ => ⟨rfl, e9, (by decide : 0 + 0 ≤ _), (by decide : 0 + 0 ≤ _)⟩)
    dsimp only [Pt.U, Pt.locs, Pt.cells, Pt.slots] at X10 l10 y10 z10 st10 hQ10
    subst l10 y10 z10
    obtain ⟨rfl, N10q, e10⟩ := hQ10
    have N10 := Fr.app N9 N10q
    refine OGot.on st10 ?_
    show OGot p.tables e below (T10.setTop (mkF m 13 #[.val (.int p1), .val (.int (1 : Int32)), .val (.ref w_CLUSTERING)] [(.int (1 : Int32))])) _
    refine OGot.go (fun t k => XS.iloadN X10.here hx rfl (hb hby at_13) rfl k) ?_
    show OGot p.tables e below (T10.setTop (mkF m 14 #[.val (.int p1), .val (.int (1 : Int32)), .val (.ref w_CLUSTERING)] [(.int (1 : Int32)), (.int (1 : Int32))])) _
    obtain ⟨_, _, ⟨T11, L11, k11, n11⟩, -, X11, ⟨Lc11, hQ11, l11, y11, z11⟩, st11⟩ := Jvm.LawKit.callS X10 hx (y := (⟨"com/example/grundriss/grundriss/ColumnKindIsPrimaryKeyPinLaw", "expected", "(I)Z"⟩ : MethodName)) hown (mvT hZ (ow hw 13 rfl)) (mvT hZ (ow hw 14 rfl)) (mvT hZ (ow hw 2 rfl)) (mvT hZ (ow hw 15 rfl)) (by decide) (backOf (W := 1) (rm3_1 l Z a0 hw [] G  h0 n0 O0 ) hZ (ow hw 15 rfl) (ow hw 2 rfl) (by decide) (by decide)) (g := (mkF m 14 #[.val (.int p1), .val (.int (1 : Int32)), .val (.ref w_CLUSTERING)] [(.int (1 : Int32)), (.int (1 : Int32))])) rfl (by rw [hml]; rfl) (argsL := [(.int (1 : Int32))]) (rest := [(.int (1 : Int32))]) (lenOf pd_2 rfl) rfl (by show 2 * 0 + _ ≤ _; exact Nat.le_of_eq rfl) (hb hby at_14) (fun _ _ => ⟨rfl, e10, (by decide : 0 + 0 ≤ _), (by decide : 0 + 0 ≤ _)⟩)
    dsimp only [Pt.U, Pt.locs, Pt.cells, Pt.slots] at X11 l11 y11 z11 st11 hQ11
    subst l11 y11 z11
    obtain ⟨rfl, N11q, e11⟩ := hQ11
    have N11 := Fr.app N10 N11q
    refine OGot.go st11 ?_
    show OGot p.tables e below (T11.setTop (mkF m 17 #[.val (.int p1), .val (.int (1 : Int32)), .val (.ref w_CLUSTERING)] [(.int (1 : Int32)), (.int (1 : Int32))])) _
    refine OGot.go (fun t k => XS.icmpNo X11.here hx rfl (hb hby at_17) rfl (by decide) k) ?_
    show OGot p.tables e below (T11.setTop (mkF m 20 #[.val (.int p1), .val (.int (1 : Int32)), .val (.ref w_CLUSTERING)] [])) _
    refine OGot.go (fun t k => XS.iconst X11.here hx rfl (hb hby at_20) k) ?_
    show OGot p.tables e below (T11.setTop (mkF m 21 #[.val (.int p1), .val (.int (1 : Int32)), .val (.ref w_CLUSTERING)] [(.int (1 : Int32))])) _
    refine OGot.go (fun t k => XS.goto X11.here hx rfl (pc0 := 21) (pc' := 25) rfl (hb hby at_21) (by decide) (by decide) k) ?_
    show OGot p.tables e below (T11.setTop (mkF m 25 #[.val (.int p1), .val (.int (1 : Int32)), .val (.ref w_CLUSTERING)] [(.int (1 : Int32))])) _
    obtain ⟨fs, hr, hrun, hended, hW, hsame⟩ := X11.leave (v := some (.int (1 : Int32))) (fun h => by rw [Bd.returns] at h; cases h)
    refine ⟨_, _, retN X11 hx (t := .boolean) Bd.returns (by simp) (hb hby at_25) hr, hrun, hended, _, _, rfl, ?_, ⟨_, rfl⟩, hW, hsame.mono (by decide) (by decide)⟩
    exact (⟨rfl, N11⟩ : Q0 Z w_PARTITION_KEY w_REGULAR w_CLUSTERING w_STATIC p1 h0 n0 _ T11.heap _)
  · rw [hk4]
    show OGot p.tables e below (s₁.setTop (mkF m 3 #[.val (.int p1), .unset, .unset] [(.int (2 : Int32))])) _
    refine OGot.go (fun t k => XS.istoreN X0.here hx rfl (hb hby at_3) rfl (l' := #[.val (.int p1), .val (.int (2 : Int32)), .unset]) rfl k) ?_
    show OGot p.tables e below (s₁.setTop (mkF m 4 #[.val (.int p1), .val (.int (2 : Int32)), .unset] [])) _
    refine OGot.go (fun t k => XS.iloadN X0.here hx rfl (hb hby at_4) rfl k) ?_
    show OGot p.tables e below (s₁.setTop (mkF m 5 #[.val (.int p1), .val (.int (2 : Int32)), .unset] [(.int (2 : Int32))])) _
    obtain ⟨_, _, ⟨T12, L12, k12, n12⟩, -, X12, ⟨Lc12, hQ12, l12, y12, z12⟩, st12⟩ := Jvm.LawKit.callS X0 hx (y := (⟨"com/example/grundriss/grundriss/ColumnKindIsPrimaryKeyPinLaw", "pick", "(I)Lcom/example/grundriss/grundriss/ColumnKind;"⟩ : MethodName)) hown (mvT hZ (ow hw 0 rfl)) (mvT hZ (ow hw 1 rfl)) (mvT hZ (ow hw 2 rfl)) (mvT hZ (ow hw 3 rfl)) (by decide) (backOf (W := 0) (rm1_2 l Z a0 hw [] G  h0 n0 O0 ) hZ (ow hw 3 rfl) (ow hw 2 rfl) (by decide) (by decide)) (g := (mkF m 5 #[.val (.int p1), .val (.int (2 : Int32)), .unset] [(.int (2 : Int32))])) rfl (by rw [hml]; rfl) (argsL := [(.int (2 : Int32))]) (rest := []) (lenOf pd_0 rfl) rfl (by show 2 * 0 + _ ≤ _; exact Nat.le_of_eq rfl) (hb hby at_5) (fun _ _ => ⟨rfl, e0, (by decide : 0 + 0 ≤ _), (by decide : 0 + 0 ≤ _)⟩)
    dsimp only [Pt.U, Pt.locs, Pt.cells, Pt.slots] at X12 l12 y12 z12 st12 hQ12
    subst l12 y12 z12
    obtain ⟨rfl, N12q, e12⟩ := hQ12
    have N12 := Fr.app N0 N12q
    refine OGot.go st12 ?_
    show OGot p.tables e below (T12.setTop (mkF m 8 #[.val (.int p1), .val (.int (2 : Int32)), .unset] [(.ref w_STATIC)])) _
    refine OGot.go (fun t k => XS.astoreN X12.here hx rfl (hb hby at_8) rfl rfl (l' := #[.val (.int p1), .val (.int (2 : Int32)), .val (.ref w_STATIC)]) rfl k) ?_
    show OGot p.tables e below (T12.setTop (mkF m 9 #[.val (.int p1), .val (.int (2 : Int32)), .val (.ref w_STATIC)] [])) _
    refine OGot.go (fun t k => XS.aloadN X12.here hx rfl (hb hby at_9) rfl rfl k) ?_
    show OGot p.tables e below (T12.setTop (mkF m 10 #[.val (.int p1), .val (.int (2 : Int32)), .val (.ref w_STATIC)] [(.ref w_STATIC)])) _
    obtain ⟨cq13, kq13, q13a, q13b, q13c⟩ := isOf hZ e12 (G.2.2.2.2.2.2.2.1.ext O0.2)
    obtain ⟨_, _, ⟨T13, L13, k13, n13⟩, -, X13, ⟨Lc13, hQ13, l13, y13, z13⟩, st13⟩ := X12.virtualBack hx (y := (⟨"com/example/grundriss/grundriss/ColumnKind", "isPrimaryKey", "()Z"⟩ : MethodName)) (z := (⟨"com/example/grundriss/grundriss/ColumnKind", "isPrimaryKey", "()Z"⟩ : MethodName)) hown (mvT hZ (ow hw 7 rfl)) (mvT hZ (ow hw 8 rfl)) (notFace_of_selects (args := #[]) (mvT hZ (ow hw 10 rfl))) (mvT hZ (ow hw 10 rfl)) (mvT hZ (ow hw 9 rfl)) (by decide) (backOf (W := 0) (rm2_2 l Z a0 hw [] G  h0 n0 O0 ) hZ (ow hw 11 rfl) (ow hw 5 rfl) (by decide) (by decide)) q13a q13c (g := (mkF m 10 #[.val (.int p1), .val (.int (2 : Int32)), .val (.ref w_STATIC)] [(.ref w_STATIC)])) rfl (by rw [hml]; rfl) (Steps.refl _) (argsL := []) (rest := []) (lenOf pd_1 rfl) rfl (by show 2 * 0 + _ ≤ _; exact Nat.le_of_eq rfl) (hb hby at_10) (fun _ _ => ⟨rfl, e12, (by decide : 0 + 0 ≤ _), (by decide : 0 + 0 ≤ _)⟩)
    dsimp only [Pt.U, Pt.locs, Pt.cells, Pt.slots] at X13 l13 y13 z13 st13 hQ13
    subst l13 y13 z13
    obtain ⟨rfl, N13q, e13⟩ := hQ13
    have N13 := Fr.app N12 N13q
    refine OGot.on st13 ?_
    show OGot p.tables e below (T13.setTop (mkF m 13 #[.val (.int p1), .val (.int (2 : Int32)), .val (.ref w_STATIC)] [(.int (0 : Int32))])) _
    refine OGot.go (fun t k => XS.iloadN X13.here hx rfl (hb hby at_13) rfl k) ?_
    show OGot p.tables e below (T13.setTop (mkF m 14 #[.val (.int p1), .val (.int (2 : Int32)), .val (.ref w_STATIC)] [(.int (2 : Int32)), (.int (0 : Int32))])) _
    obtain ⟨_, _, ⟨T14, L14, k14, n14⟩, -, X14, ⟨Lc14, hQ14, l14, y14, z14⟩, st14⟩ := Jvm.LawKit.callS X13 hx (y := (⟨"com/example/grundriss/grundriss/ColumnKindIsPrimaryKeyPinLaw", "expected", "(I)Z"⟩ : MethodName)) hown (mvT hZ (ow hw 13 rfl)) (mvT hZ (ow hw 14 rfl)) (mvT hZ (ow hw 2 rfl)) (mvT hZ (ow hw 15 rfl)) (by decide) (backOf (W := 1) (rm3_2 l Z a0 hw [] G  h0 n0 O0 ) hZ (ow hw 15 rfl) (ow hw 2 rfl) (by decide) (by decide)) (g := (mkF m 14 #[.val (.int p1), .val (.int (2 : Int32)), .val (.ref w_STATIC)] [(.int (2 : Int32)), (.int (0 : Int32))])) rfl (by rw [hml]; rfl) (argsL := [(.int (2 : Int32))]) (rest := [(.int (0 : Int32))]) (lenOf pd_2 rfl) rfl (by show 2 * 0 + _ ≤ _; exact Nat.le_of_eq rfl) (hb hby at_14) (fun _ _ => ⟨rfl, e13, (by decide : 0 + 0 ≤ _), (by decide : 0 + 0 ≤ _)⟩)
    dsimp only [Pt.U, Pt.locs, Pt.cells, Pt.slots] at X14 l14 y14 z14 st14 hQ14
    subst l14 y14 z14
    obtain ⟨rfl, N14q, e14⟩ := hQ14
    have N14 := Fr.app N13 N14q
    refine OGot.go st14 ?_
    show OGot p.tables e below (T14.setTop (mkF m 17 #[.val (.int p1), .val (.int (2 : Int32)), .val (.ref w_STATIC)] [(.int (0 : Int32)), (.int (0 : Int32))])) _
    refine OGot.go (fun t k => XS.icmpNo X14.here hx rfl (hb hby at_17) rfl (by decide) k) ?_
    show OGot p.tables e below (T14.setTop (mkF m 20 #[.val (.int p1), .val (.int (2 : Int32)), .val (.ref w_STATIC)] [])) _
    refine OGot.go (fun t k => XS.iconst X14.here hx rfl (hb hby at_20) k) ?_
    show OGot p.tables e below (T14.setTop (mkF m 21 #[.val (.int p1), .val (.int (2 : Int32)), .val (.ref w_STATIC)] [(.int (1 : Int32))])) _
    refine OGot.go (fun t k => XS.goto X14.here hx rfl (pc0 := 21) (pc' := 25) rfl (hb hby at_21) (by decide) (by decide) k) ?_
    show OGot p.tables e below (T14.setTop (mkF m 25 #[.val (.int p1), .val (.int (2 : Int32)), .val (.ref w_STATIC)] [(.int (1 : Int32))])) _
    obtain ⟨fs, hr, hrun, hended, hW, hsame⟩ := X14.leave (v := some (.int (1 : Int32))) (fun h => by rw [Bd.returns] at h; cases h)
    refine ⟨_, _, retN X14 hx (t := .boolean) Bd.returns (by simp) (hb hby at_25) hr, hrun, hended, _, _, rfl, ?_, ⟨_, rfl⟩, hW, hsame.mono (by decide) (by decide)⟩
    exact (⟨rfl, N14⟩ : Q0 Z w_PARTITION_KEY w_REGULAR w_CLUSTERING w_STATIC p1 h0 n0 _ T14.heap _)
  · rw [hk5]
    show OGot p.tables e below (s₁.setTop (mkF m 3 #[.val (.int p1), .unset, .unset] [(.int (3 : Int32))])) _
    refine OGot.go (fun t k => XS.istoreN X0.here hx rfl (hb hby at_3) rfl (l' := #[.val (.int p1), .val (.int (3 : Int32)), .unset]) rfl k) ?_
    show OGot p.tables e below (s₁.setTop (mkF m 4 #[.val (.int p1), .val (.int (3 : Int32)), .unset] [])) _
    refine OGot.go (fun t k => XS.iloadN X0.here hx rfl (hb hby at_4) rfl k) ?_
    show OGot p.tables e below (s₁.setTop (mkF m 5 #[.val (.int p1), .val (.int (3 : Int32)), .unset] [(.int (3 : Int32))])) _
    obtain ⟨_, _, ⟨T15, L15, k15, n15⟩, -, X15, ⟨Lc15, hQ15, l15, y15, z15⟩, st15⟩ := Jvm.LawKit.callS X0 hx (y := (⟨"com/example/grundriss/grundriss/ColumnKindIsPrimaryKeyPinLaw", "pick", "(I)Lcom/example/grundriss/grundriss/ColumnKind;"⟩ : MethodName)) hown (mvT hZ (ow hw 0 rfl)) (mvT hZ (ow hw 1 rfl)) (mvT hZ (ow hw 2 rfl)) (mvT hZ (ow hw 3 rfl)) (by decide) (backOf (W := 0) (rm1_3 l Z a0 hw [] G  h0 n0 O0 ) hZ (ow hw 3 rfl) (ow hw 2 rfl) (by decide) (by decide)) (g := (mkF m 5 #[.val (.int p1), .val (.int (3 : Int32)), .unset] [(.int (3 : Int32))])) rfl (by rw [hml]; rfl) (argsL := [(.int (3 : Int32))]) (rest := []) (lenOf pd_0 rfl) rfl (by show 2 * 0 + _ ≤ _; exact Nat.le_of_eq rfl) (hb hby at_5) (fun _ _ => ⟨rfl, e0, (by decide : 0 + 0 ≤ _), (by decide : 0 + 0 ≤ _)⟩)
    dsimp only [Pt.U, Pt.locs, Pt.cells, Pt.slots] at X15 l15 y15 z15 st15 hQ15
    subst l15 y15 z15
    obtain ⟨rfl, N15q, e15⟩ := hQ15
    have N15 := Fr.app N0 N15q
    refine OGot.go st15 ?_
    show OGot p.tables e below (T15.setTop (mkF m 8 #[.val (.int p1), .val (.int (3 : Int32)), .unset] [(.ref w_REGULAR)])) _
    refine OGot.go (fun t k => XS.astoreN X15.here hx rfl (hb hby at_8) rfl rfl (l' := #[.val (.int p1), .val (.int (3 : Int32)), .val (.ref w_REGULAR)]) rfl k) ?_
    show OGot p.tables e below (T15.setTop (mkF m 9 #[.val (.int p1), .val (.int (3 : Int32)), .val (.ref w_REGULAR)] [])) _
    refine OGot.go (fun t k => XS.aloadN X15.here hx rfl (hb hby at_9) rfl rfl k) ?_
    show OGot p.tables e below (T15.setTop (mkF m 10 #[.val (.int p1), .val (.int (3 : Int32)), .val (.ref w_REGULAR)] [(.ref w_REGULAR)])) _
    obtain ⟨cq16, kq16, q16a, q16b, q16c⟩ := isOf hZ e15 (G.2.2.2.1.ext O0.2)
    obtain ⟨_, _, ⟨T16, L16, k16, n16⟩, -, X16, ⟨Lc16, hQ16, l16, y16, z16⟩, st16⟩ := X15.virtualBack hx (y := (⟨"com/example/grundriss/grundriss/ColumnKind", "isPrimaryKey", "()Z"⟩ : MethodName)) (z := (⟨"com/example/grundriss/grundriss/ColumnKind", "isPrimaryKey", "()Z"⟩ : MethodName)) hown (mvT hZ (ow hw 7 rfl)) (mvT hZ (ow hw 8 rfl)) (notFace_of_selects (args := #[]) (mvT hZ (ow hw 10 rfl))) (mvT hZ (ow hw 10 rfl)) (mvT hZ (ow hw 9 rfl)) (by decide) (backOf (W := 0) (rm2_3 l Z a0 hw [] G  h0 n0 O0 ) hZ (ow hw 11 rfl) (ow hw 5 rfl) (by decide) (by decide)) q16a q16c (g := (mkF m 10 #[.val (.int p1), .val (.int (3 : Int32)), .val (.ref w_REGULAR)] [(.ref w_REGULAR)])) rfl (by rw [hml]; rfl) (Steps.refl _) (argsL := []) (rest := []) (lenOf pd_1 rfl) rfl (by show 2 * 0 + _ ≤ _; exact Nat.le_of_eq rfl) (hb hby at_10) (fun _ _ => ⟨rfl, e15, (by decide : 0 + 0 ≤ _), (by decide : 0 + 0 ≤ _)⟩)
    dsimp only [Pt.U, Pt.locs, Pt.cells, Pt.slots] at X16 l16 y16 z16 st16 hQ16
    subst l16 y16 z16
    obtain ⟨rfl, N16q, e16⟩ := hQ16
    have N16 := Fr.app N15 N16q
    refine OGot.on st16 ?_
    show OGot p.tables e below (T16.setTop (mkF m 13 #[.val (.int p1), .val (.int (3 : Int32)), .val (.ref w_REGULAR)] [(.int (0 : Int32))])) _
    refine OGot.go (fun t k => XS.iloadN X16.here hx rfl (hb hby at_13) rfl k) ?_
    show OGot p.tables e below (T16.setTop (mkF m 14 #[.val (.int p1), .val (.int (3 : Int32)), .val (.ref w_REGULAR)] [(.int (3 : Int32)), (.int (0 : Int32))])) _
    obtain ⟨_, _, ⟨T17, L17, k17, n17⟩, -, X17, ⟨Lc17, hQ17, l17, y17, z17⟩, st17⟩ := Jvm.LawKit.callS X16 hx (y := (⟨"com/example/grundriss/grundriss/ColumnKindIsPrimaryKeyPinLaw", "expected", "(I)Z"⟩ : MethodName)) hown (mvT hZ (ow hw 13 rfl)) (mvT hZ (ow hw 14 rfl)) (mvT hZ (ow hw 2 rfl)) (mvT hZ (ow hw 15 rfl)) (by decide) (backOf (W := 1) (rm3_3 l Z a0 hw [] G  h0 n0 O0 ) hZ (ow hw 15 rfl) (ow hw 2 rfl) (by decide) (by decide)) (g := (mkF m 14 #[.val (.int p1), .val (.int (3 : Int32)), .val (.ref w_REGULAR)] [(.int (3 : Int32)), (.int (0 : Int32))])) rfl (by rw [hml]; rfl) (argsL := [(.int (3 : Int32))]) (rest := [(.int (0 : Int32))]) (lenOf pd_2 rfl) rfl (by show 2 * 0 + _ ≤ _; exact Nat.le_of_eq rfl) (hb hby at_14) (fun _ _ => ⟨rfl, e16, (by decide : 0 + 0 ≤ _), (by decide : 0 + 0 ≤ _)⟩)
    dsimp only [Pt.U, Pt.locs, Pt.cells, Pt.slots] at X17 l17 y17 z17 st17 hQ17
    subst l17 y17 z17
    obtain ⟨rfl, N17q, e17⟩ := hQ17
    have N17 := Fr.app N16 N17q
    refine OGot.go st17 ?_
    show OGot p.tables e below (T17.setTop (mkF m 17 #[.val (.int p1), .val (.int (3 : Int32)), .val (.ref w_REGULAR)] [(.int (0 : Int32)), (.int (0 : Int32))])) _
    refine OGot.go (fun t k => XS.icmpNo X17.here hx rfl (hb hby at_17) rfl (by decide) k) ?_
    show OGot p.tables e below (T17.setTop (mkF m 20 #[.val (.int p1), .val (.int (3 : Int32)), .val (.ref w_REGULAR)] [])) _
    refine OGot.go (fun t k => XS.iconst X17.here hx rfl (hb hby at_20) k) ?_
    show OGot p.tables e below (T17.setTop (mkF m 21 #[.val (.int p1), .val (.int (3 : Int32)), .val (.ref w_REGULAR)] [(.int (1 : Int32))])) _
    refine OGot.go (fun t k => XS.goto X17.here hx rfl (pc0 := 21) (pc' := 25) rfl (hb hby at_21) (by decide) (by decide) k) ?_
    show OGot p.tables e below (T17.setTop (mkF m 25 #[.val (.int p1), .val (.int (3 : Int32)), .val (.ref w_REGULAR)] [(.int (1 : Int32))])) _
    obtain ⟨fs, hr, hrun, hended, hW, hsame⟩ := X17.leave (v := some (.int (1 : Int32))) (fun h => by rw [Bd.returns] at h; cases h)
    refine ⟨_, _, retN X17 hx (t := .boolean) Bd.returns (by simp) (hb hby at_25) hr, hrun, hended, _, _, rfl, ?_, ⟨_, rfl⟩, hW, hsame.mono (by decide) (by decide)⟩
    exact (⟨rfl, N17⟩ : Q0 Z w_PARTITION_KEY w_REGULAR w_CLUSTERING w_STATIC p1 h0 n0 _ T17.heap _)
set_option maxRecDepth 65536 in
set_option maxHeartbeats 40000000 in
theorem comes_1 {Post : Tables → Env → Array Value → State → Outcome → State → Prop} (hpost : ∀ tb e args s v u, (limb_1_1.after args s (.returned v) u = true ∧ limb_1_2.after args s (.returned v) u = true ∧ True) → FrameEnd s (.returned v) u (Jvm.fieldLocs frame_1_writes args s ++ Jvm.arrayLocs frame_1_arrays args s ++ Jvm.staticLocs frame_1_statics s) 0 0 → Post tb e args s (.returned v) u) :
    ArmFor flags0 classFile x code maxLocals ret World_1 tables_1 room_1 Calls_1 rest_1 Pre_1 Post := by
  intro l hfl _ _ p e ha hc hk s m args below hf hA hF happ hP
  obtain ⟨hcalls, hrest, hpre⟩ := hP
  obtain ⟨-, -, -, hnamed, -, -, -, hat⟩ := (Spec.applies_iff hf).mp happ
  obtain ⟨hg, hn⟩ := and_e (Cond.before_iff.mp (show (Jvm.Cond.and given_1 narrow_1).before args s = true from hpre))
  obtain ⟨g0, g0r⟩ := and_e hg
  obtain ⟨w0, rfl⟩ : ∃ w0 : Value, args = #[w0] := by
    have hs : args.size = 1 := by simpa [Cond.value, given_1] using g0
    obtain ⟨L⟩ := args
    match L, hs with
    | [w0], _ => exact ⟨w0, rfl⟩
  have hw := fun d (hd : d ∈ tables_1) => atoms_spec (ws := Jvm.Cond.code x code maxLocals ret :: tables_1) hat d (List.mem_cons_of_mem _ hd)
  obtain ⟨i0, ei0⟩ := is_v g0r
  obtain rfl : w0 = (.int i0) := Option.some.inj ei0
  obtain ⟨m0, m0r⟩ := and_e hn
  obtain ⟨m1, m1r⟩ := and_e m0r
  obtain ⟨m2, m2r⟩ := and_e m1r
  obtain ⟨m3, m3r⟩ := and_e m2r
  obtain ⟨m4, m4r⟩ := and_e m3r
  obtain ⟨m5, m5r⟩ := and_e m4r
  obtain ⟨m6, m6r⟩ := and_e m5r
  obtain ⟨w_PARTITION_KEY, ev_w_PARTITION_KEY⟩ := exa_v m0
  obtain ⟨w_REGULAR, ev_w_REGULAR⟩ := exa_v m1
  obtain ⟨w_CLUSTERING, ev_w_CLUSTERING⟩ := exa_v m4
  obtain ⟨w_STATIC, ev_w_STATIC⟩ := exa_v m6
  have G : Glob s w_PARTITION_KEY w_REGULAR w_CLUSTERING w_STATIC := ⟨(Sta.start ev_w_PARTITION_KEY (Or.inr ⟨(ow hw 5 rfl), (ow hw 6 rfl)⟩)), (Exa.start ev_w_PARTITION_KEY m0), (Sta.start ev_w_REGULAR (Or.inr ⟨(ow hw 5 rfl), (ow hw 17 rfl)⟩)), (Exa.start ev_w_REGULAR m1), (Sta.start ev_w_CLUSTERING (Or.inr ⟨(ow hw 5 rfl), (ow hw 19 rfl)⟩)), (Exa.start ev_w_CLUSTERING m4), (Sta.start ev_w_STATIC (Or.inr ⟨(ow hw 5 rfl), (ow hw 21 rfl)⟩)), (Exa.start ev_w_STATIC m6), (Fld.start ((fld_at ev_w_REGULAR).symm.trans (oeq_int m2))), (Fld.start ((fld_at ev_w_PARTITION_KEY).symm.trans (oeq_int m3))), (Fld.start ((fld_at ev_w_CLUSTERING).symm.trans (oeq_int m5))), (Fld.start ((fld_at ev_w_STATIC).symm.trans (oeq_int m6r)))⟩
  obtain ⟨n, o, h1, h2, h3, _, L, rfl, ⟨rfl, N⟩, hq⟩ := rm0 l s _ hw tables_1 G i0 s.heap s.heap.size (Old.start s) p e ha hc hk s m _ below hf ((Spec.applies_iff_loose hf).mp happ).1 ⟨rfl, State.Warmed39.refl s, rfl⟩ trivial
  refine ⟨n, _, h1, h2, h3, hpost _ _ _ _ _ _ ⟨Cond.after_iff.mpr rfl, Cond.after_iff.mpr (eq_i res_at (Term.int_eval (1)) rfl), trivial⟩ ⟨hq.1, hq.2.1, (hq.2.2.sift fun y hy => Or.inr (N y hy)).mono (by decide) (by decide)⟩⟩
theorem main_1_1 : Claimed_1_1 := comes_1 fun _ _ _ _ _ _ h hF => ⟨h.1, hF⟩
theorem main_1_2 : Claimed_1_2 := comes_1 fun _ _ _ _ _ _ h hF => ⟨h.2.1, hF⟩
end Jvm.Pilot.@@N@@
namespace Jvm.Pilot.@@N@@
open Jvm Jvm.ClassFile Sem Op Lib Jvm.Free Jvm.Stand Jvm.Pilot.@@N@@.Jvm.D
/-! MADE BY PROGRAM (witnessworld.py) out of the Statement's table words and the real class files: 12 classes; the members and pool entries that the words name. The judged class is class 1, her method 3. -/
namespace start1
open Jvm.ClassFile
def u (s : String) : CpInfo := .utf8 (stringToUtf16 s)
/-- a pool by its gaps: so many unusable entries, then the entry; so many at the end -/
def gap : Nat → List CpInfo → List CpInfo
  | 0, r => r
  | n + 1, r => .unusable :: gap n r
def poolList (es : List (Nat × CpInfo)) (last : Nat) : List CpInfo := es.foldr (fun e r => gap e.1 (e.2 :: r)) (gap last [])
def pool (es : List (Nat × CpInfo)) (last : Nat) : Array CpInfo := ⟨poolList es last⟩
def fileOf (pool : Array CpInfo) (this : Nat) (attrs : Array Attribute := #[]) (ms : Array MethodInfo := #[]) (fl : Nat := 33) (sup : Nat := 0) (ifs : Array Nat := #[]) (fds : Array FieldInfo := #[]) : ClassFile where
  minorVersion := 0
  majorVersion := 65
  constantPool := pool
  accessFlags := fl
  thisClass := this
  superClass := sup
  interfaces := ifs
  fields := fds
  methods := ms
  attributes := attrs
def plain (name : String) (sup : Option ClassId) : Class where
  name := name
  kind := .ordinary
  loader := none
  accessFlags := 33
  super := sup
  interfaces := #[]
  cf := none
  fields := #[]
  methods := #[]
  instanceTypes := #[]
  staticTypes := #[]
  resolved := #[]
  callSites := []
  init := .initialized
  statics := none
  mirror := none

def pool0 : Array CpInfo := pool [(5, u "<init>"), (0, u "()V"), (1, .class_ 10), (1, u "java/lang/Object")] 113

def k0m0 : Method := { name := "<init>", desc := "()V", sig := { parameters := [], returnType := none }, accessFlags := 1, code := none }
/-- java/lang/Object -/
def k0 : Class := { plain "java/lang/Object" none with
  accessFlags := 33
  interfaces := #[]
  cf := some (fileOf pool0 8 #[] #[{ accessFlags := 1, nameIndex := 5, descriptorIndex := 6, attributes := #[] }] 33 0 #[] #[])
  fields := #[]
  methods := #[k0m0]
  instanceTypes := #[]
  staticTypes := #[]
  resolved := Array.replicate 124 none
  statics := none }

def pool1 : Array CpInfo := pool [(2, .class_ 4), (1, u "java/lang/Object"), (0, u "<init>"), (0, u "()V"), (0, .fieldref 8 9), (0, .class_ 10), (0, .nameAndType 11 12), (0, u "com/example/grundriss/grundriss/ColumnKind"), (0, u "PARTITION_KEY"), (0, u "Lcom/example/grundriss/grundriss/ColumnKind;"), (0, .fieldref 8 14), (0, .nameAndType 15 12), (0, u "CLUSTERING"), (0, .fieldref 8 17), (0, .nameAndType 18 12), (0, u "STATIC"), (0, .fieldref 8 20), (0, .nameAndType 21 12), (0, u "REGULAR"), (0, .methodref 23 24), (0, .class_ 25), (0, .nameAndType 26 27), (0, u "com/example/grundriss/grundriss/ColumnKindIsPrimaryKeyPinLaw"), (0, u "pick"), (0, u "(I)Lcom/example/grundriss/grundriss/ColumnKind;"), (0, .methodref 8 29), (0, .nameAndType 30 31), (0, u "isPrimaryKey"), (0, u "()Z"), (0, .methodref 23 33), (0, .nameAndType 34 35), (0, u "expected"), (0, u "(I)Z"), (3, u "law")] 2

def k1m0 : Method := { name := "<init>", desc := "()V", sig := { parameters := [], returnType := none }, accessFlags := 2, code := none }
def k1c1 : Code := { maxStack := 2, maxLocals := 1, code := method_2_code, exceptionTable := #[], attributes := #[] }
def k1m1 : Method := { name := "pick", desc := "(I)Lcom/example/grundriss/grundriss/ColumnKind;", sig := { parameters := [.int], returnType := some (.object "com/example/grundriss/grundriss/ColumnKind") }, accessFlags := 10, code := some k1c1 }
def k1c2 : Code := { maxStack := 2, maxLocals := 1, code := method_3_code, exceptionTable := #[], attributes := #[] }
def k1m2 : Method := { name := "expected", desc := "(I)Z", sig := { parameters := [.int], returnType := some .boolean }, accessFlags := 10, code := some k1c2 }
def k1c3 : Code := { maxStack := 2, maxLocals := 3, code := code, exceptionTable := #[], attributes := #[] }
def k1m3 : Method := { name := "law", desc := "(I)Z", sig := { parameters := [.int], returnType := some .boolean }, accessFlags := 9, code := some k1c3 }
/-- com/example/grundriss/grundriss/ColumnKindIsPrimaryKeyPinLaw -/
def k1 : Class := { plain "com/example/grundriss/grundriss/ColumnKindIsPrimaryKeyPinLaw" (some 0) with
  accessFlags := 49
  interfaces := #[]
  cf := some (fileOf pool1 23 #[] #[{ accessFlags := 2, nameIndex := 5, descriptorIndex := 6, attributes := #[] }, { accessFlags := 10, nameIndex := 26, descriptorIndex := 27, attributes := #[] }, { accessFlags := 10, nameIndex := 34, descriptorIndex := 35, attributes := #[] }, { accessFlags := 9, nameIndex := 39, descriptorIndex := 35, attributes := #[] }] 49 2 #[] #[])
  fields := #[]
  methods := #[k1m0, k1m1, k1m2, k1m3]
  instanceTypes := #[]
  staticTypes := #[]
  resolved := Array.replicate 42 none
  statics := none }

def pool2 : Array CpInfo := pool [(1, .class_ 2), (0, u "java/lang/constant/Constable"), (0, .class_ 4), (0, u "java/lang/Object")] 6

/-- java/lang/constant/Constable -/
def k2 : Class := { plain "java/lang/constant/Constable" (some 0) with
  accessFlags := 1537
  interfaces := #[]
  cf := some (fileOf pool2 1 #[] #[] 1537 3 #[] #[])
  fields := #[]
  methods := #[]
  instanceTypes := #[]
  staticTypes := #[]
  resolved := Array.replicate 11 none
  statics := none }

def pool3 : Array CpInfo := pool [(1, .class_ 2), (0, u "java/lang/Comparable"), (0, .class_ 4), (0, u "java/lang/Object")] 7

/-- java/lang/Comparable -/
def k3 : Class := { plain "java/lang/Comparable" (some 0) with
  accessFlags := 1537
  interfaces := #[]
  cf := some (fileOf pool3 1 #[] #[] 1537 3 #[] #[])
  fields := #[]
  methods := #[]
  instanceTypes := #[]
  staticTypes := #[]
  resolved := Array.replicate 12 none
  statics := none }

def pool4 : Array CpInfo := pool [(1, .class_ 2), (0, u "java/io/Serializable"), (0, .class_ 4), (0, u "java/lang/Object")] 2

/-- java/io/Serializable -/
def k4 : Class := { plain "java/io/Serializable" (some 0) with
  accessFlags := 1537
  interfaces := #[]
  cf := some (fileOf pool4 1 #[] #[] 1537 3 #[] #[])
  fields := #[]
  methods := #[]
  instanceTypes := #[]
  staticTypes := #[]
  resolved := Array.replicate 7 none
  statics := none }

def pool5 : Array CpInfo := pool [(2, .class_ 4), (1, u "java/lang/Enum"), (0, u "name"), (0, u "Ljava/lang/String;"), (2, u "ordinal"), (0, u "I"), (1, .class_ 14), (1, u "java/lang/Object"), (4, u "hash"), (86, .class_ 108), (1, u "java/lang/Enum$EnumDesc"), (2, .class_ 112), (0, u "java/lang/constant/Constable"), (0, .class_ 114), (0, u "java/lang/Comparable"), (0, .class_ 116), (0, u "java/io/Serializable")] 87

/-- java/lang/Enum -/
def k5 : Class := { plain "java/lang/Enum" (some 0) with
  accessFlags := 1057
  interfaces := #[2, 3, 4]
  cf := some (fileOf pool5 2 #[.nestMembers #[106]] #[] 1057 12 #[111, 113, 115] #[{ accessFlags := 18, nameIndex := 5, descriptorIndex := 6, attributes := #[] }, { accessFlags := 18, nameIndex := 9, descriptorIndex := 10, attributes := #[] }, { accessFlags := 2, nameIndex := 19, descriptorIndex := 10, attributes := #[] }])
  fields := #[{ name := "name", type := (.object "java/lang/String"), accessFlags := 18, slot := 0, constantValue := 0 }, { name := "ordinal", type := .int, accessFlags := 18, slot := 1, constantValue := 0 }, { name := "hash", type := .int, accessFlags := 2, slot := 2, constantValue := 0 }]
  methods := #[]
  instanceTypes := #[(.object "java/lang/String"), .int, .int]
  staticTypes := #[]
  resolved := Array.replicate 204 none
  statics := none }

def pool6 : Array CpInfo := pool [(1, .class_ 2), (0, u "com/example/grundriss/grundriss/ColumnKind"), (0, .fieldref 1 4), (0, .nameAndType 5 6), (0, u "PARTITION_KEY"), (0, u "Lcom/example/grundriss/grundriss/ColumnKind;"), (0, .fieldref 1 8), (0, .nameAndType 9 6), (0, u "CLUSTERING"), (2, u "STATIC"), (2, u "REGULAR"), (2, u "$VALUES"), (0, u "[Lcom/example/grundriss/grundriss/ColumnKind;"), (6, .class_ 28), (1, u "java/lang/Enum"), (22, u "isPrimaryKey"), (0, u "()Z")] 5

def k6c0 : Code := { maxStack := 2, maxLocals := 1, code := prog_10_method_4_code, exceptionTable := #[], attributes := #[] }
def k6m0 : Method := { name := "isPrimaryKey", desc := "()Z", sig := { parameters := [], returnType := some .boolean }, accessFlags := 1, code := some k6c0 }
/-- com/example/grundriss/grundriss/ColumnKind -/
def k6 : Class := { plain "com/example/grundriss/grundriss/ColumnKind" (some 5) with
  accessFlags := 16433
  interfaces := #[]
  cf := some (fileOf pool6 1 #[] #[{ accessFlags := 1, nameIndex := 51, descriptorIndex := 52, attributes := #[] }] 16433 26 #[] #[{ accessFlags := 16409, nameIndex := 5, descriptorIndex := 6, attributes := #[] }, { accessFlags := 16409, nameIndex := 9, descriptorIndex := 6, attributes := #[] }, { accessFlags := 16409, nameIndex := 12, descriptorIndex := 6, attributes := #[] }, { accessFlags := 16409, nameIndex := 15, descriptorIndex := 6, attributes := #[] }, { accessFlags := 4122, nameIndex := 18, descriptorIndex := 19, attributes := #[] }])
  fields := #[{ name := "PARTITION_KEY", type := (.object "com/example/grundriss/grundriss/ColumnKind"), accessFlags := 16409, slot := 0, constantValue := 0 }, { name := "CLUSTERING", type := (.object "com/example/grundriss/grundriss/ColumnKind"), accessFlags := 16409, slot := 1, constantValue := 0 }, { name := "STATIC", type := (.object "com/example/grundriss/grundriss/ColumnKind"), accessFlags := 16409, slot := 2, constantValue := 0 }, { name := "REGULAR", type := (.object "com/example/grundriss/grundriss/ColumnKind"), accessFlags := 16409, slot := 3, constantValue := 0 }, { name := "$VALUES", type := (.array (.object "com/example/grundriss/grundriss/ColumnKind")), accessFlags := 4122, slot := 4, constantValue := 0 }]
  methods := #[k6m0]
  instanceTypes := #[(.object "java/lang/String"), .int, .int]
  staticTypes := #[(.object "com/example/grundriss/grundriss/ColumnKind"), (.object "com/example/grundriss/grundriss/ColumnKind"), (.object "com/example/grundriss/grundriss/ColumnKind"), (.object "com/example/grundriss/grundriss/ColumnKind"), (.array (.object "com/example/grundriss/grundriss/ColumnKind"))]
  resolved := Array.replicate 58 none
  statics := some 0 }

def pool7 : Array CpInfo := pool [(1, u "java/lang/Cloneable"), (0, .class_ 1), (0, u "java/lang/Object"), (0, .class_ 3)] 3

/-- java/lang/Cloneable -/
def k7 : Class := { plain "java/lang/Cloneable" (some 0) with
  accessFlags := 1537
  interfaces := #[]
  cf := some (fileOf pool7 2 #[] #[] 1537 4 #[] #[])
  fields := #[]
  methods := #[]
  instanceTypes := #[]
  staticTypes := #[]
  resolved := Array.replicate 8 none
  statics := none }

/-- the primitive byte -/
def k8 : Class := { plain "byte" none with kind := .primitive 'B', accessFlags := 0x411 }
/-- [B -/
def k9 : Class := { plain "[B" (some 0) with kind := .array 8 .byte, interfaces := #[7, 4], accessFlags := 1041 }

/-- the primitive int -/
def k10 : Class := { plain "int" none with kind := .primitive 'I', accessFlags := 0x411 }
/-- [I -/
def k11 : Class := { plain "[I" (some 0) with kind := .array 10 .int, interfaces := #[7, 4], accessFlags := 1041 }

def heap : Heap := #[{ cls := 6, slots := #[.ref 1, .ref 3, .ref 4, .ref 2, .null], vm := .statics 6 },
  { cls := 6, slots := #[.null, .int 0, .int 0], vm := .none },
  { cls := 6, slots := #[.null, .int 3, .int 0], vm := .none },
  { cls := 6, slots := #[.null, .int 1, .int 0], vm := .none },
  { cls := 6, slots := #[.null, .int 2, .int 0], vm := .none }]
def classes : Array Class := #[k0, k1, k2, k3, k4, k5, k6, k7, k8, k9, k10, k11]
def interned : List (Array UInt16 × Addr) := []
def slotsUsed : Nat := 17
def theMethod : MethodId := ⟨1, 3⟩
def args0 : Array Value := #[.int 5]
def aboutOver (below : List Frame) : State where
  vm := { classes := classes, interned := interned.toArray }
  heap := heap
  slotsUsed := slotsUsed
  threads := #[{ frames := .invoking theMethod args0 :: below }]
def below0 : List Frame := [.native { method := ⟨0, 0⟩, args := #[] }]
def about1 : State := aboutOver below0
def p0 : Program := .bare "" "" ""
def e0 : Env := launch0.env 0 0 0
theorem w_frames : about1.frames = Frame.invoking theMethod args0 :: below0 := rfl
set_option maxRecDepth 65536 in
theorem w_args : argsFit about1.vm theMethod args0 = true := by decide +kernel
set_option maxRecDepth 65536 in
theorem w_heap : heapFits about1 = true := by decide +kernel
set_option maxRecDepth 65536 in
theorem w_runnable : about1.curStatus? = some .runnable := by decide +kernel
set_option maxRecDepth 65536 in
theorem w_alone : about1.alone = true := by decide +kernel
set_option maxRecDepth 65536 in
theorem w_named : about1.methodNamed? x = some theMethod := by decide +kernel
set_option maxRecDepth 65536 in
theorem w_hears : about1.hears theMethod below0 = true := by decide +kernel
set_option maxRecDepth 65536 in
theorem w_ripe : about1.ripe theMethod args0 below0 = true := by decide +kernel
theorem w_running : about1.status = .running := rfl
set_option maxRecDepth 65536 in
theorem w_room : about1.hasRoom e0.platform room_1 = true :=
  launch0.hasRoom_least _ room_1 (by decide +kernel) (by decide +kernel) (by decide +kernel) (by decide +kernel) (by decide +kernel) (by decide +kernel)
theorem allAtoms_all (ts : List Jvm.Cond) (a : Array Jvm.Value) (st : Jvm.State) : (allAtoms ts).before a st = ts.all (fun c => c.before a st) := by
  induction ts with
  | nil => rfl
  | cons c t ih =>
    show (Jvm.Cond.and c (allAtoms t)).before a st = _
    rw [Jvm.Cond.before_and, ih, List.all_cons]
def words1 : List Jvm.Cond := Jvm.Cond.code x code maxLocals ret :: tables_1
/-- a 'code' word, met by the world's own term for the bytes: nothing is compared byte by byte -/
theorem code_word {y : MethodName} {bytes : ByteArray} {mx : Nat} {rt : Option FieldType} {a : Array Value} {s : State} {m : MethodId} {meth : Method} {c : Code} (h1 : s.methodNamed? y = some m) (h2 : s.vm.method? m = some meth) (h3 : meth.code = some c) (h4 : c.code = bytes)
    (h5 : (c.maxLocals == mx && c.exceptionTable.isEmpty && decide (c.maxStack ≤ mostOperands) && decide (meth.sig.returnType = rt) && !meth.locks && decide (parseMethodDescriptor y.desc = some meth.sig)) = true) : (Jvm.Cond.code y bytes mx rt).before a s = true := by
  simp only [Bool.and_eq_true, beq_iff_eq, Bool.not_eq_true', decide_eq_true_eq] at h5
  obtain ⟨⟨⟨⟨⟨g1, g2⟩, g3⟩, g4⟩, g5⟩, g6⟩ := h5
  simp [Cond.before, Cond.holds, Cond.value, h1, h2, h3, h4, g1, g2, g3, g4, g5, g6]
def isCode : Jvm.Cond → Bool
  | .code _ _ _ _ => true
  | _ => false
theorem all_split {L : List Jvm.Cond} {P : Jvm.Cond → Bool} (h1 : L.all (fun c => isCode c || P c) = true) (h2 : ∀ c ∈ L.filter isCode, P c = true) : L.all P = true := by
  refine List.all_eq_true.mpr fun c hc => ?_
  have h := List.all_eq_true.mp h1 c hc
  rcases Bool.eq_false_or_eq_true (isCode c) with hi | hi
  · exact h2 c (List.mem_filter.mpr ⟨hc, hi⟩)
  · simpa [hi] using h
set_option maxRecDepth 65536 in
theorem w_c0 : (Jvm.Cond.code x code maxLocals ret).before args0 about1 = true := code_word (m := ⟨1, 3⟩) (meth := k1m3) (c := k1c3) (by decide +kernel) rfl rfl rfl (by decide +kernel)
set_option maxRecDepth 65536 in
theorem w_c1 : (Jvm.Cond.code ({ cls := "com/example/grundriss/grundriss/ColumnKindIsPrimaryKeyPinLaw", name := "pick", desc := "(I)Lcom/example/grundriss/grundriss/ColumnKind;" } : Jvm.MethodName) method_2_code (1 : Nat) (Option.some (Jvm.ClassFile.FieldType.object "com/example/grundriss/grundriss/ColumnKind"))).before args0 about1 = true := code_word (m := ⟨1, 1⟩) (meth := k1m1) (c := k1c1) (by decide +kernel) rfl rfl rfl (by decide +kernel)
set_option maxRecDepth 65536 in
theorem w_c2 : (Jvm.Cond.code ({ cls := "com/example/grundriss/grundriss/ColumnKind", name := "isPrimaryKey", desc := "()Z" } : Jvm.MethodName) prog_10_method_4_code (1 : Nat) (Option.some Jvm.ClassFile.FieldType.boolean)).before args0 about1 = true := code_word (m := ⟨6, 0⟩) (meth := k6m0) (c := k6c0) (by decide +kernel) rfl rfl rfl (by decide +kernel)
set_option maxRecDepth 65536 in
theorem w_c3 : (Jvm.Cond.code ({ cls := "com/example/grundriss/grundriss/ColumnKindIsPrimaryKeyPinLaw", name := "expected", desc := "(I)Z" } : Jvm.MethodName) method_3_code (1 : Nat) (Option.some Jvm.ClassFile.FieldType.boolean)).before args0 about1 = true := code_word (m := ⟨1, 2⟩) (meth := k1m2) (c := k1c2) (by decide +kernel) rfl rfl rfl (by decide +kernel)
def codes1 : List Jvm.Cond := [Jvm.Cond.code x code maxLocals ret, Jvm.Cond.code ({ cls := "com/example/grundriss/grundriss/ColumnKindIsPrimaryKeyPinLaw", name := "pick", desc := "(I)Lcom/example/grundriss/grundriss/ColumnKind;" } : Jvm.MethodName) method_2_code (1 : Nat) (Option.some (Jvm.ClassFile.FieldType.object "com/example/grundriss/grundriss/ColumnKind")), Jvm.Cond.code ({ cls := "com/example/grundriss/grundriss/ColumnKind", name := "isPrimaryKey", desc := "()Z" } : Jvm.MethodName) prog_10_method_4_code (1 : Nat) (Option.some Jvm.ClassFile.FieldType.boolean), Jvm.Cond.code ({ cls := "com/example/grundriss/grundriss/ColumnKindIsPrimaryKeyPinLaw", name := "expected", desc := "(I)Z" } : Jvm.MethodName) method_3_code (1 : Nat) (Option.some Jvm.ClassFile.FieldType.boolean)]
set_option maxRecDepth 65536 in
theorem codes_eq : words1.filter isCode = codes1 := rfl
theorem w_codes : ∀ c ∈ words1.filter isCode, c.before args0 about1 = true := by
  rw [codes_eq]
  intro c hc
  simp only [codes1, List.mem_cons, List.not_mem_nil, or_false] at hc
  rcases hc with rfl | rfl | rfl | rfl
  · exact w_c0
  · exact w_c1
  · exact w_c2
  · exact w_c3
set_option maxRecDepth 65536 in
theorem w_t1 : words1.all (fun c => isCode c || c.before args0 about1) = true := by decide +kernel
theorem w_tables : (allAtoms (Jvm.Cond.code x code maxLocals ret :: tables_1)).before args0 about1 = true := by
  rw [allAtoms_all]
  show words1.all (fun c => c.before args0 about1) = true
  refine all_split ?_ w_codes
  rw [w_t1]
set_option maxRecDepth 65536 in
theorem w_case : (Jvm.Cond.and given_1 narrow_1).before args0 about1 = true := by decide +kernel
theorem w_applies : (headSpec (Jvm.Cond.code x code maxLocals ret :: tables_1) room_1).applies x e0.platform about1 = true :=
  (Spec.applies_iff w_frames).mpr ⟨w_running, w_runnable, w_alone, w_named, w_hears, w_ripe, w_room, w_tables⟩
theorem atStart : AtStart classFile x code maxLocals ret World_1 tables_1 room_1 Calls_1 rest_1 Pre_1 launch0 p0 e0 about1 theMethod args0 below0 :=
  ⟨lists_1, trivial, launch0.admits_env _ _ _, launch0.least_env, fairChoices_fair.cas, fairChoices_fair.clock, w_frames, w_args, w_heap, w_applies, trivial, trivial, w_case⟩
end start1
theorem witness_1 : WitnessClaimed_1 := ⟨start1.p0, start1.e0, start1.about1, start1.theMethod, start1.args0, start1.below0, start1.atStart⟩
end Jvm.Pilot.@@N@@
