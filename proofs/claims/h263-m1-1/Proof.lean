import JvmDerived
import JvmDerived.Pilot.@@N@@Statement
import JvmDerived.Pilot.@@N@@Code
set_option linter.unusedVariables false
set_option linter.unusedSimpArgs false
namespace Jvm.Pilot.@@N@@
open Jvm Jvm.ClassFile Sem Op Lib Jvm.Free Jvm.Stand Jvm.LawKit Jvm.RoadKit Bundle Jvm.Pilot.@@N@@.Jvm.D
section OwnKit
variable {p : Program} {l : Launch} {e : Env} {R : Room} {s : State} {m : MethodId} {args : Array Value} {below : List Frame} {meth : Method} {c : Code} {T : State} {locs : List Loc} {cells slots : Nat}
theorem retI (X : Stand p l e R s m args below meth c T locs cells slots) (hx : p.tables.exec = Jvm.exec) {pc : Nat} {Ls : Array Slot} {z : Int32} {rest : List Value} (hret : meth.sig.returnType = some .int) (hd : decode c.code pc = .ok (.ireturn, 1)) {fs : List Frame}
    (hl : ∀ (f : JFrame) (acts : List Action), f.method = m → f.locked = none → f.entered = [] → (doReturn e (T.setTop f) acts (some (.int z))).1 = T.setFrames fs) : Steps p.tables e below (T.setTop (mkF m pc Ls (.int z :: rest))) (T.setFrames fs) :=
  retOut X hx hret rfl (Or.inl ⟨rfl, Or.inl rfl, z, rfl⟩) hd hl
theorem oretJ (X : Stand p l e R s m args below meth c T locs cells slots) (hx : p.tables.exec = Jvm.exec) {pc : Nat} {Ls : Array Slot} {z : Int64} {rest : List Value} (hret : meth.sig.returnType = some .long) (hd : decode c.code pc = .ok (.lreturn, 1)) {fs : List Frame}
    (hl : ∀ (f : JFrame) (acts : List Action), f.method = m → f.locked = none → f.entered = [] → (doReturn e (T.setTop f) acts (some (.long z))).1 = T.setFrames fs) : Steps p.tables e below (T.setTop (mkF m pc Ls (.long z :: rest))) (T.setFrames fs) :=
  retOut X hx hret rfl (Or.inr (Or.inl ⟨rfl, rfl, z, rfl⟩)) hd hl
theorem oretA (X : Stand p l e R s m args below meth c T locs cells slots) (hx : p.tables.exec = Jvm.exec) {pc : Nat} {Ls : Array Slot} {w : Value} {t : FieldType} {rest : List Value} (hret : meth.sig.returnType = some t) (ht : t.isReference = true) (hw : w.isRef = true) (hd : decode c.code pc = .ok (.areturn, 1)) {fs : List Frame}
    (hl : ∀ (f : JFrame) (acts : List Action), f.method = m → f.locked = none → f.entered = [] → (doReturn e (T.setTop f) acts (some w)).1 = T.setFrames fs) : Steps p.tables e below (T.setTop (mkF m pc Ls (w :: rest))) (T.setFrames fs) :=
  retOut X hx hret (by rcases ref_cases hw with rfl | ⟨a, rfl⟩ <;> cases t <;> rfl) (Or.inr (Or.inr (Or.inr (Or.inr ⟨rfl, ht, hw⟩)))) hd hl
end OwnKit
/-- the run that stands at A comes to an end of which P holds -/
def OGot (tb : Tables) (e : Env) (below : List Frame) (A : State) (P : State → Outcome → Prop) : Prop := ∃ U o, Steps tb e below A U ∧ P U o
theorem OGot.go {tb : Tables} {e : Env} {below : List Frame} {A B : State} {P : State → Outcome → Prop} (st : ∀ t, Steps tb e below B t → Steps tb e below A t) (h : OGot tb e below B P) : OGot tb e below A P := by
  obtain ⟨U, o, h1, h2⟩ := h
  exact ⟨U, o, st U h1, h2⟩
theorem OGot.on {tb : Tables} {e : Env} {below : List Frame} {A B : State} {P : State → Outcome → Prop} (st : Steps tb e below A B) (h : OGot tb e below B P) : OGot tb e below A P := by
  obtain ⟨U, o, h1, h2⟩ := h
  exact ⟨U, o, st.trans h1, h2⟩
section OwnFacts
variable {Z : State} {h h' h0 : Heap} {a b : Addr} {C n d : String} {v : Value} {sl : Nat} {n0 : Nat} {ws ws' : List (Addr × Nat)} {k : ClassId} {ty : FieldType} {z : Int32} {vs : List Value} {dv : Value}
theorem osz (X : Old Z n0 h) : n0 ≤ h.size := X.1 ▸ X.2.1
theorem oheap {U : State} {P : Heap → Prop} (q : U.heap = h) (x : P h) : P U.heap := q ▸ x
/-- what stood in h0 stands in h, but for the places at ws -/
def OKeep (h0 h : Heap) (ws : List (Addr × Nat)) : Prop := h0.size ≤ h.size ∧ ∀ (x : Addr) (c : Cell), h0[x]? = some c → ∃ c' : Cell, h[x]? = some c' ∧ c'.cls = c.cls ∧ c'.vm = c.vm ∧ c'.slots.size = c.slots.size ∧ (∀ i, (x, i) ∉ ws → c'.slots[i]? = c.slots[i]?) ∧ ((∀ i, (x, i) ∉ ws) → c' = c)
theorem OKeep.refl (h : Heap) (ws : List (Addr × Nat)) : OKeep h h ws := ⟨Nat.le_refl _, fun _ c q => ⟨c, q, rfl, rfl, rfl, fun _ _ => rfl, fun _ => rfl⟩⟩
theorem OKeep.ext (K : OKeep h0 h ws) (E : Ext h h') : OKeep h0 h' ws := ⟨Nat.le_trans K.1 E.1, fun x c q => by
  obtain ⟨c', q', r⟩ := K.2 x c q
  exact ⟨c', E.2 x c' q', r⟩⟩
theorem OKeep.trans (K : OKeep h0 h ws) (K' : OKeep h h' ws') (q : ∀ x ∈ ws', x ∈ ws ∨ h0.size ≤ x.1) : OKeep h0 h' ws := by
  refine ⟨Nat.le_trans K.1 K'.1, fun x c hx => ?_⟩
  have lt : x < h0.size := (Array.getElem?_eq_some_iff.mp hx).1
  have out : ∀ i, (x, i) ∉ ws → (x, i) ∉ ws' := fun i r z => (q _ z).elim r fun y => Nat.not_lt.mpr y lt
  obtain ⟨c1, q1, r1, r2, r3, r4, r5⟩ := K.2 x c hx
  obtain ⟨c2, q2, t1, t2, t3, t4, t5⟩ := K'.2 x c1 q1
  exact ⟨c2, q2, t1.trans r1, t2.trans r2, t3.trans r3, fun i r => (t4 i (out i r)).trans (r4 i r), fun r => (t5 fun i => out i (r i)).trans (r5 r)⟩
theorem OKeep.of_wr (W : Wr h h' a sl v) : OKeep h h' [(a, sl)] := by
  refine ⟨Nat.le_of_eq W.size.symm, fun x c q => ?_⟩
  obtain ⟨c', e1, e2, e3, e4, e5, e6, -⟩ := wr_at W q
  refine ⟨c', e1, e2, e3, e4, fun i r => ?_, fun r => e5 fun z => r sl (by simp [z])⟩
  by_cases z : x = a
  · subst z
    exact e6 i fun y => r (by simp [y])
  · rw [e5 z]
theorem OKeep.wr (K : OKeep h0 h ws) (W : Wr h h' a sl v) (q : (a, sl) ∈ ws ∨ h0.size ≤ a) : OKeep h0 h' ws := K.trans (OKeep.of_wr W) fun x hx => by cases List.mem_singleton.mp hx; exact q
theorem oslot {x : ClassId × Class × Nat × Field} (h2 : Z.fieldFound? C n d = some x) : Jvm.RoadKit.slotOf Z C n d = x.2.2.2.slot := by
  show ((Z.fieldFound? C n d).map (·.2.2.2.slot)).getD 0 = _
  rw [h2]; rfl
theorem OKeep.fld (F : Fld Z h a C n d v) (K : OKeep h h' ws) (q : (a, Jvm.RoadKit.slotOf Z C n d) ∉ ws) : Fld Z h' a C n d v := by
  obtain ⟨cell, cf, k, i, f, h1, h2, h3, h4, h5, h6, h7⟩ := F
  obtain ⟨c', r, r1, r2, -, r4, -⟩ := K.2 a cell h1
  exact ⟨c', cf, k, i, f, r, h2, h3, by rw [r2]; exact h4, by rw [r2]; exact h5, by rw [r1]; exact h6, by rw [r4 f.slot (fun y => q (by rw [oslot h2]; exact y))]; exact h7⟩
theorem OKeep.exa (F : Exa Z h a C) (K : OKeep h h' ws) : Exa Z h' a C := by
  obtain ⟨cell, k, h1, h2, h3, h4, h5⟩ := F
  obtain ⟨c', q, r1, r2, r3, -, -⟩ := K.2 a cell h1
  exact ⟨c', k, q, r1 ▸ h2, r1 ▸ h3, r2 ▸ h4, r3 ▸ h5⟩
theorem OKeep.arv (F : Arv Z h a k ty z vs dv) (K : OKeep h h' ws) (q : ∀ x ∈ ws, a ≠ x.1) : Arv Z h' a k ty z vs dv := by
  obtain ⟨c, A, r⟩ := F
  obtain ⟨c', e1, -, -, -, -, e5⟩ := K.2 a c A.1
  cases e5 fun i y => q _ y rfl
  exact ⟨c, ⟨e1, A.2⟩, r⟩
theorem OKeep.old (X : Old Z n0 h) (K : OKeep h h' ws) (q : ∀ x ∈ ws, n0 ≤ x.1) : Old Z n0 h' := ⟨X.1, Nat.le_trans X.2.1 K.1, fun x c r => by
  obtain ⟨c', e1, -, -, -, -, e5⟩ := K.2 x c (X.2.2 x c r)
  cases e5 fun i y => absurd (X.1 ▸ (Array.getElem?_eq_some_iff.mp r).1) (Nat.not_lt.mpr (q _ y))
  exact e1⟩
theorem onin0 {x : Addr × Nat} : x ∉ ([] : List (Addr × Nat)) := fun q => nomatch q
theorem oninA {t : Nat} {L : List (Addr × Nat)} (q : a ≠ b) (r : (a, sl) ∉ L) : (a, sl) ∉ (b, t) :: L := fun y => (List.mem_cons.mp y).elim (fun u => q (congrArg Prod.fst u)) r
theorem oninS {t : Nat} {L : List (Addr × Nat)} (q : sl ≠ t) (r : (a, sl) ∉ L) : (a, sl) ∉ (b, t) :: L := fun y => (List.mem_cons.mp y).elim (fun u => q (congrArg Prod.snd u)) r
theorem oall0 : ∀ x ∈ ([] : List (Addr × Nat)), a ≠ x.1 := fun _ q => nomatch q
theorem oallS {t : Nat} {L : List (Addr × Nat)} (q : a ≠ b) (r : ∀ x ∈ L, a ≠ x.1) : ∀ x ∈ (b, t) :: L, a ≠ x.1 := fun x y => (List.mem_cons.mp y).elim (fun u => by subst u; exact q) (r x)
theorem oge0 : ∀ x ∈ ([] : List (Addr × Nat)), n0 ≤ x.1 := fun _ q => nomatch q
theorem ogeS {t : Nat} {L : List (Addr × Nat)} (q : n0 ≤ b) (r : ∀ x ∈ L, n0 ≤ x.1) : ∀ x ∈ (b, t) :: L, n0 ≤ x.1 := fun x y => (List.mem_cons.mp y).elim (fun u => by subst u; exact q) (r x)
theorem oin0 {P : Addr × Nat → Prop} : ∀ x ∈ ([] : List (Addr × Nat)), P x := fun _ q => nomatch q
theorem oinS {P : Addr × Nat → Prop} {y : Addr × Nat} {L : List (Addr × Nat)} (q : P y) (r : ∀ x ∈ L, P x) : ∀ x ∈ y :: L, P x := fun x u => (List.mem_cons.mp u).elim (fun w => w ▸ q) (r x)
theorem oeq_int {args : Array Value} {first s : State} {o : Option Outcome} {idx : List Nat} {t : Term} {w : Int32} (q : (Jvm.Cond.eq t (.int w)).value args first o s idx = some true) : t.eval args first o idx s = some (.int w) := by
  simp only [Jvm.Cond.value, Term.eval] at q
  cases ht : t.eval args first o idx s with
  | none => simp [ht] at q
  | some x => cases x <;> simp [ht] at q ⊢; exact q
theorem oeq_ref {args : Array Value} {first s : State} {o : Option Outcome} {idx : List Nat} {t u : Term} {w : Addr} (q : (Jvm.Cond.eq t u).value args first o s idx = some true) (r : u.eval args first o idx s = some (.ref w)) : t.eval args first o idx s = some (.ref w) := by
  obtain ⟨x, y, e1, e2, k1, k2⟩ := cmp_v (Or.inl q)
  cases r.symm.trans e2
  rcases ref_cases k2.2 with rfl | ⟨z, rfl⟩
  · have := eq_R e1 e2 rfl rfl
    rw [q] at this
    simp at this
  · have := gotT (eq_R e1 e2 rfl rfl) q
    rw [e1, this]
theorem one_int {args : Array Value} {first s : State} {o : Option Outcome} {idx : List Nat} {t : Term} {w : Int32} (r : t.eval args first o idx s = some (.int w)) (q : (Jvm.Cond.not (.eq t (.int 0))).value args first o s idx = some true) : ¬ (w = (0 : Int32)) := by
  have := not_v q
  exact gotF (Cond.eq_ints r rfl) this
theorem olen {args : Array Value} {first s : State} {o : Option Outcome} {idx : List Nat} {t : Term} {cl : Cell} {w : Int32} (q : (Term.length t).eval args first o idx s = some (.int w)) (ht : t.eval args first o idx s = some (.ref a)) (ha : s.arrayAt? a = some cl) : cl.slots.size < 2 ^ 31 ∧ cl.slots.size.toInt32 = w := by
  simp only [Term.eval, ht, ha, Option.bind_eq_bind, Option.bind_some] at q
  by_cases y : cl.slots.size < 2 ^ 31
  · exact ⟨y, by simpa [y] using q⟩
  · simp [y] at q
theorem osub128 {args : Array Value} {j : Int32} (hj : ¬ j < 0) : (Term.sub (.index 0) (.int 128)).eval args Z none [j.toNatClampNeg] Z = some (.int (j - 128)) := by
  have e := idx_at (args := args) (first := Z) (s := Z) (o := none) hj
  simp only [Term.eval] at e ⊢
  simp [e]
  exact (back32 hj).1
def obox (c : Cell) (j : Int32) : Addr := match c.slots[j.toNatClampNeg]? with
  | some (.ref b) => b
  | _ => 0
theorem obox_at {cl : Cell} {K dd : String} {w : Int32} {val : Int32 → Value} (B : Bxs Z a cl K dd w val) {j : Int32} (hj : ¬ (j < 0 ∨ cl.slots.size ≤ j.toNatClampNeg)) : cl.slots[j.toNatClampNeg]? = some (.ref (obox cl j)) ∧ Exa Z Z.heap (obox cl j) K ∧ Fld Z Z.heap (obox cl j) K "value" dd (val j) := by
  obtain ⟨b, h1, h2, h3⟩ := B.2.2.2 j hj
  have e : obox cl j = b := by unfold obox; rw [h1]
  rw [e]; exact ⟨h1, h2, h3⟩
theorem oNS.root {a0 : Array Value} {O K : String} {i : Nat} (w : (Cond.noSuperclass O).before a0 Z = true) (wk : (Cond.instantiable K i).before a0 Z = true) (hn : O ≠ K) : NS Z O K := by
  obtain ⟨c, k, h1, h2, h3, -, -⟩ := Cond.noSuperclass_spec w
  obtain ⟨t, kt, g1, -⟩ := Cond.instantiable_spec wk
  have ne := ids_ne h1 g1 hn
  refine ⟨c, t, h1, g1, fun fuel => ?_⟩
  cases fuel with
  | zero => rfl
  | succ f => simp [Vm.isSubclassAux, ne, h2, h3]
theorem oNS.no {a0 : Array Value} {C S K : String} {i : Nat} (w : (Cond.superclass C S).before a0 Z = true) (wk : (Cond.instantiable K i).before a0 Z = true) (q : NS Z C K) (hn : C ≠ K) : ∃ c t, Z.vm.findClass C = some c ∧ Z.vm.findClass K = some t ∧ Z.vm.assignable c t = false := by
  obtain ⟨c, t, h0, g0, n3⟩ := q
  obtain ⟨p, k, kp, h1, h2, h3, h4, h5, -, h7⟩ := Cond.superclass_spec h0 w
  obtain ⟨t', k', g1, g2, g3, g4, -⟩ := Cond.instantiable_spec wk
  cases g0.symm.trans g1
  have ne := ids_ne h0 g0 hn
  have g7 : k'.isInterface = false := (Bool.or_eq_false_iff.mp g4).1
  refine ⟨c, t, h0, g0, ?_⟩
  show Z.vm.assignableAux (255 + 1) c t = false
  simp [Vm.assignableAux, ne, h2, g2, h5, g3, g7, Vm.isSubclass, n3]
end OwnFacts
theorem ow {Z : State} {a0 : Array Value} (hw : ∀ d ∈ tables_1, d.before a0 Z = true) (i : Nat) {d : Jvm.Cond} (h : tables_1[i]? = some d) : d.before a0 Z = true := hw _ (List.mem_of_getElem? h)
theorem own_and3 (x : Int32) : (x &&& (3 : Int32)) = (0 : Int32) ∨ (x &&& (3 : Int32)) = (1 : Int32) ∨ (x &&& (3 : Int32)) = (2 : Int32) ∨ (x &&& (3 : Int32)) = (3 : Int32) := by
  have e : (x &&& (3 : Int32)).toInt = x.toInt % ((2 ^ 2 : Nat) : Int) := c_mask x 3 2 (by decide) (by decide)
  have p : ((2 ^ 2 : Nat) : Int) = 4 := rfl
  rw [p] at e
  simp only [← Int32.toInt_inj, e]
  have : (0 : Int32).toInt = 0 ∧ (1 : Int32).toInt = 1 ∧ (2 : Int32).toInt = 2 ∧ (3 : Int32).toInt = 3 := by decide
  omega
def Glob (Z : State) (w_TEXT : Addr) (w_DATE : Addr) (w_DECIMAL : Addr) (w_INTEGER : Addr) : Prop := Sta Z Z.heap "com/example/archipel/archipel/model/DataType" "TEXT" "Lcom/example/archipel/archipel/model/DataType;" (.ref w_TEXT) ∧ Exa Z Z.heap w_TEXT "com/example/archipel/archipel/model/DataType" ∧ Sta Z Z.heap "com/example/archipel/archipel/model/DataType" "DATE" "Lcom/example/archipel/archipel/model/DataType;" (.ref w_DATE) ∧ Exa Z Z.heap w_DATE "com/example/archipel/archipel/model/DataType" ∧ Sta Z Z.heap "com/example/archipel/archipel/model/DataType" "DECIMAL" "Lcom/example/archipel/archipel/model/DataType;" (.ref w_DECIMAL) ∧ Exa Z Z.heap w_DECIMAL "com/example/archipel/archipel/model/DataType" ∧ Sta Z Z.heap "com/example/archipel/archipel/model/DataType" "INTEGER" "Lcom/example/archipel/archipel/model/DataType;" (.ref w_INTEGER) ∧ Exa Z Z.heap w_INTEGER "com/example/archipel/archipel/model/DataType" ∧ Fld Z Z.heap w_TEXT "java/lang/Enum" "ordinal" "I" (.int (0 : Int32)) ∧ Fld Z Z.heap w_DATE "java/lang/Enum" "ordinal" "I" (.int (3 : Int32)) ∧ Fld Z Z.heap w_DECIMAL "java/lang/Enum" "ordinal" "I" (.int (2 : Int32)) ∧ Fld Z Z.heap w_INTEGER "java/lang/Enum" "ordinal" "I" (.int (1 : Int32))
theorem d1_0 : decode method_2_code 0 = .ok (.iload_n 0, 1) := by decide +kernel
theorem d1_1 : decode method_2_code 1 = .ok (.ifCond .ne 7, 3) := by decide +kernel
theorem d1_4 : decode method_2_code 4 = .ok (.getstatic 7, 3) := by decide +kernel
theorem d1_7 : decode method_2_code 7 = .ok (.areturn, 1) := by decide +kernel
theorem pn_com_example_archipel_archipel_model_DataTypeTakesPinLaw : plainName "com/example/archipel/archipel/model/DataTypeTakesPinLaw" = true := by first | (simp [plainName, overriddenIn]; done) | decide +kernel
def Q1 (Z : State) (w_TEXT : Addr) (w_DATE : Addr) (w_DECIMAL : Addr) (w_INTEGER : Addr)  (h0 : Heap) (n0 : Nat) (v : Option Value) (h : Heap) (L : List Loc) : Prop := v = some (.ref w_TEXT) ∧ Fr n0 L ∧ h = h0
theorem ef1 (m : MethodId)  : entryFrame m #[(.int (0 : Int32))] 1 = mkF m 0 #[.val (.int (0 : Int32))] [] := by first | (simp [entryFrame, mkF, argsToLocals, Value.category]; done) | rfl
set_option maxRecDepth 65536 in
set_option maxHeartbeats 40000000 in
theorem rm1 (l : Launch) (Z : State) (a0 : Array Value) (hw : ∀ d ∈ tables_1, d.before a0 Z = true) (ws : List Jvm.Cond) {w_TEXT : Addr} {w_DATE : Addr} {w_DECIMAL : Addr} {w_INTEGER : Addr} (G : Glob Z w_TEXT w_DATE w_DECIMAL w_INTEGER)  (h0 : Heap) (n0 : Nat) (O0 : Old Z n0 h0) :
    MetFree l (⟨"com/example/archipel/archipel/model/DataTypeTakesPinLaw", "pick", "(I)Lcom/example/archipel/archipel/model/DataType;"⟩ : MethodName) (head1 (Jvm.Cond.code (⟨"com/example/archipel/archipel/model/DataTypeTakesPinLaw", "pick", "(I)Lcom/example/archipel/archipel/model/DataType;"⟩ : MethodName) method_2_code 1 (some (.object "com/example/archipel/archipel/model/DataType")) :: ws) ({ frames := 0, cells := 0, slots := 0, locals := 0 } : Room)) (fun a U => a = #[(.int (0 : Int32))] ∧ Z.Warmed39 U.vm ∧ U.heap = h0) (fun _ _ _ _ _ => True) (fun _ U o U' => ∃ v L, o = .returned v ∧ Q1 Z w_TEXT w_DATE w_DECIMAL w_INTEGER  h0 n0 v U'.heap L ∧ FrameEnd U o U' L ({ frames := 0, cells := 0, slots := 0, locals := 0 } : Room).cells ({ frames := 0, cells := 0, slots := 0, locals := 0 } : Room).slots) := by
  refine MetFree.of_bodySF (plainFor_of_name pn_com_example_archipel_archipel_model_DataTypeTakesPinLaw) hisR ?_
  intro p e s m args below meth c s₁ Bd hml0 hP hK
  obtain ⟨rfl, hZ, hh⟩ := hP
  have hx := Bd.exec
  have hby := Bd.bytes
  have hml : c.maxLocals = 1 := hml0
  have hown : s.vm.findClass "com/example/archipel/archipel/model/DataTypeTakesPinLaw" = some m.cls := findClass_of_methodNamed Bd.named
  have hnm := (name_of_methodNamed Bd.named Bd.method).1
  have X0 : Stand p l e ({ frames := 0, cells := 0, slots := 0, locals := 0 } : Room) s m #[(.int (0 : Int32))] below meth c s₁ [] 0 0 := Stand.of_body Bd
  have e0 : s₁.heap = h0 := by rw [← hh, Bd.state]; rfl
  have N0 := Fr.nil n0
  show OGot p.tables e below (s₁.setTop (entryFrame m #[(.int (0 : Int32))] 1)) _
  refine OGot.go (fun t k => castTop (ef1 m ) k) ?_
  show OGot p.tables e below (s₁.setTop (mkF m 0 #[.val (.int (0 : Int32))] [])) _
  refine OGot.go (fun t k => XS.iloadN X0.here hx rfl (hb hby d1_0) rfl k) ?_
  show OGot p.tables e below (s₁.setTop (mkF m 1 #[.val (.int (0 : Int32))] [(.int (0 : Int32))])) _
  refine OGot.go (fun t k => XS.ifNo X0.here hx rfl (hb hby d1_1) rfl (by decide) k) ?_
  show OGot p.tables e below (s₁.setTop (mkF m 4 #[.val (.int (0 : Int32))] [])) _
  obtain ⟨T1, X1, e1, st1⟩ := getS2 X0 hx hZ hown (host := "") (Or.inl (ow hw 4 rfl)) Via.refl e0 (G.1.ext O0.2) (g := (mkF m 4 #[.val (.int (0 : Int32))] [])) rfl (hb hby d1_4)
  refine OGot.go st1 ?_
  show OGot p.tables e below (T1.setTop (mkF m 7 #[.val (.int (0 : Int32))] [(.ref w_TEXT)])) _
  obtain ⟨fs, hr, hrun, hended, hW, hsame⟩ := X1.leave (v := some (.ref w_TEXT)) (fun h => by rw [Bd.returns] at h; cases h)
  refine ⟨_, _, oretA X1 hx Bd.returns rfl rfl (hb hby d1_7) hr, hrun, hended, _, _, rfl, ?_, ⟨_, rfl⟩, hW, hsame.mono (by decide) (by decide)⟩
  exact (⟨rfl, N0, e1⟩ : Q1 Z w_TEXT w_DATE w_DECIMAL w_INTEGER  h0 n0 _ T1.heap _)
theorem pd_0 : parseMethodDescriptor "(I)Lcom/example/archipel/archipel/model/DataType;" = some ⟨[.int], some (.object "com/example/archipel/archipel/model/DataType")⟩ := by decide +kernel
theorem d2_0 : decode prog_51_method_8_code 0 = .ok (.aload_n 0, 1) := by decide +kernel
theorem d2_1 : decode prog_51_method_8_code 1 = .ok (.aload_n 1, 1) := by decide +kernel
theorem d2_2 : decode prog_51_method_8_code 2 = .ok (.if_acmp .eq 17, 3) := by decide +kernel
theorem d2_19 : decode prog_51_method_8_code 19 = .ok (.iconst 1, 1) := by decide +kernel
theorem d2_20 : decode prog_51_method_8_code 20 = .ok (.goto 4, 3) := by decide +kernel
theorem d2_24 : decode prog_51_method_8_code 24 = .ok (.ireturn, 1) := by decide +kernel
theorem pn_com_example_archipel_archipel_model_DataType : plainName "com/example/archipel/archipel/model/DataType" = true := by first | (simp [plainName, overriddenIn]; done) | decide +kernel
def Q2 (Z : State) (w_TEXT : Addr) (w_DATE : Addr) (w_DECIMAL : Addr) (w_INTEGER : Addr)  (h0 : Heap) (n0 : Nat) (v : Option Value) (h : Heap) (L : List Loc) : Prop := v = some (.int (1 : Int32)) ∧ Fr n0 L ∧ h = h0
theorem ef2 (m : MethodId) (x0 : Addr) : entryFrame m #[(.ref x0), (.ref x0)] 2 = mkF m 0 #[.val (.ref x0), .val (.ref x0)] [] := by first | (simp [entryFrame, mkF, argsToLocals, Value.category]; done) | rfl
set_option maxRecDepth 65536 in
set_option maxHeartbeats 40000000 in
theorem rm2 (l : Launch) (Z : State) (a0 : Array Value) (hw : ∀ d ∈ tables_1, d.before a0 Z = true) (ws : List Jvm.Cond) {w_TEXT : Addr} {w_DATE : Addr} {w_DECIMAL : Addr} {w_INTEGER : Addr} (G : Glob Z w_TEXT w_DATE w_DECIMAL w_INTEGER)  (h0 : Heap) (n0 : Nat) (O0 : Old Z n0 h0) :
    MetFree l (⟨"com/example/archipel/archipel/model/DataType", "takes", "(Lcom/example/archipel/archipel/model/DataType;)Z"⟩ : MethodName) (head1 (Jvm.Cond.code (⟨"com/example/archipel/archipel/model/DataType", "takes", "(Lcom/example/archipel/archipel/model/DataType;)Z"⟩ : MethodName) prog_51_method_8_code 2 (some .boolean) :: ws) ({ frames := 0, cells := 0, slots := 0, locals := 0 } : Room)) (fun a U => a = #[(.ref w_TEXT), (.ref w_TEXT)] ∧ Z.Warmed39 U.vm ∧ U.heap = h0) (fun _ _ _ _ _ => True) (fun _ U o U' => ∃ v L, o = .returned v ∧ Q2 Z w_TEXT w_DATE w_DECIMAL w_INTEGER  h0 n0 v U'.heap L ∧ FrameEnd U o U' L ({ frames := 0, cells := 0, slots := 0, locals := 0 } : Room).cells ({ frames := 0, cells := 0, slots := 0, locals := 0 } : Room).slots) := by
  refine MetFree.of_bodySF (plainFor_of_name pn_com_example_archipel_archipel_model_DataType) hisR ?_
  intro p e s m args below meth c s₁ Bd hml0 hP hK
  obtain ⟨rfl, hZ, hh⟩ := hP
  have hx := Bd.exec
  have hby := Bd.bytes
  have hml : c.maxLocals = 2 := hml0
  have hown : s.vm.findClass "com/example/archipel/archipel/model/DataType" = some m.cls := findClass_of_methodNamed Bd.named
  have hnm := (name_of_methodNamed Bd.named Bd.method).1
  have X0 : Stand p l e ({ frames := 0, cells := 0, slots := 0, locals := 0 } : Room) s m #[(.ref w_TEXT), (.ref w_TEXT)] below meth c s₁ [] 0 0 := Stand.of_body Bd
  have e0 : s₁.heap = h0 := by rw [← hh, Bd.state]; rfl
  have N0 := Fr.nil n0
  show OGot p.tables e below (s₁.setTop (entryFrame m #[(.ref w_TEXT), (.ref w_TEXT)] 2)) _
  refine OGot.go (fun t k => castTop (ef2 m w_TEXT) k) ?_
  show OGot p.tables e below (s₁.setTop (mkF m 0 #[.val (.ref w_TEXT), .val (.ref w_TEXT)] [])) _
  refine OGot.go (fun t k => XS.aloadN X0.here hx rfl (hb hby d2_0) rfl rfl k) ?_
  show OGot p.tables e below (s₁.setTop (mkF m 1 #[.val (.ref w_TEXT), .val (.ref w_TEXT)] [(.ref w_TEXT)])) _
  refine OGot.go (fun t k => XS.aloadN X0.here hx rfl (hb hby d2_1) rfl rfl k) ?_
  show OGot p.tables e below (s₁.setTop (mkF m 2 #[.val (.ref w_TEXT), .val (.ref w_TEXT)] [(.ref w_TEXT), (.ref w_TEXT)])) _
  refine OGot.go (fun t k => Jvm.RoadKit.acmp (g := (mkF m 2 #[.val (.ref w_TEXT), .val (.ref w_TEXT)] [(.ref w_TEXT), (.ref w_TEXT)])) X0 hx rfl rfl rfl (pc0 := 2) (pc' := 19) (same := true) rfl (hb hby d2_2) rfl (decide_eq_true rfl) (by decide) (by decide) k) ?_
  show OGot p.tables e below (s₁.setTop (mkF m 19 #[.val (.ref w_TEXT), .val (.ref w_TEXT)] [])) _
  refine OGot.go (fun t k => XS.iconst X0.here hx rfl (hb hby d2_19) k) ?_
  show OGot p.tables e below (s₁.setTop (mkF m 20 #[.val (.ref w_TEXT), .val (.ref w_TEXT)] [(.int (1 : Int32))])) _
  refine OGot.go (fun t k => XS.goto X0.here hx rfl (pc0 := 20) (pc' := 24) rfl (hb hby d2_20) (by decide) (by decide) k) ?_
  show OGot p.tables e below (s₁.setTop (mkF m 24 #[.val (.ref w_TEXT), .val (.ref w_TEXT)] [(.int (1 : Int32))])) _
  obtain ⟨fs, hr, hrun, hended, hW, hsame⟩ := X0.leave (v := some (.int (1 : Int32))) (fun h => by rw [Bd.returns] at h; cases h)
  refine ⟨_, _, retN X0 hx (t := .boolean) Bd.returns (by simp) (hb hby d2_24) hr, hrun, hended, _, _, rfl, ?_, ⟨_, rfl⟩, hW, hsame.mono (by decide) (by decide)⟩
  exact (⟨rfl, N0, e0⟩ : Q2 Z w_TEXT w_DATE w_DECIMAL w_INTEGER  h0 n0 _ s₁.heap _)
theorem pd_1 : parseMethodDescriptor "(Lcom/example/archipel/archipel/model/DataType;)Z" = some ⟨[(.object "com/example/archipel/archipel/model/DataType")], some .boolean⟩ := by decide +kernel
theorem d3_0 : decode prog_51_method_4_code 0 = .ok (.aload_n 0, 1) := by decide +kernel
theorem d3_1 : decode prog_51_method_4_code 1 = .ok (.aload_n 1, 1) := by decide +kernel
theorem d3_2 : decode prog_51_method_4_code 2 = .ok (.if_acmp .eq 17, 3) := by decide +kernel
theorem d3_19 : decode prog_51_method_4_code 19 = .ok (.iconst 1, 1) := by decide +kernel
theorem d3_20 : decode prog_51_method_4_code 20 = .ok (.goto 4, 3) := by decide +kernel
theorem d3_24 : decode prog_51_method_4_code 24 = .ok (.ireturn, 1) := by decide +kernel
def Q3 (Z : State) (w_TEXT : Addr) (w_DATE : Addr) (w_DECIMAL : Addr) (w_INTEGER : Addr)  (h0 : Heap) (n0 : Nat) (v : Option Value) (h : Heap) (L : List Loc) : Prop := v = some (.int (1 : Int32)) ∧ Fr n0 L ∧ h = h0
theorem ef3 (m : MethodId) (x0 : Addr) : entryFrame m #[(.ref x0), (.ref x0)] 2 = mkF m 0 #[.val (.ref x0), .val (.ref x0)] [] := by first | (simp [entryFrame, mkF, argsToLocals, Value.category]; done) | rfl
set_option maxRecDepth 65536 in
set_option maxHeartbeats 40000000 in
theorem rm3 (l : Launch) (Z : State) (a0 : Array Value) (hw : ∀ d ∈ tables_1, d.before a0 Z = true) (ws : List Jvm.Cond) {w_TEXT : Addr} {w_DATE : Addr} {w_DECIMAL : Addr} {w_INTEGER : Addr} (G : Glob Z w_TEXT w_DATE w_DECIMAL w_INTEGER)  (h0 : Heap) (n0 : Nat) (O0 : Old Z n0 h0) :
    MetFree l (⟨"com/example/archipel/archipel/model/DataType", "comparableWith", "(Lcom/example/archipel/archipel/model/DataType;)Z"⟩ : MethodName) (head1 (Jvm.Cond.code (⟨"com/example/archipel/archipel/model/DataType", "comparableWith", "(Lcom/example/archipel/archipel/model/DataType;)Z"⟩ : MethodName) prog_51_method_4_code 2 (some .boolean) :: ws) ({ frames := 0, cells := 0, slots := 0, locals := 0 } : Room)) (fun a U => a = #[(.ref w_TEXT), (.ref w_TEXT)] ∧ Z.Warmed39 U.vm ∧ U.heap = h0) (fun _ _ _ _ _ => True) (fun _ U o U' => ∃ v L, o = .returned v ∧ Q3 Z w_TEXT w_DATE w_DECIMAL w_INTEGER  h0 n0 v U'.heap L ∧ FrameEnd U o U' L ({ frames := 0, cells := 0, slots := 0, locals := 0 } : Room).cells ({ frames := 0, cells := 0, slots := 0, locals := 0 } : Room).slots) := by
  refine MetFree.of_bodySF (plainFor_of_name pn_com_example_archipel_archipel_model_DataType) hisR ?_
  intro p e s m args below meth c s₁ Bd hml0 hP hK
  obtain ⟨rfl, hZ, hh⟩ := hP
  have hx := Bd.exec
  have hby := Bd.bytes
  have hml : c.maxLocals = 2 := hml0
  have hown : s.vm.findClass "com/example/archipel/archipel/model/DataType" = some m.cls := findClass_of_methodNamed Bd.named
  have hnm := (name_of_methodNamed Bd.named Bd.method).1
  have X0 : Stand p l e ({ frames := 0, cells := 0, slots := 0, locals := 0 } : Room) s m #[(.ref w_TEXT), (.ref w_TEXT)] below meth c s₁ [] 0 0 := Stand.of_body Bd
  have e0 : s₁.heap = h0 := by rw [← hh, Bd.state]; rfl
  have N0 := Fr.nil n0
  show OGot p.tables e below (s₁.setTop (entryFrame m #[(.ref w_TEXT), (.ref w_TEXT)] 2)) _
  refine OGot.go (fun t k => castTop (ef3 m w_TEXT) k) ?_
  show OGot p.tables e below (s₁.setTop (mkF m 0 #[.val (.ref w_TEXT), .val (.ref w_TEXT)] [])) _
  refine OGot.go (fun t k => XS.aloadN X0.here hx rfl (hb hby d3_0) rfl rfl k) ?_
  show OGot p.tables e below (s₁.setTop (mkF m 1 #[.val (.ref w_TEXT), .val (.ref w_TEXT)] [(.ref w_TEXT)])) _
  refine OGot.go (fun t k => XS.aloadN X0.here hx rfl (hb hby d3_1) rfl rfl k) ?_
  show OGot p.tables e below (s₁.setTop (mkF m 2 #[.val (.ref w_TEXT), .val (.ref w_TEXT)] [(.ref w_TEXT), (.ref w_TEXT)])) _
  refine OGot.go (fun t k => Jvm.RoadKit.acmp (g := (mkF m 2 #[.val (.ref w_TEXT), .val (.ref w_TEXT)] [(.ref w_TEXT), (.ref w_TEXT)])) X0 hx rfl rfl rfl (pc0 := 2) (pc' := 19) (same := true) rfl (hb hby d3_2) rfl (decide_eq_true rfl) (by decide) (by decide) k) ?_
  show OGot p.tables e below (s₁.setTop (mkF m 19 #[.val (.ref w_TEXT), .val (.ref w_TEXT)] [])) _
  refine OGot.go (fun t k => XS.iconst X0.here hx rfl (hb hby d3_19) k) ?_
  show OGot p.tables e below (s₁.setTop (mkF m 20 #[.val (.ref w_TEXT), .val (.ref w_TEXT)] [(.int (1 : Int32))])) _
  refine OGot.go (fun t k => XS.goto X0.here hx rfl (pc0 := 20) (pc' := 24) rfl (hb hby d3_20) (by decide) (by decide) k) ?_
  show OGot p.tables e below (s₁.setTop (mkF m 24 #[.val (.ref w_TEXT), .val (.ref w_TEXT)] [(.int (1 : Int32))])) _
  obtain ⟨fs, hr, hrun, hended, hW, hsame⟩ := X0.leave (v := some (.int (1 : Int32))) (fun h => by rw [Bd.returns] at h; cases h)
  refine ⟨_, _, retN X0 hx (t := .boolean) Bd.returns (by simp) (hb hby d3_24) hr, hrun, hended, _, _, rfl, ?_, ⟨_, rfl⟩, hW, hsame.mono (by decide) (by decide)⟩
  exact (⟨rfl, N0, e0⟩ : Q3 Z w_TEXT w_DATE w_DECIMAL w_INTEGER  h0 n0 _ s₁.heap _)
theorem d1_8 : decode method_2_code 8 = .ok (.iload_n 0, 1) := by decide +kernel
theorem d1_9 : decode method_2_code 9 = .ok (.iconst 1, 1) := by decide +kernel
theorem d1_10 : decode method_2_code 10 = .ok (.if_icmp .ne 7, 3) := by decide +kernel
theorem d1_13 : decode method_2_code 13 = .ok (.getstatic 13, 3) := by decide +kernel
theorem d1_16 : decode method_2_code 16 = .ok (.areturn, 1) := by decide +kernel
def Q1_1 (Z : State) (w_TEXT : Addr) (w_DATE : Addr) (w_DECIMAL : Addr) (w_INTEGER : Addr)  (h0 : Heap) (n0 : Nat) (v : Option Value) (h : Heap) (L : List Loc) : Prop := v = some (.ref w_INTEGER) ∧ Fr n0 L ∧ h = h0
theorem ef1_1 (m : MethodId)  : entryFrame m #[(.int (1 : Int32))] 1 = mkF m 0 #[.val (.int (1 : Int32))] [] := by first | (simp [entryFrame, mkF, argsToLocals, Value.category]; done) | rfl
set_option maxRecDepth 65536 in
set_option maxHeartbeats 40000000 in
theorem rm1_1 (l : Launch) (Z : State) (a0 : Array Value) (hw : ∀ d ∈ tables_1, d.before a0 Z = true) (ws : List Jvm.Cond) {w_TEXT : Addr} {w_DATE : Addr} {w_DECIMAL : Addr} {w_INTEGER : Addr} (G : Glob Z w_TEXT w_DATE w_DECIMAL w_INTEGER)  (h0 : Heap) (n0 : Nat) (O0 : Old Z n0 h0) :
    MetFree l (⟨"com/example/archipel/archipel/model/DataTypeTakesPinLaw", "pick", "(I)Lcom/example/archipel/archipel/model/DataType;"⟩ : MethodName) (head1 (Jvm.Cond.code (⟨"com/example/archipel/archipel/model/DataTypeTakesPinLaw", "pick", "(I)Lcom/example/archipel/archipel/model/DataType;"⟩ : MethodName) method_2_code 1 (some (.object "com/example/archipel/archipel/model/DataType")) :: ws) ({ frames := 0, cells := 0, slots := 0, locals := 0 } : Room)) (fun a U => a = #[(.int (1 : Int32))] ∧ Z.Warmed39 U.vm ∧ U.heap = h0) (fun _ _ _ _ _ => True) (fun _ U o U' => ∃ v L, o = .returned v ∧ Q1_1 Z w_TEXT w_DATE w_DECIMAL w_INTEGER  h0 n0 v U'.heap L ∧ FrameEnd U o U' L ({ frames := 0, cells := 0, slots := 0, locals := 0 } : Room).cells ({ frames := 0, cells := 0, slots := 0, locals := 0 } : Room).slots) := by
  refine MetFree.of_bodySF (plainFor_of_name pn_com_example_archipel_archipel_model_DataTypeTakesPinLaw) hisR ?_
  intro p e s m args below meth c s₁ Bd hml0 hP hK
  obtain ⟨rfl, hZ, hh⟩ := hP
  have hx := Bd.exec
  have hby := Bd.bytes
  have hml : c.maxLocals = 1 := hml0
  have hown : s.vm.findClass "com/example/archipel/archipel/model/DataTypeTakesPinLaw" = some m.cls := findClass_of_methodNamed Bd.named
  have hnm := (name_of_methodNamed Bd.named Bd.method).1
  have X0 : Stand p l e ({ frames := 0, cells := 0, slots := 0, locals := 0 } : Room) s m #[(.int (1 : Int32))] below meth c s₁ [] 0 0 := Stand.of_body Bd
  have e0 : s₁.heap = h0 := by rw [← hh, Bd.state]; rfl
  have N0 := Fr.nil n0
  show OGot p.tables e below (s₁.setTop (entryFrame m #[(.int (1 : Int32))] 1)) _
  refine OGot.go (fun t k => castTop (ef1_1 m ) k) ?_
  show OGot p.tables e below (s₁.setTop (mkF m 0 #[.val (.int (1 : Int32))] [])) _
  refine OGot.go (fun t k => XS.iloadN X0.here hx rfl (hb hby d1_0) rfl k) ?_
  show OGot p.tables e below (s₁.setTop (mkF m 1 #[.val (.int (1 : Int32))] [(.int (1 : Int32))])) _
  refine OGot.go (fun t k => XS.ifYes X0.here hx rfl (pc0 := 1) (pc' := 8) rfl (hb hby d1_1) rfl (by decide) (by decide) (by decide) k) ?_
  show OGot p.tables e below (s₁.setTop (mkF m 8 #[.val (.int (1 : Int32))] [])) _
  refine OGot.go (fun t k => XS.iloadN X0.here hx rfl (hb hby d1_8) rfl k) ?_
  show OGot p.tables e below (s₁.setTop (mkF m 9 #[.val (.int (1 : Int32))] [(.int (1 : Int32))])) _
  refine OGot.go (fun t k => XS.iconst X0.here hx rfl (hb hby d1_9) k) ?_
  show OGot p.tables e below (s₁.setTop (mkF m 10 #[.val (.int (1 : Int32))] [(.int (1 : Int32)), (.int (1 : Int32))])) _
  refine OGot.go (fun t k => XS.icmpNo X0.here hx rfl (hb hby d1_10) rfl (by decide) k) ?_
  show OGot p.tables e below (s₁.setTop (mkF m 13 #[.val (.int (1 : Int32))] [])) _
  obtain ⟨T1, X1, e1, st1⟩ := getS2 X0 hx hZ hown (host := "") (Or.inl (ow hw 18 rfl)) Via.refl e0 (G.2.2.2.2.2.2.1.ext O0.2) (g := (mkF m 13 #[.val (.int (1 : Int32))] [])) rfl (hb hby d1_13)
  refine OGot.go st1 ?_
  show OGot p.tables e below (T1.setTop (mkF m 16 #[.val (.int (1 : Int32))] [(.ref w_INTEGER)])) _
  obtain ⟨fs, hr, hrun, hended, hW, hsame⟩ := X1.leave (v := some (.ref w_INTEGER)) (fun h => by rw [Bd.returns] at h; cases h)
  refine ⟨_, _, oretA X1 hx Bd.returns rfl rfl (hb hby d1_16) hr, hrun, hended, _, _, rfl, ?_, ⟨_, rfl⟩, hW, hsame.mono (by decide) (by decide)⟩
  exact (⟨rfl, N0, e1⟩ : Q1_1 Z w_TEXT w_DATE w_DECIMAL w_INTEGER  h0 n0 _ T1.heap _)
theorem d2_5 : decode prog_51_method_8_code 5 = .ok (.aload_n 0, 1) := by decide +kernel
theorem d2_6 : decode prog_51_method_8_code 6 = .ok (.getstatic 10, 3) := by decide +kernel
theorem d2_9 : decode prog_51_method_8_code 9 = .ok (.if_acmp .ne 14, 3) := by decide +kernel
theorem d2_23 : decode prog_51_method_8_code 23 = .ok (.iconst 0, 1) := by decide +kernel
def Q2_1 (Z : State) (w_TEXT : Addr) (w_DATE : Addr) (w_DECIMAL : Addr) (w_INTEGER : Addr)  (h0 : Heap) (n0 : Nat) (v : Option Value) (h : Heap) (L : List Loc) : Prop := v = some (.int (0 : Int32)) ∧ Fr n0 L ∧ h = h0
theorem ef2_1 (m : MethodId) (x0 : Addr) (x1 : Addr) : entryFrame m #[(.ref x0), (.ref x1)] 2 = mkF m 0 #[.val (.ref x0), .val (.ref x1)] [] := by first | (simp [entryFrame, mkF, argsToLocals, Value.category]; done) | rfl
set_option maxRecDepth 65536 in
set_option maxHeartbeats 40000000 in
theorem rm2_1 (l : Launch) (Z : State) (a0 : Array Value) (hw : ∀ d ∈ tables_1, d.before a0 Z = true) (ws : List Jvm.Cond) {w_TEXT : Addr} {w_DATE : Addr} {w_DECIMAL : Addr} {w_INTEGER : Addr} (G : Glob Z w_TEXT w_DATE w_DECIMAL w_INTEGER)  (h0 : Heap) (n0 : Nat) (O0 : Old Z n0 h0) :
    MetFree l (⟨"com/example/archipel/archipel/model/DataType", "takes", "(Lcom/example/archipel/archipel/model/DataType;)Z"⟩ : MethodName) (head1 (Jvm.Cond.code (⟨"com/example/archipel/archipel/model/DataType", "takes", "(Lcom/example/archipel/archipel/model/DataType;)Z"⟩ : MethodName) prog_51_method_8_code 2 (some .boolean) :: ws) ({ frames := 0, cells := 0, slots := 0, locals := 0 } : Room)) (fun a U => a = #[(.ref w_TEXT), (.ref w_INTEGER)] ∧ Z.Warmed39 U.vm ∧ U.heap = h0) (fun _ _ _ _ _ => True) (fun _ U o U' => ∃ v L, o = .returned v ∧ Q2_1 Z w_TEXT w_DATE w_DECIMAL w_INTEGER  h0 n0 v U'.heap L ∧ FrameEnd U o U' L ({ frames := 0, cells := 0, slots := 0, locals := 0 } : Room).cells ({ frames := 0, cells := 0, slots := 0, locals := 0 } : Room).slots) := by
  refine MetFree.of_bodySF (plainFor_of_name pn_com_example_archipel_archipel_model_DataType) hisR ?_
  intro p e s m args below meth c s₁ Bd hml0 hP hK
  obtain ⟨rfl, hZ, hh⟩ := hP
  have hx := Bd.exec
  have hby := Bd.bytes
  have hml : c.maxLocals = 2 := hml0
  have hown : s.vm.findClass "com/example/archipel/archipel/model/DataType" = some m.cls := findClass_of_methodNamed Bd.named
  have hnm := (name_of_methodNamed Bd.named Bd.method).1
  have X0 : Stand p l e ({ frames := 0, cells := 0, slots := 0, locals := 0 } : Room) s m #[(.ref w_TEXT), (.ref w_INTEGER)] below meth c s₁ [] 0 0 := Stand.of_body Bd
  have e0 : s₁.heap = h0 := by rw [← hh, Bd.state]; rfl
  have N0 := Fr.nil n0
  show OGot p.tables e below (s₁.setTop (entryFrame m #[(.ref w_TEXT), (.ref w_INTEGER)] 2)) _
  refine OGot.go (fun t k => castTop (ef2_1 m w_TEXT w_INTEGER) k) ?_
  show OGot p.tables e below (s₁.setTop (mkF m 0 #[.val (.ref w_TEXT), .val (.ref w_INTEGER)] [])) _
  refine OGot.go (fun t k => XS.aloadN X0.here hx rfl (hb hby d2_0) rfl rfl k) ?_
  show OGot p.tables e below (s₁.setTop (mkF m 1 #[.val (.ref w_TEXT), .val (.ref w_INTEGER)] [(.ref w_TEXT)])) _
  refine OGot.go (fun t k => XS.aloadN X0.here hx rfl (hb hby d2_1) rfl rfl k) ?_
  show OGot p.tables e below (s₁.setTop (mkF m 2 #[.val (.ref w_TEXT), .val (.ref w_INTEGER)] [(.ref w_INTEGER), (.ref w_TEXT)])) _
  have ne3 : w_TEXT ≠ w_INTEGER := (Fld.ne G.2.2.2.2.2.2.2.2.1 G.2.2.2.2.2.2.2.2.2.2.2 (by decide))
  refine OGot.go (fun t k => Jvm.RoadKit.acmp (g := (mkF m 2 #[.val (.ref w_TEXT), .val (.ref w_INTEGER)] [(.ref w_INTEGER), (.ref w_TEXT)])) X0 hx rfl rfl rfl (pc0 := 2) (pc' := 5) (same := false) rfl (hb hby d2_2) rfl (decide_eq_false fun q => ne3 (Value.ref.inj q)) (by decide) (by decide) k) ?_
  show OGot p.tables e below (s₁.setTop (mkF m 5 #[.val (.ref w_TEXT), .val (.ref w_INTEGER)] [])) _
  refine OGot.go (fun t k => XS.aloadN X0.here hx rfl (hb hby d2_5) rfl rfl k) ?_
  show OGot p.tables e below (s₁.setTop (mkF m 6 #[.val (.ref w_TEXT), .val (.ref w_INTEGER)] [(.ref w_TEXT)])) _
  obtain ⟨T4, X4, e4, st4⟩ := getS2 X0 hx hZ hown (host := "") (Or.inl (ow hw 14 rfl)) Via.refl e0 (G.2.2.2.2.1.ext O0.2) (g := (mkF m 6 #[.val (.ref w_TEXT), .val (.ref w_INTEGER)] [(.ref w_TEXT)])) rfl (hb hby d2_6)
  refine OGot.go st4 ?_
  show OGot p.tables e below (T4.setTop (mkF m 9 #[.val (.ref w_TEXT), .val (.ref w_INTEGER)] [(.ref w_DECIMAL), (.ref w_TEXT)])) _
  have ne5 : w_TEXT ≠ w_DECIMAL := (Fld.ne G.2.2.2.2.2.2.2.2.1 G.2.2.2.2.2.2.2.2.2.2.1 (by decide))
  refine OGot.go (fun t k => Jvm.RoadKit.acmp (g := (mkF m 9 #[.val (.ref w_TEXT), .val (.ref w_INTEGER)] [(.ref w_DECIMAL), (.ref w_TEXT)])) X4 hx rfl rfl rfl (pc0 := 9) (pc' := 23) (same := false) rfl (hb hby d2_9) rfl (decide_eq_false fun q => ne5 (Value.ref.inj q)) (by decide) (by decide) k) ?_
  show OGot p.tables e below (T4.setTop (mkF m 23 #[.val (.ref w_TEXT), .val (.ref w_INTEGER)] [])) _
  refine OGot.go (fun t k => XS.iconst X4.here hx rfl (hb hby d2_23) k) ?_
  show OGot p.tables e below (T4.setTop (mkF m 24 #[.val (.ref w_TEXT), .val (.ref w_INTEGER)] [(.int (0 : Int32))])) _
  obtain ⟨fs, hr, hrun, hended, hW, hsame⟩ := X4.leave (v := some (.int (0 : Int32))) (fun h => by rw [Bd.returns] at h; cases h)
  refine ⟨_, _, retN X4 hx (t := .boolean) Bd.returns (by simp) (hb hby d2_24) hr, hrun, hended, _, _, rfl, ?_, ⟨_, rfl⟩, hW, hsame.mono (by decide) (by decide)⟩
  exact (⟨rfl, N0, e4⟩ : Q2_1 Z w_TEXT w_DATE w_DECIMAL w_INTEGER  h0 n0 _ T4.heap _)
theorem d1_17 : decode method_2_code 17 = .ok (.iload_n 0, 1) := by decide +kernel
theorem d1_18 : decode method_2_code 18 = .ok (.iconst 2, 1) := by decide +kernel
theorem d1_19 : decode method_2_code 19 = .ok (.if_icmp .ne 7, 3) := by decide +kernel
theorem d1_22 : decode method_2_code 22 = .ok (.getstatic 16, 3) := by decide +kernel
theorem d1_25 : decode method_2_code 25 = .ok (.areturn, 1) := by decide +kernel
def Q1_2 (Z : State) (w_TEXT : Addr) (w_DATE : Addr) (w_DECIMAL : Addr) (w_INTEGER : Addr)  (h0 : Heap) (n0 : Nat) (v : Option Value) (h : Heap) (L : List Loc) : Prop := v = some (.ref w_DECIMAL) ∧ Fr n0 L ∧ h = h0
theorem ef1_2 (m : MethodId)  : entryFrame m #[(.int (2 : Int32))] 1 = mkF m 0 #[.val (.int (2 : Int32))] [] := by first | (simp [entryFrame, mkF, argsToLocals, Value.category]; done) | rfl
set_option maxRecDepth 65536 in
set_option maxHeartbeats 40000000 in
theorem rm1_2 (l : Launch) (Z : State) (a0 : Array Value) (hw : ∀ d ∈ tables_1, d.before a0 Z = true) (ws : List Jvm.Cond) {w_TEXT : Addr} {w_DATE : Addr} {w_DECIMAL : Addr} {w_INTEGER : Addr} (G : Glob Z w_TEXT w_DATE w_DECIMAL w_INTEGER)  (h0 : Heap) (n0 : Nat) (O0 : Old Z n0 h0) :
    MetFree l (⟨"com/example/archipel/archipel/model/DataTypeTakesPinLaw", "pick", "(I)Lcom/example/archipel/archipel/model/DataType;"⟩ : MethodName) (head1 (Jvm.Cond.code (⟨"com/example/archipel/archipel/model/DataTypeTakesPinLaw", "pick", "(I)Lcom/example/archipel/archipel/model/DataType;"⟩ : MethodName) method_2_code 1 (some (.object "com/example/archipel/archipel/model/DataType")) :: ws) ({ frames := 0, cells := 0, slots := 0, locals := 0 } : Room)) (fun a U => a = #[(.int (2 : Int32))] ∧ Z.Warmed39 U.vm ∧ U.heap = h0) (fun _ _ _ _ _ => True) (fun _ U o U' => ∃ v L, o = .returned v ∧ Q1_2 Z w_TEXT w_DATE w_DECIMAL w_INTEGER  h0 n0 v U'.heap L ∧ FrameEnd U o U' L ({ frames := 0, cells := 0, slots := 0, locals := 0 } : Room).cells ({ frames := 0, cells := 0, slots := 0, locals := 0 } : Room).slots) := by
  refine MetFree.of_bodySF (plainFor_of_name pn_com_example_archipel_archipel_model_DataTypeTakesPinLaw) hisR ?_
  intro p e s m args below meth c s₁ Bd hml0 hP hK
  obtain ⟨rfl, hZ, hh⟩ := hP
  have hx := Bd.exec
  have hby := Bd.bytes
  have hml : c.maxLocals = 1 := hml0
  have hown : s.vm.findClass "com/example/archipel/archipel/model/DataTypeTakesPinLaw" = some m.cls := findClass_of_methodNamed Bd.named
  have hnm := (name_of_methodNamed Bd.named Bd.method).1
  have X0 : Stand p l e ({ frames := 0, cells := 0, slots := 0, locals := 0 } : Room) s m #[(.int (2 : Int32))] below meth c s₁ [] 0 0 := Stand.of_body Bd
  have e0 : s₁.heap = h0 := by rw [← hh, Bd.state]; rfl
  have N0 := Fr.nil n0
  show OGot p.tables e below (s₁.setTop (entryFrame m #[(.int (2 : Int32))] 1)) _
  refine OGot.go (fun t k => castTop (ef1_2 m ) k) ?_
  show OGot p.tables e below (s₁.setTop (mkF m 0 #[.val (.int (2 : Int32))] [])) _
  refine OGot.go (fun t k => XS.iloadN X0.here hx rfl (hb hby d1_0) rfl k) ?_
  show OGot p.tables e below (s₁.setTop (mkF m 1 #[.val (.int (2 : Int32))] [(.int (2 : Int32))])) _
  refine OGot.go (fun t k => XS.ifYes X0.here hx rfl (pc0 := 1) (pc' := 8) rfl (hb hby d1_1) rfl (by decide) (by decide) (by decide) k) ?_
  show OGot p.tables e below (s₁.setTop (mkF m 8 #[.val (.int (2 : Int32))] [])) _
  refine OGot.go (fun t k => XS.iloadN X0.here hx rfl (hb hby d1_8) rfl k) ?_
  show OGot p.tables e below (s₁.setTop (mkF m 9 #[.val (.int (2 : Int32))] [(.int (2 : Int32))])) _
  refine OGot.go (fun t k => XS.iconst X0.here hx rfl (hb hby d1_9) k) ?_
  show OGot p.tables e below (s₁.setTop (mkF m 10 #[.val (.int (2 : Int32))] [(.int (1 : Int32)), (.int (2 : Int32))])) _
  refine OGot.go (fun t k => XS.icmpYes X0.here hx rfl (pc0 := 10) (pc' := 17) rfl (hb hby d1_10) rfl (by decide) (by decide) (by decide) k) ?_
  show OGot p.tables e below (s₁.setTop (mkF m 17 #[.val (.int (2 : Int32))] [])) _
  refine OGot.go (fun t k => XS.iloadN X0.here hx rfl (hb hby d1_17) rfl k) ?_
  show OGot p.tables e below (s₁.setTop (mkF m 18 #[.val (.int (2 : Int32))] [(.int (2 : Int32))])) _
  refine OGot.go (fun t k => XS.iconst X0.here hx rfl (hb hby d1_18) k) ?_
  show OGot p.tables e below (s₁.setTop (mkF m 19 #[.val (.int (2 : Int32))] [(.int (2 : Int32)), (.int (2 : Int32))])) _
  refine OGot.go (fun t k => XS.icmpNo X0.here hx rfl (hb hby d1_19) rfl (by decide) k) ?_
  show OGot p.tables e below (s₁.setTop (mkF m 22 #[.val (.int (2 : Int32))] [])) _
  obtain ⟨T1, X1, e1, st1⟩ := getS2 X0 hx hZ hown (host := "") (Or.inl (ow hw 17 rfl)) Via.refl e0 (G.2.2.2.2.1.ext O0.2) (g := (mkF m 22 #[.val (.int (2 : Int32))] [])) rfl (hb hby d1_22)
  refine OGot.go st1 ?_
  show OGot p.tables e below (T1.setTop (mkF m 25 #[.val (.int (2 : Int32))] [(.ref w_DECIMAL)])) _
  obtain ⟨fs, hr, hrun, hended, hW, hsame⟩ := X1.leave (v := some (.ref w_DECIMAL)) (fun h => by rw [Bd.returns] at h; cases h)
  refine ⟨_, _, oretA X1 hx Bd.returns rfl rfl (hb hby d1_25) hr, hrun, hended, _, _, rfl, ?_, ⟨_, rfl⟩, hW, hsame.mono (by decide) (by decide)⟩
  exact (⟨rfl, N0, e1⟩ : Q1_2 Z w_TEXT w_DATE w_DECIMAL w_INTEGER  h0 n0 _ T1.heap _)
def Q2_2 (Z : State) (w_TEXT : Addr) (w_DATE : Addr) (w_DECIMAL : Addr) (w_INTEGER : Addr)  (h0 : Heap) (n0 : Nat) (v : Option Value) (h : Heap) (L : List Loc) : Prop := v = some (.int (0 : Int32)) ∧ Fr n0 L ∧ h = h0
theorem ef2_2 (m : MethodId) (x0 : Addr) (x1 : Addr) : entryFrame m #[(.ref x0), (.ref x1)] 2 = mkF m 0 #[.val (.ref x0), .val (.ref x1)] [] := by first | (simp [entryFrame, mkF, argsToLocals, Value.category]; done) | rfl
set_option maxRecDepth 65536 in
set_option maxHeartbeats 40000000 in
theorem rm2_2 (l : Launch) (Z : State) (a0 : Array Value) (hw : ∀ d ∈ tables_1, d.before a0 Z = true) (ws : List Jvm.Cond) {w_TEXT : Addr} {w_DATE : Addr} {w_DECIMAL : Addr} {w_INTEGER : Addr} (G : Glob Z w_TEXT w_DATE w_DECIMAL w_INTEGER)  (h0 : Heap) (n0 : Nat) (O0 : Old Z n0 h0) :
    MetFree l (⟨"com/example/archipel/archipel/model/DataType", "takes", "(Lcom/example/archipel/archipel/model/DataType;)Z"⟩ : MethodName) (head1 (Jvm.Cond.code (⟨"com/example/archipel/archipel/model/DataType", "takes", "(Lcom/example/archipel/archipel/model/DataType;)Z"⟩ : MethodName) prog_51_method_8_code 2 (some .boolean) :: ws) ({ frames := 0, cells := 0, slots := 0, locals := 0 } : Room)) (fun a U => a = #[(.ref w_TEXT), (.ref w_DECIMAL)] ∧ Z.Warmed39 U.vm ∧ U.heap = h0) (fun _ _ _ _ _ => True) (fun _ U o U' => ∃ v L, o = .returned v ∧ Q2_2 Z w_TEXT w_DATE w_DECIMAL w_INTEGER  h0 n0 v U'.heap L ∧ FrameEnd U o U' L ({ frames := 0, cells := 0, slots := 0, locals := 0 } : Room).cells ({ frames := 0, cells := 0, slots := 0, locals := 0 } : Room).slots) := by
  refine MetFree.of_bodySF (plainFor_of_name pn_com_example_archipel_archipel_model_DataType) hisR ?_
  intro p e s m args below meth c s₁ Bd hml0 hP hK
  obtain ⟨rfl, hZ, hh⟩ := hP
  have hx := Bd.exec
  have hby := Bd.bytes
  have hml : c.maxLocals = 2 := hml0
  have hown : s.vm.findClass "com/example/archipel/archipel/model/DataType" = some m.cls := findClass_of_methodNamed Bd.named
  have hnm := (name_of_methodNamed Bd.named Bd.method).1
  have X0 : Stand p l e ({ frames := 0, cells := 0, slots := 0, locals := 0 } : Room) s m #[(.ref w_TEXT), (.ref w_DECIMAL)] below meth c s₁ [] 0 0 := Stand.of_body Bd
  have e0 : s₁.heap = h0 := by rw [← hh, Bd.state]; rfl
  have N0 := Fr.nil n0
  show OGot p.tables e below (s₁.setTop (entryFrame m #[(.ref w_TEXT), (.ref w_DECIMAL)] 2)) _
  refine OGot.go (fun t k => castTop (ef2_2 m w_TEXT w_DECIMAL) k) ?_
  show OGot p.tables e below (s₁.setTop (mkF m 0 #[.val (.ref w_TEXT), .val (.ref w_DECIMAL)] [])) _
  refine OGot.go (fun t k => XS.aloadN X0.here hx rfl (hb hby d2_0) rfl rfl k) ?_
  show OGot p.tables e below (s₁.setTop (mkF m 1 #[.val (.ref w_TEXT), .val (.ref w_DECIMAL)] [(.ref w_TEXT)])) _
  refine OGot.go (fun t k => XS.aloadN X0.here hx rfl (hb hby d2_1) rfl rfl k) ?_
  show OGot p.tables e below (s₁.setTop (mkF m 2 #[.val (.ref w_TEXT), .val (.ref w_DECIMAL)] [(.ref w_DECIMAL), (.ref w_TEXT)])) _
  have ne3 : w_TEXT ≠ w_DECIMAL := (Fld.ne G.2.2.2.2.2.2.2.2.1 G.2.2.2.2.2.2.2.2.2.2.1 (by decide))
  refine OGot.go (fun t k => Jvm.RoadKit.acmp (g := (mkF m 2 #[.val (.ref w_TEXT), .val (.ref w_DECIMAL)] [(.ref w_DECIMAL), (.ref w_TEXT)])) X0 hx rfl rfl rfl (pc0 := 2) (pc' := 5) (same := false) rfl (hb hby d2_2) rfl (decide_eq_false fun q => ne3 (Value.ref.inj q)) (by decide) (by decide) k) ?_
  show OGot p.tables e below (s₁.setTop (mkF m 5 #[.val (.ref w_TEXT), .val (.ref w_DECIMAL)] [])) _
  refine OGot.go (fun t k => XS.aloadN X0.here hx rfl (hb hby d2_5) rfl rfl k) ?_
  show OGot p.tables e below (s₁.setTop (mkF m 6 #[.val (.ref w_TEXT), .val (.ref w_DECIMAL)] [(.ref w_TEXT)])) _
  obtain ⟨T4, X4, e4, st4⟩ := getS2 X0 hx hZ hown (host := "") (Or.inl (ow hw 14 rfl)) Via.refl e0 (G.2.2.2.2.1.ext O0.2) (g := (mkF m 6 #[.val (.ref w_TEXT), .val (.ref w_DECIMAL)] [(.ref w_TEXT)])) rfl (hb hby d2_6)
  refine OGot.go st4 ?_
  show OGot p.tables e below (T4.setTop (mkF m 9 #[.val (.ref w_TEXT), .val (.ref w_DECIMAL)] [(.ref w_DECIMAL), (.ref w_TEXT)])) _
  refine OGot.go (fun t k => Jvm.RoadKit.acmp (g := (mkF m 9 #[.val (.ref w_TEXT), .val (.ref w_DECIMAL)] [(.ref w_DECIMAL), (.ref w_TEXT)])) X4 hx rfl rfl rfl (pc0 := 9) (pc' := 23) (same := false) rfl (hb hby d2_9) rfl (decide_eq_false fun q => ne3 (Value.ref.inj q)) (by decide) (by decide) k) ?_
  show OGot p.tables e below (T4.setTop (mkF m 23 #[.val (.ref w_TEXT), .val (.ref w_DECIMAL)] [])) _
  refine OGot.go (fun t k => XS.iconst X4.here hx rfl (hb hby d2_23) k) ?_
  show OGot p.tables e below (T4.setTop (mkF m 24 #[.val (.ref w_TEXT), .val (.ref w_DECIMAL)] [(.int (0 : Int32))])) _
  obtain ⟨fs, hr, hrun, hended, hW, hsame⟩ := X4.leave (v := some (.int (0 : Int32))) (fun h => by rw [Bd.returns] at h; cases h)
  refine ⟨_, _, retN X4 hx (t := .boolean) Bd.returns (by simp) (hb hby d2_24) hr, hrun, hended, _, _, rfl, ?_, ⟨_, rfl⟩, hW, hsame.mono (by decide) (by decide)⟩
  exact (⟨rfl, N0, e4⟩ : Q2_2 Z w_TEXT w_DATE w_DECIMAL w_INTEGER  h0 n0 _ T4.heap _)
theorem d1_26 : decode method_2_code 26 = .ok (.getstatic 19, 3) := by decide +kernel
theorem d1_29 : decode method_2_code 29 = .ok (.areturn, 1) := by decide +kernel
def Q1_3 (Z : State) (w_TEXT : Addr) (w_DATE : Addr) (w_DECIMAL : Addr) (w_INTEGER : Addr)  (h0 : Heap) (n0 : Nat) (v : Option Value) (h : Heap) (L : List Loc) : Prop := v = some (.ref w_DATE) ∧ Fr n0 L ∧ h = h0
theorem ef1_3 (m : MethodId)  : entryFrame m #[(.int (3 : Int32))] 1 = mkF m 0 #[.val (.int (3 : Int32))] [] := by first | (simp [entryFrame, mkF, argsToLocals, Value.category]; done) | rfl
set_option maxRecDepth 65536 in
set_option maxHeartbeats 40000000 in
theorem rm1_3 (l : Launch) (Z : State) (a0 : Array Value) (hw : ∀ d ∈ tables_1, d.before a0 Z = true) (ws : List Jvm.Cond) {w_TEXT : Addr} {w_DATE : Addr} {w_DECIMAL : Addr} {w_INTEGER : Addr} (G : Glob Z w_TEXT w_DATE w_DECIMAL w_INTEGER)  (h0 : Heap) (n0 : Nat) (O0 : Old Z n0 h0) :
    MetFree l (⟨"com/example/archipel/archipel/model/DataTypeTakesPinLaw", "pick", "(I)Lcom/example/archipel/archipel/model/DataType;"⟩ : MethodName) (head1 (Jvm.Cond.code (⟨"com/example/archipel/archipel/model/DataTypeTakesPinLaw", "pick", "(I)Lcom/example/archipel/archipel/model/DataType;"⟩ : MethodName) method_2_code 1 (some (.object "com/example/archipel/archipel/model/DataType")) :: ws) ({ frames := 0, cells := 0, slots := 0, locals := 0 } : Room)) (fun a U => a = #[(.int (3 : Int32))] ∧ Z.Warmed39 U.vm ∧ U.heap = h0) (fun _ _ _ _ _ => True) (fun _ U o U' => ∃ v L, o = .returned v ∧ Q1_3 Z w_TEXT w_DATE w_DECIMAL w_INTEGER  h0 n0 v U'.heap L ∧ FrameEnd U o U' L ({ frames := 0, cells := 0, slots := 0, locals := 0 } : Room).cells ({ frames := 0, cells := 0, slots := 0, locals := 0 } : Room).slots) := by
  refine MetFree.of_bodySF (plainFor_of_name pn_com_example_archipel_archipel_model_DataTypeTakesPinLaw) hisR ?_
  intro p e s m args below meth c s₁ Bd hml0 hP hK
  obtain ⟨rfl, hZ, hh⟩ := hP
  have hx := Bd.exec
  have hby := Bd.bytes
  have hml : c.maxLocals = 1 := hml0
  have hown : s.vm.findClass "com/example/archipel/archipel/model/DataTypeTakesPinLaw" = some m.cls := findClass_of_methodNamed Bd.named
  have hnm := (name_of_methodNamed Bd.named Bd.method).1
  have X0 : Stand p l e ({ frames := 0, cells := 0, slots := 0, locals := 0 } : Room) s m #[(.int (3 : Int32))] below meth c s₁ [] 0 0 := Stand.of_body Bd
  have e0 : s₁.heap = h0 := by rw [← hh, Bd.state]; rfl
  have N0 := Fr.nil n0
  show OGot p.tables e below (s₁.setTop (entryFrame m #[(.int (3 : Int32))] 1)) _
  refine OGot.go (fun t k => castTop (ef1_3 m ) k) ?_
  show OGot p.tables e below (s₁.setTop (mkF m 0 #[.val (.int (3 : Int32))] [])) _
  refine OGot.go (fun t k => XS.iloadN X0.here hx rfl (hb hby d1_0) rfl k) ?_
  show OGot p.tables e below (s₁.setTop (mkF m 1 #[.val (.int (3 : Int32))] [(.int (3 : Int32))])) _
  refine OGot.go (fun t k => XS.ifYes X0.here hx rfl (pc0 := 1) (pc' := 8) rfl (hb hby d1_1) rfl (by decide) (by decide) (by decide) k) ?_
  show OGot p.tables e below (s₁.setTop (mkF m 8 #[.val (.int (3 : Int32))] [])) _
  refine OGot.go (fun t k => XS.iloadN X0.here hx rfl (hb hby d1_8) rfl k) ?_
  show OGot p.tables e below (s₁.setTop (mkF m 9 #[.val (.int (3 : Int32))] [(.int (3 : Int32))])) _
  refine OGot.go (fun t k => XS.iconst X0.here hx rfl (hb hby d1_9) k) ?_
  show OGot p.tables e below (s₁.setTop (mkF m 10 #[.val (.int (3 : Int32))] [(.int (1 : Int32)), (.int (3 : Int32))])) _
  refine OGot.go (fun t k => XS.icmpYes X0.here hx rfl (pc0 := 10) (pc' := 17) rfl (hb hby d1_10) rfl (by decide) (by decide) (by decide) k) ?_
  show OGot p.tables e below (s₁.setTop (mkF m 17 #[.val (.int (3 : Int32))] [])) _
  refine OGot.go (fun t k => XS.iloadN X0.here hx rfl (hb hby d1_17) rfl k) ?_
  show OGot p.tables e below (s₁.setTop (mkF m 18 #[.val (.int (3 : Int32))] [(.int (3 : Int32))])) _
  refine OGot.go (fun t k => XS.iconst X0.here hx rfl (hb hby d1_18) k) ?_
  show OGot p.tables e below (s₁.setTop (mkF m 19 #[.val (.int (3 : Int32))] [(.int (2 : Int32)), (.int (3 : Int32))])) _
  refine OGot.go (fun t k => XS.icmpYes X0.here hx rfl (pc0 := 19) (pc' := 26) rfl (hb hby d1_19) rfl (by decide) (by decide) (by decide) k) ?_
  show OGot p.tables e below (s₁.setTop (mkF m 26 #[.val (.int (3 : Int32))] [])) _
  obtain ⟨T1, X1, e1, st1⟩ := getS2 X0 hx hZ hown (host := "") (Or.inl (ow hw 7 rfl)) Via.refl e0 (G.2.2.1.ext O0.2) (g := (mkF m 26 #[.val (.int (3 : Int32))] [])) rfl (hb hby d1_26)
  refine OGot.go st1 ?_
  show OGot p.tables e below (T1.setTop (mkF m 29 #[.val (.int (3 : Int32))] [(.ref w_DATE)])) _
  obtain ⟨fs, hr, hrun, hended, hW, hsame⟩ := X1.leave (v := some (.ref w_DATE)) (fun h => by rw [Bd.returns] at h; cases h)
  refine ⟨_, _, oretA X1 hx Bd.returns rfl rfl (hb hby d1_29) hr, hrun, hended, _, _, rfl, ?_, ⟨_, rfl⟩, hW, hsame.mono (by decide) (by decide)⟩
  exact (⟨rfl, N0, e1⟩ : Q1_3 Z w_TEXT w_DATE w_DECIMAL w_INTEGER  h0 n0 _ T1.heap _)
def Q2_3 (Z : State) (w_TEXT : Addr) (w_DATE : Addr) (w_DECIMAL : Addr) (w_INTEGER : Addr)  (h0 : Heap) (n0 : Nat) (v : Option Value) (h : Heap) (L : List Loc) : Prop := v = some (.int (0 : Int32)) ∧ Fr n0 L ∧ h = h0
theorem ef2_3 (m : MethodId) (x0 : Addr) (x1 : Addr) : entryFrame m #[(.ref x0), (.ref x1)] 2 = mkF m 0 #[.val (.ref x0), .val (.ref x1)] [] := by first | (simp [entryFrame, mkF, argsToLocals, Value.category]; done) | rfl
set_option maxRecDepth 65536 in
set_option maxHeartbeats 40000000 in
theorem rm2_3 (l : Launch) (Z : State) (a0 : Array Value) (hw : ∀ d ∈ tables_1, d.before a0 Z = true) (ws : List Jvm.Cond) {w_TEXT : Addr} {w_DATE : Addr} {w_DECIMAL : Addr} {w_INTEGER : Addr} (G : Glob Z w_TEXT w_DATE w_DECIMAL w_INTEGER)  (h0 : Heap) (n0 : Nat) (O0 : Old Z n0 h0) :
    MetFree l (⟨"com/example/archipel/archipel/model/DataType", "takes", "(Lcom/example/archipel/archipel/model/DataType;)Z"⟩ : MethodName) (head1 (Jvm.Cond.code (⟨"com/example/archipel/archipel/model/DataType", "takes", "(Lcom/example/archipel/archipel/model/DataType;)Z"⟩ : MethodName) prog_51_method_8_code 2 (some .boolean) :: ws) ({ frames := 0, cells := 0, slots := 0, locals := 0 } : Room)) (fun a U => a = #[(.ref w_TEXT), (.ref w_DATE)] ∧ Z.Warmed39 U.vm ∧ U.heap = h0) (fun _ _ _ _ _ => True) (fun _ U o U' => ∃ v L, o = .returned v ∧ Q2_3 Z w_TEXT w_DATE w_DECIMAL w_INTEGER  h0 n0 v U'.heap L ∧ FrameEnd U o U' L ({ frames := 0, cells := 0, slots := 0, locals := 0 } : Room).cells ({ frames := 0, cells := 0, slots := 0, locals := 0 } : Room).slots) := by
  refine MetFree.of_bodySF (plainFor_of_name pn_com_example_archipel_archipel_model_DataType) hisR ?_
  intro p e s m args below meth c s₁ Bd hml0 hP hK
  obtain ⟨rfl, hZ, hh⟩ := hP
  have hx := Bd.exec
  have hby := Bd.bytes
  have hml : c.maxLocals = 2 := hml0
  have hown : s.vm.findClass "com/example/archipel/archipel/model/DataType" = some m.cls := findClass_of_methodNamed Bd.named
  have hnm := (name_of_methodNamed Bd.named Bd.method).1
  have X0 : Stand p l e ({ frames := 0, cells := 0, slots := 0, locals := 0 } : Room) s m #[(.ref w_TEXT), (.ref w_DATE)] below meth c s₁ [] 0 0 := Stand.of_body Bd
  have e0 : s₁.heap = h0 := by rw [← hh, Bd.state]; rfl
  have N0 := Fr.nil n0
  show OGot p.tables e below (s₁.setTop (entryFrame m #[(.ref w_TEXT), (.ref w_DATE)] 2)) _
  refine OGot.go (fun t k => castTop (ef2_3 m w_TEXT w_DATE) k) ?_
  show OGot p.tables e below (s₁.setTop (mkF m 0 #[.val (.ref w_TEXT), .val (.ref w_DATE)] [])) _
  refine OGot.go (fun t k => XS.aloadN X0.here hx rfl (hb hby d2_0) rfl rfl k) ?_
  show OGot p.tables e below (s₁.setTop (mkF m 1 #[.val (.ref w_TEXT), .val (.ref w_DATE)] [(.ref w_TEXT)])) _
  refine OGot.go (fun t k => XS.aloadN X0.here hx rfl (hb hby d2_1) rfl rfl k) ?_
  show OGot p.tables e below (s₁.setTop (mkF m 2 #[.val (.ref w_TEXT), .val (.ref w_DATE)] [(.ref w_DATE), (.ref w_TEXT)])) _
  have ne3 : w_TEXT ≠ w_DATE := (Fld.ne G.2.2.2.2.2.2.2.2.1 G.2.2.2.2.2.2.2.2.2.1 (by decide))
  refine OGot.go (fun t k => Jvm.RoadKit.acmp (g := (mkF m 2 #[.val (.ref w_TEXT), .val (.ref w_DATE)] [(.ref w_DATE), (.ref w_TEXT)])) X0 hx rfl rfl rfl (pc0 := 2) (pc' := 5) (same := false) rfl (hb hby d2_2) rfl (decide_eq_false fun q => ne3 (Value.ref.inj q)) (by decide) (by decide) k) ?_
  show OGot p.tables e below (s₁.setTop (mkF m 5 #[.val (.ref w_TEXT), .val (.ref w_DATE)] [])) _
  refine OGot.go (fun t k => XS.aloadN X0.here hx rfl (hb hby d2_5) rfl rfl k) ?_
  show OGot p.tables e below (s₁.setTop (mkF m 6 #[.val (.ref w_TEXT), .val (.ref w_DATE)] [(.ref w_TEXT)])) _
  obtain ⟨T4, X4, e4, st4⟩ := getS2 X0 hx hZ hown (host := "") (Or.inl (ow hw 14 rfl)) Via.refl e0 (G.2.2.2.2.1.ext O0.2) (g := (mkF m 6 #[.val (.ref w_TEXT), .val (.ref w_DATE)] [(.ref w_TEXT)])) rfl (hb hby d2_6)
  refine OGot.go st4 ?_
  show OGot p.tables e below (T4.setTop (mkF m 9 #[.val (.ref w_TEXT), .val (.ref w_DATE)] [(.ref w_DECIMAL), (.ref w_TEXT)])) _
  have ne5 : w_TEXT ≠ w_DECIMAL := (Fld.ne G.2.2.2.2.2.2.2.2.1 G.2.2.2.2.2.2.2.2.2.2.1 (by decide))
  refine OGot.go (fun t k => Jvm.RoadKit.acmp (g := (mkF m 9 #[.val (.ref w_TEXT), .val (.ref w_DATE)] [(.ref w_DECIMAL), (.ref w_TEXT)])) X4 hx rfl rfl rfl (pc0 := 9) (pc' := 23) (same := false) rfl (hb hby d2_9) rfl (decide_eq_false fun q => ne5 (Value.ref.inj q)) (by decide) (by decide) k) ?_
  show OGot p.tables e below (T4.setTop (mkF m 23 #[.val (.ref w_TEXT), .val (.ref w_DATE)] [])) _
  refine OGot.go (fun t k => XS.iconst X4.here hx rfl (hb hby d2_23) k) ?_
  show OGot p.tables e below (T4.setTop (mkF m 24 #[.val (.ref w_TEXT), .val (.ref w_DATE)] [(.int (0 : Int32))])) _
  obtain ⟨fs, hr, hrun, hended, hW, hsame⟩ := X4.leave (v := some (.int (0 : Int32))) (fun h => by rw [Bd.returns] at h; cases h)
  refine ⟨_, _, retN X4 hx (t := .boolean) Bd.returns (by simp) (hb hby d2_24) hr, hrun, hended, _, _, rfl, ?_, ⟨_, rfl⟩, hW, hsame.mono (by decide) (by decide)⟩
  exact (⟨rfl, N0, e4⟩ : Q2_3 Z w_TEXT w_DATE w_DECIMAL w_INTEGER  h0 n0 _ T4.heap _)
def Q2_4 (Z : State) (w_TEXT : Addr) (w_DATE : Addr) (w_DECIMAL : Addr) (w_INTEGER : Addr)  (h0 : Heap) (n0 : Nat) (v : Option Value) (h : Heap) (L : List Loc) : Prop := v = some (.int (0 : Int32)) ∧ Fr n0 L ∧ h = h0
theorem ef2_4 (m : MethodId) (x0 : Addr) (x1 : Addr) : entryFrame m #[(.ref x0), (.ref x1)] 2 = mkF m 0 #[.val (.ref x0), .val (.ref x1)] [] := by first | (simp [entryFrame, mkF, argsToLocals, Value.category]; done) | rfl
set_option maxRecDepth 65536 in
set_option maxHeartbeats 40000000 in
theorem rm2_4 (l : Launch) (Z : State) (a0 : Array Value) (hw : ∀ d ∈ tables_1, d.before a0 Z = true) (ws : List Jvm.Cond) {w_TEXT : Addr} {w_DATE : Addr} {w_DECIMAL : Addr} {w_INTEGER : Addr} (G : Glob Z w_TEXT w_DATE w_DECIMAL w_INTEGER)  (h0 : Heap) (n0 : Nat) (O0 : Old Z n0 h0) :
    MetFree l (⟨"com/example/archipel/archipel/model/DataType", "takes", "(Lcom/example/archipel/archipel/model/DataType;)Z"⟩ : MethodName) (head1 (Jvm.Cond.code (⟨"com/example/archipel/archipel/model/DataType", "takes", "(Lcom/example/archipel/archipel/model/DataType;)Z"⟩ : MethodName) prog_51_method_8_code 2 (some .boolean) :: ws) ({ frames := 0, cells := 0, slots := 0, locals := 0 } : Room)) (fun a U => a = #[(.ref w_INTEGER), (.ref w_TEXT)] ∧ Z.Warmed39 U.vm ∧ U.heap = h0) (fun _ _ _ _ _ => True) (fun _ U o U' => ∃ v L, o = .returned v ∧ Q2_4 Z w_TEXT w_DATE w_DECIMAL w_INTEGER  h0 n0 v U'.heap L ∧ FrameEnd U o U' L ({ frames := 0, cells := 0, slots := 0, locals := 0 } : Room).cells ({ frames := 0, cells := 0, slots := 0, locals := 0 } : Room).slots) := by
  refine MetFree.of_bodySF (plainFor_of_name pn_com_example_archipel_archipel_model_DataType) hisR ?_
  intro p e s m args below meth c s₁ Bd hml0 hP hK
  obtain ⟨rfl, hZ, hh⟩ := hP
  have hx := Bd.exec
  have hby := Bd.bytes
  have hml : c.maxLocals = 2 := hml0
  have hown : s.vm.findClass "com/example/archipel/archipel/model/DataType" = some m.cls := findClass_of_methodNamed Bd.named
  have hnm := (name_of_methodNamed Bd.named Bd.method).1
  have X0 : Stand p l e ({ frames := 0, cells := 0, slots := 0, locals := 0 } : Room) s m #[(.ref w_INTEGER), (.ref w_TEXT)] below meth c s₁ [] 0 0 := Stand.of_body Bd
  have e0 : s₁.heap = h0 := by rw [← hh, Bd.state]; rfl
  have N0 := Fr.nil n0
  show OGot p.tables e below (s₁.setTop (entryFrame m #[(.ref w_INTEGER), (.ref w_TEXT)] 2)) _
  refine OGot.go (fun t k => castTop (ef2_4 m w_INTEGER w_TEXT) k) ?_
  show OGot p.tables e below (s₁.setTop (mkF m 0 #[.val (.ref w_INTEGER), .val (.ref w_TEXT)] [])) _
  refine OGot.go (fun t k => XS.aloadN X0.here hx rfl (hb hby d2_0) rfl rfl k) ?_
  show OGot p.tables e below (s₁.setTop (mkF m 1 #[.val (.ref w_INTEGER), .val (.ref w_TEXT)] [(.ref w_INTEGER)])) _
  refine OGot.go (fun t k => XS.aloadN X0.here hx rfl (hb hby d2_1) rfl rfl k) ?_
  show OGot p.tables e below (s₁.setTop (mkF m 2 #[.val (.ref w_INTEGER), .val (.ref w_TEXT)] [(.ref w_TEXT), (.ref w_INTEGER)])) _
  have ne3 : w_INTEGER ≠ w_TEXT := (Fld.ne G.2.2.2.2.2.2.2.2.2.2.2 G.2.2.2.2.2.2.2.2.1 (by decide))
  refine OGot.go (fun t k => Jvm.RoadKit.acmp (g := (mkF m 2 #[.val (.ref w_INTEGER), .val (.ref w_TEXT)] [(.ref w_TEXT), (.ref w_INTEGER)])) X0 hx rfl rfl rfl (pc0 := 2) (pc' := 5) (same := false) rfl (hb hby d2_2) rfl (decide_eq_false fun q => ne3 (Value.ref.inj q)) (by decide) (by decide) k) ?_
  show OGot p.tables e below (s₁.setTop (mkF m 5 #[.val (.ref w_INTEGER), .val (.ref w_TEXT)] [])) _
  refine OGot.go (fun t k => XS.aloadN X0.here hx rfl (hb hby d2_5) rfl rfl k) ?_
  show OGot p.tables e below (s₁.setTop (mkF m 6 #[.val (.ref w_INTEGER), .val (.ref w_TEXT)] [(.ref w_INTEGER)])) _
  obtain ⟨T4, X4, e4, st4⟩ := getS2 X0 hx hZ hown (host := "") (Or.inl (ow hw 14 rfl)) Via.refl e0 (G.2.2.2.2.1.ext O0.2) (g := (mkF m 6 #[.val (.ref w_INTEGER), .val (.ref w_TEXT)] [(.ref w_INTEGER)])) rfl (hb hby d2_6)
  refine OGot.go st4 ?_
  show OGot p.tables e below (T4.setTop (mkF m 9 #[.val (.ref w_INTEGER), .val (.ref w_TEXT)] [(.ref w_DECIMAL), (.ref w_INTEGER)])) _
  have ne5 : w_INTEGER ≠ w_DECIMAL := (Fld.ne G.2.2.2.2.2.2.2.2.2.2.2 G.2.2.2.2.2.2.2.2.2.2.1 (by decide))
  refine OGot.go (fun t k => Jvm.RoadKit.acmp (g := (mkF m 9 #[.val (.ref w_INTEGER), .val (.ref w_TEXT)] [(.ref w_DECIMAL), (.ref w_INTEGER)])) X4 hx rfl rfl rfl (pc0 := 9) (pc' := 23) (same := false) rfl (hb hby d2_9) rfl (decide_eq_false fun q => ne5 (Value.ref.inj q)) (by decide) (by decide) k) ?_
  show OGot p.tables e below (T4.setTop (mkF m 23 #[.val (.ref w_INTEGER), .val (.ref w_TEXT)] [])) _
  refine OGot.go (fun t k => XS.iconst X4.here hx rfl (hb hby d2_23) k) ?_
  show OGot p.tables e below (T4.setTop (mkF m 24 #[.val (.ref w_INTEGER), .val (.ref w_TEXT)] [(.int (0 : Int32))])) _
  obtain ⟨fs, hr, hrun, hended, hW, hsame⟩ := X4.leave (v := some (.int (0 : Int32))) (fun h => by rw [Bd.returns] at h; cases h)
  refine ⟨_, _, retN X4 hx (t := .boolean) Bd.returns (by simp) (hb hby d2_24) hr, hrun, hended, _, _, rfl, ?_, ⟨_, rfl⟩, hW, hsame.mono (by decide) (by decide)⟩
  exact (⟨rfl, N0, e4⟩ : Q2_4 Z w_TEXT w_DATE w_DECIMAL w_INTEGER  h0 n0 _ T4.heap _)
def Q2_5 (Z : State) (w_TEXT : Addr) (w_DATE : Addr) (w_DECIMAL : Addr) (w_INTEGER : Addr)  (h0 : Heap) (n0 : Nat) (v : Option Value) (h : Heap) (L : List Loc) : Prop := v = some (.int (1 : Int32)) ∧ Fr n0 L ∧ h = h0
theorem ef2_5 (m : MethodId) (x0 : Addr) : entryFrame m #[(.ref x0), (.ref x0)] 2 = mkF m 0 #[.val (.ref x0), .val (.ref x0)] [] := by first | (simp [entryFrame, mkF, argsToLocals, Value.category]; done) | rfl
set_option maxRecDepth 65536 in
set_option maxHeartbeats 40000000 in
theorem rm2_5 (l : Launch) (Z : State) (a0 : Array Value) (hw : ∀ d ∈ tables_1, d.before a0 Z = true) (ws : List Jvm.Cond) {w_TEXT : Addr} {w_DATE : Addr} {w_DECIMAL : Addr} {w_INTEGER : Addr} (G : Glob Z w_TEXT w_DATE w_DECIMAL w_INTEGER)  (h0 : Heap) (n0 : Nat) (O0 : Old Z n0 h0) :
    MetFree l (⟨"com/example/archipel/archipel/model/DataType", "takes", "(Lcom/example/archipel/archipel/model/DataType;)Z"⟩ : MethodName) (head1 (Jvm.Cond.code (⟨"com/example/archipel/archipel/model/DataType", "takes", "(Lcom/example/archipel/archipel/model/DataType;)Z"⟩ : MethodName) prog_51_method_8_code 2 (some .boolean) :: ws) ({ frames := 0, cells := 0, slots := 0, locals := 0 } : Room)) (fun a U => a = #[(.ref w_INTEGER), (.ref w_INTEGER)] ∧ Z.Warmed39 U.vm ∧ U.heap = h0) (fun _ _ _ _ _ => True) (fun _ U o U' => ∃ v L, o = .returned v ∧ Q2_5 Z w_TEXT w_DATE w_DECIMAL w_INTEGER  h0 n0 v U'.heap L ∧ FrameEnd U o U' L ({ frames := 0, cells := 0, slots := 0, locals := 0 } : Room).cells ({ frames := 0, cells := 0, slots := 0, locals := 0 } : Room).slots) := by
  refine MetFree.of_bodySF (plainFor_of_name pn_com_example_archipel_archipel_model_DataType) hisR ?_
  intro p e s m args below meth c s₁ Bd hml0 hP hK
  obtain ⟨rfl, hZ, hh⟩ := hP
  have hx := Bd.exec
  have hby := Bd.bytes
  have hml : c.maxLocals = 2 := hml0
  have hown : s.vm.findClass "com/example/archipel/archipel/model/DataType" = some m.cls := findClass_of_methodNamed Bd.named
  have hnm := (name_of_methodNamed Bd.named Bd.method).1
  have X0 : Stand p l e ({ frames := 0, cells := 0, slots := 0, locals := 0 } : Room) s m #[(.ref w_INTEGER), (.ref w_INTEGER)] below meth c s₁ [] 0 0 := Stand.of_body Bd
  have e0 : s₁.heap = h0 := by rw [← hh, Bd.state]; rfl
  have N0 := Fr.nil n0
  show OGot p.tables e below (s₁.setTop (entryFrame m #[(.ref w_INTEGER), (.ref w_INTEGER)] 2)) _
  refine OGot.go (fun t k => castTop (ef2_5 m w_INTEGER) k) ?_
  show OGot p.tables e below (s₁.setTop (mkF m 0 #[.val (.ref w_INTEGER), .val (.ref w_INTEGER)] [])) _
  refine OGot.go (fun t k => XS.aloadN X0.here hx rfl (hb hby d2_0) rfl rfl k) ?_
  show OGot p.tables e below (s₁.setTop (mkF m 1 #[.val (.ref w_INTEGER), .val (.ref w_INTEGER)] [(.ref w_INTEGER)])) _
  refine OGot.go (fun t k => XS.aloadN X0.here hx rfl (hb hby d2_1) rfl rfl k) ?_
  show OGot p.tables e below (s₁.setTop (mkF m 2 #[.val (.ref w_INTEGER), .val (.ref w_INTEGER)] [(.ref w_INTEGER), (.ref w_INTEGER)])) _
  refine OGot.go (fun t k => Jvm.RoadKit.acmp (g := (mkF m 2 #[.val (.ref w_INTEGER), .val (.ref w_INTEGER)] [(.ref w_INTEGER), (.ref w_INTEGER)])) X0 hx rfl rfl rfl (pc0 := 2) (pc' := 19) (same := true) rfl (hb hby d2_2) rfl (decide_eq_true rfl) (by decide) (by decide) k) ?_
  show OGot p.tables e below (s₁.setTop (mkF m 19 #[.val (.ref w_INTEGER), .val (.ref w_INTEGER)] [])) _
  refine OGot.go (fun t k => XS.iconst X0.here hx rfl (hb hby d2_19) k) ?_
  show OGot p.tables e below (s₁.setTop (mkF m 20 #[.val (.ref w_INTEGER), .val (.ref w_INTEGER)] [(.int (1 : Int32))])) _
  refine OGot.go (fun t k => XS.goto X0.here hx rfl (pc0 := 20) (pc' := 24) rfl (hb hby d2_20) (by decide) (by decide) k) ?_
  show OGot p.tables e below (s₁.setTop (mkF m 24 #[.val (.ref w_INTEGER), .val (.ref w_INTEGER)] [(.int (1 : Int32))])) _
  obtain ⟨fs, hr, hrun, hended, hW, hsame⟩ := X0.leave (v := some (.int (1 : Int32))) (fun h => by rw [Bd.returns] at h; cases h)
  refine ⟨_, _, retN X0 hx (t := .boolean) Bd.returns (by simp) (hb hby d2_24) hr, hrun, hended, _, _, rfl, ?_, ⟨_, rfl⟩, hW, hsame.mono (by decide) (by decide)⟩
  exact (⟨rfl, N0, e0⟩ : Q2_5 Z w_TEXT w_DATE w_DECIMAL w_INTEGER  h0 n0 _ s₁.heap _)
def Q3_1 (Z : State) (w_TEXT : Addr) (w_DATE : Addr) (w_DECIMAL : Addr) (w_INTEGER : Addr)  (h0 : Heap) (n0 : Nat) (v : Option Value) (h : Heap) (L : List Loc) : Prop := v = some (.int (1 : Int32)) ∧ Fr n0 L ∧ h = h0
theorem ef3_1 (m : MethodId) (x0 : Addr) : entryFrame m #[(.ref x0), (.ref x0)] 2 = mkF m 0 #[.val (.ref x0), .val (.ref x0)] [] := by first | (simp [entryFrame, mkF, argsToLocals, Value.category]; done) | rfl
set_option maxRecDepth 65536 in
set_option maxHeartbeats 40000000 in
theorem rm3_1 (l : Launch) (Z : State) (a0 : Array Value) (hw : ∀ d ∈ tables_1, d.before a0 Z = true) (ws : List Jvm.Cond) {w_TEXT : Addr} {w_DATE : Addr} {w_DECIMAL : Addr} {w_INTEGER : Addr} (G : Glob Z w_TEXT w_DATE w_DECIMAL w_INTEGER)  (h0 : Heap) (n0 : Nat) (O0 : Old Z n0 h0) :
    MetFree l (⟨"com/example/archipel/archipel/model/DataType", "comparableWith", "(Lcom/example/archipel/archipel/model/DataType;)Z"⟩ : MethodName) (head1 (Jvm.Cond.code (⟨"com/example/archipel/archipel/model/DataType", "comparableWith", "(Lcom/example/archipel/archipel/model/DataType;)Z"⟩ : MethodName) prog_51_method_4_code 2 (some .boolean) :: ws) ({ frames := 0, cells := 0, slots := 0, locals := 0 } : Room)) (fun a U => a = #[(.ref w_INTEGER), (.ref w_INTEGER)] ∧ Z.Warmed39 U.vm ∧ U.heap = h0) (fun _ _ _ _ _ => True) (fun _ U o U' => ∃ v L, o = .returned v ∧ Q3_1 Z w_TEXT w_DATE w_DECIMAL w_INTEGER  h0 n0 v U'.heap L ∧ FrameEnd U o U' L ({ frames := 0, cells := 0, slots := 0, locals := 0 } : Room).cells ({ frames := 0, cells := 0, slots := 0, locals := 0 } : Room).slots) := by
  refine MetFree.of_bodySF (plainFor_of_name pn_com_example_archipel_archipel_model_DataType) hisR ?_
  intro p e s m args below meth c s₁ Bd hml0 hP hK
  obtain ⟨rfl, hZ, hh⟩ := hP
  have hx := Bd.exec
  have hby := Bd.bytes
  have hml : c.maxLocals = 2 := hml0
  have hown : s.vm.findClass "com/example/archipel/archipel/model/DataType" = some m.cls := findClass_of_methodNamed Bd.named
  have hnm := (name_of_methodNamed Bd.named Bd.method).1
  have X0 : Stand p l e ({ frames := 0, cells := 0, slots := 0, locals := 0 } : Room) s m #[(.ref w_INTEGER), (.ref w_INTEGER)] below meth c s₁ [] 0 0 := Stand.of_body Bd
  have e0 : s₁.heap = h0 := by rw [← hh, Bd.state]; rfl
  have N0 := Fr.nil n0
  show OGot p.tables e below (s₁.setTop (entryFrame m #[(.ref w_INTEGER), (.ref w_INTEGER)] 2)) _
  refine OGot.go (fun t k => castTop (ef3_1 m w_INTEGER) k) ?_
  show OGot p.tables e below (s₁.setTop (mkF m 0 #[.val (.ref w_INTEGER), .val (.ref w_INTEGER)] [])) _
  refine OGot.go (fun t k => XS.aloadN X0.here hx rfl (hb hby d3_0) rfl rfl k) ?_
  show OGot p.tables e below (s₁.setTop (mkF m 1 #[.val (.ref w_INTEGER), .val (.ref w_INTEGER)] [(.ref w_INTEGER)])) _
  refine OGot.go (fun t k => XS.aloadN X0.here hx rfl (hb hby d3_1) rfl rfl k) ?_
  show OGot p.tables e below (s₁.setTop (mkF m 2 #[.val (.ref w_INTEGER), .val (.ref w_INTEGER)] [(.ref w_INTEGER), (.ref w_INTEGER)])) _
  refine OGot.go (fun t k => Jvm.RoadKit.acmp (g := (mkF m 2 #[.val (.ref w_INTEGER), .val (.ref w_INTEGER)] [(.ref w_INTEGER), (.ref w_INTEGER)])) X0 hx rfl rfl rfl (pc0 := 2) (pc' := 19) (same := true) rfl (hb hby d3_2) rfl (decide_eq_true rfl) (by decide) (by decide) k) ?_
  show OGot p.tables e below (s₁.setTop (mkF m 19 #[.val (.ref w_INTEGER), .val (.ref w_INTEGER)] [])) _
  refine OGot.go (fun t k => XS.iconst X0.here hx rfl (hb hby d3_19) k) ?_
  show OGot p.tables e below (s₁.setTop (mkF m 20 #[.val (.ref w_INTEGER), .val (.ref w_INTEGER)] [(.int (1 : Int32))])) _
  refine OGot.go (fun t k => XS.goto X0.here hx rfl (pc0 := 20) (pc' := 24) rfl (hb hby d3_20) (by decide) (by decide) k) ?_
  show OGot p.tables e below (s₁.setTop (mkF m 24 #[.val (.ref w_INTEGER), .val (.ref w_INTEGER)] [(.int (1 : Int32))])) _
  obtain ⟨fs, hr, hrun, hended, hW, hsame⟩ := X0.leave (v := some (.int (1 : Int32))) (fun h => by rw [Bd.returns] at h; cases h)
  refine ⟨_, _, retN X0 hx (t := .boolean) Bd.returns (by simp) (hb hby d3_24) hr, hrun, hended, _, _, rfl, ?_, ⟨_, rfl⟩, hW, hsame.mono (by decide) (by decide)⟩
  exact (⟨rfl, N0, e0⟩ : Q3_1 Z w_TEXT w_DATE w_DECIMAL w_INTEGER  h0 n0 _ s₁.heap _)
def Q2_6 (Z : State) (w_TEXT : Addr) (w_DATE : Addr) (w_DECIMAL : Addr) (w_INTEGER : Addr)  (h0 : Heap) (n0 : Nat) (v : Option Value) (h : Heap) (L : List Loc) : Prop := v = some (.int (0 : Int32)) ∧ Fr n0 L ∧ h = h0
theorem ef2_6 (m : MethodId) (x0 : Addr) (x1 : Addr) : entryFrame m #[(.ref x0), (.ref x1)] 2 = mkF m 0 #[.val (.ref x0), .val (.ref x1)] [] := by first | (simp [entryFrame, mkF, argsToLocals, Value.category]; done) | rfl
set_option maxRecDepth 65536 in
set_option maxHeartbeats 40000000 in
theorem rm2_6 (l : Launch) (Z : State) (a0 : Array Value) (hw : ∀ d ∈ tables_1, d.before a0 Z = true) (ws : List Jvm.Cond) {w_TEXT : Addr} {w_DATE : Addr} {w_DECIMAL : Addr} {w_INTEGER : Addr} (G : Glob Z w_TEXT w_DATE w_DECIMAL w_INTEGER)  (h0 : Heap) (n0 : Nat) (O0 : Old Z n0 h0) :
    MetFree l (⟨"com/example/archipel/archipel/model/DataType", "takes", "(Lcom/example/archipel/archipel/model/DataType;)Z"⟩ : MethodName) (head1 (Jvm.Cond.code (⟨"com/example/archipel/archipel/model/DataType", "takes", "(Lcom/example/archipel/archipel/model/DataType;)Z"⟩ : MethodName) prog_51_method_8_code 2 (some .boolean) :: ws) ({ frames := 0, cells := 0, slots := 0, locals := 0 } : Room)) (fun a U => a = #[(.ref w_INTEGER), (.ref w_DECIMAL)] ∧ Z.Warmed39 U.vm ∧ U.heap = h0) (fun _ _ _ _ _ => True) (fun _ U o U' => ∃ v L, o = .returned v ∧ Q2_6 Z w_TEXT w_DATE w_DECIMAL w_INTEGER  h0 n0 v U'.heap L ∧ FrameEnd U o U' L ({ frames := 0, cells := 0, slots := 0, locals := 0 } : Room).cells ({ frames := 0, cells := 0, slots := 0, locals := 0 } : Room).slots) := by
  refine MetFree.of_bodySF (plainFor_of_name pn_com_example_archipel_archipel_model_DataType) hisR ?_
  intro p e s m args below meth c s₁ Bd hml0 hP hK
  obtain ⟨rfl, hZ, hh⟩ := hP
  have hx := Bd.exec
  have hby := Bd.bytes
  have hml : c.maxLocals = 2 := hml0
  have hown : s.vm.findClass "com/example/archipel/archipel/model/DataType" = some m.cls := findClass_of_methodNamed Bd.named
  have hnm := (name_of_methodNamed Bd.named Bd.method).1
  have X0 : Stand p l e ({ frames := 0, cells := 0, slots := 0, locals := 0 } : Room) s m #[(.ref w_INTEGER), (.ref w_DECIMAL)] below meth c s₁ [] 0 0 := Stand.of_body Bd
  have e0 : s₁.heap = h0 := by rw [← hh, Bd.state]; rfl
  have N0 := Fr.nil n0
  show OGot p.tables e below (s₁.setTop (entryFrame m #[(.ref w_INTEGER), (.ref w_DECIMAL)] 2)) _
  refine OGot.go (fun t k => castTop (ef2_6 m w_INTEGER w_DECIMAL) k) ?_
  show OGot p.tables e below (s₁.setTop (mkF m 0 #[.val (.ref w_INTEGER), .val (.ref w_DECIMAL)] [])) _
  refine OGot.go (fun t k => XS.aloadN X0.here hx rfl (hb hby d2_0) rfl rfl k) ?_
  show OGot p.tables e below (s₁.setTop (mkF m 1 #[.val (.ref w_INTEGER), .val (.ref w_DECIMAL)] [(.ref w_INTEGER)])) _
  refine OGot.go (fun t k => XS.aloadN X0.here hx rfl (hb hby d2_1) rfl rfl k) ?_
  show OGot p.tables e below (s₁.setTop (mkF m 2 #[.val (.ref w_INTEGER), .val (.ref w_DECIMAL)] [(.ref w_DECIMAL), (.ref w_INTEGER)])) _
  have ne3 : w_INTEGER ≠ w_DECIMAL := (Fld.ne G.2.2.2.2.2.2.2.2.2.2.2 G.2.2.2.2.2.2.2.2.2.2.1 (by decide))
  refine OGot.go (fun t k => Jvm.RoadKit.acmp (g := (mkF m 2 #[.val (.ref w_INTEGER), .val (.ref w_DECIMAL)] [(.ref w_DECIMAL), (.ref w_INTEGER)])) X0 hx rfl rfl rfl (pc0 := 2) (pc' := 5) (same := false) rfl (hb hby d2_2) rfl (decide_eq_false fun q => ne3 (Value.ref.inj q)) (by decide) (by decide) k) ?_
  show OGot p.tables e below (s₁.setTop (mkF m 5 #[.val (.ref w_INTEGER), .val (.ref w_DECIMAL)] [])) _
  refine OGot.go (fun t k => XS.aloadN X0.here hx rfl (hb hby d2_5) rfl rfl k) ?_
  show OGot p.tables e below (s₁.setTop (mkF m 6 #[.val (.ref w_INTEGER), .val (.ref w_DECIMAL)] [(.ref w_INTEGER)])) _
  obtain ⟨T4, X4, e4, st4⟩ := getS2 X0 hx hZ hown (host := "") (Or.inl (ow hw 14 rfl)) Via.refl e0 (G.2.2.2.2.1.ext O0.2) (g := (mkF m 6 #[.val (.ref w_INTEGER), .val (.ref w_DECIMAL)] [(.ref w_INTEGER)])) rfl (hb hby d2_6)
  refine OGot.go st4 ?_
  show OGot p.tables e below (T4.setTop (mkF m 9 #[.val (.ref w_INTEGER), .val (.ref w_DECIMAL)] [(.ref w_DECIMAL), (.ref w_INTEGER)])) _
  refine OGot.go (fun t k => Jvm.RoadKit.acmp (g := (mkF m 9 #[.val (.ref w_INTEGER), .val (.ref w_DECIMAL)] [(.ref w_DECIMAL), (.ref w_INTEGER)])) X4 hx rfl rfl rfl (pc0 := 9) (pc' := 23) (same := false) rfl (hb hby d2_9) rfl (decide_eq_false fun q => ne3 (Value.ref.inj q)) (by decide) (by decide) k) ?_
  show OGot p.tables e below (T4.setTop (mkF m 23 #[.val (.ref w_INTEGER), .val (.ref w_DECIMAL)] [])) _
  refine OGot.go (fun t k => XS.iconst X4.here hx rfl (hb hby d2_23) k) ?_
  show OGot p.tables e below (T4.setTop (mkF m 24 #[.val (.ref w_INTEGER), .val (.ref w_DECIMAL)] [(.int (0 : Int32))])) _
  obtain ⟨fs, hr, hrun, hended, hW, hsame⟩ := X4.leave (v := some (.int (0 : Int32))) (fun h => by rw [Bd.returns] at h; cases h)
  refine ⟨_, _, retN X4 hx (t := .boolean) Bd.returns (by simp) (hb hby d2_24) hr, hrun, hended, _, _, rfl, ?_, ⟨_, rfl⟩, hW, hsame.mono (by decide) (by decide)⟩
  exact (⟨rfl, N0, e4⟩ : Q2_6 Z w_TEXT w_DATE w_DECIMAL w_INTEGER  h0 n0 _ T4.heap _)
def Q2_7 (Z : State) (w_TEXT : Addr) (w_DATE : Addr) (w_DECIMAL : Addr) (w_INTEGER : Addr)  (h0 : Heap) (n0 : Nat) (v : Option Value) (h : Heap) (L : List Loc) : Prop := v = some (.int (0 : Int32)) ∧ Fr n0 L ∧ h = h0
theorem ef2_7 (m : MethodId) (x0 : Addr) (x1 : Addr) : entryFrame m #[(.ref x0), (.ref x1)] 2 = mkF m 0 #[.val (.ref x0), .val (.ref x1)] [] := by first | (simp [entryFrame, mkF, argsToLocals, Value.category]; done) | rfl
set_option maxRecDepth 65536 in
set_option maxHeartbeats 40000000 in
theorem rm2_7 (l : Launch) (Z : State) (a0 : Array Value) (hw : ∀ d ∈ tables_1, d.before a0 Z = true) (ws : List Jvm.Cond) {w_TEXT : Addr} {w_DATE : Addr} {w_DECIMAL : Addr} {w_INTEGER : Addr} (G : Glob Z w_TEXT w_DATE w_DECIMAL w_INTEGER)  (h0 : Heap) (n0 : Nat) (O0 : Old Z n0 h0) :
    MetFree l (⟨"com/example/archipel/archipel/model/DataType", "takes", "(Lcom/example/archipel/archipel/model/DataType;)Z"⟩ : MethodName) (head1 (Jvm.Cond.code (⟨"com/example/archipel/archipel/model/DataType", "takes", "(Lcom/example/archipel/archipel/model/DataType;)Z"⟩ : MethodName) prog_51_method_8_code 2 (some .boolean) :: ws) ({ frames := 0, cells := 0, slots := 0, locals := 0 } : Room)) (fun a U => a = #[(.ref w_INTEGER), (.ref w_DATE)] ∧ Z.Warmed39 U.vm ∧ U.heap = h0) (fun _ _ _ _ _ => True) (fun _ U o U' => ∃ v L, o = .returned v ∧ Q2_7 Z w_TEXT w_DATE w_DECIMAL w_INTEGER  h0 n0 v U'.heap L ∧ FrameEnd U o U' L ({ frames := 0, cells := 0, slots := 0, locals := 0 } : Room).cells ({ frames := 0, cells := 0, slots := 0, locals := 0 } : Room).slots) := by
  refine MetFree.of_bodySF (plainFor_of_name pn_com_example_archipel_archipel_model_DataType) hisR ?_
  intro p e s m args below meth c s₁ Bd hml0 hP hK
  obtain ⟨rfl, hZ, hh⟩ := hP
  have hx := Bd.exec
  have hby := Bd.bytes
  have hml : c.maxLocals = 2 := hml0
  have hown : s.vm.findClass "com/example/archipel/archipel/model/DataType" = some m.cls := findClass_of_methodNamed Bd.named
  have hnm := (name_of_methodNamed Bd.named Bd.method).1
  have X0 : Stand p l e ({ frames := 0, cells := 0, slots := 0, locals := 0 } : Room) s m #[(.ref w_INTEGER), (.ref w_DATE)] below meth c s₁ [] 0 0 := Stand.of_body Bd
  have e0 : s₁.heap = h0 := by rw [← hh, Bd.state]; rfl
  have N0 := Fr.nil n0
  show OGot p.tables e below (s₁.setTop (entryFrame m #[(.ref w_INTEGER), (.ref w_DATE)] 2)) _
  refine OGot.go (fun t k => castTop (ef2_7 m w_INTEGER w_DATE) k) ?_
  show OGot p.tables e below (s₁.setTop (mkF m 0 #[.val (.ref w_INTEGER), .val (.ref w_DATE)] [])) _
  refine OGot.go (fun t k => XS.aloadN X0.here hx rfl (hb hby d2_0) rfl rfl k) ?_
  show OGot p.tables e below (s₁.setTop (mkF m 1 #[.val (.ref w_INTEGER), .val (.ref w_DATE)] [(.ref w_INTEGER)])) _
  refine OGot.go (fun t k => XS.aloadN X0.here hx rfl (hb hby d2_1) rfl rfl k) ?_
  show OGot p.tables e below (s₁.setTop (mkF m 2 #[.val (.ref w_INTEGER), .val (.ref w_DATE)] [(.ref w_DATE), (.ref w_INTEGER)])) _
  have ne3 : w_INTEGER ≠ w_DATE := (Fld.ne G.2.2.2.2.2.2.2.2.2.2.2 G.2.2.2.2.2.2.2.2.2.1 (by decide))
  refine OGot.go (fun t k => Jvm.RoadKit.acmp (g := (mkF m 2 #[.val (.ref w_INTEGER), .val (.ref w_DATE)] [(.ref w_DATE), (.ref w_INTEGER)])) X0 hx rfl rfl rfl (pc0 := 2) (pc' := 5) (same := false) rfl (hb hby d2_2) rfl (decide_eq_false fun q => ne3 (Value.ref.inj q)) (by decide) (by decide) k) ?_
  show OGot p.tables e below (s₁.setTop (mkF m 5 #[.val (.ref w_INTEGER), .val (.ref w_DATE)] [])) _
  refine OGot.go (fun t k => XS.aloadN X0.here hx rfl (hb hby d2_5) rfl rfl k) ?_
  show OGot p.tables e below (s₁.setTop (mkF m 6 #[.val (.ref w_INTEGER), .val (.ref w_DATE)] [(.ref w_INTEGER)])) _
  obtain ⟨T4, X4, e4, st4⟩ := getS2 X0 hx hZ hown (host := "") (Or.inl (ow hw 14 rfl)) Via.refl e0 (G.2.2.2.2.1.ext O0.2) (g := (mkF m 6 #[.val (.ref w_INTEGER), .val (.ref w_DATE)] [(.ref w_INTEGER)])) rfl (hb hby d2_6)
  refine OGot.go st4 ?_
  show OGot p.tables e below (T4.setTop (mkF m 9 #[.val (.ref w_INTEGER), .val (.ref w_DATE)] [(.ref w_DECIMAL), (.ref w_INTEGER)])) _
  have ne5 : w_INTEGER ≠ w_DECIMAL := (Fld.ne G.2.2.2.2.2.2.2.2.2.2.2 G.2.2.2.2.2.2.2.2.2.2.1 (by decide))
  refine OGot.go (fun t k => Jvm.RoadKit.acmp (g := (mkF m 9 #[.val (.ref w_INTEGER), .val (.ref w_DATE)] [(.ref w_DECIMAL), (.ref w_INTEGER)])) X4 hx rfl rfl rfl (pc0 := 9) (pc' := 23) (same := false) rfl (hb hby d2_9) rfl (decide_eq_false fun q => ne5 (Value.ref.inj q)) (by decide) (by decide) k) ?_
  show OGot p.tables e below (T4.setTop (mkF m 23 #[.val (.ref w_INTEGER), .val (.ref w_DATE)] [])) _
  refine OGot.go (fun t k => XS.iconst X4.here hx rfl (hb hby d2_23) k) ?_
  show OGot p.tables e below (T4.setTop (mkF m 24 #[.val (.ref w_INTEGER), .val (.ref w_DATE)] [(.int (0 : Int32))])) _
  obtain ⟨fs, hr, hrun, hended, hW, hsame⟩ := X4.leave (v := some (.int (0 : Int32))) (fun h => by rw [Bd.returns] at h; cases h)
  refine ⟨_, _, retN X4 hx (t := .boolean) Bd.returns (by simp) (hb hby d2_24) hr, hrun, hended, _, _, rfl, ?_, ⟨_, rfl⟩, hW, hsame.mono (by decide) (by decide)⟩
  exact (⟨rfl, N0, e4⟩ : Q2_7 Z w_TEXT w_DATE w_DECIMAL w_INTEGER  h0 n0 _ T4.heap _)
theorem d2_12 : decode prog_51_method_8_code 12 = .ok (.aload_n 1, 1) := by decide +kernel
theorem d2_13 : decode prog_51_method_8_code 13 = .ok (.getstatic 7, 3) := by decide +kernel
theorem d2_16 : decode prog_51_method_8_code 16 = .ok (.if_acmp .ne 7, 3) := by decide +kernel
def Q2_8 (Z : State) (w_TEXT : Addr) (w_DATE : Addr) (w_DECIMAL : Addr) (w_INTEGER : Addr)  (h0 : Heap) (n0 : Nat) (v : Option Value) (h : Heap) (L : List Loc) : Prop := v = some (.int (0 : Int32)) ∧ Fr n0 L ∧ h = h0
theorem ef2_8 (m : MethodId) (x0 : Addr) (x1 : Addr) : entryFrame m #[(.ref x0), (.ref x1)] 2 = mkF m 0 #[.val (.ref x0), .val (.ref x1)] [] := by first | (simp [entryFrame, mkF, argsToLocals, Value.category]; done) | rfl
set_option maxRecDepth 65536 in
set_option maxHeartbeats 40000000 in
theorem rm2_8 (l : Launch) (Z : State) (a0 : Array Value) (hw : ∀ d ∈ tables_1, d.before a0 Z = true) (ws : List Jvm.Cond) {w_TEXT : Addr} {w_DATE : Addr} {w_DECIMAL : Addr} {w_INTEGER : Addr} (G : Glob Z w_TEXT w_DATE w_DECIMAL w_INTEGER)  (h0 : Heap) (n0 : Nat) (O0 : Old Z n0 h0) :
    MetFree l (⟨"com/example/archipel/archipel/model/DataType", "takes", "(Lcom/example/archipel/archipel/model/DataType;)Z"⟩ : MethodName) (head1 (Jvm.Cond.code (⟨"com/example/archipel/archipel/model/DataType", "takes", "(Lcom/example/archipel/archipel/model/DataType;)Z"⟩ : MethodName) prog_51_method_8_code 2 (some .boolean) :: ws) ({ frames := 0, cells := 0, slots := 0, locals := 0 } : Room)) (fun a U => a = #[(.ref w_DECIMAL), (.ref w_TEXT)] ∧ Z.Warmed39 U.vm ∧ U.heap = h0) (fun _ _ _ _ _ => True) (fun _ U o U' => ∃ v L, o = .returned v ∧ Q2_8 Z w_TEXT w_DATE w_DECIMAL w_INTEGER  h0 n0 v U'.heap L ∧ FrameEnd U o U' L ({ frames := 0, cells := 0, slots := 0, locals := 0 } : Room).cells ({ frames := 0, cells := 0, slots := 0, locals := 0 } : Room).slots) := by
  refine MetFree.of_bodySF (plainFor_of_name pn_com_example_archipel_archipel_model_DataType) hisR ?_
  intro p e s m args below meth c s₁ Bd hml0 hP hK
  obtain ⟨rfl, hZ, hh⟩ := hP
  have hx := Bd.exec
  have hby := Bd.bytes
  have hml : c.maxLocals = 2 := hml0
  have hown : s.vm.findClass "com/example/archipel/archipel/model/DataType" = some m.cls := findClass_of_methodNamed Bd.named
  have hnm := (name_of_methodNamed Bd.named Bd.method).1
  have X0 : Stand p l e ({ frames := 0, cells := 0, slots := 0, locals := 0 } : Room) s m #[(.ref w_DECIMAL), (.ref w_TEXT)] below meth c s₁ [] 0 0 := Stand.of_body Bd
  have e0 : s₁.heap = h0 := by rw [← hh, Bd.state]; rfl
  have N0 := Fr.nil n0
  show OGot p.tables e below (s₁.setTop (entryFrame m #[(.ref w_DECIMAL), (.ref w_TEXT)] 2)) _
  refine OGot.go (fun t k => castTop (ef2_8 m w_DECIMAL w_TEXT) k) ?_
  show OGot p.tables e below (s₁.setTop (mkF m 0 #[.val (.ref w_DECIMAL), .val (.ref w_TEXT)] [])) _
  refine OGot.go (fun t k => XS.aloadN X0.here hx rfl (hb hby d2_0) rfl rfl k) ?_
  show OGot p.tables e below (s₁.setTop (mkF m 1 #[.val (.ref w_DECIMAL), .val (.ref w_TEXT)] [(.ref w_DECIMAL)])) _
  refine OGot.go (fun t k => XS.aloadN X0.here hx rfl (hb hby d2_1) rfl rfl k) ?_
  show OGot p.tables e below (s₁.setTop (mkF m 2 #[.val (.ref w_DECIMAL), .val (.ref w_TEXT)] [(.ref w_TEXT), (.ref w_DECIMAL)])) _
  have ne3 : w_DECIMAL ≠ w_TEXT := (Fld.ne G.2.2.2.2.2.2.2.2.2.2.1 G.2.2.2.2.2.2.2.2.1 (by decide))
  refine OGot.go (fun t k => Jvm.RoadKit.acmp (g := (mkF m 2 #[.val (.ref w_DECIMAL), .val (.ref w_TEXT)] [(.ref w_TEXT), (.ref w_DECIMAL)])) X0 hx rfl rfl rfl (pc0 := 2) (pc' := 5) (same := false) rfl (hb hby d2_2) rfl (decide_eq_false fun q => ne3 (Value.ref.inj q)) (by decide) (by decide) k) ?_
  show OGot p.tables e below (s₁.setTop (mkF m 5 #[.val (.ref w_DECIMAL), .val (.ref w_TEXT)] [])) _
  refine OGot.go (fun t k => XS.aloadN X0.here hx rfl (hb hby d2_5) rfl rfl k) ?_
  show OGot p.tables e below (s₁.setTop (mkF m 6 #[.val (.ref w_DECIMAL), .val (.ref w_TEXT)] [(.ref w_DECIMAL)])) _
  obtain ⟨T4, X4, e4, st4⟩ := getS2 X0 hx hZ hown (host := "") (Or.inl (ow hw 14 rfl)) Via.refl e0 (G.2.2.2.2.1.ext O0.2) (g := (mkF m 6 #[.val (.ref w_DECIMAL), .val (.ref w_TEXT)] [(.ref w_DECIMAL)])) rfl (hb hby d2_6)
  refine OGot.go st4 ?_
  show OGot p.tables e below (T4.setTop (mkF m 9 #[.val (.ref w_DECIMAL), .val (.ref w_TEXT)] [(.ref w_DECIMAL), (.ref w_DECIMAL)])) _
  refine OGot.go (fun t k => Jvm.RoadKit.acmp (g := (mkF m 9 #[.val (.ref w_DECIMAL), .val (.ref w_TEXT)] [(.ref w_DECIMAL), (.ref w_DECIMAL)])) X4 hx rfl rfl rfl (pc0 := 9) (pc' := 12) (same := true) rfl (hb hby d2_9) rfl (decide_eq_true rfl) (by decide) (by decide) k) ?_
  show OGot p.tables e below (T4.setTop (mkF m 12 #[.val (.ref w_DECIMAL), .val (.ref w_TEXT)] [])) _
  refine OGot.go (fun t k => XS.aloadN X4.here hx rfl (hb hby d2_12) rfl rfl k) ?_
  show OGot p.tables e below (T4.setTop (mkF m 13 #[.val (.ref w_DECIMAL), .val (.ref w_TEXT)] [(.ref w_TEXT)])) _
  obtain ⟨T5, X5, e5, st5⟩ := getS2 X4 hx hZ hown (host := "") (Or.inl (ow hw 20 rfl)) Via.refl e4 (G.2.2.2.2.2.2.1.ext O0.2) (g := (mkF m 13 #[.val (.ref w_DECIMAL), .val (.ref w_TEXT)] [(.ref w_TEXT)])) rfl (hb hby d2_13)
  refine OGot.go st5 ?_
  show OGot p.tables e below (T5.setTop (mkF m 16 #[.val (.ref w_DECIMAL), .val (.ref w_TEXT)] [(.ref w_INTEGER), (.ref w_TEXT)])) _
  have ne6 : w_TEXT ≠ w_INTEGER := (Fld.ne G.2.2.2.2.2.2.2.2.1 G.2.2.2.2.2.2.2.2.2.2.2 (by decide))
  refine OGot.go (fun t k => Jvm.RoadKit.acmp (g := (mkF m 16 #[.val (.ref w_DECIMAL), .val (.ref w_TEXT)] [(.ref w_INTEGER), (.ref w_TEXT)])) X5 hx rfl rfl rfl (pc0 := 16) (pc' := 23) (same := false) rfl (hb hby d2_16) rfl (decide_eq_false fun q => ne6 (Value.ref.inj q)) (by decide) (by decide) k) ?_
  show OGot p.tables e below (T5.setTop (mkF m 23 #[.val (.ref w_DECIMAL), .val (.ref w_TEXT)] [])) _
  refine OGot.go (fun t k => XS.iconst X5.here hx rfl (hb hby d2_23) k) ?_
  show OGot p.tables e below (T5.setTop (mkF m 24 #[.val (.ref w_DECIMAL), .val (.ref w_TEXT)] [(.int (0 : Int32))])) _
  obtain ⟨fs, hr, hrun, hended, hW, hsame⟩ := X5.leave (v := some (.int (0 : Int32))) (fun h => by rw [Bd.returns] at h; cases h)
  refine ⟨_, _, retN X5 hx (t := .boolean) Bd.returns (by simp) (hb hby d2_24) hr, hrun, hended, _, _, rfl, ?_, ⟨_, rfl⟩, hW, hsame.mono (by decide) (by decide)⟩
  exact (⟨rfl, N0, e5⟩ : Q2_8 Z w_TEXT w_DATE w_DECIMAL w_INTEGER  h0 n0 _ T5.heap _)
def Q2_9 (Z : State) (w_TEXT : Addr) (w_DATE : Addr) (w_DECIMAL : Addr) (w_INTEGER : Addr)  (h0 : Heap) (n0 : Nat) (v : Option Value) (h : Heap) (L : List Loc) : Prop := v = some (.int (1 : Int32)) ∧ Fr n0 L ∧ h = h0
theorem ef2_9 (m : MethodId) (x0 : Addr) (x1 : Addr) : entryFrame m #[(.ref x0), (.ref x1)] 2 = mkF m 0 #[.val (.ref x0), .val (.ref x1)] [] := by first | (simp [entryFrame, mkF, argsToLocals, Value.category]; done) | rfl
set_option maxRecDepth 65536 in
set_option maxHeartbeats 40000000 in
theorem rm2_9 (l : Launch) (Z : State) (a0 : Array Value) (hw : ∀ d ∈ tables_1, d.before a0 Z = true) (ws : List Jvm.Cond) {w_TEXT : Addr} {w_DATE : Addr} {w_DECIMAL : Addr} {w_INTEGER : Addr} (G : Glob Z w_TEXT w_DATE w_DECIMAL w_INTEGER)  (h0 : Heap) (n0 : Nat) (O0 : Old Z n0 h0) :
    MetFree l (⟨"com/example/archipel/archipel/model/DataType", "takes", "(Lcom/example/archipel/archipel/model/DataType;)Z"⟩ : MethodName) (head1 (Jvm.Cond.code (⟨"com/example/archipel/archipel/model/DataType", "takes", "(Lcom/example/archipel/archipel/model/DataType;)Z"⟩ : MethodName) prog_51_method_8_code 2 (some .boolean) :: ws) ({ frames := 0, cells := 0, slots := 0, locals := 0 } : Room)) (fun a U => a = #[(.ref w_DECIMAL), (.ref w_INTEGER)] ∧ Z.Warmed39 U.vm ∧ U.heap = h0) (fun _ _ _ _ _ => True) (fun _ U o U' => ∃ v L, o = .returned v ∧ Q2_9 Z w_TEXT w_DATE w_DECIMAL w_INTEGER  h0 n0 v U'.heap L ∧ FrameEnd U o U' L ({ frames := 0, cells := 0, slots := 0, locals := 0 } : Room).cells ({ frames := 0, cells := 0, slots := 0, locals := 0 } : Room).slots) := by
  refine MetFree.of_bodySF (plainFor_of_name pn_com_example_archipel_archipel_model_DataType) hisR ?_
  intro p e s m args below meth c s₁ Bd hml0 hP hK
  obtain ⟨rfl, hZ, hh⟩ := hP
  have hx := Bd.exec
  have hby := Bd.bytes
  have hml : c.maxLocals = 2 := hml0
  have hown : s.vm.findClass "com/example/archipel/archipel/model/DataType" = some m.cls := findClass_of_methodNamed Bd.named
  have hnm := (name_of_methodNamed Bd.named Bd.method).1
  have X0 : Stand p l e ({ frames := 0, cells := 0, slots := 0, locals := 0 } : Room) s m #[(.ref w_DECIMAL), (.ref w_INTEGER)] below meth c s₁ [] 0 0 := Stand.of_body Bd
  have e0 : s₁.heap = h0 := by rw [← hh, Bd.state]; rfl
  have N0 := Fr.nil n0
  show OGot p.tables e below (s₁.setTop (entryFrame m #[(.ref w_DECIMAL), (.ref w_INTEGER)] 2)) _
  refine OGot.go (fun t k => castTop (ef2_9 m w_DECIMAL w_INTEGER) k) ?_
  show OGot p.tables e below (s₁.setTop (mkF m 0 #[.val (.ref w_DECIMAL), .val (.ref w_INTEGER)] [])) _
  refine OGot.go (fun t k => XS.aloadN X0.here hx rfl (hb hby d2_0) rfl rfl k) ?_
  show OGot p.tables e below (s₁.setTop (mkF m 1 #[.val (.ref w_DECIMAL), .val (.ref w_INTEGER)] [(.ref w_DECIMAL)])) _
  refine OGot.go (fun t k => XS.aloadN X0.here hx rfl (hb hby d2_1) rfl rfl k) ?_
  show OGot p.tables e below (s₁.setTop (mkF m 2 #[.val (.ref w_DECIMAL), .val (.ref w_INTEGER)] [(.ref w_INTEGER), (.ref w_DECIMAL)])) _
  have ne3 : w_DECIMAL ≠ w_INTEGER := (Fld.ne G.2.2.2.2.2.2.2.2.2.2.1 G.2.2.2.2.2.2.2.2.2.2.2 (by decide))
  refine OGot.go (fun t k => Jvm.RoadKit.acmp (g := (mkF m 2 #[.val (.ref w_DECIMAL), .val (.ref w_INTEGER)] [(.ref w_INTEGER), (.ref w_DECIMAL)])) X0 hx rfl rfl rfl (pc0 := 2) (pc' := 5) (same := false) rfl (hb hby d2_2) rfl (decide_eq_false fun q => ne3 (Value.ref.inj q)) (by decide) (by decide) k) ?_
  show OGot p.tables e below (s₁.setTop (mkF m 5 #[.val (.ref w_DECIMAL), .val (.ref w_INTEGER)] [])) _
  refine OGot.go (fun t k => XS.aloadN X0.here hx rfl (hb hby d2_5) rfl rfl k) ?_
  show OGot p.tables e below (s₁.setTop (mkF m 6 #[.val (.ref w_DECIMAL), .val (.ref w_INTEGER)] [(.ref w_DECIMAL)])) _
  obtain ⟨T4, X4, e4, st4⟩ := getS2 X0 hx hZ hown (host := "") (Or.inl (ow hw 14 rfl)) Via.refl e0 (G.2.2.2.2.1.ext O0.2) (g := (mkF m 6 #[.val (.ref w_DECIMAL), .val (.ref w_INTEGER)] [(.ref w_DECIMAL)])) rfl (hb hby d2_6)
  refine OGot.go st4 ?_
  show OGot p.tables e below (T4.setTop (mkF m 9 #[.val (.ref w_DECIMAL), .val (.ref w_INTEGER)] [(.ref w_DECIMAL), (.ref w_DECIMAL)])) _
  refine OGot.go (fun t k => Jvm.RoadKit.acmp (g := (mkF m 9 #[.val (.ref w_DECIMAL), .val (.ref w_INTEGER)] [(.ref w_DECIMAL), (.ref w_DECIMAL)])) X4 hx rfl rfl rfl (pc0 := 9) (pc' := 12) (same := true) rfl (hb hby d2_9) rfl (decide_eq_true rfl) (by decide) (by decide) k) ?_
  show OGot p.tables e below (T4.setTop (mkF m 12 #[.val (.ref w_DECIMAL), .val (.ref w_INTEGER)] [])) _
  refine OGot.go (fun t k => XS.aloadN X4.here hx rfl (hb hby d2_12) rfl rfl k) ?_
  show OGot p.tables e below (T4.setTop (mkF m 13 #[.val (.ref w_DECIMAL), .val (.ref w_INTEGER)] [(.ref w_INTEGER)])) _
  obtain ⟨T5, X5, e5, st5⟩ := getS2 X4 hx hZ hown (host := "") (Or.inl (ow hw 20 rfl)) Via.refl e4 (G.2.2.2.2.2.2.1.ext O0.2) (g := (mkF m 13 #[.val (.ref w_DECIMAL), .val (.ref w_INTEGER)] [(.ref w_INTEGER)])) rfl (hb hby d2_13)
  refine OGot.go st5 ?_
  show OGot p.tables e below (T5.setTop (mkF m 16 #[.val (.ref w_DECIMAL), .val (.ref w_INTEGER)] [(.ref w_INTEGER), (.ref w_INTEGER)])) _
  refine OGot.go (fun t k => Jvm.RoadKit.acmp (g := (mkF m 16 #[.val (.ref w_DECIMAL), .val (.ref w_INTEGER)] [(.ref w_INTEGER), (.ref w_INTEGER)])) X5 hx rfl rfl rfl (pc0 := 16) (pc' := 19) (same := true) rfl (hb hby d2_16) rfl (decide_eq_true rfl) (by decide) (by decide) k) ?_
  show OGot p.tables e below (T5.setTop (mkF m 19 #[.val (.ref w_DECIMAL), .val (.ref w_INTEGER)] [])) _
  refine OGot.go (fun t k => XS.iconst X5.here hx rfl (hb hby d2_19) k) ?_
  show OGot p.tables e below (T5.setTop (mkF m 20 #[.val (.ref w_DECIMAL), .val (.ref w_INTEGER)] [(.int (1 : Int32))])) _
  refine OGot.go (fun t k => XS.goto X5.here hx rfl (pc0 := 20) (pc' := 24) rfl (hb hby d2_20) (by decide) (by decide) k) ?_
  show OGot p.tables e below (T5.setTop (mkF m 24 #[.val (.ref w_DECIMAL), .val (.ref w_INTEGER)] [(.int (1 : Int32))])) _
  obtain ⟨fs, hr, hrun, hended, hW, hsame⟩ := X5.leave (v := some (.int (1 : Int32))) (fun h => by rw [Bd.returns] at h; cases h)
  refine ⟨_, _, retN X5 hx (t := .boolean) Bd.returns (by simp) (hb hby d2_24) hr, hrun, hended, _, _, rfl, ?_, ⟨_, rfl⟩, hW, hsame.mono (by decide) (by decide)⟩
  exact (⟨rfl, N0, e5⟩ : Q2_9 Z w_TEXT w_DATE w_DECIMAL w_INTEGER  h0 n0 _ T5.heap _)
theorem d3_5 : decode prog_51_method_4_code 5 = .ok (.aload_n 0, 1) := by decide +kernel
theorem d3_6 : decode prog_51_method_4_code 6 = .ok (.invokevirtual 35, 3) := by decide +kernel
theorem d4_0 : decode prog_51_method_5_code 0 = .ok (.aload_n 0, 1) := by decide +kernel
theorem d4_1 : decode prog_51_method_5_code 1 = .ok (.getstatic 7, 3) := by decide +kernel
theorem d4_4 : decode prog_51_method_5_code 4 = .ok (.if_acmp .eq 10, 3) := by decide +kernel
theorem d4_7 : decode prog_51_method_5_code 7 = .ok (.aload_n 0, 1) := by decide +kernel
theorem d4_8 : decode prog_51_method_5_code 8 = .ok (.getstatic 10, 3) := by decide +kernel
theorem d4_11 : decode prog_51_method_5_code 11 = .ok (.if_acmp .ne 7, 3) := by decide +kernel
theorem d4_14 : decode prog_51_method_5_code 14 = .ok (.iconst 1, 1) := by decide +kernel
theorem d4_15 : decode prog_51_method_5_code 15 = .ok (.goto 4, 3) := by decide +kernel
theorem d4_19 : decode prog_51_method_5_code 19 = .ok (.ireturn, 1) := by decide +kernel
def Q4 (Z : State) (w_TEXT : Addr) (w_DATE : Addr) (w_DECIMAL : Addr) (w_INTEGER : Addr)  (h0 : Heap) (n0 : Nat) (v : Option Value) (h : Heap) (L : List Loc) : Prop := v = some (.int (1 : Int32)) ∧ Fr n0 L ∧ h = h0
theorem ef4 (m : MethodId) (x0 : Addr) : entryFrame m #[(.ref x0)] 1 = mkF m 0 #[.val (.ref x0)] [] := by first | (simp [entryFrame, mkF, argsToLocals, Value.category]; done) | rfl
set_option maxRecDepth 65536 in
set_option maxHeartbeats 40000000 in
theorem rm4 (l : Launch) (Z : State) (a0 : Array Value) (hw : ∀ d ∈ tables_1, d.before a0 Z = true) (ws : List Jvm.Cond) {w_TEXT : Addr} {w_DATE : Addr} {w_DECIMAL : Addr} {w_INTEGER : Addr} (G : Glob Z w_TEXT w_DATE w_DECIMAL w_INTEGER)  (h0 : Heap) (n0 : Nat) (O0 : Old Z n0 h0) :
    MetFree l (⟨"com/example/archipel/archipel/model/DataType", "isNumeric", "()Z"⟩ : MethodName) (head1 (Jvm.Cond.code (⟨"com/example/archipel/archipel/model/DataType", "isNumeric", "()Z"⟩ : MethodName) prog_51_method_5_code 1 (some .boolean) :: ws) ({ frames := 0, cells := 0, slots := 0, locals := 0 } : Room)) (fun a U => a = #[(.ref w_DECIMAL)] ∧ Z.Warmed39 U.vm ∧ U.heap = h0) (fun _ _ _ _ _ => True) (fun _ U o U' => ∃ v L, o = .returned v ∧ Q4 Z w_TEXT w_DATE w_DECIMAL w_INTEGER  h0 n0 v U'.heap L ∧ FrameEnd U o U' L ({ frames := 0, cells := 0, slots := 0, locals := 0 } : Room).cells ({ frames := 0, cells := 0, slots := 0, locals := 0 } : Room).slots) := by
  refine MetFree.of_bodySF (plainFor_of_name pn_com_example_archipel_archipel_model_DataType) hisR ?_
  intro p e s m args below meth c s₁ Bd hml0 hP hK
  obtain ⟨rfl, hZ, hh⟩ := hP
  have hx := Bd.exec
  have hby := Bd.bytes
  have hml : c.maxLocals = 1 := hml0
  have hown : s.vm.findClass "com/example/archipel/archipel/model/DataType" = some m.cls := findClass_of_methodNamed Bd.named
  have hnm := (name_of_methodNamed Bd.named Bd.method).1
  have X0 : Stand p l e ({ frames := 0, cells := 0, slots := 0, locals := 0 } : Room) s m #[(.ref w_DECIMAL)] below meth c s₁ [] 0 0 := Stand.of_body Bd
  have e0 : s₁.heap = h0 := by rw [← hh, Bd.state]; rfl
  have N0 := Fr.nil n0
  show OGot p.tables e below (s₁.setTop (entryFrame m #[(.ref w_DECIMAL)] 1)) _
  refine OGot.go (fun t k => castTop (ef4 m w_DECIMAL) k) ?_
  show OGot p.tables e below (s₁.setTop (mkF m 0 #[.val (.ref w_DECIMAL)] [])) _
  refine OGot.go (fun t k => XS.aloadN X0.here hx rfl (hb hby d4_0) rfl rfl k) ?_
  show OGot p.tables e below (s₁.setTop (mkF m 1 #[.val (.ref w_DECIMAL)] [(.ref w_DECIMAL)])) _
  obtain ⟨T2, X2, e2, st2⟩ := getS2 X0 hx hZ hown (host := "") (Or.inl (ow hw 20 rfl)) Via.refl e0 (G.2.2.2.2.2.2.1.ext O0.2) (g := (mkF m 1 #[.val (.ref w_DECIMAL)] [(.ref w_DECIMAL)])) rfl (hb hby d4_1)
  refine OGot.go st2 ?_
  show OGot p.tables e below (T2.setTop (mkF m 4 #[.val (.ref w_DECIMAL)] [(.ref w_INTEGER), (.ref w_DECIMAL)])) _
  have ne3 : w_DECIMAL ≠ w_INTEGER := (Fld.ne G.2.2.2.2.2.2.2.2.2.2.1 G.2.2.2.2.2.2.2.2.2.2.2 (by decide))
  refine OGot.go (fun t k => Jvm.RoadKit.acmp (g := (mkF m 4 #[.val (.ref w_DECIMAL)] [(.ref w_INTEGER), (.ref w_DECIMAL)])) X2 hx rfl rfl rfl (pc0 := 4) (pc' := 7) (same := false) rfl (hb hby d4_4) rfl (decide_eq_false fun q => ne3 (Value.ref.inj q)) (by decide) (by decide) k) ?_
  show OGot p.tables e below (T2.setTop (mkF m 7 #[.val (.ref w_DECIMAL)] [])) _
  refine OGot.go (fun t k => XS.aloadN X2.here hx rfl (hb hby d4_7) rfl rfl k) ?_
  show OGot p.tables e below (T2.setTop (mkF m 8 #[.val (.ref w_DECIMAL)] [(.ref w_DECIMAL)])) _
  obtain ⟨T4, X4, e4, st4⟩ := getS2 X2 hx hZ hown (host := "") (Or.inl (ow hw 14 rfl)) Via.refl e2 (G.2.2.2.2.1.ext O0.2) (g := (mkF m 8 #[.val (.ref w_DECIMAL)] [(.ref w_DECIMAL)])) rfl (hb hby d4_8)
  refine OGot.go st4 ?_
  show OGot p.tables e below (T4.setTop (mkF m 11 #[.val (.ref w_DECIMAL)] [(.ref w_DECIMAL), (.ref w_DECIMAL)])) _
  refine OGot.go (fun t k => Jvm.RoadKit.acmp (g := (mkF m 11 #[.val (.ref w_DECIMAL)] [(.ref w_DECIMAL), (.ref w_DECIMAL)])) X4 hx rfl rfl rfl (pc0 := 11) (pc' := 14) (same := true) rfl (hb hby d4_11) rfl (decide_eq_true rfl) (by decide) (by decide) k) ?_
  show OGot p.tables e below (T4.setTop (mkF m 14 #[.val (.ref w_DECIMAL)] [])) _
  refine OGot.go (fun t k => XS.iconst X4.here hx rfl (hb hby d4_14) k) ?_
  show OGot p.tables e below (T4.setTop (mkF m 15 #[.val (.ref w_DECIMAL)] [(.int (1 : Int32))])) _
  refine OGot.go (fun t k => XS.goto X4.here hx rfl (pc0 := 15) (pc' := 19) rfl (hb hby d4_15) (by decide) (by decide) k) ?_
  show OGot p.tables e below (T4.setTop (mkF m 19 #[.val (.ref w_DECIMAL)] [(.int (1 : Int32))])) _
  obtain ⟨fs, hr, hrun, hended, hW, hsame⟩ := X4.leave (v := some (.int (1 : Int32))) (fun h => by rw [Bd.returns] at h; cases h)
  refine ⟨_, _, retN X4 hx (t := .boolean) Bd.returns (by simp) (hb hby d4_19) hr, hrun, hended, _, _, rfl, ?_, ⟨_, rfl⟩, hW, hsame.mono (by decide) (by decide)⟩
  exact (⟨rfl, N0, e4⟩ : Q4 Z w_TEXT w_DATE w_DECIMAL w_INTEGER  h0 n0 _ T4.heap _)
theorem pd_2 : parseMethodDescriptor "()Z" = some ⟨[], some .boolean⟩ := by decide +kernel
theorem d3_9 : decode prog_51_method_4_code 9 = .ok (.ifCond .eq 14, 3) := by decide +kernel
theorem d3_12 : decode prog_51_method_4_code 12 = .ok (.aload_n 1, 1) := by decide +kernel
theorem d3_13 : decode prog_51_method_4_code 13 = .ok (.invokevirtual 35, 3) := by decide +kernel
def Q4_1 (Z : State) (w_TEXT : Addr) (w_DATE : Addr) (w_DECIMAL : Addr) (w_INTEGER : Addr)  (h0 : Heap) (n0 : Nat) (v : Option Value) (h : Heap) (L : List Loc) : Prop := v = some (.int (1 : Int32)) ∧ Fr n0 L ∧ h = h0
theorem ef4_1 (m : MethodId) (x0 : Addr) : entryFrame m #[(.ref x0)] 1 = mkF m 0 #[.val (.ref x0)] [] := by first | (simp [entryFrame, mkF, argsToLocals, Value.category]; done) | rfl
set_option maxRecDepth 65536 in
set_option maxHeartbeats 40000000 in
theorem rm4_1 (l : Launch) (Z : State) (a0 : Array Value) (hw : ∀ d ∈ tables_1, d.before a0 Z = true) (ws : List Jvm.Cond) {w_TEXT : Addr} {w_DATE : Addr} {w_DECIMAL : Addr} {w_INTEGER : Addr} (G : Glob Z w_TEXT w_DATE w_DECIMAL w_INTEGER)  (h0 : Heap) (n0 : Nat) (O0 : Old Z n0 h0) :
    MetFree l (⟨"com/example/archipel/archipel/model/DataType", "isNumeric", "()Z"⟩ : MethodName) (head1 (Jvm.Cond.code (⟨"com/example/archipel/archipel/model/DataType", "isNumeric", "()Z"⟩ : MethodName) prog_51_method_5_code 1 (some .boolean) :: ws) ({ frames := 0, cells := 0, slots := 0, locals := 0 } : Room)) (fun a U => a = #[(.ref w_INTEGER)] ∧ Z.Warmed39 U.vm ∧ U.heap = h0) (fun _ _ _ _ _ => True) (fun _ U o U' => ∃ v L, o = .returned v ∧ Q4_1 Z w_TEXT w_DATE w_DECIMAL w_INTEGER  h0 n0 v U'.heap L ∧ FrameEnd U o U' L ({ frames := 0, cells := 0, slots := 0, locals := 0 } : Room).cells ({ frames := 0, cells := 0, slots := 0, locals := 0 } : Room).slots) := by
  refine MetFree.of_bodySF (plainFor_of_name pn_com_example_archipel_archipel_model_DataType) hisR ?_
  intro p e s m args below meth c s₁ Bd hml0 hP hK
  obtain ⟨rfl, hZ, hh⟩ := hP
  have hx := Bd.exec
  have hby := Bd.bytes
  have hml : c.maxLocals = 1 := hml0
  have hown : s.vm.findClass "com/example/archipel/archipel/model/DataType" = some m.cls := findClass_of_methodNamed Bd.named
  have hnm := (name_of_methodNamed Bd.named Bd.method).1
  have X0 : Stand p l e ({ frames := 0, cells := 0, slots := 0, locals := 0 } : Room) s m #[(.ref w_INTEGER)] below meth c s₁ [] 0 0 := Stand.of_body Bd
  have e0 : s₁.heap = h0 := by rw [← hh, Bd.state]; rfl
  have N0 := Fr.nil n0
  show OGot p.tables e below (s₁.setTop (entryFrame m #[(.ref w_INTEGER)] 1)) _
  refine OGot.go (fun t k => castTop (ef4_1 m w_INTEGER) k) ?_
  show OGot p.tables e below (s₁.setTop (mkF m 0 #[.val (.ref w_INTEGER)] [])) _
  refine OGot.go (fun t k => XS.aloadN X0.here hx rfl (hb hby d4_0) rfl rfl k) ?_
  show OGot p.tables e below (s₁.setTop (mkF m 1 #[.val (.ref w_INTEGER)] [(.ref w_INTEGER)])) _
  obtain ⟨T2, X2, e2, st2⟩ := getS2 X0 hx hZ hown (host := "") (Or.inl (ow hw 20 rfl)) Via.refl e0 (G.2.2.2.2.2.2.1.ext O0.2) (g := (mkF m 1 #[.val (.ref w_INTEGER)] [(.ref w_INTEGER)])) rfl (hb hby d4_1)
  refine OGot.go st2 ?_
  show OGot p.tables e below (T2.setTop (mkF m 4 #[.val (.ref w_INTEGER)] [(.ref w_INTEGER), (.ref w_INTEGER)])) _
  refine OGot.go (fun t k => Jvm.RoadKit.acmp (g := (mkF m 4 #[.val (.ref w_INTEGER)] [(.ref w_INTEGER), (.ref w_INTEGER)])) X2 hx rfl rfl rfl (pc0 := 4) (pc' := 14) (same := true) rfl (hb hby d4_4) rfl (decide_eq_true rfl) (by decide) (by decide) k) ?_
  show OGot p.tables e below (T2.setTop (mkF m 14 #[.val (.ref w_INTEGER)] [])) _
  refine OGot.go (fun t k => XS.iconst X2.here hx rfl (hb hby d4_14) k) ?_
  show OGot p.tables e below (T2.setTop (mkF m 15 #[.val (.ref w_INTEGER)] [(.int (1 : Int32))])) _
  refine OGot.go (fun t k => XS.goto X2.here hx rfl (pc0 := 15) (pc' := 19) rfl (hb hby d4_15) (by decide) (by decide) k) ?_
  show OGot p.tables e below (T2.setTop (mkF m 19 #[.val (.ref w_INTEGER)] [(.int (1 : Int32))])) _
  obtain ⟨fs, hr, hrun, hended, hW, hsame⟩ := X2.leave (v := some (.int (1 : Int32))) (fun h => by rw [Bd.returns] at h; cases h)
  refine ⟨_, _, retN X2 hx (t := .boolean) Bd.returns (by simp) (hb hby d4_19) hr, hrun, hended, _, _, rfl, ?_, ⟨_, rfl⟩, hW, hsame.mono (by decide) (by decide)⟩
  exact (⟨rfl, N0, e2⟩ : Q4_1 Z w_TEXT w_DATE w_DECIMAL w_INTEGER  h0 n0 _ T2.heap _)
theorem d3_16 : decode prog_51_method_4_code 16 = .ok (.ifCond .eq 7, 3) := by decide +kernel
def Q3_2 (Z : State) (w_TEXT : Addr) (w_DATE : Addr) (w_DECIMAL : Addr) (w_INTEGER : Addr)  (h0 : Heap) (n0 : Nat) (v : Option Value) (h : Heap) (L : List Loc) : Prop := v = some (.int (1 : Int32)) ∧ Fr n0 L ∧ h = h0
theorem ef3_2 (m : MethodId) (x0 : Addr) (x1 : Addr) : entryFrame m #[(.ref x0), (.ref x1)] 2 = mkF m 0 #[.val (.ref x0), .val (.ref x1)] [] := by first | (simp [entryFrame, mkF, argsToLocals, Value.category]; done) | rfl
set_option maxRecDepth 65536 in
set_option maxHeartbeats 40000000 in
theorem rm3_2 (l : Launch) (Z : State) (a0 : Array Value) (hw : ∀ d ∈ tables_1, d.before a0 Z = true) (ws : List Jvm.Cond) {w_TEXT : Addr} {w_DATE : Addr} {w_DECIMAL : Addr} {w_INTEGER : Addr} (G : Glob Z w_TEXT w_DATE w_DECIMAL w_INTEGER)  (h0 : Heap) (n0 : Nat) (O0 : Old Z n0 h0) :
    MetFree l (⟨"com/example/archipel/archipel/model/DataType", "comparableWith", "(Lcom/example/archipel/archipel/model/DataType;)Z"⟩ : MethodName) (head1 (Jvm.Cond.code (⟨"com/example/archipel/archipel/model/DataType", "comparableWith", "(Lcom/example/archipel/archipel/model/DataType;)Z"⟩ : MethodName) prog_51_method_4_code 2 (some .boolean) :: ws) ({ frames := 1, cells := 0, slots := 0, locals := 12 } : Room)) (fun a U => a = #[(.ref w_DECIMAL), (.ref w_INTEGER)] ∧ Z.Warmed39 U.vm ∧ U.heap = h0) (fun _ _ _ _ _ => True) (fun _ U o U' => ∃ v L, o = .returned v ∧ Q3_2 Z w_TEXT w_DATE w_DECIMAL w_INTEGER  h0 n0 v U'.heap L ∧ FrameEnd U o U' L ({ frames := 1, cells := 0, slots := 0, locals := 12 } : Room).cells ({ frames := 1, cells := 0, slots := 0, locals := 12 } : Room).slots) := by
  refine MetFree.of_bodySF (plainFor_of_name pn_com_example_archipel_archipel_model_DataType) hisR ?_
  intro p e s m args below meth c s₁ Bd hml0 hP hK
  obtain ⟨rfl, hZ, hh⟩ := hP
  have hx := Bd.exec
  have hby := Bd.bytes
  have hml : c.maxLocals = 2 := hml0
  have hown : s.vm.findClass "com/example/archipel/archipel/model/DataType" = some m.cls := findClass_of_methodNamed Bd.named
  have hnm := (name_of_methodNamed Bd.named Bd.method).1
  have X0 : Stand p l e ({ frames := 1, cells := 0, slots := 0, locals := 12 } : Room) s m #[(.ref w_DECIMAL), (.ref w_INTEGER)] below meth c s₁ [] 0 0 := Stand.of_body Bd
  have e0 : s₁.heap = h0 := by rw [← hh, Bd.state]; rfl
  have N0 := Fr.nil n0
  show OGot p.tables e below (s₁.setTop (entryFrame m #[(.ref w_DECIMAL), (.ref w_INTEGER)] 2)) _
  refine OGot.go (fun t k => castTop (ef3_2 m w_DECIMAL w_INTEGER) k) ?_
  show OGot p.tables e below (s₁.setTop (mkF m 0 #[.val (.ref w_DECIMAL), .val (.ref w_INTEGER)] [])) _
  refine OGot.go (fun t k => XS.aloadN X0.here hx rfl (hb hby d3_0) rfl rfl k) ?_
  show OGot p.tables e below (s₁.setTop (mkF m 1 #[.val (.ref w_DECIMAL), .val (.ref w_INTEGER)] [(.ref w_DECIMAL)])) _
  refine OGot.go (fun t k => XS.aloadN X0.here hx rfl (hb hby d3_1) rfl rfl k) ?_
  show OGot p.tables e below (s₁.setTop (mkF m 2 #[.val (.ref w_DECIMAL), .val (.ref w_INTEGER)] [(.ref w_INTEGER), (.ref w_DECIMAL)])) _
  have ne3 : w_DECIMAL ≠ w_INTEGER := (Fld.ne G.2.2.2.2.2.2.2.2.2.2.1 G.2.2.2.2.2.2.2.2.2.2.2 (by decide))
  refine OGot.go (fun t k => Jvm.RoadKit.acmp (g := (mkF m 2 #[.val (.ref w_DECIMAL), .val (.ref w_INTEGER)] [(.ref w_INTEGER), (.ref w_DECIMAL)])) X0 hx rfl rfl rfl (pc0 := 2) (pc' := 5) (same := false) rfl (hb hby d3_2) rfl (decide_eq_false fun q => ne3 (Value.ref.inj q)) (by decide) (by decide) k) ?_
  show OGot p.tables e below (s₁.setTop (mkF m 5 #[.val (.ref w_DECIMAL), .val (.ref w_INTEGER)] [])) _
  refine OGot.go (fun t k => XS.aloadN X0.here hx rfl (hb hby d3_5) rfl rfl k) ?_
  show OGot p.tables e below (s₁.setTop (mkF m 6 #[.val (.ref w_DECIMAL), .val (.ref w_INTEGER)] [(.ref w_DECIMAL)])) _
  obtain ⟨cq4, kq4, q4a, q4b, q4c⟩ := isOf hZ e0 (G.2.2.2.2.2.1.ext O0.2)
  obtain ⟨_, _, ⟨T4, L4, k4, n4⟩, -, X4, ⟨Lc4, hQ4, l4, y4, z4⟩, st4⟩ := X0.virtualBack hx (y := (⟨"com/example/archipel/archipel/model/DataType", "isNumeric", "()Z"⟩ : MethodName)) (z := (⟨"com/example/archipel/archipel/model/DataType", "isNumeric", "()Z"⟩ : MethodName)) hown (mvT hZ (ow hw 26 rfl)) (mvT hZ (ow hw 27 rfl)) (notFace_of_selects (args := #[]) (mvT hZ (ow hw 29 rfl))) (mvT hZ (ow hw 29 rfl)) (mvT hZ (ow hw 28 rfl)) (by decide) (backOf (W := 0) (rm4 l Z a0 hw [] G  h0 n0 O0 ) hZ (ow hw 30 rfl) (ow hw 5 rfl) (by decide) (by decide)) q4a q4c (g := (mkF m 6 #[.val (.ref w_DECIMAL), .val (.ref w_INTEGER)] [(.ref w_DECIMAL)])) rfl (by rw [hml]; rfl) (Steps.refl _) (argsL := []) (rest := []) (lenOf pd_2 rfl) rfl (by show 2 * 0 + _ ≤ _; exact Nat.le_of_eq rfl) (hb hby d3_6) (fun _ _ => ⟨rfl, e0, (by decide : 0 + 0 ≤ _), (by decide : 0 + 0 ≤ _)⟩)
  dsimp only [Pt.U, Pt.locs, Pt.cells, Pt.slots] at X4 l4 y4 z4 st4 hQ4
  subst l4 y4 z4
  obtain ⟨rfl, N4q, e4⟩ := hQ4
  have N4 := Fr.app N0 N4q
  refine OGot.on st4 ?_
  show OGot p.tables e below (T4.setTop (mkF m 9 #[.val (.ref w_DECIMAL), .val (.ref w_INTEGER)] [(.int (1 : Int32))])) _
  refine OGot.go (fun t k => XS.ifNo X4.here hx rfl (hb hby d3_9) rfl (by decide) k) ?_
  show OGot p.tables e below (T4.setTop (mkF m 12 #[.val (.ref w_DECIMAL), .val (.ref w_INTEGER)] [])) _
  refine OGot.go (fun t k => XS.aloadN X4.here hx rfl (hb hby d3_12) rfl rfl k) ?_
  show OGot p.tables e below (T4.setTop (mkF m 13 #[.val (.ref w_DECIMAL), .val (.ref w_INTEGER)] [(.ref w_INTEGER)])) _
  obtain ⟨cq5, kq5, q5a, q5b, q5c⟩ := isOf hZ e4 (G.2.2.2.2.2.2.2.1.ext O0.2)
  obtain ⟨_, _, ⟨T5, L5, k5, n5⟩, -, X5, ⟨Lc5, hQ5, l5, y5, z5⟩, st5⟩ := X4.virtualBack hx (y := (⟨"com/example/archipel/archipel/model/DataType", "isNumeric", "()Z"⟩ : MethodName)) (z := (⟨"com/example/archipel/archipel/model/DataType", "isNumeric", "()Z"⟩ : MethodName)) hown (mvT hZ (ow hw 26 rfl)) (mvT hZ (ow hw 27 rfl)) (notFace_of_selects (args := #[]) (mvT hZ (ow hw 29 rfl))) (mvT hZ (ow hw 29 rfl)) (mvT hZ (ow hw 28 rfl)) (by decide) (backOf (W := 0) (rm4_1 l Z a0 hw [] G  h0 n0 O0 ) hZ (ow hw 30 rfl) (ow hw 5 rfl) (by decide) (by decide)) q5a q5c (g := (mkF m 13 #[.val (.ref w_DECIMAL), .val (.ref w_INTEGER)] [(.ref w_INTEGER)])) rfl (by rw [hml]; rfl) (Steps.refl _) (argsL := []) (rest := []) (lenOf pd_2 rfl) rfl (by show 2 * 0 + _ ≤ _; exact Nat.le_of_eq rfl) (hb hby d3_13) (fun _ _ => ⟨rfl, e4, (by decide : 0 + 0 ≤ _), (by decide : 0 + 0 ≤ _)⟩)
  dsimp only [Pt.U, Pt.locs, Pt.cells, Pt.slots] at X5 l5 y5 z5 st5 hQ5
  subst l5 y5 z5
  obtain ⟨rfl, N5q, e5⟩ := hQ5
  have N5 := Fr.app N4 N5q
  refine OGot.on st5 ?_
  show OGot p.tables e below (T5.setTop (mkF m 16 #[.val (.ref w_DECIMAL), .val (.ref w_INTEGER)] [(.int (1 : Int32))])) _
  refine OGot.go (fun t k => XS.ifNo X5.here hx rfl (hb hby d3_16) rfl (by decide) k) ?_
  show OGot p.tables e below (T5.setTop (mkF m 19 #[.val (.ref w_DECIMAL), .val (.ref w_INTEGER)] [])) _
  refine OGot.go (fun t k => XS.iconst X5.here hx rfl (hb hby d3_19) k) ?_
  show OGot p.tables e below (T5.setTop (mkF m 20 #[.val (.ref w_DECIMAL), .val (.ref w_INTEGER)] [(.int (1 : Int32))])) _
  refine OGot.go (fun t k => XS.goto X5.here hx rfl (pc0 := 20) (pc' := 24) rfl (hb hby d3_20) (by decide) (by decide) k) ?_
  show OGot p.tables e below (T5.setTop (mkF m 24 #[.val (.ref w_DECIMAL), .val (.ref w_INTEGER)] [(.int (1 : Int32))])) _
  obtain ⟨fs, hr, hrun, hended, hW, hsame⟩ := X5.leave (v := some (.int (1 : Int32))) (fun h => by rw [Bd.returns] at h; cases h)
  refine ⟨_, _, retN X5 hx (t := .boolean) Bd.returns (by simp) (hb hby d3_24) hr, hrun, hended, _, _, rfl, ?_, ⟨_, rfl⟩, hW, hsame.mono (by decide) (by decide)⟩
  exact (⟨rfl, N5, e5⟩ : Q3_2 Z w_TEXT w_DATE w_DECIMAL w_INTEGER  h0 n0 _ T5.heap _)
def Q2_10 (Z : State) (w_TEXT : Addr) (w_DATE : Addr) (w_DECIMAL : Addr) (w_INTEGER : Addr)  (h0 : Heap) (n0 : Nat) (v : Option Value) (h : Heap) (L : List Loc) : Prop := v = some (.int (1 : Int32)) ∧ Fr n0 L ∧ h = h0
theorem ef2_10 (m : MethodId) (x0 : Addr) : entryFrame m #[(.ref x0), (.ref x0)] 2 = mkF m 0 #[.val (.ref x0), .val (.ref x0)] [] := by first | (simp [entryFrame, mkF, argsToLocals, Value.category]; done) | rfl
set_option maxRecDepth 65536 in
set_option maxHeartbeats 40000000 in
theorem rm2_10 (l : Launch) (Z : State) (a0 : Array Value) (hw : ∀ d ∈ tables_1, d.before a0 Z = true) (ws : List Jvm.Cond) {w_TEXT : Addr} {w_DATE : Addr} {w_DECIMAL : Addr} {w_INTEGER : Addr} (G : Glob Z w_TEXT w_DATE w_DECIMAL w_INTEGER)  (h0 : Heap) (n0 : Nat) (O0 : Old Z n0 h0) :
    MetFree l (⟨"com/example/archipel/archipel/model/DataType", "takes", "(Lcom/example/archipel/archipel/model/DataType;)Z"⟩ : MethodName) (head1 (Jvm.Cond.code (⟨"com/example/archipel/archipel/model/DataType", "takes", "(Lcom/example/archipel/archipel/model/DataType;)Z"⟩ : MethodName) prog_51_method_8_code 2 (some .boolean) :: ws) ({ frames := 0, cells := 0, slots := 0, locals := 0 } : Room)) (fun a U => a = #[(.ref w_DECIMAL), (.ref w_DECIMAL)] ∧ Z.Warmed39 U.vm ∧ U.heap = h0) (fun _ _ _ _ _ => True) (fun _ U o U' => ∃ v L, o = .returned v ∧ Q2_10 Z w_TEXT w_DATE w_DECIMAL w_INTEGER  h0 n0 v U'.heap L ∧ FrameEnd U o U' L ({ frames := 0, cells := 0, slots := 0, locals := 0 } : Room).cells ({ frames := 0, cells := 0, slots := 0, locals := 0 } : Room).slots) := by
  refine MetFree.of_bodySF (plainFor_of_name pn_com_example_archipel_archipel_model_DataType) hisR ?_
  intro p e s m args below meth c s₁ Bd hml0 hP hK
  obtain ⟨rfl, hZ, hh⟩ := hP
  have hx := Bd.exec
  have hby := Bd.bytes
  have hml : c.maxLocals = 2 := hml0
  have hown : s.vm.findClass "com/example/archipel/archipel/model/DataType" = some m.cls := findClass_of_methodNamed Bd.named
  have hnm := (name_of_methodNamed Bd.named Bd.method).1
  have X0 : Stand p l e ({ frames := 0, cells := 0, slots := 0, locals := 0 } : Room) s m #[(.ref w_DECIMAL), (.ref w_DECIMAL)] below meth c s₁ [] 0 0 := Stand.of_body Bd
  have e0 : s₁.heap = h0 := by rw [← hh, Bd.state]; rfl
  have N0 := Fr.nil n0
  show OGot p.tables e below (s₁.setTop (entryFrame m #[(.ref w_DECIMAL), (.ref w_DECIMAL)] 2)) _
  refine OGot.go (fun t k => castTop (ef2_10 m w_DECIMAL) k) ?_
  show OGot p.tables e below (s₁.setTop (mkF m 0 #[.val (.ref w_DECIMAL), .val (.ref w_DECIMAL)] [])) _
  refine OGot.go (fun t k => XS.aloadN X0.here hx rfl (hb hby d2_0) rfl rfl k) ?_
  show OGot p.tables e below (s₁.setTop (mkF m 1 #[.val (.ref w_DECIMAL), .val (.ref w_DECIMAL)] [(.ref w_DECIMAL)])) _
  refine OGot.go (fun t k => XS.aloadN X0.here hx rfl (hb hby d2_1) rfl rfl k) ?_
  show OGot p.tables e below (s₁.setTop (mkF m 2 #[.val (.ref w_DECIMAL), .val (.ref w_DECIMAL)] [(.ref w_DECIMAL), (.ref w_DECIMAL)])) _
  refine OGot.go (fun t k => Jvm.RoadKit.acmp (g := (mkF m 2 #[.val (.ref w_DECIMAL), .val (.ref w_DECIMAL)] [(.ref w_DECIMAL), (.ref w_DECIMAL)])) X0 hx rfl rfl rfl (pc0 := 2) (pc' := 19) (same := true) rfl (hb hby d2_2) rfl (decide_eq_true rfl) (by decide) (by decide) k) ?_
  show OGot p.tables e below (s₁.setTop (mkF m 19 #[.val (.ref w_DECIMAL), .val (.ref w_DECIMAL)] [])) _
  refine OGot.go (fun t k => XS.iconst X0.here hx rfl (hb hby d2_19) k) ?_
  show OGot p.tables e below (s₁.setTop (mkF m 20 #[.val (.ref w_DECIMAL), .val (.ref w_DECIMAL)] [(.int (1 : Int32))])) _
  refine OGot.go (fun t k => XS.goto X0.here hx rfl (pc0 := 20) (pc' := 24) rfl (hb hby d2_20) (by decide) (by decide) k) ?_
  show OGot p.tables e below (s₁.setTop (mkF m 24 #[.val (.ref w_DECIMAL), .val (.ref w_DECIMAL)] [(.int (1 : Int32))])) _
  obtain ⟨fs, hr, hrun, hended, hW, hsame⟩ := X0.leave (v := some (.int (1 : Int32))) (fun h => by rw [Bd.returns] at h; cases h)
  refine ⟨_, _, retN X0 hx (t := .boolean) Bd.returns (by simp) (hb hby d2_24) hr, hrun, hended, _, _, rfl, ?_, ⟨_, rfl⟩, hW, hsame.mono (by decide) (by decide)⟩
  exact (⟨rfl, N0, e0⟩ : Q2_10 Z w_TEXT w_DATE w_DECIMAL w_INTEGER  h0 n0 _ s₁.heap _)
def Q3_3 (Z : State) (w_TEXT : Addr) (w_DATE : Addr) (w_DECIMAL : Addr) (w_INTEGER : Addr)  (h0 : Heap) (n0 : Nat) (v : Option Value) (h : Heap) (L : List Loc) : Prop := v = some (.int (1 : Int32)) ∧ Fr n0 L ∧ h = h0
theorem ef3_3 (m : MethodId) (x0 : Addr) : entryFrame m #[(.ref x0), (.ref x0)] 2 = mkF m 0 #[.val (.ref x0), .val (.ref x0)] [] := by first | (simp [entryFrame, mkF, argsToLocals, Value.category]; done) | rfl
set_option maxRecDepth 65536 in
set_option maxHeartbeats 40000000 in
theorem rm3_3 (l : Launch) (Z : State) (a0 : Array Value) (hw : ∀ d ∈ tables_1, d.before a0 Z = true) (ws : List Jvm.Cond) {w_TEXT : Addr} {w_DATE : Addr} {w_DECIMAL : Addr} {w_INTEGER : Addr} (G : Glob Z w_TEXT w_DATE w_DECIMAL w_INTEGER)  (h0 : Heap) (n0 : Nat) (O0 : Old Z n0 h0) :
    MetFree l (⟨"com/example/archipel/archipel/model/DataType", "comparableWith", "(Lcom/example/archipel/archipel/model/DataType;)Z"⟩ : MethodName) (head1 (Jvm.Cond.code (⟨"com/example/archipel/archipel/model/DataType", "comparableWith", "(Lcom/example/archipel/archipel/model/DataType;)Z"⟩ : MethodName) prog_51_method_4_code 2 (some .boolean) :: ws) ({ frames := 0, cells := 0, slots := 0, locals := 0 } : Room)) (fun a U => a = #[(.ref w_DECIMAL), (.ref w_DECIMAL)] ∧ Z.Warmed39 U.vm ∧ U.heap = h0) (fun _ _ _ _ _ => True) (fun _ U o U' => ∃ v L, o = .returned v ∧ Q3_3 Z w_TEXT w_DATE w_DECIMAL w_INTEGER  h0 n0 v U'.heap L ∧ FrameEnd U o U' L ({ frames := 0, cells := 0, slots := 0, locals := 0 } : Room).cells ({ frames := 0, cells := 0, slots := 0, locals := 0 } : Room).slots) := by
  refine MetFree.of_bodySF (plainFor_of_name pn_com_example_archipel_archipel_model_DataType) hisR ?_
  intro p e s m args below meth c s₁ Bd hml0 hP hK
  obtain ⟨rfl, hZ, hh⟩ := hP
  have hx := Bd.exec
  have hby := Bd.bytes
  have hml : c.maxLocals = 2 := hml0
  have hown : s.vm.findClass "com/example/archipel/archipel/model/DataType" = some m.cls := findClass_of_methodNamed Bd.named
  have hnm := (name_of_methodNamed Bd.named Bd.method).1
  have X0 : Stand p l e ({ frames := 0, cells := 0, slots := 0, locals := 0 } : Room) s m #[(.ref w_DECIMAL), (.ref w_DECIMAL)] below meth c s₁ [] 0 0 := Stand.of_body Bd
  have e0 : s₁.heap = h0 := by rw [← hh, Bd.state]; rfl
  have N0 := Fr.nil n0
  show OGot p.tables e below (s₁.setTop (entryFrame m #[(.ref w_DECIMAL), (.ref w_DECIMAL)] 2)) _
  refine OGot.go (fun t k => castTop (ef3_3 m w_DECIMAL) k) ?_
  show OGot p.tables e below (s₁.setTop (mkF m 0 #[.val (.ref w_DECIMAL), .val (.ref w_DECIMAL)] [])) _
  refine OGot.go (fun t k => XS.aloadN X0.here hx rfl (hb hby d3_0) rfl rfl k) ?_
  show OGot p.tables e below (s₁.setTop (mkF m 1 #[.val (.ref w_DECIMAL), .val (.ref w_DECIMAL)] [(.ref w_DECIMAL)])) _
  refine OGot.go (fun t k => XS.aloadN X0.here hx rfl (hb hby d3_1) rfl rfl k) ?_
  show OGot p.tables e below (s₁.setTop (mkF m 2 #[.val (.ref w_DECIMAL), .val (.ref w_DECIMAL)] [(.ref w_DECIMAL), (.ref w_DECIMAL)])) _
  refine OGot.go (fun t k => Jvm.RoadKit.acmp (g := (mkF m 2 #[.val (.ref w_DECIMAL), .val (.ref w_DECIMAL)] [(.ref w_DECIMAL), (.ref w_DECIMAL)])) X0 hx rfl rfl rfl (pc0 := 2) (pc' := 19) (same := true) rfl (hb hby d3_2) rfl (decide_eq_true rfl) (by decide) (by decide) k) ?_
  show OGot p.tables e below (s₁.setTop (mkF m 19 #[.val (.ref w_DECIMAL), .val (.ref w_DECIMAL)] [])) _
  refine OGot.go (fun t k => XS.iconst X0.here hx rfl (hb hby d3_19) k) ?_
  show OGot p.tables e below (s₁.setTop (mkF m 20 #[.val (.ref w_DECIMAL), .val (.ref w_DECIMAL)] [(.int (1 : Int32))])) _
  refine OGot.go (fun t k => XS.goto X0.here hx rfl (pc0 := 20) (pc' := 24) rfl (hb hby d3_20) (by decide) (by decide) k) ?_
  show OGot p.tables e below (s₁.setTop (mkF m 24 #[.val (.ref w_DECIMAL), .val (.ref w_DECIMAL)] [(.int (1 : Int32))])) _
  obtain ⟨fs, hr, hrun, hended, hW, hsame⟩ := X0.leave (v := some (.int (1 : Int32))) (fun h => by rw [Bd.returns] at h; cases h)
  refine ⟨_, _, retN X0 hx (t := .boolean) Bd.returns (by simp) (hb hby d3_24) hr, hrun, hended, _, _, rfl, ?_, ⟨_, rfl⟩, hW, hsame.mono (by decide) (by decide)⟩
  exact (⟨rfl, N0, e0⟩ : Q3_3 Z w_TEXT w_DATE w_DECIMAL w_INTEGER  h0 n0 _ s₁.heap _)
def Q2_11 (Z : State) (w_TEXT : Addr) (w_DATE : Addr) (w_DECIMAL : Addr) (w_INTEGER : Addr)  (h0 : Heap) (n0 : Nat) (v : Option Value) (h : Heap) (L : List Loc) : Prop := v = some (.int (0 : Int32)) ∧ Fr n0 L ∧ h = h0
theorem ef2_11 (m : MethodId) (x0 : Addr) (x1 : Addr) : entryFrame m #[(.ref x0), (.ref x1)] 2 = mkF m 0 #[.val (.ref x0), .val (.ref x1)] [] := by first | (simp [entryFrame, mkF, argsToLocals, Value.category]; done) | rfl
set_option maxRecDepth 65536 in
set_option maxHeartbeats 40000000 in
theorem rm2_11 (l : Launch) (Z : State) (a0 : Array Value) (hw : ∀ d ∈ tables_1, d.before a0 Z = true) (ws : List Jvm.Cond) {w_TEXT : Addr} {w_DATE : Addr} {w_DECIMAL : Addr} {w_INTEGER : Addr} (G : Glob Z w_TEXT w_DATE w_DECIMAL w_INTEGER)  (h0 : Heap) (n0 : Nat) (O0 : Old Z n0 h0) :
    MetFree l (⟨"com/example/archipel/archipel/model/DataType", "takes", "(Lcom/example/archipel/archipel/model/DataType;)Z"⟩ : MethodName) (head1 (Jvm.Cond.code (⟨"com/example/archipel/archipel/model/DataType", "takes", "(Lcom/example/archipel/archipel/model/DataType;)Z"⟩ : MethodName) prog_51_method_8_code 2 (some .boolean) :: ws) ({ frames := 0, cells := 0, slots := 0, locals := 0 } : Room)) (fun a U => a = #[(.ref w_DECIMAL), (.ref w_DATE)] ∧ Z.Warmed39 U.vm ∧ U.heap = h0) (fun _ _ _ _ _ => True) (fun _ U o U' => ∃ v L, o = .returned v ∧ Q2_11 Z w_TEXT w_DATE w_DECIMAL w_INTEGER  h0 n0 v U'.heap L ∧ FrameEnd U o U' L ({ frames := 0, cells := 0, slots := 0, locals := 0 } : Room).cells ({ frames := 0, cells := 0, slots := 0, locals := 0 } : Room).slots) := by
  refine MetFree.of_bodySF (plainFor_of_name pn_com_example_archipel_archipel_model_DataType) hisR ?_
  intro p e s m args below meth c s₁ Bd hml0 hP hK
  obtain ⟨rfl, hZ, hh⟩ := hP
  have hx := Bd.exec
  have hby := Bd.bytes
  have hml : c.maxLocals = 2 := hml0
  have hown : s.vm.findClass "com/example/archipel/archipel/model/DataType" = some m.cls := findClass_of_methodNamed Bd.named
  have hnm := (name_of_methodNamed Bd.named Bd.method).1
  have X0 : Stand p l e ({ frames := 0, cells := 0, slots := 0, locals := 0 } : Room) s m #[(.ref w_DECIMAL), (.ref w_DATE)] below meth c s₁ [] 0 0 := Stand.of_body Bd
  have e0 : s₁.heap = h0 := by rw [← hh, Bd.state]; rfl
  have N0 := Fr.nil n0
  show OGot p.tables e below (s₁.setTop (entryFrame m #[(.ref w_DECIMAL), (.ref w_DATE)] 2)) _
  refine OGot.go (fun t k => castTop (ef2_11 m w_DECIMAL w_DATE) k) ?_
  show OGot p.tables e below (s₁.setTop (mkF m 0 #[.val (.ref w_DECIMAL), .val (.ref w_DATE)] [])) _
  refine OGot.go (fun t k => XS.aloadN X0.here hx rfl (hb hby d2_0) rfl rfl k) ?_
  show OGot p.tables e below (s₁.setTop (mkF m 1 #[.val (.ref w_DECIMAL), .val (.ref w_DATE)] [(.ref w_DECIMAL)])) _
  refine OGot.go (fun t k => XS.aloadN X0.here hx rfl (hb hby d2_1) rfl rfl k) ?_
  show OGot p.tables e below (s₁.setTop (mkF m 2 #[.val (.ref w_DECIMAL), .val (.ref w_DATE)] [(.ref w_DATE), (.ref w_DECIMAL)])) _
  have ne3 : w_DECIMAL ≠ w_DATE := (Fld.ne G.2.2.2.2.2.2.2.2.2.2.1 G.2.2.2.2.2.2.2.2.2.1 (by decide))
  refine OGot.go (fun t k => Jvm.RoadKit.acmp (g := (mkF m 2 #[.val (.ref w_DECIMAL), .val (.ref w_DATE)] [(.ref w_DATE), (.ref w_DECIMAL)])) X0 hx rfl rfl rfl (pc0 := 2) (pc' := 5) (same := false) rfl (hb hby d2_2) rfl (decide_eq_false fun q => ne3 (Value.ref.inj q)) (by decide) (by decide) k) ?_
  show OGot p.tables e below (s₁.setTop (mkF m 5 #[.val (.ref w_DECIMAL), .val (.ref w_DATE)] [])) _
  refine OGot.go (fun t k => XS.aloadN X0.here hx rfl (hb hby d2_5) rfl rfl k) ?_
  show OGot p.tables e below (s₁.setTop (mkF m 6 #[.val (.ref w_DECIMAL), .val (.ref w_DATE)] [(.ref w_DECIMAL)])) _
  obtain ⟨T4, X4, e4, st4⟩ := getS2 X0 hx hZ hown (host := "") (Or.inl (ow hw 14 rfl)) Via.refl e0 (G.2.2.2.2.1.ext O0.2) (g := (mkF m 6 #[.val (.ref w_DECIMAL), .val (.ref w_DATE)] [(.ref w_DECIMAL)])) rfl (hb hby d2_6)
  refine OGot.go st4 ?_
  show OGot p.tables e below (T4.setTop (mkF m 9 #[.val (.ref w_DECIMAL), .val (.ref w_DATE)] [(.ref w_DECIMAL), (.ref w_DECIMAL)])) _
  refine OGot.go (fun t k => Jvm.RoadKit.acmp (g := (mkF m 9 #[.val (.ref w_DECIMAL), .val (.ref w_DATE)] [(.ref w_DECIMAL), (.ref w_DECIMAL)])) X4 hx rfl rfl rfl (pc0 := 9) (pc' := 12) (same := true) rfl (hb hby d2_9) rfl (decide_eq_true rfl) (by decide) (by decide) k) ?_
  show OGot p.tables e below (T4.setTop (mkF m 12 #[.val (.ref w_DECIMAL), .val (.ref w_DATE)] [])) _
  refine OGot.go (fun t k => XS.aloadN X4.here hx rfl (hb hby d2_12) rfl rfl k) ?_
  show OGot p.tables e below (T4.setTop (mkF m 13 #[.val (.ref w_DECIMAL), .val (.ref w_DATE)] [(.ref w_DATE)])) _
  obtain ⟨T5, X5, e5, st5⟩ := getS2 X4 hx hZ hown (host := "") (Or.inl (ow hw 20 rfl)) Via.refl e4 (G.2.2.2.2.2.2.1.ext O0.2) (g := (mkF m 13 #[.val (.ref w_DECIMAL), .val (.ref w_DATE)] [(.ref w_DATE)])) rfl (hb hby d2_13)
  refine OGot.go st5 ?_
  show OGot p.tables e below (T5.setTop (mkF m 16 #[.val (.ref w_DECIMAL), .val (.ref w_DATE)] [(.ref w_INTEGER), (.ref w_DATE)])) _
  have ne6 : w_DATE ≠ w_INTEGER := (Fld.ne G.2.2.2.2.2.2.2.2.2.1 G.2.2.2.2.2.2.2.2.2.2.2 (by decide))
  refine OGot.go (fun t k => Jvm.RoadKit.acmp (g := (mkF m 16 #[.val (.ref w_DECIMAL), .val (.ref w_DATE)] [(.ref w_INTEGER), (.ref w_DATE)])) X5 hx rfl rfl rfl (pc0 := 16) (pc' := 23) (same := false) rfl (hb hby d2_16) rfl (decide_eq_false fun q => ne6 (Value.ref.inj q)) (by decide) (by decide) k) ?_
  show OGot p.tables e below (T5.setTop (mkF m 23 #[.val (.ref w_DECIMAL), .val (.ref w_DATE)] [])) _
  refine OGot.go (fun t k => XS.iconst X5.here hx rfl (hb hby d2_23) k) ?_
  show OGot p.tables e below (T5.setTop (mkF m 24 #[.val (.ref w_DECIMAL), .val (.ref w_DATE)] [(.int (0 : Int32))])) _
  obtain ⟨fs, hr, hrun, hended, hW, hsame⟩ := X5.leave (v := some (.int (0 : Int32))) (fun h => by rw [Bd.returns] at h; cases h)
  refine ⟨_, _, retN X5 hx (t := .boolean) Bd.returns (by simp) (hb hby d2_24) hr, hrun, hended, _, _, rfl, ?_, ⟨_, rfl⟩, hW, hsame.mono (by decide) (by decide)⟩
  exact (⟨rfl, N0, e5⟩ : Q2_11 Z w_TEXT w_DATE w_DECIMAL w_INTEGER  h0 n0 _ T5.heap _)
def Q2_12 (Z : State) (w_TEXT : Addr) (w_DATE : Addr) (w_DECIMAL : Addr) (w_INTEGER : Addr)  (h0 : Heap) (n0 : Nat) (v : Option Value) (h : Heap) (L : List Loc) : Prop := v = some (.int (0 : Int32)) ∧ Fr n0 L ∧ h = h0
theorem ef2_12 (m : MethodId) (x0 : Addr) (x1 : Addr) : entryFrame m #[(.ref x0), (.ref x1)] 2 = mkF m 0 #[.val (.ref x0), .val (.ref x1)] [] := by first | (simp [entryFrame, mkF, argsToLocals, Value.category]; done) | rfl
set_option maxRecDepth 65536 in
set_option maxHeartbeats 40000000 in
theorem rm2_12 (l : Launch) (Z : State) (a0 : Array Value) (hw : ∀ d ∈ tables_1, d.before a0 Z = true) (ws : List Jvm.Cond) {w_TEXT : Addr} {w_DATE : Addr} {w_DECIMAL : Addr} {w_INTEGER : Addr} (G : Glob Z w_TEXT w_DATE w_DECIMAL w_INTEGER)  (h0 : Heap) (n0 : Nat) (O0 : Old Z n0 h0) :
    MetFree l (⟨"com/example/archipel/archipel/model/DataType", "takes", "(Lcom/example/archipel/archipel/model/DataType;)Z"⟩ : MethodName) (head1 (Jvm.Cond.code (⟨"com/example/archipel/archipel/model/DataType", "takes", "(Lcom/example/archipel/archipel/model/DataType;)Z"⟩ : MethodName) prog_51_method_8_code 2 (some .boolean) :: ws) ({ frames := 0, cells := 0, slots := 0, locals := 0 } : Room)) (fun a U => a = #[(.ref w_DATE), (.ref w_TEXT)] ∧ Z.Warmed39 U.vm ∧ U.heap = h0) (fun _ _ _ _ _ => True) (fun _ U o U' => ∃ v L, o = .returned v ∧ Q2_12 Z w_TEXT w_DATE w_DECIMAL w_INTEGER  h0 n0 v U'.heap L ∧ FrameEnd U o U' L ({ frames := 0, cells := 0, slots := 0, locals := 0 } : Room).cells ({ frames := 0, cells := 0, slots := 0, locals := 0 } : Room).slots) := by
  refine MetFree.of_bodySF (plainFor_of_name pn_com_example_archipel_archipel_model_DataType) hisR ?_
  intro p e s m args below meth c s₁ Bd hml0 hP hK
  obtain ⟨rfl, hZ, hh⟩ := hP
  have hx := Bd.exec
  have hby := Bd.bytes
  have hml : c.maxLocals = 2 := hml0
  have hown : s.vm.findClass "com/example/archipel/archipel/model/DataType" = some m.cls := findClass_of_methodNamed Bd.named
  have hnm := (name_of_methodNamed Bd.named Bd.method).1
  have X0 : Stand p l e ({ frames := 0, cells := 0, slots := 0, locals := 0 } : Room) s m #[(.ref w_DATE), (.ref w_TEXT)] below meth c s₁ [] 0 0 := Stand.of_body Bd
  have e0 : s₁.heap = h0 := by rw [← hh, Bd.state]; rfl
  have N0 := Fr.nil n0
  show OGot p.tables e below (s₁.setTop (entryFrame m #[(.ref w_DATE), (.ref w_TEXT)] 2)) _
  refine OGot.go (fun t k => castTop (ef2_12 m w_DATE w_TEXT) k) ?_
  show OGot p.tables e below (s₁.setTop (mkF m 0 #[.val (.ref w_DATE), .val (.ref w_TEXT)] [])) _
  refine OGot.go (fun t k => XS.aloadN X0.here hx rfl (hb hby d2_0) rfl rfl k) ?_
  show OGot p.tables e below (s₁.setTop (mkF m 1 #[.val (.ref w_DATE), .val (.ref w_TEXT)] [(.ref w_DATE)])) _
  refine OGot.go (fun t k => XS.aloadN X0.here hx rfl (hb hby d2_1) rfl rfl k) ?_
  show OGot p.tables e below (s₁.setTop (mkF m 2 #[.val (.ref w_DATE), .val (.ref w_TEXT)] [(.ref w_TEXT), (.ref w_DATE)])) _
  have ne3 : w_DATE ≠ w_TEXT := (Fld.ne G.2.2.2.2.2.2.2.2.2.1 G.2.2.2.2.2.2.2.2.1 (by decide))
  refine OGot.go (fun t k => Jvm.RoadKit.acmp (g := (mkF m 2 #[.val (.ref w_DATE), .val (.ref w_TEXT)] [(.ref w_TEXT), (.ref w_DATE)])) X0 hx rfl rfl rfl (pc0 := 2) (pc' := 5) (same := false) rfl (hb hby d2_2) rfl (decide_eq_false fun q => ne3 (Value.ref.inj q)) (by decide) (by decide) k) ?_
  show OGot p.tables e below (s₁.setTop (mkF m 5 #[.val (.ref w_DATE), .val (.ref w_TEXT)] [])) _
  refine OGot.go (fun t k => XS.aloadN X0.here hx rfl (hb hby d2_5) rfl rfl k) ?_
  show OGot p.tables e below (s₁.setTop (mkF m 6 #[.val (.ref w_DATE), .val (.ref w_TEXT)] [(.ref w_DATE)])) _
  obtain ⟨T4, X4, e4, st4⟩ := getS2 X0 hx hZ hown (host := "") (Or.inl (ow hw 14 rfl)) Via.refl e0 (G.2.2.2.2.1.ext O0.2) (g := (mkF m 6 #[.val (.ref w_DATE), .val (.ref w_TEXT)] [(.ref w_DATE)])) rfl (hb hby d2_6)
  refine OGot.go st4 ?_
  show OGot p.tables e below (T4.setTop (mkF m 9 #[.val (.ref w_DATE), .val (.ref w_TEXT)] [(.ref w_DECIMAL), (.ref w_DATE)])) _
  have ne5 : w_DATE ≠ w_DECIMAL := (Fld.ne G.2.2.2.2.2.2.2.2.2.1 G.2.2.2.2.2.2.2.2.2.2.1 (by decide))
  refine OGot.go (fun t k => Jvm.RoadKit.acmp (g := (mkF m 9 #[.val (.ref w_DATE), .val (.ref w_TEXT)] [(.ref w_DECIMAL), (.ref w_DATE)])) X4 hx rfl rfl rfl (pc0 := 9) (pc' := 23) (same := false) rfl (hb hby d2_9) rfl (decide_eq_false fun q => ne5 (Value.ref.inj q)) (by decide) (by decide) k) ?_
  show OGot p.tables e below (T4.setTop (mkF m 23 #[.val (.ref w_DATE), .val (.ref w_TEXT)] [])) _
  refine OGot.go (fun t k => XS.iconst X4.here hx rfl (hb hby d2_23) k) ?_
  show OGot p.tables e below (T4.setTop (mkF m 24 #[.val (.ref w_DATE), .val (.ref w_TEXT)] [(.int (0 : Int32))])) _
  obtain ⟨fs, hr, hrun, hended, hW, hsame⟩ := X4.leave (v := some (.int (0 : Int32))) (fun h => by rw [Bd.returns] at h; cases h)
  refine ⟨_, _, retN X4 hx (t := .boolean) Bd.returns (by simp) (hb hby d2_24) hr, hrun, hended, _, _, rfl, ?_, ⟨_, rfl⟩, hW, hsame.mono (by decide) (by decide)⟩
  exact (⟨rfl, N0, e4⟩ : Q2_12 Z w_TEXT w_DATE w_DECIMAL w_INTEGER  h0 n0 _ T4.heap _)
def Q2_13 (Z : State) (w_TEXT : Addr) (w_DATE : Addr) (w_DECIMAL : Addr) (w_INTEGER : Addr)  (h0 : Heap) (n0 : Nat) (v : Option Value) (h : Heap) (L : List Loc) : Prop := v = some (.int (0 : Int32)) ∧ Fr n0 L ∧ h = h0
theorem ef2_13 (m : MethodId) (x0 : Addr) (x1 : Addr) : entryFrame m #[(.ref x0), (.ref x1)] 2 = mkF m 0 #[.val (.ref x0), .val (.ref x1)] [] := by first | (simp [entryFrame, mkF, argsToLocals, Value.category]; done) | rfl
set_option maxRecDepth 65536 in
set_option maxHeartbeats 40000000 in
theorem rm2_13 (l : Launch) (Z : State) (a0 : Array Value) (hw : ∀ d ∈ tables_1, d.before a0 Z = true) (ws : List Jvm.Cond) {w_TEXT : Addr} {w_DATE : Addr} {w_DECIMAL : Addr} {w_INTEGER : Addr} (G : Glob Z w_TEXT w_DATE w_DECIMAL w_INTEGER)  (h0 : Heap) (n0 : Nat) (O0 : Old Z n0 h0) :
    MetFree l (⟨"com/example/archipel/archipel/model/DataType", "takes", "(Lcom/example/archipel/archipel/model/DataType;)Z"⟩ : MethodName) (head1 (Jvm.Cond.code (⟨"com/example/archipel/archipel/model/DataType", "takes", "(Lcom/example/archipel/archipel/model/DataType;)Z"⟩ : MethodName) prog_51_method_8_code 2 (some .boolean) :: ws) ({ frames := 0, cells := 0, slots := 0, locals := 0 } : Room)) (fun a U => a = #[(.ref w_DATE), (.ref w_INTEGER)] ∧ Z.Warmed39 U.vm ∧ U.heap = h0) (fun _ _ _ _ _ => True) (fun _ U o U' => ∃ v L, o = .returned v ∧ Q2_13 Z w_TEXT w_DATE w_DECIMAL w_INTEGER  h0 n0 v U'.heap L ∧ FrameEnd U o U' L ({ frames := 0, cells := 0, slots := 0, locals := 0 } : Room).cells ({ frames := 0, cells := 0, slots := 0, locals := 0 } : Room).slots) := by
  refine MetFree.of_bodySF (plainFor_of_name pn_com_example_archipel_archipel_model_DataType) hisR ?_
  intro p e s m args below meth c s₁ Bd hml0 hP hK
  obtain ⟨rfl, hZ, hh⟩ := hP
  have hx := Bd.exec
  have hby := Bd.bytes
  have hml : c.maxLocals = 2 := hml0
  have hown : s.vm.findClass "com/example/archipel/archipel/model/DataType" = some m.cls := findClass_of_methodNamed Bd.named
  have hnm := (name_of_methodNamed Bd.named Bd.method).1
  have X0 : Stand p l e ({ frames := 0, cells := 0, slots := 0, locals := 0 } : Room) s m #[(.ref w_DATE), (.ref w_INTEGER)] below meth c s₁ [] 0 0 := Stand.of_body Bd
  have e0 : s₁.heap = h0 := by rw [← hh, Bd.state]; rfl
  have N0 := Fr.nil n0
  show OGot p.tables e below (s₁.setTop (entryFrame m #[(.ref w_DATE), (.ref w_INTEGER)] 2)) _
  refine OGot.go (fun t k => castTop (ef2_13 m w_DATE w_INTEGER) k) ?_
  show OGot p.tables e below (s₁.setTop (mkF m 0 #[.val (.ref w_DATE), .val (.ref w_INTEGER)] [])) _
  refine OGot.go (fun t k => XS.aloadN X0.here hx rfl (hb hby d2_0) rfl rfl k) ?_
  show OGot p.tables e below (s₁.setTop (mkF m 1 #[.val (.ref w_DATE), .val (.ref w_INTEGER)] [(.ref w_DATE)])) _
  refine OGot.go (fun t k => XS.aloadN X0.here hx rfl (hb hby d2_1) rfl rfl k) ?_
  show OGot p.tables e below (s₁.setTop (mkF m 2 #[.val (.ref w_DATE), .val (.ref w_INTEGER)] [(.ref w_INTEGER), (.ref w_DATE)])) _
  have ne3 : w_DATE ≠ w_INTEGER := (Fld.ne G.2.2.2.2.2.2.2.2.2.1 G.2.2.2.2.2.2.2.2.2.2.2 (by decide))
  refine OGot.go (fun t k => Jvm.RoadKit.acmp (g := (mkF m 2 #[.val (.ref w_DATE), .val (.ref w_INTEGER)] [(.ref w_INTEGER), (.ref w_DATE)])) X0 hx rfl rfl rfl (pc0 := 2) (pc' := 5) (same := false) rfl (hb hby d2_2) rfl (decide_eq_false fun q => ne3 (Value.ref.inj q)) (by decide) (by decide) k) ?_
  show OGot p.tables e below (s₁.setTop (mkF m 5 #[.val (.ref w_DATE), .val (.ref w_INTEGER)] [])) _
  refine OGot.go (fun t k => XS.aloadN X0.here hx rfl (hb hby d2_5) rfl rfl k) ?_
  show OGot p.tables e below (s₁.setTop (mkF m 6 #[.val (.ref w_DATE), .val (.ref w_INTEGER)] [(.ref w_DATE)])) _
  obtain ⟨T4, X4, e4, st4⟩ := getS2 X0 hx hZ hown (host := "") (Or.inl (ow hw 14 rfl)) Via.refl e0 (G.2.2.2.2.1.ext O0.2) (g := (mkF m 6 #[.val (.ref w_DATE), .val (.ref w_INTEGER)] [(.ref w_DATE)])) rfl (hb hby d2_6)
  refine OGot.go st4 ?_
  show OGot p.tables e below (T4.setTop (mkF m 9 #[.val (.ref w_DATE), .val (.ref w_INTEGER)] [(.ref w_DECIMAL), (.ref w_DATE)])) _
  have ne5 : w_DATE ≠ w_DECIMAL := (Fld.ne G.2.2.2.2.2.2.2.2.2.1 G.2.2.2.2.2.2.2.2.2.2.1 (by decide))
  refine OGot.go (fun t k => Jvm.RoadKit.acmp (g := (mkF m 9 #[.val (.ref w_DATE), .val (.ref w_INTEGER)] [(.ref w_DECIMAL), (.ref w_DATE)])) X4 hx rfl rfl rfl (pc0 := 9) (pc' := 23) (same := false) rfl (hb hby d2_9) rfl (decide_eq_false fun q => ne5 (Value.ref.inj q)) (by decide) (by decide) k) ?_
  show OGot p.tables e below (T4.setTop (mkF m 23 #[.val (.ref w_DATE), .val (.ref w_INTEGER)] [])) _
  refine OGot.go (fun t k => XS.iconst X4.here hx rfl (hb hby d2_23) k) ?_
  show OGot p.tables e below (T4.setTop (mkF m 24 #[.val (.ref w_DATE), .val (.ref w_INTEGER)] [(.int (0 : Int32))])) _
  obtain ⟨fs, hr, hrun, hended, hW, hsame⟩ := X4.leave (v := some (.int (0 : Int32))) (fun h => by rw [Bd.returns] at h; cases h)
  refine ⟨_, _, retN X4 hx (t := .boolean) Bd.returns (by simp) (hb hby d2_24) hr, hrun, hended, _, _, rfl, ?_, ⟨_, rfl⟩, hW, hsame.mono (by decide) (by decide)⟩
  exact (⟨rfl, N0, e4⟩ : Q2_13 Z w_TEXT w_DATE w_DECIMAL w_INTEGER  h0 n0 _ T4.heap _)
def Q2_14 (Z : State) (w_TEXT : Addr) (w_DATE : Addr) (w_DECIMAL : Addr) (w_INTEGER : Addr)  (h0 : Heap) (n0 : Nat) (v : Option Value) (h : Heap) (L : List Loc) : Prop := v = some (.int (0 : Int32)) ∧ Fr n0 L ∧ h = h0
theorem ef2_14 (m : MethodId) (x0 : Addr) (x1 : Addr) : entryFrame m #[(.ref x0), (.ref x1)] 2 = mkF m 0 #[.val (.ref x0), .val (.ref x1)] [] := by first | (simp [entryFrame, mkF, argsToLocals, Value.category]; done) | rfl
set_option maxRecDepth 65536 in
set_option maxHeartbeats 40000000 in
theorem rm2_14 (l : Launch) (Z : State) (a0 : Array Value) (hw : ∀ d ∈ tables_1, d.before a0 Z = true) (ws : List Jvm.Cond) {w_TEXT : Addr} {w_DATE : Addr} {w_DECIMAL : Addr} {w_INTEGER : Addr} (G : Glob Z w_TEXT w_DATE w_DECIMAL w_INTEGER)  (h0 : Heap) (n0 : Nat) (O0 : Old Z n0 h0) :
    MetFree l (⟨"com/example/archipel/archipel/model/DataType", "takes", "(Lcom/example/archipel/archipel/model/DataType;)Z"⟩ : MethodName) (head1 (Jvm.Cond.code (⟨"com/example/archipel/archipel/model/DataType", "takes", "(Lcom/example/archipel/archipel/model/DataType;)Z"⟩ : MethodName) prog_51_method_8_code 2 (some .boolean) :: ws) ({ frames := 0, cells := 0, slots := 0, locals := 0 } : Room)) (fun a U => a = #[(.ref w_DATE), (.ref w_DECIMAL)] ∧ Z.Warmed39 U.vm ∧ U.heap = h0) (fun _ _ _ _ _ => True) (fun _ U o U' => ∃ v L, o = .returned v ∧ Q2_14 Z w_TEXT w_DATE w_DECIMAL w_INTEGER  h0 n0 v U'.heap L ∧ FrameEnd U o U' L ({ frames := 0, cells := 0, slots := 0, locals := 0 } : Room).cells ({ frames := 0, cells := 0, slots := 0, locals := 0 } : Room).slots) := by
  refine MetFree.of_bodySF (plainFor_of_name pn_com_example_archipel_archipel_model_DataType) hisR ?_
  intro p e s m args below meth c s₁ Bd hml0 hP hK
  obtain ⟨rfl, hZ, hh⟩ := hP
  have hx := Bd.exec
  have hby := Bd.bytes
  have hml : c.maxLocals = 2 := hml0
  have hown : s.vm.findClass "com/example/archipel/archipel/model/DataType" = some m.cls := findClass_of_methodNamed Bd.named
  have hnm := (name_of_methodNamed Bd.named Bd.method).1
  have X0 : Stand p l e ({ frames := 0, cells := 0, slots := 0, locals := 0 } : Room) s m #[(.ref w_DATE), (.ref w_DECIMAL)] below meth c s₁ [] 0 0 := Stand.of_body Bd
  have e0 : s₁.heap = h0 := by rw [← hh, Bd.state]; rfl
  have N0 := Fr.nil n0
  show OGot p.tables e below (s₁.setTop (entryFrame m #[(.ref w_DATE), (.ref w_DECIMAL)] 2)) _
  refine OGot.go (fun t k => castTop (ef2_14 m w_DATE w_DECIMAL) k) ?_
  show OGot p.tables e below (s₁.setTop (mkF m 0 #[.val (.ref w_DATE), .val (.ref w_DECIMAL)] [])) _
  refine OGot.go (fun t k => XS.aloadN X0.here hx rfl (hb hby d2_0) rfl rfl k) ?_
  show OGot p.tables e below (s₁.setTop (mkF m 1 #[.val (.ref w_DATE), .val (.ref w_DECIMAL)] [(.ref w_DATE)])) _
  refine OGot.go (fun t k => XS.aloadN X0.here hx rfl (hb hby d2_1) rfl rfl k) ?_
  show OGot p.tables e below (s₁.setTop (mkF m 2 #[.val (.ref w_DATE), .val (.ref w_DECIMAL)] [(.ref w_DECIMAL), (.ref w_DATE)])) _
  have ne3 : w_DATE ≠ w_DECIMAL := (Fld.ne G.2.2.2.2.2.2.2.2.2.1 G.2.2.2.2.2.2.2.2.2.2.1 (by decide))
  refine OGot.go (fun t k => Jvm.RoadKit.acmp (g := (mkF m 2 #[.val (.ref w_DATE), .val (.ref w_DECIMAL)] [(.ref w_DECIMAL), (.ref w_DATE)])) X0 hx rfl rfl rfl (pc0 := 2) (pc' := 5) (same := false) rfl (hb hby d2_2) rfl (decide_eq_false fun q => ne3 (Value.ref.inj q)) (by decide) (by decide) k) ?_
  show OGot p.tables e below (s₁.setTop (mkF m 5 #[.val (.ref w_DATE), .val (.ref w_DECIMAL)] [])) _
  refine OGot.go (fun t k => XS.aloadN X0.here hx rfl (hb hby d2_5) rfl rfl k) ?_
  show OGot p.tables e below (s₁.setTop (mkF m 6 #[.val (.ref w_DATE), .val (.ref w_DECIMAL)] [(.ref w_DATE)])) _
  obtain ⟨T4, X4, e4, st4⟩ := getS2 X0 hx hZ hown (host := "") (Or.inl (ow hw 14 rfl)) Via.refl e0 (G.2.2.2.2.1.ext O0.2) (g := (mkF m 6 #[.val (.ref w_DATE), .val (.ref w_DECIMAL)] [(.ref w_DATE)])) rfl (hb hby d2_6)
  refine OGot.go st4 ?_
  show OGot p.tables e below (T4.setTop (mkF m 9 #[.val (.ref w_DATE), .val (.ref w_DECIMAL)] [(.ref w_DECIMAL), (.ref w_DATE)])) _
  refine OGot.go (fun t k => Jvm.RoadKit.acmp (g := (mkF m 9 #[.val (.ref w_DATE), .val (.ref w_DECIMAL)] [(.ref w_DECIMAL), (.ref w_DATE)])) X4 hx rfl rfl rfl (pc0 := 9) (pc' := 23) (same := false) rfl (hb hby d2_9) rfl (decide_eq_false fun q => ne3 (Value.ref.inj q)) (by decide) (by decide) k) ?_
  show OGot p.tables e below (T4.setTop (mkF m 23 #[.val (.ref w_DATE), .val (.ref w_DECIMAL)] [])) _
  refine OGot.go (fun t k => XS.iconst X4.here hx rfl (hb hby d2_23) k) ?_
  show OGot p.tables e below (T4.setTop (mkF m 24 #[.val (.ref w_DATE), .val (.ref w_DECIMAL)] [(.int (0 : Int32))])) _
  obtain ⟨fs, hr, hrun, hended, hW, hsame⟩ := X4.leave (v := some (.int (0 : Int32))) (fun h => by rw [Bd.returns] at h; cases h)
  refine ⟨_, _, retN X4 hx (t := .boolean) Bd.returns (by simp) (hb hby d2_24) hr, hrun, hended, _, _, rfl, ?_, ⟨_, rfl⟩, hW, hsame.mono (by decide) (by decide)⟩
  exact (⟨rfl, N0, e4⟩ : Q2_14 Z w_TEXT w_DATE w_DECIMAL w_INTEGER  h0 n0 _ T4.heap _)
def Q2_15 (Z : State) (w_TEXT : Addr) (w_DATE : Addr) (w_DECIMAL : Addr) (w_INTEGER : Addr)  (h0 : Heap) (n0 : Nat) (v : Option Value) (h : Heap) (L : List Loc) : Prop := v = some (.int (1 : Int32)) ∧ Fr n0 L ∧ h = h0
theorem ef2_15 (m : MethodId) (x0 : Addr) : entryFrame m #[(.ref x0), (.ref x0)] 2 = mkF m 0 #[.val (.ref x0), .val (.ref x0)] [] := by first | (simp [entryFrame, mkF, argsToLocals, Value.category]; done) | rfl
set_option maxRecDepth 65536 in
set_option maxHeartbeats 40000000 in
theorem rm2_15 (l : Launch) (Z : State) (a0 : Array Value) (hw : ∀ d ∈ tables_1, d.before a0 Z = true) (ws : List Jvm.Cond) {w_TEXT : Addr} {w_DATE : Addr} {w_DECIMAL : Addr} {w_INTEGER : Addr} (G : Glob Z w_TEXT w_DATE w_DECIMAL w_INTEGER)  (h0 : Heap) (n0 : Nat) (O0 : Old Z n0 h0) :
    MetFree l (⟨"com/example/archipel/archipel/model/DataType", "takes", "(Lcom/example/archipel/archipel/model/DataType;)Z"⟩ : MethodName) (head1 (Jvm.Cond.code (⟨"com/example/archipel/archipel/model/DataType", "takes", "(Lcom/example/archipel/archipel/model/DataType;)Z"⟩ : MethodName) prog_51_method_8_code 2 (some .boolean) :: ws) ({ frames := 0, cells := 0, slots := 0, locals := 0 } : Room)) (fun a U => a = #[(.ref w_DATE), (.ref w_DATE)] ∧ Z.Warmed39 U.vm ∧ U.heap = h0) (fun _ _ _ _ _ => True) (fun _ U o U' => ∃ v L, o = .returned v ∧ Q2_15 Z w_TEXT w_DATE w_DECIMAL w_INTEGER  h0 n0 v U'.heap L ∧ FrameEnd U o U' L ({ frames := 0, cells := 0, slots := 0, locals := 0 } : Room).cells ({ frames := 0, cells := 0, slots := 0, locals := 0 } : Room).slots) := by
  refine MetFree.of_bodySF (plainFor_of_name pn_com_example_archipel_archipel_model_DataType) hisR ?_
  intro p e s m args below meth c s₁ Bd hml0 hP hK
  obtain ⟨rfl, hZ, hh⟩ := hP
  have hx := Bd.exec
  have hby := Bd.bytes
  have hml : c.maxLocals = 2 := hml0
  have hown : s.vm.findClass "com/example/archipel/archipel/model/DataType" = some m.cls := findClass_of_methodNamed Bd.named
  have hnm := (name_of_methodNamed Bd.named Bd.method).1
  have X0 : Stand p l e ({ frames := 0, cells := 0, slots := 0, locals := 0 } : Room) s m #[(.ref w_DATE), (.ref w_DATE)] below meth c s₁ [] 0 0 := Stand.of_body Bd
  have e0 : s₁.heap = h0 := by rw [← hh, Bd.state]; rfl
  have N0 := Fr.nil n0
  show OGot p.tables e below (s₁.setTop (entryFrame m #[(.ref w_DATE), (.ref w_DATE)] 2)) _
  refine OGot.go (fun t k => castTop (ef2_15 m w_DATE) k) ?_
  show OGot p.tables e below (s₁.setTop (mkF m 0 #[.val (.ref w_DATE), .val (.ref w_DATE)] [])) _
  refine OGot.go (fun t k => XS.aloadN X0.here hx rfl (hb hby d2_0) rfl rfl k) ?_
  show OGot p.tables e below (s₁.setTop (mkF m 1 #[.val (.ref w_DATE), .val (.ref w_DATE)] [(.ref w_DATE)])) _
  refine OGot.go (fun t k => XS.aloadN X0.here hx rfl (hb hby d2_1) rfl rfl k) ?_
  show OGot p.tables e below (s₁.setTop (mkF m 2 #[.val (.ref w_DATE), .val (.ref w_DATE)] [(.ref w_DATE), (.ref w_DATE)])) _
  refine OGot.go (fun t k => Jvm.RoadKit.acmp (g := (mkF m 2 #[.val (.ref w_DATE), .val (.ref w_DATE)] [(.ref w_DATE), (.ref w_DATE)])) X0 hx rfl rfl rfl (pc0 := 2) (pc' := 19) (same := true) rfl (hb hby d2_2) rfl (decide_eq_true rfl) (by decide) (by decide) k) ?_
  show OGot p.tables e below (s₁.setTop (mkF m 19 #[.val (.ref w_DATE), .val (.ref w_DATE)] [])) _
  refine OGot.go (fun t k => XS.iconst X0.here hx rfl (hb hby d2_19) k) ?_
  show OGot p.tables e below (s₁.setTop (mkF m 20 #[.val (.ref w_DATE), .val (.ref w_DATE)] [(.int (1 : Int32))])) _
  refine OGot.go (fun t k => XS.goto X0.here hx rfl (pc0 := 20) (pc' := 24) rfl (hb hby d2_20) (by decide) (by decide) k) ?_
  show OGot p.tables e below (s₁.setTop (mkF m 24 #[.val (.ref w_DATE), .val (.ref w_DATE)] [(.int (1 : Int32))])) _
  obtain ⟨fs, hr, hrun, hended, hW, hsame⟩ := X0.leave (v := some (.int (1 : Int32))) (fun h => by rw [Bd.returns] at h; cases h)
  refine ⟨_, _, retN X0 hx (t := .boolean) Bd.returns (by simp) (hb hby d2_24) hr, hrun, hended, _, _, rfl, ?_, ⟨_, rfl⟩, hW, hsame.mono (by decide) (by decide)⟩
  exact (⟨rfl, N0, e0⟩ : Q2_15 Z w_TEXT w_DATE w_DECIMAL w_INTEGER  h0 n0 _ s₁.heap _)
def Q3_4 (Z : State) (w_TEXT : Addr) (w_DATE : Addr) (w_DECIMAL : Addr) (w_INTEGER : Addr)  (h0 : Heap) (n0 : Nat) (v : Option Value) (h : Heap) (L : List Loc) : Prop := v = some (.int (1 : Int32)) ∧ Fr n0 L ∧ h = h0
theorem ef3_4 (m : MethodId) (x0 : Addr) : entryFrame m #[(.ref x0), (.ref x0)] 2 = mkF m 0 #[.val (.ref x0), .val (.ref x0)] [] := by first | (simp [entryFrame, mkF, argsToLocals, Value.category]; done) | rfl
set_option maxRecDepth 65536 in
set_option maxHeartbeats 40000000 in
theorem rm3_4 (l : Launch) (Z : State) (a0 : Array Value) (hw : ∀ d ∈ tables_1, d.before a0 Z = true) (ws : List Jvm.Cond) {w_TEXT : Addr} {w_DATE : Addr} {w_DECIMAL : Addr} {w_INTEGER : Addr} (G : Glob Z w_TEXT w_DATE w_DECIMAL w_INTEGER)  (h0 : Heap) (n0 : Nat) (O0 : Old Z n0 h0) :
    MetFree l (⟨"com/example/archipel/archipel/model/DataType", "comparableWith", "(Lcom/example/archipel/archipel/model/DataType;)Z"⟩ : MethodName) (head1 (Jvm.Cond.code (⟨"com/example/archipel/archipel/model/DataType", "comparableWith", "(Lcom/example/archipel/archipel/model/DataType;)Z"⟩ : MethodName) prog_51_method_4_code 2 (some .boolean) :: ws) ({ frames := 0, cells := 0, slots := 0, locals := 0 } : Room)) (fun a U => a = #[(.ref w_DATE), (.ref w_DATE)] ∧ Z.Warmed39 U.vm ∧ U.heap = h0) (fun _ _ _ _ _ => True) (fun _ U o U' => ∃ v L, o = .returned v ∧ Q3_4 Z w_TEXT w_DATE w_DECIMAL w_INTEGER  h0 n0 v U'.heap L ∧ FrameEnd U o U' L ({ frames := 0, cells := 0, slots := 0, locals := 0 } : Room).cells ({ frames := 0, cells := 0, slots := 0, locals := 0 } : Room).slots) := by
  refine MetFree.of_bodySF (plainFor_of_name pn_com_example_archipel_archipel_model_DataType) hisR ?_
  intro p e s m args below meth c s₁ Bd hml0 hP hK
  obtain ⟨rfl, hZ, hh⟩ := hP
  have hx := Bd.exec
  have hby := Bd.bytes
  have hml : c.maxLocals = 2 := hml0
  have hown : s.vm.findClass "com/example/archipel/archipel/model/DataType" = some m.cls := findClass_of_methodNamed Bd.named
  have hnm := (name_of_methodNamed Bd.named Bd.method).1
  have X0 : Stand p l e ({ frames := 0, cells := 0, slots := 0, locals := 0 } : Room) s m #[(.ref w_DATE), (.ref w_DATE)] below meth c s₁ [] 0 0 := Stand.of_body Bd
  have e0 : s₁.heap = h0 := by rw [← hh, Bd.state]; rfl
  have N0 := Fr.nil n0
  show OGot p.tables e below (s₁.setTop (entryFrame m #[(.ref w_DATE), (.ref w_DATE)] 2)) _
  refine OGot.go (fun t k => castTop (ef3_4 m w_DATE) k) ?_
  show OGot p.tables e below (s₁.setTop (mkF m 0 #[.val (.ref w_DATE), .val (.ref w_DATE)] [])) _
  refine OGot.go (fun t k => XS.aloadN X0.here hx rfl (hb hby d3_0) rfl rfl k) ?_
  show OGot p.tables e below (s₁.setTop (mkF m 1 #[.val (.ref w_DATE), .val (.ref w_DATE)] [(.ref w_DATE)])) _
  refine OGot.go (fun t k => XS.aloadN X0.here hx rfl (hb hby d3_1) rfl rfl k) ?_
  show OGot p.tables e below (s₁.setTop (mkF m 2 #[.val (.ref w_DATE), .val (.ref w_DATE)] [(.ref w_DATE), (.ref w_DATE)])) _
  refine OGot.go (fun t k => Jvm.RoadKit.acmp (g := (mkF m 2 #[.val (.ref w_DATE), .val (.ref w_DATE)] [(.ref w_DATE), (.ref w_DATE)])) X0 hx rfl rfl rfl (pc0 := 2) (pc' := 19) (same := true) rfl (hb hby d3_2) rfl (decide_eq_true rfl) (by decide) (by decide) k) ?_
  show OGot p.tables e below (s₁.setTop (mkF m 19 #[.val (.ref w_DATE), .val (.ref w_DATE)] [])) _
  refine OGot.go (fun t k => XS.iconst X0.here hx rfl (hb hby d3_19) k) ?_
  show OGot p.tables e below (s₁.setTop (mkF m 20 #[.val (.ref w_DATE), .val (.ref w_DATE)] [(.int (1 : Int32))])) _
  refine OGot.go (fun t k => XS.goto X0.here hx rfl (pc0 := 20) (pc' := 24) rfl (hb hby d3_20) (by decide) (by decide) k) ?_
  show OGot p.tables e below (s₁.setTop (mkF m 24 #[.val (.ref w_DATE), .val (.ref w_DATE)] [(.int (1 : Int32))])) _
  obtain ⟨fs, hr, hrun, hended, hW, hsame⟩ := X0.leave (v := some (.int (1 : Int32))) (fun h => by rw [Bd.returns] at h; cases h)
  refine ⟨_, _, retN X0 hx (t := .boolean) Bd.returns (by simp) (hb hby d3_24) hr, hrun, hended, _, _, rfl, ?_, ⟨_, rfl⟩, hW, hsame.mono (by decide) (by decide)⟩
  exact (⟨rfl, N0, e0⟩ : Q3_4 Z w_TEXT w_DATE w_DECIMAL w_INTEGER  h0 n0 _ s₁.heap _)
def Q0 (Z : State) (w_TEXT : Addr) (w_DATE : Addr) (w_DECIMAL : Addr) (w_INTEGER : Addr) (p1 : Int32) (p2 : Int32) (h0 : Heap) (n0 : Nat) (v : Option Value) (h : Heap) (L : List Loc) : Prop := v = some (.int (1 : Int32)) ∧ Fr n0 L
theorem ef0 (m : MethodId) (x0 : Int32) (x1 : Int32) : entryFrame m #[(.int x0), (.int x1)] maxLocals = mkF m 0 #[.val (.int x0), .val (.int x1), .unset, .unset, .unset, .unset, .unset, .unset] [] := by first | (simp [entryFrame, mkF, argsToLocals, Value.category, maxLocals]; done) | rfl
set_option maxRecDepth 65536 in
set_option maxHeartbeats 40000000 in
theorem rm0 (l : Launch) (Z : State) (a0 : Array Value) (hw : ∀ d ∈ tables_1, d.before a0 Z = true) (ws : List Jvm.Cond) {w_TEXT : Addr} {w_DATE : Addr} {w_DECIMAL : Addr} {w_INTEGER : Addr} (G : Glob Z w_TEXT w_DATE w_DECIMAL w_INTEGER) (p1 : Int32) (p2 : Int32) (h0 : Heap) (n0 : Nat) (O0 : Old Z n0 h0) :
    MetFree l x (head1 (Jvm.Cond.code x code maxLocals ret :: ws) room_1) (fun a U => a = #[(.int p1), (.int p2)] ∧ Z.Warmed39 U.vm ∧ U.heap = h0) (fun _ _ _ _ _ => True) (fun _ U o U' => ∃ v L, o = .returned v ∧ Q0 Z w_TEXT w_DATE w_DECIMAL w_INTEGER p1 p2 h0 n0 v U'.heap L ∧ FrameEnd U o U' L room_1.cells room_1.slots) := by
  refine MetFree.of_bodySF (plainFor_of_name pn_com_example_archipel_archipel_model_DataTypeTakesPinLaw) hisR ?_
  intro p e s m args below meth c s₁ Bd hml0 hP hK
  obtain ⟨rfl, hZ, hh⟩ := hP
  have hx := Bd.exec
  have hby := Bd.bytes
  have hml : c.maxLocals = 8 := hml0
  have hown : s.vm.findClass "com/example/archipel/archipel/model/DataTypeTakesPinLaw" = some m.cls := findClass_of_methodNamed Bd.named
  have hnm := (name_of_methodNamed Bd.named Bd.method).1
  have X0 : Stand p l e room_1 s m #[(.int p1), (.int p2)] below meth c s₁ [] 0 0 := Stand.of_body Bd
  have e0 : s₁.heap = h0 := by rw [← hh, Bd.state]; rfl
  have N0 := Fr.nil n0
  show OGot p.tables e below (s₁.setTop (entryFrame m #[(.int p1), (.int p2)] maxLocals)) _
  refine OGot.go (fun t k => castTop (ef0 m p1 p2) k) ?_
  show OGot p.tables e below (s₁.setTop (mkF m 0 #[.val (.int p1), .val (.int p2), .unset, .unset, .unset, .unset, .unset, .unset] [])) _
  refine OGot.go (fun t k => XS.iloadN X0.here hx rfl (hb hby at_0) rfl k) ?_
  show OGot p.tables e below (s₁.setTop (mkF m 1 #[.val (.int p1), .val (.int p2), .unset, .unset, .unset, .unset, .unset, .unset] [(.int p1)])) _
  refine OGot.go (fun t k => XS.iconst X0.here hx rfl (hb hby at_1) k) ?_
  show OGot p.tables e below (s₁.setTop (mkF m 2 #[.val (.int p1), .val (.int p2), .unset, .unset, .unset, .unset, .unset, .unset] [(.int (3 : Int32)), (.int p1)])) _
  refine OGot.go (fun t k => XS.iand X0.here hx rfl (hb hby at_2) rfl k) ?_
  show OGot p.tables e below (s₁.setTop (mkF m 3 #[.val (.int p1), .val (.int p2), .unset, .unset, .unset, .unset, .unset, .unset] [(.int (p1 &&& (3 : Int32)))])) _
  rcases own_and3 p1 with hk3 | hk4 | hk5 | hk6
  · rw [hk3]
    show OGot p.tables e below (s₁.setTop (mkF m 3 #[.val (.int p1), .val (.int p2), .unset, .unset, .unset, .unset, .unset, .unset] [(.int (0 : Int32))])) _
    refine OGot.go (fun t k => XS.istoreN X0.here hx rfl (hb hby at_3) rfl (l' := #[.val (.int p1), .val (.int p2), .val (.int (0 : Int32)), .unset, .unset, .unset, .unset, .unset]) rfl k) ?_
    show OGot p.tables e below (s₁.setTop (mkF m 4 #[.val (.int p1), .val (.int p2), .val (.int (0 : Int32)), .unset, .unset, .unset, .unset, .unset] [])) _
    refine OGot.go (fun t k => XS.iloadN X0.here hx rfl (hb hby at_4) rfl k) ?_
    show OGot p.tables e below (s₁.setTop (mkF m 5 #[.val (.int p1), .val (.int p2), .val (.int (0 : Int32)), .unset, .unset, .unset, .unset, .unset] [(.int p2)])) _
    refine OGot.go (fun t k => XS.iconst X0.here hx rfl (hb hby at_5) k) ?_
    show OGot p.tables e below (s₁.setTop (mkF m 6 #[.val (.int p1), .val (.int p2), .val (.int (0 : Int32)), .unset, .unset, .unset, .unset, .unset] [(.int (3 : Int32)), (.int p2)])) _
    refine OGot.go (fun t k => XS.iand X0.here hx rfl (hb hby at_6) rfl k) ?_
    show OGot p.tables e below (s₁.setTop (mkF m 7 #[.val (.int p1), .val (.int p2), .val (.int (0 : Int32)), .unset, .unset, .unset, .unset, .unset] [(.int (p2 &&& (3 : Int32)))])) _
    rcases own_and3 p2 with hk7 | hk8 | hk9 | hk10
    · rw [hk7]
      show OGot p.tables e below (s₁.setTop (mkF m 7 #[.val (.int p1), .val (.int p2), .val (.int (0 : Int32)), .unset, .unset, .unset, .unset, .unset] [(.int (0 : Int32))])) _
      refine OGot.go (fun t k => XS.istoreN X0.here hx rfl (hb hby at_7) rfl (l' := #[.val (.int p1), .val (.int p2), .val (.int (0 : Int32)), .val (.int (0 : Int32)), .unset, .unset, .unset, .unset]) rfl k) ?_
      show OGot p.tables e below (s₁.setTop (mkF m 8 #[.val (.int p1), .val (.int p2), .val (.int (0 : Int32)), .val (.int (0 : Int32)), .unset, .unset, .unset, .unset] [])) _
      refine OGot.go (fun t k => XS.iloadN X0.here hx rfl (hb hby at_8) rfl k) ?_
      show OGot p.tables e below (s₁.setTop (mkF m 9 #[.val (.int p1), .val (.int p2), .val (.int (0 : Int32)), .val (.int (0 : Int32)), .unset, .unset, .unset, .unset] [(.int (0 : Int32))])) _
      obtain ⟨_, _, ⟨T11, L11, k11, n11⟩, -, X11, ⟨Lc11, hQ11, l11, y11, z11⟩, st11⟩ := Jvm.LawKit.callS X0 hx (y := (⟨"com/example/archipel/archipel/model/DataTypeTakesPinLaw", "pick", "(I)Lcom/example/archipel/archipel/model/DataType;"⟩ : MethodName)) hown (mvT hZ (ow hw 0 rfl)) (mvT hZ (ow hw 1 rfl)) (mvT hZ (ow hw 2 rfl)) (mvT hZ (ow hw 3 rfl)) (by decide) (backOf (W := 0) (rm1 l Z a0 hw [] G  h0 n0 O0 ) hZ (ow hw 3 rfl) (ow hw 2 rfl) (by decide) (by decide)) (g := (mkF m 9 #[.val (.int p1), .val (.int p2), .val (.int (0 : Int32)), .val (.int (0 : Int32)), .unset, .unset, .unset, .unset] [(.int (0 : Int32))])) rfl (by rw [hml]; rfl) (argsL := [(.int (0 : Int32))]) (rest := []) (lenOf pd_0 rfl) rfl (by show 2 * 0 + _ ≤ _; exact Nat.le_of_eq rfl) (hb hby at_9) (fun _ _ => ⟨rfl, e0, (by decide : 0 + 0 ≤ _), (by decide : 0 + 0 ≤ _)⟩)
      dsimp only [Pt.U, Pt.locs, Pt.cells, Pt.slots] at X11 l11 y11 z11 st11 hQ11
      subst l11 y11 z11
      obtain ⟨rfl, N11q, e11⟩ := hQ11
      have N11 := Fr.app N0 N11q
      refine OGot.go st11 ?_
      show OGot p.tables e below (T11.setTop (mkF m 12 #[.val (.int p1), .val (.int p2), .val (.int (0 : Int32)), .val (.int (0 : Int32)), .unset, .unset, .unset, .unset] [(.ref w_TEXT)])) _
      refine OGot.go (fun t k => XS.astore X11.here hx rfl (hb hby at_12) rfl rfl (l' := #[.val (.int p1), .val (.int p2), .val (.int (0 : Int32)), .val (.int (0 : Int32)), .val (.ref w_TEXT), .unset, .unset, .unset]) rfl k) ?_
      show OGot p.tables e below (T11.setTop (mkF m 14 #[.val (.int p1), .val (.int p2), .val (.int (0 : Int32)), .val (.int (0 : Int32)), .val (.ref w_TEXT), .unset, .unset, .unset] [])) _
      refine OGot.go (fun t k => XS.iloadN X11.here hx rfl (hb hby at_14) rfl k) ?_
      show OGot p.tables e below (T11.setTop (mkF m 15 #[.val (.int p1), .val (.int p2), .val (.int (0 : Int32)), .val (.int (0 : Int32)), .val (.ref w_TEXT), .unset, .unset, .unset] [(.int (0 : Int32))])) _
      obtain ⟨_, _, ⟨T12, L12, k12, n12⟩, -, X12, ⟨Lc12, hQ12, l12, y12, z12⟩, st12⟩ := Jvm.LawKit.callS X11 hx (y := (⟨"com/example/archipel/archipel/model/DataTypeTakesPinLaw", "pick", "(I)Lcom/example/archipel/archipel/model/DataType;"⟩ : MethodName)) hown (mvT hZ (ow hw 0 rfl)) (mvT hZ (ow hw 1 rfl)) (mvT hZ (ow hw 2 rfl)) (mvT hZ (ow hw 3 rfl)) (by decide) (backOf (W := 0) (rm1 l Z a0 hw [] G  h0 n0 O0 ) hZ (ow hw 3 rfl) (ow hw 2 rfl) (by decide) (by decide)) (g := (mkF m 15 #[.val (.int p1), .val (.int p2), .val (.int (0 : Int32)), .val (.int (0 : Int32)), .val (.ref w_TEXT), .unset, .unset, .unset] [(.int (0 : Int32))])) rfl (by rw [hml]; rfl) (argsL := [(.int (0 : Int32))]) (rest := []) (lenOf pd_0 rfl) rfl (by show 2 * 0 + _ ≤ _; exact Nat.le_of_eq rfl) (hb hby at_15) (fun _ _ => ⟨rfl, e11, (by decide : 0 + 0 ≤ _), (by decide : 0 + 0 ≤ _)⟩)
      dsimp only [Pt.U, Pt.locs, Pt.cells, Pt.slots] at X12 l12 y12 z12 st12 hQ12
      subst l12 y12 z12
      obtain ⟨rfl, N12q, e12⟩ := hQ12
      have N12 := Fr.app N11 N12q
      refine OGot.go st12 ?_
      show OGot p.tables e below (T12.setTop (mkF m 18 #[.val (.int p1), .val (.int p2), .val (.int (0 : Int32)), .val (.int (0 : Int32)), .val (.ref w_TEXT), .unset, .unset, .unset] [(.ref w_TEXT)])) _
      refine OGot.go (fun t k => XS.astore X12.here hx rfl (hb hby at_18) rfl rfl (l' := #[.val (.int p1), .val (.int p2), .val (.int (0 : Int32)), .val (.int (0 : Int32)), .val (.ref w_TEXT), .val (.ref w_TEXT), .unset, .unset]) rfl k) ?_
      show OGot p.tables e below (T12.setTop (mkF m 20 #[.val (.int p1), .val (.int p2), .val (.int (0 : Int32)), .val (.int (0 : Int32)), .val (.ref w_TEXT), .val (.ref w_TEXT), .unset, .unset] [])) _
      refine OGot.go (fun t k => XS.aload X12.here hx rfl (hb hby at_20) rfl rfl k) ?_
      show OGot p.tables e below (T12.setTop (mkF m 22 #[.val (.int p1), .val (.int p2), .val (.int (0 : Int32)), .val (.int (0 : Int32)), .val (.ref w_TEXT), .val (.ref w_TEXT), .unset, .unset] [(.ref w_TEXT)])) _
      refine OGot.go (fun t k => XS.aload X12.here hx rfl (hb hby at_22) rfl rfl k) ?_
      show OGot p.tables e below (T12.setTop (mkF m 24 #[.val (.int p1), .val (.int p2), .val (.int (0 : Int32)), .val (.int (0 : Int32)), .val (.ref w_TEXT), .val (.ref w_TEXT), .unset, .unset] [(.ref w_TEXT), (.ref w_TEXT)])) _
      obtain ⟨cq13, kq13, q13a, q13b, q13c⟩ := isOf hZ e12 (G.2.1.ext O0.2)
      obtain ⟨_, _, ⟨T13, L13, k13, n13⟩, -, X13, ⟨Lc13, hQ13, l13, y13, z13⟩, st13⟩ := X12.virtualBack hx (y := (⟨"com/example/archipel/archipel/model/DataType", "takes", "(Lcom/example/archipel/archipel/model/DataType;)Z"⟩ : MethodName)) (z := (⟨"com/example/archipel/archipel/model/DataType", "takes", "(Lcom/example/archipel/archipel/model/DataType;)Z"⟩ : MethodName)) hown (mvT hZ (ow hw 9 rfl)) (mvT hZ (ow hw 10 rfl)) (notFace_of_selects (args := #[]) (mvT hZ (ow hw 12 rfl))) (mvT hZ (ow hw 12 rfl)) (mvT hZ (ow hw 11 rfl)) (by decide) (backOf (W := 0) (rm2 l Z a0 hw [] G  h0 n0 O0 ) hZ (ow hw 13 rfl) (ow hw 5 rfl) (by decide) (by decide)) q13a q13c (g := (mkF m 24 #[.val (.int p1), .val (.int p2), .val (.int (0 : Int32)), .val (.int (0 : Int32)), .val (.ref w_TEXT), .val (.ref w_TEXT), .unset, .unset] [(.ref w_TEXT), (.ref w_TEXT)])) rfl (by rw [hml]; rfl) (Steps.refl _) (argsL := [(.ref w_TEXT)]) (rest := []) (lenOf pd_1 rfl) rfl (by show 2 * 0 + _ ≤ _; exact Nat.le_of_eq rfl) (hb hby at_24) (fun _ _ => ⟨rfl, e12, (by decide : 0 + 0 ≤ _), (by decide : 0 + 0 ≤ _)⟩)
      dsimp only [Pt.U, Pt.locs, Pt.cells, Pt.slots] at X13 l13 y13 z13 st13 hQ13
      subst l13 y13 z13
      obtain ⟨rfl, N13q, e13⟩ := hQ13
      have N13 := Fr.app N12 N13q
      refine OGot.on st13 ?_
      show OGot p.tables e below (T13.setTop (mkF m 27 #[.val (.int p1), .val (.int p2), .val (.int (0 : Int32)), .val (.int (0 : Int32)), .val (.ref w_TEXT), .val (.ref w_TEXT), .unset, .unset] [(.int (1 : Int32))])) _
      refine OGot.go (fun t k => XS.istore X13.here hx rfl (hb hby at_27) rfl (l' := #[.val (.int p1), .val (.int p2), .val (.int (0 : Int32)), .val (.int (0 : Int32)), .val (.ref w_TEXT), .val (.ref w_TEXT), .val (.int (1 : Int32)), .unset]) rfl k) ?_
      show OGot p.tables e below (T13.setTop (mkF m 29 #[.val (.int p1), .val (.int p2), .val (.int (0 : Int32)), .val (.int (0 : Int32)), .val (.ref w_TEXT), .val (.ref w_TEXT), .val (.int (1 : Int32)), .unset] [])) _
      refine OGot.go (fun t k => X13.ldcInt hx hown (mvT hZ (ow hw 16 rfl)) (g := (mkF m 29 #[.val (.int p1), .val (.int p2), .val (.int (0 : Int32)), .val (.int (0 : Int32)), .val (.ref w_TEXT), .val (.ref w_TEXT), .val (.int (1 : Int32)), .unset] [])) rfl (hb hby at_29) _ k) ?_
      show OGot p.tables e below (T13.setTop (mkF m 31 #[.val (.int p1), .val (.int p2), .val (.int (0 : Int32)), .val (.int (0 : Int32)), .val (.ref w_TEXT), .val (.ref w_TEXT), .val (.int (1 : Int32)), .unset] [(.int (34337 : Int32))])) _
      refine OGot.go (fun t k => XS.iloadN X13.here hx rfl (hb hby at_31) rfl k) ?_
      show OGot p.tables e below (T13.setTop (mkF m 32 #[.val (.int p1), .val (.int p2), .val (.int (0 : Int32)), .val (.int (0 : Int32)), .val (.ref w_TEXT), .val (.ref w_TEXT), .val (.int (1 : Int32)), .unset] [(.int (0 : Int32)), (.int (34337 : Int32))])) _
      refine OGot.go (fun t k => XS.iconst X13.here hx rfl (hb hby at_32) k) ?_
      show OGot p.tables e below (T13.setTop (mkF m 33 #[.val (.int p1), .val (.int p2), .val (.int (0 : Int32)), .val (.int (0 : Int32)), .val (.ref w_TEXT), .val (.ref w_TEXT), .val (.int (1 : Int32)), .unset] [(.int (4 : Int32)), (.int (0 : Int32)), (.int (34337 : Int32))])) _
      refine OGot.go (fun t k => XS.imul X13.here hx rfl (hb hby at_33) rfl k) ?_
      show OGot p.tables e below (T13.setTop (mkF m 34 #[.val (.int p1), .val (.int p2), .val (.int (0 : Int32)), .val (.int (0 : Int32)), .val (.ref w_TEXT), .val (.ref w_TEXT), .val (.int (1 : Int32)), .unset] [(.int ((0 : Int32) * (4 : Int32))), (.int (34337 : Int32))])) _
      rw [show ((0 : Int32) * (4 : Int32)) = (0 : Int32) from by decide]
      show OGot p.tables e below (T13.setTop (mkF m 34 #[.val (.int p1), .val (.int p2), .val (.int (0 : Int32)), .val (.int (0 : Int32)), .val (.ref w_TEXT), .val (.ref w_TEXT), .val (.int (1 : Int32)), .unset] [(.int (0 : Int32)), (.int (34337 : Int32))])) _
      refine OGot.go (fun t k => XS.iloadN X13.here hx rfl (hb hby at_34) rfl k) ?_
      show OGot p.tables e below (T13.setTop (mkF m 35 #[.val (.int p1), .val (.int p2), .val (.int (0 : Int32)), .val (.int (0 : Int32)), .val (.ref w_TEXT), .val (.ref w_TEXT), .val (.int (1 : Int32)), .unset] [(.int (0 : Int32)), (.int (0 : Int32)), (.int (34337 : Int32))])) _
      refine OGot.go (fun t k => XS.iadd X13.here hx rfl (hb hby at_35) rfl k) ?_
      show OGot p.tables e below (T13.setTop (mkF m 36 #[.val (.int p1), .val (.int p2), .val (.int (0 : Int32)), .val (.int (0 : Int32)), .val (.ref w_TEXT), .val (.ref w_TEXT), .val (.int (1 : Int32)), .unset] [(.int ((0 : Int32) + (0 : Int32))), (.int (34337 : Int32))])) _
      rw [show ((0 : Int32) + (0 : Int32)) = (0 : Int32) from by decide]
      show OGot p.tables e below (T13.setTop (mkF m 36 #[.val (.int p1), .val (.int p2), .val (.int (0 : Int32)), .val (.int (0 : Int32)), .val (.ref w_TEXT), .val (.ref w_TEXT), .val (.int (1 : Int32)), .unset] [(.int (0 : Int32)), (.int (34337 : Int32))])) _
      refine OGot.go (fun t k => XS.ishr X13.here hx rfl (hb hby at_36) rfl k) ?_
      show OGot p.tables e below (T13.setTop (mkF m 37 #[.val (.int p1), .val (.int p2), .val (.int (0 : Int32)), .val (.int (0 : Int32)), .val (.ref w_TEXT), .val (.ref w_TEXT), .val (.int (1 : Int32)), .unset] [(.int ((34337 : Int32) >>> ((0 : Int32) &&& 31)))])) _
      rw [show ((34337 : Int32) >>> ((0 : Int32) &&& 31)) = (34337 : Int32) from by decide]
      show OGot p.tables e below (T13.setTop (mkF m 37 #[.val (.int p1), .val (.int p2), .val (.int (0 : Int32)), .val (.int (0 : Int32)), .val (.ref w_TEXT), .val (.ref w_TEXT), .val (.int (1 : Int32)), .unset] [(.int (34337 : Int32))])) _
      refine OGot.go (fun t k => XS.iconst X13.here hx rfl (hb hby at_37) k) ?_
      show OGot p.tables e below (T13.setTop (mkF m 38 #[.val (.int p1), .val (.int p2), .val (.int (0 : Int32)), .val (.int (0 : Int32)), .val (.ref w_TEXT), .val (.ref w_TEXT), .val (.int (1 : Int32)), .unset] [(.int (1 : Int32)), (.int (34337 : Int32))])) _
      refine OGot.go (fun t k => XS.iand X13.here hx rfl (hb hby at_38) rfl k) ?_
      show OGot p.tables e below (T13.setTop (mkF m 39 #[.val (.int p1), .val (.int p2), .val (.int (0 : Int32)), .val (.int (0 : Int32)), .val (.ref w_TEXT), .val (.ref w_TEXT), .val (.int (1 : Int32)), .unset] [(.int ((34337 : Int32) &&& (1 : Int32)))])) _
      rw [show ((34337 : Int32) &&& (1 : Int32)) = (1 : Int32) from by decide]
      show OGot p.tables e below (T13.setTop (mkF m 39 #[.val (.int p1), .val (.int p2), .val (.int (0 : Int32)), .val (.int (0 : Int32)), .val (.ref w_TEXT), .val (.ref w_TEXT), .val (.int (1 : Int32)), .unset] [(.int (1 : Int32))])) _
      refine OGot.go (fun t k => XS.ifNo X13.here hx rfl (hb hby at_39) rfl (by decide) k) ?_
      show OGot p.tables e below (T13.setTop (mkF m 42 #[.val (.int p1), .val (.int p2), .val (.int (0 : Int32)), .val (.int (0 : Int32)), .val (.ref w_TEXT), .val (.ref w_TEXT), .val (.int (1 : Int32)), .unset] [])) _
      refine OGot.go (fun t k => XS.iconst X13.here hx rfl (hb hby at_42) k) ?_
      show OGot p.tables e below (T13.setTop (mkF m 43 #[.val (.int p1), .val (.int p2), .val (.int (0 : Int32)), .val (.int (0 : Int32)), .val (.ref w_TEXT), .val (.ref w_TEXT), .val (.int (1 : Int32)), .unset] [(.int (1 : Int32))])) _
      refine OGot.go (fun t k => XS.goto X13.here hx rfl (pc0 := 43) (pc' := 47) rfl (hb hby at_43) (by decide) (by decide) k) ?_
      show OGot p.tables e below (T13.setTop (mkF m 47 #[.val (.int p1), .val (.int p2), .val (.int (0 : Int32)), .val (.int (0 : Int32)), .val (.ref w_TEXT), .val (.ref w_TEXT), .val (.int (1 : Int32)), .unset] [(.int (1 : Int32))])) _
      refine OGot.go (fun t k => XS.istore X13.here hx rfl (hb hby at_47) rfl (l' := #[.val (.int p1), .val (.int p2), .val (.int (0 : Int32)), .val (.int (0 : Int32)), .val (.ref w_TEXT), .val (.ref w_TEXT), .val (.int (1 : Int32)), .val (.int (1 : Int32))]) rfl k) ?_
      show OGot p.tables e below (T13.setTop (mkF m 49 #[.val (.int p1), .val (.int p2), .val (.int (0 : Int32)), .val (.int (0 : Int32)), .val (.ref w_TEXT), .val (.ref w_TEXT), .val (.int (1 : Int32)), .val (.int (1 : Int32))] [])) _
      refine OGot.go (fun t k => XS.iload X13.here hx rfl (hb hby at_49) rfl k) ?_
      show OGot p.tables e below (T13.setTop (mkF m 51 #[.val (.int p1), .val (.int p2), .val (.int (0 : Int32)), .val (.int (0 : Int32)), .val (.ref w_TEXT), .val (.ref w_TEXT), .val (.int (1 : Int32)), .val (.int (1 : Int32))] [(.int (1 : Int32))])) _
      refine OGot.go (fun t k => XS.iload X13.here hx rfl (hb hby at_51) rfl k) ?_
      show OGot p.tables e below (T13.setTop (mkF m 53 #[.val (.int p1), .val (.int p2), .val (.int (0 : Int32)), .val (.int (0 : Int32)), .val (.ref w_TEXT), .val (.ref w_TEXT), .val (.int (1 : Int32)), .val (.int (1 : Int32))] [(.int (1 : Int32)), (.int (1 : Int32))])) _
      refine OGot.go (fun t k => XS.icmpNo X13.here hx rfl (hb hby at_53) rfl (by decide) k) ?_
      show OGot p.tables e below (T13.setTop (mkF m 56 #[.val (.int p1), .val (.int p2), .val (.int (0 : Int32)), .val (.int (0 : Int32)), .val (.ref w_TEXT), .val (.ref w_TEXT), .val (.int (1 : Int32)), .val (.int (1 : Int32))] [])) _
      refine OGot.go (fun t k => XS.iload X13.here hx rfl (hb hby at_56) rfl k) ?_
      show OGot p.tables e below (T13.setTop (mkF m 58 #[.val (.int p1), .val (.int p2), .val (.int (0 : Int32)), .val (.int (0 : Int32)), .val (.ref w_TEXT), .val (.ref w_TEXT), .val (.int (1 : Int32)), .val (.int (1 : Int32))] [(.int (1 : Int32))])) _
      refine OGot.go (fun t k => XS.ifNo X13.here hx rfl (hb hby at_58) rfl (by decide) k) ?_
      show OGot p.tables e below (T13.setTop (mkF m 61 #[.val (.int p1), .val (.int p2), .val (.int (0 : Int32)), .val (.int (0 : Int32)), .val (.ref w_TEXT), .val (.ref w_TEXT), .val (.int (1 : Int32)), .val (.int (1 : Int32))] [])) _
      refine OGot.go (fun t k => XS.aload X13.here hx rfl (hb hby at_61) rfl rfl k) ?_
      show OGot p.tables e below (T13.setTop (mkF m 63 #[.val (.int p1), .val (.int p2), .val (.int (0 : Int32)), .val (.int (0 : Int32)), .val (.ref w_TEXT), .val (.ref w_TEXT), .val (.int (1 : Int32)), .val (.int (1 : Int32))] [(.ref w_TEXT)])) _
      refine OGot.go (fun t k => XS.aload X13.here hx rfl (hb hby at_63) rfl rfl k) ?_
      show OGot p.tables e below (T13.setTop (mkF m 65 #[.val (.int p1), .val (.int p2), .val (.int (0 : Int32)), .val (.int (0 : Int32)), .val (.ref w_TEXT), .val (.ref w_TEXT), .val (.int (1 : Int32)), .val (.int (1 : Int32))] [(.ref w_TEXT), (.ref w_TEXT)])) _
      obtain ⟨cq14, kq14, q14a, q14b, q14c⟩ := isOf hZ e13 (G.2.1.ext O0.2)
      obtain ⟨_, _, ⟨T14, L14, k14, n14⟩, -, X14, ⟨Lc14, hQ14, l14, y14, z14⟩, st14⟩ := X13.virtualBack hx (y := (⟨"com/example/archipel/archipel/model/DataType", "comparableWith", "(Lcom/example/archipel/archipel/model/DataType;)Z"⟩ : MethodName)) (z := (⟨"com/example/archipel/archipel/model/DataType", "comparableWith", "(Lcom/example/archipel/archipel/model/DataType;)Z"⟩ : MethodName)) hown (mvT hZ (ow hw 21 rfl)) (mvT hZ (ow hw 22 rfl)) (notFace_of_selects (args := #[]) (mvT hZ (ow hw 24 rfl))) (mvT hZ (ow hw 24 rfl)) (mvT hZ (ow hw 23 rfl)) (by decide) (backOf (W := 0) (rm3 l Z a0 hw [] G  h0 n0 O0 ) hZ (ow hw 25 rfl) (ow hw 5 rfl) (by decide) (by decide)) q14a q14c (g := (mkF m 65 #[.val (.int p1), .val (.int p2), .val (.int (0 : Int32)), .val (.int (0 : Int32)), .val (.ref w_TEXT), .val (.ref w_TEXT), .val (.int (1 : Int32)), .val (.int (1 : Int32))] [(.ref w_TEXT), (.ref w_TEXT)])) rfl (by rw [hml]; rfl) (Steps.refl _) (argsL := [(.ref w_TEXT)]) (rest := []) (lenOf pd_1 rfl) rfl (by show 2 * 0 + _ ≤ _; exact Nat.le_of_eq rfl) (hb hby at_65) (fun _ _ => ⟨rfl, e13, (by decide : 0 + 0 ≤ _), (by decide : 0 + 0 ≤ _)⟩)
      dsimp only [Pt.U, Pt.locs, Pt.cells, Pt.slots] at X14 l14 y14 z14 st14 hQ14
      subst l14 y14 z14
      obtain ⟨rfl, N14q, e14⟩ := hQ14
      have N14 := Fr.app N13 N14q
      refine OGot.on st14 ?_
      show OGot p.tables e below (T14.setTop (mkF m 68 #[.val (.int p1), .val (.int p2), .val (.int (0 : Int32)), .val (.int (0 : Int32)), .val (.ref w_TEXT), .val (.ref w_TEXT), .val (.int (1 : Int32)), .val (.int (1 : Int32))] [(.int (1 : Int32))])) _
      refine OGot.go (fun t k => XS.ifNo X14.here hx rfl (hb hby at_68) rfl (by decide) k) ?_
      show OGot p.tables e below (T14.setTop (mkF m 71 #[.val (.int p1), .val (.int p2), .val (.int (0 : Int32)), .val (.int (0 : Int32)), .val (.ref w_TEXT), .val (.ref w_TEXT), .val (.int (1 : Int32)), .val (.int (1 : Int32))] [])) _
      refine OGot.go (fun t k => XS.iconst X14.here hx rfl (hb hby at_71) k) ?_
      show OGot p.tables e below (T14.setTop (mkF m 72 #[.val (.int p1), .val (.int p2), .val (.int (0 : Int32)), .val (.int (0 : Int32)), .val (.ref w_TEXT), .val (.ref w_TEXT), .val (.int (1 : Int32)), .val (.int (1 : Int32))] [(.int (1 : Int32))])) _
      refine OGot.go (fun t k => XS.goto X14.here hx rfl (pc0 := 72) (pc' := 76) rfl (hb hby at_72) (by decide) (by decide) k) ?_
      show OGot p.tables e below (T14.setTop (mkF m 76 #[.val (.int p1), .val (.int p2), .val (.int (0 : Int32)), .val (.int (0 : Int32)), .val (.ref w_TEXT), .val (.ref w_TEXT), .val (.int (1 : Int32)), .val (.int (1 : Int32))] [(.int (1 : Int32))])) _
      obtain ⟨fs, hr, hrun, hended, hW, hsame⟩ := X14.leave (v := some (.int (1 : Int32))) (fun h => by rw [Bd.returns] at h; cases h)
      refine ⟨_, _, retN X14 hx (t := .boolean) Bd.returns (by simp) (hb hby at_76) hr, hrun, hended, _, _, rfl, ?_, ⟨_, rfl⟩, hW, hsame.mono (by decide) (by decide)⟩
      exact (⟨rfl, N14⟩ : Q0 Z w_TEXT w_DATE w_DECIMAL w_INTEGER p1 p2 h0 n0 _ T14.heap _)
    · rw [hk8]
      show OGot p.tables e below (s₁.setTop (mkF m 7 #[.val (.int p1), .val (.int p2), .val (.int (0 : Int32)), .unset, .unset, .unset, .unset, .unset] [(.int (1 : Int32))])) _
      refine OGot.go (fun t k => XS.istoreN X0.here hx rfl (hb hby at_7) rfl (l' := #[.val (.int p1), .val (.int p2), .val (.int (0 : Int32)), .val (.int (1 : Int32)), .unset, .unset, .unset, .unset]) rfl k) ?_
      show OGot p.tables e below (s₁.setTop (mkF m 8 #[.val (.int p1), .val (.int p2), .val (.int (0 : Int32)), .val (.int (1 : Int32)), .unset, .unset, .unset, .unset] [])) _
      refine OGot.go (fun t k => XS.iloadN X0.here hx rfl (hb hby at_8) rfl k) ?_
      show OGot p.tables e below (s₁.setTop (mkF m 9 #[.val (.int p1), .val (.int p2), .val (.int (0 : Int32)), .val (.int (1 : Int32)), .unset, .unset, .unset, .unset] [(.int (0 : Int32))])) _
      obtain ⟨_, _, ⟨T15, L15, k15, n15⟩, -, X15, ⟨Lc15, hQ15, l15, y15, z15⟩, st15⟩ := Jvm.LawKit.callS X0 hx (y := (⟨"com/example/archipel/archipel/model/DataTypeTakesPinLaw", "pick", "(I)Lcom/example/archipel/archipel/model/DataType;"⟩ : MethodName)) hown (mvT hZ (ow hw 0 rfl)) (mvT hZ (ow hw 1 rfl)) (mvT hZ (ow hw 2 rfl)) (mvT hZ (ow hw 3 rfl)) (by decide) (backOf (W := 0) (rm1 l Z a0 hw [] G  h0 n0 O0 ) hZ (ow hw 3 rfl) (ow hw 2 rfl) (by decide) (by decide)) (g := (mkF m 9 #[.val (.int p1), .val (.int p2), .val (.int (0 : Int32)), .val (.int (1 : Int32)), .unset, .unset, .unset, .unset] [(.int (0 : Int32))])) rfl (by rw [hml]; rfl) (argsL := [(.int (0 : Int32))]) (rest := []) (lenOf pd_0 rfl) rfl (by show 2 * 0 + _ ≤ _; exact Nat.le_of_eq rfl) (hb hby at_9) (fun _ _ => ⟨rfl, e0, (by decide : 0 + 0 ≤ _), (by decide : 0 + 0 ≤ _)⟩)
      dsimp only [Pt.U, Pt.locs, Pt.cells, Pt.slots] at X15 l15 y15 z15 st15 hQ15
      subst l15 y15 z15
      obtain ⟨rfl, N15q, e15⟩ := hQ15
      have N15 := Fr.app N0 N15q
      refine OGot.go st15 ?_
      show OGot p.tables e below (T15.setTop (mkF m 12 #[.val (.int p1), .val (.int p2), .val (.int (0 : Int32)), .val (.int (1 : Int32)), .unset, .unset, .unset, .unset] [(.ref w_TEXT)])) _
      refine OGot.go (fun t k => XS.astore X15.here hx rfl (hb hby at_12) rfl rfl (l' := #[.val (.int p1), .val (.int p2), .val (.int (0 : Int32)), .val (.int (1 : Int32)), .val (.ref w_TEXT), .unset, .unset, .unset]) rfl k) ?_
      show OGot p.tables e below (T15.setTop (mkF m 14 #[.val (.int p1), .val (.int p2), .val (.int (0 : Int32)), .val (.int (1 : Int32)), .val (.ref w_TEXT), .unset, .unset, .unset] [])) _
      refine OGot.go (fun t k => XS.iloadN X15.here hx rfl (hb hby at_14) rfl k) ?_
      show OGot p.tables e below (T15.setTop (mkF m 15 #[.val (.int p1), .val (.int p2), .val (.int (0 : Int32)), .val (.int (1 : Int32)), .val (.ref w_TEXT), .unset, .unset, .unset] [(.int (1 : Int32))])) _
      obtain ⟨_, _, ⟨T16, L16, k16, n16⟩, -, X16, ⟨Lc16, hQ16, l16, y16, z16⟩, st16⟩ := Jvm.LawKit.callS X15 hx (y := (⟨"com/example/archipel/archipel/model/DataTypeTakesPinLaw", "pick", "(I)Lcom/example/archipel/archipel/model/DataType;"⟩ : MethodName)) hown (mvT hZ (ow hw 0 rfl)) (mvT hZ (ow hw 1 rfl)) (mvT hZ (ow hw 2 rfl)) (mvT hZ (ow hw 3 rfl)) (by decide) (backOf (W := 0) (rm1_1 l Z a0 hw [] G  h0 n0 O0 ) hZ (ow hw 3 rfl) (ow hw 2 rfl) (by decide) (by decide)) (g := (mkF m 15 #[.val (.int p1), .val (.int p2), .val (.int (0 : Int32)), .val (.int (1 : Int32)), .val (.ref w_TEXT), .unset, .unset, .unset] [(.int (1 : Int32))])) rfl (by rw [hml]; rfl) (argsL := [(.int (1 : Int32))]) (rest := []) (lenOf pd_0 rfl) rfl (by show 2 * 0 + _ ≤ _; exact Nat.le_of_eq rfl) (hb hby at_15) (fun _ _ => ⟨rfl, e15, (by decide : 0 + 0 ≤ _), (by decide : 0 + 0 ≤ _)⟩)
      dsimp only [Pt.U, Pt.locs, Pt.cells, Pt.slots] at X16 l16 y16 z16 st16 hQ16
      subst l16 y16 z16
      obtain ⟨rfl, N16q, e16⟩ := hQ16
      have N16 := Fr.app N15 N16q
      refine OGot.go st16 ?_
      show OGot p.tables e below (T16.setTop (mkF m 18 #[.val (.int p1), .val (.int p2), .val (.int (0 : Int32)), .val (.int (1 : Int32)), .val (.ref w_TEXT), .unset, .unset, .unset] [(.ref w_INTEGER)])) _
      refine OGot.go (fun t k => XS.astore X16.here hx rfl (hb hby at_18) rfl rfl (l' := #[.val (.int p1), .val (.int p2), .val (.int (0 : Int32)), .val (.int (1 : Int32)), .val (.ref w_TEXT), .val (.ref w_INTEGER), .unset, .unset]) rfl k) ?_
      show OGot p.tables e below (T16.setTop (mkF m 20 #[.val (.int p1), .val (.int p2), .val (.int (0 : Int32)), .val (.int (1 : Int32)), .val (.ref w_TEXT), .val (.ref w_INTEGER), .unset, .unset] [])) _
      refine OGot.go (fun t k => XS.aload X16.here hx rfl (hb hby at_20) rfl rfl k) ?_
      show OGot p.tables e below (T16.setTop (mkF m 22 #[.val (.int p1), .val (.int p2), .val (.int (0 : Int32)), .val (.int (1 : Int32)), .val (.ref w_TEXT), .val (.ref w_INTEGER), .unset, .unset] [(.ref w_TEXT)])) _
      refine OGot.go (fun t k => XS.aload X16.here hx rfl (hb hby at_22) rfl rfl k) ?_
      show OGot p.tables e below (T16.setTop (mkF m 24 #[.val (.int p1), .val (.int p2), .val (.int (0 : Int32)), .val (.int (1 : Int32)), .val (.ref w_TEXT), .val (.ref w_INTEGER), .unset, .unset] [(.ref w_INTEGER), (.ref w_TEXT)])) _
      obtain ⟨cq17, kq17, q17a, q17b, q17c⟩ := isOf hZ e16 (G.2.1.ext O0.2)
      obtain ⟨_, _, ⟨T17, L17, k17, n17⟩, -, X17, ⟨Lc17, hQ17, l17, y17, z17⟩, st17⟩ := X16.virtualBack hx (y := (⟨"com/example/archipel/archipel/model/DataType", "takes", "(Lcom/example/archipel/archipel/model/DataType;)Z"⟩ : MethodName)) (z := (⟨"com/example/archipel/archipel/model/DataType", "takes", "(Lcom/example/archipel/archipel/model/DataType;)Z"⟩ : MethodName)) hown (mvT hZ (ow hw 9 rfl)) (mvT hZ (ow hw 10 rfl)) (notFace_of_selects (args := #[]) (mvT hZ (ow hw 12 rfl))) (mvT hZ (ow hw 12 rfl)) (mvT hZ (ow hw 11 rfl)) (by decide) (backOf (W := 0) (rm2_1 l Z a0 hw [] G  h0 n0 O0 ) hZ (ow hw 13 rfl) (ow hw 5 rfl) (by decide) (by decide)) q17a q17c (g := (mkF m 24 #[.val (.int p1), .val (.int p2), .val (.int (0 : Int32)), .val (.int (1 : Int32)), .val (.ref w_TEXT), .val (.ref w_INTEGER), .unset, .unset] [(.ref w_INTEGER), (.ref w_TEXT)])) rfl (by rw [hml]; rfl) (Steps.refl _) (argsL := [(.ref w_INTEGER)]) (rest := []) (lenOf pd_1 rfl) rfl (by show 2 * 0 + _ ≤ _; exact Nat.le_of_eq rfl) (hb hby at_24) (fun _ _ => ⟨rfl, e16, (by decide : 0 + 0 ≤ _), (by decide : 0 + 0 ≤ _)⟩)
      dsimp only [Pt.U, Pt.locs, Pt.cells, Pt.slots] at X17 l17 y17 z17 st17 hQ17
      subst l17 y17 z17
      obtain ⟨rfl, N17q, e17⟩ := hQ17
      have N17 := Fr.app N16 N17q
      refine OGot.on st17 ?_
      show OGot p.tables e below (T17.setTop (mkF m 27 #[.val (.int p1), .val (.int p2), .val (.int (0 : Int32)), .val (.int (1 : Int32)), .val (.ref w_TEXT), .val (.ref w_INTEGER), .unset, .unset] [(.int (0 : Int32))])) _
      refine OGot.go (fun t k => XS.istore X17.here hx rfl (hb hby at_27) rfl (l' := #[.val (.int p1), .val (.int p2), .val (.int (0 : Int32)), .val (.int (1 : Int32)), .val (.ref w_TEXT), .val (.ref w_INTEGER), .val (.int (0 : Int32)), .unset]) rfl k) ?_
      show OGot p.tables e below (T17.setTop (mkF m 29 #[.val (.int p1), .val (.int p2), .val (.int (0 : Int32)), .val (.int (1 : Int32)), .val (.ref w_TEXT), .val (.ref w_INTEGER), .val (.int (0 : Int32)), .unset] [])) _
      refine OGot.go (fun t k => X17.ldcInt hx hown (mvT hZ (ow hw 16 rfl)) (g := (mkF m 29 #[.val (.int p1), .val (.int p2), .val (.int (0 : Int32)), .val (.int (1 : Int32)), .val (.ref w_TEXT), .val (.ref w_INTEGER), .val (.int (0 : Int32)), .unset] [])) rfl (hb hby at_29) _ k) ?_
      show OGot p.tables e below (T17.setTop (mkF m 31 #[.val (.int p1), .val (.int p2), .val (.int (0 : Int32)), .val (.int (1 : Int32)), .val (.ref w_TEXT), .val (.ref w_INTEGER), .val (.int (0 : Int32)), .unset] [(.int (34337 : Int32))])) _
      refine OGot.go (fun t k => XS.iloadN X17.here hx rfl (hb hby at_31) rfl k) ?_
      show OGot p.tables e below (T17.setTop (mkF m 32 #[.val (.int p1), .val (.int p2), .val (.int (0 : Int32)), .val (.int (1 : Int32)), .val (.ref w_TEXT), .val (.ref w_INTEGER), .val (.int (0 : Int32)), .unset] [(.int (0 : Int32)), (.int (34337 : Int32))])) _
      refine OGot.go (fun t k => XS.iconst X17.here hx rfl (hb hby at_32) k) ?_
      show OGot p.tables e below (T17.setTop (mkF m 33 #[.val (.int p1), .val (.int p2), .val (.int (0 : Int32)), .val (.int (1 : Int32)), .val (.ref w_TEXT), .val (.ref w_INTEGER), .val (.int (0 : Int32)), .unset] [(.int (4 : Int32)), (.int (0 : Int32)), (.int (34337 : Int32))])) _
      refine OGot.go (fun t k => XS.imul X17.here hx rfl (hb hby at_33) rfl k) ?_
      show OGot p.tables e below (T17.setTop (mkF m 34 #[.val (.int p1), .val (.int p2), .val (.int (0 : Int32)), .val (.int (1 : Int32)), .val (.ref w_TEXT), .val (.ref w_INTEGER), .val (.int (0 : Int32)), .unset] [(.int ((0 : Int32) * (4 : Int32))), (.int (34337 : Int32))])) _
      rw [show ((0 : Int32) * (4 : Int32)) = (0 : Int32) from by decide]
      show OGot p.tables e below (T17.setTop (mkF m 34 #[.val (.int p1), .val (.int p2), .val (.int (0 : Int32)), .val (.int (1 : Int32)), .val (.ref w_TEXT), .val (.ref w_INTEGER), .val (.int (0 : Int32)), .unset] [(.int (0 : Int32)), (.int (34337 : Int32))])) _
      refine OGot.go (fun t k => XS.iloadN X17.here hx rfl (hb hby at_34) rfl k) ?_
      show OGot p.tables e below (T17.setTop (mkF m 35 #[.val (.int p1), .val (.int p2), .val (.int (0 : Int32)), .val (.int (1 : Int32)), .val (.ref w_TEXT), .val (.ref w_INTEGER), .val (.int (0 : Int32)), .unset] [(.int (1 : Int32)), (.int (0 : Int32)), (.int (34337 : Int32))])) _
      refine OGot.go (fun t k => XS.iadd X17.here hx rfl (hb hby at_35) rfl k) ?_
      show OGot p.tables e below (T17.setTop (mkF m 36 #[.val (.int p1), .val (.int p2), .val (.int (0 : Int32)), .val (.int (1 : Int32)), .val (.ref w_TEXT), .val (.ref w_INTEGER), .val (.int (0 : Int32)), .unset] [(.int ((0 : Int32) + (1 : Int32))), (.int (34337 : Int32))])) _
      rw [show ((0 : Int32) + (1 : Int32)) = (1 : Int32) from by decide]
      show OGot p.tables e below (T17.setTop (mkF m 36 #[.val (.int p1), .val (.int p2), .val (.int (0 : Int32)), .val (.int (1 : Int32)), .val (.ref w_TEXT), .val (.ref w_INTEGER), .val (.int (0 : Int32)), .unset] [(.int (1 : Int32)), (.int (34337 : Int32))])) _
      refine OGot.go (fun t k => XS.ishr X17.here hx rfl (hb hby at_36) rfl k) ?_
      show OGot p.tables e below (T17.setTop (mkF m 37 #[.val (.int p1), .val (.int p2), .val (.int (0 : Int32)), .val (.int (1 : Int32)), .val (.ref w_TEXT), .val (.ref w_INTEGER), .val (.int (0 : Int32)), .unset] [(.int ((34337 : Int32) >>> ((1 : Int32) &&& 31)))])) _
      rw [show ((34337 : Int32) >>> ((1 : Int32) &&& 31)) = (17168 : Int32) from by decide]
      show OGot p.tables e below (T17.setTop (mkF m 37 #[.val (.int p1), .val (.int p2), .val (.int (0 : Int32)), .val (.int (1 : Int32)), .val (.ref w_TEXT), .val (.ref w_INTEGER), .val (.int (0 : Int32)), .unset] [(.int (17168 : Int32))])) _
      refine OGot.go (fun t k => XS.iconst X17.here hx rfl (hb hby at_37) k) ?_
      show OGot p.tables e below (T17.setTop (mkF m 38 #[.val (.int p1), .val (.int p2), .val (.int (0 : Int32)), .val (.int (1 : Int32)), .val (.ref w_TEXT), .val (.ref w_INTEGER), .val (.int (0 : Int32)), .unset] [(.int (1 : Int32)), (.int (17168 : Int32))])) _
      refine OGot.go (fun t k => XS.iand X17.here hx rfl (hb hby at_38) rfl k) ?_
      show OGot p.tables e below (T17.setTop (mkF m 39 #[.val (.int p1), .val (.int p2), .val (.int (0 : Int32)), .val (.int (1 : Int32)), .val (.ref w_TEXT), .val (.ref w_INTEGER), .val (.int (0 : Int32)), .unset] [(.int ((17168 : Int32) &&& (1 : Int32)))])) _
      rw [show ((17168 : Int32) &&& (1 : Int32)) = (0 : Int32) from by decide]
      show OGot p.tables e below (T17.setTop (mkF m 39 #[.val (.int p1), .val (.int p2), .val (.int (0 : Int32)), .val (.int (1 : Int32)), .val (.ref w_TEXT), .val (.ref w_INTEGER), .val (.int (0 : Int32)), .unset] [(.int (0 : Int32))])) _
      refine OGot.go (fun t k => XS.ifYes X17.here hx rfl (pc0 := 39) (pc' := 46) rfl (hb hby at_39) rfl (by decide) (by decide) (by decide) k) ?_
      show OGot p.tables e below (T17.setTop (mkF m 46 #[.val (.int p1), .val (.int p2), .val (.int (0 : Int32)), .val (.int (1 : Int32)), .val (.ref w_TEXT), .val (.ref w_INTEGER), .val (.int (0 : Int32)), .unset] [])) _
      refine OGot.go (fun t k => XS.iconst X17.here hx rfl (hb hby at_46) k) ?_
      show OGot p.tables e below (T17.setTop (mkF m 47 #[.val (.int p1), .val (.int p2), .val (.int (0 : Int32)), .val (.int (1 : Int32)), .val (.ref w_TEXT), .val (.ref w_INTEGER), .val (.int (0 : Int32)), .unset] [(.int (0 : Int32))])) _
      refine OGot.go (fun t k => XS.istore X17.here hx rfl (hb hby at_47) rfl (l' := #[.val (.int p1), .val (.int p2), .val (.int (0 : Int32)), .val (.int (1 : Int32)), .val (.ref w_TEXT), .val (.ref w_INTEGER), .val (.int (0 : Int32)), .val (.int (0 : Int32))]) rfl k) ?_
      show OGot p.tables e below (T17.setTop (mkF m 49 #[.val (.int p1), .val (.int p2), .val (.int (0 : Int32)), .val (.int (1 : Int32)), .val (.ref w_TEXT), .val (.ref w_INTEGER), .val (.int (0 : Int32)), .val (.int (0 : Int32))] [])) _
      refine OGot.go (fun t k => XS.iload X17.here hx rfl (hb hby at_49) rfl k) ?_
      show OGot p.tables e below (T17.setTop (mkF m 51 #[.val (.int p1), .val (.int p2), .val (.int (0 : Int32)), .val (.int (1 : Int32)), .val (.ref w_TEXT), .val (.ref w_INTEGER), .val (.int (0 : Int32)), .val (.int (0 : Int32))] [(.int (0 : Int32))])) _
      refine OGot.go (fun t k => XS.iload X17.here hx rfl (hb hby at_51) rfl k) ?_
      show OGot p.tables e below (T17.setTop (mkF m 53 #[.val (.int p1), .val (.int p2), .val (.int (0 : Int32)), .val (.int (1 : Int32)), .val (.ref w_TEXT), .val (.ref w_INTEGER), .val (.int (0 : Int32)), .val (.int (0 : Int32))] [(.int (0 : Int32)), (.int (0 : Int32))])) _
      refine OGot.go (fun t k => XS.icmpNo X17.here hx rfl (hb hby at_53) rfl (by decide) k) ?_
      show OGot p.tables e below (T17.setTop (mkF m 56 #[.val (.int p1), .val (.int p2), .val (.int (0 : Int32)), .val (.int (1 : Int32)), .val (.ref w_TEXT), .val (.ref w_INTEGER), .val (.int (0 : Int32)), .val (.int (0 : Int32))] [])) _
      refine OGot.go (fun t k => XS.iload X17.here hx rfl (hb hby at_56) rfl k) ?_
      show OGot p.tables e below (T17.setTop (mkF m 58 #[.val (.int p1), .val (.int p2), .val (.int (0 : Int32)), .val (.int (1 : Int32)), .val (.ref w_TEXT), .val (.ref w_INTEGER), .val (.int (0 : Int32)), .val (.int (0 : Int32))] [(.int (0 : Int32))])) _
      refine OGot.go (fun t k => XS.ifYes X17.here hx rfl (pc0 := 58) (pc' := 71) rfl (hb hby at_58) rfl (by decide) (by decide) (by decide) k) ?_
      show OGot p.tables e below (T17.setTop (mkF m 71 #[.val (.int p1), .val (.int p2), .val (.int (0 : Int32)), .val (.int (1 : Int32)), .val (.ref w_TEXT), .val (.ref w_INTEGER), .val (.int (0 : Int32)), .val (.int (0 : Int32))] [])) _
      refine OGot.go (fun t k => XS.iconst X17.here hx rfl (hb hby at_71) k) ?_
      show OGot p.tables e below (T17.setTop (mkF m 72 #[.val (.int p1), .val (.int p2), .val (.int (0 : Int32)), .val (.int (1 : Int32)), .val (.ref w_TEXT), .val (.ref w_INTEGER), .val (.int (0 : Int32)), .val (.int (0 : Int32))] [(.int (1 : Int32))])) _
      refine OGot.go (fun t k => XS.goto X17.here hx rfl (pc0 := 72) (pc' := 76) rfl (hb hby at_72) (by decide) (by decide) k) ?_
      show OGot p.tables e below (T17.setTop (mkF m 76 #[.val (.int p1), .val (.int p2), .val (.int (0 : Int32)), .val (.int (1 : Int32)), .val (.ref w_TEXT), .val (.ref w_INTEGER), .val (.int (0 : Int32)), .val (.int (0 : Int32))] [(.int (1 : Int32))])) _
      obtain ⟨fs, hr, hrun, hended, hW, hsame⟩ := X17.leave (v := some (.int (1 : Int32))) (fun h => by rw [Bd.returns] at h; cases h)
      refine ⟨_, _, retN X17 hx (t := .boolean) Bd.returns (by simp) (hb hby at_76) hr, hrun, hended, _, _, rfl, ?_, ⟨_, rfl⟩, hW, hsame.mono (by decide) (by decide)⟩
      exact (⟨rfl, N17⟩ : Q0 Z w_TEXT w_DATE w_DECIMAL w_INTEGER p1 p2 h0 n0 _ T17.heap _)
    · rw [hk9]
      show OGot p.tables e below (s₁.setTop (mkF m 7 #[.val (.int p1), .val (.int p2), .val (.int (0 : Int32)), .unset, .unset, .unset, .unset, .unset] [(.int (2 : Int32))])) _
      refine OGot.go (fun t k => XS.istoreN X0.here hx rfl (hb hby at_7) rfl (l' := #[.val (.int p1), .val (.int p2), .val (.int (0 : Int32)), .val (.int (2 : Int32)), .unset, .unset, .unset, .unset]) rfl k) ?_
      show OGot p.tables e below (s₁.setTop (mkF m 8 #[.val (.int p1), .val (.int p2), .val (.int (0 : Int32)), .val (.int (2 : Int32)), .unset, .unset, .unset, .unset] [])) _
      refine OGot.go (fun t k => XS.iloadN X0.here hx rfl (hb hby at_8) rfl k) ?_
      show OGot p.tables e below (s₁.setTop (mkF m 9 #[.val (.int p1), .val (.int p2), .val (.int (0 : Int32)), .val (.int (2 : Int32)), .unset, .unset, .unset, .unset] [(.int (0 : Int32))])) _
      obtain ⟨_, _, ⟨T18, L18, k18, n18⟩, -, X18, ⟨Lc18, hQ18, l18, y18, z18⟩, st18⟩ := Jvm.LawKit.callS X0 hx (y := (⟨"com/example/archipel/archipel/model/DataTypeTakesPinLaw", "pick", "(I)Lcom/example/archipel/archipel/model/DataType;"⟩ : MethodName)) hown (mvT hZ (ow hw 0 rfl)) (mvT hZ (ow hw 1 rfl)) (mvT hZ (ow hw 2 rfl)) (mvT hZ (ow hw 3 rfl)) (by decide) (backOf (W := 0) (rm1 l Z a0 hw [] G  h0 n0 O0 ) hZ (ow hw 3 rfl) (ow hw 2 rfl) (by decide) (by decide)) (g := (mkF m 9 #[.val (.int p1), .val (.int p2), .val (.int (0 : Int32)), .val (.int (2 : Int32)), .unset, .unset, .unset, .unset] [(.int (0 : Int32))])) rfl (by rw [hml]; rfl) (argsL := [(.int (0 : Int32))]) (rest := []) (lenOf pd_0 rfl) rfl (by show 2 * 0 + _ ≤ _; exact Nat.le_of_eq rfl) (hb hby at_9) (fun _ _ => ⟨rfl, e0, (by decide : 0 + 0 ≤ _), (by decide : 0 + 0 ≤ _)⟩)
      dsimp only [Pt.U, Pt.locs, Pt.cells, Pt.slots] at X18 l18 y18 z18 st18 hQ18
      subst l18 y18 z18
      obtain ⟨rfl, N18q, e18⟩ := hQ18
      have N18 := Fr.app N0 N18q
      refine OGot.go st18 ?_
      show OGot p.tables e below (T18.setTop (mkF m 12 #[.val (.int p1), .val (.int p2), .val (.int (0 : Int32)), .val (.int (2 : Int32)), .unset, .unset, .unset, .unset] [(.ref w_TEXT)])) _
      refine OGot.go (fun t k => XS.astore X18.here hx rfl (hb hby at_12) rfl rfl (l' := #[.val (.int p1), .val (.int p2), .val (.int (0 : Int32)), .val (.int (2 : Int32)), .val (.ref w_TEXT), .unset, .unset, .unset]) rfl k) ?_
      show OGot p.tables e below (T18.setTop (mkF m 14 #[.val (.int p1), .val (.int p2), .val (.int (0 : Int32)), .val (.int (2 : Int32)), .val (.ref w_TEXT), .unset, .unset, .unset] [])) _
      refine OGot.go (fun t k => XS.iloadN X18.here hx rfl (hb hby at_14) rfl k) ?_
      show OGot p.tables e below (T18.setTop (mkF m 15 #[.val (.int p1), .val (.int p2), .val (.int (0 : Int32)), .val (.int (2 : Int32)), .val (.ref w_TEXT), .unset, .unset, .unset] [(.int (2 : Int32))])) _
      obtain ⟨_, _, ⟨T19, L19, k19, n19⟩, -, X19, ⟨Lc19, hQ19, l19, y19, z19⟩, st19⟩ := Jvm.LawKit.callS X18 hx (y := (⟨"com/example/archipel/archipel/model/DataTypeTakesPinLaw", "pick", "(I)Lcom/example/archipel/archipel/model/DataType;"⟩ : MethodName)) hown (mvT hZ (ow hw 0 rfl)) (mvT hZ (ow hw 1 rfl)) (mvT hZ (ow hw 2 rfl)) (mvT hZ (ow hw 3 rfl)) (by decide) (backOf (W := 0) (rm1_2 l Z a0 hw [] G  h0 n0 O0 ) hZ (ow hw 3 rfl) (ow hw 2 rfl) (by decide) (by decide)) (g := (mkF m 15 #[.val (.int p1), .val (.int p2), .val (.int (0 : Int32)), .val (.int (2 : Int32)), .val (.ref w_TEXT), .unset, .unset, .unset] [(.int (2 : Int32))])) rfl (by rw [hml]; rfl) (argsL := [(.int (2 : Int32))]) (rest := []) (lenOf pd_0 rfl) rfl (by show 2 * 0 + _ ≤ _; exact Nat.le_of_eq rfl) (hb hby at_15) (fun _ _ => ⟨rfl, e18, (by decide : 0 + 0 ≤ _), (by decide : 0 + 0 ≤ _)⟩)
      dsimp only [Pt.U, Pt.locs, Pt.cells, Pt.slots] at X19 l19 y19 z19 st19 hQ19
      subst l19 y19 z19
      obtain ⟨rfl, N19q, e19⟩ := hQ19
      have N19 := Fr.app N18 N19q
      refine OGot.go st19 ?_
      show OGot p.tables e below (T19.setTop (mkF m 18 #[.val (.int p1), .val (.int p2), .val (.int (0 : Int32)), .val (.int (2 : Int32)), .val (.ref w_TEXT), .unset, .unset, .unset] [(.ref w_DECIMAL)])) _
      refine OGot.go (fun t k => XS.astore X19.here hx rfl (hb hby at_18) rfl rfl (l' := #[.val (.int p1), .val (.int p2), .val (.int (0 : Int32)), .val (.int (2 : Int32)), .val (.ref w_TEXT), .val (.ref w_DECIMAL), .unset, .unset]) rfl k) ?_
      show OGot p.tables e below (T19.setTop (mkF m 20 #[.val (.int p1), .val (.int p2), .val (.int (0 : Int32)), .val (.int (2 : Int32)), .val (.ref w_TEXT), .val (.ref w_DECIMAL), .unset, .unset] [])) _
      refine OGot.go (fun t k => XS.aload X19.here hx rfl (hb hby at_20) rfl rfl k) ?_
      show OGot p.tables e below (T19.setTop (mkF m 22 #[.val (.int p1), .val (.int p2), .val (.int (0 : Int32)), .val (.int (2 : Int32)), .val (.ref w_TEXT), .val (.ref w_DECIMAL), .unset, .unset] [(.ref w_TEXT)])) _
      refine OGot.go (fun t k => XS.aload X19.here hx rfl (hb hby at_22) rfl rfl k) ?_
      show OGot p.tables e below (T19.setTop (mkF m 24 #[.val (.int p1), .val (.int p2), .val (.int (0 : Int32)), .val (.int (2 : Int32)), .val (.ref w_TEXT), .val (.ref w_DECIMAL), .unset, .unset] [(.ref w_DECIMAL), (.ref w_TEXT)])) _
      obtain ⟨cq20, kq20, q20a, q20b, q20c⟩ := isOf hZ e19 (G.2.1.ext O0.2)
      obtain ⟨_, _, ⟨T20, L20, k20, n20⟩, -, X20, ⟨Lc20, hQ20, l20, y20, z20⟩, st20⟩ := X19.virtualBack hx (y := (⟨"com/example/archipel/archipel/model/DataType", "takes", "(Lcom/example/archipel/archipel/model/DataType;)Z"⟩ : MethodName)) (z := (⟨"com/example/archipel/archipel/model/DataType", "takes", "(Lcom/example/archipel/archipel/model/DataType;)Z"⟩ : MethodName)) hown (mvT hZ (ow hw 9 rfl)) (mvT hZ (ow hw 10 rfl)) (notFace_of_selects (args := #[]) (mvT hZ (ow hw 12 rfl))) (mvT hZ (ow hw 12 rfl)) (mvT hZ (ow hw 11 rfl)) (by decide) (backOf (W := 0) (rm2_2 l Z a0 hw [] G  h0 n0 O0 ) hZ (ow hw 13 rfl) (ow hw 5 rfl) (by decide) (by decide)) q20a q20c (g := (mkF m 24 #[.val (.int p1), .val (.int p2), .val (.int (0 : Int32)), .val (.int (2 : Int32)), .val (.ref w_TEXT), .val (.ref w_DECIMAL), .unset, .unset] [(.ref w_DECIMAL), (.ref w_TEXT)])) rfl (by rw [hml]; rfl) (Steps.refl _) (argsL := [(.ref w_DECIMAL)]) (rest := []) (lenOf pd_1 rfl) rfl (by show 2 * 0 + _ ≤ _; exact Nat.le_of_eq rfl) (hb hby at_24) (fun _ _ => ⟨rfl, e19, (by decide : 0 + 0 ≤ _), (by decide : 0 + 0 ≤ _)⟩)
      dsimp only [Pt.U, Pt.locs, Pt.cells, Pt.slots] at X20 l20 y20 z20 st20 hQ20
      subst l20 y20 z20
      obtain ⟨rfl, N20q, e20⟩ := hQ20
      have N20 := Fr.app N19 N20q
      refine OGot.on st20 ?_
      show OGot p.tables e below (T20.setTop (mkF m 27 #[.val (.int p1), .val (.int p2), .val (.int (0 : Int32)), .val (.int (2 : Int32)), .val (.ref w_TEXT), .val (.ref w_DECIMAL), .unset, .unset] [(.int (0 : Int32))])) _
      refine OGot.go (fun t k => XS.istore X20.here hx rfl (hb hby at_27) rfl (l' := #[.val (.int p1), .val (.int p2), .val (.int (0 : Int32)), .val (.int (2 : Int32)), .val (.ref w_TEXT), .val (.ref w_DECIMAL), .val (.int (0 : Int32)), .unset]) rfl k) ?_
      show OGot p.tables e below (T20.setTop (mkF m 29 #[.val (.int p1), .val (.int p2), .val (.int (0 : Int32)), .val (.int (2 : Int32)), .val (.ref w_TEXT), .val (.ref w_DECIMAL), .val (.int (0 : Int32)), .unset] [])) _
      refine OGot.go (fun t k => X20.ldcInt hx hown (mvT hZ (ow hw 16 rfl)) (g := (mkF m 29 #[.val (.int p1), .val (.int p2), .val (.int (0 : Int32)), .val (.int (2 : Int32)), .val (.ref w_TEXT), .val (.ref w_DECIMAL), .val (.int (0 : Int32)), .unset] [])) rfl (hb hby at_29) _ k) ?_
      show OGot p.tables e below (T20.setTop (mkF m 31 #[.val (.int p1), .val (.int p2), .val (.int (0 : Int32)), .val (.int (2 : Int32)), .val (.ref w_TEXT), .val (.ref w_DECIMAL), .val (.int (0 : Int32)), .unset] [(.int (34337 : Int32))])) _
      refine OGot.go (fun t k => XS.iloadN X20.here hx rfl (hb hby at_31) rfl k) ?_
      show OGot p.tables e below (T20.setTop (mkF m 32 #[.val (.int p1), .val (.int p2), .val (.int (0 : Int32)), .val (.int (2 : Int32)), .val (.ref w_TEXT), .val (.ref w_DECIMAL), .val (.int (0 : Int32)), .unset] [(.int (0 : Int32)), (.int (34337 : Int32))])) _
      refine OGot.go (fun t k => XS.iconst X20.here hx rfl (hb hby at_32) k) ?_
      show OGot p.tables e below (T20.setTop (mkF m 33 #[.val (.int p1), .val (.int p2), .val (.int (0 : Int32)), .val (.int (2 : Int32)), .val (.ref w_TEXT), .val (.ref w_DECIMAL), .val (.int (0 : Int32)), .unset] [(.int (4 : Int32)), (.int (0 : Int32)), (.int (34337 : Int32))])) _
      refine OGot.go (fun t k => XS.imul X20.here hx rfl (hb hby at_33) rfl k) ?_
      show OGot p.tables e below (T20.setTop (mkF m 34 #[.val (.int p1), .val (.int p2), .val (.int (0 : Int32)), .val (.int (2 : Int32)), .val (.ref w_TEXT), .val (.ref w_DECIMAL), .val (.int (0 : Int32)), .unset] [(.int ((0 : Int32) * (4 : Int32))), (.int (34337 : Int32))])) _
      rw [show ((0 : Int32) * (4 : Int32)) = (0 : Int32) from by decide]
      show OGot p.tables e below (T20.setTop (mkF m 34 #[.val (.int p1), .val (.int p2), .val (.int (0 : Int32)), .val (.int (2 : Int32)), .val (.ref w_TEXT), .val (.ref w_DECIMAL), .val (.int (0 : Int32)), .unset] [(.int (0 : Int32)), (.int (34337 : Int32))])) _
      refine OGot.go (fun t k => XS.iloadN X20.here hx rfl (hb hby at_34) rfl k) ?_
      show OGot p.tables e below (T20.setTop (mkF m 35 #[.val (.int p1), .val (.int p2), .val (.int (0 : Int32)), .val (.int (2 : Int32)), .val (.ref w_TEXT), .val (.ref w_DECIMAL), .val (.int (0 : Int32)), .unset] [(.int (2 : Int32)), (.int (0 : Int32)), (.int (34337 : Int32))])) _
      refine OGot.go (fun t k => XS.iadd X20.here hx rfl (hb hby at_35) rfl k) ?_
      show OGot p.tables e below (T20.setTop (mkF m 36 #[.val (.int p1), .val (.int p2), .val (.int (0 : Int32)), .val (.int (2 : Int32)), .val (.ref w_TEXT), .val (.ref w_DECIMAL), .val (.int (0 : Int32)), .unset] [(.int ((0 : Int32) + (2 : Int32))), (.int (34337 : Int32))])) _
      rw [show ((0 : Int32) + (2 : Int32)) = (2 : Int32) from by decide]
      show OGot p.tables e below (T20.setTop (mkF m 36 #[.val (.int p1), .val (.int p2), .val (.int (0 : Int32)), .val (.int (2 : Int32)), .val (.ref w_TEXT), .val (.ref w_DECIMAL), .val (.int (0 : Int32)), .unset] [(.int (2 : Int32)), (.int (34337 : Int32))])) _
      refine OGot.go (fun t k => XS.ishr X20.here hx rfl (hb hby at_36) rfl k) ?_
      show OGot p.tables e below (T20.setTop (mkF m 37 #[.val (.int p1), .val (.int p2), .val (.int (0 : Int32)), .val (.int (2 : Int32)), .val (.ref w_TEXT), .val (.ref w_DECIMAL), .val (.int (0 : Int32)), .unset] [(.int ((34337 : Int32) >>> ((2 : Int32) &&& 31)))])) _
      rw [show ((34337 : Int32) >>> ((2 : Int32) &&& 31)) = (8584 : Int32) from by decide]
      show OGot p.tables e below (T20.setTop (mkF m 37 #[.val (.int p1), .val (.int p2), .val (.int (0 : Int32)), .val (.int (2 : Int32)), .val (.ref w_TEXT), .val (.ref w_DECIMAL), .val (.int (0 : Int32)), .unset] [(.int (8584 : Int32))])) _
      refine OGot.go (fun t k => XS.iconst X20.here hx rfl (hb hby at_37) k) ?_
      show OGot p.tables e below (T20.setTop (mkF m 38 #[.val (.int p1), .val (.int p2), .val (.int (0 : Int32)), .val (.int (2 : Int32)), .val (.ref w_TEXT), .val (.ref w_DECIMAL), .val (.int (0 : Int32)), .unset] [(.int (1 : Int32)), (.int (8584 : Int32))])) _
      refine OGot.go (fun t k => XS.iand X20.here hx rfl (hb hby at_38) rfl k) ?_
      show OGot p.tables e below (T20.setTop (mkF m 39 #[.val (.int p1), .val (.int p2), .val (.int (0 : Int32)), .val (.int (2 : Int32)), .val (.ref w_TEXT), .val (.ref w_DECIMAL), .val (.int (0 : Int32)), .unset] [(.int ((8584 : Int32) &&& (1 : Int32)))])) _
      rw [show ((8584 : Int32) &&& (1 : Int32)) = (0 : Int32) from by decide]
      show OGot p.tables e below (T20.setTop (mkF m 39 #[.val (.int p1), .val (.int p2), .val (.int (0 : Int32)), .val (.int (2 : Int32)), .val (.ref w_TEXT), .val (.ref w_DECIMAL), .val (.int (0 : Int32)), .unset] [(.int (0 : Int32))])) _
      refine OGot.go (fun t k => XS.ifYes X20.here hx rfl (pc0 := 39) (pc' := 46) rfl (hb hby at_39) rfl (by decide) (by decide) (by decide) k) ?_
      show OGot p.tables e below (T20.setTop (mkF m 46 #[.val (.int p1), .val (.int p2), .val (.int (0 : Int32)), .val (.int (2 : Int32)), .val (.ref w_TEXT), .val (.ref w_DECIMAL), .val (.int (0 : Int32)), .unset] [])) _
      refine OGot.go (fun t k => XS.iconst X20.here hx rfl (hb hby at_46) k) ?_
      show OGot p.tables e below (T20.setTop (mkF m 47 #[.val (.int p1), .val (.int p2), .val (.int (0 : Int32)), .val (.int (2 : Int32)), .val (.ref w_TEXT), .val (.ref w_DECIMAL), .val (.int (0 : Int32)), .unset] [(.int (0 : Int32))])) _
      refine OGot.go (fun t k => XS.istore X20.here hx rfl (hb hby at_47) rfl (l' := #[.val (.int p1), .val (.int p2), .val (.int (0 : Int32)), .val (.int (2 : Int32)), .val (.ref w_TEXT), .val (.ref w_DECIMAL), .val (.int (0 : Int32)), .val (.int (0 : Int32))]) rfl k) ?_
      show OGot p.tables e below (T20.setTop (mkF m 49 #[.val (.int p1), .val (.int p2), .val (.int (0 : Int32)), .val (.int (2 : Int32)), .val (.ref w_TEXT), .val (.ref w_DECIMAL), .val (.int (0 : Int32)), .val (.int (0 : Int32))] [])) _
      refine OGot.go (fun t k => XS.iload X20.here hx rfl (hb hby at_49) rfl k) ?_
      show OGot p.tables e below (T20.setTop (mkF m 51 #[.val (.int p1), .val (.int p2), .val (.int (0 : Int32)), .val (.int (2 : Int32)), .val (.ref w_TEXT), .val (.ref w_DECIMAL), .val (.int (0 : Int32)), .val (.int (0 : Int32))] [(.int (0 : Int32))])) _
      refine OGot.go (fun t k => XS.iload X20.here hx rfl (hb hby at_51) rfl k) ?_
      show OGot p.tables e below (T20.setTop (mkF m 53 #[.val (.int p1), .val (.int p2), .val (.int (0 : Int32)), .val (.int (2 : Int32)), .val (.ref w_TEXT), .val (.ref w_DECIMAL), .val (.int (0 : Int32)), .val (.int (0 : Int32))] [(.int (0 : Int32)), (.int (0 : Int32))])) _
      refine OGot.go (fun t k => XS.icmpNo X20.here hx rfl (hb hby at_53) rfl (by decide) k) ?_
      show OGot p.tables e below (T20.setTop (mkF m 56 #[.val (.int p1), .val (.int p2), .val (.int (0 : Int32)), .val (.int (2 : Int32)), .val (.ref w_TEXT), .val (.ref w_DECIMAL), .val (.int (0 : Int32)), .val (.int (0 : Int32))] [])) _
      refine OGot.go (fun t k => XS.iload X20.here hx rfl (hb hby at_56) rfl k) ?_
      show OGot p.tables e below (T20.setTop (mkF m 58 #[.val (.int p1), .val (.int p2), .val (.int (0 : Int32)), .val (.int (2 : Int32)), .val (.ref w_TEXT), .val (.ref w_DECIMAL), .val (.int (0 : Int32)), .val (.int (0 : Int32))] [(.int (0 : Int32))])) _
      refine OGot.go (fun t k => XS.ifYes X20.here hx rfl (pc0 := 58) (pc' := 71) rfl (hb hby at_58) rfl (by decide) (by decide) (by decide) k) ?_
      show OGot p.tables e below (T20.setTop (mkF m 71 #[.val (.int p1), .val (.int p2), .val (.int (0 : Int32)), .val (.int (2 : Int32)), .val (.ref w_TEXT), .val (.ref w_DECIMAL), .val (.int (0 : Int32)), .val (.int (0 : Int32))] [])) _
      refine OGot.go (fun t k => XS.iconst X20.here hx rfl (hb hby at_71) k) ?_
      show OGot p.tables e below (T20.setTop (mkF m 72 #[.val (.int p1), .val (.int p2), .val (.int (0 : Int32)), .val (.int (2 : Int32)), .val (.ref w_TEXT), .val (.ref w_DECIMAL), .val (.int (0 : Int32)), .val (.int (0 : Int32))] [(.int (1 : Int32))])) _
      refine OGot.go (fun t k => XS.goto X20.here hx rfl (pc0 := 72) (pc' := 76) rfl (hb hby at_72) (by decide) (by decide) k) ?_
      show OGot p.tables e below (T20.setTop (mkF m 76 #[.val (.int p1), .val (.int p2), .val (.int (0 : Int32)), .val (.int (2 : Int32)), .val (.ref w_TEXT), .val (.ref w_DECIMAL), .val (.int (0 : Int32)), .val (.int (0 : Int32))] [(.int (1 : Int32))])) _
      obtain ⟨fs, hr, hrun, hended, hW, hsame⟩ := X20.leave (v := some (.int (1 : Int32))) (fun h => by rw [Bd.returns] at h; cases h)
      refine ⟨_, _, retN X20 hx (t := .boolean) Bd.returns (by simp) (hb hby at_76) hr, hrun, hended, _, _, rfl, ?_, ⟨_, rfl⟩, hW, hsame.mono (by decide) (by decide)⟩
      exact (⟨rfl, N20⟩ : Q0 Z w_TEXT w_DATE w_DECIMAL w_INTEGER p1 p2 h0 n0 _ T20.heap _)
    · rw [hk10]
      show OGot p.tables e below (s₁.setTop (mkF m 7 #[.val (.int p1), .val (.int p2), .val (.int (0 : Int32)), .unset, .unset, .unset, .unset, .unset] [(.int (3 : Int32))])) _
      refine OGot.go (fun t k => XS.istoreN X0.here hx rfl (hb hby at_7) rfl (l' := #[.val (.int p1), .val (.int p2), .val (.int (0 : Int32)), .val (.int (3 : Int32)), .unset, .unset, .unset, .unset]) rfl k) ?_
      show OGot p.tables e below (s₁.setTop (mkF m 8 #[.val (.int p1), .val (.int p2), .val (.int (0 : Int32)), .val (.int (3 : Int32)), .unset, .unset, .unset, .unset] [])) _
      refine OGot.go (fun t k => XS.iloadN X0.here hx rfl (hb hby at_8) rfl k) ?_
      show OGot p.tables e below (s₁.setTop (mkF m 9 #[.val (.int p1), .val (.int p2), .val (.int (0 : Int32)), .val (.int (3 : Int32)), .unset, .unset, .unset, .unset] [(.int (0 : Int32))])) _
      obtain ⟨_, _, ⟨T21, L21, k21, n21⟩, -, X21, ⟨Lc21, hQ21, l21, y21, z21⟩, st21⟩ := Jvm.LawKit.callS X0 hx (y := (⟨"com/example/archipel/archipel/model/DataTypeTakesPinLaw", "pick", "(I)Lcom/example/archipel/archipel/model/DataType;"⟩ : MethodName)) hown (mvT hZ (ow hw 0 rfl)) (mvT hZ (ow hw 1 rfl)) (mvT hZ (ow hw 2 rfl)) (mvT hZ (ow hw 3 rfl)) (by decide) (backOf (W := 0) (rm1 l Z a0 hw [] G  h0 n0 O0 ) hZ (ow hw 3 rfl) (ow hw 2 rfl) (by decide) (by decide)) (g := (mkF m 9 #[.val (.int p1), .val (.int p2), .val (.int (0 : Int32)), .val (.int (3 : Int32)), .unset, .unset, .unset, .unset] [(.int (0 : Int32))])) rfl (by rw [hml]; rfl) (argsL := [(.int (0 : Int32))]) (rest := []) (lenOf pd_0 rfl) rfl (by show 2 * 0 + _ ≤ _; exact Nat.le_of_eq rfl) (hb hby at_9) (fun _ _ => ⟨rfl, e0, (by decide : 0 + 0 ≤ _), (by decide : 0 + 0 ≤ _)⟩)
      dsimp only [Pt.U, Pt.locs, Pt.cells, Pt.slots] at X21 l21 y21 z21 st21 hQ21
      subst l21 y21 z21
      obtain ⟨rfl, N21q, e21⟩ := hQ21
      have N21 := Fr.app N0 N21q
      refine OGot.go st21 ?_
      show OGot p.tables e below (T21.setTop (mkF m 12 #[.val (.int p1), .val (.int p2), .val (.int (0 : Int32)), .val (.int (3 : Int32)), .unset, .unset, .unset, .unset] [(.ref w_TEXT)])) _
      refine OGot.go (fun t k => XS.astore X21.here hx rfl (hb hby at_12) rfl rfl (l' := #[.val (.int p1), .val (.int p2), .val (.int (0 : Int32)), .val (.int (3 : Int32)), .val (.ref w_TEXT), .unset, .unset, .unset]) rfl k) ?_
      show OGot p.tables e below (T21.setTop (mkF m 14 #[.val (.int p1), .val (.int p2), .val (.int (0 : Int32)), .val (.int (3 : Int32)), .val (.ref w_TEXT), .unset, .unset, .unset] [])) _
      refine OGot.go (fun t k => XS.iloadN X21.here hx rfl (hb hby at_14) rfl k) ?_
      show OGot p.tables e below (T21.setTop (mkF m 15 #[.val (.int p1), .val (.int p2), .val (.int (0 : Int32)), .val (.int (3 : Int32)), .val (.ref w_TEXT), .unset, .unset, .unset] [(.int (3 : Int32))])) _
      obtain ⟨_, _, ⟨T22, L22, k22, n22⟩, -, X22, ⟨Lc22, hQ22, l22, y22, z22⟩, st22⟩ := Jvm.LawKit.callS X21 hx (y := (⟨"com/example/archipel/archipel/model/DataTypeTakesPinLaw", "pick", "(I)Lcom/example/archipel/archipel/model/DataType;"⟩ : MethodName)) hown (mvT hZ (ow hw 0 rfl)) (mvT hZ (ow hw 1 rfl)) (mvT hZ (ow hw 2 rfl)) (mvT hZ (ow hw 3 rfl)) (by decide) (backOf (W := 0) (rm1_3 l Z a0 hw [] G  h0 n0 O0 ) hZ (ow hw 3 rfl) (ow hw 2 rfl) (by decide) (by decide)) (g := (mkF m 15 #[.val (.int p1), .val (.int p2), .val (.int (0 : Int32)), .val (.int (3 : Int32)), .val (.ref w_TEXT), .unset, .unset, .unset] [(.int (3 : Int32))])) rfl (by rw [hml]; rfl) (argsL := [(.int (3 : Int32))]) (rest := []) (lenOf pd_0 rfl) rfl (by show 2 * 0 + _ ≤ _; exact Nat.le_of_eq rfl) (hb hby at_15) (fun _ _ => ⟨rfl, e21, (by decide : 0 + 0 ≤ _), (by decide : 0 + 0 ≤ _)⟩)
      dsimp only [Pt.U, Pt.locs, Pt.cells, Pt.slots] at X22 l22 y22 z22 st22 hQ22
      subst l22 y22 z22
      obtain ⟨rfl, N22q, e22⟩ := hQ22
      have N22 := Fr.app N21 N22q
      refine OGot.go st22 ?_
      show OGot p.tables e below (T22.setTop (mkF m 18 #[.val (.int p1), .val (.int p2), .val (.int (0 : Int32)), .val (.int (3 : Int32)), .val (.ref w_TEXT), .unset, .unset, .unset] [(.ref w_DATE)])) _
      refine OGot.go (fun t k => XS.astore X22.here hx rfl (hb hby at_18) rfl rfl (l' := #[.val (.int p1), .val (.int p2), .val (.int (0 : Int32)), .val (.int (3 : Int32)), .val (.ref w_TEXT), .val (.ref w_DATE), .unset, .unset]) rfl k) ?_
      show OGot p.tables e below (T22.setTop (mkF m 20 #[.val (.int p1), .val (.int p2), .val (.int (0 : Int32)), .val (.int (3 : Int32)), .val (.ref w_TEXT), .val (.ref w_DATE), .unset, .unset] [])) _
      refine OGot.go (fun t k => XS.aload X22.here hx rfl (hb hby at_20) rfl rfl k) ?_
      show OGot p.tables e below (T22.setTop (mkF m 22 #[.val (.int p1), .val (.int p2), .val (.int (0 : Int32)), .val (.int (3 : Int32)), .val (.ref w_TEXT), .val (.ref w_DATE), .unset, .unset] [(.ref w_TEXT)])) _
      refine OGot.go (fun t k => XS.aload X22.here hx rfl (hb hby at_22) rfl rfl k) ?_
      show OGot p.tables e below (T22.setTop (mkF m 24 #[.val (.int p1), .val (.int p2), .val (.int (0 : Int32)), .val (.int (3 : Int32)), .val (.ref w_TEXT), .val (.ref w_DATE), .unset, .unset] [(.ref w_DATE), (.ref w_TEXT)])) _
      obtain ⟨cq23, kq23, q23a, q23b, q23c⟩ := isOf hZ e22 (G.2.1.ext O0.2)
      obtain ⟨_, _, ⟨T23, L23, k23, n23⟩, -, X23, ⟨Lc23, hQ23, l23, y23, z23⟩, st23⟩ := X22.virtualBack hx (y := (⟨"com/example/archipel/archipel/model/DataType", "takes", "(Lcom/example/archipel/archipel/model/DataType;)Z"⟩ : MethodName)) (z := (⟨"com/example/archipel/archipel/model/DataType", "takes", "(Lcom/example/archipel/archipel/model/DataType;)Z"⟩ : MethodName)) hown (mvT hZ (ow hw 9 rfl)) (mvT hZ (ow hw 10 rfl)) (notFace_of_selects (args := #[]) (mvT hZ (ow hw 12 rfl))) (mvT hZ (ow hw 12 rfl)) (mvT hZ (ow hw 11 rfl)) (by decide) (backOf (W := 0) (rm2_3 l Z a0 hw [] G  h0 n0 O0 ) hZ (ow hw 13 rfl) (ow hw 5 rfl) (by decide) (by decide)) q23a q23c (g := (mkF m 24 #[.val (.int p1), .val (.int p2), .val (.int (0 : Int32)), .val (.int (3 : Int32)), .val (.ref w_TEXT), .val (.ref w_DATE), .unset, .unset] [(.ref w_DATE), (.ref w_TEXT)])) rfl (by rw [hml]; rfl) (Steps.refl _) (argsL := [(.ref w_DATE)]) (rest := []) (lenOf pd_1 rfl) rfl (by show 2 * 0 + _ ≤ _; exact Nat.le_of_eq rfl) (hb hby at_24) (fun _ _ => ⟨rfl, e22, (by decide : 0 + 0 ≤ _), (by decide : 0 + 0 ≤ _)⟩)
      dsimp only [Pt.U, Pt.locs, Pt.cells, Pt.slots] at X23 l23 y23 z23 st23 hQ23
      subst l23 y23 z23
      obtain ⟨rfl, N23q, e23⟩ := hQ23
      have N23 := Fr.app N22 N23q
      refine OGot.on st23 ?_
      show OGot p.tables e below (T23.setTop (mkF m 27 #[.val (.int p1), .val (.int p2), .val (.int (0 : Int32)), .val (.int (3 : Int32)), .val (.ref w_TEXT), .val (.ref w_DATE), .unset, .unset] [(.int (0 : Int32))])) _
      refine OGot.go (fun t k => XS.istore X23.here hx rfl (hb hby at_27) rfl (l' := #[.val (.int p1), .val (.int p2), .val (.int (0 : Int32)), .val (.int (3 : Int32)), .val (.ref w_TEXT), .val (.ref w_DATE), .val (.int (0 : Int32)), .unset]) rfl k) ?_
      show OGot p.tables e below (T23.setTop (mkF m 29 #[.val (.int p1), .val (.int p2), .val (.int (0 : Int32)), .val (.int (3 : Int32)), .val (.ref w_TEXT), .val (.ref w_DATE), .val (.int (0 : Int32)), .unset] [])) _
      refine OGot.go (fun t k => X23.ldcInt hx hown (mvT hZ (ow hw 16 rfl)) (g := (mkF m 29 #[.val (.int p1), .val (.int p2), .val (.int (0 : Int32)), .val (.int (3 : Int32)), .val (.ref w_TEXT), .val (.ref w_DATE), .val (.int (0 : Int32)), .unset] [])) rfl (hb hby at_29) _ k) ?_
      show OGot p.tables e below (T23.setTop (mkF m 31 #[.val (.int p1), .val (.int p2), .val (.int (0 : Int32)), .val (.int (3 : Int32)), .val (.ref w_TEXT), .val (.ref w_DATE), .val (.int (0 : Int32)), .unset] [(.int (34337 : Int32))])) _
      refine OGot.go (fun t k => XS.iloadN X23.here hx rfl (hb hby at_31) rfl k) ?_
      show OGot p.tables e below (T23.setTop (mkF m 32 #[.val (.int p1), .val (.int p2), .val (.int (0 : Int32)), .val (.int (3 : Int32)), .val (.ref w_TEXT), .val (.ref w_DATE), .val (.int (0 : Int32)), .unset] [(.int (0 : Int32)), (.int (34337 : Int32))])) _
      refine OGot.go (fun t k => XS.iconst X23.here hx rfl (hb hby at_32) k) ?_
      show OGot p.tables e below (T23.setTop (mkF m 33 #[.val (.int p1), .val (.int p2), .val (.int (0 : Int32)), .val (.int (3 : Int32)), .val (.ref w_TEXT), .val (.ref w_DATE), .val (.int (0 : Int32)), .unset] [(.int (4 : Int32)), (.int (0 : Int32)), (.int (34337 : Int32))])) _
      refine OGot.go (fun t k => XS.imul X23.here hx rfl (hb hby at_33) rfl k) ?_
      show OGot p.tables e below (T23.setTop (mkF m 34 #[.val (.int p1), .val (.int p2), .val (.int (0 : Int32)), .val (.int (3 : Int32)), .val (.ref w_TEXT), .val (.ref w_DATE), .val (.int (0 : Int32)), .unset] [(.int ((0 : Int32) * (4 : Int32))), (.int (34337 : Int32))])) _
      rw [show ((0 : Int32) * (4 : Int32)) = (0 : Int32) from by decide]
      show OGot p.tables e below (T23.setTop (mkF m 34 #[.val (.int p1), .val (.int p2), .val (.int (0 : Int32)), .val (.int (3 : Int32)), .val (.ref w_TEXT), .val (.ref w_DATE), .val (.int (0 : Int32)), .unset] [(.int (0 : Int32)), (.int (34337 : Int32))])) _
      refine OGot.go (fun t k => XS.iloadN X23.here hx rfl (hb hby at_34) rfl k) ?_
      show OGot p.tables e below (T23.setTop (mkF m 35 #[.val (.int p1), .val (.int p2), .val (.int (0 : Int32)), .val (.int (3 : Int32)), .val (.ref w_TEXT), .val (.ref w_DATE), .val (.int (0 : Int32)), .unset] [(.int (3 : Int32)), (.int (0 : Int32)), (.int (34337 : Int32))])) _
      refine OGot.go (fun t k => XS.iadd X23.here hx rfl (hb hby at_35) rfl k) ?_
      show OGot p.tables e below (T23.setTop (mkF m 36 #[.val (.int p1), .val (.int p2), .val (.int (0 : Int32)), .val (.int (3 : Int32)), .val (.ref w_TEXT), .val (.ref w_DATE), .val (.int (0 : Int32)), .unset] [(.int ((0 : Int32) + (3 : Int32))), (.int (34337 : Int32))])) _
      rw [show ((0 : Int32) + (3 : Int32)) = (3 : Int32) from by decide]
      show OGot p.tables e below (T23.setTop (mkF m 36 #[.val (.int p1), .val (.int p2), .val (.int (0 : Int32)), .val (.int (3 : Int32)), .val (.ref w_TEXT), .val (.ref w_DATE), .val (.int (0 : Int32)), .unset] [(.int (3 : Int32)), (.int (34337 : Int32))])) _
      refine OGot.go (fun t k => XS.ishr X23.here hx rfl (hb hby at_36) rfl k) ?_
      show OGot p.tables e below (T23.setTop (mkF m 37 #[.val (.int p1), .val (.int p2), .val (.int (0 : Int32)), .val (.int (3 : Int32)), .val (.ref w_TEXT), .val (.ref w_DATE), .val (.int (0 : Int32)), .unset] [(.int ((34337 : Int32) >>> ((3 : Int32) &&& 31)))])) _
      rw [show ((34337 : Int32) >>> ((3 : Int32) &&& 31)) = (4292 : Int32) from by decide]
      show OGot p.tables e below (T23.setTop (mkF m 37 #[.val (.int p1), .val (.int p2), .val (.int (0 : Int32)), .val (.int (3 : Int32)), .val (.ref w_TEXT), .val (.ref w_DATE), .val (.int (0 : Int32)), .unset] [(.int (4292 : Int32))])) _
      refine OGot.go (fun t k => XS.iconst X23.here hx rfl (hb hby at_37) k) ?_
      show OGot p.tables e below (T23.setTop (mkF m 38 #[.val (.int p1), .val (.int p2), .val (.int (0 : Int32)), .val (.int (3 : Int32)), .val (.ref w_TEXT), .val (.ref w_DATE), .val (.int (0 : Int32)), .unset] [(.int (1 : Int32)), (.int (4292 : Int32))])) _
      refine OGot.go (fun t k => XS.iand X23.here hx rfl (hb hby at_38) rfl k) ?_
      show OGot p.tables e below (T23.setTop (mkF m 39 #[.val (.int p1), .val (.int p2), .val (.int (0 : Int32)), .val (.int (3 : Int32)), .val (.ref w_TEXT), .val (.ref w_DATE), .val (.int (0 : Int32)), .unset] [(.int ((4292 : Int32) &&& (1 : Int32)))])) _
      rw [show ((4292 : Int32) &&& (1 : Int32)) = (0 : Int32) from by decide]
      show OGot p.tables e below (T23.setTop (mkF m 39 #[.val (.int p1), .val (.int p2), .val (.int (0 : Int32)), .val (.int (3 : Int32)), .val (.ref w_TEXT), .val (.ref w_DATE), .val (.int (0 : Int32)), .unset] [(.int (0 : Int32))])) _
      refine OGot.go (fun t k => XS.ifYes X23.here hx rfl (pc0 := 39) (pc' := 46) rfl (hb hby at_39) rfl (by decide) (by decide) (by decide) k) ?_
      show OGot p.tables e below (T23.setTop (mkF m 46 #[.val (.int p1), .val (.int p2), .val (.int (0 : Int32)), .val (.int (3 : Int32)), .val (.ref w_TEXT), .val (.ref w_DATE), .val (.int (0 : Int32)), .unset] [])) _
      refine OGot.go (fun t k => XS.iconst X23.here hx rfl (hb hby at_46) k) ?_
      show OGot p.tables e below (T23.setTop (mkF m 47 #[.val (.int p1), .val (.int p2), .val (.int (0 : Int32)), .val (.int (3 : Int32)), .val (.ref w_TEXT), .val (.ref w_DATE), .val (.int (0 : Int32)), .unset] [(.int (0 : Int32))])) _
      refine OGot.go (fun t k => XS.istore X23.here hx rfl (hb hby at_47) rfl (l' := #[.val (.int p1), .val (.int p2), .val (.int (0 : Int32)), .val (.int (3 : Int32)), .val (.ref w_TEXT), .val (.ref w_DATE), .val (.int (0 : Int32)), .val (.int (0 : Int32))]) rfl k) ?_
      show OGot p.tables e below (T23.setTop (mkF m 49 #[.val (.int p1), .val (.int p2), .val (.int (0 : Int32)), .val (.int (3 : Int32)), .val (.ref w_TEXT), .val (.ref w_DATE), .val (.int (0 : Int32)), .val (.int (0 : Int32))] [])) _
      refine OGot.go (fun t k => XS.iload X23.here hx rfl (hb hby at_49) rfl k) ?_
      show OGot p.tables e below (T23.setTop (mkF m 51 #[.val (.int p1), .val (.int p2), .val (.int (0 : Int32)), .val (.int (3 : Int32)), .val (.ref w_TEXT), .val (.ref w_DATE), .val (.int (0 : Int32)), .val (.int (0 : Int32))] [(.int (0 : Int32))])) _
      refine OGot.go (fun t k => XS.iload X23.here hx rfl (hb hby at_51) rfl k) ?_
      show OGot p.tables e below (T23.setTop (mkF m 53 #[.val (.int p1), .val (.int p2), .val (.int (0 : Int32)), .val (.int (3 : Int32)), .val (.ref w_TEXT), .val (.ref w_DATE), .val (.int (0 : Int32)), .val (.int (0 : Int32))] [(.int (0 : Int32)), (.int (0 : Int32))])) _
      refine OGot.go (fun t k => XS.icmpNo X23.here hx rfl (hb hby at_53) rfl (by decide) k) ?_
      show OGot p.tables e below (T23.setTop (mkF m 56 #[.val (.int p1), .val (.int p2), .val (.int (0 : Int32)), .val (.int (3 : Int32)), .val (.ref w_TEXT), .val (.ref w_DATE), .val (.int (0 : Int32)), .val (.int (0 : Int32))] [])) _
      refine OGot.go (fun t k => XS.iload X23.here hx rfl (hb hby at_56) rfl k) ?_
      show OGot p.tables e below (T23.setTop (mkF m 58 #[.val (.int p1), .val (.int p2), .val (.int (0 : Int32)), .val (.int (3 : Int32)), .val (.ref w_TEXT), .val (.ref w_DATE), .val (.int (0 : Int32)), .val (.int (0 : Int32))] [(.int (0 : Int32))])) _
      refine OGot.go (fun t k => XS.ifYes X23.here hx rfl (pc0 := 58) (pc' := 71) rfl (hb hby at_58) rfl (by decide) (by decide) (by decide) k) ?_
      show OGot p.tables e below (T23.setTop (mkF m 71 #[.val (.int p1), .val (.int p2), .val (.int (0 : Int32)), .val (.int (3 : Int32)), .val (.ref w_TEXT), .val (.ref w_DATE), .val (.int (0 : Int32)), .val (.int (0 : Int32))] [])) _
      refine OGot.go (fun t k => XS.iconst X23.here hx rfl (hb hby at_71) k) ?_
      show OGot p.tables e below (T23.setTop (mkF m 72 #[.val (.int p1), .val (.int p2), .val (.int (0 : Int32)), .val (.int (3 : Int32)), .val (.ref w_TEXT), .val (.ref w_DATE), .val (.int (0 : Int32)), .val (.int (0 : Int32))] [(.int (1 : Int32))])) _
      refine OGot.go (fun t k => XS.goto X23.here hx rfl (pc0 := 72) (pc' := 76) rfl (hb hby at_72) (by decide) (by decide) k) ?_
      show OGot p.tables e below (T23.setTop (mkF m 76 #[.val (.int p1), .val (.int p2), .val (.int (0 : Int32)), .val (.int (3 : Int32)), .val (.ref w_TEXT), .val (.ref w_DATE), .val (.int (0 : Int32)), .val (.int (0 : Int32))] [(.int (1 : Int32))])) _
      obtain ⟨fs, hr, hrun, hended, hW, hsame⟩ := X23.leave (v := some (.int (1 : Int32))) (fun h => by rw [Bd.returns] at h; cases h)
      refine ⟨_, _, retN X23 hx (t := .boolean) Bd.returns (by simp) (hb hby at_76) hr, hrun, hended, _, _, rfl, ?_, ⟨_, rfl⟩, hW, hsame.mono (by decide) (by decide)⟩
      exact (⟨rfl, N23⟩ : Q0 Z w_TEXT w_DATE w_DECIMAL w_INTEGER p1 p2 h0 n0 _ T23.heap _)
  · rw [hk4]
    show OGot p.tables e below (s₁.setTop (mkF m 3 #[.val (.int p1), .val (.int p2), .unset, .unset, .unset, .unset, .unset, .unset] [(.int (1 : Int32))])) _
    refine OGot.go (fun t k => XS.istoreN X0.here hx rfl (hb hby at_3) rfl (l' := #[.val (.int p1), .val (.int p2), .val (.int (1 : Int32)), .unset, .unset, .unset, .unset, .unset]) rfl k) ?_
    show OGot p.tables e below (s₁.setTop (mkF m 4 #[.val (.int p1), .val (.int p2), .val (.int (1 : Int32)), .unset, .unset, .unset, .unset, .unset] [])) _
    refine OGot.go (fun t k => XS.iloadN X0.here hx rfl (hb hby at_4) rfl k) ?_
    show OGot p.tables e below (s₁.setTop (mkF m 5 #[.val (.int p1), .val (.int p2), .val (.int (1 : Int32)), .unset, .unset, .unset, .unset, .unset] [(.int p2)])) _
    refine OGot.go (fun t k => XS.iconst X0.here hx rfl (hb hby at_5) k) ?_
    show OGot p.tables e below (s₁.setTop (mkF m 6 #[.val (.int p1), .val (.int p2), .val (.int (1 : Int32)), .unset, .unset, .unset, .unset, .unset] [(.int (3 : Int32)), (.int p2)])) _
    refine OGot.go (fun t k => XS.iand X0.here hx rfl (hb hby at_6) rfl k) ?_
    show OGot p.tables e below (s₁.setTop (mkF m 7 #[.val (.int p1), .val (.int p2), .val (.int (1 : Int32)), .unset, .unset, .unset, .unset, .unset] [(.int (p2 &&& (3 : Int32)))])) _
    rcases own_and3 p2 with hk24 | hk25 | hk26 | hk27
    · rw [hk24]
      show OGot p.tables e below (s₁.setTop (mkF m 7 #[.val (.int p1), .val (.int p2), .val (.int (1 : Int32)), .unset, .unset, .unset, .unset, .unset] [(.int (0 : Int32))])) _
      refine OGot.go (fun t k => XS.istoreN X0.here hx rfl (hb hby at_7) rfl (l' := #[.val (.int p1), .val (.int p2), .val (.int (1 : Int32)), .val (.int (0 : Int32)), .unset, .unset, .unset, .unset]) rfl k) ?_
      show OGot p.tables e below (s₁.setTop (mkF m 8 #[.val (.int p1), .val (.int p2), .val (.int (1 : Int32)), .val (.int (0 : Int32)), .unset, .unset, .unset, .unset] [])) _
      refine OGot.go (fun t k => XS.iloadN X0.here hx rfl (hb hby at_8) rfl k) ?_
      show OGot p.tables e below (s₁.setTop (mkF m 9 #[.val (.int p1), .val (.int p2), .val (.int (1 : Int32)), .val (.int (0 : Int32)), .unset, .unset, .unset, .unset] [(.int (1 : Int32))])) _
      obtain ⟨_, _, ⟨T28, L28, k28, n28⟩, -, X28, ⟨Lc28, hQ28, l28, y28, z28⟩, st28⟩ := Jvm.LawKit.callS X0 hx (y := (⟨"com/example/archipel/archipel/model/DataTypeTakesPinLaw", "pick", "(I)Lcom/example/archipel/archipel/model/DataType;"⟩ : MethodName)) hown (mvT hZ (ow hw 0 rfl)) (mvT hZ (ow hw 1 rfl)) (mvT hZ (ow hw 2 rfl)) (mvT hZ (ow hw 3 rfl)) (by decide) (backOf (W := 0) (rm1_1 l Z a0 hw [] G  h0 n0 O0 ) hZ (ow hw 3 rfl) (ow hw 2 rfl) (by decide) (by decide)) (g := (mkF m 9 #[.val (.int p1), .val (.int p2), .val (.int (1 : Int32)), .val (.int (0 : Int32)), .unset, .unset, .unset, .unset] [(.int (1 : Int32))])) rfl (by rw [hml]; rfl) (argsL := [(.int (1 : Int32))]) (rest := []) (lenOf pd_0 rfl) rfl (by show 2 * 0 + _ ≤ _; exact Nat.le_of_eq rfl) (hb hby at_9) (fun _ _ => ⟨rfl, e0, (by decide : 0 + 0 ≤ _), (by decide : 0 + 0 ≤ _)⟩)
      dsimp only [Pt.U, Pt.locs, Pt.cells, Pt.slots] at X28 l28 y28 z28 st28 hQ28
      subst l28 y28 z28
      obtain ⟨rfl, N28q, e28⟩ := hQ28
      have N28 := Fr.app N0 N28q
      refine OGot.go st28 ?_
      show OGot p.tables e below (T28.setTop (mkF m 12 #[.val (.int p1), .val (.int p2), .val (.int (1 : Int32)), .val (.int (0 : Int32)), .unset, .unset, .unset, .unset] [(.ref w_INTEGER)])) _
      refine OGot.go (fun t k => XS.astore X28.here hx rfl (hb hby at_12) rfl rfl (l' := #[.val (.int p1), .val (.int p2), .val (.int (1 : Int32)), .val (.int (0 : Int32)), .val (.ref w_INTEGER), .unset, .unset, .unset]) rfl k) ?_
      show OGot p.tables e below (T28.setTop (mkF m 14 #[.val (.int p1), .val (.int p2), .val (.int (1 : Int32)), .val (.int (0 : Int32)), .val (.ref w_INTEGER), .unset, .unset, .unset] [])) _
      refine OGot.go (fun t k => XS.iloadN X28.here hx rfl (hb hby at_14) rfl k) ?_
      show OGot p.tables e below (T28.setTop (mkF m 15 #[.val (.int p1), .val (.int p2), .val (.int (1 : Int32)), .val (.int (0 : Int32)), .val (.ref w_INTEGER), .unset, .unset, .unset] [(.int (0 : Int32))])) _
      obtain ⟨_, _, ⟨T29, L29, k29, n29⟩, -, X29, ⟨Lc29, hQ29, l29, y29, z29⟩, st29⟩ := Jvm.LawKit.callS X28 hx (y := (⟨"com/example/archipel/archipel/model/DataTypeTakesPinLaw", "pick", "(I)Lcom/example/archipel/archipel/model/DataType;"⟩ : MethodName)) hown (mvT hZ (ow hw 0 rfl)) (mvT hZ (ow hw 1 rfl)) (mvT hZ (ow hw 2 rfl)) (mvT hZ (ow hw 3 rfl)) (by decide) (backOf (W := 0) (rm1 l Z a0 hw [] G  h0 n0 O0 ) hZ (ow hw 3 rfl) (ow hw 2 rfl) (by decide) (by decide)) (g := (mkF m 15 #[.val (.int p1), .val (.int p2), .val (.int (1 : Int32)), .val (.int (0 : Int32)), .val (.ref w_INTEGER), .unset, .unset, .unset] [(.int (0 : Int32))])) rfl (by rw [hml]; rfl) (argsL := [(.int (0 : Int32))]) (rest := []) (lenOf pd_0 rfl) rfl (by show 2 * 0 + _ ≤ _; exact Nat.le_of_eq rfl) (hb hby at_15) (fun _ _ => ⟨rfl, e28, (by decide : 0 + 0 ≤ _), (by decide : 0 + 0 ≤ _)⟩)
      dsimp only [Pt.U, Pt.locs, Pt.cells, Pt.slots] at X29 l29 y29 z29 st29 hQ29
      subst l29 y29 z29
      obtain ⟨rfl, N29q, e29⟩ := hQ29
      have N29 := Fr.app N28 N29q
      refine OGot.go st29 ?_
      show OGot p.tables e below (T29.setTop (mkF m 18 #[.val (.int p1), .val (.int p2), .val (.int (1 : Int32)), .val (.int (0 : Int32)), .val (.ref w_INTEGER), .unset, .unset, .unset] [(.ref w_TEXT)])) _
      refine OGot.go (fun t k => XS.astore X29.here hx rfl (hb hby at_18) rfl rfl (l' := #[.val (.int p1), .val (.int p2), .val (.int (1 : Int32)), .val (.int (0 : Int32)), .val (.ref w_INTEGER), .val (.ref w_TEXT), .unset, .unset]) rfl k) ?_
      show OGot p.tables e below (T29.setTop (mkF m 20 #[.val (.int p1), .val (.int p2), .val (.int (1 : Int32)), .val (.int (0 : Int32)), .val (.ref w_INTEGER), .val (.ref w_TEXT), .unset, .unset] [])) _
      refine OGot.go (fun t k => XS.aload X29.here hx rfl (hb hby at_20) rfl rfl k) ?_
      show OGot p.tables e below (T29.setTop (mkF m 22 #[.val (.int p1), .val (.int p2), .val (.int (1 : Int32)), .val (.int (0 : Int32)), .val (.ref w_INTEGER), .val (.ref w_TEXT), .unset, .unset] [(.ref w_INTEGER)])) _
      refine OGot.go (fun t k => XS.aload X29.here hx rfl (hb hby at_22) rfl rfl k) ?_
      show OGot p.tables e below (T29.setTop (mkF m 24 #[.val (.int p1), .val (.int p2), .val (.int (1 : Int32)), .val (.int (0 : Int32)), .val (.ref w_INTEGER), .val (.ref w_TEXT), .unset, .unset] [(.ref w_TEXT), (.ref w_INTEGER)])) _
      obtain ⟨cq30, kq30, q30a, q30b, q30c⟩ := isOf hZ e29 (G.2.2.2.2.2.2.2.1.ext O0.2)
      obtain ⟨_, _, ⟨T30, L30, k30, n30⟩, -, X30, ⟨Lc30, hQ30, l30, y30, z30⟩, st30⟩ := X29.virtualBack hx (y := (⟨"com/example/archipel/archipel/model/DataType", "takes", "(Lcom/example/archipel/archipel/model/DataType;)Z"⟩ : MethodName)) (z := (⟨"com/example/archipel/archipel/model/DataType", "takes", "(Lcom/example/archipel/archipel/model/DataType;)Z"⟩ : MethodName)) hown (mvT hZ (ow hw 9 rfl)) (mvT hZ (ow hw 10 rfl)) (notFace_of_selects (args := #[]) (mvT hZ (ow hw 12 rfl))) (mvT hZ (ow hw 12 rfl)) (mvT hZ (ow hw 11 rfl)) (by decide) (backOf (W := 0) (rm2_4 l Z a0 hw [] G  h0 n0 O0 ) hZ (ow hw 13 rfl) (ow hw 5 rfl) (by decide) (by decide)) q30a q30c (g := (mkF m 24 #[.val (.int p1), .val (.int p2), .val (.int (1 : Int32)), .val (.int (0 : Int32)), .val (.ref w_INTEGER), .val (.ref w_TEXT), .unset, .unset] [(.ref w_TEXT), (.ref w_INTEGER)])) rfl (by rw [hml]; rfl) (Steps.refl _) (argsL := [(.ref w_TEXT)]) (rest := []) (lenOf pd_1 rfl) rfl (by show 2 * 0 + _ ≤ _; exact Nat.le_of_eq rfl) (hb hby at_24) (fun _ _ => ⟨rfl, e29, (by decide : 0 + 0 ≤ _), (by decide : 0 + 0 ≤ _)⟩)
      dsimp only [Pt.U, Pt.locs, Pt.cells, Pt.slots] at X30 l30 y30 z30 st30 hQ30
      subst l30 y30 z30
      obtain ⟨rfl, N30q, e30⟩ := hQ30
      have N30 := Fr.app N29 N30q
      refine OGot.on st30 ?_
      show OGot p.tables e below (T30.setTop (mkF m 27 #[.val (.int p1), .val (.int p2), .val (.int (1 : Int32)), .val (.int (0 : Int32)), .val (.ref w_INTEGER), .val (.ref w_TEXT), .unset, .unset] [(.int (0 : Int32))])) _
      refine OGot.go (fun t k => XS.istore X30.here hx rfl (hb hby at_27) rfl (l' := #[.val (.int p1), .val (.int p2), .val (.int (1 : Int32)), .val (.int (0 : Int32)), .val (.ref w_INTEGER), .val (.ref w_TEXT), .val (.int (0 : Int32)), .unset]) rfl k) ?_
      show OGot p.tables e below (T30.setTop (mkF m 29 #[.val (.int p1), .val (.int p2), .val (.int (1 : Int32)), .val (.int (0 : Int32)), .val (.ref w_INTEGER), .val (.ref w_TEXT), .val (.int (0 : Int32)), .unset] [])) _
      refine OGot.go (fun t k => X30.ldcInt hx hown (mvT hZ (ow hw 16 rfl)) (g := (mkF m 29 #[.val (.int p1), .val (.int p2), .val (.int (1 : Int32)), .val (.int (0 : Int32)), .val (.ref w_INTEGER), .val (.ref w_TEXT), .val (.int (0 : Int32)), .unset] [])) rfl (hb hby at_29) _ k) ?_
      show OGot p.tables e below (T30.setTop (mkF m 31 #[.val (.int p1), .val (.int p2), .val (.int (1 : Int32)), .val (.int (0 : Int32)), .val (.ref w_INTEGER), .val (.ref w_TEXT), .val (.int (0 : Int32)), .unset] [(.int (34337 : Int32))])) _
      refine OGot.go (fun t k => XS.iloadN X30.here hx rfl (hb hby at_31) rfl k) ?_
      show OGot p.tables e below (T30.setTop (mkF m 32 #[.val (.int p1), .val (.int p2), .val (.int (1 : Int32)), .val (.int (0 : Int32)), .val (.ref w_INTEGER), .val (.ref w_TEXT), .val (.int (0 : Int32)), .unset] [(.int (1 : Int32)), (.int (34337 : Int32))])) _
      refine OGot.go (fun t k => XS.iconst X30.here hx rfl (hb hby at_32) k) ?_
      show OGot p.tables e below (T30.setTop (mkF m 33 #[.val (.int p1), .val (.int p2), .val (.int (1 : Int32)), .val (.int (0 : Int32)), .val (.ref w_INTEGER), .val (.ref w_TEXT), .val (.int (0 : Int32)), .unset] [(.int (4 : Int32)), (.int (1 : Int32)), (.int (34337 : Int32))])) _
      refine OGot.go (fun t k => XS.imul X30.here hx rfl (hb hby at_33) rfl k) ?_
      show OGot p.tables e below (T30.setTop (mkF m 34 #[.val (.int p1), .val (.int p2), .val (.int (1 : Int32)), .val (.int (0 : Int32)), .val (.ref w_INTEGER), .val (.ref w_TEXT), .val (.int (0 : Int32)), .unset] [(.int ((1 : Int32) * (4 : Int32))), (.int (34337 : Int32))])) _
      rw [show ((1 : Int32) * (4 : Int32)) = (4 : Int32) from by decide]
      show OGot p.tables e below (T30.setTop (mkF m 34 #[.val (.int p1), .val (.int p2), .val (.int (1 : Int32)), .val (.int (0 : Int32)), .val (.ref w_INTEGER), .val (.ref w_TEXT), .val (.int (0 : Int32)), .unset] [(.int (4 : Int32)), (.int (34337 : Int32))])) _
      refine OGot.go (fun t k => XS.iloadN X30.here hx rfl (hb hby at_34) rfl k) ?_
      show OGot p.tables e below (T30.setTop (mkF m 35 #[.val (.int p1), .val (.int p2), .val (.int (1 : Int32)), .val (.int (0 : Int32)), .val (.ref w_INTEGER), .val (.ref w_TEXT), .val (.int (0 : Int32)), .unset] [(.int (0 : Int32)), (.int (4 : Int32)), (.int (34337 : Int32))])) _
      refine OGot.go (fun t k => XS.iadd X30.here hx rfl (hb hby at_35) rfl k) ?_
      show OGot p.tables e below (T30.setTop (mkF m 36 #[.val (.int p1), .val (.int p2), .val (.int (1 : Int32)), .val (.int (0 : Int32)), .val (.ref w_INTEGER), .val (.ref w_TEXT), .val (.int (0 : Int32)), .unset] [(.int ((4 : Int32) + (0 : Int32))), (.int (34337 : Int32))])) _
      rw [show ((4 : Int32) + (0 : Int32)) = (4 : Int32) from by decide]
      show OGot p.tables e below (T30.setTop (mkF m 36 #[.val (.int p1), .val (.int p2), .val (.int (1 : Int32)), .val (.int (0 : Int32)), .val (.ref w_INTEGER), .val (.ref w_TEXT), .val (.int (0 : Int32)), .unset] [(.int (4 : Int32)), (.int (34337 : Int32))])) _
      refine OGot.go (fun t k => XS.ishr X30.here hx rfl (hb hby at_36) rfl k) ?_
      show OGot p.tables e below (T30.setTop (mkF m 37 #[.val (.int p1), .val (.int p2), .val (.int (1 : Int32)), .val (.int (0 : Int32)), .val (.ref w_INTEGER), .val (.ref w_TEXT), .val (.int (0 : Int32)), .unset] [(.int ((34337 : Int32) >>> ((4 : Int32) &&& 31)))])) _
      rw [show ((34337 : Int32) >>> ((4 : Int32) &&& 31)) = (2146 : Int32) from by decide]
      show OGot p.tables e below (T30.setTop (mkF m 37 #[.val (.int p1), .val (.int p2), .val (.int (1 : Int32)), .val (.int (0 : Int32)), .val (.ref w_INTEGER), .val (.ref w_TEXT), .val (.int (0 : Int32)), .unset] [(.int (2146 : Int32))])) _
      refine OGot.go (fun t k => XS.iconst X30.here hx rfl (hb hby at_37) k) ?_
      show OGot p.tables e below (T30.setTop (mkF m 38 #[.val (.int p1), .val (.int p2), .val (.int (1 : Int32)), .val (.int (0 : Int32)), .val (.ref w_INTEGER), .val (.ref w_TEXT), .val (.int (0 : Int32)), .unset] [(.int (1 : Int32)), (.int (2146 : Int32))])) _
      refine OGot.go (fun t k => XS.iand X30.here hx rfl (hb hby at_38) rfl k) ?_
      show OGot p.tables e below (T30.setTop (mkF m 39 #[.val (.int p1), .val (.int p2), .val (.int (1 : Int32)), .val (.int (0 : Int32)), .val (.ref w_INTEGER), .val (.ref w_TEXT), .val (.int (0 : Int32)), .unset] [(.int ((2146 : Int32) &&& (1 : Int32)))])) _
      rw [show ((2146 : Int32) &&& (1 : Int32)) = (0 : Int32) from by decide]
      show OGot p.tables e below (T30.setTop (mkF m 39 #[.val (.int p1), .val (.int p2), .val (.int (1 : Int32)), .val (.int (0 : Int32)), .val (.ref w_INTEGER), .val (.ref w_TEXT), .val (.int (0 : Int32)), .unset] [(.int (0 : Int32))])) _
      refine OGot.go (fun t k => XS.ifYes X30.here hx rfl (pc0 := 39) (pc' := 46) rfl (hb hby at_39) rfl (by decide) (by decide) (by decide) k) ?_
      show OGot p.tables e below (T30.setTop (mkF m 46 #[.val (.int p1), .val (.int p2), .val (.int (1 : Int32)), .val (.int (0 : Int32)), .val (.ref w_INTEGER), .val (.ref w_TEXT), .val (.int (0 : Int32)), .unset] [])) _
      refine OGot.go (fun t k => XS.iconst X30.here hx rfl (hb hby at_46) k) ?_
      show OGot p.tables e below (T30.setTop (mkF m 47 #[.val (.int p1), .val (.int p2), .val (.int (1 : Int32)), .val (.int (0 : Int32)), .val (.ref w_INTEGER), .val (.ref w_TEXT), .val (.int (0 : Int32)), .unset] [(.int (0 : Int32))])) _
      refine OGot.go (fun t k => XS.istore X30.here hx rfl (hb hby at_47) rfl (l' := #[.val (.int p1), .val (.int p2), .val (.int (1 : Int32)), .val (.int (0 : Int32)), .val (.ref w_INTEGER), .val (.ref w_TEXT), .val (.int (0 : Int32)), .val (.int (0 : Int32))]) rfl k) ?_
      show OGot p.tables e below (T30.setTop (mkF m 49 #[.val (.int p1), .val (.int p2), .val (.int (1 : Int32)), .val (.int (0 : Int32)), .val (.ref w_INTEGER), .val (.ref w_TEXT), .val (.int (0 : Int32)), .val (.int (0 : Int32))] [])) _
      refine OGot.go (fun t k => XS.iload X30.here hx rfl (hb hby at_49) rfl k) ?_
      show OGot p.tables e below (T30.setTop (mkF m 51 #[.val (.int p1), .val (.int p2), .val (.int (1 : Int32)), .val (.int (0 : Int32)), .val (.ref w_INTEGER), .val (.ref w_TEXT), .val (.int (0 : Int32)), .val (.int (0 : Int32))] [(.int (0 : Int32))])) _
      refine OGot.go (fun t k => XS.iload X30.here hx rfl (hb hby at_51) rfl k) ?_
      show OGot p.tables e below (T30.setTop (mkF m 53 #[.val (.int p1), .val (.int p2), .val (.int (1 : Int32)), .val (.int (0 : Int32)), .val (.ref w_INTEGER), .val (.ref w_TEXT), .val (.int (0 : Int32)), .val (.int (0 : Int32))] [(.int (0 : Int32)), (.int (0 : Int32))])) _
      refine OGot.go (fun t k => XS.icmpNo X30.here hx rfl (hb hby at_53) rfl (by decide) k) ?_
      show OGot p.tables e below (T30.setTop (mkF m 56 #[.val (.int p1), .val (.int p2), .val (.int (1 : Int32)), .val (.int (0 : Int32)), .val (.ref w_INTEGER), .val (.ref w_TEXT), .val (.int (0 : Int32)), .val (.int (0 : Int32))] [])) _
      refine OGot.go (fun t k => XS.iload X30.here hx rfl (hb hby at_56) rfl k) ?_
      show OGot p.tables e below (T30.setTop (mkF m 58 #[.val (.int p1), .val (.int p2), .val (.int (1 : Int32)), .val (.int (0 : Int32)), .val (.ref w_INTEGER), .val (.ref w_TEXT), .val (.int (0 : Int32)), .val (.int (0 : Int32))] [(.int (0 : Int32))])) _
      refine OGot.go (fun t k => XS.ifYes X30.here hx rfl (pc0 := 58) (pc' := 71) rfl (hb hby at_58) rfl (by decide) (by decide) (by decide) k) ?_
      show OGot p.tables e below (T30.setTop (mkF m 71 #[.val (.int p1), .val (.int p2), .val (.int (1 : Int32)), .val (.int (0 : Int32)), .val (.ref w_INTEGER), .val (.ref w_TEXT), .val (.int (0 : Int32)), .val (.int (0 : Int32))] [])) _
      refine OGot.go (fun t k => XS.iconst X30.here hx rfl (hb hby at_71) k) ?_
      show OGot p.tables e below (T30.setTop (mkF m 72 #[.val (.int p1), .val (.int p2), .val (.int (1 : Int32)), .val (.int (0 : Int32)), .val (.ref w_INTEGER), .val (.ref w_TEXT), .val (.int (0 : Int32)), .val (.int (0 : Int32))] [(.int (1 : Int32))])) _
      refine OGot.go (fun t k => XS.goto X30.here hx rfl (pc0 := 72) (pc' := 76) rfl (hb hby at_72) (by decide) (by decide) k) ?_
      show OGot p.tables e below (T30.setTop (mkF m 76 #[.val (.int p1), .val (.int p2), .val (.int (1 : Int32)), .val (.int (0 : Int32)), .val (.ref w_INTEGER), .val (.ref w_TEXT), .val (.int (0 : Int32)), .val (.int (0 : Int32))] [(.int (1 : Int32))])) _
      obtain ⟨fs, hr, hrun, hended, hW, hsame⟩ := X30.leave (v := some (.int (1 : Int32))) (fun h => by rw [Bd.returns] at h; cases h)
      refine ⟨_, _, retN X30 hx (t := .boolean) Bd.returns (by simp) (hb hby at_76) hr, hrun, hended, _, _, rfl, ?_, ⟨_, rfl⟩, hW, hsame.mono (by decide) (by decide)⟩
      exact (⟨rfl, N30⟩ : Q0 Z w_TEXT w_DATE w_DECIMAL w_INTEGER p1 p2 h0 n0 _ T30.heap _)
    · rw [hk25]
      show OGot p.tables e below (s₁.setTop (mkF m 7 #[.val (.int p1), .val (.int p2), .val (.int (1 : Int32)), .unset, .unset, .unset, .unset, .unset] [(.int (1 : Int32))])) _
      refine OGot.go (fun t k => XS.istoreN X0.here hx rfl (hb hby at_7) rfl (l' := #[.val (.int p1), .val (.int p2), .val (.int (1 : Int32)), .val (.int (1 : Int32)), .unset, .unset, .unset, .unset]) rfl k) ?_
      show OGot p.tables e below (s₁.setTop (mkF m 8 #[.val (.int p1), .val (.int p2), .val (.int (1 : Int32)), .val (.int (1 : Int32)), .unset, .unset, .unset, .unset] [])) _
      refine OGot.go (fun t k => XS.iloadN X0.here hx rfl (hb hby at_8) rfl k) ?_
      show OGot p.tables e below (s₁.setTop (mkF m 9 #[.val (.int p1), .val (.int p2), .val (.int (1 : Int32)), .val (.int (1 : Int32)), .unset, .unset, .unset, .unset] [(.int (1 : Int32))])) _
      obtain ⟨_, _, ⟨T31, L31, k31, n31⟩, -, X31, ⟨Lc31, hQ31, l31, y31, z31⟩, st31⟩ := Jvm.LawKit.callS X0 hx (y := (⟨"com/example/archipel/archipel/model/DataTypeTakesPinLaw", "pick", "(I)Lcom/example/archipel/archipel/model/DataType;"⟩ : MethodName)) hown (mvT hZ (ow hw 0 rfl)) (mvT hZ (ow hw 1 rfl)) (mvT hZ (ow hw 2 rfl)) (mvT hZ (ow hw 3 rfl)) (by decide) (backOf (W := 0) (rm1_1 l Z a0 hw [] G  h0 n0 O0 ) hZ (ow hw 3 rfl) (ow hw 2 rfl) (by decide) (by decide)) (g := (mkF m 9 #[.val (.int p1), .val (.int p2), .val (.int (1 : Int32)), .val (.int (1 : Int32)), .unset, .unset, .unset, .unset] [(.int (1 : Int32))])) rfl (by rw [hml]; rfl) (argsL := [(.int (1 : Int32))]) (rest := []) (lenOf pd_0 rfl) rfl (by show 2 * 0 + _ ≤ _; exact Nat.le_of_eq rfl) (hb hby at_9) (fun _ _ => ⟨rfl, e0, (by decide : 0 + 0 ≤ _), (by decide : 0 + 0 ≤ _)⟩)
      dsimp only [Pt.U, Pt.locs, Pt.cells, Pt.slots] at X31 l31 y31 z31 st31 hQ31
      subst l31 y31 z31
      obtain ⟨rfl, N31q, e31⟩ := hQ31
      have N31 := Fr.app N0 N31q
      refine OGot.go st31 ?_
      show OGot p.tables e below (T31.setTop (mkF m 12 #[.val (.int p1), .val (.int p2), .val (.int (1 : Int32)), .val (.int (1 : Int32)), .unset, .unset, .unset, .unset] [(.ref w_INTEGER)])) _
      refine OGot.go (fun t k => XS.astore X31.here hx rfl (hb hby at_12) rfl rfl (l' := #[.val (.int p1), .val (.int p2), .val (.int (1 : Int32)), .val (.int (1 : Int32)), .val (.ref w_INTEGER), .unset, .unset, .unset]) rfl k) ?_
      show OGot p.tables e below (T31.setTop (mkF m 14 #[.val (.int p1), .val (.int p2), .val (.int (1 : Int32)), .val (.int (1 : Int32)), .val (.ref w_INTEGER), .unset, .unset, .unset] [])) _
      refine OGot.go (fun t k => XS.iloadN X31.here hx rfl (hb hby at_14) rfl k) ?_
      show OGot p.tables e below (T31.setTop (mkF m 15 #[.val (.int p1), .val (.int p2), .val (.int (1 : Int32)), .val (.int (1 : Int32)), .val (.ref w_INTEGER), .unset, .unset, .unset] [(.int (1 : Int32))])) _
      obtain ⟨_, _, ⟨T32, L32, k32, n32⟩, -, X32, ⟨Lc32, hQ32, l32, y32, z32⟩, st32⟩ := Jvm.LawKit.callS X31 hx (y := (⟨"com/example/archipel/archipel/model/DataTypeTakesPinLaw", "pick", "(I)Lcom/example/archipel/archipel/model/DataType;"⟩ : MethodName)) hown (mvT hZ (ow hw 0 rfl)) (mvT hZ (ow hw 1 rfl)) (mvT hZ (ow hw 2 rfl)) (mvT hZ (ow hw 3 rfl)) (by decide) (backOf (W := 0) (rm1_1 l Z a0 hw [] G  h0 n0 O0 ) hZ (ow hw 3 rfl) (ow hw 2 rfl) (by decide) (by decide)) (g := (mkF m 15 #[.val (.int p1), .val (.int p2), .val (.int (1 : Int32)), .val (.int (1 : Int32)), .val (.ref w_INTEGER), .unset, .unset, .unset] [(.int (1 : Int32))])) rfl (by rw [hml]; rfl) (argsL := [(.int (1 : Int32))]) (rest := []) (lenOf pd_0 rfl) rfl (by show 2 * 0 + _ ≤ _; exact Nat.le_of_eq rfl) (hb hby at_15) (fun _ _ => ⟨rfl, e31, (by decide : 0 + 0 ≤ _), (by decide : 0 + 0 ≤ _)⟩)
      dsimp only [Pt.U, Pt.locs, Pt.cells, Pt.slots] at X32 l32 y32 z32 st32 hQ32
      subst l32 y32 z32
      obtain ⟨rfl, N32q, e32⟩ := hQ32
      have N32 := Fr.app N31 N32q
      refine OGot.go st32 ?_
      show OGot p.tables e below (T32.setTop (mkF m 18 #[.val (.int p1), .val (.int p2), .val (.int (1 : Int32)), .val (.int (1 : Int32)), .val (.ref w_INTEGER), .unset, .unset, .unset] [(.ref w_INTEGER)])) _
      refine OGot.go (fun t k => XS.astore X32.here hx rfl (hb hby at_18) rfl rfl (l' := #[.val (.int p1), .val (.int p2), .val (.int (1 : Int32)), .val (.int (1 : Int32)), .val (.ref w_INTEGER), .val (.ref w_INTEGER), .unset, .unset]) rfl k) ?_
      show OGot p.tables e below (T32.setTop (mkF m 20 #[.val (.int p1), .val (.int p2), .val (.int (1 : Int32)), .val (.int (1 : Int32)), .val (.ref w_INTEGER), .val (.ref w_INTEGER), .unset, .unset] [])) _
      refine OGot.go (fun t k => XS.aload X32.here hx rfl (hb hby at_20) rfl rfl k) ?_
      show OGot p.tables e below (T32.setTop (mkF m 22 #[.val (.int p1), .val (.int p2), .val (.int (1 : Int32)), .val (.int (1 : Int32)), .val (.ref w_INTEGER), .val (.ref w_INTEGER), .unset, .unset] [(.ref w_INTEGER)])) _
      refine OGot.go (fun t k => XS.aload X32.here hx rfl (hb hby at_22) rfl rfl k) ?_
      show OGot p.tables e below (T32.setTop (mkF m 24 #[.val (.int p1), .val (.int p2), .val (.int (1 : Int32)), .val (.int (1 : Int32)), .val (.ref w_INTEGER), .val (.ref w_INTEGER), .unset, .unset] [(.ref w_INTEGER), (.ref w_INTEGER)])) _
      obtain ⟨cq33, kq33, q33a, q33b, q33c⟩ := isOf hZ e32 (G.2.2.2.2.2.2.2.1.ext O0.2)
      obtain ⟨_, _, ⟨T33, L33, k33, n33⟩, -, X33, ⟨Lc33, hQ33, l33, y33, z33⟩, st33⟩ := X32.virtualBack hx (y := (⟨"com/example/archipel/archipel/model/DataType", "takes", "(Lcom/example/archipel/archipel/model/DataType;)Z"⟩ : MethodName)) (z := (⟨"com/example/archipel/archipel/model/DataType", "takes", "(Lcom/example/archipel/archipel/model/DataType;)Z"⟩ : MethodName)) hown (mvT hZ (ow hw 9 rfl)) (mvT hZ (ow hw 10 rfl)) (notFace_of_selects (args := #[]) (mvT hZ (ow hw 12 rfl))) (mvT hZ (ow hw 12 rfl)) (mvT hZ (ow hw 11 rfl)) (by decide) (backOf (W := 0) (rm2_5 l Z a0 hw [] G  h0 n0 O0 ) hZ (ow hw 13 rfl) (ow hw 5 rfl) (by decide) (by decide)) q33a q33c (g := (mkF m 24 #[.val (.int p1), .val (.int p2), .val (.int (1 : Int32)), .val (.int (1 : Int32)), .val (.ref w_INTEGER), .val (.ref w_INTEGER), .unset, .unset] [(.ref w_INTEGER), (.ref w_INTEGER)])) rfl (by rw [hml]; rfl) (Steps.refl _) (argsL := [(.ref w_INTEGER)]) (rest := []) (lenOf pd_1 rfl) rfl (by show 2 * 0 + _ ≤ _; exact Nat.le_of_eq rfl) (hb hby at_24) (fun _ _ => ⟨rfl, e32, (by decide : 0 + 0 ≤ _), (by decide : 0 + 0 ≤ _)⟩)
      dsimp only [Pt.U, Pt.locs, Pt.cells, Pt.slots] at X33 l33 y33 z33 st33 hQ33
      subst l33 y33 z33
      obtain ⟨rfl, N33q, e33⟩ := hQ33
      have N33 := Fr.app N32 N33q
      refine OGot.on st33 ?_
      show OGot p.tables e below (T33.setTop (mkF m 27 #[.val (.int p1), .val (.int p2), .val (.int (1 : Int32)), .val (.int (1 : Int32)), .val (.ref w_INTEGER), .val (.ref w_INTEGER), .unset, .unset] [(.int (1 : Int32))])) _
      refine OGot.go (fun t k => XS.istore X33.here hx rfl (hb hby at_27) rfl (l' := #[.val (.int p1), .val (.int p2), .val (.int (1 : Int32)), .val (.int (1 : Int32)), .val (.ref w_INTEGER), .val (.ref w_INTEGER), .val (.int (1 : Int32)), .unset]) rfl k) ?_
      show OGot p.tables e below (T33.setTop (mkF m 29 #[.val (.int p1), .val (.int p2), .val (.int (1 : Int32)), .val (.int (1 : Int32)), .val (.ref w_INTEGER), .val (.ref w_INTEGER), .val (.int (1 : Int32)), .unset] [])) _
      refine OGot.go (fun t k => X33.ldcInt hx hown (mvT hZ (ow hw 16 rfl)) (g := (mkF m 29 #[.val (.int p1), .val (.int p2), .val (.int (1 : Int32)), .val (.int (1 : Int32)), .val (.ref w_INTEGER), .val (.ref w_INTEGER), .val (.int (1 : Int32)), .unset] [])) rfl (hb hby at_29) _ k) ?_
      show OGot p.tables e below (T33.setTop (mkF m 31 #[.val (.int p1), .val (.int p2), .val (.int (1 : Int32)), .val (.int (1 : Int32)), .val (.ref w_INTEGER), .val (.ref w_INTEGER), .val (.int (1 : Int32)), .unset] [(.int (34337 : Int32))])) _
      refine OGot.go (fun t k => XS.iloadN X33.here hx rfl (hb hby at_31) rfl k) ?_
      show OGot p.tables e below (T33.setTop (mkF m 32 #[.val (.int p1), .val (.int p2), .val (.int (1 : Int32)), .val (.int (1 : Int32)), .val (.ref w_INTEGER), .val (.ref w_INTEGER), .val (.int (1 : Int32)), .unset] [(.int (1 : Int32)), (.int (34337 : Int32))])) _
      refine OGot.go (fun t k => XS.iconst X33.here hx rfl (hb hby at_32) k) ?_
      show OGot p.tables e below (T33.setTop (mkF m 33 #[.val (.int p1), .val (.int p2), .val (.int (1 : Int32)), .val (.int (1 : Int32)), .val (.ref w_INTEGER), .val (.ref w_INTEGER), .val (.int (1 : Int32)), .unset] [(.int (4 : Int32)), (.int (1 : Int32)), (.int (34337 : Int32))])) _
      refine OGot.go (fun t k => XS.imul X33.here hx rfl (hb hby at_33) rfl k) ?_
      show OGot p.tables e below (T33.setTop (mkF m 34 #[.val (.int p1), .val (.int p2), .val (.int (1 : Int32)), .val (.int (1 : Int32)), .val (.ref w_INTEGER), .val (.ref w_INTEGER), .val (.int (1 : Int32)), .unset] [(.int ((1 : Int32) * (4 : Int32))), (.int (34337 : Int32))])) _
      rw [show ((1 : Int32) * (4 : Int32)) = (4 : Int32) from by decide]
      show OGot p.tables e below (T33.setTop (mkF m 34 #[.val (.int p1), .val (.int p2), .val (.int (1 : Int32)), .val (.int (1 : Int32)), .val (.ref w_INTEGER), .val (.ref w_INTEGER), .val (.int (1 : Int32)), .unset] [(.int (4 : Int32)), (.int (34337 : Int32))])) _
      refine OGot.go (fun t k => XS.iloadN X33.here hx rfl (hb hby at_34) rfl k) ?_
      show OGot p.tables e below (T33.setTop (mkF m 35 #[.val (.int p1), .val (.int p2), .val (.int (1 : Int32)), .val (.int (1 : Int32)), .val (.ref w_INTEGER), .val (.ref w_INTEGER), .val (.int (1 : Int32)), .unset] [(.int (1 : Int32)), (.int (4 : Int32)), (.int (34337 : Int32))])) _
      refine OGot.go (fun t k => XS.iadd X33.here hx rfl (hb hby at_35) rfl k) ?_
      show OGot p.tables e below (T33.setTop (mkF m 36 #[.val (.int p1), .val (.int p2), .val (.int (1 : Int32)), .val (.int (1 : Int32)), .val (.ref w_INTEGER), .val (.ref w_INTEGER), .val (.int (1 : Int32)), .unset] [(.int ((4 : Int32) + (1 : Int32))), (.int (34337 : Int32))])) _
      rw [show ((4 : Int32) + (1 : Int32)) = (5 : Int32) from by decide]
      show OGot p.tables e below (T33.setTop (mkF m 36 #[.val (.int p1), .val (.int p2), .val (.int (1 : Int32)), .val (.int (1 : Int32)), .val (.ref w_INTEGER), .val (.ref w_INTEGER), .val (.int (1 : Int32)), .unset] [(.int (5 : Int32)), (.int (34337 : Int32))])) _
      refine OGot.go (fun t k => XS.ishr X33.here hx rfl (hb hby at_36) rfl k) ?_
      show OGot p.tables e below (T33.setTop (mkF m 37 #[.val (.int p1), .val (.int p2), .val (.int (1 : Int32)), .val (.int (1 : Int32)), .val (.ref w_INTEGER), .val (.ref w_INTEGER), .val (.int (1 : Int32)), .unset] [(.int ((34337 : Int32) >>> ((5 : Int32) &&& 31)))])) _
      rw [show ((34337 : Int32) >>> ((5 : Int32) &&& 31)) = (1073 : Int32) from by decide]
      show OGot p.tables e below (T33.setTop (mkF m 37 #[.val (.int p1), .val (.int p2), .val (.int (1 : Int32)), .val (.int (1 : Int32)), .val (.ref w_INTEGER), .val (.ref w_INTEGER), .val (.int (1 : Int32)), .unset] [(.int (1073 : Int32))])) _
      refine OGot.go (fun t k => XS.iconst X33.here hx rfl (hb hby at_37) k) ?_
      show OGot p.tables e below (T33.setTop (mkF m 38 #[.val (.int p1), .val (.int p2), .val (.int (1 : Int32)), .val (.int (1 : Int32)), .val (.ref w_INTEGER), .val (.ref w_INTEGER), .val (.int (1 : Int32)), .unset] [(.int (1 : Int32)), (.int (1073 : Int32))])) _
      refine OGot.go (fun t k => XS.iand X33.here hx rfl (hb hby at_38) rfl k) ?_
      show OGot p.tables e below (T33.setTop (mkF m 39 #[.val (.int p1), .val (.int p2), .val (.int (1 : Int32)), .val (.int (1 : Int32)), .val (.ref w_INTEGER), .val (.ref w_INTEGER), .val (.int (1 : Int32)), .unset] [(.int ((1073 : Int32) &&& (1 : Int32)))])) _
      rw [show ((1073 : Int32) &&& (1 : Int32)) = (1 : Int32) from by decide]
      show OGot p.tables e below (T33.setTop (mkF m 39 #[.val (.int p1), .val (.int p2), .val (.int (1 : Int32)), .val (.int (1 : Int32)), .val (.ref w_INTEGER), .val (.ref w_INTEGER), .val (.int (1 : Int32)), .unset] [(.int (1 : Int32))])) _
      refine OGot.go (fun t k => XS.ifNo X33.here hx rfl (hb hby at_39) rfl (by decide) k) ?_
      show OGot p.tables e below (T33.setTop (mkF m 42 #[.val (.int p1), .val (.int p2), .val (.int (1 : Int32)), .val (.int (1 : Int32)), .val (.ref w_INTEGER), .val (.ref w_INTEGER), .val (.int (1 : Int32)), .unset] [])) _
      refine OGot.go (fun t k => XS.iconst X33.here hx rfl (hb hby at_42) k) ?_
      show OGot p.tables e below (T33.setTop (mkF m 43 #[.val (.int p1), .val (.int p2), .val (.int (1 : Int32)), .val (.int (1 : Int32)), .val (.ref w_INTEGER), .val (.ref w_INTEGER), .val (.int (1 : Int32)), .unset] [(.int (1 : Int32))])) _
      refine OGot.go (fun t k => XS.goto X33.here hx rfl (pc0 := 43) (pc' := 47) rfl (hb hby at_43) (by decide) (by decide) k) ?_
      show OGot p.tables e below (T33.setTop (mkF m 47 #[.val (.int p1), .val (.int p2), .val (.int (1 : Int32)), .val (.int (1 : Int32)), .val (.ref w_INTEGER), .val (.ref w_INTEGER), .val (.int (1 : Int32)), .unset] [(.int (1 : Int32))])) _
      refine OGot.go (fun t k => XS.istore X33.here hx rfl (hb hby at_47) rfl (l' := #[.val (.int p1), .val (.int p2), .val (.int (1 : Int32)), .val (.int (1 : Int32)), .val (.ref w_INTEGER), .val (.ref w_INTEGER), .val (.int (1 : Int32)), .val (.int (1 : Int32))]) rfl k) ?_
      show OGot p.tables e below (T33.setTop (mkF m 49 #[.val (.int p1), .val (.int p2), .val (.int (1 : Int32)), .val (.int (1 : Int32)), .val (.ref w_INTEGER), .val (.ref w_INTEGER), .val (.int (1 : Int32)), .val (.int (1 : Int32))] [])) _
      refine OGot.go (fun t k => XS.iload X33.here hx rfl (hb hby at_49) rfl k) ?_
      show OGot p.tables e below (T33.setTop (mkF m 51 #[.val (.int p1), .val (.int p2), .val (.int (1 : Int32)), .val (.int (1 : Int32)), .val (.ref w_INTEGER), .val (.ref w_INTEGER), .val (.int (1 : Int32)), .val (.int (1 : Int32))] [(.int (1 : Int32))])) _
      refine OGot.go (fun t k => XS.iload X33.here hx rfl (hb hby at_51) rfl k) ?_
      show OGot p.tables e below (T33.setTop (mkF m 53 #[.val (.int p1), .val (.int p2), .val (.int (1 : Int32)), .val (.int (1 : Int32)), .val (.ref w_INTEGER), .val (.ref w_INTEGER), .val (.int (1 : Int32)), .val (.int (1 : Int32))] [(.int (1 : Int32)), (.int (1 : Int32))])) _
      refine OGot.go (fun t k => XS.icmpNo X33.here hx rfl (hb hby at_53) rfl (by decide) k) ?_
      show OGot p.tables e below (T33.setTop (mkF m 56 #[.val (.int p1), .val (.int p2), .val (.int (1 : Int32)), .val (.int (1 : Int32)), .val (.ref w_INTEGER), .val (.ref w_INTEGER), .val (.int (1 : Int32)), .val (.int (1 : Int32))] [])) _
      refine OGot.go (fun t k => XS.iload X33.here hx rfl (hb hby at_56) rfl k) ?_
      show OGot p.tables e below (T33.setTop (mkF m 58 #[.val (.int p1), .val (.int p2), .val (.int (1 : Int32)), .val (.int (1 : Int32)), .val (.ref w_INTEGER), .val (.ref w_INTEGER), .val (.int (1 : Int32)), .val (.int (1 : Int32))] [(.int (1 : Int32))])) _
      refine OGot.go (fun t k => XS.ifNo X33.here hx rfl (hb hby at_58) rfl (by decide) k) ?_
      show OGot p.tables e below (T33.setTop (mkF m 61 #[.val (.int p1), .val (.int p2), .val (.int (1 : Int32)), .val (.int (1 : Int32)), .val (.ref w_INTEGER), .val (.ref w_INTEGER), .val (.int (1 : Int32)), .val (.int (1 : Int32))] [])) _
      refine OGot.go (fun t k => XS.aload X33.here hx rfl (hb hby at_61) rfl rfl k) ?_
      show OGot p.tables e below (T33.setTop (mkF m 63 #[.val (.int p1), .val (.int p2), .val (.int (1 : Int32)), .val (.int (1 : Int32)), .val (.ref w_INTEGER), .val (.ref w_INTEGER), .val (.int (1 : Int32)), .val (.int (1 : Int32))] [(.ref w_INTEGER)])) _
      refine OGot.go (fun t k => XS.aload X33.here hx rfl (hb hby at_63) rfl rfl k) ?_
      show OGot p.tables e below (T33.setTop (mkF m 65 #[.val (.int p1), .val (.int p2), .val (.int (1 : Int32)), .val (.int (1 : Int32)), .val (.ref w_INTEGER), .val (.ref w_INTEGER), .val (.int (1 : Int32)), .val (.int (1 : Int32))] [(.ref w_INTEGER), (.ref w_INTEGER)])) _
      obtain ⟨cq34, kq34, q34a, q34b, q34c⟩ := isOf hZ e33 (G.2.2.2.2.2.2.2.1.ext O0.2)
      obtain ⟨_, _, ⟨T34, L34, k34, n34⟩, -, X34, ⟨Lc34, hQ34, l34, y34, z34⟩, st34⟩ := X33.virtualBack hx (y := (⟨"com/example/archipel/archipel/model/DataType", "comparableWith", "(Lcom/example/archipel/archipel/model/DataType;)Z"⟩ : MethodName)) (z := (⟨"com/example/archipel/archipel/model/DataType", "comparableWith", "(Lcom/example/archipel/archipel/model/DataType;)Z"⟩ : MethodName)) hown (mvT hZ (ow hw 21 rfl)) (mvT hZ (ow hw 22 rfl)) (notFace_of_selects (args := #[]) (mvT hZ (ow hw 24 rfl))) (mvT hZ (ow hw 24 rfl)) (mvT hZ (ow hw 23 rfl)) (by decide) (backOf (W := 0) (rm3_1 l Z a0 hw [] G  h0 n0 O0 ) hZ (ow hw 25 rfl) (ow hw 5 rfl) (by decide) (by decide)) q34a q34c (g := (mkF m 65 #[.val (.int p1), .val (.int p2), .val (.int (1 : Int32)), .val (.int (1 : Int32)), .val (.ref w_INTEGER), .val (.ref w_INTEGER), .val (.int (1 : Int32)), .val (.int (1 : Int32))] [(.ref w_INTEGER), (.ref w_INTEGER)])) rfl (by rw [hml]; rfl) (Steps.refl _) (argsL := [(.ref w_INTEGER)]) (rest := []) (lenOf pd_1 rfl) rfl (by show 2 * 0 + _ ≤ _; exact Nat.le_of_eq rfl) (hb hby at_65) (fun _ _ => ⟨rfl, e33, (by decide : 0 + 0 ≤ _), (by decide : 0 + 0 ≤ _)⟩)
      dsimp only [Pt.U, Pt.locs, Pt.cells, Pt.slots] at X34 l34 y34 z34 st34 hQ34
      subst l34 y34 z34
      obtain ⟨rfl, N34q, e34⟩ := hQ34
      have N34 := Fr.app N33 N34q
      refine OGot.on st34 ?_
      show OGot p.tables e below (T34.setTop (mkF m 68 #[.val (.int p1), .val (.int p2), .val (.int (1 : Int32)), .val (.int (1 : Int32)), .val (.ref w_INTEGER), .val (.ref w_INTEGER), .val (.int (1 : Int32)), .val (.int (1 : Int32))] [(.int (1 : Int32))])) _
      refine OGot.go (fun t k => XS.ifNo X34.here hx rfl (hb hby at_68) rfl (by decide) k) ?_
      show OGot p.tables e below (T34.setTop (mkF m 71 #[.val (.int p1), .val (.int p2), .val (.int (1 : Int32)), .val (.int (1 : Int32)), .val (.ref w_INTEGER), .val (.ref w_INTEGER), .val (.int (1 : Int32)), .val (.int (1 : Int32))] [])) _
      refine OGot.go (fun t k => XS.iconst X34.here hx rfl (hb hby at_71) k) ?_
      show OGot p.tables e below (T34.setTop (mkF m 72 #[.val (.int p1), .val (.int p2), .val (.int (1 : Int32)), .val (.int (1 : Int32)), .val (.ref w_INTEGER), .val (.ref w_INTEGER), .val (.int (1 : Int32)), .val (.int (1 : Int32))] [(.int (1 : Int32))])) _
      refine OGot.go (fun t k => XS.goto X34.here hx rfl (pc0 := 72) (pc' := 76) rfl (hb hby at_72) (by decide) (by decide) k) ?_
      show OGot p.tables e below (T34.setTop (mkF m 76 #[.val (.int p1), .val (.int p2), .val (.int (1 : Int32)), .val (.int (1 : Int32)), .val (.ref w_INTEGER), .val (.ref w_INTEGER), .val (.int (1 : Int32)), .val (.int (1 : Int32))] [(.int (1 : Int32))])) _
      obtain ⟨fs, hr, hrun, hended, hW, hsame⟩ := X34.leave (v := some (.int (1 : Int32))) (fun h => by rw [Bd.returns] at h; cases h)
      refine ⟨_, _, retN X34 hx (t := .boolean) Bd.returns (by simp) (hb hby at_76) hr, hrun, hended, _, _, rfl, ?_, ⟨_, rfl⟩, hW, hsame.mono (by decide) (by decide)⟩
      exact (⟨rfl, N34⟩ : Q0 Z w_TEXT w_DATE w_DECIMAL w_INTEGER p1 p2 h0 n0 _ T34.heap _)
    · rw [hk26]
      show OGot p.tables e below (s₁.setTop (mkF m 7 #[.val (.int p1), .val (.int p2), .val (.int (1 : Int32)), .unset, .unset, .unset, .unset, .unset] [(.int (2 : Int32))])) _
      refine OGot.go (fun t k => XS.istoreN X0.here hx rfl (hb hby at_7) rfl (l' := #[.val (.int p1), .val (.int p2), .val (.int (1 : Int32)), .val (.int (2 : Int32)), .unset, .unset, .unset, .unset]) rfl k) ?_
      show OGot p.tables e below (s₁.setTop (mkF m 8 #[.val (.int p1), .val (.int p2), .val (.int (1 : Int32)), .val (.int (2 : Int32)), .unset, .unset, .unset, .unset] [])) _
      refine OGot.go (fun t k => XS.iloadN X0.here hx rfl (hb hby at_8) rfl k) ?_
      show OGot p.tables e below (s₁.setTop (mkF m 9 #[.val (.int p1), .val (.int p2), .val (.int (1 : Int32)), .val (.int (2 : Int32)), .unset, .unset, .unset, .unset] [(.int (1 : Int32))])) _
      obtain ⟨_, _, ⟨T35, L35, k35, n35⟩, -, X35, ⟨Lc35, hQ35, l35, y35, z35⟩, st35⟩ := Jvm.LawKit.callS X0 hx (y := (⟨"com/example/archipel/archipel/model/DataTypeTakesPinLaw", "pick", "(I)Lcom/example/archipel/archipel/model/DataType;"⟩ : MethodName)) hown (mvT hZ (ow hw 0 rfl)) (mvT hZ (ow hw 1 rfl)) (mvT hZ (ow hw 2 rfl)) (mvT hZ (ow hw 3 rfl)) (by decide) (backOf (W := 0) (rm1_1 l Z a0 hw [] G  h0 n0 O0 ) hZ (ow hw 3 rfl) (ow hw 2 rfl) (by decide) (by decide)) (g := (mkF m 9 #[.val (.int p1), .val (.int p2), .val (.int (1 : Int32)), .val (.int (2 : Int32)), .unset, .unset, .unset, .unset] [(.int (1 : Int32))])) rfl (by rw [hml]; rfl) (argsL := [(.int (1 : Int32))]) (rest := []) (lenOf pd_0 rfl) rfl (by show 2 * 0 + _ ≤ _; exact Nat.le_of_eq rfl) (hb hby at_9) (fun _ _ => ⟨rfl, e0, (by decide : 0 + 0 ≤ _), (by decide : 0 + 0 ≤ _)⟩)
      dsimp only [Pt.U, Pt.locs, Pt.cells, Pt.slots] at X35 l35 y35 z35 st35 hQ35
      subst l35 y35 z35
      obtain ⟨rfl, N35q, e35⟩ := hQ35
      have N35 := Fr.app N0 N35q
      refine OGot.go st35 ?_
      show OGot p.tables e below (T35.setTop (mkF m 12 #[.val (.int p1), .val (.int p2), .val (.int (1 : Int32)), .val (.int (2 : Int32)), .unset, .unset, .unset, .unset] [(.ref w_INTEGER)])) _
      refine OGot.go (fun t k => XS.astore X35.here hx rfl (hb hby at_12) rfl rfl (l' := #[.val (.int p1), .val (.int p2), .val (.int (1 : Int32)), .val (.int (2 : Int32)), .val (.ref w_INTEGER), .unset, .unset, .unset]) rfl k) ?_
      show OGot p.tables e below (T35.setTop (mkF m 14 #[.val (.int p1), .val (.int p2), .val (.int (1 : Int32)), .val (.int (2 : Int32)), .val (.ref w_INTEGER), .unset, .unset, .unset] [])) _
      refine OGot.go (fun t k => XS.iloadN X35.here hx rfl (hb hby at_14) rfl k) ?_
      show OGot p.tables e below (T35.setTop (mkF m 15 #[.val (.int p1), .val (.int p2), .val (.int (1 : Int32)), .val (.int (2 : Int32)), .val (.ref w_INTEGER), .unset, .unset, .unset] [(.int (2 : Int32))])) _
      obtain ⟨_, _, ⟨T36, L36, k36, n36⟩, -, X36, ⟨Lc36, hQ36, l36, y36, z36⟩, st36⟩ := Jvm.LawKit.callS X35 hx (y := (⟨"com/example/archipel/archipel/model/DataTypeTakesPinLaw", "pick", "(I)Lcom/example/archipel/archipel/model/DataType;"⟩ : MethodName)) hown (mvT hZ (ow hw 0 rfl)) (mvT hZ (ow hw 1 rfl)) (mvT hZ (ow hw 2 rfl)) (mvT hZ (ow hw 3 rfl)) (by decide) (backOf (W := 0) (rm1_2 l Z a0 hw [] G  h0 n0 O0 ) hZ (ow hw 3 rfl) (ow hw 2 rfl) (by decide) (by decide)) (g := (mkF m 15 #[.val (.int p1), .val (.int p2), .val (.int (1 : Int32)), .val (.int (2 : Int32)), .val (.ref w_INTEGER), .unset, .unset, .unset] [(.int (2 : Int32))])) rfl (by rw [hml]; rfl) (argsL := [(.int (2 : Int32))]) (rest := []) (lenOf pd_0 rfl) rfl (by show 2 * 0 + _ ≤ _; exact Nat.le_of_eq rfl) (hb hby at_15) (fun _ _ => ⟨rfl, e35, (by decide : 0 + 0 ≤ _), (by decide : 0 + 0 ≤ _)⟩)
      dsimp only [Pt.U, Pt.locs, Pt.cells, Pt.slots] at X36 l36 y36 z36 st36 hQ36
      subst l36 y36 z36
      obtain ⟨rfl, N36q, e36⟩ := hQ36
      have N36 := Fr.app N35 N36q
      refine OGot.go st36 ?_
      show OGot p.tables e below (T36.setTop (mkF m 18 #[.val (.int p1), .val (.int p2), .val (.int (1 : Int32)), .val (.int (2 : Int32)), .val (.ref w_INTEGER), .unset, .unset, .unset] [(.ref w_DECIMAL)])) _
      refine OGot.go (fun t k => XS.astore X36.here hx rfl (hb hby at_18) rfl rfl (l' := #[.val (.int p1), .val (.int p2), .val (.int (1 : Int32)), .val (.int (2 : Int32)), .val (.ref w_INTEGER), .val (.ref w_DECIMAL), .unset, .unset]) rfl k) ?_
      show OGot p.tables e below (T36.setTop (mkF m 20 #[.val (.int p1), .val (.int p2), .val (.int (1 : Int32)), .val (.int (2 : Int32)), .val (.ref w_INTEGER), .val (.ref w_DECIMAL), .unset, .unset] [])) _
      refine OGot.go (fun t k => XS.aload X36.here hx rfl (hb hby at_20) rfl rfl k) ?_
      show OGot p.tables e below (T36.setTop (mkF m 22 #[.val (.int p1), .val (.int p2), .val (.int (1 : Int32)), .val (.int (2 : Int32)), .val (.ref w_INTEGER), .val (.ref w_DECIMAL), .unset, .unset] [(.ref w_INTEGER)])) _
      refine OGot.go (fun t k => XS.aload X36.here hx rfl (hb hby at_22) rfl rfl k) ?_
      show OGot p.tables e below (T36.setTop (mkF m 24 #[.val (.int p1), .val (.int p2), .val (.int (1 : Int32)), .val (.int (2 : Int32)), .val (.ref w_INTEGER), .val (.ref w_DECIMAL), .unset, .unset] [(.ref w_DECIMAL), (.ref w_INTEGER)])) _
      obtain ⟨cq37, kq37, q37a, q37b, q37c⟩ := isOf hZ e36 (G.2.2.2.2.2.2.2.1.ext O0.2)
      obtain ⟨_, _, ⟨T37, L37, k37, n37⟩, -, X37, ⟨Lc37, hQ37, l37, y37, z37⟩, st37⟩ := X36.virtualBack hx (y := (⟨"com/example/archipel/archipel/model/DataType", "takes", "(Lcom/example/archipel/archipel/model/DataType;)Z"⟩ : MethodName)) (z := (⟨"com/example/archipel/archipel/model/DataType", "takes", "(Lcom/example/archipel/archipel/model/DataType;)Z"⟩ : MethodName)) hown (mvT hZ (ow hw 9 rfl)) (mvT hZ (ow hw 10 rfl)) (notFace_of_selects (args := #[]) (mvT hZ (ow hw 12 rfl))) (mvT hZ (ow hw 12 rfl)) (mvT hZ (ow hw 11 rfl)) (by decide) (backOf (W := 0) (rm2_6 l Z a0 hw [] G  h0 n0 O0 ) hZ (ow hw 13 rfl) (ow hw 5 rfl) (by decide) (by decide)) q37a q37c (g := (mkF m 24 #[.val (.int p1), .val (.int p2), .val (.int (1 : Int32)), .val (.int (2 : Int32)), .val (.ref w_INTEGER), .val (.ref w_DECIMAL), .unset, .unset] [(.ref w_DECIMAL), (.ref w_INTEGER)])) rfl (by rw [hml]; rfl) (Steps.refl _) (argsL := [(.ref w_DECIMAL)]) (rest := []) (lenOf pd_1 rfl) rfl (by show 2 * 0 + _ ≤ _; exact Nat.le_of_eq rfl) (hb hby at_24) (fun _ _ => ⟨rfl, e36, (by decide : 0 + 0 ≤ _), (by decide : 0 + 0 ≤ _)⟩)
      dsimp only [Pt.U, Pt.locs, Pt.cells, Pt.slots] at X37 l37 y37 z37 st37 hQ37
      subst l37 y37 z37
      obtain ⟨rfl, N37q, e37⟩ := hQ37
      have N37 := Fr.app N36 N37q
      refine OGot.on st37 ?_
      show OGot p.tables e below (T37.setTop (mkF m 27 #[.val (.int p1), .val (.int p2), .val (.int (1 : Int32)), .val (.int (2 : Int32)), .val (.ref w_INTEGER), .val (.ref w_DECIMAL), .unset, .unset] [(.int (0 : Int32))])) _
      refine OGot.go (fun t k => XS.istore X37.here hx rfl (hb hby at_27) rfl (l' := #[.val (.int p1), .val (.int p2), .val (.int (1 : Int32)), .val (.int (2 : Int32)), .val (.ref w_INTEGER), .val (.ref w_DECIMAL), .val (.int (0 : Int32)), .unset]) rfl k) ?_
      show OGot p.tables e below (T37.setTop (mkF m 29 #[.val (.int p1), .val (.int p2), .val (.int (1 : Int32)), .val (.int (2 : Int32)), .val (.ref w_INTEGER), .val (.ref w_DECIMAL), .val (.int (0 : Int32)), .unset] [])) _
      refine OGot.go (fun t k => X37.ldcInt hx hown (mvT hZ (ow hw 16 rfl)) (g := (mkF m 29 #[.val (.int p1), .val (.int p2), .val (.int (1 : Int32)), .val (.int (2 : Int32)), .val (.ref w_INTEGER), .val (.ref w_DECIMAL), .val (.int (0 : Int32)), .unset] [])) rfl (hb hby at_29) _ k) ?_
      show OGot p.tables e below (T37.setTop (mkF m 31 #[.val (.int p1), .val (.int p2), .val (.int (1 : Int32)), .val (.int (2 : Int32)), .val (.ref w_INTEGER), .val (.ref w_DECIMAL), .val (.int (0 : Int32)), .unset] [(.int (34337 : Int32))])) _
      refine OGot.go (fun t k => XS.iloadN X37.here hx rfl (hb hby at_31) rfl k) ?_
      show OGot p.tables e below (T37.setTop (mkF m 32 #[.val (.int p1), .val (.int p2), .val (.int (1 : Int32)), .val (.int (2 : Int32)), .val (.ref w_INTEGER), .val (.ref w_DECIMAL), .val (.int (0 : Int32)), .unset] [(.int (1 : Int32)), (.int (34337 : Int32))])) _
      refine OGot.go (fun t k => XS.iconst X37.here hx rfl (hb hby at_32) k) ?_
      show OGot p.tables e below (T37.setTop (mkF m 33 #[.val (.int p1), .val (.int p2), .val (.int (1 : Int32)), .val (.int (2 : Int32)), .val (.ref w_INTEGER), .val (.ref w_DECIMAL), .val (.int (0 : Int32)), .unset] [(.int (4 : Int32)), (.int (1 : Int32)), (.int (34337 : Int32))])) _
      refine OGot.go (fun t k => XS.imul X37.here hx rfl (hb hby at_33) rfl k) ?_
      show OGot p.tables e below (T37.setTop (mkF m 34 #[.val (.int p1), .val (.int p2), .val (.int (1 : Int32)), .val (.int (2 : Int32)), .val (.ref w_INTEGER), .val (.ref w_DECIMAL), .val (.int (0 : Int32)), .unset] [(.int ((1 : Int32) * (4 : Int32))), (.int (34337 : Int32))])) _
      rw [show ((1 : Int32) * (4 : Int32)) = (4 : Int32) from by decide]
      show OGot p.tables e below (T37.setTop (mkF m 34 #[.val (.int p1), .val (.int p2), .val (.int (1 : Int32)), .val (.int (2 : Int32)), .val (.ref w_INTEGER), .val (.ref w_DECIMAL), .val (.int (0 : Int32)), .unset] [(.int (4 : Int32)), (.int (34337 : Int32))])) _
      refine OGot.go (fun t k => XS.iloadN X37.here hx rfl (hb hby at_34) rfl k) ?_
      show OGot p.tables e below (T37.setTop (mkF m 35 #[.val (.int p1), .val (.int p2), .val (.int (1 : Int32)), .val (.int (2 : Int32)), .val (.ref w_INTEGER), .val (.ref w_DECIMAL), .val (.int (0 : Int32)), .unset] [(.int (2 : Int32)), (.int (4 : Int32)), (.int (34337 : Int32))])) _
      refine OGot.go (fun t k => XS.iadd X37.here hx rfl (hb hby at_35) rfl k) ?_
      show OGot p.tables e below (T37.setTop (mkF m 36 #[.val (.int p1), .val (.int p2), .val (.int (1 : Int32)), .val (.int (2 : Int32)), .val (.ref w_INTEGER), .val (.ref w_DECIMAL), .val (.int (0 : Int32)), .unset] [(.int ((4 : Int32) + (2 : Int32))), (.int (34337 : Int32))])) _
      rw [show ((4 : Int32) + (2 : Int32)) = (6 : Int32) from by decide]
      show OGot p.tables e below (T37.setTop (mkF m 36 #[.val (.int p1), .val (.int p2), .val (.int (1 : Int32)), .val (.int (2 : Int32)), .val (.ref w_INTEGER), .val (.ref w_DECIMAL), .val (.int (0 : Int32)), .unset] [(.int (6 : Int32)), (.int (34337 : Int32))])) _
      refine OGot.go (fun t k => XS.ishr X37.here hx rfl (hb hby at_36) rfl k) ?_
      show OGot p.tables e below (T37.setTop (mkF m 37 #[.val (.int p1), .val (.int p2), .val (.int (1 : Int32)), .val (.int (2 : Int32)), .val (.ref w_INTEGER), .val (.ref w_DECIMAL), .val (.int (0 : Int32)), .unset] [(.int ((34337 : Int32) >>> ((6 : Int32) &&& 31)))])) _
      rw [show ((34337 : Int32) >>> ((6 : Int32) &&& 31)) = (536 : Int32) from by decide]
      show OGot p.tables e below (T37.setTop (mkF m 37 #[.val (.int p1), .val (.int p2), .val (.int (1 : Int32)), .val (.int (2 : Int32)), .val (.ref w_INTEGER), .val (.ref w_DECIMAL), .val (.int (0 : Int32)), .unset] [(.int (536 : Int32))])) _
      refine OGot.go (fun t k => XS.iconst X37.here hx rfl (hb hby at_37) k) ?_
      show OGot p.tables e below (T37.setTop (mkF m 38 #[.val (.int p1), .val (.int p2), .val (.int (1 : Int32)), .val (.int (2 : Int32)), .val (.ref w_INTEGER), .val (.ref w_DECIMAL), .val (.int (0 : Int32)), .unset] [(.int (1 : Int32)), (.int (536 : Int32))])) _
      refine OGot.go (fun t k => XS.iand X37.here hx rfl (hb hby at_38) rfl k) ?_
      show OGot p.tables e below (T37.setTop (mkF m 39 #[.val (.int p1), .val (.int p2), .val (.int (1 : Int32)), .val (.int (2 : Int32)), .val (.ref w_INTEGER), .val (.ref w_DECIMAL), .val (.int (0 : Int32)), .unset] [(.int ((536 : Int32) &&& (1 : Int32)))])) _
      rw [show ((536 : Int32) &&& (1 : Int32)) = (0 : Int32) from by decide]
      show OGot p.tables e below (T37.setTop (mkF m 39 #[.val (.int p1), .val (.int p2), .val (.int (1 : Int32)), .val (.int (2 : Int32)), .val (.ref w_INTEGER), .val (.ref w_DECIMAL), .val (.int (0 : Int32)), .unset] [(.int (0 : Int32))])) _
      refine OGot.go (fun t k => XS.ifYes X37.here hx rfl (pc0 := 39) (pc' := 46) rfl (hb hby at_39) rfl (by decide) (by decide) (by decide) k) ?_
      show OGot p.tables e below (T37.setTop (mkF m 46 #[.val (.int p1), .val (.int p2), .val (.int (1 : Int32)), .val (.int (2 : Int32)), .val (.ref w_INTEGER), .val (.ref w_DECIMAL), .val (.int (0 : Int32)), .unset] [])) _
      refine OGot.go (fun t k => XS.iconst X37.here hx rfl (hb hby at_46) k) ?_
      show OGot p.tables e below (T37.setTop (mkF m 47 #[.val (.int p1), .val (.int p2), .val (.int (1 : Int32)), .val (.int (2 : Int32)), .val (.ref w_INTEGER), .val (.ref w_DECIMAL), .val (.int (0 : Int32)), .unset] [(.int (0 : Int32))])) _
      refine OGot.go (fun t k => XS.istore X37.here hx rfl (hb hby at_47) rfl (l' := #[.val (.int p1), .val (.int p2), .val (.int (1 : Int32)), .val (.int (2 : Int32)), .val (.ref w_INTEGER), .val (.ref w_DECIMAL), .val (.int (0 : Int32)), .val (.int (0 : Int32))]) rfl k) ?_
      show OGot p.tables e below (T37.setTop (mkF m 49 #[.val (.int p1), .val (.int p2), .val (.int (1 : Int32)), .val (.int (2 : Int32)), .val (.ref w_INTEGER), .val (.ref w_DECIMAL), .val (.int (0 : Int32)), .val (.int (0 : Int32))] [])) _
      refine OGot.go (fun t k => XS.iload X37.here hx rfl (hb hby at_49) rfl k) ?_
      show OGot p.tables e below (T37.setTop (mkF m 51 #[.val (.int p1), .val (.int p2), .val (.int (1 : Int32)), .val (.int (2 : Int32)), .val (.ref w_INTEGER), .val (.ref w_DECIMAL), .val (.int (0 : Int32)), .val (.int (0 : Int32))] [(.int (0 : Int32))])) _
      refine OGot.go (fun t k => XS.iload X37.here hx rfl (hb hby at_51) rfl k) ?_
      show OGot p.tables e below (T37.setTop (mkF m 53 #[.val (.int p1), .val (.int p2), .val (.int (1 : Int32)), .val (.int (2 : Int32)), .val (.ref w_INTEGER), .val (.ref w_DECIMAL), .val (.int (0 : Int32)), .val (.int (0 : Int32))] [(.int (0 : Int32)), (.int (0 : Int32))])) _
      refine OGot.go (fun t k => XS.icmpNo X37.here hx rfl (hb hby at_53) rfl (by decide) k) ?_
      show OGot p.tables e below (T37.setTop (mkF m 56 #[.val (.int p1), .val (.int p2), .val (.int (1 : Int32)), .val (.int (2 : Int32)), .val (.ref w_INTEGER), .val (.ref w_DECIMAL), .val (.int (0 : Int32)), .val (.int (0 : Int32))] [])) _
      refine OGot.go (fun t k => XS.iload X37.here hx rfl (hb hby at_56) rfl k) ?_
      show OGot p.tables e below (T37.setTop (mkF m 58 #[.val (.int p1), .val (.int p2), .val (.int (1 : Int32)), .val (.int (2 : Int32)), .val (.ref w_INTEGER), .val (.ref w_DECIMAL), .val (.int (0 : Int32)), .val (.int (0 : Int32))] [(.int (0 : Int32))])) _
      refine OGot.go (fun t k => XS.ifYes X37.here hx rfl (pc0 := 58) (pc' := 71) rfl (hb hby at_58) rfl (by decide) (by decide) (by decide) k) ?_
      show OGot p.tables e below (T37.setTop (mkF m 71 #[.val (.int p1), .val (.int p2), .val (.int (1 : Int32)), .val (.int (2 : Int32)), .val (.ref w_INTEGER), .val (.ref w_DECIMAL), .val (.int (0 : Int32)), .val (.int (0 : Int32))] [])) _
      refine OGot.go (fun t k => XS.iconst X37.here hx rfl (hb hby at_71) k) ?_
      show OGot p.tables e below (T37.setTop (mkF m 72 #[.val (.int p1), .val (.int p2), .val (.int (1 : Int32)), .val (.int (2 : Int32)), .val (.ref w_INTEGER), .val (.ref w_DECIMAL), .val (.int (0 : Int32)), .val (.int (0 : Int32))] [(.int (1 : Int32))])) _
      refine OGot.go (fun t k => XS.goto X37.here hx rfl (pc0 := 72) (pc' := 76) rfl (hb hby at_72) (by decide) (by decide) k) ?_
      show OGot p.tables e below (T37.setTop (mkF m 76 #[.val (.int p1), .val (.int p2), .val (.int (1 : Int32)), .val (.int (2 : Int32)), .val (.ref w_INTEGER), .val (.ref w_DECIMAL), .val (.int (0 : Int32)), .val (.int (0 : Int32))] [(.int (1 : Int32))])) _
      obtain ⟨fs, hr, hrun, hended, hW, hsame⟩ := X37.leave (v := some (.int (1 : Int32))) (fun h => by rw [Bd.returns] at h; cases h)
      refine ⟨_, _, retN X37 hx (t := .boolean) Bd.returns (by simp) (hb hby at_76) hr, hrun, hended, _, _, rfl, ?_, ⟨_, rfl⟩, hW, hsame.mono (by decide) (by decide)⟩
      exact (⟨rfl, N37⟩ : Q0 Z w_TEXT w_DATE w_DECIMAL w_INTEGER p1 p2 h0 n0 _ T37.heap _)
    · rw [hk27]
      show OGot p.tables e below (s₁.setTop (mkF m 7 #[.val (.int p1), .val (.int p2), .val (.int (1 : Int32)), .unset, .unset, .unset, .unset, .unset] [(.int (3 : Int32))])) _
      refine OGot.go (fun t k => XS.istoreN X0.here hx rfl (hb hby at_7) rfl (l' := #[.val (.int p1), .val (.int p2), .val (.int (1 : Int32)), .val (.int (3 : Int32)), .unset, .unset, .unset, .unset]) rfl k) ?_
      show OGot p.tables e below (s₁.setTop (mkF m 8 #[.val (.int p1), .val (.int p2), .val (.int (1 : Int32)), .val (.int (3 : Int32)), .unset, .unset, .unset, .unset] [])) _
      refine OGot.go (fun t k => XS.iloadN X0.here hx rfl (hb hby at_8) rfl k) ?_
      show OGot p.tables e below (s₁.setTop (mkF m 9 #[.val (.int p1), .val (.int p2), .val (.int (1 : Int32)), .val (.int (3 : Int32)), .unset, .unset, .unset, .unset] [(.int (1 : Int32))])) _
      obtain ⟨_, _, ⟨T38, L38, k38, n38⟩, -, X38, ⟨Lc38, hQ38, l38, y38, z38⟩, st38⟩ := Jvm.LawKit.callS X0 hx (y := (⟨"com/example/archipel/archipel/model/DataTypeTakesPinLaw", "pick", "(I)Lcom/example/archipel/archipel/model/DataType;"⟩ : MethodName)) hown (mvT hZ (ow hw 0 rfl)) (mvT hZ (ow hw 1 rfl)) (mvT hZ (ow hw 2 rfl)) (mvT hZ (ow hw 3 rfl)) (by decide) (backOf (W := 0) (rm1_1 l Z a0 hw [] G  h0 n0 O0 ) hZ (ow hw 3 rfl) (ow hw 2 rfl) (by decide) (by decide)) (g := (mkF m 9 #[.val (.int p1), .val (.int p2), .val (.int (1 : Int32)), .val (.int (3 : Int32)), .unset, .unset, .unset, .unset] [(.int (1 : Int32))])) rfl (by rw [hml]; rfl) (argsL := [(.int (1 : Int32))]) (rest := []) (lenOf pd_0 rfl) rfl (by show 2 * 0 + _ ≤ _; exact Nat.le_of_eq rfl) (hb hby at_9) (fun _ _ => ⟨rfl, e0, (by decide : 0 + 0 ≤ _), (by decide : 0 + 0 ≤ _)⟩)
      dsimp only [Pt.U, Pt.locs, Pt.cells, Pt.slots] at X38 l38 y38 z38 st38 hQ38
      subst l38 y38 z38
      obtain ⟨rfl, N38q, e38⟩ := hQ38
      have N38 := Fr.app N0 N38q
      refine OGot.go st38 ?_
      show OGot p.tables e below (T38.setTop (mkF m 12 #[.val (.int p1), .val (.int p2), .val (.int (1 : Int32)), .val (.int (3 : Int32)), .unset, .unset, .unset, .unset] [(.ref w_INTEGER)])) _
      refine OGot.go (fun t k => XS.astore X38.here hx rfl (hb hby at_12) rfl rfl (l' := #[.val (.int p1), .val (.int p2), .val (.int (1 : Int32)), .val (.int (3 : Int32)), .val (.ref w_INTEGER), .unset, .unset, .unset]) rfl k) ?_
      show OGot p.tables e below (T38.setTop (mkF m 14 #[.val (.int p1), .val (.int p2), .val (.int (1 : Int32)), .val (.int (3 : Int32)), .val (.ref w_INTEGER), .unset, .unset, .unset] [])) _
      refine OGot.go (fun t k => XS.iloadN X38.here hx rfl (hb hby at_14) rfl k) ?_
      show OGot p.tables e below (T38.setTop (mkF m 15 #[.val (.int p1), .val (.int p2), .val (.int (1 : Int32)), .val (.int (3 : Int32)), .val (.ref w_INTEGER), .unset, .unset, .unset] [(.int (3 : Int32))])) _
      obtain ⟨_, _, ⟨T39, L39, k39, n39⟩, -, X39, ⟨Lc39, hQ39, l39, y39, z39⟩, st39⟩ := Jvm.LawKit.callS X38 hx (y := (⟨"com/example/archipel/archipel/model/DataTypeTakesPinLaw", "pick", "(I)Lcom/example/archipel/archipel/model/DataType;"⟩ : MethodName)) hown (mvT hZ (ow hw 0 rfl)) (mvT hZ (ow hw 1 rfl)) (mvT hZ (ow hw 2 rfl)) (mvT hZ (ow hw 3 rfl)) (by decide) (backOf (W := 0) (rm1_3 l Z a0 hw [] G  h0 n0 O0 ) hZ (ow hw 3 rfl) (ow hw 2 rfl) (by decide) (by decide)) (g := (mkF m 15 #[.val (.int p1), .val (.int p2), .val (.int (1 : Int32)), .val (.int (3 : Int32)), .val (.ref w_INTEGER), .unset, .unset, .unset] [(.int (3 : Int32))])) rfl (by rw [hml]; rfl) (argsL := [(.int (3 : Int32))]) (rest := []) (lenOf pd_0 rfl) rfl (by show 2 * 0 + _ ≤ _; exact Nat.le_of_eq rfl) (hb hby at_15) (fun _ _ => ⟨rfl, e38, (by decide : 0 + 0 ≤ _), (by decide : 0 + 0 ≤ _)⟩)
      dsimp only [Pt.U, Pt.locs, Pt.cells, Pt.slots] at X39 l39 y39 z39 st39 hQ39
      subst l39 y39 z39
      obtain ⟨rfl, N39q, e39⟩ := hQ39
      have N39 := Fr.app N38 N39q
      refine OGot.go st39 ?_
      show OGot p.tables e below (T39.setTop (mkF m 18 #[.val (.int p1), .val (.int p2), .val (.int (1 : Int32)), .val (.int (3 : Int32)), .val (.ref w_INTEGER), .unset, .unset, .unset] [(.ref w_DATE)])) _
      refine OGot.go (fun t k => XS.astore X39.here hx rfl (hb hby at_18) rfl rfl (l' := #[.val (.int p1), .val (.int p2), .val (.int (1 : Int32)), .val (.int (3 : Int32)), .val (.ref w_INTEGER), .val (.ref w_DATE), .unset, .unset]) rfl k) ?_
      show OGot p.tables e below (T39.setTop (mkF m 20 #[.val (.int p1), .val (.int p2), .val (.int (1 : Int32)), .val (.int (3 : Int32)), .val (.ref w_INTEGER), .val (.ref w_DATE), .unset, .unset] [])) _
      refine OGot.go (fun t k => XS.aload X39.here hx rfl (hb hby at_20) rfl rfl k) ?_
      show OGot p.tables e below (T39.setTop (mkF m 22 #[.val (.int p1), .val (.int p2), .val (.int (1 : Int32)), .val (.int (3 : Int32)), .val (.ref w_INTEGER), .val (.ref w_DATE), .unset, .unset] [(.ref w_INTEGER)])) _
      refine OGot.go (fun t k => XS.aload X39.here hx rfl (hb hby at_22) rfl rfl k) ?_
      show OGot p.tables e below (T39.setTop (mkF m 24 #[.val (.int p1), .val (.int p2), .val (.int (1 : Int32)), .val (.int (3 : Int32)), .val (.ref w_INTEGER), .val (.ref w_DATE), .unset, .unset] [(.ref w_DATE), (.ref w_INTEGER)])) _
      obtain ⟨cq40, kq40, q40a, q40b, q40c⟩ := isOf hZ e39 (G.2.2.2.2.2.2.2.1.ext O0.2)
      obtain ⟨_, _, ⟨T40, L40, k40, n40⟩, -, X40, ⟨Lc40, hQ40, l40, y40, z40⟩, st40⟩ := X39.virtualBack hx (y := (⟨"com/example/archipel/archipel/model/DataType", "takes", "(Lcom/example/archipel/archipel/model/DataType;)Z"⟩ : MethodName)) (z := (⟨"com/example/archipel/archipel/model/DataType", "takes", "(Lcom/example/archipel/archipel/model/DataType;)Z"⟩ : MethodName)) hown (mvT hZ (ow hw 9 rfl)) (mvT hZ (ow hw 10 rfl)) (notFace_of_selects (args := #[]) (mvT hZ (ow hw 12 rfl))) (mvT hZ (ow hw 12 rfl)) (mvT hZ (ow hw 11 rfl)) (by decide) (backOf (W := 0) (rm2_7 l Z a0 hw [] G  h0 n0 O0 ) hZ (ow hw 13 rfl) (ow hw 5 rfl) (by decide) (by decide)) q40a q40c (g := (mkF m 24 #[.val (.int p1), .val (.int p2), .val (.int (1 : Int32)), .val (.int (3 : Int32)), .val (.ref w_INTEGER), .val (.ref w_DATE), .unset, .unset] [(.ref w_DATE), (.ref w_INTEGER)])) rfl (by rw [hml]; rfl) (Steps.refl _) (argsL := [(.ref w_DATE)]) (rest := []) (lenOf pd_1 rfl) rfl (by show 2 * 0 + _ ≤ _; exact Nat.le_of_eq rfl) (hb hby at_24) (fun _ _ => ⟨rfl, e39, (by decide : 0 + 0 ≤ _), (by decide : 0 + 0 ≤ _)⟩)
      dsimp only [Pt.U, Pt.locs, Pt.cells, Pt.slots] at X40 l40 y40 z40 st40 hQ40
      subst l40 y40 z40
      obtain ⟨rfl, N40q, e40⟩ := hQ40
      have N40 := Fr.app N39 N40q
      refine OGot.on st40 ?_
      show OGot p.tables e below (T40.setTop (mkF m 27 #[.val (.int p1), .val (.int p2), .val (.int (1 : Int32)), .val (.int (3 : Int32)), .val (.ref w_INTEGER), .val (.ref w_DATE), .unset, .unset] [(.int (0 : Int32))])) _
      refine OGot.go (fun t k => XS.istore X40.here hx rfl (hb hby at_27) rfl (l' := #[.val (.int p1), .val (.int p2), .val (.int (1 : Int32)), .val (.int (3 : Int32)), .val (.ref w_INTEGER), .val (.ref w_DATE), .val (.int (0 : Int32)), .unset]) rfl k) ?_
      show OGot p.tables e below (T40.setTop (mkF m 29 #[.val (.int p1), .val (.int p2), .val (.int (1 : Int32)), .val (.int (3 : Int32)), .val (.ref w_INTEGER), .val (.ref w_DATE), .val (.int (0 : Int32)), .unset] [])) _
      refine OGot.go (fun t k => X40.ldcInt hx hown (mvT hZ (ow hw 16 rfl)) (g := (mkF m 29 #[.val (.int p1), .val (.int p2), .val (.int (1 : Int32)), .val (.int (3 : Int32)), .val (.ref w_INTEGER), .val (.ref w_DATE), .val (.int (0 : Int32)), .unset] [])) rfl (hb hby at_29) _ k) ?_
      show OGot p.tables e below (T40.setTop (mkF m 31 #[.val (.int p1), .val (.int p2), .val (.int (1 : Int32)), .val (.int (3 : Int32)), .val (.ref w_INTEGER), .val (.ref w_DATE), .val (.int (0 : Int32)), .unset] [(.int (34337 : Int32))])) _
      refine OGot.go (fun t k => XS.iloadN X40.here hx rfl (hb hby at_31) rfl k) ?_
      show OGot p.tables e below (T40.setTop (mkF m 32 #[.val (.int p1), .val (.int p2), .val (.int (1 : Int32)), .val (.int (3 : Int32)), .val (.ref w_INTEGER), .val (.ref w_DATE), .val (.int (0 : Int32)), .unset] [(.int (1 : Int32)), (.int (34337 : Int32))])) _
      refine OGot.go (fun t k => XS.iconst X40.here hx rfl (hb hby at_32) k) ?_
      show OGot p.tables e below (T40.setTop (mkF m 33 #[.val (.int p1), .val (.int p2), .val (.int (1 : Int32)), .val (.int (3 : Int32)), .val (.ref w_INTEGER), .val (.ref w_DATE), .val (.int (0 : Int32)), .unset] [(.int (4 : Int32)), (.int (1 : Int32)), (.int (34337 : Int32))])) _
      refine OGot.go (fun t k => XS.imul X40.here hx rfl (hb hby at_33) rfl k) ?_
      show OGot p.tables e below (T40.setTop (mkF m 34 #[.val (.int p1), .val (.int p2), .val (.int (1 : Int32)), .val (.int (3 : Int32)), .val (.ref w_INTEGER), .val (.ref w_DATE), .val (.int (0 : Int32)), .unset] [(.int ((1 : Int32) * (4 : Int32))), (.int (34337 : Int32))])) _
      rw [show ((1 : Int32) * (4 : Int32)) = (4 : Int32) from by decide]
      show OGot p.tables e below (T40.setTop (mkF m 34 #[.val (.int p1), .val (.int p2), .val (.int (1 : Int32)), .val (.int (3 : Int32)), .val (.ref w_INTEGER), .val (.ref w_DATE), .val (.int (0 : Int32)), .unset] [(.int (4 : Int32)), (.int (34337 : Int32))])) _
      refine OGot.go (fun t k => XS.iloadN X40.here hx rfl (hb hby at_34) rfl k) ?_
      show OGot p.tables e below (T40.setTop (mkF m 35 #[.val (.int p1), .val (.int p2), .val (.int (1 : Int32)), .val (.int (3 : Int32)), .val (.ref w_INTEGER), .val (.ref w_DATE), .val (.int (0 : Int32)), .unset] [(.int (3 : Int32)), (.int (4 : Int32)), (.int (34337 : Int32))])) _
      refine OGot.go (fun t k => XS.iadd X40.here hx rfl (hb hby at_35) rfl k) ?_
      show OGot p.tables e below (T40.setTop (mkF m 36 #[.val (.int p1), .val (.int p2), .val (.int (1 : Int32)), .val (.int (3 : Int32)), .val (.ref w_INTEGER), .val (.ref w_DATE), .val (.int (0 : Int32)), .unset] [(.int ((4 : Int32) + (3 : Int32))), (.int (34337 : Int32))])) _
      rw [show ((4 : Int32) + (3 : Int32)) = (7 : Int32) from by decide]
      show OGot p.tables e below (T40.setTop (mkF m 36 #[.val (.int p1), .val (.int p2), .val (.int (1 : Int32)), .val (.int (3 : Int32)), .val (.ref w_INTEGER), .val (.ref w_DATE), .val (.int (0 : Int32)), .unset] [(.int (7 : Int32)), (.int (34337 : Int32))])) _
      refine OGot.go (fun t k => XS.ishr X40.here hx rfl (hb hby at_36) rfl k) ?_
      show OGot p.tables e below (T40.setTop (mkF m 37 #[.val (.int p1), .val (.int p2), .val (.int (1 : Int32)), .val (.int (3 : Int32)), .val (.ref w_INTEGER), .val (.ref w_DATE), .val (.int (0 : Int32)), .unset] [(.int ((34337 : Int32) >>> ((7 : Int32) &&& 31)))])) _
      rw [show ((34337 : Int32) >>> ((7 : Int32) &&& 31)) = (268 : Int32) from by decide]
      show OGot p.tables e below (T40.setTop (mkF m 37 #[.val (.int p1), .val (.int p2), .val (.int (1 : Int32)), .val (.int (3 : Int32)), .val (.ref w_INTEGER), .val (.ref w_DATE), .val (.int (0 : Int32)), .unset] [(.int (268 : Int32))])) _
      refine OGot.go (fun t k => XS.iconst X40.here hx rfl (hb hby at_37) k) ?_
      show OGot p.tables e below (T40.setTop (mkF m 38 #[.val (.int p1), .val (.int p2), .val (.int (1 : Int32)), .val (.int (3 : Int32)), .val (.ref w_INTEGER), .val (.ref w_DATE), .val (.int (0 : Int32)), .unset] [(.int (1 : Int32)), (.int (268 : Int32))])) _
      refine OGot.go (fun t k => XS.iand X40.here hx rfl (hb hby at_38) rfl k) ?_
      show OGot p.tables e below (T40.setTop (mkF m 39 #[.val (.int p1), .val (.int p2), .val (.int (1 : Int32)), .val (.int (3 : Int32)), .val (.ref w_INTEGER), .val (.ref w_DATE), .val (.int (0 : Int32)), .unset] [(.int ((268 : Int32) &&& (1 : Int32)))])) _
      rw [show ((268 : Int32) &&& (1 : Int32)) = (0 : Int32) from by decide]
      show OGot p.tables e below (T40.setTop (mkF m 39 #[.val (.int p1), .val (.int p2), .val (.int (1 : Int32)), .val (.int (3 : Int32)), .val (.ref w_INTEGER), .val (.ref w_DATE), .val (.int (0 : Int32)), .unset] [(.int (0 : Int32))])) _
      refine OGot.go (fun t k => XS.ifYes X40.here hx rfl (pc0 := 39) (pc' := 46) rfl (hb hby at_39) rfl (by decide) (by decide) (by decide) k) ?_
      show OGot p.tables e below (T40.setTop (mkF m 46 #[.val (.int p1), .val (.int p2), .val (.int (1 : Int32)), .val (.int (3 : Int32)), .val (.ref w_INTEGER), .val (.ref w_DATE), .val (.int (0 : Int32)), .unset] [])) _
      refine OGot.go (fun t k => XS.iconst X40.here hx rfl (hb hby at_46) k) ?_
      show OGot p.tables e below (T40.setTop (mkF m 47 #[.val (.int p1), .val (.int p2), .val (.int (1 : Int32)), .val (.int (3 : Int32)), .val (.ref w_INTEGER), .val (.ref w_DATE), .val (.int (0 : Int32)), .unset] [(.int (0 : Int32))])) _
      refine OGot.go (fun t k => XS.istore X40.here hx rfl (hb hby at_47) rfl (l' := #[.val (.int p1), .val (.int p2), .val (.int (1 : Int32)), .val (.int (3 : Int32)), .val (.ref w_INTEGER), .val (.ref w_DATE), .val (.int (0 : Int32)), .val (.int (0 : Int32))]) rfl k) ?_
      show OGot p.tables e below (T40.setTop (mkF m 49 #[.val (.int p1), .val (.int p2), .val (.int (1 : Int32)), .val (.int (3 : Int32)), .val (.ref w_INTEGER), .val (.ref w_DATE), .val (.int (0 : Int32)), .val (.int (0 : Int32))] [])) _
      refine OGot.go (fun t k => XS.iload X40.here hx rfl (hb hby at_49) rfl k) ?_
      show OGot p.tables e below (T40.setTop (mkF m 51 #[.val (.int p1), .val (.int p2), .val (.int (1 : Int32)), .val (.int (3 : Int32)), .val (.ref w_INTEGER), .val (.ref w_DATE), .val (.int (0 : Int32)), .val (.int (0 : Int32))] [(.int (0 : Int32))])) _
      refine OGot.go (fun t k => XS.iload X40.here hx rfl (hb hby at_51) rfl k) ?_
      show OGot p.tables e below (T40.setTop (mkF m 53 #[.val (.int p1), .val (.int p2), .val (.int (1 : Int32)), .val (.int (3 : Int32)), .val (.ref w_INTEGER), .val (.ref w_DATE), .val (.int (0 : Int32)), .val (.int (0 : Int32))] [(.int (0 : Int32)), (.int (0 : Int32))])) _
      refine OGot.go (fun t k => XS.icmpNo X40.here hx rfl (hb hby at_53) rfl (by decide) k) ?_
      show OGot p.tables e below (T40.setTop (mkF m 56 #[.val (.int p1), .val (.int p2), .val (.int (1 : Int32)), .val (.int (3 : Int32)), .val (.ref w_INTEGER), .val (.ref w_DATE), .val (.int (0 : Int32)), .val (.int (0 : Int32))] [])) _
      refine OGot.go (fun t k => XS.iload X40.here hx rfl (hb hby at_56) rfl k) ?_
      show OGot p.tables e below (T40.setTop (mkF m 58 #[.val (.int p1), .val (.int p2), .val (.int (1 : Int32)), .val (.int (3 : Int32)), .val (.ref w_INTEGER), .val (.ref w_DATE), .val (.int (0 : Int32)), .val (.int (0 : Int32))] [(.int (0 : Int32))])) _
      refine OGot.go (fun t k => XS.ifYes X40.here hx rfl (pc0 := 58) (pc' := 71) rfl (hb hby at_58) rfl (by decide) (by decide) (by decide) k) ?_
      show OGot p.tables e below (T40.setTop (mkF m 71 #[.val (.int p1), .val (.int p2), .val (.int (1 : Int32)), .val (.int (3 : Int32)), .val (.ref w_INTEGER), .val (.ref w_DATE), .val (.int (0 : Int32)), .val (.int (0 : Int32))] [])) _
      refine OGot.go (fun t k => XS.iconst X40.here hx rfl (hb hby at_71) k) ?_
      show OGot p.tables e below (T40.setTop (mkF m 72 #[.val (.int p1), .val (.int p2), .val (.int (1 : Int32)), .val (.int (3 : Int32)), .val (.ref w_INTEGER), .val (.ref w_DATE), .val (.int (0 : Int32)), .val (.int (0 : Int32))] [(.int (1 : Int32))])) _
      refine OGot.go (fun t k => XS.goto X40.here hx rfl (pc0 := 72) (pc' := 76) rfl (hb hby at_72) (by decide) (by decide) k) ?_
      show OGot p.tables e below (T40.setTop (mkF m 76 #[.val (.int p1), .val (.int p2), .val (.int (1 : Int32)), .val (.int (3 : Int32)), .val (.ref w_INTEGER), .val (.ref w_DATE), .val (.int (0 : Int32)), .val (.int (0 : Int32))] [(.int (1 : Int32))])) _
      obtain ⟨fs, hr, hrun, hended, hW, hsame⟩ := X40.leave (v := some (.int (1 : Int32))) (fun h => by rw [Bd.returns] at h; cases h)
      refine ⟨_, _, retN X40 hx (t := .boolean) Bd.returns (by simp) (hb hby at_76) hr, hrun, hended, _, _, rfl, ?_, ⟨_, rfl⟩, hW, hsame.mono (by decide) (by decide)⟩
      exact (⟨rfl, N40⟩ : Q0 Z w_TEXT w_DATE w_DECIMAL w_INTEGER p1 p2 h0 n0 _ T40.heap _)
  · rw [hk5]
    show OGot p.tables e below (s₁.setTop (mkF m 3 #[.val (.int p1), .val (.int p2), .unset, .unset, .unset, .unset, .unset, .unset] [(.int (2 : Int32))])) _
    refine OGot.go (fun t k => XS.istoreN X0.here hx rfl (hb hby at_3) rfl (l' := #[.val (.int p1), .val (.int p2), .val (.int (2 : Int32)), .unset, .unset, .unset, .unset, .unset]) rfl k) ?_
    show OGot p.tables e below (s₁.setTop (mkF m 4 #[.val (.int p1), .val (.int p2), .val (.int (2 : Int32)), .unset, .unset, .unset, .unset, .unset] [])) _
    refine OGot.go (fun t k => XS.iloadN X0.here hx rfl (hb hby at_4) rfl k) ?_
    show OGot p.tables e below (s₁.setTop (mkF m 5 #[.val (.int p1), .val (.int p2), .val (.int (2 : Int32)), .unset, .unset, .unset, .unset, .unset] [(.int p2)])) _
    refine OGot.go (fun t k => XS.iconst X0.here hx rfl (hb hby at_5) k) ?_
    show OGot p.tables e below (s₁.setTop (mkF m 6 #[.val (.int p1), .val (.int p2), .val (.int (2 : Int32)), .unset, .unset, .unset, .unset, .unset] [(.int (3 : Int32)), (.int p2)])) _
    refine OGot.go (fun t k => XS.iand X0.here hx rfl (hb hby at_6) rfl k) ?_
    show OGot p.tables e below (s₁.setTop (mkF m 7 #[.val (.int p1), .val (.int p2), .val (.int (2 : Int32)), .unset, .unset, .unset, .unset, .unset] [(.int (p2 &&& (3 : Int32)))])) _
    rcases own_and3 p2 with hk41 | hk42 | hk43 | hk44
    · rw [hk41]
      show OGot p.tables e below (s₁.setTop (mkF m 7 #[.val (.int p1), .val (.int p2), .val (.int (2 : Int32)), .unset, .unset, .unset, .unset, .unset] [(.int (0 : Int32))])) _
      refine OGot.go (fun t k => XS.istoreN X0.here hx rfl (hb hby at_7) rfl (l' := #[.val (.int p1), .val (.int p2), .val (.int (2 : Int32)), .val (.int (0 : Int32)), .unset, .unset, .unset, .unset]) rfl k) ?_
      show OGot p.tables e below (s₁.setTop (mkF m 8 #[.val (.int p1), .val (.int p2), .val (.int (2 : Int32)), .val (.int (0 : Int32)), .unset, .unset, .unset, .unset] [])) _
      refine OGot.go (fun t k => XS.iloadN X0.here hx rfl (hb hby at_8) rfl k) ?_
      show OGot p.tables e below (s₁.setTop (mkF m 9 #[.val (.int p1), .val (.int p2), .val (.int (2 : Int32)), .val (.int (0 : Int32)), .unset, .unset, .unset, .unset] [(.int (2 : Int32))])) _
      obtain ⟨_, _, ⟨T45, L45, k45, n45⟩, -, X45, ⟨Lc45, hQ45, l45, y45, z45⟩, st45⟩ := Jvm.LawKit.callS X0 hx (y := (⟨"com/example/archipel/archipel/model/DataTypeTakesPinLaw", "pick", "(I)Lcom/example/archipel/archipel/model/DataType;"⟩ : MethodName)) hown (mvT hZ (ow hw 0 rfl)) (mvT hZ (ow hw 1 rfl)) (mvT hZ (ow hw 2 rfl)) (mvT hZ (ow hw 3 rfl)) (by decide) (backOf (W := 0) (rm1_2 l Z a0 hw [] G  h0 n0 O0 ) hZ (ow hw 3 rfl) (ow hw 2 rfl) (by decide) (by decide)) (g := (mkF m 9 #[.val (.int p1), .val (.int p2), .val (.int (2 : Int32)), .val (.int (0 : Int32)), .unset, .unset, .unset, .unset] [(.int (2 : Int32))])) rfl (by rw [hml]; rfl) (argsL := [(.int (2 : Int32))]) (rest := []) (lenOf pd_0 rfl) rfl (by show 2 * 0 + _ ≤ _; exact Nat.le_of_eq rfl) (hb hby at_9) (fun _ _ => ⟨rfl, e0, (by decide : 0 + 0 ≤ _), (by decide : 0 + 0 ≤ _)⟩)
      dsimp only [Pt.U, Pt.locs, Pt.cells, Pt.slots] at X45 l45 y45 z45 st45 hQ45
      subst l45 y45 z45
      obtain ⟨rfl, N45q, e45⟩ := hQ45
      have N45 := Fr.app N0 N45q
      refine OGot.go st45 ?_
      show OGot p.tables e below (T45.setTop (mkF m 12 #[.val (.int p1), .val (.int p2), .val (.int (2 : Int32)), .val (.int (0 : Int32)), .unset, .unset, .unset, .unset] [(.ref w_DECIMAL)])) _
      refine OGot.go (fun t k => XS.astore X45.here hx rfl (hb hby at_12) rfl rfl (l' := #[.val (.int p1), .val (.int p2), .val (.int (2 : Int32)), .val (.int (0 : Int32)), .val (.ref w_DECIMAL), .unset, .unset, .unset]) rfl k) ?_
      show OGot p.tables e below (T45.setTop (mkF m 14 #[.val (.int p1), .val (.int p2), .val (.int (2 : Int32)), .val (.int (0 : Int32)), .val (.ref w_DECIMAL), .unset, .unset, .unset] [])) _
      refine OGot.go (fun t k => XS.iloadN X45.here hx rfl (hb hby at_14) rfl k) ?_
      show OGot p.tables e below (T45.setTop (mkF m 15 #[.val (.int p1), .val (.int p2), .val (.int (2 : Int32)), .val (.int (0 : Int32)), .val (.ref w_DECIMAL), .unset, .unset, .unset] [(.int (0 : Int32))])) _
      obtain ⟨_, _, ⟨T46, L46, k46, n46⟩, -, X46, ⟨Lc46, hQ46, l46, y46, z46⟩, st46⟩ := Jvm.LawKit.callS X45 hx (y := (⟨"com/example/archipel/archipel/model/DataTypeTakesPinLaw", "pick", "(I)Lcom/example/archipel/archipel/model/DataType;"⟩ : MethodName)) hown (mvT hZ (ow hw 0 rfl)) (mvT hZ (ow hw 1 rfl)) (mvT hZ (ow hw 2 rfl)) (mvT hZ (ow hw 3 rfl)) (by decide) (backOf (W := 0) (rm1 l Z a0 hw [] G  h0 n0 O0 ) hZ (ow hw 3 rfl) (ow hw 2 rfl) (by decide) (by decide)) (g := (mkF m 15 #[.val (.int p1), .val (.int p2), .val (.int (2 : Int32)), .val (.int (0 : Int32)), .val (.ref w_DECIMAL), .unset, .unset, .unset] [(.int (0 : Int32))])) rfl (by rw [hml]; rfl) (argsL := [(.int (0 : Int32))]) (rest := []) (lenOf pd_0 rfl) rfl (by show 2 * 0 + _ ≤ _; exact Nat.le_of_eq rfl) (hb hby at_15) (fun _ _ => ⟨rfl, e45, (by decide : 0 + 0 ≤ _), (by decide : 0 + 0 ≤ _)⟩)
      dsimp only [Pt.U, Pt.locs, Pt.cells, Pt.slots] at X46 l46 y46 z46 st46 hQ46
      subst l46 y46 z46
      obtain ⟨rfl, N46q, e46⟩ := hQ46
      have N46 := Fr.app N45 N46q
      refine OGot.go st46 ?_
      show OGot p.tables e below (T46.setTop (mkF m 18 #[.val (.int p1), .val (.int p2), .val (.int (2 : Int32)), .val (.int (0 : Int32)), .val (.ref w_DECIMAL), .unset, .unset, .unset] [(.ref w_TEXT)])) _
      refine OGot.go (fun t k => XS.astore X46.here hx rfl (hb hby at_18) rfl rfl (l' := #[.val (.int p1), .val (.int p2), .val (.int (2 : Int32)), .val (.int (0 : Int32)), .val (.ref w_DECIMAL), .val (.ref w_TEXT), .unset, .unset]) rfl k) ?_
      show OGot p.tables e below (T46.setTop (mkF m 20 #[.val (.int p1), .val (.int p2), .val (.int (2 : Int32)), .val (.int (0 : Int32)), .val (.ref w_DECIMAL), .val (.ref w_TEXT), .unset, .unset] [])) _
      refine OGot.go (fun t k => XS.aload X46.here hx rfl (hb hby at_20) rfl rfl k) ?_
      show OGot p.tables e below (T46.setTop (mkF m 22 #[.val (.int p1), .val (.int p2), .val (.int (2 : Int32)), .val (.int (0 : Int32)), .val (.ref w_DECIMAL), .val (.ref w_TEXT), .unset, .unset] [(.ref w_DECIMAL)])) _
      refine OGot.go (fun t k => XS.aload X46.here hx rfl (hb hby at_22) rfl rfl k) ?_
      show OGot p.tables e below (T46.setTop (mkF m 24 #[.val (.int p1), .val (.int p2), .val (.int (2 : Int32)), .val (.int (0 : Int32)), .val (.ref w_DECIMAL), .val (.ref w_TEXT), .unset, .unset] [(.ref w_TEXT), (.ref w_DECIMAL)])) _
      obtain ⟨cq47, kq47, q47a, q47b, q47c⟩ := isOf hZ e46 (G.2.2.2.2.2.1.ext O0.2)
      obtain ⟨_, _, ⟨T47, L47, k47, n47⟩, -, X47, ⟨Lc47, hQ47, l47, y47, z47⟩, st47⟩ := X46.virtualBack hx (y := (⟨"com/example/archipel/archipel/model/DataType", "takes", "(Lcom/example/archipel/archipel/model/DataType;)Z"⟩ : MethodName)) (z := (⟨"com/example/archipel/archipel/model/DataType", "takes", "(Lcom/example/archipel/archipel/model/DataType;)Z"⟩ : MethodName)) hown (mvT hZ (ow hw 9 rfl)) (mvT hZ (ow hw 10 rfl)) (notFace_of_selects (args := #[]) (mvT hZ (ow hw 12 rfl))) (mvT hZ (ow hw 12 rfl)) (mvT hZ (ow hw 11 rfl)) (by decide) (backOf (W := 0) (rm2_8 l Z a0 hw [] G  h0 n0 O0 ) hZ (ow hw 13 rfl) (ow hw 5 rfl) (by decide) (by decide)) q47a q47c (g := (mkF m 24 #[.val (.int p1), .val (.int p2), .val (.int (2 : Int32)), .val (.int (0 : Int32)), .val (.ref w_DECIMAL), .val (.ref w_TEXT), .unset, .unset] [(.ref w_TEXT), (.ref w_DECIMAL)])) rfl (by rw [hml]; rfl) (Steps.refl _) (argsL := [(.ref w_TEXT)]) (rest := []) (lenOf pd_1 rfl) rfl (by show 2 * 0 + _ ≤ _; exact Nat.le_of_eq rfl) (hb hby at_24) (fun _ _ => ⟨rfl, e46, (by decide : 0 + 0 ≤ _), (by decide : 0 + 0 ≤ _)⟩)
      dsimp only [Pt.U, Pt.locs, Pt.cells, Pt.slots] at X47 l47 y47 z47 st47 hQ47
      subst l47 y47 z47
      obtain ⟨rfl, N47q, e47⟩ := hQ47
      have N47 := Fr.app N46 N47q
      refine OGot.on st47 ?_
      show OGot p.tables e below (T47.setTop (mkF m 27 #[.val (.int p1), .val (.int p2), .val (.int (2 : Int32)), .val (.int (0 : Int32)), .val (.ref w_DECIMAL), .val (.ref w_TEXT), .unset, .unset] [(.int (0 : Int32))])) _
      refine OGot.go (fun t k => XS.istore X47.here hx rfl (hb hby at_27) rfl (l' := #[.val (.int p1), .val (.int p2), .val (.int (2 : Int32)), .val (.int (0 : Int32)), .val (.ref w_DECIMAL), .val (.ref w_TEXT), .val (.int (0 : Int32)), .unset]) rfl k) ?_
      show OGot p.tables e below (T47.setTop (mkF m 29 #[.val (.int p1), .val (.int p2), .val (.int (2 : Int32)), .val (.int (0 : Int32)), .val (.ref w_DECIMAL), .val (.ref w_TEXT), .val (.int (0 : Int32)), .unset] [])) _
      refine OGot.go (fun t k => X47.ldcInt hx hown (mvT hZ (ow hw 16 rfl)) (g := (mkF m 29 #[.val (.int p1), .val (.int p2), .val (.int (2 : Int32)), .val (.int (0 : Int32)), .val (.ref w_DECIMAL), .val (.ref w_TEXT), .val (.int (0 : Int32)), .unset] [])) rfl (hb hby at_29) _ k) ?_
      show OGot p.tables e below (T47.setTop (mkF m 31 #[.val (.int p1), .val (.int p2), .val (.int (2 : Int32)), .val (.int (0 : Int32)), .val (.ref w_DECIMAL), .val (.ref w_TEXT), .val (.int (0 : Int32)), .unset] [(.int (34337 : Int32))])) _
      refine OGot.go (fun t k => XS.iloadN X47.here hx rfl (hb hby at_31) rfl k) ?_
      show OGot p.tables e below (T47.setTop (mkF m 32 #[.val (.int p1), .val (.int p2), .val (.int (2 : Int32)), .val (.int (0 : Int32)), .val (.ref w_DECIMAL), .val (.ref w_TEXT), .val (.int (0 : Int32)), .unset] [(.int (2 : Int32)), (.int (34337 : Int32))])) _
      refine OGot.go (fun t k => XS.iconst X47.here hx rfl (hb hby at_32) k) ?_
      show OGot p.tables e below (T47.setTop (mkF m 33 #[.val (.int p1), .val (.int p2), .val (.int (2 : Int32)), .val (.int (0 : Int32)), .val (.ref w_DECIMAL), .val (.ref w_TEXT), .val (.int (0 : Int32)), .unset] [(.int (4 : Int32)), (.int (2 : Int32)), (.int (34337 : Int32))])) _
      refine OGot.go (fun t k => XS.imul X47.here hx rfl (hb hby at_33) rfl k) ?_
      show OGot p.tables e below (T47.setTop (mkF m 34 #[.val (.int p1), .val (.int p2), .val (.int (2 : Int32)), .val (.int (0 : Int32)), .val (.ref w_DECIMAL), .val (.ref w_TEXT), .val (.int (0 : Int32)), .unset] [(.int ((2 : Int32) * (4 : Int32))), (.int (34337 : Int32))])) _
      rw [show ((2 : Int32) * (4 : Int32)) = (8 : Int32) from by decide]
      show OGot p.tables e below (T47.setTop (mkF m 34 #[.val (.int p1), .val (.int p2), .val (.int (2 : Int32)), .val (.int (0 : Int32)), .val (.ref w_DECIMAL), .val (.ref w_TEXT), .val (.int (0 : Int32)), .unset] [(.int (8 : Int32)), (.int (34337 : Int32))])) _
      refine OGot.go (fun t k => XS.iloadN X47.here hx rfl (hb hby at_34) rfl k) ?_
      show OGot p.tables e below (T47.setTop (mkF m 35 #[.val (.int p1), .val (.int p2), .val (.int (2 : Int32)), .val (.int (0 : Int32)), .val (.ref w_DECIMAL), .val (.ref w_TEXT), .val (.int (0 : Int32)), .unset] [(.int (0 : Int32)), (.int (8 : Int32)), (.int (34337 : Int32))])) _
      refine OGot.go (fun t k => XS.iadd X47.here hx rfl (hb hby at_35) rfl k) ?_
      show OGot p.tables e below (T47.setTop (mkF m 36 #[.val (.int p1), .val (.int p2), .val (.int (2 : Int32)), .val (.int (0 : Int32)), .val (.ref w_DECIMAL), .val (.ref w_TEXT), .val (.int (0 : Int32)), .unset] [(.int ((8 : Int32) + (0 : Int32))), (.int (34337 : Int32))])) _
      rw [show ((8 : Int32) + (0 : Int32)) = (8 : Int32) from by decide]
      show OGot p.tables e below (T47.setTop (mkF m 36 #[.val (.int p1), .val (.int p2), .val (.int (2 : Int32)), .val (.int (0 : Int32)), .val (.ref w_DECIMAL), .val (.ref w_TEXT), .val (.int (0 : Int32)), .unset] [(.int (8 : Int32)), (.int (34337 : Int32))])) _
      refine OGot.go (fun t k => XS.ishr X47.here hx rfl (hb hby at_36) rfl k) ?_
      show OGot p.tables e below (T47.setTop (mkF m 37 #[.val (.int p1), .val (.int p2), .val (.int (2 : Int32)), .val (.int (0 : Int32)), .val (.ref w_DECIMAL), .val (.ref w_TEXT), .val (.int (0 : Int32)), .unset] [(.int ((34337 : Int32) >>> ((8 : Int32) &&& 31)))])) _
      rw [show ((34337 : Int32) >>> ((8 : Int32) &&& 31)) = (134 : Int32) from by decide]
      show OGot p.tables e below (T47.setTop (mkF m 37 #[.val (.int p1), .val (.int p2), .val (.int (2 : Int32)), .val (.int (0 : Int32)), .val (.ref w_DECIMAL), .val (.ref w_TEXT), .val (.int (0 : Int32)), .unset] [(.int (134 : Int32))])) _
      refine OGot.go (fun t k => XS.iconst X47.here hx rfl (hb hby at_37) k) ?_
      show OGot p.tables e below (T47.setTop (mkF m 38 #[.val (.int p1), .val (.int p2), .val (.int (2 : Int32)), .val (.int (0 : Int32)), .val (.ref w_DECIMAL), .val (.ref w_TEXT), .val (.int (0 : Int32)), .unset] [(.int (1 : Int32)), (.int (134 : Int32))])) _
      refine OGot.go (fun t k => XS.iand X47.here hx rfl (hb hby at_38) rfl k) ?_
      show OGot p.tables e below (T47.setTop (mkF m 39 #[.val (.int p1), .val (.int p2), .val (.int (2 : Int32)), .val (.int (0 : Int32)), .val (.ref w_DECIMAL), .val (.ref w_TEXT), .val (.int (0 : Int32)), .unset] [(.int ((134 : Int32) &&& (1 : Int32)))])) _
      rw [show ((134 : Int32) &&& (1 : Int32)) = (0 : Int32) from by decide]
      show OGot p.tables e below (T47.setTop (mkF m 39 #[.val (.int p1), .val (.int p2), .val (.int (2 : Int32)), .val (.int (0 : Int32)), .val (.ref w_DECIMAL), .val (.ref w_TEXT), .val (.int (0 : Int32)), .unset] [(.int (0 : Int32))])) _
      refine OGot.go (fun t k => XS.ifYes X47.here hx rfl (pc0 := 39) (pc' := 46) rfl (hb hby at_39) rfl (by decide) (by decide) (by decide) k) ?_
      show OGot p.tables e below (T47.setTop (mkF m 46 #[.val (.int p1), .val (.int p2), .val (.int (2 : Int32)), .val (.int (0 : Int32)), .val (.ref w_DECIMAL), .val (.ref w_TEXT), .val (.int (0 : Int32)), .unset] [])) _
      refine OGot.go (fun t k => XS.iconst X47.here hx rfl (hb hby at_46) k) ?_
      show OGot p.tables e below (T47.setTop (mkF m 47 #[.val (.int p1), .val (.int p2), .val (.int (2 : Int32)), .val (.int (0 : Int32)), .val (.ref w_DECIMAL), .val (.ref w_TEXT), .val (.int (0 : Int32)), .unset] [(.int (0 : Int32))])) _
      refine OGot.go (fun t k => XS.istore X47.here hx rfl (hb hby at_47) rfl (l' := #[.val (.int p1), .val (.int p2), .val (.int (2 : Int32)), .val (.int (0 : Int32)), .val (.ref w_DECIMAL), .val (.ref w_TEXT), .val (.int (0 : Int32)), .val (.int (0 : Int32))]) rfl k) ?_
      show OGot p.tables e below (T47.setTop (mkF m 49 #[.val (.int p1), .val (.int p2), .val (.int (2 : Int32)), .val (.int (0 : Int32)), .val (.ref w_DECIMAL), .val (.ref w_TEXT), .val (.int (0 : Int32)), .val (.int (0 : Int32))] [])) _
      refine OGot.go (fun t k => XS.iload X47.here hx rfl (hb hby at_49) rfl k) ?_
      show OGot p.tables e below (T47.setTop (mkF m 51 #[.val (.int p1), .val (.int p2), .val (.int (2 : Int32)), .val (.int (0 : Int32)), .val (.ref w_DECIMAL), .val (.ref w_TEXT), .val (.int (0 : Int32)), .val (.int (0 : Int32))] [(.int (0 : Int32))])) _
      refine OGot.go (fun t k => XS.iload X47.here hx rfl (hb hby at_51) rfl k) ?_
      show OGot p.tables e below (T47.setTop (mkF m 53 #[.val (.int p1), .val (.int p2), .val (.int (2 : Int32)), .val (.int (0 : Int32)), .val (.ref w_DECIMAL), .val (.ref w_TEXT), .val (.int (0 : Int32)), .val (.int (0 : Int32))] [(.int (0 : Int32)), (.int (0 : Int32))])) _
      refine OGot.go (fun t k => XS.icmpNo X47.here hx rfl (hb hby at_53) rfl (by decide) k) ?_
      show OGot p.tables e below (T47.setTop (mkF m 56 #[.val (.int p1), .val (.int p2), .val (.int (2 : Int32)), .val (.int (0 : Int32)), .val (.ref w_DECIMAL), .val (.ref w_TEXT), .val (.int (0 : Int32)), .val (.int (0 : Int32))] [])) _
      refine OGot.go (fun t k => XS.iload X47.here hx rfl (hb hby at_56) rfl k) ?_
      show OGot p.tables e below (T47.setTop (mkF m 58 #[.val (.int p1), .val (.int p2), .val (.int (2 : Int32)), .val (.int (0 : Int32)), .val (.ref w_DECIMAL), .val (.ref w_TEXT), .val (.int (0 : Int32)), .val (.int (0 : Int32))] [(.int (0 : Int32))])) _
      refine OGot.go (fun t k => XS.ifYes X47.here hx rfl (pc0 := 58) (pc' := 71) rfl (hb hby at_58) rfl (by decide) (by decide) (by decide) k) ?_
      show OGot p.tables e below (T47.setTop (mkF m 71 #[.val (.int p1), .val (.int p2), .val (.int (2 : Int32)), .val (.int (0 : Int32)), .val (.ref w_DECIMAL), .val (.ref w_TEXT), .val (.int (0 : Int32)), .val (.int (0 : Int32))] [])) _
      refine OGot.go (fun t k => XS.iconst X47.here hx rfl (hb hby at_71) k) ?_
      show OGot p.tables e below (T47.setTop (mkF m 72 #[.val (.int p1), .val (.int p2), .val (.int (2 : Int32)), .val (.int (0 : Int32)), .val (.ref w_DECIMAL), .val (.ref w_TEXT), .val (.int (0 : Int32)), .val (.int (0 : Int32))] [(.int (1 : Int32))])) _
      refine OGot.go (fun t k => XS.goto X47.here hx rfl (pc0 := 72) (pc' := 76) rfl (hb hby at_72) (by decide) (by decide) k) ?_
      show OGot p.tables e below (T47.setTop (mkF m 76 #[.val (.int p1), .val (.int p2), .val (.int (2 : Int32)), .val (.int (0 : Int32)), .val (.ref w_DECIMAL), .val (.ref w_TEXT), .val (.int (0 : Int32)), .val (.int (0 : Int32))] [(.int (1 : Int32))])) _
      obtain ⟨fs, hr, hrun, hended, hW, hsame⟩ := X47.leave (v := some (.int (1 : Int32))) (fun h => by rw [Bd.returns] at h; cases h)
      refine ⟨_, _, retN X47 hx (t := .boolean) Bd.returns (by simp) (hb hby at_76) hr, hrun, hended, _, _, rfl, ?_, ⟨_, rfl⟩, hW, hsame.mono (by decide) (by decide)⟩
      exact (⟨rfl, N47⟩ : Q0 Z w_TEXT w_DATE w_DECIMAL w_INTEGER p1 p2 h0 n0 _ T47.heap _)
    · rw [hk42]
      show OGot p.tables e below (s₁.setTop (mkF m 7 #[.val (.int p1), .val (.int p2), .val (.int (2 : Int32)), .unset, .unset, .unset, .unset, .unset] [(.int (1 : Int32))])) _
      refine OGot.go (fun t k => XS.istoreN X0.here hx rfl (hb hby at_7) rfl (l' := #[.val (.int p1), .val (.int p2), .val (.int (2 : Int32)), .val (.int (1 : Int32)), .unset, .unset, .unset, .unset]) rfl k) ?_
      show OGot p.tables e below (s₁.setTop (mkF m 8 #[.val (.int p1), .val (.int p2), .val (.int (2 : Int32)), .val (.int (1 : Int32)), .unset, .unset, .unset, .unset] [])) _
      refine OGot.go (fun t k => XS.iloadN X0.here hx rfl (hb hby at_8) rfl k) ?_
      show OGot p.tables e below (s₁.setTop (mkF m 9 #[.val (.int p1), .val (.int p2), .val (.int (2 : Int32)), .val (.int (1 : Int32)), .unset, .unset, .unset, .unset] [(.int (2 : Int32))])) _
      obtain ⟨_, _, ⟨T48, L48, k48, n48⟩, -, X48, ⟨Lc48, hQ48, l48, y48, z48⟩, st48⟩ := Jvm.LawKit.callS X0 hx (y := (⟨"com/example/archipel/archipel/model/DataTypeTakesPinLaw", "pick", "(I)Lcom/example/archipel/archipel/model/DataType;"⟩ : MethodName)) hown (mvT hZ (ow hw 0 rfl)) (mvT hZ (ow hw 1 rfl)) (mvT hZ (ow hw 2 rfl)) (mvT hZ (ow hw 3 rfl)) (by decide) (backOf (W := 0) (rm1_2 l Z a0 hw [] G  h0 n0 O0 ) hZ (ow hw 3 rfl) (ow hw 2 rfl) (by decide) (by decide)) (g := (mkF m 9 #[.val (.int p1), .val (.int p2), .val (.int (2 : Int32)), .val (.int (1 : Int32)), .unset, .unset, .unset, .unset] [(.int (2 : Int32))])) rfl (by rw [hml]; rfl) (argsL := [(.int (2 : Int32))]) (rest := []) (lenOf pd_0 rfl) rfl (by show 2 * 0 + _ ≤ _; exact Nat.le_of_eq rfl) (hb hby at_9) (fun _ _ => ⟨rfl, e0, (by decide : 0 + 0 ≤ _), (by decide : 0 + 0 ≤ _)⟩)
      dsimp only [Pt.U, Pt.locs, Pt.cells, Pt.slots] at X48 l48 y48 z48 st48 hQ48
      subst l48 y48 z48
      obtain ⟨rfl, N48q, e48⟩ := hQ48
      have N48 := Fr.app N0 N48q
      refine OGot.go st48 ?_
      show OGot p.tables e below (T48.setTop (mkF m 12 #[.val (.int p1), .val (.int p2), .val (.int (2 : Int32)), .val (.int (1 : Int32)), .unset, .unset, .unset, .unset] [(.ref w_DECIMAL)])) _
      refine OGot.go (fun t k => XS.astore X48.here hx rfl (hb hby at_12) rfl rfl (l' := #[.val (.int p1), .val (.int p2), .val (.int (2 : Int32)), .val (.int (1 : Int32)), .val (.ref w_DECIMAL), .unset, .unset, .unset]) rfl k) ?_
      show OGot p.tables e below (T48.setTop (mkF m 14 #[.val (.int p1), .val (.int p2), .val (.int (2 : Int32)), .val (.int (1 : Int32)), .val (.ref w_DECIMAL), .unset, .unset, .unset] [])) _
      refine OGot.go (fun t k => XS.iloadN X48.here hx rfl (hb hby at_14) rfl k) ?_
      show OGot p.tables e below (T48.setTop (mkF m 15 #[.val (.int p1), .val (.int p2), .val (.int (2 : Int32)), .val (.int (1 : Int32)), .val (.ref w_DECIMAL), .unset, .unset, .unset] [(.int (1 : Int32))])) _
      obtain ⟨_, _, ⟨T49, L49, k49, n49⟩, -, X49, ⟨Lc49, hQ49, l49, y49, z49⟩, st49⟩ := Jvm.LawKit.callS X48 hx (y := (⟨"com/example/archipel/archipel/model/DataTypeTakesPinLaw", "pick", "(I)Lcom/example/archipel/archipel/model/DataType;"⟩ : MethodName)) hown (mvT hZ (ow hw 0 rfl)) (mvT hZ (ow hw 1 rfl)) (mvT hZ (ow hw 2 rfl)) (mvT hZ (ow hw 3 rfl)) (by decide) (backOf (W := 0) (rm1_1 l Z a0 hw [] G  h0 n0 O0 ) hZ (ow hw 3 rfl) (ow hw 2 rfl) (by decide) (by decide)) (g := (mkF m 15 #[.val (.int p1), .val (.int p2), .val (.int (2 : Int32)), .val (.int (1 : Int32)), .val (.ref w_DECIMAL), .unset, .unset, .unset] [(.int (1 : Int32))])) rfl (by rw [hml]; rfl) (argsL := [(.int (1 : Int32))]) (rest := []) (lenOf pd_0 rfl) rfl (by show 2 * 0 + _ ≤ _; exact Nat.le_of_eq rfl) (hb hby at_15) (fun _ _ => ⟨rfl, e48, (by decide : 0 + 0 ≤ _), (by decide : 0 + 0 ≤ _)⟩)
      dsimp only [Pt.U, Pt.locs, Pt.cells, Pt.slots] at X49 l49 y49 z49 st49 hQ49
      subst l49 y49 z49
      obtain ⟨rfl, N49q, e49⟩ := hQ49
      have N49 := Fr.app N48 N49q
      refine OGot.go st49 ?_
      show OGot p.tables e below (T49.setTop (mkF m 18 #[.val (.int p1), .val (.int p2), .val (.int (2 : Int32)), .val (.int (1 : Int32)), .val (.ref w_DECIMAL), .unset, .unset, .unset] [(.ref w_INTEGER)])) _
      refine OGot.go (fun t k => XS.astore X49.here hx rfl (hb hby at_18) rfl rfl (l' := #[.val (.int p1), .val (.int p2), .val (.int (2 : Int32)), .val (.int (1 : Int32)), .val (.ref w_DECIMAL), .val (.ref w_INTEGER), .unset, .unset]) rfl k) ?_
      show OGot p.tables e below (T49.setTop (mkF m 20 #[.val (.int p1), .val (.int p2), .val (.int (2 : Int32)), .val (.int (1 : Int32)), .val (.ref w_DECIMAL), .val (.ref w_INTEGER), .unset, .unset] [])) _
      refine OGot.go (fun t k => XS.aload X49.here hx rfl (hb hby at_20) rfl rfl k) ?_
      show OGot p.tables e below (T49.setTop (mkF m 22 #[.val (.int p1), .val (.int p2), .val (.int (2 : Int32)), .val (.int (1 : Int32)), .val (.ref w_DECIMAL), .val (.ref w_INTEGER), .unset, .unset] [(.ref w_DECIMAL)])) _
      refine OGot.go (fun t k => XS.aload X49.here hx rfl (hb hby at_22) rfl rfl k) ?_
      show OGot p.tables e below (T49.setTop (mkF m 24 #[.val (.int p1), .val (.int p2), .val (.int (2 : Int32)), .val (.int (1 : Int32)), .val (.ref w_DECIMAL), .val (.ref w_INTEGER), .unset, .unset] [(.ref w_INTEGER), (.ref w_DECIMAL)])) _
      obtain ⟨cq50, kq50, q50a, q50b, q50c⟩ := isOf hZ e49 (G.2.2.2.2.2.1.ext O0.2)
      obtain ⟨_, _, ⟨T50, L50, k50, n50⟩, -, X50, ⟨Lc50, hQ50, l50, y50, z50⟩, st50⟩ := X49.virtualBack hx (y := (⟨"com/example/archipel/archipel/model/DataType", "takes", "(Lcom/example/archipel/archipel/model/DataType;)Z"⟩ : MethodName)) (z := (⟨"com/example/archipel/archipel/model/DataType", "takes", "(Lcom/example/archipel/archipel/model/DataType;)Z"⟩ : MethodName)) hown (mvT hZ (ow hw 9 rfl)) (mvT hZ (ow hw 10 rfl)) (notFace_of_selects (args := #[]) (mvT hZ (ow hw 12 rfl))) (mvT hZ (ow hw 12 rfl)) (mvT hZ (ow hw 11 rfl)) (by decide) (backOf (W := 0) (rm2_9 l Z a0 hw [] G  h0 n0 O0 ) hZ (ow hw 13 rfl) (ow hw 5 rfl) (by decide) (by decide)) q50a q50c (g := (mkF m 24 #[.val (.int p1), .val (.int p2), .val (.int (2 : Int32)), .val (.int (1 : Int32)), .val (.ref w_DECIMAL), .val (.ref w_INTEGER), .unset, .unset] [(.ref w_INTEGER), (.ref w_DECIMAL)])) rfl (by rw [hml]; rfl) (Steps.refl _) (argsL := [(.ref w_INTEGER)]) (rest := []) (lenOf pd_1 rfl) rfl (by show 2 * 0 + _ ≤ _; exact Nat.le_of_eq rfl) (hb hby at_24) (fun _ _ => ⟨rfl, e49, (by decide : 0 + 0 ≤ _), (by decide : 0 + 0 ≤ _)⟩)
      dsimp only [Pt.U, Pt.locs, Pt.cells, Pt.slots] at X50 l50 y50 z50 st50 hQ50
      subst l50 y50 z50
      obtain ⟨rfl, N50q, e50⟩ := hQ50
      have N50 := Fr.app N49 N50q
      refine OGot.on st50 ?_
      show OGot p.tables e below (T50.setTop (mkF m 27 #[.val (.int p1), .val (.int p2), .val (.int (2 : Int32)), .val (.int (1 : Int32)), .val (.ref w_DECIMAL), .val (.ref w_INTEGER), .unset, .unset] [(.int (1 : Int32))])) _
      refine OGot.go (fun t k => XS.istore X50.here hx rfl (hb hby at_27) rfl (l' := #[.val (.int p1), .val (.int p2), .val (.int (2 : Int32)), .val (.int (1 : Int32)), .val (.ref w_DECIMAL), .val (.ref w_INTEGER), .val (.int (1 : Int32)), .unset]) rfl k) ?_
      show OGot p.tables e below (T50.setTop (mkF m 29 #[.val (.int p1), .val (.int p2), .val (.int (2 : Int32)), .val (.int (1 : Int32)), .val (.ref w_DECIMAL), .val (.ref w_INTEGER), .val (.int (1 : Int32)), .unset] [])) _
      refine OGot.go (fun t k => X50.ldcInt hx hown (mvT hZ (ow hw 16 rfl)) (g := (mkF m 29 #[.val (.int p1), .val (.int p2), .val (.int (2 : Int32)), .val (.int (1 : Int32)), .val (.ref w_DECIMAL), .val (.ref w_INTEGER), .val (.int (1 : Int32)), .unset] [])) rfl (hb hby at_29) _ k) ?_
      show OGot p.tables e below (T50.setTop (mkF m 31 #[.val (.int p1), .val (.int p2), .val (.int (2 : Int32)), .val (.int (1 : Int32)), .val (.ref w_DECIMAL), .val (.ref w_INTEGER), .val (.int (1 : Int32)), .unset] [(.int (34337 : Int32))])) _
      refine OGot.go (fun t k => XS.iloadN X50.here hx rfl (hb hby at_31) rfl k) ?_
      show OGot p.tables e below (T50.setTop (mkF m 32 #[.val (.int p1), .val (.int p2), .val (.int (2 : Int32)), .val (.int (1 : Int32)), .val (.ref w_DECIMAL), .val (.ref w_INTEGER), .val (.int (1 : Int32)), .unset] [(.int (2 : Int32)), (.int (34337 : Int32))])) _
      refine OGot.go (fun t k => XS.iconst X50.here hx rfl (hb hby at_32) k) ?_
      show OGot p.tables e below (T50.setTop (mkF m 33 #[.val (.int p1), .val (.int p2), .val (.int (2 : Int32)), .val (.int (1 : Int32)), .val (.ref w_DECIMAL), .val (.ref w_INTEGER), .val (.int (1 : Int32)), .unset] [(.int (4 : Int32)), (.int (2 : Int32)), (.int (34337 : Int32))])) _
      refine OGot.go (fun t k => XS.imul X50.here hx rfl (hb hby at_33) rfl k) ?_
      show OGot p.tables e below (T50.setTop (mkF m 34 #[.val (.int p1), .val (.int p2), .val (.int (2 : Int32)), .val (.int (1 : Int32)), .val (.ref w_DECIMAL), .val (.ref w_INTEGER), .val (.int (1 : Int32)), .unset] [(.int ((2 : Int32) * (4 : Int32))), (.int (34337 : Int32))])) _
      rw [show ((2 : Int32) * (4 : Int32)) = (8 : Int32) from by decide]
      show OGot p.tables e below (T50.setTop (mkF m 34 #[.val (.int p1), .val (.int p2), .val (.int (2 : Int32)), .val (.int (1 : Int32)), .val (.ref w_DECIMAL), .val (.ref w_INTEGER), .val (.int (1 : Int32)), .unset] [(.int (8 : Int32)), (.int (34337 : Int32))])) _
      refine OGot.go (fun t k => XS.iloadN X50.here hx rfl (hb hby at_34) rfl k) ?_
      show OGot p.tables e below (T50.setTop (mkF m 35 #[.val (.int p1), .val (.int p2), .val (.int (2 : Int32)), .val (.int (1 : Int32)), .val (.ref w_DECIMAL), .val (.ref w_INTEGER), .val (.int (1 : Int32)), .unset] [(.int (1 : Int32)), (.int (8 : Int32)), (.int (34337 : Int32))])) _
      refine OGot.go (fun t k => XS.iadd X50.here hx rfl (hb hby at_35) rfl k) ?_
      show OGot p.tables e below (T50.setTop (mkF m 36 #[.val (.int p1), .val (.int p2), .val (.int (2 : Int32)), .val (.int (1 : Int32)), .val (.ref w_DECIMAL), .val (.ref w_INTEGER), .val (.int (1 : Int32)), .unset] [(.int ((8 : Int32) + (1 : Int32))), (.int (34337 : Int32))])) _
      rw [show ((8 : Int32) + (1 : Int32)) = (9 : Int32) from by decide]
      show OGot p.tables e below (T50.setTop (mkF m 36 #[.val (.int p1), .val (.int p2), .val (.int (2 : Int32)), .val (.int (1 : Int32)), .val (.ref w_DECIMAL), .val (.ref w_INTEGER), .val (.int (1 : Int32)), .unset] [(.int (9 : Int32)), (.int (34337 : Int32))])) _
      refine OGot.go (fun t k => XS.ishr X50.here hx rfl (hb hby at_36) rfl k) ?_
      show OGot p.tables e below (T50.setTop (mkF m 37 #[.val (.int p1), .val (.int p2), .val (.int (2 : Int32)), .val (.int (1 : Int32)), .val (.ref w_DECIMAL), .val (.ref w_INTEGER), .val (.int (1 : Int32)), .unset] [(.int ((34337 : Int32) >>> ((9 : Int32) &&& 31)))])) _
      rw [show ((34337 : Int32) >>> ((9 : Int32) &&& 31)) = (67 : Int32) from by decide]
      show OGot p.tables e below (T50.setTop (mkF m 37 #[.val (.int p1), .val (.int p2), .val (.int (2 : Int32)), .val (.int (1 : Int32)), .val (.ref w_DECIMAL), .val (.ref w_INTEGER), .val (.int (1 : Int32)), .unset] [(.int (67 : Int32))])) _
      refine OGot.go (fun t k => XS.iconst X50.here hx rfl (hb hby at_37) k) ?_
      show OGot p.tables e below (T50.setTop (mkF m 38 #[.val (.int p1), .val (.int p2), .val (.int (2 : Int32)), .val (.int (1 : Int32)), .val (.ref w_DECIMAL), .val (.ref w_INTEGER), .val (.int (1 : Int32)), .unset] [(.int (1 : Int32)), (.int (67 : Int32))])) _
      refine OGot.go (fun t k => XS.iand X50.here hx rfl (hb hby at_38) rfl k) ?_
      show OGot p.tables e below (T50.setTop (mkF m 39 #[.val (.int p1), .val (.int p2), .val (.int (2 : Int32)), .val (.int (1 : Int32)), .val (.ref w_DECIMAL), .val (.ref w_INTEGER), .val (.int (1 : Int32)), .unset] [(.int ((67 : Int32) &&& (1 : Int32)))])) _
      rw [show ((67 : Int32) &&& (1 : Int32)) = (1 : Int32) from by decide]
      show OGot p.tables e below (T50.setTop (mkF m 39 #[.val (.int p1), .val (.int p2), .val (.int (2 : Int32)), .val (.int (1 : Int32)), .val (.ref w_DECIMAL), .val (.ref w_INTEGER), .val (.int (1 : Int32)), .unset] [(.int (1 : Int32))])) _
      refine OGot.go (fun t k => XS.ifNo X50.here hx rfl (hb hby at_39) rfl (by decide) k) ?_
      show OGot p.tables e below (T50.setTop (mkF m 42 #[.val (.int p1), .val (.int p2), .val (.int (2 : Int32)), .val (.int (1 : Int32)), .val (.ref w_DECIMAL), .val (.ref w_INTEGER), .val (.int (1 : Int32)), .unset] [])) _
      refine OGot.go (fun t k => XS.iconst X50.here hx rfl (hb hby at_42) k) ?_
      show OGot p.tables e below (T50.setTop (mkF m 43 #[.val (.int p1), .val (.int p2), .val (.int (2 : Int32)), .val (.int (1 : Int32)), .val (.ref w_DECIMAL), .val (.ref w_INTEGER), .val (.int (1 : Int32)), .unset] [(.int (1 : Int32))])) _
      refine OGot.go (fun t k => XS.goto X50.here hx rfl (pc0 := 43) (pc' := 47) rfl (hb hby at_43) (by decide) (by decide) k) ?_
      show OGot p.tables e below (T50.setTop (mkF m 47 #[.val (.int p1), .val (.int p2), .val (.int (2 : Int32)), .val (.int (1 : Int32)), .val (.ref w_DECIMAL), .val (.ref w_INTEGER), .val (.int (1 : Int32)), .unset] [(.int (1 : Int32))])) _
      refine OGot.go (fun t k => XS.istore X50.here hx rfl (hb hby at_47) rfl (l' := #[.val (.int p1), .val (.int p2), .val (.int (2 : Int32)), .val (.int (1 : Int32)), .val (.ref w_DECIMAL), .val (.ref w_INTEGER), .val (.int (1 : Int32)), .val (.int (1 : Int32))]) rfl k) ?_
      show OGot p.tables e below (T50.setTop (mkF m 49 #[.val (.int p1), .val (.int p2), .val (.int (2 : Int32)), .val (.int (1 : Int32)), .val (.ref w_DECIMAL), .val (.ref w_INTEGER), .val (.int (1 : Int32)), .val (.int (1 : Int32))] [])) _
      refine OGot.go (fun t k => XS.iload X50.here hx rfl (hb hby at_49) rfl k) ?_
      show OGot p.tables e below (T50.setTop (mkF m 51 #[.val (.int p1), .val (.int p2), .val (.int (2 : Int32)), .val (.int (1 : Int32)), .val (.ref w_DECIMAL), .val (.ref w_INTEGER), .val (.int (1 : Int32)), .val (.int (1 : Int32))] [(.int (1 : Int32))])) _
      refine OGot.go (fun t k => XS.iload X50.here hx rfl (hb hby at_51) rfl k) ?_
      show OGot p.tables e below (T50.setTop (mkF m 53 #[.val (.int p1), .val (.int p2), .val (.int (2 : Int32)), .val (.int (1 : Int32)), .val (.ref w_DECIMAL), .val (.ref w_INTEGER), .val (.int (1 : Int32)), .val (.int (1 : Int32))] [(.int (1 : Int32)), (.int (1 : Int32))])) _
      refine OGot.go (fun t k => XS.icmpNo X50.here hx rfl (hb hby at_53) rfl (by decide) k) ?_
      show OGot p.tables e below (T50.setTop (mkF m 56 #[.val (.int p1), .val (.int p2), .val (.int (2 : Int32)), .val (.int (1 : Int32)), .val (.ref w_DECIMAL), .val (.ref w_INTEGER), .val (.int (1 : Int32)), .val (.int (1 : Int32))] [])) _
      refine OGot.go (fun t k => XS.iload X50.here hx rfl (hb hby at_56) rfl k) ?_
      show OGot p.tables e below (T50.setTop (mkF m 58 #[.val (.int p1), .val (.int p2), .val (.int (2 : Int32)), .val (.int (1 : Int32)), .val (.ref w_DECIMAL), .val (.ref w_INTEGER), .val (.int (1 : Int32)), .val (.int (1 : Int32))] [(.int (1 : Int32))])) _
      refine OGot.go (fun t k => XS.ifNo X50.here hx rfl (hb hby at_58) rfl (by decide) k) ?_
      show OGot p.tables e below (T50.setTop (mkF m 61 #[.val (.int p1), .val (.int p2), .val (.int (2 : Int32)), .val (.int (1 : Int32)), .val (.ref w_DECIMAL), .val (.ref w_INTEGER), .val (.int (1 : Int32)), .val (.int (1 : Int32))] [])) _
      refine OGot.go (fun t k => XS.aload X50.here hx rfl (hb hby at_61) rfl rfl k) ?_
      show OGot p.tables e below (T50.setTop (mkF m 63 #[.val (.int p1), .val (.int p2), .val (.int (2 : Int32)), .val (.int (1 : Int32)), .val (.ref w_DECIMAL), .val (.ref w_INTEGER), .val (.int (1 : Int32)), .val (.int (1 : Int32))] [(.ref w_DECIMAL)])) _
      refine OGot.go (fun t k => XS.aload X50.here hx rfl (hb hby at_63) rfl rfl k) ?_
      show OGot p.tables e below (T50.setTop (mkF m 65 #[.val (.int p1), .val (.int p2), .val (.int (2 : Int32)), .val (.int (1 : Int32)), .val (.ref w_DECIMAL), .val (.ref w_INTEGER), .val (.int (1 : Int32)), .val (.int (1 : Int32))] [(.ref w_INTEGER), (.ref w_DECIMAL)])) _
      obtain ⟨cq51, kq51, q51a, q51b, q51c⟩ := isOf hZ e50 (G.2.2.2.2.2.1.ext O0.2)
      obtain ⟨_, _, ⟨T51, L51, k51, n51⟩, -, X51, ⟨Lc51, hQ51, l51, y51, z51⟩, st51⟩ := X50.virtualBack hx (y := (⟨"com/example/archipel/archipel/model/DataType", "comparableWith", "(Lcom/example/archipel/archipel/model/DataType;)Z"⟩ : MethodName)) (z := (⟨"com/example/archipel/archipel/model/DataType", "comparableWith", "(Lcom/example/archipel/archipel/model/DataType;)Z"⟩ : MethodName)) hown (mvT hZ (ow hw 21 rfl)) (mvT hZ (ow hw 22 rfl)) (notFace_of_selects (args := #[]) (mvT hZ (ow hw 24 rfl))) (mvT hZ (ow hw 24 rfl)) (mvT hZ (ow hw 23 rfl)) (by decide) (backOf (W := 0) (rm3_2 l Z a0 hw [] G  h0 n0 O0 ) hZ (ow hw 25 rfl) (ow hw 5 rfl) (by decide) (by decide)) q51a q51c (g := (mkF m 65 #[.val (.int p1), .val (.int p2), .val (.int (2 : Int32)), .val (.int (1 : Int32)), .val (.ref w_DECIMAL), .val (.ref w_INTEGER), .val (.int (1 : Int32)), .val (.int (1 : Int32))] [(.ref w_INTEGER), (.ref w_DECIMAL)])) rfl (by rw [hml]; rfl) (Steps.refl _) (argsL := [(.ref w_INTEGER)]) (rest := []) (lenOf pd_1 rfl) rfl (by show 2 * 0 + _ ≤ _; exact Nat.le_of_eq rfl) (hb hby at_65) (fun _ _ => ⟨rfl, e50, (by decide : 0 + 0 ≤ _), (by decide : 0 + 0 ≤ _)⟩)
      dsimp only [Pt.U, Pt.locs, Pt.cells, Pt.slots] at X51 l51 y51 z51 st51 hQ51
      subst l51 y51 z51
      obtain ⟨rfl, N51q, e51⟩ := hQ51
      have N51 := Fr.app N50 N51q
      refine OGot.on st51 ?_
      show OGot p.tables e below (T51.setTop (mkF m 68 #[.val (.int p1), .val (.int p2), .val (.int (2 : Int32)), .val (.int (1 : Int32)), .val (.ref w_DECIMAL), .val (.ref w_INTEGER), .val (.int (1 : Int32)), .val (.int (1 : Int32))] [(.int (1 : Int32))])) _
      refine OGot.go (fun t k => XS.ifNo X51.here hx rfl (hb hby at_68) rfl (by decide) k) ?_
      show OGot p.tables e below (T51.setTop (mkF m 71 #[.val (.int p1), .val (.int p2), .val (.int (2 : Int32)), .val (.int (1 : Int32)), .val (.ref w_DECIMAL), .val (.ref w_INTEGER), .val (.int (1 : Int32)), .val (.int (1 : Int32))] [])) _
      refine OGot.go (fun t k => XS.iconst X51.here hx rfl (hb hby at_71) k) ?_
      show OGot p.tables e below (T51.setTop (mkF m 72 #[.val (.int p1), .val (.int p2), .val (.int (2 : Int32)), .val (.int (1 : Int32)), .val (.ref w_DECIMAL), .val (.ref w_INTEGER), .val (.int (1 : Int32)), .val (.int (1 : Int32))] [(.int (1 : Int32))])) _
      refine OGot.go (fun t k => XS.goto X51.here hx rfl (pc0 := 72) (pc' := 76) rfl (hb hby at_72) (by decide) (by decide) k) ?_
      show OGot p.tables e below (T51.setTop (mkF m 76 #[.val (.int p1), .val (.int p2), .val (.int (2 : Int32)), .val (.int (1 : Int32)), .val (.ref w_DECIMAL), .val (.ref w_INTEGER), .val (.int (1 : Int32)), .val (.int (1 : Int32))] [(.int (1 : Int32))])) _
      obtain ⟨fs, hr, hrun, hended, hW, hsame⟩ := X51.leave (v := some (.int (1 : Int32))) (fun h => by rw [Bd.returns] at h; cases h)
      refine ⟨_, _, retN X51 hx (t := .boolean) Bd.returns (by simp) (hb hby at_76) hr, hrun, hended, _, _, rfl, ?_, ⟨_, rfl⟩, hW, hsame.mono (by decide) (by decide)⟩
      exact (⟨rfl, N51⟩ : Q0 Z w_TEXT w_DATE w_DECIMAL w_INTEGER p1 p2 h0 n0 _ T51.heap _)
    · rw [hk43]
      show OGot p.tables e below (s₁.setTop (mkF m 7 #[.val (.int p1), .val (.int p2), .val (.int (2 : Int32)), .unset, .unset, .unset, .unset, .unset] [(.int (2 : Int32))])) _
      refine OGot.go (fun t k => XS.istoreN X0.here hx rfl (hb hby at_7) rfl (l' := #[.val (.int p1), .val (.int p2), .val (.int (2 : Int32)), .val (.int (2 : Int32)), .unset, .unset, .unset, .unset]) rfl k) ?_
      show OGot p.tables e below (s₁.setTop (mkF m 8 #[.val (.int p1), .val (.int p2), .val (.int (2 : Int32)), .val (.int (2 : Int32)), .unset, .unset, .unset, .unset] [])) _
      refine OGot.go (fun t k => XS.iloadN X0.here hx rfl (hb hby at_8) rfl k) ?_
      show OGot p.tables e below (s₁.setTop (mkF m 9 #[.val (.int p1), .val (.int p2), .val (.int (2 : Int32)), .val (.int (2 : Int32)), .unset, .unset, .unset, .unset] [(.int (2 : Int32))])) _
      obtain ⟨_, _, ⟨T52, L52, k52, n52⟩, -, X52, ⟨Lc52, hQ52, l52, y52, z52⟩, st52⟩ := Jvm.LawKit.callS X0 hx (y := (⟨"com/example/archipel/archipel/model/DataTypeTakesPinLaw", "pick", "(I)Lcom/example/archipel/archipel/model/DataType;"⟩ : MethodName)) hown (mvT hZ (ow hw 0 rfl)) (mvT hZ (ow hw 1 rfl)) (mvT hZ (ow hw 2 rfl)) (mvT hZ (ow hw 3 rfl)) (by decide) (backOf (W := 0) (rm1_2 l Z a0 hw [] G  h0 n0 O0 ) hZ (ow hw 3 rfl) (ow hw 2 rfl) (by decide) (by decide)) (g := (mkF m 9 #[.val (.int p1), .val (.int p2), .val (.int (2 : Int32)), .val (.int (2 : Int32)), .unset, .unset, .unset, .unset] [(.int (2 : Int32))])) rfl (by rw [hml]; rfl) (argsL := [(.int (2 : Int32))]) (rest := []) (lenOf pd_0 rfl) rfl (by show 2 * 0 + _ ≤ _; exact Nat.le_of_eq rfl) (hb hby at_9) (fun _ _ => ⟨rfl, e0, (by decide : 0 + 0 ≤ _), (by decide : 0 + 0 ≤ _)⟩)
      dsimp only [Pt.U, Pt.locs, Pt.cells, Pt.slots] at X52 l52 y52 z52 st52 hQ52
      subst l52 y52 z52
      obtain ⟨rfl, N52q, e52⟩ := hQ52
      have N52 := Fr.app N0 N52q
      refine OGot.go st52 ?_
      show OGot p.tables e below (T52.setTop (mkF m 12 #[.val (.int p1), .val (.int p2), .val (.int (2 : Int32)), .val (.int (2 : Int32)), .unset, .unset, .unset, .unset] [(.ref w_DECIMAL)])) _
      refine OGot.go (fun t k => XS.astore X52.here hx rfl (hb hby at_12) rfl rfl (l' := #[.val (.int p1), .val (.int p2), .val (.int (2 : Int32)), .val (.int (2 : Int32)), .val (.ref w_DECIMAL), .unset, .unset, .unset]) rfl k) ?_
      show OGot p.tables e below (T52.setTop (mkF m 14 #[.val (.int p1), .val (.int p2), .val (.int (2 : Int32)), .val (.int (2 : Int32)), .val (.ref w_DECIMAL), .unset, .unset, .unset] [])) _
      refine OGot.go (fun t k => XS.iloadN X52.here hx rfl (hb hby at_14) rfl k) ?_
      show OGot p.tables e below (T52.setTop (mkF m 15 #[.val (.int p1), .val (.int p2), .val (.int (2 : Int32)), .val (.int (2 : Int32)), .val (.ref w_DECIMAL), .unset, .unset, .unset] [(.int (2 : Int32))])) _
      obtain ⟨_, _, ⟨T53, L53, k53, n53⟩, -, X53, ⟨Lc53, hQ53, l53, y53, z53⟩, st53⟩ := Jvm.LawKit.callS X52 hx (y := (⟨"com/example/archipel/archipel/model/DataTypeTakesPinLaw", "pick", "(I)Lcom/example/archipel/archipel/model/DataType;"⟩ : MethodName)) hown (mvT hZ (ow hw 0 rfl)) (mvT hZ (ow hw 1 rfl)) (mvT hZ (ow hw 2 rfl)) (mvT hZ (ow hw 3 rfl)) (by decide) (backOf (W := 0) (rm1_2 l Z a0 hw [] G  h0 n0 O0 ) hZ (ow hw 3 rfl) (ow hw 2 rfl) (by decide) (by decide)) (g := (mkF m 15 #[.val (.int p1), .val (.int p2), .val (.int (2 : Int32)), .val (.int (2 : Int32)), .val (.ref w_DECIMAL), .unset, .unset, .unset] [(.int (2 : Int32))])) rfl (by rw [hml]; rfl) (argsL := [(.int (2 : Int32))]) (rest := []) (lenOf pd_0 rfl) rfl (by show 2 * 0 + _ ≤ _; exact Nat.le_of_eq rfl) (hb hby at_15) (fun _ _ => ⟨rfl, e52, (by decide : 0 + 0 ≤ _), (by decide : 0 + 0 ≤ _)⟩)
      dsimp only [Pt.U, Pt.locs, Pt.cells, Pt.slots] at X53 l53 y53 z53 st53 hQ53
      subst l53 y53 z53
      obtain ⟨rfl, N53q, e53⟩ := hQ53
      have N53 := Fr.app N52 N53q
      refine OGot.go st53 ?_
      show OGot p.tables e below (T53.setTop (mkF m 18 #[.val (.int p1), .val (.int p2), .val (.int (2 : Int32)), .val (.int (2 : Int32)), .val (.ref w_DECIMAL), .unset, .unset, .unset] [(.ref w_DECIMAL)])) _
      refine OGot.go (fun t k => XS.astore X53.here hx rfl (hb hby at_18) rfl rfl (l' := #[.val (.int p1), .val (.int p2), .val (.int (2 : Int32)), .val (.int (2 : Int32)), .val (.ref w_DECIMAL), .val (.ref w_DECIMAL), .unset, .unset]) rfl k) ?_
      show OGot p.tables e below (T53.setTop (mkF m 20 #[.val (.int p1), .val (.int p2), .val (.int (2 : Int32)), .val (.int (2 : Int32)), .val (.ref w_DECIMAL), .val (.ref w_DECIMAL), .unset, .unset] [])) _
      refine OGot.go (fun t k => XS.aload X53.here hx rfl (hb hby at_20) rfl rfl k) ?_
      show OGot p.tables e below (T53.setTop (mkF m 22 #[.val (.int p1), .val (.int p2), .val (.int (2 : Int32)), .val (.int (2 : Int32)), .val (.ref w_DECIMAL), .val (.ref w_DECIMAL), .unset, .unset] [(.ref w_DECIMAL)])) _
      refine OGot.go (fun t k => XS.aload X53.here hx rfl (hb hby at_22) rfl rfl k) ?_
      show OGot p.tables e below (T53.setTop (mkF m 24 #[.val (.int p1), .val (.int p2), .val (.int (2 : Int32)), .val (.int (2 : Int32)), .val (.ref w_DECIMAL), .val (.ref w_DECIMAL), .unset, .unset] [(.ref w_DECIMAL), (.ref w_DECIMAL)])) _
      obtain ⟨cq54, kq54, q54a, q54b, q54c⟩ := isOf hZ e53 (G.2.2.2.2.2.1.ext O0.2)
      obtain ⟨_, _, ⟨T54, L54, k54, n54⟩, -, X54, ⟨Lc54, hQ54, l54, y54, z54⟩, st54⟩ := X53.virtualBack hx (y := (⟨"com/example/archipel/archipel/model/DataType", "takes", "(Lcom/example/archipel/archipel/model/DataType;)Z"⟩ : MethodName)) (z := (⟨"com/example/archipel/archipel/model/DataType", "takes", "(Lcom/example/archipel/archipel/model/DataType;)Z"⟩ : MethodName)) hown (mvT hZ (ow hw 9 rfl)) (mvT hZ (ow hw 10 rfl)) (notFace_of_selects (args := #[]) (mvT hZ (ow hw 12 rfl))) (mvT hZ (ow hw 12 rfl)) (mvT hZ (ow hw 11 rfl)) (by decide) (backOf (W := 0) (rm2_10 l Z a0 hw [] G  h0 n0 O0 ) hZ (ow hw 13 rfl) (ow hw 5 rfl) (by decide) (by decide)) q54a q54c (g := (mkF m 24 #[.val (.int p1), .val (.int p2), .val (.int (2 : Int32)), .val (.int (2 : Int32)), .val (.ref w_DECIMAL), .val (.ref w_DECIMAL), .unset, .unset] [(.ref w_DECIMAL), (.ref w_DECIMAL)])) rfl (by rw [hml]; rfl) (Steps.refl _) (argsL := [(.ref w_DECIMAL)]) (rest := []) (lenOf pd_1 rfl) rfl (by show 2 * 0 + _ ≤ _; exact Nat.le_of_eq rfl) (hb hby at_24) (fun _ _ => ⟨rfl, e53, (by decide : 0 + 0 ≤ _), (by decide : 0 + 0 ≤ _)⟩)
      dsimp only [Pt.U, Pt.locs, Pt.cells, Pt.slots] at X54 l54 y54 z54 st54 hQ54
      subst l54 y54 z54
      obtain ⟨rfl, N54q, e54⟩ := hQ54
      have N54 := Fr.app N53 N54q
      refine OGot.on st54 ?_
      show OGot p.tables e below (T54.setTop (mkF m 27 #[.val (.int p1), .val (.int p2), .val (.int (2 : Int32)), .val (.int (2 : Int32)), .val (.ref w_DECIMAL), .val (.ref w_DECIMAL), .unset, .unset] [(.int (1 : Int32))])) _
      refine OGot.go (fun t k => XS.istore X54.here hx rfl (hb hby at_27) rfl (l' := #[.val (.int p1), .val (.int p2), .val (.int (2 : Int32)), .val (.int (2 : Int32)), .val (.ref w_DECIMAL), .val (.ref w_DECIMAL), .val (.int (1 : Int32)), .unset]) rfl k) ?_
      show OGot p.tables e below (T54.setTop (mkF m 29 #[.val (.int p1), .val (.int p2), .val (.int (2 : Int32)), .val (.int (2 : Int32)), .val (.ref w_DECIMAL), .val (.ref w_DECIMAL), .val (.int (1 : Int32)), .unset] [])) _
      refine OGot.go (fun t k => X54.ldcInt hx hown (mvT hZ (ow hw 16 rfl)) (g := (mkF m 29 #[.val (.int p1), .val (.int p2), .val (.int (2 : Int32)), .val (.int (2 : Int32)), .val (.ref w_DECIMAL), .val (.ref w_DECIMAL), .val (.int (1 : Int32)), .unset] [])) rfl (hb hby at_29) _ k) ?_
      show OGot p.tables e below (T54.setTop (mkF m 31 #[.val (.int p1), .val (.int p2), .val (.int (2 : Int32)), .val (.int (2 : Int32)), .val (.ref w_DECIMAL), .val (.ref w_DECIMAL), .val (.int (1 : Int32)), .unset] [(.int (34337 : Int32))])) _
      refine OGot.go (fun t k => XS.iloadN X54.here hx rfl (hb hby at_31) rfl k) ?_
      show OGot p.tables e below (T54.setTop (mkF m 32 #[.val (.int p1), .val (.int p2), .val (.int (2 : Int32)), .val (.int (2 : Int32)), .val (.ref w_DECIMAL), .val (.ref w_DECIMAL), .val (.int (1 : Int32)), .unset] [(.int (2 : Int32)), (.int (34337 : Int32))])) _
      refine OGot.go (fun t k => XS.iconst X54.here hx rfl (hb hby at_32) k) ?_
      show OGot p.tables e below (T54.setTop (mkF m 33 #[.val (.int p1), .val (.int p2), .val (.int (2 : Int32)), .val (.int (2 : Int32)), .val (.ref w_DECIMAL), .val (.ref w_DECIMAL), .val (.int (1 : Int32)), .unset] [(.int (4 : Int32)), (.int (2 : Int32)), (.int (34337 : Int32))])) _
      refine OGot.go (fun t k => XS.imul X54.here hx rfl (hb hby at_33) rfl k) ?_
      show OGot p.tables e below (T54.setTop (mkF m 34 #[.val (.int p1), .val (.int p2), .val (.int (2 : Int32)), .val (.int (2 : Int32)), .val (.ref w_DECIMAL), .val (.ref w_DECIMAL), .val (.int (1 : Int32)), .unset] [(.int ((2 : Int32) * (4 : Int32))), (.int (34337 : Int32))])) _
      rw [show ((2 : Int32) * (4 : Int32)) = (8 : Int32) from by decide]
      show OGot p.tables e below (T54.setTop (mkF m 34 #[.val (.int p1), .val (.int p2), .val (.int (2 : Int32)), .val (.int (2 : Int32)), .val (.ref w_DECIMAL), .val (.ref w_DECIMAL), .val (.int (1 : Int32)), .unset] [(.int (8 : Int32)), (.int (34337 : Int32))])) _
      refine OGot.go (fun t k => XS.iloadN X54.here hx rfl (hb hby at_34) rfl k) ?_
      show OGot p.tables e below (T54.setTop (mkF m 35 #[.val (.int p1), .val (.int p2), .val (.int (2 : Int32)), .val (.int (2 : Int32)), .val (.ref w_DECIMAL), .val (.ref w_DECIMAL), .val (.int (1 : Int32)), .unset] [(.int (2 : Int32)), (.int (8 : Int32)), (.int (34337 : Int32))])) _
      refine OGot.go (fun t k => XS.iadd X54.here hx rfl (hb hby at_35) rfl k) ?_
      show OGot p.tables e below (T54.setTop (mkF m 36 #[.val (.int p1), .val (.int p2), .val (.int (2 : Int32)), .val (.int (2 : Int32)), .val (.ref w_DECIMAL), .val (.ref w_DECIMAL), .val (.int (1 : Int32)), .unset] [(.int ((8 : Int32) + (2 : Int32))), (.int (34337 : Int32))])) _
      rw [show ((8 : Int32) + (2 : Int32)) = (10 : Int32) from by decide]
      show OGot p.tables e below (T54.setTop (mkF m 36 #[.val (.int p1), .val (.int p2), .val (.int (2 : Int32)), .val (.int (2 : Int32)), .val (.ref w_DECIMAL), .val (.ref w_DECIMAL), .val (.int (1 : Int32)), .unset] [(.int (10 : Int32)), (.int (34337 : Int32))])) _
      refine OGot.go (fun t k => XS.ishr X54.here hx rfl (hb hby at_36) rfl k) ?_
      show OGot p.tables e below (T54.setTop (mkF m 37 #[.val (.int p1), .val (.int p2), .val (.int (2 : Int32)), .val (.int (2 : Int32)), .val (.ref w_DECIMAL), .val (.ref w_DECIMAL), .val (.int (1 : Int32)), .unset] [(.int ((34337 : Int32) >>> ((10 : Int32) &&& 31)))])) _
      rw [show ((34337 : Int32) >>> ((10 : Int32) &&& 31)) = (33 : Int32) from by decide]
      show OGot p.tables e below (T54.setTop (mkF m 37 #[.val (.int p1), .val (.int p2), .val (.int (2 : Int32)), .val (.int (2 : Int32)), .val (.ref w_DECIMAL), .val (.ref w_DECIMAL), .val (.int (1 : Int32)), .unset] [(.int (33 : Int32))])) _
      refine OGot.go (fun t k => XS.iconst X54.here hx rfl (hb hby at_37) k) ?_
      show OGot p.tables e below (T54.setTop (mkF m 38 #[.val (.int p1), .val (.int p2), .val (.int (2 : Int32)), .val (.int (2 : Int32)), .val (.ref w_DECIMAL), .val (.ref w_DECIMAL), .val (.int (1 : Int32)), .unset] [(.int (1 : Int32)), (.int (33 : Int32))])) _
      refine OGot.go (fun t k => XS.iand X54.here hx rfl (hb hby at_38) rfl k) ?_
      show OGot p.tables e below (T54.setTop (mkF m 39 #[.val (.int p1), .val (.int p2), .val (.int (2 : Int32)), .val (.int (2 : Int32)), .val (.ref w_DECIMAL), .val (.ref w_DECIMAL), .val (.int (1 : Int32)), .unset] [(.int ((33 : Int32) &&& (1 : Int32)))])) _
      rw [show ((33 : Int32) &&& (1 : Int32)) = (1 : Int32) from by decide]
      show OGot p.tables e below (T54.setTop (mkF m 39 #[.val (.int p1), .val (.int p2), .val (.int (2 : Int32)), .val (.int (2 : Int32)), .val (.ref w_DECIMAL), .val (.ref w_DECIMAL), .val (.int (1 : Int32)), .unset] [(.int (1 : Int32))])) _
      refine OGot.go (fun t k => XS.ifNo X54.here hx rfl (hb hby at_39) rfl (by decide) k) ?_
      show OGot p.tables e below (T54.setTop (mkF m 42 #[.val (.int p1), .val (.int p2), .val (.int (2 : Int32)), .val (.int (2 : Int32)), .val (.ref w_DECIMAL), .val (.ref w_DECIMAL), .val (.int (1 : Int32)), .unset] [])) _
      refine OGot.go (fun t k => XS.iconst X54.here hx rfl (hb hby at_42) k) ?_
      show OGot p.tables e below (T54.setTop (mkF m 43 #[.val (.int p1), .val (.int p2), .val (.int (2 : Int32)), .val (.int (2 : Int32)), .val (.ref w_DECIMAL), .val (.ref w_DECIMAL), .val (.int (1 : Int32)), .unset] [(.int (1 : Int32))])) _
      refine OGot.go (fun t k => XS.goto X54.here hx rfl (pc0 := 43) (pc' := 47) rfl (hb hby at_43) (by decide) (by decide) k) ?_
      show OGot p.tables e below (T54.setTop (mkF m 47 #[.val (.int p1), .val (.int p2), .val (.int (2 : Int32)), .val (.int (2 : Int32)), .val (.ref w_DECIMAL), .val (.ref w_DECIMAL), .val (.int (1 : Int32)), .unset] [(.int (1 : Int32))])) _
      refine OGot.go (fun t k => XS.istore X54.here hx rfl (hb hby at_47) rfl (l' := #[.val (.int p1), .val (.int p2), .val (.int (2 : Int32)), .val (.int (2 : Int32)), .val (.ref w_DECIMAL), .val (.ref w_DECIMAL), .val (.int (1 : Int32)), .val (.int (1 : Int32))]) rfl k) ?_
      show OGot p.tables e below (T54.setTop (mkF m 49 #[.val (.int p1), .val (.int p2), .val (.int (2 : Int32)), .val (.int (2 : Int32)), .val (.ref w_DECIMAL), .val (.ref w_DECIMAL), .val (.int (1 : Int32)), .val (.int (1 : Int32))] [])) _
      refine OGot.go (fun t k => XS.iload X54.here hx rfl (hb hby at_49) rfl k) ?_
      show OGot p.tables e below (T54.setTop (mkF m 51 #[.val (.int p1), .val (.int p2), .val (.int (2 : Int32)), .val (.int (2 : Int32)), .val (.ref w_DECIMAL), .val (.ref w_DECIMAL), .val (.int (1 : Int32)), .val (.int (1 : Int32))] [(.int (1 : Int32))])) _
      refine OGot.go (fun t k => XS.iload X54.here hx rfl (hb hby at_51) rfl k) ?_
      show OGot p.tables e below (T54.setTop (mkF m 53 #[.val (.int p1), .val (.int p2), .val (.int (2 : Int32)), .val (.int (2 : Int32)), .val (.ref w_DECIMAL), .val (.ref w_DECIMAL), .val (.int (1 : Int32)), .val (.int (1 : Int32))] [(.int (1 : Int32)), (.int (1 : Int32))])) _
      refine OGot.go (fun t k => XS.icmpNo X54.here hx rfl (hb hby at_53) rfl (by decide) k) ?_
      show OGot p.tables e below (T54.setTop (mkF m 56 #[.val (.int p1), .val (.int p2), .val (.int (2 : Int32)), .val (.int (2 : Int32)), .val (.ref w_DECIMAL), .val (.ref w_DECIMAL), .val (.int (1 : Int32)), .val (.int (1 : Int32))] [])) _
      refine OGot.go (fun t k => XS.iload X54.here hx rfl (hb hby at_56) rfl k) ?_
      show OGot p.tables e below (T54.setTop (mkF m 58 #[.val (.int p1), .val (.int p2), .val (.int (2 : Int32)), .val (.int (2 : Int32)), .val (.ref w_DECIMAL), .val (.ref w_DECIMAL), .val (.int (1 : Int32)), .val (.int (1 : Int32))] [(.int (1 : Int32))])) _
      refine OGot.go (fun t k => XS.ifNo X54.here hx rfl (hb hby at_58) rfl (by decide) k) ?_
      show OGot p.tables e below (T54.setTop (mkF m 61 #[.val (.int p1), .val (.int p2), .val (.int (2 : Int32)), .val (.int (2 : Int32)), .val (.ref w_DECIMAL), .val (.ref w_DECIMAL), .val (.int (1 : Int32)), .val (.int (1 : Int32))] [])) _
      refine OGot.go (fun t k => XS.aload X54.here hx rfl (hb hby at_61) rfl rfl k) ?_
      show OGot p.tables e below (T54.setTop (mkF m 63 #[.val (.int p1), .val (.int p2), .val (.int (2 : Int32)), .val (.int (2 : Int32)), .val (.ref w_DECIMAL), .val (.ref w_DECIMAL), .val (.int (1 : Int32)), .val (.int (1 : Int32))] [(.ref w_DECIMAL)])) _
      refine OGot.go (fun t k => XS.aload X54.here hx rfl (hb hby at_63) rfl rfl k) ?_
      show OGot p.tables e below (T54.setTop (mkF m 65 #[.val (.int p1), .val (.int p2), .val (.int (2 : Int32)), .val (.int (2 : Int32)), .val (.ref w_DECIMAL), .val (.ref w_DECIMAL), .val (.int (1 : Int32)), .val (.int (1 : Int32))] [(.ref w_DECIMAL), (.ref w_DECIMAL)])) _
      obtain ⟨cq55, kq55, q55a, q55b, q55c⟩ := isOf hZ e54 (G.2.2.2.2.2.1.ext O0.2)
      obtain ⟨_, _, ⟨T55, L55, k55, n55⟩, -, X55, ⟨Lc55, hQ55, l55, y55, z55⟩, st55⟩ := X54.virtualBack hx (y := (⟨"com/example/archipel/archipel/model/DataType", "comparableWith", "(Lcom/example/archipel/archipel/model/DataType;)Z"⟩ : MethodName)) (z := (⟨"com/example/archipel/archipel/model/DataType", "comparableWith", "(Lcom/example/archipel/archipel/model/DataType;)Z"⟩ : MethodName)) hown (mvT hZ (ow hw 21 rfl)) (mvT hZ (ow hw 22 rfl)) (notFace_of_selects (args := #[]) (mvT hZ (ow hw 24 rfl))) (mvT hZ (ow hw 24 rfl)) (mvT hZ (ow hw 23 rfl)) (by decide) (backOf (W := 0) (rm3_3 l Z a0 hw [] G  h0 n0 O0 ) hZ (ow hw 25 rfl) (ow hw 5 rfl) (by decide) (by decide)) q55a q55c (g := (mkF m 65 #[.val (.int p1), .val (.int p2), .val (.int (2 : Int32)), .val (.int (2 : Int32)), .val (.ref w_DECIMAL), .val (.ref w_DECIMAL), .val (.int (1 : Int32)), .val (.int (1 : Int32))] [(.ref w_DECIMAL), (.ref w_DECIMAL)])) rfl (by rw [hml]; rfl) (Steps.refl _) (argsL := [(.ref w_DECIMAL)]) (rest := []) (lenOf pd_1 rfl) rfl (by show 2 * 0 + _ ≤ _; exact Nat.le_of_eq rfl) (hb hby at_65) (fun _ _ => ⟨rfl, e54, (by decide : 0 + 0 ≤ _), (by decide : 0 + 0 ≤ _)⟩)
      dsimp only [Pt.U, Pt.locs, Pt.cells, Pt.slots] at X55 l55 y55 z55 st55 hQ55
      subst l55 y55 z55
      obtain ⟨rfl, N55q, e55⟩ := hQ55
      have N55 := Fr.app N54 N55q
      refine OGot.on st55 ?_
      show OGot p.tables e below (T55.setTop (mkF m 68 #[.val (.int p1), .val (.int p2), .val (.int (2 : Int32)), .val (.int (2 : Int32)), .val (.ref w_DECIMAL), .val (.ref w_DECIMAL), .val (.int (1 : Int32)), .val (.int (1 : Int32))] [(.int (1 : Int32))])) _
      refine OGot.go (fun t k => XS.ifNo X55.here hx rfl (hb hby at_68) rfl (by decide) k) ?_
      show OGot p.tables e below (T55.setTop (mkF m 71 #[.val (.int p1), .val (.int p2), .val (.int (2 : Int32)), .val (.int (2 : Int32)), .val (.ref w_DECIMAL), .val (.ref w_DECIMAL), .val (.int (1 : Int32)), .val (.int (1 : Int32))] [])) _
      refine OGot.go (fun t k => XS.iconst X55.here hx rfl (hb hby at_71) k) ?_
      show OGot p.tables e below (T55.setTop (mkF m 72 #[.val (.int p1), .val (.int p2), .val (.int (2 : Int32)), .val (.int (2 : Int32)), .val (.ref w_DECIMAL), .val (.ref w_DECIMAL), .val (.int (1 : Int32)), .val (.int (1 : Int32))] [(.int (1 : Int32))])) _
      refine OGot.go (fun t k => XS.goto X55.here hx rfl (pc0 := 72) (pc' := 76) rfl (hb hby at_72) (by decide) (by decide) k) ?_
      show OGot p.tables e below (T55.setTop (mkF m 76 #[.val (.int p1), .val (.int p2), .val (.int (2 : Int32)), .val (.int (2 : Int32)), .val (.ref w_DECIMAL), .val (.ref w_DECIMAL), .val (.int (1 : Int32)), .val (.int (1 : Int32))] [(.int (1 : Int32))])) _
      obtain ⟨fs, hr, hrun, hended, hW, hsame⟩ := X55.leave (v := some (.int (1 : Int32))) (fun h => by rw [Bd.returns] at h; cases h)
      refine ⟨_, _, retN X55 hx (t := .boolean) Bd.returns (by simp) (hb hby at_76) hr, hrun, hended, _, _, rfl, ?_, ⟨_, rfl⟩, hW, hsame.mono (by decide) (by decide)⟩
      exact (⟨rfl, N55⟩ : Q0 Z w_TEXT w_DATE w_DECIMAL w_INTEGER p1 p2 h0 n0 _ T55.heap _)
    · rw [hk44]
      show OGot p.tables e below (s₁.setTop (mkF m 7 #[.val (.int p1), .val (.int p2), .val (.int (2 : Int32)), .unset, .unset, .unset, .unset, .unset] [(.int (3 : Int32))])) _
      refine OGot.go (fun t k => XS.istoreN X0.here hx rfl (hb hby at_7) rfl (l' := #[.val (.int p1), .val (.int p2), .val (.int (2 : Int32)), .val (.int (3 : Int32)), .unset, .unset, .unset, .unset]) rfl k) ?_
      show OGot p.tables e below (s₁.setTop (mkF m 8 #[.val (.int p1), .val (.int p2), .val (.int (2 : Int32)), .val (.int (3 : Int32)), .unset, .unset, .unset, .unset] [])) _
      refine OGot.go (fun t k => XS.iloadN X0.here hx rfl (hb hby at_8) rfl k) ?_
      show OGot p.tables e below (s₁.setTop (mkF m 9 #[.val (.int p1), .val (.int p2), .val (.int (2 : Int32)), .val (.int (3 : Int32)), .unset, .unset, .unset, .unset] [(.int (2 : Int32))])) _
      obtain ⟨_, _, ⟨T56, L56, k56, n56⟩, -, X56, ⟨Lc56, hQ56, l56, y56, z56⟩, st56⟩ := Jvm.LawKit.callS X0 hx (y := (⟨"com/example/archipel/archipel/model/DataTypeTakesPinLaw", "pick", "(I)Lcom/example/archipel/archipel/model/DataType;"⟩ : MethodName)) hown (mvT hZ (ow hw 0 rfl)) (mvT hZ (ow hw 1 rfl)) (mvT hZ (ow hw 2 rfl)) (mvT hZ (ow hw 3 rfl)) (by decide) (backOf (W := 0) (rm1_2 l Z a0 hw [] G  h0 n0 O0 ) hZ (ow hw 3 rfl) (ow hw 2 rfl) (by decide) (by decide)) (g := (mkF m 9 #[.val (.int p1), .val (.int p2), .val (.int (2 : Int32)), .val (.int (3 : Int32)), .unset, .unset, .unset, .unset] [(.int (2 : Int32))])) rfl (by rw [hml]; rfl) (argsL := [(.int (2 : Int32))]) (rest := []) (lenOf pd_0 rfl) rfl (by show 2 * 0 + _ ≤ _; exact Nat.le_of_eq rfl) (hb hby at_9) (fun _ _ => ⟨rfl, e0, (by decide : 0 + 0 ≤ _), (by decide : 0 + 0 ≤ _)⟩)
      dsimp only [Pt.U, Pt.locs, Pt.cells, Pt.slots] at X56 l56 y56 z56 st56 hQ56
      subst l56 y56 z56
      obtain ⟨rfl, N56q, e56⟩ := hQ56
      have N56 := Fr.app N0 N56q
      refine OGot.go st56 ?_
      show OGot p.tables e below (T56.setTop (mkF m 12 #[.val (.int p1), .val (.int p2), .val (.int (2 : Int32)), .val (.int (3 : Int32)), .unset, .unset, .unset, .unset] [(.ref w_DECIMAL)])) _
      refine OGot.go (fun t k => XS.astore X56.here hx rfl (hb hby at_12) rfl rfl (l' := #[.val (.int p1), .val (.int p2), .val (.int (2 : Int32)), .val (.int (3 : Int32)), .val (.ref w_DECIMAL), .unset, .unset, .unset]) rfl k) ?_
      show OGot p.tables e below (T56.setTop (mkF m 14 #[.val (.int p1), .val (.int p2), .val (.int (2 : Int32)), .val (.int (3 : Int32)), .val (.ref w_DECIMAL), .unset, .unset, .unset] [])) _
      refine OGot.go (fun t k => XS.iloadN X56.here hx rfl (hb hby at_14) rfl k) ?_
      show OGot p.tables e below (T56.setTop (mkF m 15 #[.val (.int p1), .val (.int p2), .val (.int (2 : Int32)), .val (.int (3 : Int32)), .val (.ref w_DECIMAL), .unset, .unset, .unset] [(.int (3 : Int32))])) _
      obtain ⟨_, _, ⟨T57, L57, k57, n57⟩, -, X57, ⟨Lc57, hQ57, l57, y57, z57⟩, st57⟩ := Jvm.LawKit.callS X56 hx (y := (⟨"com/example/archipel/archipel/model/DataTypeTakesPinLaw", "pick", "(I)Lcom/example/archipel/archipel/model/DataType;"⟩ : MethodName)) hown (mvT hZ (ow hw 0 rfl)) (mvT hZ (ow hw 1 rfl)) (mvT hZ (ow hw 2 rfl)) (mvT hZ (ow hw 3 rfl)) (by decide) (backOf (W := 0) (rm1_3 l Z a0 hw [] G  h0 n0 O0 ) hZ (ow hw 3 rfl) (ow hw 2 rfl) (by decide) (by decide)) (g := (mkF m 15 #[.val (.int p1), .val (.int p2), .val (.int (2 : Int32)), .val (.int (3 : Int32)), .val (.ref w_DECIMAL), .unset, .unset, .unset] [(.int (3 : Int32))])) rfl (by rw [hml]; rfl) (argsL := [(.int (3 : Int32))]) (rest := []) (lenOf pd_0 rfl) rfl (by show 2 * 0 + _ ≤ _; exact Nat.le_of_eq rfl) (hb hby at_15) (fun _ _ => ⟨rfl, e56, (by decide : 0 + 0 ≤ _), (by decide : 0 + 0 ≤ _)⟩)
      dsimp only [Pt.U, Pt.locs, Pt.cells, Pt.slots] at X57 l57 y57 z57 st57 hQ57
      subst l57 y57 z57
      obtain ⟨rfl, N57q, e57⟩ := hQ57
      have N57 := Fr.app N56 N57q
      refine OGot.go st57 ?_
      show OGot p.tables e below (T57.setTop (mkF m 18 #[.val (.int p1), .val (.int p2), .val (.int (2 : Int32)), .val (.int (3 : Int32)), .val (.ref w_DECIMAL), .unset, .unset, .unset] [(.ref w_DATE)])) _
      refine OGot.go (fun t k => XS.astore X57.here hx rfl (hb hby at_18) rfl rfl (l' := #[.val (.int p1), .val (.int p2), .val (.int (2 : Int32)), .val (.int (3 : Int32)), .val (.ref w_DECIMAL), .val (.ref w_DATE), .unset, .unset]) rfl k) ?_
      show OGot p.tables e below (T57.setTop (mkF m 20 #[.val (.int p1), .val (.int p2), .val (.int (2 : Int32)), .val (.int (3 : Int32)), .val (.ref w_DECIMAL), .val (.ref w_DATE), .unset, .unset] [])) _
      refine OGot.go (fun t k => XS.aload X57.here hx rfl (hb hby at_20) rfl rfl k) ?_
      show OGot p.tables e below (T57.setTop (mkF m 22 #[.val (.int p1), .val (.int p2), .val (.int (2 : Int32)), .val (.int (3 : Int32)), .val (.ref w_DECIMAL), .val (.ref w_DATE), .unset, .unset] [(.ref w_DECIMAL)])) _
      refine OGot.go (fun t k => XS.aload X57.here hx rfl (hb hby at_22) rfl rfl k) ?_
      show OGot p.tables e below (T57.setTop (mkF m 24 #[.val (.int p1), .val (.int p2), .val (.int (2 : Int32)), .val (.int (3 : Int32)), .val (.ref w_DECIMAL), .val (.ref w_DATE), .unset, .unset] [(.ref w_DATE), (.ref w_DECIMAL)])) _
      obtain ⟨cq58, kq58, q58a, q58b, q58c⟩ := isOf hZ e57 (G.2.2.2.2.2.1.ext O0.2)
      obtain ⟨_, _, ⟨T58, L58, k58, n58⟩, -, X58, ⟨Lc58, hQ58, l58, y58, z58⟩, st58⟩ := X57.virtualBack hx (y := (⟨"com/example/archipel/archipel/model/DataType", "takes", "(Lcom/example/archipel/archipel/model/DataType;)Z"⟩ : MethodName)) (z := (⟨"com/example/archipel/archipel/model/DataType", "takes", "(Lcom/example/archipel/archipel/model/DataType;)Z"⟩ : MethodName)) hown (mvT hZ (ow hw 9 rfl)) (mvT hZ (ow hw 10 rfl)) (notFace_of_selects (args := #[]) (mvT hZ (ow hw 12 rfl))) (mvT hZ (ow hw 12 rfl)) (mvT hZ (ow hw 11 rfl)) (by decide) (backOf (W := 0) (rm2_11 l Z a0 hw [] G  h0 n0 O0 ) hZ (ow hw 13 rfl) (ow hw 5 rfl) (by decide) (by decide)) q58a q58c (g := (mkF m 24 #[.val (.int p1), .val (.int p2), .val (.int (2 : Int32)), .val (.int (3 : Int32)), .val (.ref w_DECIMAL), .val (.ref w_DATE), .unset, .unset] [(.ref w_DATE), (.ref w_DECIMAL)])) rfl (by rw [hml]; rfl) (Steps.refl _) (argsL := [(.ref w_DATE)]) (rest := []) (lenOf pd_1 rfl) rfl (by show 2 * 0 + _ ≤ _; exact Nat.le_of_eq rfl) (hb hby at_24) (fun _ _ => ⟨rfl, e57, (by decide : 0 + 0 ≤ _), (by decide : 0 + 0 ≤ _)⟩)
      dsimp only [Pt.U, Pt.locs, Pt.cells, Pt.slots] at X58 l58 y58 z58 st58 hQ58
      subst l58 y58 z58
      obtain ⟨rfl, N58q, e58⟩ := hQ58
      have N58 := Fr.app N57 N58q
      refine OGot.on st58 ?_
      show OGot p.tables e below (T58.setTop (mkF m 27 #[.val (.int p1), .val (.int p2), .val (.int (2 : Int32)), .val (.int (3 : Int32)), .val (.ref w_DECIMAL), .val (.ref w_DATE), .unset, .unset] [(.int (0 : Int32))])) _
      refine OGot.go (fun t k => XS.istore X58.here hx rfl (hb hby at_27) rfl (l' := #[.val (.int p1), .val (.int p2), .val (.int (2 : Int32)), .val (.int (3 : Int32)), .val (.ref w_DECIMAL), .val (.ref w_DATE), .val (.int (0 : Int32)), .unset]) rfl k) ?_
      show OGot p.tables e below (T58.setTop (mkF m 29 #[.val (.int p1), .val (.int p2), .val (.int (2 : Int32)), .val (.int (3 : Int32)), .val (.ref w_DECIMAL), .val (.ref w_DATE), .val (.int (0 : Int32)), .unset] [])) _
      refine OGot.go (fun t k => X58.ldcInt hx hown (mvT hZ (ow hw 16 rfl)) (g := (mkF m 29 #[.val (.int p1), .val (.int p2), .val (.int (2 : Int32)), .val (.int (3 : Int32)), .val (.ref w_DECIMAL), .val (.ref w_DATE), .val (.int (0 : Int32)), .unset] [])) rfl (hb hby at_29) _ k) ?_
      show OGot p.tables e below (T58.setTop (mkF m 31 #[.val (.int p1), .val (.int p2), .val (.int (2 : Int32)), .val (.int (3 : Int32)), .val (.ref w_DECIMAL), .val (.ref w_DATE), .val (.int (0 : Int32)), .unset] [(.int (34337 : Int32))])) _
      refine OGot.go (fun t k => XS.iloadN X58.here hx rfl (hb hby at_31) rfl k) ?_
      show OGot p.tables e below (T58.setTop (mkF m 32 #[.val (.int p1), .val (.int p2), .val (.int (2 : Int32)), .val (.int (3 : Int32)), .val (.ref w_DECIMAL), .val (.ref w_DATE), .val (.int (0 : Int32)), .unset] [(.int (2 : Int32)), (.int (34337 : Int32))])) _
      refine OGot.go (fun t k => XS.iconst X58.here hx rfl (hb hby at_32) k) ?_
      show OGot p.tables e below (T58.setTop (mkF m 33 #[.val (.int p1), .val (.int p2), .val (.int (2 : Int32)), .val (.int (3 : Int32)), .val (.ref w_DECIMAL), .val (.ref w_DATE), .val (.int (0 : Int32)), .unset] [(.int (4 : Int32)), (.int (2 : Int32)), (.int (34337 : Int32))])) _
      refine OGot.go (fun t k => XS.imul X58.here hx rfl (hb hby at_33) rfl k) ?_
      show OGot p.tables e below (T58.setTop (mkF m 34 #[.val (.int p1), .val (.int p2), .val (.int (2 : Int32)), .val (.int (3 : Int32)), .val (.ref w_DECIMAL), .val (.ref w_DATE), .val (.int (0 : Int32)), .unset] [(.int ((2 : Int32) * (4 : Int32))), (.int (34337 : Int32))])) _
      rw [show ((2 : Int32) * (4 : Int32)) = (8 : Int32) from by decide]
      show OGot p.tables e below (T58.setTop (mkF m 34 #[.val (.int p1), .val (.int p2), .val (.int (2 : Int32)), .val (.int (3 : Int32)), .val (.ref w_DECIMAL), .val (.ref w_DATE), .val (.int (0 : Int32)), .unset] [(.int (8 : Int32)), (.int (34337 : Int32))])) _
      refine OGot.go (fun t k => XS.iloadN X58.here hx rfl (hb hby at_34) rfl k) ?_
      show OGot p.tables e below (T58.setTop (mkF m 35 #[.val (.int p1), .val (.int p2), .val (.int (2 : Int32)), .val (.int (3 : Int32)), .val (.ref w_DECIMAL), .val (.ref w_DATE), .val (.int (0 : Int32)), .unset] [(.int (3 : Int32)), (.int (8 : Int32)), (.int (34337 : Int32))])) _
      refine OGot.go (fun t k => XS.iadd X58.here hx rfl (hb hby at_35) rfl k) ?_
      show OGot p.tables e below (T58.setTop (mkF m 36 #[.val (.int p1), .val (.int p2), .val (.int (2 : Int32)), .val (.int (3 : Int32)), .val (.ref w_DECIMAL), .val (.ref w_DATE), .val (.int (0 : Int32)), .unset] [(.int ((8 : Int32) + (3 : Int32))), (.int (34337 : Int32))])) _
      rw [show ((8 : Int32) + (3 : Int32)) = (11 : Int32) from by decide]
      show OGot p.tables e below (T58.setTop (mkF m 36 #[.val (.int p1), .val (.int p2), .val (.int (2 : Int32)), .val (.int (3 : Int32)), .val (.ref w_DECIMAL), .val (.ref w_DATE), .val (.int (0 : Int32)), .unset] [(.int (11 : Int32)), (.int (34337 : Int32))])) _
      refine OGot.go (fun t k => XS.ishr X58.here hx rfl (hb hby at_36) rfl k) ?_
      show OGot p.tables e below (T58.setTop (mkF m 37 #[.val (.int p1), .val (.int p2), .val (.int (2 : Int32)), .val (.int (3 : Int32)), .val (.ref w_DECIMAL), .val (.ref w_DATE), .val (.int (0 : Int32)), .unset] [(.int ((34337 : Int32) >>> ((11 : Int32) &&& 31)))])) _
      rw [show ((34337 : Int32) >>> ((11 : Int32) &&& 31)) = (16 : Int32) from by decide]
      show OGot p.tables e below (T58.setTop (mkF m 37 #[.val (.int p1), .val (.int p2), .val (.int (2 : Int32)), .val (.int (3 : Int32)), .val (.ref w_DECIMAL), .val (.ref w_DATE), .val (.int (0 : Int32)), .unset] [(.int (16 : Int32))])) _
      refine OGot.go (fun t k => XS.iconst X58.here hx rfl (hb hby at_37) k) ?_
      show OGot p.tables e below (T58.setTop (mkF m 38 #[.val (.int p1), .val (.int p2), .val (.int (2 : Int32)), .val (.int (3 : Int32)), .val (.ref w_DECIMAL), .val (.ref w_DATE), .val (.int (0 : Int32)), .unset] [(.int (1 : Int32)), (.int (16 : Int32))])) _
      refine OGot.go (fun t k => XS.iand X58.here hx rfl (hb hby at_38) rfl k) ?_
      show OGot p.tables e below (T58.setTop (mkF m 39 #[.val (.int p1), .val (.int p2), .val (.int (2 : Int32)), .val (.int (3 : Int32)), .val (.ref w_DECIMAL), .val (.ref w_DATE), .val (.int (0 : Int32)), .unset] [(.int ((16 : Int32) &&& (1 : Int32)))])) _
      rw [show ((16 : Int32) &&& (1 : Int32)) = (0 : Int32) from by decide]
      show OGot p.tables e below (T58.setTop (mkF m 39 #[.val (.int p1), .val (.int p2), .val (.int (2 : Int32)), .val (.int (3 : Int32)), .val (.ref w_DECIMAL), .val (.ref w_DATE), .val (.int (0 : Int32)), .unset] [(.int (0 : Int32))])) _
      refine OGot.go (fun t k => XS.ifYes X58.here hx rfl (pc0 := 39) (pc' := 46) rfl (hb hby at_39) rfl (by decide) (by decide) (by decide) k) ?_
      show OGot p.tables e below (T58.setTop (mkF m 46 #[.val (.int p1), .val (.int p2), .val (.int (2 : Int32)), .val (.int (3 : Int32)), .val (.ref w_DECIMAL), .val (.ref w_DATE), .val (.int (0 : Int32)), .unset] [])) _
      refine OGot.go (fun t k => XS.iconst X58.here hx rfl (hb hby at_46) k) ?_
      show OGot p.tables e below (T58.setTop (mkF m 47 #[.val (.int p1), .val (.int p2), .val (.int (2 : Int32)), .val (.int (3 : Int32)), .val (.ref w_DECIMAL), .val (.ref w_DATE), .val (.int (0 : Int32)), .unset] [(.int (0 : Int32))])) _
      refine OGot.go (fun t k => XS.istore X58.here hx rfl (hb hby at_47) rfl (l' := #[.val (.int p1), .val (.int p2), .val (.int (2 : Int32)), .val (.int (3 : Int32)), .val (.ref w_DECIMAL), .val (.ref w_DATE), .val (.int (0 : Int32)), .val (.int (0 : Int32))]) rfl k) ?_
      show OGot p.tables e below (T58.setTop (mkF m 49 #[.val (.int p1), .val (.int p2), .val (.int (2 : Int32)), .val (.int (3 : Int32)), .val (.ref w_DECIMAL), .val (.ref w_DATE), .val (.int (0 : Int32)), .val (.int (0 : Int32))] [])) _
      refine OGot.go (fun t k => XS.iload X58.here hx rfl (hb hby at_49) rfl k) ?_
      show OGot p.tables e below (T58.setTop (mkF m 51 #[.val (.int p1), .val (.int p2), .val (.int (2 : Int32)), .val (.int (3 : Int32)), .val (.ref w_DECIMAL), .val (.ref w_DATE), .val (.int (0 : Int32)), .val (.int (0 : Int32))] [(.int (0 : Int32))])) _
      refine OGot.go (fun t k => XS.iload X58.here hx rfl (hb hby at_51) rfl k) ?_
      show OGot p.tables e below (T58.setTop (mkF m 53 #[.val (.int p1), .val (.int p2), .val (.int (2 : Int32)), .val (.int (3 : Int32)), .val (.ref w_DECIMAL), .val (.ref w_DATE), .val (.int (0 : Int32)), .val (.int (0 : Int32))] [(.int (0 : Int32)), (.int (0 : Int32))])) _
      refine OGot.go (fun t k => XS.icmpNo X58.here hx rfl (hb hby at_53) rfl (by decide) k) ?_
      show OGot p.tables e below (T58.setTop (mkF m 56 #[.val (.int p1), .val (.int p2), .val (.int (2 : Int32)), .val (.int (3 : Int32)), .val (.ref w_DECIMAL), .val (.ref w_DATE), .val (.int (0 : Int32)), .val (.int (0 : Int32))] [])) _
      refine OGot.go (fun t k => XS.iload X58.here hx rfl (hb hby at_56) rfl k) ?_
      show OGot p.tables e below (T58.setTop (mkF m 58 #[.val (.int p1), .val (.int p2), .val (.int (2 : Int32)), .val (.int (3 : Int32)), .val (.ref w_DECIMAL), .val (.ref w_DATE), .val (.int (0 : Int32)), .val (.int (0 : Int32))] [(.int (0 : Int32))])) _
      refine OGot.go (fun t k => XS.ifYes X58.here hx rfl (pc0 := 58) (pc' := 71) rfl (hb hby at_58) rfl (by decide) (by decide) (by decide) k) ?_
      show OGot p.tables e below (T58.setTop (mkF m 71 #[.val (.int p1), .val (.int p2), .val (.int (2 : Int32)), .val (.int (3 : Int32)), .val (.ref w_DECIMAL), .val (.ref w_DATE), .val (.int (0 : Int32)), .val (.int (0 : Int32))] [])) _
      refine OGot.go (fun t k => XS.iconst X58.here hx rfl (hb hby at_71) k) ?_
      show OGot p.tables e below (T58.setTop (mkF m 72 #[.val (.int p1), .val (.int p2), .val (.int (2 : Int32)), .val (.int (3 : Int32)), .val (.ref w_DECIMAL), .val (.ref w_DATE), .val (.int (0 : Int32)), .val (.int (0 : Int32))] [(.int (1 : Int32))])) _
      refine OGot.go (fun t k => XS.goto X58.here hx rfl (pc0 := 72) (pc' := 76) rfl (hb hby at_72) (by decide) (by decide) k) ?_
      show OGot p.tables e below (T58.setTop (mkF m 76 #[.val (.int p1), .val (.int p2), .val (.int (2 : Int32)), .val (.int (3 : Int32)), .val (.ref w_DECIMAL), .val (.ref w_DATE), .val (.int (0 : Int32)), .val (.int (0 : Int32))] [(.int (1 : Int32))])) _
      obtain ⟨fs, hr, hrun, hended, hW, hsame⟩ := X58.leave (v := some (.int (1 : Int32))) (fun h => by rw [Bd.returns] at h; cases h)
      refine ⟨_, _, retN X58 hx (t := .boolean) Bd.returns (by simp) (hb hby at_76) hr, hrun, hended, _, _, rfl, ?_, ⟨_, rfl⟩, hW, hsame.mono (by decide) (by decide)⟩
      exact (⟨rfl, N58⟩ : Q0 Z w_TEXT w_DATE w_DECIMAL w_INTEGER p1 p2 h0 n0 _ T58.heap _)
  · rw [hk6]
    show OGot p.tables e below (s₁.setTop (mkF m 3 #[.val (.int p1), .val (.int p2), .unset, .unset, .unset, .unset, .unset, .unset] [(.int (3 : Int32))])) _
    refine OGot.go (fun t k => XS.istoreN X0.here hx rfl (hb hby at_3) rfl (l' := #[.val (.int p1), .val (.int p2), .val (.int (3 : Int32)), .unset, .unset, .unset, .unset, .unset]) rfl k) ?_
    show OGot p.tables e below (s₁.setTop (mkF m 4 #[.val (.int p1), .val (.int p2), .val (.int (3 : Int32)), .unset, .unset, .unset, .unset, .unset] [])) _
    refine OGot.go (fun t k => XS.iloadN X0.here hx rfl (hb hby at_4) rfl k) ?_
    show OGot p.tables e below (s₁.setTop (mkF m 5 #[.val (.int p1), .val (.int p2), .val (.int (3 : Int32)), .unset, .unset, .unset, .unset, .unset] [(.int p2)])) _
    refine OGot.go (fun t k => XS.iconst X0.here hx rfl (hb hby at_5) k) ?_
    show OGot p.tables e below (s₁.setTop (mkF m 6 #[.val (.int p1), .val (.int p2), .val (.int (3 : Int32)), .unset, .unset, .unset, .unset, .unset] [(.int (3 : Int32)), (.int p2)])) _
    refine OGot.go (fun t k => XS.iand X0.here hx rfl (hb hby at_6) rfl k) ?_
    show OGot p.tables e below (s₁.setTop (mkF m 7 #[.val (.int p1), .val (.int p2), .val (.int (3 : Int32)), .unset, .unset, .unset, .unset, .unset] [(.int (p2 &&& (3 : Int32)))])) _
    rcases own_and3 p2 with hk59 | hk60 | hk61 | hk62
    · rw [hk59]
      show OGot p.tables e below (s₁.setTop (mkF m 7 #[.val (.int p1), .val (.int p2), .val (.int (3 : Int32)), .unset, .unset, .unset, .unset, .unset] [(.int (0 : Int32))])) _
      refine OGot.go (fun t k => XS.istoreN X0.here hx rfl (hb hby at_7) rfl (l' := #[.val (.int p1), .val (.int p2), .val (.int (3 : Int32)), .val (.int (0 : Int32)), .unset, .unset, .unset, .unset]) rfl k) ?_
      show OGot p.tables e below (s₁.setTop (mkF m 8 #[.val (.int p1), .val (.int p2), .val (.int (3 : Int32)), .val (.int (0 : Int32)), .unset, .unset, .unset, .unset] [])) _
      refine OGot.go (fun t k => XS.iloadN X0.here hx rfl (hb hby at_8) rfl k) ?_
      show OGot p.tables e below (s₁.setTop (mkF m 9 #[.val (.int p1), .val (.int p2), .val (.int (3 : Int32)), .val (.int (0 : Int32)), .unset, .unset, .unset, .unset] [(.int (3 : Int32))])) _
      obtain ⟨_, _, ⟨T63, L63, k63, n63⟩, -, X63, ⟨Lc63, hQ63, l63, y63, z63⟩, st63⟩ := Jvm.LawKit.callS X0 hx (y := (⟨"com/example/archipel/archipel/model/DataTypeTakesPinLaw", "pick", "(I)Lcom/example/archipel/archipel/model/DataType;"⟩ : MethodName)) hown (mvT hZ (ow hw 0 rfl)) (mvT hZ (ow hw 1 rfl)) (mvT hZ (ow hw 2 rfl)) (mvT hZ (ow hw 3 rfl)) (by decide) (backOf (W := 0) (rm1_3 l Z a0 hw [] G  h0 n0 O0 ) hZ (ow hw 3 rfl) (ow hw 2 rfl) (by decide) (by decide)) (g := (mkF m 9 #[.val (.int p1), .val (.int p2), .val (.int (3 : Int32)), .val (.int (0 : Int32)), .unset, .unset, .unset, .unset] [(.int (3 : Int32))])) rfl (by rw [hml]; rfl) (argsL := [(.int (3 : Int32))]) (rest := []) (lenOf pd_0 rfl) rfl (by show 2 * 0 + _ ≤ _; exact Nat.le_of_eq rfl) (hb hby at_9) (fun _ _ => ⟨rfl, e0, (by decide : 0 + 0 ≤ _), (by decide : 0 + 0 ≤ _)⟩)
      dsimp only [Pt.U, Pt.locs, Pt.cells, Pt.slots] at X63 l63 y63 z63 st63 hQ63
      subst l63 y63 z63
      obtain ⟨rfl, N63q, e63⟩ := hQ63
      have N63 := Fr.app N0 N63q
      refine OGot.go st63 ?_
      show OGot p.tables e below (T63.setTop (mkF m 12 #[.val (.int p1), .val (.int p2), .val (.int (3 : Int32)), .val (.int (0 : Int32)), .unset, .unset, .unset, .unset] [(.ref w_DATE)])) _
      refine OGot.go (fun t k => XS.astore X63.here hx rfl (hb hby at_12) rfl rfl (l' := #[.val (.int p1), .val (.int p2), .val (.int (3 : Int32)), .val (.int (0 : Int32)), .val (.ref w_DATE), .unset, .unset, .unset]) rfl k) ?_
      show OGot p.tables e below (T63.setTop (mkF m 14 #[.val (.int p1), .val (.int p2), .val (.int (3 : Int32)), .val (.int (0 : Int32)), .val (.ref w_DATE), .unset, .unset, .unset] [])) _
      refine OGot.go (fun t k => XS.iloadN X63.here hx rfl (hb hby at_14) rfl k) ?_
      show OGot p.tables e below (T63.setTop (mkF m 15 #[.val (.int p1), .val (.int p2), .val (.int (3 : Int32)), .val (.int (0 : Int32)), .val (.ref w_DATE), .unset, .unset, .unset] [(.int (0 : Int32))])) _
      obtain ⟨_, _, ⟨T64, L64, k64, n64⟩, -, X64, ⟨Lc64, hQ64, l64, y64, z64⟩, st64⟩ := Jvm.LawKit.callS X63 hx (y := (⟨"com/example/archipel/archipel/model/DataTypeTakesPinLaw", "pick", "(I)Lcom/example/archipel/archipel/model/DataType;"⟩ : MethodName)) hown (mvT hZ (ow hw 0 rfl)) (mvT hZ (ow hw 1 rfl)) (mvT hZ (ow hw 2 rfl)) (mvT hZ (ow hw 3 rfl)) (by decide) (backOf (W := 0) (rm1 l Z a0 hw [] G  h0 n0 O0 ) hZ (ow hw 3 rfl) (ow hw 2 rfl) (by decide) (by decide)) (g := (mkF m 15 #[.val (.int p1), .val (.int p2), .val (.int (3 : Int32)), .val (.int (0 : Int32)), .val (.ref w_DATE), .unset, .unset, .unset] [(.int (0 : Int32))])) rfl (by rw [hml]; rfl) (argsL := [(.int (0 : Int32))]) (rest := []) (lenOf pd_0 rfl) rfl (by show 2 * 0 + _ ≤ _; exact Nat.le_of_eq rfl) (hb hby at_15) (fun _ _ => ⟨rfl, e63, (by decide : 0 + 0 ≤ _), (by decide : 0 + 0 ≤ _)⟩)
      dsimp only [Pt.U, Pt.locs, Pt.cells, Pt.slots] at X64 l64 y64 z64 st64 hQ64
      subst l64 y64 z64
      obtain ⟨rfl, N64q, e64⟩ := hQ64
      have N64 := Fr.app N63 N64q
      refine OGot.go st64 ?_
      show OGot p.tables e below (T64.setTop (mkF m 18 #[.val (.int p1), .val (.int p2), .val (.int (3 : Int32)), .val (.int (0 : Int32)), .val (.ref w_DATE), .unset, .unset, .unset] [(.ref w_TEXT)])) _
      refine OGot.go (fun t k => XS.astore X64.here hx rfl (hb hby at_18) rfl rfl (l' := #[.val (.int p1), .val (.int p2), .val (.int (3 : Int32)), .val (.int (0 : Int32)), .val (.ref w_DATE), .val (.ref w_TEXT), .unset, .unset]) rfl k) ?_
      show OGot p.tables e below (T64.setTop (mkF m 20 #[.val (.int p1), .val (.int p2), .val (.int (3 : Int32)), .val (.int (0 : Int32)), .val (.ref w_DATE), .val (.ref w_TEXT), .unset, .unset] [])) _
      refine OGot.go (fun t k => XS.aload X64.here hx rfl (hb hby at_20) rfl rfl k) ?_
      show OGot p.tables e below (T64.setTop (mkF m 22 #[.val (.int p1), .val (.int p2), .val (.int (3 : Int32)), .val (.int (0 : Int32)), .val (.ref w_DATE), .val (.ref w_TEXT), .unset, .unset] [(.ref w_DATE)])) _
      refine OGot.go (fun t k => XS.aload X64.here hx rfl (hb hby at_22) rfl rfl k) ?_
      show OGot p.tables e below (T64.setTop (mkF m 24 #[.val (.int p1), .val (.int p2), .val (.int (3 : Int32)), .val (.int (0 : Int32)), .val (.ref w_DATE), .val (.ref w_TEXT), .unset, .unset] [(.ref w_TEXT), (.ref w_DATE)])) _
      obtain ⟨cq65, kq65, q65a, q65b, q65c⟩ := isOf hZ e64 (G.2.2.2.1.ext O0.2)
      obtain ⟨_, _, ⟨T65, L65, k65, n65⟩, -, X65, ⟨Lc65, hQ65, l65, y65, z65⟩, st65⟩ := X64.virtualBack hx (y := (⟨"com/example/archipel/archipel/model/DataType", "takes", "(Lcom/example/archipel/archipel/model/DataType;)Z"⟩ : MethodName)) (z := (⟨"com/example/archipel/archipel/model/DataType", "takes", "(Lcom/example/archipel/archipel/model/DataType;)Z"⟩ : MethodName)) hown (mvT hZ (ow hw 9 rfl)) (mvT hZ (ow hw 10 rfl)) (notFace_of_selects (args := #[]) (mvT hZ (ow hw 12 rfl))) (mvT hZ (ow hw 12 rfl)) (mvT hZ (ow hw 11 rfl)) (by decide) (backOf (W := 0) (rm2_12 l Z a0 hw [] G  h0 n0 O0 ) hZ (ow hw 13 rfl) (ow hw 5 rfl) (by decide) (by decide)) q65a q65c (g := (mkF m 24 #[.val (.int p1), .val (.int p2), .val (.int (3 : Int32)), .val (.int (0 : Int32)), .val (.ref w_DATE), .val (.ref w_TEXT), .unset, .unset] [(.ref w_TEXT), (.ref w_DATE)])) rfl (by rw [hml]; rfl) (Steps.refl _) (argsL := [(.ref w_TEXT)]) (rest := []) (lenOf pd_1 rfl) rfl (by show 2 * 0 + _ ≤ _; exact Nat.le_of_eq rfl) (hb hby at_24) (fun _ _ => ⟨rfl, e64, (by decide : 0 + 0 ≤ _), (by decide : 0 + 0 ≤ _)⟩)
      dsimp only [Pt.U, Pt.locs, Pt.cells, Pt.slots] at X65 l65 y65 z65 st65 hQ65
      subst l65 y65 z65
      obtain ⟨rfl, N65q, e65⟩ := hQ65
      have N65 := Fr.app N64 N65q
      refine OGot.on st65 ?_
      show OGot p.tables e below (T65.setTop (mkF m 27 #[.val (.int p1), .val (.int p2), .val (.int (3 : Int32)), .val (.int (0 : Int32)), .val (.ref w_DATE), .val (.ref w_TEXT), .unset, .unset] [(.int (0 : Int32))])) _
      refine OGot.go (fun t k => XS.istore X65.here hx rfl (hb hby at_27) rfl (l' := #[.val (.int p1), .val (.int p2), .val (.int (3 : Int32)), .val (.int (0 : Int32)), .val (.ref w_DATE), .val (.ref w_TEXT), .val (.int (0 : Int32)), .unset]) rfl k) ?_
      show OGot p.tables e below (T65.setTop (mkF m 29 #[.val (.int p1), .val (.int p2), .val (.int (3 : Int32)), .val (.int (0 : Int32)), .val (.ref w_DATE), .val (.ref w_TEXT), .val (.int (0 : Int32)), .unset] [])) _
      refine OGot.go (fun t k => X65.ldcInt hx hown (mvT hZ (ow hw 16 rfl)) (g := (mkF m 29 #[.val (.int p1), .val (.int p2), .val (.int (3 : Int32)), .val (.int (0 : Int32)), .val (.ref w_DATE), .val (.ref w_TEXT), .val (.int (0 : Int32)), .unset] [])) rfl (hb hby at_29) _ k) ?_
      show OGot p.tables e below (T65.setTop (mkF m 31 #[.val (.int p1), .val (.int p2), .val (.int (3 : Int32)), .val (.int (0 : Int32)), .val (.ref w_DATE), .val (.ref w_TEXT), .val (.int (0 : Int32)), .unset] [(.int (34337 : Int32))])) _
      refine OGot.go (fun t k => XS.iloadN X65.here hx rfl (hb hby at_31) rfl k) ?_
      show OGot p.tables e below (T65.setTop (mkF m 32 #[.val (.int p1), .val (.int p2), .val (.int (3 : Int32)), .val (.int (0 : Int32)), .val (.ref w_DATE), .val (.ref w_TEXT), .val (.int (0 : Int32)), .unset] [(.int (3 : Int32)), (.int (34337 : Int32))])) _
      refine OGot.go (fun t k => XS.iconst X65.here hx rfl (hb hby at_32) k) ?_
      show OGot p.tables e below (T65.setTop (mkF m 33 #[.val (.int p1), .val (.int p2), .val (.int (3 : Int32)), .val (.int (0 : Int32)), .val (.ref w_DATE), .val (.ref w_TEXT), .val (.int (0 : Int32)), .unset] [(.int (4 : Int32)), (.int (3 : Int32)), (.int (34337 : Int32))])) _
      refine OGot.go (fun t k => XS.imul X65.here hx rfl (hb hby at_33) rfl k) ?_
      show OGot p.tables e below (T65.setTop (mkF m 34 #[.val (.int p1), .val (.int p2), .val (.int (3 : Int32)), .val (.int (0 : Int32)), .val (.ref w_DATE), .val (.ref w_TEXT), .val (.int (0 : Int32)), .unset] [(.int ((3 : Int32) * (4 : Int32))), (.int (34337 : Int32))])) _
      rw [show ((3 : Int32) * (4 : Int32)) = (12 : Int32) from by decide]
      show OGot p.tables e below (T65.setTop (mkF m 34 #[.val (.int p1), .val (.int p2), .val (.int (3 : Int32)), .val (.int (0 : Int32)), .val (.ref w_DATE), .val (.ref w_TEXT), .val (.int (0 : Int32)), .unset] [(.int (12 : Int32)), (.int (34337 : Int32))])) _
      refine OGot.go (fun t k => XS.iloadN X65.here hx rfl (hb hby at_34) rfl k) ?_
      show OGot p.tables e below (T65.setTop (mkF m 35 #[.val (.int p1), .val (.int p2), .val (.int (3 : Int32)), .val (.int (0 : Int32)), .val (.ref w_DATE), .val (.ref w_TEXT), .val (.int (0 : Int32)), .unset] [(.int (0 : Int32)), (.int (12 : Int32)), (.int (34337 : Int32))])) _
      refine OGot.go (fun t k => XS.iadd X65.here hx rfl (hb hby at_35) rfl k) ?_
      show OGot p.tables e below (T65.setTop (mkF m 36 #[.val (.int p1), .val (.int p2), .val (.int (3 : Int32)), .val (.int (0 : Int32)), .val (.ref w_DATE), .val (.ref w_TEXT), .val (.int (0 : Int32)), .unset] [(.int ((12 : Int32) + (0 : Int32))), (.int (34337 : Int32))])) _
      rw [show ((12 : Int32) + (0 : Int32)) = (12 : Int32) from by decide]
      show OGot p.tables e below (T65.setTop (mkF m 36 #[.val (.int p1), .val (.int p2), .val (.int (3 : Int32)), .val (.int (0 : Int32)), .val (.ref w_DATE), .val (.ref w_TEXT), .val (.int (0 : Int32)), .unset] [(.int (12 : Int32)), (.int (34337 : Int32))])) _
      refine OGot.go (fun t k => XS.ishr X65.here hx rfl (hb hby at_36) rfl k) ?_
      show OGot p.tables e below (T65.setTop (mkF m 37 #[.val (.int p1), .val (.int p2), .val (.int (3 : Int32)), .val (.int (0 : Int32)), .val (.ref w_DATE), .val (.ref w_TEXT), .val (.int (0 : Int32)), .unset] [(.int ((34337 : Int32) >>> ((12 : Int32) &&& 31)))])) _
      rw [show ((34337 : Int32) >>> ((12 : Int32) &&& 31)) = (8 : Int32) from by decide]
      show OGot p.tables e below (T65.setTop (mkF m 37 #[.val (.int p1), .val (.int p2), .val (.int (3 : Int32)), .val (.int (0 : Int32)), .val (.ref w_DATE), .val (.ref w_TEXT), .val (.int (0 : Int32)), .unset] [(.int (8 : Int32))])) _
      refine OGot.go (fun t k => XS.iconst X65.here hx rfl (hb hby at_37) k) ?_
      show OGot p.tables e below (T65.setTop (mkF m 38 #[.val (.int p1), .val (.int p2), .val (.int (3 : Int32)), .val (.int (0 : Int32)), .val (.ref w_DATE), .val (.ref w_TEXT), .val (.int (0 : Int32)), .unset] [(.int (1 : Int32)), (.int (8 : Int32))])) _
      refine OGot.go (fun t k => XS.iand X65.here hx rfl (hb hby at_38) rfl k) ?_
      show OGot p.tables e below (T65.setTop (mkF m 39 #[.val (.int p1), .val (.int p2), .val (.int (3 : Int32)), .val (.int (0 : Int32)), .val (.ref w_DATE), .val (.ref w_TEXT), .val (.int (0 : Int32)), .unset] [(.int ((8 : Int32) &&& (1 : Int32)))])) _
      rw [show ((8 : Int32) &&& (1 : Int32)) = (0 : Int32) from by decide]
      show OGot p.tables e below (T65.setTop (mkF m 39 #[.val (.int p1), .val (.int p2), .val (.int (3 : Int32)), .val (.int (0 : Int32)), .val (.ref w_DATE), .val (.ref w_TEXT), .val (.int (0 : Int32)), .unset] [(.int (0 : Int32))])) _
      refine OGot.go (fun t k => XS.ifYes X65.here hx rfl (pc0 := 39) (pc' := 46) rfl (hb hby at_39) rfl (by decide) (by decide) (by decide) k) ?_
      show OGot p.tables e below (T65.setTop (mkF m 46 #[.val (.int p1), .val (.int p2), .val (.int (3 : Int32)), .val (.int (0 : Int32)), .val (.ref w_DATE), .val (.ref w_TEXT), .val (.int (0 : Int32)), .unset] [])) _
      refine OGot.go (fun t k => XS.iconst X65.here hx rfl (hb hby at_46) k) ?_
      show OGot p.tables e below (T65.setTop (mkF m 47 #[.val (.int p1), .val (.int p2), .val (.int (3 : Int32)), .val (.int (0 : Int32)), .val (.ref w_DATE), .val (.ref w_TEXT), .val (.int (0 : Int32)), .unset] [(.int (0 : Int32))])) _
      refine OGot.go (fun t k => XS.istore X65.here hx rfl (hb hby at_47) rfl (l' := #[.val (.int p1), .val (.int p2), .val (.int (3 : Int32)), .val (.int (0 : Int32)), .val (.ref w_DATE), .val (.ref w_TEXT), .val (.int (0 : Int32)), .val (.int (0 : Int32))]) rfl k) ?_
      show OGot p.tables e below (T65.setTop (mkF m 49 #[.val (.int p1), .val (.int p2), .val (.int (3 : Int32)), .val (.int (0 : Int32)), .val (.ref w_DATE), .val (.ref w_TEXT), .val (.int (0 : Int32)), .val (.int (0 : Int32))] [])) _
      refine OGot.go (fun t k => XS.iload X65.here hx rfl (hb hby at_49) rfl k) ?_
      show OGot p.tables e below (T65.setTop (mkF m 51 #[.val (.int p1), .val (.int p2), .val (.int (3 : Int32)), .val (.int (0 : Int32)), .val (.ref w_DATE), .val (.ref w_TEXT), .val (.int (0 : Int32)), .val (.int (0 : Int32))] [(.int (0 : Int32))])) _
      refine OGot.go (fun t k => XS.iload X65.here hx rfl (hb hby at_51) rfl k) ?_
      show OGot p.tables e below (T65.setTop (mkF m 53 #[.val (.int p1), .val (.int p2), .val (.int (3 : Int32)), .val (.int (0 : Int32)), .val (.ref w_DATE), .val (.ref w_TEXT), .val (.int (0 : Int32)), .val (.int (0 : Int32))] [(.int (0 : Int32)), (.int (0 : Int32))])) _
      refine OGot.go (fun t k => XS.icmpNo X65.here hx rfl (hb hby at_53) rfl (by decide) k) ?_
      show OGot p.tables e below (T65.setTop (mkF m 56 #[.val (.int p1), .val (.int p2), .val (.int (3 : Int32)), .val (.int (0 : Int32)), .val (.ref w_DATE), .val (.ref w_TEXT), .val (.int (0 : Int32)), .val (.int (0 : Int32))] [])) _
      refine OGot.go (fun t k => XS.iload X65.here hx rfl (hb hby at_56) rfl k) ?_
      show OGot p.tables e below (T65.setTop (mkF m 58 #[.val (.int p1), .val (.int p2), .val (.int (3 : Int32)), .val (.int (0 : Int32)), .val (.ref w_DATE), .val (.ref w_TEXT), .val (.int (0 : Int32)), .val (.int (0 : Int32))] [(.int (0 : Int32))])) _
      refine OGot.go (fun t k => XS.ifYes X65.here hx rfl (pc0 := 58) (pc' := 71) rfl (hb hby at_58) rfl (by decide) (by decide) (by decide) k) ?_
      show OGot p.tables e below (T65.setTop (mkF m 71 #[.val (.int p1), .val (.int p2), .val (.int (3 : Int32)), .val (.int (0 : Int32)), .val (.ref w_DATE), .val (.ref w_TEXT), .val (.int (0 : Int32)), .val (.int (0 : Int32))] [])) _
      refine OGot.go (fun t k => XS.iconst X65.here hx rfl (hb hby at_71) k) ?_
      show OGot p.tables e below (T65.setTop (mkF m 72 #[.val (.int p1), .val (.int p2), .val (.int (3 : Int32)), .val (.int (0 : Int32)), .val (.ref w_DATE), .val (.ref w_TEXT), .val (.int (0 : Int32)), .val (.int (0 : Int32))] [(.int (1 : Int32))])) _
      refine OGot.go (fun t k => XS.goto X65.here hx rfl (pc0 := 72) (pc' := 76) rfl (hb hby at_72) (by decide) (by decide) k) ?_
      show OGot p.tables e below (T65.setTop (mkF m 76 #[.val (.int p1), .val (.int p2), .val (.int (3 : Int32)), .val (.int (0 : Int32)), .val (.ref w_DATE), .val (.ref w_TEXT), .val (.int (0 : Int32)), .val (.int (0 : Int32))] [(.int (1 : Int32))])) _
      obtain ⟨fs, hr, hrun, hended, hW, hsame⟩ := X65.leave (v := some (.int (1 : Int32))) (fun h => by rw [Bd.returns] at h; cases h)
      refine ⟨_, _, retN X65 hx (t := .boolean) Bd.returns (by simp) (hb hby at_76) hr, hrun, hended, _, _, rfl, ?_, ⟨_, rfl⟩, hW, hsame.mono (by decide) (by decide)⟩
      exact (⟨rfl, N65⟩ : Q0 Z w_TEXT w_DATE w_DECIMAL w_INTEGER p1 p2 h0 n0 _ T65.heap _)
    · rw [hk60]
      show OGot p.tables e below (s₁.setTop (mkF m 7 #[.val (.int p1), .val (.int p2), .val (.int (3 : Int32)), .unset, .unset, .unset, .unset, .unset] [(.int (1 : Int32))])) _
      refine OGot.go (fun t k => XS.istoreN X0.here hx rfl (hb hby at_7) rfl (l' := #[.val (.int p1), .val (.int p2), .val (.int (3 : Int32)), .val (.int (1 : Int32)), .unset, .unset, .unset, .unset]) rfl k) ?_
      show OGot p.tables e below (s₁.setTop (mkF m 8 #[.val (.int p1), .val (.int p2), .val (.int (3 : Int32)), .val (.int (1 : Int32)), .unset, .unset, .unset, .unset] [])) _
      refine OGot.go (fun t k => XS.iloadN X0.here hx rfl (hb hby at_8) rfl k) ?_
      show OGot p.tables e below (s₁.setTop (mkF m 9 #[.val (.int p1), .val (.int p2), .val (.int (3 : Int32)), .val (.int (1 : Int32)), .unset, .unset, .unset, .unset] [(.int (3 : Int32))])) _
      obtain ⟨_, _, ⟨T66, L66, k66, n66⟩, -, X66, ⟨Lc66, hQ66, l66, y66, z66⟩, st66⟩ := Jvm.LawKit.callS X0 hx (y := (⟨"com/example/archipel/archipel/model/DataTypeTakesPinLaw", "pick", "(I)Lcom/example/archipel/archipel/model/DataType;"⟩ : MethodName)) hown (mvT hZ (ow hw 0 rfl)) (mvT hZ (ow hw 1 rfl)) (mvT hZ (ow hw 2 rfl)) (mvT hZ (ow hw 3 rfl)) (by decide) (backOf (W := 0) (rm1_3 l Z a0 hw [] G  h0 n0 O0 ) hZ (ow hw 3 rfl) (ow hw 2 rfl) (by decide) (by decide)) (g := (mkF m 9 #[.val (.int p1), .val (.int p2), .val (.int (3 : Int32)), .val (.int (1 : Int32)), .unset, .unset, .unset, .unset] [(.int (3 : Int32))])) rfl (by rw [hml]; rfl) (argsL := [(.int (3 : Int32))]) (rest := []) (lenOf pd_0 rfl) rfl (by show 2 * 0 + _ ≤ _; exact Nat.le_of_eq rfl) (hb hby at_9) (fun _ _ => ⟨rfl, e0, (by decide : 0 + 0 ≤ _), (by decide : 0 + 0 ≤ _)⟩)
      dsimp only [Pt.U, Pt.locs, Pt.cells, Pt.slots] at X66 l66 y66 z66 st66 hQ66
      subst l66 y66 z66
      obtain ⟨rfl, N66q, e66⟩ := hQ66
      have N66 := Fr.app N0 N66q
      refine OGot.go st66 ?_
      show OGot p.tables e below (T66.setTop (mkF m 12 #[.val (.int p1), .val (.int p2), .val (.int (3 : Int32)), .val (.int (1 : Int32)), .unset, .unset, .unset, .unset] [(.ref w_DATE)])) _
      refine OGot.go (fun t k => XS.astore X66.here hx rfl (hb hby at_12) rfl rfl (l' := #[.val (.int p1), .val (.int p2), .val (.int (3 : Int32)), .val (.int (1 : Int32)), .val (.ref w_DATE), .unset, .unset, .unset]) rfl k) ?_
      show OGot p.tables e below (T66.setTop (mkF m 14 #[.val (.int p1), .val (.int p2), .val (.int (3 : Int32)), .val (.int (1 : Int32)), .val (.ref w_DATE), .unset, .unset, .unset] [])) _
      refine OGot.go (fun t k => XS.iloadN X66.here hx rfl (hb hby at_14) rfl k) ?_
      show OGot p.tables e below (T66.setTop (mkF m 15 #[.val (.int p1), .val (.int p2), .val (.int (3 : Int32)), .val (.int (1 : Int32)), .val (.ref w_DATE), .unset, .unset, .unset] [(.int (1 : Int32))])) _
      obtain ⟨_, _, ⟨T67, L67, k67, n67⟩, -, X67, ⟨Lc67, hQ67, l67, y67, z67⟩, st67⟩ := Jvm.LawKit.callS X66 hx (y := (⟨"com/example/archipel/archipel/model/DataTypeTakesPinLaw", "pick", "(I)Lcom/example/archipel/archipel/model/DataType;"⟩ : MethodName)) hown (mvT hZ (ow hw 0 rfl)) (mvT hZ (ow hw 1 rfl)) (mvT hZ (ow hw 2 rfl)) (mvT hZ (ow hw 3 rfl)) (by decide) (backOf (W := 0) (rm1_1 l Z a0 hw [] G  h0 n0 O0 ) hZ (ow hw 3 rfl) (ow hw 2 rfl) (by decide) (by decide)) (g := (mkF m 15 #[.val (.int p1), .val (.int p2), .val (.int (3 : Int32)), .val (.int (1 : Int32)), .val (.ref w_DATE), .unset, .unset, .unset] [(.int (1 : Int32))])) rfl (by rw [hml]; rfl) (argsL := [(.int (1 : Int32))]) (rest := []) (lenOf pd_0 rfl) rfl (by show 2 * 0 + _ ≤ _; exact Nat.le_of_eq rfl) (hb hby at_15) (fun _ _ => ⟨rfl, e66, (by decide : 0 + 0 ≤ _), (by decide : 0 + 0 ≤ _)⟩)
      dsimp only [Pt.U, Pt.locs, Pt.cells, Pt.slots] at X67 l67 y67 z67 st67 hQ67
      subst l67 y67 z67
      obtain ⟨rfl, N67q, e67⟩ := hQ67
      have N67 := Fr.app N66 N67q
      refine OGot.go st67 ?_
      show OGot p.tables e below (T67.setTop (mkF m 18 #[.val (.int p1), .val (.int p2), .val (.int (3 : Int32)), .val (.int (1 : Int32)), .val (.ref w_DATE), .unset, .unset, .unset] [(.ref w_INTEGER)])) _
      refine OGot.go (fun t k => XS.astore X67.here hx rfl (hb hby at_18) rfl rfl (l' := #[.val (.int p1), .val (.int p2), .val (.int (3 : Int32)), .val (.int (1 : Int32)), .val (.ref w_DATE), .val (.ref w_INTEGER), .unset, .unset]) rfl k) ?_
      show OGot p.tables e below (T67.setTop (mkF m 20 #[.val (.int p1), .val (.int p2), .val (.int (3 : Int32)), .val (.int (1 : Int32)), .val (.ref w_DATE), .val (.ref w_INTEGER), .unset, .unset] [])) _
      refine OGot.go (fun t k => XS.aload X67.here hx rfl (hb hby at_20) rfl rfl k) ?_
      show OGot p.tables e below (T67.setTop (mkF m 22 #[.val (.int p1), .val (.int p2), .val (.int (3 : Int32)), .val (.int (1 : Int32)), .val (.ref w_DATE), .val (.ref w_INTEGER), .unset, .unset] [(.ref w_DATE)])) _
      refine OGot.go (fun t k => XS.aload X67.here hx rfl (hb hby at_22) rfl rfl k) ?_
      show OGot p.tables e below (T67.setTop (mkF m 24 #[.val (.int p1), .val (.int p2), .val (.int (3 : Int32)), .val (.int (1 : Int32)), .val (.ref w_DATE), .val (.ref w_INTEGER), .unset, .unset] [(.ref w_INTEGER), (.ref w_DATE)])) _
      obtain ⟨cq68, kq68, q68a, q68b, q68c⟩ := isOf hZ e67 (G.2.2.2.1.ext O0.2)
      obtain ⟨_, _, ⟨T68, L68, k68, n68⟩, -, X68, ⟨Lc68, hQ68, l68, y68, z68⟩, st68⟩ := X67.virtualBack hx (y := (⟨"com/example/archipel/archipel/model/DataType", "takes", "(Lcom/example/archipel/archipel/model/DataType;)Z"⟩ : MethodName)) (z := (⟨"com/example/archipel/archipel/model/DataType", "takes", "(Lcom/example/archipel/archipel/model/DataType;)Z"⟩ : MethodName)) hown (mvT hZ (ow hw 9 rfl)) (mvT hZ (ow hw 10 rfl)) (notFace_of_selects (args := #[]) (mvT hZ (ow hw 12 rfl))) (mvT hZ (ow hw 12 rfl)) (mvT hZ (ow hw 11 rfl)) (by decide) (backOf (W := 0) (rm2_13 l Z a0 hw [] G  h0 n0 O0 ) hZ (ow hw 13 rfl) (ow hw 5 rfl) (by decide) (by decide)) q68a q68c (g := (mkF m 24 #[.val (.int p1), .val (.int p2), .val (.int (3 : Int32)), .val (.int (1 : Int32)), .val (.ref w_DATE), .val (.ref w_INTEGER), .unset, .unset] [(.ref w_INTEGER), (.ref w_DATE)])) rfl (by rw [hml]; rfl) (Steps.refl _) (argsL := [(.ref w_INTEGER)]) (rest := []) (lenOf pd_1 rfl) rfl (by show 2 * 0 + _ ≤ _; exact Nat.le_of_eq rfl) (hb hby at_24) (fun _ _ => ⟨rfl, e67, (by decide : 0 + 0 ≤ _), (by decide : 0 + 0 ≤ _)⟩)
      dsimp only [Pt.U, Pt.locs, Pt.cells, Pt.slots] at X68 l68 y68 z68 st68 hQ68
      subst l68 y68 z68
      obtain ⟨rfl, N68q, e68⟩ := hQ68
      have N68 := Fr.app N67 N68q
      refine OGot.on st68 ?_
      show OGot p.tables e below (T68.setTop (mkF m 27 #[.val (.int p1), .val (.int p2), .val (.int (3 : Int32)), .val (.int (1 : Int32)), .val (.ref w_DATE), .val (.ref w_INTEGER), .unset, .unset] [(.int (0 : Int32))])) _
      refine OGot.go (fun t k => XS.istore X68.here hx rfl (hb hby at_27) rfl (l' := #[.val (.int p1), .val (.int p2), .val (.int (3 : Int32)), .val (.int (1 : Int32)), .val (.ref w_DATE), .val (.ref w_INTEGER), .val (.int (0 : Int32)), .unset]) rfl k) ?_
      show OGot p.tables e below (T68.setTop (mkF m 29 #[.val (.int p1), .val (.int p2), .val (.int (3 : Int32)), .val (.int (1 : Int32)), .val (.ref w_DATE), .val (.ref w_INTEGER), .val (.int (0 : Int32)), .unset] [])) _
      refine OGot.go (fun t k => X68.ldcInt hx hown (mvT hZ (ow hw 16 rfl)) (g := (mkF m 29 #[.val (.int p1), .val (.int p2), .val (.int (3 : Int32)), .val (.int (1 : Int32)), .val (.ref w_DATE), .val (.ref w_INTEGER), .val (.int (0 : Int32)), .unset] [])) rfl (hb hby at_29) _ k) ?_
      show OGot p.tables e below (T68.setTop (mkF m 31 #[.val (.int p1), .val (.int p2), .val (.int (3 : Int32)), .val (.int (1 : Int32)), .val (.ref w_DATE), .val (.ref w_INTEGER), .val (.int (0 : Int32)), .unset] [(.int (34337 : Int32))])) _
      refine OGot.go (fun t k => XS.iloadN X68.here hx rfl (hb hby at_31) rfl k) ?_
      show OGot p.tables e below (T68.setTop (mkF m 32 #[.val (.int p1), .val (.int p2), .val (.int (3 : Int32)), .val (.int (1 : Int32)), .val (.ref w_DATE), .val (.ref w_INTEGER), .val (.int (0 : Int32)), .unset] [(.int (3 : Int32)), (.int (34337 : Int32))])) _
      refine OGot.go (fun t k => XS.iconst X68.here hx rfl (hb hby at_32) k) ?_
      show OGot p.tables e below (T68.setTop (mkF m 33 #[.val (.int p1), .val (.int p2), .val (.int (3 : Int32)), .val (.int (1 : Int32)), .val (.ref w_DATE), .val (.ref w_INTEGER), .val (.int (0 : Int32)), .unset] [(.int (4 : Int32)), (.int (3 : Int32)), (.int (34337 : Int32))])) _
      refine OGot.go (fun t k => XS.imul X68.here hx rfl (hb hby at_33) rfl k) ?_
      show OGot p.tables e below (T68.setTop (mkF m 34 #[.val (.int p1), .val (.int p2), .val (.int (3 : Int32)), .val (.int (1 : Int32)), .val (.ref w_DATE), .val (.ref w_INTEGER), .val (.int (0 : Int32)), .unset] [(.int ((3 : Int32) * (4 : Int32))), (.int (34337 : Int32))])) _
      rw [show ((3 : Int32) * (4 : Int32)) = (12 : Int32) from by decide]
      show OGot p.tables e below (T68.setTop (mkF m 34 #[.val (.int p1), .val (.int p2), .val (.int (3 : Int32)), .val (.int (1 : Int32)), .val (.ref w_DATE), .val (.ref w_INTEGER), .val (.int (0 : Int32)), .unset] [(.int (12 : Int32)), (.int (34337 : Int32))])) _
      refine OGot.go (fun t k => XS.iloadN X68.here hx rfl (hb hby at_34) rfl k) ?_
      show OGot p.tables e below (T68.setTop (mkF m 35 #[.val (.int p1), .val (.int p2), .val (.int (3 : Int32)), .val (.int (1 : Int32)), .val (.ref w_DATE), .val (.ref w_INTEGER), .val (.int (0 : Int32)), .unset] [(.int (1 : Int32)), (.int (12 : Int32)), (.int (34337 : Int32))])) _
      refine OGot.go (fun t k => XS.iadd X68.here hx rfl (hb hby at_35) rfl k) ?_
      show OGot p.tables e below (T68.setTop (mkF m 36 #[.val (.int p1), .val (.int p2), .val (.int (3 : Int32)), .val (.int (1 : Int32)), .val (.ref w_DATE), .val (.ref w_INTEGER), .val (.int (0 : Int32)), .unset] [(.int ((12 : Int32) + (1 : Int32))), (.int (34337 : Int32))])) _
      rw [show ((12 : Int32) + (1 : Int32)) = (13 : Int32) from by decide]
      show OGot p.tables e below (T68.setTop (mkF m 36 #[.val (.int p1), .val (.int p2), .val (.int (3 : Int32)), .val (.int (1 : Int32)), .val (.ref w_DATE), .val (.ref w_INTEGER), .val (.int (0 : Int32)), .unset] [(.int (13 : Int32)), (.int (34337 : Int32))])) _
      refine OGot.go (fun t k => XS.ishr X68.here hx rfl (hb hby at_36) rfl k) ?_
      show OGot p.tables e below (T68.setTop (mkF m 37 #[.val (.int p1), .val (.int p2), .val (.int (3 : Int32)), .val (.int (1 : Int32)), .val (.ref w_DATE), .val (.ref w_INTEGER), .val (.int (0 : Int32)), .unset] [(.int ((34337 : Int32) >>> ((13 : Int32) &&& 31)))])) _
      rw [show ((34337 : Int32) >>> ((13 : Int32) &&& 31)) = (4 : Int32) from by decide]
      show OGot p.tables e below (T68.setTop (mkF m 37 #[.val (.int p1), .val (.int p2), .val (.int (3 : Int32)), .val (.int (1 : Int32)), .val (.ref w_DATE), .val (.ref w_INTEGER), .val (.int (0 : Int32)), .unset] [(.int (4 : Int32))])) _
      refine OGot.go (fun t k => XS.iconst X68.here hx rfl (hb hby at_37) k) ?_
      show OGot p.tables e below (T68.setTop (mkF m 38 #[.val (.int p1), .val (.int p2), .val (.int (3 : Int32)), .val (.int (1 : Int32)), .val (.ref w_DATE), .val (.ref w_INTEGER), .val (.int (0 : Int32)), .unset] [(.int (1 : Int32)), (.int (4 : Int32))])) _
      refine OGot.go (fun t k => XS.iand X68.here hx rfl (hb hby at_38) rfl k) ?_
      show OGot p.tables e below (T68.setTop (mkF m 39 #[.val (.int p1), .val (.int p2), .val (.int (3 : Int32)), .val (.int (1 : Int32)), .val (.ref w_DATE), .val (.ref w_INTEGER), .val (.int (0 : Int32)), .unset] [(.int ((4 : Int32) &&& (1 : Int32)))])) _
      rw [show ((4 : Int32) &&& (1 : Int32)) = (0 : Int32) from by decide]
      show OGot p.tables e below (T68.setTop (mkF m 39 #[.val (.int p1), .val (.int p2), .val (.int (3 : Int32)), .val (.int (1 : Int32)), .val (.ref w_DATE), .val (.ref w_INTEGER), .val (.int (0 : Int32)), .unset] [(.int (0 : Int32))])) _
      refine OGot.go (fun t k => XS.ifYes X68.here hx rfl (pc0 := 39) (pc' := 46) rfl (hb hby at_39) rfl (by decide) (by decide) (by decide) k) ?_
      show OGot p.tables e below (T68.setTop (mkF m 46 #[.val (.int p1), .val (.int p2), .val (.int (3 : Int32)), .val (.int (1 : Int32)), .val (.ref w_DATE), .val (.ref w_INTEGER), .val (.int (0 : Int32)), .unset] [])) _
      refine OGot.go (fun t k => XS.iconst X68.here hx rfl (hb hby at_46) k) ?_
      show OGot p.tables e below (T68.setTop (mkF m 47 #[.val (.int p1), .val (.int p2), .val (.int (3 : Int32)), .val (.int (1 : Int32)), .val (.ref w_DATE), .val (.ref w_INTEGER), .val (.int (0 : Int32)), .unset] [(.int (0 : Int32))])) _
      refine OGot.go (fun t k => XS.istore X68.here hx rfl (hb hby at_47) rfl (l' := #[.val (.int p1), .val (.int p2), .val (.int (3 : Int32)), .val (.int (1 : Int32)), .val (.ref w_DATE), .val (.ref w_INTEGER), .val (.int (0 : Int32)), .val (.int (0 : Int32))]) rfl k) ?_
      show OGot p.tables e below (T68.setTop (mkF m 49 #[.val (.int p1), .val (.int p2), .val (.int (3 : Int32)), .val (.int (1 : Int32)), .val (.ref w_DATE), .val (.ref w_INTEGER), .val (.int (0 : Int32)), .val (.int (0 : Int32))] [])) _
      refine OGot.go (fun t k => XS.iload X68.here hx rfl (hb hby at_49) rfl k) ?_
      show OGot p.tables e below (T68.setTop (mkF m 51 #[.val (.int p1), .val (.int p2), .val (.int (3 : Int32)), .val (.int (1 : Int32)), .val (.ref w_DATE), .val (.ref w_INTEGER), .val (.int (0 : Int32)), .val (.int (0 : Int32))] [(.int (0 : Int32))])) _
      refine OGot.go (fun t k => XS.iload X68.here hx rfl (hb hby at_51) rfl k) ?_
      show OGot p.tables e below (T68.setTop (mkF m 53 #[.val (.int p1), .val (.int p2), .val (.int (3 : Int32)), .val (.int (1 : Int32)), .val (.ref w_DATE), .val (.ref w_INTEGER), .val (.int (0 : Int32)), .val (.int (0 : Int32))] [(.int (0 : Int32)), (.int (0 : Int32))])) _
      refine OGot.go (fun t k => XS.icmpNo X68.here hx rfl (hb hby at_53) rfl (by decide) k) ?_
      show OGot p.tables e below (T68.setTop (mkF m 56 #[.val (.int p1), .val (.int p2), .val (.int (3 : Int32)), .val (.int (1 : Int32)), .val (.ref w_DATE), .val (.ref w_INTEGER), .val (.int (0 : Int32)), .val (.int (0 : Int32))] [])) _
      refine OGot.go (fun t k => XS.iload X68.here hx rfl (hb hby at_56) rfl k) ?_
      show OGot p.tables e below (T68.setTop (mkF m 58 #[.val (.int p1), .val (.int p2), .val (.int (3 : Int32)), .val (.int (1 : Int32)), .val (.ref w_DATE), .val (.ref w_INTEGER), .val (.int (0 : Int32)), .val (.int (0 : Int32))] [(.int (0 : Int32))])) _
      refine OGot.go (fun t k => XS.ifYes X68.here hx rfl (pc0 := 58) (pc' := 71) rfl (hb hby at_58) rfl (by decide) (by decide) (by decide) k) ?_
      show OGot p.tables e below (T68.setTop (mkF m 71 #[.val (.int p1), .val (.int p2), .val (.int (3 : Int32)), .val (.int (1 : Int32)), .val (.ref w_DATE), .val (.ref w_INTEGER), .val (.int (0 : Int32)), .val (.int (0 : Int32))] [])) _
      refine OGot.go (fun t k => XS.iconst X68.here hx rfl (hb hby at_71) k) ?_
      show OGot p.tables e below (T68.setTop (mkF m 72 #[.val (.int p1), .val (.int p2), .val (.int (3 : Int32)), .val (.int (1 : Int32)), .val (.ref w_DATE), .val (.ref w_INTEGER), .val (.int (0 : Int32)), .val (.int (0 : Int32))] [(.int (1 : Int32))])) _
      refine OGot.go (fun t k => XS.goto X68.here hx rfl (pc0 := 72) (pc' := 76) rfl (hb hby at_72) (by decide) (by decide) k) ?_
      show OGot p.tables e below (T68.setTop (mkF m 76 #[.val (.int p1), .val (.int p2), .val (.int (3 : Int32)), .val (.int (1 : Int32)), .val (.ref w_DATE), .val (.ref w_INTEGER), .val (.int (0 : Int32)), .val (.int (0 : Int32))] [(.int (1 : Int32))])) _
      obtain ⟨fs, hr, hrun, hended, hW, hsame⟩ := X68.leave (v := some (.int (1 : Int32))) (fun h => by rw [Bd.returns] at h; cases h)
      refine ⟨_, _, retN X68 hx (t := .boolean) Bd.returns (by simp) (hb hby at_76) hr, hrun, hended, _, _, rfl, ?_, ⟨_, rfl⟩, hW, hsame.mono (by decide) (by decide)⟩
      exact (⟨rfl, N68⟩ : Q0 Z w_TEXT w_DATE w_DECIMAL w_INTEGER p1 p2 h0 n0 _ T68.heap _)
    · rw [hk61]
      show OGot p.tables e below (s₁.setTop (mkF m 7 #[.val (.int p1), .val (.int p2), .val (.int (3 : Int32)), .unset, .unset, .unset, .unset, .unset] [(.int (2 : Int32))])) _
      refine OGot.go (fun t k => XS.istoreN X0.here hx rfl (hb hby at_7) rfl (l' := #[.val (.int p1), .val (.int p2), .val (.int (3 : Int32)), .val (.int (2 : Int32)), .unset, .unset, .unset, .unset]) rfl k) ?_
      show OGot p.tables e below (s₁.setTop (mkF m 8 #[.val (.int p1), .val (.int p2), .val (.int (3 : Int32)), .val (.int (2 : Int32)), .unset, .unset, .unset, .unset] [])) _
      refine OGot.go (fun t k => XS.iloadN X0.here hx rfl (hb hby at_8) rfl k) ?_
      show OGot p.tables e below (s₁.setTop (mkF m 9 #[.val (.int p1), .val (.int p2), .val (.int (3 : Int32)), .val (.int (2 : Int32)), .unset, .unset, .unset, .unset] [(.int (3 : Int32))])) _
      obtain ⟨_, _, ⟨T69, L69, k69, n69⟩, -, X69, ⟨Lc69, hQ69, l69, y69, z69⟩, st69⟩ := Jvm.LawKit.callS X0 hx (y := (⟨"com/example/archipel/archipel/model/DataTypeTakesPinLaw", "pick", "(I)Lcom/example/archipel/archipel/model/DataType;"⟩ : MethodName)) hown (mvT hZ (ow hw 0 rfl)) (mvT hZ (ow hw 1 rfl)) (mvT hZ (ow hw 2 rfl)) (mvT hZ (ow hw 3 rfl)) (by decide) (backOf (W := 0) (rm1_3 l Z a0 hw [] G  h0 n0 O0 ) hZ (ow hw 3 rfl) (ow hw 2 rfl) (by decide) (by decide)) (g := (mkF m 9 #[.val (.int p1), .val (.int p2), .val (.int (3 : Int32)), .val (.int (2 : Int32)), .unset, .unset, .unset, .unset] [(.int (3 : Int32))])) rfl (by rw [hml]; rfl) (argsL := [(.int (3 : Int32))]) (rest := []) (lenOf pd_0 rfl) rfl (by show 2 * 0 + _ ≤ _; exact Nat.le_of_eq rfl) (hb hby at_9) (fun _ _ => ⟨rfl, e0, (by decide : 0 + 0 ≤ _), (by decide : 0 + 0 ≤ _)⟩)
      dsimp only [Pt.U, Pt.locs, Pt.cells, Pt.slots] at X69 l69 y69 z69 st69 hQ69
      subst l69 y69 z69
      obtain ⟨rfl, N69q, e69⟩ := hQ69
      have N69 := Fr.app N0 N69q
      refine OGot.go st69 ?_
      show OGot p.tables e below (T69.setTop (mkF m 12 #[.val (.int p1), .val (.int p2), .val (.int (3 : Int32)), .val (.int (2 : Int32)), .unset, .unset, .unset, .unset] [(.ref w_DATE)])) _
      refine OGot.go (fun t k => XS.astore X69.here hx rfl (hb hby at_12) rfl rfl (l' := #[.val (.int p1), .val (.int p2), .val (.int (3 : Int32)), .val (.int (2 : Int32)), .val (.ref w_DATE), .unset, .unset, .unset]) rfl k) ?_
      show OGot p.tables e below (T69.setTop (mkF m 14 #[.val (.int p1), .val (.int p2), .val (.int (3 : Int32)), .val (.int (2 : Int32)), .val (.ref w_DATE), .unset, .unset, .unset] [])) _
      refine OGot.go (fun t k => XS.iloadN X69.here hx rfl (hb hby at_14) rfl k) ?_
      show OGot p.tables e below (T69.setTop (mkF m 15 #[.val (.int p1), .val (.int p2), .val (.int (3 : Int32)), .val (.int (2 : Int32)), .val (.ref w_DATE), .unset, .unset, .unset] [(.int (2 : Int32))])) _
      obtain ⟨_, _, ⟨T70, L70, k70, n70⟩, -, X70, ⟨Lc70, hQ70, l70, y70, z70⟩, st70⟩ := Jvm.LawKit.callS X69 hx (y := (⟨"com/example/archipel/archipel/model/DataTypeTakesPinLaw", "pick", "(I)Lcom/example/archipel/archipel/model/DataType;"⟩ : MethodName)) hown (mvT hZ (ow hw 0 rfl)) (mvT hZ (ow hw 1 rfl)) (mvT hZ (ow hw 2 rfl)) (mvT hZ (ow hw 3 rfl)) (by decide) (backOf (W := 0) (rm1_2 l Z a0 hw [] G  h0 n0 O0 ) hZ (ow hw 3 rfl) (ow hw 2 rfl) (by decide) (by decide)) (g := (mkF m 15 #[.val (.int p1), .val (.int p2), .val (.int (3 : Int32)), .val (.int (2 : Int32)), .val (.ref w_DATE), .unset, .unset, .unset] [(.int (2 : Int32))])) rfl (by rw [hml]; rfl) (argsL := [(.int (2 : Int32))]) (rest := []) (lenOf pd_0 rfl) rfl (by show 2 * 0 + _ ≤ _; exact Nat.le_of_eq rfl) (hb hby at_15) (fun _ _ => ⟨rfl, e69, (by decide : 0 + 0 ≤ _), (by decide : 0 + 0 ≤ _)⟩)
      dsimp only [Pt.U, Pt.locs, Pt.cells, Pt.slots] at X70 l70 y70 z70 st70 hQ70
      subst l70 y70 z70
      obtain ⟨rfl, N70q, e70⟩ := hQ70
      have N70 := Fr.app N69 N70q
      refine OGot.go st70 ?_
      show OGot p.tables e below (T70.setTop (mkF m 18 #[.val (.int p1), .val (.int p2), .val (.int (3 : Int32)), .val (.int (2 : Int32)), .val (.ref w_DATE), .unset, .unset, .unset] [(.ref w_DECIMAL)])) _
      refine OGot.go (fun t k => XS.astore X70.here hx rfl (hb hby at_18) rfl rfl (l' := #[.val (.int p1), .val (.int p2), .val (.int (3 : Int32)), .val (.int (2 : Int32)), .val (.ref w_DATE), .val (.ref w_DECIMAL), .unset, .unset]) rfl k) ?_
      show OGot p.tables e below (T70.setTop (mkF m 20 #[.val (.int p1), .val (.int p2), .val (.int (3 : Int32)), .val (.int (2 : Int32)), .val (.ref w_DATE), .val (.ref w_DECIMAL), .unset, .unset] [])) _
      refine OGot.go (fun t k => XS.aload X70.here hx rfl (hb hby at_20) rfl rfl k) ?_
      show OGot p.tables e below (T70.setTop (mkF m 22 #[.val (.int p1), .val (.int p2), .val (.int (3 : Int32)), .val (.int (2 : Int32)), .val (.ref w_DATE), .val (.ref w_DECIMAL), .unset, .unset] [(.ref w_DATE)])) _
      refine OGot.go (fun t k => XS.aload X70.here hx rfl (hb hby at_22) rfl rfl k) ?_
      show OGot p.tables e below (T70.setTop (mkF m 24 #[.val (.int p1), .val (.int p2), .val (.int (3 : Int32)), .val (.int (2 : Int32)), .val (.ref w_DATE), .val (.ref w_DECIMAL), .unset, .unset] [(.ref w_DECIMAL), (.ref w_DATE)])) _
      obtain ⟨cq71, kq71, q71a, q71b, q71c⟩ := isOf hZ e70 (G.2.2.2.1.ext O0.2)
      obtain ⟨_, _, ⟨T71, L71, k71, n71⟩, -, X71, ⟨Lc71, hQ71, l71, y71, z71⟩, st71⟩ := X70.virtualBack hx (y := (⟨"com/example/archipel/archipel/model/DataType", "takes", "(Lcom/example/archipel/archipel/model/DataType;)Z"⟩ : MethodName)) (z := (⟨"com/example/archipel/archipel/model/DataType", "takes", "(Lcom/example/archipel/archipel/model/DataType;)Z"⟩ : MethodName)) hown (mvT hZ (ow hw 9 rfl)) (mvT hZ (ow hw 10 rfl)) (notFace_of_selects (args := #[]) (mvT hZ (ow hw 12 rfl))) (mvT hZ (ow hw 12 rfl)) (mvT hZ (ow hw 11 rfl)) (by decide) (backOf (W := 0) (rm2_14 l Z a0 hw [] G  h0 n0 O0 ) hZ (ow hw 13 rfl) (ow hw 5 rfl) (by decide) (by decide)) q71a q71c (g := (mkF m 24 #[.val (.int p1), .val (.int p2), .val (.int (3 : Int32)), .val (.int (2 : Int32)), .val (.ref w_DATE), .val (.ref w_DECIMAL), .unset, .unset] [(.ref w_DECIMAL), (.ref w_DATE)])) rfl (by rw [hml]; rfl) (Steps.refl _) (argsL := [(.ref w_DECIMAL)]) (rest := []) (lenOf pd_1 rfl) rfl (by show 2 * 0 + _ ≤ _; exact Nat.le_of_eq rfl) (hb hby at_24) (fun _ _ => ⟨rfl, e70, (by decide : 0 + 0 ≤ _), (by decide : 0 + 0 ≤ _)⟩)
      dsimp only [Pt.U, Pt.locs, Pt.cells, Pt.slots] at X71 l71 y71 z71 st71 hQ71
      subst l71 y71 z71
      obtain ⟨rfl, N71q, e71⟩ := hQ71
      have N71 := Fr.app N70 N71q
      refine OGot.on st71 ?_
      show OGot p.tables e below (T71.setTop (mkF m 27 #[.val (.int p1), .val (.int p2), .val (.int (3 : Int32)), .val (.int (2 : Int32)), .val (.ref w_DATE), .val (.ref w_DECIMAL), .unset, .unset] [(.int (0 : Int32))])) _
      refine OGot.go (fun t k => XS.istore X71.here hx rfl (hb hby at_27) rfl (l' := #[.val (.int p1), .val (.int p2), .val (.int (3 : Int32)), .val (.int (2 : Int32)), .val (.ref w_DATE), .val (.ref w_DECIMAL), .val (.int (0 : Int32)), .unset]) rfl k) ?_
      show OGot p.tables e below (T71.setTop (mkF m 29 #[.val (.int p1), .val (.int p2), .val (.int (3 : Int32)), .val (.int (2 : Int32)), .val (.ref w_DATE), .val (.ref w_DECIMAL), .val (.int (0 : Int32)), .unset] [])) _
      refine OGot.go (fun t k => X71.ldcInt hx hown (mvT hZ (ow hw 16 rfl)) (g := (mkF m 29 #[.val (.int p1), .val (.int p2), .val (.int (3 : Int32)), .val (.int (2 : Int32)), .val (.ref w_DATE), .val (.ref w_DECIMAL), .val (.int (0 : Int32)), .unset] [])) rfl (hb hby at_29) _ k) ?_
      show OGot p.tables e below (T71.setTop (mkF m 31 #[.val (.int p1), .val (.int p2), .val (.int (3 : Int32)), .val (.int (2 : Int32)), .val (.ref w_DATE), .val (.ref w_DECIMAL), .val (.int (0 : Int32)), .unset] [(.int (34337 : Int32))])) _
      refine OGot.go (fun t k => XS.iloadN X71.here hx rfl (hb hby at_31) rfl k) ?_
      show OGot p.tables e below (T71.setTop (mkF m 32 #[.val (.int p1), .val (.int p2), .val (.int (3 : Int32)), .val (.int (2 : Int32)), .val (.ref w_DATE), .val (.ref w_DECIMAL), .val (.int (0 : Int32)), .unset] [(.int (3 : Int32)), (.int (34337 : Int32))])) _
      refine OGot.go (fun t k => XS.iconst X71.here hx rfl (hb hby at_32) k) ?_
      show OGot p.tables e below (T71.setTop (mkF m 33 #[.val (.int p1), .val (.int p2), .val (.int (3 : Int32)), .val (.int (2 : Int32)), .val (.ref w_DATE), .val (.ref w_DECIMAL), .val (.int (0 : Int32)), .unset] [(.int (4 : Int32)), (.int (3 : Int32)), (.int (34337 : Int32))])) _
      refine OGot.go (fun t k => XS.imul X71.here hx rfl (hb hby at_33) rfl k) ?_
      show OGot p.tables e below (T71.setTop (mkF m 34 #[.val (.int p1), .val (.int p2), .val (.int (3 : Int32)), .val (.int (2 : Int32)), .val (.ref w_DATE), .val (.ref w_DECIMAL), .val (.int (0 : Int32)), .unset] [(.int ((3 : Int32) * (4 : Int32))), (.int (34337 : Int32))])) _
      rw [show ((3 : Int32) * (4 : Int32)) = (12 : Int32) from by decide]
      show OGot p.tables e below (T71.setTop (mkF m 34 #[.val (.int p1), .val (.int p2), .val (.int (3 : Int32)), .val (.int (2 : Int32)), .val (.ref w_DATE), .val (.ref w_DECIMAL), .val (.int (0 : Int32)), .unset] [(.int (12 : Int32)), (.int (34337 : Int32))])) _
      refine OGot.go (fun t k => XS.iloadN X71.here hx rfl (hb hby at_34) rfl k) ?_
      show OGot p.tables e below (T71.setTop (mkF m 35 #[.val (.int p1), .val (.int p2), .val (.int (3 : Int32)), .val (.int (2 : Int32)), .val (.ref w_DATE), .val (.ref w_DECIMAL), .val (.int (0 : Int32)), .unset] [(.int (2 : Int32)), (.int (12 : Int32)), (.int (34337 : Int32))])) _
      refine OGot.go (fun t k => XS.iadd X71.here hx rfl (hb hby at_35) rfl k) ?_
      show OGot p.tables e below (T71.setTop (mkF m 36 #[.val (.int p1), .val (.int p2), .val (.int (3 : Int32)), .val (.int (2 : Int32)), .val (.ref w_DATE), .val (.ref w_DECIMAL), .val (.int (0 : Int32)), .unset] [(.int ((12 : Int32) + (2 : Int32))), (.int (34337 : Int32))])) _
      rw [show ((12 : Int32) + (2 : Int32)) = (14 : Int32) from by decide]
      show OGot p.tables e below (T71.setTop (mkF m 36 #[.val (.int p1), .val (.int p2), .val (.int (3 : Int32)), .val (.int (2 : Int32)), .val (.ref w_DATE), .val (.ref w_DECIMAL), .val (.int (0 : Int32)), .unset] [(.int (14 : Int32)), (.int (34337 : Int32))])) _
      refine OGot.go (fun t k => XS.ishr X71.here hx rfl (hb hby at_36) rfl k) ?_
      show OGot p.tables e below (T71.setTop (mkF m 37 #[.val (.int p1), .val (.int p2), .val (.int (3 : Int32)), .val (.int (2 : Int32)), .val (.ref w_DATE), .val (.ref w_DECIMAL), .val (.int (0 : Int32)), .unset] [(.int ((34337 : Int32) >>> ((14 : Int32) &&& 31)))])) _
      rw [show ((34337 : Int32) >>> ((14 : Int32) &&& 31)) = (2 : Int32) from by decide]
      show OGot p.tables e below (T71.setTop (mkF m 37 #[.val (.int p1), .val (.int p2), .val (.int (3 : Int32)), .val (.int (2 : Int32)), .val (.ref w_DATE), .val (.ref w_DECIMAL), .val (.int (0 : Int32)), .unset] [(.int (2 : Int32))])) _
      refine OGot.go (fun t k => XS.iconst X71.here hx rfl (hb hby at_37) k) ?_
      show OGot p.tables e below (T71.setTop (mkF m 38 #[.val (.int p1), .val (.int p2), .val (.int (3 : Int32)), .val (.int (2 : Int32)), .val (.ref w_DATE), .val (.ref w_DECIMAL), .val (.int (0 : Int32)), .unset] [(.int (1 : Int32)), (.int (2 : Int32))])) _
      refine OGot.go (fun t k => XS.iand X71.here hx rfl (hb hby at_38) rfl k) ?_
      show OGot p.tables e below (T71.setTop (mkF m 39 #[.val (.int p1), .val (.int p2), .val (.int (3 : Int32)), .val (.int (2 : Int32)), .val (.ref w_DATE), .val (.ref w_DECIMAL), .val (.int (0 : Int32)), .unset] [(.int ((2 : Int32) &&& (1 : Int32)))])) _
      rw [show ((2 : Int32) &&& (1 : Int32)) = (0 : Int32) from by decide]
      show OGot p.tables e below (T71.setTop (mkF m 39 #[.val (.int p1), .val (.int p2), .val (.int (3 : Int32)), .val (.int (2 : Int32)), .val (.ref w_DATE), .val (.ref w_DECIMAL), .val (.int (0 : Int32)), .unset] [(.int (0 : Int32))])) _
      refine OGot.go (fun t k => XS.ifYes X71.here hx rfl (pc0 := 39) (pc' := 46) rfl (hb hby at_39) rfl (by decide) (by decide) (by decide) k) ?_
      show OGot p.tables e below (T71.setTop (mkF m 46 #[.val (.int p1), .val (.int p2), .val (.int (3 : Int32)), .val (.int (2 : Int32)), .val (.ref w_DATE), .val (.ref w_DECIMAL), .val (.int (0 : Int32)), .unset] [])) _
      refine OGot.go (fun t k => XS.iconst X71.here hx rfl (hb hby at_46) k) ?_
      show OGot p.tables e below (T71.setTop (mkF m 47 #[.val (.int p1), .val (.int p2), .val (.int (3 : Int32)), .val (.int (2 : Int32)), .val (.ref w_DATE), .val (.ref w_DECIMAL), .val (.int (0 : Int32)), .unset] [(.int (0 : Int32))])) _
      refine OGot.go (fun t k => XS.istore X71.here hx rfl (hb hby at_47) rfl (l' := #[.val (.int p1), .val (.int p2), .val (.int (3 : Int32)), .val (.int (2 : Int32)), .val (.ref w_DATE), .val (.ref w_DECIMAL), .val (.int (0 : Int32)), .val (.int (0 : Int32))]) rfl k) ?_
      show OGot p.tables e below (T71.setTop (mkF m 49 #[.val (.int p1), .val (.int p2), .val (.int (3 : Int32)), .val (.int (2 : Int32)), .val (.ref w_DATE), .val (.ref w_DECIMAL), .val (.int (0 : Int32)), .val (.int (0 : Int32))] [])) _
      refine OGot.go (fun t k => XS.iload X71.here hx rfl (hb hby at_49) rfl k) ?_
      show OGot p.tables e below (T71.setTop (mkF m 51 #[.val (.int p1), .val (.int p2), .val (.int (3 : Int32)), .val (.int (2 : Int32)), .val (.ref w_DATE), .val (.ref w_DECIMAL), .val (.int (0 : Int32)), .val (.int (0 : Int32))] [(.int (0 : Int32))])) _
      refine OGot.go (fun t k => XS.iload X71.here hx rfl (hb hby at_51) rfl k) ?_
      show OGot p.tables e below (T71.setTop (mkF m 53 #[.val (.int p1), .val (.int p2), .val (.int (3 : Int32)), .val (.int (2 : Int32)), .val (.ref w_DATE), .val (.ref w_DECIMAL), .val (.int (0 : Int32)), .val (.int (0 : Int32))] [(.int (0 : Int32)), (.int (0 : Int32))])) _
      refine OGot.go (fun t k => XS.icmpNo X71.here hx rfl (hb hby at_53) rfl (by decide) k) ?_
      show OGot p.tables e below (T71.setTop (mkF m 56 #[.val (.int p1), .val (.int p2), .val (.int (3 : Int32)), .val (.int (2 : Int32)), .val (.ref w_DATE), .val (.ref w_DECIMAL), .val (.int (0 : Int32)), .val (.int (0 : Int32))] [])) _
      refine OGot.go (fun t k => XS.iload X71.here hx rfl (hb hby at_56) rfl k) ?_
      show OGot p.tables e below (T71.setTop (mkF m 58 #[.val (.int p1), .val (.int p2), .val (.int (3 : Int32)), .val (.int (2 : Int32)), .val (.ref w_DATE), .val (.ref w_DECIMAL), .val (.int (0 : Int32)), .val (.int (0 : Int32))] [(.int (0 : Int32))])) _
      refine OGot.go (fun t k => XS.ifYes X71.here hx rfl (pc0 := 58) (pc' := 71) rfl (hb hby at_58) rfl (by decide) (by decide) (by decide) k) ?_
      show OGot p.tables e below (T71.setTop (mkF m 71 #[.val (.int p1), .val (.int p2), .val (.int (3 : Int32)), .val (.int (2 : Int32)), .val (.ref w_DATE), .val (.ref w_DECIMAL), .val (.int (0 : Int32)), .val (.int (0 : Int32))] [])) _
      refine OGot.go (fun t k => XS.iconst X71.here hx rfl (hb hby at_71) k) ?_
      show OGot p.tables e below (T71.setTop (mkF m 72 #[.val (.int p1), .val (.int p2), .val (.int (3 : Int32)), .val (.int (2 : Int32)), .val (.ref w_DATE), .val (.ref w_DECIMAL), .val (.int (0 : Int32)), .val (.int (0 : Int32))] [(.int (1 : Int32))])) _
      refine OGot.go (fun t k => XS.goto X71.here hx rfl (pc0 := 72) (pc' := 76) rfl (hb hby at_72) (by decide) (by decide) k) ?_
      show OGot p.tables e below (T71.setTop (mkF m 76 #[.val (.int p1), .val (.int p2), .val (.int (3 : Int32)), .val (.int (2 : Int32)), .val (.ref w_DATE), .val (.ref w_DECIMAL), .val (.int (0 : Int32)), .val (.int (0 : Int32))] [(.int (1 : Int32))])) _
      obtain ⟨fs, hr, hrun, hended, hW, hsame⟩ := X71.leave (v := some (.int (1 : Int32))) (fun h => by rw [Bd.returns] at h; cases h)
      refine ⟨_, _, retN X71 hx (t := .boolean) Bd.returns (by simp) (hb hby at_76) hr, hrun, hended, _, _, rfl, ?_, ⟨_, rfl⟩, hW, hsame.mono (by decide) (by decide)⟩
      exact (⟨rfl, N71⟩ : Q0 Z w_TEXT w_DATE w_DECIMAL w_INTEGER p1 p2 h0 n0 _ T71.heap _)
    · rw [hk62]
      show OGot p.tables e below (s₁.setTop (mkF m 7 #[.val (.int p1), .val (.int p2), .val (.int (3 : Int32)), .unset, .unset, .unset, .unset, .unset] [(.int (3 : Int32))])) _
      refine OGot.go (fun t k => XS.istoreN X0.here hx rfl (hb hby at_7) rfl (l' := #[.val (.int p1), .val (.int p2), .val (.int (3 : Int32)), .val (.int (3 : Int32)), .unset, .unset, .unset, .unset]) rfl k) ?_
      show OGot p.tables e below (s₁.setTop (mkF m 8 #[.val (.int p1), .val (.int p2), .val (.int (3 : Int32)), .val (.int (3 : Int32)), .unset, .unset, .unset, .unset] [])) _
      refine OGot.go (fun t k => XS.iloadN X0.here hx rfl (hb hby at_8) rfl k) ?_
      show OGot p.tables e below (s₁.setTop (mkF m 9 #[.val (.int p1), .val (.int p2), .val (.int (3 : Int32)), .val (.int (3 : Int32)), .unset, .unset, .unset, .unset] [(.int (3 : Int32))])) _
      obtain ⟨_, _, ⟨T72, L72, k72, n72⟩, -, X72, ⟨Lc72, hQ72, l72, y72, z72⟩, st72⟩ := Jvm.LawKit.callS X0 hx (y := (⟨"com/example/archipel/archipel/model/DataTypeTakesPinLaw", "pick", "(I)Lcom/example/archipel/archipel/model/DataType;"⟩ : MethodName)) hown (mvT hZ (ow hw 0 rfl)) (mvT hZ (ow hw 1 rfl)) (mvT hZ (ow hw 2 rfl)) (mvT hZ (ow hw 3 rfl)) (by decide) (backOf (W := 0) (rm1_3 l Z a0 hw [] G  h0 n0 O0 ) hZ (ow hw 3 rfl) (ow hw 2 rfl) (by decide) (by decide)) (g := (mkF m 9 #[.val (.int p1), .val (.int p2), .val (.int (3 : Int32)), .val (.int (3 : Int32)), .unset, .unset, .unset, .unset] [(.int (3 : Int32))])) rfl (by rw [hml]; rfl) (argsL := [(.int (3 : Int32))]) (rest := []) (lenOf pd_0 rfl) rfl (by show 2 * 0 + _ ≤ _; exact Nat.le_of_eq rfl) (hb hby at_9) (fun _ _ => ⟨rfl, e0, (by decide : 0 + 0 ≤ _), (by decide : 0 + 0 ≤ _)⟩)
      dsimp only [Pt.U, Pt.locs, Pt.cells, Pt.slots] at X72 l72 y72 z72 st72 hQ72
      subst l72 y72 z72
      obtain ⟨rfl, N72q, e72⟩ := hQ72
      have N72 := Fr.app N0 N72q
      refine OGot.go st72 ?_
      show OGot p.tables e below (T72.setTop (mkF m 12 #[.val (.int p1), .val (.int p2), .val (.int (3 : Int32)), .val (.int (3 : Int32)), .unset, .unset, .unset, .unset] [(.ref w_DATE)])) _
      refine OGot.go (fun t k => XS.astore X72.here hx rfl (hb hby at_12) rfl rfl (l' := #[.val (.int p1), .val (.int p2), .val (.int (3 : Int32)), .val (.int (3 : Int32)), .val (.ref w_DATE), .unset, .unset, .unset]) rfl k) ?_
      show OGot p.tables e below (T72.setTop (mkF m 14 #[.val (.int p1), .val (.int p2), .val (.int (3 : Int32)), .val (.int (3 : Int32)), .val (.ref w_DATE), .unset, .unset, .unset] [])) _
      refine OGot.go (fun t k => XS.iloadN X72.here hx rfl (hb hby at_14) rfl k) ?_
      show OGot p.tables e below (T72.setTop (mkF m 15 #[.val (.int p1), .val (.int p2), .val (.int (3 : Int32)), .val (.int (3 : Int32)), .val (.ref w_DATE), .unset, .unset, .unset] [(.int (3 : Int32))])) _
      obtain ⟨_, _, ⟨T73, L73, k73, n73⟩, -, X73, ⟨Lc73, hQ73, l73, y73, z73⟩, st73⟩ := Jvm.LawKit.callS X72 hx (y := (⟨"com/example/archipel/archipel/model/DataTypeTakesPinLaw", "pick", "(I)Lcom/example/archipel/archipel/model/DataType;"⟩ : MethodName)) hown (mvT hZ (ow hw 0 rfl)) (mvT hZ (ow hw 1 rfl)) (mvT hZ (ow hw 2 rfl)) (mvT hZ (ow hw 3 rfl)) (by decide) (backOf (W := 0) (rm1_3 l Z a0 hw [] G  h0 n0 O0 ) hZ (ow hw 3 rfl) (ow hw 2 rfl) (by decide) (by decide)) (g := (mkF m 15 #[.val (.int p1), .val (.int p2), .val (.int (3 : Int32)), .val (.int (3 : Int32)), .val (.ref w_DATE), .unset, .unset, .unset] [(.int (3 : Int32))])) rfl (by rw [hml]; rfl) (argsL := [(.int (3 : Int32))]) (rest := []) (lenOf pd_0 rfl) rfl (by show 2 * 0 + _ ≤ _; exact Nat.le_of_eq rfl) (hb hby at_15) (fun _ _ => ⟨rfl, e72, (by decide : 0 + 0 ≤ _), (by decide : 0 + 0 ≤ _)⟩)
      dsimp only [Pt.U, Pt.locs, Pt.cells, Pt.slots] at X73 l73 y73 z73 st73 hQ73
      subst l73 y73 z73
      obtain ⟨rfl, N73q, e73⟩ := hQ73
      have N73 := Fr.app N72 N73q
      refine OGot.go st73 ?_
      show OGot p.tables e below (T73.setTop (mkF m 18 #[.val (.int p1), .val (.int p2), .val (.int (3 : Int32)), .val (.int (3 : Int32)), .val (.ref w_DATE), .unset, .unset, .unset] [(.ref w_DATE)])) _
      refine OGot.go (fun t k => XS.astore X73.here hx rfl (hb hby at_18) rfl rfl (l' := #[.val (.int p1), .val (.int p2), .val (.int (3 : Int32)), .val (.int (3 : Int32)), .val (.ref w_DATE), .val (.ref w_DATE), .unset, .unset]) rfl k) ?_
      show OGot p.tables e below (T73.setTop (mkF m 20 #[.val (.int p1), .val (.int p2), .val (.int (3 : Int32)), .val (.int (3 : Int32)), .val (.ref w_DATE), .val (.ref w_DATE), .unset, .unset] [])) _
      refine OGot.go (fun t k => XS.aload X73.here hx rfl (hb hby at_20) rfl rfl k) ?_
      show OGot p.tables e below (T73.setTop (mkF m 22 #[.val (.int p1), .val (.int p2), .val (.int (3 : Int32)), .val (.int (3 : Int32)), .val (.ref w_DATE), .val (.ref w_DATE), .unset, .unset] [(.ref w_DATE)])) _
      refine OGot.go (fun t k => XS.aload X73.here hx rfl (hb hby at_22) rfl rfl k) ?_
      show OGot p.tables e below (T73.setTop (mkF m 24 #[.val (.int p1), .val (.int p2), .val (.int (3 : Int32)), .val (.int (3 : Int32)), .val (.ref w_DATE), .val (.ref w_DATE), .unset, .unset] [(.ref w_DATE), (.ref w_DATE)])) _
      obtain ⟨cq74, kq74, q74a, q74b, q74c⟩ := isOf hZ e73 (G.2.2.2.1.ext O0.2)
      obtain ⟨_, _, ⟨T74, L74, k74, n74⟩, -, X74, ⟨Lc74, hQ74, l74, y74, z74⟩, st74⟩ := X73.virtualBack hx (y := (⟨"com/example/archipel/archipel/model/DataType", "takes", "(Lcom/example/archipel/archipel/model/DataType;)Z"⟩ : MethodName)) (z := (⟨"com/example/archipel/archipel/model/DataType", "takes", "(Lcom/example/archipel/archipel/model/DataType;)Z"⟩ : MethodName)) hown (mvT hZ (ow hw 9 rfl)) (mvT hZ (ow hw 10 rfl)) (notFace_of_selects (args := #[]) (mvT hZ (ow hw 12 rfl))) (mvT hZ (ow hw 12 rfl)) (mvT hZ (ow hw 11 rfl)) (by decide) (backOf (W := 0) (rm2_15 l Z a0 hw [] G  h0 n0 O0 ) hZ (ow hw 13 rfl) (ow hw 5 rfl) (by decide) (by decide)) q74a q74c (g := (mkF m 24 #[.val (.int p1), .val (.int p2), .val (.int (3 : Int32)), .val (.int (3 : Int32)), .val (.ref w_DATE), .val (.ref w_DATE), .unset, .unset] [(.ref w_DATE), (.ref w_DATE)])) rfl (by rw [hml]; rfl) (Steps.refl _) (argsL := [(.ref w_DATE)]) (rest := []) (lenOf pd_1 rfl) rfl (by show 2 * 0 + _ ≤ _; exact Nat.le_of_eq rfl) (hb hby at_24) (fun _ _ => ⟨rfl, e73, (by decide : 0 + 0 ≤ _), (by decide : 0 + 0 ≤ _)⟩)
      dsimp only [Pt.U, Pt.locs, Pt.cells, Pt.slots] at X74 l74 y74 z74 st74 hQ74
      subst l74 y74 z74
      obtain ⟨rfl, N74q, e74⟩ := hQ74
      have N74 := Fr.app N73 N74q
      refine OGot.on st74 ?_
      show OGot p.tables e below (T74.setTop (mkF m 27 #[.val (.int p1), .val (.int p2), .val (.int (3 : Int32)), .val (.int (3 : Int32)), .val (.ref w_DATE), .val (.ref w_DATE), .unset, .unset] [(.int (1 : Int32))])) _
      refine OGot.go (fun t k => XS.istore X74.here hx rfl (hb hby at_27) rfl (l' := #[.val (.int p1), .val (.int p2), .val (.int (3 : Int32)), .val (.int (3 : Int32)), .val (.ref w_DATE), .val (.ref w_DATE), .val (.int (1 : Int32)), .unset]) rfl k) ?_
      show OGot p.tables e below (T74.setTop (mkF m 29 #[.val (.int p1), .val (.int p2), .val (.int (3 : Int32)), .val (.int (3 : Int32)), .val (.ref w_DATE), .val (.ref w_DATE), .val (.int (1 : Int32)), .unset] [])) _
      refine OGot.go (fun t k => X74.ldcInt hx hown (mvT hZ (ow hw 16 rfl)) (g := (mkF m 29 #[.val (.int p1), .val (.int p2), .val (.int (3 : Int32)), .val (.int (3 : Int32)), .val (.ref w_DATE), .val (.ref w_DATE), .val (.int (1 : Int32)), .unset] [])) rfl (hb hby at_29) _ k) ?_
      show OGot p.tables e below (T74.setTop (mkF m 31 #[.val (.int p1), .val (.int p2), .val (.int (3 : Int32)), .val (.int (3 : Int32)), .val (.ref w_DATE), .val (.ref w_DATE), .val (.int (1 : Int32)), .unset] [(.int (34337 : Int32))])) _
      refine OGot.go (fun t k => XS.iloadN X74.here hx rfl (hb hby at_31) rfl k) ?_
      show OGot p.tables e below (T74.setTop (mkF m 32 #[.val (.int p1), .val (.int p2), .val (.int (3 : Int32)), .val (.int (3 : Int32)), .val (.ref w_DATE), .val (.ref w_DATE), .val (.int (1 : Int32)), .unset] [(.int (3 : Int32)), (.int (34337 : Int32))])) _
      refine OGot.go (fun t k => XS.iconst X74.here hx rfl (hb hby at_32) k) ?_
      show OGot p.tables e below (T74.setTop (mkF m 33 #[.val (.int p1), .val (.int p2), .val (.int (3 : Int32)), .val (.int (3 : Int32)), .val (.ref w_DATE), .val (.ref w_DATE), .val (.int (1 : Int32)), .unset] [(.int (4 : Int32)), (.int (3 : Int32)), (.int (34337 : Int32))])) _
      refine OGot.go (fun t k => XS.imul X74.here hx rfl (hb hby at_33) rfl k) ?_
      show OGot p.tables e below (T74.setTop (mkF m 34 #[.val (.int p1), .val (.int p2), .val (.int (3 : Int32)), .val (.int (3 : Int32)), .val (.ref w_DATE), .val (.ref w_DATE), .val (.int (1 : Int32)), .unset] [(.int ((3 : Int32) * (4 : Int32))), (.int (34337 : Int32))])) _
      rw [show ((3 : Int32) * (4 : Int32)) = (12 : Int32) from by decide]
      show OGot p.tables e below (T74.setTop (mkF m 34 #[.val (.int p1), .val (.int p2), .val (.int (3 : Int32)), .val (.int (3 : Int32)), .val (.ref w_DATE), .val (.ref w_DATE), .val (.int (1 : Int32)), .unset] [(.int (12 : Int32)), (.int (34337 : Int32))])) _
      refine OGot.go (fun t k => XS.iloadN X74.here hx rfl (hb hby at_34) rfl k) ?_
      show OGot p.tables e below (T74.setTop (mkF m 35 #[.val (.int p1), .val (.int p2), .val (.int (3 : Int32)), .val (.int (3 : Int32)), .val (.ref w_DATE), .val (.ref w_DATE), .val (.int (1 : Int32)), .unset] [(.int (3 : Int32)), (.int (12 : Int32)), (.int (34337 : Int32))])) _
      refine OGot.go (fun t k => XS.iadd X74.here hx rfl (hb hby at_35) rfl k) ?_
      show OGot p.tables e below (T74.setTop (mkF m 36 #[.val (.int p1), .val (.int p2), .val (.int (3 : Int32)), .val (.int (3 : Int32)), .val (.ref w_DATE), .val (.ref w_DATE), .val (.int (1 : Int32)), .unset] [(.int ((12 : Int32) + (3 : Int32))), (.int (34337 : Int32))])) _
      rw [show ((12 : Int32) + (3 : Int32)) = (15 : Int32) from by decide]
      show OGot p.tables e below (T74.setTop (mkF m 36 #[.val (.int p1), .val (.int p2), .val (.int (3 : Int32)), .val (.int (3 : Int32)), .val (.ref w_DATE), .val (.ref w_DATE), .val (.int (1 : Int32)), .unset] [(.int (15 : Int32)), (.int (34337 : Int32))])) _
      refine OGot.go (fun t k => XS.ishr X74.here hx rfl (hb hby at_36) rfl k) ?_
      show OGot p.tables e below (T74.setTop (mkF m 37 #[.val (.int p1), .val (.int p2), .val (.int (3 : Int32)), .val (.int (3 : Int32)), .val (.ref w_DATE), .val (.ref w_DATE), .val (.int (1 : Int32)), .unset] [(.int ((34337 : Int32) >>> ((15 : Int32) &&& 31)))])) _
      rw [show ((34337 : Int32) >>> ((15 : Int32) &&& 31)) = (1 : Int32) from by decide]
      show OGot p.tables e below (T74.setTop (mkF m 37 #[.val (.int p1), .val (.int p2), .val (.int (3 : Int32)), .val (.int (3 : Int32)), .val (.ref w_DATE), .val (.ref w_DATE), .val (.int (1 : Int32)), .unset] [(.int (1 : Int32))])) _
      refine OGot.go (fun t k => XS.iconst X74.here hx rfl (hb hby at_37) k) ?_
      show OGot p.tables e below (T74.setTop (mkF m 38 #[.val (.int p1), .val (.int p2), .val (.int (3 : Int32)), .val (.int (3 : Int32)), .val (.ref w_DATE), .val (.ref w_DATE), .val (.int (1 : Int32)), .unset] [(.int (1 : Int32)), (.int (1 : Int32))])) _
      refine OGot.go (fun t k => XS.iand X74.here hx rfl (hb hby at_38) rfl k) ?_
      show OGot p.tables e below (T74.setTop (mkF m 39 #[.val (.int p1), .val (.int p2), .val (.int (3 : Int32)), .val (.int (3 : Int32)), .val (.ref w_DATE), .val (.ref w_DATE), .val (.int (1 : Int32)), .unset] [(.int ((1 : Int32) &&& (1 : Int32)))])) _
      rw [show ((1 : Int32) &&& (1 : Int32)) = (1 : Int32) from by decide]
      show OGot p.tables e below (T74.setTop (mkF m 39 #[.val (.int p1), .val (.int p2), .val (.int (3 : Int32)), .val (.int (3 : Int32)), .val (.ref w_DATE), .val (.ref w_DATE), .val (.int (1 : Int32)), .unset] [(.int (1 : Int32))])) _
      refine OGot.go (fun t k => XS.ifNo X74.here hx rfl (hb hby at_39) rfl (by decide) k) ?_
      show OGot p.tables e below (T74.setTop (mkF m 42 #[.val (.int p1), .val (.int p2), .val (.int (3 : Int32)), .val (.int (3 : Int32)), .val (.ref w_DATE), .val (.ref w_DATE), .val (.int (1 : Int32)), .unset] [])) _
      refine OGot.go (fun t k => XS.iconst X74.here hx rfl (hb hby at_42) k) ?_
      show OGot p.tables e below (T74.setTop (mkF m 43 #[.val (.int p1), .val (.int p2), .val (.int (3 : Int32)), .val (.int (3 : Int32)), .val (.ref w_DATE), .val (.ref w_DATE), .val (.int (1 : Int32)), .unset] [(.int (1 : Int32))])) _
      refine OGot.go (fun t k => XS.goto X74.here hx rfl (pc0 := 43) (pc' := 47) rfl (hb hby at_43) (by decide) (by decide) k) ?_
      show OGot p.tables e below (T74.setTop (mkF m 47 #[.val (.int p1), .val (.int p2), .val (.int (3 : Int32)), .val (.int (3 : Int32)), .val (.ref w_DATE), .val (.ref w_DATE), .val (.int (1 : Int32)), .unset] [(.int (1 : Int32))])) _
      refine OGot.go (fun t k => XS.istore X74.here hx rfl (hb hby at_47) rfl (l' := #[.val (.int p1), .val (.int p2), .val (.int (3 : Int32)), .val (.int (3 : Int32)), .val (.ref w_DATE), .val (.ref w_DATE), .val (.int (1 : Int32)), .val (.int (1 : Int32))]) rfl k) ?_
      show OGot p.tables e below (T74.setTop (mkF m 49 #[.val (.int p1), .val (.int p2), .val (.int (3 : Int32)), .val (.int (3 : Int32)), .val (.ref w_DATE), .val (.ref w_DATE), .val (.int (1 : Int32)), .val (.int (1 : Int32))] [])) _
      refine OGot.go (fun t k => XS.iload X74.here hx rfl (hb hby at_49) rfl k) ?_
      show OGot p.tables e below (T74.setTop (mkF m 51 #[.val (.int p1), .val (.int p2), .val (.int (3 : Int32)), .val (.int (3 : Int32)), .val (.ref w_DATE), .val (.ref w_DATE), .val (.int (1 : Int32)), .val (.int (1 : Int32))] [(.int (1 : Int32))])) _
      refine OGot.go (fun t k => XS.iload X74.here hx rfl (hb hby at_51) rfl k) ?_
      show OGot p.tables e below (T74.setTop (mkF m 53 #[.val (.int p1), .val (.int p2), .val (.int (3 : Int32)), .val (.int (3 : Int32)), .val (.ref w_DATE), .val (.ref w_DATE), .val (.int (1 : Int32)), .val (.int (1 : Int32))] [(.int (1 : Int32)), (.int (1 : Int32))])) _
      refine OGot.go (fun t k => XS.icmpNo X74.here hx rfl (hb hby at_53) rfl (by decide) k) ?_
      show OGot p.tables e below (T74.setTop (mkF m 56 #[.val (.int p1), .val (.int p2), .val (.int (3 : Int32)), .val (.int (3 : Int32)), .val (.ref w_DATE), .val (.ref w_DATE), .val (.int (1 : Int32)), .val (.int (1 : Int32))] [])) _
      refine OGot.go (fun t k => XS.iload X74.here hx rfl (hb hby at_56) rfl k) ?_
      show OGot p.tables e below (T74.setTop (mkF m 58 #[.val (.int p1), .val (.int p2), .val (.int (3 : Int32)), .val (.int (3 : Int32)), .val (.ref w_DATE), .val (.ref w_DATE), .val (.int (1 : Int32)), .val (.int (1 : Int32))] [(.int (1 : Int32))])) _
      refine OGot.go (fun t k => XS.ifNo X74.here hx rfl (hb hby at_58) rfl (by decide) k) ?_
      show OGot p.tables e below (T74.setTop (mkF m 61 #[.val (.int p1), .val (.int p2), .val (.int (3 : Int32)), .val (.int (3 : Int32)), .val (.ref w_DATE), .val (.ref w_DATE), .val (.int (1 : Int32)), .val (.int (1 : Int32))] [])) _
      refine OGot.go (fun t k => XS.aload X74.here hx rfl (hb hby at_61) rfl rfl k) ?_
      show OGot p.tables e below (T74.setTop (mkF m 63 #[.val (.int p1), .val (.int p2), .val (.int (3 : Int32)), .val (.int (3 : Int32)), .val (.ref w_DATE), .val (.ref w_DATE), .val (.int (1 : Int32)), .val (.int (1 : Int32))] [(.ref w_DATE)])) _
      refine OGot.go (fun t k => XS.aload X74.here hx rfl (hb hby at_63) rfl rfl k) ?_
      show OGot p.tables e below (T74.setTop (mkF m 65 #[.val (.int p1), .val (.int p2), .val (.int (3 : Int32)), .val (.int (3 : Int32)), .val (.ref w_DATE), .val (.ref w_DATE), .val (.int (1 : Int32)), .val (.int (1 : Int32))] [(.ref w_DATE), (.ref w_DATE)])) _
      obtain ⟨cq75, kq75, q75a, q75b, q75c⟩ := isOf hZ e74 (G.2.2.2.1.ext O0.2)
      obtain ⟨_, _, ⟨T75, L75, k75, n75⟩, -, X75, ⟨Lc75, hQ75, l75, y75, z75⟩, st75⟩ := X74.virtualBack hx (y := (⟨"com/example/archipel/archipel/model/DataType", "comparableWith", "(Lcom/example/archipel/archipel/model/DataType;)Z"⟩ : MethodName)) (z := (⟨"com/example/archipel/archipel/model/DataType", "comparableWith", "(Lcom/example/archipel/archipel/model/DataType;)Z"⟩ : MethodName)) hown (mvT hZ (ow hw 21 rfl)) (mvT hZ (ow hw 22 rfl)) (notFace_of_selects (args := #[]) (mvT hZ (ow hw 24 rfl))) (mvT hZ (ow hw 24 rfl)) (mvT hZ (ow hw 23 rfl)) (by decide) (backOf (W := 0) (rm3_4 l Z a0 hw [] G  h0 n0 O0 ) hZ (ow hw 25 rfl) (ow hw 5 rfl) (by decide) (by decide)) q75a q75c (g := (mkF m 65 #[.val (.int p1), .val (.int p2), .val (.int (3 : Int32)), .val (.int (3 : Int32)), .val (.ref w_DATE), .val (.ref w_DATE), .val (.int (1 : Int32)), .val (.int (1 : Int32))] [(.ref w_DATE), (.ref w_DATE)])) rfl (by rw [hml]; rfl) (Steps.refl _) (argsL := [(.ref w_DATE)]) (rest := []) (lenOf pd_1 rfl) rfl (by show 2 * 0 + _ ≤ _; exact Nat.le_of_eq rfl) (hb hby at_65) (fun _ _ => ⟨rfl, e74, (by decide : 0 + 0 ≤ _), (by decide : 0 + 0 ≤ _)⟩)
      dsimp only [Pt.U, Pt.locs, Pt.cells, Pt.slots] at X75 l75 y75 z75 st75 hQ75
      subst l75 y75 z75
      obtain ⟨rfl, N75q, e75⟩ := hQ75
      have N75 := Fr.app N74 N75q
      refine OGot.on st75 ?_
      show OGot p.tables e below (T75.setTop (mkF m 68 #[.val (.int p1), .val (.int p2), .val (.int (3 : Int32)), .val (.int (3 : Int32)), .val (.ref w_DATE), .val (.ref w_DATE), .val (.int (1 : Int32)), .val (.int (1 : Int32))] [(.int (1 : Int32))])) _
      refine OGot.go (fun t k => XS.ifNo X75.here hx rfl (hb hby at_68) rfl (by decide) k) ?_
      show OGot p.tables e below (T75.setTop (mkF m 71 #[.val (.int p1), .val (.int p2), .val (.int (3 : Int32)), .val (.int (3 : Int32)), .val (.ref w_DATE), .val (.ref w_DATE), .val (.int (1 : Int32)), .val (.int (1 : Int32))] [])) _
      refine OGot.go (fun t k => XS.iconst X75.here hx rfl (hb hby at_71) k) ?_
      show OGot p.tables e below (T75.setTop (mkF m 72 #[.val (.int p1), .val (.int p2), .val (.int (3 : Int32)), .val (.int (3 : Int32)), .val (.ref w_DATE), .val (.ref w_DATE), .val (.int (1 : Int32)), .val (.int (1 : Int32))] [(.int (1 : Int32))])) _
      refine OGot.go (fun t k => XS.goto X75.here hx rfl (pc0 := 72) (pc' := 76) rfl (hb hby at_72) (by decide) (by decide) k) ?_
      show OGot p.tables e below (T75.setTop (mkF m 76 #[.val (.int p1), .val (.int p2), .val (.int (3 : Int32)), .val (.int (3 : Int32)), .val (.ref w_DATE), .val (.ref w_DATE), .val (.int (1 : Int32)), .val (.int (1 : Int32))] [(.int (1 : Int32))])) _
      obtain ⟨fs, hr, hrun, hended, hW, hsame⟩ := X75.leave (v := some (.int (1 : Int32))) (fun h => by rw [Bd.returns] at h; cases h)
      refine ⟨_, _, retN X75 hx (t := .boolean) Bd.returns (by simp) (hb hby at_76) hr, hrun, hended, _, _, rfl, ?_, ⟨_, rfl⟩, hW, hsame.mono (by decide) (by decide)⟩
      exact (⟨rfl, N75⟩ : Q0 Z w_TEXT w_DATE w_DECIMAL w_INTEGER p1 p2 h0 n0 _ T75.heap _)
set_option maxRecDepth 65536 in
set_option maxHeartbeats 40000000 in
theorem comes_1 {Post : Tables → Env → Array Value → State → Outcome → State → Prop} (hpost : ∀ tb e args s v u, (limb_1_1.after args s (.returned v) u = true ∧ limb_1_2.after args s (.returned v) u = true ∧ True) → FrameEnd s (.returned v) u (Jvm.fieldLocs frame_1_writes args s ++ Jvm.arrayLocs frame_1_arrays args s ++ Jvm.staticLocs frame_1_statics s) 0 0 → Post tb e args s (.returned v) u) :
    ArmFor flags0 classFile x code maxLocals ret World_1 tables_1 room_1 Calls_1 rest_1 Pre_1 Post := by
  intro l hfl _ _ p e ha hc hk s m args below hf hA hF happ hP
  obtain ⟨hcalls, hrest, hpre⟩ := hP
  obtain ⟨-, -, -, hnamed, -, -, -, hat⟩ := (Spec.applies_iff hf).mp happ
  obtain ⟨hg, hn⟩ := and_e (Cond.before_iff.mp (show (Jvm.Cond.and given_1 narrow_1).before args s = true from hpre))
  obtain ⟨g0, g0r⟩ := and_e hg
  obtain ⟨g1, g1r⟩ := and_e g0r
  obtain ⟨w0, w1, rfl⟩ : ∃ w0 w1 : Value, args = #[w0, w1] := by
    have hs : args.size = 2 := by simpa [Cond.value, given_1] using g0
    obtain ⟨L⟩ := args
    match L, hs with
    | [w0, w1], _ => exact ⟨w0, w1, rfl⟩
  have hw := fun d (hd : d ∈ tables_1) => atoms_spec (ws := Jvm.Cond.code x code maxLocals ret :: tables_1) hat d (List.mem_cons_of_mem _ hd)
  obtain ⟨i0, ei0⟩ := is_v g1
  obtain rfl : w0 = (.int i0) := Option.some.inj ei0
  obtain ⟨i1, ei1⟩ := is_v g1r
  obtain rfl : w1 = (.int i1) := Option.some.inj ei1
  obtain ⟨m0, m0r⟩ := and_e hn
  obtain ⟨m1, m1r⟩ := and_e m0r
  obtain ⟨m2, m2r⟩ := and_e m1r
  obtain ⟨m3, m3r⟩ := and_e m2r
  obtain ⟨m4, m4r⟩ := and_e m3r
  obtain ⟨m5, m5r⟩ := and_e m4r
  obtain ⟨m6, m6r⟩ := and_e m5r
  obtain ⟨w_TEXT, ev_w_TEXT⟩ := exa_v m0
  obtain ⟨w_DATE, ev_w_DATE⟩ := exa_v m1
  obtain ⟨w_DECIMAL, ev_w_DECIMAL⟩ := exa_v m4
  obtain ⟨w_INTEGER, ev_w_INTEGER⟩ := exa_v m6
  have G : Glob s w_TEXT w_DATE w_DECIMAL w_INTEGER := ⟨(Sta.start ev_w_TEXT (Or.inr ⟨(ow hw 5 rfl), (ow hw 6 rfl)⟩)), (Exa.start ev_w_TEXT m0), (Sta.start ev_w_DATE (Or.inr ⟨(ow hw 5 rfl), (ow hw 8 rfl)⟩)), (Exa.start ev_w_DATE m1), (Sta.start ev_w_DECIMAL (Or.inr ⟨(ow hw 5 rfl), (ow hw 15 rfl)⟩)), (Exa.start ev_w_DECIMAL m4), (Sta.start ev_w_INTEGER (Or.inr ⟨(ow hw 5 rfl), (ow hw 19 rfl)⟩)), (Exa.start ev_w_INTEGER m6), (Fld.start ((fld_at ev_w_TEXT).symm.trans (oeq_int m2))), (Fld.start ((fld_at ev_w_DATE).symm.trans (oeq_int m3))), (Fld.start ((fld_at ev_w_DECIMAL).symm.trans (oeq_int m5))), (Fld.start ((fld_at ev_w_INTEGER).symm.trans (oeq_int m6r)))⟩
  obtain ⟨n, o, h1, h2, h3, _, L, rfl, ⟨rfl, N⟩, hq⟩ := rm0 l s _ hw tables_1 G i0 i1 s.heap s.heap.size (Old.start s) p e ha hc hk s m _ below hf ((Spec.applies_iff_loose hf).mp happ).1 ⟨rfl, State.Warmed39.refl s, rfl⟩ trivial
  refine ⟨n, _, h1, h2, h3, hpost _ _ _ _ _ _ ⟨Cond.after_iff.mpr rfl, Cond.after_iff.mpr (eq_i res_at (Term.int_eval (1)) rfl), trivial⟩ ⟨hq.1, hq.2.1, (hq.2.2.sift fun y hy => Or.inr (N y hy)).mono (by decide) (by decide)⟩⟩
theorem main_1_1 : Claimed_1_1 := comes_1 fun _ _ _ _ _ _ h hF => ⟨h.1, hF⟩
theorem main_1_2 : Claimed_1_2 := comes_1 fun _ _ _ _ _ _ h hF => ⟨h.2.1, hF⟩
end Jvm.Pilot.@@N@@
namespace Jvm.Pilot.@@N@@
open Jvm Jvm.ClassFile Sem Op Lib Jvm.Free Jvm.Stand Jvm.Pilot.@@N@@.Jvm.D
/-! MADE BY PROGRAM (witnessworld.py) out of the Statement's table words and the real class files: 12 classes; the members and pool entries that the words name. The judged class is class 1, her method 2. -/
namespace start1
open Jvm.ClassFile
def u (s : String) : CpInfo := .utf8 (stringToUtf16 s)
/-- a pool by its gaps: so many unusable entries, then the entry; so many at the end -/
def gap : Nat → List CpInfo → List CpInfo
  | 0, r => r
  | n + 1, r => .unusable :: gap n r
def poolList (es : List (Nat × CpInfo)) (last : Nat) : List CpInfo := es.foldr (fun e r => gap e.1 (e.2 :: r)) (gap last [])
def pool (es : List (Nat × CpInfo)) (last : Nat) : Array CpInfo := ⟨poolList es last⟩
def fileOf (pool : Array CpInfo) (this : Nat) (attrs : Array Attribute := #[]) (ms : Array MethodInfo := #[]) (fl : Nat := 33) (sup : Nat := 0) (ifs : Array Nat := #[]) (fds : Array FieldInfo := #[]) : ClassFile where
  minorVersion := 0
  majorVersion := 65
  constantPool := pool
  accessFlags := fl
  thisClass := this
  superClass := sup
  interfaces := ifs
  fields := fds
  methods := ms
  attributes := attrs
def plain (name : String) (sup : Option ClassId) : Class where
  name := name
  kind := .ordinary
  loader := none
  accessFlags := 33
  super := sup
  interfaces := #[]
  cf := none
  fields := #[]
  methods := #[]
  instanceTypes := #[]
  staticTypes := #[]
  resolved := #[]
  callSites := []
  init := .initialized
  statics := none
  mirror := none

def pool0 : Array CpInfo := pool [(5, u "<init>"), (0, u "()V"), (1, .class_ 10), (1, u "java/lang/Object")] 113

def k0m0 : Method := { name := "<init>", desc := "()V", sig := { parameters := [], returnType := none }, accessFlags := 1, code := none }
/-- java/lang/Object -/
def k0 : Class := { plain "java/lang/Object" none with
  accessFlags := 33
  interfaces := #[]
  cf := some (fileOf pool0 8 #[] #[{ accessFlags := 1, nameIndex := 5, descriptorIndex := 6, attributes := #[] }] 33 0 #[] #[])
  fields := #[]
  methods := #[k0m0]
  instanceTypes := #[]
  staticTypes := #[]
  resolved := Array.replicate 124 none
  statics := none }

def pool1 : Array CpInfo := pool [(2, .class_ 4), (1, u "java/lang/Object"), (0, u "<init>"), (0, u "()V"), (0, .fieldref 8 9), (0, .class_ 10), (0, .nameAndType 11 12), (0, u "com/example/archipel/archipel/model/DataType"), (0, u "TEXT"), (0, u "Lcom/example/archipel/archipel/model/DataType;"), (0, .fieldref 8 14), (0, .nameAndType 15 12), (0, u "INTEGER"), (0, .fieldref 8 17), (0, .nameAndType 18 12), (0, u "DECIMAL"), (0, .fieldref 8 20), (0, .nameAndType 21 12), (0, u "DATE"), (0, .methodref 23 24), (0, .class_ 25), (0, .nameAndType 26 27), (0, u "com/example/archipel/archipel/model/DataTypeTakesPinLaw"), (0, u "pick"), (0, u "(I)Lcom/example/archipel/archipel/model/DataType;"), (0, .methodref 8 29), (0, .nameAndType 30 31), (0, u "takes"), (0, u "(Lcom/example/archipel/archipel/model/DataType;)Z"), (0, .integer 34337), (0, .methodref 8 34), (0, .nameAndType 35 31), (0, u "comparableWith"), (3, u "law"), (0, u "(II)Z")] 2

def k1m0 : Method := { name := "<init>", desc := "()V", sig := { parameters := [], returnType := none }, accessFlags := 1, code := none }
def k1c1 : Code := { maxStack := 2, maxLocals := 1, code := method_2_code, exceptionTable := #[], attributes := #[] }
def k1m1 : Method := { name := "pick", desc := "(I)Lcom/example/archipel/archipel/model/DataType;", sig := { parameters := [.int], returnType := some (.object "com/example/archipel/archipel/model/DataType") }, accessFlags := 10, code := some k1c1 }
def k1c2 : Code := { maxStack := 3, maxLocals := 8, code := code, exceptionTable := #[], attributes := #[] }
def k1m2 : Method := { name := "law", desc := "(II)Z", sig := { parameters := [.int, .int], returnType := some .boolean }, accessFlags := 9, code := some k1c2 }
/-- com/example/archipel/archipel/model/DataTypeTakesPinLaw -/
def k1 : Class := { plain "com/example/archipel/archipel/model/DataTypeTakesPinLaw" (some 0) with
  accessFlags := 49
  interfaces := #[]
  cf := some (fileOf pool1 23 #[] #[{ accessFlags := 1, nameIndex := 5, descriptorIndex := 6, attributes := #[] }, { accessFlags := 10, nameIndex := 26, descriptorIndex := 27, attributes := #[] }, { accessFlags := 9, nameIndex := 39, descriptorIndex := 40, attributes := #[] }] 49 2 #[] #[])
  fields := #[]
  methods := #[k1m0, k1m1, k1m2]
  instanceTypes := #[]
  staticTypes := #[]
  resolved := Array.replicate 43 none
  statics := none }

def pool2 : Array CpInfo := pool [(1, .class_ 2), (0, u "java/lang/constant/Constable"), (0, .class_ 4), (0, u "java/lang/Object")] 6

/-- java/lang/constant/Constable -/
def k2 : Class := { plain "java/lang/constant/Constable" (some 0) with
  accessFlags := 1537
  interfaces := #[]
  cf := some (fileOf pool2 1 #[] #[] 1537 3 #[] #[])
  fields := #[]
  methods := #[]
  instanceTypes := #[]
  staticTypes := #[]
  resolved := Array.replicate 11 none
  statics := none }

def pool3 : Array CpInfo := pool [(1, .class_ 2), (0, u "java/lang/Comparable"), (0, .class_ 4), (0, u "java/lang/Object")] 7

/-- java/lang/Comparable -/
def k3 : Class := { plain "java/lang/Comparable" (some 0) with
  accessFlags := 1537
  interfaces := #[]
  cf := some (fileOf pool3 1 #[] #[] 1537 3 #[] #[])
  fields := #[]
  methods := #[]
  instanceTypes := #[]
  staticTypes := #[]
  resolved := Array.replicate 12 none
  statics := none }

def pool4 : Array CpInfo := pool [(1, .class_ 2), (0, u "java/io/Serializable"), (0, .class_ 4), (0, u "java/lang/Object")] 2

/-- java/io/Serializable -/
def k4 : Class := { plain "java/io/Serializable" (some 0) with
  accessFlags := 1537
  interfaces := #[]
  cf := some (fileOf pool4 1 #[] #[] 1537 3 #[] #[])
  fields := #[]
  methods := #[]
  instanceTypes := #[]
  staticTypes := #[]
  resolved := Array.replicate 7 none
  statics := none }

def pool5 : Array CpInfo := pool [(2, .class_ 4), (1, u "java/lang/Enum"), (0, u "name"), (0, u "Ljava/lang/String;"), (2, u "ordinal"), (0, u "I"), (1, .class_ 14), (1, u "java/lang/Object"), (4, u "hash"), (86, .class_ 108), (1, u "java/lang/Enum$EnumDesc"), (2, .class_ 112), (0, u "java/lang/constant/Constable"), (0, .class_ 114), (0, u "java/lang/Comparable"), (0, .class_ 116), (0, u "java/io/Serializable")] 87

/-- java/lang/Enum -/
def k5 : Class := { plain "java/lang/Enum" (some 0) with
  accessFlags := 1057
  interfaces := #[2, 3, 4]
  cf := some (fileOf pool5 2 #[.nestMembers #[106]] #[] 1057 12 #[111, 113, 115] #[{ accessFlags := 18, nameIndex := 5, descriptorIndex := 6, attributes := #[] }, { accessFlags := 18, nameIndex := 9, descriptorIndex := 10, attributes := #[] }, { accessFlags := 2, nameIndex := 19, descriptorIndex := 10, attributes := #[] }])
  fields := #[{ name := "name", type := (.object "java/lang/String"), accessFlags := 18, slot := 0, constantValue := 0 }, { name := "ordinal", type := .int, accessFlags := 18, slot := 1, constantValue := 0 }, { name := "hash", type := .int, accessFlags := 2, slot := 2, constantValue := 0 }]
  methods := #[]
  instanceTypes := #[(.object "java/lang/String"), .int, .int]
  staticTypes := #[]
  resolved := Array.replicate 204 none
  statics := none }

def pool6 : Array CpInfo := pool [(1, .class_ 2), (0, u "com/example/archipel/archipel/model/DataType"), (2, u "TEXT"), (0, u "Lcom/example/archipel/archipel/model/DataType;"), (0, .fieldref 1 8), (0, .nameAndType 9 6), (0, u "INTEGER"), (0, .fieldref 1 11), (0, .nameAndType 12 6), (0, u "DECIMAL"), (2, u "DATE"), (2, u "$VALUES"), (0, u "[Lcom/example/archipel/archipel/model/DataType;"), (6, .class_ 28), (1, u "java/lang/Enum"), (6, .methodref 1 36), (0, .nameAndType 37 38), (0, u "isNumeric"), (0, u "()Z"), (83, u "DATE_FORM"), (0, u "Ljava/util/regex/Pattern;"), (34, u "PLAIN_INTEGER"), (2, u "PLAIN_DECIMAL"), (83, u "LAST_YEAR"), (0, u "I"), (2, u "LONG_DIGITS"), (8, u "comparableWith"), (0, u "(Lcom/example/archipel/archipel/model/DataType;)Z"), (2, u "takes")] 34

def k6c0 : Code := { maxStack := 2, maxLocals := 2, code := prog_51_method_4_code, exceptionTable := #[], attributes := #[] }
def k6m0 : Method := { name := "comparableWith", desc := "(Lcom/example/archipel/archipel/model/DataType;)Z", sig := { parameters := [(.object "com/example/archipel/archipel/model/DataType")], returnType := some .boolean }, accessFlags := 1, code := some k6c0 }
def k6c1 : Code := { maxStack := 2, maxLocals := 1, code := prog_51_method_5_code, exceptionTable := #[], attributes := #[] }
def k6m1 : Method := { name := "isNumeric", desc := "()Z", sig := { parameters := [], returnType := some .boolean }, accessFlags := 1, code := some k6c1 }
def k6c2 : Code := { maxStack := 2, maxLocals := 2, code := prog_51_method_8_code, exceptionTable := #[], attributes := #[] }
def k6m2 : Method := { name := "takes", desc := "(Lcom/example/archipel/archipel/model/DataType;)Z", sig := { parameters := [(.object "com/example/archipel/archipel/model/DataType")], returnType := some .boolean }, accessFlags := 1, code := some k6c2 }
/-- com/example/archipel/archipel/model/DataType -/
def k6 : Class := { plain "com/example/archipel/archipel/model/DataType" (some 5) with
  accessFlags := 16433
  interfaces := #[]
  cf := some (fileOf pool6 1 #[] #[{ accessFlags := 1, nameIndex := 258, descriptorIndex := 259, attributes := #[] }, { accessFlags := 1, nameIndex := 37, descriptorIndex := 38, attributes := #[] }, { accessFlags := 1, nameIndex := 262, descriptorIndex := 259, attributes := #[] }] 16433 26 #[] #[{ accessFlags := 16409, nameIndex := 5, descriptorIndex := 6, attributes := #[] }, { accessFlags := 16409, nameIndex := 9, descriptorIndex := 6, attributes := #[] }, { accessFlags := 16409, nameIndex := 12, descriptorIndex := 6, attributes := #[] }, { accessFlags := 16409, nameIndex := 15, descriptorIndex := 6, attributes := #[] }, { accessFlags := 26, nameIndex := 122, descriptorIndex := 123, attributes := #[] }, { accessFlags := 26, nameIndex := 158, descriptorIndex := 123, attributes := #[] }, { accessFlags := 26, nameIndex := 161, descriptorIndex := 123, attributes := #[] }, { accessFlags := 26, nameIndex := 245, descriptorIndex := 246, attributes := #[] }, { accessFlags := 26, nameIndex := 249, descriptorIndex := 246, attributes := #[] }, { accessFlags := 4122, nameIndex := 18, descriptorIndex := 19, attributes := #[] }])
  fields := #[{ name := "TEXT", type := (.object "com/example/archipel/archipel/model/DataType"), accessFlags := 16409, slot := 0, constantValue := 0 }, { name := "INTEGER", type := (.object "com/example/archipel/archipel/model/DataType"), accessFlags := 16409, slot := 1, constantValue := 0 }, { name := "DECIMAL", type := (.object "com/example/archipel/archipel/model/DataType"), accessFlags := 16409, slot := 2, constantValue := 0 }, { name := "DATE", type := (.object "com/example/archipel/archipel/model/DataType"), accessFlags := 16409, slot := 3, constantValue := 0 }, { name := "DATE_FORM", type := (.object "java/util/regex/Pattern"), accessFlags := 26, slot := 4, constantValue := 0 }, { name := "PLAIN_INTEGER", type := (.object "java/util/regex/Pattern"), accessFlags := 26, slot := 5, constantValue := 0 }, { name := "PLAIN_DECIMAL", type := (.object "java/util/regex/Pattern"), accessFlags := 26, slot := 6, constantValue := 0 }, { name := "LAST_YEAR", type := .int, accessFlags := 26, slot := 7, constantValue := 0 }, { name := "LONG_DIGITS", type := .int, accessFlags := 26, slot := 8, constantValue := 0 }, { name := "$VALUES", type := (.array (.object "com/example/archipel/archipel/model/DataType")), accessFlags := 4122, slot := 9, constantValue := 0 }]
  methods := #[k6m0, k6m1, k6m2]
  instanceTypes := #[(.object "java/lang/String"), .int, .int]
  staticTypes := #[(.object "com/example/archipel/archipel/model/DataType"), (.object "com/example/archipel/archipel/model/DataType"), (.object "com/example/archipel/archipel/model/DataType"), (.object "com/example/archipel/archipel/model/DataType"), (.object "java/util/regex/Pattern"), (.object "java/util/regex/Pattern"), (.object "java/util/regex/Pattern"), .int, .int, (.array (.object "com/example/archipel/archipel/model/DataType"))]
  resolved := Array.replicate 297 none
  statics := some 0 }

def pool7 : Array CpInfo := pool [(1, u "java/lang/Cloneable"), (0, .class_ 1), (0, u "java/lang/Object"), (0, .class_ 3)] 3

/-- java/lang/Cloneable -/
def k7 : Class := { plain "java/lang/Cloneable" (some 0) with
  accessFlags := 1537
  interfaces := #[]
  cf := some (fileOf pool7 2 #[] #[] 1537 4 #[] #[])
  fields := #[]
  methods := #[]
  instanceTypes := #[]
  staticTypes := #[]
  resolved := Array.replicate 8 none
  statics := none }

/-- the primitive byte -/
def k8 : Class := { plain "byte" none with kind := .primitive 'B', accessFlags := 0x411 }
/-- [B -/
def k9 : Class := { plain "[B" (some 0) with kind := .array 8 .byte, interfaces := #[7, 4], accessFlags := 1041 }

/-- the primitive int -/
def k10 : Class := { plain "int" none with kind := .primitive 'I', accessFlags := 0x411 }
/-- [I -/
def k11 : Class := { plain "[I" (some 0) with kind := .array 10 .int, interfaces := #[7, 4], accessFlags := 1041 }

def heap : Heap := #[{ cls := 6, slots := #[.ref 1, .ref 4, .ref 3, .ref 2, .null, .null, .null, .int 0, .int 0, .null], vm := .statics 6 },
  { cls := 6, slots := #[.null, .int 0, .int 0], vm := .none },
  { cls := 6, slots := #[.null, .int 3, .int 0], vm := .none },
  { cls := 6, slots := #[.null, .int 2, .int 0], vm := .none },
  { cls := 6, slots := #[.null, .int 1, .int 0], vm := .none }]
def classes : Array Class := #[k0, k1, k2, k3, k4, k5, k6, k7, k8, k9, k10, k11]
def interned : List (Array UInt16 × Addr) := []
def slotsUsed : Nat := 22
def theMethod : MethodId := ⟨1, 2⟩
def args0 : Array Value := #[.int 5, .int 6]
def aboutOver (below : List Frame) : State where
  vm := { classes := classes, interned := interned.toArray }
  heap := heap
  slotsUsed := slotsUsed
  threads := #[{ frames := .invoking theMethod args0 :: below }]
def below0 : List Frame := [.native { method := ⟨0, 0⟩, args := #[] }]
def about1 : State := aboutOver below0
def p0 : Program := .bare "" "" ""
def e0 : Env := launch0.env 0 0 0
theorem w_frames : about1.frames = Frame.invoking theMethod args0 :: below0 := rfl
set_option maxRecDepth 65536 in
theorem w_args : argsFit about1.vm theMethod args0 = true := by decide +kernel
set_option maxRecDepth 65536 in
theorem w_heap : heapFits about1 = true := by decide +kernel
set_option maxRecDepth 65536 in
theorem w_runnable : about1.curStatus? = some .runnable := by decide +kernel
set_option maxRecDepth 65536 in
theorem w_alone : about1.alone = true := by decide +kernel
set_option maxRecDepth 65536 in
theorem w_named : about1.methodNamed? x = some theMethod := by decide +kernel
set_option maxRecDepth 65536 in
theorem w_hears : about1.hears theMethod below0 = true := by decide +kernel
set_option maxRecDepth 65536 in
theorem w_ripe : about1.ripe theMethod args0 below0 = true := by decide +kernel
theorem w_running : about1.status = .running := rfl
set_option maxRecDepth 65536 in
theorem w_room : about1.hasRoom e0.platform room_1 = true :=
  launch0.hasRoom_least _ room_1 (by decide +kernel) (by decide +kernel) (by decide +kernel) (by decide +kernel) (by decide +kernel) (by decide +kernel)
theorem allAtoms_all (ts : List Jvm.Cond) (a : Array Jvm.Value) (st : Jvm.State) : (allAtoms ts).before a st = ts.all (fun c => c.before a st) := by
  induction ts with
  | nil => rfl
  | cons c t ih =>
    show (Jvm.Cond.and c (allAtoms t)).before a st = _
    rw [Jvm.Cond.before_and, ih, List.all_cons]
def words1 : List Jvm.Cond := Jvm.Cond.code x code maxLocals ret :: tables_1
/-- a 'code' word, met by the world's own term for the bytes: nothing is compared byte by byte -/
theorem code_word {y : MethodName} {bytes : ByteArray} {mx : Nat} {rt : Option FieldType} {a : Array Value} {s : State} {m : MethodId} {meth : Method} {c : Code} (h1 : s.methodNamed? y = some m) (h2 : s.vm.method? m = some meth) (h3 : meth.code = some c) (h4 : c.code = bytes)
    (h5 : (c.maxLocals == mx && c.exceptionTable.isEmpty && decide (c.maxStack ≤ mostOperands) && decide (meth.sig.returnType = rt) && !meth.locks && decide (parseMethodDescriptor y.desc = some meth.sig)) = true) : (Jvm.Cond.code y bytes mx rt).before a s = true := by
  simp only [Bool.and_eq_true, beq_iff_eq, Bool.not_eq_true', decide_eq_true_eq] at h5
  obtain ⟨⟨⟨⟨⟨g1, g2⟩, g3⟩, g4⟩, g5⟩, g6⟩ := h5
  simp [Cond.before, Cond.holds, Cond.value, h1, h2, h3, h4, g1, g2, g3, g4, g5, g6]
def isCode : Jvm.Cond → Bool
  | .code _ _ _ _ => true
  | _ => false
theorem all_split {L : List Jvm.Cond} {P : Jvm.Cond → Bool} (h1 : L.all (fun c => isCode c || P c) = true) (h2 : ∀ c ∈ L.filter isCode, P c = true) : L.all P = true := by
  refine List.all_eq_true.mpr fun c hc => ?_
  have h := List.all_eq_true.mp h1 c hc
  rcases Bool.eq_false_or_eq_true (isCode c) with hi | hi
  · exact h2 c (List.mem_filter.mpr ⟨hc, hi⟩)
  · simpa [hi] using h
set_option maxRecDepth 65536 in
theorem w_c0 : (Jvm.Cond.code x code maxLocals ret).before args0 about1 = true := code_word (m := ⟨1, 2⟩) (meth := k1m2) (c := k1c2) (by decide +kernel) rfl rfl rfl (by decide +kernel)
set_option maxRecDepth 65536 in
theorem w_c1 : (Jvm.Cond.code ({ cls := "com/example/archipel/archipel/model/DataTypeTakesPinLaw", name := "pick", desc := "(I)Lcom/example/archipel/archipel/model/DataType;" } : Jvm.MethodName) method_2_code (1 : Nat) (Option.some (Jvm.ClassFile.FieldType.object "com/example/archipel/archipel/model/DataType"))).before args0 about1 = true := code_word (m := ⟨1, 1⟩) (meth := k1m1) (c := k1c1) (by decide +kernel) rfl rfl rfl (by decide +kernel)
set_option maxRecDepth 65536 in
theorem w_c2 : (Jvm.Cond.code ({ cls := "com/example/archipel/archipel/model/DataType", name := "takes", desc := "(Lcom/example/archipel/archipel/model/DataType;)Z" } : Jvm.MethodName) prog_51_method_8_code (2 : Nat) (Option.some Jvm.ClassFile.FieldType.boolean)).before args0 about1 = true := code_word (m := ⟨6, 2⟩) (meth := k6m2) (c := k6c2) (by decide +kernel) rfl rfl rfl (by decide +kernel)
set_option maxRecDepth 65536 in
theorem w_c3 : (Jvm.Cond.code ({ cls := "com/example/archipel/archipel/model/DataType", name := "comparableWith", desc := "(Lcom/example/archipel/archipel/model/DataType;)Z" } : Jvm.MethodName) prog_51_method_4_code (2 : Nat) (Option.some Jvm.ClassFile.FieldType.boolean)).before args0 about1 = true := code_word (m := ⟨6, 0⟩) (meth := k6m0) (c := k6c0) (by decide +kernel) rfl rfl rfl (by decide +kernel)
set_option maxRecDepth 65536 in
theorem w_c4 : (Jvm.Cond.code ({ cls := "com/example/archipel/archipel/model/DataType", name := "isNumeric", desc := "()Z" } : Jvm.MethodName) prog_51_method_5_code (1 : Nat) (Option.some Jvm.ClassFile.FieldType.boolean)).before args0 about1 = true := code_word (m := ⟨6, 1⟩) (meth := k6m1) (c := k6c1) (by decide +kernel) rfl rfl rfl (by decide +kernel)
def codes1 : List Jvm.Cond := [Jvm.Cond.code x code maxLocals ret, Jvm.Cond.code ({ cls := "com/example/archipel/archipel/model/DataTypeTakesPinLaw", name := "pick", desc := "(I)Lcom/example/archipel/archipel/model/DataType;" } : Jvm.MethodName) method_2_code (1 : Nat) (Option.some (Jvm.ClassFile.FieldType.object "com/example/archipel/archipel/model/DataType")), Jvm.Cond.code ({ cls := "com/example/archipel/archipel/model/DataType", name := "takes", desc := "(Lcom/example/archipel/archipel/model/DataType;)Z" } : Jvm.MethodName) prog_51_method_8_code (2 : Nat) (Option.some Jvm.ClassFile.FieldType.boolean), Jvm.Cond.code ({ cls := "com/example/archipel/archipel/model/DataType", name := "comparableWith", desc := "(Lcom/example/archipel/archipel/model/DataType;)Z" } : Jvm.MethodName) prog_51_method_4_code (2 : Nat) (Option.some Jvm.ClassFile.FieldType.boolean), Jvm.Cond.code ({ cls := "com/example/archipel/archipel/model/DataType", name := "isNumeric", desc := "()Z" } : Jvm.MethodName) prog_51_method_5_code (1 : Nat) (Option.some Jvm.ClassFile.FieldType.boolean)]
set_option maxRecDepth 65536 in
theorem codes_eq : words1.filter isCode = codes1 := rfl
theorem w_codes : ∀ c ∈ words1.filter isCode, c.before args0 about1 = true := by
  rw [codes_eq]
  intro c hc
  simp only [codes1, List.mem_cons, List.not_mem_nil, or_false] at hc
  rcases hc with rfl | rfl | rfl | rfl | rfl
  · exact w_c0
  · exact w_c1
  · exact w_c2
  · exact w_c3
  · exact w_c4
set_option maxRecDepth 65536 in
theorem w_t1 : (words1.take 24).all (fun c => isCode c || c.before args0 about1) = true := by decide +kernel
set_option maxRecDepth 65536 in
theorem w_t2 : (words1.drop 24).all (fun c => isCode c || c.before args0 about1) = true := by decide +kernel
theorem w_tables : (allAtoms (Jvm.Cond.code x code maxLocals ret :: tables_1)).before args0 about1 = true := by
  rw [allAtoms_all]
  show words1.all (fun c => c.before args0 about1) = true
  refine all_split ?_ w_codes
  rw [← List.take_append_drop 24 words1, List.all_append, w_t1, w_t2]
  rfl
set_option maxRecDepth 65536 in
theorem w_case : (Jvm.Cond.and given_1 narrow_1).before args0 about1 = true := by decide +kernel
theorem w_applies : (headSpec (Jvm.Cond.code x code maxLocals ret :: tables_1) room_1).applies x e0.platform about1 = true :=
  (Spec.applies_iff w_frames).mpr ⟨w_running, w_runnable, w_alone, w_named, w_hears, w_ripe, w_room, w_tables⟩
theorem atStart : AtStart classFile x code maxLocals ret World_1 tables_1 room_1 Calls_1 rest_1 Pre_1 launch0 p0 e0 about1 theMethod args0 below0 :=
  ⟨lists_1, trivial, launch0.admits_env _ _ _, launch0.least_env, fairChoices_fair.cas, fairChoices_fair.clock, w_frames, w_args, w_heap, w_applies, trivial, trivial, w_case⟩
end start1
theorem witness_1 : WitnessClaimed_1 := ⟨start1.p0, start1.e0, start1.about1, start1.theMethod, start1.args0, start1.below0, start1.atStart⟩
end Jvm.Pilot.@@N@@
