import JvmDerived
import JvmDerived.Pilot.@@N@@Statement
import JvmDerived.Pilot.@@N@@Code
set_option linter.unusedVariables false
set_option linter.unusedSimpArgs false
namespace Jvm.Pilot.@@N@@
open Jvm Jvm.ClassFile Sem Op Lib Jvm.Free Jvm.Stand Jvm.LawKit Jvm.RoadKit Bundle Jvm.Pilot.@@N@@.Jvm.D
section OwnKit
variable {p : Program} {l : Launch} {e : Env} {R : Room} {s : State} {m : MethodId} {args : Array Value} {below : List Frame} {meth : Method} {c : Code} {T : State} {locs : List Loc} {cells slots : Nat}
theorem retI (X : Stand p l e R s m args below meth c T locs cells slots) (hx : p.tables.exec = Jvm.exec) {pc : Nat} {Ls : Array Slot} {z : Int32} {rest : List Value} (hret : meth.sig.returnType = some .int) (hd : decode c.code pc = .ok (.ireturn, 1)) {fs : List Frame}
    (hl : ∀ (f : JFrame) (acts : List Action), f.method = m → f.locked = none → f.entered = [] → (doReturn e (T.setTop f) acts (some (.int z))).1 = T.setFrames fs) : Steps p.tables e below (T.setTop (mkF m pc Ls (.int z :: rest))) (T.setFrames fs) :=
  retOut X hx hret rfl (Or.inl ⟨rfl, Or.inl rfl, z, rfl⟩) hd hl
theorem oretJ (X : Stand p l e R s m args below meth c T locs cells slots) (hx : p.tables.exec = Jvm.exec) {pc : Nat} {Ls : Array Slot} {z : Int64} {rest : List Value} (hret : meth.sig.returnType = some .long) (hd : decode c.code pc = .ok (.lreturn, 1)) {fs : List Frame}
    (hl : ∀ (f : JFrame) (acts : List Action), f.method = m → f.locked = none → f.entered = [] → (doReturn e (T.setTop f) acts (some (.long z))).1 = T.setFrames fs) : Steps p.tables e below (T.setTop (mkF m pc Ls (.long z :: rest))) (T.setFrames fs) :=
  retOut X hx hret rfl (Or.inr (Or.inl ⟨rfl, rfl, z, rfl⟩)) hd hl
theorem oretA (X : Stand p l e R s m args below meth c T locs cells slots) (hx : p.tables.exec = Jvm.exec) {pc : Nat} {Ls : Array Slot} {w : Value} {t : FieldType} {rest : List Value} (hret : meth.sig.returnType = some t) (ht : t.isReference = true) (hw : w.isRef = true) (hd : decode c.code pc = .ok (.areturn, 1)) {fs : List Frame}
    (hl : ∀ (f : JFrame) (acts : List Action), f.method = m → f.locked = none → f.entered = [] → (doReturn e (T.setTop f) acts (some w)).1 = T.setFrames fs) : Steps p.tables e below (T.setTop (mkF m pc Ls (w :: rest))) (T.setFrames fs) :=
  retOut X hx hret (by rcases ref_cases hw with rfl | ⟨a, rfl⟩ <;> cases t <;> rfl) (Or.inr (Or.inr (Or.inr (Or.inr ⟨rfl, ht, hw⟩)))) hd hl
end OwnKit
/-- the run that stands at A comes to an end of which P holds -/
def OGot (tb : Tables) (e : Env) (below : List Frame) (A : State) (P : State → Outcome → Prop) : Prop := ∃ U o, Steps tb e below A U ∧ P U o
theorem OGot.go {tb : Tables} {e : Env} {below : List Frame} {A B : State} {P : State → Outcome → Prop} (st : ∀ t, Steps tb e below B t → Steps tb e below A t) (h : OGot tb e below B P) : OGot tb e below A P := by
  obtain ⟨U, o, h1, h2⟩ := h
  exact ⟨U, o, st U h1, h2⟩
theorem OGot.on {tb : Tables} {e : Env} {below : List Frame} {A B : State} {P : State → Outcome → Prop} (st : Steps tb e below A B) (h : OGot tb e below B P) : OGot tb e below A P := by
  obtain ⟨U, o, h1, h2⟩ := h
  exact ⟨U, o, st.trans h1, h2⟩
section OwnFacts
variable {Z : State} {h h' h0 : Heap} {a b : Addr} {C n d : String} {v : Value} {sl : Nat} {n0 : Nat} {ws ws' : List (Addr × Nat)} {k : ClassId} {ty : FieldType} {z : Int32} {vs : List Value} {dv : Value}
theorem osz (X : Old Z n0 h) : n0 ≤ h.size := X.1 ▸ X.2.1
theorem oheap {U : State} {P : Heap → Prop} (q : U.heap = h) (x : P h) : P U.heap := q ▸ x
/-- what stood in h0 stands in h, but for the places at ws -/
def OKeep (h0 h : Heap) (ws : List (Addr × Nat)) : Prop := h0.size ≤ h.size ∧ ∀ (x : Addr) (c : Cell), h0[x]? = some c → ∃ c' : Cell, h[x]? = some c' ∧ c'.cls = c.cls ∧ c'.vm = c.vm ∧ c'.slots.size = c.slots.size ∧ (∀ i, (x, i) ∉ ws → c'.slots[i]? = c.slots[i]?) ∧ ((∀ i, (x, i) ∉ ws) → c' = c)
theorem OKeep.refl (h : Heap) (ws : List (Addr × Nat)) : OKeep h h ws := ⟨Nat.le_refl _, fun _ c q => ⟨c, q, rfl, rfl, rfl, fun _ _ => rfl, fun _ => rfl⟩⟩
theorem OKeep.ext (K : OKeep h0 h ws) (E : Ext h h') : OKeep h0 h' ws := ⟨Nat.le_trans K.1 E.1, fun x c q => by
  obtain ⟨c', q', r⟩ := K.2 x c q
  exact ⟨c', E.2 x c' q', r⟩⟩
theorem OKeep.trans (K : OKeep h0 h ws) (K' : OKeep h h' ws') (q : ∀ x ∈ ws', x ∈ ws ∨ h0.size ≤ x.1) : OKeep h0 h' ws := by
  refine ⟨Nat.le_trans K.1 K'.1, fun x c hx => ?_⟩
  have lt : x < h0.size := (Array.getElem?_eq_some_iff.mp hx).1
  have out : ∀ i, (x, i) ∉ ws → (x, i) ∉ ws' := fun i r z => (q _ z).elim r fun y => Nat.not_lt.mpr y lt
  obtain ⟨c1, q1, r1, r2, r3, r4, r5⟩ := K.2 x c hx
  obtain ⟨c2, q2, t1, t2, t3, t4, t5⟩ := K'.2 x c1 q1
  exact ⟨c2, q2, t1.trans r1, t2.trans r2, t3.trans r3, fun i r => (t4 i (out i r)).trans (r4 i r), fun r => (t5 fun i => out i (r i)).trans (r5 r)⟩
theorem OKeep.of_wr (W : Wr h h' a sl v) : OKeep h h' [(a, sl)] := by
  refine ⟨Nat.le_of_eq W.size.symm, fun x c q => ?_⟩
  obtain ⟨c', e1, e2, e3, e4, e5, e6, -⟩ := wr_at W q
  refine ⟨c', e1, e2, e3, e4, fun i r => ?_, fun r => e5 fun z => r sl (by simp [z])⟩
  by_cases z : x = a
  · subst z
    exact e6 i fun y => r (by simp [y])
  · rw [e5 z]
theorem OKeep.wr (K : OKeep h0 h ws) (W : Wr h h' a sl v) (q : (a, sl) ∈ ws ∨ h0.size ≤ a) : OKeep h0 h' ws := K.trans (OKeep.of_wr W) fun x hx => by cases List.mem_singleton.mp hx; exact q
theorem oslot {x : ClassId × Class × Nat × Field} (h2 : Z.fieldFound? C n d = some x) : Jvm.RoadKit.slotOf Z C n d = x.2.2.2.slot := by
  show ((Z.fieldFound? C n d).map (·.2.2.2.slot)).getD 0 = _
  rw [h2]; rfl
theorem OKeep.fld (F : Fld Z h a C n d v) (K : OKeep h h' ws) (q : (a, Jvm.RoadKit.slotOf Z C n d) ∉ ws) : Fld Z h' a C n d v := by
  obtain ⟨cell, cf, k, i, f, h1, h2, h3, h4, h5, h6, h7⟩ := F
  obtain ⟨c', r, r1, r2, -, r4, -⟩ := K.2 a cell h1
  exact ⟨c', cf, k, i, f, r, h2, h3, by rw [r2]; exact h4, by rw [r2]; exact h5, by rw [r1]; exact h6, by rw [r4 f.slot (fun y => q (by rw [oslot h2]; exact y))]; exact h7⟩
theorem OKeep.exa (F : Exa Z h a C) (K : OKeep h h' ws) : Exa Z h' a C := by
  obtain ⟨cell, k, h1, h2, h3, h4, h5⟩ := F
  obtain ⟨c', q, r1, r2, r3, -, -⟩ := K.2 a cell h1
  exact ⟨c', k, q, r1 ▸ h2, r1 ▸ h3, r2 ▸ h4, r3 ▸ h5⟩
theorem OKeep.arv (F : Arv Z h a k ty z vs dv) (K : OKeep h h' ws) (q : ∀ x ∈ ws, a ≠ x.1) : Arv Z h' a k ty z vs dv := by
  obtain ⟨c, A, r⟩ := F
  obtain ⟨c', e1, -, -, -, -, e5⟩ := K.2 a c A.1
  cases e5 fun i y => q _ y rfl
  exact ⟨c, ⟨e1, A.2⟩, r⟩
theorem OKeep.old (X : Old Z n0 h) (K : OKeep h h' ws) (q : ∀ x ∈ ws, n0 ≤ x.1) : Old Z n0 h' := ⟨X.1, Nat.le_trans X.2.1 K.1, fun x c r => by
  obtain ⟨c', e1, -, -, -, -, e5⟩ := K.2 x c (X.2.2 x c r)
  cases e5 fun i y => absurd (X.1 ▸ (Array.getElem?_eq_some_iff.mp r).1) (Nat.not_lt.mpr (q _ y))
  exact e1⟩
theorem onin0 {x : Addr × Nat} : x ∉ ([] : List (Addr × Nat)) := fun q => nomatch q
theorem oninA {t : Nat} {L : List (Addr × Nat)} (q : a ≠ b) (r : (a, sl) ∉ L) : (a, sl) ∉ (b, t) :: L := fun y => (List.mem_cons.mp y).elim (fun u => q (congrArg Prod.fst u)) r
theorem oninS {t : Nat} {L : List (Addr × Nat)} (q : sl ≠ t) (r : (a, sl) ∉ L) : (a, sl) ∉ (b, t) :: L := fun y => (List.mem_cons.mp y).elim (fun u => q (congrArg Prod.snd u)) r
theorem oall0 : ∀ x ∈ ([] : List (Addr × Nat)), a ≠ x.1 := fun _ q => nomatch q
theorem oallS {t : Nat} {L : List (Addr × Nat)} (q : a ≠ b) (r : ∀ x ∈ L, a ≠ x.1) : ∀ x ∈ (b, t) :: L, a ≠ x.1 := fun x y => (List.mem_cons.mp y).elim (fun u => by subst u; exact q) (r x)
theorem oge0 : ∀ x ∈ ([] : List (Addr × Nat)), n0 ≤ x.1 := fun _ q => nomatch q
theorem ogeS {t : Nat} {L : List (Addr × Nat)} (q : n0 ≤ b) (r : ∀ x ∈ L, n0 ≤ x.1) : ∀ x ∈ (b, t) :: L, n0 ≤ x.1 := fun x y => (List.mem_cons.mp y).elim (fun u => by subst u; exact q) (r x)
theorem oin0 {P : Addr × Nat → Prop} : ∀ x ∈ ([] : List (Addr × Nat)), P x := fun _ q => nomatch q
theorem oinS {P : Addr × Nat → Prop} {y : Addr × Nat} {L : List (Addr × Nat)} (q : P y) (r : ∀ x ∈ L, P x) : ∀ x ∈ y :: L, P x := fun x u => (List.mem_cons.mp u).elim (fun w => w ▸ q) (r x)
theorem oeq_int {args : Array Value} {first s : State} {o : Option Outcome} {idx : List Nat} {t : Term} {w : Int32} (q : (Jvm.Cond.eq t (.int w)).value args first o s idx = some true) : t.eval args first o idx s = some (.int w) := by
  simp only [Jvm.Cond.value, Term.eval] at q
  cases ht : t.eval args first o idx s with
  | none => simp [ht] at q
  | some x => cases x <;> simp [ht] at q ⊢; exact q
theorem oeq_ref {args : Array Value} {first s : State} {o : Option Outcome} {idx : List Nat} {t u : Term} {w : Addr} (q : (Jvm.Cond.eq t u).value args first o s idx = some true) (r : u.eval args first o idx s = some (.ref w)) : t.eval args first o idx s = some (.ref w) := by
  obtain ⟨x, y, e1, e2, k1, k2⟩ := cmp_v (Or.inl q)
  cases r.symm.trans e2
  rcases ref_cases k2.2 with rfl | ⟨z, rfl⟩
  · have := eq_R e1 e2 rfl rfl
    rw [q] at this
    simp at this
  · have := gotT (eq_R e1 e2 rfl rfl) q
    rw [e1, this]
theorem one_int {args : Array Value} {first s : State} {o : Option Outcome} {idx : List Nat} {t : Term} {w : Int32} (r : t.eval args first o idx s = some (.int w)) (q : (Jvm.Cond.not (.eq t (.int 0))).value args first o s idx = some true) : ¬ (w = (0 : Int32)) := by
  have := not_v q
  exact gotF (Cond.eq_ints r rfl) this
theorem olen {args : Array Value} {first s : State} {o : Option Outcome} {idx : List Nat} {t : Term} {cl : Cell} {w : Int32} (q : (Term.length t).eval args first o idx s = some (.int w)) (ht : t.eval args first o idx s = some (.ref a)) (ha : s.arrayAt? a = some cl) : cl.slots.size < 2 ^ 31 ∧ cl.slots.size.toInt32 = w := by
  simp only [Term.eval, ht, ha, Option.bind_eq_bind, Option.bind_some] at q
  by_cases y : cl.slots.size < 2 ^ 31
  · exact ⟨y, by simpa [y] using q⟩
  · simp [y] at q
theorem osub128 {args : Array Value} {j : Int32} (hj : ¬ j < 0) : (Term.sub (.index 0) (.int 128)).eval args Z none [j.toNatClampNeg] Z = some (.int (j - 128)) := by
  have e := idx_at (args := args) (first := Z) (s := Z) (o := none) hj
  simp only [Term.eval] at e ⊢
  simp [e]
  exact (back32 hj).1
def obox (c : Cell) (j : Int32) : Addr := match c.slots[j.toNatClampNeg]? with
  | some (.ref b) => b
  | _ => 0
theorem obox_at {cl : Cell} {K dd : String} {w : Int32} {val : Int32 → Value} (B : Bxs Z a cl K dd w val) {j : Int32} (hj : ¬ (j < 0 ∨ cl.slots.size ≤ j.toNatClampNeg)) : cl.slots[j.toNatClampNeg]? = some (.ref (obox cl j)) ∧ Exa Z Z.heap (obox cl j) K ∧ Fld Z Z.heap (obox cl j) K "value" dd (val j) := by
  obtain ⟨b, h1, h2, h3⟩ := B.2.2.2 j hj
  have e : obox cl j = b := by unfold obox; rw [h1]
  rw [e]; exact ⟨h1, h2, h3⟩
theorem oNS.root {a0 : Array Value} {O K : String} {i : Nat} (w : (Cond.noSuperclass O).before a0 Z = true) (wk : (Cond.instantiable K i).before a0 Z = true) (hn : O ≠ K) : NS Z O K := by
  obtain ⟨c, k, h1, h2, h3, -, -⟩ := Cond.noSuperclass_spec w
  obtain ⟨t, kt, g1, -⟩ := Cond.instantiable_spec wk
  have ne := ids_ne h1 g1 hn
  refine ⟨c, t, h1, g1, fun fuel => ?_⟩
  cases fuel with
  | zero => rfl
  | succ f => simp [Vm.isSubclassAux, ne, h2, h3]
theorem oNS.no {a0 : Array Value} {C S K : String} {i : Nat} (w : (Cond.superclass C S).before a0 Z = true) (wk : (Cond.instantiable K i).before a0 Z = true) (q : NS Z C K) (hn : C ≠ K) : ∃ c t, Z.vm.findClass C = some c ∧ Z.vm.findClass K = some t ∧ Z.vm.assignable c t = false := by
  obtain ⟨c, t, h0, g0, n3⟩ := q
  obtain ⟨p, k, kp, h1, h2, h3, h4, h5, -, h7⟩ := Cond.superclass_spec h0 w
  obtain ⟨t', k', g1, g2, g3, g4, -⟩ := Cond.instantiable_spec wk
  cases g0.symm.trans g1
  have ne := ids_ne h0 g0 hn
  have g7 : k'.isInterface = false := (Bool.or_eq_false_iff.mp g4).1
  refine ⟨c, t, h0, g0, ?_⟩
  show Z.vm.assignableAux (255 + 1) c t = false
  simp [Vm.assignableAux, ne, h2, g2, h5, g3, g7, Vm.isSubclass, n3]
end OwnFacts
theorem ow {Z : State} {a0 : Array Value} (hw : ∀ d ∈ tables_1, d.before a0 Z = true) (i : Nat) {d : Jvm.Cond} (h : tables_1[i]? = some d) : d.before a0 Z = true := hw _ (List.mem_of_getElem? h)
theorem own_and1 (x : Int32) : (x &&& (1 : Int32)) = (0 : Int32) ∨ (x &&& (1 : Int32)) = (1 : Int32) := by
  have e : (x &&& (1 : Int32)).toInt = x.toInt % ((2 ^ 1 : Nat) : Int) := c_mask x 1 1 (by decide) (by decide)
  have p : ((2 ^ 1 : Nat) : Int) = 2 := rfl
  rw [p] at e
  simp only [← Int32.toInt_inj, e]
  have : (0 : Int32).toInt = 0 ∧ (1 : Int32).toInt = 1 := by decide
  omega
def Glob (Z : State) (w_STEP : Addr) (w_NONE : Addr) : Prop := Sta Z Z.heap "com/example/restrained_scaler/restrainedscaler/decision/ScaleUpLimit" "STEP" "Lcom/example/restrained_scaler/restrainedscaler/decision/ScaleUpLimit;" (.ref w_STEP) ∧ Exa Z Z.heap w_STEP "com/example/restrained_scaler/restrainedscaler/decision/ScaleUpLimit" ∧ Sta Z Z.heap "com/example/restrained_scaler/restrainedscaler/decision/ScaleUpLimit" "NONE" "Lcom/example/restrained_scaler/restrainedscaler/decision/ScaleUpLimit;" (.ref w_NONE) ∧ Exa Z Z.heap w_NONE "com/example/restrained_scaler/restrainedscaler/decision/ScaleUpLimit" ∧ Fld Z Z.heap w_STEP "java/lang/Enum" "ordinal" "I" (.int (0 : Int32)) ∧ Fld Z Z.heap w_NONE "java/lang/Enum" "ordinal" "I" (.int (1 : Int32))
theorem d1_0 : decode prog_23_method_4_code 0 = .ok (.aload_n 0, 1) := by decide +kernel
theorem d1_1 : decode prog_23_method_4_code 1 = .ok (.getstatic 7, 3) := by decide +kernel
theorem d1_4 : decode prog_23_method_4_code 4 = .ok (.if_acmp .ne 7, 3) := by decide +kernel
theorem d1_11 : decode prog_23_method_4_code 11 = .ok (.lload_n 1, 1) := by decide +kernel
theorem d1_12 : decode prog_23_method_4_code 12 = .ok (.lconst 0, 1) := by decide +kernel
theorem d1_13 : decode prog_23_method_4_code 13 = .ok (.lcmp, 1) := by decide +kernel
theorem d1_14 : decode prog_23_method_4_code 14 = .ok (.ifCond .ne 7, 3) := by decide +kernel
theorem d1_17 : decode prog_23_method_4_code 17 = .ok (.lconst 1, 1) := by decide +kernel
theorem d1_18 : decode prog_23_method_4_code 18 = .ok (.goto 14, 3) := by decide +kernel
theorem d1_32 : decode prog_23_method_4_code 32 = .ok (.lreturn, 1) := by decide +kernel
theorem d1_21 : decode prog_23_method_4_code 21 = .ok (.ldc2_w 33, 3) := by decide +kernel
theorem d1_24 : decode prog_23_method_4_code 24 = .ok (.ldc2_w 35, 3) := by decide +kernel
theorem d1_27 : decode prog_23_method_4_code 27 = .ok (.lload_n 1, 1) := by decide +kernel
theorem d1_28 : decode prog_23_method_4_code 28 = .ok (.lmul, 1) := by decide +kernel
theorem d1_29 : decode prog_23_method_4_code 29 = .ok (.invokestatic 37, 3) := by decide +kernel
theorem d2_0 : decode jdk_29_method_66_code 0 = .ok (.lload_n 0, 1) := by decide +kernel
theorem d2_1 : decode jdk_29_method_66_code 1 = .ok (.lload_n 2, 1) := by decide +kernel
theorem d2_2 : decode jdk_29_method_66_code 2 = .ok (.lcmp, 1) := by decide +kernel
theorem d2_3 : decode jdk_29_method_66_code 3 = .ok (.ifCond .lt 7, 3) := by decide +kernel
theorem d2_10 : decode jdk_29_method_66_code 10 = .ok (.lload_n 2, 1) := by decide +kernel
theorem d2_11 : decode jdk_29_method_66_code 11 = .ok (.lreturn, 1) := by decide +kernel
theorem d2_6 : decode jdk_29_method_66_code 6 = .ok (.lload_n 0, 1) := by decide +kernel
theorem d2_7 : decode jdk_29_method_66_code 7 = .ok (.goto 4, 3) := by decide +kernel
def f2 (q1 : Int64) : Int64 := (if (4 : Int64) < q1 then q1 else (4 : Int64))
def Q2 (Z : State) (w_STEP : Addr) (w_NONE : Addr) (q1 : Int64) (h0 : Heap) (n0 : Nat) (v : Option Value) (h : Heap) (L : List Loc) : Prop := v = some (.long (f2 q1)) ∧ Fr n0 L ∧ h = h0
theorem ef2 (m : MethodId) (x1 : Int64) : entryFrame m #[(.long (4 : Int64)), (.long x1)] 4 = mkF m 0 #[.val (.long (4 : Int64)), .second, .val (.long x1), .second] [] := by first | (simp [entryFrame, mkF, argsToLocals, Value.category]; done) | rfl
set_option maxRecDepth 65536 in
set_option maxHeartbeats 40000000 in
theorem rm2 (l : Launch) (Z : State) (a0 : Array Value) (hw : ∀ d ∈ tables_1, d.before a0 Z = true) (ws : List Jvm.Cond) {w_STEP : Addr} {w_NONE : Addr} (G : Glob Z w_STEP w_NONE) (q1 : Int64) (h0 : Heap) (n0 : Nat) (O0 : Old Z n0 h0) :
    MetFree l (⟨"java/lang/Math", "max", "(JJ)J"⟩ : MethodName) (head1 (Jvm.Cond.code (⟨"java/lang/Math", "max", "(JJ)J"⟩ : MethodName) jdk_29_method_66_code 4 (some .long) :: ws) ({ frames := 0, cells := 0, slots := 0, locals := 0 } : Room)) (fun a U => a = #[(.long (4 : Int64)), (.long q1)] ∧ Z.Warmed39 U.vm ∧ U.heap = h0) (fun _ _ _ _ _ => True) (fun _ U o U' => ∃ v L, o = .returned v ∧ Q2 Z w_STEP w_NONE q1 h0 n0 v U'.heap L ∧ FrameEnd U o U' L ({ frames := 0, cells := 0, slots := 0, locals := 0 } : Room).cells ({ frames := 0, cells := 0, slots := 0, locals := 0 } : Room).slots) := by
  refine MetFree.of_bodySF (Jvm.Free.JP.mathPlain rfl (by decide +kernel)) hisR ?_
  intro p e s m args below meth c s₁ Bd hml0 hP hK
  obtain ⟨rfl, hZ, hh⟩ := hP
  have hx := Bd.exec
  have hby := Bd.bytes
  have hml : c.maxLocals = 4 := hml0
  have hown : s.vm.findClass "java/lang/Math" = some m.cls := findClass_of_methodNamed Bd.named
  have hnm := (name_of_methodNamed Bd.named Bd.method).1
  have X0 : Stand p l e ({ frames := 0, cells := 0, slots := 0, locals := 0 } : Room) s m #[(.long (4 : Int64)), (.long q1)] below meth c s₁ [] 0 0 := Stand.of_body Bd
  have e0 : s₁.heap = h0 := by rw [← hh, Bd.state]; rfl
  have N0 := Fr.nil n0
  show OGot p.tables e below (s₁.setTop (entryFrame m #[(.long (4 : Int64)), (.long q1)] 4)) _
  refine OGot.go (fun t k => castTop (ef2 m q1) k) ?_
  show OGot p.tables e below (s₁.setTop (mkF m 0 #[.val (.long (4 : Int64)), .second, .val (.long q1), .second] [])) _
  refine OGot.go (fun t k => XS.lloadN X0.here hx rfl (hb hby d2_0) rfl k) ?_
  show OGot p.tables e below (s₁.setTop (mkF m 1 #[.val (.long (4 : Int64)), .second, .val (.long q1), .second] [(.long (4 : Int64))])) _
  refine OGot.go (fun t k => XS.lloadN X0.here hx rfl (hb hby d2_1) rfl k) ?_
  show OGot p.tables e below (s₁.setTop (mkF m 2 #[.val (.long (4 : Int64)), .second, .val (.long q1), .second] [(.long q1), (.long (4 : Int64))])) _
  refine OGot.go (fun t k => XS.lcmp X0.here hx rfl (hb hby d2_2) rfl k) ?_
  show OGot p.tables e below (s₁.setTop (mkF m 3 #[.val (.long (4 : Int64)), .second, .val (.long q1), .second] [(.int (lcmpW (4 : Int64) q1))])) _
  by_cases hs2 : (4 : Int64) < q1
  · refine OGot.go (fun t k => XS.ifYes X0.here hx rfl (pc0 := 3) (pc' := 10) rfl (hb hby d2_3) rfl ((if0 _ _).trans (tlt ((lw_lt (4 : Int64) q1).mpr hs2)).1) (by decide) (by decide) k) ?_
    show OGot p.tables e below (s₁.setTop (mkF m 10 #[.val (.long (4 : Int64)), .second, .val (.long q1), .second] [])) _
    refine OGot.go (fun t k => XS.lloadN X0.here hx rfl (hb hby d2_10) rfl k) ?_
    show OGot p.tables e below (s₁.setTop (mkF m 11 #[.val (.long (4 : Int64)), .second, .val (.long q1), .second] [(.long q1)])) _
    obtain ⟨fs, hr, hrun, hended, hW, hsame⟩ := X0.leave (v := some (.long q1)) (fun h => by rw [Bd.returns] at h; cases h)
    refine ⟨_, _, oretJ X0 hx Bd.returns (hb hby d2_11) hr, hrun, hended, _, _, rfl, ?_, ⟨_, rfl⟩, hW, hsame.mono (by decide) (by decide)⟩
    exact (⟨(by unfold f2; rw [if_pos hs2]), N0, e0⟩ : Q2 Z w_STEP w_NONE q1 h0 n0 _ s₁.heap _)
  · refine OGot.go (fun t k => XS.ifNo X0.here hx rfl (hb hby d2_3) rfl ((if0 _ _).trans (flt (fun q => hs2 ((lw_lt (4 : Int64) q1).mp q))).1) k) ?_
    show OGot p.tables e below (s₁.setTop (mkF m 6 #[.val (.long (4 : Int64)), .second, .val (.long q1), .second] [])) _
    refine OGot.go (fun t k => XS.lloadN X0.here hx rfl (hb hby d2_6) rfl k) ?_
    show OGot p.tables e below (s₁.setTop (mkF m 7 #[.val (.long (4 : Int64)), .second, .val (.long q1), .second] [(.long (4 : Int64))])) _
    refine OGot.go (fun t k => XS.goto X0.here hx rfl (pc0 := 7) (pc' := 11) rfl (hb hby d2_7) (by decide) (by decide) k) ?_
    show OGot p.tables e below (s₁.setTop (mkF m 11 #[.val (.long (4 : Int64)), .second, .val (.long q1), .second] [(.long (4 : Int64))])) _
    obtain ⟨fs, hr, hrun, hended, hW, hsame⟩ := X0.leave (v := some (.long (4 : Int64))) (fun h => by rw [Bd.returns] at h; cases h)
    refine ⟨_, _, oretJ X0 hx Bd.returns (hb hby d2_11) hr, hrun, hended, _, _, rfl, ?_, ⟨_, rfl⟩, hW, hsame.mono (by decide) (by decide)⟩
    exact (⟨(by unfold f2; rw [if_neg hs2]), N0, e0⟩ : Q2 Z w_STEP w_NONE q1 h0 n0 _ s₁.heap _)
theorem pd_0 : parseMethodDescriptor "(JJ)J" = some ⟨[.long, .long], some .long⟩ := by decide +kernel
theorem pn_com_example_restrained_scaler_restrainedscaler_decision_ScaleUpLimit : plainName "com/example/restrained_scaler/restrainedscaler/decision/ScaleUpLimit" = true := by first | (simp [plainName, overriddenIn]; done) | decide +kernel
def f1 (q2 : Int64) : Int64 := (if q2 = (0 : Int64) then (1 : Int64) else (f2 ((2 : Int64) * q2)))
def Q1 (Z : State) (w_STEP : Addr) (w_NONE : Addr) (q2 : Int64) (h0 : Heap) (n0 : Nat) (v : Option Value) (h : Heap) (L : List Loc) : Prop := v = some (.long (f1 q2)) ∧ Fr n0 L ∧ h = h0
theorem ef1 (m : MethodId) (x0 : Addr) (x1 : Int64) : entryFrame m #[(.ref x0), (.long x1)] 3 = mkF m 0 #[.val (.ref x0), .val (.long x1), .second] [] := by first | (simp [entryFrame, mkF, argsToLocals, Value.category]; done) | rfl
set_option maxRecDepth 65536 in
set_option maxHeartbeats 40000000 in
theorem rm1 (l : Launch) (Z : State) (a0 : Array Value) (hw : ∀ d ∈ tables_1, d.before a0 Z = true) (ws : List Jvm.Cond) {w_STEP : Addr} {w_NONE : Addr} (G : Glob Z w_STEP w_NONE) (q2 : Int64) (h0 : Heap) (n0 : Nat) (O0 : Old Z n0 h0) :
    MetFree l (⟨"com/example/restrained_scaler/restrainedscaler/decision/ScaleUpLimit", "mostFrom", "(J)J"⟩ : MethodName) (head1 (Jvm.Cond.code (⟨"com/example/restrained_scaler/restrainedscaler/decision/ScaleUpLimit", "mostFrom", "(J)J"⟩ : MethodName) prog_23_method_4_code 3 (some .long) :: ws) ({ frames := 1, cells := 0, slots := 0, locals := 15 } : Room)) (fun a U => a = #[(.ref w_STEP), (.long q2)] ∧ Z.Warmed39 U.vm ∧ U.heap = h0) (fun _ _ _ _ _ => True) (fun _ U o U' => ∃ v L, o = .returned v ∧ Q1 Z w_STEP w_NONE q2 h0 n0 v U'.heap L ∧ FrameEnd U o U' L ({ frames := 1, cells := 0, slots := 0, locals := 15 } : Room).cells ({ frames := 1, cells := 0, slots := 0, locals := 15 } : Room).slots) := by
  refine MetFree.of_bodySF (plainFor_of_name pn_com_example_restrained_scaler_restrainedscaler_decision_ScaleUpLimit) hisR ?_
  intro p e s m args below meth c s₁ Bd hml0 hP hK
  obtain ⟨rfl, hZ, hh⟩ := hP
  have hx := Bd.exec
  have hby := Bd.bytes
  have hml : c.maxLocals = 3 := hml0
  have hown : s.vm.findClass "com/example/restrained_scaler/restrainedscaler/decision/ScaleUpLimit" = some m.cls := findClass_of_methodNamed Bd.named
  have hnm := (name_of_methodNamed Bd.named Bd.method).1
  have X0 : Stand p l e ({ frames := 1, cells := 0, slots := 0, locals := 15 } : Room) s m #[(.ref w_STEP), (.long q2)] below meth c s₁ [] 0 0 := Stand.of_body Bd
  have e0 : s₁.heap = h0 := by rw [← hh, Bd.state]; rfl
  have N0 := Fr.nil n0
  show OGot p.tables e below (s₁.setTop (entryFrame m #[(.ref w_STEP), (.long q2)] 3)) _
  refine OGot.go (fun t k => castTop (ef1 m w_STEP q2) k) ?_
  show OGot p.tables e below (s₁.setTop (mkF m 0 #[.val (.ref w_STEP), .val (.long q2), .second] [])) _
  refine OGot.go (fun t k => XS.aloadN X0.here hx rfl (hb hby d1_0) rfl rfl k) ?_
  show OGot p.tables e below (s₁.setTop (mkF m 1 #[.val (.ref w_STEP), .val (.long q2), .second] [(.ref w_STEP)])) _
  obtain ⟨T3, X3, e3, st3⟩ := getS2 X0 hx hZ hown (host := "") (Or.inl (ow hw 9 rfl)) Via.refl e0 (G.2.2.1.ext O0.2) (g := (mkF m 1 #[.val (.ref w_STEP), .val (.long q2), .second] [(.ref w_STEP)])) rfl (hb hby d1_1)
  refine OGot.go st3 ?_
  show OGot p.tables e below (T3.setTop (mkF m 4 #[.val (.ref w_STEP), .val (.long q2), .second] [(.ref w_NONE), (.ref w_STEP)])) _
  have ne4 : w_STEP ≠ w_NONE := (Fld.ne G.2.2.2.2.1 G.2.2.2.2.2 (by decide))
  refine OGot.go (fun t k => Jvm.RoadKit.acmp (g := (mkF m 4 #[.val (.ref w_STEP), .val (.long q2), .second] [(.ref w_NONE), (.ref w_STEP)])) X3 hx rfl rfl rfl (pc0 := 4) (pc' := 11) (same := false) rfl (hb hby d1_4) rfl (decide_eq_false fun q => ne4 (Value.ref.inj q)) (by decide) (by decide) k) ?_
  show OGot p.tables e below (T3.setTop (mkF m 11 #[.val (.ref w_STEP), .val (.long q2), .second] [])) _
  refine OGot.go (fun t k => XS.lloadN X3.here hx rfl (hb hby d1_11) rfl k) ?_
  show OGot p.tables e below (T3.setTop (mkF m 12 #[.val (.ref w_STEP), .val (.long q2), .second] [(.long q2)])) _
  refine OGot.go (fun t k => XS.lconst X3.here hx rfl (hb hby d1_12) k) ?_
  show OGot p.tables e below (T3.setTop (mkF m 13 #[.val (.ref w_STEP), .val (.long q2), .second] [(.long (0 : Int64)), (.long q2)])) _
  refine OGot.go (fun t k => XS.lcmp X3.here hx rfl (hb hby d1_13) rfl k) ?_
  show OGot p.tables e below (T3.setTop (mkF m 14 #[.val (.ref w_STEP), .val (.long q2), .second] [(.int (lcmpW q2 (0 : Int64)))])) _
  by_cases hs5 : q2 = (0 : Int64)
  · refine OGot.go (fun t k => XS.ifNo X3.here hx rfl (hb hby d1_14) rfl ((if0 _ _).trans (teq ((lw_eq q2 (0 : Int64)).mpr hs5)).2) k) ?_
    show OGot p.tables e below (T3.setTop (mkF m 17 #[.val (.ref w_STEP), .val (.long q2), .second] [])) _
    refine OGot.go (fun t k => XS.lconst X3.here hx rfl (hb hby d1_17) k) ?_
    show OGot p.tables e below (T3.setTop (mkF m 18 #[.val (.ref w_STEP), .val (.long q2), .second] [(.long (1 : Int64))])) _
    refine OGot.go (fun t k => XS.goto X3.here hx rfl (pc0 := 18) (pc' := 32) rfl (hb hby d1_18) (by decide) (by decide) k) ?_
    show OGot p.tables e below (T3.setTop (mkF m 32 #[.val (.ref w_STEP), .val (.long q2), .second] [(.long (1 : Int64))])) _
    obtain ⟨fs, hr, hrun, hended, hW, hsame⟩ := X3.leave (v := some (.long (1 : Int64))) (fun h => by rw [Bd.returns] at h; cases h)
    refine ⟨_, _, oretJ X3 hx Bd.returns (hb hby d1_32) hr, hrun, hended, _, _, rfl, ?_, ⟨_, rfl⟩, hW, hsame.mono (by decide) (by decide)⟩
    exact (⟨(by unfold f1; rw [if_pos hs5]), N0, e3⟩ : Q1 Z w_STEP w_NONE q2 h0 n0 _ T3.heap _)
  · refine OGot.go (fun t k => XS.ifYes X3.here hx rfl (pc0 := 14) (pc' := 21) rfl (hb hby d1_14) rfl ((if0 _ _).trans (feq (fun q => hs5 ((lw_eq q2 (0 : Int64)).mp q))).2) (by decide) (by decide) k) ?_
    show OGot p.tables e below (T3.setTop (mkF m 21 #[.val (.ref w_STEP), .val (.long q2), .second] [])) _
    refine OGot.go (fun t k => X3.ldc2Long hx hown (mvT hZ (ow hw 11 rfl)) (g := (mkF m 21 #[.val (.ref w_STEP), .val (.long q2), .second] [])) rfl (hb hby d1_21) _ k) ?_
    show OGot p.tables e below (T3.setTop (mkF m 24 #[.val (.ref w_STEP), .val (.long q2), .second] [(.long (4 : Int64))])) _
    refine OGot.go (fun t k => X3.ldc2Long hx hown (mvT hZ (ow hw 12 rfl)) (g := (mkF m 24 #[.val (.ref w_STEP), .val (.long q2), .second] [(.long (4 : Int64))])) rfl (hb hby d1_24) _ k) ?_
    show OGot p.tables e below (T3.setTop (mkF m 27 #[.val (.ref w_STEP), .val (.long q2), .second] [(.long (2 : Int64)), (.long (4 : Int64))])) _
    refine OGot.go (fun t k => XS.lloadN X3.here hx rfl (hb hby d1_27) rfl k) ?_
    show OGot p.tables e below (T3.setTop (mkF m 28 #[.val (.ref w_STEP), .val (.long q2), .second] [(.long q2), (.long (2 : Int64)), (.long (4 : Int64))])) _
    refine OGot.go (fun t k => XS.lmul X3.here hx rfl (hb hby d1_28) rfl k) ?_
    show OGot p.tables e below (T3.setTop (mkF m 29 #[.val (.ref w_STEP), .val (.long q2), .second] [(.long ((2 : Int64) * q2)), (.long (4 : Int64))])) _
    obtain ⟨_, _, ⟨T6, L6, k6, n6⟩, -, X6, ⟨Lc6, hQ6, l6, y6, z6⟩, st6⟩ := Jvm.LawKit.callS X3 hx (y := (⟨"java/lang/Math", "max", "(JJ)J"⟩ : MethodName)) hown (mvT hZ (ow hw 13 rfl)) (mvT hZ (ow hw 14 rfl)) (mvT hZ (ow hw 15 rfl)) (mvT hZ (ow hw 16 rfl)) (by decide) (backOf (W := 0) (rm2 l Z a0 hw [] G ((2 : Int64) * q2) h0 n0 O0 ) hZ (ow hw 16 rfl) (ow hw 15 rfl) (by decide) (by decide)) (g := (mkF m 29 #[.val (.ref w_STEP), .val (.long q2), .second] [(.long ((2 : Int64) * q2)), (.long (4 : Int64))])) rfl (by rw [hml]; rfl) (argsL := [(.long (4 : Int64)), (.long ((2 : Int64) * q2))]) (rest := []) (lenOf pd_0 rfl) rfl (by show 2 * 0 + _ ≤ _; exact Nat.le_of_eq rfl) (hb hby d1_29) (fun _ _ => ⟨rfl, e3, (by decide : 0 + 0 ≤ _), (by decide : 0 + 0 ≤ _)⟩)
    dsimp only [Pt.U, Pt.locs, Pt.cells, Pt.slots] at X6 l6 y6 z6 st6 hQ6
    subst l6 y6 z6
    obtain ⟨rfl, N6q, e6⟩ := hQ6
    have N6 := Fr.app N0 N6q
    refine OGot.go st6 ?_
    show OGot p.tables e below (T6.setTop (mkF m 32 #[.val (.ref w_STEP), .val (.long q2), .second] [(.long (f2 ((2 : Int64) * q2)))])) _
    obtain ⟨fs, hr, hrun, hended, hW, hsame⟩ := X6.leave (v := some (.long (f2 ((2 : Int64) * q2)))) (fun h => by rw [Bd.returns] at h; cases h)
    refine ⟨_, _, oretJ X6 hx Bd.returns (hb hby d1_32) hr, hrun, hended, _, _, rfl, ?_, ⟨_, rfl⟩, hW, hsame.mono (by decide) (by decide)⟩
    exact (⟨(by unfold f1; rw [if_neg hs5]), N6, e6⟩ : Q1 Z w_STEP w_NONE q2 h0 n0 _ T6.heap _)
theorem pd_1 : parseMethodDescriptor "(J)J" = some ⟨[.long], some .long⟩ := by decide +kernel
theorem d3_0 : decode method_2_code 0 = .ok (.iload_n 0, 1) := by decide +kernel
theorem d3_1 : decode method_2_code 1 = .ok (.ifCond .eq 7, 3) := by decide +kernel
theorem d3_8 : decode method_2_code 8 = .ok (.lload_n 1, 1) := by decide +kernel
theorem d3_9 : decode method_2_code 9 = .ok (.lconst 0, 1) := by decide +kernel
theorem d3_10 : decode method_2_code 10 = .ok (.lcmp, 1) := by decide +kernel
theorem d3_11 : decode method_2_code 11 = .ok (.ifCond .ne 5, 3) := by decide +kernel
theorem d3_14 : decode method_2_code 14 = .ok (.lconst 1, 1) := by decide +kernel
theorem d3_15 : decode method_2_code 15 = .ok (.lreturn, 1) := by decide +kernel
theorem d3_16 : decode method_2_code 16 = .ok (.lload_n 1, 1) := by decide +kernel
theorem d3_17 : decode method_2_code 17 = .ok (.ldc2_w 11, 3) := by decide +kernel
theorem d3_20 : decode method_2_code 20 = .ok (.lcmp, 1) := by decide +kernel
theorem d3_21 : decode method_2_code 21 = .ok (.ifCond .gt 7, 3) := by decide +kernel
theorem d3_28 : decode method_2_code 28 = .ok (.lload_n 1, 1) := by decide +kernel
theorem d3_29 : decode method_2_code 29 = .ok (.lload_n 1, 1) := by decide +kernel
theorem d3_30 : decode method_2_code 30 = .ok (.ladd, 1) := by decide +kernel
theorem d3_31 : decode method_2_code 31 = .ok (.lreturn, 1) := by decide +kernel
theorem d3_24 : decode method_2_code 24 = .ok (.ldc2_w 13, 3) := by decide +kernel
theorem d3_27 : decode method_2_code 27 = .ok (.lreturn, 1) := by decide +kernel
theorem pn_com_example_restrained_scaler_restrainedscaler_decision_ScaleUpLimitMostFromPinLaw : plainName "com/example/restrained_scaler/restrainedscaler/decision/ScaleUpLimitMostFromPinLaw" = true := by first | (simp [plainName, overriddenIn]; done) | decide +kernel
def f3 (q1 : Int64) : Int64 := (if q1 = (0 : Int64) then (1 : Int64) else (if (2 : Int64) < q1 then (q1 + q1) else (4 : Int64)))
def Q3 (Z : State) (w_STEP : Addr) (w_NONE : Addr) (q1 : Int64) (h0 : Heap) (n0 : Nat) (v : Option Value) (h : Heap) (L : List Loc) : Prop := v = some (.long (f3 q1)) ∧ Fr n0 L ∧ h = h0
theorem ef3 (m : MethodId) (x1 : Int64) : entryFrame m #[(.int (0 : Int32)), (.long x1)] 3 = mkF m 0 #[.val (.int (0 : Int32)), .val (.long x1), .second] [] := by first | (simp [entryFrame, mkF, argsToLocals, Value.category]; done) | rfl
set_option maxRecDepth 65536 in
set_option maxHeartbeats 40000000 in
theorem rm3 (l : Launch) (Z : State) (a0 : Array Value) (hw : ∀ d ∈ tables_1, d.before a0 Z = true) (ws : List Jvm.Cond) {w_STEP : Addr} {w_NONE : Addr} (G : Glob Z w_STEP w_NONE) (q1 : Int64) (h0 : Heap) (n0 : Nat) (O0 : Old Z n0 h0) :
    MetFree l (⟨"com/example/restrained_scaler/restrainedscaler/decision/ScaleUpLimitMostFromPinLaw", "expected", "(ZJ)J"⟩ : MethodName) (head1 (Jvm.Cond.code (⟨"com/example/restrained_scaler/restrainedscaler/decision/ScaleUpLimitMostFromPinLaw", "expected", "(ZJ)J"⟩ : MethodName) method_2_code 3 (some .long) :: ws) ({ frames := 0, cells := 0, slots := 0, locals := 0 } : Room)) (fun a U => a = #[(.int (0 : Int32)), (.long q1)] ∧ Z.Warmed39 U.vm ∧ U.heap = h0) (fun _ _ _ _ _ => True) (fun _ U o U' => ∃ v L, o = .returned v ∧ Q3 Z w_STEP w_NONE q1 h0 n0 v U'.heap L ∧ FrameEnd U o U' L ({ frames := 0, cells := 0, slots := 0, locals := 0 } : Room).cells ({ frames := 0, cells := 0, slots := 0, locals := 0 } : Room).slots) := by
  refine MetFree.of_bodySF (plainFor_of_name pn_com_example_restrained_scaler_restrainedscaler_decision_ScaleUpLimitMostFromPinLaw) hisR ?_
  intro p e s m args below meth c s₁ Bd hml0 hP hK
  obtain ⟨rfl, hZ, hh⟩ := hP
  have hx := Bd.exec
  have hby := Bd.bytes
  have hml : c.maxLocals = 3 := hml0
  have hown : s.vm.findClass "com/example/restrained_scaler/restrainedscaler/decision/ScaleUpLimitMostFromPinLaw" = some m.cls := findClass_of_methodNamed Bd.named
  have hnm := (name_of_methodNamed Bd.named Bd.method).1
  have X0 : Stand p l e ({ frames := 0, cells := 0, slots := 0, locals := 0 } : Room) s m #[(.int (0 : Int32)), (.long q1)] below meth c s₁ [] 0 0 := Stand.of_body Bd
  have e0 : s₁.heap = h0 := by rw [← hh, Bd.state]; rfl
  have N0 := Fr.nil n0
  show OGot p.tables e below (s₁.setTop (entryFrame m #[(.int (0 : Int32)), (.long q1)] 3)) _
  refine OGot.go (fun t k => castTop (ef3 m q1) k) ?_
  show OGot p.tables e below (s₁.setTop (mkF m 0 #[.val (.int (0 : Int32)), .val (.long q1), .second] [])) _
  refine OGot.go (fun t k => XS.iloadN X0.here hx rfl (hb hby d3_0) rfl k) ?_
  show OGot p.tables e below (s₁.setTop (mkF m 1 #[.val (.int (0 : Int32)), .val (.long q1), .second] [(.int (0 : Int32))])) _
  refine OGot.go (fun t k => XS.ifYes X0.here hx rfl (pc0 := 1) (pc' := 8) rfl (hb hby d3_1) rfl (by decide) (by decide) (by decide) k) ?_
  show OGot p.tables e below (s₁.setTop (mkF m 8 #[.val (.int (0 : Int32)), .val (.long q1), .second] [])) _
  refine OGot.go (fun t k => XS.lloadN X0.here hx rfl (hb hby d3_8) rfl k) ?_
  show OGot p.tables e below (s₁.setTop (mkF m 9 #[.val (.int (0 : Int32)), .val (.long q1), .second] [(.long q1)])) _
  refine OGot.go (fun t k => XS.lconst X0.here hx rfl (hb hby d3_9) k) ?_
  show OGot p.tables e below (s₁.setTop (mkF m 10 #[.val (.int (0 : Int32)), .val (.long q1), .second] [(.long (0 : Int64)), (.long q1)])) _
  refine OGot.go (fun t k => XS.lcmp X0.here hx rfl (hb hby d3_10) rfl k) ?_
  show OGot p.tables e below (s₁.setTop (mkF m 11 #[.val (.int (0 : Int32)), .val (.long q1), .second] [(.int (lcmpW q1 (0 : Int64)))])) _
  by_cases hs2 : q1 = (0 : Int64)
  · refine OGot.go (fun t k => XS.ifNo X0.here hx rfl (hb hby d3_11) rfl ((if0 _ _).trans (teq ((lw_eq q1 (0 : Int64)).mpr hs2)).2) k) ?_
    show OGot p.tables e below (s₁.setTop (mkF m 14 #[.val (.int (0 : Int32)), .val (.long q1), .second] [])) _
    refine OGot.go (fun t k => XS.lconst X0.here hx rfl (hb hby d3_14) k) ?_
    show OGot p.tables e below (s₁.setTop (mkF m 15 #[.val (.int (0 : Int32)), .val (.long q1), .second] [(.long (1 : Int64))])) _
    obtain ⟨fs, hr, hrun, hended, hW, hsame⟩ := X0.leave (v := some (.long (1 : Int64))) (fun h => by rw [Bd.returns] at h; cases h)
    refine ⟨_, _, oretJ X0 hx Bd.returns (hb hby d3_15) hr, hrun, hended, _, _, rfl, ?_, ⟨_, rfl⟩, hW, hsame.mono (by decide) (by decide)⟩
    exact (⟨(by unfold f3; rw [if_pos hs2]), N0, e0⟩ : Q3 Z w_STEP w_NONE q1 h0 n0 _ s₁.heap _)
  · refine OGot.go (fun t k => XS.ifYes X0.here hx rfl (pc0 := 11) (pc' := 16) rfl (hb hby d3_11) rfl ((if0 _ _).trans (feq (fun q => hs2 ((lw_eq q1 (0 : Int64)).mp q))).2) (by decide) (by decide) k) ?_
    show OGot p.tables e below (s₁.setTop (mkF m 16 #[.val (.int (0 : Int32)), .val (.long q1), .second] [])) _
    refine OGot.go (fun t k => XS.lloadN X0.here hx rfl (hb hby d3_16) rfl k) ?_
    show OGot p.tables e below (s₁.setTop (mkF m 17 #[.val (.int (0 : Int32)), .val (.long q1), .second] [(.long q1)])) _
    refine OGot.go (fun t k => X0.ldc2Long hx hown (mvT hZ (ow hw 21 rfl)) (g := (mkF m 17 #[.val (.int (0 : Int32)), .val (.long q1), .second] [(.long q1)])) rfl (hb hby d3_17) _ k) ?_
    show OGot p.tables e below (s₁.setTop (mkF m 20 #[.val (.int (0 : Int32)), .val (.long q1), .second] [(.long (2 : Int64)), (.long q1)])) _
    refine OGot.go (fun t k => XS.lcmp X0.here hx rfl (hb hby d3_20) rfl k) ?_
    show OGot p.tables e below (s₁.setTop (mkF m 21 #[.val (.int (0 : Int32)), .val (.long q1), .second] [(.int (lcmpW q1 (2 : Int64)))])) _
    by_cases hs3 : (2 : Int64) < q1
    · refine OGot.go (fun t k => XS.ifYes X0.here hx rfl (pc0 := 21) (pc' := 28) rfl (hb hby d3_21) rfl ((if0 _ _).trans (tlt ((lw_gt q1 (2 : Int64)).mpr hs3)).2.2.1) (by decide) (by decide) k) ?_
      show OGot p.tables e below (s₁.setTop (mkF m 28 #[.val (.int (0 : Int32)), .val (.long q1), .second] [])) _
      refine OGot.go (fun t k => XS.lloadN X0.here hx rfl (hb hby d3_28) rfl k) ?_
      show OGot p.tables e below (s₁.setTop (mkF m 29 #[.val (.int (0 : Int32)), .val (.long q1), .second] [(.long q1)])) _
      refine OGot.go (fun t k => XS.lloadN X0.here hx rfl (hb hby d3_29) rfl k) ?_
      show OGot p.tables e below (s₁.setTop (mkF m 30 #[.val (.int (0 : Int32)), .val (.long q1), .second] [(.long q1), (.long q1)])) _
      refine OGot.go (fun t k => XS.ladd X0.here hx rfl (hb hby d3_30) rfl k) ?_
      show OGot p.tables e below (s₁.setTop (mkF m 31 #[.val (.int (0 : Int32)), .val (.long q1), .second] [(.long (q1 + q1))])) _
      obtain ⟨fs, hr, hrun, hended, hW, hsame⟩ := X0.leave (v := some (.long (q1 + q1))) (fun h => by rw [Bd.returns] at h; cases h)
      refine ⟨_, _, oretJ X0 hx Bd.returns (hb hby d3_31) hr, hrun, hended, _, _, rfl, ?_, ⟨_, rfl⟩, hW, hsame.mono (by decide) (by decide)⟩
      exact (⟨(by unfold f3; rw [if_neg hs2, if_pos hs3]), N0, e0⟩ : Q3 Z w_STEP w_NONE q1 h0 n0 _ s₁.heap _)
    · refine OGot.go (fun t k => XS.ifNo X0.here hx rfl (hb hby d3_21) rfl ((if0 _ _).trans (flt (fun q => hs3 ((lw_gt q1 (2 : Int64)).mp q))).2.2.1) k) ?_
      show OGot p.tables e below (s₁.setTop (mkF m 24 #[.val (.int (0 : Int32)), .val (.long q1), .second] [])) _
      refine OGot.go (fun t k => X0.ldc2Long hx hown (mvT hZ (ow hw 22 rfl)) (g := (mkF m 24 #[.val (.int (0 : Int32)), .val (.long q1), .second] [])) rfl (hb hby d3_24) _ k) ?_
      show OGot p.tables e below (s₁.setTop (mkF m 27 #[.val (.int (0 : Int32)), .val (.long q1), .second] [(.long (4 : Int64))])) _
      obtain ⟨fs, hr, hrun, hended, hW, hsame⟩ := X0.leave (v := some (.long (4 : Int64))) (fun h => by rw [Bd.returns] at h; cases h)
      refine ⟨_, _, oretJ X0 hx Bd.returns (hb hby d3_27) hr, hrun, hended, _, _, rfl, ?_, ⟨_, rfl⟩, hW, hsame.mono (by decide) (by decide)⟩
      exact (⟨(by unfold f3; rw [if_neg hs2, if_neg hs3]), N0, e0⟩ : Q3 Z w_STEP w_NONE q1 h0 n0 _ s₁.heap _)
theorem pd_2 : parseMethodDescriptor "(ZJ)J" = some ⟨[.boolean, .long], some .long⟩ := by decide +kernel
theorem own_eq (q : Int64) : (f1 (q &&& (4611686018427387903 : Int64))) = (f3 (q &&& (4611686018427387903 : Int64))) := by
  have hm := c_maskL q 4611686018427387903 62 (by decide) (by decide)
  have p : ((2 ^ 62 : Nat) : Int) = 4611686018427387904 := rfl
  rw [p] at hm
  generalize (q &&& (4611686018427387903 : Int64)) = n at *
  have e2 := c_lmul 2 n
  have ea := c_ladd n n
  have r1 := rng64 (2 * n)
  have r2 := rng64 (n + n)
  have c2 : (2 : Int64).toInt = 2 := rfl
  have c4 : (4 : Int64).toInt = 4 := rfl
  rw [c2] at e2
  have t : (2 : Int64) * n = n + n := Int64.toInt_inj.mp (by omega)
  unfold f1 f3 f2
  by_cases h0 : n = 0
  · rw [if_pos h0, if_pos h0]
  · rw [if_neg h0, if_neg h0, t]
    by_cases h4 : (2 : Int64) < n
    · rw [if_pos h4, if_pos (by rw [Int64.lt_iff_toInt_lt] at *; omega)]
    · rw [if_neg h4, if_neg (by rw [Int64.lt_iff_toInt_lt] at *; omega)]
theorem d1_7 : decode prog_23_method_4_code 7 = .ok (.ldc2_w 31, 3) := by decide +kernel
theorem d1_10 : decode prog_23_method_4_code 10 = .ok (.lreturn, 1) := by decide +kernel
def Q1_1 (Z : State) (w_STEP : Addr) (w_NONE : Addr) (q2 : Int64) (h0 : Heap) (n0 : Nat) (v : Option Value) (h : Heap) (L : List Loc) : Prop := v = some (.long (9223372036854775807 : Int64)) ∧ Fr n0 L ∧ h = h0
theorem ef1_1 (m : MethodId) (x0 : Addr) (x1 : Int64) : entryFrame m #[(.ref x0), (.long x1)] 3 = mkF m 0 #[.val (.ref x0), .val (.long x1), .second] [] := by first | (simp [entryFrame, mkF, argsToLocals, Value.category]; done) | rfl
set_option maxRecDepth 65536 in
set_option maxHeartbeats 40000000 in
theorem rm1_1 (l : Launch) (Z : State) (a0 : Array Value) (hw : ∀ d ∈ tables_1, d.before a0 Z = true) (ws : List Jvm.Cond) {w_STEP : Addr} {w_NONE : Addr} (G : Glob Z w_STEP w_NONE) (q2 : Int64) (h0 : Heap) (n0 : Nat) (O0 : Old Z n0 h0) :
    MetFree l (⟨"com/example/restrained_scaler/restrainedscaler/decision/ScaleUpLimit", "mostFrom", "(J)J"⟩ : MethodName) (head1 (Jvm.Cond.code (⟨"com/example/restrained_scaler/restrainedscaler/decision/ScaleUpLimit", "mostFrom", "(J)J"⟩ : MethodName) prog_23_method_4_code 3 (some .long) :: ws) ({ frames := 0, cells := 0, slots := 0, locals := 0 } : Room)) (fun a U => a = #[(.ref w_NONE), (.long q2)] ∧ Z.Warmed39 U.vm ∧ U.heap = h0) (fun _ _ _ _ _ => True) (fun _ U o U' => ∃ v L, o = .returned v ∧ Q1_1 Z w_STEP w_NONE q2 h0 n0 v U'.heap L ∧ FrameEnd U o U' L ({ frames := 0, cells := 0, slots := 0, locals := 0 } : Room).cells ({ frames := 0, cells := 0, slots := 0, locals := 0 } : Room).slots) := by
  refine MetFree.of_bodySF (plainFor_of_name pn_com_example_restrained_scaler_restrainedscaler_decision_ScaleUpLimit) hisR ?_
  intro p e s m args below meth c s₁ Bd hml0 hP hK
  obtain ⟨rfl, hZ, hh⟩ := hP
  have hx := Bd.exec
  have hby := Bd.bytes
  have hml : c.maxLocals = 3 := hml0
  have hown : s.vm.findClass "com/example/restrained_scaler/restrainedscaler/decision/ScaleUpLimit" = some m.cls := findClass_of_methodNamed Bd.named
  have hnm := (name_of_methodNamed Bd.named Bd.method).1
  have X0 : Stand p l e ({ frames := 0, cells := 0, slots := 0, locals := 0 } : Room) s m #[(.ref w_NONE), (.long q2)] below meth c s₁ [] 0 0 := Stand.of_body Bd
  have e0 : s₁.heap = h0 := by rw [← hh, Bd.state]; rfl
  have N0 := Fr.nil n0
  show OGot p.tables e below (s₁.setTop (entryFrame m #[(.ref w_NONE), (.long q2)] 3)) _
  refine OGot.go (fun t k => castTop (ef1_1 m w_NONE q2) k) ?_
  show OGot p.tables e below (s₁.setTop (mkF m 0 #[.val (.ref w_NONE), .val (.long q2), .second] [])) _
  refine OGot.go (fun t k => XS.aloadN X0.here hx rfl (hb hby d1_0) rfl rfl k) ?_
  show OGot p.tables e below (s₁.setTop (mkF m 1 #[.val (.ref w_NONE), .val (.long q2), .second] [(.ref w_NONE)])) _
  obtain ⟨T3, X3, e3, st3⟩ := getS2 X0 hx hZ hown (host := "") (Or.inl (ow hw 9 rfl)) Via.refl e0 (G.2.2.1.ext O0.2) (g := (mkF m 1 #[.val (.ref w_NONE), .val (.long q2), .second] [(.ref w_NONE)])) rfl (hb hby d1_1)
  refine OGot.go st3 ?_
  show OGot p.tables e below (T3.setTop (mkF m 4 #[.val (.ref w_NONE), .val (.long q2), .second] [(.ref w_NONE), (.ref w_NONE)])) _
  refine OGot.go (fun t k => Jvm.RoadKit.acmp (g := (mkF m 4 #[.val (.ref w_NONE), .val (.long q2), .second] [(.ref w_NONE), (.ref w_NONE)])) X3 hx rfl rfl rfl (pc0 := 4) (pc' := 7) (same := true) rfl (hb hby d1_4) rfl (decide_eq_true rfl) (by decide) (by decide) k) ?_
  show OGot p.tables e below (T3.setTop (mkF m 7 #[.val (.ref w_NONE), .val (.long q2), .second] [])) _
  refine OGot.go (fun t k => X3.ldc2Long hx hown (mvT hZ (ow hw 24 rfl)) (g := (mkF m 7 #[.val (.ref w_NONE), .val (.long q2), .second] [])) rfl (hb hby d1_7) _ k) ?_
  show OGot p.tables e below (T3.setTop (mkF m 10 #[.val (.ref w_NONE), .val (.long q2), .second] [(.long (9223372036854775807 : Int64))])) _
  obtain ⟨fs, hr, hrun, hended, hW, hsame⟩ := X3.leave (v := some (.long (9223372036854775807 : Int64))) (fun h => by rw [Bd.returns] at h; cases h)
  refine ⟨_, _, oretJ X3 hx Bd.returns (hb hby d1_10) hr, hrun, hended, _, _, rfl, ?_, ⟨_, rfl⟩, hW, hsame.mono (by decide) (by decide)⟩
  exact (⟨rfl, N0, e3⟩ : Q1_1 Z w_STEP w_NONE q2 h0 n0 _ T3.heap _)
theorem d3_4 : decode method_2_code 4 = .ok (.ldc2_w 9, 3) := by decide +kernel
theorem d3_7 : decode method_2_code 7 = .ok (.lreturn, 1) := by decide +kernel
def Q3_1 (Z : State) (w_STEP : Addr) (w_NONE : Addr) (q1 : Int64) (h0 : Heap) (n0 : Nat) (v : Option Value) (h : Heap) (L : List Loc) : Prop := v = some (.long (9223372036854775807 : Int64)) ∧ Fr n0 L ∧ h = h0
theorem ef3_1 (m : MethodId) (x1 : Int64) : entryFrame m #[(.int (1 : Int32)), (.long x1)] 3 = mkF m 0 #[.val (.int (1 : Int32)), .val (.long x1), .second] [] := by first | (simp [entryFrame, mkF, argsToLocals, Value.category]; done) | rfl
set_option maxRecDepth 65536 in
set_option maxHeartbeats 40000000 in
theorem rm3_1 (l : Launch) (Z : State) (a0 : Array Value) (hw : ∀ d ∈ tables_1, d.before a0 Z = true) (ws : List Jvm.Cond) {w_STEP : Addr} {w_NONE : Addr} (G : Glob Z w_STEP w_NONE) (q1 : Int64) (h0 : Heap) (n0 : Nat) (O0 : Old Z n0 h0) :
    MetFree l (⟨"com/example/restrained_scaler/restrainedscaler/decision/ScaleUpLimitMostFromPinLaw", "expected", "(ZJ)J"⟩ : MethodName) (head1 (Jvm.Cond.code (⟨"com/example/restrained_scaler/restrainedscaler/decision/ScaleUpLimitMostFromPinLaw", "expected", "(ZJ)J"⟩ : MethodName) method_2_code 3 (some .long) :: ws) ({ frames := 0, cells := 0, slots := 0, locals := 0 } : Room)) (fun a U => a = #[(.int (1 : Int32)), (.long q1)] ∧ Z.Warmed39 U.vm ∧ U.heap = h0) (fun _ _ _ _ _ => True) (fun _ U o U' => ∃ v L, o = .returned v ∧ Q3_1 Z w_STEP w_NONE q1 h0 n0 v U'.heap L ∧ FrameEnd U o U' L ({ frames := 0, cells := 0, slots := 0, locals := 0 } : Room).cells ({ frames := 0, cells := 0, slots := 0, locals := 0 } : Room).slots) := by
  refine MetFree.of_bodySF (plainFor_of_name pn_com_example_restrained_scaler_restrainedscaler_decision_ScaleUpLimitMostFromPinLaw) hisR ?_
  intro p e s m args below meth c s₁ Bd hml0 hP hK
  obtain ⟨rfl, hZ, hh⟩ := hP
  have hx := Bd.exec
  have hby := Bd.bytes
  have hml : c.maxLocals = 3 := hml0
  have hown : s.vm.findClass "com/example/restrained_scaler/restrainedscaler/decision/ScaleUpLimitMostFromPinLaw" = some m.cls := findClass_of_methodNamed Bd.named
  have hnm := (name_of_methodNamed Bd.named Bd.method).1
  have X0 : Stand p l e ({ frames := 0, cells := 0, slots := 0, locals := 0 } : Room) s m #[(.int (1 : Int32)), (.long q1)] below meth c s₁ [] 0 0 := Stand.of_body Bd
  have e0 : s₁.heap = h0 := by rw [← hh, Bd.state]; rfl
  have N0 := Fr.nil n0
  show OGot p.tables e below (s₁.setTop (entryFrame m #[(.int (1 : Int32)), (.long q1)] 3)) _
  refine OGot.go (fun t k => castTop (ef3_1 m q1) k) ?_
  show OGot p.tables e below (s₁.setTop (mkF m 0 #[.val (.int (1 : Int32)), .val (.long q1), .second] [])) _
  refine OGot.go (fun t k => XS.iloadN X0.here hx rfl (hb hby d3_0) rfl k) ?_
  show OGot p.tables e below (s₁.setTop (mkF m 1 #[.val (.int (1 : Int32)), .val (.long q1), .second] [(.int (1 : Int32))])) _
  refine OGot.go (fun t k => XS.ifNo X0.here hx rfl (hb hby d3_1) rfl (by decide) k) ?_
  show OGot p.tables e below (s₁.setTop (mkF m 4 #[.val (.int (1 : Int32)), .val (.long q1), .second] [])) _
  refine OGot.go (fun t k => X0.ldc2Long hx hown (mvT hZ (ow hw 25 rfl)) (g := (mkF m 4 #[.val (.int (1 : Int32)), .val (.long q1), .second] [])) rfl (hb hby d3_4) _ k) ?_
  show OGot p.tables e below (s₁.setTop (mkF m 7 #[.val (.int (1 : Int32)), .val (.long q1), .second] [(.long (9223372036854775807 : Int64))])) _
  obtain ⟨fs, hr, hrun, hended, hW, hsame⟩ := X0.leave (v := some (.long (9223372036854775807 : Int64))) (fun h => by rw [Bd.returns] at h; cases h)
  refine ⟨_, _, oretJ X0 hx Bd.returns (hb hby d3_7) hr, hrun, hended, _, _, rfl, ?_, ⟨_, rfl⟩, hW, hsame.mono (by decide) (by decide)⟩
  exact (⟨rfl, N0, e0⟩ : Q3_1 Z w_STEP w_NONE q1 h0 n0 _ s₁.heap _)
def Q0 (Z : State) (w_STEP : Addr) (w_NONE : Addr) (p1 : Int32) (q2 : Int64) (h0 : Heap) (n0 : Nat) (v : Option Value) (h : Heap) (L : List Loc) : Prop := v = some (.int (1 : Int32)) ∧ Fr n0 L
theorem ef0 (m : MethodId) (x0 : Int32) (x1 : Int64) : entryFrame m #[(.int x0), (.long x1)] maxLocals = mkF m 0 #[.val (.int x0), .val (.long x1), .second, .unset, .unset, .unset, .unset, .unset, .unset] [] := by first | (simp [entryFrame, mkF, argsToLocals, Value.category, maxLocals]; done) | rfl
set_option maxRecDepth 65536 in
set_option maxHeartbeats 40000000 in
theorem rm0 (l : Launch) (Z : State) (a0 : Array Value) (hw : ∀ d ∈ tables_1, d.before a0 Z = true) (ws : List Jvm.Cond) {w_STEP : Addr} {w_NONE : Addr} (G : Glob Z w_STEP w_NONE) (p1 : Int32) (q2 : Int64) (h0 : Heap) (n0 : Nat) (O0 : Old Z n0 h0) :
    MetFree l x (head1 (Jvm.Cond.code x code maxLocals ret :: ws) room_1) (fun a U => a = #[(.int p1), (.long q2)] ∧ Z.Warmed39 U.vm ∧ U.heap = h0) (fun _ _ _ _ _ => True) (fun _ U o U' => ∃ v L, o = .returned v ∧ Q0 Z w_STEP w_NONE p1 q2 h0 n0 v U'.heap L ∧ FrameEnd U o U' L room_1.cells room_1.slots) := by
  refine MetFree.of_bodySF (plainFor_of_name pn_com_example_restrained_scaler_restrainedscaler_decision_ScaleUpLimitMostFromPinLaw) hisR ?_
  intro p e s m args below meth c s₁ Bd hml0 hP hK
  obtain ⟨rfl, hZ, hh⟩ := hP
  have hx := Bd.exec
  have hby := Bd.bytes
  have hml : c.maxLocals = 9 := hml0
  have hown : s.vm.findClass "com/example/restrained_scaler/restrainedscaler/decision/ScaleUpLimitMostFromPinLaw" = some m.cls := findClass_of_methodNamed Bd.named
  have hnm := (name_of_methodNamed Bd.named Bd.method).1
  have X0 : Stand p l e room_1 s m #[(.int p1), (.long q2)] below meth c s₁ [] 0 0 := Stand.of_body Bd
  have e0 : s₁.heap = h0 := by rw [← hh, Bd.state]; rfl
  have N0 := Fr.nil n0
  show OGot p.tables e below (s₁.setTop (entryFrame m #[(.int p1), (.long q2)] maxLocals)) _
  refine OGot.go (fun t k => castTop (ef0 m p1 q2) k) ?_
  show OGot p.tables e below (s₁.setTop (mkF m 0 #[.val (.int p1), .val (.long q2), .second, .unset, .unset, .unset, .unset, .unset, .unset] [])) _
  refine OGot.go (fun t k => XS.iloadN X0.here hx rfl (hb hby at_0) rfl k) ?_
  show OGot p.tables e below (s₁.setTop (mkF m 1 #[.val (.int p1), .val (.long q2), .second, .unset, .unset, .unset, .unset, .unset, .unset] [(.int p1)])) _
  refine OGot.go (fun t k => XS.iconst X0.here hx rfl (hb hby at_1) k) ?_
  show OGot p.tables e below (s₁.setTop (mkF m 2 #[.val (.int p1), .val (.long q2), .second, .unset, .unset, .unset, .unset, .unset, .unset] [(.int (1 : Int32)), (.int p1)])) _
  refine OGot.go (fun t k => XS.iand X0.here hx rfl (hb hby at_2) rfl k) ?_
  show OGot p.tables e below (s₁.setTop (mkF m 3 #[.val (.int p1), .val (.long q2), .second, .unset, .unset, .unset, .unset, .unset, .unset] [(.int (p1 &&& (1 : Int32)))])) _
  rcases own_and1 p1 with hk3 | hk4
  · rw [hk3]
    show OGot p.tables e below (s₁.setTop (mkF m 3 #[.val (.int p1), .val (.long q2), .second, .unset, .unset, .unset, .unset, .unset, .unset] [(.int (0 : Int32))])) _
    refine OGot.go (fun t k => XS.ifYes X0.here hx rfl (pc0 := 3) (pc' := 10) rfl (hb hby at_3) rfl (by decide) (by decide) (by decide) k) ?_
    show OGot p.tables e below (s₁.setTop (mkF m 10 #[.val (.int p1), .val (.long q2), .second, .unset, .unset, .unset, .unset, .unset, .unset] [])) _
    refine OGot.go (fun t k => XS.iconst X0.here hx rfl (hb hby at_10) k) ?_
    show OGot p.tables e below (s₁.setTop (mkF m 11 #[.val (.int p1), .val (.long q2), .second, .unset, .unset, .unset, .unset, .unset, .unset] [(.int (0 : Int32))])) _
    refine OGot.go (fun t k => XS.istoreN X0.here hx rfl (hb hby at_11) rfl (l' := #[.val (.int p1), .val (.long q2), .second, .val (.int (0 : Int32)), .unset, .unset, .unset, .unset, .unset]) rfl k) ?_
    show OGot p.tables e below (s₁.setTop (mkF m 12 #[.val (.int p1), .val (.long q2), .second, .val (.int (0 : Int32)), .unset, .unset, .unset, .unset, .unset] [])) _
    refine OGot.go (fun t k => XS.iloadN X0.here hx rfl (hb hby at_12) rfl k) ?_
    show OGot p.tables e below (s₁.setTop (mkF m 13 #[.val (.int p1), .val (.long q2), .second, .val (.int (0 : Int32)), .unset, .unset, .unset, .unset, .unset] [(.int (0 : Int32))])) _
    refine OGot.go (fun t k => XS.ifYes X0.here hx rfl (pc0 := 13) (pc' := 22) rfl (hb hby at_13) rfl (by decide) (by decide) (by decide) k) ?_
    show OGot p.tables e below (s₁.setTop (mkF m 22 #[.val (.int p1), .val (.long q2), .second, .val (.int (0 : Int32)), .unset, .unset, .unset, .unset, .unset] [])) _
    obtain ⟨T5, X5, e5, st5⟩ := getS2 X0 hx hZ hown (host := "") (Or.inl (ow hw 0 rfl)) Via.refl e0 (G.1.ext O0.2) (g := (mkF m 22 #[.val (.int p1), .val (.long q2), .second, .val (.int (0 : Int32)), .unset, .unset, .unset, .unset, .unset] [])) rfl (hb hby at_22)
    refine OGot.go st5 ?_
    show OGot p.tables e below (T5.setTop (mkF m 25 #[.val (.int p1), .val (.long q2), .second, .val (.int (0 : Int32)), .unset, .unset, .unset, .unset, .unset] [(.ref w_STEP)])) _
    refine OGot.go (fun t k => XS.astore X5.here hx rfl (hb hby at_25) rfl rfl (l' := #[.val (.int p1), .val (.long q2), .second, .val (.int (0 : Int32)), .val (.ref w_STEP), .unset, .unset, .unset, .unset]) rfl k) ?_
    show OGot p.tables e below (T5.setTop (mkF m 27 #[.val (.int p1), .val (.long q2), .second, .val (.int (0 : Int32)), .val (.ref w_STEP), .unset, .unset, .unset, .unset] [])) _
    refine OGot.go (fun t k => XS.lloadN X5.here hx rfl (hb hby at_27) rfl k) ?_
    show OGot p.tables e below (T5.setTop (mkF m 28 #[.val (.int p1), .val (.long q2), .second, .val (.int (0 : Int32)), .val (.ref w_STEP), .unset, .unset, .unset, .unset] [(.long q2)])) _
    refine OGot.go (fun t k => X5.ldc2Long hx hown (mvT hZ (ow hw 3 rfl)) (g := (mkF m 28 #[.val (.int p1), .val (.long q2), .second, .val (.int (0 : Int32)), .val (.ref w_STEP), .unset, .unset, .unset, .unset] [(.long q2)])) rfl (hb hby at_28) _ k) ?_
    show OGot p.tables e below (T5.setTop (mkF m 31 #[.val (.int p1), .val (.long q2), .second, .val (.int (0 : Int32)), .val (.ref w_STEP), .unset, .unset, .unset, .unset] [(.long (4611686018427387903 : Int64)), (.long q2)])) _
    refine OGot.go (fun t k => XS.land X5.here hx rfl (hb hby at_31) rfl k) ?_
    show OGot p.tables e below (T5.setTop (mkF m 32 #[.val (.int p1), .val (.long q2), .second, .val (.int (0 : Int32)), .val (.ref w_STEP), .unset, .unset, .unset, .unset] [(.long (q2 &&& (4611686018427387903 : Int64)))])) _
    refine OGot.go (fun t k => XS.lstore X5.here hx rfl (hb hby at_32) rfl (l' := #[.val (.int p1), .val (.long q2), .second, .val (.int (0 : Int32)), .val (.ref w_STEP), .val (.long (q2 &&& (4611686018427387903 : Int64))), .second, .unset, .unset]) rfl k) ?_
    show OGot p.tables e below (T5.setTop (mkF m 34 #[.val (.int p1), .val (.long q2), .second, .val (.int (0 : Int32)), .val (.ref w_STEP), .val (.long (q2 &&& (4611686018427387903 : Int64))), .second, .unset, .unset] [])) _
    refine OGot.go (fun t k => XS.aload X5.here hx rfl (hb hby at_34) rfl rfl k) ?_
    show OGot p.tables e below (T5.setTop (mkF m 36 #[.val (.int p1), .val (.long q2), .second, .val (.int (0 : Int32)), .val (.ref w_STEP), .val (.long (q2 &&& (4611686018427387903 : Int64))), .second, .unset, .unset] [(.ref w_STEP)])) _
    refine OGot.go (fun t k => XS.lload X5.here hx rfl (hb hby at_36) rfl k) ?_
    show OGot p.tables e below (T5.setTop (mkF m 38 #[.val (.int p1), .val (.long q2), .second, .val (.int (0 : Int32)), .val (.ref w_STEP), .val (.long (q2 &&& (4611686018427387903 : Int64))), .second, .unset, .unset] [(.long (q2 &&& (4611686018427387903 : Int64))), (.ref w_STEP)])) _
    obtain ⟨cq6, kq6, q6a, q6b, q6c⟩ := isOf hZ e5 (G.2.1.ext O0.2)
    obtain ⟨_, _, ⟨T6, L6, k6, n6⟩, -, X6, ⟨Lc6, hQ6, l6, y6, z6⟩, st6⟩ := X5.virtualBack hx (y := (⟨"com/example/restrained_scaler/restrainedscaler/decision/ScaleUpLimit", "mostFrom", "(J)J"⟩ : MethodName)) (z := (⟨"com/example/restrained_scaler/restrainedscaler/decision/ScaleUpLimit", "mostFrom", "(J)J"⟩ : MethodName)) hown (mvT hZ (ow hw 4 rfl)) (mvT hZ (ow hw 5 rfl)) (notFace_of_selects (args := #[]) (mvT hZ (ow hw 7 rfl))) (mvT hZ (ow hw 7 rfl)) (mvT hZ (ow hw 6 rfl)) (by decide) (backOf (W := 0) (rm1 l Z a0 hw [] G (q2 &&& (4611686018427387903 : Int64)) h0 n0 O0 ) hZ (ow hw 8 rfl) (ow hw 1 rfl) (by decide) (by decide)) q6a q6c (g := (mkF m 38 #[.val (.int p1), .val (.long q2), .second, .val (.int (0 : Int32)), .val (.ref w_STEP), .val (.long (q2 &&& (4611686018427387903 : Int64))), .second, .unset, .unset] [(.long (q2 &&& (4611686018427387903 : Int64))), (.ref w_STEP)])) rfl (by rw [hml]; rfl) (Steps.refl _) (argsL := [(.long (q2 &&& (4611686018427387903 : Int64)))]) (rest := []) (lenOf pd_1 rfl) rfl (by show 2 * 0 + _ ≤ _; exact Nat.le_of_eq rfl) (hb hby at_38) (fun _ _ => ⟨rfl, e5, (by decide : 0 + 0 ≤ _), (by decide : 0 + 0 ≤ _)⟩)
    dsimp only [Pt.U, Pt.locs, Pt.cells, Pt.slots] at X6 l6 y6 z6 st6 hQ6
    subst l6 y6 z6
    obtain ⟨rfl, N6q, e6⟩ := hQ6
    have N6 := Fr.app N0 N6q
    refine OGot.on st6 ?_
    show OGot p.tables e below (T6.setTop (mkF m 41 #[.val (.int p1), .val (.long q2), .second, .val (.int (0 : Int32)), .val (.ref w_STEP), .val (.long (q2 &&& (4611686018427387903 : Int64))), .second, .unset, .unset] [(.long (f1 (q2 &&& (4611686018427387903 : Int64))))])) _
    refine OGot.go (fun t k => XS.lstore X6.here hx rfl (hb hby at_41) rfl (l' := #[.val (.int p1), .val (.long q2), .second, .val (.int (0 : Int32)), .val (.ref w_STEP), .val (.long (q2 &&& (4611686018427387903 : Int64))), .second, .val (.long (f1 (q2 &&& (4611686018427387903 : Int64)))), .second]) rfl k) ?_
    show OGot p.tables e below (T6.setTop (mkF m 43 #[.val (.int p1), .val (.long q2), .second, .val (.int (0 : Int32)), .val (.ref w_STEP), .val (.long (q2 &&& (4611686018427387903 : Int64))), .second, .val (.long (f1 (q2 &&& (4611686018427387903 : Int64)))), .second] [])) _
    refine OGot.go (fun t k => XS.lload X6.here hx rfl (hb hby at_43) rfl k) ?_
    show OGot p.tables e below (T6.setTop (mkF m 45 #[.val (.int p1), .val (.long q2), .second, .val (.int (0 : Int32)), .val (.ref w_STEP), .val (.long (q2 &&& (4611686018427387903 : Int64))), .second, .val (.long (f1 (q2 &&& (4611686018427387903 : Int64)))), .second] [(.long (f1 (q2 &&& (4611686018427387903 : Int64))))])) _
    refine OGot.go (fun t k => XS.iloadN X6.here hx rfl (hb hby at_45) rfl k) ?_
    show OGot p.tables e below (T6.setTop (mkF m 46 #[.val (.int p1), .val (.long q2), .second, .val (.int (0 : Int32)), .val (.ref w_STEP), .val (.long (q2 &&& (4611686018427387903 : Int64))), .second, .val (.long (f1 (q2 &&& (4611686018427387903 : Int64)))), .second] [(.int (0 : Int32)), (.long (f1 (q2 &&& (4611686018427387903 : Int64))))])) _
    refine OGot.go (fun t k => XS.lload X6.here hx rfl (hb hby at_46) rfl k) ?_
    show OGot p.tables e below (T6.setTop (mkF m 48 #[.val (.int p1), .val (.long q2), .second, .val (.int (0 : Int32)), .val (.ref w_STEP), .val (.long (q2 &&& (4611686018427387903 : Int64))), .second, .val (.long (f1 (q2 &&& (4611686018427387903 : Int64)))), .second] [(.long (q2 &&& (4611686018427387903 : Int64))), (.int (0 : Int32)), (.long (f1 (q2 &&& (4611686018427387903 : Int64))))])) _
    obtain ⟨_, _, ⟨T7, L7, k7, n7⟩, -, X7, ⟨Lc7, hQ7, l7, y7, z7⟩, st7⟩ := Jvm.LawKit.callS X6 hx (y := (⟨"com/example/restrained_scaler/restrainedscaler/decision/ScaleUpLimitMostFromPinLaw", "expected", "(ZJ)J"⟩ : MethodName)) hown (mvT hZ (ow hw 17 rfl)) (mvT hZ (ow hw 18 rfl)) (mvT hZ (ow hw 19 rfl)) (mvT hZ (ow hw 20 rfl)) (by decide) (backOf (W := 2) (rm3 l Z a0 hw [] G (q2 &&& (4611686018427387903 : Int64)) h0 n0 O0 ) hZ (ow hw 20 rfl) (ow hw 19 rfl) (by decide) (by decide)) (g := (mkF m 48 #[.val (.int p1), .val (.long q2), .second, .val (.int (0 : Int32)), .val (.ref w_STEP), .val (.long (q2 &&& (4611686018427387903 : Int64))), .second, .val (.long (f1 (q2 &&& (4611686018427387903 : Int64)))), .second] [(.long (q2 &&& (4611686018427387903 : Int64))), (.int (0 : Int32)), (.long (f1 (q2 &&& (4611686018427387903 : Int64))))])) rfl (by rw [hml]; rfl) (argsL := [(.int (0 : Int32)), (.long (q2 &&& (4611686018427387903 : Int64)))]) (rest := [(.long (f1 (q2 &&& (4611686018427387903 : Int64))))]) (lenOf pd_2 rfl) rfl (by show 2 * 0 + _ ≤ _; exact Nat.le_of_eq rfl) (hb hby at_48) (fun _ _ => ⟨rfl, e6, (by decide : 0 + 0 ≤ _), (by decide : 0 + 0 ≤ _)⟩)
    dsimp only [Pt.U, Pt.locs, Pt.cells, Pt.slots] at X7 l7 y7 z7 st7 hQ7
    subst l7 y7 z7
    obtain ⟨rfl, N7q, e7⟩ := hQ7
    have N7 := Fr.app N6 N7q
    refine OGot.go st7 ?_
    show OGot p.tables e below (T7.setTop (mkF m 51 #[.val (.int p1), .val (.long q2), .second, .val (.int (0 : Int32)), .val (.ref w_STEP), .val (.long (q2 &&& (4611686018427387903 : Int64))), .second, .val (.long (f1 (q2 &&& (4611686018427387903 : Int64)))), .second] [(.long (f3 (q2 &&& (4611686018427387903 : Int64)))), (.long (f1 (q2 &&& (4611686018427387903 : Int64))))])) _
    refine OGot.go (fun t k => XS.lcmp X7.here hx rfl (hb hby at_51) rfl k) ?_
    show OGot p.tables e below (T7.setTop (mkF m 52 #[.val (.int p1), .val (.long q2), .second, .val (.int (0 : Int32)), .val (.ref w_STEP), .val (.long (q2 &&& (4611686018427387903 : Int64))), .second, .val (.long (f1 (q2 &&& (4611686018427387903 : Int64)))), .second] [(.int (lcmpW (f1 (q2 &&& (4611686018427387903 : Int64))) (f3 (q2 &&& (4611686018427387903 : Int64)))))])) _
    refine OGot.go (fun t k => XS.ifNo X7.here hx rfl (hb hby at_52) rfl ((if0 _ _).trans (teq ((lw_eq (f1 (q2 &&& (4611686018427387903 : Int64))) (f3 (q2 &&& (4611686018427387903 : Int64)))).mpr (own_eq _))).2) k) ?_
    show OGot p.tables e below (T7.setTop (mkF m 55 #[.val (.int p1), .val (.long q2), .second, .val (.int (0 : Int32)), .val (.ref w_STEP), .val (.long (q2 &&& (4611686018427387903 : Int64))), .second, .val (.long (f1 (q2 &&& (4611686018427387903 : Int64)))), .second] [])) _
    refine OGot.go (fun t k => XS.iconst X7.here hx rfl (hb hby at_55) k) ?_
    show OGot p.tables e below (T7.setTop (mkF m 56 #[.val (.int p1), .val (.long q2), .second, .val (.int (0 : Int32)), .val (.ref w_STEP), .val (.long (q2 &&& (4611686018427387903 : Int64))), .second, .val (.long (f1 (q2 &&& (4611686018427387903 : Int64)))), .second] [(.int (1 : Int32))])) _
    refine OGot.go (fun t k => XS.goto X7.here hx rfl (pc0 := 56) (pc' := 60) rfl (hb hby at_56) (by decide) (by decide) k) ?_
    show OGot p.tables e below (T7.setTop (mkF m 60 #[.val (.int p1), .val (.long q2), .second, .val (.int (0 : Int32)), .val (.ref w_STEP), .val (.long (q2 &&& (4611686018427387903 : Int64))), .second, .val (.long (f1 (q2 &&& (4611686018427387903 : Int64)))), .second] [(.int (1 : Int32))])) _
    obtain ⟨fs, hr, hrun, hended, hW, hsame⟩ := X7.leave (v := some (.int (1 : Int32))) (fun h => by rw [Bd.returns] at h; cases h)
    refine ⟨_, _, retN X7 hx (t := .boolean) Bd.returns (by simp) (hb hby at_60) hr, hrun, hended, _, _, rfl, ?_, ⟨_, rfl⟩, hW, hsame.mono (by decide) (by decide)⟩
    exact (⟨rfl, N7⟩ : Q0 Z w_STEP w_NONE p1 q2 h0 n0 _ T7.heap _)
  · rw [hk4]
    show OGot p.tables e below (s₁.setTop (mkF m 3 #[.val (.int p1), .val (.long q2), .second, .unset, .unset, .unset, .unset, .unset, .unset] [(.int (1 : Int32))])) _
    refine OGot.go (fun t k => XS.ifNo X0.here hx rfl (hb hby at_3) rfl (by decide) k) ?_
    show OGot p.tables e below (s₁.setTop (mkF m 6 #[.val (.int p1), .val (.long q2), .second, .unset, .unset, .unset, .unset, .unset, .unset] [])) _
    refine OGot.go (fun t k => XS.iconst X0.here hx rfl (hb hby at_6) k) ?_
    show OGot p.tables e below (s₁.setTop (mkF m 7 #[.val (.int p1), .val (.long q2), .second, .unset, .unset, .unset, .unset, .unset, .unset] [(.int (1 : Int32))])) _
    refine OGot.go (fun t k => XS.goto X0.here hx rfl (pc0 := 7) (pc' := 11) rfl (hb hby at_7) (by decide) (by decide) k) ?_
    show OGot p.tables e below (s₁.setTop (mkF m 11 #[.val (.int p1), .val (.long q2), .second, .unset, .unset, .unset, .unset, .unset, .unset] [(.int (1 : Int32))])) _
    refine OGot.go (fun t k => XS.istoreN X0.here hx rfl (hb hby at_11) rfl (l' := #[.val (.int p1), .val (.long q2), .second, .val (.int (1 : Int32)), .unset, .unset, .unset, .unset, .unset]) rfl k) ?_
    show OGot p.tables e below (s₁.setTop (mkF m 12 #[.val (.int p1), .val (.long q2), .second, .val (.int (1 : Int32)), .unset, .unset, .unset, .unset, .unset] [])) _
    refine OGot.go (fun t k => XS.iloadN X0.here hx rfl (hb hby at_12) rfl k) ?_
    show OGot p.tables e below (s₁.setTop (mkF m 13 #[.val (.int p1), .val (.long q2), .second, .val (.int (1 : Int32)), .unset, .unset, .unset, .unset, .unset] [(.int (1 : Int32))])) _
    refine OGot.go (fun t k => XS.ifNo X0.here hx rfl (hb hby at_13) rfl (by decide) k) ?_
    show OGot p.tables e below (s₁.setTop (mkF m 16 #[.val (.int p1), .val (.long q2), .second, .val (.int (1 : Int32)), .unset, .unset, .unset, .unset, .unset] [])) _
    obtain ⟨T8, X8, e8, st8⟩ := getS2 X0 hx hZ hown (host := "") (Or.inl (ow hw 23 rfl)) Via.refl e0 (G.2.2.1.ext O0.2) (g := (mkF m 16 #[.val (.int p1), .val (.long q2), .second, .val (.int (1 : Int32)), .unset, .unset, .unset, .unset, .unset] [])) rfl (hb hby at_16)
    refine OGot.go st8 ?_
    show OGot p.tables e below (T8.setTop (mkF m 19 #[.val (.int p1), .val (.long q2), .second, .val (.int (1 : Int32)), .unset, .unset, .unset, .unset, .unset] [(.ref w_NONE)])) _
    refine OGot.go (fun t k => XS.goto X8.here hx rfl (pc0 := 19) (pc' := 25) rfl (hb hby at_19) (by decide) (by decide) k) ?_
    show OGot p.tables e below (T8.setTop (mkF m 25 #[.val (.int p1), .val (.long q2), .second, .val (.int (1 : Int32)), .unset, .unset, .unset, .unset, .unset] [(.ref w_NONE)])) _
    refine OGot.go (fun t k => XS.astore X8.here hx rfl (hb hby at_25) rfl rfl (l' := #[.val (.int p1), .val (.long q2), .second, .val (.int (1 : Int32)), .val (.ref w_NONE), .unset, .unset, .unset, .unset]) rfl k) ?_
    show OGot p.tables e below (T8.setTop (mkF m 27 #[.val (.int p1), .val (.long q2), .second, .val (.int (1 : Int32)), .val (.ref w_NONE), .unset, .unset, .unset, .unset] [])) _
    refine OGot.go (fun t k => XS.lloadN X8.here hx rfl (hb hby at_27) rfl k) ?_
    show OGot p.tables e below (T8.setTop (mkF m 28 #[.val (.int p1), .val (.long q2), .second, .val (.int (1 : Int32)), .val (.ref w_NONE), .unset, .unset, .unset, .unset] [(.long q2)])) _
    refine OGot.go (fun t k => X8.ldc2Long hx hown (mvT hZ (ow hw 3 rfl)) (g := (mkF m 28 #[.val (.int p1), .val (.long q2), .second, .val (.int (1 : Int32)), .val (.ref w_NONE), .unset, .unset, .unset, .unset] [(.long q2)])) rfl (hb hby at_28) _ k) ?_
    show OGot p.tables e below (T8.setTop (mkF m 31 #[.val (.int p1), .val (.long q2), .second, .val (.int (1 : Int32)), .val (.ref w_NONE), .unset, .unset, .unset, .unset] [(.long (4611686018427387903 : Int64)), (.long q2)])) _
    refine OGot.go (fun t k => XS.land X8.here hx rfl (hb hby at_31) rfl k) ?_
    show OGot p.tables e below (T8.setTop (mkF m 32 #[.val (.int p1), .val (.long q2), .second, .val (.int (1 : Int32)), .val (.ref w_NONE), .unset, .unset, .unset, .unset] [(.long (q2 &&& (4611686018427387903 : Int64)))])) _
    refine OGot.go (fun t k => XS.lstore X8.here hx rfl (hb hby at_32) rfl (l' := #[.val (.int p1), .val (.long q2), .second, .val (.int (1 : Int32)), .val (.ref w_NONE), .val (.long (q2 &&& (4611686018427387903 : Int64))), .second, .unset, .unset]) rfl k) ?_
    show OGot p.tables e below (T8.setTop (mkF m 34 #[.val (.int p1), .val (.long q2), .second, .val (.int (1 : Int32)), .val (.ref w_NONE), .val (.long (q2 &&& (4611686018427387903 : Int64))), .second, .unset, .unset] [])) _
    refine OGot.go (fun t k => XS.aload X8.here hx rfl (hb hby at_34) rfl rfl k) ?_
    show OGot p.tables e below (T8.setTop (mkF m 36 #[.val (.int p1), .val (.long q2), .second, .val (.int (1 : Int32)), .val (.ref w_NONE), .val (.long (q2 &&& (4611686018427387903 : Int64))), .second, .unset, .unset] [(.ref w_NONE)])) _
    refine OGot.go (fun t k => XS.lload X8.here hx rfl (hb hby at_36) rfl k) ?_
    show OGot p.tables e below (T8.setTop (mkF m 38 #[.val (.int p1), .val (.long q2), .second, .val (.int (1 : Int32)), .val (.ref w_NONE), .val (.long (q2 &&& (4611686018427387903 : Int64))), .second, .unset, .unset] [(.long (q2 &&& (4611686018427387903 : Int64))), (.ref w_NONE)])) _
    obtain ⟨cq9, kq9, q9a, q9b, q9c⟩ := isOf hZ e8 (G.2.2.2.1.ext O0.2)
    obtain ⟨_, _, ⟨T9, L9, k9, n9⟩, -, X9, ⟨Lc9, hQ9, l9, y9, z9⟩, st9⟩ := X8.virtualBack hx (y := (⟨"com/example/restrained_scaler/restrainedscaler/decision/ScaleUpLimit", "mostFrom", "(J)J"⟩ : MethodName)) (z := (⟨"com/example/restrained_scaler/restrainedscaler/decision/ScaleUpLimit", "mostFrom", "(J)J"⟩ : MethodName)) hown (mvT hZ (ow hw 4 rfl)) (mvT hZ (ow hw 5 rfl)) (notFace_of_selects (args := #[]) (mvT hZ (ow hw 7 rfl))) (mvT hZ (ow hw 7 rfl)) (mvT hZ (ow hw 6 rfl)) (by decide) (backOf (W := 0) (rm1_1 l Z a0 hw [] G (q2 &&& (4611686018427387903 : Int64)) h0 n0 O0 ) hZ (ow hw 8 rfl) (ow hw 1 rfl) (by decide) (by decide)) q9a q9c (g := (mkF m 38 #[.val (.int p1), .val (.long q2), .second, .val (.int (1 : Int32)), .val (.ref w_NONE), .val (.long (q2 &&& (4611686018427387903 : Int64))), .second, .unset, .unset] [(.long (q2 &&& (4611686018427387903 : Int64))), (.ref w_NONE)])) rfl (by rw [hml]; rfl) (Steps.refl _) (argsL := [(.long (q2 &&& (4611686018427387903 : Int64)))]) (rest := []) (lenOf pd_1 rfl) rfl (by show 2 * 0 + _ ≤ _; exact Nat.le_of_eq rfl) (hb hby at_38) (fun _ _ => ⟨rfl, e8, (by decide : 0 + 0 ≤ _), (by decide : 0 + 0 ≤ _)⟩)
    dsimp only [Pt.U, Pt.locs, Pt.cells, Pt.slots] at X9 l9 y9 z9 st9 hQ9
    subst l9 y9 z9
    obtain ⟨rfl, N9q, e9⟩ := hQ9
    have N9 := Fr.app N0 N9q
    refine OGot.on st9 ?_
    show OGot p.tables e below (T9.setTop (mkF m 41 #[.val (.int p1), .val (.long q2), .second, .val (.int (1 : Int32)), .val (.ref w_NONE), .val (.long (q2 &&& (4611686018427387903 : Int64))), .second, .unset, .unset] [(.long (9223372036854775807 : Int64))])) _
    refine OGot.go (fun t k => XS.lstore X9.here hx rfl (hb hby at_41) rfl (l' := #[.val (.int p1), .val (.long q2), .second, .val (.int (1 : Int32)), .val (.ref w_NONE), .val (.long (q2 &&& (4611686018427387903 : Int64))), .second, .val (.long (9223372036854775807 : Int64)), .second]) rfl k) ?_
    show OGot p.tables e below (T9.setTop (mkF m 43 #[.val (.int p1), .val (.long q2), .second, .val (.int (1 : Int32)), .val (.ref w_NONE), .val (.long (q2 &&& (4611686018427387903 : Int64))), .second, .val (.long (9223372036854775807 : Int64)), .second] [])) _
    refine OGot.go (fun t k => XS.lload X9.here hx rfl (hb hby at_43) rfl k) ?_
    show OGot p.tables e below (T9.setTop (mkF m 45 #[.val (.int p1), .val (.long q2), .second, .val (.int (1 : Int32)), .val (.ref w_NONE), .val (.long (q2 &&& (4611686018427387903 : Int64))), .second, .val (.long (9223372036854775807 : Int64)), .second] [(.long (9223372036854775807 : Int64))])) _
    refine OGot.go (fun t k => XS.iloadN X9.here hx rfl (hb hby at_45) rfl k) ?_
    show OGot p.tables e below (T9.setTop (mkF m 46 #[.val (.int p1), .val (.long q2), .second, .val (.int (1 : Int32)), .val (.ref w_NONE), .val (.long (q2 &&& (4611686018427387903 : Int64))), .second, .val (.long (9223372036854775807 : Int64)), .second] [(.int (1 : Int32)), (.long (9223372036854775807 : Int64))])) _
    refine OGot.go (fun t k => XS.lload X9.here hx rfl (hb hby at_46) rfl k) ?_
    show OGot p.tables e below (T9.setTop (mkF m 48 #[.val (.int p1), .val (.long q2), .second, .val (.int (1 : Int32)), .val (.ref w_NONE), .val (.long (q2 &&& (4611686018427387903 : Int64))), .second, .val (.long (9223372036854775807 : Int64)), .second] [(.long (q2 &&& (4611686018427387903 : Int64))), (.int (1 : Int32)), (.long (9223372036854775807 : Int64))])) _
    obtain ⟨_, _, ⟨T10, L10, k10, n10⟩, -, X10, ⟨Lc10, hQ10, l10, y10, z10⟩, st10⟩ := Jvm.LawKit.callS X9 hx (y := (⟨"com/example/restrained_scaler/restrainedscaler/decision/ScaleUpLimitMostFromPinLaw", "expected", "(ZJ)J"⟩ : MethodName)) hown (mvT hZ (ow hw 17 rfl)) (mvT hZ (ow hw 18 rfl)) (mvT hZ (ow hw 19 rfl)) (mvT hZ (ow hw 20 rfl)) (by decide) (backOf (W := 2) (rm3_1 l Z a0 hw [] G (q2 &&& (4611686018427387903 : Int64)) h0 n0 O0 ) hZ (ow hw 20 rfl) (ow hw 19 rfl) (by decide) (by decide)) (g := (mkF m 48 #[.val (.int p1), .val (.long q2), .second, .val (.int (1 : Int32)), .val (.ref w_NONE), .val (.long (q2 &&& (4611686018427387903 : Int64))), .second, .val (.long (9223372036854775807 : Int64)), .second] [(.long (q2 &&& (4611686018427387903 : Int64))), (.int (1 : Int32)), (.long (9223372036854775807 : Int64))])) rfl (by rw [hml]; rfl) (argsL := [(.int (1 : Int32)), (.long (q2 &&& (4611686018427387903 : Int64)))]) (rest := [(.long (9223372036854775807 : Int64))]) (lenOf pd_2 rfl) rfl (by show 2 * 0 + _ ≤ _; exact Nat.le_of_eq rfl) (hb hby at_48) (fun _ _ => ⟨rfl, e9, (by decide : 0 + 0 ≤ _), (by decide : 0 + 0 ≤ _)⟩)
    dsimp only [Pt.U, Pt.locs, Pt.cells, Pt.slots] at X10 l10 y10 z10 st10 hQ10
    subst l10 y10 z10
    obtain ⟨rfl, N10q, e10⟩ := hQ10
    have N10 := Fr.app N9 N10q
    refine OGot.go st10 ?_
    show OGot p.tables e below (T10.setTop (mkF m 51 #[.val (.int p1), .val (.long q2), .second, .val (.int (1 : Int32)), .val (.ref w_NONE), .val (.long (q2 &&& (4611686018427387903 : Int64))), .second, .val (.long (9223372036854775807 : Int64)), .second] [(.long (9223372036854775807 : Int64)), (.long (9223372036854775807 : Int64))])) _
    refine OGot.go (fun t k => XS.lcmp X10.here hx rfl (hb hby at_51) rfl k) ?_
    show OGot p.tables e below (T10.setTop (mkF m 52 #[.val (.int p1), .val (.long q2), .second, .val (.int (1 : Int32)), .val (.ref w_NONE), .val (.long (q2 &&& (4611686018427387903 : Int64))), .second, .val (.long (9223372036854775807 : Int64)), .second] [(.int (lcmpW (9223372036854775807 : Int64) (9223372036854775807 : Int64)))])) _
    refine OGot.go (fun t k => XS.ifNo X10.here hx rfl (hb hby at_52) rfl ((if0 _ _).trans (teq ((lw_eq (9223372036854775807 : Int64) (9223372036854775807 : Int64)).mpr (by decide))).2) k) ?_
    show OGot p.tables e below (T10.setTop (mkF m 55 #[.val (.int p1), .val (.long q2), .second, .val (.int (1 : Int32)), .val (.ref w_NONE), .val (.long (q2 &&& (4611686018427387903 : Int64))), .second, .val (.long (9223372036854775807 : Int64)), .second] [])) _
    refine OGot.go (fun t k => XS.iconst X10.here hx rfl (hb hby at_55) k) ?_
    show OGot p.tables e below (T10.setTop (mkF m 56 #[.val (.int p1), .val (.long q2), .second, .val (.int (1 : Int32)), .val (.ref w_NONE), .val (.long (q2 &&& (4611686018427387903 : Int64))), .second, .val (.long (9223372036854775807 : Int64)), .second] [(.int (1 : Int32))])) _
    refine OGot.go (fun t k => XS.goto X10.here hx rfl (pc0 := 56) (pc' := 60) rfl (hb hby at_56) (by decide) (by decide) k) ?_
    show OGot p.tables e below (T10.setTop (mkF m 60 #[.val (.int p1), .val (.long q2), .second, .val (.int (1 : Int32)), .val (.ref w_NONE), .val (.long (q2 &&& (4611686018427387903 : Int64))), .second, .val (.long (9223372036854775807 : Int64)), .second] [(.int (1 : Int32))])) _
    obtain ⟨fs, hr, hrun, hended, hW, hsame⟩ := X10.leave (v := some (.int (1 : Int32))) (fun h => by rw [Bd.returns] at h; cases h)
    refine ⟨_, _, retN X10 hx (t := .boolean) Bd.returns (by simp) (hb hby at_60) hr, hrun, hended, _, _, rfl, ?_, ⟨_, rfl⟩, hW, hsame.mono (by decide) (by decide)⟩
    exact (⟨rfl, N10⟩ : Q0 Z w_STEP w_NONE p1 q2 h0 n0 _ T10.heap _)
set_option maxRecDepth 65536 in
set_option maxHeartbeats 40000000 in
theorem comes_1 {Post : Tables → Env → Array Value → State → Outcome → State → Prop} (hpost : ∀ tb e args s v u, (limb_1_1.after args s (.returned v) u = true ∧ limb_1_2.after args s (.returned v) u = true ∧ True) → FrameEnd s (.returned v) u (Jvm.fieldLocs frame_1_writes args s ++ Jvm.arrayLocs frame_1_arrays args s ++ Jvm.staticLocs frame_1_statics s) 0 0 → Post tb e args s (.returned v) u) :
    ArmFor flags0 classFile x code maxLocals ret World_1 tables_1 room_1 Calls_1 rest_1 Pre_1 Post := by
  intro l hfl _ _ p e ha hc hk s m args below hf hA hF happ hP
  obtain ⟨hcalls, hrest, hpre⟩ := hP
  obtain ⟨-, -, -, hnamed, -, -, -, hat⟩ := (Spec.applies_iff hf).mp happ
  obtain ⟨hg, hn⟩ := and_e (Cond.before_iff.mp (show (Jvm.Cond.and given_1 narrow_1).before args s = true from hpre))
  obtain ⟨g0, g0r⟩ := and_e hg
  obtain ⟨g1, g1r⟩ := and_e g0r
  obtain ⟨w0, w1, rfl⟩ : ∃ w0 w1 : Value, args = #[w0, w1] := by
    have hs : args.size = 2 := by simpa [Cond.value, given_1] using g0
    obtain ⟨L⟩ := args
    match L, hs with
    | [w0, w1], _ => exact ⟨w0, w1, rfl⟩
  have hw := fun d (hd : d ∈ tables_1) => atoms_spec (ws := Jvm.Cond.code x code maxLocals ret :: tables_1) hat d (List.mem_cons_of_mem _ hd)
  obtain ⟨i0, ei0⟩ := is_v g1
  obtain rfl : w0 = (.int i0) := Option.some.inj ei0
  obtain ⟨i1, ei1⟩ := isL_v g1r
  obtain rfl : w1 = (.long i1) := Option.some.inj ei1
  obtain ⟨m0, m0r⟩ := and_e hn
  obtain ⟨m1, m1r⟩ := and_e m0r
  obtain ⟨m2, m2r⟩ := and_e m1r
  obtain ⟨w_STEP, ev_w_STEP⟩ := exa_v m0
  obtain ⟨w_NONE, ev_w_NONE⟩ := exa_v m1
  have G : Glob s w_STEP w_NONE := ⟨(Sta.start ev_w_STEP (Or.inr ⟨(ow hw 1 rfl), (ow hw 2 rfl)⟩)), (Exa.start ev_w_STEP m0), (Sta.start ev_w_NONE (Or.inr ⟨(ow hw 1 rfl), (ow hw 10 rfl)⟩)), (Exa.start ev_w_NONE m1), (Fld.start ((fld_at ev_w_STEP).symm.trans (oeq_int m2))), (Fld.start ((fld_at ev_w_NONE).symm.trans (oeq_int m2r)))⟩
  obtain ⟨n, o, h1, h2, h3, _, L, rfl, ⟨rfl, N⟩, hq⟩ := rm0 l s _ hw tables_1 G i0 i1 s.heap s.heap.size (Old.start s) p e ha hc hk s m _ below hf ((Spec.applies_iff_loose hf).mp happ).1 ⟨rfl, State.Warmed39.refl s, rfl⟩ trivial
  refine ⟨n, _, h1, h2, h3, hpost _ _ _ _ _ _ ⟨Cond.after_iff.mpr rfl, Cond.after_iff.mpr (eq_i res_at (Term.int_eval (1)) rfl), trivial⟩ ⟨hq.1, hq.2.1, (hq.2.2.sift fun y hy => Or.inr (N y hy)).mono (by decide) (by decide)⟩⟩
theorem main_1_1 : Claimed_1_1 := comes_1 fun _ _ _ _ _ _ h hF => ⟨h.1, hF⟩
theorem main_1_2 : Claimed_1_2 := comes_1 fun _ _ _ _ _ _ h hF => ⟨h.2.1, hF⟩
end Jvm.Pilot.@@N@@
namespace Jvm.Pilot.@@N@@
open Jvm Jvm.ClassFile Sem Op Lib Jvm.Free Jvm.Stand Jvm.Pilot.@@N@@.Jvm.D
/-! MADE BY PROGRAM (witnessworld.py) out of the Statement's table words and the real class files: 13 classes; the members and pool entries that the words name. The judged class is class 1, her method 2. -/
namespace start1
open Jvm.ClassFile
def u (s : String) : CpInfo := .utf8 (stringToUtf16 s)
/-- a pool by its gaps: so many unusable entries, then the entry; so many at the end -/
def gap : Nat → List CpInfo → List CpInfo
  | 0, r => r
  | n + 1, r => .unusable :: gap n r
def poolList (es : List (Nat × CpInfo)) (last : Nat) : List CpInfo := es.foldr (fun e r => gap e.1 (e.2 :: r)) (gap last [])
def pool (es : List (Nat × CpInfo)) (last : Nat) : Array CpInfo := ⟨poolList es last⟩
def fileOf (pool : Array CpInfo) (this : Nat) (attrs : Array Attribute := #[]) (ms : Array MethodInfo := #[]) (fl : Nat := 33) (sup : Nat := 0) (ifs : Array Nat := #[]) (fds : Array FieldInfo := #[]) : ClassFile where
  minorVersion := 0
  majorVersion := 65
  constantPool := pool
  accessFlags := fl
  thisClass := this
  superClass := sup
  interfaces := ifs
  fields := fds
  methods := ms
  attributes := attrs
def plain (name : String) (sup : Option ClassId) : Class where
  name := name
  kind := .ordinary
  loader := none
  accessFlags := 33
  super := sup
  interfaces := #[]
  cf := none
  fields := #[]
  methods := #[]
  instanceTypes := #[]
  staticTypes := #[]
  resolved := #[]
  callSites := []
  init := .initialized
  statics := none
  mirror := none

def pool0 : Array CpInfo := pool [(5, u "<init>"), (0, u "()V"), (1, .class_ 10), (1, u "java/lang/Object")] 113

def k0m0 : Method := { name := "<init>", desc := "()V", sig := { parameters := [], returnType := none }, accessFlags := 1, code := none }
/-- java/lang/Object -/
def k0 : Class := { plain "java/lang/Object" none with
  accessFlags := 33
  interfaces := #[]
  cf := some (fileOf pool0 8 #[] #[{ accessFlags := 1, nameIndex := 5, descriptorIndex := 6, attributes := #[] }] 33 0 #[] #[])
  fields := #[]
  methods := #[k0m0]
  instanceTypes := #[]
  staticTypes := #[]
  resolved := Array.replicate 124 none
  statics := none }

def pool1 : Array CpInfo := pool [(2, .class_ 4), (1, u "java/lang/Object"), (0, u "<init>"), (0, u "()V"), (2, .long 9223372036854775807), (1, .long 2), (1, .long 4), (1, .fieldref 16 17), (0, .class_ 18), (0, .nameAndType 19 20), (0, u "com/example/restrained_scaler/restrainedscaler/decision/ScaleUpLimit"), (0, u "NONE"), (0, u "Lcom/example/restrained_scaler/restrainedscaler/decision/ScaleUpLimit;"), (0, .fieldref 16 22), (0, .nameAndType 23 20), (0, u "STEP"), (0, .long 4611686018427387903), (1, .methodref 16 27), (0, .nameAndType 28 29), (0, u "mostFrom"), (0, u "(J)J"), (0, .methodref 31 32), (0, .class_ 33), (0, .nameAndType 34 35), (0, u "com/example/restrained_scaler/restrainedscaler/decision/ScaleUpLimitMostFromPinLaw"), (0, u "expected"), (0, u "(ZJ)J"), (3, u "law"), (0, u "(IJ)Z")] 2

def k1m0 : Method := { name := "<init>", desc := "()V", sig := { parameters := [], returnType := none }, accessFlags := 1, code := none }
def k1c1 : Code := { maxStack := 4, maxLocals := 3, code := method_2_code, exceptionTable := #[], attributes := #[] }
def k1m1 : Method := { name := "expected", desc := "(ZJ)J", sig := { parameters := [.boolean, .long], returnType := some .long }, accessFlags := 10, code := some k1c1 }
def k1c2 : Code := { maxStack := 5, maxLocals := 9, code := code, exceptionTable := #[], attributes := #[] }
def k1m2 : Method := { name := "law", desc := "(IJ)Z", sig := { parameters := [.int, .long], returnType := some .boolean }, accessFlags := 9, code := some k1c2 }
/-- com/example/restrained_scaler/restrainedscaler/decision/ScaleUpLimitMostFromPinLaw -/
def k1 : Class := { plain "com/example/restrained_scaler/restrainedscaler/decision/ScaleUpLimitMostFromPinLaw" (some 0) with
  accessFlags := 49
  interfaces := #[]
  cf := some (fileOf pool1 31 #[] #[{ accessFlags := 1, nameIndex := 5, descriptorIndex := 6, attributes := #[] }, { accessFlags := 10, nameIndex := 34, descriptorIndex := 35, attributes := #[] }, { accessFlags := 9, nameIndex := 39, descriptorIndex := 40, attributes := #[] }] 49 2 #[] #[])
  fields := #[]
  methods := #[k1m0, k1m1, k1m2]
  instanceTypes := #[]
  staticTypes := #[]
  resolved := Array.replicate 43 none
  statics := none }

def pool2 : Array CpInfo := pool [(1, .class_ 2), (0, u "java/lang/constant/Constable"), (0, .class_ 4), (0, u "java/lang/Object")] 6

/-- java/lang/constant/Constable -/
def k2 : Class := { plain "java/lang/constant/Constable" (some 0) with
  accessFlags := 1537
  interfaces := #[]
  cf := some (fileOf pool2 1 #[] #[] 1537 3 #[] #[])
  fields := #[]
  methods := #[]
  instanceTypes := #[]
  staticTypes := #[]
  resolved := Array.replicate 11 none
  statics := none }

def pool3 : Array CpInfo := pool [(1, .class_ 2), (0, u "java/lang/Comparable"), (0, .class_ 4), (0, u "java/lang/Object")] 7

/-- java/lang/Comparable -/
def k3 : Class := { plain "java/lang/Comparable" (some 0) with
  accessFlags := 1537
  interfaces := #[]
  cf := some (fileOf pool3 1 #[] #[] 1537 3 #[] #[])
  fields := #[]
  methods := #[]
  instanceTypes := #[]
  staticTypes := #[]
  resolved := Array.replicate 12 none
  statics := none }

def pool4 : Array CpInfo := pool [(1, .class_ 2), (0, u "java/io/Serializable"), (0, .class_ 4), (0, u "java/lang/Object")] 2

/-- java/io/Serializable -/
def k4 : Class := { plain "java/io/Serializable" (some 0) with
  accessFlags := 1537
  interfaces := #[]
  cf := some (fileOf pool4 1 #[] #[] 1537 3 #[] #[])
  fields := #[]
  methods := #[]
  instanceTypes := #[]
  staticTypes := #[]
  resolved := Array.replicate 7 none
  statics := none }

def pool5 : Array CpInfo := pool [(2, .class_ 4), (1, u "java/lang/Enum"), (0, u "name"), (0, u "Ljava/lang/String;"), (2, u "ordinal"), (0, u "I"), (1, .class_ 14), (1, u "java/lang/Object"), (4, u "hash"), (86, .class_ 108), (1, u "java/lang/Enum$EnumDesc"), (2, .class_ 112), (0, u "java/lang/constant/Constable"), (0, .class_ 114), (0, u "java/lang/Comparable"), (0, .class_ 116), (0, u "java/io/Serializable")] 87

/-- java/lang/Enum -/
def k5 : Class := { plain "java/lang/Enum" (some 0) with
  accessFlags := 1057
  interfaces := #[2, 3, 4]
  cf := some (fileOf pool5 2 #[.nestMembers #[106]] #[] 1057 12 #[111, 113, 115] #[{ accessFlags := 18, nameIndex := 5, descriptorIndex := 6, attributes := #[] }, { accessFlags := 18, nameIndex := 9, descriptorIndex := 10, attributes := #[] }, { accessFlags := 2, nameIndex := 19, descriptorIndex := 10, attributes := #[] }])
  fields := #[{ name := "name", type := (.object "java/lang/String"), accessFlags := 18, slot := 0, constantValue := 0 }, { name := "ordinal", type := .int, accessFlags := 18, slot := 1, constantValue := 0 }, { name := "hash", type := .int, accessFlags := 2, slot := 2, constantValue := 0 }]
  methods := #[]
  instanceTypes := #[(.object "java/lang/String"), .int, .int]
  staticTypes := #[]
  resolved := Array.replicate 204 none
  statics := none }

def pool6 : Array CpInfo := pool [(1, .class_ 2), (0, u "com/example/restrained_scaler/restrainedscaler/decision/ScaleUpLimit"), (2, u "STEP"), (0, u "Lcom/example/restrained_scaler/restrainedscaler/decision/ScaleUpLimit;"), (0, .fieldref 1 8), (0, .nameAndType 9 6), (0, u "NONE"), (2, u "$VALUES"), (0, u "[Lcom/example/restrained_scaler/restrainedscaler/decision/ScaleUpLimit;"), (6, .class_ 22), (1, u "java/lang/Enum"), (8, .long 9223372036854775807), (1, .long 4), (1, .long 2), (1, .methodref 38 39), (0, .class_ 40), (0, .nameAndType 41 42), (0, u "java/lang/Math"), (0, u "max"), (0, u "(JJ)J"), (7, u "SMALLEST_STEP"), (0, u "J"), (8, u "mostFrom"), (0, u "(J)J")] 5

def k6c0 : Code := { maxStack := 6, maxLocals := 3, code := prog_23_method_4_code, exceptionTable := #[], attributes := #[] }
def k6m0 : Method := { name := "mostFrom", desc := "(J)J", sig := { parameters := [.long], returnType := some .long }, accessFlags := 0, code := some k6c0 }
/-- com/example/restrained_scaler/restrainedscaler/decision/ScaleUpLimit -/
def k6 : Class := { plain "com/example/restrained_scaler/restrainedscaler/decision/ScaleUpLimit" (some 5) with
  accessFlags := 16433
  interfaces := #[]
  cf := some (fileOf pool6 1 #[] #[{ accessFlags := 0, nameIndex := 60, descriptorIndex := 61, attributes := #[] }] 16433 20 #[] #[{ accessFlags := 16409, nameIndex := 5, descriptorIndex := 6, attributes := #[] }, { accessFlags := 16409, nameIndex := 9, descriptorIndex := 6, attributes := #[] }, { accessFlags := 26, nameIndex := 50, descriptorIndex := 51, attributes := #[] }, { accessFlags := 4122, nameIndex := 12, descriptorIndex := 13, attributes := #[] }])
  fields := #[{ name := "STEP", type := (.object "com/example/restrained_scaler/restrainedscaler/decision/ScaleUpLimit"), accessFlags := 16409, slot := 0, constantValue := 0 }, { name := "NONE", type := (.object "com/example/restrained_scaler/restrainedscaler/decision/ScaleUpLimit"), accessFlags := 16409, slot := 1, constantValue := 0 }, { name := "SMALLEST_STEP", type := .long, accessFlags := 26, slot := 2, constantValue := 0 }, { name := "$VALUES", type := (.array (.object "com/example/restrained_scaler/restrainedscaler/decision/ScaleUpLimit")), accessFlags := 4122, slot := 3, constantValue := 0 }]
  methods := #[k6m0]
  instanceTypes := #[(.object "java/lang/String"), .int, .int]
  staticTypes := #[(.object "com/example/restrained_scaler/restrainedscaler/decision/ScaleUpLimit"), (.object "com/example/restrained_scaler/restrainedscaler/decision/ScaleUpLimit"), .long, (.array (.object "com/example/restrained_scaler/restrainedscaler/decision/ScaleUpLimit"))]
  resolved := Array.replicate 67 none
  statics := some 0 }

def pool7 : Array CpInfo := pool [(1, .class_ 2), (0, u "java/lang/Math"), (1, .class_ 6), (1, u "java/lang/Object"), (0, u "<init>"), (0, u "()V"), (89, .class_ 100), (1, u "java/lang/Math$RandomNumberGeneratorHolder"), (20, u "(JJ)J"), (50, u "negativeZeroFloatBits"), (0, u "J"), (2, u "negativeZeroDoubleBits"), (21, u "max"), (46, u "$assertionsDisabled"), (0, u "Z"), (91, u "twoToTheDoubleScaleDown"), (0, u "D"), (4, u "twoToTheDoubleScaleUp"), (9, u "E"), (3, u "PI"), (2, u "TAU"), (2, u "DEGREES_TO_RADIANS"), (0, u "RADIANS_TO_DEGREES")] 94

def k7m0 : Method := { name := "<init>", desc := "()V", sig := { parameters := [], returnType := none }, accessFlags := 2, code := none }
def k7c1 : Code := { maxStack := 4, maxLocals := 4, code := jdk_29_method_66_code, exceptionTable := #[], attributes := #[] }
def k7m1 : Method := { name := "max", desc := "(JJ)J", sig := { parameters := [.long, .long], returnType := some .long }, accessFlags := 9, code := some k7c1 }
/-- java/lang/Math -/
def k7 : Class := { plain "java/lang/Math" (some 0) with
  accessFlags := 49
  interfaces := #[]
  cf := some (fileOf pool7 1 #[.nestMembers #[98]] #[{ accessFlags := 2, nameIndex := 7, descriptorIndex := 8, attributes := #[] }, { accessFlags := 9, nameIndex := 198, descriptorIndex := 121, attributes := #[] }] 49 4 #[] #[{ accessFlags := 25, nameIndex := 354, descriptorIndex := 339, attributes := #[] }, { accessFlags := 25, nameIndex := 358, descriptorIndex := 339, attributes := #[] }, { accessFlags := 25, nameIndex := 361, descriptorIndex := 339, attributes := #[] }, { accessFlags := 26, nameIndex := 364, descriptorIndex := 339, attributes := #[] }, { accessFlags := 26, nameIndex := 365, descriptorIndex := 339, attributes := #[] }, { accessFlags := 26, nameIndex := 172, descriptorIndex := 173, attributes := #[] }, { accessFlags := 26, nameIndex := 176, descriptorIndex := 173, attributes := #[] }, { accessFlags := 8, nameIndex := 344, descriptorIndex := 339, attributes := #[] }, { accessFlags := 8, nameIndex := 338, descriptorIndex := 339, attributes := #[] }, { accessFlags := 4120, nameIndex := 245, descriptorIndex := 246, attributes := #[] }])
  fields := #[{ name := "E", type := .double, accessFlags := 25, slot := 0, constantValue := 0 }, { name := "PI", type := .double, accessFlags := 25, slot := 1, constantValue := 0 }, { name := "TAU", type := .double, accessFlags := 25, slot := 2, constantValue := 0 }, { name := "DEGREES_TO_RADIANS", type := .double, accessFlags := 26, slot := 3, constantValue := 0 }, { name := "RADIANS_TO_DEGREES", type := .double, accessFlags := 26, slot := 4, constantValue := 0 }, { name := "negativeZeroFloatBits", type := .long, accessFlags := 26, slot := 5, constantValue := 0 }, { name := "negativeZeroDoubleBits", type := .long, accessFlags := 26, slot := 6, constantValue := 0 }, { name := "twoToTheDoubleScaleUp", type := .double, accessFlags := 8, slot := 7, constantValue := 0 }, { name := "twoToTheDoubleScaleDown", type := .double, accessFlags := 8, slot := 8, constantValue := 0 }, { name := "$assertionsDisabled", type := .boolean, accessFlags := 4120, slot := 9, constantValue := 0 }]
  methods := #[k7m0, k7m1]
  instanceTypes := #[]
  staticTypes := #[.double, .double, .double, .double, .double, .long, .long, .double, .double, .boolean]
  resolved := Array.replicate 460 none
  statics := none }

def pool8 : Array CpInfo := pool [(1, u "java/lang/Cloneable"), (0, .class_ 1), (0, u "java/lang/Object"), (0, .class_ 3)] 3

/-- java/lang/Cloneable -/
def k8 : Class := { plain "java/lang/Cloneable" (some 0) with
  accessFlags := 1537
  interfaces := #[]
  cf := some (fileOf pool8 2 #[] #[] 1537 4 #[] #[])
  fields := #[]
  methods := #[]
  instanceTypes := #[]
  staticTypes := #[]
  resolved := Array.replicate 8 none
  statics := none }

/-- the primitive byte -/
def k9 : Class := { plain "byte" none with kind := .primitive 'B', accessFlags := 0x411 }
/-- [B -/
def k10 : Class := { plain "[B" (some 0) with kind := .array 9 .byte, interfaces := #[8, 4], accessFlags := 1041 }

/-- the primitive int -/
def k11 : Class := { plain "int" none with kind := .primitive 'I', accessFlags := 0x411 }
/-- [I -/
def k12 : Class := { plain "[I" (some 0) with kind := .array 11 .int, interfaces := #[8, 4], accessFlags := 1041 }

def heap : Heap := #[{ cls := 6, slots := #[.ref 1, .ref 2, .long 0, .null], vm := .statics 6 },
  { cls := 6, slots := #[.null, .int 0, .int 0], vm := .none },
  { cls := 6, slots := #[.null, .int 1, .int 0], vm := .none }]
def classes : Array Class := #[k0, k1, k2, k3, k4, k5, k6, k7, k8, k9, k10, k11, k12]
def interned : List (Array UInt16 × Addr) := []
def slotsUsed : Nat := 10
def theMethod : MethodId := ⟨1, 2⟩
def args0 : Array Value := #[.int 5, .long 7]
def aboutOver (below : List Frame) : State where
  vm := { classes := classes, interned := interned.toArray }
  heap := heap
  slotsUsed := slotsUsed
  threads := #[{ frames := .invoking theMethod args0 :: below }]
def below0 : List Frame := [.native { method := ⟨0, 0⟩, args := #[] }]
def about1 : State := aboutOver below0
def p0 : Program := .bare "" "" ""
def e0 : Env := launch0.env 0 0 0
theorem w_frames : about1.frames = Frame.invoking theMethod args0 :: below0 := rfl
set_option maxRecDepth 65536 in
theorem w_args : argsFit about1.vm theMethod args0 = true := by decide +kernel
set_option maxRecDepth 65536 in
theorem w_heap : heapFits about1 = true := by decide +kernel
set_option maxRecDepth 65536 in
theorem w_runnable : about1.curStatus? = some .runnable := by decide +kernel
set_option maxRecDepth 65536 in
theorem w_alone : about1.alone = true := by decide +kernel
set_option maxRecDepth 65536 in
theorem w_named : about1.methodNamed? x = some theMethod := by decide +kernel
set_option maxRecDepth 65536 in
theorem w_hears : about1.hears theMethod below0 = true := by decide +kernel
set_option maxRecDepth 65536 in
theorem w_ripe : about1.ripe theMethod args0 below0 = true := by decide +kernel
theorem w_running : about1.status = .running := rfl
set_option maxRecDepth 65536 in
theorem w_room : about1.hasRoom e0.platform room_1 = true :=
  launch0.hasRoom_least _ room_1 (by decide +kernel) (by decide +kernel) (by decide +kernel) (by decide +kernel) (by decide +kernel) (by decide +kernel)
theorem allAtoms_all (ts : List Jvm.Cond) (a : Array Jvm.Value) (st : Jvm.State) : (allAtoms ts).before a st = ts.all (fun c => c.before a st) := by
  induction ts with
  | nil => rfl
  | cons c t ih =>
    show (Jvm.Cond.and c (allAtoms t)).before a st = _
    rw [Jvm.Cond.before_and, ih, List.all_cons]
def words1 : List Jvm.Cond := Jvm.Cond.code x code maxLocals ret :: tables_1
/-- a 'code' word, met by the world's own term for the bytes: nothing is compared byte by byte -/
theorem code_word {y : MethodName} {bytes : ByteArray} {mx : Nat} {rt : Option FieldType} {a : Array Value} {s : State} {m : MethodId} {meth : Method} {c : Code} (h1 : s.methodNamed? y = some m) (h2 : s.vm.method? m = some meth) (h3 : meth.code = some c) (h4 : c.code = bytes)
    (h5 : (c.maxLocals == mx && c.exceptionTable.isEmpty && decide (c.maxStack ≤ mostOperands) && decide (meth.sig.returnType = rt) && !meth.locks && decide (parseMethodDescriptor y.desc = some meth.sig)) = true) : (Jvm.Cond.code y bytes mx rt).before a s = true := by
  simp only [Bool.and_eq_true, beq_iff_eq, Bool.not_eq_true', decide_eq_true_eq] at h5
  obtain ⟨⟨⟨⟨⟨g1, g2⟩, g3⟩, g4⟩, g5⟩, g6⟩ := h5
  simp [Cond.before, Cond.holds, Cond.value, h1, h2, h3, h4, g1, g2, g3, g4, g5, g6]
def isCode : Jvm.Cond → Bool
  | .code _ _ _ _ => true
  | _ => false
theorem all_split {L : List Jvm.Cond} {P : Jvm.Cond → Bool} (h1 : L.all (fun c => isCode c || P c) = true) (h2 : ∀ c ∈ L.filter isCode, P c = true) : L.all P = true := by
  refine List.all_eq_true.mpr fun c hc => ?_
  have h := List.all_eq_true.mp h1 c hc
  rcases Bool.eq_false_or_eq_true (isCode c) with hi | hi
  · exact h2 c (List.mem_filter.mpr ⟨hc, hi⟩)
  · simpa [hi] using h
set_option maxRecDepth 65536 in
theorem w_c0 : (Jvm.Cond.code x code maxLocals ret).before args0 about1 = true := code_word (m := ⟨1, 2⟩) (meth := k1m2) (c := k1c2) (by decide +kernel) rfl rfl rfl (by decide +kernel)
set_option maxRecDepth 65536 in
theorem w_c1 : (Jvm.Cond.code ({ cls := "com/example/restrained_scaler/restrainedscaler/decision/ScaleUpLimit", name := "mostFrom", desc := "(J)J" } : Jvm.MethodName) prog_23_method_4_code (3 : Nat) (Option.some Jvm.ClassFile.FieldType.long)).before args0 about1 = true := code_word (m := ⟨6, 0⟩) (meth := k6m0) (c := k6c0) (by decide +kernel) rfl rfl rfl (by decide +kernel)
set_option maxRecDepth 65536 in
theorem w_c2 : (Jvm.Cond.code ({ cls := "java/lang/Math", name := "max", desc := "(JJ)J" } : Jvm.MethodName) jdk_29_method_66_code (4 : Nat) (Option.some Jvm.ClassFile.FieldType.long)).before args0 about1 = true := code_word (m := ⟨7, 1⟩) (meth := k7m1) (c := k7c1) (by decide +kernel) rfl rfl rfl (by decide +kernel)
set_option maxRecDepth 65536 in
theorem w_c3 : (Jvm.Cond.code ({ cls := "com/example/restrained_scaler/restrainedscaler/decision/ScaleUpLimitMostFromPinLaw", name := "expected", desc := "(ZJ)J" } : Jvm.MethodName) method_2_code (3 : Nat) (Option.some Jvm.ClassFile.FieldType.long)).before args0 about1 = true := code_word (m := ⟨1, 1⟩) (meth := k1m1) (c := k1c1) (by decide +kernel) rfl rfl rfl (by decide +kernel)
def codes1 : List Jvm.Cond := [Jvm.Cond.code x code maxLocals ret, Jvm.Cond.code ({ cls := "com/example/restrained_scaler/restrainedscaler/decision/ScaleUpLimit", name := "mostFrom", desc := "(J)J" } : Jvm.MethodName) prog_23_method_4_code (3 : Nat) (Option.some Jvm.ClassFile.FieldType.long), Jvm.Cond.code ({ cls := "java/lang/Math", name := "max", desc := "(JJ)J" } : Jvm.MethodName) jdk_29_method_66_code (4 : Nat) (Option.some Jvm.ClassFile.FieldType.long), Jvm.Cond.code ({ cls := "com/example/restrained_scaler/restrainedscaler/decision/ScaleUpLimitMostFromPinLaw", name := "expected", desc := "(ZJ)J" } : Jvm.MethodName) method_2_code (3 : Nat) (Option.some Jvm.ClassFile.FieldType.long)]
set_option maxRecDepth 65536 in
theorem codes_eq : words1.filter isCode = codes1 := rfl
theorem w_codes : ∀ c ∈ words1.filter isCode, c.before args0 about1 = true := by
  rw [codes_eq]
  intro c hc
  simp only [codes1, List.mem_cons, List.not_mem_nil, or_false] at hc
  rcases hc with rfl | rfl | rfl | rfl
  · exact w_c0
  · exact w_c1
  · exact w_c2
  · exact w_c3
set_option maxRecDepth 65536 in
theorem w_t1 : (words1.take 24).all (fun c => isCode c || c.before args0 about1) = true := by decide +kernel
set_option maxRecDepth 65536 in
theorem w_t2 : (words1.drop 24).all (fun c => isCode c || c.before args0 about1) = true := by decide +kernel
theorem w_tables : (allAtoms (Jvm.Cond.code x code maxLocals ret :: tables_1)).before args0 about1 = true := by
  rw [allAtoms_all]
  show words1.all (fun c => c.before args0 about1) = true
  refine all_split ?_ w_codes
  rw [← List.take_append_drop 24 words1, List.all_append, w_t1, w_t2]
  rfl
set_option maxRecDepth 65536 in
theorem w_case : (Jvm.Cond.and given_1 narrow_1).before args0 about1 = true := by decide +kernel
theorem w_applies : (headSpec (Jvm.Cond.code x code maxLocals ret :: tables_1) room_1).applies x e0.platform about1 = true :=
  (Spec.applies_iff w_frames).mpr ⟨w_running, w_runnable, w_alone, w_named, w_hears, w_ripe, w_room, w_tables⟩
theorem atStart : AtStart classFile x code maxLocals ret World_1 tables_1 room_1 Calls_1 rest_1 Pre_1 launch0 p0 e0 about1 theMethod args0 below0 :=
  ⟨lists_1, trivial, launch0.admits_env _ _ _, launch0.least_env, fairChoices_fair.cas, fairChoices_fair.clock, w_frames, w_args, w_heap, w_applies, trivial, trivial, w_case⟩
end start1
theorem witness_1 : WitnessClaimed_1 := ⟨start1.p0, start1.e0, start1.about1, start1.theMethod, start1.args0, start1.below0, start1.atStart⟩
end Jvm.Pilot.@@N@@
