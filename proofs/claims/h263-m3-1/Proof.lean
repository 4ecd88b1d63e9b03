import JvmDerived
import JvmDerived.Pilot.@@N@@Statement
import JvmDerived.Pilot.@@N@@Code
set_option linter.unusedVariables false
set_option linter.unusedSimpArgs false
namespace Jvm.Pilot.@@N@@
open Jvm Jvm.ClassFile Sem Op Lib Jvm.Free Jvm.Stand Jvm.LawKit Jvm.RoadKit Bundle Jvm.Pilot.@@N@@.Jvm.D
section OwnKit
variable {p : Program} {l : Launch} {e : Env} {R : Room} {s : State} {m : MethodId} {args : Array Value} {below : List Frame} {meth : Method} {c : Code} {T : State} {locs : List Loc} {cells slots : Nat}
theorem retI (X : Stand p l e R s m args below meth c T locs cells slots) (hx : p.tables.exec = Jvm.exec) {pc : Nat} {Ls : Array Slot} {z : Int32} {rest : List Value} (hret : meth.sig.returnType = some .int) (hd : decode c.code pc = .ok (.ireturn, 1)) {fs : List Frame}
    (hl : ∀ (f : JFrame) (acts : List Action), f.method = m → f.locked = none → f.entered = [] → (doReturn e (T.setTop f) acts (some (.int z))).1 = T.setFrames fs) : Steps p.tables e below (T.setTop (mkF m pc Ls (.int z :: rest))) (T.setFrames fs) :=
  retOut X hx hret rfl (Or.inl ⟨rfl, Or.inl rfl, z, rfl⟩) hd hl
theorem oretJ (X : Stand p l e R s m args below meth c T locs cells slots) (hx : p.tables.exec = Jvm.exec) {pc : Nat} {Ls : Array Slot} {z : Int64} {rest : List Value} (hret : meth.sig.returnType = some .long) (hd : decode c.code pc = .ok (.lreturn, 1)) {fs : List Frame}
    (hl : ∀ (f : JFrame) (acts : List Action), f.method = m → f.locked = none → f.entered = [] → (doReturn e (T.setTop f) acts (some (.long z))).1 = T.setFrames fs) : Steps p.tables e below (T.setTop (mkF m pc Ls (.long z :: rest))) (T.setFrames fs) :=
  retOut X hx hret rfl (Or.inr (Or.inl ⟨rfl, rfl, z, rfl⟩)) hd hl
theorem oretA (X : Stand p l e R s m args below meth c T locs cells slots) (hx : p.tables.exec = Jvm.exec) {pc : Nat} {Ls : Array Slot} {w : Value} {t : FieldType} {rest : List Value} (hret : meth.sig.returnType = some t) (ht : t.isReference = true) (hw : w.isRef = true) (hd : decode c.code pc = .ok (.areturn, 1)) {fs : List Frame}
    (hl : ∀ (f : JFrame) (acts : List Action), f.method = m → f.locked = none → f.entered = [] → (doReturn e (T.setTop f) acts (some w)).1 = T.setFrames fs) : Steps p.tables e below (T.setTop (mkF m pc Ls (w :: rest))) (T.setFrames fs) :=
  retOut X hx hret (by rcases ref_cases hw with rfl | ⟨a, rfl⟩ <;> cases t <;> rfl) (Or.inr (Or.inr (Or.inr (Or.inr ⟨rfl, ht, hw⟩)))) hd hl
end OwnKit
/-- the run that stands at A comes to an end of which P holds -/
def OGot (tb : Tables) (e : Env) (below : List Frame) (A : State) (P : State → Outcome → Prop) : Prop := ∃ U o, Steps tb e below A U ∧ P U o
theorem OGot.go {tb : Tables} {e : Env} {below : List Frame} {A B : State} {P : State → Outcome → Prop} (st : ∀ t, Steps tb e below B t → Steps tb e below A t) (h : OGot tb e below B P) : OGot tb e below A P := by
  obtain ⟨U, o, h1, h2⟩ := h
  exact ⟨U, o, st U h1, h2⟩
theorem OGot.on {tb : Tables} {e : Env} {below : List Frame} {A B : State} {P : State → Outcome → Prop} (st : Steps tb e below A B) (h : OGot tb e below B P) : OGot tb e below A P := by
  obtain ⟨U, o, h1, h2⟩ := h
  exact ⟨U, o, st.trans h1, h2⟩
section OwnFacts
variable {Z : State} {h h' h0 : Heap} {a b : Addr} {C n d : String} {v : Value} {sl : Nat} {n0 : Nat} {ws ws' : List (Addr × Nat)} {k : ClassId} {ty : FieldType} {z : Int32} {vs : List Value} {dv : Value}
theorem osz (X : Old Z n0 h) : n0 ≤ h.size := X.1 ▸ X.2.1
theorem oheap {U : State} {P : Heap → Prop} (q : U.heap = h) (x : P h) : P U.heap := q ▸ x
/-- what stood in h0 stands in h, but for the places at ws -/
def OKeep (h0 h : Heap) (ws : List (Addr × Nat)) : Prop := h0.size ≤ h.size ∧ ∀ (x : Addr) (c : Cell), h0[x]? = some c → ∃ c' : Cell, h[x]? = some c' ∧ c'.cls = c.cls ∧ c'.vm = c.vm ∧ c'.slots.size = c.slots.size ∧ (∀ i, (x, i) ∉ ws → c'.slots[i]? = c.slots[i]?) ∧ ((∀ i, (x, i) ∉ ws) → c' = c)
theorem OKeep.refl (h : Heap) (ws : List (Addr × Nat)) : OKeep h h ws := ⟨Nat.le_refl _, fun _ c q => ⟨c, q, rfl, rfl, rfl, fun _ _ => rfl, fun _ => rfl⟩⟩
theorem OKeep.ext (K : OKeep h0 h ws) (E : Ext h h') : OKeep h0 h' ws := ⟨Nat.le_trans K.1 E.1, fun x c q => by
  obtain ⟨c', q', r⟩ := K.2 x c q
  exact ⟨c', E.2 x c' q', r⟩⟩
theorem OKeep.trans (K : OKeep h0 h ws) (K' : OKeep h h' ws') (q : ∀ x ∈ ws', x ∈ ws ∨ h0.size ≤ x.1) : OKeep h0 h' ws := by
  refine ⟨Nat.le_trans K.1 K'.1, fun x c hx => ?_⟩
  have lt : x < h0.size := (Array.getElem?_eq_some_iff.mp hx).1
  have out : ∀ i, (x, i) ∉ ws → (x, i) ∉ ws' := fun i r z => (q _ z).elim r fun y => Nat.not_lt.mpr y lt
  obtain ⟨c1, q1, r1, r2, r3, r4, r5⟩ := K.2 x c hx
  obtain ⟨c2, q2, t1, t2, t3, t4, t5⟩ := K'.2 x c1 q1
  exact ⟨c2, q2, t1.trans r1, t2.trans r2, t3.trans r3, fun i r => (t4 i (out i r)).trans (r4 i r), fun r => (t5 fun i => out i (r i)).trans (r5 r)⟩
theorem OKeep.of_wr (W : Wr h h' a sl v) : OKeep h h' [(a, sl)] := by
  refine ⟨Nat.le_of_eq W.size.symm, fun x c q => ?_⟩
  obtain ⟨c', e1, e2, e3, e4, e5, e6, -⟩ := wr_at W q
  refine ⟨c', e1, e2, e3, e4, fun i r => ?_, fun r => e5 fun z => r sl (by simp [z])⟩
  by_cases z : x = a
  · subst z
    exact e6 i fun y => r (by simp [y])
  · rw [e5 z]
theorem OKeep.wr (K : OKeep h0 h ws) (W : Wr h h' a sl v) (q : (a, sl) ∈ ws ∨ h0.size ≤ a) : OKeep h0 h' ws := K.trans (OKeep.of_wr W) fun x hx => by cases List.mem_singleton.mp hx; exact q
theorem oslot {x : ClassId × Class × Nat × Field} (h2 : Z.fieldFound? C n d = some x) : Jvm.RoadKit.slotOf Z C n d = x.2.2.2.slot := by
  show ((Z.fieldFound? C n d).map (·.2.2.2.slot)).getD 0 = _
  rw [h2]; rfl
theorem OKeep.fld (F : Fld Z h a C n d v) (K : OKeep h h' ws) (q : (a, Jvm.RoadKit.slotOf Z C n d) ∉ ws) : Fld Z h' a C n d v := by
  obtain ⟨cell, cf, k, i, f, h1, h2, h3, h4, h5, h6, h7⟩ := F
  obtain ⟨c', r, r1, r2, -, r4, -⟩ := K.2 a cell h1
  exact ⟨c', cf, k, i, f, r, h2, h3, by rw [r2]; exact h4, by rw [r2]; exact h5, by rw [r1]; exact h6, by rw [r4 f.slot (fun y => q (by rw [oslot h2]; exact y))]; exact h7⟩
theorem OKeep.exa (F : Exa Z h a C) (K : OKeep h h' ws) : Exa Z h' a C := by
  obtain ⟨cell, k, h1, h2, h3, h4, h5⟩ := F
  obtain ⟨c', q, r1, r2, r3, -, -⟩ := K.2 a cell h1
  exact ⟨c', k, q, r1 ▸ h2, r1 ▸ h3, r2 ▸ h4, r3 ▸ h5⟩
theorem OKeep.arv (F : Arv Z h a k ty z vs dv) (K : OKeep h h' ws) (q : ∀ x ∈ ws, a ≠ x.1) : Arv Z h' a k ty z vs dv := by
  obtain ⟨c, A, r⟩ := F
  obtain ⟨c', e1, -, -, -, -, e5⟩ := K.2 a c A.1
  cases e5 fun i y => q _ y rfl
  exact ⟨c, ⟨e1, A.2⟩, r⟩
theorem OKeep.old (X : Old Z n0 h) (K : OKeep h h' ws) (q : ∀ x ∈ ws, n0 ≤ x.1) : Old Z n0 h' := ⟨X.1, Nat.le_trans X.2.1 K.1, fun x c r => by
  obtain ⟨c', e1, -, -, -, -, e5⟩ := K.2 x c (X.2.2 x c r)
  cases e5 fun i y => absurd (X.1 ▸ (Array.getElem?_eq_some_iff.mp r).1) (Nat.not_lt.mpr (q _ y))
  exact e1⟩
theorem onin0 {x : Addr × Nat} : x ∉ ([] : List (Addr × Nat)) := fun q => nomatch q
theorem oninA {t : Nat} {L : List (Addr × Nat)} (q : a ≠ b) (r : (a, sl) ∉ L) : (a, sl) ∉ (b, t) :: L := fun y => (List.mem_cons.mp y).elim (fun u => q (congrArg Prod.fst u)) r
theorem oninS {t : Nat} {L : List (Addr × Nat)} (q : sl ≠ t) (r : (a, sl) ∉ L) : (a, sl) ∉ (b, t) :: L := fun y => (List.mem_cons.mp y).elim (fun u => q (congrArg Prod.snd u)) r
theorem oall0 : ∀ x ∈ ([] : List (Addr × Nat)), a ≠ x.1 := fun _ q => nomatch q
theorem oallS {t : Nat} {L : List (Addr × Nat)} (q : a ≠ b) (r : ∀ x ∈ L, a ≠ x.1) : ∀ x ∈ (b, t) :: L, a ≠ x.1 := fun x y => (List.mem_cons.mp y).elim (fun u => by subst u; exact q) (r x)
theorem oge0 : ∀ x ∈ ([] : List (Addr × Nat)), n0 ≤ x.1 := fun _ q => nomatch q
theorem ogeS {t : Nat} {L : List (Addr × Nat)} (q : n0 ≤ b) (r : ∀ x ∈ L, n0 ≤ x.1) : ∀ x ∈ (b, t) :: L, n0 ≤ x.1 := fun x y => (List.mem_cons.mp y).elim (fun u => by subst u; exact q) (r x)
theorem oin0 {P : Addr × Nat → Prop} : ∀ x ∈ ([] : List (Addr × Nat)), P x := fun _ q => nomatch q
theorem oinS {P : Addr × Nat → Prop} {y : Addr × Nat} {L : List (Addr × Nat)} (q : P y) (r : ∀ x ∈ L, P x) : ∀ x ∈ y :: L, P x := fun x u => (List.mem_cons.mp u).elim (fun w => w ▸ q) (r x)
theorem oeq_int {args : Array Value} {first s : State} {o : Option Outcome} {idx : List Nat} {t : Term} {w : Int32} (q : (Jvm.Cond.eq t (.int w)).value args first o s idx = some true) : t.eval args first o idx s = some (.int w) := by
  simp only [Jvm.Cond.value, Term.eval] at q
  cases ht : t.eval args first o idx s with
  | none => simp [ht] at q
  | some x => cases x <;> simp [ht] at q ⊢; exact q
theorem oeq_ref {args : Array Value} {first s : State} {o : Option Outcome} {idx : List Nat} {t u : Term} {w : Addr} (q : (Jvm.Cond.eq t u).value args first o s idx = some true) (r : u.eval args first o idx s = some (.ref w)) : t.eval args first o idx s = some (.ref w) := by
  obtain ⟨x, y, e1, e2, k1, k2⟩ := cmp_v (Or.inl q)
  cases r.symm.trans e2
  rcases ref_cases k2.2 with rfl | ⟨z, rfl⟩
  · have := eq_R e1 e2 rfl rfl
    rw [q] at this
    simp at this
  · have := gotT (eq_R e1 e2 rfl rfl) q
    rw [e1, this]
theorem one_int {args : Array Value} {first s : State} {o : Option Outcome} {idx : List Nat} {t : Term} {w : Int32} (r : t.eval args first o idx s = some (.int w)) (q : (Jvm.Cond.not (.eq t (.int 0))).value args first o s idx = some true) : ¬ (w = (0 : Int32)) := by
  have := not_v q
  exact gotF (Cond.eq_ints r rfl) this
theorem olen {args : Array Value} {first s : State} {o : Option Outcome} {idx : List Nat} {t : Term} {cl : Cell} {w : Int32} (q : (Term.length t).eval args first o idx s = some (.int w)) (ht : t.eval args first o idx s = some (.ref a)) (ha : s.arrayAt? a = some cl) : cl.slots.size < 2 ^ 31 ∧ cl.slots.size.toInt32 = w := by
  simp only [Term.eval, ht, ha, Option.bind_eq_bind, Option.bind_some] at q
  by_cases y : cl.slots.size < 2 ^ 31
  · exact ⟨y, by simpa [y] using q⟩
  · simp [y] at q
theorem osub128 {args : Array Value} {j : Int32} (hj : ¬ j < 0) : (Term.sub (.index 0) (.int 128)).eval args Z none [j.toNatClampNeg] Z = some (.int (j - 128)) := by
  have e := idx_at (args := args) (first := Z) (s := Z) (o := none) hj
  simp only [Term.eval] at e ⊢
  simp [e]
  exact (back32 hj).1
def obox (c : Cell) (j : Int32) : Addr := match c.slots[j.toNatClampNeg]? with
  | some (.ref b) => b
  | _ => 0
theorem obox_at {cl : Cell} {K dd : String} {w : Int32} {val : Int32 → Value} (B : Bxs Z a cl K dd w val) {j : Int32} (hj : ¬ (j < 0 ∨ cl.slots.size ≤ j.toNatClampNeg)) : cl.slots[j.toNatClampNeg]? = some (.ref (obox cl j)) ∧ Exa Z Z.heap (obox cl j) K ∧ Fld Z Z.heap (obox cl j) K "value" dd (val j) := by
  obtain ⟨b, h1, h2, h3⟩ := B.2.2.2 j hj
  have e : obox cl j = b := by unfold obox; rw [h1]
  rw [e]; exact ⟨h1, h2, h3⟩
theorem oNS.root {a0 : Array Value} {O K : String} {i : Nat} (w : (Cond.noSuperclass O).before a0 Z = true) (wk : (Cond.instantiable K i).before a0 Z = true) (hn : O ≠ K) : NS Z O K := by
  obtain ⟨c, k, h1, h2, h3, -, -⟩ := Cond.noSuperclass_spec w
  obtain ⟨t, kt, g1, -⟩ := Cond.instantiable_spec wk
  have ne := ids_ne h1 g1 hn
  refine ⟨c, t, h1, g1, fun fuel => ?_⟩
  cases fuel with
  | zero => rfl
  | succ f => simp [Vm.isSubclassAux, ne, h2, h3]
theorem oNS.no {a0 : Array Value} {C S K : String} {i : Nat} (w : (Cond.superclass C S).before a0 Z = true) (wk : (Cond.instantiable K i).before a0 Z = true) (q : NS Z C K) (hn : C ≠ K) : ∃ c t, Z.vm.findClass C = some c ∧ Z.vm.findClass K = some t ∧ Z.vm.assignable c t = false := by
  obtain ⟨c, t, h0, g0, n3⟩ := q
  obtain ⟨p, k, kp, h1, h2, h3, h4, h5, -, h7⟩ := Cond.superclass_spec h0 w
  obtain ⟨t', k', g1, g2, g3, g4, -⟩ := Cond.instantiable_spec wk
  cases g0.symm.trans g1
  have ne := ids_ne h0 g0 hn
  have g7 : k'.isInterface = false := (Bool.or_eq_false_iff.mp g4).1
  refine ⟨c, t, h0, g0, ?_⟩
  show Z.vm.assignableAux (255 + 1) c t = false
  simp [Vm.assignableAux, ne, h2, g2, h5, g3, g7, Vm.isSubclass, n3]
theorem osel {s : State} {a0 aa : Array Value} {y : MethodName} {i : Nat} (hZ : Z.Warmed39 s.vm) (wi : (Cond.instantiable y.cls i).before a0 Z = true) (wm : (Cond.instanceMethod y).before a0 Z = true) (wp : (Cond.privateMethod y).before a0 Z = true) (hy : y.cls ≠ "java/lang/invoke/MethodHandle" ∧ y.cls ≠ "java/lang/invoke/VarHandle") : (Cond.selects y.cls y y).before aa s = true := by
  have w2 : (Cond.instantiable y.cls i).before aa s = true := mvT hZ wi
  obtain ⟨c, k, h1, h2, h3, h4, -⟩ := Cond.instantiable_spec w2
  exact Jvm.Stand.selects_self_of_private h1 h2 (Bool.or_eq_false_iff.mp h4).1 (Cond.privateMethod_at (mvP hZ wp (args := #[]))) (mvT hZ wm) hy
end OwnFacts
theorem ow {Z : State} {a0 : Array Value} (hw : ∀ d ∈ tables_1, d.before a0 Z = true) (i : Nat) {d : Jvm.Cond} (h : tables_1[i]? = some d) : d.before a0 Z = true := hw _ (List.mem_of_getElem? h)
theorem own_rem3 (x : Int32) : ((x &&& (2147483647 : Int32)) % (3 : Int32)) = (0 : Int32) ∨ ((x &&& (2147483647 : Int32)) % (3 : Int32)) = (1 : Int32) ∨ ((x &&& (2147483647 : Int32)) % (3 : Int32)) = (2 : Int32) := by
  have e1 : (x &&& (2147483647 : Int32)).toInt = x.toInt % ((2 ^ 31 : Nat) : Int) := c_mask x 2147483647 31 (by decide) (by decide)
  have p : ((2 ^ 31 : Nat) : Int) = 2147483648 := rfl
  rw [p] at e1
  have e : ((x &&& (2147483647 : Int32)) % (3 : Int32)).toInt = (x &&& (2147483647 : Int32)).toInt % 3 := (c_irem (x &&& (2147483647 : Int32)) (3 : Int32) 3 (by decide)).1 (by omega)
  simp only [← Int32.toInt_inj, e]
  have : (0 : Int32).toInt = 0 ∧ (1 : Int32).toInt = 1 ∧ (2 : Int32).toInt = 2 := by decide
  omega
theorem own_enc (x : Int32) : ¬ ((255 : Int32) < ((x &&& (255 : Int32)).toUInt32.toUInt16.toUInt32.toInt32)) := by
  have h1 := c_mask x 255 8 (by decide) (by decide)
  have p : ((2 ^ 8 : Nat) : Int) = 256 := rfl
  rw [p] at h1
  have h2 := c_i2c (x &&& (255 : Int32))
  have : (255 : Int32).toInt = 255 := rfl
  rw [Int32.lt_iff_toInt_lt]
  omega
def Glob (Z : State) (w_INTEGER : Addr) (w_TEXT : Addr) (w_DATE : Addr) (w_DECIMAL : Addr) (i_COMPACT_STRINGS : Int32) : Prop := Sta Z Z.heap "com/example/archipel/archipel/model/DataType" "INTEGER" "Lcom/example/archipel/archipel/model/DataType;" (.ref w_INTEGER) ∧ Exa Z Z.heap w_INTEGER "com/example/archipel/archipel/model/DataType" ∧ Sta Z Z.heap "com/example/archipel/archipel/model/DataType" "TEXT" "Lcom/example/archipel/archipel/model/DataType;" (.ref w_TEXT) ∧ Exa Z Z.heap w_TEXT "com/example/archipel/archipel/model/DataType" ∧ Sta Z Z.heap "com/example/archipel/archipel/model/DataType" "DATE" "Lcom/example/archipel/archipel/model/DataType;" (.ref w_DATE) ∧ Exa Z Z.heap w_DATE "com/example/archipel/archipel/model/DataType" ∧ Sta Z Z.heap "com/example/archipel/archipel/model/DataType" "DECIMAL" "Lcom/example/archipel/archipel/model/DataType;" (.ref w_DECIMAL) ∧ Exa Z Z.heap w_DECIMAL "com/example/archipel/archipel/model/DataType" ∧ Fld Z Z.heap w_INTEGER "java/lang/Enum" "ordinal" "I" (.int (1 : Int32)) ∧ Fld Z Z.heap w_TEXT "java/lang/Enum" "ordinal" "I" (.int (0 : Int32)) ∧ Fld Z Z.heap w_DATE "java/lang/Enum" "ordinal" "I" (.int (3 : Int32)) ∧ Fld Z Z.heap w_DECIMAL "java/lang/Enum" "ordinal" "I" (.int (2 : Int32)) ∧ Sta Z Z.heap "java/lang/String" "COMPACT_STRINGS" "Z" (.int i_COMPACT_STRINGS) ∧ ¬ (i_COMPACT_STRINGS = (0 : Int32))
theorem d1_0 : decode jdk_42_method_139_code 0 = .ok (.getstatic 38, 3) := by decide +kernel
theorem d1_3 : decode jdk_42_method_139_code 3 = .ok (.ifCond .eq 23, 3) := by decide +kernel
theorem d1_6 : decode jdk_42_method_139_code 6 = .ok (.iload_n 0, 1) := by decide +kernel
theorem d1_7 : decode jdk_42_method_139_code 7 = .ok (.invokestatic 1015, 3) := by decide +kernel
theorem d2_0 : decode jdk_43_method_3_code 0 = .ok (.iload_n 0, 1) := by decide +kernel
theorem d2_1 : decode jdk_43_method_3_code 1 = .ok (.sipush 255, 3) := by decide +kernel
theorem d2_4 : decode jdk_43_method_3_code 4 = .ok (.if_icmp .gt 7, 3) := by decide +kernel
theorem d2_7 : decode jdk_43_method_3_code 7 = .ok (.iconst 1, 1) := by decide +kernel
theorem d2_8 : decode jdk_43_method_3_code 8 = .ok (.goto 4, 3) := by decide +kernel
theorem d2_12 : decode jdk_43_method_3_code 12 = .ok (.ireturn, 1) := by decide +kernel
theorem pn_java_lang_StringLatin1 : plainName "java/lang/StringLatin1" = true := by first | (simp [plainName, overriddenIn]; done) | decide +kernel
def Q2 (Z : State) (w_INTEGER : Addr) (w_TEXT : Addr) (w_DATE : Addr) (w_DECIMAL : Addr) (i_COMPACT_STRINGS : Int32) (p1 : Int32) (h0 : Heap) (n0 : Nat) (v : Option Value) (h : Heap) (L : List Loc) : Prop := v = some (.int (1 : Int32)) ∧ Fr n0 L ∧ h = h0
theorem ef2 (m : MethodId) (x0 : Int32) : entryFrame m #[(.int x0)] 1 = mkF m 0 #[.val (.int x0)] [] := by first | (simp [entryFrame, mkF, argsToLocals, Value.category]; done) | rfl
set_option maxRecDepth 65536 in
set_option maxHeartbeats 40000000 in
theorem rm2 (l : Launch) (Z : State) (a0 : Array Value) (hw : ∀ d ∈ tables_1, d.before a0 Z = true) (ws : List Jvm.Cond) {w_INTEGER : Addr} {w_TEXT : Addr} {w_DATE : Addr} {w_DECIMAL : Addr} {i_COMPACT_STRINGS : Int32} (G : Glob Z w_INTEGER w_TEXT w_DATE w_DECIMAL i_COMPACT_STRINGS) (p1 : Int32) (h0 : Heap) (n0 : Nat) (O0 : Old Z n0 h0) (hc_1 : ¬ ((255 : Int32) < p1)) :
    MetFree l (⟨"java/lang/StringLatin1", "canEncode", "(C)Z"⟩ : MethodName) (head1 (Jvm.Cond.code (⟨"java/lang/StringLatin1", "canEncode", "(C)Z"⟩ : MethodName) jdk_43_method_3_code 1 (some .boolean) :: ws) ({ frames := 0, cells := 0, slots := 0, locals := 0 } : Room)) (fun a U => a = #[(.int p1)] ∧ Z.Warmed39 U.vm ∧ U.heap = h0) (fun _ _ _ _ _ => True) (fun _ U o U' => ∃ v L, o = .returned v ∧ Q2 Z w_INTEGER w_TEXT w_DATE w_DECIMAL i_COMPACT_STRINGS p1 h0 n0 v U'.heap L ∧ FrameEnd U o U' L ({ frames := 0, cells := 0, slots := 0, locals := 0 } : Room).cells ({ frames := 0, cells := 0, slots := 0, locals := 0 } : Room).slots) := by
  refine MetFree.of_bodySF (plainFor_of_name pn_java_lang_StringLatin1) hisR ?_
  intro p e s m args below meth c s₁ Bd hml0 hP hK
  obtain ⟨rfl, hZ, hh⟩ := hP
  have hx := Bd.exec
  have hby := Bd.bytes
  have hml : c.maxLocals = 1 := hml0
  have hown : s.vm.findClass "java/lang/StringLatin1" = some m.cls := findClass_of_methodNamed Bd.named
  have hnm := (name_of_methodNamed Bd.named Bd.method).1
  have X0 : Stand p l e ({ frames := 0, cells := 0, slots := 0, locals := 0 } : Room) s m #[(.int p1)] below meth c s₁ [] 0 0 := Stand.of_body Bd
  have e0 : s₁.heap = h0 := by rw [← hh, Bd.state]; rfl
  have N0 := Fr.nil n0
  show OGot p.tables e below (s₁.setTop (entryFrame m #[(.int p1)] 1)) _
  refine OGot.go (fun t k => castTop (ef2 m p1) k) ?_
  show OGot p.tables e below (s₁.setTop (mkF m 0 #[.val (.int p1)] [])) _
  refine OGot.go (fun t k => XS.iloadN X0.here hx rfl (hb hby d2_0) rfl k) ?_
  show OGot p.tables e below (s₁.setTop (mkF m 1 #[.val (.int p1)] [(.int p1)])) _
  refine OGot.go (fun t k => XS.sipush X0.here hx rfl (hb hby d2_1) k) ?_
  show OGot p.tables e below (s₁.setTop (mkF m 4 #[.val (.int p1)] [(.int (255 : Int32)), (.int p1)])) _
  refine OGot.go (fun t k => XS.icmpNo X0.here hx rfl (hb hby d2_4) rfl (flt hc_1).2.2.1 k) ?_
  show OGot p.tables e below (s₁.setTop (mkF m 7 #[.val (.int p1)] [])) _
  refine OGot.go (fun t k => XS.iconst X0.here hx rfl (hb hby d2_7) k) ?_
  show OGot p.tables e below (s₁.setTop (mkF m 8 #[.val (.int p1)] [(.int (1 : Int32))])) _
  refine OGot.go (fun t k => XS.goto X0.here hx rfl (pc0 := 8) (pc' := 12) rfl (hb hby d2_8) (by decide) (by decide) k) ?_
  show OGot p.tables e below (s₁.setTop (mkF m 12 #[.val (.int p1)] [(.int (1 : Int32))])) _
  obtain ⟨fs, hr, hrun, hended, hW, hsame⟩ := X0.leave (v := some (.int (1 : Int32))) (fun h => by rw [Bd.returns] at h; cases h)
  refine ⟨_, _, retN X0 hx (t := .boolean) Bd.returns (by simp) (hb hby d2_12) hr, hrun, hended, _, _, rfl, ?_, ⟨_, rfl⟩, hW, hsame.mono (by decide) (by decide)⟩
  exact (⟨rfl, N0, e0⟩ : Q2 Z w_INTEGER w_TEXT w_DATE w_DECIMAL i_COMPACT_STRINGS p1 h0 n0 _ s₁.heap _)
theorem pd_0 : parseMethodDescriptor "(C)Z" = some ⟨[.char], some .boolean⟩ := by decide +kernel
theorem d1_10 : decode jdk_42_method_139_code 10 = .ok (.ifCond .eq 16, 3) := by decide +kernel
theorem d1_13 : decode jdk_42_method_139_code 13 = .ok (.new 10, 3) := by decide +kernel
theorem d1_16 : decode jdk_42_method_139_code 16 = .ok (.dup, 1) := by decide +kernel
theorem d1_17 : decode jdk_42_method_139_code 17 = .ok (.iload_n 0, 1) := by decide +kernel
theorem d1_18 : decode jdk_42_method_139_code 18 = .ok (.invokestatic 1018, 3) := by decide +kernel
theorem d3_0 : decode jdk_43_method_46_code 0 = .ok (.iconst 1, 1) := by decide +kernel
theorem d3_1 : decode jdk_43_method_46_code 1 = .ok (.newarray .byte, 2) := by decide +kernel
theorem d3_3 : decode jdk_43_method_46_code 3 = .ok (.dup, 1) := by decide +kernel
theorem d3_4 : decode jdk_43_method_46_code 4 = .ok (.iconst 0, 1) := by decide +kernel
theorem d3_5 : decode jdk_43_method_46_code 5 = .ok (.iload_n 0, 1) := by decide +kernel
theorem d3_6 : decode jdk_43_method_46_code 6 = .ok (.i2b, 1) := by decide +kernel
theorem d3_7 : decode jdk_43_method_46_code 7 = .ok (.bastore, 1) := by decide +kernel
theorem d3_8 : decode jdk_43_method_46_code 8 = .ok (.areturn, 1) := by decide +kernel
def Q3 (Z : State) (w_INTEGER : Addr) (w_TEXT : Addr) (w_DATE : Addr) (w_DECIMAL : Addr) (i_COMPACT_STRINGS : Int32) (p1 : Int32) (h0 : Heap) (n0 : Nat) (v : Option Value) (h : Heap) (L : List Loc) : Prop := Fr n0 L ∧ ∃ b2 : Addr, ∃ k2 : ClassId, v = some (.ref b2) ∧ h0.size ≤ b2 ∧ OKeep h0 h [] ∧ Arv Z h b2 k2 .byte (1 : Int32) [(.int (nar .byte (p1.toInt8.toInt32)))] (.int (0 : Int32))
theorem ef3 (m : MethodId) (x0 : Int32) : entryFrame m #[(.int x0)] 1 = mkF m 0 #[.val (.int x0)] [] := by first | (simp [entryFrame, mkF, argsToLocals, Value.category]; done) | rfl
set_option maxRecDepth 65536 in
set_option maxHeartbeats 40000000 in
theorem rm3 (l : Launch) (Z : State) (a0 : Array Value) (hw : ∀ d ∈ tables_1, d.before a0 Z = true) (ws : List Jvm.Cond) {w_INTEGER : Addr} {w_TEXT : Addr} {w_DATE : Addr} {w_DECIMAL : Addr} {i_COMPACT_STRINGS : Int32} (G : Glob Z w_INTEGER w_TEXT w_DATE w_DECIMAL i_COMPACT_STRINGS) (p1 : Int32) (h0 : Heap) (n0 : Nat) (O0 : Old Z n0 h0) :
    MetFree l (⟨"java/lang/StringLatin1", "toBytes", "(C)[B"⟩ : MethodName) (head1 (Jvm.Cond.code (⟨"java/lang/StringLatin1", "toBytes", "(C)[B"⟩ : MethodName) jdk_43_method_46_code 1 (some (.array .byte)) :: ws) ({ frames := 0, cells := 1, slots := 1, locals := 0 } : Room)) (fun a U => a = #[(.int p1)] ∧ Z.Warmed39 U.vm ∧ U.heap = h0) (fun _ _ _ _ _ => True) (fun _ U o U' => ∃ v L, o = .returned v ∧ Q3 Z w_INTEGER w_TEXT w_DATE w_DECIMAL i_COMPACT_STRINGS p1 h0 n0 v U'.heap L ∧ FrameEnd U o U' L ({ frames := 0, cells := 1, slots := 1, locals := 0 } : Room).cells ({ frames := 0, cells := 1, slots := 1, locals := 0 } : Room).slots) := by
  refine MetFree.of_bodySF (plainFor_of_name pn_java_lang_StringLatin1) hisR ?_
  intro p e s m args below meth c s₁ Bd hml0 hP hK
  obtain ⟨rfl, hZ, hh⟩ := hP
  have hx := Bd.exec
  have hby := Bd.bytes
  have hml : c.maxLocals = 1 := hml0
  have hown : s.vm.findClass "java/lang/StringLatin1" = some m.cls := findClass_of_methodNamed Bd.named
  have hnm := (name_of_methodNamed Bd.named Bd.method).1
  have X0 : Stand p l e ({ frames := 0, cells := 1, slots := 1, locals := 0 } : Room) s m #[(.int p1)] below meth c s₁ [] 0 0 := Stand.of_body Bd
  have e0 : s₁.heap = h0 := by rw [← hh, Bd.state]; rfl
  have N0 := Fr.nil n0
  show OGot p.tables e below (s₁.setTop (entryFrame m #[(.int p1)] 1)) _
  refine OGot.go (fun t k => castTop (ef3 m p1) k) ?_
  show OGot p.tables e below (s₁.setTop (mkF m 0 #[.val (.int p1)] [])) _
  refine OGot.go (fun t k => XS.iconst X0.here hx rfl (hb hby d3_0) k) ?_
  show OGot p.tables e below (s₁.setTop (mkF m 1 #[.val (.int p1)] [(.int (1 : Int32))])) _
  obtain ⟨T2, h2, k2, X2, e2, E2, A2, st2⟩ := newP X0 hx hZ (ow hw 15 rfl) e0 (g := (mkF m 1 #[.val (.int p1)] [(.int (1 : Int32))])) rfl (hb hby d3_1) rfl (by decide) (cap := 1) (by decide) (by decide) (by decide) (by decide)
  obtain ⟨b2, g2⟩ : ∃ z, z = h0.size := ⟨_, rfl⟩
  rw [← g2] at A2 st2
  refine OGot.go st2 ?_
  have g_b2 : n0 ≤ b2 := Nat.le_trans (osz O0) (Nat.le_of_eq g2.symm)
  have sy_b2 : h0.size ≤ b2 := Nat.le_of_eq g2.symm
  have sz_b2 : h0.size ≤ b2 := Nat.le_trans (OKeep.refl h0 []).1 sy_b2
  have K2 := (OKeep.refl h0 []).ext E2
  have O2 := O0.ext E2
  have Va2 : Arv Z h2 b2 k2 .byte (1 : Int32) [(.int (0 : Int32))] (.int (0 : Int32)) := (Arv.new A2 (by decide)).pad (pad_rep [] (.int (0 : Int32)) 1)
  show OGot p.tables e below (T2.setTop (mkF m 3 #[.val (.int p1)] [(.ref b2)])) _
  refine OGot.go (fun t k => XS.dup X2.here hx rfl (hb hby d3_3) rfl rfl k) ?_
  show OGot p.tables e below (T2.setTop (mkF m 4 #[.val (.int p1)] [(.ref b2), (.ref b2)])) _
  refine OGot.go (fun t k => XS.iconst X2.here hx rfl (hb hby d3_4) k) ?_
  show OGot p.tables e below (T2.setTop (mkF m 5 #[.val (.int p1)] [(.int (0 : Int32)), (.ref b2), (.ref b2)])) _
  refine OGot.go (fun t k => XS.iloadN X2.here hx rfl (hb hby d3_5) rfl k) ?_
  show OGot p.tables e below (T2.setTop (mkF m 6 #[.val (.int p1)] [(.int p1), (.int (0 : Int32)), (.ref b2), (.ref b2)])) _
  refine OGot.go (fun t k => XS.i2b X2.here hx rfl (hb hby d3_6) rfl k) ?_
  show OGot p.tables e below (T2.setTop (mkF m 7 #[.val (.int p1)] [(.int (p1.toInt8.toInt32)), (.int (0 : Int32)), (.ref b2), (.ref b2)])) _
  obtain ⟨cl3, Ar3, qc3, Sz3, Ng3, Hh3, Gg3⟩ := id (Va2)
  have hin3 : ¬ ((0 : Int32) < 0 ∨ cl3.slots.size ≤ ((0 : Int32)).toNatClampNeg) := inb_of Sz3 ⟨by decide, by decide⟩
  obtain ⟨T3, h3, X3, e3, W3, st3⟩ := stB X2 hx hZ e2 Ar3 (j := (0 : Int32)) hin3 (g := (mkF m 7 #[.val (.int p1)] [(.int (p1.toInt8.toInt32)), (.int (0 : Int32)), (.ref b2), (.ref b2)])) rfl rfl (hb hby d3_7)
  refine OGot.go st3 ?_
  have N3 := Fr.snoc X3 N0 g_b2
  have O3 := O2.wr W3 g_b2
  have K3 := K2.wr W3 (Or.inr sz_b2)
  have Va3 : Arv Z h3 b2 k2 .byte (1 : Int32) [(.int (nar .byte (p1.toInt8.toInt32)))] (.int (0 : Int32)) := Arv.set Ar3 qc3 Sz3 Ng3 Hh3 Gg3 (fits_nar_byte (p1.toInt8.toInt32)) W3 0 rfl (Nat.le_of_ble_eq_true rfl)
  show OGot p.tables e below (T3.setTop (mkF m 8 #[.val (.int p1)] [(.ref b2)])) _
  obtain ⟨fs, hr, hrun, hended, hW, hsame⟩ := X3.leave (v := some (.ref b2)) (fun h => by rw [Bd.returns] at h; cases h)
  refine ⟨_, _, oretA X3 hx Bd.returns rfl rfl (hb hby d3_8) hr, hrun, hended, _, _, rfl, ?_, ⟨_, rfl⟩, hW, hsame.mono (by decide) (by decide)⟩
  show Q3 Z w_INTEGER w_TEXT w_DATE w_DECIMAL i_COMPACT_STRINGS p1 h0 n0 _ T3.heap _
  rw [e3]
  exact ⟨N3, b2, k2, rfl, sz_b2, K3, Va3⟩
theorem pd_1 : parseMethodDescriptor "(C)[B" = some ⟨[.char], some (.array .byte)⟩ := by decide +kernel
theorem d1_21 : decode jdk_42_method_139_code 21 = .ok (.iconst 0, 1) := by decide +kernel
theorem d1_22 : decode jdk_42_method_139_code 22 = .ok (.invokespecial 209, 3) := by decide +kernel
theorem d4_0 : decode jdk_42_method_151_code 0 = .ok (.aload_n 0, 1) := by decide +kernel
theorem d4_1 : decode jdk_42_method_151_code 1 = .ok (.invokespecial 1, 3) := by decide +kernel
theorem d4_4 : decode jdk_42_method_151_code 4 = .ok (.aload_n 0, 1) := by decide +kernel
theorem d4_5 : decode jdk_42_method_151_code 5 = .ok (.aload_n 1, 1) := by decide +kernel
theorem d4_6 : decode jdk_42_method_151_code 6 = .ok (.putfield 9, 3) := by decide +kernel
theorem d4_9 : decode jdk_42_method_151_code 9 = .ok (.aload_n 0, 1) := by decide +kernel
theorem d4_10 : decode jdk_42_method_151_code 10 = .ok (.iload_n 2, 1) := by decide +kernel
theorem d4_11 : decode jdk_42_method_151_code 11 = .ok (.putfield 15, 3) := by decide +kernel
theorem d4_14 : decode jdk_42_method_151_code 14 = .ok (.return_, 1) := by decide +kernel
theorem pn_java_lang_String : plainName "java/lang/String" = true := by first | (simp [plainName, overriddenIn]; done) | decide +kernel
def Q4 (Z : State) (w_INTEGER : Addr) (w_TEXT : Addr) (w_DATE : Addr) (w_DECIMAL : Addr) (i_COMPACT_STRINGS : Int32) (a1 : Addr) (a2 : Addr) (h0 : Heap) (n0 : Nat) (v : Option Value) (h : Heap) (L : List Loc) : Prop := Fr n0 L ∧ v = none ∧ OKeep h0 h [(a1, Jvm.RoadKit.slotOf Z "java/lang/String" "value" "[B"), (a1, Jvm.RoadKit.slotOf Z "java/lang/String" "coder" "B")] ∧ Fld Z h a1 "java/lang/String" "value" "[B" (.ref a2) ∧ Fld Z h a1 "java/lang/String" "coder" "B" (.int (0 : Int32))
theorem ef4 (m : MethodId) (x0 : Addr) (x1 : Addr) : entryFrame m #[(.ref x0), (.ref x1), (.int (0 : Int32))] 3 = mkF m 0 #[.val (.ref x0), .val (.ref x1), .val (.int (0 : Int32))] [] := by first | (simp [entryFrame, mkF, argsToLocals, Value.category]; done) | rfl
set_option maxRecDepth 65536 in
set_option maxHeartbeats 40000000 in
theorem rm4 (l : Launch) (Z : State) (a0 : Array Value) (hw : ∀ d ∈ tables_1, d.before a0 Z = true) (ws : List Jvm.Cond) {w_INTEGER : Addr} {w_TEXT : Addr} {w_DATE : Addr} {w_DECIMAL : Addr} {i_COMPACT_STRINGS : Int32} (G : Glob Z w_INTEGER w_TEXT w_DATE w_DECIMAL i_COMPACT_STRINGS) (a1 : Addr) (a2 : Addr) (h0 : Heap) (n0 : Nat) (O0 : Old Z n0 h0) (E_a1 : Exa Z h0 a1 "java/lang/String") (F_value_a1 : Fld Z h0 a1 "java/lang/String" "value" "[B" .null) (g_a1 : n0 ≤ a1) (F_coder_a1 : Fld Z h0 a1 "java/lang/String" "coder" "B" (.int (0 : Int32))) :
    MetFree l (⟨"java/lang/String", "<init>", "([BB)V"⟩ : MethodName) (head1 (Jvm.Cond.code (⟨"java/lang/String", "<init>", "([BB)V"⟩ : MethodName) jdk_42_method_151_code 3 none :: ws) ({ frames := 1, cells := 0, slots := 0, locals := 12 } : Room)) (fun a U => a = #[(.ref a1), (.ref a2), (.int (0 : Int32))] ∧ Z.Warmed39 U.vm ∧ U.heap = h0) (fun _ _ _ _ _ => True) (fun _ U o U' => ∃ v L, o = .returned v ∧ Q4 Z w_INTEGER w_TEXT w_DATE w_DECIMAL i_COMPACT_STRINGS a1 a2 h0 n0 v U'.heap L ∧ FrameEnd U o U' L ({ frames := 1, cells := 0, slots := 0, locals := 12 } : Room).cells ({ frames := 1, cells := 0, slots := 0, locals := 12 } : Room).slots) := by
  refine MetFree.of_bodySF (plainFor_of_name pn_java_lang_String) hisR ?_
  intro p e s m args below meth c s₁ Bd hml0 hP hK
  obtain ⟨rfl, hZ, hh⟩ := hP
  have hx := Bd.exec
  have hby := Bd.bytes
  have hml : c.maxLocals = 3 := hml0
  have hown : s.vm.findClass "java/lang/String" = some m.cls := findClass_of_methodNamed Bd.named
  have hnm := (name_of_methodNamed Bd.named Bd.method).1
  have X0 : Stand p l e ({ frames := 1, cells := 0, slots := 0, locals := 12 } : Room) s m #[(.ref a1), (.ref a2), (.int (0 : Int32))] below meth c s₁ [] 0 0 := Stand.of_body Bd
  have e0 : s₁.heap = h0 := by rw [← hh, Bd.state]; rfl
  have N0 := Fr.nil n0
  show OGot p.tables e below (s₁.setTop (entryFrame m #[(.ref a1), (.ref a2), (.int (0 : Int32))] 3)) _
  refine OGot.go (fun t k => castTop (ef4 m a1 a2) k) ?_
  show OGot p.tables e below (s₁.setTop (mkF m 0 #[.val (.ref a1), .val (.ref a2), .val (.int (0 : Int32))] [])) _
  refine OGot.go (fun t k => XS.aloadN X0.here hx rfl (hb hby d4_0) rfl rfl k) ?_
  show OGot p.tables e below (s₁.setTop (mkF m 1 #[.val (.ref a1), .val (.ref a2), .val (.int (0 : Int32))] [(.ref a1)])) _
  obtain ⟨T3, X3, e3, st3⟩ := initO X0 hx hZ hown (ow hw 20 rfl) (ow hw 21 rfl) (ow hw 22 rfl) e0 (g := (mkF m 1 #[.val (.ref a1), .val (.ref a2), .val (.int (0 : Int32))] [(.ref a1)])) rfl (by rw [hml]; rfl) rfl (hb hby d4_1) (by decide) (W := 0) (by show 2 * 0 + _ ≤ _; exact Nat.le_of_eq rfl) (by decide)
  refine OGot.go st3 ?_
  show OGot p.tables e below (T3.setTop (mkF m 4 #[.val (.ref a1), .val (.ref a2), .val (.int (0 : Int32))] [])) _
  refine OGot.go (fun t k => XS.aloadN X3.here hx rfl (hb hby d4_4) rfl rfl k) ?_
  show OGot p.tables e below (T3.setTop (mkF m 5 #[.val (.ref a1), .val (.ref a2), .val (.int (0 : Int32))] [(.ref a1)])) _
  refine OGot.go (fun t k => XS.aloadN X3.here hx rfl (hb hby d4_5) rfl rfl k) ?_
  show OGot p.tables e below (T3.setTop (mkF m 6 #[.val (.ref a1), .val (.ref a2), .val (.int (0 : Int32))] [(.ref a2), (.ref a1)])) _
  obtain ⟨T4, h4, X4, e4, W4, st4⟩ := putF X3 hx hZ hown (host := "") (Or.inl (ow hw 23 rfl)) Via.refl e3 F_value_a1 E_a1 (Or.inr ⟨(ow hw 24 rfl), rfl, hnm⟩) (ow hw 11 rfl) (ty := (.array .byte)) (by decide) rfl rfl (g := (mkF m 6 #[.val (.ref a1), .val (.ref a2), .val (.int (0 : Int32))] [(.ref a2), (.ref a1)])) rfl rfl (hb hby d4_6)
  refine OGot.go st4 ?_
  have N4 := Fr.snoc X4 N0 g_a1
  have O4 := O0.wr W4 g_a1
  have K4 := (OKeep.refl h0 [(a1, Jvm.RoadKit.slotOf Z "java/lang/String" "value" "[B"), (a1, Jvm.RoadKit.slotOf Z "java/lang/String" "coder" "B")]).wr W4 (Or.inl (List.mem_of_getElem? (i := 0) rfl))
  have Fw4 : Fld Z h4 a1 "java/lang/String" "value" "[B" (.ref a2) := F_value_a1.same W4
  show OGot p.tables e below (T4.setTop (mkF m 9 #[.val (.ref a1), .val (.ref a2), .val (.int (0 : Int32))] [])) _
  refine OGot.go (fun t k => XS.aloadN X4.here hx rfl (hb hby d4_9) rfl rfl k) ?_
  show OGot p.tables e below (T4.setTop (mkF m 10 #[.val (.ref a1), .val (.ref a2), .val (.int (0 : Int32))] [(.ref a1)])) _
  refine OGot.go (fun t k => XS.iloadN X4.here hx rfl (hb hby d4_10) rfl k) ?_
  show OGot p.tables e below (T4.setTop (mkF m 11 #[.val (.ref a1), .val (.ref a2), .val (.int (0 : Int32))] [(.int (0 : Int32)), (.ref a1)])) _
  have F5 : Fld Z h4 a1 "java/lang/String" "coder" "B" (.int (0 : Int32)) := (F_coder_a1.other W4 (Or.inr (slot_ne (Or.inr (ow hw 26 rfl)) (Or.inr (ow hw 24 rfl)) (by decide) (t := .byte) (t' := (.array .byte)) (by decide) (by decide))))
  obtain ⟨T6, h6, X6, e6, W6, st6⟩ := putFN X4 hx hZ hown (ow hw 25 rfl) Via.refl e4 F5 (E_a1.wr W4) (Or.inr ⟨(ow hw 26 rfl), rfl, hnm⟩) (ow hw 11 rfl) (ty := .byte) (v' := (.int (0 : Int32))) (by decide) rfl (fits_nar_byte (0 : Int32)) (g := (mkF m 11 #[.val (.ref a1), .val (.ref a2), .val (.int (0 : Int32))] [(.int (0 : Int32)), (.ref a1)])) rfl rfl (hb hby d4_11)
  refine OGot.go st6 ?_
  have N6 := Fr.snoc X6 N4 g_a1
  have O6 := O4.wr W6 g_a1
  have K6 := K4.wr W6 (Or.inl (List.mem_of_getElem? (i := 1) rfl))
  have Fw6 : Fld Z h6 a1 "java/lang/String" "coder" "B" (.int (0 : Int32)) := F5.same W6
  show OGot p.tables e below (T6.setTop (mkF m 14 #[.val (.ref a1), .val (.ref a2), .val (.int (0 : Int32))] [])) _
  obtain ⟨fs, hr, hrun, hended, hW, hsame⟩ := X6.leave (v := none) (fun _ => rfl)
  refine ⟨_, _, X6.returnOut hx Bd.returns (hb hby d4_14) hr, hrun, hended, _, _, rfl, ?_, ⟨_, rfl⟩, hW, hsame.mono (by decide) (by decide)⟩
  have F7 : Fld Z h6 a1 "java/lang/String" "value" "[B" (.ref a2) := (Fw4.other W6 (Or.inr (slot_ne (Or.inr (ow hw 24 rfl)) (Or.inr (ow hw 26 rfl)) (by decide) (t := (.array .byte)) (t' := .byte) (by decide) (by decide))))
  show Q4 Z w_INTEGER w_TEXT w_DATE w_DECIMAL i_COMPACT_STRINGS a1 a2 h0 n0 _ T6.heap _
  rw [e6]
  exact ⟨N6, rfl, K6, F7, Fw6⟩
theorem pd_2 : parseMethodDescriptor "([BB)V" = some ⟨[(.array .byte), .byte], none⟩ := by decide +kernel
theorem d1_25 : decode jdk_42_method_139_code 25 = .ok (.areturn, 1) := by decide +kernel
def Q1 (Z : State) (w_INTEGER : Addr) (w_TEXT : Addr) (w_DATE : Addr) (w_DECIMAL : Addr) (i_COMPACT_STRINGS : Int32) (p1 : Int32) (h0 : Heap) (n0 : Nat) (v : Option Value) (h : Heap) (L : List Loc) : Prop := Fr n0 L ∧ ∃ b4 : Addr, ∃ b2_5 : Addr, ∃ k2_5 : ClassId, v = some (.ref b4) ∧ h0.size ≤ b4 ∧ h0.size ≤ b2_5 ∧ b4 ≠ b2_5 ∧ OKeep h0 h [] ∧ Exa Z h b4 "java/lang/String" ∧ Fld Z h b4 "java/lang/String" "coder" "B" (.int (0 : Int32)) ∧ Fld Z h b4 "java/lang/String" "value" "[B" (.ref b2_5) ∧ Arv Z h b2_5 k2_5 .byte (1 : Int32) [(.int (nar .byte (p1.toInt8.toInt32)))] (.int (0 : Int32))
theorem ef1 (m : MethodId) (x0 : Int32) : entryFrame m #[(.int x0)] 1 = mkF m 0 #[.val (.int x0)] [] := by first | (simp [entryFrame, mkF, argsToLocals, Value.category]; done) | rfl
set_option maxRecDepth 65536 in
set_option maxHeartbeats 40000000 in
theorem rm1 (l : Launch) (Z : State) (a0 : Array Value) (hw : ∀ d ∈ tables_1, d.before a0 Z = true) (ws : List Jvm.Cond) {w_INTEGER : Addr} {w_TEXT : Addr} {w_DATE : Addr} {w_DECIMAL : Addr} {i_COMPACT_STRINGS : Int32} (G : Glob Z w_INTEGER w_TEXT w_DATE w_DECIMAL i_COMPACT_STRINGS) (p1 : Int32) (h0 : Heap) (n0 : Nat) (O0 : Old Z n0 h0) (hc_1 : ¬ ((255 : Int32) < p1)) :
    MetFree l (⟨"java/lang/String", "valueOf", "(C)Ljava/lang/String;"⟩ : MethodName) (head1 (Jvm.Cond.code (⟨"java/lang/String", "valueOf", "(C)Ljava/lang/String;"⟩ : MethodName) jdk_42_method_139_code 1 (some (.object "java/lang/String")) :: ws) ({ frames := 2, cells := 2, slots := 5, locals := 27 } : Room)) (fun a U => a = #[(.int p1)] ∧ Z.Warmed39 U.vm ∧ U.heap = h0) (fun _ _ _ _ _ => True) (fun _ U o U' => ∃ v L, o = .returned v ∧ Q1 Z w_INTEGER w_TEXT w_DATE w_DECIMAL i_COMPACT_STRINGS p1 h0 n0 v U'.heap L ∧ FrameEnd U o U' L ({ frames := 2, cells := 2, slots := 5, locals := 27 } : Room).cells ({ frames := 2, cells := 2, slots := 5, locals := 27 } : Room).slots) := by
  refine MetFree.of_bodySF (plainFor_of_name pn_java_lang_String) hisR ?_
  intro p e s m args below meth c s₁ Bd hml0 hP hK
  obtain ⟨rfl, hZ, hh⟩ := hP
  have hx := Bd.exec
  have hby := Bd.bytes
  have hml : c.maxLocals = 1 := hml0
  have hown : s.vm.findClass "java/lang/String" = some m.cls := findClass_of_methodNamed Bd.named
  have hnm := (name_of_methodNamed Bd.named Bd.method).1
  have X0 : Stand p l e ({ frames := 2, cells := 2, slots := 5, locals := 27 } : Room) s m #[(.int p1)] below meth c s₁ [] 0 0 := Stand.of_body Bd
  have e0 : s₁.heap = h0 := by rw [← hh, Bd.state]; rfl
  have N0 := Fr.nil n0
  show OGot p.tables e below (s₁.setTop (entryFrame m #[(.int p1)] 1)) _
  refine OGot.go (fun t k => castTop (ef1 m p1) k) ?_
  show OGot p.tables e below (s₁.setTop (mkF m 0 #[.val (.int p1)] [])) _
  obtain ⟨T2, X2, e2, st2⟩ := getS2 X0 hx hZ hown (host := "") (Or.inl (ow hw 5 rfl)) Via.refl e0 (G.2.2.2.2.2.2.2.2.2.2.2.2.1.ext O0.2) (g := (mkF m 0 #[.val (.int p1)] [])) rfl (hb hby d1_0)
  refine OGot.go st2 ?_
  show OGot p.tables e below (T2.setTop (mkF m 3 #[.val (.int p1)] [(.int i_COMPACT_STRINGS)])) _
  refine OGot.go (fun t k => XS.ifNo X2.here hx rfl (hb hby d1_3) rfl ((if0 _ _).trans (feq G.2.2.2.2.2.2.2.2.2.2.2.2.2).1) k) ?_
  show OGot p.tables e below (T2.setTop (mkF m 6 #[.val (.int p1)] [])) _
  refine OGot.go (fun t k => XS.iloadN X2.here hx rfl (hb hby d1_6) rfl k) ?_
  show OGot p.tables e below (T2.setTop (mkF m 7 #[.val (.int p1)] [(.int p1)])) _
  obtain ⟨_, _, ⟨T3, L3, k3, n3⟩, -, X3, ⟨Lc3, hQ3, l3, y3, z3⟩, st3⟩ := Jvm.LawKit.callS X2 hx (y := (⟨"java/lang/StringLatin1", "canEncode", "(C)Z"⟩ : MethodName)) hown (mvT hZ (ow hw 6 rfl)) (mvT hZ (ow hw 7 rfl)) (mvT hZ (ow hw 8 rfl)) (mvT hZ (ow hw 9 rfl)) (by decide) (backOf (W := 0) (rm2 l Z a0 hw [] G p1 h0 n0 O0 hc_1) hZ (ow hw 9 rfl) (ow hw 8 rfl) (by decide) (by decide)) (g := (mkF m 7 #[.val (.int p1)] [(.int p1)])) rfl (by rw [hml]; rfl) (argsL := [(.int p1)]) (rest := []) (lenOf pd_0 rfl) rfl (by show 2 * 0 + _ ≤ _; exact Nat.le_of_eq rfl) (hb hby d1_7) (fun _ _ => ⟨rfl, e2, (by decide : 0 + 0 ≤ _), (by decide : 0 + 0 ≤ _)⟩)
  dsimp only [Pt.U, Pt.locs, Pt.cells, Pt.slots] at X3 l3 y3 z3 st3 hQ3
  subst l3 y3 z3
  obtain ⟨rfl, N3q, e3⟩ := hQ3
  have N3 := Fr.app N0 N3q
  refine OGot.go st3 ?_
  show OGot p.tables e below (T3.setTop (mkF m 10 #[.val (.int p1)] [(.int (1 : Int32))])) _
  refine OGot.go (fun t k => XS.ifNo X3.here hx rfl (hb hby d1_10) rfl (by decide) k) ?_
  show OGot p.tables e below (T3.setTop (mkF m 13 #[.val (.int p1)] [])) _
  obtain ⟨T4, h4, X4, e4, E4, A4, D4, -, st4⟩ := newO X3 hx hZ hown (ow hw 10 rfl) (ow hw 11 rfl) (ow hw 3 rfl) e3 (g := (mkF m 13 #[.val (.int p1)] [])) rfl (hb hby d1_13) (by decide) (by decide)
  obtain ⟨b4, g4⟩ : ∃ z, z = h0.size := ⟨_, rfl⟩
  rw [← g4] at A4 D4 st4
  refine OGot.go st4 ?_
  have g_b4 : n0 ≤ b4 := Nat.le_trans (osz O0) (Nat.le_of_eq g4.symm)
  have sy_b4 : h0.size ≤ b4 := Nat.le_of_eq g4.symm
  have sz_b4 : h0.size ≤ b4 := Nat.le_trans (OKeep.refl h0 []).1 sy_b4
  have K4 := (OKeep.refl h0 []).ext E4
  have O4 := O0.ext E4
  have F4_value : Fld Z h4 b4 "java/lang/String" "value" "[B" .null := D4 (Or.inr (ow hw 24 rfl)) (ty := (.array .byte)) (by decide)
  have F4_coder : Fld Z h4 b4 "java/lang/String" "coder" "B" (.int (0 : Int32)) := D4 (Or.inr (ow hw 26 rfl)) (ty := .byte) (by decide)
  show OGot p.tables e below (T4.setTop (mkF m 16 #[.val (.int p1)] [(.ref b4)])) _
  refine OGot.go (fun t k => XS.dup X4.here hx rfl (hb hby d1_16) rfl rfl k) ?_
  show OGot p.tables e below (T4.setTop (mkF m 17 #[.val (.int p1)] [(.ref b4), (.ref b4)])) _
  refine OGot.go (fun t k => XS.iloadN X4.here hx rfl (hb hby d1_17) rfl k) ?_
  show OGot p.tables e below (T4.setTop (mkF m 18 #[.val (.int p1)] [(.int p1), (.ref b4), (.ref b4)])) _
  obtain ⟨_, _, ⟨T5, L5, k5, n5⟩, -, X5, ⟨Lc5, hQ5, l5, y5, z5⟩, st5⟩ := Jvm.LawKit.callS X4 hx (y := (⟨"java/lang/StringLatin1", "toBytes", "(C)[B"⟩ : MethodName)) hown (mvT hZ (ow hw 12 rfl)) (mvT hZ (ow hw 13 rfl)) (mvT hZ (ow hw 8 rfl)) (mvT hZ (ow hw 14 rfl)) (by decide) (backOf (W := 2) (rm3 l Z a0 hw [] G p1 h4 n0 O4 ) hZ (ow hw 14 rfl) (ow hw 8 rfl) (by decide) (by decide)) (g := (mkF m 18 #[.val (.int p1)] [(.int p1), (.ref b4), (.ref b4)])) rfl (by rw [hml]; rfl) (argsL := [(.int p1)]) (rest := [(.ref b4), (.ref b4)]) (lenOf pd_1 rfl) rfl (by show 2 * 0 + _ ≤ _; exact Nat.le_of_eq rfl) (hb hby d1_18) (fun _ _ => ⟨rfl, e4, (by decide : 1 + 1 ≤ _), (by decide : 4 + 1 ≤ _)⟩)
  dsimp only [Pt.U, Pt.locs, Pt.cells, Pt.slots] at X5 l5 y5 z5 st5 hQ5
  subst l5 y5 z5
  obtain ⟨N5q, b2_5, k2_5, rfl, szb2_5_5, K5, Fo5_0⟩ := hQ5
  have g_b2_5 : n0 ≤ b2_5 := Nat.le_trans (osz O4) szb2_5_5
  have sz_b2_5 : h0.size ≤ b2_5 := Nat.le_trans K4.1 szb2_5_5
  have Kc5 := K4.trans K5 oin0
  have O5 := OKeep.old O4 K5 oge0
  have N5 := Fr.app N3 N5q
  refine OGot.go st5 ?_
  show OGot p.tables e below (T5.setTop (mkF m 21 #[.val (.int p1)] [(.ref b2_5), (.ref b4), (.ref b4)])) _
  refine OGot.go (fun t k => XS.iconst X5.here hx rfl (hb hby d1_21) k) ?_
  show OGot p.tables e below (T5.setTop (mkF m 22 #[.val (.int p1)] [(.int (0 : Int32)), (.ref b2_5), (.ref b4), (.ref b4)])) _
  have F7 : Fld Z T5.heap b4 "java/lang/String" "value" "[B" .null := (OKeep.fld F4_value K5 onin0)
  have F8 : Fld Z T5.heap b4 "java/lang/String" "coder" "B" (.int (0 : Int32)) := (OKeep.fld F4_coder K5 onin0)
  obtain ⟨_, _, ⟨T6, L6, k6, n6⟩, -, X6, ⟨Lc6, hQ6, l6, y6, z6⟩, st6⟩ := X5.specialBack hx (y := (⟨"java/lang/String", "<init>", "([BB)V"⟩ : MethodName)) rfl hown (mvT hZ (ow hw 16 rfl)) (mvT hZ (ow hw 17 rfl)) (mvT hZ (ow hw 19 rfl)) (by decide) (backOf (W := 1) (rm4 l Z a0 hw [] G b4 b2_5 T5.heap n0 O5 (OKeep.exa A4 K5) F7 g_b4 F8) hZ (ow hw 19 rfl) (ow hw 3 rfl) (by decide) (by decide)) (g := (mkF m 22 #[.val (.int p1)] [(.int (0 : Int32)), (.ref b2_5), (.ref b4), (.ref b4)])) rfl (by rw [hml]; rfl) (Steps.refl _) (a := b4) (argsL := [(.ref b2_5), (.int (0 : Int32))]) (rest := [(.ref b4)]) (lenOf pd_2 rfl) rfl (by show 2 * 0 + _ ≤ _; exact Nat.le_of_eq rfl) (hb hby d1_22) (fun _ _ => ⟨rfl, rfl, (by decide : 2 + 0 ≤ _), (by decide : 5 + 0 ≤ _)⟩)
  dsimp only [Pt.U, Pt.locs, Pt.cells, Pt.slots] at X6 l6 y6 z6 st6 hQ6
  subst l6 y6 z6
  obtain ⟨N6q, rfl, K6, Fo6_0, Fo6_1⟩ := hQ6
  have Kc6 := Kc5.trans K6 (oinS (Or.inr sz_b4) (oinS (Or.inr sz_b4) oin0))
  have O6 := OKeep.old O5 K6 (ogeS g_b4 (ogeS g_b4 oge0))
  have N6 := Fr.app N5 N6q
  refine OGot.on st6 ?_
  show OGot p.tables e below (T6.setTop (mkF m 25 #[.val (.int p1)] [(.ref b4)])) _
  obtain ⟨fs, hr, hrun, hended, hW, hsame⟩ := X6.leave (v := some (.ref b4)) (fun h => by rw [Bd.returns] at h; cases h)
  refine ⟨_, _, oretA X6 hx Bd.returns rfl rfl (hb hby d1_25) hr, hrun, hended, _, _, rfl, ?_, ⟨_, rfl⟩, hW, hsame.mono (by decide) (by decide)⟩
  have ne10 : b4 ≠ b2_5 := (Nat.ne_of_lt (Nat.lt_of_lt_of_le A4.lt szb2_5_5))
  have F11 : Arv Z T6.heap b2_5 k2_5 .byte (1 : Int32) [(.int (nar .byte (p1.toInt8.toInt32)))] (.int (0 : Int32)) := (OKeep.arv Fo5_0 K6 (oallS (Ne.symm ne10) (oallS (Ne.symm ne10) oall0)))
  show Q1 Z w_INTEGER w_TEXT w_DATE w_DECIMAL i_COMPACT_STRINGS p1 h0 n0 _ T6.heap _
  exact ⟨N6, b4, b2_5, k2_5, rfl, sz_b4, sz_b2_5, ((Nat.ne_of_lt (Nat.lt_of_lt_of_le A4.lt szb2_5_5))), Kc6, (OKeep.exa (OKeep.exa A4 K5) K6), Fo6_1, Fo6_0, F11⟩
theorem pd_3 : parseMethodDescriptor "(C)Ljava/lang/String;" = some ⟨[.char], some (.object "java/lang/String")⟩ := by decide +kernel
theorem d6_0 : decode method_2_code 0 = .ok (.iload_n 0, 1) := by decide +kernel
theorem d6_1 : decode method_2_code 1 = .ok (.iconst 3, 1) := by decide +kernel
theorem d6_2 : decode method_2_code 2 = .ok (.iand, 1) := by decide +kernel
theorem d6_3 : decode method_2_code 3 = .ok (.istore_n 1, 1) := by decide +kernel
theorem d6_4 : decode method_2_code 4 = .ok (.iload_n 1, 1) := by decide +kernel
theorem d6_5 : decode method_2_code 5 = .ok (.ifCond .ne 7, 3) := by decide +kernel
theorem d6_8 : decode method_2_code 8 = .ok (.getstatic 7, 3) := by decide +kernel
theorem d6_11 : decode method_2_code 11 = .ok (.areturn, 1) := by decide +kernel
theorem d6_12 : decode method_2_code 12 = .ok (.iload_n 1, 1) := by decide +kernel
theorem d6_13 : decode method_2_code 13 = .ok (.iconst 1, 1) := by decide +kernel
theorem d6_14 : decode method_2_code 14 = .ok (.if_icmp .ne 7, 3) := by decide +kernel
theorem d6_17 : decode method_2_code 17 = .ok (.getstatic 13, 3) := by decide +kernel
theorem d6_20 : decode method_2_code 20 = .ok (.areturn, 1) := by decide +kernel
theorem d6_21 : decode method_2_code 21 = .ok (.iload_n 1, 1) := by decide +kernel
theorem d6_22 : decode method_2_code 22 = .ok (.iconst 2, 1) := by decide +kernel
theorem d6_23 : decode method_2_code 23 = .ok (.if_icmp .ne 7, 3) := by decide +kernel
theorem d6_26 : decode method_2_code 26 = .ok (.getstatic 16, 3) := by decide +kernel
theorem d6_29 : decode method_2_code 29 = .ok (.areturn, 1) := by decide +kernel
theorem d6_30 : decode method_2_code 30 = .ok (.getstatic 19, 3) := by decide +kernel
theorem d6_33 : decode method_2_code 33 = .ok (.areturn, 1) := by decide +kernel
theorem pn_com_example_archipel_archipel_model_AttributeChangeAddedPinLaw : plainName "com/example/archipel/archipel/model/AttributeChangeAddedPinLaw" = true := by first | (simp [plainName, overriddenIn]; done) | decide +kernel
def f6 (w_INTEGER : Addr) (w_TEXT : Addr) (w_DATE : Addr) (w_DECIMAL : Addr) (p1 : Int32) : Addr := (if (p1 &&& (3 : Int32)) = (0 : Int32) then w_TEXT else (if (p1 &&& (3 : Int32)) = (1 : Int32) then w_INTEGER else (if (p1 &&& (3 : Int32)) = (2 : Int32) then w_DECIMAL else w_DATE)))
def f6_ordinal (p1 : Int32) : Int32 := (if (p1 &&& (3 : Int32)) = (0 : Int32) then (0 : Int32) else (if (p1 &&& (3 : Int32)) = (1 : Int32) then (1 : Int32) else (if (p1 &&& (3 : Int32)) = (2 : Int32) then (2 : Int32) else (3 : Int32))))
def Q6 (Z : State) (w_INTEGER : Addr) (w_TEXT : Addr) (w_DATE : Addr) (w_DECIMAL : Addr) (i_COMPACT_STRINGS : Int32) (p1 : Int32) (h0 : Heap) (n0 : Nat) (v : Option Value) (h : Heap) (L : List Loc) : Prop := v = some (.ref (f6 w_INTEGER w_TEXT w_DATE w_DECIMAL p1)) ∧ Fr n0 L ∧ h = h0 ∧ Exa Z Z.heap (f6 w_INTEGER w_TEXT w_DATE w_DECIMAL p1) "com/example/archipel/archipel/model/DataType" ∧ Fld Z Z.heap (f6 w_INTEGER w_TEXT w_DATE w_DECIMAL p1) "java/lang/Enum" "ordinal" "I" (.int (f6_ordinal p1))
theorem ef6 (m : MethodId) (x0 : Int32) : entryFrame m #[(.int x0)] 2 = mkF m 0 #[.val (.int x0), .unset] [] := by first | (simp [entryFrame, mkF, argsToLocals, Value.category]; done) | rfl
set_option maxRecDepth 65536 in
set_option maxHeartbeats 40000000 in
theorem rm6 (l : Launch) (Z : State) (a0 : Array Value) (hw : ∀ d ∈ tables_1, d.before a0 Z = true) (ws : List Jvm.Cond) {w_INTEGER : Addr} {w_TEXT : Addr} {w_DATE : Addr} {w_DECIMAL : Addr} {i_COMPACT_STRINGS : Int32} (G : Glob Z w_INTEGER w_TEXT w_DATE w_DECIMAL i_COMPACT_STRINGS) (p1 : Int32) (h0 : Heap) (n0 : Nat) (O0 : Old Z n0 h0) :
    MetFree l (⟨"com/example/archipel/archipel/model/AttributeChangeAddedPinLaw", "type", "(I)Lcom/example/archipel/archipel/model/DataType;"⟩ : MethodName) (head1 (Jvm.Cond.code (⟨"com/example/archipel/archipel/model/AttributeChangeAddedPinLaw", "type", "(I)Lcom/example/archipel/archipel/model/DataType;"⟩ : MethodName) method_2_code 2 (some (.object "com/example/archipel/archipel/model/DataType")) :: ws) ({ frames := 0, cells := 0, slots := 0, locals := 0 } : Room)) (fun a U => a = #[(.int p1)] ∧ Z.Warmed39 U.vm ∧ U.heap = h0) (fun _ _ _ _ _ => True) (fun _ U o U' => ∃ v L, o = .returned v ∧ Q6 Z w_INTEGER w_TEXT w_DATE w_DECIMAL i_COMPACT_STRINGS p1 h0 n0 v U'.heap L ∧ FrameEnd U o U' L ({ frames := 0, cells := 0, slots := 0, locals := 0 } : Room).cells ({ frames := 0, cells := 0, slots := 0, locals := 0 } : Room).slots) := by
  refine MetFree.of_bodySF (plainFor_of_name pn_com_example_archipel_archipel_model_AttributeChangeAddedPinLaw) hisR ?_
  intro p e s m args below meth c s₁ Bd hml0 hP hK
  obtain ⟨rfl, hZ, hh⟩ := hP
  have hx := Bd.exec
  have hby := Bd.bytes
  have hml : c.maxLocals = 2 := hml0
  have hown : s.vm.findClass "com/example/archipel/archipel/model/AttributeChangeAddedPinLaw" = some m.cls := findClass_of_methodNamed Bd.named
  have hnm := (name_of_methodNamed Bd.named Bd.method).1
  have X0 : Stand p l e ({ frames := 0, cells := 0, slots := 0, locals := 0 } : Room) s m #[(.int p1)] below meth c s₁ [] 0 0 := Stand.of_body Bd
  have e0 : s₁.heap = h0 := by rw [← hh, Bd.state]; rfl
  have N0 := Fr.nil n0
  show OGot p.tables e below (s₁.setTop (entryFrame m #[(.int p1)] 2)) _
  refine OGot.go (fun t k => castTop (ef6 m p1) k) ?_
  show OGot p.tables e below (s₁.setTop (mkF m 0 #[.val (.int p1), .unset] [])) _
  refine OGot.go (fun t k => XS.iloadN X0.here hx rfl (hb hby d6_0) rfl k) ?_
  show OGot p.tables e below (s₁.setTop (mkF m 1 #[.val (.int p1), .unset] [(.int p1)])) _
  refine OGot.go (fun t k => XS.iconst X0.here hx rfl (hb hby d6_1) k) ?_
  show OGot p.tables e below (s₁.setTop (mkF m 2 #[.val (.int p1), .unset] [(.int (3 : Int32)), (.int p1)])) _
  refine OGot.go (fun t k => XS.iand X0.here hx rfl (hb hby d6_2) rfl k) ?_
  show OGot p.tables e below (s₁.setTop (mkF m 3 #[.val (.int p1), .unset] [(.int (p1 &&& (3 : Int32)))])) _
  refine OGot.go (fun t k => XS.istoreN X0.here hx rfl (hb hby d6_3) rfl (l' := #[.val (.int p1), .val (.int (p1 &&& (3 : Int32)))]) rfl k) ?_
  show OGot p.tables e below (s₁.setTop (mkF m 4 #[.val (.int p1), .val (.int (p1 &&& (3 : Int32)))] [])) _
  refine OGot.go (fun t k => XS.iloadN X0.here hx rfl (hb hby d6_4) rfl k) ?_
  show OGot p.tables e below (s₁.setTop (mkF m 5 #[.val (.int p1), .val (.int (p1 &&& (3 : Int32)))] [(.int (p1 &&& (3 : Int32)))])) _
  by_cases hs2 : (p1 &&& (3 : Int32)) = (0 : Int32)
  · refine OGot.go (fun t k => XS.ifNo X0.here hx rfl (hb hby d6_5) rfl ((if0 _ _).trans (teq hs2).2) k) ?_
    show OGot p.tables e below (s₁.setTop (mkF m 8 #[.val (.int p1), .val (.int (p1 &&& (3 : Int32)))] [])) _
    obtain ⟨T3, X3, e3, st3⟩ := getS2 X0 hx hZ hown (host := "") (Or.inl (ow hw 34 rfl)) Via.refl e0 (G.2.2.1.ext O0.2) (g := (mkF m 8 #[.val (.int p1), .val (.int (p1 &&& (3 : Int32)))] [])) rfl (hb hby d6_8)
    refine OGot.go st3 ?_
    show OGot p.tables e below (T3.setTop (mkF m 11 #[.val (.int p1), .val (.int (p1 &&& (3 : Int32)))] [(.ref w_TEXT)])) _
    obtain ⟨fs, hr, hrun, hended, hW, hsame⟩ := X3.leave (v := some (.ref w_TEXT)) (fun h => by rw [Bd.returns] at h; cases h)
    refine ⟨_, _, oretA X3 hx Bd.returns rfl rfl (hb hby d6_11) hr, hrun, hended, _, _, rfl, ?_, ⟨_, rfl⟩, hW, hsame.mono (by decide) (by decide)⟩
    exact (⟨(by unfold f6; rw [if_pos hs2]), N0, e3, (by unfold f6; rw [if_pos hs2]; exact G.2.2.2.1), (by unfold f6 f6_ordinal; rw [if_pos hs2, if_pos hs2]; exact G.2.2.2.2.2.2.2.2.2.1)⟩ : Q6 Z w_INTEGER w_TEXT w_DATE w_DECIMAL i_COMPACT_STRINGS p1 h0 n0 _ T3.heap _)
  · refine OGot.go (fun t k => XS.ifYes X0.here hx rfl (pc0 := 5) (pc' := 12) rfl (hb hby d6_5) rfl ((if0 _ _).trans (feq hs2).2) (by decide) (by decide) k) ?_
    show OGot p.tables e below (s₁.setTop (mkF m 12 #[.val (.int p1), .val (.int (p1 &&& (3 : Int32)))] [])) _
    refine OGot.go (fun t k => XS.iloadN X0.here hx rfl (hb hby d6_12) rfl k) ?_
    show OGot p.tables e below (s₁.setTop (mkF m 13 #[.val (.int p1), .val (.int (p1 &&& (3 : Int32)))] [(.int (p1 &&& (3 : Int32)))])) _
    refine OGot.go (fun t k => XS.iconst X0.here hx rfl (hb hby d6_13) k) ?_
    show OGot p.tables e below (s₁.setTop (mkF m 14 #[.val (.int p1), .val (.int (p1 &&& (3 : Int32)))] [(.int (1 : Int32)), (.int (p1 &&& (3 : Int32)))])) _
    by_cases hs4 : (p1 &&& (3 : Int32)) = (1 : Int32)
    · refine OGot.go (fun t k => XS.icmpNo X0.here hx rfl (hb hby d6_14) rfl (teq hs4).2 k) ?_
      show OGot p.tables e below (s₁.setTop (mkF m 17 #[.val (.int p1), .val (.int (p1 &&& (3 : Int32)))] [])) _
      obtain ⟨T5, X5, e5, st5⟩ := getS2 X0 hx hZ hown (host := "") (Or.inl (ow hw 31 rfl)) Via.refl e0 (G.1.ext O0.2) (g := (mkF m 17 #[.val (.int p1), .val (.int (p1 &&& (3 : Int32)))] [])) rfl (hb hby d6_17)
      refine OGot.go st5 ?_
      show OGot p.tables e below (T5.setTop (mkF m 20 #[.val (.int p1), .val (.int (p1 &&& (3 : Int32)))] [(.ref w_INTEGER)])) _
      obtain ⟨fs, hr, hrun, hended, hW, hsame⟩ := X5.leave (v := some (.ref w_INTEGER)) (fun h => by rw [Bd.returns] at h; cases h)
      refine ⟨_, _, oretA X5 hx Bd.returns rfl rfl (hb hby d6_20) hr, hrun, hended, _, _, rfl, ?_, ⟨_, rfl⟩, hW, hsame.mono (by decide) (by decide)⟩
      exact (⟨(by unfold f6; rw [if_neg hs2, if_pos hs4]), N0, e5, (by unfold f6; rw [if_neg hs2, if_pos hs4]; exact G.2.1), (by unfold f6 f6_ordinal; rw [if_neg hs2, if_pos hs4, if_neg hs2, if_pos hs4]; exact G.2.2.2.2.2.2.2.2.1)⟩ : Q6 Z w_INTEGER w_TEXT w_DATE w_DECIMAL i_COMPACT_STRINGS p1 h0 n0 _ T5.heap _)
    · refine OGot.go (fun t k => XS.icmpYes X0.here hx rfl (pc0 := 14) (pc' := 21) rfl (hb hby d6_14) rfl (feq hs4).2 (by decide) (by decide) k) ?_
      show OGot p.tables e below (s₁.setTop (mkF m 21 #[.val (.int p1), .val (.int (p1 &&& (3 : Int32)))] [])) _
      refine OGot.go (fun t k => XS.iloadN X0.here hx rfl (hb hby d6_21) rfl k) ?_
      show OGot p.tables e below (s₁.setTop (mkF m 22 #[.val (.int p1), .val (.int (p1 &&& (3 : Int32)))] [(.int (p1 &&& (3 : Int32)))])) _
      refine OGot.go (fun t k => XS.iconst X0.here hx rfl (hb hby d6_22) k) ?_
      show OGot p.tables e below (s₁.setTop (mkF m 23 #[.val (.int p1), .val (.int (p1 &&& (3 : Int32)))] [(.int (2 : Int32)), (.int (p1 &&& (3 : Int32)))])) _
      by_cases hs6 : (p1 &&& (3 : Int32)) = (2 : Int32)
      · refine OGot.go (fun t k => XS.icmpNo X0.here hx rfl (hb hby d6_23) rfl (teq hs6).2 k) ?_
        show OGot p.tables e below (s₁.setTop (mkF m 26 #[.val (.int p1), .val (.int (p1 &&& (3 : Int32)))] [])) _
        obtain ⟨T7, X7, e7, st7⟩ := getS2 X0 hx hZ hown (host := "") (Or.inl (ow hw 97 rfl)) Via.refl e0 (G.2.2.2.2.2.2.1.ext O0.2) (g := (mkF m 26 #[.val (.int p1), .val (.int (p1 &&& (3 : Int32)))] [])) rfl (hb hby d6_26)
        refine OGot.go st7 ?_
        show OGot p.tables e below (T7.setTop (mkF m 29 #[.val (.int p1), .val (.int (p1 &&& (3 : Int32)))] [(.ref w_DECIMAL)])) _
        obtain ⟨fs, hr, hrun, hended, hW, hsame⟩ := X7.leave (v := some (.ref w_DECIMAL)) (fun h => by rw [Bd.returns] at h; cases h)
        refine ⟨_, _, oretA X7 hx Bd.returns rfl rfl (hb hby d6_29) hr, hrun, hended, _, _, rfl, ?_, ⟨_, rfl⟩, hW, hsame.mono (by decide) (by decide)⟩
        exact (⟨(by unfold f6; rw [if_neg hs2, if_neg hs4, if_pos hs6]), N0, e7, (by unfold f6; rw [if_neg hs2, if_neg hs4, if_pos hs6]; exact G.2.2.2.2.2.2.2.1), (by unfold f6 f6_ordinal; rw [if_neg hs2, if_neg hs4, if_pos hs6, if_neg hs2, if_neg hs4, if_pos hs6]; exact G.2.2.2.2.2.2.2.2.2.2.2.1)⟩ : Q6 Z w_INTEGER w_TEXT w_DATE w_DECIMAL i_COMPACT_STRINGS p1 h0 n0 _ T7.heap _)
      · refine OGot.go (fun t k => XS.icmpYes X0.here hx rfl (pc0 := 23) (pc' := 30) rfl (hb hby d6_23) rfl (feq hs6).2 (by decide) (by decide) k) ?_
        show OGot p.tables e below (s₁.setTop (mkF m 30 #[.val (.int p1), .val (.int (p1 &&& (3 : Int32)))] [])) _
        obtain ⟨T8, X8, e8, st8⟩ := getS2 X0 hx hZ hown (host := "") (Or.inl (ow hw 84 rfl)) Via.refl e0 (G.2.2.2.2.1.ext O0.2) (g := (mkF m 30 #[.val (.int p1), .val (.int (p1 &&& (3 : Int32)))] [])) rfl (hb hby d6_30)
        refine OGot.go st8 ?_
        show OGot p.tables e below (T8.setTop (mkF m 33 #[.val (.int p1), .val (.int (p1 &&& (3 : Int32)))] [(.ref w_DATE)])) _
        obtain ⟨fs, hr, hrun, hended, hW, hsame⟩ := X8.leave (v := some (.ref w_DATE)) (fun h => by rw [Bd.returns] at h; cases h)
        refine ⟨_, _, oretA X8 hx Bd.returns rfl rfl (hb hby d6_33) hr, hrun, hended, _, _, rfl, ?_, ⟨_, rfl⟩, hW, hsame.mono (by decide) (by decide)⟩
        exact (⟨(by unfold f6; rw [if_neg hs2, if_neg hs4, if_neg hs6]), N0, e8, (by unfold f6; rw [if_neg hs2, if_neg hs4, if_neg hs6]; exact G.2.2.2.2.2.1), (by unfold f6 f6_ordinal; rw [if_neg hs2, if_neg hs4, if_neg hs6, if_neg hs2, if_neg hs4, if_neg hs6]; exact G.2.2.2.2.2.2.2.2.2.2.1)⟩ : Q6 Z w_INTEGER w_TEXT w_DATE w_DECIMAL i_COMPACT_STRINGS p1 h0 n0 _ T8.heap _)
theorem pd_4 : parseMethodDescriptor "(I)Lcom/example/archipel/archipel/model/DataType;" = some ⟨[.int], some (.object "com/example/archipel/archipel/model/DataType")⟩ := by decide +kernel
theorem d7_0 : decode jdk_42_method_66_code 0 = .ok (.aload_n 0, 1) := by decide +kernel
theorem d7_1 : decode jdk_42_method_66_code 1 = .ok (.aload_n 1, 1) := by decide +kernel
theorem d7_2 : decode jdk_42_method_66_code 2 = .ok (.if_acmp .ne 5, 3) := by decide +kernel
theorem d7_7 : decode jdk_42_method_66_code 7 = .ok (.aload_n 1, 1) := by decide +kernel
theorem d7_8 : decode jdk_42_method_66_code 8 = .ok (.instanceof 10, 3) := by decide +kernel
theorem d7_11 : decode jdk_42_method_66_code 11 = .ok (.ifCond .eq 43, 3) := by decide +kernel
theorem d7_14 : decode jdk_42_method_66_code 14 = .ok (.aload_n 1, 1) := by decide +kernel
theorem d7_15 : decode jdk_42_method_66_code 15 = .ok (.checkcast 10, 3) := by decide +kernel
theorem d7_18 : decode jdk_42_method_66_code 18 = .ok (.astore_n 2, 1) := by decide +kernel
theorem d7_19 : decode jdk_42_method_66_code 19 = .ok (.getstatic 38, 3) := by decide +kernel
theorem d7_22 : decode jdk_42_method_66_code 22 = .ok (.ifCond .eq 14, 3) := by decide +kernel
theorem d7_25 : decode jdk_42_method_66_code 25 = .ok (.aload_n 0, 1) := by decide +kernel
theorem d7_26 : decode jdk_42_method_66_code 26 = .ok (.getfield 15, 3) := by decide +kernel
theorem d7_29 : decode jdk_42_method_66_code 29 = .ok (.aload_n 2, 1) := by decide +kernel
theorem d7_30 : decode jdk_42_method_66_code 30 = .ok (.getfield 15, 3) := by decide +kernel
theorem d7_33 : decode jdk_42_method_66_code 33 = .ok (.if_icmp .ne 21, 3) := by decide +kernel
theorem d7_36 : decode jdk_42_method_66_code 36 = .ok (.aload_n 0, 1) := by decide +kernel
theorem d7_37 : decode jdk_42_method_66_code 37 = .ok (.getfield 9, 3) := by decide +kernel
theorem d7_40 : decode jdk_42_method_66_code 40 = .ok (.aload_n 2, 1) := by decide +kernel
theorem d7_41 : decode jdk_42_method_66_code 41 = .ok (.getfield 9, 3) := by decide +kernel
theorem d7_44 : decode jdk_42_method_66_code 44 = .ok (.invokestatic 541, 3) := by decide +kernel
theorem d8_0 : decode jdk_43_method_13_code 0 = .ok (.aload_n 0, 1) := by decide +kernel
theorem d8_1 : decode jdk_43_method_13_code 1 = .ok (.arraylength, 1) := by decide +kernel
theorem d8_2 : decode jdk_43_method_13_code 2 = .ok (.aload_n 1, 1) := by decide +kernel
theorem d8_3 : decode jdk_43_method_13_code 3 = .ok (.arraylength, 1) := by decide +kernel
theorem d8_4 : decode jdk_43_method_13_code 4 = .ok (.if_icmp .ne 30, 3) := by decide +kernel
theorem d8_7 : decode jdk_43_method_13_code 7 = .ok (.iconst 0, 1) := by decide +kernel
theorem d8_8 : decode jdk_43_method_13_code 8 = .ok (.istore_n 2, 1) := by decide +kernel
theorem d8_9 : decode jdk_43_method_13_code 9 = .ok (.iload_n 2, 1) := by decide +kernel
theorem d8_10 : decode jdk_43_method_13_code 10 = .ok (.aload_n 0, 1) := by decide +kernel
theorem d8_11 : decode jdk_43_method_13_code 11 = .ok (.arraylength, 1) := by decide +kernel
theorem d8_12 : decode jdk_43_method_13_code 12 = .ok (.if_icmp .ge 20, 3) := by decide +kernel
theorem d8_15 : decode jdk_43_method_13_code 15 = .ok (.aload_n 0, 1) := by decide +kernel
theorem d8_16 : decode jdk_43_method_13_code 16 = .ok (.iload_n 2, 1) := by decide +kernel
theorem d8_17 : decode jdk_43_method_13_code 17 = .ok (.baload, 1) := by decide +kernel
theorem d8_18 : decode jdk_43_method_13_code 18 = .ok (.aload_n 1, 1) := by decide +kernel
theorem d8_19 : decode jdk_43_method_13_code 19 = .ok (.iload_n 2, 1) := by decide +kernel
theorem d8_20 : decode jdk_43_method_13_code 20 = .ok (.baload, 1) := by decide +kernel
theorem d8_21 : decode jdk_43_method_13_code 21 = .ok (.if_icmp .eq 5, 3) := by decide +kernel
theorem d8_26 : decode jdk_43_method_13_code 26 = .ok (.iinc 2 1, 3) := by decide +kernel
theorem d8_29 : decode jdk_43_method_13_code 29 = .ok (.goto (-20), 3) := by decide +kernel
theorem d8_32 : decode jdk_43_method_13_code 32 = .ok (.iconst 1, 1) := by decide +kernel
theorem d8_33 : decode jdk_43_method_13_code 33 = .ok (.ireturn, 1) := by decide +kernel
theorem d8_24 : decode jdk_43_method_13_code 24 = .ok (.iconst 0, 1) := by decide +kernel
theorem d8_25 : decode jdk_43_method_13_code 25 = .ok (.ireturn, 1) := by decide +kernel
def f8 (p4 : Int32) (p7 : Int32) : Int32 := (if p4 = p7 then (1 : Int32) else (0 : Int32))
def Q8 (Z : State) (w_INTEGER : Addr) (w_TEXT : Addr) (w_DATE : Addr) (w_DECIMAL : Addr) (i_COMPACT_STRINGS : Int32) (a1 : Addr) (a2 : Addr) (k3 : ClassId) (p4 : Int32) (k6 : ClassId) (p7 : Int32) (h0 : Heap) (n0 : Nat) (v : Option Value) (h : Heap) (L : List Loc) : Prop := v = some (.int (f8 p4 p7)) ∧ Fr n0 L ∧ h = h0
theorem ef8 (m : MethodId) (x0 : Addr) (x1 : Addr) : entryFrame m #[(.ref x0), (.ref x1)] 3 = mkF m 0 #[.val (.ref x0), .val (.ref x1), .unset] [] := by first | (simp [entryFrame, mkF, argsToLocals, Value.category]; done) | rfl
set_option maxRecDepth 65536 in
set_option maxHeartbeats 40000000 in
theorem rm8 (l : Launch) (Z : State) (a0 : Array Value) (hw : ∀ d ∈ tables_1, d.before a0 Z = true) (ws : List Jvm.Cond) {w_INTEGER : Addr} {w_TEXT : Addr} {w_DATE : Addr} {w_DECIMAL : Addr} {i_COMPACT_STRINGS : Int32} (G : Glob Z w_INTEGER w_TEXT w_DATE w_DECIMAL i_COMPACT_STRINGS) (a1 : Addr) (a2 : Addr) (k3 : ClassId) (p4 : Int32) (k6 : ClassId) (p7 : Int32) (h0 : Heap) (n0 : Nat) (O0 : Old Z n0 h0) (V_a1 : Arv Z h0 a1 k3 .byte (1 : Int32) [(.int p4)] (.int (0 : Int32))) (V_a2 : Arv Z h0 a2 k6 .byte (1 : Int32) [(.int p7)] (.int (0 : Int32))) :
    MetFree l (⟨"java/lang/StringLatin1", "equals", "([B[B)Z"⟩ : MethodName) (head1 (Jvm.Cond.code (⟨"java/lang/StringLatin1", "equals", "([B[B)Z"⟩ : MethodName) jdk_43_method_13_code 3 (some .boolean) :: ws) ({ frames := 0, cells := 0, slots := 0, locals := 0 } : Room)) (fun a U => a = #[(.ref a1), (.ref a2)] ∧ Z.Warmed39 U.vm ∧ U.heap = h0) (fun _ _ _ _ _ => True) (fun _ U o U' => ∃ v L, o = .returned v ∧ Q8 Z w_INTEGER w_TEXT w_DATE w_DECIMAL i_COMPACT_STRINGS a1 a2 k3 p4 k6 p7 h0 n0 v U'.heap L ∧ FrameEnd U o U' L ({ frames := 0, cells := 0, slots := 0, locals := 0 } : Room).cells ({ frames := 0, cells := 0, slots := 0, locals := 0 } : Room).slots) := by
  refine MetFree.of_bodySF (plainFor_of_name pn_java_lang_StringLatin1) hisR ?_
  intro p e s m args below meth c s₁ Bd hml0 hP hK
  obtain ⟨rfl, hZ, hh⟩ := hP
  have hx := Bd.exec
  have hby := Bd.bytes
  have hml : c.maxLocals = 3 := hml0
  have hown : s.vm.findClass "java/lang/StringLatin1" = some m.cls := findClass_of_methodNamed Bd.named
  have hnm := (name_of_methodNamed Bd.named Bd.method).1
  have X0 : Stand p l e ({ frames := 0, cells := 0, slots := 0, locals := 0 } : Room) s m #[(.ref a1), (.ref a2)] below meth c s₁ [] 0 0 := Stand.of_body Bd
  have e0 : s₁.heap = h0 := by rw [← hh, Bd.state]; rfl
  have N0 := Fr.nil n0
  show OGot p.tables e below (s₁.setTop (entryFrame m #[(.ref a1), (.ref a2)] 3)) _
  refine OGot.go (fun t k => castTop (ef8 m a1 a2) k) ?_
  show OGot p.tables e below (s₁.setTop (mkF m 0 #[.val (.ref a1), .val (.ref a2), .unset] [])) _
  refine OGot.go (fun t k => XS.aloadN X0.here hx rfl (hb hby d8_0) rfl rfl k) ?_
  show OGot p.tables e below (s₁.setTop (mkF m 1 #[.val (.ref a1), .val (.ref a2), .unset] [(.ref a1)])) _
  obtain ⟨cl5, Ar5, -, Sz5, Ng5, -, -⟩ := id (V_a1)
  refine OGot.go (fun t k => X0.arraylength hx (by rw [e0]; exact Ar5.1) (State.isArrayOf_alike hZ.alike Ar5.2.1) (g := (mkF m 1 #[.val (.ref a1), .val (.ref a2), .unset] [(.ref a1)])) rfl rfl (hb hby d8_1) _ k) ?_
  rw [len_of Sz5 Ng5]
  show OGot p.tables e below (s₁.setTop (mkF m 2 #[.val (.ref a1), .val (.ref a2), .unset] [(.int (1 : Int32))])) _
  refine OGot.go (fun t k => XS.aloadN X0.here hx rfl (hb hby d8_2) rfl rfl k) ?_
  show OGot p.tables e below (s₁.setTop (mkF m 3 #[.val (.ref a1), .val (.ref a2), .unset] [(.ref a2), (.int (1 : Int32))])) _
  obtain ⟨cl8, Ar8, -, Sz8, Ng8, -, -⟩ := id (V_a2)
  refine OGot.go (fun t k => X0.arraylength hx (by rw [e0]; exact Ar8.1) (State.isArrayOf_alike hZ.alike Ar8.2.1) (g := (mkF m 3 #[.val (.ref a1), .val (.ref a2), .unset] [(.ref a2), (.int (1 : Int32))])) rfl rfl (hb hby d8_3) _ k) ?_
  rw [len_of Sz8 Ng8]
  show OGot p.tables e below (s₁.setTop (mkF m 4 #[.val (.ref a1), .val (.ref a2), .unset] [(.int (1 : Int32)), (.int (1 : Int32))])) _
  refine OGot.go (fun t k => XS.icmpNo X0.here hx rfl (hb hby d8_4) rfl (by decide) k) ?_
  show OGot p.tables e below (s₁.setTop (mkF m 7 #[.val (.ref a1), .val (.ref a2), .unset] [])) _
  refine OGot.go (fun t k => XS.iconst X0.here hx rfl (hb hby d8_7) k) ?_
  show OGot p.tables e below (s₁.setTop (mkF m 8 #[.val (.ref a1), .val (.ref a2), .unset] [(.int (0 : Int32))])) _
  refine OGot.go (fun t k => XS.istoreN X0.here hx rfl (hb hby d8_8) rfl (l' := #[.val (.ref a1), .val (.ref a2), .val (.int (0 : Int32))]) rfl k) ?_
  show OGot p.tables e below (s₁.setTop (mkF m 9 #[.val (.ref a1), .val (.ref a2), .val (.int (0 : Int32))] [])) _
  refine OGot.go (fun t k => XS.iloadN X0.here hx rfl (hb hby d8_9) rfl k) ?_
  show OGot p.tables e below (s₁.setTop (mkF m 10 #[.val (.ref a1), .val (.ref a2), .val (.int (0 : Int32))] [(.int (0 : Int32))])) _
  refine OGot.go (fun t k => XS.aloadN X0.here hx rfl (hb hby d8_10) rfl rfl k) ?_
  show OGot p.tables e below (s₁.setTop (mkF m 11 #[.val (.ref a1), .val (.ref a2), .val (.int (0 : Int32))] [(.ref a1), (.int (0 : Int32))])) _
  obtain ⟨cl9, Ar9, -, Sz9, Ng9, -, -⟩ := id (V_a1)
  refine OGot.go (fun t k => X0.arraylength hx (by rw [e0]; exact Ar9.1) (State.isArrayOf_alike hZ.alike Ar9.2.1) (g := (mkF m 11 #[.val (.ref a1), .val (.ref a2), .val (.int (0 : Int32))] [(.ref a1), (.int (0 : Int32))])) rfl rfl (hb hby d8_11) _ k) ?_
  rw [len_of Sz9 Ng9]
  show OGot p.tables e below (s₁.setTop (mkF m 12 #[.val (.ref a1), .val (.ref a2), .val (.int (0 : Int32))] [(.int (1 : Int32)), (.int (0 : Int32))])) _
  refine OGot.go (fun t k => XS.icmpNo X0.here hx rfl (hb hby d8_12) rfl (by decide) k) ?_
  show OGot p.tables e below (s₁.setTop (mkF m 15 #[.val (.ref a1), .val (.ref a2), .val (.int (0 : Int32))] [])) _
  refine OGot.go (fun t k => XS.aloadN X0.here hx rfl (hb hby d8_15) rfl rfl k) ?_
  show OGot p.tables e below (s₁.setTop (mkF m 16 #[.val (.ref a1), .val (.ref a2), .val (.int (0 : Int32))] [(.ref a1)])) _
  refine OGot.go (fun t k => XS.iloadN X0.here hx rfl (hb hby d8_16) rfl k) ?_
  show OGot p.tables e below (s₁.setTop (mkF m 17 #[.val (.ref a1), .val (.ref a2), .val (.int (0 : Int32))] [(.int (0 : Int32)), (.ref a1)])) _
  obtain ⟨cl10, Ar10, qc10, Sz10, Ng10, Hh10, Gg10⟩ := id (V_a1)
  have hin10 : ¬ ((0 : Int32) < 0 ∨ cl10.slots.size ≤ ((0 : Int32)).toNatClampNeg) := inb_of Sz10 ⟨by decide, by decide⟩
  have hat10 : cl10.slots[((0 : Int32)).toNatClampNeg]? = some (.int p4) := Hh10.at hin10 rfl
  refine OGot.go (fun t k => X0.baloadBytes hx (j := (0 : Int32)) (v := (.int p4)) (by rw [e0]; exact Ar10.1) (State.isArrayOf_alike hZ.alike Ar10.2.1) Ar10.2.2 hin10 hat10 (g := (mkF m 17 #[.val (.ref a1), .val (.ref a2), .val (.int (0 : Int32))] [(.int (0 : Int32)), (.ref a1)])) rfl rfl (hb hby d8_17) _ k) ?_
  show OGot p.tables e below (s₁.setTop (mkF m 18 #[.val (.ref a1), .val (.ref a2), .val (.int (0 : Int32))] [(.int p4)])) _
  refine OGot.go (fun t k => XS.aloadN X0.here hx rfl (hb hby d8_18) rfl rfl k) ?_
  show OGot p.tables e below (s₁.setTop (mkF m 19 #[.val (.ref a1), .val (.ref a2), .val (.int (0 : Int32))] [(.ref a2), (.int p4)])) _
  refine OGot.go (fun t k => XS.iloadN X0.here hx rfl (hb hby d8_19) rfl k) ?_
  show OGot p.tables e below (s₁.setTop (mkF m 20 #[.val (.ref a1), .val (.ref a2), .val (.int (0 : Int32))] [(.int (0 : Int32)), (.ref a2), (.int p4)])) _
  obtain ⟨cl11, Ar11, qc11, Sz11, Ng11, Hh11, Gg11⟩ := id (V_a2)
  have hin11 : ¬ ((0 : Int32) < 0 ∨ cl11.slots.size ≤ ((0 : Int32)).toNatClampNeg) := inb_of Sz11 ⟨by decide, by decide⟩
  have hat11 : cl11.slots[((0 : Int32)).toNatClampNeg]? = some (.int p7) := Hh11.at hin11 rfl
  refine OGot.go (fun t k => X0.baloadBytes hx (j := (0 : Int32)) (v := (.int p7)) (by rw [e0]; exact Ar11.1) (State.isArrayOf_alike hZ.alike Ar11.2.1) Ar11.2.2 hin11 hat11 (g := (mkF m 20 #[.val (.ref a1), .val (.ref a2), .val (.int (0 : Int32))] [(.int (0 : Int32)), (.ref a2), (.int p4)])) rfl rfl (hb hby d8_20) _ k) ?_
  show OGot p.tables e below (s₁.setTop (mkF m 21 #[.val (.ref a1), .val (.ref a2), .val (.int (0 : Int32))] [(.int p7), (.int p4)])) _
  by_cases hs12 : p4 = p7
  · refine OGot.go (fun t k => XS.icmpYes X0.here hx rfl (pc0 := 21) (pc' := 26) rfl (hb hby d8_21) rfl (teq hs12).1 (by decide) (by decide) k) ?_
    show OGot p.tables e below (s₁.setTop (mkF m 26 #[.val (.ref a1), .val (.ref a2), .val (.int (0 : Int32))] [])) _
    refine OGot.go (fun t k => XS.iinc X0.here hx rfl (hb hby d8_26) rfl (l' := #[.val (.ref a1), .val (.ref a2), .val (.int (1 : Int32))]) rfl k) ?_
    show OGot p.tables e below (s₁.setTop (mkF m 29 #[.val (.ref a1), .val (.ref a2), .val (.int (1 : Int32))] [])) _
    refine OGot.go (fun t k => XS.goto X0.here hx rfl (pc0 := 29) (pc' := 9) rfl (hb hby d8_29) (by decide) (by decide) k) ?_
    show OGot p.tables e below (s₁.setTop (mkF m 9 #[.val (.ref a1), .val (.ref a2), .val (.int (1 : Int32))] [])) _
    refine OGot.go (fun t k => XS.iloadN X0.here hx rfl (hb hby d8_9) rfl k) ?_
    show OGot p.tables e below (s₁.setTop (mkF m 10 #[.val (.ref a1), .val (.ref a2), .val (.int (1 : Int32))] [(.int (1 : Int32))])) _
    refine OGot.go (fun t k => XS.aloadN X0.here hx rfl (hb hby d8_10) rfl rfl k) ?_
    show OGot p.tables e below (s₁.setTop (mkF m 11 #[.val (.ref a1), .val (.ref a2), .val (.int (1 : Int32))] [(.ref a1), (.int (1 : Int32))])) _
    obtain ⟨cl13, Ar13, -, Sz13, Ng13, -, -⟩ := id (V_a1)
    refine OGot.go (fun t k => X0.arraylength hx (by rw [e0]; exact Ar13.1) (State.isArrayOf_alike hZ.alike Ar13.2.1) (g := (mkF m 11 #[.val (.ref a1), .val (.ref a2), .val (.int (1 : Int32))] [(.ref a1), (.int (1 : Int32))])) rfl rfl (hb hby d8_11) _ k) ?_
    rw [len_of Sz13 Ng13]
    show OGot p.tables e below (s₁.setTop (mkF m 12 #[.val (.ref a1), .val (.ref a2), .val (.int (1 : Int32))] [(.int (1 : Int32)), (.int (1 : Int32))])) _
    refine OGot.go (fun t k => XS.icmpYes X0.here hx rfl (pc0 := 12) (pc' := 32) rfl (hb hby d8_12) rfl (by decide) (by decide) (by decide) k) ?_
    show OGot p.tables e below (s₁.setTop (mkF m 32 #[.val (.ref a1), .val (.ref a2), .val (.int (1 : Int32))] [])) _
    refine OGot.go (fun t k => XS.iconst X0.here hx rfl (hb hby d8_32) k) ?_
    show OGot p.tables e below (s₁.setTop (mkF m 33 #[.val (.ref a1), .val (.ref a2), .val (.int (1 : Int32))] [(.int (1 : Int32))])) _
    obtain ⟨fs, hr, hrun, hended, hW, hsame⟩ := X0.leave (v := some (.int (1 : Int32))) (fun h => by rw [Bd.returns] at h; cases h)
    refine ⟨_, _, retN X0 hx (t := .boolean) Bd.returns (by simp) (hb hby d8_33) hr, hrun, hended, _, _, rfl, ?_, ⟨_, rfl⟩, hW, hsame.mono (by decide) (by decide)⟩
    exact (⟨(by unfold f8; rw [if_pos hs12]), N0, e0⟩ : Q8 Z w_INTEGER w_TEXT w_DATE w_DECIMAL i_COMPACT_STRINGS a1 a2 k3 p4 k6 p7 h0 n0 _ s₁.heap _)
  · refine OGot.go (fun t k => XS.icmpNo X0.here hx rfl (hb hby d8_21) rfl (feq hs12).1 k) ?_
    show OGot p.tables e below (s₁.setTop (mkF m 24 #[.val (.ref a1), .val (.ref a2), .val (.int (0 : Int32))] [])) _
    refine OGot.go (fun t k => XS.iconst X0.here hx rfl (hb hby d8_24) k) ?_
    show OGot p.tables e below (s₁.setTop (mkF m 25 #[.val (.ref a1), .val (.ref a2), .val (.int (0 : Int32))] [(.int (0 : Int32))])) _
    obtain ⟨fs, hr, hrun, hended, hW, hsame⟩ := X0.leave (v := some (.int (0 : Int32))) (fun h => by rw [Bd.returns] at h; cases h)
    refine ⟨_, _, retN X0 hx (t := .boolean) Bd.returns (by simp) (hb hby d8_25) hr, hrun, hended, _, _, rfl, ?_, ⟨_, rfl⟩, hW, hsame.mono (by decide) (by decide)⟩
    exact (⟨(by unfold f8; rw [if_neg hs12]), N0, e0⟩ : Q8 Z w_INTEGER w_TEXT w_DATE w_DECIMAL i_COMPACT_STRINGS a1 a2 k3 p4 k6 p7 h0 n0 _ s₁.heap _)
theorem pd_5 : parseMethodDescriptor "([B[B)Z" = some ⟨[(.array .byte), (.array .byte)], some .boolean⟩ := by decide +kernel
theorem d7_47 : decode jdk_42_method_66_code 47 = .ok (.ifCond .eq 7, 3) := by decide +kernel
theorem d7_54 : decode jdk_42_method_66_code 54 = .ok (.iconst 0, 1) := by decide +kernel
theorem d7_55 : decode jdk_42_method_66_code 55 = .ok (.ireturn, 1) := by decide +kernel
theorem d7_50 : decode jdk_42_method_66_code 50 = .ok (.iconst 1, 1) := by decide +kernel
theorem d7_51 : decode jdk_42_method_66_code 51 = .ok (.goto 4, 3) := by decide +kernel
def f7 (p14 : Int32) (p16 : Int32) : Int32 := (if (f8 p14 p16) = (0 : Int32) then (0 : Int32) else (1 : Int32))
def Q7 (Z : State) (w_INTEGER : Addr) (w_TEXT : Addr) (w_DATE : Addr) (w_DECIMAL : Addr) (i_COMPACT_STRINGS : Int32) (a1 : Addr) (a2 : Addr) (a9 : Addr) (a11 : Addr) (k13 : ClassId) (p14 : Int32) (k15 : ClassId) (p16 : Int32) (h0 : Heap) (n0 : Nat) (v : Option Value) (h : Heap) (L : List Loc) : Prop := v = some (.int (f7 p14 p16)) ∧ Fr n0 L ∧ h = h0
theorem ef7 (m : MethodId) (x0 : Addr) (x1 : Addr) : entryFrame m #[(.ref x0), (.ref x1)] 3 = mkF m 0 #[.val (.ref x0), .val (.ref x1), .unset] [] := by first | (simp [entryFrame, mkF, argsToLocals, Value.category]; done) | rfl
set_option maxRecDepth 65536 in
set_option maxHeartbeats 40000000 in
theorem rm7 (l : Launch) (Z : State) (a0 : Array Value) (hw : ∀ d ∈ tables_1, d.before a0 Z = true) (ws : List Jvm.Cond) {w_INTEGER : Addr} {w_TEXT : Addr} {w_DATE : Addr} {w_DECIMAL : Addr} {i_COMPACT_STRINGS : Int32} (G : Glob Z w_INTEGER w_TEXT w_DATE w_DECIMAL i_COMPACT_STRINGS) (a1 : Addr) (a2 : Addr) (a9 : Addr) (a11 : Addr) (k13 : ClassId) (p14 : Int32) (k15 : ClassId) (p16 : Int32) (h0 : Heap) (n0 : Nat) (O0 : Old Z n0 h0) (ne_a1_a2 : a1 ≠ a2) (E_a2 : Exa Z h0 a2 "java/lang/String") (F_coder_a1 : Fld Z h0 a1 "java/lang/String" "coder" "B" (.int (0 : Int32))) (F_coder_a2 : Fld Z h0 a2 "java/lang/String" "coder" "B" (.int (0 : Int32))) (F_value_a1 : Fld Z h0 a1 "java/lang/String" "value" "[B" (.ref a9)) (F_value_a2 : Fld Z h0 a2 "java/lang/String" "value" "[B" (.ref a11)) (V_a9 : Arv Z h0 a9 k13 .byte (1 : Int32) [(.int p14)] (.int (0 : Int32))) (V_a11 : Arv Z h0 a11 k15 .byte (1 : Int32) [(.int p16)] (.int (0 : Int32))) :
    MetFree l (⟨"java/lang/String", "equals", "(Ljava/lang/Object;)Z"⟩ : MethodName) (head1 (Jvm.Cond.code (⟨"java/lang/String", "equals", "(Ljava/lang/Object;)Z"⟩ : MethodName) jdk_42_method_66_code 3 (some .boolean) :: ws) ({ frames := 1, cells := 0, slots := 0, locals := 14 } : Room)) (fun a U => a = #[(.ref a1), (.ref a2)] ∧ Z.Warmed39 U.vm ∧ U.heap = h0) (fun _ _ _ _ _ => True) (fun _ U o U' => ∃ v L, o = .returned v ∧ Q7 Z w_INTEGER w_TEXT w_DATE w_DECIMAL i_COMPACT_STRINGS a1 a2 a9 a11 k13 p14 k15 p16 h0 n0 v U'.heap L ∧ FrameEnd U o U' L ({ frames := 1, cells := 0, slots := 0, locals := 14 } : Room).cells ({ frames := 1, cells := 0, slots := 0, locals := 14 } : Room).slots) := by
  refine MetFree.of_bodySF (plainFor_of_name pn_java_lang_String) hisR ?_
  intro p e s m args below meth c s₁ Bd hml0 hP hK
  obtain ⟨rfl, hZ, hh⟩ := hP
  have hx := Bd.exec
  have hby := Bd.bytes
  have hml : c.maxLocals = 3 := hml0
  have hown : s.vm.findClass "java/lang/String" = some m.cls := findClass_of_methodNamed Bd.named
  have hnm := (name_of_methodNamed Bd.named Bd.method).1
  have X0 : Stand p l e ({ frames := 1, cells := 0, slots := 0, locals := 14 } : Room) s m #[(.ref a1), (.ref a2)] below meth c s₁ [] 0 0 := Stand.of_body Bd
  have e0 : s₁.heap = h0 := by rw [← hh, Bd.state]; rfl
  have N0 := Fr.nil n0
  show OGot p.tables e below (s₁.setTop (entryFrame m #[(.ref a1), (.ref a2)] 3)) _
  refine OGot.go (fun t k => castTop (ef7 m a1 a2) k) ?_
  show OGot p.tables e below (s₁.setTop (mkF m 0 #[.val (.ref a1), .val (.ref a2), .unset] [])) _
  refine OGot.go (fun t k => XS.aloadN X0.here hx rfl (hb hby d7_0) rfl rfl k) ?_
  show OGot p.tables e below (s₁.setTop (mkF m 1 #[.val (.ref a1), .val (.ref a2), .unset] [(.ref a1)])) _
  refine OGot.go (fun t k => XS.aloadN X0.here hx rfl (hb hby d7_1) rfl rfl k) ?_
  show OGot p.tables e below (s₁.setTop (mkF m 2 #[.val (.ref a1), .val (.ref a2), .unset] [(.ref a2), (.ref a1)])) _
  have ne3 : a1 ≠ a2 := ne_a1_a2
  refine OGot.go (fun t k => Jvm.RoadKit.acmp (g := (mkF m 2 #[.val (.ref a1), .val (.ref a2), .unset] [(.ref a2), (.ref a1)])) X0 hx rfl rfl rfl (pc0 := 2) (pc' := 7) (same := false) rfl (hb hby d7_2) rfl (decide_eq_false fun q => ne3 (Value.ref.inj q)) (by decide) (by decide) k) ?_
  show OGot p.tables e below (s₁.setTop (mkF m 7 #[.val (.ref a1), .val (.ref a2), .unset] [])) _
  refine OGot.go (fun t k => XS.aloadN X0.here hx rfl (hb hby d7_7) rfl rfl k) ?_
  show OGot p.tables e below (s₁.setTop (mkF m 8 #[.val (.ref a1), .val (.ref a2), .unset] [(.ref a2)])) _
  obtain ⟨T4, X4, e4, st4⟩ := instY X0 hx hZ hown (ow hw 10 rfl) e0 (Ins.self E_a2) (g := (mkF m 8 #[.val (.ref a1), .val (.ref a2), .unset] [(.ref a2)])) rfl rfl (hb hby d7_8)
  refine OGot.go st4 ?_
  show OGot p.tables e below (T4.setTop (mkF m 11 #[.val (.ref a1), .val (.ref a2), .unset] [(.int (1 : Int32))])) _
  refine OGot.go (fun t k => XS.ifNo X4.here hx rfl (hb hby d7_11) rfl (by decide) k) ?_
  show OGot p.tables e below (T4.setTop (mkF m 14 #[.val (.ref a1), .val (.ref a2), .unset] [])) _
  refine OGot.go (fun t k => XS.aloadN X4.here hx rfl (hb hby d7_14) rfl rfl k) ?_
  show OGot p.tables e below (T4.setTop (mkF m 15 #[.val (.ref a1), .val (.ref a2), .unset] [(.ref a2)])) _
  obtain ⟨T5, X5, e5, st5⟩ := castY X4 hx hZ hown (ow hw 10 rfl) e4 (Ins.self E_a2) (g := (mkF m 15 #[.val (.ref a1), .val (.ref a2), .unset] [(.ref a2)])) rfl rfl (hb hby d7_15)
  refine OGot.go st5 ?_
  show OGot p.tables e below (T5.setTop (mkF m 18 #[.val (.ref a1), .val (.ref a2), .unset] [(.ref a2)])) _
  refine OGot.go (fun t k => XS.astoreN X5.here hx rfl (hb hby d7_18) rfl rfl (l' := #[.val (.ref a1), .val (.ref a2), .val (.ref a2)]) rfl k) ?_
  show OGot p.tables e below (T5.setTop (mkF m 19 #[.val (.ref a1), .val (.ref a2), .val (.ref a2)] [])) _
  obtain ⟨T6, X6, e6, st6⟩ := getS2 X5 hx hZ hown (host := "") (Or.inl (ow hw 5 rfl)) Via.refl e5 (G.2.2.2.2.2.2.2.2.2.2.2.2.1.ext O0.2) (g := (mkF m 19 #[.val (.ref a1), .val (.ref a2), .val (.ref a2)] [])) rfl (hb hby d7_19)
  refine OGot.go st6 ?_
  show OGot p.tables e below (T6.setTop (mkF m 22 #[.val (.ref a1), .val (.ref a2), .val (.ref a2)] [(.int i_COMPACT_STRINGS)])) _
  refine OGot.go (fun t k => XS.ifNo X6.here hx rfl (hb hby d7_22) rfl ((if0 _ _).trans (feq G.2.2.2.2.2.2.2.2.2.2.2.2.2).1) k) ?_
  show OGot p.tables e below (T6.setTop (mkF m 25 #[.val (.ref a1), .val (.ref a2), .val (.ref a2)] [])) _
  refine OGot.go (fun t k => XS.aloadN X6.here hx rfl (hb hby d7_25) rfl rfl k) ?_
  show OGot p.tables e below (T6.setTop (mkF m 26 #[.val (.ref a1), .val (.ref a2), .val (.ref a2)] [(.ref a1)])) _
  obtain ⟨T7, X7, e7, st7⟩ := getF X6 hx hZ hown (host := "") (Or.inl (ow hw 25 rfl)) Via.refl e6 F_coder_a1 (g := (mkF m 26 #[.val (.ref a1), .val (.ref a2), .val (.ref a2)] [(.ref a1)])) rfl rfl (hb hby d7_26)
  refine OGot.go st7 ?_
  show OGot p.tables e below (T7.setTop (mkF m 29 #[.val (.ref a1), .val (.ref a2), .val (.ref a2)] [(.int (0 : Int32))])) _
  refine OGot.go (fun t k => XS.aloadN X7.here hx rfl (hb hby d7_29) rfl rfl k) ?_
  show OGot p.tables e below (T7.setTop (mkF m 30 #[.val (.ref a1), .val (.ref a2), .val (.ref a2)] [(.ref a2), (.int (0 : Int32))])) _
  obtain ⟨T8, X8, e8, st8⟩ := getF X7 hx hZ hown (host := "") (Or.inl (ow hw 25 rfl)) Via.refl e7 F_coder_a2 (g := (mkF m 30 #[.val (.ref a1), .val (.ref a2), .val (.ref a2)] [(.ref a2), (.int (0 : Int32))])) rfl rfl (hb hby d7_30)
  refine OGot.go st8 ?_
  show OGot p.tables e below (T8.setTop (mkF m 33 #[.val (.ref a1), .val (.ref a2), .val (.ref a2)] [(.int (0 : Int32)), (.int (0 : Int32))])) _
  refine OGot.go (fun t k => XS.icmpNo X8.here hx rfl (hb hby d7_33) rfl (by decide) k) ?_
  show OGot p.tables e below (T8.setTop (mkF m 36 #[.val (.ref a1), .val (.ref a2), .val (.ref a2)] [])) _
  refine OGot.go (fun t k => XS.aloadN X8.here hx rfl (hb hby d7_36) rfl rfl k) ?_
  show OGot p.tables e below (T8.setTop (mkF m 37 #[.val (.ref a1), .val (.ref a2), .val (.ref a2)] [(.ref a1)])) _
  obtain ⟨T10, X10, e10, st10⟩ := getF X8 hx hZ hown (host := "") (Or.inl (ow hw 23 rfl)) Via.refl e8 F_value_a1 (g := (mkF m 37 #[.val (.ref a1), .val (.ref a2), .val (.ref a2)] [(.ref a1)])) rfl rfl (hb hby d7_37)
  refine OGot.go st10 ?_
  show OGot p.tables e below (T10.setTop (mkF m 40 #[.val (.ref a1), .val (.ref a2), .val (.ref a2)] [(.ref a9)])) _
  refine OGot.go (fun t k => XS.aloadN X10.here hx rfl (hb hby d7_40) rfl rfl k) ?_
  show OGot p.tables e below (T10.setTop (mkF m 41 #[.val (.ref a1), .val (.ref a2), .val (.ref a2)] [(.ref a2), (.ref a9)])) _
  obtain ⟨T12, X12, e12, st12⟩ := getF X10 hx hZ hown (host := "") (Or.inl (ow hw 23 rfl)) Via.refl e10 F_value_a2 (g := (mkF m 41 #[.val (.ref a1), .val (.ref a2), .val (.ref a2)] [(.ref a2), (.ref a9)])) rfl rfl (hb hby d7_41)
  refine OGot.go st12 ?_
  show OGot p.tables e below (T12.setTop (mkF m 44 #[.val (.ref a1), .val (.ref a2), .val (.ref a2)] [(.ref a11), (.ref a9)])) _
  obtain ⟨_, _, ⟨T17, L17, k17, n17⟩, -, X17, ⟨Lc17, hQ17, l17, y17, z17⟩, st17⟩ := Jvm.LawKit.callS X12 hx (y := (⟨"java/lang/StringLatin1", "equals", "([B[B)Z"⟩ : MethodName)) hown (mvT hZ (ow hw 41 rfl)) (mvT hZ (ow hw 42 rfl)) (mvT hZ (ow hw 8 rfl)) (mvT hZ (ow hw 43 rfl)) (by decide) (backOf (W := 0) (rm8 l Z a0 hw [] G a9 a11 k13 p14 k15 p16 h0 n0 O0 V_a9 V_a11) hZ (ow hw 43 rfl) (ow hw 8 rfl) (by decide) (by decide)) (g := (mkF m 44 #[.val (.ref a1), .val (.ref a2), .val (.ref a2)] [(.ref a11), (.ref a9)])) rfl (by rw [hml]; rfl) (argsL := [(.ref a9), (.ref a11)]) (rest := []) (lenOf pd_5 rfl) rfl (by show 2 * 0 + _ ≤ _; exact Nat.le_of_eq rfl) (hb hby d7_44) (fun _ _ => ⟨rfl, e12, (by decide : 0 + 0 ≤ _), (by decide : 0 + 0 ≤ _)⟩)
  dsimp only [Pt.U, Pt.locs, Pt.cells, Pt.slots] at X17 l17 y17 z17 st17 hQ17
  subst l17 y17 z17
  obtain ⟨rfl, N17q, e17⟩ := hQ17
  have N17 := Fr.app N0 N17q
  refine OGot.go st17 ?_
  show OGot p.tables e below (T17.setTop (mkF m 47 #[.val (.ref a1), .val (.ref a2), .val (.ref a2)] [(.int (f8 p14 p16))])) _
  by_cases hs18 : (f8 p14 p16) = (0 : Int32)
  · refine OGot.go (fun t k => XS.ifYes X17.here hx rfl (pc0 := 47) (pc' := 54) rfl (hb hby d7_47) rfl ((if0 _ _).trans (teq hs18).1) (by decide) (by decide) k) ?_
    show OGot p.tables e below (T17.setTop (mkF m 54 #[.val (.ref a1), .val (.ref a2), .val (.ref a2)] [])) _
    refine OGot.go (fun t k => XS.iconst X17.here hx rfl (hb hby d7_54) k) ?_
    show OGot p.tables e below (T17.setTop (mkF m 55 #[.val (.ref a1), .val (.ref a2), .val (.ref a2)] [(.int (0 : Int32))])) _
    obtain ⟨fs, hr, hrun, hended, hW, hsame⟩ := X17.leave (v := some (.int (0 : Int32))) (fun h => by rw [Bd.returns] at h; cases h)
    refine ⟨_, _, retN X17 hx (t := .boolean) Bd.returns (by simp) (hb hby d7_55) hr, hrun, hended, _, _, rfl, ?_, ⟨_, rfl⟩, hW, hsame.mono (by decide) (by decide)⟩
    exact (⟨(by unfold f7; rw [if_pos hs18]), N17, e17⟩ : Q7 Z w_INTEGER w_TEXT w_DATE w_DECIMAL i_COMPACT_STRINGS a1 a2 a9 a11 k13 p14 k15 p16 h0 n0 _ T17.heap _)
  · refine OGot.go (fun t k => XS.ifNo X17.here hx rfl (hb hby d7_47) rfl ((if0 _ _).trans (feq hs18).1) k) ?_
    show OGot p.tables e below (T17.setTop (mkF m 50 #[.val (.ref a1), .val (.ref a2), .val (.ref a2)] [])) _
    refine OGot.go (fun t k => XS.iconst X17.here hx rfl (hb hby d7_50) k) ?_
    show OGot p.tables e below (T17.setTop (mkF m 51 #[.val (.ref a1), .val (.ref a2), .val (.ref a2)] [(.int (1 : Int32))])) _
    refine OGot.go (fun t k => XS.goto X17.here hx rfl (pc0 := 51) (pc' := 55) rfl (hb hby d7_51) (by decide) (by decide) k) ?_
    show OGot p.tables e below (T17.setTop (mkF m 55 #[.val (.ref a1), .val (.ref a2), .val (.ref a2)] [(.int (1 : Int32))])) _
    obtain ⟨fs, hr, hrun, hended, hW, hsame⟩ := X17.leave (v := some (.int (1 : Int32))) (fun h => by rw [Bd.returns] at h; cases h)
    refine ⟨_, _, retN X17 hx (t := .boolean) Bd.returns (by simp) (hb hby d7_55) hr, hrun, hended, _, _, rfl, ?_, ⟨_, rfl⟩, hW, hsame.mono (by decide) (by decide)⟩
    exact (⟨(by unfold f7; rw [if_neg hs18]), N17, e17⟩ : Q7 Z w_INTEGER w_TEXT w_DATE w_DECIMAL i_COMPACT_STRINGS a1 a2 a9 a11 k13 p14 k15 p16 h0 n0 _ T17.heap _)
theorem pd_6 : parseMethodDescriptor "(Ljava/lang/Object;)Z" = some ⟨[(.object "java/lang/Object")], some .boolean⟩ := by decide +kernel
theorem d9_0 : decode prog_29_method_1_code 0 = .ok (.aload_n 0, 1) := by decide +kernel
theorem d9_1 : decode prog_29_method_1_code 1 = .ok (.invokespecial 1, 3) := by decide +kernel
theorem d10_0 : decode jdk_30_method_1_code 0 = .ok (.aload_n 0, 1) := by decide +kernel
theorem d10_1 : decode jdk_30_method_1_code 1 = .ok (.invokespecial 1, 3) := by decide +kernel
theorem d10_4 : decode jdk_30_method_1_code 4 = .ok (.return_, 1) := by decide +kernel
theorem pn_java_lang_Record : plainName "java/lang/Record" = true := by first | (simp [plainName, overriddenIn]; done) | decide +kernel
def Q10 (Z : State) (w_INTEGER : Addr) (w_TEXT : Addr) (w_DATE : Addr) (w_DECIMAL : Addr) (i_COMPACT_STRINGS : Int32) (a1 : Addr) (h0 : Heap) (n0 : Nat) (v : Option Value) (h : Heap) (L : List Loc) : Prop := v = none ∧ Fr n0 L ∧ h = h0
theorem ef10 (m : MethodId) (x0 : Addr) : entryFrame m #[(.ref x0)] 1 = mkF m 0 #[.val (.ref x0)] [] := by first | (simp [entryFrame, mkF, argsToLocals, Value.category]; done) | rfl
set_option maxRecDepth 65536 in
set_option maxHeartbeats 40000000 in
theorem rm10 (l : Launch) (Z : State) (a0 : Array Value) (hw : ∀ d ∈ tables_1, d.before a0 Z = true) (ws : List Jvm.Cond) {w_INTEGER : Addr} {w_TEXT : Addr} {w_DATE : Addr} {w_DECIMAL : Addr} {i_COMPACT_STRINGS : Int32} (G : Glob Z w_INTEGER w_TEXT w_DATE w_DECIMAL i_COMPACT_STRINGS) (a1 : Addr) (h0 : Heap) (n0 : Nat) (O0 : Old Z n0 h0) :
    MetFree l (⟨"java/lang/Record", "<init>", "()V"⟩ : MethodName) (head1 (Jvm.Cond.code (⟨"java/lang/Record", "<init>", "()V"⟩ : MethodName) jdk_30_method_1_code 1 none :: ws) ({ frames := 1, cells := 0, slots := 0, locals := 12 } : Room)) (fun a U => a = #[(.ref a1)] ∧ Z.Warmed39 U.vm ∧ U.heap = h0) (fun _ _ _ _ _ => True) (fun _ U o U' => ∃ v L, o = .returned v ∧ Q10 Z w_INTEGER w_TEXT w_DATE w_DECIMAL i_COMPACT_STRINGS a1 h0 n0 v U'.heap L ∧ FrameEnd U o U' L ({ frames := 1, cells := 0, slots := 0, locals := 12 } : Room).cells ({ frames := 1, cells := 0, slots := 0, locals := 12 } : Room).slots) := by
  refine MetFree.of_bodySF (plainFor_of_name pn_java_lang_Record) hisR ?_
  intro p e s m args below meth c s₁ Bd hml0 hP hK
  obtain ⟨rfl, hZ, hh⟩ := hP
  have hx := Bd.exec
  have hby := Bd.bytes
  have hml : c.maxLocals = 1 := hml0
  have hown : s.vm.findClass "java/lang/Record" = some m.cls := findClass_of_methodNamed Bd.named
  have hnm := (name_of_methodNamed Bd.named Bd.method).1
  have X0 : Stand p l e ({ frames := 1, cells := 0, slots := 0, locals := 12 } : Room) s m #[(.ref a1)] below meth c s₁ [] 0 0 := Stand.of_body Bd
  have e0 : s₁.heap = h0 := by rw [← hh, Bd.state]; rfl
  have N0 := Fr.nil n0
  show OGot p.tables e below (s₁.setTop (entryFrame m #[(.ref a1)] 1)) _
  refine OGot.go (fun t k => castTop (ef10 m a1) k) ?_
  show OGot p.tables e below (s₁.setTop (mkF m 0 #[.val (.ref a1)] [])) _
  refine OGot.go (fun t k => XS.aloadN X0.here hx rfl (hb hby d10_0) rfl rfl k) ?_
  show OGot p.tables e below (s₁.setTop (mkF m 1 #[.val (.ref a1)] [(.ref a1)])) _
  obtain ⟨T2, X2, e2, st2⟩ := initO X0 hx hZ hown (ow hw 55 rfl) (ow hw 21 rfl) (ow hw 22 rfl) e0 (g := (mkF m 1 #[.val (.ref a1)] [(.ref a1)])) rfl (by rw [hml]; rfl) rfl (hb hby d10_1) (by decide) (W := 0) (by show 2 * 0 + _ ≤ _; exact Nat.le_of_eq rfl) (by decide)
  refine OGot.go st2 ?_
  show OGot p.tables e below (T2.setTop (mkF m 4 #[.val (.ref a1)] [])) _
  obtain ⟨fs, hr, hrun, hended, hW, hsame⟩ := X2.leave (v := none) (fun _ => rfl)
  refine ⟨_, _, X2.returnOut hx Bd.returns (hb hby d10_4) hr, hrun, hended, _, _, rfl, ?_, ⟨_, rfl⟩, hW, hsame.mono (by decide) (by decide)⟩
  exact (⟨rfl, N0, e2⟩ : Q10 Z w_INTEGER w_TEXT w_DATE w_DECIMAL i_COMPACT_STRINGS a1 h0 n0 _ T2.heap _)
theorem pd_7 : parseMethodDescriptor "()V" = some ⟨[], none⟩ := by decide +kernel
theorem d9_4 : decode prog_29_method_1_code 4 = .ok (.aload_n 0, 1) := by decide +kernel
theorem d9_5 : decode prog_29_method_1_code 5 = .ok (.aload_n 1, 1) := by decide +kernel
theorem d9_6 : decode prog_29_method_1_code 6 = .ok (.putfield 7, 3) := by decide +kernel
theorem d9_9 : decode prog_29_method_1_code 9 = .ok (.aload_n 0, 1) := by decide +kernel
theorem d9_10 : decode prog_29_method_1_code 10 = .ok (.aload_n 2, 1) := by decide +kernel
theorem d9_11 : decode prog_29_method_1_code 11 = .ok (.putfield 13, 3) := by decide +kernel
theorem d9_14 : decode prog_29_method_1_code 14 = .ok (.aload_n 0, 1) := by decide +kernel
theorem d9_15 : decode prog_29_method_1_code 15 = .ok (.iload_n 3, 1) := by decide +kernel
theorem d9_16 : decode prog_29_method_1_code 16 = .ok (.putfield 17, 3) := by decide +kernel
theorem d9_19 : decode prog_29_method_1_code 19 = .ok (.aload_n 0, 1) := by decide +kernel
theorem d9_20 : decode prog_29_method_1_code 20 = .ok (.aload 4, 2) := by decide +kernel
theorem d9_22 : decode prog_29_method_1_code 22 = .ok (.putfield 21, 3) := by decide +kernel
theorem d9_25 : decode prog_29_method_1_code 25 = .ok (.return_, 1) := by decide +kernel
theorem pn_com_example_archipel_archipel_model_Attribute : plainName "com/example/archipel/archipel/model/Attribute" = true := by first | (simp [plainName, overriddenIn]; done) | decide +kernel
def Q9 (Z : State) (w_INTEGER : Addr) (w_TEXT : Addr) (w_DATE : Addr) (w_DECIMAL : Addr) (i_COMPACT_STRINGS : Int32) (a1 : Addr) (a2 : Addr) (a3 : Addr) (p4 : Int32) (h0 : Heap) (n0 : Nat) (v : Option Value) (h : Heap) (L : List Loc) : Prop := Fr n0 L ∧ v = none ∧ OKeep h0 h [(a1, Jvm.RoadKit.slotOf Z "com/example/archipel/archipel/model/Attribute" "name" "Ljava/lang/String;"), (a1, Jvm.RoadKit.slotOf Z "com/example/archipel/archipel/model/Attribute" "type" "Lcom/example/archipel/archipel/model/DataType;"), (a1, Jvm.RoadKit.slotOf Z "com/example/archipel/archipel/model/Attribute" "notNull" "Z"), (a1, Jvm.RoadKit.slotOf Z "com/example/archipel/archipel/model/Attribute" "references" "Ljava/lang/String;")] ∧ Fld Z h a1 "com/example/archipel/archipel/model/Attribute" "name" "Ljava/lang/String;" (.ref a2) ∧ Fld Z h a1 "com/example/archipel/archipel/model/Attribute" "type" "Lcom/example/archipel/archipel/model/DataType;" (.ref a3) ∧ Fld Z h a1 "com/example/archipel/archipel/model/Attribute" "notNull" "Z" (.int (nar .boolean p4)) ∧ Fld Z h a1 "com/example/archipel/archipel/model/Attribute" "references" "Ljava/lang/String;" .null
theorem ef9 (m : MethodId) (x0 : Addr) (x1 : Addr) (x2 : Addr) (x3 : Int32) : entryFrame m #[(.ref x0), (.ref x1), (.ref x2), (.int x3), .null] 5 = mkF m 0 #[.val (.ref x0), .val (.ref x1), .val (.ref x2), .val (.int x3), .val .null] [] := by first | (simp [entryFrame, mkF, argsToLocals, Value.category]; done) | rfl
set_option maxRecDepth 65536 in
set_option maxHeartbeats 40000000 in
theorem rm9 (l : Launch) (Z : State) (a0 : Array Value) (hw : ∀ d ∈ tables_1, d.before a0 Z = true) (ws : List Jvm.Cond) {w_INTEGER : Addr} {w_TEXT : Addr} {w_DATE : Addr} {w_DECIMAL : Addr} {i_COMPACT_STRINGS : Int32} (G : Glob Z w_INTEGER w_TEXT w_DATE w_DECIMAL i_COMPACT_STRINGS) (a1 : Addr) (a2 : Addr) (a3 : Addr) (p4 : Int32) (h0 : Heap) (n0 : Nat) (O0 : Old Z n0 h0) (E_a1 : Exa Z h0 a1 "com/example/archipel/archipel/model/Attribute") (F_name_a1 : Fld Z h0 a1 "com/example/archipel/archipel/model/Attribute" "name" "Ljava/lang/String;" .null) (g_a1 : n0 ≤ a1) (F_type_a1 : Fld Z h0 a1 "com/example/archipel/archipel/model/Attribute" "type" "Lcom/example/archipel/archipel/model/DataType;" .null) (F_notNull_a1 : Fld Z h0 a1 "com/example/archipel/archipel/model/Attribute" "notNull" "Z" (.int (0 : Int32))) (F_references_a1 : Fld Z h0 a1 "com/example/archipel/archipel/model/Attribute" "references" "Ljava/lang/String;" .null) :
    MetFree l (⟨"com/example/archipel/archipel/model/Attribute", "<init>", "(Ljava/lang/String;Lcom/example/archipel/archipel/model/DataType;ZLjava/lang/String;)V"⟩ : MethodName) (head1 (Jvm.Cond.code (⟨"com/example/archipel/archipel/model/Attribute", "<init>", "(Ljava/lang/String;Lcom/example/archipel/archipel/model/DataType;ZLjava/lang/String;)V"⟩ : MethodName) prog_29_method_1_code 5 none :: ws) ({ frames := 2, cells := 0, slots := 0, locals := 24 } : Room)) (fun a U => a = #[(.ref a1), (.ref a2), (.ref a3), (.int p4), .null] ∧ Z.Warmed39 U.vm ∧ U.heap = h0) (fun _ _ _ _ _ => True) (fun _ U o U' => ∃ v L, o = .returned v ∧ Q9 Z w_INTEGER w_TEXT w_DATE w_DECIMAL i_COMPACT_STRINGS a1 a2 a3 p4 h0 n0 v U'.heap L ∧ FrameEnd U o U' L ({ frames := 2, cells := 0, slots := 0, locals := 24 } : Room).cells ({ frames := 2, cells := 0, slots := 0, locals := 24 } : Room).slots) := by
  refine MetFree.of_bodySF (plainFor_of_name pn_com_example_archipel_archipel_model_Attribute) hisR ?_
  intro p e s m args below meth c s₁ Bd hml0 hP hK
  obtain ⟨rfl, hZ, hh⟩ := hP
  have hx := Bd.exec
  have hby := Bd.bytes
  have hml : c.maxLocals = 5 := hml0
  have hown : s.vm.findClass "com/example/archipel/archipel/model/Attribute" = some m.cls := findClass_of_methodNamed Bd.named
  have hnm := (name_of_methodNamed Bd.named Bd.method).1
  have X0 : Stand p l e ({ frames := 2, cells := 0, slots := 0, locals := 24 } : Room) s m #[(.ref a1), (.ref a2), (.ref a3), (.int p4), .null] below meth c s₁ [] 0 0 := Stand.of_body Bd
  have e0 : s₁.heap = h0 := by rw [← hh, Bd.state]; rfl
  have N0 := Fr.nil n0
  show OGot p.tables e below (s₁.setTop (entryFrame m #[(.ref a1), (.ref a2), (.ref a3), (.int p4), .null] 5)) _
  refine OGot.go (fun t k => castTop (ef9 m a1 a2 a3 p4) k) ?_
  show OGot p.tables e below (s₁.setTop (mkF m 0 #[.val (.ref a1), .val (.ref a2), .val (.ref a3), .val (.int p4), .val .null] [])) _
  refine OGot.go (fun t k => XS.aloadN X0.here hx rfl (hb hby d9_0) rfl rfl k) ?_
  show OGot p.tables e below (s₁.setTop (mkF m 1 #[.val (.ref a1), .val (.ref a2), .val (.ref a3), .val (.int p4), .val .null] [(.ref a1)])) _
  obtain ⟨_, _, ⟨T5, L5, k5, n5⟩, -, X5, ⟨Lc5, hQ5, l5, y5, z5⟩, st5⟩ := X0.specialBack hx (y := (⟨"java/lang/Record", "<init>", "()V"⟩ : MethodName)) rfl hown (mvT hZ (ow hw 50 rfl)) (mvT hZ (ow hw 51 rfl)) (mvT hZ (ow hw 54 rfl)) (by decide) (backOf (W := 0) (rm10 l Z a0 hw [] G a1 h0 n0 O0 ) hZ (ow hw 54 rfl) (ow hw 53 rfl) (by decide) (by decide)) (g := (mkF m 1 #[.val (.ref a1), .val (.ref a2), .val (.ref a3), .val (.int p4), .val .null] [(.ref a1)])) rfl (by rw [hml]; rfl) (Steps.refl _) (a := a1) (argsL := []) (rest := []) (lenOf pd_7 rfl) rfl (by show 2 * 0 + _ ≤ _; exact Nat.le_of_eq rfl) (hb hby d9_1) (fun _ _ => ⟨rfl, e0, (by decide : 0 + 0 ≤ _), (by decide : 0 + 0 ≤ _)⟩)
  dsimp only [Pt.U, Pt.locs, Pt.cells, Pt.slots] at X5 l5 y5 z5 st5 hQ5
  subst l5 y5 z5
  obtain ⟨rfl, N5q, e5⟩ := hQ5
  have N5 := Fr.app N0 N5q
  refine OGot.on st5 ?_
  show OGot p.tables e below (T5.setTop (mkF m 4 #[.val (.ref a1), .val (.ref a2), .val (.ref a3), .val (.int p4), .val .null] [])) _
  refine OGot.go (fun t k => XS.aloadN X5.here hx rfl (hb hby d9_4) rfl rfl k) ?_
  show OGot p.tables e below (T5.setTop (mkF m 5 #[.val (.ref a1), .val (.ref a2), .val (.ref a3), .val (.int p4), .val .null] [(.ref a1)])) _
  refine OGot.go (fun t k => XS.aloadN X5.here hx rfl (hb hby d9_5) rfl rfl k) ?_
  show OGot p.tables e below (T5.setTop (mkF m 6 #[.val (.ref a1), .val (.ref a2), .val (.ref a3), .val (.int p4), .val .null] [(.ref a2), (.ref a1)])) _
  obtain ⟨T6, h6, X6, e6, W6, st6⟩ := putF X5 hx hZ hown (host := "") (Or.inl (ow hw 56 rfl)) Via.refl e5 F_name_a1 E_a1 (Or.inr ⟨(ow hw 57 rfl), rfl, hnm⟩) (ow hw 45 rfl) (ty := (.object "java/lang/String")) (by decide) rfl rfl (g := (mkF m 6 #[.val (.ref a1), .val (.ref a2), .val (.ref a3), .val (.int p4), .val .null] [(.ref a2), (.ref a1)])) rfl rfl (hb hby d9_6)
  refine OGot.go st6 ?_
  have N6 := Fr.snoc X6 N5 g_a1
  have O6 := O0.wr W6 g_a1
  have K6 := (OKeep.refl h0 [(a1, Jvm.RoadKit.slotOf Z "com/example/archipel/archipel/model/Attribute" "name" "Ljava/lang/String;"), (a1, Jvm.RoadKit.slotOf Z "com/example/archipel/archipel/model/Attribute" "type" "Lcom/example/archipel/archipel/model/DataType;"), (a1, Jvm.RoadKit.slotOf Z "com/example/archipel/archipel/model/Attribute" "notNull" "Z"), (a1, Jvm.RoadKit.slotOf Z "com/example/archipel/archipel/model/Attribute" "references" "Ljava/lang/String;")]).wr W6 (Or.inl (List.mem_of_getElem? (i := 0) rfl))
  have Fw6 : Fld Z h6 a1 "com/example/archipel/archipel/model/Attribute" "name" "Ljava/lang/String;" (.ref a2) := F_name_a1.same W6
  show OGot p.tables e below (T6.setTop (mkF m 9 #[.val (.ref a1), .val (.ref a2), .val (.ref a3), .val (.int p4), .val .null] [])) _
  refine OGot.go (fun t k => XS.aloadN X6.here hx rfl (hb hby d9_9) rfl rfl k) ?_
  show OGot p.tables e below (T6.setTop (mkF m 10 #[.val (.ref a1), .val (.ref a2), .val (.ref a3), .val (.int p4), .val .null] [(.ref a1)])) _
  refine OGot.go (fun t k => XS.aloadN X6.here hx rfl (hb hby d9_10) rfl rfl k) ?_
  show OGot p.tables e below (T6.setTop (mkF m 11 #[.val (.ref a1), .val (.ref a2), .val (.ref a3), .val (.int p4), .val .null] [(.ref a3), (.ref a1)])) _
  have F7 : Fld Z h6 a1 "com/example/archipel/archipel/model/Attribute" "type" "Lcom/example/archipel/archipel/model/DataType;" .null := (F_type_a1.other W6 (Or.inr (slot_ne (Or.inr (ow hw 59 rfl)) (Or.inr (ow hw 57 rfl)) (by decide) (t := (.object "com/example/archipel/archipel/model/DataType")) (t' := (.object "java/lang/String")) (by decide) (by decide))))
  obtain ⟨T8, h8, X8, e8, W8, st8⟩ := putF X6 hx hZ hown (host := "") (Or.inl (ow hw 58 rfl)) Via.refl e6 F7 (E_a1.wr W6) (Or.inr ⟨(ow hw 59 rfl), rfl, hnm⟩) (ow hw 45 rfl) (ty := (.object "com/example/archipel/archipel/model/DataType")) (by decide) rfl rfl (g := (mkF m 11 #[.val (.ref a1), .val (.ref a2), .val (.ref a3), .val (.int p4), .val .null] [(.ref a3), (.ref a1)])) rfl rfl (hb hby d9_11)
  refine OGot.go st8 ?_
  have N8 := Fr.snoc X8 N6 g_a1
  have O8 := O6.wr W8 g_a1
  have K8 := K6.wr W8 (Or.inl (List.mem_of_getElem? (i := 1) rfl))
  have Fw8 : Fld Z h8 a1 "com/example/archipel/archipel/model/Attribute" "type" "Lcom/example/archipel/archipel/model/DataType;" (.ref a3) := F7.same W8
  show OGot p.tables e below (T8.setTop (mkF m 14 #[.val (.ref a1), .val (.ref a2), .val (.ref a3), .val (.int p4), .val .null] [])) _
  refine OGot.go (fun t k => XS.aloadN X8.here hx rfl (hb hby d9_14) rfl rfl k) ?_
  show OGot p.tables e below (T8.setTop (mkF m 15 #[.val (.ref a1), .val (.ref a2), .val (.ref a3), .val (.int p4), .val .null] [(.ref a1)])) _
  refine OGot.go (fun t k => XS.iloadN X8.here hx rfl (hb hby d9_15) rfl k) ?_
  show OGot p.tables e below (T8.setTop (mkF m 16 #[.val (.ref a1), .val (.ref a2), .val (.ref a3), .val (.int p4), .val .null] [(.int p4), (.ref a1)])) _
  have F9 : Fld Z h8 a1 "com/example/archipel/archipel/model/Attribute" "notNull" "Z" (.int (0 : Int32)) := ((F_notNull_a1.other W6 (Or.inr (slot_ne (Or.inr (ow hw 61 rfl)) (Or.inr (ow hw 57 rfl)) (by decide) (t := .boolean) (t' := (.object "java/lang/String")) (by decide) (by decide)))).other W8 (Or.inr (slot_ne (Or.inr (ow hw 61 rfl)) (Or.inr (ow hw 59 rfl)) (by decide) (t := .boolean) (t' := (.object "com/example/archipel/archipel/model/DataType")) (by decide) (by decide))))
  obtain ⟨T10, h10, X10, e10, W10, st10⟩ := putFN X8 hx hZ hown (ow hw 60 rfl) Via.refl e8 F9 ((E_a1.wr W6).wr W8) (Or.inr ⟨(ow hw 61 rfl), rfl, hnm⟩) (ow hw 45 rfl) (ty := .boolean) (v' := (.int (nar .boolean p4))) (by decide) rfl (fits_nar_bool p4) (g := (mkF m 16 #[.val (.ref a1), .val (.ref a2), .val (.ref a3), .val (.int p4), .val .null] [(.int p4), (.ref a1)])) rfl rfl (hb hby d9_16)
  refine OGot.go st10 ?_
  have N10 := Fr.snoc X10 N8 g_a1
  have O10 := O8.wr W10 g_a1
  have K10 := K8.wr W10 (Or.inl (List.mem_of_getElem? (i := 2) rfl))
  have Fw10 : Fld Z h10 a1 "com/example/archipel/archipel/model/Attribute" "notNull" "Z" (.int (nar .boolean p4)) := F9.same W10
  show OGot p.tables e below (T10.setTop (mkF m 19 #[.val (.ref a1), .val (.ref a2), .val (.ref a3), .val (.int p4), .val .null] [])) _
  refine OGot.go (fun t k => XS.aloadN X10.here hx rfl (hb hby d9_19) rfl rfl k) ?_
  show OGot p.tables e below (T10.setTop (mkF m 20 #[.val (.ref a1), .val (.ref a2), .val (.ref a3), .val (.int p4), .val .null] [(.ref a1)])) _
  refine OGot.go (fun t k => XS.aload X10.here hx rfl (hb hby d9_20) rfl rfl k) ?_
  show OGot p.tables e below (T10.setTop (mkF m 22 #[.val (.ref a1), .val (.ref a2), .val (.ref a3), .val (.int p4), .val .null] [.null, (.ref a1)])) _
  have F11 : Fld Z h10 a1 "com/example/archipel/archipel/model/Attribute" "references" "Ljava/lang/String;" .null := (((F_references_a1.other W6 (Or.inr (slot_ne (Or.inr (ow hw 63 rfl)) (Or.inr (ow hw 57 rfl)) (by decide) (t := (.object "java/lang/String")) (t' := (.object "java/lang/String")) (by decide) (by decide)))).other W8 (Or.inr (slot_ne (Or.inr (ow hw 63 rfl)) (Or.inr (ow hw 59 rfl)) (by decide) (t := (.object "java/lang/String")) (t' := (.object "com/example/archipel/archipel/model/DataType")) (by decide) (by decide)))).other W10 (Or.inr (slot_ne (Or.inr (ow hw 63 rfl)) (Or.inr (ow hw 61 rfl)) (by decide) (t := (.object "java/lang/String")) (t' := .boolean) (by decide) (by decide))))
  obtain ⟨T12, h12, X12, e12, W12, st12⟩ := putF X10 hx hZ hown (host := "") (Or.inl (ow hw 62 rfl)) Via.refl e10 F11 (((E_a1.wr W6).wr W8).wr W10) (Or.inr ⟨(ow hw 63 rfl), rfl, hnm⟩) (ow hw 45 rfl) (ty := (.object "java/lang/String")) (by decide) rfl rfl (g := (mkF m 22 #[.val (.ref a1), .val (.ref a2), .val (.ref a3), .val (.int p4), .val .null] [.null, (.ref a1)])) rfl rfl (hb hby d9_22)
  refine OGot.go st12 ?_
  have N12 := Fr.snoc X12 N10 g_a1
  have O12 := O10.wr W12 g_a1
  have K12 := K10.wr W12 (Or.inl (List.mem_of_getElem? (i := 3) rfl))
  have Fw12 : Fld Z h12 a1 "com/example/archipel/archipel/model/Attribute" "references" "Ljava/lang/String;" .null := F11.same W12
  show OGot p.tables e below (T12.setTop (mkF m 25 #[.val (.ref a1), .val (.ref a2), .val (.ref a3), .val (.int p4), .val .null] [])) _
  obtain ⟨fs, hr, hrun, hended, hW, hsame⟩ := X12.leave (v := none) (fun _ => rfl)
  refine ⟨_, _, X12.returnOut hx Bd.returns (hb hby d9_25) hr, hrun, hended, _, _, rfl, ?_, ⟨_, rfl⟩, hW, hsame.mono (by decide) (by decide)⟩
  have F13 : Fld Z h12 a1 "com/example/archipel/archipel/model/Attribute" "name" "Ljava/lang/String;" (.ref a2) := (((Fw6.other W8 (Or.inr (slot_ne (Or.inr (ow hw 57 rfl)) (Or.inr (ow hw 59 rfl)) (by decide) (t := (.object "java/lang/String")) (t' := (.object "com/example/archipel/archipel/model/DataType")) (by decide) (by decide)))).other W10 (Or.inr (slot_ne (Or.inr (ow hw 57 rfl)) (Or.inr (ow hw 61 rfl)) (by decide) (t := (.object "java/lang/String")) (t' := .boolean) (by decide) (by decide)))).other W12 (Or.inr (slot_ne (Or.inr (ow hw 57 rfl)) (Or.inr (ow hw 63 rfl)) (by decide) (t := (.object "java/lang/String")) (t' := (.object "java/lang/String")) (by decide) (by decide))))
  have F14 : Fld Z h12 a1 "com/example/archipel/archipel/model/Attribute" "type" "Lcom/example/archipel/archipel/model/DataType;" (.ref a3) := ((Fw8.other W10 (Or.inr (slot_ne (Or.inr (ow hw 59 rfl)) (Or.inr (ow hw 61 rfl)) (by decide) (t := (.object "com/example/archipel/archipel/model/DataType")) (t' := .boolean) (by decide) (by decide)))).other W12 (Or.inr (slot_ne (Or.inr (ow hw 59 rfl)) (Or.inr (ow hw 63 rfl)) (by decide) (t := (.object "com/example/archipel/archipel/model/DataType")) (t' := (.object "java/lang/String")) (by decide) (by decide))))
  have F15 : Fld Z h12 a1 "com/example/archipel/archipel/model/Attribute" "notNull" "Z" (.int (nar .boolean p4)) := (Fw10.other W12 (Or.inr (slot_ne (Or.inr (ow hw 61 rfl)) (Or.inr (ow hw 63 rfl)) (by decide) (t := .boolean) (t' := (.object "java/lang/String")) (by decide) (by decide))))
  show Q9 Z w_INTEGER w_TEXT w_DATE w_DECIMAL i_COMPACT_STRINGS a1 a2 a3 p4 h0 n0 _ T12.heap _
  rw [e12]
  exact ⟨N12, rfl, K12, F13, F14, F15, Fw12⟩
theorem pd_8 : parseMethodDescriptor "(Ljava/lang/String;Lcom/example/archipel/archipel/model/DataType;ZLjava/lang/String;)V" = some ⟨[(.object "java/lang/String"), (.object "com/example/archipel/archipel/model/DataType"), .boolean, (.object "java/lang/String")], none⟩ := by decide +kernel
theorem d11_0 : decode prog_30_method_1_code 0 = .ok (.aload_n 0, 1) := by decide +kernel
theorem d11_1 : decode prog_30_method_1_code 1 = .ok (.invokespecial 1, 3) := by decide +kernel
theorem d11_4 : decode prog_30_method_1_code 4 = .ok (.aload_n 3, 1) := by decide +kernel
theorem d11_5 : decode prog_30_method_1_code 5 = .ok (.ifnonnull 8, 3) := by decide +kernel
theorem d11_8 : decode prog_30_method_1_code 8 = .ok (.aload 4, 2) := by decide +kernel
theorem d11_10 : decode prog_30_method_1_code 10 = .ok (.ifnull 39, 3) := by decide +kernel
theorem d11_13 : decode prog_30_method_1_code 13 = .ok (.aload_n 3, 1) := by decide +kernel
theorem d11_14 : decode prog_30_method_1_code 14 = .ok (.ifnull 57, 3) := by decide +kernel
theorem d11_71 : decode prog_30_method_1_code 71 = .ok (.aload_n 0, 1) := by decide +kernel
theorem d11_72 : decode prog_30_method_1_code 72 = .ok (.aload_n 1, 1) := by decide +kernel
theorem d11_73 : decode prog_30_method_1_code 73 = .ok (.putfield 36, 3) := by decide +kernel
theorem d11_76 : decode prog_30_method_1_code 76 = .ok (.aload_n 0, 1) := by decide +kernel
theorem d11_77 : decode prog_30_method_1_code 77 = .ok (.aload_n 2, 1) := by decide +kernel
theorem d11_78 : decode prog_30_method_1_code 78 = .ok (.putfield 42, 3) := by decide +kernel
theorem d11_81 : decode prog_30_method_1_code 81 = .ok (.aload_n 0, 1) := by decide +kernel
theorem d11_82 : decode prog_30_method_1_code 82 = .ok (.aload_n 3, 1) := by decide +kernel
theorem d11_83 : decode prog_30_method_1_code 83 = .ok (.putfield 45, 3) := by decide +kernel
theorem d11_86 : decode prog_30_method_1_code 86 = .ok (.aload_n 0, 1) := by decide +kernel
theorem d11_87 : decode prog_30_method_1_code 87 = .ok (.aload 4, 2) := by decide +kernel
theorem d11_89 : decode prog_30_method_1_code 89 = .ok (.putfield 49, 3) := by decide +kernel
theorem d11_92 : decode prog_30_method_1_code 92 = .ok (.return_, 1) := by decide +kernel
theorem pn_com_example_archipel_archipel_model_AttributeChange : plainName "com/example/archipel/archipel/model/AttributeChange" = true := by first | (simp [plainName, overriddenIn]; done) | decide +kernel
def Q11 (Z : State) (w_INTEGER : Addr) (w_TEXT : Addr) (w_DATE : Addr) (w_DECIMAL : Addr) (i_COMPACT_STRINGS : Int32) (a1 : Addr) (a2 : Addr) (h0 : Heap) (n0 : Nat) (v : Option Value) (h : Heap) (L : List Loc) : Prop := Fr n0 L ∧ v = none ∧ OKeep h0 h [(a1, Jvm.RoadKit.slotOf Z "com/example/archipel/archipel/model/AttributeChange" "before" "Lcom/example/archipel/archipel/model/Entity;"), (a1, Jvm.RoadKit.slotOf Z "com/example/archipel/archipel/model/AttributeChange" "after" "Lcom/example/archipel/archipel/model/Entity;"), (a1, Jvm.RoadKit.slotOf Z "com/example/archipel/archipel/model/AttributeChange" "was" "Lcom/example/archipel/archipel/model/Attribute;"), (a1, Jvm.RoadKit.slotOf Z "com/example/archipel/archipel/model/AttributeChange" "becomes" "Lcom/example/archipel/archipel/model/Attribute;")] ∧ Fld Z h a1 "com/example/archipel/archipel/model/AttributeChange" "before" "Lcom/example/archipel/archipel/model/Entity;" .null ∧ Fld Z h a1 "com/example/archipel/archipel/model/AttributeChange" "after" "Lcom/example/archipel/archipel/model/Entity;" .null ∧ Fld Z h a1 "com/example/archipel/archipel/model/AttributeChange" "was" "Lcom/example/archipel/archipel/model/Attribute;" .null ∧ Fld Z h a1 "com/example/archipel/archipel/model/AttributeChange" "becomes" "Lcom/example/archipel/archipel/model/Attribute;" (.ref a2)
theorem ef11 (m : MethodId) (x0 : Addr) (x4 : Addr) : entryFrame m #[(.ref x0), .null, .null, .null, (.ref x4)] 5 = mkF m 0 #[.val (.ref x0), .val .null, .val .null, .val .null, .val (.ref x4)] [] := by first | (simp [entryFrame, mkF, argsToLocals, Value.category]; done) | rfl
set_option maxRecDepth 65536 in
set_option maxHeartbeats 40000000 in
theorem rm11 (l : Launch) (Z : State) (a0 : Array Value) (hw : ∀ d ∈ tables_1, d.before a0 Z = true) (ws : List Jvm.Cond) {w_INTEGER : Addr} {w_TEXT : Addr} {w_DATE : Addr} {w_DECIMAL : Addr} {i_COMPACT_STRINGS : Int32} (G : Glob Z w_INTEGER w_TEXT w_DATE w_DECIMAL i_COMPACT_STRINGS) (a1 : Addr) (a2 : Addr) (h0 : Heap) (n0 : Nat) (O0 : Old Z n0 h0) (E_a1 : Exa Z h0 a1 "com/example/archipel/archipel/model/AttributeChange") (F_before_a1 : Fld Z h0 a1 "com/example/archipel/archipel/model/AttributeChange" "before" "Lcom/example/archipel/archipel/model/Entity;" .null) (g_a1 : n0 ≤ a1) (F_after_a1 : Fld Z h0 a1 "com/example/archipel/archipel/model/AttributeChange" "after" "Lcom/example/archipel/archipel/model/Entity;" .null) (F_was_a1 : Fld Z h0 a1 "com/example/archipel/archipel/model/AttributeChange" "was" "Lcom/example/archipel/archipel/model/Attribute;" .null) (F_becomes_a1 : Fld Z h0 a1 "com/example/archipel/archipel/model/AttributeChange" "becomes" "Lcom/example/archipel/archipel/model/Attribute;" .null) :
    MetFree l (⟨"com/example/archipel/archipel/model/AttributeChange", "<init>", "(Lcom/example/archipel/archipel/model/Entity;Lcom/example/archipel/archipel/model/Entity;Lcom/example/archipel/archipel/model/Attribute;Lcom/example/archipel/archipel/model/Attribute;)V"⟩ : MethodName) (head1 (Jvm.Cond.code (⟨"com/example/archipel/archipel/model/AttributeChange", "<init>", "(Lcom/example/archipel/archipel/model/Entity;Lcom/example/archipel/archipel/model/Entity;Lcom/example/archipel/archipel/model/Attribute;Lcom/example/archipel/archipel/model/Attribute;)V"⟩ : MethodName) prog_30_method_1_code 5 none :: ws) ({ frames := 2, cells := 0, slots := 0, locals := 24 } : Room)) (fun a U => a = #[(.ref a1), .null, .null, .null, (.ref a2)] ∧ Z.Warmed39 U.vm ∧ U.heap = h0) (fun _ _ _ _ _ => True) (fun _ U o U' => ∃ v L, o = .returned v ∧ Q11 Z w_INTEGER w_TEXT w_DATE w_DECIMAL i_COMPACT_STRINGS a1 a2 h0 n0 v U'.heap L ∧ FrameEnd U o U' L ({ frames := 2, cells := 0, slots := 0, locals := 24 } : Room).cells ({ frames := 2, cells := 0, slots := 0, locals := 24 } : Room).slots) := by
  refine MetFree.of_bodySF (plainFor_of_name pn_com_example_archipel_archipel_model_AttributeChange) hisR ?_
  intro p e s m args below meth c s₁ Bd hml0 hP hK
  obtain ⟨rfl, hZ, hh⟩ := hP
  have hx := Bd.exec
  have hby := Bd.bytes
  have hml : c.maxLocals = 5 := hml0
  have hown : s.vm.findClass "com/example/archipel/archipel/model/AttributeChange" = some m.cls := findClass_of_methodNamed Bd.named
  have hnm := (name_of_methodNamed Bd.named Bd.method).1
  have X0 : Stand p l e ({ frames := 2, cells := 0, slots := 0, locals := 24 } : Room) s m #[(.ref a1), .null, .null, .null, (.ref a2)] below meth c s₁ [] 0 0 := Stand.of_body Bd
  have e0 : s₁.heap = h0 := by rw [← hh, Bd.state]; rfl
  have N0 := Fr.nil n0
  show OGot p.tables e below (s₁.setTop (entryFrame m #[(.ref a1), .null, .null, .null, (.ref a2)] 5)) _
  refine OGot.go (fun t k => castTop (ef11 m a1 a2) k) ?_
  show OGot p.tables e below (s₁.setTop (mkF m 0 #[.val (.ref a1), .val .null, .val .null, .val .null, .val (.ref a2)] [])) _
  refine OGot.go (fun t k => XS.aloadN X0.here hx rfl (hb hby d11_0) rfl rfl k) ?_
  show OGot p.tables e below (s₁.setTop (mkF m 1 #[.val (.ref a1), .val .null, .val .null, .val .null, .val (.ref a2)] [(.ref a1)])) _
  obtain ⟨_, _, ⟨T3, L3, k3, n3⟩, -, X3, ⟨Lc3, hQ3, l3, y3, z3⟩, st3⟩ := X0.specialBack hx (y := (⟨"java/lang/Record", "<init>", "()V"⟩ : MethodName)) rfl hown (mvT hZ (ow hw 70 rfl)) (mvT hZ (ow hw 51 rfl)) (mvT hZ (ow hw 54 rfl)) (by decide) (backOf (W := 0) (rm10 l Z a0 hw [] G a1 h0 n0 O0 ) hZ (ow hw 54 rfl) (ow hw 53 rfl) (by decide) (by decide)) (g := (mkF m 1 #[.val (.ref a1), .val .null, .val .null, .val .null, .val (.ref a2)] [(.ref a1)])) rfl (by rw [hml]; rfl) (Steps.refl _) (a := a1) (argsL := []) (rest := []) (lenOf pd_7 rfl) rfl (by show 2 * 0 + _ ≤ _; exact Nat.le_of_eq rfl) (hb hby d11_1) (fun _ _ => ⟨rfl, e0, (by decide : 0 + 0 ≤ _), (by decide : 0 + 0 ≤ _)⟩)
  dsimp only [Pt.U, Pt.locs, Pt.cells, Pt.slots] at X3 l3 y3 z3 st3 hQ3
  subst l3 y3 z3
  obtain ⟨rfl, N3q, e3⟩ := hQ3
  have N3 := Fr.app N0 N3q
  refine OGot.on st3 ?_
  show OGot p.tables e below (T3.setTop (mkF m 4 #[.val (.ref a1), .val .null, .val .null, .val .null, .val (.ref a2)] [])) _
  refine OGot.go (fun t k => XS.aloadN X3.here hx rfl (hb hby d11_4) rfl rfl k) ?_
  show OGot p.tables e below (T3.setTop (mkF m 5 #[.val (.ref a1), .val .null, .val .null, .val .null, .val (.ref a2)] [.null])) _
  refine OGot.go (fun t k => XS.ifnonnullNo X3.here hx rfl (hb hby d11_5) rfl k) ?_
  show OGot p.tables e below (T3.setTop (mkF m 8 #[.val (.ref a1), .val .null, .val .null, .val .null, .val (.ref a2)] [])) _
  refine OGot.go (fun t k => XS.aload X3.here hx rfl (hb hby d11_8) rfl rfl k) ?_
  show OGot p.tables e below (T3.setTop (mkF m 10 #[.val (.ref a1), .val .null, .val .null, .val .null, .val (.ref a2)] [(.ref a2)])) _
  refine OGot.go (fun t k => XS.ifnullNo X3.here hx rfl (hb hby d11_10) rfl k) ?_
  show OGot p.tables e below (T3.setTop (mkF m 13 #[.val (.ref a1), .val .null, .val .null, .val .null, .val (.ref a2)] [])) _
  refine OGot.go (fun t k => XS.aloadN X3.here hx rfl (hb hby d11_13) rfl rfl k) ?_
  show OGot p.tables e below (T3.setTop (mkF m 14 #[.val (.ref a1), .val .null, .val .null, .val .null, .val (.ref a2)] [.null])) _
  refine OGot.go (fun t k => XS.ifnullYes X3.here hx rfl (pc0 := 14) (pc' := 71) rfl (hb hby d11_14) rfl (by decide) (by decide) k) ?_
  show OGot p.tables e below (T3.setTop (mkF m 71 #[.val (.ref a1), .val .null, .val .null, .val .null, .val (.ref a2)] [])) _
  refine OGot.go (fun t k => XS.aloadN X3.here hx rfl (hb hby d11_71) rfl rfl k) ?_
  show OGot p.tables e below (T3.setTop (mkF m 72 #[.val (.ref a1), .val .null, .val .null, .val .null, .val (.ref a2)] [(.ref a1)])) _
  refine OGot.go (fun t k => XS.aloadN X3.here hx rfl (hb hby d11_72) rfl rfl k) ?_
  show OGot p.tables e below (T3.setTop (mkF m 73 #[.val (.ref a1), .val .null, .val .null, .val .null, .val (.ref a2)] [.null, (.ref a1)])) _
  obtain ⟨T4, h4, X4, e4, W4, st4⟩ := putF X3 hx hZ hown (host := "") (Or.inl (ow hw 71 rfl)) Via.refl e3 F_before_a1 E_a1 (Or.inr ⟨(ow hw 72 rfl), rfl, hnm⟩) (ow hw 65 rfl) (ty := (.object "com/example/archipel/archipel/model/Entity")) (by decide) rfl rfl (g := (mkF m 73 #[.val (.ref a1), .val .null, .val .null, .val .null, .val (.ref a2)] [.null, (.ref a1)])) rfl rfl (hb hby d11_73)
  refine OGot.go st4 ?_
  have N4 := Fr.snoc X4 N3 g_a1
  have O4 := O0.wr W4 g_a1
  have K4 := (OKeep.refl h0 [(a1, Jvm.RoadKit.slotOf Z "com/example/archipel/archipel/model/AttributeChange" "before" "Lcom/example/archipel/archipel/model/Entity;"), (a1, Jvm.RoadKit.slotOf Z "com/example/archipel/archipel/model/AttributeChange" "after" "Lcom/example/archipel/archipel/model/Entity;"), (a1, Jvm.RoadKit.slotOf Z "com/example/archipel/archipel/model/AttributeChange" "was" "Lcom/example/archipel/archipel/model/Attribute;"), (a1, Jvm.RoadKit.slotOf Z "com/example/archipel/archipel/model/AttributeChange" "becomes" "Lcom/example/archipel/archipel/model/Attribute;")]).wr W4 (Or.inl (List.mem_of_getElem? (i := 0) rfl))
  have Fw4 : Fld Z h4 a1 "com/example/archipel/archipel/model/AttributeChange" "before" "Lcom/example/archipel/archipel/model/Entity;" .null := F_before_a1.same W4
  show OGot p.tables e below (T4.setTop (mkF m 76 #[.val (.ref a1), .val .null, .val .null, .val .null, .val (.ref a2)] [])) _
  refine OGot.go (fun t k => XS.aloadN X4.here hx rfl (hb hby d11_76) rfl rfl k) ?_
  show OGot p.tables e below (T4.setTop (mkF m 77 #[.val (.ref a1), .val .null, .val .null, .val .null, .val (.ref a2)] [(.ref a1)])) _
  refine OGot.go (fun t k => XS.aloadN X4.here hx rfl (hb hby d11_77) rfl rfl k) ?_
  show OGot p.tables e below (T4.setTop (mkF m 78 #[.val (.ref a1), .val .null, .val .null, .val .null, .val (.ref a2)] [.null, (.ref a1)])) _
  have F5 : Fld Z h4 a1 "com/example/archipel/archipel/model/AttributeChange" "after" "Lcom/example/archipel/archipel/model/Entity;" .null := (F_after_a1.other W4 (Or.inr (slot_ne (Or.inr (ow hw 74 rfl)) (Or.inr (ow hw 72 rfl)) (by decide) (t := (.object "com/example/archipel/archipel/model/Entity")) (t' := (.object "com/example/archipel/archipel/model/Entity")) (by decide) (by decide))))
  obtain ⟨T6, h6, X6, e6, W6, st6⟩ := putF X4 hx hZ hown (host := "") (Or.inl (ow hw 73 rfl)) Via.refl e4 F5 (E_a1.wr W4) (Or.inr ⟨(ow hw 74 rfl), rfl, hnm⟩) (ow hw 65 rfl) (ty := (.object "com/example/archipel/archipel/model/Entity")) (by decide) rfl rfl (g := (mkF m 78 #[.val (.ref a1), .val .null, .val .null, .val .null, .val (.ref a2)] [.null, (.ref a1)])) rfl rfl (hb hby d11_78)
  refine OGot.go st6 ?_
  have N6 := Fr.snoc X6 N4 g_a1
  have O6 := O4.wr W6 g_a1
  have K6 := K4.wr W6 (Or.inl (List.mem_of_getElem? (i := 1) rfl))
  have Fw6 : Fld Z h6 a1 "com/example/archipel/archipel/model/AttributeChange" "after" "Lcom/example/archipel/archipel/model/Entity;" .null := F5.same W6
  show OGot p.tables e below (T6.setTop (mkF m 81 #[.val (.ref a1), .val .null, .val .null, .val .null, .val (.ref a2)] [])) _
  refine OGot.go (fun t k => XS.aloadN X6.here hx rfl (hb hby d11_81) rfl rfl k) ?_
  show OGot p.tables e below (T6.setTop (mkF m 82 #[.val (.ref a1), .val .null, .val .null, .val .null, .val (.ref a2)] [(.ref a1)])) _
  refine OGot.go (fun t k => XS.aloadN X6.here hx rfl (hb hby d11_82) rfl rfl k) ?_
  show OGot p.tables e below (T6.setTop (mkF m 83 #[.val (.ref a1), .val .null, .val .null, .val .null, .val (.ref a2)] [.null, (.ref a1)])) _
  have F7 : Fld Z h6 a1 "com/example/archipel/archipel/model/AttributeChange" "was" "Lcom/example/archipel/archipel/model/Attribute;" .null := ((F_was_a1.other W4 (Or.inr (slot_ne (Or.inr (ow hw 76 rfl)) (Or.inr (ow hw 72 rfl)) (by decide) (t := (.object "com/example/archipel/archipel/model/Attribute")) (t' := (.object "com/example/archipel/archipel/model/Entity")) (by decide) (by decide)))).other W6 (Or.inr (slot_ne (Or.inr (ow hw 76 rfl)) (Or.inr (ow hw 74 rfl)) (by decide) (t := (.object "com/example/archipel/archipel/model/Attribute")) (t' := (.object "com/example/archipel/archipel/model/Entity")) (by decide) (by decide))))
  obtain ⟨T8, h8, X8, e8, W8, st8⟩ := putF X6 hx hZ hown (host := "") (Or.inl (ow hw 75 rfl)) Via.refl e6 F7 ((E_a1.wr W4).wr W6) (Or.inr ⟨(ow hw 76 rfl), rfl, hnm⟩) (ow hw 65 rfl) (ty := (.object "com/example/archipel/archipel/model/Attribute")) (by decide) rfl rfl (g := (mkF m 83 #[.val (.ref a1), .val .null, .val .null, .val .null, .val (.ref a2)] [.null, (.ref a1)])) rfl rfl (hb hby d11_83)
  refine OGot.go st8 ?_
  have N8 := Fr.snoc X8 N6 g_a1
  have O8 := O6.wr W8 g_a1
  have K8 := K6.wr W8 (Or.inl (List.mem_of_getElem? (i := 2) rfl))
  have Fw8 : Fld Z h8 a1 "com/example/archipel/archipel/model/AttributeChange" "was" "Lcom/example/archipel/archipel/model/Attribute;" .null := F7.same W8
  show OGot p.tables e below (T8.setTop (mkF m 86 #[.val (.ref a1), .val .null, .val .null, .val .null, .val (.ref a2)] [])) _
  refine OGot.go (fun t k => XS.aloadN X8.here hx rfl (hb hby d11_86) rfl rfl k) ?_
  show OGot p.tables e below (T8.setTop (mkF m 87 #[.val (.ref a1), .val .null, .val .null, .val .null, .val (.ref a2)] [(.ref a1)])) _
  refine OGot.go (fun t k => XS.aload X8.here hx rfl (hb hby d11_87) rfl rfl k) ?_
  show OGot p.tables e below (T8.setTop (mkF m 89 #[.val (.ref a1), .val .null, .val .null, .val .null, .val (.ref a2)] [(.ref a2), (.ref a1)])) _
  have F9 : Fld Z h8 a1 "com/example/archipel/archipel/model/AttributeChange" "becomes" "Lcom/example/archipel/archipel/model/Attribute;" .null := (((F_becomes_a1.other W4 (Or.inr (slot_ne (Or.inr (ow hw 78 rfl)) (Or.inr (ow hw 72 rfl)) (by decide) (t := (.object "com/example/archipel/archipel/model/Attribute")) (t' := (.object "com/example/archipel/archipel/model/Entity")) (by decide) (by decide)))).other W6 (Or.inr (slot_ne (Or.inr (ow hw 78 rfl)) (Or.inr (ow hw 74 rfl)) (by decide) (t := (.object "com/example/archipel/archipel/model/Attribute")) (t' := (.object "com/example/archipel/archipel/model/Entity")) (by decide) (by decide)))).other W8 (Or.inr (slot_ne (Or.inr (ow hw 78 rfl)) (Or.inr (ow hw 76 rfl)) (by decide) (t := (.object "com/example/archipel/archipel/model/Attribute")) (t' := (.object "com/example/archipel/archipel/model/Attribute")) (by decide) (by decide))))
  obtain ⟨T10, h10, X10, e10, W10, st10⟩ := putF X8 hx hZ hown (host := "") (Or.inl (ow hw 77 rfl)) Via.refl e8 F9 (((E_a1.wr W4).wr W6).wr W8) (Or.inr ⟨(ow hw 78 rfl), rfl, hnm⟩) (ow hw 65 rfl) (ty := (.object "com/example/archipel/archipel/model/Attribute")) (by decide) rfl rfl (g := (mkF m 89 #[.val (.ref a1), .val .null, .val .null, .val .null, .val (.ref a2)] [(.ref a2), (.ref a1)])) rfl rfl (hb hby d11_89)
  refine OGot.go st10 ?_
  have N10 := Fr.snoc X10 N8 g_a1
  have O10 := O8.wr W10 g_a1
  have K10 := K8.wr W10 (Or.inl (List.mem_of_getElem? (i := 3) rfl))
  have Fw10 : Fld Z h10 a1 "com/example/archipel/archipel/model/AttributeChange" "becomes" "Lcom/example/archipel/archipel/model/Attribute;" (.ref a2) := F9.same W10
  show OGot p.tables e below (T10.setTop (mkF m 92 #[.val (.ref a1), .val .null, .val .null, .val .null, .val (.ref a2)] [])) _
  obtain ⟨fs, hr, hrun, hended, hW, hsame⟩ := X10.leave (v := none) (fun _ => rfl)
  refine ⟨_, _, X10.returnOut hx Bd.returns (hb hby d11_92) hr, hrun, hended, _, _, rfl, ?_, ⟨_, rfl⟩, hW, hsame.mono (by decide) (by decide)⟩
  have F11 : Fld Z h10 a1 "com/example/archipel/archipel/model/AttributeChange" "before" "Lcom/example/archipel/archipel/model/Entity;" .null := (((Fw4.other W6 (Or.inr (slot_ne (Or.inr (ow hw 72 rfl)) (Or.inr (ow hw 74 rfl)) (by decide) (t := (.object "com/example/archipel/archipel/model/Entity")) (t' := (.object "com/example/archipel/archipel/model/Entity")) (by decide) (by decide)))).other W8 (Or.inr (slot_ne (Or.inr (ow hw 72 rfl)) (Or.inr (ow hw 76 rfl)) (by decide) (t := (.object "com/example/archipel/archipel/model/Entity")) (t' := (.object "com/example/archipel/archipel/model/Attribute")) (by decide) (by decide)))).other W10 (Or.inr (slot_ne (Or.inr (ow hw 72 rfl)) (Or.inr (ow hw 78 rfl)) (by decide) (t := (.object "com/example/archipel/archipel/model/Entity")) (t' := (.object "com/example/archipel/archipel/model/Attribute")) (by decide) (by decide))))
  have F12 : Fld Z h10 a1 "com/example/archipel/archipel/model/AttributeChange" "after" "Lcom/example/archipel/archipel/model/Entity;" .null := ((Fw6.other W8 (Or.inr (slot_ne (Or.inr (ow hw 74 rfl)) (Or.inr (ow hw 76 rfl)) (by decide) (t := (.object "com/example/archipel/archipel/model/Entity")) (t' := (.object "com/example/archipel/archipel/model/Attribute")) (by decide) (by decide)))).other W10 (Or.inr (slot_ne (Or.inr (ow hw 74 rfl)) (Or.inr (ow hw 78 rfl)) (by decide) (t := (.object "com/example/archipel/archipel/model/Entity")) (t' := (.object "com/example/archipel/archipel/model/Attribute")) (by decide) (by decide))))
  have F13 : Fld Z h10 a1 "com/example/archipel/archipel/model/AttributeChange" "was" "Lcom/example/archipel/archipel/model/Attribute;" .null := (Fw8.other W10 (Or.inr (slot_ne (Or.inr (ow hw 76 rfl)) (Or.inr (ow hw 78 rfl)) (by decide) (t := (.object "com/example/archipel/archipel/model/Attribute")) (t' := (.object "com/example/archipel/archipel/model/Attribute")) (by decide) (by decide))))
  show Q11 Z w_INTEGER w_TEXT w_DATE w_DECIMAL i_COMPACT_STRINGS a1 a2 h0 n0 _ T10.heap _
  rw [e10]
  exact ⟨N10, rfl, K10, F11, F12, F13, Fw10⟩
theorem pd_9 : parseMethodDescriptor "(Lcom/example/archipel/archipel/model/Entity;Lcom/example/archipel/archipel/model/Entity;Lcom/example/archipel/archipel/model/Attribute;Lcom/example/archipel/archipel/model/Attribute;)V" = some ⟨[(.object "com/example/archipel/archipel/model/Entity"), (.object "com/example/archipel/archipel/model/Entity"), (.object "com/example/archipel/archipel/model/Attribute"), (.object "com/example/archipel/archipel/model/Attribute")], none⟩ := by decide +kernel
theorem d12_0 : decode prog_30_method_2_code 0 = .ok (.aload_n 0, 1) := by decide +kernel
theorem d12_1 : decode prog_30_method_2_code 1 = .ok (.getfield 45, 3) := by decide +kernel
theorem d12_4 : decode prog_30_method_2_code 4 = .ok (.ifnonnull 7, 3) := by decide +kernel
theorem d12_7 : decode prog_30_method_2_code 7 = .ok (.iconst 1, 1) := by decide +kernel
theorem d12_8 : decode prog_30_method_2_code 8 = .ok (.goto 4, 3) := by decide +kernel
theorem d12_12 : decode prog_30_method_2_code 12 = .ok (.ireturn, 1) := by decide +kernel
def Q12 (Z : State) (w_INTEGER : Addr) (w_TEXT : Addr) (w_DATE : Addr) (w_DECIMAL : Addr) (i_COMPACT_STRINGS : Int32) (a1 : Addr) (h0 : Heap) (n0 : Nat) (v : Option Value) (h : Heap) (L : List Loc) : Prop := v = some (.int (1 : Int32)) ∧ Fr n0 L ∧ h = h0
theorem ef12 (m : MethodId) (x0 : Addr) : entryFrame m #[(.ref x0)] 1 = mkF m 0 #[.val (.ref x0)] [] := by first | (simp [entryFrame, mkF, argsToLocals, Value.category]; done) | rfl
set_option maxRecDepth 65536 in
set_option maxHeartbeats 40000000 in
theorem rm12 (l : Launch) (Z : State) (a0 : Array Value) (hw : ∀ d ∈ tables_1, d.before a0 Z = true) (ws : List Jvm.Cond) {w_INTEGER : Addr} {w_TEXT : Addr} {w_DATE : Addr} {w_DECIMAL : Addr} {i_COMPACT_STRINGS : Int32} (G : Glob Z w_INTEGER w_TEXT w_DATE w_DECIMAL i_COMPACT_STRINGS) (a1 : Addr) (h0 : Heap) (n0 : Nat) (O0 : Old Z n0 h0) (F_was_a1 : Fld Z h0 a1 "com/example/archipel/archipel/model/AttributeChange" "was" "Lcom/example/archipel/archipel/model/Attribute;" .null) :
    MetFree l (⟨"com/example/archipel/archipel/model/AttributeChange", "added", "()Z"⟩ : MethodName) (head1 (Jvm.Cond.code (⟨"com/example/archipel/archipel/model/AttributeChange", "added", "()Z"⟩ : MethodName) prog_30_method_2_code 1 (some .boolean) :: ws) ({ frames := 0, cells := 0, slots := 0, locals := 0 } : Room)) (fun a U => a = #[(.ref a1)] ∧ Z.Warmed39 U.vm ∧ U.heap = h0) (fun _ _ _ _ _ => True) (fun _ U o U' => ∃ v L, o = .returned v ∧ Q12 Z w_INTEGER w_TEXT w_DATE w_DECIMAL i_COMPACT_STRINGS a1 h0 n0 v U'.heap L ∧ FrameEnd U o U' L ({ frames := 0, cells := 0, slots := 0, locals := 0 } : Room).cells ({ frames := 0, cells := 0, slots := 0, locals := 0 } : Room).slots) := by
  refine MetFree.of_bodySF (plainFor_of_name pn_com_example_archipel_archipel_model_AttributeChange) hisR ?_
  intro p e s m args below meth c s₁ Bd hml0 hP hK
  obtain ⟨rfl, hZ, hh⟩ := hP
  have hx := Bd.exec
  have hby := Bd.bytes
  have hml : c.maxLocals = 1 := hml0
  have hown : s.vm.findClass "com/example/archipel/archipel/model/AttributeChange" = some m.cls := findClass_of_methodNamed Bd.named
  have hnm := (name_of_methodNamed Bd.named Bd.method).1
  have X0 : Stand p l e ({ frames := 0, cells := 0, slots := 0, locals := 0 } : Room) s m #[(.ref a1)] below meth c s₁ [] 0 0 := Stand.of_body Bd
  have e0 : s₁.heap = h0 := by rw [← hh, Bd.state]; rfl
  have N0 := Fr.nil n0
  show OGot p.tables e below (s₁.setTop (entryFrame m #[(.ref a1)] 1)) _
  refine OGot.go (fun t k => castTop (ef12 m a1) k) ?_
  show OGot p.tables e below (s₁.setTop (mkF m 0 #[.val (.ref a1)] [])) _
  refine OGot.go (fun t k => XS.aloadN X0.here hx rfl (hb hby d12_0) rfl rfl k) ?_
  show OGot p.tables e below (s₁.setTop (mkF m 1 #[.val (.ref a1)] [(.ref a1)])) _
  obtain ⟨T2, X2, e2, st2⟩ := getF X0 hx hZ hown (host := "") (Or.inl (ow hw 75 rfl)) Via.refl e0 F_was_a1 (g := (mkF m 1 #[.val (.ref a1)] [(.ref a1)])) rfl rfl (hb hby d12_1)
  refine OGot.go st2 ?_
  show OGot p.tables e below (T2.setTop (mkF m 4 #[.val (.ref a1)] [.null])) _
  refine OGot.go (fun t k => XS.ifnonnullNo X2.here hx rfl (hb hby d12_4) rfl k) ?_
  show OGot p.tables e below (T2.setTop (mkF m 7 #[.val (.ref a1)] [])) _
  refine OGot.go (fun t k => XS.iconst X2.here hx rfl (hb hby d12_7) k) ?_
  show OGot p.tables e below (T2.setTop (mkF m 8 #[.val (.ref a1)] [(.int (1 : Int32))])) _
  refine OGot.go (fun t k => XS.goto X2.here hx rfl (pc0 := 8) (pc' := 12) rfl (hb hby d12_8) (by decide) (by decide) k) ?_
  show OGot p.tables e below (T2.setTop (mkF m 12 #[.val (.ref a1)] [(.int (1 : Int32))])) _
  obtain ⟨fs, hr, hrun, hended, hW, hsame⟩ := X2.leave (v := some (.int (1 : Int32))) (fun h => by rw [Bd.returns] at h; cases h)
  refine ⟨_, _, retN X2 hx (t := .boolean) Bd.returns (by simp) (hb hby d12_12) hr, hrun, hended, _, _, rfl, ?_, ⟨_, rfl⟩, hW, hsame.mono (by decide) (by decide)⟩
  exact (⟨rfl, N0, e2⟩ : Q12 Z w_INTEGER w_TEXT w_DATE w_DECIMAL i_COMPACT_STRINGS a1 h0 n0 _ T2.heap _)
theorem pd_10 : parseMethodDescriptor "()Z" = some ⟨[], some .boolean⟩ := by decide +kernel
theorem d11_17 : decode prog_30_method_1_code 17 = .ok (.aload 4, 2) := by decide +kernel
theorem d11_19 : decode prog_30_method_1_code 19 = .ok (.ifnull 52, 3) := by decide +kernel
def Q11_1 (Z : State) (w_INTEGER : Addr) (w_TEXT : Addr) (w_DATE : Addr) (w_DECIMAL : Addr) (i_COMPACT_STRINGS : Int32) (a1 : Addr) (a2 : Addr) (h0 : Heap) (n0 : Nat) (v : Option Value) (h : Heap) (L : List Loc) : Prop := Fr n0 L ∧ v = none ∧ OKeep h0 h [(a1, Jvm.RoadKit.slotOf Z "com/example/archipel/archipel/model/AttributeChange" "before" "Lcom/example/archipel/archipel/model/Entity;"), (a1, Jvm.RoadKit.slotOf Z "com/example/archipel/archipel/model/AttributeChange" "after" "Lcom/example/archipel/archipel/model/Entity;"), (a1, Jvm.RoadKit.slotOf Z "com/example/archipel/archipel/model/AttributeChange" "was" "Lcom/example/archipel/archipel/model/Attribute;"), (a1, Jvm.RoadKit.slotOf Z "com/example/archipel/archipel/model/AttributeChange" "becomes" "Lcom/example/archipel/archipel/model/Attribute;")] ∧ Fld Z h a1 "com/example/archipel/archipel/model/AttributeChange" "before" "Lcom/example/archipel/archipel/model/Entity;" .null ∧ Fld Z h a1 "com/example/archipel/archipel/model/AttributeChange" "after" "Lcom/example/archipel/archipel/model/Entity;" .null ∧ Fld Z h a1 "com/example/archipel/archipel/model/AttributeChange" "was" "Lcom/example/archipel/archipel/model/Attribute;" (.ref a2) ∧ Fld Z h a1 "com/example/archipel/archipel/model/AttributeChange" "becomes" "Lcom/example/archipel/archipel/model/Attribute;" .null
theorem ef11_1 (m : MethodId) (x0 : Addr) (x3 : Addr) : entryFrame m #[(.ref x0), .null, .null, (.ref x3), .null] 5 = mkF m 0 #[.val (.ref x0), .val .null, .val .null, .val (.ref x3), .val .null] [] := by first | (simp [entryFrame, mkF, argsToLocals, Value.category]; done) | rfl
set_option maxRecDepth 65536 in
set_option maxHeartbeats 40000000 in
theorem rm11_1 (l : Launch) (Z : State) (a0 : Array Value) (hw : ∀ d ∈ tables_1, d.before a0 Z = true) (ws : List Jvm.Cond) {w_INTEGER : Addr} {w_TEXT : Addr} {w_DATE : Addr} {w_DECIMAL : Addr} {i_COMPACT_STRINGS : Int32} (G : Glob Z w_INTEGER w_TEXT w_DATE w_DECIMAL i_COMPACT_STRINGS) (a1 : Addr) (a2 : Addr) (h0 : Heap) (n0 : Nat) (O0 : Old Z n0 h0) (E_a1 : Exa Z h0 a1 "com/example/archipel/archipel/model/AttributeChange") (F_before_a1 : Fld Z h0 a1 "com/example/archipel/archipel/model/AttributeChange" "before" "Lcom/example/archipel/archipel/model/Entity;" .null) (g_a1 : n0 ≤ a1) (F_after_a1 : Fld Z h0 a1 "com/example/archipel/archipel/model/AttributeChange" "after" "Lcom/example/archipel/archipel/model/Entity;" .null) (F_was_a1 : Fld Z h0 a1 "com/example/archipel/archipel/model/AttributeChange" "was" "Lcom/example/archipel/archipel/model/Attribute;" .null) (F_becomes_a1 : Fld Z h0 a1 "com/example/archipel/archipel/model/AttributeChange" "becomes" "Lcom/example/archipel/archipel/model/Attribute;" .null) :
    MetFree l (⟨"com/example/archipel/archipel/model/AttributeChange", "<init>", "(Lcom/example/archipel/archipel/model/Entity;Lcom/example/archipel/archipel/model/Entity;Lcom/example/archipel/archipel/model/Attribute;Lcom/example/archipel/archipel/model/Attribute;)V"⟩ : MethodName) (head1 (Jvm.Cond.code (⟨"com/example/archipel/archipel/model/AttributeChange", "<init>", "(Lcom/example/archipel/archipel/model/Entity;Lcom/example/archipel/archipel/model/Entity;Lcom/example/archipel/archipel/model/Attribute;Lcom/example/archipel/archipel/model/Attribute;)V"⟩ : MethodName) prog_30_method_1_code 5 none :: ws) ({ frames := 2, cells := 0, slots := 0, locals := 24 } : Room)) (fun a U => a = #[(.ref a1), .null, .null, (.ref a2), .null] ∧ Z.Warmed39 U.vm ∧ U.heap = h0) (fun _ _ _ _ _ => True) (fun _ U o U' => ∃ v L, o = .returned v ∧ Q11_1 Z w_INTEGER w_TEXT w_DATE w_DECIMAL i_COMPACT_STRINGS a1 a2 h0 n0 v U'.heap L ∧ FrameEnd U o U' L ({ frames := 2, cells := 0, slots := 0, locals := 24 } : Room).cells ({ frames := 2, cells := 0, slots := 0, locals := 24 } : Room).slots) := by
  refine MetFree.of_bodySF (plainFor_of_name pn_com_example_archipel_archipel_model_AttributeChange) hisR ?_
  intro p e s m args below meth c s₁ Bd hml0 hP hK
  obtain ⟨rfl, hZ, hh⟩ := hP
  have hx := Bd.exec
  have hby := Bd.bytes
  have hml : c.maxLocals = 5 := hml0
  have hown : s.vm.findClass "com/example/archipel/archipel/model/AttributeChange" = some m.cls := findClass_of_methodNamed Bd.named
  have hnm := (name_of_methodNamed Bd.named Bd.method).1
  have X0 : Stand p l e ({ frames := 2, cells := 0, slots := 0, locals := 24 } : Room) s m #[(.ref a1), .null, .null, (.ref a2), .null] below meth c s₁ [] 0 0 := Stand.of_body Bd
  have e0 : s₁.heap = h0 := by rw [← hh, Bd.state]; rfl
  have N0 := Fr.nil n0
  show OGot p.tables e below (s₁.setTop (entryFrame m #[(.ref a1), .null, .null, (.ref a2), .null] 5)) _
  refine OGot.go (fun t k => castTop (ef11_1 m a1 a2) k) ?_
  show OGot p.tables e below (s₁.setTop (mkF m 0 #[.val (.ref a1), .val .null, .val .null, .val (.ref a2), .val .null] [])) _
  refine OGot.go (fun t k => XS.aloadN X0.here hx rfl (hb hby d11_0) rfl rfl k) ?_
  show OGot p.tables e below (s₁.setTop (mkF m 1 #[.val (.ref a1), .val .null, .val .null, .val (.ref a2), .val .null] [(.ref a1)])) _
  obtain ⟨_, _, ⟨T3, L3, k3, n3⟩, -, X3, ⟨Lc3, hQ3, l3, y3, z3⟩, st3⟩ := X0.specialBack hx (y := (⟨"java/lang/Record", "<init>", "()V"⟩ : MethodName)) rfl hown (mvT hZ (ow hw 70 rfl)) (mvT hZ (ow hw 51 rfl)) (mvT hZ (ow hw 54 rfl)) (by decide) (backOf (W := 0) (rm10 l Z a0 hw [] G a1 h0 n0 O0 ) hZ (ow hw 54 rfl) (ow hw 53 rfl) (by decide) (by decide)) (g := (mkF m 1 #[.val (.ref a1), .val .null, .val .null, .val (.ref a2), .val .null] [(.ref a1)])) rfl (by rw [hml]; rfl) (Steps.refl _) (a := a1) (argsL := []) (rest := []) (lenOf pd_7 rfl) rfl (by show 2 * 0 + _ ≤ _; exact Nat.le_of_eq rfl) (hb hby d11_1) (fun _ _ => ⟨rfl, e0, (by decide : 0 + 0 ≤ _), (by decide : 0 + 0 ≤ _)⟩)
  dsimp only [Pt.U, Pt.locs, Pt.cells, Pt.slots] at X3 l3 y3 z3 st3 hQ3
  subst l3 y3 z3
  obtain ⟨rfl, N3q, e3⟩ := hQ3
  have N3 := Fr.app N0 N3q
  refine OGot.on st3 ?_
  show OGot p.tables e below (T3.setTop (mkF m 4 #[.val (.ref a1), .val .null, .val .null, .val (.ref a2), .val .null] [])) _
  refine OGot.go (fun t k => XS.aloadN X3.here hx rfl (hb hby d11_4) rfl rfl k) ?_
  show OGot p.tables e below (T3.setTop (mkF m 5 #[.val (.ref a1), .val .null, .val .null, .val (.ref a2), .val .null] [(.ref a2)])) _
  refine OGot.go (fun t k => XS.ifnonnullYes X3.here hx rfl (pc0 := 5) (pc' := 13) rfl (hb hby d11_5) rfl (by decide) (by decide) k) ?_
  show OGot p.tables e below (T3.setTop (mkF m 13 #[.val (.ref a1), .val .null, .val .null, .val (.ref a2), .val .null] [])) _
  refine OGot.go (fun t k => XS.aloadN X3.here hx rfl (hb hby d11_13) rfl rfl k) ?_
  show OGot p.tables e below (T3.setTop (mkF m 14 #[.val (.ref a1), .val .null, .val .null, .val (.ref a2), .val .null] [(.ref a2)])) _
  refine OGot.go (fun t k => XS.ifnullNo X3.here hx rfl (hb hby d11_14) rfl k) ?_
  show OGot p.tables e below (T3.setTop (mkF m 17 #[.val (.ref a1), .val .null, .val .null, .val (.ref a2), .val .null] [])) _
  refine OGot.go (fun t k => XS.aload X3.here hx rfl (hb hby d11_17) rfl rfl k) ?_
  show OGot p.tables e below (T3.setTop (mkF m 19 #[.val (.ref a1), .val .null, .val .null, .val (.ref a2), .val .null] [.null])) _
  refine OGot.go (fun t k => XS.ifnullYes X3.here hx rfl (pc0 := 19) (pc' := 71) rfl (hb hby d11_19) rfl (by decide) (by decide) k) ?_
  show OGot p.tables e below (T3.setTop (mkF m 71 #[.val (.ref a1), .val .null, .val .null, .val (.ref a2), .val .null] [])) _
  refine OGot.go (fun t k => XS.aloadN X3.here hx rfl (hb hby d11_71) rfl rfl k) ?_
  show OGot p.tables e below (T3.setTop (mkF m 72 #[.val (.ref a1), .val .null, .val .null, .val (.ref a2), .val .null] [(.ref a1)])) _
  refine OGot.go (fun t k => XS.aloadN X3.here hx rfl (hb hby d11_72) rfl rfl k) ?_
  show OGot p.tables e below (T3.setTop (mkF m 73 #[.val (.ref a1), .val .null, .val .null, .val (.ref a2), .val .null] [.null, (.ref a1)])) _
  obtain ⟨T4, h4, X4, e4, W4, st4⟩ := putF X3 hx hZ hown (host := "") (Or.inl (ow hw 71 rfl)) Via.refl e3 F_before_a1 E_a1 (Or.inr ⟨(ow hw 72 rfl), rfl, hnm⟩) (ow hw 65 rfl) (ty := (.object "com/example/archipel/archipel/model/Entity")) (by decide) rfl rfl (g := (mkF m 73 #[.val (.ref a1), .val .null, .val .null, .val (.ref a2), .val .null] [.null, (.ref a1)])) rfl rfl (hb hby d11_73)
  refine OGot.go st4 ?_
  have N4 := Fr.snoc X4 N3 g_a1
  have O4 := O0.wr W4 g_a1
  have K4 := (OKeep.refl h0 [(a1, Jvm.RoadKit.slotOf Z "com/example/archipel/archipel/model/AttributeChange" "before" "Lcom/example/archipel/archipel/model/Entity;"), (a1, Jvm.RoadKit.slotOf Z "com/example/archipel/archipel/model/AttributeChange" "after" "Lcom/example/archipel/archipel/model/Entity;"), (a1, Jvm.RoadKit.slotOf Z "com/example/archipel/archipel/model/AttributeChange" "was" "Lcom/example/archipel/archipel/model/Attribute;"), (a1, Jvm.RoadKit.slotOf Z "com/example/archipel/archipel/model/AttributeChange" "becomes" "Lcom/example/archipel/archipel/model/Attribute;")]).wr W4 (Or.inl (List.mem_of_getElem? (i := 0) rfl))
  have Fw4 : Fld Z h4 a1 "com/example/archipel/archipel/model/AttributeChange" "before" "Lcom/example/archipel/archipel/model/Entity;" .null := F_before_a1.same W4
  show OGot p.tables e below (T4.setTop (mkF m 76 #[.val (.ref a1), .val .null, .val .null, .val (.ref a2), .val .null] [])) _
  refine OGot.go (fun t k => XS.aloadN X4.here hx rfl (hb hby d11_76) rfl rfl k) ?_
  show OGot p.tables e below (T4.setTop (mkF m 77 #[.val (.ref a1), .val .null, .val .null, .val (.ref a2), .val .null] [(.ref a1)])) _
  refine OGot.go (fun t k => XS.aloadN X4.here hx rfl (hb hby d11_77) rfl rfl k) ?_
  show OGot p.tables e below (T4.setTop (mkF m 78 #[.val (.ref a1), .val .null, .val .null, .val (.ref a2), .val .null] [.null, (.ref a1)])) _
  have F5 : Fld Z h4 a1 "com/example/archipel/archipel/model/AttributeChange" "after" "Lcom/example/archipel/archipel/model/Entity;" .null := (F_after_a1.other W4 (Or.inr (slot_ne (Or.inr (ow hw 74 rfl)) (Or.inr (ow hw 72 rfl)) (by decide) (t := (.object "com/example/archipel/archipel/model/Entity")) (t' := (.object "com/example/archipel/archipel/model/Entity")) (by decide) (by decide))))
  obtain ⟨T6, h6, X6, e6, W6, st6⟩ := putF X4 hx hZ hown (host := "") (Or.inl (ow hw 73 rfl)) Via.refl e4 F5 (E_a1.wr W4) (Or.inr ⟨(ow hw 74 rfl), rfl, hnm⟩) (ow hw 65 rfl) (ty := (.object "com/example/archipel/archipel/model/Entity")) (by decide) rfl rfl (g := (mkF m 78 #[.val (.ref a1), .val .null, .val .null, .val (.ref a2), .val .null] [.null, (.ref a1)])) rfl rfl (hb hby d11_78)
  refine OGot.go st6 ?_
  have N6 := Fr.snoc X6 N4 g_a1
  have O6 := O4.wr W6 g_a1
  have K6 := K4.wr W6 (Or.inl (List.mem_of_getElem? (i := 1) rfl))
  have Fw6 : Fld Z h6 a1 "com/example/archipel/archipel/model/AttributeChange" "after" "Lcom/example/archipel/archipel/model/Entity;" .null := F5.same W6
  show OGot p.tables e below (T6.setTop (mkF m 81 #[.val (.ref a1), .val .null, .val .null, .val (.ref a2), .val .null] [])) _
  refine OGot.go (fun t k => XS.aloadN X6.here hx rfl (hb hby d11_81) rfl rfl k) ?_
  show OGot p.tables e below (T6.setTop (mkF m 82 #[.val (.ref a1), .val .null, .val .null, .val (.ref a2), .val .null] [(.ref a1)])) _
  refine OGot.go (fun t k => XS.aloadN X6.here hx rfl (hb hby d11_82) rfl rfl k) ?_
  show OGot p.tables e below (T6.setTop (mkF m 83 #[.val (.ref a1), .val .null, .val .null, .val (.ref a2), .val .null] [(.ref a2), (.ref a1)])) _
  have F7 : Fld Z h6 a1 "com/example/archipel/archipel/model/AttributeChange" "was" "Lcom/example/archipel/archipel/model/Attribute;" .null := ((F_was_a1.other W4 (Or.inr (slot_ne (Or.inr (ow hw 76 rfl)) (Or.inr (ow hw 72 rfl)) (by decide) (t := (.object "com/example/archipel/archipel/model/Attribute")) (t' := (.object "com/example/archipel/archipel/model/Entity")) (by decide) (by decide)))).other W6 (Or.inr (slot_ne (Or.inr (ow hw 76 rfl)) (Or.inr (ow hw 74 rfl)) (by decide) (t := (.object "com/example/archipel/archipel/model/Attribute")) (t' := (.object "com/example/archipel/archipel/model/Entity")) (by decide) (by decide))))
  obtain ⟨T8, h8, X8, e8, W8, st8⟩ := putF X6 hx hZ hown (host := "") (Or.inl (ow hw 75 rfl)) Via.refl e6 F7 ((E_a1.wr W4).wr W6) (Or.inr ⟨(ow hw 76 rfl), rfl, hnm⟩) (ow hw 65 rfl) (ty := (.object "com/example/archipel/archipel/model/Attribute")) (by decide) rfl rfl (g := (mkF m 83 #[.val (.ref a1), .val .null, .val .null, .val (.ref a2), .val .null] [(.ref a2), (.ref a1)])) rfl rfl (hb hby d11_83)
  refine OGot.go st8 ?_
  have N8 := Fr.snoc X8 N6 g_a1
  have O8 := O6.wr W8 g_a1
  have K8 := K6.wr W8 (Or.inl (List.mem_of_getElem? (i := 2) rfl))
  have Fw8 : Fld Z h8 a1 "com/example/archipel/archipel/model/AttributeChange" "was" "Lcom/example/archipel/archipel/model/Attribute;" (.ref a2) := F7.same W8
  show OGot p.tables e below (T8.setTop (mkF m 86 #[.val (.ref a1), .val .null, .val .null, .val (.ref a2), .val .null] [])) _
  refine OGot.go (fun t k => XS.aloadN X8.here hx rfl (hb hby d11_86) rfl rfl k) ?_
  show OGot p.tables e below (T8.setTop (mkF m 87 #[.val (.ref a1), .val .null, .val .null, .val (.ref a2), .val .null] [(.ref a1)])) _
  refine OGot.go (fun t k => XS.aload X8.here hx rfl (hb hby d11_87) rfl rfl k) ?_
  show OGot p.tables e below (T8.setTop (mkF m 89 #[.val (.ref a1), .val .null, .val .null, .val (.ref a2), .val .null] [.null, (.ref a1)])) _
  have F9 : Fld Z h8 a1 "com/example/archipel/archipel/model/AttributeChange" "becomes" "Lcom/example/archipel/archipel/model/Attribute;" .null := (((F_becomes_a1.other W4 (Or.inr (slot_ne (Or.inr (ow hw 78 rfl)) (Or.inr (ow hw 72 rfl)) (by decide) (t := (.object "com/example/archipel/archipel/model/Attribute")) (t' := (.object "com/example/archipel/archipel/model/Entity")) (by decide) (by decide)))).other W6 (Or.inr (slot_ne (Or.inr (ow hw 78 rfl)) (Or.inr (ow hw 74 rfl)) (by decide) (t := (.object "com/example/archipel/archipel/model/Attribute")) (t' := (.object "com/example/archipel/archipel/model/Entity")) (by decide) (by decide)))).other W8 (Or.inr (slot_ne (Or.inr (ow hw 78 rfl)) (Or.inr (ow hw 76 rfl)) (by decide) (t := (.object "com/example/archipel/archipel/model/Attribute")) (t' := (.object "com/example/archipel/archipel/model/Attribute")) (by decide) (by decide))))
  obtain ⟨T10, h10, X10, e10, W10, st10⟩ := putF X8 hx hZ hown (host := "") (Or.inl (ow hw 77 rfl)) Via.refl e8 F9 (((E_a1.wr W4).wr W6).wr W8) (Or.inr ⟨(ow hw 78 rfl), rfl, hnm⟩) (ow hw 65 rfl) (ty := (.object "com/example/archipel/archipel/model/Attribute")) (by decide) rfl rfl (g := (mkF m 89 #[.val (.ref a1), .val .null, .val .null, .val (.ref a2), .val .null] [.null, (.ref a1)])) rfl rfl (hb hby d11_89)
  refine OGot.go st10 ?_
  have N10 := Fr.snoc X10 N8 g_a1
  have O10 := O8.wr W10 g_a1
  have K10 := K8.wr W10 (Or.inl (List.mem_of_getElem? (i := 3) rfl))
  have Fw10 : Fld Z h10 a1 "com/example/archipel/archipel/model/AttributeChange" "becomes" "Lcom/example/archipel/archipel/model/Attribute;" .null := F9.same W10
  show OGot p.tables e below (T10.setTop (mkF m 92 #[.val (.ref a1), .val .null, .val .null, .val (.ref a2), .val .null] [])) _
  obtain ⟨fs, hr, hrun, hended, hW, hsame⟩ := X10.leave (v := none) (fun _ => rfl)
  refine ⟨_, _, X10.returnOut hx Bd.returns (hb hby d11_92) hr, hrun, hended, _, _, rfl, ?_, ⟨_, rfl⟩, hW, hsame.mono (by decide) (by decide)⟩
  have F11 : Fld Z h10 a1 "com/example/archipel/archipel/model/AttributeChange" "before" "Lcom/example/archipel/archipel/model/Entity;" .null := (((Fw4.other W6 (Or.inr (slot_ne (Or.inr (ow hw 72 rfl)) (Or.inr (ow hw 74 rfl)) (by decide) (t := (.object "com/example/archipel/archipel/model/Entity")) (t' := (.object "com/example/archipel/archipel/model/Entity")) (by decide) (by decide)))).other W8 (Or.inr (slot_ne (Or.inr (ow hw 72 rfl)) (Or.inr (ow hw 76 rfl)) (by decide) (t := (.object "com/example/archipel/archipel/model/Entity")) (t' := (.object "com/example/archipel/archipel/model/Attribute")) (by decide) (by decide)))).other W10 (Or.inr (slot_ne (Or.inr (ow hw 72 rfl)) (Or.inr (ow hw 78 rfl)) (by decide) (t := (.object "com/example/archipel/archipel/model/Entity")) (t' := (.object "com/example/archipel/archipel/model/Attribute")) (by decide) (by decide))))
  have F12 : Fld Z h10 a1 "com/example/archipel/archipel/model/AttributeChange" "after" "Lcom/example/archipel/archipel/model/Entity;" .null := ((Fw6.other W8 (Or.inr (slot_ne (Or.inr (ow hw 74 rfl)) (Or.inr (ow hw 76 rfl)) (by decide) (t := (.object "com/example/archipel/archipel/model/Entity")) (t' := (.object "com/example/archipel/archipel/model/Attribute")) (by decide) (by decide)))).other W10 (Or.inr (slot_ne (Or.inr (ow hw 74 rfl)) (Or.inr (ow hw 78 rfl)) (by decide) (t := (.object "com/example/archipel/archipel/model/Entity")) (t' := (.object "com/example/archipel/archipel/model/Attribute")) (by decide) (by decide))))
  have F13 : Fld Z h10 a1 "com/example/archipel/archipel/model/AttributeChange" "was" "Lcom/example/archipel/archipel/model/Attribute;" (.ref a2) := (Fw8.other W10 (Or.inr (slot_ne (Or.inr (ow hw 76 rfl)) (Or.inr (ow hw 78 rfl)) (by decide) (t := (.object "com/example/archipel/archipel/model/Attribute")) (t' := (.object "com/example/archipel/archipel/model/Attribute")) (by decide) (by decide))))
  show Q11_1 Z w_INTEGER w_TEXT w_DATE w_DECIMAL i_COMPACT_STRINGS a1 a2 h0 n0 _ T10.heap _
  rw [e10]
  exact ⟨N10, rfl, K10, F11, F12, F13, Fw10⟩
theorem d12_11 : decode prog_30_method_2_code 11 = .ok (.iconst 0, 1) := by decide +kernel
def Q12_1 (Z : State) (w_INTEGER : Addr) (w_TEXT : Addr) (w_DATE : Addr) (w_DECIMAL : Addr) (i_COMPACT_STRINGS : Int32) (a1 : Addr) (a2 : Addr) (h0 : Heap) (n0 : Nat) (v : Option Value) (h : Heap) (L : List Loc) : Prop := v = some (.int (0 : Int32)) ∧ Fr n0 L ∧ h = h0
theorem ef12_1 (m : MethodId) (x0 : Addr) : entryFrame m #[(.ref x0)] 1 = mkF m 0 #[.val (.ref x0)] [] := by first | (simp [entryFrame, mkF, argsToLocals, Value.category]; done) | rfl
set_option maxRecDepth 65536 in
set_option maxHeartbeats 40000000 in
theorem rm12_1 (l : Launch) (Z : State) (a0 : Array Value) (hw : ∀ d ∈ tables_1, d.before a0 Z = true) (ws : List Jvm.Cond) {w_INTEGER : Addr} {w_TEXT : Addr} {w_DATE : Addr} {w_DECIMAL : Addr} {i_COMPACT_STRINGS : Int32} (G : Glob Z w_INTEGER w_TEXT w_DATE w_DECIMAL i_COMPACT_STRINGS) (a1 : Addr) (a2 : Addr) (h0 : Heap) (n0 : Nat) (O0 : Old Z n0 h0) (F_was_a1 : Fld Z h0 a1 "com/example/archipel/archipel/model/AttributeChange" "was" "Lcom/example/archipel/archipel/model/Attribute;" (.ref a2)) :
    MetFree l (⟨"com/example/archipel/archipel/model/AttributeChange", "added", "()Z"⟩ : MethodName) (head1 (Jvm.Cond.code (⟨"com/example/archipel/archipel/model/AttributeChange", "added", "()Z"⟩ : MethodName) prog_30_method_2_code 1 (some .boolean) :: ws) ({ frames := 0, cells := 0, slots := 0, locals := 0 } : Room)) (fun a U => a = #[(.ref a1)] ∧ Z.Warmed39 U.vm ∧ U.heap = h0) (fun _ _ _ _ _ => True) (fun _ U o U' => ∃ v L, o = .returned v ∧ Q12_1 Z w_INTEGER w_TEXT w_DATE w_DECIMAL i_COMPACT_STRINGS a1 a2 h0 n0 v U'.heap L ∧ FrameEnd U o U' L ({ frames := 0, cells := 0, slots := 0, locals := 0 } : Room).cells ({ frames := 0, cells := 0, slots := 0, locals := 0 } : Room).slots) := by
  refine MetFree.of_bodySF (plainFor_of_name pn_com_example_archipel_archipel_model_AttributeChange) hisR ?_
  intro p e s m args below meth c s₁ Bd hml0 hP hK
  obtain ⟨rfl, hZ, hh⟩ := hP
  have hx := Bd.exec
  have hby := Bd.bytes
  have hml : c.maxLocals = 1 := hml0
  have hown : s.vm.findClass "com/example/archipel/archipel/model/AttributeChange" = some m.cls := findClass_of_methodNamed Bd.named
  have hnm := (name_of_methodNamed Bd.named Bd.method).1
  have X0 : Stand p l e ({ frames := 0, cells := 0, slots := 0, locals := 0 } : Room) s m #[(.ref a1)] below meth c s₁ [] 0 0 := Stand.of_body Bd
  have e0 : s₁.heap = h0 := by rw [← hh, Bd.state]; rfl
  have N0 := Fr.nil n0
  show OGot p.tables e below (s₁.setTop (entryFrame m #[(.ref a1)] 1)) _
  refine OGot.go (fun t k => castTop (ef12_1 m a1) k) ?_
  show OGot p.tables e below (s₁.setTop (mkF m 0 #[.val (.ref a1)] [])) _
  refine OGot.go (fun t k => XS.aloadN X0.here hx rfl (hb hby d12_0) rfl rfl k) ?_
  show OGot p.tables e below (s₁.setTop (mkF m 1 #[.val (.ref a1)] [(.ref a1)])) _
  obtain ⟨T3, X3, e3, st3⟩ := getF X0 hx hZ hown (host := "") (Or.inl (ow hw 75 rfl)) Via.refl e0 F_was_a1 (g := (mkF m 1 #[.val (.ref a1)] [(.ref a1)])) rfl rfl (hb hby d12_1)
  refine OGot.go st3 ?_
  show OGot p.tables e below (T3.setTop (mkF m 4 #[.val (.ref a1)] [(.ref a2)])) _
  refine OGot.go (fun t k => XS.ifnonnullYes X3.here hx rfl (pc0 := 4) (pc' := 11) rfl (hb hby d12_4) rfl (by decide) (by decide) k) ?_
  show OGot p.tables e below (T3.setTop (mkF m 11 #[.val (.ref a1)] [])) _
  refine OGot.go (fun t k => XS.iconst X3.here hx rfl (hb hby d12_11) k) ?_
  show OGot p.tables e below (T3.setTop (mkF m 12 #[.val (.ref a1)] [(.int (0 : Int32))])) _
  obtain ⟨fs, hr, hrun, hended, hW, hsame⟩ := X3.leave (v := some (.int (0 : Int32))) (fun h => by rw [Bd.returns] at h; cases h)
  refine ⟨_, _, retN X3 hx (t := .boolean) Bd.returns (by simp) (hb hby d12_12) hr, hrun, hended, _, _, rfl, ?_, ⟨_, rfl⟩, hW, hsame.mono (by decide) (by decide)⟩
  exact (⟨rfl, N0, e3⟩ : Q12_1 Z w_INTEGER w_TEXT w_DATE w_DECIMAL i_COMPACT_STRINGS a1 a2 h0 n0 _ T3.heap _)
theorem d11_22 : decode prog_30_method_1_code 22 = .ok (.aload_n 3, 1) := by decide +kernel
theorem d11_23 : decode prog_30_method_1_code 23 = .ok (.invokevirtual 7, 3) := by decide +kernel
theorem d13_0 : decode prog_29_method_5_code 0 = .ok (.aload_n 0, 1) := by decide +kernel
theorem d13_1 : decode prog_29_method_5_code 1 = .ok (.getfield 7, 3) := by decide +kernel
theorem d13_4 : decode prog_29_method_5_code 4 = .ok (.areturn, 1) := by decide +kernel
def Q13 (Z : State) (w_INTEGER : Addr) (w_TEXT : Addr) (w_DATE : Addr) (w_DECIMAL : Addr) (i_COMPACT_STRINGS : Int32) (a1 : Addr) (a2 : Addr) (h0 : Heap) (n0 : Nat) (v : Option Value) (h : Heap) (L : List Loc) : Prop := v = some (.ref a2) ∧ Fr n0 L ∧ h = h0
theorem ef13 (m : MethodId) (x0 : Addr) : entryFrame m #[(.ref x0)] 1 = mkF m 0 #[.val (.ref x0)] [] := by first | (simp [entryFrame, mkF, argsToLocals, Value.category]; done) | rfl
set_option maxRecDepth 65536 in
set_option maxHeartbeats 40000000 in
theorem rm13 (l : Launch) (Z : State) (a0 : Array Value) (hw : ∀ d ∈ tables_1, d.before a0 Z = true) (ws : List Jvm.Cond) {w_INTEGER : Addr} {w_TEXT : Addr} {w_DATE : Addr} {w_DECIMAL : Addr} {i_COMPACT_STRINGS : Int32} (G : Glob Z w_INTEGER w_TEXT w_DATE w_DECIMAL i_COMPACT_STRINGS) (a1 : Addr) (a2 : Addr) (h0 : Heap) (n0 : Nat) (O0 : Old Z n0 h0) (F_name_a1 : Fld Z h0 a1 "com/example/archipel/archipel/model/Attribute" "name" "Ljava/lang/String;" (.ref a2)) :
    MetFree l (⟨"com/example/archipel/archipel/model/Attribute", "name", "()Ljava/lang/String;"⟩ : MethodName) (head1 (Jvm.Cond.code (⟨"com/example/archipel/archipel/model/Attribute", "name", "()Ljava/lang/String;"⟩ : MethodName) prog_29_method_5_code 1 (some (.object "java/lang/String")) :: ws) ({ frames := 0, cells := 0, slots := 0, locals := 0 } : Room)) (fun a U => a = #[(.ref a1)] ∧ Z.Warmed39 U.vm ∧ U.heap = h0) (fun _ _ _ _ _ => True) (fun _ U o U' => ∃ v L, o = .returned v ∧ Q13 Z w_INTEGER w_TEXT w_DATE w_DECIMAL i_COMPACT_STRINGS a1 a2 h0 n0 v U'.heap L ∧ FrameEnd U o U' L ({ frames := 0, cells := 0, slots := 0, locals := 0 } : Room).cells ({ frames := 0, cells := 0, slots := 0, locals := 0 } : Room).slots) := by
  refine MetFree.of_bodySF (plainFor_of_name pn_com_example_archipel_archipel_model_Attribute) hisR ?_
  intro p e s m args below meth c s₁ Bd hml0 hP hK
  obtain ⟨rfl, hZ, hh⟩ := hP
  have hx := Bd.exec
  have hby := Bd.bytes
  have hml : c.maxLocals = 1 := hml0
  have hown : s.vm.findClass "com/example/archipel/archipel/model/Attribute" = some m.cls := findClass_of_methodNamed Bd.named
  have hnm := (name_of_methodNamed Bd.named Bd.method).1
  have X0 : Stand p l e ({ frames := 0, cells := 0, slots := 0, locals := 0 } : Room) s m #[(.ref a1)] below meth c s₁ [] 0 0 := Stand.of_body Bd
  have e0 : s₁.heap = h0 := by rw [← hh, Bd.state]; rfl
  have N0 := Fr.nil n0
  show OGot p.tables e below (s₁.setTop (entryFrame m #[(.ref a1)] 1)) _
  refine OGot.go (fun t k => castTop (ef13 m a1) k) ?_
  show OGot p.tables e below (s₁.setTop (mkF m 0 #[.val (.ref a1)] [])) _
  refine OGot.go (fun t k => XS.aloadN X0.here hx rfl (hb hby d13_0) rfl rfl k) ?_
  show OGot p.tables e below (s₁.setTop (mkF m 1 #[.val (.ref a1)] [(.ref a1)])) _
  obtain ⟨T3, X3, e3, st3⟩ := getF X0 hx hZ hown (host := "") (Or.inl (ow hw 56 rfl)) Via.refl e0 F_name_a1 (g := (mkF m 1 #[.val (.ref a1)] [(.ref a1)])) rfl rfl (hb hby d13_1)
  refine OGot.go st3 ?_
  show OGot p.tables e below (T3.setTop (mkF m 4 #[.val (.ref a1)] [(.ref a2)])) _
  obtain ⟨fs, hr, hrun, hended, hW, hsame⟩ := X3.leave (v := some (.ref a2)) (fun h => by rw [Bd.returns] at h; cases h)
  refine ⟨_, _, oretA X3 hx Bd.returns rfl rfl (hb hby d13_4) hr, hrun, hended, _, _, rfl, ?_, ⟨_, rfl⟩, hW, hsame.mono (by decide) (by decide)⟩
  exact (⟨rfl, N0, e3⟩ : Q13 Z w_INTEGER w_TEXT w_DATE w_DECIMAL i_COMPACT_STRINGS a1 a2 h0 n0 _ T3.heap _)
theorem pd_11 : parseMethodDescriptor "()Ljava/lang/String;" = some ⟨[], some (.object "java/lang/String")⟩ := by decide +kernel
theorem d11_26 : decode prog_30_method_1_code 26 = .ok (.aload 4, 2) := by decide +kernel
theorem d11_28 : decode prog_30_method_1_code 28 = .ok (.invokevirtual 7, 3) := by decide +kernel
theorem d11_31 : decode prog_30_method_1_code 31 = .ok (.invokevirtual 13, 3) := by decide +kernel
theorem d11_34 : decode prog_30_method_1_code 34 = .ok (.ifCond .ne 37, 3) := by decide +kernel
theorem d11_37 : decode prog_30_method_1_code 37 = .ok (.aload_n 3, 1) := by decide +kernel
theorem d11_38 : decode prog_30_method_1_code 38 = .ok (.invokevirtual 19, 3) := by decide +kernel
theorem d14_0 : decode prog_29_method_6_code 0 = .ok (.aload_n 0, 1) := by decide +kernel
theorem d14_1 : decode prog_29_method_6_code 1 = .ok (.getfield 13, 3) := by decide +kernel
theorem d14_4 : decode prog_29_method_6_code 4 = .ok (.areturn, 1) := by decide +kernel
def Q14 (Z : State) (w_INTEGER : Addr) (w_TEXT : Addr) (w_DATE : Addr) (w_DECIMAL : Addr) (i_COMPACT_STRINGS : Int32) (a1 : Addr) (a2 : Addr) (h0 : Heap) (n0 : Nat) (v : Option Value) (h : Heap) (L : List Loc) : Prop := v = some (.ref a2) ∧ Fr n0 L ∧ h = h0
theorem ef14 (m : MethodId) (x0 : Addr) : entryFrame m #[(.ref x0)] 1 = mkF m 0 #[.val (.ref x0)] [] := by first | (simp [entryFrame, mkF, argsToLocals, Value.category]; done) | rfl
set_option maxRecDepth 65536 in
set_option maxHeartbeats 40000000 in
theorem rm14 (l : Launch) (Z : State) (a0 : Array Value) (hw : ∀ d ∈ tables_1, d.before a0 Z = true) (ws : List Jvm.Cond) {w_INTEGER : Addr} {w_TEXT : Addr} {w_DATE : Addr} {w_DECIMAL : Addr} {i_COMPACT_STRINGS : Int32} (G : Glob Z w_INTEGER w_TEXT w_DATE w_DECIMAL i_COMPACT_STRINGS) (a1 : Addr) (a2 : Addr) (h0 : Heap) (n0 : Nat) (O0 : Old Z n0 h0) (F_type_a1 : Fld Z h0 a1 "com/example/archipel/archipel/model/Attribute" "type" "Lcom/example/archipel/archipel/model/DataType;" (.ref a2)) :
    MetFree l (⟨"com/example/archipel/archipel/model/Attribute", "type", "()Lcom/example/archipel/archipel/model/DataType;"⟩ : MethodName) (head1 (Jvm.Cond.code (⟨"com/example/archipel/archipel/model/Attribute", "type", "()Lcom/example/archipel/archipel/model/DataType;"⟩ : MethodName) prog_29_method_6_code 1 (some (.object "com/example/archipel/archipel/model/DataType")) :: ws) ({ frames := 0, cells := 0, slots := 0, locals := 0 } : Room)) (fun a U => a = #[(.ref a1)] ∧ Z.Warmed39 U.vm ∧ U.heap = h0) (fun _ _ _ _ _ => True) (fun _ U o U' => ∃ v L, o = .returned v ∧ Q14 Z w_INTEGER w_TEXT w_DATE w_DECIMAL i_COMPACT_STRINGS a1 a2 h0 n0 v U'.heap L ∧ FrameEnd U o U' L ({ frames := 0, cells := 0, slots := 0, locals := 0 } : Room).cells ({ frames := 0, cells := 0, slots := 0, locals := 0 } : Room).slots) := by
  refine MetFree.of_bodySF (plainFor_of_name pn_com_example_archipel_archipel_model_Attribute) hisR ?_
  intro p e s m args below meth c s₁ Bd hml0 hP hK
  obtain ⟨rfl, hZ, hh⟩ := hP
  have hx := Bd.exec
  have hby := Bd.bytes
  have hml : c.maxLocals = 1 := hml0
  have hown : s.vm.findClass "com/example/archipel/archipel/model/Attribute" = some m.cls := findClass_of_methodNamed Bd.named
  have hnm := (name_of_methodNamed Bd.named Bd.method).1
  have X0 : Stand p l e ({ frames := 0, cells := 0, slots := 0, locals := 0 } : Room) s m #[(.ref a1)] below meth c s₁ [] 0 0 := Stand.of_body Bd
  have e0 : s₁.heap = h0 := by rw [← hh, Bd.state]; rfl
  have N0 := Fr.nil n0
  show OGot p.tables e below (s₁.setTop (entryFrame m #[(.ref a1)] 1)) _
  refine OGot.go (fun t k => castTop (ef14 m a1) k) ?_
  show OGot p.tables e below (s₁.setTop (mkF m 0 #[.val (.ref a1)] [])) _
  refine OGot.go (fun t k => XS.aloadN X0.here hx rfl (hb hby d14_0) rfl rfl k) ?_
  show OGot p.tables e below (s₁.setTop (mkF m 1 #[.val (.ref a1)] [(.ref a1)])) _
  obtain ⟨T3, X3, e3, st3⟩ := getF X0 hx hZ hown (host := "") (Or.inl (ow hw 58 rfl)) Via.refl e0 F_type_a1 (g := (mkF m 1 #[.val (.ref a1)] [(.ref a1)])) rfl rfl (hb hby d14_1)
  refine OGot.go st3 ?_
  show OGot p.tables e below (T3.setTop (mkF m 4 #[.val (.ref a1)] [(.ref a2)])) _
  obtain ⟨fs, hr, hrun, hended, hW, hsame⟩ := X3.leave (v := some (.ref a2)) (fun h => by rw [Bd.returns] at h; cases h)
  refine ⟨_, _, oretA X3 hx Bd.returns rfl rfl (hb hby d14_4) hr, hrun, hended, _, _, rfl, ?_, ⟨_, rfl⟩, hW, hsame.mono (by decide) (by decide)⟩
  exact (⟨rfl, N0, e3⟩ : Q14 Z w_INTEGER w_TEXT w_DATE w_DECIMAL i_COMPACT_STRINGS a1 a2 h0 n0 _ T3.heap _)
theorem pd_12 : parseMethodDescriptor "()Lcom/example/archipel/archipel/model/DataType;" = some ⟨[], some (.object "com/example/archipel/archipel/model/DataType")⟩ := by decide +kernel
theorem d11_41 : decode prog_30_method_1_code 41 = .ok (.aload 4, 2) := by decide +kernel
theorem d11_43 : decode prog_30_method_1_code 43 = .ok (.invokevirtual 19, 3) := by decide +kernel
theorem d11_46 : decode prog_30_method_1_code 46 = .ok (.if_acmp .eq 25, 3) := by decide +kernel
def Q11_2 (Z : State) (w_INTEGER : Addr) (w_TEXT : Addr) (w_DATE : Addr) (w_DECIMAL : Addr) (i_COMPACT_STRINGS : Int32) (a1 : Addr) (a2 : Addr) (a3 : Addr) (a5 : Addr) (a7 : Addr) (a10 : Addr) (a11 : Addr) (k12 : ClassId) (p13 : Int32) (k14 : ClassId) (p15 : Int32) (a17 : Addr) (a19 : Addr) (h0 : Heap) (n0 : Nat) (v : Option Value) (h : Heap) (L : List Loc) : Prop := Fr n0 L ∧ v = none ∧ OKeep h0 h [(a1, Jvm.RoadKit.slotOf Z "com/example/archipel/archipel/model/AttributeChange" "before" "Lcom/example/archipel/archipel/model/Entity;"), (a1, Jvm.RoadKit.slotOf Z "com/example/archipel/archipel/model/AttributeChange" "after" "Lcom/example/archipel/archipel/model/Entity;"), (a1, Jvm.RoadKit.slotOf Z "com/example/archipel/archipel/model/AttributeChange" "was" "Lcom/example/archipel/archipel/model/Attribute;"), (a1, Jvm.RoadKit.slotOf Z "com/example/archipel/archipel/model/AttributeChange" "becomes" "Lcom/example/archipel/archipel/model/Attribute;")] ∧ Fld Z h a1 "com/example/archipel/archipel/model/AttributeChange" "before" "Lcom/example/archipel/archipel/model/Entity;" .null ∧ Fld Z h a1 "com/example/archipel/archipel/model/AttributeChange" "after" "Lcom/example/archipel/archipel/model/Entity;" .null ∧ Fld Z h a1 "com/example/archipel/archipel/model/AttributeChange" "was" "Lcom/example/archipel/archipel/model/Attribute;" (.ref a2) ∧ Fld Z h a1 "com/example/archipel/archipel/model/AttributeChange" "becomes" "Lcom/example/archipel/archipel/model/Attribute;" (.ref a3)
theorem ef11_2 (m : MethodId) (x0 : Addr) (x3 : Addr) (x4 : Addr) : entryFrame m #[(.ref x0), .null, .null, (.ref x3), (.ref x4)] 5 = mkF m 0 #[.val (.ref x0), .val .null, .val .null, .val (.ref x3), .val (.ref x4)] [] := by first | (simp [entryFrame, mkF, argsToLocals, Value.category]; done) | rfl
set_option maxRecDepth 65536 in
set_option maxHeartbeats 40000000 in
theorem rm11_2 (l : Launch) (Z : State) (a0 : Array Value) (hw : ∀ d ∈ tables_1, d.before a0 Z = true) (ws : List Jvm.Cond) {w_INTEGER : Addr} {w_TEXT : Addr} {w_DATE : Addr} {w_DECIMAL : Addr} {i_COMPACT_STRINGS : Int32} (G : Glob Z w_INTEGER w_TEXT w_DATE w_DECIMAL i_COMPACT_STRINGS) (a1 : Addr) (a2 : Addr) (a3 : Addr) (a5 : Addr) (a7 : Addr) (a10 : Addr) (a11 : Addr) (k12 : ClassId) (p13 : Int32) (k14 : ClassId) (p15 : Int32) (a17 : Addr) (a19 : Addr) (h0 : Heap) (n0 : Nat) (O0 : Old Z n0 h0) (E_a2 : Exa Z h0 a2 "com/example/archipel/archipel/model/Attribute") (F_name_a2 : Fld Z h0 a2 "com/example/archipel/archipel/model/Attribute" "name" "Ljava/lang/String;" (.ref a5)) (E_a3 : Exa Z h0 a3 "com/example/archipel/archipel/model/Attribute") (F_name_a3 : Fld Z h0 a3 "com/example/archipel/archipel/model/Attribute" "name" "Ljava/lang/String;" (.ref a7)) (E_a5 : Exa Z h0 a5 "java/lang/String") (ne_a5_a7 : a5 ≠ a7) (E_a7 : Exa Z h0 a7 "java/lang/String") (F_coder_a5 : Fld Z h0 a5 "java/lang/String" "coder" "B" (.int (0 : Int32))) (F_coder_a7 : Fld Z h0 a7 "java/lang/String" "coder" "B" (.int (0 : Int32))) (F_value_a5 : Fld Z h0 a5 "java/lang/String" "value" "[B" (.ref a10)) (F_value_a7 : Fld Z h0 a7 "java/lang/String" "value" "[B" (.ref a11)) (V_a10 : Arv Z h0 a10 k12 .byte (1 : Int32) [(.int p13)] (.int (0 : Int32))) (V_a11 : Arv Z h0 a11 k14 .byte (1 : Int32) [(.int p15)] (.int (0 : Int32))) (hc_1 : (f7 p13 p15) = (0 : Int32)) (F_type_a2 : Fld Z h0 a2 "com/example/archipel/archipel/model/Attribute" "type" "Lcom/example/archipel/archipel/model/DataType;" (.ref a17)) (F_type_a3 : Fld Z h0 a3 "com/example/archipel/archipel/model/Attribute" "type" "Lcom/example/archipel/archipel/model/DataType;" (.ref a19)) (E_a17 : Exa Z h0 a17 "com/example/archipel/archipel/model/DataType") (E_a19 : Exa Z h0 a19 "com/example/archipel/archipel/model/DataType") (hc_2 : a17 = a19) (E_a1 : Exa Z h0 a1 "com/example/archipel/archipel/model/AttributeChange") (F_before_a1 : Fld Z h0 a1 "com/example/archipel/archipel/model/AttributeChange" "before" "Lcom/example/archipel/archipel/model/Entity;" .null) (g_a1 : n0 ≤ a1) (F_after_a1 : Fld Z h0 a1 "com/example/archipel/archipel/model/AttributeChange" "after" "Lcom/example/archipel/archipel/model/Entity;" .null) (F_was_a1 : Fld Z h0 a1 "com/example/archipel/archipel/model/AttributeChange" "was" "Lcom/example/archipel/archipel/model/Attribute;" .null) (F_becomes_a1 : Fld Z h0 a1 "com/example/archipel/archipel/model/AttributeChange" "becomes" "Lcom/example/archipel/archipel/model/Attribute;" .null) :
    MetFree l (⟨"com/example/archipel/archipel/model/AttributeChange", "<init>", "(Lcom/example/archipel/archipel/model/Entity;Lcom/example/archipel/archipel/model/Entity;Lcom/example/archipel/archipel/model/Attribute;Lcom/example/archipel/archipel/model/Attribute;)V"⟩ : MethodName) (head1 (Jvm.Cond.code (⟨"com/example/archipel/archipel/model/AttributeChange", "<init>", "(Lcom/example/archipel/archipel/model/Entity;Lcom/example/archipel/archipel/model/Entity;Lcom/example/archipel/archipel/model/Attribute;Lcom/example/archipel/archipel/model/Attribute;)V"⟩ : MethodName) prog_30_method_1_code 5 none :: ws) ({ frames := 2, cells := 0, slots := 0, locals := 28 } : Room)) (fun a U => a = #[(.ref a1), .null, .null, (.ref a2), (.ref a3)] ∧ Z.Warmed39 U.vm ∧ U.heap = h0) (fun _ _ _ _ _ => True) (fun _ U o U' => ∃ v L, o = .returned v ∧ Q11_2 Z w_INTEGER w_TEXT w_DATE w_DECIMAL i_COMPACT_STRINGS a1 a2 a3 a5 a7 a10 a11 k12 p13 k14 p15 a17 a19 h0 n0 v U'.heap L ∧ FrameEnd U o U' L ({ frames := 2, cells := 0, slots := 0, locals := 28 } : Room).cells ({ frames := 2, cells := 0, slots := 0, locals := 28 } : Room).slots) := by
  refine MetFree.of_bodySF (plainFor_of_name pn_com_example_archipel_archipel_model_AttributeChange) hisR ?_
  intro p e s m args below meth c s₁ Bd hml0 hP hK
  obtain ⟨rfl, hZ, hh⟩ := hP
  have hx := Bd.exec
  have hby := Bd.bytes
  have hml : c.maxLocals = 5 := hml0
  have hown : s.vm.findClass "com/example/archipel/archipel/model/AttributeChange" = some m.cls := findClass_of_methodNamed Bd.named
  have hnm := (name_of_methodNamed Bd.named Bd.method).1
  have X0 : Stand p l e ({ frames := 2, cells := 0, slots := 0, locals := 28 } : Room) s m #[(.ref a1), .null, .null, (.ref a2), (.ref a3)] below meth c s₁ [] 0 0 := Stand.of_body Bd
  have e0 : s₁.heap = h0 := by rw [← hh, Bd.state]; rfl
  have N0 := Fr.nil n0
  show OGot p.tables e below (s₁.setTop (entryFrame m #[(.ref a1), .null, .null, (.ref a2), (.ref a3)] 5)) _
  refine OGot.go (fun t k => castTop (ef11_2 m a1 a2 a3) k) ?_
  show OGot p.tables e below (s₁.setTop (mkF m 0 #[.val (.ref a1), .val .null, .val .null, .val (.ref a2), .val (.ref a3)] [])) _
  refine OGot.go (fun t k => XS.aloadN X0.here hx rfl (hb hby d11_0) rfl rfl k) ?_
  show OGot p.tables e below (s₁.setTop (mkF m 1 #[.val (.ref a1), .val .null, .val .null, .val (.ref a2), .val (.ref a3)] [(.ref a1)])) _
  obtain ⟨_, _, ⟨T4, L4, k4, n4⟩, -, X4, ⟨Lc4, hQ4, l4, y4, z4⟩, st4⟩ := X0.specialBack hx (y := (⟨"java/lang/Record", "<init>", "()V"⟩ : MethodName)) rfl hown (mvT hZ (ow hw 70 rfl)) (mvT hZ (ow hw 51 rfl)) (mvT hZ (ow hw 54 rfl)) (by decide) (backOf (W := 0) (rm10 l Z a0 hw [] G a1 h0 n0 O0 ) hZ (ow hw 54 rfl) (ow hw 53 rfl) (by decide) (by decide)) (g := (mkF m 1 #[.val (.ref a1), .val .null, .val .null, .val (.ref a2), .val (.ref a3)] [(.ref a1)])) rfl (by rw [hml]; rfl) (Steps.refl _) (a := a1) (argsL := []) (rest := []) (lenOf pd_7 rfl) rfl (by show 2 * 0 + _ ≤ _; exact Nat.le_of_eq rfl) (hb hby d11_1) (fun _ _ => ⟨rfl, e0, (by decide : 0 + 0 ≤ _), (by decide : 0 + 0 ≤ _)⟩)
  dsimp only [Pt.U, Pt.locs, Pt.cells, Pt.slots] at X4 l4 y4 z4 st4 hQ4
  subst l4 y4 z4
  obtain ⟨rfl, N4q, e4⟩ := hQ4
  have N4 := Fr.app N0 N4q
  refine OGot.on st4 ?_
  show OGot p.tables e below (T4.setTop (mkF m 4 #[.val (.ref a1), .val .null, .val .null, .val (.ref a2), .val (.ref a3)] [])) _
  refine OGot.go (fun t k => XS.aloadN X4.here hx rfl (hb hby d11_4) rfl rfl k) ?_
  show OGot p.tables e below (T4.setTop (mkF m 5 #[.val (.ref a1), .val .null, .val .null, .val (.ref a2), .val (.ref a3)] [(.ref a2)])) _
  refine OGot.go (fun t k => XS.ifnonnullYes X4.here hx rfl (pc0 := 5) (pc' := 13) rfl (hb hby d11_5) rfl (by decide) (by decide) k) ?_
  show OGot p.tables e below (T4.setTop (mkF m 13 #[.val (.ref a1), .val .null, .val .null, .val (.ref a2), .val (.ref a3)] [])) _
  refine OGot.go (fun t k => XS.aloadN X4.here hx rfl (hb hby d11_13) rfl rfl k) ?_
  show OGot p.tables e below (T4.setTop (mkF m 14 #[.val (.ref a1), .val .null, .val .null, .val (.ref a2), .val (.ref a3)] [(.ref a2)])) _
  refine OGot.go (fun t k => XS.ifnullNo X4.here hx rfl (hb hby d11_14) rfl k) ?_
  show OGot p.tables e below (T4.setTop (mkF m 17 #[.val (.ref a1), .val .null, .val .null, .val (.ref a2), .val (.ref a3)] [])) _
  refine OGot.go (fun t k => XS.aload X4.here hx rfl (hb hby d11_17) rfl rfl k) ?_
  show OGot p.tables e below (T4.setTop (mkF m 19 #[.val (.ref a1), .val .null, .val .null, .val (.ref a2), .val (.ref a3)] [(.ref a3)])) _
  refine OGot.go (fun t k => XS.ifnullNo X4.here hx rfl (hb hby d11_19) rfl k) ?_
  show OGot p.tables e below (T4.setTop (mkF m 22 #[.val (.ref a1), .val .null, .val .null, .val (.ref a2), .val (.ref a3)] [])) _
  refine OGot.go (fun t k => XS.aloadN X4.here hx rfl (hb hby d11_22) rfl rfl k) ?_
  show OGot p.tables e below (T4.setTop (mkF m 23 #[.val (.ref a1), .val .null, .val .null, .val (.ref a2), .val (.ref a3)] [(.ref a2)])) _
  obtain ⟨cq6, kq6, q6a, q6b, q6c⟩ := isOf hZ e4 E_a2
  obtain ⟨_, _, ⟨T6, L6, k6, n6⟩, -, X6, ⟨Lc6, hQ6, l6, y6, z6⟩, st6⟩ := X4.virtualBack hx (y := (⟨"com/example/archipel/archipel/model/Attribute", "name", "()Ljava/lang/String;"⟩ : MethodName)) (z := (⟨"com/example/archipel/archipel/model/Attribute", "name", "()Ljava/lang/String;"⟩ : MethodName)) hown (mvT hZ (ow hw 86 rfl)) (mvT hZ (ow hw 87 rfl)) (notFace_of_selects (args := #[]) (mvT hZ (ow hw 89 rfl))) (mvT hZ (ow hw 89 rfl)) (mvT hZ (ow hw 88 rfl)) (by decide) (backOf (W := 0) (rm13 l Z a0 hw [] G a2 a5 h0 n0 O0 F_name_a2) hZ (ow hw 90 rfl) (ow hw 46 rfl) (by decide) (by decide)) q6a q6c (g := (mkF m 23 #[.val (.ref a1), .val .null, .val .null, .val (.ref a2), .val (.ref a3)] [(.ref a2)])) rfl (by rw [hml]; rfl) (Steps.refl _) (argsL := []) (rest := []) (lenOf pd_11 rfl) rfl (by show 2 * 0 + _ ≤ _; exact Nat.le_of_eq rfl) (hb hby d11_23) (fun _ _ => ⟨rfl, e4, (by decide : 0 + 0 ≤ _), (by decide : 0 + 0 ≤ _)⟩)
  dsimp only [Pt.U, Pt.locs, Pt.cells, Pt.slots] at X6 l6 y6 z6 st6 hQ6
  subst l6 y6 z6
  obtain ⟨rfl, N6q, e6⟩ := hQ6
  have N6 := Fr.app N4 N6q
  refine OGot.on st6 ?_
  show OGot p.tables e below (T6.setTop (mkF m 26 #[.val (.ref a1), .val .null, .val .null, .val (.ref a2), .val (.ref a3)] [(.ref a5)])) _
  refine OGot.go (fun t k => XS.aload X6.here hx rfl (hb hby d11_26) rfl rfl k) ?_
  show OGot p.tables e below (T6.setTop (mkF m 28 #[.val (.ref a1), .val .null, .val .null, .val (.ref a2), .val (.ref a3)] [(.ref a3), (.ref a5)])) _
  obtain ⟨cq8, kq8, q8a, q8b, q8c⟩ := isOf hZ e6 E_a3
  obtain ⟨_, _, ⟨T8, L8, k8, n8⟩, -, X8, ⟨Lc8, hQ8, l8, y8, z8⟩, st8⟩ := X6.virtualBack hx (y := (⟨"com/example/archipel/archipel/model/Attribute", "name", "()Ljava/lang/String;"⟩ : MethodName)) (z := (⟨"com/example/archipel/archipel/model/Attribute", "name", "()Ljava/lang/String;"⟩ : MethodName)) hown (mvT hZ (ow hw 86 rfl)) (mvT hZ (ow hw 87 rfl)) (notFace_of_selects (args := #[]) (mvT hZ (ow hw 89 rfl))) (mvT hZ (ow hw 89 rfl)) (mvT hZ (ow hw 88 rfl)) (by decide) (backOf (W := 1) (rm13 l Z a0 hw [] G a3 a7 h0 n0 O0 F_name_a3) hZ (ow hw 90 rfl) (ow hw 46 rfl) (by decide) (by decide)) q8a q8c (g := (mkF m 28 #[.val (.ref a1), .val .null, .val .null, .val (.ref a2), .val (.ref a3)] [(.ref a3), (.ref a5)])) rfl (by rw [hml]; rfl) (Steps.refl _) (argsL := []) (rest := [(.ref a5)]) (lenOf pd_11 rfl) rfl (by show 2 * 0 + _ ≤ _; exact Nat.le_of_eq rfl) (hb hby d11_28) (fun _ _ => ⟨rfl, e6, (by decide : 0 + 0 ≤ _), (by decide : 0 + 0 ≤ _)⟩)
  dsimp only [Pt.U, Pt.locs, Pt.cells, Pt.slots] at X8 l8 y8 z8 st8 hQ8
  subst l8 y8 z8
  obtain ⟨rfl, N8q, e8⟩ := hQ8
  have N8 := Fr.app N6 N8q
  refine OGot.on st8 ?_
  show OGot p.tables e below (T8.setTop (mkF m 31 #[.val (.ref a1), .val .null, .val .null, .val (.ref a2), .val (.ref a3)] [(.ref a7), (.ref a5)])) _
  have ne9 : a5 ≠ a7 := ne_a5_a7
  obtain ⟨cq16, kq16, q16a, q16b, q16c⟩ := isOf hZ e8 E_a5
  obtain ⟨_, _, ⟨T16, L16, k16, n16⟩, -, X16, ⟨Lc16, hQ16, l16, y16, z16⟩, st16⟩ := X8.virtualBack hx (y := (⟨"java/lang/String", "equals", "(Ljava/lang/Object;)Z"⟩ : MethodName)) (z := (⟨"java/lang/String", "equals", "(Ljava/lang/Object;)Z"⟩ : MethodName)) hown (mvT hZ (ow hw 91 rfl)) (mvT hZ (ow hw 37 rfl)) (notFace_of_selects (args := #[]) (mvT hZ (ow hw 39 rfl))) (mvT hZ (ow hw 39 rfl)) (mvT hZ (ow hw 38 rfl)) (by decide) (backOf (W := 0) (rm7 l Z a0 hw [] G a5 a7 a10 a11 k12 p13 k14 p15 h0 n0 O0 ne9 E_a7 F_coder_a5 F_coder_a7 F_value_a5 F_value_a7 V_a10 V_a11) hZ (ow hw 40 rfl) (ow hw 3 rfl) (by decide) (by decide)) q16a q16c (g := (mkF m 31 #[.val (.ref a1), .val .null, .val .null, .val (.ref a2), .val (.ref a3)] [(.ref a7), (.ref a5)])) rfl (by rw [hml]; rfl) (Steps.refl _) (argsL := [(.ref a7)]) (rest := []) (lenOf pd_6 rfl) rfl (by show 2 * 0 + _ ≤ _; exact Nat.le_of_eq rfl) (hb hby d11_31) (fun _ _ => ⟨rfl, e8, (by decide : 0 + 0 ≤ _), (by decide : 0 + 0 ≤ _)⟩)
  dsimp only [Pt.U, Pt.locs, Pt.cells, Pt.slots] at X16 l16 y16 z16 st16 hQ16
  subst l16 y16 z16
  obtain ⟨rfl, N16q, e16⟩ := hQ16
  have N16 := Fr.app N8 N16q
  refine OGot.on st16 ?_
  show OGot p.tables e below (T16.setTop (mkF m 34 #[.val (.ref a1), .val .null, .val .null, .val (.ref a2), .val (.ref a3)] [(.int (f7 p13 p15))])) _
  refine OGot.go (fun t k => XS.ifNo X16.here hx rfl (hb hby d11_34) rfl ((if0 _ _).trans (teq hc_1).2) k) ?_
  show OGot p.tables e below (T16.setTop (mkF m 37 #[.val (.ref a1), .val .null, .val .null, .val (.ref a2), .val (.ref a3)] [])) _
  refine OGot.go (fun t k => XS.aloadN X16.here hx rfl (hb hby d11_37) rfl rfl k) ?_
  show OGot p.tables e below (T16.setTop (mkF m 38 #[.val (.ref a1), .val .null, .val .null, .val (.ref a2), .val (.ref a3)] [(.ref a2)])) _
  obtain ⟨cq18, kq18, q18a, q18b, q18c⟩ := isOf hZ e16 E_a2
  obtain ⟨_, _, ⟨T18, L18, k18, n18⟩, -, X18, ⟨Lc18, hQ18, l18, y18, z18⟩, st18⟩ := X16.virtualBack hx (y := (⟨"com/example/archipel/archipel/model/Attribute", "type", "()Lcom/example/archipel/archipel/model/DataType;"⟩ : MethodName)) (z := (⟨"com/example/archipel/archipel/model/Attribute", "type", "()Lcom/example/archipel/archipel/model/DataType;"⟩ : MethodName)) hown (mvT hZ (ow hw 92 rfl)) (mvT hZ (ow hw 93 rfl)) (notFace_of_selects (args := #[]) (mvT hZ (ow hw 95 rfl))) (mvT hZ (ow hw 95 rfl)) (mvT hZ (ow hw 94 rfl)) (by decide) (backOf (W := 0) (rm14 l Z a0 hw [] G a2 a17 h0 n0 O0 F_type_a2) hZ (ow hw 96 rfl) (ow hw 46 rfl) (by decide) (by decide)) q18a q18c (g := (mkF m 38 #[.val (.ref a1), .val .null, .val .null, .val (.ref a2), .val (.ref a3)] [(.ref a2)])) rfl (by rw [hml]; rfl) (Steps.refl _) (argsL := []) (rest := []) (lenOf pd_12 rfl) rfl (by show 2 * 0 + _ ≤ _; exact Nat.le_of_eq rfl) (hb hby d11_38) (fun _ _ => ⟨rfl, e16, (by decide : 0 + 0 ≤ _), (by decide : 0 + 0 ≤ _)⟩)
  dsimp only [Pt.U, Pt.locs, Pt.cells, Pt.slots] at X18 l18 y18 z18 st18 hQ18
  subst l18 y18 z18
  obtain ⟨rfl, N18q, e18⟩ := hQ18
  have N18 := Fr.app N16 N18q
  refine OGot.on st18 ?_
  show OGot p.tables e below (T18.setTop (mkF m 41 #[.val (.ref a1), .val .null, .val .null, .val (.ref a2), .val (.ref a3)] [(.ref a17)])) _
  refine OGot.go (fun t k => XS.aload X18.here hx rfl (hb hby d11_41) rfl rfl k) ?_
  show OGot p.tables e below (T18.setTop (mkF m 43 #[.val (.ref a1), .val .null, .val .null, .val (.ref a2), .val (.ref a3)] [(.ref a3), (.ref a17)])) _
  obtain ⟨cq20, kq20, q20a, q20b, q20c⟩ := isOf hZ e18 E_a3
  obtain ⟨_, _, ⟨T20, L20, k20, n20⟩, -, X20, ⟨Lc20, hQ20, l20, y20, z20⟩, st20⟩ := X18.virtualBack hx (y := (⟨"com/example/archipel/archipel/model/Attribute", "type", "()Lcom/example/archipel/archipel/model/DataType;"⟩ : MethodName)) (z := (⟨"com/example/archipel/archipel/model/Attribute", "type", "()Lcom/example/archipel/archipel/model/DataType;"⟩ : MethodName)) hown (mvT hZ (ow hw 92 rfl)) (mvT hZ (ow hw 93 rfl)) (notFace_of_selects (args := #[]) (mvT hZ (ow hw 95 rfl))) (mvT hZ (ow hw 95 rfl)) (mvT hZ (ow hw 94 rfl)) (by decide) (backOf (W := 1) (rm14 l Z a0 hw [] G a3 a19 h0 n0 O0 F_type_a3) hZ (ow hw 96 rfl) (ow hw 46 rfl) (by decide) (by decide)) q20a q20c (g := (mkF m 43 #[.val (.ref a1), .val .null, .val .null, .val (.ref a2), .val (.ref a3)] [(.ref a3), (.ref a17)])) rfl (by rw [hml]; rfl) (Steps.refl _) (argsL := []) (rest := [(.ref a17)]) (lenOf pd_12 rfl) rfl (by show 2 * 0 + _ ≤ _; exact Nat.le_of_eq rfl) (hb hby d11_43) (fun _ _ => ⟨rfl, e18, (by decide : 0 + 0 ≤ _), (by decide : 0 + 0 ≤ _)⟩)
  dsimp only [Pt.U, Pt.locs, Pt.cells, Pt.slots] at X20 l20 y20 z20 st20 hQ20
  subst l20 y20 z20
  obtain ⟨rfl, N20q, e20⟩ := hQ20
  have N20 := Fr.app N18 N20q
  refine OGot.on st20 ?_
  show OGot p.tables e below (T20.setTop (mkF m 46 #[.val (.ref a1), .val .null, .val .null, .val (.ref a2), .val (.ref a3)] [(.ref a19), (.ref a17)])) _
  refine OGot.go (fun t k => Jvm.RoadKit.acmp (g := (mkF m 46 #[.val (.ref a1), .val .null, .val .null, .val (.ref a2), .val (.ref a3)] [(.ref a19), (.ref a17)])) X20 hx rfl rfl rfl (pc0 := 46) (pc' := 71) (same := true) rfl (hb hby d11_46) rfl (decide_eq_true (congrArg Value.ref hc_2)) (by decide) (by decide) k) ?_
  show OGot p.tables e below (T20.setTop (mkF m 71 #[.val (.ref a1), .val .null, .val .null, .val (.ref a2), .val (.ref a3)] [])) _
  refine OGot.go (fun t k => XS.aloadN X20.here hx rfl (hb hby d11_71) rfl rfl k) ?_
  show OGot p.tables e below (T20.setTop (mkF m 72 #[.val (.ref a1), .val .null, .val .null, .val (.ref a2), .val (.ref a3)] [(.ref a1)])) _
  refine OGot.go (fun t k => XS.aloadN X20.here hx rfl (hb hby d11_72) rfl rfl k) ?_
  show OGot p.tables e below (T20.setTop (mkF m 73 #[.val (.ref a1), .val .null, .val .null, .val (.ref a2), .val (.ref a3)] [.null, (.ref a1)])) _
  obtain ⟨T21, h21, X21, e21, W21, st21⟩ := putF X20 hx hZ hown (host := "") (Or.inl (ow hw 71 rfl)) Via.refl e20 F_before_a1 E_a1 (Or.inr ⟨(ow hw 72 rfl), rfl, hnm⟩) (ow hw 65 rfl) (ty := (.object "com/example/archipel/archipel/model/Entity")) (by decide) rfl rfl (g := (mkF m 73 #[.val (.ref a1), .val .null, .val .null, .val (.ref a2), .val (.ref a3)] [.null, (.ref a1)])) rfl rfl (hb hby d11_73)
  refine OGot.go st21 ?_
  have N21 := Fr.snoc X21 N20 g_a1
  have O21 := O0.wr W21 g_a1
  have K21 := (OKeep.refl h0 [(a1, Jvm.RoadKit.slotOf Z "com/example/archipel/archipel/model/AttributeChange" "before" "Lcom/example/archipel/archipel/model/Entity;"), (a1, Jvm.RoadKit.slotOf Z "com/example/archipel/archipel/model/AttributeChange" "after" "Lcom/example/archipel/archipel/model/Entity;"), (a1, Jvm.RoadKit.slotOf Z "com/example/archipel/archipel/model/AttributeChange" "was" "Lcom/example/archipel/archipel/model/Attribute;"), (a1, Jvm.RoadKit.slotOf Z "com/example/archipel/archipel/model/AttributeChange" "becomes" "Lcom/example/archipel/archipel/model/Attribute;")]).wr W21 (Or.inl (List.mem_of_getElem? (i := 0) rfl))
  have Fw21 : Fld Z h21 a1 "com/example/archipel/archipel/model/AttributeChange" "before" "Lcom/example/archipel/archipel/model/Entity;" .null := F_before_a1.same W21
  show OGot p.tables e below (T21.setTop (mkF m 76 #[.val (.ref a1), .val .null, .val .null, .val (.ref a2), .val (.ref a3)] [])) _
  refine OGot.go (fun t k => XS.aloadN X21.here hx rfl (hb hby d11_76) rfl rfl k) ?_
  show OGot p.tables e below (T21.setTop (mkF m 77 #[.val (.ref a1), .val .null, .val .null, .val (.ref a2), .val (.ref a3)] [(.ref a1)])) _
  refine OGot.go (fun t k => XS.aloadN X21.here hx rfl (hb hby d11_77) rfl rfl k) ?_
  show OGot p.tables e below (T21.setTop (mkF m 78 #[.val (.ref a1), .val .null, .val .null, .val (.ref a2), .val (.ref a3)] [.null, (.ref a1)])) _
  have F22 : Fld Z h21 a1 "com/example/archipel/archipel/model/AttributeChange" "after" "Lcom/example/archipel/archipel/model/Entity;" .null := (F_after_a1.other W21 (Or.inr (slot_ne (Or.inr (ow hw 74 rfl)) (Or.inr (ow hw 72 rfl)) (by decide) (t := (.object "com/example/archipel/archipel/model/Entity")) (t' := (.object "com/example/archipel/archipel/model/Entity")) (by decide) (by decide))))
  obtain ⟨T23, h23, X23, e23, W23, st23⟩ := putF X21 hx hZ hown (host := "") (Or.inl (ow hw 73 rfl)) Via.refl e21 F22 (E_a1.wr W21) (Or.inr ⟨(ow hw 74 rfl), rfl, hnm⟩) (ow hw 65 rfl) (ty := (.object "com/example/archipel/archipel/model/Entity")) (by decide) rfl rfl (g := (mkF m 78 #[.val (.ref a1), .val .null, .val .null, .val (.ref a2), .val (.ref a3)] [.null, (.ref a1)])) rfl rfl (hb hby d11_78)
  refine OGot.go st23 ?_
  have N23 := Fr.snoc X23 N21 g_a1
  have O23 := O21.wr W23 g_a1
  have K23 := K21.wr W23 (Or.inl (List.mem_of_getElem? (i := 1) rfl))
  have Fw23 : Fld Z h23 a1 "com/example/archipel/archipel/model/AttributeChange" "after" "Lcom/example/archipel/archipel/model/Entity;" .null := F22.same W23
  show OGot p.tables e below (T23.setTop (mkF m 81 #[.val (.ref a1), .val .null, .val .null, .val (.ref a2), .val (.ref a3)] [])) _
  refine OGot.go (fun t k => XS.aloadN X23.here hx rfl (hb hby d11_81) rfl rfl k) ?_
  show OGot p.tables e below (T23.setTop (mkF m 82 #[.val (.ref a1), .val .null, .val .null, .val (.ref a2), .val (.ref a3)] [(.ref a1)])) _
  refine OGot.go (fun t k => XS.aloadN X23.here hx rfl (hb hby d11_82) rfl rfl k) ?_
  show OGot p.tables e below (T23.setTop (mkF m 83 #[.val (.ref a1), .val .null, .val .null, .val (.ref a2), .val (.ref a3)] [(.ref a2), (.ref a1)])) _
  have F24 : Fld Z h23 a1 "com/example/archipel/archipel/model/AttributeChange" "was" "Lcom/example/archipel/archipel/model/Attribute;" .null := ((F_was_a1.other W21 (Or.inr (slot_ne (Or.inr (ow hw 76 rfl)) (Or.inr (ow hw 72 rfl)) (by decide) (t := (.object "com/example/archipel/archipel/model/Attribute")) (t' := (.object "com/example/archipel/archipel/model/Entity")) (by decide) (by decide)))).other W23 (Or.inr (slot_ne (Or.inr (ow hw 76 rfl)) (Or.inr (ow hw 74 rfl)) (by decide) (t := (.object "com/example/archipel/archipel/model/Attribute")) (t' := (.object "com/example/archipel/archipel/model/Entity")) (by decide) (by decide))))
  obtain ⟨T25, h25, X25, e25, W25, st25⟩ := putF X23 hx hZ hown (host := "") (Or.inl (ow hw 75 rfl)) Via.refl e23 F24 ((E_a1.wr W21).wr W23) (Or.inr ⟨(ow hw 76 rfl), rfl, hnm⟩) (ow hw 65 rfl) (ty := (.object "com/example/archipel/archipel/model/Attribute")) (by decide) rfl rfl (g := (mkF m 83 #[.val (.ref a1), .val .null, .val .null, .val (.ref a2), .val (.ref a3)] [(.ref a2), (.ref a1)])) rfl rfl (hb hby d11_83)
  refine OGot.go st25 ?_
  have N25 := Fr.snoc X25 N23 g_a1
  have O25 := O23.wr W25 g_a1
  have K25 := K23.wr W25 (Or.inl (List.mem_of_getElem? (i := 2) rfl))
  have Fw25 : Fld Z h25 a1 "com/example/archipel/archipel/model/AttributeChange" "was" "Lcom/example/archipel/archipel/model/Attribute;" (.ref a2) := F24.same W25
  show OGot p.tables e below (T25.setTop (mkF m 86 #[.val (.ref a1), .val .null, .val .null, .val (.ref a2), .val (.ref a3)] [])) _
  refine OGot.go (fun t k => XS.aloadN X25.here hx rfl (hb hby d11_86) rfl rfl k) ?_
  show OGot p.tables e below (T25.setTop (mkF m 87 #[.val (.ref a1), .val .null, .val .null, .val (.ref a2), .val (.ref a3)] [(.ref a1)])) _
  refine OGot.go (fun t k => XS.aload X25.here hx rfl (hb hby d11_87) rfl rfl k) ?_
  show OGot p.tables e below (T25.setTop (mkF m 89 #[.val (.ref a1), .val .null, .val .null, .val (.ref a2), .val (.ref a3)] [(.ref a3), (.ref a1)])) _
  have F26 : Fld Z h25 a1 "com/example/archipel/archipel/model/AttributeChange" "becomes" "Lcom/example/archipel/archipel/model/Attribute;" .null := (((F_becomes_a1.other W21 (Or.inr (slot_ne (Or.inr (ow hw 78 rfl)) (Or.inr (ow hw 72 rfl)) (by decide) (t := (.object "com/example/archipel/archipel/model/Attribute")) (t' := (.object "com/example/archipel/archipel/model/Entity")) (by decide) (by decide)))).other W23 (Or.inr (slot_ne (Or.inr (ow hw 78 rfl)) (Or.inr (ow hw 74 rfl)) (by decide) (t := (.object "com/example/archipel/archipel/model/Attribute")) (t' := (.object "com/example/archipel/archipel/model/Entity")) (by decide) (by decide)))).other W25 (Or.inr (slot_ne (Or.inr (ow hw 78 rfl)) (Or.inr (ow hw 76 rfl)) (by decide) (t := (.object "com/example/archipel/archipel/model/Attribute")) (t' := (.object "com/example/archipel/archipel/model/Attribute")) (by decide) (by decide))))
  obtain ⟨T27, h27, X27, e27, W27, st27⟩ := putF X25 hx hZ hown (host := "") (Or.inl (ow hw 77 rfl)) Via.refl e25 F26 (((E_a1.wr W21).wr W23).wr W25) (Or.inr ⟨(ow hw 78 rfl), rfl, hnm⟩) (ow hw 65 rfl) (ty := (.object "com/example/archipel/archipel/model/Attribute")) (by decide) rfl rfl (g := (mkF m 89 #[.val (.ref a1), .val .null, .val .null, .val (.ref a2), .val (.ref a3)] [(.ref a3), (.ref a1)])) rfl rfl (hb hby d11_89)
  refine OGot.go st27 ?_
  have N27 := Fr.snoc X27 N25 g_a1
  have O27 := O25.wr W27 g_a1
  have K27 := K25.wr W27 (Or.inl (List.mem_of_getElem? (i := 3) rfl))
  have Fw27 : Fld Z h27 a1 "com/example/archipel/archipel/model/AttributeChange" "becomes" "Lcom/example/archipel/archipel/model/Attribute;" (.ref a3) := F26.same W27
  show OGot p.tables e below (T27.setTop (mkF m 92 #[.val (.ref a1), .val .null, .val .null, .val (.ref a2), .val (.ref a3)] [])) _
  obtain ⟨fs, hr, hrun, hended, hW, hsame⟩ := X27.leave (v := none) (fun _ => rfl)
  refine ⟨_, _, X27.returnOut hx Bd.returns (hb hby d11_92) hr, hrun, hended, _, _, rfl, ?_, ⟨_, rfl⟩, hW, hsame.mono (by decide) (by decide)⟩
  have F28 : Fld Z h27 a1 "com/example/archipel/archipel/model/AttributeChange" "before" "Lcom/example/archipel/archipel/model/Entity;" .null := (((Fw21.other W23 (Or.inr (slot_ne (Or.inr (ow hw 72 rfl)) (Or.inr (ow hw 74 rfl)) (by decide) (t := (.object "com/example/archipel/archipel/model/Entity")) (t' := (.object "com/example/archipel/archipel/model/Entity")) (by decide) (by decide)))).other W25 (Or.inr (slot_ne (Or.inr (ow hw 72 rfl)) (Or.inr (ow hw 76 rfl)) (by decide) (t := (.object "com/example/archipel/archipel/model/Entity")) (t' := (.object "com/example/archipel/archipel/model/Attribute")) (by decide) (by decide)))).other W27 (Or.inr (slot_ne (Or.inr (ow hw 72 rfl)) (Or.inr (ow hw 78 rfl)) (by decide) (t := (.object "com/example/archipel/archipel/model/Entity")) (t' := (.object "com/example/archipel/archipel/model/Attribute")) (by decide) (by decide))))
  have F29 : Fld Z h27 a1 "com/example/archipel/archipel/model/AttributeChange" "after" "Lcom/example/archipel/archipel/model/Entity;" .null := ((Fw23.other W25 (Or.inr (slot_ne (Or.inr (ow hw 74 rfl)) (Or.inr (ow hw 76 rfl)) (by decide) (t := (.object "com/example/archipel/archipel/model/Entity")) (t' := (.object "com/example/archipel/archipel/model/Attribute")) (by decide) (by decide)))).other W27 (Or.inr (slot_ne (Or.inr (ow hw 74 rfl)) (Or.inr (ow hw 78 rfl)) (by decide) (t := (.object "com/example/archipel/archipel/model/Entity")) (t' := (.object "com/example/archipel/archipel/model/Attribute")) (by decide) (by decide))))
  have F30 : Fld Z h27 a1 "com/example/archipel/archipel/model/AttributeChange" "was" "Lcom/example/archipel/archipel/model/Attribute;" (.ref a2) := (Fw25.other W27 (Or.inr (slot_ne (Or.inr (ow hw 76 rfl)) (Or.inr (ow hw 78 rfl)) (by decide) (t := (.object "com/example/archipel/archipel/model/Attribute")) (t' := (.object "com/example/archipel/archipel/model/Attribute")) (by decide) (by decide))))
  show Q11_2 Z w_INTEGER w_TEXT w_DATE w_DECIMAL i_COMPACT_STRINGS a1 a2 a3 a5 a7 a10 a11 k12 p13 k14 p15 a17 a19 h0 n0 _ T27.heap _
  rw [e27]
  exact ⟨N27, rfl, K27, F28, F29, F30, Fw27⟩
def Q11_3 (Z : State) (w_INTEGER : Addr) (w_TEXT : Addr) (w_DATE : Addr) (w_DECIMAL : Addr) (i_COMPACT_STRINGS : Int32) (a1 : Addr) (a2 : Addr) (a3 : Addr) (a5 : Addr) (a7 : Addr) (a10 : Addr) (a11 : Addr) (k12 : ClassId) (p13 : Int32) (k14 : ClassId) (p15 : Int32) (a17 : Addr) (h0 : Heap) (n0 : Nat) (v : Option Value) (h : Heap) (L : List Loc) : Prop := Fr n0 L ∧ v = none ∧ OKeep h0 h [(a1, Jvm.RoadKit.slotOf Z "com/example/archipel/archipel/model/AttributeChange" "before" "Lcom/example/archipel/archipel/model/Entity;"), (a1, Jvm.RoadKit.slotOf Z "com/example/archipel/archipel/model/AttributeChange" "after" "Lcom/example/archipel/archipel/model/Entity;"), (a1, Jvm.RoadKit.slotOf Z "com/example/archipel/archipel/model/AttributeChange" "was" "Lcom/example/archipel/archipel/model/Attribute;"), (a1, Jvm.RoadKit.slotOf Z "com/example/archipel/archipel/model/AttributeChange" "becomes" "Lcom/example/archipel/archipel/model/Attribute;")] ∧ Fld Z h a1 "com/example/archipel/archipel/model/AttributeChange" "before" "Lcom/example/archipel/archipel/model/Entity;" .null ∧ Fld Z h a1 "com/example/archipel/archipel/model/AttributeChange" "after" "Lcom/example/archipel/archipel/model/Entity;" .null ∧ Fld Z h a1 "com/example/archipel/archipel/model/AttributeChange" "was" "Lcom/example/archipel/archipel/model/Attribute;" (.ref a2) ∧ Fld Z h a1 "com/example/archipel/archipel/model/AttributeChange" "becomes" "Lcom/example/archipel/archipel/model/Attribute;" (.ref a3)
theorem ef11_3 (m : MethodId) (x0 : Addr) (x3 : Addr) (x4 : Addr) : entryFrame m #[(.ref x0), .null, .null, (.ref x3), (.ref x4)] 5 = mkF m 0 #[.val (.ref x0), .val .null, .val .null, .val (.ref x3), .val (.ref x4)] [] := by first | (simp [entryFrame, mkF, argsToLocals, Value.category]; done) | rfl
set_option maxRecDepth 65536 in
set_option maxHeartbeats 40000000 in
theorem rm11_3 (l : Launch) (Z : State) (a0 : Array Value) (hw : ∀ d ∈ tables_1, d.before a0 Z = true) (ws : List Jvm.Cond) {w_INTEGER : Addr} {w_TEXT : Addr} {w_DATE : Addr} {w_DECIMAL : Addr} {i_COMPACT_STRINGS : Int32} (G : Glob Z w_INTEGER w_TEXT w_DATE w_DECIMAL i_COMPACT_STRINGS) (a1 : Addr) (a2 : Addr) (a3 : Addr) (a5 : Addr) (a7 : Addr) (a10 : Addr) (a11 : Addr) (k12 : ClassId) (p13 : Int32) (k14 : ClassId) (p15 : Int32) (a17 : Addr) (h0 : Heap) (n0 : Nat) (O0 : Old Z n0 h0) (E_a2 : Exa Z h0 a2 "com/example/archipel/archipel/model/Attribute") (F_name_a2 : Fld Z h0 a2 "com/example/archipel/archipel/model/Attribute" "name" "Ljava/lang/String;" (.ref a5)) (E_a3 : Exa Z h0 a3 "com/example/archipel/archipel/model/Attribute") (F_name_a3 : Fld Z h0 a3 "com/example/archipel/archipel/model/Attribute" "name" "Ljava/lang/String;" (.ref a7)) (E_a5 : Exa Z h0 a5 "java/lang/String") (ne_a5_a7 : a5 ≠ a7) (E_a7 : Exa Z h0 a7 "java/lang/String") (F_coder_a5 : Fld Z h0 a5 "java/lang/String" "coder" "B" (.int (0 : Int32))) (F_coder_a7 : Fld Z h0 a7 "java/lang/String" "coder" "B" (.int (0 : Int32))) (F_value_a5 : Fld Z h0 a5 "java/lang/String" "value" "[B" (.ref a10)) (F_value_a7 : Fld Z h0 a7 "java/lang/String" "value" "[B" (.ref a11)) (V_a10 : Arv Z h0 a10 k12 .byte (1 : Int32) [(.int p13)] (.int (0 : Int32))) (V_a11 : Arv Z h0 a11 k14 .byte (1 : Int32) [(.int p15)] (.int (0 : Int32))) (hc_1 : (f7 p13 p15) = (0 : Int32)) (F_type_a2 : Fld Z h0 a2 "com/example/archipel/archipel/model/Attribute" "type" "Lcom/example/archipel/archipel/model/DataType;" (.ref a17)) (F_type_a3 : Fld Z h0 a3 "com/example/archipel/archipel/model/Attribute" "type" "Lcom/example/archipel/archipel/model/DataType;" (.ref a17)) (E_a1 : Exa Z h0 a1 "com/example/archipel/archipel/model/AttributeChange") (F_before_a1 : Fld Z h0 a1 "com/example/archipel/archipel/model/AttributeChange" "before" "Lcom/example/archipel/archipel/model/Entity;" .null) (g_a1 : n0 ≤ a1) (F_after_a1 : Fld Z h0 a1 "com/example/archipel/archipel/model/AttributeChange" "after" "Lcom/example/archipel/archipel/model/Entity;" .null) (F_was_a1 : Fld Z h0 a1 "com/example/archipel/archipel/model/AttributeChange" "was" "Lcom/example/archipel/archipel/model/Attribute;" .null) (F_becomes_a1 : Fld Z h0 a1 "com/example/archipel/archipel/model/AttributeChange" "becomes" "Lcom/example/archipel/archipel/model/Attribute;" .null) :
    MetFree l (⟨"com/example/archipel/archipel/model/AttributeChange", "<init>", "(Lcom/example/archipel/archipel/model/Entity;Lcom/example/archipel/archipel/model/Entity;Lcom/example/archipel/archipel/model/Attribute;Lcom/example/archipel/archipel/model/Attribute;)V"⟩ : MethodName) (head1 (Jvm.Cond.code (⟨"com/example/archipel/archipel/model/AttributeChange", "<init>", "(Lcom/example/archipel/archipel/model/Entity;Lcom/example/archipel/archipel/model/Entity;Lcom/example/archipel/archipel/model/Attribute;Lcom/example/archipel/archipel/model/Attribute;)V"⟩ : MethodName) prog_30_method_1_code 5 none :: ws) ({ frames := 2, cells := 0, slots := 0, locals := 28 } : Room)) (fun a U => a = #[(.ref a1), .null, .null, (.ref a2), (.ref a3)] ∧ Z.Warmed39 U.vm ∧ U.heap = h0) (fun _ _ _ _ _ => True) (fun _ U o U' => ∃ v L, o = .returned v ∧ Q11_3 Z w_INTEGER w_TEXT w_DATE w_DECIMAL i_COMPACT_STRINGS a1 a2 a3 a5 a7 a10 a11 k12 p13 k14 p15 a17 h0 n0 v U'.heap L ∧ FrameEnd U o U' L ({ frames := 2, cells := 0, slots := 0, locals := 28 } : Room).cells ({ frames := 2, cells := 0, slots := 0, locals := 28 } : Room).slots) := by
  refine MetFree.of_bodySF (plainFor_of_name pn_com_example_archipel_archipel_model_AttributeChange) hisR ?_
  intro p e s m args below meth c s₁ Bd hml0 hP hK
  obtain ⟨rfl, hZ, hh⟩ := hP
  have hx := Bd.exec
  have hby := Bd.bytes
  have hml : c.maxLocals = 5 := hml0
  have hown : s.vm.findClass "com/example/archipel/archipel/model/AttributeChange" = some m.cls := findClass_of_methodNamed Bd.named
  have hnm := (name_of_methodNamed Bd.named Bd.method).1
  have X0 : Stand p l e ({ frames := 2, cells := 0, slots := 0, locals := 28 } : Room) s m #[(.ref a1), .null, .null, (.ref a2), (.ref a3)] below meth c s₁ [] 0 0 := Stand.of_body Bd
  have e0 : s₁.heap = h0 := by rw [← hh, Bd.state]; rfl
  have N0 := Fr.nil n0
  show OGot p.tables e below (s₁.setTop (entryFrame m #[(.ref a1), .null, .null, (.ref a2), (.ref a3)] 5)) _
  refine OGot.go (fun t k => castTop (ef11_3 m a1 a2 a3) k) ?_
  show OGot p.tables e below (s₁.setTop (mkF m 0 #[.val (.ref a1), .val .null, .val .null, .val (.ref a2), .val (.ref a3)] [])) _
  refine OGot.go (fun t k => XS.aloadN X0.here hx rfl (hb hby d11_0) rfl rfl k) ?_
  show OGot p.tables e below (s₁.setTop (mkF m 1 #[.val (.ref a1), .val .null, .val .null, .val (.ref a2), .val (.ref a3)] [(.ref a1)])) _
  obtain ⟨_, _, ⟨T4, L4, k4, n4⟩, -, X4, ⟨Lc4, hQ4, l4, y4, z4⟩, st4⟩ := X0.specialBack hx (y := (⟨"java/lang/Record", "<init>", "()V"⟩ : MethodName)) rfl hown (mvT hZ (ow hw 70 rfl)) (mvT hZ (ow hw 51 rfl)) (mvT hZ (ow hw 54 rfl)) (by decide) (backOf (W := 0) (rm10 l Z a0 hw [] G a1 h0 n0 O0 ) hZ (ow hw 54 rfl) (ow hw 53 rfl) (by decide) (by decide)) (g := (mkF m 1 #[.val (.ref a1), .val .null, .val .null, .val (.ref a2), .val (.ref a3)] [(.ref a1)])) rfl (by rw [hml]; rfl) (Steps.refl _) (a := a1) (argsL := []) (rest := []) (lenOf pd_7 rfl) rfl (by show 2 * 0 + _ ≤ _; exact Nat.le_of_eq rfl) (hb hby d11_1) (fun _ _ => ⟨rfl, e0, (by decide : 0 + 0 ≤ _), (by decide : 0 + 0 ≤ _)⟩)
  dsimp only [Pt.U, Pt.locs, Pt.cells, Pt.slots] at X4 l4 y4 z4 st4 hQ4
  subst l4 y4 z4
  obtain ⟨rfl, N4q, e4⟩ := hQ4
  have N4 := Fr.app N0 N4q
  refine OGot.on st4 ?_
  show OGot p.tables e below (T4.setTop (mkF m 4 #[.val (.ref a1), .val .null, .val .null, .val (.ref a2), .val (.ref a3)] [])) _
  refine OGot.go (fun t k => XS.aloadN X4.here hx rfl (hb hby d11_4) rfl rfl k) ?_
  show OGot p.tables e below (T4.setTop (mkF m 5 #[.val (.ref a1), .val .null, .val .null, .val (.ref a2), .val (.ref a3)] [(.ref a2)])) _
  refine OGot.go (fun t k => XS.ifnonnullYes X4.here hx rfl (pc0 := 5) (pc' := 13) rfl (hb hby d11_5) rfl (by decide) (by decide) k) ?_
  show OGot p.tables e below (T4.setTop (mkF m 13 #[.val (.ref a1), .val .null, .val .null, .val (.ref a2), .val (.ref a3)] [])) _
  refine OGot.go (fun t k => XS.aloadN X4.here hx rfl (hb hby d11_13) rfl rfl k) ?_
  show OGot p.tables e below (T4.setTop (mkF m 14 #[.val (.ref a1), .val .null, .val .null, .val (.ref a2), .val (.ref a3)] [(.ref a2)])) _
  refine OGot.go (fun t k => XS.ifnullNo X4.here hx rfl (hb hby d11_14) rfl k) ?_
  show OGot p.tables e below (T4.setTop (mkF m 17 #[.val (.ref a1), .val .null, .val .null, .val (.ref a2), .val (.ref a3)] [])) _
  refine OGot.go (fun t k => XS.aload X4.here hx rfl (hb hby d11_17) rfl rfl k) ?_
  show OGot p.tables e below (T4.setTop (mkF m 19 #[.val (.ref a1), .val .null, .val .null, .val (.ref a2), .val (.ref a3)] [(.ref a3)])) _
  refine OGot.go (fun t k => XS.ifnullNo X4.here hx rfl (hb hby d11_19) rfl k) ?_
  show OGot p.tables e below (T4.setTop (mkF m 22 #[.val (.ref a1), .val .null, .val .null, .val (.ref a2), .val (.ref a3)] [])) _
  refine OGot.go (fun t k => XS.aloadN X4.here hx rfl (hb hby d11_22) rfl rfl k) ?_
  show OGot p.tables e below (T4.setTop (mkF m 23 #[.val (.ref a1), .val .null, .val .null, .val (.ref a2), .val (.ref a3)] [(.ref a2)])) _
  obtain ⟨cq6, kq6, q6a, q6b, q6c⟩ := isOf hZ e4 E_a2
  obtain ⟨_, _, ⟨T6, L6, k6, n6⟩, -, X6, ⟨Lc6, hQ6, l6, y6, z6⟩, st6⟩ := X4.virtualBack hx (y := (⟨"com/example/archipel/archipel/model/Attribute", "name", "()Ljava/lang/String;"⟩ : MethodName)) (z := (⟨"com/example/archipel/archipel/model/Attribute", "name", "()Ljava/lang/String;"⟩ : MethodName)) hown (mvT hZ (ow hw 86 rfl)) (mvT hZ (ow hw 87 rfl)) (notFace_of_selects (args := #[]) (mvT hZ (ow hw 89 rfl))) (mvT hZ (ow hw 89 rfl)) (mvT hZ (ow hw 88 rfl)) (by decide) (backOf (W := 0) (rm13 l Z a0 hw [] G a2 a5 h0 n0 O0 F_name_a2) hZ (ow hw 90 rfl) (ow hw 46 rfl) (by decide) (by decide)) q6a q6c (g := (mkF m 23 #[.val (.ref a1), .val .null, .val .null, .val (.ref a2), .val (.ref a3)] [(.ref a2)])) rfl (by rw [hml]; rfl) (Steps.refl _) (argsL := []) (rest := []) (lenOf pd_11 rfl) rfl (by show 2 * 0 + _ ≤ _; exact Nat.le_of_eq rfl) (hb hby d11_23) (fun _ _ => ⟨rfl, e4, (by decide : 0 + 0 ≤ _), (by decide : 0 + 0 ≤ _)⟩)
  dsimp only [Pt.U, Pt.locs, Pt.cells, Pt.slots] at X6 l6 y6 z6 st6 hQ6
  subst l6 y6 z6
  obtain ⟨rfl, N6q, e6⟩ := hQ6
  have N6 := Fr.app N4 N6q
  refine OGot.on st6 ?_
  show OGot p.tables e below (T6.setTop (mkF m 26 #[.val (.ref a1), .val .null, .val .null, .val (.ref a2), .val (.ref a3)] [(.ref a5)])) _
  refine OGot.go (fun t k => XS.aload X6.here hx rfl (hb hby d11_26) rfl rfl k) ?_
  show OGot p.tables e below (T6.setTop (mkF m 28 #[.val (.ref a1), .val .null, .val .null, .val (.ref a2), .val (.ref a3)] [(.ref a3), (.ref a5)])) _
  obtain ⟨cq8, kq8, q8a, q8b, q8c⟩ := isOf hZ e6 E_a3
  obtain ⟨_, _, ⟨T8, L8, k8, n8⟩, -, X8, ⟨Lc8, hQ8, l8, y8, z8⟩, st8⟩ := X6.virtualBack hx (y := (⟨"com/example/archipel/archipel/model/Attribute", "name", "()Ljava/lang/String;"⟩ : MethodName)) (z := (⟨"com/example/archipel/archipel/model/Attribute", "name", "()Ljava/lang/String;"⟩ : MethodName)) hown (mvT hZ (ow hw 86 rfl)) (mvT hZ (ow hw 87 rfl)) (notFace_of_selects (args := #[]) (mvT hZ (ow hw 89 rfl))) (mvT hZ (ow hw 89 rfl)) (mvT hZ (ow hw 88 rfl)) (by decide) (backOf (W := 1) (rm13 l Z a0 hw [] G a3 a7 h0 n0 O0 F_name_a3) hZ (ow hw 90 rfl) (ow hw 46 rfl) (by decide) (by decide)) q8a q8c (g := (mkF m 28 #[.val (.ref a1), .val .null, .val .null, .val (.ref a2), .val (.ref a3)] [(.ref a3), (.ref a5)])) rfl (by rw [hml]; rfl) (Steps.refl _) (argsL := []) (rest := [(.ref a5)]) (lenOf pd_11 rfl) rfl (by show 2 * 0 + _ ≤ _; exact Nat.le_of_eq rfl) (hb hby d11_28) (fun _ _ => ⟨rfl, e6, (by decide : 0 + 0 ≤ _), (by decide : 0 + 0 ≤ _)⟩)
  dsimp only [Pt.U, Pt.locs, Pt.cells, Pt.slots] at X8 l8 y8 z8 st8 hQ8
  subst l8 y8 z8
  obtain ⟨rfl, N8q, e8⟩ := hQ8
  have N8 := Fr.app N6 N8q
  refine OGot.on st8 ?_
  show OGot p.tables e below (T8.setTop (mkF m 31 #[.val (.ref a1), .val .null, .val .null, .val (.ref a2), .val (.ref a3)] [(.ref a7), (.ref a5)])) _
  have ne9 : a5 ≠ a7 := ne_a5_a7
  obtain ⟨cq16, kq16, q16a, q16b, q16c⟩ := isOf hZ e8 E_a5
  obtain ⟨_, _, ⟨T16, L16, k16, n16⟩, -, X16, ⟨Lc16, hQ16, l16, y16, z16⟩, st16⟩ := X8.virtualBack hx (y := (⟨"java/lang/String", "equals", "(Ljava/lang/Object;)Z"⟩ : MethodName)) (z := (⟨"java/lang/String", "equals", "(Ljava/lang/Object;)Z"⟩ : MethodName)) hown (mvT hZ (ow hw 91 rfl)) (mvT hZ (ow hw 37 rfl)) (notFace_of_selects (args := #[]) (mvT hZ (ow hw 39 rfl))) (mvT hZ (ow hw 39 rfl)) (mvT hZ (ow hw 38 rfl)) (by decide) (backOf (W := 0) (rm7 l Z a0 hw [] G a5 a7 a10 a11 k12 p13 k14 p15 h0 n0 O0 ne9 E_a7 F_coder_a5 F_coder_a7 F_value_a5 F_value_a7 V_a10 V_a11) hZ (ow hw 40 rfl) (ow hw 3 rfl) (by decide) (by decide)) q16a q16c (g := (mkF m 31 #[.val (.ref a1), .val .null, .val .null, .val (.ref a2), .val (.ref a3)] [(.ref a7), (.ref a5)])) rfl (by rw [hml]; rfl) (Steps.refl _) (argsL := [(.ref a7)]) (rest := []) (lenOf pd_6 rfl) rfl (by show 2 * 0 + _ ≤ _; exact Nat.le_of_eq rfl) (hb hby d11_31) (fun _ _ => ⟨rfl, e8, (by decide : 0 + 0 ≤ _), (by decide : 0 + 0 ≤ _)⟩)
  dsimp only [Pt.U, Pt.locs, Pt.cells, Pt.slots] at X16 l16 y16 z16 st16 hQ16
  subst l16 y16 z16
  obtain ⟨rfl, N16q, e16⟩ := hQ16
  have N16 := Fr.app N8 N16q
  refine OGot.on st16 ?_
  show OGot p.tables e below (T16.setTop (mkF m 34 #[.val (.ref a1), .val .null, .val .null, .val (.ref a2), .val (.ref a3)] [(.int (f7 p13 p15))])) _
  refine OGot.go (fun t k => XS.ifNo X16.here hx rfl (hb hby d11_34) rfl ((if0 _ _).trans (teq hc_1).2) k) ?_
  show OGot p.tables e below (T16.setTop (mkF m 37 #[.val (.ref a1), .val .null, .val .null, .val (.ref a2), .val (.ref a3)] [])) _
  refine OGot.go (fun t k => XS.aloadN X16.here hx rfl (hb hby d11_37) rfl rfl k) ?_
  show OGot p.tables e below (T16.setTop (mkF m 38 #[.val (.ref a1), .val .null, .val .null, .val (.ref a2), .val (.ref a3)] [(.ref a2)])) _
  obtain ⟨cq18, kq18, q18a, q18b, q18c⟩ := isOf hZ e16 E_a2
  obtain ⟨_, _, ⟨T18, L18, k18, n18⟩, -, X18, ⟨Lc18, hQ18, l18, y18, z18⟩, st18⟩ := X16.virtualBack hx (y := (⟨"com/example/archipel/archipel/model/Attribute", "type", "()Lcom/example/archipel/archipel/model/DataType;"⟩ : MethodName)) (z := (⟨"com/example/archipel/archipel/model/Attribute", "type", "()Lcom/example/archipel/archipel/model/DataType;"⟩ : MethodName)) hown (mvT hZ (ow hw 92 rfl)) (mvT hZ (ow hw 93 rfl)) (notFace_of_selects (args := #[]) (mvT hZ (ow hw 95 rfl))) (mvT hZ (ow hw 95 rfl)) (mvT hZ (ow hw 94 rfl)) (by decide) (backOf (W := 0) (rm14 l Z a0 hw [] G a2 a17 h0 n0 O0 F_type_a2) hZ (ow hw 96 rfl) (ow hw 46 rfl) (by decide) (by decide)) q18a q18c (g := (mkF m 38 #[.val (.ref a1), .val .null, .val .null, .val (.ref a2), .val (.ref a3)] [(.ref a2)])) rfl (by rw [hml]; rfl) (Steps.refl _) (argsL := []) (rest := []) (lenOf pd_12 rfl) rfl (by show 2 * 0 + _ ≤ _; exact Nat.le_of_eq rfl) (hb hby d11_38) (fun _ _ => ⟨rfl, e16, (by decide : 0 + 0 ≤ _), (by decide : 0 + 0 ≤ _)⟩)
  dsimp only [Pt.U, Pt.locs, Pt.cells, Pt.slots] at X18 l18 y18 z18 st18 hQ18
  subst l18 y18 z18
  obtain ⟨rfl, N18q, e18⟩ := hQ18
  have N18 := Fr.app N16 N18q
  refine OGot.on st18 ?_
  show OGot p.tables e below (T18.setTop (mkF m 41 #[.val (.ref a1), .val .null, .val .null, .val (.ref a2), .val (.ref a3)] [(.ref a17)])) _
  refine OGot.go (fun t k => XS.aload X18.here hx rfl (hb hby d11_41) rfl rfl k) ?_
  show OGot p.tables e below (T18.setTop (mkF m 43 #[.val (.ref a1), .val .null, .val .null, .val (.ref a2), .val (.ref a3)] [(.ref a3), (.ref a17)])) _
  obtain ⟨cq19, kq19, q19a, q19b, q19c⟩ := isOf hZ e18 E_a3
  obtain ⟨_, _, ⟨T19, L19, k19, n19⟩, -, X19, ⟨Lc19, hQ19, l19, y19, z19⟩, st19⟩ := X18.virtualBack hx (y := (⟨"com/example/archipel/archipel/model/Attribute", "type", "()Lcom/example/archipel/archipel/model/DataType;"⟩ : MethodName)) (z := (⟨"com/example/archipel/archipel/model/Attribute", "type", "()Lcom/example/archipel/archipel/model/DataType;"⟩ : MethodName)) hown (mvT hZ (ow hw 92 rfl)) (mvT hZ (ow hw 93 rfl)) (notFace_of_selects (args := #[]) (mvT hZ (ow hw 95 rfl))) (mvT hZ (ow hw 95 rfl)) (mvT hZ (ow hw 94 rfl)) (by decide) (backOf (W := 1) (rm14 l Z a0 hw [] G a3 a17 h0 n0 O0 F_type_a3) hZ (ow hw 96 rfl) (ow hw 46 rfl) (by decide) (by decide)) q19a q19c (g := (mkF m 43 #[.val (.ref a1), .val .null, .val .null, .val (.ref a2), .val (.ref a3)] [(.ref a3), (.ref a17)])) rfl (by rw [hml]; rfl) (Steps.refl _) (argsL := []) (rest := [(.ref a17)]) (lenOf pd_12 rfl) rfl (by show 2 * 0 + _ ≤ _; exact Nat.le_of_eq rfl) (hb hby d11_43) (fun _ _ => ⟨rfl, e18, (by decide : 0 + 0 ≤ _), (by decide : 0 + 0 ≤ _)⟩)
  dsimp only [Pt.U, Pt.locs, Pt.cells, Pt.slots] at X19 l19 y19 z19 st19 hQ19
  subst l19 y19 z19
  obtain ⟨rfl, N19q, e19⟩ := hQ19
  have N19 := Fr.app N18 N19q
  refine OGot.on st19 ?_
  show OGot p.tables e below (T19.setTop (mkF m 46 #[.val (.ref a1), .val .null, .val .null, .val (.ref a2), .val (.ref a3)] [(.ref a17), (.ref a17)])) _
  refine OGot.go (fun t k => Jvm.RoadKit.acmp (g := (mkF m 46 #[.val (.ref a1), .val .null, .val .null, .val (.ref a2), .val (.ref a3)] [(.ref a17), (.ref a17)])) X19 hx rfl rfl rfl (pc0 := 46) (pc' := 71) (same := true) rfl (hb hby d11_46) rfl (decide_eq_true rfl) (by decide) (by decide) k) ?_
  show OGot p.tables e below (T19.setTop (mkF m 71 #[.val (.ref a1), .val .null, .val .null, .val (.ref a2), .val (.ref a3)] [])) _
  refine OGot.go (fun t k => XS.aloadN X19.here hx rfl (hb hby d11_71) rfl rfl k) ?_
  show OGot p.tables e below (T19.setTop (mkF m 72 #[.val (.ref a1), .val .null, .val .null, .val (.ref a2), .val (.ref a3)] [(.ref a1)])) _
  refine OGot.go (fun t k => XS.aloadN X19.here hx rfl (hb hby d11_72) rfl rfl k) ?_
  show OGot p.tables e below (T19.setTop (mkF m 73 #[.val (.ref a1), .val .null, .val .null, .val (.ref a2), .val (.ref a3)] [.null, (.ref a1)])) _
  obtain ⟨T20, h20, X20, e20, W20, st20⟩ := putF X19 hx hZ hown (host := "") (Or.inl (ow hw 71 rfl)) Via.refl e19 F_before_a1 E_a1 (Or.inr ⟨(ow hw 72 rfl), rfl, hnm⟩) (ow hw 65 rfl) (ty := (.object "com/example/archipel/archipel/model/Entity")) (by decide) rfl rfl (g := (mkF m 73 #[.val (.ref a1), .val .null, .val .null, .val (.ref a2), .val (.ref a3)] [.null, (.ref a1)])) rfl rfl (hb hby d11_73)
  refine OGot.go st20 ?_
  have N20 := Fr.snoc X20 N19 g_a1
  have O20 := O0.wr W20 g_a1
  have K20 := (OKeep.refl h0 [(a1, Jvm.RoadKit.slotOf Z "com/example/archipel/archipel/model/AttributeChange" "before" "Lcom/example/archipel/archipel/model/Entity;"), (a1, Jvm.RoadKit.slotOf Z "com/example/archipel/archipel/model/AttributeChange" "after" "Lcom/example/archipel/archipel/model/Entity;"), (a1, Jvm.RoadKit.slotOf Z "com/example/archipel/archipel/model/AttributeChange" "was" "Lcom/example/archipel/archipel/model/Attribute;"), (a1, Jvm.RoadKit.slotOf Z "com/example/archipel/archipel/model/AttributeChange" "becomes" "Lcom/example/archipel/archipel/model/Attribute;")]).wr W20 (Or.inl (List.mem_of_getElem? (i := 0) rfl))
  have Fw20 : Fld Z h20 a1 "com/example/archipel/archipel/model/AttributeChange" "before" "Lcom/example/archipel/archipel/model/Entity;" .null := F_before_a1.same W20
  show OGot p.tables e below (T20.setTop (mkF m 76 #[.val (.ref a1), .val .null, .val .null, .val (.ref a2), .val (.ref a3)] [])) _
  refine OGot.go (fun t k => XS.aloadN X20.here hx rfl (hb hby d11_76) rfl rfl k) ?_
  show OGot p.tables e below (T20.setTop (mkF m 77 #[.val (.ref a1), .val .null, .val .null, .val (.ref a2), .val (.ref a3)] [(.ref a1)])) _
  refine OGot.go (fun t k => XS.aloadN X20.here hx rfl (hb hby d11_77) rfl rfl k) ?_
  show OGot p.tables e below (T20.setTop (mkF m 78 #[.val (.ref a1), .val .null, .val .null, .val (.ref a2), .val (.ref a3)] [.null, (.ref a1)])) _
  have F21 : Fld Z h20 a1 "com/example/archipel/archipel/model/AttributeChange" "after" "Lcom/example/archipel/archipel/model/Entity;" .null := (F_after_a1.other W20 (Or.inr (slot_ne (Or.inr (ow hw 74 rfl)) (Or.inr (ow hw 72 rfl)) (by decide) (t := (.object "com/example/archipel/archipel/model/Entity")) (t' := (.object "com/example/archipel/archipel/model/Entity")) (by decide) (by decide))))
  obtain ⟨T22, h22, X22, e22, W22, st22⟩ := putF X20 hx hZ hown (host := "") (Or.inl (ow hw 73 rfl)) Via.refl e20 F21 (E_a1.wr W20) (Or.inr ⟨(ow hw 74 rfl), rfl, hnm⟩) (ow hw 65 rfl) (ty := (.object "com/example/archipel/archipel/model/Entity")) (by decide) rfl rfl (g := (mkF m 78 #[.val (.ref a1), .val .null, .val .null, .val (.ref a2), .val (.ref a3)] [.null, (.ref a1)])) rfl rfl (hb hby d11_78)
  refine OGot.go st22 ?_
  have N22 := Fr.snoc X22 N20 g_a1
  have O22 := O20.wr W22 g_a1
  have K22 := K20.wr W22 (Or.inl (List.mem_of_getElem? (i := 1) rfl))
  have Fw22 : Fld Z h22 a1 "com/example/archipel/archipel/model/AttributeChange" "after" "Lcom/example/archipel/archipel/model/Entity;" .null := F21.same W22
  show OGot p.tables e below (T22.setTop (mkF m 81 #[.val (.ref a1), .val .null, .val .null, .val (.ref a2), .val (.ref a3)] [])) _
  refine OGot.go (fun t k => XS.aloadN X22.here hx rfl (hb hby d11_81) rfl rfl k) ?_
  show OGot p.tables e below (T22.setTop (mkF m 82 #[.val (.ref a1), .val .null, .val .null, .val (.ref a2), .val (.ref a3)] [(.ref a1)])) _
  refine OGot.go (fun t k => XS.aloadN X22.here hx rfl (hb hby d11_82) rfl rfl k) ?_
  show OGot p.tables e below (T22.setTop (mkF m 83 #[.val (.ref a1), .val .null, .val .null, .val (.ref a2), .val (.ref a3)] [(.ref a2), (.ref a1)])) _
  have F23 : Fld Z h22 a1 "com/example/archipel/archipel/model/AttributeChange" "was" "Lcom/example/archipel/archipel/model/Attribute;" .null := ((F_was_a1.other W20 (Or.inr (slot_ne (Or.inr (ow hw 76 rfl)) (Or.inr (ow hw 72 rfl)) (by decide) (t := (.object "com/example/archipel/archipel/model/Attribute")) (t' := (.object "com/example/archipel/archipel/model/Entity")) (by decide) (by decide)))).other W22 (Or.inr (slot_ne (Or.inr (ow hw 76 rfl)) (Or.inr (ow hw 74 rfl)) (by decide) (t := (.object "com/example/archipel/archipel/model/Attribute")) (t' := (.object "com/example/archipel/archipel/model/Entity")) (by decide) (by decide))))
  obtain ⟨T24, h24, X24, e24, W24, st24⟩ := putF X22 hx hZ hown (host := "") (Or.inl (ow hw 75 rfl)) Via.refl e22 F23 ((E_a1.wr W20).wr W22) (Or.inr ⟨(ow hw 76 rfl), rfl, hnm⟩) (ow hw 65 rfl) (ty := (.object "com/example/archipel/archipel/model/Attribute")) (by decide) rfl rfl (g := (mkF m 83 #[.val (.ref a1), .val .null, .val .null, .val (.ref a2), .val (.ref a3)] [(.ref a2), (.ref a1)])) rfl rfl (hb hby d11_83)
  refine OGot.go st24 ?_
  have N24 := Fr.snoc X24 N22 g_a1
  have O24 := O22.wr W24 g_a1
  have K24 := K22.wr W24 (Or.inl (List.mem_of_getElem? (i := 2) rfl))
  have Fw24 : Fld Z h24 a1 "com/example/archipel/archipel/model/AttributeChange" "was" "Lcom/example/archipel/archipel/model/Attribute;" (.ref a2) := F23.same W24
  show OGot p.tables e below (T24.setTop (mkF m 86 #[.val (.ref a1), .val .null, .val .null, .val (.ref a2), .val (.ref a3)] [])) _
  refine OGot.go (fun t k => XS.aloadN X24.here hx rfl (hb hby d11_86) rfl rfl k) ?_
  show OGot p.tables e below (T24.setTop (mkF m 87 #[.val (.ref a1), .val .null, .val .null, .val (.ref a2), .val (.ref a3)] [(.ref a1)])) _
  refine OGot.go (fun t k => XS.aload X24.here hx rfl (hb hby d11_87) rfl rfl k) ?_
  show OGot p.tables e below (T24.setTop (mkF m 89 #[.val (.ref a1), .val .null, .val .null, .val (.ref a2), .val (.ref a3)] [(.ref a3), (.ref a1)])) _
  have F25 : Fld Z h24 a1 "com/example/archipel/archipel/model/AttributeChange" "becomes" "Lcom/example/archipel/archipel/model/Attribute;" .null := (((F_becomes_a1.other W20 (Or.inr (slot_ne (Or.inr (ow hw 78 rfl)) (Or.inr (ow hw 72 rfl)) (by decide) (t := (.object "com/example/archipel/archipel/model/Attribute")) (t' := (.object "com/example/archipel/archipel/model/Entity")) (by decide) (by decide)))).other W22 (Or.inr (slot_ne (Or.inr (ow hw 78 rfl)) (Or.inr (ow hw 74 rfl)) (by decide) (t := (.object "com/example/archipel/archipel/model/Attribute")) (t' := (.object "com/example/archipel/archipel/model/Entity")) (by decide) (by decide)))).other W24 (Or.inr (slot_ne (Or.inr (ow hw 78 rfl)) (Or.inr (ow hw 76 rfl)) (by decide) (t := (.object "com/example/archipel/archipel/model/Attribute")) (t' := (.object "com/example/archipel/archipel/model/Attribute")) (by decide) (by decide))))
  obtain ⟨T26, h26, X26, e26, W26, st26⟩ := putF X24 hx hZ hown (host := "") (Or.inl (ow hw 77 rfl)) Via.refl e24 F25 (((E_a1.wr W20).wr W22).wr W24) (Or.inr ⟨(ow hw 78 rfl), rfl, hnm⟩) (ow hw 65 rfl) (ty := (.object "com/example/archipel/archipel/model/Attribute")) (by decide) rfl rfl (g := (mkF m 89 #[.val (.ref a1), .val .null, .val .null, .val (.ref a2), .val (.ref a3)] [(.ref a3), (.ref a1)])) rfl rfl (hb hby d11_89)
  refine OGot.go st26 ?_
  have N26 := Fr.snoc X26 N24 g_a1
  have O26 := O24.wr W26 g_a1
  have K26 := K24.wr W26 (Or.inl (List.mem_of_getElem? (i := 3) rfl))
  have Fw26 : Fld Z h26 a1 "com/example/archipel/archipel/model/AttributeChange" "becomes" "Lcom/example/archipel/archipel/model/Attribute;" (.ref a3) := F25.same W26
  show OGot p.tables e below (T26.setTop (mkF m 92 #[.val (.ref a1), .val .null, .val .null, .val (.ref a2), .val (.ref a3)] [])) _
  obtain ⟨fs, hr, hrun, hended, hW, hsame⟩ := X26.leave (v := none) (fun _ => rfl)
  refine ⟨_, _, X26.returnOut hx Bd.returns (hb hby d11_92) hr, hrun, hended, _, _, rfl, ?_, ⟨_, rfl⟩, hW, hsame.mono (by decide) (by decide)⟩
  have F27 : Fld Z h26 a1 "com/example/archipel/archipel/model/AttributeChange" "before" "Lcom/example/archipel/archipel/model/Entity;" .null := (((Fw20.other W22 (Or.inr (slot_ne (Or.inr (ow hw 72 rfl)) (Or.inr (ow hw 74 rfl)) (by decide) (t := (.object "com/example/archipel/archipel/model/Entity")) (t' := (.object "com/example/archipel/archipel/model/Entity")) (by decide) (by decide)))).other W24 (Or.inr (slot_ne (Or.inr (ow hw 72 rfl)) (Or.inr (ow hw 76 rfl)) (by decide) (t := (.object "com/example/archipel/archipel/model/Entity")) (t' := (.object "com/example/archipel/archipel/model/Attribute")) (by decide) (by decide)))).other W26 (Or.inr (slot_ne (Or.inr (ow hw 72 rfl)) (Or.inr (ow hw 78 rfl)) (by decide) (t := (.object "com/example/archipel/archipel/model/Entity")) (t' := (.object "com/example/archipel/archipel/model/Attribute")) (by decide) (by decide))))
  have F28 : Fld Z h26 a1 "com/example/archipel/archipel/model/AttributeChange" "after" "Lcom/example/archipel/archipel/model/Entity;" .null := ((Fw22.other W24 (Or.inr (slot_ne (Or.inr (ow hw 74 rfl)) (Or.inr (ow hw 76 rfl)) (by decide) (t := (.object "com/example/archipel/archipel/model/Entity")) (t' := (.object "com/example/archipel/archipel/model/Attribute")) (by decide) (by decide)))).other W26 (Or.inr (slot_ne (Or.inr (ow hw 74 rfl)) (Or.inr (ow hw 78 rfl)) (by decide) (t := (.object "com/example/archipel/archipel/model/Entity")) (t' := (.object "com/example/archipel/archipel/model/Attribute")) (by decide) (by decide))))
  have F29 : Fld Z h26 a1 "com/example/archipel/archipel/model/AttributeChange" "was" "Lcom/example/archipel/archipel/model/Attribute;" (.ref a2) := (Fw24.other W26 (Or.inr (slot_ne (Or.inr (ow hw 76 rfl)) (Or.inr (ow hw 78 rfl)) (by decide) (t := (.object "com/example/archipel/archipel/model/Attribute")) (t' := (.object "com/example/archipel/archipel/model/Attribute")) (by decide) (by decide))))
  show Q11_3 Z w_INTEGER w_TEXT w_DATE w_DECIMAL i_COMPACT_STRINGS a1 a2 a3 a5 a7 a10 a11 k12 p13 k14 p15 a17 h0 n0 _ T26.heap _
  rw [e26]
  exact ⟨N26, rfl, K26, F27, F28, F29, Fw26⟩
def Q11_4 (Z : State) (w_INTEGER : Addr) (w_TEXT : Addr) (w_DATE : Addr) (w_DECIMAL : Addr) (i_COMPACT_STRINGS : Int32) (a1 : Addr) (a2 : Addr) (a3 : Addr) (a5 : Addr) (a7 : Addr) (a10 : Addr) (a11 : Addr) (k12 : ClassId) (p13 : Int32) (k14 : ClassId) (p15 : Int32) (h0 : Heap) (n0 : Nat) (v : Option Value) (h : Heap) (L : List Loc) : Prop := Fr n0 L ∧ v = none ∧ OKeep h0 h [(a1, Jvm.RoadKit.slotOf Z "com/example/archipel/archipel/model/AttributeChange" "before" "Lcom/example/archipel/archipel/model/Entity;"), (a1, Jvm.RoadKit.slotOf Z "com/example/archipel/archipel/model/AttributeChange" "after" "Lcom/example/archipel/archipel/model/Entity;"), (a1, Jvm.RoadKit.slotOf Z "com/example/archipel/archipel/model/AttributeChange" "was" "Lcom/example/archipel/archipel/model/Attribute;"), (a1, Jvm.RoadKit.slotOf Z "com/example/archipel/archipel/model/AttributeChange" "becomes" "Lcom/example/archipel/archipel/model/Attribute;")] ∧ Fld Z h a1 "com/example/archipel/archipel/model/AttributeChange" "before" "Lcom/example/archipel/archipel/model/Entity;" .null ∧ Fld Z h a1 "com/example/archipel/archipel/model/AttributeChange" "after" "Lcom/example/archipel/archipel/model/Entity;" .null ∧ Fld Z h a1 "com/example/archipel/archipel/model/AttributeChange" "was" "Lcom/example/archipel/archipel/model/Attribute;" (.ref a2) ∧ Fld Z h a1 "com/example/archipel/archipel/model/AttributeChange" "becomes" "Lcom/example/archipel/archipel/model/Attribute;" (.ref a3)
theorem ef11_4 (m : MethodId) (x0 : Addr) (x3 : Addr) (x4 : Addr) : entryFrame m #[(.ref x0), .null, .null, (.ref x3), (.ref x4)] 5 = mkF m 0 #[.val (.ref x0), .val .null, .val .null, .val (.ref x3), .val (.ref x4)] [] := by first | (simp [entryFrame, mkF, argsToLocals, Value.category]; done) | rfl
set_option maxRecDepth 65536 in
set_option maxHeartbeats 40000000 in
theorem rm11_4 (l : Launch) (Z : State) (a0 : Array Value) (hw : ∀ d ∈ tables_1, d.before a0 Z = true) (ws : List Jvm.Cond) {w_INTEGER : Addr} {w_TEXT : Addr} {w_DATE : Addr} {w_DECIMAL : Addr} {i_COMPACT_STRINGS : Int32} (G : Glob Z w_INTEGER w_TEXT w_DATE w_DECIMAL i_COMPACT_STRINGS) (a1 : Addr) (a2 : Addr) (a3 : Addr) (a5 : Addr) (a7 : Addr) (a10 : Addr) (a11 : Addr) (k12 : ClassId) (p13 : Int32) (k14 : ClassId) (p15 : Int32) (h0 : Heap) (n0 : Nat) (O0 : Old Z n0 h0) (E_a2 : Exa Z h0 a2 "com/example/archipel/archipel/model/Attribute") (F_name_a2 : Fld Z h0 a2 "com/example/archipel/archipel/model/Attribute" "name" "Ljava/lang/String;" (.ref a5)) (E_a3 : Exa Z h0 a3 "com/example/archipel/archipel/model/Attribute") (F_name_a3 : Fld Z h0 a3 "com/example/archipel/archipel/model/Attribute" "name" "Ljava/lang/String;" (.ref a7)) (E_a5 : Exa Z h0 a5 "java/lang/String") (ne_a5_a7 : a5 ≠ a7) (E_a7 : Exa Z h0 a7 "java/lang/String") (F_coder_a5 : Fld Z h0 a5 "java/lang/String" "coder" "B" (.int (0 : Int32))) (F_coder_a7 : Fld Z h0 a7 "java/lang/String" "coder" "B" (.int (0 : Int32))) (F_value_a5 : Fld Z h0 a5 "java/lang/String" "value" "[B" (.ref a10)) (F_value_a7 : Fld Z h0 a7 "java/lang/String" "value" "[B" (.ref a11)) (V_a10 : Arv Z h0 a10 k12 .byte (1 : Int32) [(.int p13)] (.int (0 : Int32))) (V_a11 : Arv Z h0 a11 k14 .byte (1 : Int32) [(.int p15)] (.int (0 : Int32))) (hc_1 : ¬ ((f7 p13 p15) = (0 : Int32))) (E_a1 : Exa Z h0 a1 "com/example/archipel/archipel/model/AttributeChange") (F_before_a1 : Fld Z h0 a1 "com/example/archipel/archipel/model/AttributeChange" "before" "Lcom/example/archipel/archipel/model/Entity;" .null) (g_a1 : n0 ≤ a1) (F_after_a1 : Fld Z h0 a1 "com/example/archipel/archipel/model/AttributeChange" "after" "Lcom/example/archipel/archipel/model/Entity;" .null) (F_was_a1 : Fld Z h0 a1 "com/example/archipel/archipel/model/AttributeChange" "was" "Lcom/example/archipel/archipel/model/Attribute;" .null) (F_becomes_a1 : Fld Z h0 a1 "com/example/archipel/archipel/model/AttributeChange" "becomes" "Lcom/example/archipel/archipel/model/Attribute;" .null) :
    MetFree l (⟨"com/example/archipel/archipel/model/AttributeChange", "<init>", "(Lcom/example/archipel/archipel/model/Entity;Lcom/example/archipel/archipel/model/Entity;Lcom/example/archipel/archipel/model/Attribute;Lcom/example/archipel/archipel/model/Attribute;)V"⟩ : MethodName) (head1 (Jvm.Cond.code (⟨"com/example/archipel/archipel/model/AttributeChange", "<init>", "(Lcom/example/archipel/archipel/model/Entity;Lcom/example/archipel/archipel/model/Entity;Lcom/example/archipel/archipel/model/Attribute;Lcom/example/archipel/archipel/model/Attribute;)V"⟩ : MethodName) prog_30_method_1_code 5 none :: ws) ({ frames := 2, cells := 0, slots := 0, locals := 28 } : Room)) (fun a U => a = #[(.ref a1), .null, .null, (.ref a2), (.ref a3)] ∧ Z.Warmed39 U.vm ∧ U.heap = h0) (fun _ _ _ _ _ => True) (fun _ U o U' => ∃ v L, o = .returned v ∧ Q11_4 Z w_INTEGER w_TEXT w_DATE w_DECIMAL i_COMPACT_STRINGS a1 a2 a3 a5 a7 a10 a11 k12 p13 k14 p15 h0 n0 v U'.heap L ∧ FrameEnd U o U' L ({ frames := 2, cells := 0, slots := 0, locals := 28 } : Room).cells ({ frames := 2, cells := 0, slots := 0, locals := 28 } : Room).slots) := by
  refine MetFree.of_bodySF (plainFor_of_name pn_com_example_archipel_archipel_model_AttributeChange) hisR ?_
  intro p e s m args below meth c s₁ Bd hml0 hP hK
  obtain ⟨rfl, hZ, hh⟩ := hP
  have hx := Bd.exec
  have hby := Bd.bytes
  have hml : c.maxLocals = 5 := hml0
  have hown : s.vm.findClass "com/example/archipel/archipel/model/AttributeChange" = some m.cls := findClass_of_methodNamed Bd.named
  have hnm := (name_of_methodNamed Bd.named Bd.method).1
  have X0 : Stand p l e ({ frames := 2, cells := 0, slots := 0, locals := 28 } : Room) s m #[(.ref a1), .null, .null, (.ref a2), (.ref a3)] below meth c s₁ [] 0 0 := Stand.of_body Bd
  have e0 : s₁.heap = h0 := by rw [← hh, Bd.state]; rfl
  have N0 := Fr.nil n0
  show OGot p.tables e below (s₁.setTop (entryFrame m #[(.ref a1), .null, .null, (.ref a2), (.ref a3)] 5)) _
  refine OGot.go (fun t k => castTop (ef11_4 m a1 a2 a3) k) ?_
  show OGot p.tables e below (s₁.setTop (mkF m 0 #[.val (.ref a1), .val .null, .val .null, .val (.ref a2), .val (.ref a3)] [])) _
  refine OGot.go (fun t k => XS.aloadN X0.here hx rfl (hb hby d11_0) rfl rfl k) ?_
  show OGot p.tables e below (s₁.setTop (mkF m 1 #[.val (.ref a1), .val .null, .val .null, .val (.ref a2), .val (.ref a3)] [(.ref a1)])) _
  obtain ⟨_, _, ⟨T4, L4, k4, n4⟩, -, X4, ⟨Lc4, hQ4, l4, y4, z4⟩, st4⟩ := X0.specialBack hx (y := (⟨"java/lang/Record", "<init>", "()V"⟩ : MethodName)) rfl hown (mvT hZ (ow hw 70 rfl)) (mvT hZ (ow hw 51 rfl)) (mvT hZ (ow hw 54 rfl)) (by decide) (backOf (W := 0) (rm10 l Z a0 hw [] G a1 h0 n0 O0 ) hZ (ow hw 54 rfl) (ow hw 53 rfl) (by decide) (by decide)) (g := (mkF m 1 #[.val (.ref a1), .val .null, .val .null, .val (.ref a2), .val (.ref a3)] [(.ref a1)])) rfl (by rw [hml]; rfl) (Steps.refl _) (a := a1) (argsL := []) (rest := []) (lenOf pd_7 rfl) rfl (by show 2 * 0 + _ ≤ _; exact Nat.le_of_eq rfl) (hb hby d11_1) (fun _ _ => ⟨rfl, e0, (by decide : 0 + 0 ≤ _), (by decide : 0 + 0 ≤ _)⟩)
  dsimp only [Pt.U, Pt.locs, Pt.cells, Pt.slots] at X4 l4 y4 z4 st4 hQ4
  subst l4 y4 z4
  obtain ⟨rfl, N4q, e4⟩ := hQ4
  have N4 := Fr.app N0 N4q
  refine OGot.on st4 ?_
  show OGot p.tables e below (T4.setTop (mkF m 4 #[.val (.ref a1), .val .null, .val .null, .val (.ref a2), .val (.ref a3)] [])) _
  refine OGot.go (fun t k => XS.aloadN X4.here hx rfl (hb hby d11_4) rfl rfl k) ?_
  show OGot p.tables e below (T4.setTop (mkF m 5 #[.val (.ref a1), .val .null, .val .null, .val (.ref a2), .val (.ref a3)] [(.ref a2)])) _
  refine OGot.go (fun t k => XS.ifnonnullYes X4.here hx rfl (pc0 := 5) (pc' := 13) rfl (hb hby d11_5) rfl (by decide) (by decide) k) ?_
  show OGot p.tables e below (T4.setTop (mkF m 13 #[.val (.ref a1), .val .null, .val .null, .val (.ref a2), .val (.ref a3)] [])) _
  refine OGot.go (fun t k => XS.aloadN X4.here hx rfl (hb hby d11_13) rfl rfl k) ?_
  show OGot p.tables e below (T4.setTop (mkF m 14 #[.val (.ref a1), .val .null, .val .null, .val (.ref a2), .val (.ref a3)] [(.ref a2)])) _
  refine OGot.go (fun t k => XS.ifnullNo X4.here hx rfl (hb hby d11_14) rfl k) ?_
  show OGot p.tables e below (T4.setTop (mkF m 17 #[.val (.ref a1), .val .null, .val .null, .val (.ref a2), .val (.ref a3)] [])) _
  refine OGot.go (fun t k => XS.aload X4.here hx rfl (hb hby d11_17) rfl rfl k) ?_
  show OGot p.tables e below (T4.setTop (mkF m 19 #[.val (.ref a1), .val .null, .val .null, .val (.ref a2), .val (.ref a3)] [(.ref a3)])) _
  refine OGot.go (fun t k => XS.ifnullNo X4.here hx rfl (hb hby d11_19) rfl k) ?_
  show OGot p.tables e below (T4.setTop (mkF m 22 #[.val (.ref a1), .val .null, .val .null, .val (.ref a2), .val (.ref a3)] [])) _
  refine OGot.go (fun t k => XS.aloadN X4.here hx rfl (hb hby d11_22) rfl rfl k) ?_
  show OGot p.tables e below (T4.setTop (mkF m 23 #[.val (.ref a1), .val .null, .val .null, .val (.ref a2), .val (.ref a3)] [(.ref a2)])) _
  obtain ⟨cq6, kq6, q6a, q6b, q6c⟩ := isOf hZ e4 E_a2
  obtain ⟨_, _, ⟨T6, L6, k6, n6⟩, -, X6, ⟨Lc6, hQ6, l6, y6, z6⟩, st6⟩ := X4.virtualBack hx (y := (⟨"com/example/archipel/archipel/model/Attribute", "name", "()Ljava/lang/String;"⟩ : MethodName)) (z := (⟨"com/example/archipel/archipel/model/Attribute", "name", "()Ljava/lang/String;"⟩ : MethodName)) hown (mvT hZ (ow hw 86 rfl)) (mvT hZ (ow hw 87 rfl)) (notFace_of_selects (args := #[]) (mvT hZ (ow hw 89 rfl))) (mvT hZ (ow hw 89 rfl)) (mvT hZ (ow hw 88 rfl)) (by decide) (backOf (W := 0) (rm13 l Z a0 hw [] G a2 a5 h0 n0 O0 F_name_a2) hZ (ow hw 90 rfl) (ow hw 46 rfl) (by decide) (by decide)) q6a q6c (g := (mkF m 23 #[.val (.ref a1), .val .null, .val .null, .val (.ref a2), .val (.ref a3)] [(.ref a2)])) rfl (by rw [hml]; rfl) (Steps.refl _) (argsL := []) (rest := []) (lenOf pd_11 rfl) rfl (by show 2 * 0 + _ ≤ _; exact Nat.le_of_eq rfl) (hb hby d11_23) (fun _ _ => ⟨rfl, e4, (by decide : 0 + 0 ≤ _), (by decide : 0 + 0 ≤ _)⟩)
  dsimp only [Pt.U, Pt.locs, Pt.cells, Pt.slots] at X6 l6 y6 z6 st6 hQ6
  subst l6 y6 z6
  obtain ⟨rfl, N6q, e6⟩ := hQ6
  have N6 := Fr.app N4 N6q
  refine OGot.on st6 ?_
  show OGot p.tables e below (T6.setTop (mkF m 26 #[.val (.ref a1), .val .null, .val .null, .val (.ref a2), .val (.ref a3)] [(.ref a5)])) _
  refine OGot.go (fun t k => XS.aload X6.here hx rfl (hb hby d11_26) rfl rfl k) ?_
  show OGot p.tables e below (T6.setTop (mkF m 28 #[.val (.ref a1), .val .null, .val .null, .val (.ref a2), .val (.ref a3)] [(.ref a3), (.ref a5)])) _
  obtain ⟨cq8, kq8, q8a, q8b, q8c⟩ := isOf hZ e6 E_a3
  obtain ⟨_, _, ⟨T8, L8, k8, n8⟩, -, X8, ⟨Lc8, hQ8, l8, y8, z8⟩, st8⟩ := X6.virtualBack hx (y := (⟨"com/example/archipel/archipel/model/Attribute", "name", "()Ljava/lang/String;"⟩ : MethodName)) (z := (⟨"com/example/archipel/archipel/model/Attribute", "name", "()Ljava/lang/String;"⟩ : MethodName)) hown (mvT hZ (ow hw 86 rfl)) (mvT hZ (ow hw 87 rfl)) (notFace_of_selects (args := #[]) (mvT hZ (ow hw 89 rfl))) (mvT hZ (ow hw 89 rfl)) (mvT hZ (ow hw 88 rfl)) (by decide) (backOf (W := 1) (rm13 l Z a0 hw [] G a3 a7 h0 n0 O0 F_name_a3) hZ (ow hw 90 rfl) (ow hw 46 rfl) (by decide) (by decide)) q8a q8c (g := (mkF m 28 #[.val (.ref a1), .val .null, .val .null, .val (.ref a2), .val (.ref a3)] [(.ref a3), (.ref a5)])) rfl (by rw [hml]; rfl) (Steps.refl _) (argsL := []) (rest := [(.ref a5)]) (lenOf pd_11 rfl) rfl (by show 2 * 0 + _ ≤ _; exact Nat.le_of_eq rfl) (hb hby d11_28) (fun _ _ => ⟨rfl, e6, (by decide : 0 + 0 ≤ _), (by decide : 0 + 0 ≤ _)⟩)
  dsimp only [Pt.U, Pt.locs, Pt.cells, Pt.slots] at X8 l8 y8 z8 st8 hQ8
  subst l8 y8 z8
  obtain ⟨rfl, N8q, e8⟩ := hQ8
  have N8 := Fr.app N6 N8q
  refine OGot.on st8 ?_
  show OGot p.tables e below (T8.setTop (mkF m 31 #[.val (.ref a1), .val .null, .val .null, .val (.ref a2), .val (.ref a3)] [(.ref a7), (.ref a5)])) _
  have ne9 : a5 ≠ a7 := ne_a5_a7
  obtain ⟨cq16, kq16, q16a, q16b, q16c⟩ := isOf hZ e8 E_a5
  obtain ⟨_, _, ⟨T16, L16, k16, n16⟩, -, X16, ⟨Lc16, hQ16, l16, y16, z16⟩, st16⟩ := X8.virtualBack hx (y := (⟨"java/lang/String", "equals", "(Ljava/lang/Object;)Z"⟩ : MethodName)) (z := (⟨"java/lang/String", "equals", "(Ljava/lang/Object;)Z"⟩ : MethodName)) hown (mvT hZ (ow hw 91 rfl)) (mvT hZ (ow hw 37 rfl)) (notFace_of_selects (args := #[]) (mvT hZ (ow hw 39 rfl))) (mvT hZ (ow hw 39 rfl)) (mvT hZ (ow hw 38 rfl)) (by decide) (backOf (W := 0) (rm7 l Z a0 hw [] G a5 a7 a10 a11 k12 p13 k14 p15 h0 n0 O0 ne9 E_a7 F_coder_a5 F_coder_a7 F_value_a5 F_value_a7 V_a10 V_a11) hZ (ow hw 40 rfl) (ow hw 3 rfl) (by decide) (by decide)) q16a q16c (g := (mkF m 31 #[.val (.ref a1), .val .null, .val .null, .val (.ref a2), .val (.ref a3)] [(.ref a7), (.ref a5)])) rfl (by rw [hml]; rfl) (Steps.refl _) (argsL := [(.ref a7)]) (rest := []) (lenOf pd_6 rfl) rfl (by show 2 * 0 + _ ≤ _; exact Nat.le_of_eq rfl) (hb hby d11_31) (fun _ _ => ⟨rfl, e8, (by decide : 0 + 0 ≤ _), (by decide : 0 + 0 ≤ _)⟩)
  dsimp only [Pt.U, Pt.locs, Pt.cells, Pt.slots] at X16 l16 y16 z16 st16 hQ16
  subst l16 y16 z16
  obtain ⟨rfl, N16q, e16⟩ := hQ16
  have N16 := Fr.app N8 N16q
  refine OGot.on st16 ?_
  show OGot p.tables e below (T16.setTop (mkF m 34 #[.val (.ref a1), .val .null, .val .null, .val (.ref a2), .val (.ref a3)] [(.int (f7 p13 p15))])) _
  refine OGot.go (fun t k => XS.ifYes X16.here hx rfl (pc0 := 34) (pc' := 71) rfl (hb hby d11_34) rfl ((if0 _ _).trans (feq hc_1).2) (by decide) (by decide) k) ?_
  show OGot p.tables e below (T16.setTop (mkF m 71 #[.val (.ref a1), .val .null, .val .null, .val (.ref a2), .val (.ref a3)] [])) _
  refine OGot.go (fun t k => XS.aloadN X16.here hx rfl (hb hby d11_71) rfl rfl k) ?_
  show OGot p.tables e below (T16.setTop (mkF m 72 #[.val (.ref a1), .val .null, .val .null, .val (.ref a2), .val (.ref a3)] [(.ref a1)])) _
  refine OGot.go (fun t k => XS.aloadN X16.here hx rfl (hb hby d11_72) rfl rfl k) ?_
  show OGot p.tables e below (T16.setTop (mkF m 73 #[.val (.ref a1), .val .null, .val .null, .val (.ref a2), .val (.ref a3)] [.null, (.ref a1)])) _
  obtain ⟨T17, h17, X17, e17, W17, st17⟩ := putF X16 hx hZ hown (host := "") (Or.inl (ow hw 71 rfl)) Via.refl e16 F_before_a1 E_a1 (Or.inr ⟨(ow hw 72 rfl), rfl, hnm⟩) (ow hw 65 rfl) (ty := (.object "com/example/archipel/archipel/model/Entity")) (by decide) rfl rfl (g := (mkF m 73 #[.val (.ref a1), .val .null, .val .null, .val (.ref a2), .val (.ref a3)] [.null, (.ref a1)])) rfl rfl (hb hby d11_73)
  refine OGot.go st17 ?_
  have N17 := Fr.snoc X17 N16 g_a1
  have O17 := O0.wr W17 g_a1
  have K17 := (OKeep.refl h0 [(a1, Jvm.RoadKit.slotOf Z "com/example/archipel/archipel/model/AttributeChange" "before" "Lcom/example/archipel/archipel/model/Entity;"), (a1, Jvm.RoadKit.slotOf Z "com/example/archipel/archipel/model/AttributeChange" "after" "Lcom/example/archipel/archipel/model/Entity;"), (a1, Jvm.RoadKit.slotOf Z "com/example/archipel/archipel/model/AttributeChange" "was" "Lcom/example/archipel/archipel/model/Attribute;"), (a1, Jvm.RoadKit.slotOf Z "com/example/archipel/archipel/model/AttributeChange" "becomes" "Lcom/example/archipel/archipel/model/Attribute;")]).wr W17 (Or.inl (List.mem_of_getElem? (i := 0) rfl))
  have Fw17 : Fld Z h17 a1 "com/example/archipel/archipel/model/AttributeChange" "before" "Lcom/example/archipel/archipel/model/Entity;" .null := F_before_a1.same W17
  show OGot p.tables e below (T17.setTop (mkF m 76 #[.val (.ref a1), .val .null, .val .null, .val (.ref a2), .val (.ref a3)] [])) _
  refine OGot.go (fun t k => XS.aloadN X17.here hx rfl (hb hby d11_76) rfl rfl k) ?_
  show OGot p.tables e below (T17.setTop (mkF m 77 #[.val (.ref a1), .val .null, .val .null, .val (.ref a2), .val (.ref a3)] [(.ref a1)])) _
  refine OGot.go (fun t k => XS.aloadN X17.here hx rfl (hb hby d11_77) rfl rfl k) ?_
  show OGot p.tables e below (T17.setTop (mkF m 78 #[.val (.ref a1), .val .null, .val .null, .val (.ref a2), .val (.ref a3)] [.null, (.ref a1)])) _
  have F18 : Fld Z h17 a1 "com/example/archipel/archipel/model/AttributeChange" "after" "Lcom/example/archipel/archipel/model/Entity;" .null := (F_after_a1.other W17 (Or.inr (slot_ne (Or.inr (ow hw 74 rfl)) (Or.inr (ow hw 72 rfl)) (by decide) (t := (.object "com/example/archipel/archipel/model/Entity")) (t' := (.object "com/example/archipel/archipel/model/Entity")) (by decide) (by decide))))
  obtain ⟨T19, h19, X19, e19, W19, st19⟩ := putF X17 hx hZ hown (host := "") (Or.inl (ow hw 73 rfl)) Via.refl e17 F18 (E_a1.wr W17) (Or.inr ⟨(ow hw 74 rfl), rfl, hnm⟩) (ow hw 65 rfl) (ty := (.object "com/example/archipel/archipel/model/Entity")) (by decide) rfl rfl (g := (mkF m 78 #[.val (.ref a1), .val .null, .val .null, .val (.ref a2), .val (.ref a3)] [.null, (.ref a1)])) rfl rfl (hb hby d11_78)
  refine OGot.go st19 ?_
  have N19 := Fr.snoc X19 N17 g_a1
  have O19 := O17.wr W19 g_a1
  have K19 := K17.wr W19 (Or.inl (List.mem_of_getElem? (i := 1) rfl))
  have Fw19 : Fld Z h19 a1 "com/example/archipel/archipel/model/AttributeChange" "after" "Lcom/example/archipel/archipel/model/Entity;" .null := F18.same W19
  show OGot p.tables e below (T19.setTop (mkF m 81 #[.val (.ref a1), .val .null, .val .null, .val (.ref a2), .val (.ref a3)] [])) _
  refine OGot.go (fun t k => XS.aloadN X19.here hx rfl (hb hby d11_81) rfl rfl k) ?_
  show OGot p.tables e below (T19.setTop (mkF m 82 #[.val (.ref a1), .val .null, .val .null, .val (.ref a2), .val (.ref a3)] [(.ref a1)])) _
  refine OGot.go (fun t k => XS.aloadN X19.here hx rfl (hb hby d11_82) rfl rfl k) ?_
  show OGot p.tables e below (T19.setTop (mkF m 83 #[.val (.ref a1), .val .null, .val .null, .val (.ref a2), .val (.ref a3)] [(.ref a2), (.ref a1)])) _
  have F20 : Fld Z h19 a1 "com/example/archipel/archipel/model/AttributeChange" "was" "Lcom/example/archipel/archipel/model/Attribute;" .null := ((F_was_a1.other W17 (Or.inr (slot_ne (Or.inr (ow hw 76 rfl)) (Or.inr (ow hw 72 rfl)) (by decide) (t := (.object "com/example/archipel/archipel/model/Attribute")) (t' := (.object "com/example/archipel/archipel/model/Entity")) (by decide) (by decide)))).other W19 (Or.inr (slot_ne (Or.inr (ow hw 76 rfl)) (Or.inr (ow hw 74 rfl)) (by decide) (t := (.object "com/example/archipel/archipel/model/Attribute")) (t' := (.object "com/example/archipel/archipel/model/Entity")) (by decide) (by decide))))
  obtain ⟨T21, h21, X21, e21, W21, st21⟩ := putF X19 hx hZ hown (host := "") (Or.inl (ow hw 75 rfl)) Via.refl e19 F20 ((E_a1.wr W17).wr W19) (Or.inr ⟨(ow hw 76 rfl), rfl, hnm⟩) (ow hw 65 rfl) (ty := (.object "com/example/archipel/archipel/model/Attribute")) (by decide) rfl rfl (g := (mkF m 83 #[.val (.ref a1), .val .null, .val .null, .val (.ref a2), .val (.ref a3)] [(.ref a2), (.ref a1)])) rfl rfl (hb hby d11_83)
  refine OGot.go st21 ?_
  have N21 := Fr.snoc X21 N19 g_a1
  have O21 := O19.wr W21 g_a1
  have K21 := K19.wr W21 (Or.inl (List.mem_of_getElem? (i := 2) rfl))
  have Fw21 : Fld Z h21 a1 "com/example/archipel/archipel/model/AttributeChange" "was" "Lcom/example/archipel/archipel/model/Attribute;" (.ref a2) := F20.same W21
  show OGot p.tables e below (T21.setTop (mkF m 86 #[.val (.ref a1), .val .null, .val .null, .val (.ref a2), .val (.ref a3)] [])) _
  refine OGot.go (fun t k => XS.aloadN X21.here hx rfl (hb hby d11_86) rfl rfl k) ?_
  show OGot p.tables e below (T21.setTop (mkF m 87 #[.val (.ref a1), .val .null, .val .null, .val (.ref a2), .val (.ref a3)] [(.ref a1)])) _
  refine OGot.go (fun t k => XS.aload X21.here hx rfl (hb hby d11_87) rfl rfl k) ?_
  show OGot p.tables e below (T21.setTop (mkF m 89 #[.val (.ref a1), .val .null, .val .null, .val (.ref a2), .val (.ref a3)] [(.ref a3), (.ref a1)])) _
  have F22 : Fld Z h21 a1 "com/example/archipel/archipel/model/AttributeChange" "becomes" "Lcom/example/archipel/archipel/model/Attribute;" .null := (((F_becomes_a1.other W17 (Or.inr (slot_ne (Or.inr (ow hw 78 rfl)) (Or.inr (ow hw 72 rfl)) (by decide) (t := (.object "com/example/archipel/archipel/model/Attribute")) (t' := (.object "com/example/archipel/archipel/model/Entity")) (by decide) (by decide)))).other W19 (Or.inr (slot_ne (Or.inr (ow hw 78 rfl)) (Or.inr (ow hw 74 rfl)) (by decide) (t := (.object "com/example/archipel/archipel/model/Attribute")) (t' := (.object "com/example/archipel/archipel/model/Entity")) (by decide) (by decide)))).other W21 (Or.inr (slot_ne (Or.inr (ow hw 78 rfl)) (Or.inr (ow hw 76 rfl)) (by decide) (t := (.object "com/example/archipel/archipel/model/Attribute")) (t' := (.object "com/example/archipel/archipel/model/Attribute")) (by decide) (by decide))))
  obtain ⟨T23, h23, X23, e23, W23, st23⟩ := putF X21 hx hZ hown (host := "") (Or.inl (ow hw 77 rfl)) Via.refl e21 F22 (((E_a1.wr W17).wr W19).wr W21) (Or.inr ⟨(ow hw 78 rfl), rfl, hnm⟩) (ow hw 65 rfl) (ty := (.object "com/example/archipel/archipel/model/Attribute")) (by decide) rfl rfl (g := (mkF m 89 #[.val (.ref a1), .val .null, .val .null, .val (.ref a2), .val (.ref a3)] [(.ref a3), (.ref a1)])) rfl rfl (hb hby d11_89)
  refine OGot.go st23 ?_
  have N23 := Fr.snoc X23 N21 g_a1
  have O23 := O21.wr W23 g_a1
  have K23 := K21.wr W23 (Or.inl (List.mem_of_getElem? (i := 3) rfl))
  have Fw23 : Fld Z h23 a1 "com/example/archipel/archipel/model/AttributeChange" "becomes" "Lcom/example/archipel/archipel/model/Attribute;" (.ref a3) := F22.same W23
  show OGot p.tables e below (T23.setTop (mkF m 92 #[.val (.ref a1), .val .null, .val .null, .val (.ref a2), .val (.ref a3)] [])) _
  obtain ⟨fs, hr, hrun, hended, hW, hsame⟩ := X23.leave (v := none) (fun _ => rfl)
  refine ⟨_, _, X23.returnOut hx Bd.returns (hb hby d11_92) hr, hrun, hended, _, _, rfl, ?_, ⟨_, rfl⟩, hW, hsame.mono (by decide) (by decide)⟩
  have F24 : Fld Z h23 a1 "com/example/archipel/archipel/model/AttributeChange" "before" "Lcom/example/archipel/archipel/model/Entity;" .null := (((Fw17.other W19 (Or.inr (slot_ne (Or.inr (ow hw 72 rfl)) (Or.inr (ow hw 74 rfl)) (by decide) (t := (.object "com/example/archipel/archipel/model/Entity")) (t' := (.object "com/example/archipel/archipel/model/Entity")) (by decide) (by decide)))).other W21 (Or.inr (slot_ne (Or.inr (ow hw 72 rfl)) (Or.inr (ow hw 76 rfl)) (by decide) (t := (.object "com/example/archipel/archipel/model/Entity")) (t' := (.object "com/example/archipel/archipel/model/Attribute")) (by decide) (by decide)))).other W23 (Or.inr (slot_ne (Or.inr (ow hw 72 rfl)) (Or.inr (ow hw 78 rfl)) (by decide) (t := (.object "com/example/archipel/archipel/model/Entity")) (t' := (.object "com/example/archipel/archipel/model/Attribute")) (by decide) (by decide))))
  have F25 : Fld Z h23 a1 "com/example/archipel/archipel/model/AttributeChange" "after" "Lcom/example/archipel/archipel/model/Entity;" .null := ((Fw19.other W21 (Or.inr (slot_ne (Or.inr (ow hw 74 rfl)) (Or.inr (ow hw 76 rfl)) (by decide) (t := (.object "com/example/archipel/archipel/model/Entity")) (t' := (.object "com/example/archipel/archipel/model/Attribute")) (by decide) (by decide)))).other W23 (Or.inr (slot_ne (Or.inr (ow hw 74 rfl)) (Or.inr (ow hw 78 rfl)) (by decide) (t := (.object "com/example/archipel/archipel/model/Entity")) (t' := (.object "com/example/archipel/archipel/model/Attribute")) (by decide) (by decide))))
  have F26 : Fld Z h23 a1 "com/example/archipel/archipel/model/AttributeChange" "was" "Lcom/example/archipel/archipel/model/Attribute;" (.ref a2) := (Fw21.other W23 (Or.inr (slot_ne (Or.inr (ow hw 76 rfl)) (Or.inr (ow hw 78 rfl)) (by decide) (t := (.object "com/example/archipel/archipel/model/Attribute")) (t' := (.object "com/example/archipel/archipel/model/Attribute")) (by decide) (by decide))))
  show Q11_4 Z w_INTEGER w_TEXT w_DATE w_DECIMAL i_COMPACT_STRINGS a1 a2 a3 a5 a7 a10 a11 k12 p13 k14 p15 h0 n0 _ T23.heap _
  rw [e23]
  exact ⟨N23, rfl, K23, F24, F25, F26, Fw23⟩
def Q0 (Z : State) (w_INTEGER : Addr) (w_TEXT : Addr) (w_DATE : Addr) (w_DECIMAL : Addr) (i_COMPACT_STRINGS : Int32) (p1 : Int32) (p2 : Int32) (p3 : Int32) (p4 : Int32) (p5 : Int32) (p6 : Int32) (h0 : Heap) (n0 : Nat) (v : Option Value) (h : Heap) (L : List Loc) : Prop := v = some (.int (1 : Int32)) ∧ Fr n0 L
theorem ef0 (m : MethodId) (x0 : Int32) (x1 : Int32) (x2 : Int32) (x3 : Int32) (x4 : Int32) (x5 : Int32) : entryFrame m #[(.int x0), (.int x1), (.int x2), (.int x3), (.int x4), (.int x5)] maxLocals = mkF m 0 #[.val (.int x0), .val (.int x1), .val (.int x2), .val (.int x3), .val (.int x4), .val (.int x5), .unset, .unset, .unset, .unset, .unset, .unset, .unset, .unset, .unset, .unset] [] := by first | (simp [entryFrame, mkF, argsToLocals, Value.category, maxLocals]; done) | rfl
set_option maxRecDepth 65536 in
set_option maxHeartbeats 40000000 in
theorem rm0 (l : Launch) (Z : State) (a0 : Array Value) (hw : ∀ d ∈ tables_1, d.before a0 Z = true) (ws : List Jvm.Cond) {w_INTEGER : Addr} {w_TEXT : Addr} {w_DATE : Addr} {w_DECIMAL : Addr} {i_COMPACT_STRINGS : Int32} (G : Glob Z w_INTEGER w_TEXT w_DATE w_DECIMAL i_COMPACT_STRINGS) (p1 : Int32) (p2 : Int32) (p3 : Int32) (p4 : Int32) (p5 : Int32) (p6 : Int32) (h0 : Heap) (n0 : Nat) (O0 : Old Z n0 h0) :
    MetFree l x (head1 (Jvm.Cond.code x code maxLocals ret :: ws) room_1) (fun a U => a = #[(.int p1), (.int p2), (.int p3), (.int p4), (.int p5), (.int p6)] ∧ Z.Warmed39 U.vm ∧ U.heap = h0) (fun _ _ _ _ _ => True) (fun _ U o U' => ∃ v L, o = .returned v ∧ Q0 Z w_INTEGER w_TEXT w_DATE w_DECIMAL i_COMPACT_STRINGS p1 p2 p3 p4 p5 p6 h0 n0 v U'.heap L ∧ FrameEnd U o U' L room_1.cells room_1.slots) := by
  refine MetFree.of_bodySF (plainFor_of_name pn_com_example_archipel_archipel_model_AttributeChangeAddedPinLaw) hisR ?_
  intro p e s m args below meth c s₁ Bd hml0 hP hK
  obtain ⟨rfl, hZ, hh⟩ := hP
  have hx := Bd.exec
  have hby := Bd.bytes
  have hml : c.maxLocals = 16 := hml0
  have hown : s.vm.findClass "com/example/archipel/archipel/model/AttributeChangeAddedPinLaw" = some m.cls := findClass_of_methodNamed Bd.named
  have hnm := (name_of_methodNamed Bd.named Bd.method).1
  have X0 : Stand p l e room_1 s m #[(.int p1), (.int p2), (.int p3), (.int p4), (.int p5), (.int p6)] below meth c s₁ [] 0 0 := Stand.of_body Bd
  have e0 : s₁.heap = h0 := by rw [← hh, Bd.state]; rfl
  have N0 := Fr.nil n0
  show OGot p.tables e below (s₁.setTop (entryFrame m #[(.int p1), (.int p2), (.int p3), (.int p4), (.int p5), (.int p6)] maxLocals)) _
  refine OGot.go (fun t k => castTop (ef0 m p1 p2 p3 p4 p5 p6) k) ?_
  show OGot p.tables e below (s₁.setTop (mkF m 0 #[.val (.int p1), .val (.int p2), .val (.int p3), .val (.int p4), .val (.int p5), .val (.int p6), .unset, .unset, .unset, .unset, .unset, .unset, .unset, .unset, .unset, .unset] [])) _
  refine OGot.go (fun t k => XS.iloadN X0.here hx rfl (hb hby at_0) rfl k) ?_
  show OGot p.tables e below (s₁.setTop (mkF m 1 #[.val (.int p1), .val (.int p2), .val (.int p3), .val (.int p4), .val (.int p5), .val (.int p6), .unset, .unset, .unset, .unset, .unset, .unset, .unset, .unset, .unset, .unset] [(.int p1)])) _
  refine OGot.go (fun t k => X0.ldcInt hx hown (mvT hZ (ow hw 0 rfl)) (g := (mkF m 1 #[.val (.int p1), .val (.int p2), .val (.int p3), .val (.int p4), .val (.int p5), .val (.int p6), .unset, .unset, .unset, .unset, .unset, .unset, .unset, .unset, .unset, .unset] [(.int p1)])) rfl (hb hby at_1) _ k) ?_
  show OGot p.tables e below (s₁.setTop (mkF m 3 #[.val (.int p1), .val (.int p2), .val (.int p3), .val (.int p4), .val (.int p5), .val (.int p6), .unset, .unset, .unset, .unset, .unset, .unset, .unset, .unset, .unset, .unset] [(.int (2147483647 : Int32)), (.int p1)])) _
  refine OGot.go (fun t k => XS.iand X0.here hx rfl (hb hby at_3) rfl k) ?_
  show OGot p.tables e below (s₁.setTop (mkF m 4 #[.val (.int p1), .val (.int p2), .val (.int p3), .val (.int p4), .val (.int p5), .val (.int p6), .unset, .unset, .unset, .unset, .unset, .unset, .unset, .unset, .unset, .unset] [(.int (p1 &&& (2147483647 : Int32)))])) _
  refine OGot.go (fun t k => XS.iconst X0.here hx rfl (hb hby at_4) k) ?_
  show OGot p.tables e below (s₁.setTop (mkF m 5 #[.val (.int p1), .val (.int p2), .val (.int p3), .val (.int p4), .val (.int p5), .val (.int p6), .unset, .unset, .unset, .unset, .unset, .unset, .unset, .unset, .unset, .unset] [(.int (3 : Int32)), (.int (p1 &&& (2147483647 : Int32)))])) _
  refine OGot.go (fun t k => iremM X0 hx rfl (hb hby at_5) rfl (by decide) k) ?_
  show OGot p.tables e below (s₁.setTop (mkF m 6 #[.val (.int p1), .val (.int p2), .val (.int p3), .val (.int p4), .val (.int p5), .val (.int p6), .unset, .unset, .unset, .unset, .unset, .unset, .unset, .unset, .unset, .unset] [(.int ((p1 &&& (2147483647 : Int32)) % (3 : Int32)))])) _
  refine OGot.go (fun t k => XS.istore X0.here hx rfl (hb hby at_6) rfl (l' := #[.val (.int p1), .val (.int p2), .val (.int p3), .val (.int p4), .val (.int p5), .val (.int p6), .val (.int ((p1 &&& (2147483647 : Int32)) % (3 : Int32))), .unset, .unset, .unset, .unset, .unset, .unset, .unset, .unset, .unset]) rfl k) ?_
  show OGot p.tables e below (s₁.setTop (mkF m 8 #[.val (.int p1), .val (.int p2), .val (.int p3), .val (.int p4), .val (.int p5), .val (.int p6), .val (.int ((p1 &&& (2147483647 : Int32)) % (3 : Int32))), .unset, .unset, .unset, .unset, .unset, .unset, .unset, .unset, .unset] [])) _
  refine OGot.go (fun t k => XS.iloadN X0.here hx rfl (hb hby at_8) rfl k) ?_
  show OGot p.tables e below (s₁.setTop (mkF m 9 #[.val (.int p1), .val (.int p2), .val (.int p3), .val (.int p4), .val (.int p5), .val (.int p6), .val (.int ((p1 &&& (2147483647 : Int32)) % (3 : Int32))), .unset, .unset, .unset, .unset, .unset, .unset, .unset, .unset, .unset] [(.int p2)])) _
  refine OGot.go (fun t k => XS.sipush X0.here hx rfl (hb hby at_9) k) ?_
  show OGot p.tables e below (s₁.setTop (mkF m 12 #[.val (.int p1), .val (.int p2), .val (.int p3), .val (.int p4), .val (.int p5), .val (.int p6), .val (.int ((p1 &&& (2147483647 : Int32)) % (3 : Int32))), .unset, .unset, .unset, .unset, .unset, .unset, .unset, .unset, .unset] [(.int (255 : Int32)), (.int p2)])) _
  refine OGot.go (fun t k => XS.iand X0.here hx rfl (hb hby at_12) rfl k) ?_
  show OGot p.tables e below (s₁.setTop (mkF m 13 #[.val (.int p1), .val (.int p2), .val (.int p3), .val (.int p4), .val (.int p5), .val (.int p6), .val (.int ((p1 &&& (2147483647 : Int32)) % (3 : Int32))), .unset, .unset, .unset, .unset, .unset, .unset, .unset, .unset, .unset] [(.int (p2 &&& (255 : Int32)))])) _
  refine OGot.go (fun t k => XS.i2c X0.here hx rfl (hb hby at_13) rfl k) ?_
  show OGot p.tables e below (s₁.setTop (mkF m 14 #[.val (.int p1), .val (.int p2), .val (.int p3), .val (.int p4), .val (.int p5), .val (.int p6), .val (.int ((p1 &&& (2147483647 : Int32)) % (3 : Int32))), .unset, .unset, .unset, .unset, .unset, .unset, .unset, .unset, .unset] [(.int ((p2 &&& (255 : Int32)).toUInt32.toUInt16.toUInt32.toInt32))])) _
  obtain ⟨_, _, ⟨T7, L7, k7, n7⟩, -, X7, ⟨Lc7, hQ7, l7, y7, z7⟩, st7⟩ := Jvm.LawKit.callS X0 hx (y := (⟨"java/lang/String", "valueOf", "(C)Ljava/lang/String;"⟩ : MethodName)) hown (mvT hZ (ow hw 1 rfl)) (mvT hZ (ow hw 2 rfl)) (mvT hZ (ow hw 3 rfl)) (mvT hZ (ow hw 4 rfl)) (by decide) (backOf (W := 0) (rm1 l Z a0 hw [] G ((p2 &&& (255 : Int32)).toUInt32.toUInt16.toUInt32.toInt32) h0 n0 O0 (own_enc _)) hZ (ow hw 4 rfl) (ow hw 3 rfl) (by decide) (by decide)) (g := (mkF m 14 #[.val (.int p1), .val (.int p2), .val (.int p3), .val (.int p4), .val (.int p5), .val (.int p6), .val (.int ((p1 &&& (2147483647 : Int32)) % (3 : Int32))), .unset, .unset, .unset, .unset, .unset, .unset, .unset, .unset, .unset] [(.int ((p2 &&& (255 : Int32)).toUInt32.toUInt16.toUInt32.toInt32))])) rfl (by rw [hml]; rfl) (argsL := [(.int ((p2 &&& (255 : Int32)).toUInt32.toUInt16.toUInt32.toInt32))]) (rest := []) (lenOf pd_3 rfl) rfl (by show 2 * 0 + _ ≤ _; exact Nat.le_of_eq rfl) (hb hby at_14) (fun _ _ => ⟨rfl, e0, (by decide : 0 + 2 ≤ _), (by decide : 0 + 5 ≤ _)⟩)
  dsimp only [Pt.U, Pt.locs, Pt.cells, Pt.slots] at X7 l7 y7 z7 st7 hQ7
  subst l7 y7 z7
  obtain ⟨N7q, b4_7, b2_5_7, k2_5_7, rfl, szb4_7_7, szb2_5_7_7, neb4_7_b2_5_7_7, K7, Fo7_0, Fo7_1, Fo7_2, Fo7_3⟩ := hQ7
  have g_b4_7 : n0 ≤ b4_7 := Nat.le_trans (osz O0) szb4_7_7
  have g_b2_5_7 : n0 ≤ b2_5_7 := Nat.le_trans (osz O0) szb2_5_7_7
  have O7 := OKeep.old O0 K7 oge0
  have N7 := Fr.app N0 N7q
  refine OGot.go st7 ?_
  show OGot p.tables e below (T7.setTop (mkF m 17 #[.val (.int p1), .val (.int p2), .val (.int p3), .val (.int p4), .val (.int p5), .val (.int p6), .val (.int ((p1 &&& (2147483647 : Int32)) % (3 : Int32))), .unset, .unset, .unset, .unset, .unset, .unset, .unset, .unset, .unset] [(.ref b4_7)])) _
  refine OGot.go (fun t k => XS.astore X7.here hx rfl (hb hby at_17) rfl rfl (l' := #[.val (.int p1), .val (.int p2), .val (.int p3), .val (.int p4), .val (.int p5), .val (.int p6), .val (.int ((p1 &&& (2147483647 : Int32)) % (3 : Int32))), .val (.ref b4_7), .unset, .unset, .unset, .unset, .unset, .unset, .unset, .unset]) rfl k) ?_
  show OGot p.tables e below (T7.setTop (mkF m 19 #[.val (.int p1), .val (.int p2), .val (.int p3), .val (.int p4), .val (.int p5), .val (.int p6), .val (.int ((p1 &&& (2147483647 : Int32)) % (3 : Int32))), .val (.ref b4_7), .unset, .unset, .unset, .unset, .unset, .unset, .unset, .unset] [])) _
  refine OGot.go (fun t k => XS.iloadN X7.here hx rfl (hb hby at_19) rfl k) ?_
  show OGot p.tables e below (T7.setTop (mkF m 20 #[.val (.int p1), .val (.int p2), .val (.int p3), .val (.int p4), .val (.int p5), .val (.int p6), .val (.int ((p1 &&& (2147483647 : Int32)) % (3 : Int32))), .val (.ref b4_7), .unset, .unset, .unset, .unset, .unset, .unset, .unset, .unset] [(.int p3)])) _
  refine OGot.go (fun t k => XS.sipush X7.here hx rfl (hb hby at_20) k) ?_
  show OGot p.tables e below (T7.setTop (mkF m 23 #[.val (.int p1), .val (.int p2), .val (.int p3), .val (.int p4), .val (.int p5), .val (.int p6), .val (.int ((p1 &&& (2147483647 : Int32)) % (3 : Int32))), .val (.ref b4_7), .unset, .unset, .unset, .unset, .unset, .unset, .unset, .unset] [(.int (255 : Int32)), (.int p3)])) _
  refine OGot.go (fun t k => XS.iand X7.here hx rfl (hb hby at_23) rfl k) ?_
  show OGot p.tables e below (T7.setTop (mkF m 24 #[.val (.int p1), .val (.int p2), .val (.int p3), .val (.int p4), .val (.int p5), .val (.int p6), .val (.int ((p1 &&& (2147483647 : Int32)) % (3 : Int32))), .val (.ref b4_7), .unset, .unset, .unset, .unset, .unset, .unset, .unset, .unset] [(.int (p3 &&& (255 : Int32)))])) _
  refine OGot.go (fun t k => XS.i2c X7.here hx rfl (hb hby at_24) rfl k) ?_
  show OGot p.tables e below (T7.setTop (mkF m 25 #[.val (.int p1), .val (.int p2), .val (.int p3), .val (.int p4), .val (.int p5), .val (.int p6), .val (.int ((p1 &&& (2147483647 : Int32)) % (3 : Int32))), .val (.ref b4_7), .unset, .unset, .unset, .unset, .unset, .unset, .unset, .unset] [(.int ((p3 &&& (255 : Int32)).toUInt32.toUInt16.toUInt32.toInt32))])) _
  obtain ⟨_, _, ⟨T8, L8, k8, n8⟩, -, X8, ⟨Lc8, hQ8, l8, y8, z8⟩, st8⟩ := Jvm.LawKit.callS X7 hx (y := (⟨"java/lang/String", "valueOf", "(C)Ljava/lang/String;"⟩ : MethodName)) hown (mvT hZ (ow hw 1 rfl)) (mvT hZ (ow hw 2 rfl)) (mvT hZ (ow hw 3 rfl)) (mvT hZ (ow hw 4 rfl)) (by decide) (backOf (W := 0) (rm1 l Z a0 hw [] G ((p3 &&& (255 : Int32)).toUInt32.toUInt16.toUInt32.toInt32) T7.heap n0 O7 (own_enc _)) hZ (ow hw 4 rfl) (ow hw 3 rfl) (by decide) (by decide)) (g := (mkF m 25 #[.val (.int p1), .val (.int p2), .val (.int p3), .val (.int p4), .val (.int p5), .val (.int p6), .val (.int ((p1 &&& (2147483647 : Int32)) % (3 : Int32))), .val (.ref b4_7), .unset, .unset, .unset, .unset, .unset, .unset, .unset, .unset] [(.int ((p3 &&& (255 : Int32)).toUInt32.toUInt16.toUInt32.toInt32))])) rfl (by rw [hml]; rfl) (argsL := [(.int ((p3 &&& (255 : Int32)).toUInt32.toUInt16.toUInt32.toInt32))]) (rest := []) (lenOf pd_3 rfl) rfl (by show 2 * 0 + _ ≤ _; exact Nat.le_of_eq rfl) (hb hby at_25) (fun _ _ => ⟨rfl, rfl, (by decide : 2 + 2 ≤ _), (by decide : 5 + 5 ≤ _)⟩)
  dsimp only [Pt.U, Pt.locs, Pt.cells, Pt.slots] at X8 l8 y8 z8 st8 hQ8
  subst l8 y8 z8
  obtain ⟨N8q, b4_8, b2_5_8, k2_5_8, rfl, szb4_8_8, szb2_5_8_8, neb4_8_b2_5_8_8, K8, Fo8_0, Fo8_1, Fo8_2, Fo8_3⟩ := hQ8
  have g_b4_8 : n0 ≤ b4_8 := Nat.le_trans (osz O7) szb4_8_8
  have g_b2_5_8 : n0 ≤ b2_5_8 := Nat.le_trans (osz O7) szb2_5_8_8
  have O8 := OKeep.old O7 K8 oge0
  have N8 := Fr.app N7 N8q
  refine OGot.go st8 ?_
  show OGot p.tables e below (T8.setTop (mkF m 28 #[.val (.int p1), .val (.int p2), .val (.int p3), .val (.int p4), .val (.int p5), .val (.int p6), .val (.int ((p1 &&& (2147483647 : Int32)) % (3 : Int32))), .val (.ref b4_7), .unset, .unset, .unset, .unset, .unset, .unset, .unset, .unset] [(.ref b4_8)])) _
  refine OGot.go (fun t k => XS.astore X8.here hx rfl (hb hby at_28) rfl rfl (l' := #[.val (.int p1), .val (.int p2), .val (.int p3), .val (.int p4), .val (.int p5), .val (.int p6), .val (.int ((p1 &&& (2147483647 : Int32)) % (3 : Int32))), .val (.ref b4_7), .val (.ref b4_8), .unset, .unset, .unset, .unset, .unset, .unset, .unset]) rfl k) ?_
  show OGot p.tables e below (T8.setTop (mkF m 30 #[.val (.int p1), .val (.int p2), .val (.int p3), .val (.int p4), .val (.int p5), .val (.int p6), .val (.int ((p1 &&& (2147483647 : Int32)) % (3 : Int32))), .val (.ref b4_7), .val (.ref b4_8), .unset, .unset, .unset, .unset, .unset, .unset, .unset] [])) _
  refine OGot.go (fun t k => XS.iloadN X8.here hx rfl (hb hby at_30) rfl k) ?_
  show OGot p.tables e below (T8.setTop (mkF m 31 #[.val (.int p1), .val (.int p2), .val (.int p3), .val (.int p4), .val (.int p5), .val (.int p6), .val (.int ((p1 &&& (2147483647 : Int32)) % (3 : Int32))), .val (.ref b4_7), .val (.ref b4_8), .unset, .unset, .unset, .unset, .unset, .unset, .unset] [(.int p4)])) _
  obtain ⟨_, _, ⟨T9, L9, k9, n9⟩, -, X9, ⟨Lc9, hQ9, l9, y9, z9⟩, st9⟩ := Jvm.LawKit.callS X8 hx (y := (⟨"com/example/archipel/archipel/model/AttributeChangeAddedPinLaw", "type", "(I)Lcom/example/archipel/archipel/model/DataType;"⟩ : MethodName)) hown (mvT hZ (ow hw 27 rfl)) (mvT hZ (ow hw 28 rfl)) (mvT hZ (ow hw 29 rfl)) (mvT hZ (ow hw 30 rfl)) (by decide) (backOf (W := 0) (rm6 l Z a0 hw [] G p4 T8.heap n0 O8 ) hZ (ow hw 30 rfl) (ow hw 29 rfl) (by decide) (by decide)) (g := (mkF m 31 #[.val (.int p1), .val (.int p2), .val (.int p3), .val (.int p4), .val (.int p5), .val (.int p6), .val (.int ((p1 &&& (2147483647 : Int32)) % (3 : Int32))), .val (.ref b4_7), .val (.ref b4_8), .unset, .unset, .unset, .unset, .unset, .unset, .unset] [(.int p4)])) rfl (by rw [hml]; rfl) (argsL := [(.int p4)]) (rest := []) (lenOf pd_4 rfl) rfl (by show 2 * 0 + _ ≤ _; exact Nat.le_of_eq rfl) (hb hby at_31) (fun _ _ => ⟨rfl, rfl, (by decide : 4 + 0 ≤ _), (by decide : 10 + 0 ≤ _)⟩)
  dsimp only [Pt.U, Pt.locs, Pt.cells, Pt.slots] at X9 l9 y9 z9 st9 hQ9
  subst l9 y9 z9
  obtain ⟨rfl, N9q, e9, Rf9_0, Rf9_1⟩ := hQ9
  have N9 := Fr.app N8 N9q
  refine OGot.go st9 ?_
  show OGot p.tables e below (T9.setTop (mkF m 34 #[.val (.int p1), .val (.int p2), .val (.int p3), .val (.int p4), .val (.int p5), .val (.int p6), .val (.int ((p1 &&& (2147483647 : Int32)) % (3 : Int32))), .val (.ref b4_7), .val (.ref b4_8), .unset, .unset, .unset, .unset, .unset, .unset, .unset] [(.ref (f6 w_INTEGER w_TEXT w_DATE w_DECIMAL p4))])) _
  refine OGot.go (fun t k => XS.astore X9.here hx rfl (hb hby at_34) rfl rfl (l' := #[.val (.int p1), .val (.int p2), .val (.int p3), .val (.int p4), .val (.int p5), .val (.int p6), .val (.int ((p1 &&& (2147483647 : Int32)) % (3 : Int32))), .val (.ref b4_7), .val (.ref b4_8), .val (.ref (f6 w_INTEGER w_TEXT w_DATE w_DECIMAL p4)), .unset, .unset, .unset, .unset, .unset, .unset]) rfl k) ?_
  show OGot p.tables e below (T9.setTop (mkF m 36 #[.val (.int p1), .val (.int p2), .val (.int p3), .val (.int p4), .val (.int p5), .val (.int p6), .val (.int ((p1 &&& (2147483647 : Int32)) % (3 : Int32))), .val (.ref b4_7), .val (.ref b4_8), .val (.ref (f6 w_INTEGER w_TEXT w_DATE w_DECIMAL p4)), .unset, .unset, .unset, .unset, .unset, .unset] [])) _
  refine OGot.go (fun t k => XS.iload X9.here hx rfl (hb hby at_36) rfl k) ?_
  show OGot p.tables e below (T9.setTop (mkF m 38 #[.val (.int p1), .val (.int p2), .val (.int p3), .val (.int p4), .val (.int p5), .val (.int p6), .val (.int ((p1 &&& (2147483647 : Int32)) % (3 : Int32))), .val (.ref b4_7), .val (.ref b4_8), .val (.ref (f6 w_INTEGER w_TEXT w_DATE w_DECIMAL p4)), .unset, .unset, .unset, .unset, .unset, .unset] [(.int p5)])) _
  obtain ⟨_, _, ⟨T10, L10, k10, n10⟩, -, X10, ⟨Lc10, hQ10, l10, y10, z10⟩, st10⟩ := Jvm.LawKit.callS X9 hx (y := (⟨"com/example/archipel/archipel/model/AttributeChangeAddedPinLaw", "type", "(I)Lcom/example/archipel/archipel/model/DataType;"⟩ : MethodName)) hown (mvT hZ (ow hw 27 rfl)) (mvT hZ (ow hw 28 rfl)) (mvT hZ (ow hw 29 rfl)) (mvT hZ (ow hw 30 rfl)) (by decide) (backOf (W := 0) (rm6 l Z a0 hw [] G p5 T8.heap n0 O8 ) hZ (ow hw 30 rfl) (ow hw 29 rfl) (by decide) (by decide)) (g := (mkF m 38 #[.val (.int p1), .val (.int p2), .val (.int p3), .val (.int p4), .val (.int p5), .val (.int p6), .val (.int ((p1 &&& (2147483647 : Int32)) % (3 : Int32))), .val (.ref b4_7), .val (.ref b4_8), .val (.ref (f6 w_INTEGER w_TEXT w_DATE w_DECIMAL p4)), .unset, .unset, .unset, .unset, .unset, .unset] [(.int p5)])) rfl (by rw [hml]; rfl) (argsL := [(.int p5)]) (rest := []) (lenOf pd_4 rfl) rfl (by show 2 * 0 + _ ≤ _; exact Nat.le_of_eq rfl) (hb hby at_38) (fun _ _ => ⟨rfl, e9, (by decide : 4 + 0 ≤ _), (by decide : 10 + 0 ≤ _)⟩)
  dsimp only [Pt.U, Pt.locs, Pt.cells, Pt.slots] at X10 l10 y10 z10 st10 hQ10
  subst l10 y10 z10
  obtain ⟨rfl, N10q, e10, Rf10_0, Rf10_1⟩ := hQ10
  have N10 := Fr.app N9 N10q
  refine OGot.go st10 ?_
  show OGot p.tables e below (T10.setTop (mkF m 41 #[.val (.int p1), .val (.int p2), .val (.int p3), .val (.int p4), .val (.int p5), .val (.int p6), .val (.int ((p1 &&& (2147483647 : Int32)) % (3 : Int32))), .val (.ref b4_7), .val (.ref b4_8), .val (.ref (f6 w_INTEGER w_TEXT w_DATE w_DECIMAL p4)), .unset, .unset, .unset, .unset, .unset, .unset] [(.ref (f6 w_INTEGER w_TEXT w_DATE w_DECIMAL p5))])) _
  refine OGot.go (fun t k => XS.astore X10.here hx rfl (hb hby at_41) rfl rfl (l' := #[.val (.int p1), .val (.int p2), .val (.int p3), .val (.int p4), .val (.int p5), .val (.int p6), .val (.int ((p1 &&& (2147483647 : Int32)) % (3 : Int32))), .val (.ref b4_7), .val (.ref b4_8), .val (.ref (f6 w_INTEGER w_TEXT w_DATE w_DECIMAL p4)), .val (.ref (f6 w_INTEGER w_TEXT w_DATE w_DECIMAL p5)), .unset, .unset, .unset, .unset, .unset]) rfl k) ?_
  show OGot p.tables e below (T10.setTop (mkF m 43 #[.val (.int p1), .val (.int p2), .val (.int p3), .val (.int p4), .val (.int p5), .val (.int p6), .val (.int ((p1 &&& (2147483647 : Int32)) % (3 : Int32))), .val (.ref b4_7), .val (.ref b4_8), .val (.ref (f6 w_INTEGER w_TEXT w_DATE w_DECIMAL p4)), .val (.ref (f6 w_INTEGER w_TEXT w_DATE w_DECIMAL p5)), .unset, .unset, .unset, .unset, .unset] [])) _
  refine OGot.go (fun t k => XS.aload X10.here hx rfl (hb hby at_43) rfl rfl k) ?_
  show OGot p.tables e below (T10.setTop (mkF m 45 #[.val (.int p1), .val (.int p2), .val (.int p3), .val (.int p4), .val (.int p5), .val (.int p6), .val (.int ((p1 &&& (2147483647 : Int32)) % (3 : Int32))), .val (.ref b4_7), .val (.ref b4_8), .val (.ref (f6 w_INTEGER w_TEXT w_DATE w_DECIMAL p4)), .val (.ref (f6 w_INTEGER w_TEXT w_DATE w_DECIMAL p5)), .unset, .unset, .unset, .unset, .unset] [(.ref b4_7)])) _
  refine OGot.go (fun t k => XS.aload X10.here hx rfl (hb hby at_45) rfl rfl k) ?_
  show OGot p.tables e below (T10.setTop (mkF m 47 #[.val (.int p1), .val (.int p2), .val (.int p3), .val (.int p4), .val (.int p5), .val (.int p6), .val (.int ((p1 &&& (2147483647 : Int32)) % (3 : Int32))), .val (.ref b4_7), .val (.ref b4_8), .val (.ref (f6 w_INTEGER w_TEXT w_DATE w_DECIMAL p4)), .val (.ref (f6 w_INTEGER w_TEXT w_DATE w_DECIMAL p5)), .unset, .unset, .unset, .unset, .unset] [(.ref b4_8), (.ref b4_7)])) _
  have ne11 : b4_7 ≠ b4_8 := (Nat.ne_of_lt (Nat.lt_of_lt_of_le Fo7_0.lt szb4_8_8))
  have F13 : Fld Z T8.heap b4_7 "java/lang/String" "coder" "B" (.int (0 : Int32)) := (OKeep.fld Fo7_1 K8 onin0)
  have F14 : Fld Z T8.heap b4_7 "java/lang/String" "value" "[B" (.ref b2_5_7) := (OKeep.fld Fo7_2 K8 onin0)
  have F15 : Arv Z T8.heap b2_5_7 k2_5_7 .byte (1 : Int32) [(.int (nar .byte (((p2 &&& (255 : Int32)).toUInt32.toUInt16.toUInt32.toInt32).toInt8.toInt32)))] (.int (0 : Int32)) := (OKeep.arv Fo7_3 K8 oall0)
  obtain ⟨cq12, kq12, q12a, q12b, q12c⟩ := isOf hZ e10 (OKeep.exa Fo7_0 K8)
  obtain ⟨_, _, ⟨T12, L12, k12, n12⟩, -, X12, ⟨Lc12, hQ12, l12, y12, z12⟩, st12⟩ := X10.virtualBack hx (y := (⟨"java/lang/String", "equals", "(Ljava/lang/Object;)Z"⟩ : MethodName)) (z := (⟨"java/lang/String", "equals", "(Ljava/lang/Object;)Z"⟩ : MethodName)) hown (mvT hZ (ow hw 36 rfl)) (mvT hZ (ow hw 37 rfl)) (notFace_of_selects (args := #[]) (mvT hZ (ow hw 39 rfl))) (mvT hZ (ow hw 39 rfl)) (mvT hZ (ow hw 38 rfl)) (by decide) (backOf (W := 0) (rm7 l Z a0 hw [] G b4_7 b4_8 b2_5_7 b2_5_8 k2_5_7 (nar .byte (((p2 &&& (255 : Int32)).toUInt32.toUInt16.toUInt32.toInt32).toInt8.toInt32)) k2_5_8 (nar .byte (((p3 &&& (255 : Int32)).toUInt32.toUInt16.toUInt32.toInt32).toInt8.toInt32)) T8.heap n0 O8 ne11 Fo8_0 F13 Fo8_1 F14 Fo8_2 F15 Fo8_3) hZ (ow hw 40 rfl) (ow hw 3 rfl) (by decide) (by decide)) q12a q12c (g := (mkF m 47 #[.val (.int p1), .val (.int p2), .val (.int p3), .val (.int p4), .val (.int p5), .val (.int p6), .val (.int ((p1 &&& (2147483647 : Int32)) % (3 : Int32))), .val (.ref b4_7), .val (.ref b4_8), .val (.ref (f6 w_INTEGER w_TEXT w_DATE w_DECIMAL p4)), .val (.ref (f6 w_INTEGER w_TEXT w_DATE w_DECIMAL p5)), .unset, .unset, .unset, .unset, .unset] [(.ref b4_8), (.ref b4_7)])) rfl (by rw [hml]; rfl) (Steps.refl _) (argsL := [(.ref b4_8)]) (rest := []) (lenOf pd_6 rfl) rfl (by show 2 * 0 + _ ≤ _; exact Nat.le_of_eq rfl) (hb hby at_47) (fun _ _ => ⟨rfl, e10, (by decide : 4 + 0 ≤ _), (by decide : 10 + 0 ≤ _)⟩)
  dsimp only [Pt.U, Pt.locs, Pt.cells, Pt.slots] at X12 l12 y12 z12 st12 hQ12
  subst l12 y12 z12
  obtain ⟨rfl, N12q, e12⟩ := hQ12
  have N12 := Fr.app N10 N12q
  refine OGot.on st12 ?_
  show OGot p.tables e below (T12.setTop (mkF m 50 #[.val (.int p1), .val (.int p2), .val (.int p3), .val (.int p4), .val (.int p5), .val (.int p6), .val (.int ((p1 &&& (2147483647 : Int32)) % (3 : Int32))), .val (.ref b4_7), .val (.ref b4_8), .val (.ref (f6 w_INTEGER w_TEXT w_DATE w_DECIMAL p4)), .val (.ref (f6 w_INTEGER w_TEXT w_DATE w_DECIMAL p5)), .unset, .unset, .unset, .unset, .unset] [(.int (f7 (nar .byte (((p2 &&& (255 : Int32)).toUInt32.toUInt16.toUInt32.toInt32).toInt8.toInt32)) (nar .byte (((p3 &&& (255 : Int32)).toUInt32.toUInt16.toUInt32.toInt32).toInt8.toInt32))))])) _
  by_cases hs16 : (f7 (nar .byte (((p2 &&& (255 : Int32)).toUInt32.toUInt16.toUInt32.toInt32).toInt8.toInt32)) (nar .byte (((p3 &&& (255 : Int32)).toUInt32.toUInt16.toUInt32.toInt32).toInt8.toInt32))) = (0 : Int32)
  · refine OGot.go (fun t k => XS.ifNo X12.here hx rfl (hb hby at_50) rfl ((if0 _ _).trans (teq hs16).2) k) ?_
    show OGot p.tables e below (T12.setTop (mkF m 53 #[.val (.int p1), .val (.int p2), .val (.int p3), .val (.int p4), .val (.int p5), .val (.int p6), .val (.int ((p1 &&& (2147483647 : Int32)) % (3 : Int32))), .val (.ref b4_7), .val (.ref b4_8), .val (.ref (f6 w_INTEGER w_TEXT w_DATE w_DECIMAL p4)), .val (.ref (f6 w_INTEGER w_TEXT w_DATE w_DECIMAL p5)), .unset, .unset, .unset, .unset, .unset] [])) _
    refine OGot.go (fun t k => XS.aload X12.here hx rfl (hb hby at_53) rfl rfl k) ?_
    show OGot p.tables e below (T12.setTop (mkF m 55 #[.val (.int p1), .val (.int p2), .val (.int p3), .val (.int p4), .val (.int p5), .val (.int p6), .val (.int ((p1 &&& (2147483647 : Int32)) % (3 : Int32))), .val (.ref b4_7), .val (.ref b4_8), .val (.ref (f6 w_INTEGER w_TEXT w_DATE w_DECIMAL p4)), .val (.ref (f6 w_INTEGER w_TEXT w_DATE w_DECIMAL p5)), .unset, .unset, .unset, .unset, .unset] [(.ref (f6 w_INTEGER w_TEXT w_DATE w_DECIMAL p4))])) _
    refine OGot.go (fun t k => XS.aload X12.here hx rfl (hb hby at_55) rfl rfl k) ?_
    show OGot p.tables e below (T12.setTop (mkF m 57 #[.val (.int p1), .val (.int p2), .val (.int p3), .val (.int p4), .val (.int p5), .val (.int p6), .val (.int ((p1 &&& (2147483647 : Int32)) % (3 : Int32))), .val (.ref b4_7), .val (.ref b4_8), .val (.ref (f6 w_INTEGER w_TEXT w_DATE w_DECIMAL p4)), .val (.ref (f6 w_INTEGER w_TEXT w_DATE w_DECIMAL p5)), .unset, .unset, .unset, .unset, .unset] [(.ref (f6 w_INTEGER w_TEXT w_DATE w_DECIMAL p5)), (.ref (f6 w_INTEGER w_TEXT w_DATE w_DECIMAL p4))])) _
    by_cases hs17 : (f6 w_INTEGER w_TEXT w_DATE w_DECIMAL p4) = (f6 w_INTEGER w_TEXT w_DATE w_DECIMAL p5)
    · refine OGot.go (fun t k => Jvm.RoadKit.acmp (g := (mkF m 57 #[.val (.int p1), .val (.int p2), .val (.int p3), .val (.int p4), .val (.int p5), .val (.int p6), .val (.int ((p1 &&& (2147483647 : Int32)) % (3 : Int32))), .val (.ref b4_7), .val (.ref b4_8), .val (.ref (f6 w_INTEGER w_TEXT w_DATE w_DECIMAL p4)), .val (.ref (f6 w_INTEGER w_TEXT w_DATE w_DECIMAL p5)), .unset, .unset, .unset, .unset, .unset] [(.ref (f6 w_INTEGER w_TEXT w_DATE w_DECIMAL p5)), (.ref (f6 w_INTEGER w_TEXT w_DATE w_DECIMAL p4))])) X12 hx rfl rfl rfl (pc0 := 57) (pc' := 64) (same := true) rfl (hb hby at_57) rfl (decide_eq_true (congrArg Value.ref hs17)) (by decide) (by decide) k) ?_
      show OGot p.tables e below (T12.setTop (mkF m 64 #[.val (.int p1), .val (.int p2), .val (.int p3), .val (.int p4), .val (.int p5), .val (.int p6), .val (.int ((p1 &&& (2147483647 : Int32)) % (3 : Int32))), .val (.ref b4_7), .val (.ref b4_8), .val (.ref (f6 w_INTEGER w_TEXT w_DATE w_DECIMAL p4)), .val (.ref (f6 w_INTEGER w_TEXT w_DATE w_DECIMAL p5)), .unset, .unset, .unset, .unset, .unset] [])) _
      obtain ⟨T18, h18, X18, e18, E18, A18, D18, -, st18⟩ := newO X12 hx hZ hown (ow hw 44 rfl) (ow hw 45 rfl) (ow hw 46 rfl) e12 (g := (mkF m 64 #[.val (.int p1), .val (.int p2), .val (.int p3), .val (.int p4), .val (.int p5), .val (.int p6), .val (.int ((p1 &&& (2147483647 : Int32)) % (3 : Int32))), .val (.ref b4_7), .val (.ref b4_8), .val (.ref (f6 w_INTEGER w_TEXT w_DATE w_DECIMAL p4)), .val (.ref (f6 w_INTEGER w_TEXT w_DATE w_DECIMAL p5)), .unset, .unset, .unset, .unset, .unset] [])) rfl (hb hby at_64) (by decide) (by decide)
      obtain ⟨b18, g18⟩ : ∃ z, z = T8.heap.size := ⟨_, rfl⟩
      rw [← g18] at A18 D18 st18
      refine OGot.go st18 ?_
      have g_b18 : n0 ≤ b18 := Nat.le_trans (osz O8) (Nat.le_of_eq g18.symm)
      have sy_b18 : T8.heap.size ≤ b18 := Nat.le_of_eq g18.symm
      have O18 := O8.ext E18
      have F18_name : Fld Z h18 b18 "com/example/archipel/archipel/model/Attribute" "name" "Ljava/lang/String;" .null := D18 (Or.inr (ow hw 57 rfl)) (ty := (.object "java/lang/String")) (by decide)
      have F18_type : Fld Z h18 b18 "com/example/archipel/archipel/model/Attribute" "type" "Lcom/example/archipel/archipel/model/DataType;" .null := D18 (Or.inr (ow hw 59 rfl)) (ty := (.object "com/example/archipel/archipel/model/DataType")) (by decide)
      have F18_notNull : Fld Z h18 b18 "com/example/archipel/archipel/model/Attribute" "notNull" "Z" (.int (0 : Int32)) := D18 (Or.inr (ow hw 61 rfl)) (ty := .boolean) (by decide)
      have F18_references : Fld Z h18 b18 "com/example/archipel/archipel/model/Attribute" "references" "Ljava/lang/String;" .null := D18 (Or.inr (ow hw 63 rfl)) (ty := (.object "java/lang/String")) (by decide)
      show OGot p.tables e below (T18.setTop (mkF m 67 #[.val (.int p1), .val (.int p2), .val (.int p3), .val (.int p4), .val (.int p5), .val (.int p6), .val (.int ((p1 &&& (2147483647 : Int32)) % (3 : Int32))), .val (.ref b4_7), .val (.ref b4_8), .val (.ref (f6 w_INTEGER w_TEXT w_DATE w_DECIMAL p4)), .val (.ref (f6 w_INTEGER w_TEXT w_DATE w_DECIMAL p5)), .unset, .unset, .unset, .unset, .unset] [(.ref b18)])) _
      refine OGot.go (fun t k => XS.dup X18.here hx rfl (hb hby at_67) rfl rfl k) ?_
      show OGot p.tables e below (T18.setTop (mkF m 68 #[.val (.int p1), .val (.int p2), .val (.int p3), .val (.int p4), .val (.int p5), .val (.int p6), .val (.int ((p1 &&& (2147483647 : Int32)) % (3 : Int32))), .val (.ref b4_7), .val (.ref b4_8), .val (.ref (f6 w_INTEGER w_TEXT w_DATE w_DECIMAL p4)), .val (.ref (f6 w_INTEGER w_TEXT w_DATE w_DECIMAL p5)), .unset, .unset, .unset, .unset, .unset] [(.ref b18), (.ref b18)])) _
      refine OGot.go (fun t k => XS.aload X18.here hx rfl (hb hby at_68) rfl rfl k) ?_
      show OGot p.tables e below (T18.setTop (mkF m 70 #[.val (.int p1), .val (.int p2), .val (.int p3), .val (.int p4), .val (.int p5), .val (.int p6), .val (.int ((p1 &&& (2147483647 : Int32)) % (3 : Int32))), .val (.ref b4_7), .val (.ref b4_8), .val (.ref (f6 w_INTEGER w_TEXT w_DATE w_DECIMAL p4)), .val (.ref (f6 w_INTEGER w_TEXT w_DATE w_DECIMAL p5)), .unset, .unset, .unset, .unset, .unset] [(.ref b4_7), (.ref b18), (.ref b18)])) _
      refine OGot.go (fun t k => XS.aload X18.here hx rfl (hb hby at_70) rfl rfl k) ?_
      show OGot p.tables e below (T18.setTop (mkF m 72 #[.val (.int p1), .val (.int p2), .val (.int p3), .val (.int p4), .val (.int p5), .val (.int p6), .val (.int ((p1 &&& (2147483647 : Int32)) % (3 : Int32))), .val (.ref b4_7), .val (.ref b4_8), .val (.ref (f6 w_INTEGER w_TEXT w_DATE w_DECIMAL p4)), .val (.ref (f6 w_INTEGER w_TEXT w_DATE w_DECIMAL p5)), .unset, .unset, .unset, .unset, .unset] [(.ref (f6 w_INTEGER w_TEXT w_DATE w_DECIMAL p4)), (.ref b4_7), (.ref b18), (.ref b18)])) _
      refine OGot.go (fun t k => XS.iload X18.here hx rfl (hb hby at_72) rfl k) ?_
      show OGot p.tables e below (T18.setTop (mkF m 74 #[.val (.int p1), .val (.int p2), .val (.int p3), .val (.int p4), .val (.int p5), .val (.int p6), .val (.int ((p1 &&& (2147483647 : Int32)) % (3 : Int32))), .val (.ref b4_7), .val (.ref b4_8), .val (.ref (f6 w_INTEGER w_TEXT w_DATE w_DECIMAL p4)), .val (.ref (f6 w_INTEGER w_TEXT w_DATE w_DECIMAL p5)), .unset, .unset, .unset, .unset, .unset] [(.int p6), (.ref (f6 w_INTEGER w_TEXT w_DATE w_DECIMAL p4)), (.ref b4_7), (.ref b18), (.ref b18)])) _
      refine OGot.go (fun t k => XS.iconst X18.here hx rfl (hb hby at_74) k) ?_
      show OGot p.tables e below (T18.setTop (mkF m 75 #[.val (.int p1), .val (.int p2), .val (.int p3), .val (.int p4), .val (.int p5), .val (.int p6), .val (.int ((p1 &&& (2147483647 : Int32)) % (3 : Int32))), .val (.ref b4_7), .val (.ref b4_8), .val (.ref (f6 w_INTEGER w_TEXT w_DATE w_DECIMAL p4)), .val (.ref (f6 w_INTEGER w_TEXT w_DATE w_DECIMAL p5)), .unset, .unset, .unset, .unset, .unset] [(.int (1 : Int32)), (.int p6), (.ref (f6 w_INTEGER w_TEXT w_DATE w_DECIMAL p4)), (.ref b4_7), (.ref b18), (.ref b18)])) _
      refine OGot.go (fun t k => XS.iand X18.here hx rfl (hb hby at_75) rfl k) ?_
      show OGot p.tables e below (T18.setTop (mkF m 76 #[.val (.int p1), .val (.int p2), .val (.int p3), .val (.int p4), .val (.int p5), .val (.int p6), .val (.int ((p1 &&& (2147483647 : Int32)) % (3 : Int32))), .val (.ref b4_7), .val (.ref b4_8), .val (.ref (f6 w_INTEGER w_TEXT w_DATE w_DECIMAL p4)), .val (.ref (f6 w_INTEGER w_TEXT w_DATE w_DECIMAL p5)), .unset, .unset, .unset, .unset, .unset] [(.int (p6 &&& (1 : Int32))), (.ref (f6 w_INTEGER w_TEXT w_DATE w_DECIMAL p4)), (.ref b4_7), (.ref b18), (.ref b18)])) _
      refine OGot.go (B := T18.setTop (mkF m 84 #[.val (.int p1), .val (.int p2), .val (.int p3), .val (.int p4), .val (.int p5), .val (.int p6), .val (.int ((p1 &&& (2147483647 : Int32)) % (3 : Int32))), .val (.ref b4_7), .val (.ref b4_8), .val (.ref (f6 w_INTEGER w_TEXT w_DATE w_DECIMAL p4)), .val (.ref (f6 w_INTEGER w_TEXT w_DATE w_DECIMAL p5)), .unset, .unset, .unset, .unset, .unset] [(.int (if (p6 &&& (1 : Int32)) = (0 : Int32) then (0 : Int32) else (1 : Int32))), (.ref (f6 w_INTEGER w_TEXT w_DATE w_DECIMAL p4)), (.ref b4_7), (.ref b18), (.ref b18)])) (fun t k => ?_) ?_
      · by_cases hj19 : (p6 &&& (1 : Int32)) = (0 : Int32)
        · refine XS.ifYes X18.here hx rfl (pc0 := 76) (pc' := 83) rfl (hb hby at_76) rfl ((if0 _ _).trans (teq hj19).1) (by decide) (by decide) ?_
          show Steps p.tables e below (T18.setTop (mkF m 83 #[.val (.int p1), .val (.int p2), .val (.int p3), .val (.int p4), .val (.int p5), .val (.int p6), .val (.int ((p1 &&& (2147483647 : Int32)) % (3 : Int32))), .val (.ref b4_7), .val (.ref b4_8), .val (.ref (f6 w_INTEGER w_TEXT w_DATE w_DECIMAL p4)), .val (.ref (f6 w_INTEGER w_TEXT w_DATE w_DECIMAL p5)), .unset, .unset, .unset, .unset, .unset] [(.ref (f6 w_INTEGER w_TEXT w_DATE w_DECIMAL p4)), (.ref b4_7), (.ref b18), (.ref b18)])) _
          refine XS.iconst X18.here hx rfl (hb hby at_83) ?_
          show Steps p.tables e below (T18.setTop (mkF m 84 #[.val (.int p1), .val (.int p2), .val (.int p3), .val (.int p4), .val (.int p5), .val (.int p6), .val (.int ((p1 &&& (2147483647 : Int32)) % (3 : Int32))), .val (.ref b4_7), .val (.ref b4_8), .val (.ref (f6 w_INTEGER w_TEXT w_DATE w_DECIMAL p4)), .val (.ref (f6 w_INTEGER w_TEXT w_DATE w_DECIMAL p5)), .unset, .unset, .unset, .unset, .unset] [(.int (0 : Int32)), (.ref (f6 w_INTEGER w_TEXT w_DATE w_DECIMAL p4)), (.ref b4_7), (.ref b18), (.ref b18)])) _
          simp only [if_pos hj19] at k
          exact k
        · refine XS.ifNo X18.here hx rfl (hb hby at_76) rfl ((if0 _ _).trans (feq hj19).1) ?_
          show Steps p.tables e below (T18.setTop (mkF m 79 #[.val (.int p1), .val (.int p2), .val (.int p3), .val (.int p4), .val (.int p5), .val (.int p6), .val (.int ((p1 &&& (2147483647 : Int32)) % (3 : Int32))), .val (.ref b4_7), .val (.ref b4_8), .val (.ref (f6 w_INTEGER w_TEXT w_DATE w_DECIMAL p4)), .val (.ref (f6 w_INTEGER w_TEXT w_DATE w_DECIMAL p5)), .unset, .unset, .unset, .unset, .unset] [(.ref (f6 w_INTEGER w_TEXT w_DATE w_DECIMAL p4)), (.ref b4_7), (.ref b18), (.ref b18)])) _
          refine XS.iconst X18.here hx rfl (hb hby at_79) ?_
          show Steps p.tables e below (T18.setTop (mkF m 80 #[.val (.int p1), .val (.int p2), .val (.int p3), .val (.int p4), .val (.int p5), .val (.int p6), .val (.int ((p1 &&& (2147483647 : Int32)) % (3 : Int32))), .val (.ref b4_7), .val (.ref b4_8), .val (.ref (f6 w_INTEGER w_TEXT w_DATE w_DECIMAL p4)), .val (.ref (f6 w_INTEGER w_TEXT w_DATE w_DECIMAL p5)), .unset, .unset, .unset, .unset, .unset] [(.int (1 : Int32)), (.ref (f6 w_INTEGER w_TEXT w_DATE w_DECIMAL p4)), (.ref b4_7), (.ref b18), (.ref b18)])) _
          refine XS.goto X18.here hx rfl (pc0 := 80) (pc' := 84) rfl (hb hby at_80) (by decide) (by decide) ?_
          show Steps p.tables e below (T18.setTop (mkF m 84 #[.val (.int p1), .val (.int p2), .val (.int p3), .val (.int p4), .val (.int p5), .val (.int p6), .val (.int ((p1 &&& (2147483647 : Int32)) % (3 : Int32))), .val (.ref b4_7), .val (.ref b4_8), .val (.ref (f6 w_INTEGER w_TEXT w_DATE w_DECIMAL p4)), .val (.ref (f6 w_INTEGER w_TEXT w_DATE w_DECIMAL p5)), .unset, .unset, .unset, .unset, .unset] [(.int (1 : Int32)), (.ref (f6 w_INTEGER w_TEXT w_DATE w_DECIMAL p4)), (.ref b4_7), (.ref b18), (.ref b18)])) _
          simp only [if_neg hj19] at k
          exact k
      show OGot p.tables e below (T18.setTop (mkF m 84 #[.val (.int p1), .val (.int p2), .val (.int p3), .val (.int p4), .val (.int p5), .val (.int p6), .val (.int ((p1 &&& (2147483647 : Int32)) % (3 : Int32))), .val (.ref b4_7), .val (.ref b4_8), .val (.ref (f6 w_INTEGER w_TEXT w_DATE w_DECIMAL p4)), .val (.ref (f6 w_INTEGER w_TEXT w_DATE w_DECIMAL p5)), .unset, .unset, .unset, .unset, .unset] [(.int (if (p6 &&& (1 : Int32)) = (0 : Int32) then (0 : Int32) else (1 : Int32))), (.ref (f6 w_INTEGER w_TEXT w_DATE w_DECIMAL p4)), (.ref b4_7), (.ref b18), (.ref b18)])) _
      refine OGot.go (fun t k => XS.aconstNull X18.here hx rfl (hb hby at_84) k) ?_
      show OGot p.tables e below (T18.setTop (mkF m 85 #[.val (.int p1), .val (.int p2), .val (.int p3), .val (.int p4), .val (.int p5), .val (.int p6), .val (.int ((p1 &&& (2147483647 : Int32)) % (3 : Int32))), .val (.ref b4_7), .val (.ref b4_8), .val (.ref (f6 w_INTEGER w_TEXT w_DATE w_DECIMAL p4)), .val (.ref (f6 w_INTEGER w_TEXT w_DATE w_DECIMAL p5)), .unset, .unset, .unset, .unset, .unset] [.null, (.int (if (p6 &&& (1 : Int32)) = (0 : Int32) then (0 : Int32) else (1 : Int32))), (.ref (f6 w_INTEGER w_TEXT w_DATE w_DECIMAL p4)), (.ref b4_7), (.ref b18), (.ref b18)])) _
      obtain ⟨_, _, ⟨T20, L20, k20, n20⟩, -, X20, ⟨Lc20, hQ20, l20, y20, z20⟩, st20⟩ := X18.specialBack hx (y := (⟨"com/example/archipel/archipel/model/Attribute", "<init>", "(Ljava/lang/String;Lcom/example/archipel/archipel/model/DataType;ZLjava/lang/String;)V"⟩ : MethodName)) rfl hown (mvT hZ (ow hw 47 rfl)) (mvT hZ (ow hw 48 rfl)) (mvT hZ (ow hw 49 rfl)) (by decide) (backOf (W := 1) (rm9 l Z a0 hw [] G b18 b4_7 (f6 w_INTEGER w_TEXT w_DATE w_DECIMAL p4) (if (p6 &&& (1 : Int32)) = (0 : Int32) then (0 : Int32) else (1 : Int32)) h18 n0 O18 A18 F18_name g_b18 F18_type F18_notNull F18_references) hZ (ow hw 49 rfl) (ow hw 46 rfl) (by decide) (by decide)) (g := (mkF m 85 #[.val (.int p1), .val (.int p2), .val (.int p3), .val (.int p4), .val (.int p5), .val (.int p6), .val (.int ((p1 &&& (2147483647 : Int32)) % (3 : Int32))), .val (.ref b4_7), .val (.ref b4_8), .val (.ref (f6 w_INTEGER w_TEXT w_DATE w_DECIMAL p4)), .val (.ref (f6 w_INTEGER w_TEXT w_DATE w_DECIMAL p5)), .unset, .unset, .unset, .unset, .unset] [.null, (.int (if (p6 &&& (1 : Int32)) = (0 : Int32) then (0 : Int32) else (1 : Int32))), (.ref (f6 w_INTEGER w_TEXT w_DATE w_DECIMAL p4)), (.ref b4_7), (.ref b18), (.ref b18)])) rfl (by rw [hml]; rfl) (Steps.refl _) (a := b18) (argsL := [(.ref b4_7), (.ref (f6 w_INTEGER w_TEXT w_DATE w_DECIMAL p4)), (.int (if (p6 &&& (1 : Int32)) = (0 : Int32) then (0 : Int32) else (1 : Int32))), .null]) (rest := [(.ref b18)]) (lenOf pd_8 rfl) rfl (by show 2 * 0 + _ ≤ _; exact Nat.le_of_eq rfl) (hb hby at_85) (fun _ _ => ⟨rfl, e18, (by decide : 5 + 0 ≤ _), (by decide : 14 + 0 ≤ _)⟩)
      dsimp only [Pt.U, Pt.locs, Pt.cells, Pt.slots] at X20 l20 y20 z20 st20 hQ20
      subst l20 y20 z20
      obtain ⟨N20q, rfl, K20, Fo20_0, Fo20_1, Fo20_2, Fo20_3⟩ := hQ20
      have O20 := OKeep.old O18 K20 (ogeS g_b18 (ogeS g_b18 (ogeS g_b18 (ogeS g_b18 oge0))))
      have N20 := Fr.app N12 N20q
      refine OGot.on st20 ?_
      show OGot p.tables e below (T20.setTop (mkF m 88 #[.val (.int p1), .val (.int p2), .val (.int p3), .val (.int p4), .val (.int p5), .val (.int p6), .val (.int ((p1 &&& (2147483647 : Int32)) % (3 : Int32))), .val (.ref b4_7), .val (.ref b4_8), .val (.ref (f6 w_INTEGER w_TEXT w_DATE w_DECIMAL p4)), .val (.ref (f6 w_INTEGER w_TEXT w_DATE w_DECIMAL p5)), .unset, .unset, .unset, .unset, .unset] [(.ref b18)])) _
      refine OGot.go (fun t k => XS.astore X20.here hx rfl (hb hby at_88) rfl rfl (l' := #[.val (.int p1), .val (.int p2), .val (.int p3), .val (.int p4), .val (.int p5), .val (.int p6), .val (.int ((p1 &&& (2147483647 : Int32)) % (3 : Int32))), .val (.ref b4_7), .val (.ref b4_8), .val (.ref (f6 w_INTEGER w_TEXT w_DATE w_DECIMAL p4)), .val (.ref (f6 w_INTEGER w_TEXT w_DATE w_DECIMAL p5)), .val (.ref b18), .unset, .unset, .unset, .unset]) rfl k) ?_
      show OGot p.tables e below (T20.setTop (mkF m 90 #[.val (.int p1), .val (.int p2), .val (.int p3), .val (.int p4), .val (.int p5), .val (.int p6), .val (.int ((p1 &&& (2147483647 : Int32)) % (3 : Int32))), .val (.ref b4_7), .val (.ref b4_8), .val (.ref (f6 w_INTEGER w_TEXT w_DATE w_DECIMAL p4)), .val (.ref (f6 w_INTEGER w_TEXT w_DATE w_DECIMAL p5)), .val (.ref b18), .unset, .unset, .unset, .unset] [])) _
      obtain ⟨T21, h21, X21, e21, E21, A21, D21, -, st21⟩ := newO X20 hx hZ hown (ow hw 44 rfl) (ow hw 45 rfl) (ow hw 46 rfl) rfl (g := (mkF m 90 #[.val (.int p1), .val (.int p2), .val (.int p3), .val (.int p4), .val (.int p5), .val (.int p6), .val (.int ((p1 &&& (2147483647 : Int32)) % (3 : Int32))), .val (.ref b4_7), .val (.ref b4_8), .val (.ref (f6 w_INTEGER w_TEXT w_DATE w_DECIMAL p4)), .val (.ref (f6 w_INTEGER w_TEXT w_DATE w_DECIMAL p5)), .val (.ref b18), .unset, .unset, .unset, .unset] [])) rfl (hb hby at_90) (by decide) (by decide)
      obtain ⟨b21, g21⟩ : ∃ z, z = T20.heap.size := ⟨_, rfl⟩
      rw [← g21] at A21 D21 st21
      refine OGot.go st21 ?_
      have g_b21 : n0 ≤ b21 := Nat.le_trans (osz O20) (Nat.le_of_eq g21.symm)
      have sy_b21 : T20.heap.size ≤ b21 := Nat.le_of_eq g21.symm
      have O21 := O20.ext E21
      have F21_name : Fld Z h21 b21 "com/example/archipel/archipel/model/Attribute" "name" "Ljava/lang/String;" .null := D21 (Or.inr (ow hw 57 rfl)) (ty := (.object "java/lang/String")) (by decide)
      have F21_type : Fld Z h21 b21 "com/example/archipel/archipel/model/Attribute" "type" "Lcom/example/archipel/archipel/model/DataType;" .null := D21 (Or.inr (ow hw 59 rfl)) (ty := (.object "com/example/archipel/archipel/model/DataType")) (by decide)
      have F21_notNull : Fld Z h21 b21 "com/example/archipel/archipel/model/Attribute" "notNull" "Z" (.int (0 : Int32)) := D21 (Or.inr (ow hw 61 rfl)) (ty := .boolean) (by decide)
      have F21_references : Fld Z h21 b21 "com/example/archipel/archipel/model/Attribute" "references" "Ljava/lang/String;" .null := D21 (Or.inr (ow hw 63 rfl)) (ty := (.object "java/lang/String")) (by decide)
      show OGot p.tables e below (T21.setTop (mkF m 93 #[.val (.int p1), .val (.int p2), .val (.int p3), .val (.int p4), .val (.int p5), .val (.int p6), .val (.int ((p1 &&& (2147483647 : Int32)) % (3 : Int32))), .val (.ref b4_7), .val (.ref b4_8), .val (.ref (f6 w_INTEGER w_TEXT w_DATE w_DECIMAL p4)), .val (.ref (f6 w_INTEGER w_TEXT w_DATE w_DECIMAL p5)), .val (.ref b18), .unset, .unset, .unset, .unset] [(.ref b21)])) _
      refine OGot.go (fun t k => XS.dup X21.here hx rfl (hb hby at_93) rfl rfl k) ?_
      show OGot p.tables e below (T21.setTop (mkF m 94 #[.val (.int p1), .val (.int p2), .val (.int p3), .val (.int p4), .val (.int p5), .val (.int p6), .val (.int ((p1 &&& (2147483647 : Int32)) % (3 : Int32))), .val (.ref b4_7), .val (.ref b4_8), .val (.ref (f6 w_INTEGER w_TEXT w_DATE w_DECIMAL p4)), .val (.ref (f6 w_INTEGER w_TEXT w_DATE w_DECIMAL p5)), .val (.ref b18), .unset, .unset, .unset, .unset] [(.ref b21), (.ref b21)])) _
      refine OGot.go (fun t k => XS.aload X21.here hx rfl (hb hby at_94) rfl rfl k) ?_
      show OGot p.tables e below (T21.setTop (mkF m 96 #[.val (.int p1), .val (.int p2), .val (.int p3), .val (.int p4), .val (.int p5), .val (.int p6), .val (.int ((p1 &&& (2147483647 : Int32)) % (3 : Int32))), .val (.ref b4_7), .val (.ref b4_8), .val (.ref (f6 w_INTEGER w_TEXT w_DATE w_DECIMAL p4)), .val (.ref (f6 w_INTEGER w_TEXT w_DATE w_DECIMAL p5)), .val (.ref b18), .unset, .unset, .unset, .unset] [(.ref b4_8), (.ref b21), (.ref b21)])) _
      refine OGot.go (fun t k => XS.aload X21.here hx rfl (hb hby at_96) rfl rfl k) ?_
      show OGot p.tables e below (T21.setTop (mkF m 98 #[.val (.int p1), .val (.int p2), .val (.int p3), .val (.int p4), .val (.int p5), .val (.int p6), .val (.int ((p1 &&& (2147483647 : Int32)) % (3 : Int32))), .val (.ref b4_7), .val (.ref b4_8), .val (.ref (f6 w_INTEGER w_TEXT w_DATE w_DECIMAL p4)), .val (.ref (f6 w_INTEGER w_TEXT w_DATE w_DECIMAL p5)), .val (.ref b18), .unset, .unset, .unset, .unset] [(.ref (f6 w_INTEGER w_TEXT w_DATE w_DECIMAL p5)), (.ref b4_8), (.ref b21), (.ref b21)])) _
      refine OGot.go (fun t k => XS.iload X21.here hx rfl (hb hby at_98) rfl k) ?_
      show OGot p.tables e below (T21.setTop (mkF m 100 #[.val (.int p1), .val (.int p2), .val (.int p3), .val (.int p4), .val (.int p5), .val (.int p6), .val (.int ((p1 &&& (2147483647 : Int32)) % (3 : Int32))), .val (.ref b4_7), .val (.ref b4_8), .val (.ref (f6 w_INTEGER w_TEXT w_DATE w_DECIMAL p4)), .val (.ref (f6 w_INTEGER w_TEXT w_DATE w_DECIMAL p5)), .val (.ref b18), .unset, .unset, .unset, .unset] [(.int p6), (.ref (f6 w_INTEGER w_TEXT w_DATE w_DECIMAL p5)), (.ref b4_8), (.ref b21), (.ref b21)])) _
      refine OGot.go (fun t k => XS.iconst X21.here hx rfl (hb hby at_100) k) ?_
      show OGot p.tables e below (T21.setTop (mkF m 101 #[.val (.int p1), .val (.int p2), .val (.int p3), .val (.int p4), .val (.int p5), .val (.int p6), .val (.int ((p1 &&& (2147483647 : Int32)) % (3 : Int32))), .val (.ref b4_7), .val (.ref b4_8), .val (.ref (f6 w_INTEGER w_TEXT w_DATE w_DECIMAL p4)), .val (.ref (f6 w_INTEGER w_TEXT w_DATE w_DECIMAL p5)), .val (.ref b18), .unset, .unset, .unset, .unset] [(.int (2 : Int32)), (.int p6), (.ref (f6 w_INTEGER w_TEXT w_DATE w_DECIMAL p5)), (.ref b4_8), (.ref b21), (.ref b21)])) _
      refine OGot.go (fun t k => XS.iand X21.here hx rfl (hb hby at_101) rfl k) ?_
      show OGot p.tables e below (T21.setTop (mkF m 102 #[.val (.int p1), .val (.int p2), .val (.int p3), .val (.int p4), .val (.int p5), .val (.int p6), .val (.int ((p1 &&& (2147483647 : Int32)) % (3 : Int32))), .val (.ref b4_7), .val (.ref b4_8), .val (.ref (f6 w_INTEGER w_TEXT w_DATE w_DECIMAL p4)), .val (.ref (f6 w_INTEGER w_TEXT w_DATE w_DECIMAL p5)), .val (.ref b18), .unset, .unset, .unset, .unset] [(.int (p6 &&& (2 : Int32))), (.ref (f6 w_INTEGER w_TEXT w_DATE w_DECIMAL p5)), (.ref b4_8), (.ref b21), (.ref b21)])) _
      refine OGot.go (B := T21.setTop (mkF m 110 #[.val (.int p1), .val (.int p2), .val (.int p3), .val (.int p4), .val (.int p5), .val (.int p6), .val (.int ((p1 &&& (2147483647 : Int32)) % (3 : Int32))), .val (.ref b4_7), .val (.ref b4_8), .val (.ref (f6 w_INTEGER w_TEXT w_DATE w_DECIMAL p4)), .val (.ref (f6 w_INTEGER w_TEXT w_DATE w_DECIMAL p5)), .val (.ref b18), .unset, .unset, .unset, .unset] [(.int (if (p6 &&& (2 : Int32)) = (0 : Int32) then (0 : Int32) else (1 : Int32))), (.ref (f6 w_INTEGER w_TEXT w_DATE w_DECIMAL p5)), (.ref b4_8), (.ref b21), (.ref b21)])) (fun t k => ?_) ?_
      · by_cases hj22 : (p6 &&& (2 : Int32)) = (0 : Int32)
        · refine XS.ifYes X21.here hx rfl (pc0 := 102) (pc' := 109) rfl (hb hby at_102) rfl ((if0 _ _).trans (teq hj22).1) (by decide) (by decide) ?_
          show Steps p.tables e below (T21.setTop (mkF m 109 #[.val (.int p1), .val (.int p2), .val (.int p3), .val (.int p4), .val (.int p5), .val (.int p6), .val (.int ((p1 &&& (2147483647 : Int32)) % (3 : Int32))), .val (.ref b4_7), .val (.ref b4_8), .val (.ref (f6 w_INTEGER w_TEXT w_DATE w_DECIMAL p4)), .val (.ref (f6 w_INTEGER w_TEXT w_DATE w_DECIMAL p5)), .val (.ref b18), .unset, .unset, .unset, .unset] [(.ref (f6 w_INTEGER w_TEXT w_DATE w_DECIMAL p5)), (.ref b4_8), (.ref b21), (.ref b21)])) _
          refine XS.iconst X21.here hx rfl (hb hby at_109) ?_
          show Steps p.tables e below (T21.setTop (mkF m 110 #[.val (.int p1), .val (.int p2), .val (.int p3), .val (.int p4), .val (.int p5), .val (.int p6), .val (.int ((p1 &&& (2147483647 : Int32)) % (3 : Int32))), .val (.ref b4_7), .val (.ref b4_8), .val (.ref (f6 w_INTEGER w_TEXT w_DATE w_DECIMAL p4)), .val (.ref (f6 w_INTEGER w_TEXT w_DATE w_DECIMAL p5)), .val (.ref b18), .unset, .unset, .unset, .unset] [(.int (0 : Int32)), (.ref (f6 w_INTEGER w_TEXT w_DATE w_DECIMAL p5)), (.ref b4_8), (.ref b21), (.ref b21)])) _
          simp only [if_pos hj22] at k
          exact k
        · refine XS.ifNo X21.here hx rfl (hb hby at_102) rfl ((if0 _ _).trans (feq hj22).1) ?_
          show Steps p.tables e below (T21.setTop (mkF m 105 #[.val (.int p1), .val (.int p2), .val (.int p3), .val (.int p4), .val (.int p5), .val (.int p6), .val (.int ((p1 &&& (2147483647 : Int32)) % (3 : Int32))), .val (.ref b4_7), .val (.ref b4_8), .val (.ref (f6 w_INTEGER w_TEXT w_DATE w_DECIMAL p4)), .val (.ref (f6 w_INTEGER w_TEXT w_DATE w_DECIMAL p5)), .val (.ref b18), .unset, .unset, .unset, .unset] [(.ref (f6 w_INTEGER w_TEXT w_DATE w_DECIMAL p5)), (.ref b4_8), (.ref b21), (.ref b21)])) _
          refine XS.iconst X21.here hx rfl (hb hby at_105) ?_
          show Steps p.tables e below (T21.setTop (mkF m 106 #[.val (.int p1), .val (.int p2), .val (.int p3), .val (.int p4), .val (.int p5), .val (.int p6), .val (.int ((p1 &&& (2147483647 : Int32)) % (3 : Int32))), .val (.ref b4_7), .val (.ref b4_8), .val (.ref (f6 w_INTEGER w_TEXT w_DATE w_DECIMAL p4)), .val (.ref (f6 w_INTEGER w_TEXT w_DATE w_DECIMAL p5)), .val (.ref b18), .unset, .unset, .unset, .unset] [(.int (1 : Int32)), (.ref (f6 w_INTEGER w_TEXT w_DATE w_DECIMAL p5)), (.ref b4_8), (.ref b21), (.ref b21)])) _
          refine XS.goto X21.here hx rfl (pc0 := 106) (pc' := 110) rfl (hb hby at_106) (by decide) (by decide) ?_
          show Steps p.tables e below (T21.setTop (mkF m 110 #[.val (.int p1), .val (.int p2), .val (.int p3), .val (.int p4), .val (.int p5), .val (.int p6), .val (.int ((p1 &&& (2147483647 : Int32)) % (3 : Int32))), .val (.ref b4_7), .val (.ref b4_8), .val (.ref (f6 w_INTEGER w_TEXT w_DATE w_DECIMAL p4)), .val (.ref (f6 w_INTEGER w_TEXT w_DATE w_DECIMAL p5)), .val (.ref b18), .unset, .unset, .unset, .unset] [(.int (1 : Int32)), (.ref (f6 w_INTEGER w_TEXT w_DATE w_DECIMAL p5)), (.ref b4_8), (.ref b21), (.ref b21)])) _
          simp only [if_neg hj22] at k
          exact k
      show OGot p.tables e below (T21.setTop (mkF m 110 #[.val (.int p1), .val (.int p2), .val (.int p3), .val (.int p4), .val (.int p5), .val (.int p6), .val (.int ((p1 &&& (2147483647 : Int32)) % (3 : Int32))), .val (.ref b4_7), .val (.ref b4_8), .val (.ref (f6 w_INTEGER w_TEXT w_DATE w_DECIMAL p4)), .val (.ref (f6 w_INTEGER w_TEXT w_DATE w_DECIMAL p5)), .val (.ref b18), .unset, .unset, .unset, .unset] [(.int (if (p6 &&& (2 : Int32)) = (0 : Int32) then (0 : Int32) else (1 : Int32))), (.ref (f6 w_INTEGER w_TEXT w_DATE w_DECIMAL p5)), (.ref b4_8), (.ref b21), (.ref b21)])) _
      refine OGot.go (fun t k => XS.aconstNull X21.here hx rfl (hb hby at_110) k) ?_
      show OGot p.tables e below (T21.setTop (mkF m 111 #[.val (.int p1), .val (.int p2), .val (.int p3), .val (.int p4), .val (.int p5), .val (.int p6), .val (.int ((p1 &&& (2147483647 : Int32)) % (3 : Int32))), .val (.ref b4_7), .val (.ref b4_8), .val (.ref (f6 w_INTEGER w_TEXT w_DATE w_DECIMAL p4)), .val (.ref (f6 w_INTEGER w_TEXT w_DATE w_DECIMAL p5)), .val (.ref b18), .unset, .unset, .unset, .unset] [.null, (.int (if (p6 &&& (2 : Int32)) = (0 : Int32) then (0 : Int32) else (1 : Int32))), (.ref (f6 w_INTEGER w_TEXT w_DATE w_DECIMAL p5)), (.ref b4_8), (.ref b21), (.ref b21)])) _
      obtain ⟨_, _, ⟨T23, L23, k23, n23⟩, -, X23, ⟨Lc23, hQ23, l23, y23, z23⟩, st23⟩ := X21.specialBack hx (y := (⟨"com/example/archipel/archipel/model/Attribute", "<init>", "(Ljava/lang/String;Lcom/example/archipel/archipel/model/DataType;ZLjava/lang/String;)V"⟩ : MethodName)) rfl hown (mvT hZ (ow hw 47 rfl)) (mvT hZ (ow hw 48 rfl)) (mvT hZ (ow hw 49 rfl)) (by decide) (backOf (W := 1) (rm9 l Z a0 hw [] G b21 b4_8 (f6 w_INTEGER w_TEXT w_DATE w_DECIMAL p5) (if (p6 &&& (2 : Int32)) = (0 : Int32) then (0 : Int32) else (1 : Int32)) h21 n0 O21 A21 F21_name g_b21 F21_type F21_notNull F21_references) hZ (ow hw 49 rfl) (ow hw 46 rfl) (by decide) (by decide)) (g := (mkF m 111 #[.val (.int p1), .val (.int p2), .val (.int p3), .val (.int p4), .val (.int p5), .val (.int p6), .val (.int ((p1 &&& (2147483647 : Int32)) % (3 : Int32))), .val (.ref b4_7), .val (.ref b4_8), .val (.ref (f6 w_INTEGER w_TEXT w_DATE w_DECIMAL p4)), .val (.ref (f6 w_INTEGER w_TEXT w_DATE w_DECIMAL p5)), .val (.ref b18), .unset, .unset, .unset, .unset] [.null, (.int (if (p6 &&& (2 : Int32)) = (0 : Int32) then (0 : Int32) else (1 : Int32))), (.ref (f6 w_INTEGER w_TEXT w_DATE w_DECIMAL p5)), (.ref b4_8), (.ref b21), (.ref b21)])) rfl (by rw [hml]; rfl) (Steps.refl _) (a := b21) (argsL := [(.ref b4_8), (.ref (f6 w_INTEGER w_TEXT w_DATE w_DECIMAL p5)), (.int (if (p6 &&& (2 : Int32)) = (0 : Int32) then (0 : Int32) else (1 : Int32))), .null]) (rest := [(.ref b21)]) (lenOf pd_8 rfl) rfl (by show 2 * 0 + _ ≤ _; exact Nat.le_of_eq rfl) (hb hby at_111) (fun _ _ => ⟨rfl, e21, (by decide : 6 + 0 ≤ _), (by decide : 18 + 0 ≤ _)⟩)
      dsimp only [Pt.U, Pt.locs, Pt.cells, Pt.slots] at X23 l23 y23 z23 st23 hQ23
      subst l23 y23 z23
      obtain ⟨N23q, rfl, K23, Fo23_0, Fo23_1, Fo23_2, Fo23_3⟩ := hQ23
      have O23 := OKeep.old O21 K23 (ogeS g_b21 (ogeS g_b21 (ogeS g_b21 (ogeS g_b21 oge0))))
      have N23 := Fr.app N20 N23q
      refine OGot.on st23 ?_
      show OGot p.tables e below (T23.setTop (mkF m 114 #[.val (.int p1), .val (.int p2), .val (.int p3), .val (.int p4), .val (.int p5), .val (.int p6), .val (.int ((p1 &&& (2147483647 : Int32)) % (3 : Int32))), .val (.ref b4_7), .val (.ref b4_8), .val (.ref (f6 w_INTEGER w_TEXT w_DATE w_DECIMAL p4)), .val (.ref (f6 w_INTEGER w_TEXT w_DATE w_DECIMAL p5)), .val (.ref b18), .unset, .unset, .unset, .unset] [(.ref b21)])) _
      refine OGot.go (fun t k => XS.astore X23.here hx rfl (hb hby at_114) rfl rfl (l' := #[.val (.int p1), .val (.int p2), .val (.int p3), .val (.int p4), .val (.int p5), .val (.int p6), .val (.int ((p1 &&& (2147483647 : Int32)) % (3 : Int32))), .val (.ref b4_7), .val (.ref b4_8), .val (.ref (f6 w_INTEGER w_TEXT w_DATE w_DECIMAL p4)), .val (.ref (f6 w_INTEGER w_TEXT w_DATE w_DECIMAL p5)), .val (.ref b18), .val (.ref b21), .unset, .unset, .unset]) rfl k) ?_
      show OGot p.tables e below (T23.setTop (mkF m 116 #[.val (.int p1), .val (.int p2), .val (.int p3), .val (.int p4), .val (.int p5), .val (.int p6), .val (.int ((p1 &&& (2147483647 : Int32)) % (3 : Int32))), .val (.ref b4_7), .val (.ref b4_8), .val (.ref (f6 w_INTEGER w_TEXT w_DATE w_DECIMAL p4)), .val (.ref (f6 w_INTEGER w_TEXT w_DATE w_DECIMAL p5)), .val (.ref b18), .val (.ref b21), .unset, .unset, .unset] [])) _
      refine OGot.go (fun t k => XS.iload X23.here hx rfl (hb hby at_116) rfl k) ?_
      show OGot p.tables e below (T23.setTop (mkF m 118 #[.val (.int p1), .val (.int p2), .val (.int p3), .val (.int p4), .val (.int p5), .val (.int p6), .val (.int ((p1 &&& (2147483647 : Int32)) % (3 : Int32))), .val (.ref b4_7), .val (.ref b4_8), .val (.ref (f6 w_INTEGER w_TEXT w_DATE w_DECIMAL p4)), .val (.ref (f6 w_INTEGER w_TEXT w_DATE w_DECIMAL p5)), .val (.ref b18), .val (.ref b21), .unset, .unset, .unset] [(.int ((p1 &&& (2147483647 : Int32)) % (3 : Int32)))])) _
      rcases own_rem3 p1 with hk24 | hk25 | hk26
      · rw [hk24]
        show OGot p.tables e below (T23.setTop (mkF m 118 #[.val (.int p1), .val (.int p2), .val (.int p3), .val (.int p4), .val (.int p5), .val (.int p6), .val (.int (0 : Int32)), .val (.ref b4_7), .val (.ref b4_8), .val (.ref (f6 w_INTEGER w_TEXT w_DATE w_DECIMAL p4)), .val (.ref (f6 w_INTEGER w_TEXT w_DATE w_DECIMAL p5)), .val (.ref b18), .val (.ref b21), .unset, .unset, .unset] [(.int (0 : Int32))])) _
        refine OGot.go (fun t k => XS.ifNo X23.here hx rfl (hb hby at_118) rfl (by decide) k) ?_
        show OGot p.tables e below (T23.setTop (mkF m 121 #[.val (.int p1), .val (.int p2), .val (.int p3), .val (.int p4), .val (.int p5), .val (.int p6), .val (.int (0 : Int32)), .val (.ref b4_7), .val (.ref b4_8), .val (.ref (f6 w_INTEGER w_TEXT w_DATE w_DECIMAL p4)), .val (.ref (f6 w_INTEGER w_TEXT w_DATE w_DECIMAL p5)), .val (.ref b18), .val (.ref b21), .unset, .unset, .unset] [])) _
        refine OGot.go (fun t k => XS.aconstNull X23.here hx rfl (hb hby at_121) k) ?_
        show OGot p.tables e below (T23.setTop (mkF m 122 #[.val (.int p1), .val (.int p2), .val (.int p3), .val (.int p4), .val (.int p5), .val (.int p6), .val (.int (0 : Int32)), .val (.ref b4_7), .val (.ref b4_8), .val (.ref (f6 w_INTEGER w_TEXT w_DATE w_DECIMAL p4)), .val (.ref (f6 w_INTEGER w_TEXT w_DATE w_DECIMAL p5)), .val (.ref b18), .val (.ref b21), .unset, .unset, .unset] [.null])) _
        refine OGot.go (fun t k => XS.goto X23.here hx rfl (pc0 := 122) (pc' := 127) rfl (hb hby at_122) (by decide) (by decide) k) ?_
        show OGot p.tables e below (T23.setTop (mkF m 127 #[.val (.int p1), .val (.int p2), .val (.int p3), .val (.int p4), .val (.int p5), .val (.int p6), .val (.int (0 : Int32)), .val (.ref b4_7), .val (.ref b4_8), .val (.ref (f6 w_INTEGER w_TEXT w_DATE w_DECIMAL p4)), .val (.ref (f6 w_INTEGER w_TEXT w_DATE w_DECIMAL p5)), .val (.ref b18), .val (.ref b21), .unset, .unset, .unset] [.null])) _
        refine OGot.go (fun t k => XS.astore X23.here hx rfl (hb hby at_127) rfl rfl (l' := #[.val (.int p1), .val (.int p2), .val (.int p3), .val (.int p4), .val (.int p5), .val (.int p6), .val (.int (0 : Int32)), .val (.ref b4_7), .val (.ref b4_8), .val (.ref (f6 w_INTEGER w_TEXT w_DATE w_DECIMAL p4)), .val (.ref (f6 w_INTEGER w_TEXT w_DATE w_DECIMAL p5)), .val (.ref b18), .val (.ref b21), .val .null, .unset, .unset]) rfl k) ?_
        show OGot p.tables e below (T23.setTop (mkF m 129 #[.val (.int p1), .val (.int p2), .val (.int p3), .val (.int p4), .val (.int p5), .val (.int p6), .val (.int (0 : Int32)), .val (.ref b4_7), .val (.ref b4_8), .val (.ref (f6 w_INTEGER w_TEXT w_DATE w_DECIMAL p4)), .val (.ref (f6 w_INTEGER w_TEXT w_DATE w_DECIMAL p5)), .val (.ref b18), .val (.ref b21), .val .null, .unset, .unset] [])) _
        refine OGot.go (fun t k => XS.iload X23.here hx rfl (hb hby at_129) rfl k) ?_
        show OGot p.tables e below (T23.setTop (mkF m 131 #[.val (.int p1), .val (.int p2), .val (.int p3), .val (.int p4), .val (.int p5), .val (.int p6), .val (.int (0 : Int32)), .val (.ref b4_7), .val (.ref b4_8), .val (.ref (f6 w_INTEGER w_TEXT w_DATE w_DECIMAL p4)), .val (.ref (f6 w_INTEGER w_TEXT w_DATE w_DECIMAL p5)), .val (.ref b18), .val (.ref b21), .val .null, .unset, .unset] [(.int (0 : Int32))])) _
        refine OGot.go (fun t k => XS.iconst X23.here hx rfl (hb hby at_131) k) ?_
        show OGot p.tables e below (T23.setTop (mkF m 132 #[.val (.int p1), .val (.int p2), .val (.int p3), .val (.int p4), .val (.int p5), .val (.int p6), .val (.int (0 : Int32)), .val (.ref b4_7), .val (.ref b4_8), .val (.ref (f6 w_INTEGER w_TEXT w_DATE w_DECIMAL p4)), .val (.ref (f6 w_INTEGER w_TEXT w_DATE w_DECIMAL p5)), .val (.ref b18), .val (.ref b21), .val .null, .unset, .unset] [(.int (1 : Int32)), (.int (0 : Int32))])) _
        refine OGot.go (fun t k => XS.icmpYes X23.here hx rfl (pc0 := 132) (pc' := 139) rfl (hb hby at_132) rfl (by decide) (by decide) (by decide) k) ?_
        show OGot p.tables e below (T23.setTop (mkF m 139 #[.val (.int p1), .val (.int p2), .val (.int p3), .val (.int p4), .val (.int p5), .val (.int p6), .val (.int (0 : Int32)), .val (.ref b4_7), .val (.ref b4_8), .val (.ref (f6 w_INTEGER w_TEXT w_DATE w_DECIMAL p4)), .val (.ref (f6 w_INTEGER w_TEXT w_DATE w_DECIMAL p5)), .val (.ref b18), .val (.ref b21), .val .null, .unset, .unset] [])) _
        refine OGot.go (fun t k => XS.aload X23.here hx rfl (hb hby at_139) rfl rfl k) ?_
        show OGot p.tables e below (T23.setTop (mkF m 141 #[.val (.int p1), .val (.int p2), .val (.int p3), .val (.int p4), .val (.int p5), .val (.int p6), .val (.int (0 : Int32)), .val (.ref b4_7), .val (.ref b4_8), .val (.ref (f6 w_INTEGER w_TEXT w_DATE w_DECIMAL p4)), .val (.ref (f6 w_INTEGER w_TEXT w_DATE w_DECIMAL p5)), .val (.ref b18), .val (.ref b21), .val .null, .unset, .unset] [(.ref b21)])) _
        refine OGot.go (fun t k => XS.astore X23.here hx rfl (hb hby at_141) rfl rfl (l' := #[.val (.int p1), .val (.int p2), .val (.int p3), .val (.int p4), .val (.int p5), .val (.int p6), .val (.int (0 : Int32)), .val (.ref b4_7), .val (.ref b4_8), .val (.ref (f6 w_INTEGER w_TEXT w_DATE w_DECIMAL p4)), .val (.ref (f6 w_INTEGER w_TEXT w_DATE w_DECIMAL p5)), .val (.ref b18), .val (.ref b21), .val .null, .val (.ref b21), .unset]) rfl k) ?_
        show OGot p.tables e below (T23.setTop (mkF m 143 #[.val (.int p1), .val (.int p2), .val (.int p3), .val (.int p4), .val (.int p5), .val (.int p6), .val (.int (0 : Int32)), .val (.ref b4_7), .val (.ref b4_8), .val (.ref (f6 w_INTEGER w_TEXT w_DATE w_DECIMAL p4)), .val (.ref (f6 w_INTEGER w_TEXT w_DATE w_DECIMAL p5)), .val (.ref b18), .val (.ref b21), .val .null, .val (.ref b21), .unset] [])) _
        obtain ⟨T27, h27, X27, e27, E27, A27, D27, -, st27⟩ := newO X23 hx hZ hown (ow hw 64 rfl) (ow hw 65 rfl) (ow hw 66 rfl) rfl (g := (mkF m 143 #[.val (.int p1), .val (.int p2), .val (.int p3), .val (.int p4), .val (.int p5), .val (.int p6), .val (.int (0 : Int32)), .val (.ref b4_7), .val (.ref b4_8), .val (.ref (f6 w_INTEGER w_TEXT w_DATE w_DECIMAL p4)), .val (.ref (f6 w_INTEGER w_TEXT w_DATE w_DECIMAL p5)), .val (.ref b18), .val (.ref b21), .val .null, .val (.ref b21), .unset] [])) rfl (hb hby at_143) (by decide) (by decide)
        obtain ⟨b27, g27⟩ : ∃ z, z = T23.heap.size := ⟨_, rfl⟩
        rw [← g27] at A27 D27 st27
        refine OGot.go st27 ?_
        have g_b27 : n0 ≤ b27 := Nat.le_trans (osz O23) (Nat.le_of_eq g27.symm)
        have sy_b27 : T23.heap.size ≤ b27 := Nat.le_of_eq g27.symm
        have O27 := O23.ext E27
        have F27_before : Fld Z h27 b27 "com/example/archipel/archipel/model/AttributeChange" "before" "Lcom/example/archipel/archipel/model/Entity;" .null := D27 (Or.inr (ow hw 72 rfl)) (ty := (.object "com/example/archipel/archipel/model/Entity")) (by decide)
        have F27_after : Fld Z h27 b27 "com/example/archipel/archipel/model/AttributeChange" "after" "Lcom/example/archipel/archipel/model/Entity;" .null := D27 (Or.inr (ow hw 74 rfl)) (ty := (.object "com/example/archipel/archipel/model/Entity")) (by decide)
        have F27_was : Fld Z h27 b27 "com/example/archipel/archipel/model/AttributeChange" "was" "Lcom/example/archipel/archipel/model/Attribute;" .null := D27 (Or.inr (ow hw 76 rfl)) (ty := (.object "com/example/archipel/archipel/model/Attribute")) (by decide)
        have F27_becomes : Fld Z h27 b27 "com/example/archipel/archipel/model/AttributeChange" "becomes" "Lcom/example/archipel/archipel/model/Attribute;" .null := D27 (Or.inr (ow hw 78 rfl)) (ty := (.object "com/example/archipel/archipel/model/Attribute")) (by decide)
        show OGot p.tables e below (T27.setTop (mkF m 146 #[.val (.int p1), .val (.int p2), .val (.int p3), .val (.int p4), .val (.int p5), .val (.int p6), .val (.int (0 : Int32)), .val (.ref b4_7), .val (.ref b4_8), .val (.ref (f6 w_INTEGER w_TEXT w_DATE w_DECIMAL p4)), .val (.ref (f6 w_INTEGER w_TEXT w_DATE w_DECIMAL p5)), .val (.ref b18), .val (.ref b21), .val .null, .val (.ref b21), .unset] [(.ref b27)])) _
        refine OGot.go (fun t k => XS.dup X27.here hx rfl (hb hby at_146) rfl rfl k) ?_
        show OGot p.tables e below (T27.setTop (mkF m 147 #[.val (.int p1), .val (.int p2), .val (.int p3), .val (.int p4), .val (.int p5), .val (.int p6), .val (.int (0 : Int32)), .val (.ref b4_7), .val (.ref b4_8), .val (.ref (f6 w_INTEGER w_TEXT w_DATE w_DECIMAL p4)), .val (.ref (f6 w_INTEGER w_TEXT w_DATE w_DECIMAL p5)), .val (.ref b18), .val (.ref b21), .val .null, .val (.ref b21), .unset] [(.ref b27), (.ref b27)])) _
        refine OGot.go (fun t k => XS.aconstNull X27.here hx rfl (hb hby at_147) k) ?_
        show OGot p.tables e below (T27.setTop (mkF m 148 #[.val (.int p1), .val (.int p2), .val (.int p3), .val (.int p4), .val (.int p5), .val (.int p6), .val (.int (0 : Int32)), .val (.ref b4_7), .val (.ref b4_8), .val (.ref (f6 w_INTEGER w_TEXT w_DATE w_DECIMAL p4)), .val (.ref (f6 w_INTEGER w_TEXT w_DATE w_DECIMAL p5)), .val (.ref b18), .val (.ref b21), .val .null, .val (.ref b21), .unset] [.null, (.ref b27), (.ref b27)])) _
        refine OGot.go (fun t k => XS.aconstNull X27.here hx rfl (hb hby at_148) k) ?_
        show OGot p.tables e below (T27.setTop (mkF m 149 #[.val (.int p1), .val (.int p2), .val (.int p3), .val (.int p4), .val (.int p5), .val (.int p6), .val (.int (0 : Int32)), .val (.ref b4_7), .val (.ref b4_8), .val (.ref (f6 w_INTEGER w_TEXT w_DATE w_DECIMAL p4)), .val (.ref (f6 w_INTEGER w_TEXT w_DATE w_DECIMAL p5)), .val (.ref b18), .val (.ref b21), .val .null, .val (.ref b21), .unset] [.null, .null, (.ref b27), (.ref b27)])) _
        refine OGot.go (fun t k => XS.aload X27.here hx rfl (hb hby at_149) rfl rfl k) ?_
        show OGot p.tables e below (T27.setTop (mkF m 151 #[.val (.int p1), .val (.int p2), .val (.int p3), .val (.int p4), .val (.int p5), .val (.int p6), .val (.int (0 : Int32)), .val (.ref b4_7), .val (.ref b4_8), .val (.ref (f6 w_INTEGER w_TEXT w_DATE w_DECIMAL p4)), .val (.ref (f6 w_INTEGER w_TEXT w_DATE w_DECIMAL p5)), .val (.ref b18), .val (.ref b21), .val .null, .val (.ref b21), .unset] [.null, .null, .null, (.ref b27), (.ref b27)])) _
        refine OGot.go (fun t k => XS.aload X27.here hx rfl (hb hby at_151) rfl rfl k) ?_
        show OGot p.tables e below (T27.setTop (mkF m 153 #[.val (.int p1), .val (.int p2), .val (.int p3), .val (.int p4), .val (.int p5), .val (.int p6), .val (.int (0 : Int32)), .val (.ref b4_7), .val (.ref b4_8), .val (.ref (f6 w_INTEGER w_TEXT w_DATE w_DECIMAL p4)), .val (.ref (f6 w_INTEGER w_TEXT w_DATE w_DECIMAL p5)), .val (.ref b18), .val (.ref b21), .val .null, .val (.ref b21), .unset] [(.ref b21), .null, .null, .null, (.ref b27), (.ref b27)])) _
        obtain ⟨_, _, ⟨T28, L28, k28, n28⟩, -, X28, ⟨Lc28, hQ28, l28, y28, z28⟩, st28⟩ := X27.specialBack hx (y := (⟨"com/example/archipel/archipel/model/AttributeChange", "<init>", "(Lcom/example/archipel/archipel/model/Entity;Lcom/example/archipel/archipel/model/Entity;Lcom/example/archipel/archipel/model/Attribute;Lcom/example/archipel/archipel/model/Attribute;)V"⟩ : MethodName)) rfl hown (mvT hZ (ow hw 67 rfl)) (mvT hZ (ow hw 68 rfl)) (mvT hZ (ow hw 69 rfl)) (by decide) (backOf (W := 1) (rm11 l Z a0 hw [] G b27 b21 h27 n0 O27 A27 F27_before g_b27 F27_after F27_was F27_becomes) hZ (ow hw 69 rfl) (ow hw 66 rfl) (by decide) (by decide)) (g := (mkF m 153 #[.val (.int p1), .val (.int p2), .val (.int p3), .val (.int p4), .val (.int p5), .val (.int p6), .val (.int (0 : Int32)), .val (.ref b4_7), .val (.ref b4_8), .val (.ref (f6 w_INTEGER w_TEXT w_DATE w_DECIMAL p4)), .val (.ref (f6 w_INTEGER w_TEXT w_DATE w_DECIMAL p5)), .val (.ref b18), .val (.ref b21), .val .null, .val (.ref b21), .unset] [(.ref b21), .null, .null, .null, (.ref b27), (.ref b27)])) rfl (by rw [hml]; rfl) (Steps.refl _) (a := b27) (argsL := [.null, .null, .null, (.ref b21)]) (rest := [(.ref b27)]) (lenOf pd_9 rfl) rfl (by show 2 * 0 + _ ≤ _; exact Nat.le_of_eq rfl) (hb hby at_153) (fun _ _ => ⟨rfl, e27, (by decide : 7 + 0 ≤ _), (by decide : 22 + 0 ≤ _)⟩)
        dsimp only [Pt.U, Pt.locs, Pt.cells, Pt.slots] at X28 l28 y28 z28 st28 hQ28
        subst l28 y28 z28
        obtain ⟨N28q, rfl, K28, Fo28_0, Fo28_1, Fo28_2, Fo28_3⟩ := hQ28
        have O28 := OKeep.old O27 K28 (ogeS g_b27 (ogeS g_b27 (ogeS g_b27 (ogeS g_b27 oge0))))
        have N28 := Fr.app N23 N28q
        refine OGot.on st28 ?_
        show OGot p.tables e below (T28.setTop (mkF m 156 #[.val (.int p1), .val (.int p2), .val (.int p3), .val (.int p4), .val (.int p5), .val (.int p6), .val (.int (0 : Int32)), .val (.ref b4_7), .val (.ref b4_8), .val (.ref (f6 w_INTEGER w_TEXT w_DATE w_DECIMAL p4)), .val (.ref (f6 w_INTEGER w_TEXT w_DATE w_DECIMAL p5)), .val (.ref b18), .val (.ref b21), .val .null, .val (.ref b21), .unset] [(.ref b27)])) _
        refine OGot.go (fun t k => XS.astore X28.here hx rfl (hb hby at_156) rfl rfl (l' := #[.val (.int p1), .val (.int p2), .val (.int p3), .val (.int p4), .val (.int p5), .val (.int p6), .val (.int (0 : Int32)), .val (.ref b4_7), .val (.ref b4_8), .val (.ref (f6 w_INTEGER w_TEXT w_DATE w_DECIMAL p4)), .val (.ref (f6 w_INTEGER w_TEXT w_DATE w_DECIMAL p5)), .val (.ref b18), .val (.ref b21), .val .null, .val (.ref b21), .val (.ref b27)]) rfl k) ?_
        show OGot p.tables e below (T28.setTop (mkF m 158 #[.val (.int p1), .val (.int p2), .val (.int p3), .val (.int p4), .val (.int p5), .val (.int p6), .val (.int (0 : Int32)), .val (.ref b4_7), .val (.ref b4_8), .val (.ref (f6 w_INTEGER w_TEXT w_DATE w_DECIMAL p4)), .val (.ref (f6 w_INTEGER w_TEXT w_DATE w_DECIMAL p5)), .val (.ref b18), .val (.ref b21), .val .null, .val (.ref b21), .val (.ref b27)] [])) _
        refine OGot.go (fun t k => XS.aload X28.here hx rfl (hb hby at_158) rfl rfl k) ?_
        show OGot p.tables e below (T28.setTop (mkF m 160 #[.val (.int p1), .val (.int p2), .val (.int p3), .val (.int p4), .val (.int p5), .val (.int p6), .val (.int (0 : Int32)), .val (.ref b4_7), .val (.ref b4_8), .val (.ref (f6 w_INTEGER w_TEXT w_DATE w_DECIMAL p4)), .val (.ref (f6 w_INTEGER w_TEXT w_DATE w_DECIMAL p5)), .val (.ref b18), .val (.ref b21), .val .null, .val (.ref b21), .val (.ref b27)] [(.ref b27)])) _
        obtain ⟨cq29, kq29, q29a, q29b, q29c⟩ := isOf hZ rfl (OKeep.exa A27 K28)
        obtain ⟨_, _, ⟨T29, L29, k29, n29⟩, -, X29, ⟨Lc29, hQ29, l29, y29, z29⟩, st29⟩ := X28.virtualBack hx (y := (⟨"com/example/archipel/archipel/model/AttributeChange", "added", "()Z"⟩ : MethodName)) (z := (⟨"com/example/archipel/archipel/model/AttributeChange", "added", "()Z"⟩ : MethodName)) hown (mvT hZ (ow hw 79 rfl)) (mvT hZ (ow hw 80 rfl)) (notFace_of_selects (args := #[]) (mvT hZ (ow hw 82 rfl))) (mvT hZ (ow hw 82 rfl)) (mvT hZ (ow hw 81 rfl)) (by decide) (backOf (W := 0) (rm12 l Z a0 hw [] G b27 T28.heap n0 O28 Fo28_2) hZ (ow hw 83 rfl) (ow hw 66 rfl) (by decide) (by decide)) q29a q29c (g := (mkF m 160 #[.val (.int p1), .val (.int p2), .val (.int p3), .val (.int p4), .val (.int p5), .val (.int p6), .val (.int (0 : Int32)), .val (.ref b4_7), .val (.ref b4_8), .val (.ref (f6 w_INTEGER w_TEXT w_DATE w_DECIMAL p4)), .val (.ref (f6 w_INTEGER w_TEXT w_DATE w_DECIMAL p5)), .val (.ref b18), .val (.ref b21), .val .null, .val (.ref b21), .val (.ref b27)] [(.ref b27)])) rfl (by rw [hml]; rfl) (Steps.refl _) (argsL := []) (rest := []) (lenOf pd_10 rfl) rfl (by show 2 * 0 + _ ≤ _; exact Nat.le_of_eq rfl) (hb hby at_160) (fun _ _ => ⟨rfl, rfl, (by decide : 7 + 0 ≤ _), (by decide : 22 + 0 ≤ _)⟩)
        dsimp only [Pt.U, Pt.locs, Pt.cells, Pt.slots] at X29 l29 y29 z29 st29 hQ29
        subst l29 y29 z29
        obtain ⟨rfl, N29q, e29⟩ := hQ29
        have N29 := Fr.app N28 N29q
        refine OGot.on st29 ?_
        show OGot p.tables e below (T29.setTop (mkF m 163 #[.val (.int p1), .val (.int p2), .val (.int p3), .val (.int p4), .val (.int p5), .val (.int p6), .val (.int (0 : Int32)), .val (.ref b4_7), .val (.ref b4_8), .val (.ref (f6 w_INTEGER w_TEXT w_DATE w_DECIMAL p4)), .val (.ref (f6 w_INTEGER w_TEXT w_DATE w_DECIMAL p5)), .val (.ref b18), .val (.ref b21), .val .null, .val (.ref b21), .val (.ref b27)] [(.int (1 : Int32))])) _
        refine OGot.go (fun t k => XS.iload X29.here hx rfl (hb hby at_163) rfl k) ?_
        show OGot p.tables e below (T29.setTop (mkF m 165 #[.val (.int p1), .val (.int p2), .val (.int p3), .val (.int p4), .val (.int p5), .val (.int p6), .val (.int (0 : Int32)), .val (.ref b4_7), .val (.ref b4_8), .val (.ref (f6 w_INTEGER w_TEXT w_DATE w_DECIMAL p4)), .val (.ref (f6 w_INTEGER w_TEXT w_DATE w_DECIMAL p5)), .val (.ref b18), .val (.ref b21), .val .null, .val (.ref b21), .val (.ref b27)] [(.int (0 : Int32)), (.int (1 : Int32))])) _
        refine OGot.go (fun t k => XS.ifNo X29.here hx rfl (hb hby at_165) rfl (by decide) k) ?_
        show OGot p.tables e below (T29.setTop (mkF m 168 #[.val (.int p1), .val (.int p2), .val (.int p3), .val (.int p4), .val (.int p5), .val (.int p6), .val (.int (0 : Int32)), .val (.ref b4_7), .val (.ref b4_8), .val (.ref (f6 w_INTEGER w_TEXT w_DATE w_DECIMAL p4)), .val (.ref (f6 w_INTEGER w_TEXT w_DATE w_DECIMAL p5)), .val (.ref b18), .val (.ref b21), .val .null, .val (.ref b21), .val (.ref b27)] [(.int (1 : Int32))])) _
        refine OGot.go (fun t k => XS.iconst X29.here hx rfl (hb hby at_168) k) ?_
        show OGot p.tables e below (T29.setTop (mkF m 169 #[.val (.int p1), .val (.int p2), .val (.int p3), .val (.int p4), .val (.int p5), .val (.int p6), .val (.int (0 : Int32)), .val (.ref b4_7), .val (.ref b4_8), .val (.ref (f6 w_INTEGER w_TEXT w_DATE w_DECIMAL p4)), .val (.ref (f6 w_INTEGER w_TEXT w_DATE w_DECIMAL p5)), .val (.ref b18), .val (.ref b21), .val .null, .val (.ref b21), .val (.ref b27)] [(.int (1 : Int32)), (.int (1 : Int32))])) _
        refine OGot.go (fun t k => XS.goto X29.here hx rfl (pc0 := 169) (pc' := 173) rfl (hb hby at_169) (by decide) (by decide) k) ?_
        show OGot p.tables e below (T29.setTop (mkF m 173 #[.val (.int p1), .val (.int p2), .val (.int p3), .val (.int p4), .val (.int p5), .val (.int p6), .val (.int (0 : Int32)), .val (.ref b4_7), .val (.ref b4_8), .val (.ref (f6 w_INTEGER w_TEXT w_DATE w_DECIMAL p4)), .val (.ref (f6 w_INTEGER w_TEXT w_DATE w_DECIMAL p5)), .val (.ref b18), .val (.ref b21), .val .null, .val (.ref b21), .val (.ref b27)] [(.int (1 : Int32)), (.int (1 : Int32))])) _
        refine OGot.go (fun t k => XS.icmpNo X29.here hx rfl (hb hby at_173) rfl (by decide) k) ?_
        show OGot p.tables e below (T29.setTop (mkF m 176 #[.val (.int p1), .val (.int p2), .val (.int p3), .val (.int p4), .val (.int p5), .val (.int p6), .val (.int (0 : Int32)), .val (.ref b4_7), .val (.ref b4_8), .val (.ref (f6 w_INTEGER w_TEXT w_DATE w_DECIMAL p4)), .val (.ref (f6 w_INTEGER w_TEXT w_DATE w_DECIMAL p5)), .val (.ref b18), .val (.ref b21), .val .null, .val (.ref b21), .val (.ref b27)] [])) _
        refine OGot.go (fun t k => XS.iconst X29.here hx rfl (hb hby at_176) k) ?_
        show OGot p.tables e below (T29.setTop (mkF m 177 #[.val (.int p1), .val (.int p2), .val (.int p3), .val (.int p4), .val (.int p5), .val (.int p6), .val (.int (0 : Int32)), .val (.ref b4_7), .val (.ref b4_8), .val (.ref (f6 w_INTEGER w_TEXT w_DATE w_DECIMAL p4)), .val (.ref (f6 w_INTEGER w_TEXT w_DATE w_DECIMAL p5)), .val (.ref b18), .val (.ref b21), .val .null, .val (.ref b21), .val (.ref b27)] [(.int (1 : Int32))])) _
        refine OGot.go (fun t k => XS.goto X29.here hx rfl (pc0 := 177) (pc' := 181) rfl (hb hby at_177) (by decide) (by decide) k) ?_
        show OGot p.tables e below (T29.setTop (mkF m 181 #[.val (.int p1), .val (.int p2), .val (.int p3), .val (.int p4), .val (.int p5), .val (.int p6), .val (.int (0 : Int32)), .val (.ref b4_7), .val (.ref b4_8), .val (.ref (f6 w_INTEGER w_TEXT w_DATE w_DECIMAL p4)), .val (.ref (f6 w_INTEGER w_TEXT w_DATE w_DECIMAL p5)), .val (.ref b18), .val (.ref b21), .val .null, .val (.ref b21), .val (.ref b27)] [(.int (1 : Int32))])) _
        obtain ⟨fs, hr, hrun, hended, hW, hsame⟩ := X29.leave (v := some (.int (1 : Int32))) (fun h => by rw [Bd.returns] at h; cases h)
        refine ⟨_, _, retN X29 hx (t := .boolean) Bd.returns (by simp) (hb hby at_181) hr, hrun, hended, _, _, rfl, ?_, ⟨_, rfl⟩, hW, hsame.mono (by decide) (by decide)⟩
        exact (⟨rfl, N29⟩ : Q0 Z w_INTEGER w_TEXT w_DATE w_DECIMAL i_COMPACT_STRINGS p1 p2 p3 p4 p5 p6 h0 n0 _ T29.heap _)
      · rw [hk25]
        show OGot p.tables e below (T23.setTop (mkF m 118 #[.val (.int p1), .val (.int p2), .val (.int p3), .val (.int p4), .val (.int p5), .val (.int p6), .val (.int (1 : Int32)), .val (.ref b4_7), .val (.ref b4_8), .val (.ref (f6 w_INTEGER w_TEXT w_DATE w_DECIMAL p4)), .val (.ref (f6 w_INTEGER w_TEXT w_DATE w_DECIMAL p5)), .val (.ref b18), .val (.ref b21), .unset, .unset, .unset] [(.int (1 : Int32))])) _
        refine OGot.go (fun t k => XS.ifYes X23.here hx rfl (pc0 := 118) (pc' := 125) rfl (hb hby at_118) rfl (by decide) (by decide) (by decide) k) ?_
        show OGot p.tables e below (T23.setTop (mkF m 125 #[.val (.int p1), .val (.int p2), .val (.int p3), .val (.int p4), .val (.int p5), .val (.int p6), .val (.int (1 : Int32)), .val (.ref b4_7), .val (.ref b4_8), .val (.ref (f6 w_INTEGER w_TEXT w_DATE w_DECIMAL p4)), .val (.ref (f6 w_INTEGER w_TEXT w_DATE w_DECIMAL p5)), .val (.ref b18), .val (.ref b21), .unset, .unset, .unset] [])) _
        refine OGot.go (fun t k => XS.aload X23.here hx rfl (hb hby at_125) rfl rfl k) ?_
        show OGot p.tables e below (T23.setTop (mkF m 127 #[.val (.int p1), .val (.int p2), .val (.int p3), .val (.int p4), .val (.int p5), .val (.int p6), .val (.int (1 : Int32)), .val (.ref b4_7), .val (.ref b4_8), .val (.ref (f6 w_INTEGER w_TEXT w_DATE w_DECIMAL p4)), .val (.ref (f6 w_INTEGER w_TEXT w_DATE w_DECIMAL p5)), .val (.ref b18), .val (.ref b21), .unset, .unset, .unset] [(.ref b18)])) _
        refine OGot.go (fun t k => XS.astore X23.here hx rfl (hb hby at_127) rfl rfl (l' := #[.val (.int p1), .val (.int p2), .val (.int p3), .val (.int p4), .val (.int p5), .val (.int p6), .val (.int (1 : Int32)), .val (.ref b4_7), .val (.ref b4_8), .val (.ref (f6 w_INTEGER w_TEXT w_DATE w_DECIMAL p4)), .val (.ref (f6 w_INTEGER w_TEXT w_DATE w_DECIMAL p5)), .val (.ref b18), .val (.ref b21), .val (.ref b18), .unset, .unset]) rfl k) ?_
        show OGot p.tables e below (T23.setTop (mkF m 129 #[.val (.int p1), .val (.int p2), .val (.int p3), .val (.int p4), .val (.int p5), .val (.int p6), .val (.int (1 : Int32)), .val (.ref b4_7), .val (.ref b4_8), .val (.ref (f6 w_INTEGER w_TEXT w_DATE w_DECIMAL p4)), .val (.ref (f6 w_INTEGER w_TEXT w_DATE w_DECIMAL p5)), .val (.ref b18), .val (.ref b21), .val (.ref b18), .unset, .unset] [])) _
        refine OGot.go (fun t k => XS.iload X23.here hx rfl (hb hby at_129) rfl k) ?_
        show OGot p.tables e below (T23.setTop (mkF m 131 #[.val (.int p1), .val (.int p2), .val (.int p3), .val (.int p4), .val (.int p5), .val (.int p6), .val (.int (1 : Int32)), .val (.ref b4_7), .val (.ref b4_8), .val (.ref (f6 w_INTEGER w_TEXT w_DATE w_DECIMAL p4)), .val (.ref (f6 w_INTEGER w_TEXT w_DATE w_DECIMAL p5)), .val (.ref b18), .val (.ref b21), .val (.ref b18), .unset, .unset] [(.int (1 : Int32))])) _
        refine OGot.go (fun t k => XS.iconst X23.here hx rfl (hb hby at_131) k) ?_
        show OGot p.tables e below (T23.setTop (mkF m 132 #[.val (.int p1), .val (.int p2), .val (.int p3), .val (.int p4), .val (.int p5), .val (.int p6), .val (.int (1 : Int32)), .val (.ref b4_7), .val (.ref b4_8), .val (.ref (f6 w_INTEGER w_TEXT w_DATE w_DECIMAL p4)), .val (.ref (f6 w_INTEGER w_TEXT w_DATE w_DECIMAL p5)), .val (.ref b18), .val (.ref b21), .val (.ref b18), .unset, .unset] [(.int (1 : Int32)), (.int (1 : Int32))])) _
        refine OGot.go (fun t k => XS.icmpNo X23.here hx rfl (hb hby at_132) rfl (by decide) k) ?_
        show OGot p.tables e below (T23.setTop (mkF m 135 #[.val (.int p1), .val (.int p2), .val (.int p3), .val (.int p4), .val (.int p5), .val (.int p6), .val (.int (1 : Int32)), .val (.ref b4_7), .val (.ref b4_8), .val (.ref (f6 w_INTEGER w_TEXT w_DATE w_DECIMAL p4)), .val (.ref (f6 w_INTEGER w_TEXT w_DATE w_DECIMAL p5)), .val (.ref b18), .val (.ref b21), .val (.ref b18), .unset, .unset] [])) _
        refine OGot.go (fun t k => XS.aconstNull X23.here hx rfl (hb hby at_135) k) ?_
        show OGot p.tables e below (T23.setTop (mkF m 136 #[.val (.int p1), .val (.int p2), .val (.int p3), .val (.int p4), .val (.int p5), .val (.int p6), .val (.int (1 : Int32)), .val (.ref b4_7), .val (.ref b4_8), .val (.ref (f6 w_INTEGER w_TEXT w_DATE w_DECIMAL p4)), .val (.ref (f6 w_INTEGER w_TEXT w_DATE w_DECIMAL p5)), .val (.ref b18), .val (.ref b21), .val (.ref b18), .unset, .unset] [.null])) _
        refine OGot.go (fun t k => XS.goto X23.here hx rfl (pc0 := 136) (pc' := 141) rfl (hb hby at_136) (by decide) (by decide) k) ?_
        show OGot p.tables e below (T23.setTop (mkF m 141 #[.val (.int p1), .val (.int p2), .val (.int p3), .val (.int p4), .val (.int p5), .val (.int p6), .val (.int (1 : Int32)), .val (.ref b4_7), .val (.ref b4_8), .val (.ref (f6 w_INTEGER w_TEXT w_DATE w_DECIMAL p4)), .val (.ref (f6 w_INTEGER w_TEXT w_DATE w_DECIMAL p5)), .val (.ref b18), .val (.ref b21), .val (.ref b18), .unset, .unset] [.null])) _
        refine OGot.go (fun t k => XS.astore X23.here hx rfl (hb hby at_141) rfl rfl (l' := #[.val (.int p1), .val (.int p2), .val (.int p3), .val (.int p4), .val (.int p5), .val (.int p6), .val (.int (1 : Int32)), .val (.ref b4_7), .val (.ref b4_8), .val (.ref (f6 w_INTEGER w_TEXT w_DATE w_DECIMAL p4)), .val (.ref (f6 w_INTEGER w_TEXT w_DATE w_DECIMAL p5)), .val (.ref b18), .val (.ref b21), .val (.ref b18), .val .null, .unset]) rfl k) ?_
        show OGot p.tables e below (T23.setTop (mkF m 143 #[.val (.int p1), .val (.int p2), .val (.int p3), .val (.int p4), .val (.int p5), .val (.int p6), .val (.int (1 : Int32)), .val (.ref b4_7), .val (.ref b4_8), .val (.ref (f6 w_INTEGER w_TEXT w_DATE w_DECIMAL p4)), .val (.ref (f6 w_INTEGER w_TEXT w_DATE w_DECIMAL p5)), .val (.ref b18), .val (.ref b21), .val (.ref b18), .val .null, .unset] [])) _
        obtain ⟨T30, h30, X30, e30, E30, A30, D30, -, st30⟩ := newO X23 hx hZ hown (ow hw 64 rfl) (ow hw 65 rfl) (ow hw 66 rfl) rfl (g := (mkF m 143 #[.val (.int p1), .val (.int p2), .val (.int p3), .val (.int p4), .val (.int p5), .val (.int p6), .val (.int (1 : Int32)), .val (.ref b4_7), .val (.ref b4_8), .val (.ref (f6 w_INTEGER w_TEXT w_DATE w_DECIMAL p4)), .val (.ref (f6 w_INTEGER w_TEXT w_DATE w_DECIMAL p5)), .val (.ref b18), .val (.ref b21), .val (.ref b18), .val .null, .unset] [])) rfl (hb hby at_143) (by decide) (by decide)
        obtain ⟨b30, g30⟩ : ∃ z, z = T23.heap.size := ⟨_, rfl⟩
        rw [← g30] at A30 D30 st30
        refine OGot.go st30 ?_
        have g_b30 : n0 ≤ b30 := Nat.le_trans (osz O23) (Nat.le_of_eq g30.symm)
        have sy_b30 : T23.heap.size ≤ b30 := Nat.le_of_eq g30.symm
        have O30 := O23.ext E30
        have F30_before : Fld Z h30 b30 "com/example/archipel/archipel/model/AttributeChange" "before" "Lcom/example/archipel/archipel/model/Entity;" .null := D30 (Or.inr (ow hw 72 rfl)) (ty := (.object "com/example/archipel/archipel/model/Entity")) (by decide)
        have F30_after : Fld Z h30 b30 "com/example/archipel/archipel/model/AttributeChange" "after" "Lcom/example/archipel/archipel/model/Entity;" .null := D30 (Or.inr (ow hw 74 rfl)) (ty := (.object "com/example/archipel/archipel/model/Entity")) (by decide)
        have F30_was : Fld Z h30 b30 "com/example/archipel/archipel/model/AttributeChange" "was" "Lcom/example/archipel/archipel/model/Attribute;" .null := D30 (Or.inr (ow hw 76 rfl)) (ty := (.object "com/example/archipel/archipel/model/Attribute")) (by decide)
        have F30_becomes : Fld Z h30 b30 "com/example/archipel/archipel/model/AttributeChange" "becomes" "Lcom/example/archipel/archipel/model/Attribute;" .null := D30 (Or.inr (ow hw 78 rfl)) (ty := (.object "com/example/archipel/archipel/model/Attribute")) (by decide)
        show OGot p.tables e below (T30.setTop (mkF m 146 #[.val (.int p1), .val (.int p2), .val (.int p3), .val (.int p4), .val (.int p5), .val (.int p6), .val (.int (1 : Int32)), .val (.ref b4_7), .val (.ref b4_8), .val (.ref (f6 w_INTEGER w_TEXT w_DATE w_DECIMAL p4)), .val (.ref (f6 w_INTEGER w_TEXT w_DATE w_DECIMAL p5)), .val (.ref b18), .val (.ref b21), .val (.ref b18), .val .null, .unset] [(.ref b30)])) _
        refine OGot.go (fun t k => XS.dup X30.here hx rfl (hb hby at_146) rfl rfl k) ?_
        show OGot p.tables e below (T30.setTop (mkF m 147 #[.val (.int p1), .val (.int p2), .val (.int p3), .val (.int p4), .val (.int p5), .val (.int p6), .val (.int (1 : Int32)), .val (.ref b4_7), .val (.ref b4_8), .val (.ref (f6 w_INTEGER w_TEXT w_DATE w_DECIMAL p4)), .val (.ref (f6 w_INTEGER w_TEXT w_DATE w_DECIMAL p5)), .val (.ref b18), .val (.ref b21), .val (.ref b18), .val .null, .unset] [(.ref b30), (.ref b30)])) _
        refine OGot.go (fun t k => XS.aconstNull X30.here hx rfl (hb hby at_147) k) ?_
        show OGot p.tables e below (T30.setTop (mkF m 148 #[.val (.int p1), .val (.int p2), .val (.int p3), .val (.int p4), .val (.int p5), .val (.int p6), .val (.int (1 : Int32)), .val (.ref b4_7), .val (.ref b4_8), .val (.ref (f6 w_INTEGER w_TEXT w_DATE w_DECIMAL p4)), .val (.ref (f6 w_INTEGER w_TEXT w_DATE w_DECIMAL p5)), .val (.ref b18), .val (.ref b21), .val (.ref b18), .val .null, .unset] [.null, (.ref b30), (.ref b30)])) _
        refine OGot.go (fun t k => XS.aconstNull X30.here hx rfl (hb hby at_148) k) ?_
        show OGot p.tables e below (T30.setTop (mkF m 149 #[.val (.int p1), .val (.int p2), .val (.int p3), .val (.int p4), .val (.int p5), .val (.int p6), .val (.int (1 : Int32)), .val (.ref b4_7), .val (.ref b4_8), .val (.ref (f6 w_INTEGER w_TEXT w_DATE w_DECIMAL p4)), .val (.ref (f6 w_INTEGER w_TEXT w_DATE w_DECIMAL p5)), .val (.ref b18), .val (.ref b21), .val (.ref b18), .val .null, .unset] [.null, .null, (.ref b30), (.ref b30)])) _
        refine OGot.go (fun t k => XS.aload X30.here hx rfl (hb hby at_149) rfl rfl k) ?_
        show OGot p.tables e below (T30.setTop (mkF m 151 #[.val (.int p1), .val (.int p2), .val (.int p3), .val (.int p4), .val (.int p5), .val (.int p6), .val (.int (1 : Int32)), .val (.ref b4_7), .val (.ref b4_8), .val (.ref (f6 w_INTEGER w_TEXT w_DATE w_DECIMAL p4)), .val (.ref (f6 w_INTEGER w_TEXT w_DATE w_DECIMAL p5)), .val (.ref b18), .val (.ref b21), .val (.ref b18), .val .null, .unset] [(.ref b18), .null, .null, (.ref b30), (.ref b30)])) _
        refine OGot.go (fun t k => XS.aload X30.here hx rfl (hb hby at_151) rfl rfl k) ?_
        show OGot p.tables e below (T30.setTop (mkF m 153 #[.val (.int p1), .val (.int p2), .val (.int p3), .val (.int p4), .val (.int p5), .val (.int p6), .val (.int (1 : Int32)), .val (.ref b4_7), .val (.ref b4_8), .val (.ref (f6 w_INTEGER w_TEXT w_DATE w_DECIMAL p4)), .val (.ref (f6 w_INTEGER w_TEXT w_DATE w_DECIMAL p5)), .val (.ref b18), .val (.ref b21), .val (.ref b18), .val .null, .unset] [.null, (.ref b18), .null, .null, (.ref b30), (.ref b30)])) _
        obtain ⟨_, _, ⟨T31, L31, k31, n31⟩, -, X31, ⟨Lc31, hQ31, l31, y31, z31⟩, st31⟩ := X30.specialBack hx (y := (⟨"com/example/archipel/archipel/model/AttributeChange", "<init>", "(Lcom/example/archipel/archipel/model/Entity;Lcom/example/archipel/archipel/model/Entity;Lcom/example/archipel/archipel/model/Attribute;Lcom/example/archipel/archipel/model/Attribute;)V"⟩ : MethodName)) rfl hown (mvT hZ (ow hw 67 rfl)) (mvT hZ (ow hw 68 rfl)) (mvT hZ (ow hw 69 rfl)) (by decide) (backOf (W := 1) (rm11_1 l Z a0 hw [] G b30 b18 h30 n0 O30 A30 F30_before g_b30 F30_after F30_was F30_becomes) hZ (ow hw 69 rfl) (ow hw 66 rfl) (by decide) (by decide)) (g := (mkF m 153 #[.val (.int p1), .val (.int p2), .val (.int p3), .val (.int p4), .val (.int p5), .val (.int p6), .val (.int (1 : Int32)), .val (.ref b4_7), .val (.ref b4_8), .val (.ref (f6 w_INTEGER w_TEXT w_DATE w_DECIMAL p4)), .val (.ref (f6 w_INTEGER w_TEXT w_DATE w_DECIMAL p5)), .val (.ref b18), .val (.ref b21), .val (.ref b18), .val .null, .unset] [.null, (.ref b18), .null, .null, (.ref b30), (.ref b30)])) rfl (by rw [hml]; rfl) (Steps.refl _) (a := b30) (argsL := [.null, .null, (.ref b18), .null]) (rest := [(.ref b30)]) (lenOf pd_9 rfl) rfl (by show 2 * 0 + _ ≤ _; exact Nat.le_of_eq rfl) (hb hby at_153) (fun _ _ => ⟨rfl, e30, (by decide : 7 + 0 ≤ _), (by decide : 22 + 0 ≤ _)⟩)
        dsimp only [Pt.U, Pt.locs, Pt.cells, Pt.slots] at X31 l31 y31 z31 st31 hQ31
        subst l31 y31 z31
        obtain ⟨N31q, rfl, K31, Fo31_0, Fo31_1, Fo31_2, Fo31_3⟩ := hQ31
        have O31 := OKeep.old O30 K31 (ogeS g_b30 (ogeS g_b30 (ogeS g_b30 (ogeS g_b30 oge0))))
        have N31 := Fr.app N23 N31q
        refine OGot.on st31 ?_
        show OGot p.tables e below (T31.setTop (mkF m 156 #[.val (.int p1), .val (.int p2), .val (.int p3), .val (.int p4), .val (.int p5), .val (.int p6), .val (.int (1 : Int32)), .val (.ref b4_7), .val (.ref b4_8), .val (.ref (f6 w_INTEGER w_TEXT w_DATE w_DECIMAL p4)), .val (.ref (f6 w_INTEGER w_TEXT w_DATE w_DECIMAL p5)), .val (.ref b18), .val (.ref b21), .val (.ref b18), .val .null, .unset] [(.ref b30)])) _
        refine OGot.go (fun t k => XS.astore X31.here hx rfl (hb hby at_156) rfl rfl (l' := #[.val (.int p1), .val (.int p2), .val (.int p3), .val (.int p4), .val (.int p5), .val (.int p6), .val (.int (1 : Int32)), .val (.ref b4_7), .val (.ref b4_8), .val (.ref (f6 w_INTEGER w_TEXT w_DATE w_DECIMAL p4)), .val (.ref (f6 w_INTEGER w_TEXT w_DATE w_DECIMAL p5)), .val (.ref b18), .val (.ref b21), .val (.ref b18), .val .null, .val (.ref b30)]) rfl k) ?_
        show OGot p.tables e below (T31.setTop (mkF m 158 #[.val (.int p1), .val (.int p2), .val (.int p3), .val (.int p4), .val (.int p5), .val (.int p6), .val (.int (1 : Int32)), .val (.ref b4_7), .val (.ref b4_8), .val (.ref (f6 w_INTEGER w_TEXT w_DATE w_DECIMAL p4)), .val (.ref (f6 w_INTEGER w_TEXT w_DATE w_DECIMAL p5)), .val (.ref b18), .val (.ref b21), .val (.ref b18), .val .null, .val (.ref b30)] [])) _
        refine OGot.go (fun t k => XS.aload X31.here hx rfl (hb hby at_158) rfl rfl k) ?_
        show OGot p.tables e below (T31.setTop (mkF m 160 #[.val (.int p1), .val (.int p2), .val (.int p3), .val (.int p4), .val (.int p5), .val (.int p6), .val (.int (1 : Int32)), .val (.ref b4_7), .val (.ref b4_8), .val (.ref (f6 w_INTEGER w_TEXT w_DATE w_DECIMAL p4)), .val (.ref (f6 w_INTEGER w_TEXT w_DATE w_DECIMAL p5)), .val (.ref b18), .val (.ref b21), .val (.ref b18), .val .null, .val (.ref b30)] [(.ref b30)])) _
        obtain ⟨cq32, kq32, q32a, q32b, q32c⟩ := isOf hZ rfl (OKeep.exa A30 K31)
        obtain ⟨_, _, ⟨T32, L32, k32, n32⟩, -, X32, ⟨Lc32, hQ32, l32, y32, z32⟩, st32⟩ := X31.virtualBack hx (y := (⟨"com/example/archipel/archipel/model/AttributeChange", "added", "()Z"⟩ : MethodName)) (z := (⟨"com/example/archipel/archipel/model/AttributeChange", "added", "()Z"⟩ : MethodName)) hown (mvT hZ (ow hw 79 rfl)) (mvT hZ (ow hw 80 rfl)) (notFace_of_selects (args := #[]) (mvT hZ (ow hw 82 rfl))) (mvT hZ (ow hw 82 rfl)) (mvT hZ (ow hw 81 rfl)) (by decide) (backOf (W := 0) (rm12_1 l Z a0 hw [] G b30 b18 T31.heap n0 O31 Fo31_2) hZ (ow hw 83 rfl) (ow hw 66 rfl) (by decide) (by decide)) q32a q32c (g := (mkF m 160 #[.val (.int p1), .val (.int p2), .val (.int p3), .val (.int p4), .val (.int p5), .val (.int p6), .val (.int (1 : Int32)), .val (.ref b4_7), .val (.ref b4_8), .val (.ref (f6 w_INTEGER w_TEXT w_DATE w_DECIMAL p4)), .val (.ref (f6 w_INTEGER w_TEXT w_DATE w_DECIMAL p5)), .val (.ref b18), .val (.ref b21), .val (.ref b18), .val .null, .val (.ref b30)] [(.ref b30)])) rfl (by rw [hml]; rfl) (Steps.refl _) (argsL := []) (rest := []) (lenOf pd_10 rfl) rfl (by show 2 * 0 + _ ≤ _; exact Nat.le_of_eq rfl) (hb hby at_160) (fun _ _ => ⟨rfl, rfl, (by decide : 7 + 0 ≤ _), (by decide : 22 + 0 ≤ _)⟩)
        dsimp only [Pt.U, Pt.locs, Pt.cells, Pt.slots] at X32 l32 y32 z32 st32 hQ32
        subst l32 y32 z32
        obtain ⟨rfl, N32q, e32⟩ := hQ32
        have N32 := Fr.app N31 N32q
        refine OGot.on st32 ?_
        show OGot p.tables e below (T32.setTop (mkF m 163 #[.val (.int p1), .val (.int p2), .val (.int p3), .val (.int p4), .val (.int p5), .val (.int p6), .val (.int (1 : Int32)), .val (.ref b4_7), .val (.ref b4_8), .val (.ref (f6 w_INTEGER w_TEXT w_DATE w_DECIMAL p4)), .val (.ref (f6 w_INTEGER w_TEXT w_DATE w_DECIMAL p5)), .val (.ref b18), .val (.ref b21), .val (.ref b18), .val .null, .val (.ref b30)] [(.int (0 : Int32))])) _
        refine OGot.go (fun t k => XS.iload X32.here hx rfl (hb hby at_163) rfl k) ?_
        show OGot p.tables e below (T32.setTop (mkF m 165 #[.val (.int p1), .val (.int p2), .val (.int p3), .val (.int p4), .val (.int p5), .val (.int p6), .val (.int (1 : Int32)), .val (.ref b4_7), .val (.ref b4_8), .val (.ref (f6 w_INTEGER w_TEXT w_DATE w_DECIMAL p4)), .val (.ref (f6 w_INTEGER w_TEXT w_DATE w_DECIMAL p5)), .val (.ref b18), .val (.ref b21), .val (.ref b18), .val .null, .val (.ref b30)] [(.int (1 : Int32)), (.int (0 : Int32))])) _
        refine OGot.go (fun t k => XS.ifYes X32.here hx rfl (pc0 := 165) (pc' := 172) rfl (hb hby at_165) rfl (by decide) (by decide) (by decide) k) ?_
        show OGot p.tables e below (T32.setTop (mkF m 172 #[.val (.int p1), .val (.int p2), .val (.int p3), .val (.int p4), .val (.int p5), .val (.int p6), .val (.int (1 : Int32)), .val (.ref b4_7), .val (.ref b4_8), .val (.ref (f6 w_INTEGER w_TEXT w_DATE w_DECIMAL p4)), .val (.ref (f6 w_INTEGER w_TEXT w_DATE w_DECIMAL p5)), .val (.ref b18), .val (.ref b21), .val (.ref b18), .val .null, .val (.ref b30)] [(.int (0 : Int32))])) _
        refine OGot.go (fun t k => XS.iconst X32.here hx rfl (hb hby at_172) k) ?_
        show OGot p.tables e below (T32.setTop (mkF m 173 #[.val (.int p1), .val (.int p2), .val (.int p3), .val (.int p4), .val (.int p5), .val (.int p6), .val (.int (1 : Int32)), .val (.ref b4_7), .val (.ref b4_8), .val (.ref (f6 w_INTEGER w_TEXT w_DATE w_DECIMAL p4)), .val (.ref (f6 w_INTEGER w_TEXT w_DATE w_DECIMAL p5)), .val (.ref b18), .val (.ref b21), .val (.ref b18), .val .null, .val (.ref b30)] [(.int (0 : Int32)), (.int (0 : Int32))])) _
        refine OGot.go (fun t k => XS.icmpNo X32.here hx rfl (hb hby at_173) rfl (by decide) k) ?_
        show OGot p.tables e below (T32.setTop (mkF m 176 #[.val (.int p1), .val (.int p2), .val (.int p3), .val (.int p4), .val (.int p5), .val (.int p6), .val (.int (1 : Int32)), .val (.ref b4_7), .val (.ref b4_8), .val (.ref (f6 w_INTEGER w_TEXT w_DATE w_DECIMAL p4)), .val (.ref (f6 w_INTEGER w_TEXT w_DATE w_DECIMAL p5)), .val (.ref b18), .val (.ref b21), .val (.ref b18), .val .null, .val (.ref b30)] [])) _
        refine OGot.go (fun t k => XS.iconst X32.here hx rfl (hb hby at_176) k) ?_
        show OGot p.tables e below (T32.setTop (mkF m 177 #[.val (.int p1), .val (.int p2), .val (.int p3), .val (.int p4), .val (.int p5), .val (.int p6), .val (.int (1 : Int32)), .val (.ref b4_7), .val (.ref b4_8), .val (.ref (f6 w_INTEGER w_TEXT w_DATE w_DECIMAL p4)), .val (.ref (f6 w_INTEGER w_TEXT w_DATE w_DECIMAL p5)), .val (.ref b18), .val (.ref b21), .val (.ref b18), .val .null, .val (.ref b30)] [(.int (1 : Int32))])) _
        refine OGot.go (fun t k => XS.goto X32.here hx rfl (pc0 := 177) (pc' := 181) rfl (hb hby at_177) (by decide) (by decide) k) ?_
        show OGot p.tables e below (T32.setTop (mkF m 181 #[.val (.int p1), .val (.int p2), .val (.int p3), .val (.int p4), .val (.int p5), .val (.int p6), .val (.int (1 : Int32)), .val (.ref b4_7), .val (.ref b4_8), .val (.ref (f6 w_INTEGER w_TEXT w_DATE w_DECIMAL p4)), .val (.ref (f6 w_INTEGER w_TEXT w_DATE w_DECIMAL p5)), .val (.ref b18), .val (.ref b21), .val (.ref b18), .val .null, .val (.ref b30)] [(.int (1 : Int32))])) _
        obtain ⟨fs, hr, hrun, hended, hW, hsame⟩ := X32.leave (v := some (.int (1 : Int32))) (fun h => by rw [Bd.returns] at h; cases h)
        refine ⟨_, _, retN X32 hx (t := .boolean) Bd.returns (by simp) (hb hby at_181) hr, hrun, hended, _, _, rfl, ?_, ⟨_, rfl⟩, hW, hsame.mono (by decide) (by decide)⟩
        exact (⟨rfl, N32⟩ : Q0 Z w_INTEGER w_TEXT w_DATE w_DECIMAL i_COMPACT_STRINGS p1 p2 p3 p4 p5 p6 h0 n0 _ T32.heap _)
      · rw [hk26]
        show OGot p.tables e below (T23.setTop (mkF m 118 #[.val (.int p1), .val (.int p2), .val (.int p3), .val (.int p4), .val (.int p5), .val (.int p6), .val (.int (2 : Int32)), .val (.ref b4_7), .val (.ref b4_8), .val (.ref (f6 w_INTEGER w_TEXT w_DATE w_DECIMAL p4)), .val (.ref (f6 w_INTEGER w_TEXT w_DATE w_DECIMAL p5)), .val (.ref b18), .val (.ref b21), .unset, .unset, .unset] [(.int (2 : Int32))])) _
        refine OGot.go (fun t k => XS.ifYes X23.here hx rfl (pc0 := 118) (pc' := 125) rfl (hb hby at_118) rfl (by decide) (by decide) (by decide) k) ?_
        show OGot p.tables e below (T23.setTop (mkF m 125 #[.val (.int p1), .val (.int p2), .val (.int p3), .val (.int p4), .val (.int p5), .val (.int p6), .val (.int (2 : Int32)), .val (.ref b4_7), .val (.ref b4_8), .val (.ref (f6 w_INTEGER w_TEXT w_DATE w_DECIMAL p4)), .val (.ref (f6 w_INTEGER w_TEXT w_DATE w_DECIMAL p5)), .val (.ref b18), .val (.ref b21), .unset, .unset, .unset] [])) _
        refine OGot.go (fun t k => XS.aload X23.here hx rfl (hb hby at_125) rfl rfl k) ?_
        show OGot p.tables e below (T23.setTop (mkF m 127 #[.val (.int p1), .val (.int p2), .val (.int p3), .val (.int p4), .val (.int p5), .val (.int p6), .val (.int (2 : Int32)), .val (.ref b4_7), .val (.ref b4_8), .val (.ref (f6 w_INTEGER w_TEXT w_DATE w_DECIMAL p4)), .val (.ref (f6 w_INTEGER w_TEXT w_DATE w_DECIMAL p5)), .val (.ref b18), .val (.ref b21), .unset, .unset, .unset] [(.ref b18)])) _
        refine OGot.go (fun t k => XS.astore X23.here hx rfl (hb hby at_127) rfl rfl (l' := #[.val (.int p1), .val (.int p2), .val (.int p3), .val (.int p4), .val (.int p5), .val (.int p6), .val (.int (2 : Int32)), .val (.ref b4_7), .val (.ref b4_8), .val (.ref (f6 w_INTEGER w_TEXT w_DATE w_DECIMAL p4)), .val (.ref (f6 w_INTEGER w_TEXT w_DATE w_DECIMAL p5)), .val (.ref b18), .val (.ref b21), .val (.ref b18), .unset, .unset]) rfl k) ?_
        show OGot p.tables e below (T23.setTop (mkF m 129 #[.val (.int p1), .val (.int p2), .val (.int p3), .val (.int p4), .val (.int p5), .val (.int p6), .val (.int (2 : Int32)), .val (.ref b4_7), .val (.ref b4_8), .val (.ref (f6 w_INTEGER w_TEXT w_DATE w_DECIMAL p4)), .val (.ref (f6 w_INTEGER w_TEXT w_DATE w_DECIMAL p5)), .val (.ref b18), .val (.ref b21), .val (.ref b18), .unset, .unset] [])) _
        refine OGot.go (fun t k => XS.iload X23.here hx rfl (hb hby at_129) rfl k) ?_
        show OGot p.tables e below (T23.setTop (mkF m 131 #[.val (.int p1), .val (.int p2), .val (.int p3), .val (.int p4), .val (.int p5), .val (.int p6), .val (.int (2 : Int32)), .val (.ref b4_7), .val (.ref b4_8), .val (.ref (f6 w_INTEGER w_TEXT w_DATE w_DECIMAL p4)), .val (.ref (f6 w_INTEGER w_TEXT w_DATE w_DECIMAL p5)), .val (.ref b18), .val (.ref b21), .val (.ref b18), .unset, .unset] [(.int (2 : Int32))])) _
        refine OGot.go (fun t k => XS.iconst X23.here hx rfl (hb hby at_131) k) ?_
        show OGot p.tables e below (T23.setTop (mkF m 132 #[.val (.int p1), .val (.int p2), .val (.int p3), .val (.int p4), .val (.int p5), .val (.int p6), .val (.int (2 : Int32)), .val (.ref b4_7), .val (.ref b4_8), .val (.ref (f6 w_INTEGER w_TEXT w_DATE w_DECIMAL p4)), .val (.ref (f6 w_INTEGER w_TEXT w_DATE w_DECIMAL p5)), .val (.ref b18), .val (.ref b21), .val (.ref b18), .unset, .unset] [(.int (1 : Int32)), (.int (2 : Int32))])) _
        refine OGot.go (fun t k => XS.icmpYes X23.here hx rfl (pc0 := 132) (pc' := 139) rfl (hb hby at_132) rfl (by decide) (by decide) (by decide) k) ?_
        show OGot p.tables e below (T23.setTop (mkF m 139 #[.val (.int p1), .val (.int p2), .val (.int p3), .val (.int p4), .val (.int p5), .val (.int p6), .val (.int (2 : Int32)), .val (.ref b4_7), .val (.ref b4_8), .val (.ref (f6 w_INTEGER w_TEXT w_DATE w_DECIMAL p4)), .val (.ref (f6 w_INTEGER w_TEXT w_DATE w_DECIMAL p5)), .val (.ref b18), .val (.ref b21), .val (.ref b18), .unset, .unset] [])) _
        refine OGot.go (fun t k => XS.aload X23.here hx rfl (hb hby at_139) rfl rfl k) ?_
        show OGot p.tables e below (T23.setTop (mkF m 141 #[.val (.int p1), .val (.int p2), .val (.int p3), .val (.int p4), .val (.int p5), .val (.int p6), .val (.int (2 : Int32)), .val (.ref b4_7), .val (.ref b4_8), .val (.ref (f6 w_INTEGER w_TEXT w_DATE w_DECIMAL p4)), .val (.ref (f6 w_INTEGER w_TEXT w_DATE w_DECIMAL p5)), .val (.ref b18), .val (.ref b21), .val (.ref b18), .unset, .unset] [(.ref b21)])) _
        refine OGot.go (fun t k => XS.astore X23.here hx rfl (hb hby at_141) rfl rfl (l' := #[.val (.int p1), .val (.int p2), .val (.int p3), .val (.int p4), .val (.int p5), .val (.int p6), .val (.int (2 : Int32)), .val (.ref b4_7), .val (.ref b4_8), .val (.ref (f6 w_INTEGER w_TEXT w_DATE w_DECIMAL p4)), .val (.ref (f6 w_INTEGER w_TEXT w_DATE w_DECIMAL p5)), .val (.ref b18), .val (.ref b21), .val (.ref b18), .val (.ref b21), .unset]) rfl k) ?_
        show OGot p.tables e below (T23.setTop (mkF m 143 #[.val (.int p1), .val (.int p2), .val (.int p3), .val (.int p4), .val (.int p5), .val (.int p6), .val (.int (2 : Int32)), .val (.ref b4_7), .val (.ref b4_8), .val (.ref (f6 w_INTEGER w_TEXT w_DATE w_DECIMAL p4)), .val (.ref (f6 w_INTEGER w_TEXT w_DATE w_DECIMAL p5)), .val (.ref b18), .val (.ref b21), .val (.ref b18), .val (.ref b21), .unset] [])) _
        obtain ⟨T33, h33, X33, e33, E33, A33, D33, -, st33⟩ := newO X23 hx hZ hown (ow hw 64 rfl) (ow hw 65 rfl) (ow hw 66 rfl) rfl (g := (mkF m 143 #[.val (.int p1), .val (.int p2), .val (.int p3), .val (.int p4), .val (.int p5), .val (.int p6), .val (.int (2 : Int32)), .val (.ref b4_7), .val (.ref b4_8), .val (.ref (f6 w_INTEGER w_TEXT w_DATE w_DECIMAL p4)), .val (.ref (f6 w_INTEGER w_TEXT w_DATE w_DECIMAL p5)), .val (.ref b18), .val (.ref b21), .val (.ref b18), .val (.ref b21), .unset] [])) rfl (hb hby at_143) (by decide) (by decide)
        obtain ⟨b33, g33⟩ : ∃ z, z = T23.heap.size := ⟨_, rfl⟩
        rw [← g33] at A33 D33 st33
        refine OGot.go st33 ?_
        have g_b33 : n0 ≤ b33 := Nat.le_trans (osz O23) (Nat.le_of_eq g33.symm)
        have sy_b33 : T23.heap.size ≤ b33 := Nat.le_of_eq g33.symm
        have O33 := O23.ext E33
        have F33_before : Fld Z h33 b33 "com/example/archipel/archipel/model/AttributeChange" "before" "Lcom/example/archipel/archipel/model/Entity;" .null := D33 (Or.inr (ow hw 72 rfl)) (ty := (.object "com/example/archipel/archipel/model/Entity")) (by decide)
        have F33_after : Fld Z h33 b33 "com/example/archipel/archipel/model/AttributeChange" "after" "Lcom/example/archipel/archipel/model/Entity;" .null := D33 (Or.inr (ow hw 74 rfl)) (ty := (.object "com/example/archipel/archipel/model/Entity")) (by decide)
        have F33_was : Fld Z h33 b33 "com/example/archipel/archipel/model/AttributeChange" "was" "Lcom/example/archipel/archipel/model/Attribute;" .null := D33 (Or.inr (ow hw 76 rfl)) (ty := (.object "com/example/archipel/archipel/model/Attribute")) (by decide)
        have F33_becomes : Fld Z h33 b33 "com/example/archipel/archipel/model/AttributeChange" "becomes" "Lcom/example/archipel/archipel/model/Attribute;" .null := D33 (Or.inr (ow hw 78 rfl)) (ty := (.object "com/example/archipel/archipel/model/Attribute")) (by decide)
        show OGot p.tables e below (T33.setTop (mkF m 146 #[.val (.int p1), .val (.int p2), .val (.int p3), .val (.int p4), .val (.int p5), .val (.int p6), .val (.int (2 : Int32)), .val (.ref b4_7), .val (.ref b4_8), .val (.ref (f6 w_INTEGER w_TEXT w_DATE w_DECIMAL p4)), .val (.ref (f6 w_INTEGER w_TEXT w_DATE w_DECIMAL p5)), .val (.ref b18), .val (.ref b21), .val (.ref b18), .val (.ref b21), .unset] [(.ref b33)])) _
        refine OGot.go (fun t k => XS.dup X33.here hx rfl (hb hby at_146) rfl rfl k) ?_
        show OGot p.tables e below (T33.setTop (mkF m 147 #[.val (.int p1), .val (.int p2), .val (.int p3), .val (.int p4), .val (.int p5), .val (.int p6), .val (.int (2 : Int32)), .val (.ref b4_7), .val (.ref b4_8), .val (.ref (f6 w_INTEGER w_TEXT w_DATE w_DECIMAL p4)), .val (.ref (f6 w_INTEGER w_TEXT w_DATE w_DECIMAL p5)), .val (.ref b18), .val (.ref b21), .val (.ref b18), .val (.ref b21), .unset] [(.ref b33), (.ref b33)])) _
        refine OGot.go (fun t k => XS.aconstNull X33.here hx rfl (hb hby at_147) k) ?_
        show OGot p.tables e below (T33.setTop (mkF m 148 #[.val (.int p1), .val (.int p2), .val (.int p3), .val (.int p4), .val (.int p5), .val (.int p6), .val (.int (2 : Int32)), .val (.ref b4_7), .val (.ref b4_8), .val (.ref (f6 w_INTEGER w_TEXT w_DATE w_DECIMAL p4)), .val (.ref (f6 w_INTEGER w_TEXT w_DATE w_DECIMAL p5)), .val (.ref b18), .val (.ref b21), .val (.ref b18), .val (.ref b21), .unset] [.null, (.ref b33), (.ref b33)])) _
        refine OGot.go (fun t k => XS.aconstNull X33.here hx rfl (hb hby at_148) k) ?_
        show OGot p.tables e below (T33.setTop (mkF m 149 #[.val (.int p1), .val (.int p2), .val (.int p3), .val (.int p4), .val (.int p5), .val (.int p6), .val (.int (2 : Int32)), .val (.ref b4_7), .val (.ref b4_8), .val (.ref (f6 w_INTEGER w_TEXT w_DATE w_DECIMAL p4)), .val (.ref (f6 w_INTEGER w_TEXT w_DATE w_DECIMAL p5)), .val (.ref b18), .val (.ref b21), .val (.ref b18), .val (.ref b21), .unset] [.null, .null, (.ref b33), (.ref b33)])) _
        refine OGot.go (fun t k => XS.aload X33.here hx rfl (hb hby at_149) rfl rfl k) ?_
        show OGot p.tables e below (T33.setTop (mkF m 151 #[.val (.int p1), .val (.int p2), .val (.int p3), .val (.int p4), .val (.int p5), .val (.int p6), .val (.int (2 : Int32)), .val (.ref b4_7), .val (.ref b4_8), .val (.ref (f6 w_INTEGER w_TEXT w_DATE w_DECIMAL p4)), .val (.ref (f6 w_INTEGER w_TEXT w_DATE w_DECIMAL p5)), .val (.ref b18), .val (.ref b21), .val (.ref b18), .val (.ref b21), .unset] [(.ref b18), .null, .null, (.ref b33), (.ref b33)])) _
        refine OGot.go (fun t k => XS.aload X33.here hx rfl (hb hby at_151) rfl rfl k) ?_
        show OGot p.tables e below (T33.setTop (mkF m 153 #[.val (.int p1), .val (.int p2), .val (.int p3), .val (.int p4), .val (.int p5), .val (.int p6), .val (.int (2 : Int32)), .val (.ref b4_7), .val (.ref b4_8), .val (.ref (f6 w_INTEGER w_TEXT w_DATE w_DECIMAL p4)), .val (.ref (f6 w_INTEGER w_TEXT w_DATE w_DECIMAL p5)), .val (.ref b18), .val (.ref b21), .val (.ref b18), .val (.ref b21), .unset] [(.ref b21), (.ref b18), .null, .null, (.ref b33), (.ref b33)])) _
        have ne35 : b18 ≠ b21 := (Nat.ne_of_lt (Nat.lt_of_lt_of_le (Nat.lt_of_lt_of_le A18.lt K20.1) sy_b21))
        have F36 : Fld Z h33 b18 "com/example/archipel/archipel/model/Attribute" "name" "Ljava/lang/String;" (.ref b4_7) := ((OKeep.fld (Fo20_0.ext E21) K23 (oninA ne35 (oninA ne35 (oninA ne35 (oninA ne35 onin0))))).ext E33)
        have F37 : Fld Z h33 b21 "com/example/archipel/archipel/model/Attribute" "name" "Ljava/lang/String;" (.ref b4_8) := (Fo23_0.ext E33)
        have ne38 : b4_7 ≠ b18 := (Nat.ne_of_lt (Nat.lt_of_lt_of_le (Nat.lt_of_lt_of_le Fo7_0.lt K8.1) sy_b18))
        have ne39 : b4_7 ≠ b21 := (Nat.ne_of_lt (Nat.lt_of_lt_of_le (Nat.lt_of_lt_of_le (Nat.lt_of_lt_of_le (Nat.lt_of_lt_of_le Fo7_0.lt K8.1) E18.1) K20.1) sy_b21))
        have F40 : Fld Z h33 b4_7 "java/lang/String" "coder" "B" (.int (0 : Int32)) := ((OKeep.fld ((OKeep.fld (F13.ext E18) K20 (oninA ne38 (oninA ne38 (oninA ne38 (oninA ne38 onin0))))).ext E21) K23 (oninA ne39 (oninA ne39 (oninA ne39 (oninA ne39 onin0))))).ext E33)
        have ne41 : b4_8 ≠ b18 := (Nat.ne_of_lt (Nat.lt_of_lt_of_le Fo8_0.lt sy_b18))
        have ne42 : b4_8 ≠ b21 := (Nat.ne_of_lt (Nat.lt_of_lt_of_le (Nat.lt_of_lt_of_le (Nat.lt_of_lt_of_le Fo8_0.lt E18.1) K20.1) sy_b21))
        have F43 : Fld Z h33 b4_8 "java/lang/String" "coder" "B" (.int (0 : Int32)) := ((OKeep.fld ((OKeep.fld (Fo8_1.ext E18) K20 (oninA ne41 (oninA ne41 (oninA ne41 (oninA ne41 onin0))))).ext E21) K23 (oninA ne42 (oninA ne42 (oninA ne42 (oninA ne42 onin0))))).ext E33)
        have F44 : Fld Z h33 b4_7 "java/lang/String" "value" "[B" (.ref b2_5_7) := ((OKeep.fld ((OKeep.fld (F14.ext E18) K20 (oninA ne38 (oninA ne38 (oninA ne38 (oninA ne38 onin0))))).ext E21) K23 (oninA ne39 (oninA ne39 (oninA ne39 (oninA ne39 onin0))))).ext E33)
        have F45 : Fld Z h33 b4_8 "java/lang/String" "value" "[B" (.ref b2_5_8) := ((OKeep.fld ((OKeep.fld (Fo8_2.ext E18) K20 (oninA ne41 (oninA ne41 (oninA ne41 (oninA ne41 onin0))))).ext E21) K23 (oninA ne42 (oninA ne42 (oninA ne42 (oninA ne42 onin0))))).ext E33)
        have ne46 : b2_5_7 ≠ b18 := (Nat.ne_of_lt (Nat.lt_of_lt_of_le (Nat.lt_of_lt_of_le Fo7_3.lt K8.1) sy_b18))
        have ne47 : b2_5_7 ≠ b21 := (Nat.ne_of_lt (Nat.lt_of_lt_of_le (Nat.lt_of_lt_of_le (Nat.lt_of_lt_of_le (Nat.lt_of_lt_of_le Fo7_3.lt K8.1) E18.1) K20.1) sy_b21))
        have F48 : Arv Z h33 b2_5_7 k2_5_7 .byte (1 : Int32) [(.int (nar .byte (((p2 &&& (255 : Int32)).toUInt32.toUInt16.toUInt32.toInt32).toInt8.toInt32)))] (.int (0 : Int32)) := ((OKeep.arv ((OKeep.arv (F15.ext E18) K20 (oallS ne46 (oallS ne46 (oallS ne46 (oallS ne46 oall0))))).ext E21) K23 (oallS ne47 (oallS ne47 (oallS ne47 (oallS ne47 oall0))))).ext E33)
        have ne49 : b2_5_8 ≠ b18 := (Nat.ne_of_lt (Nat.lt_of_lt_of_le Fo8_3.lt sy_b18))
        have ne50 : b2_5_8 ≠ b21 := (Nat.ne_of_lt (Nat.lt_of_lt_of_le (Nat.lt_of_lt_of_le (Nat.lt_of_lt_of_le Fo8_3.lt E18.1) K20.1) sy_b21))
        have F51 : Arv Z h33 b2_5_8 k2_5_8 .byte (1 : Int32) [(.int (nar .byte (((p3 &&& (255 : Int32)).toUInt32.toUInt16.toUInt32.toInt32).toInt8.toInt32)))] (.int (0 : Int32)) := ((OKeep.arv ((OKeep.arv (Fo8_3.ext E18) K20 (oallS ne49 (oallS ne49 (oallS ne49 (oallS ne49 oall0))))).ext E21) K23 (oallS ne50 (oallS ne50 (oallS ne50 (oallS ne50 oall0))))).ext E33)
        have F52 : Fld Z h33 b18 "com/example/archipel/archipel/model/Attribute" "type" "Lcom/example/archipel/archipel/model/DataType;" (.ref (f6 w_INTEGER w_TEXT w_DATE w_DECIMAL p4)) := ((OKeep.fld (Fo20_1.ext E21) K23 (oninA ne35 (oninA ne35 (oninA ne35 (oninA ne35 onin0))))).ext E33)
        have F53 : Fld Z h33 b21 "com/example/archipel/archipel/model/Attribute" "type" "Lcom/example/archipel/archipel/model/DataType;" (.ref (f6 w_INTEGER w_TEXT w_DATE w_DECIMAL p5)) := (Fo23_1.ext E33)
        obtain ⟨_, _, ⟨T34, L34, k34, n34⟩, -, X34, ⟨Lc34, hQ34, l34, y34, z34⟩, st34⟩ := X33.specialBack hx (y := (⟨"com/example/archipel/archipel/model/AttributeChange", "<init>", "(Lcom/example/archipel/archipel/model/Entity;Lcom/example/archipel/archipel/model/Entity;Lcom/example/archipel/archipel/model/Attribute;Lcom/example/archipel/archipel/model/Attribute;)V"⟩ : MethodName)) rfl hown (mvT hZ (ow hw 67 rfl)) (mvT hZ (ow hw 68 rfl)) (mvT hZ (ow hw 69 rfl)) (by decide) (backOf (W := 1) (rm11_2 l Z a0 hw [] G b33 b18 b21 b4_7 b4_8 b2_5_7 b2_5_8 k2_5_7 (nar .byte (((p2 &&& (255 : Int32)).toUInt32.toUInt16.toUInt32.toInt32).toInt8.toInt32)) k2_5_8 (nar .byte (((p3 &&& (255 : Int32)).toUInt32.toUInt16.toUInt32.toInt32).toInt8.toInt32)) (f6 w_INTEGER w_TEXT w_DATE w_DECIMAL p4) (f6 w_INTEGER w_TEXT w_DATE w_DECIMAL p5) h33 n0 O33 ((OKeep.exa ((OKeep.exa A18 K20).ext E21) K23).ext E33) F36 ((OKeep.exa A21 K23).ext E33) F37 ((OKeep.exa ((OKeep.exa ((OKeep.exa Fo7_0 K8).ext E18) K20).ext E21) K23).ext E33) ne11 ((OKeep.exa ((OKeep.exa (Fo8_0.ext E18) K20).ext E21) K23).ext E33) F40 F43 F44 F45 F48 F51 hs16 F52 F53 (Rf9_0.ext O33.2) (Rf10_0.ext O33.2) hs17 A33 F33_before g_b33 F33_after F33_was F33_becomes) hZ (ow hw 69 rfl) (ow hw 66 rfl) (by decide) (by decide)) (g := (mkF m 153 #[.val (.int p1), .val (.int p2), .val (.int p3), .val (.int p4), .val (.int p5), .val (.int p6), .val (.int (2 : Int32)), .val (.ref b4_7), .val (.ref b4_8), .val (.ref (f6 w_INTEGER w_TEXT w_DATE w_DECIMAL p4)), .val (.ref (f6 w_INTEGER w_TEXT w_DATE w_DECIMAL p5)), .val (.ref b18), .val (.ref b21), .val (.ref b18), .val (.ref b21), .unset] [(.ref b21), (.ref b18), .null, .null, (.ref b33), (.ref b33)])) rfl (by rw [hml]; rfl) (Steps.refl _) (a := b33) (argsL := [.null, .null, (.ref b18), (.ref b21)]) (rest := [(.ref b33)]) (lenOf pd_9 rfl) rfl (by show 2 * 0 + _ ≤ _; exact Nat.le_of_eq rfl) (hb hby at_153) (fun _ _ => ⟨rfl, e33, (by decide : 7 + 0 ≤ _), (by decide : 22 + 0 ≤ _)⟩)
        dsimp only [Pt.U, Pt.locs, Pt.cells, Pt.slots] at X34 l34 y34 z34 st34 hQ34
        subst l34 y34 z34
        obtain ⟨N34q, rfl, K34, Fo34_0, Fo34_1, Fo34_2, Fo34_3⟩ := hQ34
        have O34 := OKeep.old O33 K34 (ogeS g_b33 (ogeS g_b33 (ogeS g_b33 (ogeS g_b33 oge0))))
        have N34 := Fr.app N23 N34q
        refine OGot.on st34 ?_
        show OGot p.tables e below (T34.setTop (mkF m 156 #[.val (.int p1), .val (.int p2), .val (.int p3), .val (.int p4), .val (.int p5), .val (.int p6), .val (.int (2 : Int32)), .val (.ref b4_7), .val (.ref b4_8), .val (.ref (f6 w_INTEGER w_TEXT w_DATE w_DECIMAL p4)), .val (.ref (f6 w_INTEGER w_TEXT w_DATE w_DECIMAL p5)), .val (.ref b18), .val (.ref b21), .val (.ref b18), .val (.ref b21), .unset] [(.ref b33)])) _
        refine OGot.go (fun t k => XS.astore X34.here hx rfl (hb hby at_156) rfl rfl (l' := #[.val (.int p1), .val (.int p2), .val (.int p3), .val (.int p4), .val (.int p5), .val (.int p6), .val (.int (2 : Int32)), .val (.ref b4_7), .val (.ref b4_8), .val (.ref (f6 w_INTEGER w_TEXT w_DATE w_DECIMAL p4)), .val (.ref (f6 w_INTEGER w_TEXT w_DATE w_DECIMAL p5)), .val (.ref b18), .val (.ref b21), .val (.ref b18), .val (.ref b21), .val (.ref b33)]) rfl k) ?_
        show OGot p.tables e below (T34.setTop (mkF m 158 #[.val (.int p1), .val (.int p2), .val (.int p3), .val (.int p4), .val (.int p5), .val (.int p6), .val (.int (2 : Int32)), .val (.ref b4_7), .val (.ref b4_8), .val (.ref (f6 w_INTEGER w_TEXT w_DATE w_DECIMAL p4)), .val (.ref (f6 w_INTEGER w_TEXT w_DATE w_DECIMAL p5)), .val (.ref b18), .val (.ref b21), .val (.ref b18), .val (.ref b21), .val (.ref b33)] [])) _
        refine OGot.go (fun t k => XS.aload X34.here hx rfl (hb hby at_158) rfl rfl k) ?_
        show OGot p.tables e below (T34.setTop (mkF m 160 #[.val (.int p1), .val (.int p2), .val (.int p3), .val (.int p4), .val (.int p5), .val (.int p6), .val (.int (2 : Int32)), .val (.ref b4_7), .val (.ref b4_8), .val (.ref (f6 w_INTEGER w_TEXT w_DATE w_DECIMAL p4)), .val (.ref (f6 w_INTEGER w_TEXT w_DATE w_DECIMAL p5)), .val (.ref b18), .val (.ref b21), .val (.ref b18), .val (.ref b21), .val (.ref b33)] [(.ref b33)])) _
        obtain ⟨cq54, kq54, q54a, q54b, q54c⟩ := isOf hZ rfl (OKeep.exa A33 K34)
        obtain ⟨_, _, ⟨T54, L54, k54, n54⟩, -, X54, ⟨Lc54, hQ54, l54, y54, z54⟩, st54⟩ := X34.virtualBack hx (y := (⟨"com/example/archipel/archipel/model/AttributeChange", "added", "()Z"⟩ : MethodName)) (z := (⟨"com/example/archipel/archipel/model/AttributeChange", "added", "()Z"⟩ : MethodName)) hown (mvT hZ (ow hw 79 rfl)) (mvT hZ (ow hw 80 rfl)) (notFace_of_selects (args := #[]) (mvT hZ (ow hw 82 rfl))) (mvT hZ (ow hw 82 rfl)) (mvT hZ (ow hw 81 rfl)) (by decide) (backOf (W := 0) (rm12_1 l Z a0 hw [] G b33 b18 T34.heap n0 O34 Fo34_2) hZ (ow hw 83 rfl) (ow hw 66 rfl) (by decide) (by decide)) q54a q54c (g := (mkF m 160 #[.val (.int p1), .val (.int p2), .val (.int p3), .val (.int p4), .val (.int p5), .val (.int p6), .val (.int (2 : Int32)), .val (.ref b4_7), .val (.ref b4_8), .val (.ref (f6 w_INTEGER w_TEXT w_DATE w_DECIMAL p4)), .val (.ref (f6 w_INTEGER w_TEXT w_DATE w_DECIMAL p5)), .val (.ref b18), .val (.ref b21), .val (.ref b18), .val (.ref b21), .val (.ref b33)] [(.ref b33)])) rfl (by rw [hml]; rfl) (Steps.refl _) (argsL := []) (rest := []) (lenOf pd_10 rfl) rfl (by show 2 * 0 + _ ≤ _; exact Nat.le_of_eq rfl) (hb hby at_160) (fun _ _ => ⟨rfl, rfl, (by decide : 7 + 0 ≤ _), (by decide : 22 + 0 ≤ _)⟩)
        dsimp only [Pt.U, Pt.locs, Pt.cells, Pt.slots] at X54 l54 y54 z54 st54 hQ54
        subst l54 y54 z54
        obtain ⟨rfl, N54q, e54⟩ := hQ54
        have N54 := Fr.app N34 N54q
        refine OGot.on st54 ?_
        show OGot p.tables e below (T54.setTop (mkF m 163 #[.val (.int p1), .val (.int p2), .val (.int p3), .val (.int p4), .val (.int p5), .val (.int p6), .val (.int (2 : Int32)), .val (.ref b4_7), .val (.ref b4_8), .val (.ref (f6 w_INTEGER w_TEXT w_DATE w_DECIMAL p4)), .val (.ref (f6 w_INTEGER w_TEXT w_DATE w_DECIMAL p5)), .val (.ref b18), .val (.ref b21), .val (.ref b18), .val (.ref b21), .val (.ref b33)] [(.int (0 : Int32))])) _
        refine OGot.go (fun t k => XS.iload X54.here hx rfl (hb hby at_163) rfl k) ?_
        show OGot p.tables e below (T54.setTop (mkF m 165 #[.val (.int p1), .val (.int p2), .val (.int p3), .val (.int p4), .val (.int p5), .val (.int p6), .val (.int (2 : Int32)), .val (.ref b4_7), .val (.ref b4_8), .val (.ref (f6 w_INTEGER w_TEXT w_DATE w_DECIMAL p4)), .val (.ref (f6 w_INTEGER w_TEXT w_DATE w_DECIMAL p5)), .val (.ref b18), .val (.ref b21), .val (.ref b18), .val (.ref b21), .val (.ref b33)] [(.int (2 : Int32)), (.int (0 : Int32))])) _
        refine OGot.go (fun t k => XS.ifYes X54.here hx rfl (pc0 := 165) (pc' := 172) rfl (hb hby at_165) rfl (by decide) (by decide) (by decide) k) ?_
        show OGot p.tables e below (T54.setTop (mkF m 172 #[.val (.int p1), .val (.int p2), .val (.int p3), .val (.int p4), .val (.int p5), .val (.int p6), .val (.int (2 : Int32)), .val (.ref b4_7), .val (.ref b4_8), .val (.ref (f6 w_INTEGER w_TEXT w_DATE w_DECIMAL p4)), .val (.ref (f6 w_INTEGER w_TEXT w_DATE w_DECIMAL p5)), .val (.ref b18), .val (.ref b21), .val (.ref b18), .val (.ref b21), .val (.ref b33)] [(.int (0 : Int32))])) _
        refine OGot.go (fun t k => XS.iconst X54.here hx rfl (hb hby at_172) k) ?_
        show OGot p.tables e below (T54.setTop (mkF m 173 #[.val (.int p1), .val (.int p2), .val (.int p3), .val (.int p4), .val (.int p5), .val (.int p6), .val (.int (2 : Int32)), .val (.ref b4_7), .val (.ref b4_8), .val (.ref (f6 w_INTEGER w_TEXT w_DATE w_DECIMAL p4)), .val (.ref (f6 w_INTEGER w_TEXT w_DATE w_DECIMAL p5)), .val (.ref b18), .val (.ref b21), .val (.ref b18), .val (.ref b21), .val (.ref b33)] [(.int (0 : Int32)), (.int (0 : Int32))])) _
        refine OGot.go (fun t k => XS.icmpNo X54.here hx rfl (hb hby at_173) rfl (by decide) k) ?_
        show OGot p.tables e below (T54.setTop (mkF m 176 #[.val (.int p1), .val (.int p2), .val (.int p3), .val (.int p4), .val (.int p5), .val (.int p6), .val (.int (2 : Int32)), .val (.ref b4_7), .val (.ref b4_8), .val (.ref (f6 w_INTEGER w_TEXT w_DATE w_DECIMAL p4)), .val (.ref (f6 w_INTEGER w_TEXT w_DATE w_DECIMAL p5)), .val (.ref b18), .val (.ref b21), .val (.ref b18), .val (.ref b21), .val (.ref b33)] [])) _
        refine OGot.go (fun t k => XS.iconst X54.here hx rfl (hb hby at_176) k) ?_
        show OGot p.tables e below (T54.setTop (mkF m 177 #[.val (.int p1), .val (.int p2), .val (.int p3), .val (.int p4), .val (.int p5), .val (.int p6), .val (.int (2 : Int32)), .val (.ref b4_7), .val (.ref b4_8), .val (.ref (f6 w_INTEGER w_TEXT w_DATE w_DECIMAL p4)), .val (.ref (f6 w_INTEGER w_TEXT w_DATE w_DECIMAL p5)), .val (.ref b18), .val (.ref b21), .val (.ref b18), .val (.ref b21), .val (.ref b33)] [(.int (1 : Int32))])) _
        refine OGot.go (fun t k => XS.goto X54.here hx rfl (pc0 := 177) (pc' := 181) rfl (hb hby at_177) (by decide) (by decide) k) ?_
        show OGot p.tables e below (T54.setTop (mkF m 181 #[.val (.int p1), .val (.int p2), .val (.int p3), .val (.int p4), .val (.int p5), .val (.int p6), .val (.int (2 : Int32)), .val (.ref b4_7), .val (.ref b4_8), .val (.ref (f6 w_INTEGER w_TEXT w_DATE w_DECIMAL p4)), .val (.ref (f6 w_INTEGER w_TEXT w_DATE w_DECIMAL p5)), .val (.ref b18), .val (.ref b21), .val (.ref b18), .val (.ref b21), .val (.ref b33)] [(.int (1 : Int32))])) _
        obtain ⟨fs, hr, hrun, hended, hW, hsame⟩ := X54.leave (v := some (.int (1 : Int32))) (fun h => by rw [Bd.returns] at h; cases h)
        refine ⟨_, _, retN X54 hx (t := .boolean) Bd.returns (by simp) (hb hby at_181) hr, hrun, hended, _, _, rfl, ?_, ⟨_, rfl⟩, hW, hsame.mono (by decide) (by decide)⟩
        exact (⟨rfl, N54⟩ : Q0 Z w_INTEGER w_TEXT w_DATE w_DECIMAL i_COMPACT_STRINGS p1 p2 p3 p4 p5 p6 h0 n0 _ T54.heap _)
    · refine OGot.go (fun t k => Jvm.RoadKit.acmp (g := (mkF m 57 #[.val (.int p1), .val (.int p2), .val (.int p3), .val (.int p4), .val (.int p5), .val (.int p6), .val (.int ((p1 &&& (2147483647 : Int32)) % (3 : Int32))), .val (.ref b4_7), .val (.ref b4_8), .val (.ref (f6 w_INTEGER w_TEXT w_DATE w_DECIMAL p4)), .val (.ref (f6 w_INTEGER w_TEXT w_DATE w_DECIMAL p5)), .unset, .unset, .unset, .unset, .unset] [(.ref (f6 w_INTEGER w_TEXT w_DATE w_DECIMAL p5)), (.ref (f6 w_INTEGER w_TEXT w_DATE w_DECIMAL p4))])) X12 hx rfl rfl rfl (pc0 := 57) (pc' := 60) (same := false) rfl (hb hby at_57) rfl (decide_eq_false fun q => hs17 (Value.ref.inj q)) (by decide) (by decide) k) ?_
      show OGot p.tables e below (T12.setTop (mkF m 60 #[.val (.int p1), .val (.int p2), .val (.int p3), .val (.int p4), .val (.int p5), .val (.int p6), .val (.int ((p1 &&& (2147483647 : Int32)) % (3 : Int32))), .val (.ref b4_7), .val (.ref b4_8), .val (.ref (f6 w_INTEGER w_TEXT w_DATE w_DECIMAL p4)), .val (.ref (f6 w_INTEGER w_TEXT w_DATE w_DECIMAL p5)), .unset, .unset, .unset, .unset, .unset] [])) _
      refine OGot.go (fun t k => XS.aload X12.here hx rfl (hb hby at_60) rfl rfl k) ?_
      show OGot p.tables e below (T12.setTop (mkF m 62 #[.val (.int p1), .val (.int p2), .val (.int p3), .val (.int p4), .val (.int p5), .val (.int p6), .val (.int ((p1 &&& (2147483647 : Int32)) % (3 : Int32))), .val (.ref b4_7), .val (.ref b4_8), .val (.ref (f6 w_INTEGER w_TEXT w_DATE w_DECIMAL p4)), .val (.ref (f6 w_INTEGER w_TEXT w_DATE w_DECIMAL p5)), .unset, .unset, .unset, .unset, .unset] [(.ref (f6 w_INTEGER w_TEXT w_DATE w_DECIMAL p4))])) _
      refine OGot.go (fun t k => XS.astore X12.here hx rfl (hb hby at_62) rfl rfl (l' := #[.val (.int p1), .val (.int p2), .val (.int p3), .val (.int p4), .val (.int p5), .val (.int p6), .val (.int ((p1 &&& (2147483647 : Int32)) % (3 : Int32))), .val (.ref b4_7), .val (.ref b4_8), .val (.ref (f6 w_INTEGER w_TEXT w_DATE w_DECIMAL p4)), .val (.ref (f6 w_INTEGER w_TEXT w_DATE w_DECIMAL p4)), .unset, .unset, .unset, .unset, .unset]) rfl k) ?_
      show OGot p.tables e below (T12.setTop (mkF m 64 #[.val (.int p1), .val (.int p2), .val (.int p3), .val (.int p4), .val (.int p5), .val (.int p6), .val (.int ((p1 &&& (2147483647 : Int32)) % (3 : Int32))), .val (.ref b4_7), .val (.ref b4_8), .val (.ref (f6 w_INTEGER w_TEXT w_DATE w_DECIMAL p4)), .val (.ref (f6 w_INTEGER w_TEXT w_DATE w_DECIMAL p4)), .unset, .unset, .unset, .unset, .unset] [])) _
      obtain ⟨T55, h55, X55, e55, E55, A55, D55, -, st55⟩ := newO X12 hx hZ hown (ow hw 44 rfl) (ow hw 45 rfl) (ow hw 46 rfl) e12 (g := (mkF m 64 #[.val (.int p1), .val (.int p2), .val (.int p3), .val (.int p4), .val (.int p5), .val (.int p6), .val (.int ((p1 &&& (2147483647 : Int32)) % (3 : Int32))), .val (.ref b4_7), .val (.ref b4_8), .val (.ref (f6 w_INTEGER w_TEXT w_DATE w_DECIMAL p4)), .val (.ref (f6 w_INTEGER w_TEXT w_DATE w_DECIMAL p4)), .unset, .unset, .unset, .unset, .unset] [])) rfl (hb hby at_64) (by decide) (by decide)
      obtain ⟨b55, g55⟩ : ∃ z, z = T8.heap.size := ⟨_, rfl⟩
      rw [← g55] at A55 D55 st55
      refine OGot.go st55 ?_
      have g_b55 : n0 ≤ b55 := Nat.le_trans (osz O8) (Nat.le_of_eq g55.symm)
      have sy_b55 : T8.heap.size ≤ b55 := Nat.le_of_eq g55.symm
      have O55 := O8.ext E55
      have F55_name : Fld Z h55 b55 "com/example/archipel/archipel/model/Attribute" "name" "Ljava/lang/String;" .null := D55 (Or.inr (ow hw 57 rfl)) (ty := (.object "java/lang/String")) (by decide)
      have F55_type : Fld Z h55 b55 "com/example/archipel/archipel/model/Attribute" "type" "Lcom/example/archipel/archipel/model/DataType;" .null := D55 (Or.inr (ow hw 59 rfl)) (ty := (.object "com/example/archipel/archipel/model/DataType")) (by decide)
      have F55_notNull : Fld Z h55 b55 "com/example/archipel/archipel/model/Attribute" "notNull" "Z" (.int (0 : Int32)) := D55 (Or.inr (ow hw 61 rfl)) (ty := .boolean) (by decide)
      have F55_references : Fld Z h55 b55 "com/example/archipel/archipel/model/Attribute" "references" "Ljava/lang/String;" .null := D55 (Or.inr (ow hw 63 rfl)) (ty := (.object "java/lang/String")) (by decide)
      show OGot p.tables e below (T55.setTop (mkF m 67 #[.val (.int p1), .val (.int p2), .val (.int p3), .val (.int p4), .val (.int p5), .val (.int p6), .val (.int ((p1 &&& (2147483647 : Int32)) % (3 : Int32))), .val (.ref b4_7), .val (.ref b4_8), .val (.ref (f6 w_INTEGER w_TEXT w_DATE w_DECIMAL p4)), .val (.ref (f6 w_INTEGER w_TEXT w_DATE w_DECIMAL p4)), .unset, .unset, .unset, .unset, .unset] [(.ref b55)])) _
      refine OGot.go (fun t k => XS.dup X55.here hx rfl (hb hby at_67) rfl rfl k) ?_
      show OGot p.tables e below (T55.setTop (mkF m 68 #[.val (.int p1), .val (.int p2), .val (.int p3), .val (.int p4), .val (.int p5), .val (.int p6), .val (.int ((p1 &&& (2147483647 : Int32)) % (3 : Int32))), .val (.ref b4_7), .val (.ref b4_8), .val (.ref (f6 w_INTEGER w_TEXT w_DATE w_DECIMAL p4)), .val (.ref (f6 w_INTEGER w_TEXT w_DATE w_DECIMAL p4)), .unset, .unset, .unset, .unset, .unset] [(.ref b55), (.ref b55)])) _
      refine OGot.go (fun t k => XS.aload X55.here hx rfl (hb hby at_68) rfl rfl k) ?_
      show OGot p.tables e below (T55.setTop (mkF m 70 #[.val (.int p1), .val (.int p2), .val (.int p3), .val (.int p4), .val (.int p5), .val (.int p6), .val (.int ((p1 &&& (2147483647 : Int32)) % (3 : Int32))), .val (.ref b4_7), .val (.ref b4_8), .val (.ref (f6 w_INTEGER w_TEXT w_DATE w_DECIMAL p4)), .val (.ref (f6 w_INTEGER w_TEXT w_DATE w_DECIMAL p4)), .unset, .unset, .unset, .unset, .unset] [(.ref b4_7), (.ref b55), (.ref b55)])) _
      refine OGot.go (fun t k => XS.aload X55.here hx rfl (hb hby at_70) rfl rfl k) ?_
      show OGot p.tables e below (T55.setTop (mkF m 72 #[.val (.int p1), .val (.int p2), .val (.int p3), .val (.int p4), .val (.int p5), .val (.int p6), .val (.int ((p1 &&& (2147483647 : Int32)) % (3 : Int32))), .val (.ref b4_7), .val (.ref b4_8), .val (.ref (f6 w_INTEGER w_TEXT w_DATE w_DECIMAL p4)), .val (.ref (f6 w_INTEGER w_TEXT w_DATE w_DECIMAL p4)), .unset, .unset, .unset, .unset, .unset] [(.ref (f6 w_INTEGER w_TEXT w_DATE w_DECIMAL p4)), (.ref b4_7), (.ref b55), (.ref b55)])) _
      refine OGot.go (fun t k => XS.iload X55.here hx rfl (hb hby at_72) rfl k) ?_
      show OGot p.tables e below (T55.setTop (mkF m 74 #[.val (.int p1), .val (.int p2), .val (.int p3), .val (.int p4), .val (.int p5), .val (.int p6), .val (.int ((p1 &&& (2147483647 : Int32)) % (3 : Int32))), .val (.ref b4_7), .val (.ref b4_8), .val (.ref (f6 w_INTEGER w_TEXT w_DATE w_DECIMAL p4)), .val (.ref (f6 w_INTEGER w_TEXT w_DATE w_DECIMAL p4)), .unset, .unset, .unset, .unset, .unset] [(.int p6), (.ref (f6 w_INTEGER w_TEXT w_DATE w_DECIMAL p4)), (.ref b4_7), (.ref b55), (.ref b55)])) _
      refine OGot.go (fun t k => XS.iconst X55.here hx rfl (hb hby at_74) k) ?_
      show OGot p.tables e below (T55.setTop (mkF m 75 #[.val (.int p1), .val (.int p2), .val (.int p3), .val (.int p4), .val (.int p5), .val (.int p6), .val (.int ((p1 &&& (2147483647 : Int32)) % (3 : Int32))), .val (.ref b4_7), .val (.ref b4_8), .val (.ref (f6 w_INTEGER w_TEXT w_DATE w_DECIMAL p4)), .val (.ref (f6 w_INTEGER w_TEXT w_DATE w_DECIMAL p4)), .unset, .unset, .unset, .unset, .unset] [(.int (1 : Int32)), (.int p6), (.ref (f6 w_INTEGER w_TEXT w_DATE w_DECIMAL p4)), (.ref b4_7), (.ref b55), (.ref b55)])) _
      refine OGot.go (fun t k => XS.iand X55.here hx rfl (hb hby at_75) rfl k) ?_
      show OGot p.tables e below (T55.setTop (mkF m 76 #[.val (.int p1), .val (.int p2), .val (.int p3), .val (.int p4), .val (.int p5), .val (.int p6), .val (.int ((p1 &&& (2147483647 : Int32)) % (3 : Int32))), .val (.ref b4_7), .val (.ref b4_8), .val (.ref (f6 w_INTEGER w_TEXT w_DATE w_DECIMAL p4)), .val (.ref (f6 w_INTEGER w_TEXT w_DATE w_DECIMAL p4)), .unset, .unset, .unset, .unset, .unset] [(.int (p6 &&& (1 : Int32))), (.ref (f6 w_INTEGER w_TEXT w_DATE w_DECIMAL p4)), (.ref b4_7), (.ref b55), (.ref b55)])) _
      refine OGot.go (B := T55.setTop (mkF m 84 #[.val (.int p1), .val (.int p2), .val (.int p3), .val (.int p4), .val (.int p5), .val (.int p6), .val (.int ((p1 &&& (2147483647 : Int32)) % (3 : Int32))), .val (.ref b4_7), .val (.ref b4_8), .val (.ref (f6 w_INTEGER w_TEXT w_DATE w_DECIMAL p4)), .val (.ref (f6 w_INTEGER w_TEXT w_DATE w_DECIMAL p4)), .unset, .unset, .unset, .unset, .unset] [(.int (if (p6 &&& (1 : Int32)) = (0 : Int32) then (0 : Int32) else (1 : Int32))), (.ref (f6 w_INTEGER w_TEXT w_DATE w_DECIMAL p4)), (.ref b4_7), (.ref b55), (.ref b55)])) (fun t k => ?_) ?_
      · by_cases hj56 : (p6 &&& (1 : Int32)) = (0 : Int32)
        · refine XS.ifYes X55.here hx rfl (pc0 := 76) (pc' := 83) rfl (hb hby at_76) rfl ((if0 _ _).trans (teq hj56).1) (by decide) (by decide) ?_
          show Steps p.tables e below (T55.setTop (mkF m 83 #[.val (.int p1), .val (.int p2), .val (.int p3), .val (.int p4), .val (.int p5), .val (.int p6), .val (.int ((p1 &&& (2147483647 : Int32)) % (3 : Int32))), .val (.ref b4_7), .val (.ref b4_8), .val (.ref (f6 w_INTEGER w_TEXT w_DATE w_DECIMAL p4)), .val (.ref (f6 w_INTEGER w_TEXT w_DATE w_DECIMAL p4)), .unset, .unset, .unset, .unset, .unset] [(.ref (f6 w_INTEGER w_TEXT w_DATE w_DECIMAL p4)), (.ref b4_7), (.ref b55), (.ref b55)])) _
          refine XS.iconst X55.here hx rfl (hb hby at_83) ?_
          show Steps p.tables e below (T55.setTop (mkF m 84 #[.val (.int p1), .val (.int p2), .val (.int p3), .val (.int p4), .val (.int p5), .val (.int p6), .val (.int ((p1 &&& (2147483647 : Int32)) % (3 : Int32))), .val (.ref b4_7), .val (.ref b4_8), .val (.ref (f6 w_INTEGER w_TEXT w_DATE w_DECIMAL p4)), .val (.ref (f6 w_INTEGER w_TEXT w_DATE w_DECIMAL p4)), .unset, .unset, .unset, .unset, .unset] [(.int (0 : Int32)), (.ref (f6 w_INTEGER w_TEXT w_DATE w_DECIMAL p4)), (.ref b4_7), (.ref b55), (.ref b55)])) _
          simp only [if_pos hj56] at k
          exact k
        · refine XS.ifNo X55.here hx rfl (hb hby at_76) rfl ((if0 _ _).trans (feq hj56).1) ?_
          show Steps p.tables e below (T55.setTop (mkF m 79 #[.val (.int p1), .val (.int p2), .val (.int p3), .val (.int p4), .val (.int p5), .val (.int p6), .val (.int ((p1 &&& (2147483647 : Int32)) % (3 : Int32))), .val (.ref b4_7), .val (.ref b4_8), .val (.ref (f6 w_INTEGER w_TEXT w_DATE w_DECIMAL p4)), .val (.ref (f6 w_INTEGER w_TEXT w_DATE w_DECIMAL p4)), .unset, .unset, .unset, .unset, .unset] [(.ref (f6 w_INTEGER w_TEXT w_DATE w_DECIMAL p4)), (.ref b4_7), (.ref b55), (.ref b55)])) _
          refine XS.iconst X55.here hx rfl (hb hby at_79) ?_
          show Steps p.tables e below (T55.setTop (mkF m 80 #[.val (.int p1), .val (.int p2), .val (.int p3), .val (.int p4), .val (.int p5), .val (.int p6), .val (.int ((p1 &&& (2147483647 : Int32)) % (3 : Int32))), .val (.ref b4_7), .val (.ref b4_8), .val (.ref (f6 w_INTEGER w_TEXT w_DATE w_DECIMAL p4)), .val (.ref (f6 w_INTEGER w_TEXT w_DATE w_DECIMAL p4)), .unset, .unset, .unset, .unset, .unset] [(.int (1 : Int32)), (.ref (f6 w_INTEGER w_TEXT w_DATE w_DECIMAL p4)), (.ref b4_7), (.ref b55), (.ref b55)])) _
          refine XS.goto X55.here hx rfl (pc0 := 80) (pc' := 84) rfl (hb hby at_80) (by decide) (by decide) ?_
          show Steps p.tables e below (T55.setTop (mkF m 84 #[.val (.int p1), .val (.int p2), .val (.int p3), .val (.int p4), .val (.int p5), .val (.int p6), .val (.int ((p1 &&& (2147483647 : Int32)) % (3 : Int32))), .val (.ref b4_7), .val (.ref b4_8), .val (.ref (f6 w_INTEGER w_TEXT w_DATE w_DECIMAL p4)), .val (.ref (f6 w_INTEGER w_TEXT w_DATE w_DECIMAL p4)), .unset, .unset, .unset, .unset, .unset] [(.int (1 : Int32)), (.ref (f6 w_INTEGER w_TEXT w_DATE w_DECIMAL p4)), (.ref b4_7), (.ref b55), (.ref b55)])) _
          simp only [if_neg hj56] at k
          exact k
      show OGot p.tables e below (T55.setTop (mkF m 84 #[.val (.int p1), .val (.int p2), .val (.int p3), .val (.int p4), .val (.int p5), .val (.int p6), .val (.int ((p1 &&& (2147483647 : Int32)) % (3 : Int32))), .val (.ref b4_7), .val (.ref b4_8), .val (.ref (f6 w_INTEGER w_TEXT w_DATE w_DECIMAL p4)), .val (.ref (f6 w_INTEGER w_TEXT w_DATE w_DECIMAL p4)), .unset, .unset, .unset, .unset, .unset] [(.int (if (p6 &&& (1 : Int32)) = (0 : Int32) then (0 : Int32) else (1 : Int32))), (.ref (f6 w_INTEGER w_TEXT w_DATE w_DECIMAL p4)), (.ref b4_7), (.ref b55), (.ref b55)])) _
      refine OGot.go (fun t k => XS.aconstNull X55.here hx rfl (hb hby at_84) k) ?_
      show OGot p.tables e below (T55.setTop (mkF m 85 #[.val (.int p1), .val (.int p2), .val (.int p3), .val (.int p4), .val (.int p5), .val (.int p6), .val (.int ((p1 &&& (2147483647 : Int32)) % (3 : Int32))), .val (.ref b4_7), .val (.ref b4_8), .val (.ref (f6 w_INTEGER w_TEXT w_DATE w_DECIMAL p4)), .val (.ref (f6 w_INTEGER w_TEXT w_DATE w_DECIMAL p4)), .unset, .unset, .unset, .unset, .unset] [.null, (.int (if (p6 &&& (1 : Int32)) = (0 : Int32) then (0 : Int32) else (1 : Int32))), (.ref (f6 w_INTEGER w_TEXT w_DATE w_DECIMAL p4)), (.ref b4_7), (.ref b55), (.ref b55)])) _
      obtain ⟨_, _, ⟨T57, L57, k57, n57⟩, -, X57, ⟨Lc57, hQ57, l57, y57, z57⟩, st57⟩ := X55.specialBack hx (y := (⟨"com/example/archipel/archipel/model/Attribute", "<init>", "(Ljava/lang/String;Lcom/example/archipel/archipel/model/DataType;ZLjava/lang/String;)V"⟩ : MethodName)) rfl hown (mvT hZ (ow hw 47 rfl)) (mvT hZ (ow hw 48 rfl)) (mvT hZ (ow hw 49 rfl)) (by decide) (backOf (W := 1) (rm9 l Z a0 hw [] G b55 b4_7 (f6 w_INTEGER w_TEXT w_DATE w_DECIMAL p4) (if (p6 &&& (1 : Int32)) = (0 : Int32) then (0 : Int32) else (1 : Int32)) h55 n0 O55 A55 F55_name g_b55 F55_type F55_notNull F55_references) hZ (ow hw 49 rfl) (ow hw 46 rfl) (by decide) (by decide)) (g := (mkF m 85 #[.val (.int p1), .val (.int p2), .val (.int p3), .val (.int p4), .val (.int p5), .val (.int p6), .val (.int ((p1 &&& (2147483647 : Int32)) % (3 : Int32))), .val (.ref b4_7), .val (.ref b4_8), .val (.ref (f6 w_INTEGER w_TEXT w_DATE w_DECIMAL p4)), .val (.ref (f6 w_INTEGER w_TEXT w_DATE w_DECIMAL p4)), .unset, .unset, .unset, .unset, .unset] [.null, (.int (if (p6 &&& (1 : Int32)) = (0 : Int32) then (0 : Int32) else (1 : Int32))), (.ref (f6 w_INTEGER w_TEXT w_DATE w_DECIMAL p4)), (.ref b4_7), (.ref b55), (.ref b55)])) rfl (by rw [hml]; rfl) (Steps.refl _) (a := b55) (argsL := [(.ref b4_7), (.ref (f6 w_INTEGER w_TEXT w_DATE w_DECIMAL p4)), (.int (if (p6 &&& (1 : Int32)) = (0 : Int32) then (0 : Int32) else (1 : Int32))), .null]) (rest := [(.ref b55)]) (lenOf pd_8 rfl) rfl (by show 2 * 0 + _ ≤ _; exact Nat.le_of_eq rfl) (hb hby at_85) (fun _ _ => ⟨rfl, e55, (by decide : 5 + 0 ≤ _), (by decide : 14 + 0 ≤ _)⟩)
      dsimp only [Pt.U, Pt.locs, Pt.cells, Pt.slots] at X57 l57 y57 z57 st57 hQ57
      subst l57 y57 z57
      obtain ⟨N57q, rfl, K57, Fo57_0, Fo57_1, Fo57_2, Fo57_3⟩ := hQ57
      have O57 := OKeep.old O55 K57 (ogeS g_b55 (ogeS g_b55 (ogeS g_b55 (ogeS g_b55 oge0))))
      have N57 := Fr.app N12 N57q
      refine OGot.on st57 ?_
      show OGot p.tables e below (T57.setTop (mkF m 88 #[.val (.int p1), .val (.int p2), .val (.int p3), .val (.int p4), .val (.int p5), .val (.int p6), .val (.int ((p1 &&& (2147483647 : Int32)) % (3 : Int32))), .val (.ref b4_7), .val (.ref b4_8), .val (.ref (f6 w_INTEGER w_TEXT w_DATE w_DECIMAL p4)), .val (.ref (f6 w_INTEGER w_TEXT w_DATE w_DECIMAL p4)), .unset, .unset, .unset, .unset, .unset] [(.ref b55)])) _
      refine OGot.go (fun t k => XS.astore X57.here hx rfl (hb hby at_88) rfl rfl (l' := #[.val (.int p1), .val (.int p2), .val (.int p3), .val (.int p4), .val (.int p5), .val (.int p6), .val (.int ((p1 &&& (2147483647 : Int32)) % (3 : Int32))), .val (.ref b4_7), .val (.ref b4_8), .val (.ref (f6 w_INTEGER w_TEXT w_DATE w_DECIMAL p4)), .val (.ref (f6 w_INTEGER w_TEXT w_DATE w_DECIMAL p4)), .val (.ref b55), .unset, .unset, .unset, .unset]) rfl k) ?_
      show OGot p.tables e below (T57.setTop (mkF m 90 #[.val (.int p1), .val (.int p2), .val (.int p3), .val (.int p4), .val (.int p5), .val (.int p6), .val (.int ((p1 &&& (2147483647 : Int32)) % (3 : Int32))), .val (.ref b4_7), .val (.ref b4_8), .val (.ref (f6 w_INTEGER w_TEXT w_DATE w_DECIMAL p4)), .val (.ref (f6 w_INTEGER w_TEXT w_DATE w_DECIMAL p4)), .val (.ref b55), .unset, .unset, .unset, .unset] [])) _
      obtain ⟨T58, h58, X58, e58, E58, A58, D58, -, st58⟩ := newO X57 hx hZ hown (ow hw 44 rfl) (ow hw 45 rfl) (ow hw 46 rfl) rfl (g := (mkF m 90 #[.val (.int p1), .val (.int p2), .val (.int p3), .val (.int p4), .val (.int p5), .val (.int p6), .val (.int ((p1 &&& (2147483647 : Int32)) % (3 : Int32))), .val (.ref b4_7), .val (.ref b4_8), .val (.ref (f6 w_INTEGER w_TEXT w_DATE w_DECIMAL p4)), .val (.ref (f6 w_INTEGER w_TEXT w_DATE w_DECIMAL p4)), .val (.ref b55), .unset, .unset, .unset, .unset] [])) rfl (hb hby at_90) (by decide) (by decide)
      obtain ⟨b58, g58⟩ : ∃ z, z = T57.heap.size := ⟨_, rfl⟩
      rw [← g58] at A58 D58 st58
      refine OGot.go st58 ?_
      have g_b58 : n0 ≤ b58 := Nat.le_trans (osz O57) (Nat.le_of_eq g58.symm)
      have sy_b58 : T57.heap.size ≤ b58 := Nat.le_of_eq g58.symm
      have O58 := O57.ext E58
      have F58_name : Fld Z h58 b58 "com/example/archipel/archipel/model/Attribute" "name" "Ljava/lang/String;" .null := D58 (Or.inr (ow hw 57 rfl)) (ty := (.object "java/lang/String")) (by decide)
      have F58_type : Fld Z h58 b58 "com/example/archipel/archipel/model/Attribute" "type" "Lcom/example/archipel/archipel/model/DataType;" .null := D58 (Or.inr (ow hw 59 rfl)) (ty := (.object "com/example/archipel/archipel/model/DataType")) (by decide)
      have F58_notNull : Fld Z h58 b58 "com/example/archipel/archipel/model/Attribute" "notNull" "Z" (.int (0 : Int32)) := D58 (Or.inr (ow hw 61 rfl)) (ty := .boolean) (by decide)
      have F58_references : Fld Z h58 b58 "com/example/archipel/archipel/model/Attribute" "references" "Ljava/lang/String;" .null := D58 (Or.inr (ow hw 63 rfl)) (ty := (.object "java/lang/String")) (by decide)
      show OGot p.tables e below (T58.setTop (mkF m 93 #[.val (.int p1), .val (.int p2), .val (.int p3), .val (.int p4), .val (.int p5), .val (.int p6), .val (.int ((p1 &&& (2147483647 : Int32)) % (3 : Int32))), .val (.ref b4_7), .val (.ref b4_8), .val (.ref (f6 w_INTEGER w_TEXT w_DATE w_DECIMAL p4)), .val (.ref (f6 w_INTEGER w_TEXT w_DATE w_DECIMAL p4)), .val (.ref b55), .unset, .unset, .unset, .unset] [(.ref b58)])) _
      refine OGot.go (fun t k => XS.dup X58.here hx rfl (hb hby at_93) rfl rfl k) ?_
      show OGot p.tables e below (T58.setTop (mkF m 94 #[.val (.int p1), .val (.int p2), .val (.int p3), .val (.int p4), .val (.int p5), .val (.int p6), .val (.int ((p1 &&& (2147483647 : Int32)) % (3 : Int32))), .val (.ref b4_7), .val (.ref b4_8), .val (.ref (f6 w_INTEGER w_TEXT w_DATE w_DECIMAL p4)), .val (.ref (f6 w_INTEGER w_TEXT w_DATE w_DECIMAL p4)), .val (.ref b55), .unset, .unset, .unset, .unset] [(.ref b58), (.ref b58)])) _
      refine OGot.go (fun t k => XS.aload X58.here hx rfl (hb hby at_94) rfl rfl k) ?_
      show OGot p.tables e below (T58.setTop (mkF m 96 #[.val (.int p1), .val (.int p2), .val (.int p3), .val (.int p4), .val (.int p5), .val (.int p6), .val (.int ((p1 &&& (2147483647 : Int32)) % (3 : Int32))), .val (.ref b4_7), .val (.ref b4_8), .val (.ref (f6 w_INTEGER w_TEXT w_DATE w_DECIMAL p4)), .val (.ref (f6 w_INTEGER w_TEXT w_DATE w_DECIMAL p4)), .val (.ref b55), .unset, .unset, .unset, .unset] [(.ref b4_8), (.ref b58), (.ref b58)])) _
      refine OGot.go (fun t k => XS.aload X58.here hx rfl (hb hby at_96) rfl rfl k) ?_
      show OGot p.tables e below (T58.setTop (mkF m 98 #[.val (.int p1), .val (.int p2), .val (.int p3), .val (.int p4), .val (.int p5), .val (.int p6), .val (.int ((p1 &&& (2147483647 : Int32)) % (3 : Int32))), .val (.ref b4_7), .val (.ref b4_8), .val (.ref (f6 w_INTEGER w_TEXT w_DATE w_DECIMAL p4)), .val (.ref (f6 w_INTEGER w_TEXT w_DATE w_DECIMAL p4)), .val (.ref b55), .unset, .unset, .unset, .unset] [(.ref (f6 w_INTEGER w_TEXT w_DATE w_DECIMAL p4)), (.ref b4_8), (.ref b58), (.ref b58)])) _
      refine OGot.go (fun t k => XS.iload X58.here hx rfl (hb hby at_98) rfl k) ?_
      show OGot p.tables e below (T58.setTop (mkF m 100 #[.val (.int p1), .val (.int p2), .val (.int p3), .val (.int p4), .val (.int p5), .val (.int p6), .val (.int ((p1 &&& (2147483647 : Int32)) % (3 : Int32))), .val (.ref b4_7), .val (.ref b4_8), .val (.ref (f6 w_INTEGER w_TEXT w_DATE w_DECIMAL p4)), .val (.ref (f6 w_INTEGER w_TEXT w_DATE w_DECIMAL p4)), .val (.ref b55), .unset, .unset, .unset, .unset] [(.int p6), (.ref (f6 w_INTEGER w_TEXT w_DATE w_DECIMAL p4)), (.ref b4_8), (.ref b58), (.ref b58)])) _
      refine OGot.go (fun t k => XS.iconst X58.here hx rfl (hb hby at_100) k) ?_
      show OGot p.tables e below (T58.setTop (mkF m 101 #[.val (.int p1), .val (.int p2), .val (.int p3), .val (.int p4), .val (.int p5), .val (.int p6), .val (.int ((p1 &&& (2147483647 : Int32)) % (3 : Int32))), .val (.ref b4_7), .val (.ref b4_8), .val (.ref (f6 w_INTEGER w_TEXT w_DATE w_DECIMAL p4)), .val (.ref (f6 w_INTEGER w_TEXT w_DATE w_DECIMAL p4)), .val (.ref b55), .unset, .unset, .unset, .unset] [(.int (2 : Int32)), (.int p6), (.ref (f6 w_INTEGER w_TEXT w_DATE w_DECIMAL p4)), (.ref b4_8), (.ref b58), (.ref b58)])) _
      refine OGot.go (fun t k => XS.iand X58.here hx rfl (hb hby at_101) rfl k) ?_
      show OGot p.tables e below (T58.setTop (mkF m 102 #[.val (.int p1), .val (.int p2), .val (.int p3), .val (.int p4), .val (.int p5), .val (.int p6), .val (.int ((p1 &&& (2147483647 : Int32)) % (3 : Int32))), .val (.ref b4_7), .val (.ref b4_8), .val (.ref (f6 w_INTEGER w_TEXT w_DATE w_DECIMAL p4)), .val (.ref (f6 w_INTEGER w_TEXT w_DATE w_DECIMAL p4)), .val (.ref b55), .unset, .unset, .unset, .unset] [(.int (p6 &&& (2 : Int32))), (.ref (f6 w_INTEGER w_TEXT w_DATE w_DECIMAL p4)), (.ref b4_8), (.ref b58), (.ref b58)])) _
      refine OGot.go (B := T58.setTop (mkF m 110 #[.val (.int p1), .val (.int p2), .val (.int p3), .val (.int p4), .val (.int p5), .val (.int p6), .val (.int ((p1 &&& (2147483647 : Int32)) % (3 : Int32))), .val (.ref b4_7), .val (.ref b4_8), .val (.ref (f6 w_INTEGER w_TEXT w_DATE w_DECIMAL p4)), .val (.ref (f6 w_INTEGER w_TEXT w_DATE w_DECIMAL p4)), .val (.ref b55), .unset, .unset, .unset, .unset] [(.int (if (p6 &&& (2 : Int32)) = (0 : Int32) then (0 : Int32) else (1 : Int32))), (.ref (f6 w_INTEGER w_TEXT w_DATE w_DECIMAL p4)), (.ref b4_8), (.ref b58), (.ref b58)])) (fun t k => ?_) ?_
      · by_cases hj59 : (p6 &&& (2 : Int32)) = (0 : Int32)
        · refine XS.ifYes X58.here hx rfl (pc0 := 102) (pc' := 109) rfl (hb hby at_102) rfl ((if0 _ _).trans (teq hj59).1) (by decide) (by decide) ?_
          show Steps p.tables e below (T58.setTop (mkF m 109 #[.val (.int p1), .val (.int p2), .val (.int p3), .val (.int p4), .val (.int p5), .val (.int p6), .val (.int ((p1 &&& (2147483647 : Int32)) % (3 : Int32))), .val (.ref b4_7), .val (.ref b4_8), .val (.ref (f6 w_INTEGER w_TEXT w_DATE w_DECIMAL p4)), .val (.ref (f6 w_INTEGER w_TEXT w_DATE w_DECIMAL p4)), .val (.ref b55), .unset, .unset, .unset, .unset] [(.ref (f6 w_INTEGER w_TEXT w_DATE w_DECIMAL p4)), (.ref b4_8), (.ref b58), (.ref b58)])) _
          refine XS.iconst X58.here hx rfl (hb hby at_109) ?_
          show Steps p.tables e below (T58.setTop (mkF m 110 #[.val (.int p1), .val (.int p2), .val (.int p3), .val (.int p4), .val (.int p5), .val (.int p6), .val (.int ((p1 &&& (2147483647 : Int32)) % (3 : Int32))), .val (.ref b4_7), .val (.ref b4_8), .val (.ref (f6 w_INTEGER w_TEXT w_DATE w_DECIMAL p4)), .val (.ref (f6 w_INTEGER w_TEXT w_DATE w_DECIMAL p4)), .val (.ref b55), .unset, .unset, .unset, .unset] [(.int (0 : Int32)), (.ref (f6 w_INTEGER w_TEXT w_DATE w_DECIMAL p4)), (.ref b4_8), (.ref b58), (.ref b58)])) _
          simp only [if_pos hj59] at k
          exact k
        · refine XS.ifNo X58.here hx rfl (hb hby at_102) rfl ((if0 _ _).trans (feq hj59).1) ?_
          show Steps p.tables e below (T58.setTop (mkF m 105 #[.val (.int p1), .val (.int p2), .val (.int p3), .val (.int p4), .val (.int p5), .val (.int p6), .val (.int ((p1 &&& (2147483647 : Int32)) % (3 : Int32))), .val (.ref b4_7), .val (.ref b4_8), .val (.ref (f6 w_INTEGER w_TEXT w_DATE w_DECIMAL p4)), .val (.ref (f6 w_INTEGER w_TEXT w_DATE w_DECIMAL p4)), .val (.ref b55), .unset, .unset, .unset, .unset] [(.ref (f6 w_INTEGER w_TEXT w_DATE w_DECIMAL p4)), (.ref b4_8), (.ref b58), (.ref b58)])) _
          refine XS.iconst X58.here hx rfl (hb hby at_105) ?_
          show Steps p.tables e below (T58.setTop (mkF m 106 #[.val (.int p1), .val (.int p2), .val (.int p3), .val (.int p4), .val (.int p5), .val (.int p6), .val (.int ((p1 &&& (2147483647 : Int32)) % (3 : Int32))), .val (.ref b4_7), .val (.ref b4_8), .val (.ref (f6 w_INTEGER w_TEXT w_DATE w_DECIMAL p4)), .val (.ref (f6 w_INTEGER w_TEXT w_DATE w_DECIMAL p4)), .val (.ref b55), .unset, .unset, .unset, .unset] [(.int (1 : Int32)), (.ref (f6 w_INTEGER w_TEXT w_DATE w_DECIMAL p4)), (.ref b4_8), (.ref b58), (.ref b58)])) _
          refine XS.goto X58.here hx rfl (pc0 := 106) (pc' := 110) rfl (hb hby at_106) (by decide) (by decide) ?_
          show Steps p.tables e below (T58.setTop (mkF m 110 #[.val (.int p1), .val (.int p2), .val (.int p3), .val (.int p4), .val (.int p5), .val (.int p6), .val (.int ((p1 &&& (2147483647 : Int32)) % (3 : Int32))), .val (.ref b4_7), .val (.ref b4_8), .val (.ref (f6 w_INTEGER w_TEXT w_DATE w_DECIMAL p4)), .val (.ref (f6 w_INTEGER w_TEXT w_DATE w_DECIMAL p4)), .val (.ref b55), .unset, .unset, .unset, .unset] [(.int (1 : Int32)), (.ref (f6 w_INTEGER w_TEXT w_DATE w_DECIMAL p4)), (.ref b4_8), (.ref b58), (.ref b58)])) _
          simp only [if_neg hj59] at k
          exact k
      show OGot p.tables e below (T58.setTop (mkF m 110 #[.val (.int p1), .val (.int p2), .val (.int p3), .val (.int p4), .val (.int p5), .val (.int p6), .val (.int ((p1 &&& (2147483647 : Int32)) % (3 : Int32))), .val (.ref b4_7), .val (.ref b4_8), .val (.ref (f6 w_INTEGER w_TEXT w_DATE w_DECIMAL p4)), .val (.ref (f6 w_INTEGER w_TEXT w_DATE w_DECIMAL p4)), .val (.ref b55), .unset, .unset, .unset, .unset] [(.int (if (p6 &&& (2 : Int32)) = (0 : Int32) then (0 : Int32) else (1 : Int32))), (.ref (f6 w_INTEGER w_TEXT w_DATE w_DECIMAL p4)), (.ref b4_8), (.ref b58), (.ref b58)])) _
      refine OGot.go (fun t k => XS.aconstNull X58.here hx rfl (hb hby at_110) k) ?_
      show OGot p.tables e below (T58.setTop (mkF m 111 #[.val (.int p1), .val (.int p2), .val (.int p3), .val (.int p4), .val (.int p5), .val (.int p6), .val (.int ((p1 &&& (2147483647 : Int32)) % (3 : Int32))), .val (.ref b4_7), .val (.ref b4_8), .val (.ref (f6 w_INTEGER w_TEXT w_DATE w_DECIMAL p4)), .val (.ref (f6 w_INTEGER w_TEXT w_DATE w_DECIMAL p4)), .val (.ref b55), .unset, .unset, .unset, .unset] [.null, (.int (if (p6 &&& (2 : Int32)) = (0 : Int32) then (0 : Int32) else (1 : Int32))), (.ref (f6 w_INTEGER w_TEXT w_DATE w_DECIMAL p4)), (.ref b4_8), (.ref b58), (.ref b58)])) _
      obtain ⟨_, _, ⟨T60, L60, k60, n60⟩, -, X60, ⟨Lc60, hQ60, l60, y60, z60⟩, st60⟩ := X58.specialBack hx (y := (⟨"com/example/archipel/archipel/model/Attribute", "<init>", "(Ljava/lang/String;Lcom/example/archipel/archipel/model/DataType;ZLjava/lang/String;)V"⟩ : MethodName)) rfl hown (mvT hZ (ow hw 47 rfl)) (mvT hZ (ow hw 48 rfl)) (mvT hZ (ow hw 49 rfl)) (by decide) (backOf (W := 1) (rm9 l Z a0 hw [] G b58 b4_8 (f6 w_INTEGER w_TEXT w_DATE w_DECIMAL p4) (if (p6 &&& (2 : Int32)) = (0 : Int32) then (0 : Int32) else (1 : Int32)) h58 n0 O58 A58 F58_name g_b58 F58_type F58_notNull F58_references) hZ (ow hw 49 rfl) (ow hw 46 rfl) (by decide) (by decide)) (g := (mkF m 111 #[.val (.int p1), .val (.int p2), .val (.int p3), .val (.int p4), .val (.int p5), .val (.int p6), .val (.int ((p1 &&& (2147483647 : Int32)) % (3 : Int32))), .val (.ref b4_7), .val (.ref b4_8), .val (.ref (f6 w_INTEGER w_TEXT w_DATE w_DECIMAL p4)), .val (.ref (f6 w_INTEGER w_TEXT w_DATE w_DECIMAL p4)), .val (.ref b55), .unset, .unset, .unset, .unset] [.null, (.int (if (p6 &&& (2 : Int32)) = (0 : Int32) then (0 : Int32) else (1 : Int32))), (.ref (f6 w_INTEGER w_TEXT w_DATE w_DECIMAL p4)), (.ref b4_8), (.ref b58), (.ref b58)])) rfl (by rw [hml]; rfl) (Steps.refl _) (a := b58) (argsL := [(.ref b4_8), (.ref (f6 w_INTEGER w_TEXT w_DATE w_DECIMAL p4)), (.int (if (p6 &&& (2 : Int32)) = (0 : Int32) then (0 : Int32) else (1 : Int32))), .null]) (rest := [(.ref b58)]) (lenOf pd_8 rfl) rfl (by show 2 * 0 + _ ≤ _; exact Nat.le_of_eq rfl) (hb hby at_111) (fun _ _ => ⟨rfl, e58, (by decide : 6 + 0 ≤ _), (by decide : 18 + 0 ≤ _)⟩)
      dsimp only [Pt.U, Pt.locs, Pt.cells, Pt.slots] at X60 l60 y60 z60 st60 hQ60
      subst l60 y60 z60
      obtain ⟨N60q, rfl, K60, Fo60_0, Fo60_1, Fo60_2, Fo60_3⟩ := hQ60
      have O60 := OKeep.old O58 K60 (ogeS g_b58 (ogeS g_b58 (ogeS g_b58 (ogeS g_b58 oge0))))
      have N60 := Fr.app N57 N60q
      refine OGot.on st60 ?_
      show OGot p.tables e below (T60.setTop (mkF m 114 #[.val (.int p1), .val (.int p2), .val (.int p3), .val (.int p4), .val (.int p5), .val (.int p6), .val (.int ((p1 &&& (2147483647 : Int32)) % (3 : Int32))), .val (.ref b4_7), .val (.ref b4_8), .val (.ref (f6 w_INTEGER w_TEXT w_DATE w_DECIMAL p4)), .val (.ref (f6 w_INTEGER w_TEXT w_DATE w_DECIMAL p4)), .val (.ref b55), .unset, .unset, .unset, .unset] [(.ref b58)])) _
      refine OGot.go (fun t k => XS.astore X60.here hx rfl (hb hby at_114) rfl rfl (l' := #[.val (.int p1), .val (.int p2), .val (.int p3), .val (.int p4), .val (.int p5), .val (.int p6), .val (.int ((p1 &&& (2147483647 : Int32)) % (3 : Int32))), .val (.ref b4_7), .val (.ref b4_8), .val (.ref (f6 w_INTEGER w_TEXT w_DATE w_DECIMAL p4)), .val (.ref (f6 w_INTEGER w_TEXT w_DATE w_DECIMAL p4)), .val (.ref b55), .val (.ref b58), .unset, .unset, .unset]) rfl k) ?_
      show OGot p.tables e below (T60.setTop (mkF m 116 #[.val (.int p1), .val (.int p2), .val (.int p3), .val (.int p4), .val (.int p5), .val (.int p6), .val (.int ((p1 &&& (2147483647 : Int32)) % (3 : Int32))), .val (.ref b4_7), .val (.ref b4_8), .val (.ref (f6 w_INTEGER w_TEXT w_DATE w_DECIMAL p4)), .val (.ref (f6 w_INTEGER w_TEXT w_DATE w_DECIMAL p4)), .val (.ref b55), .val (.ref b58), .unset, .unset, .unset] [])) _
      refine OGot.go (fun t k => XS.iload X60.here hx rfl (hb hby at_116) rfl k) ?_
      show OGot p.tables e below (T60.setTop (mkF m 118 #[.val (.int p1), .val (.int p2), .val (.int p3), .val (.int p4), .val (.int p5), .val (.int p6), .val (.int ((p1 &&& (2147483647 : Int32)) % (3 : Int32))), .val (.ref b4_7), .val (.ref b4_8), .val (.ref (f6 w_INTEGER w_TEXT w_DATE w_DECIMAL p4)), .val (.ref (f6 w_INTEGER w_TEXT w_DATE w_DECIMAL p4)), .val (.ref b55), .val (.ref b58), .unset, .unset, .unset] [(.int ((p1 &&& (2147483647 : Int32)) % (3 : Int32)))])) _
      rcases own_rem3 p1 with hk61 | hk62 | hk63
      · rw [hk61]
        show OGot p.tables e below (T60.setTop (mkF m 118 #[.val (.int p1), .val (.int p2), .val (.int p3), .val (.int p4), .val (.int p5), .val (.int p6), .val (.int (0 : Int32)), .val (.ref b4_7), .val (.ref b4_8), .val (.ref (f6 w_INTEGER w_TEXT w_DATE w_DECIMAL p4)), .val (.ref (f6 w_INTEGER w_TEXT w_DATE w_DECIMAL p4)), .val (.ref b55), .val (.ref b58), .unset, .unset, .unset] [(.int (0 : Int32))])) _
        refine OGot.go (fun t k => XS.ifNo X60.here hx rfl (hb hby at_118) rfl (by decide) k) ?_
        show OGot p.tables e below (T60.setTop (mkF m 121 #[.val (.int p1), .val (.int p2), .val (.int p3), .val (.int p4), .val (.int p5), .val (.int p6), .val (.int (0 : Int32)), .val (.ref b4_7), .val (.ref b4_8), .val (.ref (f6 w_INTEGER w_TEXT w_DATE w_DECIMAL p4)), .val (.ref (f6 w_INTEGER w_TEXT w_DATE w_DECIMAL p4)), .val (.ref b55), .val (.ref b58), .unset, .unset, .unset] [])) _
        refine OGot.go (fun t k => XS.aconstNull X60.here hx rfl (hb hby at_121) k) ?_
        show OGot p.tables e below (T60.setTop (mkF m 122 #[.val (.int p1), .val (.int p2), .val (.int p3), .val (.int p4), .val (.int p5), .val (.int p6), .val (.int (0 : Int32)), .val (.ref b4_7), .val (.ref b4_8), .val (.ref (f6 w_INTEGER w_TEXT w_DATE w_DECIMAL p4)), .val (.ref (f6 w_INTEGER w_TEXT w_DATE w_DECIMAL p4)), .val (.ref b55), .val (.ref b58), .unset, .unset, .unset] [.null])) _
        refine OGot.go (fun t k => XS.goto X60.here hx rfl (pc0 := 122) (pc' := 127) rfl (hb hby at_122) (by decide) (by decide) k) ?_
        show OGot p.tables e below (T60.setTop (mkF m 127 #[.val (.int p1), .val (.int p2), .val (.int p3), .val (.int p4), .val (.int p5), .val (.int p6), .val (.int (0 : Int32)), .val (.ref b4_7), .val (.ref b4_8), .val (.ref (f6 w_INTEGER w_TEXT w_DATE w_DECIMAL p4)), .val (.ref (f6 w_INTEGER w_TEXT w_DATE w_DECIMAL p4)), .val (.ref b55), .val (.ref b58), .unset, .unset, .unset] [.null])) _
        refine OGot.go (fun t k => XS.astore X60.here hx rfl (hb hby at_127) rfl rfl (l' := #[.val (.int p1), .val (.int p2), .val (.int p3), .val (.int p4), .val (.int p5), .val (.int p6), .val (.int (0 : Int32)), .val (.ref b4_7), .val (.ref b4_8), .val (.ref (f6 w_INTEGER w_TEXT w_DATE w_DECIMAL p4)), .val (.ref (f6 w_INTEGER w_TEXT w_DATE w_DECIMAL p4)), .val (.ref b55), .val (.ref b58), .val .null, .unset, .unset]) rfl k) ?_
        show OGot p.tables e below (T60.setTop (mkF m 129 #[.val (.int p1), .val (.int p2), .val (.int p3), .val (.int p4), .val (.int p5), .val (.int p6), .val (.int (0 : Int32)), .val (.ref b4_7), .val (.ref b4_8), .val (.ref (f6 w_INTEGER w_TEXT w_DATE w_DECIMAL p4)), .val (.ref (f6 w_INTEGER w_TEXT w_DATE w_DECIMAL p4)), .val (.ref b55), .val (.ref b58), .val .null, .unset, .unset] [])) _
        refine OGot.go (fun t k => XS.iload X60.here hx rfl (hb hby at_129) rfl k) ?_
        show OGot p.tables e below (T60.setTop (mkF m 131 #[.val (.int p1), .val (.int p2), .val (.int p3), .val (.int p4), .val (.int p5), .val (.int p6), .val (.int (0 : Int32)), .val (.ref b4_7), .val (.ref b4_8), .val (.ref (f6 w_INTEGER w_TEXT w_DATE w_DECIMAL p4)), .val (.ref (f6 w_INTEGER w_TEXT w_DATE w_DECIMAL p4)), .val (.ref b55), .val (.ref b58), .val .null, .unset, .unset] [(.int (0 : Int32))])) _
        refine OGot.go (fun t k => XS.iconst X60.here hx rfl (hb hby at_131) k) ?_
        show OGot p.tables e below (T60.setTop (mkF m 132 #[.val (.int p1), .val (.int p2), .val (.int p3), .val (.int p4), .val (.int p5), .val (.int p6), .val (.int (0 : Int32)), .val (.ref b4_7), .val (.ref b4_8), .val (.ref (f6 w_INTEGER w_TEXT w_DATE w_DECIMAL p4)), .val (.ref (f6 w_INTEGER w_TEXT w_DATE w_DECIMAL p4)), .val (.ref b55), .val (.ref b58), .val .null, .unset, .unset] [(.int (1 : Int32)), (.int (0 : Int32))])) _
        refine OGot.go (fun t k => XS.icmpYes X60.here hx rfl (pc0 := 132) (pc' := 139) rfl (hb hby at_132) rfl (by decide) (by decide) (by decide) k) ?_
        show OGot p.tables e below (T60.setTop (mkF m 139 #[.val (.int p1), .val (.int p2), .val (.int p3), .val (.int p4), .val (.int p5), .val (.int p6), .val (.int (0 : Int32)), .val (.ref b4_7), .val (.ref b4_8), .val (.ref (f6 w_INTEGER w_TEXT w_DATE w_DECIMAL p4)), .val (.ref (f6 w_INTEGER w_TEXT w_DATE w_DECIMAL p4)), .val (.ref b55), .val (.ref b58), .val .null, .unset, .unset] [])) _
        refine OGot.go (fun t k => XS.aload X60.here hx rfl (hb hby at_139) rfl rfl k) ?_
        show OGot p.tables e below (T60.setTop (mkF m 141 #[.val (.int p1), .val (.int p2), .val (.int p3), .val (.int p4), .val (.int p5), .val (.int p6), .val (.int (0 : Int32)), .val (.ref b4_7), .val (.ref b4_8), .val (.ref (f6 w_INTEGER w_TEXT w_DATE w_DECIMAL p4)), .val (.ref (f6 w_INTEGER w_TEXT w_DATE w_DECIMAL p4)), .val (.ref b55), .val (.ref b58), .val .null, .unset, .unset] [(.ref b58)])) _
        refine OGot.go (fun t k => XS.astore X60.here hx rfl (hb hby at_141) rfl rfl (l' := #[.val (.int p1), .val (.int p2), .val (.int p3), .val (.int p4), .val (.int p5), .val (.int p6), .val (.int (0 : Int32)), .val (.ref b4_7), .val (.ref b4_8), .val (.ref (f6 w_INTEGER w_TEXT w_DATE w_DECIMAL p4)), .val (.ref (f6 w_INTEGER w_TEXT w_DATE w_DECIMAL p4)), .val (.ref b55), .val (.ref b58), .val .null, .val (.ref b58), .unset]) rfl k) ?_
        show OGot p.tables e below (T60.setTop (mkF m 143 #[.val (.int p1), .val (.int p2), .val (.int p3), .val (.int p4), .val (.int p5), .val (.int p6), .val (.int (0 : Int32)), .val (.ref b4_7), .val (.ref b4_8), .val (.ref (f6 w_INTEGER w_TEXT w_DATE w_DECIMAL p4)), .val (.ref (f6 w_INTEGER w_TEXT w_DATE w_DECIMAL p4)), .val (.ref b55), .val (.ref b58), .val .null, .val (.ref b58), .unset] [])) _
        obtain ⟨T64, h64, X64, e64, E64, A64, D64, -, st64⟩ := newO X60 hx hZ hown (ow hw 64 rfl) (ow hw 65 rfl) (ow hw 66 rfl) rfl (g := (mkF m 143 #[.val (.int p1), .val (.int p2), .val (.int p3), .val (.int p4), .val (.int p5), .val (.int p6), .val (.int (0 : Int32)), .val (.ref b4_7), .val (.ref b4_8), .val (.ref (f6 w_INTEGER w_TEXT w_DATE w_DECIMAL p4)), .val (.ref (f6 w_INTEGER w_TEXT w_DATE w_DECIMAL p4)), .val (.ref b55), .val (.ref b58), .val .null, .val (.ref b58), .unset] [])) rfl (hb hby at_143) (by decide) (by decide)
        obtain ⟨b64, g64⟩ : ∃ z, z = T60.heap.size := ⟨_, rfl⟩
        rw [← g64] at A64 D64 st64
        refine OGot.go st64 ?_
        have g_b64 : n0 ≤ b64 := Nat.le_trans (osz O60) (Nat.le_of_eq g64.symm)
        have sy_b64 : T60.heap.size ≤ b64 := Nat.le_of_eq g64.symm
        have O64 := O60.ext E64
        have F64_before : Fld Z h64 b64 "com/example/archipel/archipel/model/AttributeChange" "before" "Lcom/example/archipel/archipel/model/Entity;" .null := D64 (Or.inr (ow hw 72 rfl)) (ty := (.object "com/example/archipel/archipel/model/Entity")) (by decide)
        have F64_after : Fld Z h64 b64 "com/example/archipel/archipel/model/AttributeChange" "after" "Lcom/example/archipel/archipel/model/Entity;" .null := D64 (Or.inr (ow hw 74 rfl)) (ty := (.object "com/example/archipel/archipel/model/Entity")) (by decide)
        have F64_was : Fld Z h64 b64 "com/example/archipel/archipel/model/AttributeChange" "was" "Lcom/example/archipel/archipel/model/Attribute;" .null := D64 (Or.inr (ow hw 76 rfl)) (ty := (.object "com/example/archipel/archipel/model/Attribute")) (by decide)
        have F64_becomes : Fld Z h64 b64 "com/example/archipel/archipel/model/AttributeChange" "becomes" "Lcom/example/archipel/archipel/model/Attribute;" .null := D64 (Or.inr (ow hw 78 rfl)) (ty := (.object "com/example/archipel/archipel/model/Attribute")) (by decide)
        show OGot p.tables e below (T64.setTop (mkF m 146 #[.val (.int p1), .val (.int p2), .val (.int p3), .val (.int p4), .val (.int p5), .val (.int p6), .val (.int (0 : Int32)), .val (.ref b4_7), .val (.ref b4_8), .val (.ref (f6 w_INTEGER w_TEXT w_DATE w_DECIMAL p4)), .val (.ref (f6 w_INTEGER w_TEXT w_DATE w_DECIMAL p4)), .val (.ref b55), .val (.ref b58), .val .null, .val (.ref b58), .unset] [(.ref b64)])) _
        refine OGot.go (fun t k => XS.dup X64.here hx rfl (hb hby at_146) rfl rfl k) ?_
        show OGot p.tables e below (T64.setTop (mkF m 147 #[.val (.int p1), .val (.int p2), .val (.int p3), .val (.int p4), .val (.int p5), .val (.int p6), .val (.int (0 : Int32)), .val (.ref b4_7), .val (.ref b4_8), .val (.ref (f6 w_INTEGER w_TEXT w_DATE w_DECIMAL p4)), .val (.ref (f6 w_INTEGER w_TEXT w_DATE w_DECIMAL p4)), .val (.ref b55), .val (.ref b58), .val .null, .val (.ref b58), .unset] [(.ref b64), (.ref b64)])) _
        refine OGot.go (fun t k => XS.aconstNull X64.here hx rfl (hb hby at_147) k) ?_
        show OGot p.tables e below (T64.setTop (mkF m 148 #[.val (.int p1), .val (.int p2), .val (.int p3), .val (.int p4), .val (.int p5), .val (.int p6), .val (.int (0 : Int32)), .val (.ref b4_7), .val (.ref b4_8), .val (.ref (f6 w_INTEGER w_TEXT w_DATE w_DECIMAL p4)), .val (.ref (f6 w_INTEGER w_TEXT w_DATE w_DECIMAL p4)), .val (.ref b55), .val (.ref b58), .val .null, .val (.ref b58), .unset] [.null, (.ref b64), (.ref b64)])) _
        refine OGot.go (fun t k => XS.aconstNull X64.here hx rfl (hb hby at_148) k) ?_
        show OGot p.tables e below (T64.setTop (mkF m 149 #[.val (.int p1), .val (.int p2), .val (.int p3), .val (.int p4), .val (.int p5), .val (.int p6), .val (.int (0 : Int32)), .val (.ref b4_7), .val (.ref b4_8), .val (.ref (f6 w_INTEGER w_TEXT w_DATE w_DECIMAL p4)), .val (.ref (f6 w_INTEGER w_TEXT w_DATE w_DECIMAL p4)), .val (.ref b55), .val (.ref b58), .val .null, .val (.ref b58), .unset] [.null, .null, (.ref b64), (.ref b64)])) _
        refine OGot.go (fun t k => XS.aload X64.here hx rfl (hb hby at_149) rfl rfl k) ?_
        show OGot p.tables e below (T64.setTop (mkF m 151 #[.val (.int p1), .val (.int p2), .val (.int p3), .val (.int p4), .val (.int p5), .val (.int p6), .val (.int (0 : Int32)), .val (.ref b4_7), .val (.ref b4_8), .val (.ref (f6 w_INTEGER w_TEXT w_DATE w_DECIMAL p4)), .val (.ref (f6 w_INTEGER w_TEXT w_DATE w_DECIMAL p4)), .val (.ref b55), .val (.ref b58), .val .null, .val (.ref b58), .unset] [.null, .null, .null, (.ref b64), (.ref b64)])) _
        refine OGot.go (fun t k => XS.aload X64.here hx rfl (hb hby at_151) rfl rfl k) ?_
        show OGot p.tables e below (T64.setTop (mkF m 153 #[.val (.int p1), .val (.int p2), .val (.int p3), .val (.int p4), .val (.int p5), .val (.int p6), .val (.int (0 : Int32)), .val (.ref b4_7), .val (.ref b4_8), .val (.ref (f6 w_INTEGER w_TEXT w_DATE w_DECIMAL p4)), .val (.ref (f6 w_INTEGER w_TEXT w_DATE w_DECIMAL p4)), .val (.ref b55), .val (.ref b58), .val .null, .val (.ref b58), .unset] [(.ref b58), .null, .null, .null, (.ref b64), (.ref b64)])) _
        obtain ⟨_, _, ⟨T65, L65, k65, n65⟩, -, X65, ⟨Lc65, hQ65, l65, y65, z65⟩, st65⟩ := X64.specialBack hx (y := (⟨"com/example/archipel/archipel/model/AttributeChange", "<init>", "(Lcom/example/archipel/archipel/model/Entity;Lcom/example/archipel/archipel/model/Entity;Lcom/example/archipel/archipel/model/Attribute;Lcom/example/archipel/archipel/model/Attribute;)V"⟩ : MethodName)) rfl hown (mvT hZ (ow hw 67 rfl)) (mvT hZ (ow hw 68 rfl)) (mvT hZ (ow hw 69 rfl)) (by decide) (backOf (W := 1) (rm11 l Z a0 hw [] G b64 b58 h64 n0 O64 A64 F64_before g_b64 F64_after F64_was F64_becomes) hZ (ow hw 69 rfl) (ow hw 66 rfl) (by decide) (by decide)) (g := (mkF m 153 #[.val (.int p1), .val (.int p2), .val (.int p3), .val (.int p4), .val (.int p5), .val (.int p6), .val (.int (0 : Int32)), .val (.ref b4_7), .val (.ref b4_8), .val (.ref (f6 w_INTEGER w_TEXT w_DATE w_DECIMAL p4)), .val (.ref (f6 w_INTEGER w_TEXT w_DATE w_DECIMAL p4)), .val (.ref b55), .val (.ref b58), .val .null, .val (.ref b58), .unset] [(.ref b58), .null, .null, .null, (.ref b64), (.ref b64)])) rfl (by rw [hml]; rfl) (Steps.refl _) (a := b64) (argsL := [.null, .null, .null, (.ref b58)]) (rest := [(.ref b64)]) (lenOf pd_9 rfl) rfl (by show 2 * 0 + _ ≤ _; exact Nat.le_of_eq rfl) (hb hby at_153) (fun _ _ => ⟨rfl, e64, (by decide : 7 + 0 ≤ _), (by decide : 22 + 0 ≤ _)⟩)
        dsimp only [Pt.U, Pt.locs, Pt.cells, Pt.slots] at X65 l65 y65 z65 st65 hQ65
        subst l65 y65 z65
        obtain ⟨N65q, rfl, K65, Fo65_0, Fo65_1, Fo65_2, Fo65_3⟩ := hQ65
        have O65 := OKeep.old O64 K65 (ogeS g_b64 (ogeS g_b64 (ogeS g_b64 (ogeS g_b64 oge0))))
        have N65 := Fr.app N60 N65q
        refine OGot.on st65 ?_
        show OGot p.tables e below (T65.setTop (mkF m 156 #[.val (.int p1), .val (.int p2), .val (.int p3), .val (.int p4), .val (.int p5), .val (.int p6), .val (.int (0 : Int32)), .val (.ref b4_7), .val (.ref b4_8), .val (.ref (f6 w_INTEGER w_TEXT w_DATE w_DECIMAL p4)), .val (.ref (f6 w_INTEGER w_TEXT w_DATE w_DECIMAL p4)), .val (.ref b55), .val (.ref b58), .val .null, .val (.ref b58), .unset] [(.ref b64)])) _
        refine OGot.go (fun t k => XS.astore X65.here hx rfl (hb hby at_156) rfl rfl (l' := #[.val (.int p1), .val (.int p2), .val (.int p3), .val (.int p4), .val (.int p5), .val (.int p6), .val (.int (0 : Int32)), .val (.ref b4_7), .val (.ref b4_8), .val (.ref (f6 w_INTEGER w_TEXT w_DATE w_DECIMAL p4)), .val (.ref (f6 w_INTEGER w_TEXT w_DATE w_DECIMAL p4)), .val (.ref b55), .val (.ref b58), .val .null, .val (.ref b58), .val (.ref b64)]) rfl k) ?_
        show OGot p.tables e below (T65.setTop (mkF m 158 #[.val (.int p1), .val (.int p2), .val (.int p3), .val (.int p4), .val (.int p5), .val (.int p6), .val (.int (0 : Int32)), .val (.ref b4_7), .val (.ref b4_8), .val (.ref (f6 w_INTEGER w_TEXT w_DATE w_DECIMAL p4)), .val (.ref (f6 w_INTEGER w_TEXT w_DATE w_DECIMAL p4)), .val (.ref b55), .val (.ref b58), .val .null, .val (.ref b58), .val (.ref b64)] [])) _
        refine OGot.go (fun t k => XS.aload X65.here hx rfl (hb hby at_158) rfl rfl k) ?_
        show OGot p.tables e below (T65.setTop (mkF m 160 #[.val (.int p1), .val (.int p2), .val (.int p3), .val (.int p4), .val (.int p5), .val (.int p6), .val (.int (0 : Int32)), .val (.ref b4_7), .val (.ref b4_8), .val (.ref (f6 w_INTEGER w_TEXT w_DATE w_DECIMAL p4)), .val (.ref (f6 w_INTEGER w_TEXT w_DATE w_DECIMAL p4)), .val (.ref b55), .val (.ref b58), .val .null, .val (.ref b58), .val (.ref b64)] [(.ref b64)])) _
        obtain ⟨cq66, kq66, q66a, q66b, q66c⟩ := isOf hZ rfl (OKeep.exa A64 K65)
        obtain ⟨_, _, ⟨T66, L66, k66, n66⟩, -, X66, ⟨Lc66, hQ66, l66, y66, z66⟩, st66⟩ := X65.virtualBack hx (y := (⟨"com/example/archipel/archipel/model/AttributeChange", "added", "()Z"⟩ : MethodName)) (z := (⟨"com/example/archipel/archipel/model/AttributeChange", "added", "()Z"⟩ : MethodName)) hown (mvT hZ (ow hw 79 rfl)) (mvT hZ (ow hw 80 rfl)) (notFace_of_selects (args := #[]) (mvT hZ (ow hw 82 rfl))) (mvT hZ (ow hw 82 rfl)) (mvT hZ (ow hw 81 rfl)) (by decide) (backOf (W := 0) (rm12 l Z a0 hw [] G b64 T65.heap n0 O65 Fo65_2) hZ (ow hw 83 rfl) (ow hw 66 rfl) (by decide) (by decide)) q66a q66c (g := (mkF m 160 #[.val (.int p1), .val (.int p2), .val (.int p3), .val (.int p4), .val (.int p5), .val (.int p6), .val (.int (0 : Int32)), .val (.ref b4_7), .val (.ref b4_8), .val (.ref (f6 w_INTEGER w_TEXT w_DATE w_DECIMAL p4)), .val (.ref (f6 w_INTEGER w_TEXT w_DATE w_DECIMAL p4)), .val (.ref b55), .val (.ref b58), .val .null, .val (.ref b58), .val (.ref b64)] [(.ref b64)])) rfl (by rw [hml]; rfl) (Steps.refl _) (argsL := []) (rest := []) (lenOf pd_10 rfl) rfl (by show 2 * 0 + _ ≤ _; exact Nat.le_of_eq rfl) (hb hby at_160) (fun _ _ => ⟨rfl, rfl, (by decide : 7 + 0 ≤ _), (by decide : 22 + 0 ≤ _)⟩)
        dsimp only [Pt.U, Pt.locs, Pt.cells, Pt.slots] at X66 l66 y66 z66 st66 hQ66
        subst l66 y66 z66
        obtain ⟨rfl, N66q, e66⟩ := hQ66
        have N66 := Fr.app N65 N66q
        refine OGot.on st66 ?_
        show OGot p.tables e below (T66.setTop (mkF m 163 #[.val (.int p1), .val (.int p2), .val (.int p3), .val (.int p4), .val (.int p5), .val (.int p6), .val (.int (0 : Int32)), .val (.ref b4_7), .val (.ref b4_8), .val (.ref (f6 w_INTEGER w_TEXT w_DATE w_DECIMAL p4)), .val (.ref (f6 w_INTEGER w_TEXT w_DATE w_DECIMAL p4)), .val (.ref b55), .val (.ref b58), .val .null, .val (.ref b58), .val (.ref b64)] [(.int (1 : Int32))])) _
        refine OGot.go (fun t k => XS.iload X66.here hx rfl (hb hby at_163) rfl k) ?_
        show OGot p.tables e below (T66.setTop (mkF m 165 #[.val (.int p1), .val (.int p2), .val (.int p3), .val (.int p4), .val (.int p5), .val (.int p6), .val (.int (0 : Int32)), .val (.ref b4_7), .val (.ref b4_8), .val (.ref (f6 w_INTEGER w_TEXT w_DATE w_DECIMAL p4)), .val (.ref (f6 w_INTEGER w_TEXT w_DATE w_DECIMAL p4)), .val (.ref b55), .val (.ref b58), .val .null, .val (.ref b58), .val (.ref b64)] [(.int (0 : Int32)), (.int (1 : Int32))])) _
        refine OGot.go (fun t k => XS.ifNo X66.here hx rfl (hb hby at_165) rfl (by decide) k) ?_
        show OGot p.tables e below (T66.setTop (mkF m 168 #[.val (.int p1), .val (.int p2), .val (.int p3), .val (.int p4), .val (.int p5), .val (.int p6), .val (.int (0 : Int32)), .val (.ref b4_7), .val (.ref b4_8), .val (.ref (f6 w_INTEGER w_TEXT w_DATE w_DECIMAL p4)), .val (.ref (f6 w_INTEGER w_TEXT w_DATE w_DECIMAL p4)), .val (.ref b55), .val (.ref b58), .val .null, .val (.ref b58), .val (.ref b64)] [(.int (1 : Int32))])) _
        refine OGot.go (fun t k => XS.iconst X66.here hx rfl (hb hby at_168) k) ?_
        show OGot p.tables e below (T66.setTop (mkF m 169 #[.val (.int p1), .val (.int p2), .val (.int p3), .val (.int p4), .val (.int p5), .val (.int p6), .val (.int (0 : Int32)), .val (.ref b4_7), .val (.ref b4_8), .val (.ref (f6 w_INTEGER w_TEXT w_DATE w_DECIMAL p4)), .val (.ref (f6 w_INTEGER w_TEXT w_DATE w_DECIMAL p4)), .val (.ref b55), .val (.ref b58), .val .null, .val (.ref b58), .val (.ref b64)] [(.int (1 : Int32)), (.int (1 : Int32))])) _
        refine OGot.go (fun t k => XS.goto X66.here hx rfl (pc0 := 169) (pc' := 173) rfl (hb hby at_169) (by decide) (by decide) k) ?_
        show OGot p.tables e below (T66.setTop (mkF m 173 #[.val (.int p1), .val (.int p2), .val (.int p3), .val (.int p4), .val (.int p5), .val (.int p6), .val (.int (0 : Int32)), .val (.ref b4_7), .val (.ref b4_8), .val (.ref (f6 w_INTEGER w_TEXT w_DATE w_DECIMAL p4)), .val (.ref (f6 w_INTEGER w_TEXT w_DATE w_DECIMAL p4)), .val (.ref b55), .val (.ref b58), .val .null, .val (.ref b58), .val (.ref b64)] [(.int (1 : Int32)), (.int (1 : Int32))])) _
        refine OGot.go (fun t k => XS.icmpNo X66.here hx rfl (hb hby at_173) rfl (by decide) k) ?_
        show OGot p.tables e below (T66.setTop (mkF m 176 #[.val (.int p1), .val (.int p2), .val (.int p3), .val (.int p4), .val (.int p5), .val (.int p6), .val (.int (0 : Int32)), .val (.ref b4_7), .val (.ref b4_8), .val (.ref (f6 w_INTEGER w_TEXT w_DATE w_DECIMAL p4)), .val (.ref (f6 w_INTEGER w_TEXT w_DATE w_DECIMAL p4)), .val (.ref b55), .val (.ref b58), .val .null, .val (.ref b58), .val (.ref b64)] [])) _
        refine OGot.go (fun t k => XS.iconst X66.here hx rfl (hb hby at_176) k) ?_
        show OGot p.tables e below (T66.setTop (mkF m 177 #[.val (.int p1), .val (.int p2), .val (.int p3), .val (.int p4), .val (.int p5), .val (.int p6), .val (.int (0 : Int32)), .val (.ref b4_7), .val (.ref b4_8), .val (.ref (f6 w_INTEGER w_TEXT w_DATE w_DECIMAL p4)), .val (.ref (f6 w_INTEGER w_TEXT w_DATE w_DECIMAL p4)), .val (.ref b55), .val (.ref b58), .val .null, .val (.ref b58), .val (.ref b64)] [(.int (1 : Int32))])) _
        refine OGot.go (fun t k => XS.goto X66.here hx rfl (pc0 := 177) (pc' := 181) rfl (hb hby at_177) (by decide) (by decide) k) ?_
        show OGot p.tables e below (T66.setTop (mkF m 181 #[.val (.int p1), .val (.int p2), .val (.int p3), .val (.int p4), .val (.int p5), .val (.int p6), .val (.int (0 : Int32)), .val (.ref b4_7), .val (.ref b4_8), .val (.ref (f6 w_INTEGER w_TEXT w_DATE w_DECIMAL p4)), .val (.ref (f6 w_INTEGER w_TEXT w_DATE w_DECIMAL p4)), .val (.ref b55), .val (.ref b58), .val .null, .val (.ref b58), .val (.ref b64)] [(.int (1 : Int32))])) _
        obtain ⟨fs, hr, hrun, hended, hW, hsame⟩ := X66.leave (v := some (.int (1 : Int32))) (fun h => by rw [Bd.returns] at h; cases h)
        refine ⟨_, _, retN X66 hx (t := .boolean) Bd.returns (by simp) (hb hby at_181) hr, hrun, hended, _, _, rfl, ?_, ⟨_, rfl⟩, hW, hsame.mono (by decide) (by decide)⟩
        exact (⟨rfl, N66⟩ : Q0 Z w_INTEGER w_TEXT w_DATE w_DECIMAL i_COMPACT_STRINGS p1 p2 p3 p4 p5 p6 h0 n0 _ T66.heap _)
      · rw [hk62]
        show OGot p.tables e below (T60.setTop (mkF m 118 #[.val (.int p1), .val (.int p2), .val (.int p3), .val (.int p4), .val (.int p5), .val (.int p6), .val (.int (1 : Int32)), .val (.ref b4_7), .val (.ref b4_8), .val (.ref (f6 w_INTEGER w_TEXT w_DATE w_DECIMAL p4)), .val (.ref (f6 w_INTEGER w_TEXT w_DATE w_DECIMAL p4)), .val (.ref b55), .val (.ref b58), .unset, .unset, .unset] [(.int (1 : Int32))])) _
        refine OGot.go (fun t k => XS.ifYes X60.here hx rfl (pc0 := 118) (pc' := 125) rfl (hb hby at_118) rfl (by decide) (by decide) (by decide) k) ?_
        show OGot p.tables e below (T60.setTop (mkF m 125 #[.val (.int p1), .val (.int p2), .val (.int p3), .val (.int p4), .val (.int p5), .val (.int p6), .val (.int (1 : Int32)), .val (.ref b4_7), .val (.ref b4_8), .val (.ref (f6 w_INTEGER w_TEXT w_DATE w_DECIMAL p4)), .val (.ref (f6 w_INTEGER w_TEXT w_DATE w_DECIMAL p4)), .val (.ref b55), .val (.ref b58), .unset, .unset, .unset] [])) _
        refine OGot.go (fun t k => XS.aload X60.here hx rfl (hb hby at_125) rfl rfl k) ?_
        show OGot p.tables e below (T60.setTop (mkF m 127 #[.val (.int p1), .val (.int p2), .val (.int p3), .val (.int p4), .val (.int p5), .val (.int p6), .val (.int (1 : Int32)), .val (.ref b4_7), .val (.ref b4_8), .val (.ref (f6 w_INTEGER w_TEXT w_DATE w_DECIMAL p4)), .val (.ref (f6 w_INTEGER w_TEXT w_DATE w_DECIMAL p4)), .val (.ref b55), .val (.ref b58), .unset, .unset, .unset] [(.ref b55)])) _
        refine OGot.go (fun t k => XS.astore X60.here hx rfl (hb hby at_127) rfl rfl (l' := #[.val (.int p1), .val (.int p2), .val (.int p3), .val (.int p4), .val (.int p5), .val (.int p6), .val (.int (1 : Int32)), .val (.ref b4_7), .val (.ref b4_8), .val (.ref (f6 w_INTEGER w_TEXT w_DATE w_DECIMAL p4)), .val (.ref (f6 w_INTEGER w_TEXT w_DATE w_DECIMAL p4)), .val (.ref b55), .val (.ref b58), .val (.ref b55), .unset, .unset]) rfl k) ?_
        show OGot p.tables e below (T60.setTop (mkF m 129 #[.val (.int p1), .val (.int p2), .val (.int p3), .val (.int p4), .val (.int p5), .val (.int p6), .val (.int (1 : Int32)), .val (.ref b4_7), .val (.ref b4_8), .val (.ref (f6 w_INTEGER w_TEXT w_DATE w_DECIMAL p4)), .val (.ref (f6 w_INTEGER w_TEXT w_DATE w_DECIMAL p4)), .val (.ref b55), .val (.ref b58), .val (.ref b55), .unset, .unset] [])) _
        refine OGot.go (fun t k => XS.iload X60.here hx rfl (hb hby at_129) rfl k) ?_
        show OGot p.tables e below (T60.setTop (mkF m 131 #[.val (.int p1), .val (.int p2), .val (.int p3), .val (.int p4), .val (.int p5), .val (.int p6), .val (.int (1 : Int32)), .val (.ref b4_7), .val (.ref b4_8), .val (.ref (f6 w_INTEGER w_TEXT w_DATE w_DECIMAL p4)), .val (.ref (f6 w_INTEGER w_TEXT w_DATE w_DECIMAL p4)), .val (.ref b55), .val (.ref b58), .val (.ref b55), .unset, .unset] [(.int (1 : Int32))])) _
        refine OGot.go (fun t k => XS.iconst X60.here hx rfl (hb hby at_131) k) ?_
        show OGot p.tables e below (T60.setTop (mkF m 132 #[.val (.int p1), .val (.int p2), .val (.int p3), .val (.int p4), .val (.int p5), .val (.int p6), .val (.int (1 : Int32)), .val (.ref b4_7), .val (.ref b4_8), .val (.ref (f6 w_INTEGER w_TEXT w_DATE w_DECIMAL p4)), .val (.ref (f6 w_INTEGER w_TEXT w_DATE w_DECIMAL p4)), .val (.ref b55), .val (.ref b58), .val (.ref b55), .unset, .unset] [(.int (1 : Int32)), (.int (1 : Int32))])) _
        refine OGot.go (fun t k => XS.icmpNo X60.here hx rfl (hb hby at_132) rfl (by decide) k) ?_
        show OGot p.tables e below (T60.setTop (mkF m 135 #[.val (.int p1), .val (.int p2), .val (.int p3), .val (.int p4), .val (.int p5), .val (.int p6), .val (.int (1 : Int32)), .val (.ref b4_7), .val (.ref b4_8), .val (.ref (f6 w_INTEGER w_TEXT w_DATE w_DECIMAL p4)), .val (.ref (f6 w_INTEGER w_TEXT w_DATE w_DECIMAL p4)), .val (.ref b55), .val (.ref b58), .val (.ref b55), .unset, .unset] [])) _
        refine OGot.go (fun t k => XS.aconstNull X60.here hx rfl (hb hby at_135) k) ?_
        show OGot p.tables e below (T60.setTop (mkF m 136 #[.val (.int p1), .val (.int p2), .val (.int p3), .val (.int p4), .val (.int p5), .val (.int p6), .val (.int (1 : Int32)), .val (.ref b4_7), .val (.ref b4_8), .val (.ref (f6 w_INTEGER w_TEXT w_DATE w_DECIMAL p4)), .val (.ref (f6 w_INTEGER w_TEXT w_DATE w_DECIMAL p4)), .val (.ref b55), .val (.ref b58), .val (.ref b55), .unset, .unset] [.null])) _
        refine OGot.go (fun t k => XS.goto X60.here hx rfl (pc0 := 136) (pc' := 141) rfl (hb hby at_136) (by decide) (by decide) k) ?_
        show OGot p.tables e below (T60.setTop (mkF m 141 #[.val (.int p1), .val (.int p2), .val (.int p3), .val (.int p4), .val (.int p5), .val (.int p6), .val (.int (1 : Int32)), .val (.ref b4_7), .val (.ref b4_8), .val (.ref (f6 w_INTEGER w_TEXT w_DATE w_DECIMAL p4)), .val (.ref (f6 w_INTEGER w_TEXT w_DATE w_DECIMAL p4)), .val (.ref b55), .val (.ref b58), .val (.ref b55), .unset, .unset] [.null])) _
        refine OGot.go (fun t k => XS.astore X60.here hx rfl (hb hby at_141) rfl rfl (l' := #[.val (.int p1), .val (.int p2), .val (.int p3), .val (.int p4), .val (.int p5), .val (.int p6), .val (.int (1 : Int32)), .val (.ref b4_7), .val (.ref b4_8), .val (.ref (f6 w_INTEGER w_TEXT w_DATE w_DECIMAL p4)), .val (.ref (f6 w_INTEGER w_TEXT w_DATE w_DECIMAL p4)), .val (.ref b55), .val (.ref b58), .val (.ref b55), .val .null, .unset]) rfl k) ?_
        show OGot p.tables e below (T60.setTop (mkF m 143 #[.val (.int p1), .val (.int p2), .val (.int p3), .val (.int p4), .val (.int p5), .val (.int p6), .val (.int (1 : Int32)), .val (.ref b4_7), .val (.ref b4_8), .val (.ref (f6 w_INTEGER w_TEXT w_DATE w_DECIMAL p4)), .val (.ref (f6 w_INTEGER w_TEXT w_DATE w_DECIMAL p4)), .val (.ref b55), .val (.ref b58), .val (.ref b55), .val .null, .unset] [])) _
        obtain ⟨T67, h67, X67, e67, E67, A67, D67, -, st67⟩ := newO X60 hx hZ hown (ow hw 64 rfl) (ow hw 65 rfl) (ow hw 66 rfl) rfl (g := (mkF m 143 #[.val (.int p1), .val (.int p2), .val (.int p3), .val (.int p4), .val (.int p5), .val (.int p6), .val (.int (1 : Int32)), .val (.ref b4_7), .val (.ref b4_8), .val (.ref (f6 w_INTEGER w_TEXT w_DATE w_DECIMAL p4)), .val (.ref (f6 w_INTEGER w_TEXT w_DATE w_DECIMAL p4)), .val (.ref b55), .val (.ref b58), .val (.ref b55), .val .null, .unset] [])) rfl (hb hby at_143) (by decide) (by decide)
        obtain ⟨b67, g67⟩ : ∃ z, z = T60.heap.size := ⟨_, rfl⟩
        rw [← g67] at A67 D67 st67
        refine OGot.go st67 ?_
        have g_b67 : n0 ≤ b67 := Nat.le_trans (osz O60) (Nat.le_of_eq g67.symm)
        have sy_b67 : T60.heap.size ≤ b67 := Nat.le_of_eq g67.symm
        have O67 := O60.ext E67
        have F67_before : Fld Z h67 b67 "com/example/archipel/archipel/model/AttributeChange" "before" "Lcom/example/archipel/archipel/model/Entity;" .null := D67 (Or.inr (ow hw 72 rfl)) (ty := (.object "com/example/archipel/archipel/model/Entity")) (by decide)
        have F67_after : Fld Z h67 b67 "com/example/archipel/archipel/model/AttributeChange" "after" "Lcom/example/archipel/archipel/model/Entity;" .null := D67 (Or.inr (ow hw 74 rfl)) (ty := (.object "com/example/archipel/archipel/model/Entity")) (by decide)
        have F67_was : Fld Z h67 b67 "com/example/archipel/archipel/model/AttributeChange" "was" "Lcom/example/archipel/archipel/model/Attribute;" .null := D67 (Or.inr (ow hw 76 rfl)) (ty := (.object "com/example/archipel/archipel/model/Attribute")) (by decide)
        have F67_becomes : Fld Z h67 b67 "com/example/archipel/archipel/model/AttributeChange" "becomes" "Lcom/example/archipel/archipel/model/Attribute;" .null := D67 (Or.inr (ow hw 78 rfl)) (ty := (.object "com/example/archipel/archipel/model/Attribute")) (by decide)
        show OGot p.tables e below (T67.setTop (mkF m 146 #[.val (.int p1), .val (.int p2), .val (.int p3), .val (.int p4), .val (.int p5), .val (.int p6), .val (.int (1 : Int32)), .val (.ref b4_7), .val (.ref b4_8), .val (.ref (f6 w_INTEGER w_TEXT w_DATE w_DECIMAL p4)), .val (.ref (f6 w_INTEGER w_TEXT w_DATE w_DECIMAL p4)), .val (.ref b55), .val (.ref b58), .val (.ref b55), .val .null, .unset] [(.ref b67)])) _
        refine OGot.go (fun t k => XS.dup X67.here hx rfl (hb hby at_146) rfl rfl k) ?_
        show OGot p.tables e below (T67.setTop (mkF m 147 #[.val (.int p1), .val (.int p2), .val (.int p3), .val (.int p4), .val (.int p5), .val (.int p6), .val (.int (1 : Int32)), .val (.ref b4_7), .val (.ref b4_8), .val (.ref (f6 w_INTEGER w_TEXT w_DATE w_DECIMAL p4)), .val (.ref (f6 w_INTEGER w_TEXT w_DATE w_DECIMAL p4)), .val (.ref b55), .val (.ref b58), .val (.ref b55), .val .null, .unset] [(.ref b67), (.ref b67)])) _
        refine OGot.go (fun t k => XS.aconstNull X67.here hx rfl (hb hby at_147) k) ?_
        show OGot p.tables e below (T67.setTop (mkF m 148 #[.val (.int p1), .val (.int p2), .val (.int p3), .val (.int p4), .val (.int p5), .val (.int p6), .val (.int (1 : Int32)), .val (.ref b4_7), .val (.ref b4_8), .val (.ref (f6 w_INTEGER w_TEXT w_DATE w_DECIMAL p4)), .val (.ref (f6 w_INTEGER w_TEXT w_DATE w_DECIMAL p4)), .val (.ref b55), .val (.ref b58), .val (.ref b55), .val .null, .unset] [.null, (.ref b67), (.ref b67)])) _
        refine OGot.go (fun t k => XS.aconstNull X67.here hx rfl (hb hby at_148) k) ?_
        show OGot p.tables e below (T67.setTop (mkF m 149 #[.val (.int p1), .val (.int p2), .val (.int p3), .val (.int p4), .val (.int p5), .val (.int p6), .val (.int (1 : Int32)), .val (.ref b4_7), .val (.ref b4_8), .val (.ref (f6 w_INTEGER w_TEXT w_DATE w_DECIMAL p4)), .val (.ref (f6 w_INTEGER w_TEXT w_DATE w_DECIMAL p4)), .val (.ref b55), .val (.ref b58), .val (.ref b55), .val .null, .unset] [.null, .null, (.ref b67), (.ref b67)])) _
        refine OGot.go (fun t k => XS.aload X67.here hx rfl (hb hby at_149) rfl rfl k) ?_
        show OGot p.tables e below (T67.setTop (mkF m 151 #[.val (.int p1), .val (.int p2), .val (.int p3), .val (.int p4), .val (.int p5), .val (.int p6), .val (.int (1 : Int32)), .val (.ref b4_7), .val (.ref b4_8), .val (.ref (f6 w_INTEGER w_TEXT w_DATE w_DECIMAL p4)), .val (.ref (f6 w_INTEGER w_TEXT w_DATE w_DECIMAL p4)), .val (.ref b55), .val (.ref b58), .val (.ref b55), .val .null, .unset] [(.ref b55), .null, .null, (.ref b67), (.ref b67)])) _
        refine OGot.go (fun t k => XS.aload X67.here hx rfl (hb hby at_151) rfl rfl k) ?_
        show OGot p.tables e below (T67.setTop (mkF m 153 #[.val (.int p1), .val (.int p2), .val (.int p3), .val (.int p4), .val (.int p5), .val (.int p6), .val (.int (1 : Int32)), .val (.ref b4_7), .val (.ref b4_8), .val (.ref (f6 w_INTEGER w_TEXT w_DATE w_DECIMAL p4)), .val (.ref (f6 w_INTEGER w_TEXT w_DATE w_DECIMAL p4)), .val (.ref b55), .val (.ref b58), .val (.ref b55), .val .null, .unset] [.null, (.ref b55), .null, .null, (.ref b67), (.ref b67)])) _
        obtain ⟨_, _, ⟨T68, L68, k68, n68⟩, -, X68, ⟨Lc68, hQ68, l68, y68, z68⟩, st68⟩ := X67.specialBack hx (y := (⟨"com/example/archipel/archipel/model/AttributeChange", "<init>", "(Lcom/example/archipel/archipel/model/Entity;Lcom/example/archipel/archipel/model/Entity;Lcom/example/archipel/archipel/model/Attribute;Lcom/example/archipel/archipel/model/Attribute;)V"⟩ : MethodName)) rfl hown (mvT hZ (ow hw 67 rfl)) (mvT hZ (ow hw 68 rfl)) (mvT hZ (ow hw 69 rfl)) (by decide) (backOf (W := 1) (rm11_1 l Z a0 hw [] G b67 b55 h67 n0 O67 A67 F67_before g_b67 F67_after F67_was F67_becomes) hZ (ow hw 69 rfl) (ow hw 66 rfl) (by decide) (by decide)) (g := (mkF m 153 #[.val (.int p1), .val (.int p2), .val (.int p3), .val (.int p4), .val (.int p5), .val (.int p6), .val (.int (1 : Int32)), .val (.ref b4_7), .val (.ref b4_8), .val (.ref (f6 w_INTEGER w_TEXT w_DATE w_DECIMAL p4)), .val (.ref (f6 w_INTEGER w_TEXT w_DATE w_DECIMAL p4)), .val (.ref b55), .val (.ref b58), .val (.ref b55), .val .null, .unset] [.null, (.ref b55), .null, .null, (.ref b67), (.ref b67)])) rfl (by rw [hml]; rfl) (Steps.refl _) (a := b67) (argsL := [.null, .null, (.ref b55), .null]) (rest := [(.ref b67)]) (lenOf pd_9 rfl) rfl (by show 2 * 0 + _ ≤ _; exact Nat.le_of_eq rfl) (hb hby at_153) (fun _ _ => ⟨rfl, e67, (by decide : 7 + 0 ≤ _), (by decide : 22 + 0 ≤ _)⟩)
        dsimp only [Pt.U, Pt.locs, Pt.cells, Pt.slots] at X68 l68 y68 z68 st68 hQ68
        subst l68 y68 z68
        obtain ⟨N68q, rfl, K68, Fo68_0, Fo68_1, Fo68_2, Fo68_3⟩ := hQ68
        have O68 := OKeep.old O67 K68 (ogeS g_b67 (ogeS g_b67 (ogeS g_b67 (ogeS g_b67 oge0))))
        have N68 := Fr.app N60 N68q
        refine OGot.on st68 ?_
        show OGot p.tables e below (T68.setTop (mkF m 156 #[.val (.int p1), .val (.int p2), .val (.int p3), .val (.int p4), .val (.int p5), .val (.int p6), .val (.int (1 : Int32)), .val (.ref b4_7), .val (.ref b4_8), .val (.ref (f6 w_INTEGER w_TEXT w_DATE w_DECIMAL p4)), .val (.ref (f6 w_INTEGER w_TEXT w_DATE w_DECIMAL p4)), .val (.ref b55), .val (.ref b58), .val (.ref b55), .val .null, .unset] [(.ref b67)])) _
        refine OGot.go (fun t k => XS.astore X68.here hx rfl (hb hby at_156) rfl rfl (l' := #[.val (.int p1), .val (.int p2), .val (.int p3), .val (.int p4), .val (.int p5), .val (.int p6), .val (.int (1 : Int32)), .val (.ref b4_7), .val (.ref b4_8), .val (.ref (f6 w_INTEGER w_TEXT w_DATE w_DECIMAL p4)), .val (.ref (f6 w_INTEGER w_TEXT w_DATE w_DECIMAL p4)), .val (.ref b55), .val (.ref b58), .val (.ref b55), .val .null, .val (.ref b67)]) rfl k) ?_
        show OGot p.tables e below (T68.setTop (mkF m 158 #[.val (.int p1), .val (.int p2), .val (.int p3), .val (.int p4), .val (.int p5), .val (.int p6), .val (.int (1 : Int32)), .val (.ref b4_7), .val (.ref b4_8), .val (.ref (f6 w_INTEGER w_TEXT w_DATE w_DECIMAL p4)), .val (.ref (f6 w_INTEGER w_TEXT w_DATE w_DECIMAL p4)), .val (.ref b55), .val (.ref b58), .val (.ref b55), .val .null, .val (.ref b67)] [])) _
        refine OGot.go (fun t k => XS.aload X68.here hx rfl (hb hby at_158) rfl rfl k) ?_
        show OGot p.tables e below (T68.setTop (mkF m 160 #[.val (.int p1), .val (.int p2), .val (.int p3), .val (.int p4), .val (.int p5), .val (.int p6), .val (.int (1 : Int32)), .val (.ref b4_7), .val (.ref b4_8), .val (.ref (f6 w_INTEGER w_TEXT w_DATE w_DECIMAL p4)), .val (.ref (f6 w_INTEGER w_TEXT w_DATE w_DECIMAL p4)), .val (.ref b55), .val (.ref b58), .val (.ref b55), .val .null, .val (.ref b67)] [(.ref b67)])) _
        obtain ⟨cq69, kq69, q69a, q69b, q69c⟩ := isOf hZ rfl (OKeep.exa A67 K68)
        obtain ⟨_, _, ⟨T69, L69, k69, n69⟩, -, X69, ⟨Lc69, hQ69, l69, y69, z69⟩, st69⟩ := X68.virtualBack hx (y := (⟨"com/example/archipel/archipel/model/AttributeChange", "added", "()Z"⟩ : MethodName)) (z := (⟨"com/example/archipel/archipel/model/AttributeChange", "added", "()Z"⟩ : MethodName)) hown (mvT hZ (ow hw 79 rfl)) (mvT hZ (ow hw 80 rfl)) (notFace_of_selects (args := #[]) (mvT hZ (ow hw 82 rfl))) (mvT hZ (ow hw 82 rfl)) (mvT hZ (ow hw 81 rfl)) (by decide) (backOf (W := 0) (rm12_1 l Z a0 hw [] G b67 b55 T68.heap n0 O68 Fo68_2) hZ (ow hw 83 rfl) (ow hw 66 rfl) (by decide) (by decide)) q69a q69c (g := (mkF m 160 #[.val (.int p1), .val (.int p2), .val (.int p3), .val (.int p4), .val (.int p5), .val (.int p6), .val (.int (1 : Int32)), .val (.ref b4_7), .val (.ref b4_8), .val (.ref (f6 w_INTEGER w_TEXT w_DATE w_DECIMAL p4)), .val (.ref (f6 w_INTEGER w_TEXT w_DATE w_DECIMAL p4)), .val (.ref b55), .val (.ref b58), .val (.ref b55), .val .null, .val (.ref b67)] [(.ref b67)])) rfl (by rw [hml]; rfl) (Steps.refl _) (argsL := []) (rest := []) (lenOf pd_10 rfl) rfl (by show 2 * 0 + _ ≤ _; exact Nat.le_of_eq rfl) (hb hby at_160) (fun _ _ => ⟨rfl, rfl, (by decide : 7 + 0 ≤ _), (by decide : 22 + 0 ≤ _)⟩)
        dsimp only [Pt.U, Pt.locs, Pt.cells, Pt.slots] at X69 l69 y69 z69 st69 hQ69
        subst l69 y69 z69
        obtain ⟨rfl, N69q, e69⟩ := hQ69
        have N69 := Fr.app N68 N69q
        refine OGot.on st69 ?_
        show OGot p.tables e below (T69.setTop (mkF m 163 #[.val (.int p1), .val (.int p2), .val (.int p3), .val (.int p4), .val (.int p5), .val (.int p6), .val (.int (1 : Int32)), .val (.ref b4_7), .val (.ref b4_8), .val (.ref (f6 w_INTEGER w_TEXT w_DATE w_DECIMAL p4)), .val (.ref (f6 w_INTEGER w_TEXT w_DATE w_DECIMAL p4)), .val (.ref b55), .val (.ref b58), .val (.ref b55), .val .null, .val (.ref b67)] [(.int (0 : Int32))])) _
        refine OGot.go (fun t k => XS.iload X69.here hx rfl (hb hby at_163) rfl k) ?_
        show OGot p.tables e below (T69.setTop (mkF m 165 #[.val (.int p1), .val (.int p2), .val (.int p3), .val (.int p4), .val (.int p5), .val (.int p6), .val (.int (1 : Int32)), .val (.ref b4_7), .val (.ref b4_8), .val (.ref (f6 w_INTEGER w_TEXT w_DATE w_DECIMAL p4)), .val (.ref (f6 w_INTEGER w_TEXT w_DATE w_DECIMAL p4)), .val (.ref b55), .val (.ref b58), .val (.ref b55), .val .null, .val (.ref b67)] [(.int (1 : Int32)), (.int (0 : Int32))])) _
        refine OGot.go (fun t k => XS.ifYes X69.here hx rfl (pc0 := 165) (pc' := 172) rfl (hb hby at_165) rfl (by decide) (by decide) (by decide) k) ?_
        show OGot p.tables e below (T69.setTop (mkF m 172 #[.val (.int p1), .val (.int p2), .val (.int p3), .val (.int p4), .val (.int p5), .val (.int p6), .val (.int (1 : Int32)), .val (.ref b4_7), .val (.ref b4_8), .val (.ref (f6 w_INTEGER w_TEXT w_DATE w_DECIMAL p4)), .val (.ref (f6 w_INTEGER w_TEXT w_DATE w_DECIMAL p4)), .val (.ref b55), .val (.ref b58), .val (.ref b55), .val .null, .val (.ref b67)] [(.int (0 : Int32))])) _
        refine OGot.go (fun t k => XS.iconst X69.here hx rfl (hb hby at_172) k) ?_
        show OGot p.tables e below (T69.setTop (mkF m 173 #[.val (.int p1), .val (.int p2), .val (.int p3), .val (.int p4), .val (.int p5), .val (.int p6), .val (.int (1 : Int32)), .val (.ref b4_7), .val (.ref b4_8), .val (.ref (f6 w_INTEGER w_TEXT w_DATE w_DECIMAL p4)), .val (.ref (f6 w_INTEGER w_TEXT w_DATE w_DECIMAL p4)), .val (.ref b55), .val (.ref b58), .val (.ref b55), .val .null, .val (.ref b67)] [(.int (0 : Int32)), (.int (0 : Int32))])) _
        refine OGot.go (fun t k => XS.icmpNo X69.here hx rfl (hb hby at_173) rfl (by decide) k) ?_
        show OGot p.tables e below (T69.setTop (mkF m 176 #[.val (.int p1), .val (.int p2), .val (.int p3), .val (.int p4), .val (.int p5), .val (.int p6), .val (.int (1 : Int32)), .val (.ref b4_7), .val (.ref b4_8), .val (.ref (f6 w_INTEGER w_TEXT w_DATE w_DECIMAL p4)), .val (.ref (f6 w_INTEGER w_TEXT w_DATE w_DECIMAL p4)), .val (.ref b55), .val (.ref b58), .val (.ref b55), .val .null, .val (.ref b67)] [])) _
        refine OGot.go (fun t k => XS.iconst X69.here hx rfl (hb hby at_176) k) ?_
        show OGot p.tables e below (T69.setTop (mkF m 177 #[.val (.int p1), .val (.int p2), .val (.int p3), .val (.int p4), .val (.int p5), .val (.int p6), .val (.int (1 : Int32)), .val (.ref b4_7), .val (.ref b4_8), .val (.ref (f6 w_INTEGER w_TEXT w_DATE w_DECIMAL p4)), .val (.ref (f6 w_INTEGER w_TEXT w_DATE w_DECIMAL p4)), .val (.ref b55), .val (.ref b58), .val (.ref b55), .val .null, .val (.ref b67)] [(.int (1 : Int32))])) _
        refine OGot.go (fun t k => XS.goto X69.here hx rfl (pc0 := 177) (pc' := 181) rfl (hb hby at_177) (by decide) (by decide) k) ?_
        show OGot p.tables e below (T69.setTop (mkF m 181 #[.val (.int p1), .val (.int p2), .val (.int p3), .val (.int p4), .val (.int p5), .val (.int p6), .val (.int (1 : Int32)), .val (.ref b4_7), .val (.ref b4_8), .val (.ref (f6 w_INTEGER w_TEXT w_DATE w_DECIMAL p4)), .val (.ref (f6 w_INTEGER w_TEXT w_DATE w_DECIMAL p4)), .val (.ref b55), .val (.ref b58), .val (.ref b55), .val .null, .val (.ref b67)] [(.int (1 : Int32))])) _
        obtain ⟨fs, hr, hrun, hended, hW, hsame⟩ := X69.leave (v := some (.int (1 : Int32))) (fun h => by rw [Bd.returns] at h; cases h)
        refine ⟨_, _, retN X69 hx (t := .boolean) Bd.returns (by simp) (hb hby at_181) hr, hrun, hended, _, _, rfl, ?_, ⟨_, rfl⟩, hW, hsame.mono (by decide) (by decide)⟩
        exact (⟨rfl, N69⟩ : Q0 Z w_INTEGER w_TEXT w_DATE w_DECIMAL i_COMPACT_STRINGS p1 p2 p3 p4 p5 p6 h0 n0 _ T69.heap _)
      · rw [hk63]
        show OGot p.tables e below (T60.setTop (mkF m 118 #[.val (.int p1), .val (.int p2), .val (.int p3), .val (.int p4), .val (.int p5), .val (.int p6), .val (.int (2 : Int32)), .val (.ref b4_7), .val (.ref b4_8), .val (.ref (f6 w_INTEGER w_TEXT w_DATE w_DECIMAL p4)), .val (.ref (f6 w_INTEGER w_TEXT w_DATE w_DECIMAL p4)), .val (.ref b55), .val (.ref b58), .unset, .unset, .unset] [(.int (2 : Int32))])) _
        refine OGot.go (fun t k => XS.ifYes X60.here hx rfl (pc0 := 118) (pc' := 125) rfl (hb hby at_118) rfl (by decide) (by decide) (by decide) k) ?_
        show OGot p.tables e below (T60.setTop (mkF m 125 #[.val (.int p1), .val (.int p2), .val (.int p3), .val (.int p4), .val (.int p5), .val (.int p6), .val (.int (2 : Int32)), .val (.ref b4_7), .val (.ref b4_8), .val (.ref (f6 w_INTEGER w_TEXT w_DATE w_DECIMAL p4)), .val (.ref (f6 w_INTEGER w_TEXT w_DATE w_DECIMAL p4)), .val (.ref b55), .val (.ref b58), .unset, .unset, .unset] [])) _
        refine OGot.go (fun t k => XS.aload X60.here hx rfl (hb hby at_125) rfl rfl k) ?_
        show OGot p.tables e below (T60.setTop (mkF m 127 #[.val (.int p1), .val (.int p2), .val (.int p3), .val (.int p4), .val (.int p5), .val (.int p6), .val (.int (2 : Int32)), .val (.ref b4_7), .val (.ref b4_8), .val (.ref (f6 w_INTEGER w_TEXT w_DATE w_DECIMAL p4)), .val (.ref (f6 w_INTEGER w_TEXT w_DATE w_DECIMAL p4)), .val (.ref b55), .val (.ref b58), .unset, .unset, .unset] [(.ref b55)])) _
        refine OGot.go (fun t k => XS.astore X60.here hx rfl (hb hby at_127) rfl rfl (l' := #[.val (.int p1), .val (.int p2), .val (.int p3), .val (.int p4), .val (.int p5), .val (.int p6), .val (.int (2 : Int32)), .val (.ref b4_7), .val (.ref b4_8), .val (.ref (f6 w_INTEGER w_TEXT w_DATE w_DECIMAL p4)), .val (.ref (f6 w_INTEGER w_TEXT w_DATE w_DECIMAL p4)), .val (.ref b55), .val (.ref b58), .val (.ref b55), .unset, .unset]) rfl k) ?_
        show OGot p.tables e below (T60.setTop (mkF m 129 #[.val (.int p1), .val (.int p2), .val (.int p3), .val (.int p4), .val (.int p5), .val (.int p6), .val (.int (2 : Int32)), .val (.ref b4_7), .val (.ref b4_8), .val (.ref (f6 w_INTEGER w_TEXT w_DATE w_DECIMAL p4)), .val (.ref (f6 w_INTEGER w_TEXT w_DATE w_DECIMAL p4)), .val (.ref b55), .val (.ref b58), .val (.ref b55), .unset, .unset] [])) _
        refine OGot.go (fun t k => XS.iload X60.here hx rfl (hb hby at_129) rfl k) ?_
        show OGot p.tables e below (T60.setTop (mkF m 131 #[.val (.int p1), .val (.int p2), .val (.int p3), .val (.int p4), .val (.int p5), .val (.int p6), .val (.int (2 : Int32)), .val (.ref b4_7), .val (.ref b4_8), .val (.ref (f6 w_INTEGER w_TEXT w_DATE w_DECIMAL p4)), .val (.ref (f6 w_INTEGER w_TEXT w_DATE w_DECIMAL p4)), .val (.ref b55), .val (.ref b58), .val (.ref b55), .unset, .unset] [(.int (2 : Int32))])) _
        refine OGot.go (fun t k => XS.iconst X60.here hx rfl (hb hby at_131) k) ?_
        show OGot p.tables e below (T60.setTop (mkF m 132 #[.val (.int p1), .val (.int p2), .val (.int p3), .val (.int p4), .val (.int p5), .val (.int p6), .val (.int (2 : Int32)), .val (.ref b4_7), .val (.ref b4_8), .val (.ref (f6 w_INTEGER w_TEXT w_DATE w_DECIMAL p4)), .val (.ref (f6 w_INTEGER w_TEXT w_DATE w_DECIMAL p4)), .val (.ref b55), .val (.ref b58), .val (.ref b55), .unset, .unset] [(.int (1 : Int32)), (.int (2 : Int32))])) _
        refine OGot.go (fun t k => XS.icmpYes X60.here hx rfl (pc0 := 132) (pc' := 139) rfl (hb hby at_132) rfl (by decide) (by decide) (by decide) k) ?_
        show OGot p.tables e below (T60.setTop (mkF m 139 #[.val (.int p1), .val (.int p2), .val (.int p3), .val (.int p4), .val (.int p5), .val (.int p6), .val (.int (2 : Int32)), .val (.ref b4_7), .val (.ref b4_8), .val (.ref (f6 w_INTEGER w_TEXT w_DATE w_DECIMAL p4)), .val (.ref (f6 w_INTEGER w_TEXT w_DATE w_DECIMAL p4)), .val (.ref b55), .val (.ref b58), .val (.ref b55), .unset, .unset] [])) _
        refine OGot.go (fun t k => XS.aload X60.here hx rfl (hb hby at_139) rfl rfl k) ?_
        show OGot p.tables e below (T60.setTop (mkF m 141 #[.val (.int p1), .val (.int p2), .val (.int p3), .val (.int p4), .val (.int p5), .val (.int p6), .val (.int (2 : Int32)), .val (.ref b4_7), .val (.ref b4_8), .val (.ref (f6 w_INTEGER w_TEXT w_DATE w_DECIMAL p4)), .val (.ref (f6 w_INTEGER w_TEXT w_DATE w_DECIMAL p4)), .val (.ref b55), .val (.ref b58), .val (.ref b55), .unset, .unset] [(.ref b58)])) _
        refine OGot.go (fun t k => XS.astore X60.here hx rfl (hb hby at_141) rfl rfl (l' := #[.val (.int p1), .val (.int p2), .val (.int p3), .val (.int p4), .val (.int p5), .val (.int p6), .val (.int (2 : Int32)), .val (.ref b4_7), .val (.ref b4_8), .val (.ref (f6 w_INTEGER w_TEXT w_DATE w_DECIMAL p4)), .val (.ref (f6 w_INTEGER w_TEXT w_DATE w_DECIMAL p4)), .val (.ref b55), .val (.ref b58), .val (.ref b55), .val (.ref b58), .unset]) rfl k) ?_
        show OGot p.tables e below (T60.setTop (mkF m 143 #[.val (.int p1), .val (.int p2), .val (.int p3), .val (.int p4), .val (.int p5), .val (.int p6), .val (.int (2 : Int32)), .val (.ref b4_7), .val (.ref b4_8), .val (.ref (f6 w_INTEGER w_TEXT w_DATE w_DECIMAL p4)), .val (.ref (f6 w_INTEGER w_TEXT w_DATE w_DECIMAL p4)), .val (.ref b55), .val (.ref b58), .val (.ref b55), .val (.ref b58), .unset] [])) _
        obtain ⟨T70, h70, X70, e70, E70, A70, D70, -, st70⟩ := newO X60 hx hZ hown (ow hw 64 rfl) (ow hw 65 rfl) (ow hw 66 rfl) rfl (g := (mkF m 143 #[.val (.int p1), .val (.int p2), .val (.int p3), .val (.int p4), .val (.int p5), .val (.int p6), .val (.int (2 : Int32)), .val (.ref b4_7), .val (.ref b4_8), .val (.ref (f6 w_INTEGER w_TEXT w_DATE w_DECIMAL p4)), .val (.ref (f6 w_INTEGER w_TEXT w_DATE w_DECIMAL p4)), .val (.ref b55), .val (.ref b58), .val (.ref b55), .val (.ref b58), .unset] [])) rfl (hb hby at_143) (by decide) (by decide)
        obtain ⟨b70, g70⟩ : ∃ z, z = T60.heap.size := ⟨_, rfl⟩
        rw [← g70] at A70 D70 st70
        refine OGot.go st70 ?_
        have g_b70 : n0 ≤ b70 := Nat.le_trans (osz O60) (Nat.le_of_eq g70.symm)
        have sy_b70 : T60.heap.size ≤ b70 := Nat.le_of_eq g70.symm
        have O70 := O60.ext E70
        have F70_before : Fld Z h70 b70 "com/example/archipel/archipel/model/AttributeChange" "before" "Lcom/example/archipel/archipel/model/Entity;" .null := D70 (Or.inr (ow hw 72 rfl)) (ty := (.object "com/example/archipel/archipel/model/Entity")) (by decide)
        have F70_after : Fld Z h70 b70 "com/example/archipel/archipel/model/AttributeChange" "after" "Lcom/example/archipel/archipel/model/Entity;" .null := D70 (Or.inr (ow hw 74 rfl)) (ty := (.object "com/example/archipel/archipel/model/Entity")) (by decide)
        have F70_was : Fld Z h70 b70 "com/example/archipel/archipel/model/AttributeChange" "was" "Lcom/example/archipel/archipel/model/Attribute;" .null := D70 (Or.inr (ow hw 76 rfl)) (ty := (.object "com/example/archipel/archipel/model/Attribute")) (by decide)
        have F70_becomes : Fld Z h70 b70 "com/example/archipel/archipel/model/AttributeChange" "becomes" "Lcom/example/archipel/archipel/model/Attribute;" .null := D70 (Or.inr (ow hw 78 rfl)) (ty := (.object "com/example/archipel/archipel/model/Attribute")) (by decide)
        show OGot p.tables e below (T70.setTop (mkF m 146 #[.val (.int p1), .val (.int p2), .val (.int p3), .val (.int p4), .val (.int p5), .val (.int p6), .val (.int (2 : Int32)), .val (.ref b4_7), .val (.ref b4_8), .val (.ref (f6 w_INTEGER w_TEXT w_DATE w_DECIMAL p4)), .val (.ref (f6 w_INTEGER w_TEXT w_DATE w_DECIMAL p4)), .val (.ref b55), .val (.ref b58), .val (.ref b55), .val (.ref b58), .unset] [(.ref b70)])) _
        refine OGot.go (fun t k => XS.dup X70.here hx rfl (hb hby at_146) rfl rfl k) ?_
        show OGot p.tables e below (T70.setTop (mkF m 147 #[.val (.int p1), .val (.int p2), .val (.int p3), .val (.int p4), .val (.int p5), .val (.int p6), .val (.int (2 : Int32)), .val (.ref b4_7), .val (.ref b4_8), .val (.ref (f6 w_INTEGER w_TEXT w_DATE w_DECIMAL p4)), .val (.ref (f6 w_INTEGER w_TEXT w_DATE w_DECIMAL p4)), .val (.ref b55), .val (.ref b58), .val (.ref b55), .val (.ref b58), .unset] [(.ref b70), (.ref b70)])) _
        refine OGot.go (fun t k => XS.aconstNull X70.here hx rfl (hb hby at_147) k) ?_
        show OGot p.tables e below (T70.setTop (mkF m 148 #[.val (.int p1), .val (.int p2), .val (.int p3), .val (.int p4), .val (.int p5), .val (.int p6), .val (.int (2 : Int32)), .val (.ref b4_7), .val (.ref b4_8), .val (.ref (f6 w_INTEGER w_TEXT w_DATE w_DECIMAL p4)), .val (.ref (f6 w_INTEGER w_TEXT w_DATE w_DECIMAL p4)), .val (.ref b55), .val (.ref b58), .val (.ref b55), .val (.ref b58), .unset] [.null, (.ref b70), (.ref b70)])) _
        refine OGot.go (fun t k => XS.aconstNull X70.here hx rfl (hb hby at_148) k) ?_
        show OGot p.tables e below (T70.setTop (mkF m 149 #[.val (.int p1), .val (.int p2), .val (.int p3), .val (.int p4), .val (.int p5), .val (.int p6), .val (.int (2 : Int32)), .val (.ref b4_7), .val (.ref b4_8), .val (.ref (f6 w_INTEGER w_TEXT w_DATE w_DECIMAL p4)), .val (.ref (f6 w_INTEGER w_TEXT w_DATE w_DECIMAL p4)), .val (.ref b55), .val (.ref b58), .val (.ref b55), .val (.ref b58), .unset] [.null, .null, (.ref b70), (.ref b70)])) _
        refine OGot.go (fun t k => XS.aload X70.here hx rfl (hb hby at_149) rfl rfl k) ?_
        show OGot p.tables e below (T70.setTop (mkF m 151 #[.val (.int p1), .val (.int p2), .val (.int p3), .val (.int p4), .val (.int p5), .val (.int p6), .val (.int (2 : Int32)), .val (.ref b4_7), .val (.ref b4_8), .val (.ref (f6 w_INTEGER w_TEXT w_DATE w_DECIMAL p4)), .val (.ref (f6 w_INTEGER w_TEXT w_DATE w_DECIMAL p4)), .val (.ref b55), .val (.ref b58), .val (.ref b55), .val (.ref b58), .unset] [(.ref b55), .null, .null, (.ref b70), (.ref b70)])) _
        refine OGot.go (fun t k => XS.aload X70.here hx rfl (hb hby at_151) rfl rfl k) ?_
        show OGot p.tables e below (T70.setTop (mkF m 153 #[.val (.int p1), .val (.int p2), .val (.int p3), .val (.int p4), .val (.int p5), .val (.int p6), .val (.int (2 : Int32)), .val (.ref b4_7), .val (.ref b4_8), .val (.ref (f6 w_INTEGER w_TEXT w_DATE w_DECIMAL p4)), .val (.ref (f6 w_INTEGER w_TEXT w_DATE w_DECIMAL p4)), .val (.ref b55), .val (.ref b58), .val (.ref b55), .val (.ref b58), .unset] [(.ref b58), (.ref b55), .null, .null, (.ref b70), (.ref b70)])) _
        have ne72 : b55 ≠ b58 := (Nat.ne_of_lt (Nat.lt_of_lt_of_le (Nat.lt_of_lt_of_le A55.lt K57.1) sy_b58))
        have F73 : Fld Z h70 b55 "com/example/archipel/archipel/model/Attribute" "name" "Ljava/lang/String;" (.ref b4_7) := ((OKeep.fld (Fo57_0.ext E58) K60 (oninA ne72 (oninA ne72 (oninA ne72 (oninA ne72 onin0))))).ext E70)
        have F74 : Fld Z h70 b58 "com/example/archipel/archipel/model/Attribute" "name" "Ljava/lang/String;" (.ref b4_8) := (Fo60_0.ext E70)
        have ne75 : b4_7 ≠ b55 := (Nat.ne_of_lt (Nat.lt_of_lt_of_le (Nat.lt_of_lt_of_le Fo7_0.lt K8.1) sy_b55))
        have ne76 : b4_7 ≠ b58 := (Nat.ne_of_lt (Nat.lt_of_lt_of_le (Nat.lt_of_lt_of_le (Nat.lt_of_lt_of_le (Nat.lt_of_lt_of_le Fo7_0.lt K8.1) E55.1) K57.1) sy_b58))
        have F77 : Fld Z h70 b4_7 "java/lang/String" "coder" "B" (.int (0 : Int32)) := ((OKeep.fld ((OKeep.fld (F13.ext E55) K57 (oninA ne75 (oninA ne75 (oninA ne75 (oninA ne75 onin0))))).ext E58) K60 (oninA ne76 (oninA ne76 (oninA ne76 (oninA ne76 onin0))))).ext E70)
        have ne78 : b4_8 ≠ b55 := (Nat.ne_of_lt (Nat.lt_of_lt_of_le Fo8_0.lt sy_b55))
        have ne79 : b4_8 ≠ b58 := (Nat.ne_of_lt (Nat.lt_of_lt_of_le (Nat.lt_of_lt_of_le (Nat.lt_of_lt_of_le Fo8_0.lt E55.1) K57.1) sy_b58))
        have F80 : Fld Z h70 b4_8 "java/lang/String" "coder" "B" (.int (0 : Int32)) := ((OKeep.fld ((OKeep.fld (Fo8_1.ext E55) K57 (oninA ne78 (oninA ne78 (oninA ne78 (oninA ne78 onin0))))).ext E58) K60 (oninA ne79 (oninA ne79 (oninA ne79 (oninA ne79 onin0))))).ext E70)
        have F81 : Fld Z h70 b4_7 "java/lang/String" "value" "[B" (.ref b2_5_7) := ((OKeep.fld ((OKeep.fld (F14.ext E55) K57 (oninA ne75 (oninA ne75 (oninA ne75 (oninA ne75 onin0))))).ext E58) K60 (oninA ne76 (oninA ne76 (oninA ne76 (oninA ne76 onin0))))).ext E70)
        have F82 : Fld Z h70 b4_8 "java/lang/String" "value" "[B" (.ref b2_5_8) := ((OKeep.fld ((OKeep.fld (Fo8_2.ext E55) K57 (oninA ne78 (oninA ne78 (oninA ne78 (oninA ne78 onin0))))).ext E58) K60 (oninA ne79 (oninA ne79 (oninA ne79 (oninA ne79 onin0))))).ext E70)
        have ne83 : b2_5_7 ≠ b55 := (Nat.ne_of_lt (Nat.lt_of_lt_of_le (Nat.lt_of_lt_of_le Fo7_3.lt K8.1) sy_b55))
        have ne84 : b2_5_7 ≠ b58 := (Nat.ne_of_lt (Nat.lt_of_lt_of_le (Nat.lt_of_lt_of_le (Nat.lt_of_lt_of_le (Nat.lt_of_lt_of_le Fo7_3.lt K8.1) E55.1) K57.1) sy_b58))
        have F85 : Arv Z h70 b2_5_7 k2_5_7 .byte (1 : Int32) [(.int (nar .byte (((p2 &&& (255 : Int32)).toUInt32.toUInt16.toUInt32.toInt32).toInt8.toInt32)))] (.int (0 : Int32)) := ((OKeep.arv ((OKeep.arv (F15.ext E55) K57 (oallS ne83 (oallS ne83 (oallS ne83 (oallS ne83 oall0))))).ext E58) K60 (oallS ne84 (oallS ne84 (oallS ne84 (oallS ne84 oall0))))).ext E70)
        have ne86 : b2_5_8 ≠ b55 := (Nat.ne_of_lt (Nat.lt_of_lt_of_le Fo8_3.lt sy_b55))
        have ne87 : b2_5_8 ≠ b58 := (Nat.ne_of_lt (Nat.lt_of_lt_of_le (Nat.lt_of_lt_of_le (Nat.lt_of_lt_of_le Fo8_3.lt E55.1) K57.1) sy_b58))
        have F88 : Arv Z h70 b2_5_8 k2_5_8 .byte (1 : Int32) [(.int (nar .byte (((p3 &&& (255 : Int32)).toUInt32.toUInt16.toUInt32.toInt32).toInt8.toInt32)))] (.int (0 : Int32)) := ((OKeep.arv ((OKeep.arv (Fo8_3.ext E55) K57 (oallS ne86 (oallS ne86 (oallS ne86 (oallS ne86 oall0))))).ext E58) K60 (oallS ne87 (oallS ne87 (oallS ne87 (oallS ne87 oall0))))).ext E70)
        have F89 : Fld Z h70 b55 "com/example/archipel/archipel/model/Attribute" "type" "Lcom/example/archipel/archipel/model/DataType;" (.ref (f6 w_INTEGER w_TEXT w_DATE w_DECIMAL p4)) := ((OKeep.fld (Fo57_1.ext E58) K60 (oninA ne72 (oninA ne72 (oninA ne72 (oninA ne72 onin0))))).ext E70)
        have F90 : Fld Z h70 b58 "com/example/archipel/archipel/model/Attribute" "type" "Lcom/example/archipel/archipel/model/DataType;" (.ref (f6 w_INTEGER w_TEXT w_DATE w_DECIMAL p4)) := (Fo60_1.ext E70)
        obtain ⟨_, _, ⟨T71, L71, k71, n71⟩, -, X71, ⟨Lc71, hQ71, l71, y71, z71⟩, st71⟩ := X70.specialBack hx (y := (⟨"com/example/archipel/archipel/model/AttributeChange", "<init>", "(Lcom/example/archipel/archipel/model/Entity;Lcom/example/archipel/archipel/model/Entity;Lcom/example/archipel/archipel/model/Attribute;Lcom/example/archipel/archipel/model/Attribute;)V"⟩ : MethodName)) rfl hown (mvT hZ (ow hw 67 rfl)) (mvT hZ (ow hw 68 rfl)) (mvT hZ (ow hw 69 rfl)) (by decide) (backOf (W := 1) (rm11_3 l Z a0 hw [] G b70 b55 b58 b4_7 b4_8 b2_5_7 b2_5_8 k2_5_7 (nar .byte (((p2 &&& (255 : Int32)).toUInt32.toUInt16.toUInt32.toInt32).toInt8.toInt32)) k2_5_8 (nar .byte (((p3 &&& (255 : Int32)).toUInt32.toUInt16.toUInt32.toInt32).toInt8.toInt32)) (f6 w_INTEGER w_TEXT w_DATE w_DECIMAL p4) h70 n0 O70 ((OKeep.exa ((OKeep.exa A55 K57).ext E58) K60).ext E70) F73 ((OKeep.exa A58 K60).ext E70) F74 ((OKeep.exa ((OKeep.exa ((OKeep.exa Fo7_0 K8).ext E55) K57).ext E58) K60).ext E70) ne11 ((OKeep.exa ((OKeep.exa (Fo8_0.ext E55) K57).ext E58) K60).ext E70) F77 F80 F81 F82 F85 F88 hs16 F89 F90 A70 F70_before g_b70 F70_after F70_was F70_becomes) hZ (ow hw 69 rfl) (ow hw 66 rfl) (by decide) (by decide)) (g := (mkF m 153 #[.val (.int p1), .val (.int p2), .val (.int p3), .val (.int p4), .val (.int p5), .val (.int p6), .val (.int (2 : Int32)), .val (.ref b4_7), .val (.ref b4_8), .val (.ref (f6 w_INTEGER w_TEXT w_DATE w_DECIMAL p4)), .val (.ref (f6 w_INTEGER w_TEXT w_DATE w_DECIMAL p4)), .val (.ref b55), .val (.ref b58), .val (.ref b55), .val (.ref b58), .unset] [(.ref b58), (.ref b55), .null, .null, (.ref b70), (.ref b70)])) rfl (by rw [hml]; rfl) (Steps.refl _) (a := b70) (argsL := [.null, .null, (.ref b55), (.ref b58)]) (rest := [(.ref b70)]) (lenOf pd_9 rfl) rfl (by show 2 * 0 + _ ≤ _; exact Nat.le_of_eq rfl) (hb hby at_153) (fun _ _ => ⟨rfl, e70, (by decide : 7 + 0 ≤ _), (by decide : 22 + 0 ≤ _)⟩)
        dsimp only [Pt.U, Pt.locs, Pt.cells, Pt.slots] at X71 l71 y71 z71 st71 hQ71
        subst l71 y71 z71
        obtain ⟨N71q, rfl, K71, Fo71_0, Fo71_1, Fo71_2, Fo71_3⟩ := hQ71
        have O71 := OKeep.old O70 K71 (ogeS g_b70 (ogeS g_b70 (ogeS g_b70 (ogeS g_b70 oge0))))
        have N71 := Fr.app N60 N71q
        refine OGot.on st71 ?_
        show OGot p.tables e below (T71.setTop (mkF m 156 #[.val (.int p1), .val (.int p2), .val (.int p3), .val (.int p4), .val (.int p5), .val (.int p6), .val (.int (2 : Int32)), .val (.ref b4_7), .val (.ref b4_8), .val (.ref (f6 w_INTEGER w_TEXT w_DATE w_DECIMAL p4)), .val (.ref (f6 w_INTEGER w_TEXT w_DATE w_DECIMAL p4)), .val (.ref b55), .val (.ref b58), .val (.ref b55), .val (.ref b58), .unset] [(.ref b70)])) _
        refine OGot.go (fun t k => XS.astore X71.here hx rfl (hb hby at_156) rfl rfl (l' := #[.val (.int p1), .val (.int p2), .val (.int p3), .val (.int p4), .val (.int p5), .val (.int p6), .val (.int (2 : Int32)), .val (.ref b4_7), .val (.ref b4_8), .val (.ref (f6 w_INTEGER w_TEXT w_DATE w_DECIMAL p4)), .val (.ref (f6 w_INTEGER w_TEXT w_DATE w_DECIMAL p4)), .val (.ref b55), .val (.ref b58), .val (.ref b55), .val (.ref b58), .val (.ref b70)]) rfl k) ?_
        show OGot p.tables e below (T71.setTop (mkF m 158 #[.val (.int p1), .val (.int p2), .val (.int p3), .val (.int p4), .val (.int p5), .val (.int p6), .val (.int (2 : Int32)), .val (.ref b4_7), .val (.ref b4_8), .val (.ref (f6 w_INTEGER w_TEXT w_DATE w_DECIMAL p4)), .val (.ref (f6 w_INTEGER w_TEXT w_DATE w_DECIMAL p4)), .val (.ref b55), .val (.ref b58), .val (.ref b55), .val (.ref b58), .val (.ref b70)] [])) _
        refine OGot.go (fun t k => XS.aload X71.here hx rfl (hb hby at_158) rfl rfl k) ?_
        show OGot p.tables e below (T71.setTop (mkF m 160 #[.val (.int p1), .val (.int p2), .val (.int p3), .val (.int p4), .val (.int p5), .val (.int p6), .val (.int (2 : Int32)), .val (.ref b4_7), .val (.ref b4_8), .val (.ref (f6 w_INTEGER w_TEXT w_DATE w_DECIMAL p4)), .val (.ref (f6 w_INTEGER w_TEXT w_DATE w_DECIMAL p4)), .val (.ref b55), .val (.ref b58), .val (.ref b55), .val (.ref b58), .val (.ref b70)] [(.ref b70)])) _
        obtain ⟨cq91, kq91, q91a, q91b, q91c⟩ := isOf hZ rfl (OKeep.exa A70 K71)
        obtain ⟨_, _, ⟨T91, L91, k91, n91⟩, -, X91, ⟨Lc91, hQ91, l91, y91, z91⟩, st91⟩ := X71.virtualBack hx (y := (⟨"com/example/archipel/archipel/model/AttributeChange", "added", "()Z"⟩ : MethodName)) (z := (⟨"com/example/archipel/archipel/model/AttributeChange", "added", "()Z"⟩ : MethodName)) hown (mvT hZ (ow hw 79 rfl)) (mvT hZ (ow hw 80 rfl)) (notFace_of_selects (args := #[]) (mvT hZ (ow hw 82 rfl))) (mvT hZ (ow hw 82 rfl)) (mvT hZ (ow hw 81 rfl)) (by decide) (backOf (W := 0) (rm12_1 l Z a0 hw [] G b70 b55 T71.heap n0 O71 Fo71_2) hZ (ow hw 83 rfl) (ow hw 66 rfl) (by decide) (by decide)) q91a q91c (g := (mkF m 160 #[.val (.int p1), .val (.int p2), .val (.int p3), .val (.int p4), .val (.int p5), .val (.int p6), .val (.int (2 : Int32)), .val (.ref b4_7), .val (.ref b4_8), .val (.ref (f6 w_INTEGER w_TEXT w_DATE w_DECIMAL p4)), .val (.ref (f6 w_INTEGER w_TEXT w_DATE w_DECIMAL p4)), .val (.ref b55), .val (.ref b58), .val (.ref b55), .val (.ref b58), .val (.ref b70)] [(.ref b70)])) rfl (by rw [hml]; rfl) (Steps.refl _) (argsL := []) (rest := []) (lenOf pd_10 rfl) rfl (by show 2 * 0 + _ ≤ _; exact Nat.le_of_eq rfl) (hb hby at_160) (fun _ _ => ⟨rfl, rfl, (by decide : 7 + 0 ≤ _), (by decide : 22 + 0 ≤ _)⟩)
        dsimp only [Pt.U, Pt.locs, Pt.cells, Pt.slots] at X91 l91 y91 z91 st91 hQ91
        subst l91 y91 z91
        obtain ⟨rfl, N91q, e91⟩ := hQ91
        have N91 := Fr.app N71 N91q
        refine OGot.on st91 ?_
        show OGot p.tables e below (T91.setTop (mkF m 163 #[.val (.int p1), .val (.int p2), .val (.int p3), .val (.int p4), .val (.int p5), .val (.int p6), .val (.int (2 : Int32)), .val (.ref b4_7), .val (.ref b4_8), .val (.ref (f6 w_INTEGER w_TEXT w_DATE w_DECIMAL p4)), .val (.ref (f6 w_INTEGER w_TEXT w_DATE w_DECIMAL p4)), .val (.ref b55), .val (.ref b58), .val (.ref b55), .val (.ref b58), .val (.ref b70)] [(.int (0 : Int32))])) _
        refine OGot.go (fun t k => XS.iload X91.here hx rfl (hb hby at_163) rfl k) ?_
        show OGot p.tables e below (T91.setTop (mkF m 165 #[.val (.int p1), .val (.int p2), .val (.int p3), .val (.int p4), .val (.int p5), .val (.int p6), .val (.int (2 : Int32)), .val (.ref b4_7), .val (.ref b4_8), .val (.ref (f6 w_INTEGER w_TEXT w_DATE w_DECIMAL p4)), .val (.ref (f6 w_INTEGER w_TEXT w_DATE w_DECIMAL p4)), .val (.ref b55), .val (.ref b58), .val (.ref b55), .val (.ref b58), .val (.ref b70)] [(.int (2 : Int32)), (.int (0 : Int32))])) _
        refine OGot.go (fun t k => XS.ifYes X91.here hx rfl (pc0 := 165) (pc' := 172) rfl (hb hby at_165) rfl (by decide) (by decide) (by decide) k) ?_
        show OGot p.tables e below (T91.setTop (mkF m 172 #[.val (.int p1), .val (.int p2), .val (.int p3), .val (.int p4), .val (.int p5), .val (.int p6), .val (.int (2 : Int32)), .val (.ref b4_7), .val (.ref b4_8), .val (.ref (f6 w_INTEGER w_TEXT w_DATE w_DECIMAL p4)), .val (.ref (f6 w_INTEGER w_TEXT w_DATE w_DECIMAL p4)), .val (.ref b55), .val (.ref b58), .val (.ref b55), .val (.ref b58), .val (.ref b70)] [(.int (0 : Int32))])) _
        refine OGot.go (fun t k => XS.iconst X91.here hx rfl (hb hby at_172) k) ?_
        show OGot p.tables e below (T91.setTop (mkF m 173 #[.val (.int p1), .val (.int p2), .val (.int p3), .val (.int p4), .val (.int p5), .val (.int p6), .val (.int (2 : Int32)), .val (.ref b4_7), .val (.ref b4_8), .val (.ref (f6 w_INTEGER w_TEXT w_DATE w_DECIMAL p4)), .val (.ref (f6 w_INTEGER w_TEXT w_DATE w_DECIMAL p4)), .val (.ref b55), .val (.ref b58), .val (.ref b55), .val (.ref b58), .val (.ref b70)] [(.int (0 : Int32)), (.int (0 : Int32))])) _
        refine OGot.go (fun t k => XS.icmpNo X91.here hx rfl (hb hby at_173) rfl (by decide) k) ?_
        show OGot p.tables e below (T91.setTop (mkF m 176 #[.val (.int p1), .val (.int p2), .val (.int p3), .val (.int p4), .val (.int p5), .val (.int p6), .val (.int (2 : Int32)), .val (.ref b4_7), .val (.ref b4_8), .val (.ref (f6 w_INTEGER w_TEXT w_DATE w_DECIMAL p4)), .val (.ref (f6 w_INTEGER w_TEXT w_DATE w_DECIMAL p4)), .val (.ref b55), .val (.ref b58), .val (.ref b55), .val (.ref b58), .val (.ref b70)] [])) _
        refine OGot.go (fun t k => XS.iconst X91.here hx rfl (hb hby at_176) k) ?_
        show OGot p.tables e below (T91.setTop (mkF m 177 #[.val (.int p1), .val (.int p2), .val (.int p3), .val (.int p4), .val (.int p5), .val (.int p6), .val (.int (2 : Int32)), .val (.ref b4_7), .val (.ref b4_8), .val (.ref (f6 w_INTEGER w_TEXT w_DATE w_DECIMAL p4)), .val (.ref (f6 w_INTEGER w_TEXT w_DATE w_DECIMAL p4)), .val (.ref b55), .val (.ref b58), .val (.ref b55), .val (.ref b58), .val (.ref b70)] [(.int (1 : Int32))])) _
        refine OGot.go (fun t k => XS.goto X91.here hx rfl (pc0 := 177) (pc' := 181) rfl (hb hby at_177) (by decide) (by decide) k) ?_
        show OGot p.tables e below (T91.setTop (mkF m 181 #[.val (.int p1), .val (.int p2), .val (.int p3), .val (.int p4), .val (.int p5), .val (.int p6), .val (.int (2 : Int32)), .val (.ref b4_7), .val (.ref b4_8), .val (.ref (f6 w_INTEGER w_TEXT w_DATE w_DECIMAL p4)), .val (.ref (f6 w_INTEGER w_TEXT w_DATE w_DECIMAL p4)), .val (.ref b55), .val (.ref b58), .val (.ref b55), .val (.ref b58), .val (.ref b70)] [(.int (1 : Int32))])) _
        obtain ⟨fs, hr, hrun, hended, hW, hsame⟩ := X91.leave (v := some (.int (1 : Int32))) (fun h => by rw [Bd.returns] at h; cases h)
        refine ⟨_, _, retN X91 hx (t := .boolean) Bd.returns (by simp) (hb hby at_181) hr, hrun, hended, _, _, rfl, ?_, ⟨_, rfl⟩, hW, hsame.mono (by decide) (by decide)⟩
        exact (⟨rfl, N91⟩ : Q0 Z w_INTEGER w_TEXT w_DATE w_DECIMAL i_COMPACT_STRINGS p1 p2 p3 p4 p5 p6 h0 n0 _ T91.heap _)
  · refine OGot.go (fun t k => XS.ifYes X12.here hx rfl (pc0 := 50) (pc' := 64) rfl (hb hby at_50) rfl ((if0 _ _).trans (feq hs16).2) (by decide) (by decide) k) ?_
    show OGot p.tables e below (T12.setTop (mkF m 64 #[.val (.int p1), .val (.int p2), .val (.int p3), .val (.int p4), .val (.int p5), .val (.int p6), .val (.int ((p1 &&& (2147483647 : Int32)) % (3 : Int32))), .val (.ref b4_7), .val (.ref b4_8), .val (.ref (f6 w_INTEGER w_TEXT w_DATE w_DECIMAL p4)), .val (.ref (f6 w_INTEGER w_TEXT w_DATE w_DECIMAL p5)), .unset, .unset, .unset, .unset, .unset] [])) _
    obtain ⟨T92, h92, X92, e92, E92, A92, D92, -, st92⟩ := newO X12 hx hZ hown (ow hw 44 rfl) (ow hw 45 rfl) (ow hw 46 rfl) e12 (g := (mkF m 64 #[.val (.int p1), .val (.int p2), .val (.int p3), .val (.int p4), .val (.int p5), .val (.int p6), .val (.int ((p1 &&& (2147483647 : Int32)) % (3 : Int32))), .val (.ref b4_7), .val (.ref b4_8), .val (.ref (f6 w_INTEGER w_TEXT w_DATE w_DECIMAL p4)), .val (.ref (f6 w_INTEGER w_TEXT w_DATE w_DECIMAL p5)), .unset, .unset, .unset, .unset, .unset] [])) rfl (hb hby at_64) (by decide) (by decide)
    obtain ⟨b92, g92⟩ : ∃ z, z = T8.heap.size := ⟨_, rfl⟩
    rw [← g92] at A92 D92 st92
    refine OGot.go st92 ?_
    have g_b92 : n0 ≤ b92 := Nat.le_trans (osz O8) (Nat.le_of_eq g92.symm)
    have sy_b92 : T8.heap.size ≤ b92 := Nat.le_of_eq g92.symm
    have O92 := O8.ext E92
    have F92_name : Fld Z h92 b92 "com/example/archipel/archipel/model/Attribute" "name" "Ljava/lang/String;" .null := D92 (Or.inr (ow hw 57 rfl)) (ty := (.object "java/lang/String")) (by decide)
    have F92_type : Fld Z h92 b92 "com/example/archipel/archipel/model/Attribute" "type" "Lcom/example/archipel/archipel/model/DataType;" .null := D92 (Or.inr (ow hw 59 rfl)) (ty := (.object "com/example/archipel/archipel/model/DataType")) (by decide)
    have F92_notNull : Fld Z h92 b92 "com/example/archipel/archipel/model/Attribute" "notNull" "Z" (.int (0 : Int32)) := D92 (Or.inr (ow hw 61 rfl)) (ty := .boolean) (by decide)
    have F92_references : Fld Z h92 b92 "com/example/archipel/archipel/model/Attribute" "references" "Ljava/lang/String;" .null := D92 (Or.inr (ow hw 63 rfl)) (ty := (.object "java/lang/String")) (by decide)
    show OGot p.tables e below (T92.setTop (mkF m 67 #[.val (.int p1), .val (.int p2), .val (.int p3), .val (.int p4), .val (.int p5), .val (.int p6), .val (.int ((p1 &&& (2147483647 : Int32)) % (3 : Int32))), .val (.ref b4_7), .val (.ref b4_8), .val (.ref (f6 w_INTEGER w_TEXT w_DATE w_DECIMAL p4)), .val (.ref (f6 w_INTEGER w_TEXT w_DATE w_DECIMAL p5)), .unset, .unset, .unset, .unset, .unset] [(.ref b92)])) _
    refine OGot.go (fun t k => XS.dup X92.here hx rfl (hb hby at_67) rfl rfl k) ?_
    show OGot p.tables e below (T92.setTop (mkF m 68 #[.val (.int p1), .val (.int p2), .val (.int p3), .val (.int p4), .val (.int p5), .val (.int p6), .val (.int ((p1 &&& (2147483647 : Int32)) % (3 : Int32))), .val (.ref b4_7), .val (.ref b4_8), .val (.ref (f6 w_INTEGER w_TEXT w_DATE w_DECIMAL p4)), .val (.ref (f6 w_INTEGER w_TEXT w_DATE w_DECIMAL p5)), .unset, .unset, .unset, .unset, .unset] [(.ref b92), (.ref b92)])) _
    refine OGot.go (fun t k => XS.aload X92.here hx rfl (hb hby at_68) rfl rfl k) ?_
    show OGot p.tables e below (T92.setTop (mkF m 70 #[.val (.int p1), .val (.int p2), .val (.int p3), .val (.int p4), .val (.int p5), .val (.int p6), .val (.int ((p1 &&& (2147483647 : Int32)) % (3 : Int32))), .val (.ref b4_7), .val (.ref b4_8), .val (.ref (f6 w_INTEGER w_TEXT w_DATE w_DECIMAL p4)), .val (.ref (f6 w_INTEGER w_TEXT w_DATE w_DECIMAL p5)), .unset, .unset, .unset, .unset, .unset] [(.ref b4_7), (.ref b92), (.ref b92)])) _
    refine OGot.go (fun t k => XS.aload X92.here hx rfl (hb hby at_70) rfl rfl k) ?_
    show OGot p.tables e below (T92.setTop (mkF m 72 #[.val (.int p1), .val (.int p2), .val (.int p3), .val (.int p4), .val (.int p5), .val (.int p6), .val (.int ((p1 &&& (2147483647 : Int32)) % (3 : Int32))), .val (.ref b4_7), .val (.ref b4_8), .val (.ref (f6 w_INTEGER w_TEXT w_DATE w_DECIMAL p4)), .val (.ref (f6 w_INTEGER w_TEXT w_DATE w_DECIMAL p5)), .unset, .unset, .unset, .unset, .unset] [(.ref (f6 w_INTEGER w_TEXT w_DATE w_DECIMAL p4)), (.ref b4_7), (.ref b92), (.ref b92)])) _
    refine OGot.go (fun t k => XS.iload X92.here hx rfl (hb hby at_72) rfl k) ?_
    show OGot p.tables e below (T92.setTop (mkF m 74 #[.val (.int p1), .val (.int p2), .val (.int p3), .val (.int p4), .val (.int p5), .val (.int p6), .val (.int ((p1 &&& (2147483647 : Int32)) % (3 : Int32))), .val (.ref b4_7), .val (.ref b4_8), .val (.ref (f6 w_INTEGER w_TEXT w_DATE w_DECIMAL p4)), .val (.ref (f6 w_INTEGER w_TEXT w_DATE w_DECIMAL p5)), .unset, .unset, .unset, .unset, .unset] [(.int p6), (.ref (f6 w_INTEGER w_TEXT w_DATE w_DECIMAL p4)), (.ref b4_7), (.ref b92), (.ref b92)])) _
    refine OGot.go (fun t k => XS.iconst X92.here hx rfl (hb hby at_74) k) ?_
    show OGot p.tables e below (T92.setTop (mkF m 75 #[.val (.int p1), .val (.int p2), .val (.int p3), .val (.int p4), .val (.int p5), .val (.int p6), .val (.int ((p1 &&& (2147483647 : Int32)) % (3 : Int32))), .val (.ref b4_7), .val (.ref b4_8), .val (.ref (f6 w_INTEGER w_TEXT w_DATE w_DECIMAL p4)), .val (.ref (f6 w_INTEGER w_TEXT w_DATE w_DECIMAL p5)), .unset, .unset, .unset, .unset, .unset] [(.int (1 : Int32)), (.int p6), (.ref (f6 w_INTEGER w_TEXT w_DATE w_DECIMAL p4)), (.ref b4_7), (.ref b92), (.ref b92)])) _
    refine OGot.go (fun t k => XS.iand X92.here hx rfl (hb hby at_75) rfl k) ?_
    show OGot p.tables e below (T92.setTop (mkF m 76 #[.val (.int p1), .val (.int p2), .val (.int p3), .val (.int p4), .val (.int p5), .val (.int p6), .val (.int ((p1 &&& (2147483647 : Int32)) % (3 : Int32))), .val (.ref b4_7), .val (.ref b4_8), .val (.ref (f6 w_INTEGER w_TEXT w_DATE w_DECIMAL p4)), .val (.ref (f6 w_INTEGER w_TEXT w_DATE w_DECIMAL p5)), .unset, .unset, .unset, .unset, .unset] [(.int (p6 &&& (1 : Int32))), (.ref (f6 w_INTEGER w_TEXT w_DATE w_DECIMAL p4)), (.ref b4_7), (.ref b92), (.ref b92)])) _
    refine OGot.go (B := T92.setTop (mkF m 84 #[.val (.int p1), .val (.int p2), .val (.int p3), .val (.int p4), .val (.int p5), .val (.int p6), .val (.int ((p1 &&& (2147483647 : Int32)) % (3 : Int32))), .val (.ref b4_7), .val (.ref b4_8), .val (.ref (f6 w_INTEGER w_TEXT w_DATE w_DECIMAL p4)), .val (.ref (f6 w_INTEGER w_TEXT w_DATE w_DECIMAL p5)), .unset, .unset, .unset, .unset, .unset] [(.int (if (p6 &&& (1 : Int32)) = (0 : Int32) then (0 : Int32) else (1 : Int32))), (.ref (f6 w_INTEGER w_TEXT w_DATE w_DECIMAL p4)), (.ref b4_7), (.ref b92), (.ref b92)])) (fun t k => ?_) ?_
    · by_cases hj93 : (p6 &&& (1 : Int32)) = (0 : Int32)
      · refine XS.ifYes X92.here hx rfl (pc0 := 76) (pc' := 83) rfl (hb hby at_76) rfl ((if0 _ _).trans (teq hj93).1) (by decide) (by decide) ?_
        show Steps p.tables e below (T92.setTop (mkF m 83 #[.val (.int p1), .val (.int p2), .val (.int p3), .val (.int p4), .val (.int p5), .val (.int p6), .val (.int ((p1 &&& (2147483647 : Int32)) % (3 : Int32))), .val (.ref b4_7), .val (.ref b4_8), .val (.ref (f6 w_INTEGER w_TEXT w_DATE w_DECIMAL p4)), .val (.ref (f6 w_INTEGER w_TEXT w_DATE w_DECIMAL p5)), .unset, .unset, .unset, .unset, .unset] [(.ref (f6 w_INTEGER w_TEXT w_DATE w_DECIMAL p4)), (.ref b4_7), (.ref b92), (.ref b92)])) _
        refine XS.iconst X92.here hx rfl (hb hby at_83) ?_
        show Steps p.tables e below (T92.setTop (mkF m 84 #[.val (.int p1), .val (.int p2), .val (.int p3), .val (.int p4), .val (.int p5), .val (.int p6), .val (.int ((p1 &&& (2147483647 : Int32)) % (3 : Int32))), .val (.ref b4_7), .val (.ref b4_8), .val (.ref (f6 w_INTEGER w_TEXT w_DATE w_DECIMAL p4)), .val (.ref (f6 w_INTEGER w_TEXT w_DATE w_DECIMAL p5)), .unset, .unset, .unset, .unset, .unset] [(.int (0 : Int32)), (.ref (f6 w_INTEGER w_TEXT w_DATE w_DECIMAL p4)), (.ref b4_7), (.ref b92), (.ref b92)])) _
        simp only [if_pos hj93] at k
        exact k
      · refine XS.ifNo X92.here hx rfl (hb hby at_76) rfl ((if0 _ _).trans (feq hj93).1) ?_
        show Steps p.tables e below (T92.setTop (mkF m 79 #[.val (.int p1), .val (.int p2), .val (.int p3), .val (.int p4), .val (.int p5), .val (.int p6), .val (.int ((p1 &&& (2147483647 : Int32)) % (3 : Int32))), .val (.ref b4_7), .val (.ref b4_8), .val (.ref (f6 w_INTEGER w_TEXT w_DATE w_DECIMAL p4)), .val (.ref (f6 w_INTEGER w_TEXT w_DATE w_DECIMAL p5)), .unset, .unset, .unset, .unset, .unset] [(.ref (f6 w_INTEGER w_TEXT w_DATE w_DECIMAL p4)), (.ref b4_7), (.ref b92), (.ref b92)])) _
        refine XS.iconst X92.here hx rfl (hb hby at_79) ?_
        show Steps p.tables e below (T92.setTop (mkF m 80 #[.val (.int p1), .val (.int p2), .val (.int p3), .val (.int p4), .val (.int p5), .val (.int p6), .val (.int ((p1 &&& (2147483647 : Int32)) % (3 : Int32))), .val (.ref b4_7), .val (.ref b4_8), .val (.ref (f6 w_INTEGER w_TEXT w_DATE w_DECIMAL p4)), .val (.ref (f6 w_INTEGER w_TEXT w_DATE w_DECIMAL p5)), .unset, .unset, .unset, .unset, .unset] [(.int (1 : Int32)), (.ref (f6 w_INTEGER w_TEXT w_DATE w_DECIMAL p4)), (.ref b4_7), (.ref b92), (.ref b92)])) _
        refine XS.goto X92.here hx rfl (pc0 := 80) (pc' := 84) rfl (hb hby at_80) (by decide) (by decide) ?_
        show Steps p.tables e below (T92.setTop (mkF m 84 #[.val (.int p1), .val (.int p2), .val (.int p3), .val (.int p4), .val (.int p5), .val (.int p6), .val (.int ((p1 &&& (2147483647 : Int32)) % (3 : Int32))), .val (.ref b4_7), .val (.ref b4_8), .val (.ref (f6 w_INTEGER w_TEXT w_DATE w_DECIMAL p4)), .val (.ref (f6 w_INTEGER w_TEXT w_DATE w_DECIMAL p5)), .unset, .unset, .unset, .unset, .unset] [(.int (1 : Int32)), (.ref (f6 w_INTEGER w_TEXT w_DATE w_DECIMAL p4)), (.ref b4_7), (.ref b92), (.ref b92)])) _
        simp only [if_neg hj93] at k
        exact k
    show OGot p.tables e below (T92.setTop (mkF m 84 #[.val (.int p1), .val (.int p2), .val (.int p3), .val (.int p4), .val (.int p5), .val (.int p6), .val (.int ((p1 &&& (2147483647 : Int32)) % (3 : Int32))), .val (.ref b4_7), .val (.ref b4_8), .val (.ref (f6 w_INTEGER w_TEXT w_DATE w_DECIMAL p4)), .val (.ref (f6 w_INTEGER w_TEXT w_DATE w_DECIMAL p5)), .unset, .unset, .unset, .unset, .unset] [(.int (if (p6 &&& (1 : Int32)) = (0 : Int32) then (0 : Int32) else (1 : Int32))), (.ref (f6 w_INTEGER w_TEXT w_DATE w_DECIMAL p4)), (.ref b4_7), (.ref b92), (.ref b92)])) _
    refine OGot.go (fun t k => XS.aconstNull X92.here hx rfl (hb hby at_84) k) ?_
    show OGot p.tables e below (T92.setTop (mkF m 85 #[.val (.int p1), .val (.int p2), .val (.int p3), .val (.int p4), .val (.int p5), .val (.int p6), .val (.int ((p1 &&& (2147483647 : Int32)) % (3 : Int32))), .val (.ref b4_7), .val (.ref b4_8), .val (.ref (f6 w_INTEGER w_TEXT w_DATE w_DECIMAL p4)), .val (.ref (f6 w_INTEGER w_TEXT w_DATE w_DECIMAL p5)), .unset, .unset, .unset, .unset, .unset] [.null, (.int (if (p6 &&& (1 : Int32)) = (0 : Int32) then (0 : Int32) else (1 : Int32))), (.ref (f6 w_INTEGER w_TEXT w_DATE w_DECIMAL p4)), (.ref b4_7), (.ref b92), (.ref b92)])) _
    obtain ⟨_, _, ⟨T94, L94, k94, n94⟩, -, X94, ⟨Lc94, hQ94, l94, y94, z94⟩, st94⟩ := X92.specialBack hx (y := (⟨"com/example/archipel/archipel/model/Attribute", "<init>", "(Ljava/lang/String;Lcom/example/archipel/archipel/model/DataType;ZLjava/lang/String;)V"⟩ : MethodName)) rfl hown (mvT hZ (ow hw 47 rfl)) (mvT hZ (ow hw 48 rfl)) (mvT hZ (ow hw 49 rfl)) (by decide) (backOf (W := 1) (rm9 l Z a0 hw [] G b92 b4_7 (f6 w_INTEGER w_TEXT w_DATE w_DECIMAL p4) (if (p6 &&& (1 : Int32)) = (0 : Int32) then (0 : Int32) else (1 : Int32)) h92 n0 O92 A92 F92_name g_b92 F92_type F92_notNull F92_references) hZ (ow hw 49 rfl) (ow hw 46 rfl) (by decide) (by decide)) (g := (mkF m 85 #[.val (.int p1), .val (.int p2), .val (.int p3), .val (.int p4), .val (.int p5), .val (.int p6), .val (.int ((p1 &&& (2147483647 : Int32)) % (3 : Int32))), .val (.ref b4_7), .val (.ref b4_8), .val (.ref (f6 w_INTEGER w_TEXT w_DATE w_DECIMAL p4)), .val (.ref (f6 w_INTEGER w_TEXT w_DATE w_DECIMAL p5)), .unset, .unset, .unset, .unset, .unset] [.null, (.int (if (p6 &&& (1 : Int32)) = (0 : Int32) then (0 : Int32) else (1 : Int32))), (.ref (f6 w_INTEGER w_TEXT w_DATE w_DECIMAL p4)), (.ref b4_7), (.ref b92), (.ref b92)])) rfl (by rw [hml]; rfl) (Steps.refl _) (a := b92) (argsL := [(.ref b4_7), (.ref (f6 w_INTEGER w_TEXT w_DATE w_DECIMAL p4)), (.int (if (p6 &&& (1 : Int32)) = (0 : Int32) then (0 : Int32) else (1 : Int32))), .null]) (rest := [(.ref b92)]) (lenOf pd_8 rfl) rfl (by show 2 * 0 + _ ≤ _; exact Nat.le_of_eq rfl) (hb hby at_85) (fun _ _ => ⟨rfl, e92, (by decide : 5 + 0 ≤ _), (by decide : 14 + 0 ≤ _)⟩)
    dsimp only [Pt.U, Pt.locs, Pt.cells, Pt.slots] at X94 l94 y94 z94 st94 hQ94
    subst l94 y94 z94
    obtain ⟨N94q, rfl, K94, Fo94_0, Fo94_1, Fo94_2, Fo94_3⟩ := hQ94
    have O94 := OKeep.old O92 K94 (ogeS g_b92 (ogeS g_b92 (ogeS g_b92 (ogeS g_b92 oge0))))
    have N94 := Fr.app N12 N94q
    refine OGot.on st94 ?_
    show OGot p.tables e below (T94.setTop (mkF m 88 #[.val (.int p1), .val (.int p2), .val (.int p3), .val (.int p4), .val (.int p5), .val (.int p6), .val (.int ((p1 &&& (2147483647 : Int32)) % (3 : Int32))), .val (.ref b4_7), .val (.ref b4_8), .val (.ref (f6 w_INTEGER w_TEXT w_DATE w_DECIMAL p4)), .val (.ref (f6 w_INTEGER w_TEXT w_DATE w_DECIMAL p5)), .unset, .unset, .unset, .unset, .unset] [(.ref b92)])) _
    refine OGot.go (fun t k => XS.astore X94.here hx rfl (hb hby at_88) rfl rfl (l' := #[.val (.int p1), .val (.int p2), .val (.int p3), .val (.int p4), .val (.int p5), .val (.int p6), .val (.int ((p1 &&& (2147483647 : Int32)) % (3 : Int32))), .val (.ref b4_7), .val (.ref b4_8), .val (.ref (f6 w_INTEGER w_TEXT w_DATE w_DECIMAL p4)), .val (.ref (f6 w_INTEGER w_TEXT w_DATE w_DECIMAL p5)), .val (.ref b92), .unset, .unset, .unset, .unset]) rfl k) ?_
    show OGot p.tables e below (T94.setTop (mkF m 90 #[.val (.int p1), .val (.int p2), .val (.int p3), .val (.int p4), .val (.int p5), .val (.int p6), .val (.int ((p1 &&& (2147483647 : Int32)) % (3 : Int32))), .val (.ref b4_7), .val (.ref b4_8), .val (.ref (f6 w_INTEGER w_TEXT w_DATE w_DECIMAL p4)), .val (.ref (f6 w_INTEGER w_TEXT w_DATE w_DECIMAL p5)), .val (.ref b92), .unset, .unset, .unset, .unset] [])) _
    obtain ⟨T95, h95, X95, e95, E95, A95, D95, -, st95⟩ := newO X94 hx hZ hown (ow hw 44 rfl) (ow hw 45 rfl) (ow hw 46 rfl) rfl (g := (mkF m 90 #[.val (.int p1), .val (.int p2), .val (.int p3), .val (.int p4), .val (.int p5), .val (.int p6), .val (.int ((p1 &&& (2147483647 : Int32)) % (3 : Int32))), .val (.ref b4_7), .val (.ref b4_8), .val (.ref (f6 w_INTEGER w_TEXT w_DATE w_DECIMAL p4)), .val (.ref (f6 w_INTEGER w_TEXT w_DATE w_DECIMAL p5)), .val (.ref b92), .unset, .unset, .unset, .unset] [])) rfl (hb hby at_90) (by decide) (by decide)
    obtain ⟨b95, g95⟩ : ∃ z, z = T94.heap.size := ⟨_, rfl⟩
    rw [← g95] at A95 D95 st95
    refine OGot.go st95 ?_
    have g_b95 : n0 ≤ b95 := Nat.le_trans (osz O94) (Nat.le_of_eq g95.symm)
    have sy_b95 : T94.heap.size ≤ b95 := Nat.le_of_eq g95.symm
    have O95 := O94.ext E95
    have F95_name : Fld Z h95 b95 "com/example/archipel/archipel/model/Attribute" "name" "Ljava/lang/String;" .null := D95 (Or.inr (ow hw 57 rfl)) (ty := (.object "java/lang/String")) (by decide)
    have F95_type : Fld Z h95 b95 "com/example/archipel/archipel/model/Attribute" "type" "Lcom/example/archipel/archipel/model/DataType;" .null := D95 (Or.inr (ow hw 59 rfl)) (ty := (.object "com/example/archipel/archipel/model/DataType")) (by decide)
    have F95_notNull : Fld Z h95 b95 "com/example/archipel/archipel/model/Attribute" "notNull" "Z" (.int (0 : Int32)) := D95 (Or.inr (ow hw 61 rfl)) (ty := .boolean) (by decide)
    have F95_references : Fld Z h95 b95 "com/example/archipel/archipel/model/Attribute" "references" "Ljava/lang/String;" .null := D95 (Or.inr (ow hw 63 rfl)) (ty := (.object "java/lang/String")) (by decide)
    show OGot p.tables e below (T95.setTop (mkF m 93 #[.val (.int p1), .val (.int p2), .val (.int p3), .val (.int p4), .val (.int p5), .val (.int p6), .val (.int ((p1 &&& (2147483647 : Int32)) % (3 : Int32))), .val (.ref b4_7), .val (.ref b4_8), .val (.ref (f6 w_INTEGER w_TEXT w_DATE w_DECIMAL p4)), .val (.ref (f6 w_INTEGER w_TEXT w_DATE w_DECIMAL p5)), .val (.ref b92), .unset, .unset, .unset, .unset] [(.ref b95)])) _
    refine OGot.go (fun t k => XS.dup X95.here hx rfl (hb hby at_93) rfl rfl k) ?_
    show OGot p.tables e below (T95.setTop (mkF m 94 #[.val (.int p1), .val (.int p2), .val (.int p3), .val (.int p4), .val (.int p5), .val (.int p6), .val (.int ((p1 &&& (2147483647 : Int32)) % (3 : Int32))), .val (.ref b4_7), .val (.ref b4_8), .val (.ref (f6 w_INTEGER w_TEXT w_DATE w_DECIMAL p4)), .val (.ref (f6 w_INTEGER w_TEXT w_DATE w_DECIMAL p5)), .val (.ref b92), .unset, .unset, .unset, .unset] [(.ref b95), (.ref b95)])) _
    refine OGot.go (fun t k => XS.aload X95.here hx rfl (hb hby at_94) rfl rfl k) ?_
    show OGot p.tables e below (T95.setTop (mkF m 96 #[.val (.int p1), .val (.int p2), .val (.int p3), .val (.int p4), .val (.int p5), .val (.int p6), .val (.int ((p1 &&& (2147483647 : Int32)) % (3 : Int32))), .val (.ref b4_7), .val (.ref b4_8), .val (.ref (f6 w_INTEGER w_TEXT w_DATE w_DECIMAL p4)), .val (.ref (f6 w_INTEGER w_TEXT w_DATE w_DECIMAL p5)), .val (.ref b92), .unset, .unset, .unset, .unset] [(.ref b4_8), (.ref b95), (.ref b95)])) _
    refine OGot.go (fun t k => XS.aload X95.here hx rfl (hb hby at_96) rfl rfl k) ?_
    show OGot p.tables e below (T95.setTop (mkF m 98 #[.val (.int p1), .val (.int p2), .val (.int p3), .val (.int p4), .val (.int p5), .val (.int p6), .val (.int ((p1 &&& (2147483647 : Int32)) % (3 : Int32))), .val (.ref b4_7), .val (.ref b4_8), .val (.ref (f6 w_INTEGER w_TEXT w_DATE w_DECIMAL p4)), .val (.ref (f6 w_INTEGER w_TEXT w_DATE w_DECIMAL p5)), .val (.ref b92), .unset, .unset, .unset, .unset] [(.ref (f6 w_INTEGER w_TEXT w_DATE w_DECIMAL p5)), (.ref b4_8), (.ref b95), (.ref b95)])) _
    refine OGot.go (fun t k => XS.iload X95.here hx rfl (hb hby at_98) rfl k) ?_
    show OGot p.tables e below (T95.setTop (mkF m 100 #[.val (.int p1), .val (.int p2), .val (.int p3), .val (.int p4), .val (.int p5), .val (.int p6), .val (.int ((p1 &&& (2147483647 : Int32)) % (3 : Int32))), .val (.ref b4_7), .val (.ref b4_8), .val (.ref (f6 w_INTEGER w_TEXT w_DATE w_DECIMAL p4)), .val (.ref (f6 w_INTEGER w_TEXT w_DATE w_DECIMAL p5)), .val (.ref b92), .unset, .unset, .unset, .unset] [(.int p6), (.ref (f6 w_INTEGER w_TEXT w_DATE w_DECIMAL p5)), (.ref b4_8), (.ref b95), (.ref b95)])) _
    refine OGot.go (fun t k => XS.iconst X95.here hx rfl (hb hby at_100) k) ?_
    show OGot p.tables e below (T95.setTop (mkF m 101 #[.val (.int p1), .val (.int p2), .val (.int p3), .val (.int p4), .val (.int p5), .val (.int p6), .val (.int ((p1 &&& (2147483647 : Int32)) % (3 : Int32))), .val (.ref b4_7), .val (.ref b4_8), .val (.ref (f6 w_INTEGER w_TEXT w_DATE w_DECIMAL p4)), .val (.ref (f6 w_INTEGER w_TEXT w_DATE w_DECIMAL p5)), .val (.ref b92), .unset, .unset, .unset, .unset] [(.int (2 : Int32)), (.int p6), (.ref (f6 w_INTEGER w_TEXT w_DATE w_DECIMAL p5)), (.ref b4_8), (.ref b95), (.ref b95)])) _
    refine OGot.go (fun t k => XS.iand X95.here hx rfl (hb hby at_101) rfl k) ?_
    show OGot p.tables e below (T95.setTop (mkF m 102 #[.val (.int p1), .val (.int p2), .val (.int p3), .val (.int p4), .val (.int p5), .val (.int p6), .val (.int ((p1 &&& (2147483647 : Int32)) % (3 : Int32))), .val (.ref b4_7), .val (.ref b4_8), .val (.ref (f6 w_INTEGER w_TEXT w_DATE w_DECIMAL p4)), .val (.ref (f6 w_INTEGER w_TEXT w_DATE w_DECIMAL p5)), .val (.ref b92), .unset, .unset, .unset, .unset] [(.int (p6 &&& (2 : Int32))), (.ref (f6 w_INTEGER w_TEXT w_DATE w_DECIMAL p5)), (.ref b4_8), (.ref b95), (.ref b95)])) _
    refine OGot.go (B := T95.setTop (mkF m 110 #[.val (.int p1), .val (.int p2), .val (.int p3), .val (.int p4), .val (.int p5), .val (.int p6), .val (.int ((p1 &&& (2147483647 : Int32)) % (3 : Int32))), .val (.ref b4_7), .val (.ref b4_8), .val (.ref (f6 w_INTEGER w_TEXT w_DATE w_DECIMAL p4)), .val (.ref (f6 w_INTEGER w_TEXT w_DATE w_DECIMAL p5)), .val (.ref b92), .unset, .unset, .unset, .unset] [(.int (if (p6 &&& (2 : Int32)) = (0 : Int32) then (0 : Int32) else (1 : Int32))), (.ref (f6 w_INTEGER w_TEXT w_DATE w_DECIMAL p5)), (.ref b4_8), (.ref b95), (.ref b95)])) (fun t k => ?_) ?_
    · by_cases hj96 : (p6 &&& (2 : Int32)) = (0 : Int32)
      · refine XS.ifYes X95.here hx rfl (pc0 := 102) (pc' := 109) rfl (hb hby at_102) rfl ((if0 _ _).trans (teq hj96).1) (by decide) (by decide) ?_
        show Steps p.tables e below (T95.setTop (mkF m 109 #[.val (.int p1), .val (.int p2), .val (.int p3), .val (.int p4), .val (.int p5), .val (.int p6), .val (.int ((p1 &&& (2147483647 : Int32)) % (3 : Int32))), .val (.ref b4_7), .val (.ref b4_8), .val (.ref (f6 w_INTEGER w_TEXT w_DATE w_DECIMAL p4)), .val (.ref (f6 w_INTEGER w_TEXT w_DATE w_DECIMAL p5)), .val (.ref b92), .unset, .unset, .unset, .unset] [(.ref (f6 w_INTEGER w_TEXT w_DATE w_DECIMAL p5)), (.ref b4_8), (.ref b95), (.ref b95)])) _
        refine XS.iconst X95.here hx rfl (hb hby at_109) ?_
        show Steps p.tables e below (T95.setTop (mkF m 110 #[.val (.int p1), .val (.int p2), .val (.int p3), .val (.int p4), .val (.int p5), .val (.int p6), .val (.int ((p1 &&& (2147483647 : Int32)) % (3 : Int32))), .val (.ref b4_7), .val (.ref b4_8), .val (.ref (f6 w_INTEGER w_TEXT w_DATE w_DECIMAL p4)), .val (.ref (f6 w_INTEGER w_TEXT w_DATE w_DECIMAL p5)), .val (.ref b92), .unset, .unset, .unset, .unset] [(.int (0 : Int32)), (.ref (f6 w_INTEGER w_TEXT w_DATE w_DECIMAL p5)), (.ref b4_8), (.ref b95), (.ref b95)])) _
        simp only [if_pos hj96] at k
        exact k
      · refine XS.ifNo X95.here hx rfl (hb hby at_102) rfl ((if0 _ _).trans (feq hj96).1) ?_
        show Steps p.tables e below (T95.setTop (mkF m 105 #[.val (.int p1), .val (.int p2), .val (.int p3), .val (.int p4), .val (.int p5), .val (.int p6), .val (.int ((p1 &&& (2147483647 : Int32)) % (3 : Int32))), .val (.ref b4_7), .val (.ref b4_8), .val (.ref (f6 w_INTEGER w_TEXT w_DATE w_DECIMAL p4)), .val (.ref (f6 w_INTEGER w_TEXT w_DATE w_DECIMAL p5)), .val (.ref b92), .unset, .unset, .unset, .unset] [(.ref (f6 w_INTEGER w_TEXT w_DATE w_DECIMAL p5)), (.ref b4_8), (.ref b95), (.ref b95)])) _
        refine XS.iconst X95.here hx rfl (hb hby at_105) ?_
        show Steps p.tables e below (T95.setTop (mkF m 106 #[.val (.int p1), .val (.int p2), .val (.int p3), .val (.int p4), .val (.int p5), .val (.int p6), .val (.int ((p1 &&& (2147483647 : Int32)) % (3 : Int32))), .val (.ref b4_7), .val (.ref b4_8), .val (.ref (f6 w_INTEGER w_TEXT w_DATE w_DECIMAL p4)), .val (.ref (f6 w_INTEGER w_TEXT w_DATE w_DECIMAL p5)), .val (.ref b92), .unset, .unset, .unset, .unset] [(.int (1 : Int32)), (.ref (f6 w_INTEGER w_TEXT w_DATE w_DECIMAL p5)), (.ref b4_8), (.ref b95), (.ref b95)])) _
        refine XS.goto X95.here hx rfl (pc0 := 106) (pc' := 110) rfl (hb hby at_106) (by decide) (by decide) ?_
        show Steps p.tables e below (T95.setTop (mkF m 110 #[.val (.int p1), .val (.int p2), .val (.int p3), .val (.int p4), .val (.int p5), .val (.int p6), .val (.int ((p1 &&& (2147483647 : Int32)) % (3 : Int32))), .val (.ref b4_7), .val (.ref b4_8), .val (.ref (f6 w_INTEGER w_TEXT w_DATE w_DECIMAL p4)), .val (.ref (f6 w_INTEGER w_TEXT w_DATE w_DECIMAL p5)), .val (.ref b92), .unset, .unset, .unset, .unset] [(.int (1 : Int32)), (.ref (f6 w_INTEGER w_TEXT w_DATE w_DECIMAL p5)), (.ref b4_8), (.ref b95), (.ref b95)])) _
        simp only [if_neg hj96] at k
        exact k
    show OGot p.tables e below (T95.setTop (mkF m 110 #[.val (.int p1), .val (.int p2), .val (.int p3), .val (.int p4), .val (.int p5), .val (.int p6), .val (.int ((p1 &&& (2147483647 : Int32)) % (3 : Int32))), .val (.ref b4_7), .val (.ref b4_8), .val (.ref (f6 w_INTEGER w_TEXT w_DATE w_DECIMAL p4)), .val (.ref (f6 w_INTEGER w_TEXT w_DATE w_DECIMAL p5)), .val (.ref b92), .unset, .unset, .unset, .unset] [(.int (if (p6 &&& (2 : Int32)) = (0 : Int32) then (0 : Int32) else (1 : Int32))), (.ref (f6 w_INTEGER w_TEXT w_DATE w_DECIMAL p5)), (.ref b4_8), (.ref b95), (.ref b95)])) _
    refine OGot.go (fun t k => XS.aconstNull X95.here hx rfl (hb hby at_110) k) ?_
    show OGot p.tables e below (T95.setTop (mkF m 111 #[.val (.int p1), .val (.int p2), .val (.int p3), .val (.int p4), .val (.int p5), .val (.int p6), .val (.int ((p1 &&& (2147483647 : Int32)) % (3 : Int32))), .val (.ref b4_7), .val (.ref b4_8), .val (.ref (f6 w_INTEGER w_TEXT w_DATE w_DECIMAL p4)), .val (.ref (f6 w_INTEGER w_TEXT w_DATE w_DECIMAL p5)), .val (.ref b92), .unset, .unset, .unset, .unset] [.null, (.int (if (p6 &&& (2 : Int32)) = (0 : Int32) then (0 : Int32) else (1 : Int32))), (.ref (f6 w_INTEGER w_TEXT w_DATE w_DECIMAL p5)), (.ref b4_8), (.ref b95), (.ref b95)])) _
    obtain ⟨_, _, ⟨T97, L97, k97, n97⟩, -, X97, ⟨Lc97, hQ97, l97, y97, z97⟩, st97⟩ := X95.specialBack hx (y := (⟨"com/example/archipel/archipel/model/Attribute", "<init>", "(Ljava/lang/String;Lcom/example/archipel/archipel/model/DataType;ZLjava/lang/String;)V"⟩ : MethodName)) rfl hown (mvT hZ (ow hw 47 rfl)) (mvT hZ (ow hw 48 rfl)) (mvT hZ (ow hw 49 rfl)) (by decide) (backOf (W := 1) (rm9 l Z a0 hw [] G b95 b4_8 (f6 w_INTEGER w_TEXT w_DATE w_DECIMAL p5) (if (p6 &&& (2 : Int32)) = (0 : Int32) then (0 : Int32) else (1 : Int32)) h95 n0 O95 A95 F95_name g_b95 F95_type F95_notNull F95_references) hZ (ow hw 49 rfl) (ow hw 46 rfl) (by decide) (by decide)) (g := (mkF m 111 #[.val (.int p1), .val (.int p2), .val (.int p3), .val (.int p4), .val (.int p5), .val (.int p6), .val (.int ((p1 &&& (2147483647 : Int32)) % (3 : Int32))), .val (.ref b4_7), .val (.ref b4_8), .val (.ref (f6 w_INTEGER w_TEXT w_DATE w_DECIMAL p4)), .val (.ref (f6 w_INTEGER w_TEXT w_DATE w_DECIMAL p5)), .val (.ref b92), .unset, .unset, .unset, .unset] [.null, (.int (if (p6 &&& (2 : Int32)) = (0 : Int32) then (0 : Int32) else (1 : Int32))), (.ref (f6 w_INTEGER w_TEXT w_DATE w_DECIMAL p5)), (.ref b4_8), (.ref b95), (.ref b95)])) rfl (by rw [hml]; rfl) (Steps.refl _) (a := b95) (argsL := [(.ref b4_8), (.ref (f6 w_INTEGER w_TEXT w_DATE w_DECIMAL p5)), (.int (if (p6 &&& (2 : Int32)) = (0 : Int32) then (0 : Int32) else (1 : Int32))), .null]) (rest := [(.ref b95)]) (lenOf pd_8 rfl) rfl (by show 2 * 0 + _ ≤ _; exact Nat.le_of_eq rfl) (hb hby at_111) (fun _ _ => ⟨rfl, e95, (by decide : 6 + 0 ≤ _), (by decide : 18 + 0 ≤ _)⟩)
    dsimp only [Pt.U, Pt.locs, Pt.cells, Pt.slots] at X97 l97 y97 z97 st97 hQ97
    subst l97 y97 z97
    obtain ⟨N97q, rfl, K97, Fo97_0, Fo97_1, Fo97_2, Fo97_3⟩ := hQ97
    have O97 := OKeep.old O95 K97 (ogeS g_b95 (ogeS g_b95 (ogeS g_b95 (ogeS g_b95 oge0))))
    have N97 := Fr.app N94 N97q
    refine OGot.on st97 ?_
    show OGot p.tables e below (T97.setTop (mkF m 114 #[.val (.int p1), .val (.int p2), .val (.int p3), .val (.int p4), .val (.int p5), .val (.int p6), .val (.int ((p1 &&& (2147483647 : Int32)) % (3 : Int32))), .val (.ref b4_7), .val (.ref b4_8), .val (.ref (f6 w_INTEGER w_TEXT w_DATE w_DECIMAL p4)), .val (.ref (f6 w_INTEGER w_TEXT w_DATE w_DECIMAL p5)), .val (.ref b92), .unset, .unset, .unset, .unset] [(.ref b95)])) _
    refine OGot.go (fun t k => XS.astore X97.here hx rfl (hb hby at_114) rfl rfl (l' := #[.val (.int p1), .val (.int p2), .val (.int p3), .val (.int p4), .val (.int p5), .val (.int p6), .val (.int ((p1 &&& (2147483647 : Int32)) % (3 : Int32))), .val (.ref b4_7), .val (.ref b4_8), .val (.ref (f6 w_INTEGER w_TEXT w_DATE w_DECIMAL p4)), .val (.ref (f6 w_INTEGER w_TEXT w_DATE w_DECIMAL p5)), .val (.ref b92), .val (.ref b95), .unset, .unset, .unset]) rfl k) ?_
    show OGot p.tables e below (T97.setTop (mkF m 116 #[.val (.int p1), .val (.int p2), .val (.int p3), .val (.int p4), .val (.int p5), .val (.int p6), .val (.int ((p1 &&& (2147483647 : Int32)) % (3 : Int32))), .val (.ref b4_7), .val (.ref b4_8), .val (.ref (f6 w_INTEGER w_TEXT w_DATE w_DECIMAL p4)), .val (.ref (f6 w_INTEGER w_TEXT w_DATE w_DECIMAL p5)), .val (.ref b92), .val (.ref b95), .unset, .unset, .unset] [])) _
    refine OGot.go (fun t k => XS.iload X97.here hx rfl (hb hby at_116) rfl k) ?_
    show OGot p.tables e below (T97.setTop (mkF m 118 #[.val (.int p1), .val (.int p2), .val (.int p3), .val (.int p4), .val (.int p5), .val (.int p6), .val (.int ((p1 &&& (2147483647 : Int32)) % (3 : Int32))), .val (.ref b4_7), .val (.ref b4_8), .val (.ref (f6 w_INTEGER w_TEXT w_DATE w_DECIMAL p4)), .val (.ref (f6 w_INTEGER w_TEXT w_DATE w_DECIMAL p5)), .val (.ref b92), .val (.ref b95), .unset, .unset, .unset] [(.int ((p1 &&& (2147483647 : Int32)) % (3 : Int32)))])) _
    rcases own_rem3 p1 with hk98 | hk99 | hk100
    · rw [hk98]
      show OGot p.tables e below (T97.setTop (mkF m 118 #[.val (.int p1), .val (.int p2), .val (.int p3), .val (.int p4), .val (.int p5), .val (.int p6), .val (.int (0 : Int32)), .val (.ref b4_7), .val (.ref b4_8), .val (.ref (f6 w_INTEGER w_TEXT w_DATE w_DECIMAL p4)), .val (.ref (f6 w_INTEGER w_TEXT w_DATE w_DECIMAL p5)), .val (.ref b92), .val (.ref b95), .unset, .unset, .unset] [(.int (0 : Int32))])) _
      refine OGot.go (fun t k => XS.ifNo X97.here hx rfl (hb hby at_118) rfl (by decide) k) ?_
      show OGot p.tables e below (T97.setTop (mkF m 121 #[.val (.int p1), .val (.int p2), .val (.int p3), .val (.int p4), .val (.int p5), .val (.int p6), .val (.int (0 : Int32)), .val (.ref b4_7), .val (.ref b4_8), .val (.ref (f6 w_INTEGER w_TEXT w_DATE w_DECIMAL p4)), .val (.ref (f6 w_INTEGER w_TEXT w_DATE w_DECIMAL p5)), .val (.ref b92), .val (.ref b95), .unset, .unset, .unset] [])) _
      refine OGot.go (fun t k => XS.aconstNull X97.here hx rfl (hb hby at_121) k) ?_
      show OGot p.tables e below (T97.setTop (mkF m 122 #[.val (.int p1), .val (.int p2), .val (.int p3), .val (.int p4), .val (.int p5), .val (.int p6), .val (.int (0 : Int32)), .val (.ref b4_7), .val (.ref b4_8), .val (.ref (f6 w_INTEGER w_TEXT w_DATE w_DECIMAL p4)), .val (.ref (f6 w_INTEGER w_TEXT w_DATE w_DECIMAL p5)), .val (.ref b92), .val (.ref b95), .unset, .unset, .unset] [.null])) _
      refine OGot.go (fun t k => XS.goto X97.here hx rfl (pc0 := 122) (pc' := 127) rfl (hb hby at_122) (by decide) (by decide) k) ?_
      show OGot p.tables e below (T97.setTop (mkF m 127 #[.val (.int p1), .val (.int p2), .val (.int p3), .val (.int p4), .val (.int p5), .val (.int p6), .val (.int (0 : Int32)), .val (.ref b4_7), .val (.ref b4_8), .val (.ref (f6 w_INTEGER w_TEXT w_DATE w_DECIMAL p4)), .val (.ref (f6 w_INTEGER w_TEXT w_DATE w_DECIMAL p5)), .val (.ref b92), .val (.ref b95), .unset, .unset, .unset] [.null])) _
      refine OGot.go (fun t k => XS.astore X97.here hx rfl (hb hby at_127) rfl rfl (l' := #[.val (.int p1), .val (.int p2), .val (.int p3), .val (.int p4), .val (.int p5), .val (.int p6), .val (.int (0 : Int32)), .val (.ref b4_7), .val (.ref b4_8), .val (.ref (f6 w_INTEGER w_TEXT w_DATE w_DECIMAL p4)), .val (.ref (f6 w_INTEGER w_TEXT w_DATE w_DECIMAL p5)), .val (.ref b92), .val (.ref b95), .val .null, .unset, .unset]) rfl k) ?_
      show OGot p.tables e below (T97.setTop (mkF m 129 #[.val (.int p1), .val (.int p2), .val (.int p3), .val (.int p4), .val (.int p5), .val (.int p6), .val (.int (0 : Int32)), .val (.ref b4_7), .val (.ref b4_8), .val (.ref (f6 w_INTEGER w_TEXT w_DATE w_DECIMAL p4)), .val (.ref (f6 w_INTEGER w_TEXT w_DATE w_DECIMAL p5)), .val (.ref b92), .val (.ref b95), .val .null, .unset, .unset] [])) _
      refine OGot.go (fun t k => XS.iload X97.here hx rfl (hb hby at_129) rfl k) ?_
      show OGot p.tables e below (T97.setTop (mkF m 131 #[.val (.int p1), .val (.int p2), .val (.int p3), .val (.int p4), .val (.int p5), .val (.int p6), .val (.int (0 : Int32)), .val (.ref b4_7), .val (.ref b4_8), .val (.ref (f6 w_INTEGER w_TEXT w_DATE w_DECIMAL p4)), .val (.ref (f6 w_INTEGER w_TEXT w_DATE w_DECIMAL p5)), .val (.ref b92), .val (.ref b95), .val .null, .unset, .unset] [(.int (0 : Int32))])) _
      refine OGot.go (fun t k => XS.iconst X97.here hx rfl (hb hby at_131) k) ?_
      show OGot p.tables e below (T97.setTop (mkF m 132 #[.val (.int p1), .val (.int p2), .val (.int p3), .val (.int p4), .val (.int p5), .val (.int p6), .val (.int (0 : Int32)), .val (.ref b4_7), .val (.ref b4_8), .val (.ref (f6 w_INTEGER w_TEXT w_DATE w_DECIMAL p4)), .val (.ref (f6 w_INTEGER w_TEXT w_DATE w_DECIMAL p5)), .val (.ref b92), .val (.ref b95), .val .null, .unset, .unset] [(.int (1 : Int32)), (.int (0 : Int32))])) _
      refine OGot.go (fun t k => XS.icmpYes X97.here hx rfl (pc0 := 132) (pc' := 139) rfl (hb hby at_132) rfl (by decide) (by decide) (by decide) k) ?_
      show OGot p.tables e below (T97.setTop (mkF m 139 #[.val (.int p1), .val (.int p2), .val (.int p3), .val (.int p4), .val (.int p5), .val (.int p6), .val (.int (0 : Int32)), .val (.ref b4_7), .val (.ref b4_8), .val (.ref (f6 w_INTEGER w_TEXT w_DATE w_DECIMAL p4)), .val (.ref (f6 w_INTEGER w_TEXT w_DATE w_DECIMAL p5)), .val (.ref b92), .val (.ref b95), .val .null, .unset, .unset] [])) _
      refine OGot.go (fun t k => XS.aload X97.here hx rfl (hb hby at_139) rfl rfl k) ?_
      show OGot p.tables e below (T97.setTop (mkF m 141 #[.val (.int p1), .val (.int p2), .val (.int p3), .val (.int p4), .val (.int p5), .val (.int p6), .val (.int (0 : Int32)), .val (.ref b4_7), .val (.ref b4_8), .val (.ref (f6 w_INTEGER w_TEXT w_DATE w_DECIMAL p4)), .val (.ref (f6 w_INTEGER w_TEXT w_DATE w_DECIMAL p5)), .val (.ref b92), .val (.ref b95), .val .null, .unset, .unset] [(.ref b95)])) _
      refine OGot.go (fun t k => XS.astore X97.here hx rfl (hb hby at_141) rfl rfl (l' := #[.val (.int p1), .val (.int p2), .val (.int p3), .val (.int p4), .val (.int p5), .val (.int p6), .val (.int (0 : Int32)), .val (.ref b4_7), .val (.ref b4_8), .val (.ref (f6 w_INTEGER w_TEXT w_DATE w_DECIMAL p4)), .val (.ref (f6 w_INTEGER w_TEXT w_DATE w_DECIMAL p5)), .val (.ref b92), .val (.ref b95), .val .null, .val (.ref b95), .unset]) rfl k) ?_
      show OGot p.tables e below (T97.setTop (mkF m 143 #[.val (.int p1), .val (.int p2), .val (.int p3), .val (.int p4), .val (.int p5), .val (.int p6), .val (.int (0 : Int32)), .val (.ref b4_7), .val (.ref b4_8), .val (.ref (f6 w_INTEGER w_TEXT w_DATE w_DECIMAL p4)), .val (.ref (f6 w_INTEGER w_TEXT w_DATE w_DECIMAL p5)), .val (.ref b92), .val (.ref b95), .val .null, .val (.ref b95), .unset] [])) _
      obtain ⟨T101, h101, X101, e101, E101, A101, D101, -, st101⟩ := newO X97 hx hZ hown (ow hw 64 rfl) (ow hw 65 rfl) (ow hw 66 rfl) rfl (g := (mkF m 143 #[.val (.int p1), .val (.int p2), .val (.int p3), .val (.int p4), .val (.int p5), .val (.int p6), .val (.int (0 : Int32)), .val (.ref b4_7), .val (.ref b4_8), .val (.ref (f6 w_INTEGER w_TEXT w_DATE w_DECIMAL p4)), .val (.ref (f6 w_INTEGER w_TEXT w_DATE w_DECIMAL p5)), .val (.ref b92), .val (.ref b95), .val .null, .val (.ref b95), .unset] [])) rfl (hb hby at_143) (by decide) (by decide)
      obtain ⟨b101, g101⟩ : ∃ z, z = T97.heap.size := ⟨_, rfl⟩
      rw [← g101] at A101 D101 st101
      refine OGot.go st101 ?_
      have g_b101 : n0 ≤ b101 := Nat.le_trans (osz O97) (Nat.le_of_eq g101.symm)
      have sy_b101 : T97.heap.size ≤ b101 := Nat.le_of_eq g101.symm
      have O101 := O97.ext E101
      have F101_before : Fld Z h101 b101 "com/example/archipel/archipel/model/AttributeChange" "before" "Lcom/example/archipel/archipel/model/Entity;" .null := D101 (Or.inr (ow hw 72 rfl)) (ty := (.object "com/example/archipel/archipel/model/Entity")) (by decide)
      have F101_after : Fld Z h101 b101 "com/example/archipel/archipel/model/AttributeChange" "after" "Lcom/example/archipel/archipel/model/Entity;" .null := D101 (Or.inr (ow hw 74 rfl)) (ty := (.object "com/example/archipel/archipel/model/Entity")) (by decide)
      have F101_was : Fld Z h101 b101 "com/example/archipel/archipel/model/AttributeChange" "was" "Lcom/example/archipel/archipel/model/Attribute;" .null := D101 (Or.inr (ow hw 76 rfl)) (ty := (.object "com/example/archipel/archipel/model/Attribute")) (by decide)
      have F101_becomes : Fld Z h101 b101 "com/example/archipel/archipel/model/AttributeChange" "becomes" "Lcom/example/archipel/archipel/model/Attribute;" .null := D101 (Or.inr (ow hw 78 rfl)) (ty := (.object "com/example/archipel/archipel/model/Attribute")) (by decide)
      show OGot p.tables e below (T101.setTop (mkF m 146 #[.val (.int p1), .val (.int p2), .val (.int p3), .val (.int p4), .val (.int p5), .val (.int p6), .val (.int (0 : Int32)), .val (.ref b4_7), .val (.ref b4_8), .val (.ref (f6 w_INTEGER w_TEXT w_DATE w_DECIMAL p4)), .val (.ref (f6 w_INTEGER w_TEXT w_DATE w_DECIMAL p5)), .val (.ref b92), .val (.ref b95), .val .null, .val (.ref b95), .unset] [(.ref b101)])) _
      refine OGot.go (fun t k => XS.dup X101.here hx rfl (hb hby at_146) rfl rfl k) ?_
      show OGot p.tables e below (T101.setTop (mkF m 147 #[.val (.int p1), .val (.int p2), .val (.int p3), .val (.int p4), .val (.int p5), .val (.int p6), .val (.int (0 : Int32)), .val (.ref b4_7), .val (.ref b4_8), .val (.ref (f6 w_INTEGER w_TEXT w_DATE w_DECIMAL p4)), .val (.ref (f6 w_INTEGER w_TEXT w_DATE w_DECIMAL p5)), .val (.ref b92), .val (.ref b95), .val .null, .val (.ref b95), .unset] [(.ref b101), (.ref b101)])) _
      refine OGot.go (fun t k => XS.aconstNull X101.here hx rfl (hb hby at_147) k) ?_
      show OGot p.tables e below (T101.setTop (mkF m 148 #[.val (.int p1), .val (.int p2), .val (.int p3), .val (.int p4), .val (.int p5), .val (.int p6), .val (.int (0 : Int32)), .val (.ref b4_7), .val (.ref b4_8), .val (.ref (f6 w_INTEGER w_TEXT w_DATE w_DECIMAL p4)), .val (.ref (f6 w_INTEGER w_TEXT w_DATE w_DECIMAL p5)), .val (.ref b92), .val (.ref b95), .val .null, .val (.ref b95), .unset] [.null, (.ref b101), (.ref b101)])) _
      refine OGot.go (fun t k => XS.aconstNull X101.here hx rfl (hb hby at_148) k) ?_
      show OGot p.tables e below (T101.setTop (mkF m 149 #[.val (.int p1), .val (.int p2), .val (.int p3), .val (.int p4), .val (.int p5), .val (.int p6), .val (.int (0 : Int32)), .val (.ref b4_7), .val (.ref b4_8), .val (.ref (f6 w_INTEGER w_TEXT w_DATE w_DECIMAL p4)), .val (.ref (f6 w_INTEGER w_TEXT w_DATE w_DECIMAL p5)), .val (.ref b92), .val (.ref b95), .val .null, .val (.ref b95), .unset] [.null, .null, (.ref b101), (.ref b101)])) _
      refine OGot.go (fun t k => XS.aload X101.here hx rfl (hb hby at_149) rfl rfl k) ?_
      show OGot p.tables e below (T101.setTop (mkF m 151 #[.val (.int p1), .val (.int p2), .val (.int p3), .val (.int p4), .val (.int p5), .val (.int p6), .val (.int (0 : Int32)), .val (.ref b4_7), .val (.ref b4_8), .val (.ref (f6 w_INTEGER w_TEXT w_DATE w_DECIMAL p4)), .val (.ref (f6 w_INTEGER w_TEXT w_DATE w_DECIMAL p5)), .val (.ref b92), .val (.ref b95), .val .null, .val (.ref b95), .unset] [.null, .null, .null, (.ref b101), (.ref b101)])) _
      refine OGot.go (fun t k => XS.aload X101.here hx rfl (hb hby at_151) rfl rfl k) ?_
      show OGot p.tables e below (T101.setTop (mkF m 153 #[.val (.int p1), .val (.int p2), .val (.int p3), .val (.int p4), .val (.int p5), .val (.int p6), .val (.int (0 : Int32)), .val (.ref b4_7), .val (.ref b4_8), .val (.ref (f6 w_INTEGER w_TEXT w_DATE w_DECIMAL p4)), .val (.ref (f6 w_INTEGER w_TEXT w_DATE w_DECIMAL p5)), .val (.ref b92), .val (.ref b95), .val .null, .val (.ref b95), .unset] [(.ref b95), .null, .null, .null, (.ref b101), (.ref b101)])) _
      obtain ⟨_, _, ⟨T102, L102, k102, n102⟩, -, X102, ⟨Lc102, hQ102, l102, y102, z102⟩, st102⟩ := X101.specialBack hx (y := (⟨"com/example/archipel/archipel/model/AttributeChange", "<init>", "(Lcom/example/archipel/archipel/model/Entity;Lcom/example/archipel/archipel/model/Entity;Lcom/example/archipel/archipel/model/Attribute;Lcom/example/archipel/archipel/model/Attribute;)V"⟩ : MethodName)) rfl hown (mvT hZ (ow hw 67 rfl)) (mvT hZ (ow hw 68 rfl)) (mvT hZ (ow hw 69 rfl)) (by decide) (backOf (W := 1) (rm11 l Z a0 hw [] G b101 b95 h101 n0 O101 A101 F101_before g_b101 F101_after F101_was F101_becomes) hZ (ow hw 69 rfl) (ow hw 66 rfl) (by decide) (by decide)) (g := (mkF m 153 #[.val (.int p1), .val (.int p2), .val (.int p3), .val (.int p4), .val (.int p5), .val (.int p6), .val (.int (0 : Int32)), .val (.ref b4_7), .val (.ref b4_8), .val (.ref (f6 w_INTEGER w_TEXT w_DATE w_DECIMAL p4)), .val (.ref (f6 w_INTEGER w_TEXT w_DATE w_DECIMAL p5)), .val (.ref b92), .val (.ref b95), .val .null, .val (.ref b95), .unset] [(.ref b95), .null, .null, .null, (.ref b101), (.ref b101)])) rfl (by rw [hml]; rfl) (Steps.refl _) (a := b101) (argsL := [.null, .null, .null, (.ref b95)]) (rest := [(.ref b101)]) (lenOf pd_9 rfl) rfl (by show 2 * 0 + _ ≤ _; exact Nat.le_of_eq rfl) (hb hby at_153) (fun _ _ => ⟨rfl, e101, (by decide : 7 + 0 ≤ _), (by decide : 22 + 0 ≤ _)⟩)
      dsimp only [Pt.U, Pt.locs, Pt.cells, Pt.slots] at X102 l102 y102 z102 st102 hQ102
      subst l102 y102 z102
      obtain ⟨N102q, rfl, K102, Fo102_0, Fo102_1, Fo102_2, Fo102_3⟩ := hQ102
      have O102 := OKeep.old O101 K102 (ogeS g_b101 (ogeS g_b101 (ogeS g_b101 (ogeS g_b101 oge0))))
      have N102 := Fr.app N97 N102q
      refine OGot.on st102 ?_
      show OGot p.tables e below (T102.setTop (mkF m 156 #[.val (.int p1), .val (.int p2), .val (.int p3), .val (.int p4), .val (.int p5), .val (.int p6), .val (.int (0 : Int32)), .val (.ref b4_7), .val (.ref b4_8), .val (.ref (f6 w_INTEGER w_TEXT w_DATE w_DECIMAL p4)), .val (.ref (f6 w_INTEGER w_TEXT w_DATE w_DECIMAL p5)), .val (.ref b92), .val (.ref b95), .val .null, .val (.ref b95), .unset] [(.ref b101)])) _
      refine OGot.go (fun t k => XS.astore X102.here hx rfl (hb hby at_156) rfl rfl (l' := #[.val (.int p1), .val (.int p2), .val (.int p3), .val (.int p4), .val (.int p5), .val (.int p6), .val (.int (0 : Int32)), .val (.ref b4_7), .val (.ref b4_8), .val (.ref (f6 w_INTEGER w_TEXT w_DATE w_DECIMAL p4)), .val (.ref (f6 w_INTEGER w_TEXT w_DATE w_DECIMAL p5)), .val (.ref b92), .val (.ref b95), .val .null, .val (.ref b95), .val (.ref b101)]) rfl k) ?_
      show OGot p.tables e below (T102.setTop (mkF m 158 #[.val (.int p1), .val (.int p2), .val (.int p3), .val (.int p4), .val (.int p5), .val (.int p6), .val (.int (0 : Int32)), .val (.ref b4_7), .val (.ref b4_8), .val (.ref (f6 w_INTEGER w_TEXT w_DATE w_DECIMAL p4)), .val (.ref (f6 w_INTEGER w_TEXT w_DATE w_DECIMAL p5)), .val (.ref b92), .val (.ref b95), .val .null, .val (.ref b95), .val (.ref b101)] [])) _
      refine OGot.go (fun t k => XS.aload X102.here hx rfl (hb hby at_158) rfl rfl k) ?_
      show OGot p.tables e below (T102.setTop (mkF m 160 #[.val (.int p1), .val (.int p2), .val (.int p3), .val (.int p4), .val (.int p5), .val (.int p6), .val (.int (0 : Int32)), .val (.ref b4_7), .val (.ref b4_8), .val (.ref (f6 w_INTEGER w_TEXT w_DATE w_DECIMAL p4)), .val (.ref (f6 w_INTEGER w_TEXT w_DATE w_DECIMAL p5)), .val (.ref b92), .val (.ref b95), .val .null, .val (.ref b95), .val (.ref b101)] [(.ref b101)])) _
      obtain ⟨cq103, kq103, q103a, q103b, q103c⟩ := isOf hZ rfl (OKeep.exa A101 K102)
      obtain ⟨_, _, ⟨T103, L103, k103, n103⟩, -, X103, ⟨Lc103, hQ103, l103, y103, z103⟩, st103⟩ := X102.virtualBack hx (y := (⟨"com/example/archipel/archipel/model/AttributeChange", "added", "()Z"⟩ : MethodName)) (z := (⟨"com/example/archipel/archipel/model/AttributeChange", "added", "()Z"⟩ : MethodName)) hown (mvT hZ (ow hw 79 rfl)) (mvT hZ (ow hw 80 rfl)) (notFace_of_selects (args := #[]) (mvT hZ (ow hw 82 rfl))) (mvT hZ (ow hw 82 rfl)) (mvT hZ (ow hw 81 rfl)) (by decide) (backOf (W := 0) (rm12 l Z a0 hw [] G b101 T102.heap n0 O102 Fo102_2) hZ (ow hw 83 rfl) (ow hw 66 rfl) (by decide) (by decide)) q103a q103c (g := (mkF m 160 #[.val (.int p1), .val (.int p2), .val (.int p3), .val (.int p4), .val (.int p5), .val (.int p6), .val (.int (0 : Int32)), .val (.ref b4_7), .val (.ref b4_8), .val (.ref (f6 w_INTEGER w_TEXT w_DATE w_DECIMAL p4)), .val (.ref (f6 w_INTEGER w_TEXT w_DATE w_DECIMAL p5)), .val (.ref b92), .val (.ref b95), .val .null, .val (.ref b95), .val (.ref b101)] [(.ref b101)])) rfl (by rw [hml]; rfl) (Steps.refl _) (argsL := []) (rest := []) (lenOf pd_10 rfl) rfl (by show 2 * 0 + _ ≤ _; exact Nat.le_of_eq rfl) (hb hby at_160) (fun _ _ => ⟨rfl, rfl, (by decide : 7 + 0 ≤ _), (by decide : 22 + 0 ≤ _)⟩)
      dsimp only [Pt.U, Pt.locs, Pt.cells, Pt.slots] at X103 l103 y103 z103 st103 hQ103
      subst l103 y103 z103
      obtain ⟨rfl, N103q, e103⟩ := hQ103
      have N103 := Fr.app N102 N103q
      refine OGot.on st103 ?_
      show OGot p.tables e below (T103.setTop (mkF m 163 #[.val (.int p1), .val (.int p2), .val (.int p3), .val (.int p4), .val (.int p5), .val (.int p6), .val (.int (0 : Int32)), .val (.ref b4_7), .val (.ref b4_8), .val (.ref (f6 w_INTEGER w_TEXT w_DATE w_DECIMAL p4)), .val (.ref (f6 w_INTEGER w_TEXT w_DATE w_DECIMAL p5)), .val (.ref b92), .val (.ref b95), .val .null, .val (.ref b95), .val (.ref b101)] [(.int (1 : Int32))])) _
      refine OGot.go (fun t k => XS.iload X103.here hx rfl (hb hby at_163) rfl k) ?_
      show OGot p.tables e below (T103.setTop (mkF m 165 #[.val (.int p1), .val (.int p2), .val (.int p3), .val (.int p4), .val (.int p5), .val (.int p6), .val (.int (0 : Int32)), .val (.ref b4_7), .val (.ref b4_8), .val (.ref (f6 w_INTEGER w_TEXT w_DATE w_DECIMAL p4)), .val (.ref (f6 w_INTEGER w_TEXT w_DATE w_DECIMAL p5)), .val (.ref b92), .val (.ref b95), .val .null, .val (.ref b95), .val (.ref b101)] [(.int (0 : Int32)), (.int (1 : Int32))])) _
      refine OGot.go (fun t k => XS.ifNo X103.here hx rfl (hb hby at_165) rfl (by decide) k) ?_
      show OGot p.tables e below (T103.setTop (mkF m 168 #[.val (.int p1), .val (.int p2), .val (.int p3), .val (.int p4), .val (.int p5), .val (.int p6), .val (.int (0 : Int32)), .val (.ref b4_7), .val (.ref b4_8), .val (.ref (f6 w_INTEGER w_TEXT w_DATE w_DECIMAL p4)), .val (.ref (f6 w_INTEGER w_TEXT w_DATE w_DECIMAL p5)), .val (.ref b92), .val (.ref b95), .val .null, .val (.ref b95), .val (.ref b101)] [(.int (1 : Int32))])) _
      refine OGot.go (fun t k => XS.iconst X103.here hx rfl (hb hby at_168) k) ?_
      show OGot p.tables e below (T103.setTop (mkF m 169 #[.val (.int p1), .val (.int p2), .val (.int p3), .val (.int p4), .val (.int p5), .val (.int p6), .val (.int (0 : Int32)), .val (.ref b4_7), .val (.ref b4_8), .val (.ref (f6 w_INTEGER w_TEXT w_DATE w_DECIMAL p4)), .val (.ref (f6 w_INTEGER w_TEXT w_DATE w_DECIMAL p5)), .val (.ref b92), .val (.ref b95), .val .null, .val (.ref b95), .val (.ref b101)] [(.int (1 : Int32)), (.int (1 : Int32))])) _
      refine OGot.go (fun t k => XS.goto X103.here hx rfl (pc0 := 169) (pc' := 173) rfl (hb hby at_169) (by decide) (by decide) k) ?_
      show OGot p.tables e below (T103.setTop (mkF m 173 #[.val (.int p1), .val (.int p2), .val (.int p3), .val (.int p4), .val (.int p5), .val (.int p6), .val (.int (0 : Int32)), .val (.ref b4_7), .val (.ref b4_8), .val (.ref (f6 w_INTEGER w_TEXT w_DATE w_DECIMAL p4)), .val (.ref (f6 w_INTEGER w_TEXT w_DATE w_DECIMAL p5)), .val (.ref b92), .val (.ref b95), .val .null, .val (.ref b95), .val (.ref b101)] [(.int (1 : Int32)), (.int (1 : Int32))])) _
      refine OGot.go (fun t k => XS.icmpNo X103.here hx rfl (hb hby at_173) rfl (by decide) k) ?_
      show OGot p.tables e below (T103.setTop (mkF m 176 #[.val (.int p1), .val (.int p2), .val (.int p3), .val (.int p4), .val (.int p5), .val (.int p6), .val (.int (0 : Int32)), .val (.ref b4_7), .val (.ref b4_8), .val (.ref (f6 w_INTEGER w_TEXT w_DATE w_DECIMAL p4)), .val (.ref (f6 w_INTEGER w_TEXT w_DATE w_DECIMAL p5)), .val (.ref b92), .val (.ref b95), .val .null, .val (.ref b95), .val (.ref b101)] [])) _
      refine OGot.go (fun t k => XS.iconst X103.here hx rfl (hb hby at_176) k) ?_
      show OGot p.tables e below (T103.setTop (mkF m 177 #[.val (.int p1), .val (.int p2), .val (.int p3), .val (.int p4), .val (.int p5), .val (.int p6), .val (.int (0 : Int32)), .val (.ref b4_7), .val (.ref b4_8), .val (.ref (f6 w_INTEGER w_TEXT w_DATE w_DECIMAL p4)), .val (.ref (f6 w_INTEGER w_TEXT w_DATE w_DECIMAL p5)), .val (.ref b92), .val (.ref b95), .val .null, .val (.ref b95), .val (.ref b101)] [(.int (1 : Int32))])) _
      refine OGot.go (fun t k => XS.goto X103.here hx rfl (pc0 := 177) (pc' := 181) rfl (hb hby at_177) (by decide) (by decide) k) ?_
      show OGot p.tables e below (T103.setTop (mkF m 181 #[.val (.int p1), .val (.int p2), .val (.int p3), .val (.int p4), .val (.int p5), .val (.int p6), .val (.int (0 : Int32)), .val (.ref b4_7), .val (.ref b4_8), .val (.ref (f6 w_INTEGER w_TEXT w_DATE w_DECIMAL p4)), .val (.ref (f6 w_INTEGER w_TEXT w_DATE w_DECIMAL p5)), .val (.ref b92), .val (.ref b95), .val .null, .val (.ref b95), .val (.ref b101)] [(.int (1 : Int32))])) _
      obtain ⟨fs, hr, hrun, hended, hW, hsame⟩ := X103.leave (v := some (.int (1 : Int32))) (fun h => by rw [Bd.returns] at h; cases h)
      refine ⟨_, _, retN X103 hx (t := .boolean) Bd.returns (by simp) (hb hby at_181) hr, hrun, hended, _, _, rfl, ?_, ⟨_, rfl⟩, hW, hsame.mono (by decide) (by decide)⟩
      exact (⟨rfl, N103⟩ : Q0 Z w_INTEGER w_TEXT w_DATE w_DECIMAL i_COMPACT_STRINGS p1 p2 p3 p4 p5 p6 h0 n0 _ T103.heap _)
    · rw [hk99]
      show OGot p.tables e below (T97.setTop (mkF m 118 #[.val (.int p1), .val (.int p2), .val (.int p3), .val (.int p4), .val (.int p5), .val (.int p6), .val (.int (1 : Int32)), .val (.ref b4_7), .val (.ref b4_8), .val (.ref (f6 w_INTEGER w_TEXT w_DATE w_DECIMAL p4)), .val (.ref (f6 w_INTEGER w_TEXT w_DATE w_DECIMAL p5)), .val (.ref b92), .val (.ref b95), .unset, .unset, .unset] [(.int (1 : Int32))])) _
      refine OGot.go (fun t k => XS.ifYes X97.here hx rfl (pc0 := 118) (pc' := 125) rfl (hb hby at_118) rfl (by decide) (by decide) (by decide) k) ?_
      show OGot p.tables e below (T97.setTop (mkF m 125 #[.val (.int p1), .val (.int p2), .val (.int p3), .val (.int p4), .val (.int p5), .val (.int p6), .val (.int (1 : Int32)), .val (.ref b4_7), .val (.ref b4_8), .val (.ref (f6 w_INTEGER w_TEXT w_DATE w_DECIMAL p4)), .val (.ref (f6 w_INTEGER w_TEXT w_DATE w_DECIMAL p5)), .val (.ref b92), .val (.ref b95), .unset, .unset, .unset] [])) _
      refine OGot.go (fun t k => XS.aload X97.here hx rfl (hb hby at_125) rfl rfl k) ?_
      show OGot p.tables e below (T97.setTop (mkF m 127 #[.val (.int p1), .val (.int p2), .val (.int p3), .val (.int p4), .val (.int p5), .val (.int p6), .val (.int (1 : Int32)), .val (.ref b4_7), .val (.ref b4_8), .val (.ref (f6 w_INTEGER w_TEXT w_DATE w_DECIMAL p4)), .val (.ref (f6 w_INTEGER w_TEXT w_DATE w_DECIMAL p5)), .val (.ref b92), .val (.ref b95), .unset, .unset, .unset] [(.ref b92)])) _
      refine OGot.go (fun t k => XS.astore X97.here hx rfl (hb hby at_127) rfl rfl (l' := #[.val (.int p1), .val (.int p2), .val (.int p3), .val (.int p4), .val (.int p5), .val (.int p6), .val (.int (1 : Int32)), .val (.ref b4_7), .val (.ref b4_8), .val (.ref (f6 w_INTEGER w_TEXT w_DATE w_DECIMAL p4)), .val (.ref (f6 w_INTEGER w_TEXT w_DATE w_DECIMAL p5)), .val (.ref b92), .val (.ref b95), .val (.ref b92), .unset, .unset]) rfl k) ?_
      show OGot p.tables e below (T97.setTop (mkF m 129 #[.val (.int p1), .val (.int p2), .val (.int p3), .val (.int p4), .val (.int p5), .val (.int p6), .val (.int (1 : Int32)), .val (.ref b4_7), .val (.ref b4_8), .val (.ref (f6 w_INTEGER w_TEXT w_DATE w_DECIMAL p4)), .val (.ref (f6 w_INTEGER w_TEXT w_DATE w_DECIMAL p5)), .val (.ref b92), .val (.ref b95), .val (.ref b92), .unset, .unset] [])) _
      refine OGot.go (fun t k => XS.iload X97.here hx rfl (hb hby at_129) rfl k) ?_
      show OGot p.tables e below (T97.setTop (mkF m 131 #[.val (.int p1), .val (.int p2), .val (.int p3), .val (.int p4), .val (.int p5), .val (.int p6), .val (.int (1 : Int32)), .val (.ref b4_7), .val (.ref b4_8), .val (.ref (f6 w_INTEGER w_TEXT w_DATE w_DECIMAL p4)), .val (.ref (f6 w_INTEGER w_TEXT w_DATE w_DECIMAL p5)), .val (.ref b92), .val (.ref b95), .val (.ref b92), .unset, .unset] [(.int (1 : Int32))])) _
      refine OGot.go (fun t k => XS.iconst X97.here hx rfl (hb hby at_131) k) ?_
      show OGot p.tables e below (T97.setTop (mkF m 132 #[.val (.int p1), .val (.int p2), .val (.int p3), .val (.int p4), .val (.int p5), .val (.int p6), .val (.int (1 : Int32)), .val (.ref b4_7), .val (.ref b4_8), .val (.ref (f6 w_INTEGER w_TEXT w_DATE w_DECIMAL p4)), .val (.ref (f6 w_INTEGER w_TEXT w_DATE w_DECIMAL p5)), .val (.ref b92), .val (.ref b95), .val (.ref b92), .unset, .unset] [(.int (1 : Int32)), (.int (1 : Int32))])) _
      refine OGot.go (fun t k => XS.icmpNo X97.here hx rfl (hb hby at_132) rfl (by decide) k) ?_
      show OGot p.tables e below (T97.setTop (mkF m 135 #[.val (.int p1), .val (.int p2), .val (.int p3), .val (.int p4), .val (.int p5), .val (.int p6), .val (.int (1 : Int32)), .val (.ref b4_7), .val (.ref b4_8), .val (.ref (f6 w_INTEGER w_TEXT w_DATE w_DECIMAL p4)), .val (.ref (f6 w_INTEGER w_TEXT w_DATE w_DECIMAL p5)), .val (.ref b92), .val (.ref b95), .val (.ref b92), .unset, .unset] [])) _
      refine OGot.go (fun t k => XS.aconstNull X97.here hx rfl (hb hby at_135) k) ?_
      show OGot p.tables e below (T97.setTop (mkF m 136 #[.val (.int p1), .val (.int p2), .val (.int p3), .val (.int p4), .val (.int p5), .val (.int p6), .val (.int (1 : Int32)), .val (.ref b4_7), .val (.ref b4_8), .val (.ref (f6 w_INTEGER w_TEXT w_DATE w_DECIMAL p4)), .val (.ref (f6 w_INTEGER w_TEXT w_DATE w_DECIMAL p5)), .val (.ref b92), .val (.ref b95), .val (.ref b92), .unset, .unset] [.null])) _
      refine OGot.go (fun t k => XS.goto X97.here hx rfl (pc0 := 136) (pc' := 141) rfl (hb hby at_136) (by decide) (by decide) k) ?_
      show OGot p.tables e below (T97.setTop (mkF m 141 #[.val (.int p1), .val (.int p2), .val (.int p3), .val (.int p4), .val (.int p5), .val (.int p6), .val (.int (1 : Int32)), .val (.ref b4_7), .val (.ref b4_8), .val (.ref (f6 w_INTEGER w_TEXT w_DATE w_DECIMAL p4)), .val (.ref (f6 w_INTEGER w_TEXT w_DATE w_DECIMAL p5)), .val (.ref b92), .val (.ref b95), .val (.ref b92), .unset, .unset] [.null])) _
      refine OGot.go (fun t k => XS.astore X97.here hx rfl (hb hby at_141) rfl rfl (l' := #[.val (.int p1), .val (.int p2), .val (.int p3), .val (.int p4), .val (.int p5), .val (.int p6), .val (.int (1 : Int32)), .val (.ref b4_7), .val (.ref b4_8), .val (.ref (f6 w_INTEGER w_TEXT w_DATE w_DECIMAL p4)), .val (.ref (f6 w_INTEGER w_TEXT w_DATE w_DECIMAL p5)), .val (.ref b92), .val (.ref b95), .val (.ref b92), .val .null, .unset]) rfl k) ?_
      show OGot p.tables e below (T97.setTop (mkF m 143 #[.val (.int p1), .val (.int p2), .val (.int p3), .val (.int p4), .val (.int p5), .val (.int p6), .val (.int (1 : Int32)), .val (.ref b4_7), .val (.ref b4_8), .val (.ref (f6 w_INTEGER w_TEXT w_DATE w_DECIMAL p4)), .val (.ref (f6 w_INTEGER w_TEXT w_DATE w_DECIMAL p5)), .val (.ref b92), .val (.ref b95), .val (.ref b92), .val .null, .unset] [])) _
      obtain ⟨T104, h104, X104, e104, E104, A104, D104, -, st104⟩ := newO X97 hx hZ hown (ow hw 64 rfl) (ow hw 65 rfl) (ow hw 66 rfl) rfl (g := (mkF m 143 #[.val (.int p1), .val (.int p2), .val (.int p3), .val (.int p4), .val (.int p5), .val (.int p6), .val (.int (1 : Int32)), .val (.ref b4_7), .val (.ref b4_8), .val (.ref (f6 w_INTEGER w_TEXT w_DATE w_DECIMAL p4)), .val (.ref (f6 w_INTEGER w_TEXT w_DATE w_DECIMAL p5)), .val (.ref b92), .val (.ref b95), .val (.ref b92), .val .null, .unset] [])) rfl (hb hby at_143) (by decide) (by decide)
      obtain ⟨b104, g104⟩ : ∃ z, z = T97.heap.size := ⟨_, rfl⟩
      rw [← g104] at A104 D104 st104
      refine OGot.go st104 ?_
      have g_b104 : n0 ≤ b104 := Nat.le_trans (osz O97) (Nat.le_of_eq g104.symm)
      have sy_b104 : T97.heap.size ≤ b104 := Nat.le_of_eq g104.symm
      have O104 := O97.ext E104
      have F104_before : Fld Z h104 b104 "com/example/archipel/archipel/model/AttributeChange" "before" "Lcom/example/archipel/archipel/model/Entity;" .null := D104 (Or.inr (ow hw 72 rfl)) (ty := (.object "com/example/archipel/archipel/model/Entity")) (by decide)
      have F104_after : Fld Z h104 b104 "com/example/archipel/archipel/model/AttributeChange" "after" "Lcom/example/archipel/archipel/model/Entity;" .null := D104 (Or.inr (ow hw 74 rfl)) (ty := (.object "com/example/archipel/archipel/model/Entity")) (by decide)
      have F104_was : Fld Z h104 b104 "com/example/archipel/archipel/model/AttributeChange" "was" "Lcom/example/archipel/archipel/model/Attribute;" .null := D104 (Or.inr (ow hw 76 rfl)) (ty := (.object "com/example/archipel/archipel/model/Attribute")) (by decide)
      have F104_becomes : Fld Z h104 b104 "com/example/archipel/archipel/model/AttributeChange" "becomes" "Lcom/example/archipel/archipel/model/Attribute;" .null := D104 (Or.inr (ow hw 78 rfl)) (ty := (.object "com/example/archipel/archipel/model/Attribute")) (by decide)
      show OGot p.tables e below (T104.setTop (mkF m 146 #[.val (.int p1), .val (.int p2), .val (.int p3), .val (.int p4), .val (.int p5), .val (.int p6), .val (.int (1 : Int32)), .val (.ref b4_7), .val (.ref b4_8), .val (.ref (f6 w_INTEGER w_TEXT w_DATE w_DECIMAL p4)), .val (.ref (f6 w_INTEGER w_TEXT w_DATE w_DECIMAL p5)), .val (.ref b92), .val (.ref b95), .val (.ref b92), .val .null, .unset] [(.ref b104)])) _
      refine OGot.go (fun t k => XS.dup X104.here hx rfl (hb hby at_146) rfl rfl k) ?_
      show OGot p.tables e below (T104.setTop (mkF m 147 #[.val (.int p1), .val (.int p2), .val (.int p3), .val (.int p4), .val (.int p5), .val (.int p6), .val (.int (1 : Int32)), .val (.ref b4_7), .val (.ref b4_8), .val (.ref (f6 w_INTEGER w_TEXT w_DATE w_DECIMAL p4)), .val (.ref (f6 w_INTEGER w_TEXT w_DATE w_DECIMAL p5)), .val (.ref b92), .val (.ref b95), .val (.ref b92), .val .null, .unset] [(.ref b104), (.ref b104)])) _
      refine OGot.go (fun t k => XS.aconstNull X104.here hx rfl (hb hby at_147) k) ?_
      show OGot p.tables e below (T104.setTop (mkF m 148 #[.val (.int p1), .val (.int p2), .val (.int p3), .val (.int p4), .val (.int p5), .val (.int p6), .val (.int (1 : Int32)), .val (.ref b4_7), .val (.ref b4_8), .val (.ref (f6 w_INTEGER w_TEXT w_DATE w_DECIMAL p4)), .val (.ref (f6 w_INTEGER w_TEXT w_DATE w_DECIMAL p5)), .val (.ref b92), .val (.ref b95), .val (.ref b92), .val .null, .unset] [.null, (.ref b104), (.ref b104)])) _
      refine OGot.go (fun t k => XS.aconstNull X104.here hx rfl (hb hby at_148) k) ?_
      show OGot p.tables e below (T104.setTop (mkF m 149 #[.val (.int p1), .val (.int p2), .val (.int p3), .val (.int p4), .val (.int p5), .val (.int p6), .val (.int (1 : Int32)), .val (.ref b4_7), .val (.ref b4_8), .val (.ref (f6 w_INTEGER w_TEXT w_DATE w_DECIMAL p4)), .val (.ref (f6 w_INTEGER w_TEXT w_DATE w_DECIMAL p5)), .val (.ref b92), .val (.ref b95), .val (.ref b92), .val .null, .unset] [.null, .null, (.ref b104), (.ref b104)])) _
      refine OGot.go (fun t k => XS.aload X104.here hx rfl (hb hby at_149) rfl rfl k) ?_
      show OGot p.tables e below (T104.setTop (mkF m 151 #[.val (.int p1), .val (.int p2), .val (.int p3), .val (.int p4), .val (.int p5), .val (.int p6), .val (.int (1 : Int32)), .val (.ref b4_7), .val (.ref b4_8), .val (.ref (f6 w_INTEGER w_TEXT w_DATE w_DECIMAL p4)), .val (.ref (f6 w_INTEGER w_TEXT w_DATE w_DECIMAL p5)), .val (.ref b92), .val (.ref b95), .val (.ref b92), .val .null, .unset] [(.ref b92), .null, .null, (.ref b104), (.ref b104)])) _
      refine OGot.go (fun t k => XS.aload X104.here hx rfl (hb hby at_151) rfl rfl k) ?_
      show OGot p.tables e below (T104.setTop (mkF m 153 #[.val (.int p1), .val (.int p2), .val (.int p3), .val (.int p4), .val (.int p5), .val (.int p6), .val (.int (1 : Int32)), .val (.ref b4_7), .val (.ref b4_8), .val (.ref (f6 w_INTEGER w_TEXT w_DATE w_DECIMAL p4)), .val (.ref (f6 w_INTEGER w_TEXT w_DATE w_DECIMAL p5)), .val (.ref b92), .val (.ref b95), .val (.ref b92), .val .null, .unset] [.null, (.ref b92), .null, .null, (.ref b104), (.ref b104)])) _
      obtain ⟨_, _, ⟨T105, L105, k105, n105⟩, -, X105, ⟨Lc105, hQ105, l105, y105, z105⟩, st105⟩ := X104.specialBack hx (y := (⟨"com/example/archipel/archipel/model/AttributeChange", "<init>", "(Lcom/example/archipel/archipel/model/Entity;Lcom/example/archipel/archipel/model/Entity;Lcom/example/archipel/archipel/model/Attribute;Lcom/example/archipel/archipel/model/Attribute;)V"⟩ : MethodName)) rfl hown (mvT hZ (ow hw 67 rfl)) (mvT hZ (ow hw 68 rfl)) (mvT hZ (ow hw 69 rfl)) (by decide) (backOf (W := 1) (rm11_1 l Z a0 hw [] G b104 b92 h104 n0 O104 A104 F104_before g_b104 F104_after F104_was F104_becomes) hZ (ow hw 69 rfl) (ow hw 66 rfl) (by decide) (by decide)) (g := (mkF m 153 #[.val (.int p1), .val (.int p2), .val (.int p3), .val (.int p4), .val (.int p5), .val (.int p6), .val (.int (1 : Int32)), .val (.ref b4_7), .val (.ref b4_8), .val (.ref (f6 w_INTEGER w_TEXT w_DATE w_DECIMAL p4)), .val (.ref (f6 w_INTEGER w_TEXT w_DATE w_DECIMAL p5)), .val (.ref b92), .val (.ref b95), .val (.ref b92), .val .null, .unset] [.null, (.ref b92), .null, .null, (.ref b104), (.ref b104)])) rfl (by rw [hml]; rfl) (Steps.refl _) (a := b104) (argsL := [.null, .null, (.ref b92), .null]) (rest := [(.ref b104)]) (lenOf pd_9 rfl) rfl (by show 2 * 0 + _ ≤ _; exact Nat.le_of_eq rfl) (hb hby at_153) (fun _ _ => ⟨rfl, e104, (by decide : 7 + 0 ≤ _), (by decide : 22 + 0 ≤ _)⟩)
      dsimp only [Pt.U, Pt.locs, Pt.cells, Pt.slots] at X105 l105 y105 z105 st105 hQ105
      subst l105 y105 z105
      obtain ⟨N105q, rfl, K105, Fo105_0, Fo105_1, Fo105_2, Fo105_3⟩ := hQ105
      have O105 := OKeep.old O104 K105 (ogeS g_b104 (ogeS g_b104 (ogeS g_b104 (ogeS g_b104 oge0))))
      have N105 := Fr.app N97 N105q
      refine OGot.on st105 ?_
      show OGot p.tables e below (T105.setTop (mkF m 156 #[.val (.int p1), .val (.int p2), .val (.int p3), .val (.int p4), .val (.int p5), .val (.int p6), .val (.int (1 : Int32)), .val (.ref b4_7), .val (.ref b4_8), .val (.ref (f6 w_INTEGER w_TEXT w_DATE w_DECIMAL p4)), .val (.ref (f6 w_INTEGER w_TEXT w_DATE w_DECIMAL p5)), .val (.ref b92), .val (.ref b95), .val (.ref b92), .val .null, .unset] [(.ref b104)])) _
      refine OGot.go (fun t k => XS.astore X105.here hx rfl (hb hby at_156) rfl rfl (l' := #[.val (.int p1), .val (.int p2), .val (.int p3), .val (.int p4), .val (.int p5), .val (.int p6), .val (.int (1 : Int32)), .val (.ref b4_7), .val (.ref b4_8), .val (.ref (f6 w_INTEGER w_TEXT w_DATE w_DECIMAL p4)), .val (.ref (f6 w_INTEGER w_TEXT w_DATE w_DECIMAL p5)), .val (.ref b92), .val (.ref b95), .val (.ref b92), .val .null, .val (.ref b104)]) rfl k) ?_
      show OGot p.tables e below (T105.setTop (mkF m 158 #[.val (.int p1), .val (.int p2), .val (.int p3), .val (.int p4), .val (.int p5), .val (.int p6), .val (.int (1 : Int32)), .val (.ref b4_7), .val (.ref b4_8), .val (.ref (f6 w_INTEGER w_TEXT w_DATE w_DECIMAL p4)), .val (.ref (f6 w_INTEGER w_TEXT w_DATE w_DECIMAL p5)), .val (.ref b92), .val (.ref b95), .val (.ref b92), .val .null, .val (.ref b104)] [])) _
      refine OGot.go (fun t k => XS.aload X105.here hx rfl (hb hby at_158) rfl rfl k) ?_
      show OGot p.tables e below (T105.setTop (mkF m 160 #[.val (.int p1), .val (.int p2), .val (.int p3), .val (.int p4), .val (.int p5), .val (.int p6), .val (.int (1 : Int32)), .val (.ref b4_7), .val (.ref b4_8), .val (.ref (f6 w_INTEGER w_TEXT w_DATE w_DECIMAL p4)), .val (.ref (f6 w_INTEGER w_TEXT w_DATE w_DECIMAL p5)), .val (.ref b92), .val (.ref b95), .val (.ref b92), .val .null, .val (.ref b104)] [(.ref b104)])) _
      obtain ⟨cq106, kq106, q106a, q106b, q106c⟩ := isOf hZ rfl (OKeep.exa A104 K105)
      obtain ⟨_, _, ⟨T106, L106, k106, n106⟩, -, X106, ⟨Lc106, hQ106, l106, y106, z106⟩, st106⟩ := X105.virtualBack hx (y := (⟨"com/example/archipel/archipel/model/AttributeChange", "added", "()Z"⟩ : MethodName)) (z := (⟨"com/example/archipel/archipel/model/AttributeChange", "added", "()Z"⟩ : MethodName)) hown (mvT hZ (ow hw 79 rfl)) (mvT hZ (ow hw 80 rfl)) (notFace_of_selects (args := #[]) (mvT hZ (ow hw 82 rfl))) (mvT hZ (ow hw 82 rfl)) (mvT hZ (ow hw 81 rfl)) (by decide) (backOf (W := 0) (rm12_1 l Z a0 hw [] G b104 b92 T105.heap n0 O105 Fo105_2) hZ (ow hw 83 rfl) (ow hw 66 rfl) (by decide) (by decide)) q106a q106c (g := (mkF m 160 #[.val (.int p1), .val (.int p2), .val (.int p3), .val (.int p4), .val (.int p5), .val (.int p6), .val (.int (1 : Int32)), .val (.ref b4_7), .val (.ref b4_8), .val (.ref (f6 w_INTEGER w_TEXT w_DATE w_DECIMAL p4)), .val (.ref (f6 w_INTEGER w_TEXT w_DATE w_DECIMAL p5)), .val (.ref b92), .val (.ref b95), .val (.ref b92), .val .null, .val (.ref b104)] [(.ref b104)])) rfl (by rw [hml]; rfl) (Steps.refl _) (argsL := []) (rest := []) (lenOf pd_10 rfl) rfl (by show 2 * 0 + _ ≤ _; exact Nat.le_of_eq rfl) (hb hby at_160) (fun _ _ => ⟨rfl, rfl, (by decide : 7 + 0 ≤ _), (by decide : 22 + 0 ≤ _)⟩)
      dsimp only [Pt.U, Pt.locs, Pt.cells, Pt.slots] at X106 l106 y106 z106 st106 hQ106
      subst l106 y106 z106
      obtain ⟨rfl, N106q, e106⟩ := hQ106
      have N106 := Fr.app N105 N106q
      refine OGot.on st106 ?_
      show OGot p.tables e below (T106.setTop (mkF m 163 #[.val (.int p1), .val (.int p2), .val (.int p3), .val (.int p4), .val (.int p5), .val (.int p6), .val (.int (1 : Int32)), .val (.ref b4_7), .val (.ref b4_8), .val (.ref (f6 w_INTEGER w_TEXT w_DATE w_DECIMAL p4)), .val (.ref (f6 w_INTEGER w_TEXT w_DATE w_DECIMAL p5)), .val (.ref b92), .val (.ref b95), .val (.ref b92), .val .null, .val (.ref b104)] [(.int (0 : Int32))])) _
      refine OGot.go (fun t k => XS.iload X106.here hx rfl (hb hby at_163) rfl k) ?_
      show OGot p.tables e below (T106.setTop (mkF m 165 #[.val (.int p1), .val (.int p2), .val (.int p3), .val (.int p4), .val (.int p5), .val (.int p6), .val (.int (1 : Int32)), .val (.ref b4_7), .val (.ref b4_8), .val (.ref (f6 w_INTEGER w_TEXT w_DATE w_DECIMAL p4)), .val (.ref (f6 w_INTEGER w_TEXT w_DATE w_DECIMAL p5)), .val (.ref b92), .val (.ref b95), .val (.ref b92), .val .null, .val (.ref b104)] [(.int (1 : Int32)), (.int (0 : Int32))])) _
      refine OGot.go (fun t k => XS.ifYes X106.here hx rfl (pc0 := 165) (pc' := 172) rfl (hb hby at_165) rfl (by decide) (by decide) (by decide) k) ?_
      show OGot p.tables e below (T106.setTop (mkF m 172 #[.val (.int p1), .val (.int p2), .val (.int p3), .val (.int p4), .val (.int p5), .val (.int p6), .val (.int (1 : Int32)), .val (.ref b4_7), .val (.ref b4_8), .val (.ref (f6 w_INTEGER w_TEXT w_DATE w_DECIMAL p4)), .val (.ref (f6 w_INTEGER w_TEXT w_DATE w_DECIMAL p5)), .val (.ref b92), .val (.ref b95), .val (.ref b92), .val .null, .val (.ref b104)] [(.int (0 : Int32))])) _
      refine OGot.go (fun t k => XS.iconst X106.here hx rfl (hb hby at_172) k) ?_
      show OGot p.tables e below (T106.setTop (mkF m 173 #[.val (.int p1), .val (.int p2), .val (.int p3), .val (.int p4), .val (.int p5), .val (.int p6), .val (.int (1 : Int32)), .val (.ref b4_7), .val (.ref b4_8), .val (.ref (f6 w_INTEGER w_TEXT w_DATE w_DECIMAL p4)), .val (.ref (f6 w_INTEGER w_TEXT w_DATE w_DECIMAL p5)), .val (.ref b92), .val (.ref b95), .val (.ref b92), .val .null, .val (.ref b104)] [(.int (0 : Int32)), (.int (0 : Int32))])) _
      refine OGot.go (fun t k => XS.icmpNo X106.here hx rfl (hb hby at_173) rfl (by decide) k) ?_
      show OGot p.tables e below (T106.setTop (mkF m 176 #[.val (.int p1), .val (.int p2), .val (.int p3), .val (.int p4), .val (.int p5), .val (.int p6), .val (.int (1 : Int32)), .val (.ref b4_7), .val (.ref b4_8), .val (.ref (f6 w_INTEGER w_TEXT w_DATE w_DECIMAL p4)), .val (.ref (f6 w_INTEGER w_TEXT w_DATE w_DECIMAL p5)), .val (.ref b92), .val (.ref b95), .val (.ref b92), .val .null, .val (.ref b104)] [])) _
      refine OGot.go (fun t k => XS.iconst X106.here hx rfl (hb hby at_176) k) ?_
      show OGot p.tables e below (T106.setTop (mkF m 177 #[.val (.int p1), .val (.int p2), .val (.int p3), .val (.int p4), .val (.int p5), .val (.int p6), .val (.int (1 : Int32)), .val (.ref b4_7), .val (.ref b4_8), .val (.ref (f6 w_INTEGER w_TEXT w_DATE w_DECIMAL p4)), .val (.ref (f6 w_INTEGER w_TEXT w_DATE w_DECIMAL p5)), .val (.ref b92), .val (.ref b95), .val (.ref b92), .val .null, .val (.ref b104)] [(.int (1 : Int32))])) _
      refine OGot.go (fun t k => XS.goto X106.here hx rfl (pc0 := 177) (pc' := 181) rfl (hb hby at_177) (by decide) (by decide) k) ?_
      show OGot p.tables e below (T106.setTop (mkF m 181 #[.val (.int p1), .val (.int p2), .val (.int p3), .val (.int p4), .val (.int p5), .val (.int p6), .val (.int (1 : Int32)), .val (.ref b4_7), .val (.ref b4_8), .val (.ref (f6 w_INTEGER w_TEXT w_DATE w_DECIMAL p4)), .val (.ref (f6 w_INTEGER w_TEXT w_DATE w_DECIMAL p5)), .val (.ref b92), .val (.ref b95), .val (.ref b92), .val .null, .val (.ref b104)] [(.int (1 : Int32))])) _
      obtain ⟨fs, hr, hrun, hended, hW, hsame⟩ := X106.leave (v := some (.int (1 : Int32))) (fun h => by rw [Bd.returns] at h; cases h)
      refine ⟨_, _, retN X106 hx (t := .boolean) Bd.returns (by simp) (hb hby at_181) hr, hrun, hended, _, _, rfl, ?_, ⟨_, rfl⟩, hW, hsame.mono (by decide) (by decide)⟩
      exact (⟨rfl, N106⟩ : Q0 Z w_INTEGER w_TEXT w_DATE w_DECIMAL i_COMPACT_STRINGS p1 p2 p3 p4 p5 p6 h0 n0 _ T106.heap _)
    · rw [hk100]
      show OGot p.tables e below (T97.setTop (mkF m 118 #[.val (.int p1), .val (.int p2), .val (.int p3), .val (.int p4), .val (.int p5), .val (.int p6), .val (.int (2 : Int32)), .val (.ref b4_7), .val (.ref b4_8), .val (.ref (f6 w_INTEGER w_TEXT w_DATE w_DECIMAL p4)), .val (.ref (f6 w_INTEGER w_TEXT w_DATE w_DECIMAL p5)), .val (.ref b92), .val (.ref b95), .unset, .unset, .unset] [(.int (2 : Int32))])) _
      refine OGot.go (fun t k => XS.ifYes X97.here hx rfl (pc0 := 118) (pc' := 125) rfl (hb hby at_118) rfl (by decide) (by decide) (by decide) k) ?_
      show OGot p.tables e below (T97.setTop (mkF m 125 #[.val (.int p1), .val (.int p2), .val (.int p3), .val (.int p4), .val (.int p5), .val (.int p6), .val (.int (2 : Int32)), .val (.ref b4_7), .val (.ref b4_8), .val (.ref (f6 w_INTEGER w_TEXT w_DATE w_DECIMAL p4)), .val (.ref (f6 w_INTEGER w_TEXT w_DATE w_DECIMAL p5)), .val (.ref b92), .val (.ref b95), .unset, .unset, .unset] [])) _
      refine OGot.go (fun t k => XS.aload X97.here hx rfl (hb hby at_125) rfl rfl k) ?_
      show OGot p.tables e below (T97.setTop (mkF m 127 #[.val (.int p1), .val (.int p2), .val (.int p3), .val (.int p4), .val (.int p5), .val (.int p6), .val (.int (2 : Int32)), .val (.ref b4_7), .val (.ref b4_8), .val (.ref (f6 w_INTEGER w_TEXT w_DATE w_DECIMAL p4)), .val (.ref (f6 w_INTEGER w_TEXT w_DATE w_DECIMAL p5)), .val (.ref b92), .val (.ref b95), .unset, .unset, .unset] [(.ref b92)])) _
      refine OGot.go (fun t k => XS.astore X97.here hx rfl (hb hby at_127) rfl rfl (l' := #[.val (.int p1), .val (.int p2), .val (.int p3), .val (.int p4), .val (.int p5), .val (.int p6), .val (.int (2 : Int32)), .val (.ref b4_7), .val (.ref b4_8), .val (.ref (f6 w_INTEGER w_TEXT w_DATE w_DECIMAL p4)), .val (.ref (f6 w_INTEGER w_TEXT w_DATE w_DECIMAL p5)), .val (.ref b92), .val (.ref b95), .val (.ref b92), .unset, .unset]) rfl k) ?_
      show OGot p.tables e below (T97.setTop (mkF m 129 #[.val (.int p1), .val (.int p2), .val (.int p3), .val (.int p4), .val (.int p5), .val (.int p6), .val (.int (2 : Int32)), .val (.ref b4_7), .val (.ref b4_8), .val (.ref (f6 w_INTEGER w_TEXT w_DATE w_DECIMAL p4)), .val (.ref (f6 w_INTEGER w_TEXT w_DATE w_DECIMAL p5)), .val (.ref b92), .val (.ref b95), .val (.ref b92), .unset, .unset] [])) _
      refine OGot.go (fun t k => XS.iload X97.here hx rfl (hb hby at_129) rfl k) ?_
      show OGot p.tables e below (T97.setTop (mkF m 131 #[.val (.int p1), .val (.int p2), .val (.int p3), .val (.int p4), .val (.int p5), .val (.int p6), .val (.int (2 : Int32)), .val (.ref b4_7), .val (.ref b4_8), .val (.ref (f6 w_INTEGER w_TEXT w_DATE w_DECIMAL p4)), .val (.ref (f6 w_INTEGER w_TEXT w_DATE w_DECIMAL p5)), .val (.ref b92), .val (.ref b95), .val (.ref b92), .unset, .unset] [(.int (2 : Int32))])) _
      refine OGot.go (fun t k => XS.iconst X97.here hx rfl (hb hby at_131) k) ?_
      show OGot p.tables e below (T97.setTop (mkF m 132 #[.val (.int p1), .val (.int p2), .val (.int p3), .val (.int p4), .val (.int p5), .val (.int p6), .val (.int (2 : Int32)), .val (.ref b4_7), .val (.ref b4_8), .val (.ref (f6 w_INTEGER w_TEXT w_DATE w_DECIMAL p4)), .val (.ref (f6 w_INTEGER w_TEXT w_DATE w_DECIMAL p5)), .val (.ref b92), .val (.ref b95), .val (.ref b92), .unset, .unset] [(.int (1 : Int32)), (.int (2 : Int32))])) _
      refine OGot.go (fun t k => XS.icmpYes X97.here hx rfl (pc0 := 132) (pc' := 139) rfl (hb hby at_132) rfl (by decide) (by decide) (by decide) k) ?_
      show OGot p.tables e below (T97.setTop (mkF m 139 #[.val (.int p1), .val (.int p2), .val (.int p3), .val (.int p4), .val (.int p5), .val (.int p6), .val (.int (2 : Int32)), .val (.ref b4_7), .val (.ref b4_8), .val (.ref (f6 w_INTEGER w_TEXT w_DATE w_DECIMAL p4)), .val (.ref (f6 w_INTEGER w_TEXT w_DATE w_DECIMAL p5)), .val (.ref b92), .val (.ref b95), .val (.ref b92), .unset, .unset] [])) _
      refine OGot.go (fun t k => XS.aload X97.here hx rfl (hb hby at_139) rfl rfl k) ?_
      show OGot p.tables e below (T97.setTop (mkF m 141 #[.val (.int p1), .val (.int p2), .val (.int p3), .val (.int p4), .val (.int p5), .val (.int p6), .val (.int (2 : Int32)), .val (.ref b4_7), .val (.ref b4_8), .val (.ref (f6 w_INTEGER w_TEXT w_DATE w_DECIMAL p4)), .val (.ref (f6 w_INTEGER w_TEXT w_DATE w_DECIMAL p5)), .val (.ref b92), .val (.ref b95), .val (.ref b92), .unset, .unset] [(.ref b95)])) _
      refine OGot.go (fun t k => XS.astore X97.here hx rfl (hb hby at_141) rfl rfl (l' := #[.val (.int p1), .val (.int p2), .val (.int p3), .val (.int p4), .val (.int p5), .val (.int p6), .val (.int (2 : Int32)), .val (.ref b4_7), .val (.ref b4_8), .val (.ref (f6 w_INTEGER w_TEXT w_DATE w_DECIMAL p4)), .val (.ref (f6 w_INTEGER w_TEXT w_DATE w_DECIMAL p5)), .val (.ref b92), .val (.ref b95), .val (.ref b92), .val (.ref b95), .unset]) rfl k) ?_
      show OGot p.tables e below (T97.setTop (mkF m 143 #[.val (.int p1), .val (.int p2), .val (.int p3), .val (.int p4), .val (.int p5), .val (.int p6), .val (.int (2 : Int32)), .val (.ref b4_7), .val (.ref b4_8), .val (.ref (f6 w_INTEGER w_TEXT w_DATE w_DECIMAL p4)), .val (.ref (f6 w_INTEGER w_TEXT w_DATE w_DECIMAL p5)), .val (.ref b92), .val (.ref b95), .val (.ref b92), .val (.ref b95), .unset] [])) _
      obtain ⟨T107, h107, X107, e107, E107, A107, D107, -, st107⟩ := newO X97 hx hZ hown (ow hw 64 rfl) (ow hw 65 rfl) (ow hw 66 rfl) rfl (g := (mkF m 143 #[.val (.int p1), .val (.int p2), .val (.int p3), .val (.int p4), .val (.int p5), .val (.int p6), .val (.int (2 : Int32)), .val (.ref b4_7), .val (.ref b4_8), .val (.ref (f6 w_INTEGER w_TEXT w_DATE w_DECIMAL p4)), .val (.ref (f6 w_INTEGER w_TEXT w_DATE w_DECIMAL p5)), .val (.ref b92), .val (.ref b95), .val (.ref b92), .val (.ref b95), .unset] [])) rfl (hb hby at_143) (by decide) (by decide)
      obtain ⟨b107, g107⟩ : ∃ z, z = T97.heap.size := ⟨_, rfl⟩
      rw [← g107] at A107 D107 st107
      refine OGot.go st107 ?_
      have g_b107 : n0 ≤ b107 := Nat.le_trans (osz O97) (Nat.le_of_eq g107.symm)
      have sy_b107 : T97.heap.size ≤ b107 := Nat.le_of_eq g107.symm
      have O107 := O97.ext E107
      have F107_before : Fld Z h107 b107 "com/example/archipel/archipel/model/AttributeChange" "before" "Lcom/example/archipel/archipel/model/Entity;" .null := D107 (Or.inr (ow hw 72 rfl)) (ty := (.object "com/example/archipel/archipel/model/Entity")) (by decide)
      have F107_after : Fld Z h107 b107 "com/example/archipel/archipel/model/AttributeChange" "after" "Lcom/example/archipel/archipel/model/Entity;" .null := D107 (Or.inr (ow hw 74 rfl)) (ty := (.object "com/example/archipel/archipel/model/Entity")) (by decide)
      have F107_was : Fld Z h107 b107 "com/example/archipel/archipel/model/AttributeChange" "was" "Lcom/example/archipel/archipel/model/Attribute;" .null := D107 (Or.inr (ow hw 76 rfl)) (ty := (.object "com/example/archipel/archipel/model/Attribute")) (by decide)
      have F107_becomes : Fld Z h107 b107 "com/example/archipel/archipel/model/AttributeChange" "becomes" "Lcom/example/archipel/archipel/model/Attribute;" .null := D107 (Or.inr (ow hw 78 rfl)) (ty := (.object "com/example/archipel/archipel/model/Attribute")) (by decide)
      show OGot p.tables e below (T107.setTop (mkF m 146 #[.val (.int p1), .val (.int p2), .val (.int p3), .val (.int p4), .val (.int p5), .val (.int p6), .val (.int (2 : Int32)), .val (.ref b4_7), .val (.ref b4_8), .val (.ref (f6 w_INTEGER w_TEXT w_DATE w_DECIMAL p4)), .val (.ref (f6 w_INTEGER w_TEXT w_DATE w_DECIMAL p5)), .val (.ref b92), .val (.ref b95), .val (.ref b92), .val (.ref b95), .unset] [(.ref b107)])) _
      refine OGot.go (fun t k => XS.dup X107.here hx rfl (hb hby at_146) rfl rfl k) ?_
      show OGot p.tables e below (T107.setTop (mkF m 147 #[.val (.int p1), .val (.int p2), .val (.int p3), .val (.int p4), .val (.int p5), .val (.int p6), .val (.int (2 : Int32)), .val (.ref b4_7), .val (.ref b4_8), .val (.ref (f6 w_INTEGER w_TEXT w_DATE w_DECIMAL p4)), .val (.ref (f6 w_INTEGER w_TEXT w_DATE w_DECIMAL p5)), .val (.ref b92), .val (.ref b95), .val (.ref b92), .val (.ref b95), .unset] [(.ref b107), (.ref b107)])) _
      refine OGot.go (fun t k => XS.aconstNull X107.here hx rfl (hb hby at_147) k) ?_
      show OGot p.tables e below (T107.setTop (mkF m 148 #[.val (.int p1), .val (.int p2), .val (.int p3), .val (.int p4), .val (.int p5), .val (.int p6), .val (.int (2 : Int32)), .val (.ref b4_7), .val (.ref b4_8), .val (.ref (f6 w_INTEGER w_TEXT w_DATE w_DECIMAL p4)), .val (.ref (f6 w_INTEGER w_TEXT w_DATE w_DECIMAL p5)), .val (.ref b92), .val (.ref b95), .val (.ref b92), .val (.ref b95), .unset] [.null, (.ref b107), (.ref b107)])) _
      refine OGot.go (fun t k => XS.aconstNull X107.here hx rfl (hb hby at_148) k) ?_
      show OGot p.tables e below (T107.setTop (mkF m 149 #[.val (.int p1), .val (.int p2), .val (.int p3), .val (.int p4), .val (.int p5), .val (.int p6), .val (.int (2 : Int32)), .val (.ref b4_7), .val (.ref b4_8), .val (.ref (f6 w_INTEGER w_TEXT w_DATE w_DECIMAL p4)), .val (.ref (f6 w_INTEGER w_TEXT w_DATE w_DECIMAL p5)), .val (.ref b92), .val (.ref b95), .val (.ref b92), .val (.ref b95), .unset] [.null, .null, (.ref b107), (.ref b107)])) _
      refine OGot.go (fun t k => XS.aload X107.here hx rfl (hb hby at_149) rfl rfl k) ?_
      show OGot p.tables e below (T107.setTop (mkF m 151 #[.val (.int p1), .val (.int p2), .val (.int p3), .val (.int p4), .val (.int p5), .val (.int p6), .val (.int (2 : Int32)), .val (.ref b4_7), .val (.ref b4_8), .val (.ref (f6 w_INTEGER w_TEXT w_DATE w_DECIMAL p4)), .val (.ref (f6 w_INTEGER w_TEXT w_DATE w_DECIMAL p5)), .val (.ref b92), .val (.ref b95), .val (.ref b92), .val (.ref b95), .unset] [(.ref b92), .null, .null, (.ref b107), (.ref b107)])) _
      refine OGot.go (fun t k => XS.aload X107.here hx rfl (hb hby at_151) rfl rfl k) ?_
      show OGot p.tables e below (T107.setTop (mkF m 153 #[.val (.int p1), .val (.int p2), .val (.int p3), .val (.int p4), .val (.int p5), .val (.int p6), .val (.int (2 : Int32)), .val (.ref b4_7), .val (.ref b4_8), .val (.ref (f6 w_INTEGER w_TEXT w_DATE w_DECIMAL p4)), .val (.ref (f6 w_INTEGER w_TEXT w_DATE w_DECIMAL p5)), .val (.ref b92), .val (.ref b95), .val (.ref b92), .val (.ref b95), .unset] [(.ref b95), (.ref b92), .null, .null, (.ref b107), (.ref b107)])) _
      have ne109 : b92 ≠ b95 := (Nat.ne_of_lt (Nat.lt_of_lt_of_le (Nat.lt_of_lt_of_le A92.lt K94.1) sy_b95))
      have F110 : Fld Z h107 b92 "com/example/archipel/archipel/model/Attribute" "name" "Ljava/lang/String;" (.ref b4_7) := ((OKeep.fld (Fo94_0.ext E95) K97 (oninA ne109 (oninA ne109 (oninA ne109 (oninA ne109 onin0))))).ext E107)
      have F111 : Fld Z h107 b95 "com/example/archipel/archipel/model/Attribute" "name" "Ljava/lang/String;" (.ref b4_8) := (Fo97_0.ext E107)
      have ne112 : b4_7 ≠ b92 := (Nat.ne_of_lt (Nat.lt_of_lt_of_le (Nat.lt_of_lt_of_le Fo7_0.lt K8.1) sy_b92))
      have ne113 : b4_7 ≠ b95 := (Nat.ne_of_lt (Nat.lt_of_lt_of_le (Nat.lt_of_lt_of_le (Nat.lt_of_lt_of_le (Nat.lt_of_lt_of_le Fo7_0.lt K8.1) E92.1) K94.1) sy_b95))
      have F114 : Fld Z h107 b4_7 "java/lang/String" "coder" "B" (.int (0 : Int32)) := ((OKeep.fld ((OKeep.fld (F13.ext E92) K94 (oninA ne112 (oninA ne112 (oninA ne112 (oninA ne112 onin0))))).ext E95) K97 (oninA ne113 (oninA ne113 (oninA ne113 (oninA ne113 onin0))))).ext E107)
      have ne115 : b4_8 ≠ b92 := (Nat.ne_of_lt (Nat.lt_of_lt_of_le Fo8_0.lt sy_b92))
      have ne116 : b4_8 ≠ b95 := (Nat.ne_of_lt (Nat.lt_of_lt_of_le (Nat.lt_of_lt_of_le (Nat.lt_of_lt_of_le Fo8_0.lt E92.1) K94.1) sy_b95))
      have F117 : Fld Z h107 b4_8 "java/lang/String" "coder" "B" (.int (0 : Int32)) := ((OKeep.fld ((OKeep.fld (Fo8_1.ext E92) K94 (oninA ne115 (oninA ne115 (oninA ne115 (oninA ne115 onin0))))).ext E95) K97 (oninA ne116 (oninA ne116 (oninA ne116 (oninA ne116 onin0))))).ext E107)
      have F118 : Fld Z h107 b4_7 "java/lang/String" "value" "[B" (.ref b2_5_7) := ((OKeep.fld ((OKeep.fld (F14.ext E92) K94 (oninA ne112 (oninA ne112 (oninA ne112 (oninA ne112 onin0))))).ext E95) K97 (oninA ne113 (oninA ne113 (oninA ne113 (oninA ne113 onin0))))).ext E107)
      have F119 : Fld Z h107 b4_8 "java/lang/String" "value" "[B" (.ref b2_5_8) := ((OKeep.fld ((OKeep.fld (Fo8_2.ext E92) K94 (oninA ne115 (oninA ne115 (oninA ne115 (oninA ne115 onin0))))).ext E95) K97 (oninA ne116 (oninA ne116 (oninA ne116 (oninA ne116 onin0))))).ext E107)
      have ne120 : b2_5_7 ≠ b92 := (Nat.ne_of_lt (Nat.lt_of_lt_of_le (Nat.lt_of_lt_of_le Fo7_3.lt K8.1) sy_b92))
      have ne121 : b2_5_7 ≠ b95 := (Nat.ne_of_lt (Nat.lt_of_lt_of_le (Nat.lt_of_lt_of_le (Nat.lt_of_lt_of_le (Nat.lt_of_lt_of_le Fo7_3.lt K8.1) E92.1) K94.1) sy_b95))
      have F122 : Arv Z h107 b2_5_7 k2_5_7 .byte (1 : Int32) [(.int (nar .byte (((p2 &&& (255 : Int32)).toUInt32.toUInt16.toUInt32.toInt32).toInt8.toInt32)))] (.int (0 : Int32)) := ((OKeep.arv ((OKeep.arv (F15.ext E92) K94 (oallS ne120 (oallS ne120 (oallS ne120 (oallS ne120 oall0))))).ext E95) K97 (oallS ne121 (oallS ne121 (oallS ne121 (oallS ne121 oall0))))).ext E107)
      have ne123 : b2_5_8 ≠ b92 := (Nat.ne_of_lt (Nat.lt_of_lt_of_le Fo8_3.lt sy_b92))
      have ne124 : b2_5_8 ≠ b95 := (Nat.ne_of_lt (Nat.lt_of_lt_of_le (Nat.lt_of_lt_of_le (Nat.lt_of_lt_of_le Fo8_3.lt E92.1) K94.1) sy_b95))
      have F125 : Arv Z h107 b2_5_8 k2_5_8 .byte (1 : Int32) [(.int (nar .byte (((p3 &&& (255 : Int32)).toUInt32.toUInt16.toUInt32.toInt32).toInt8.toInt32)))] (.int (0 : Int32)) := ((OKeep.arv ((OKeep.arv (Fo8_3.ext E92) K94 (oallS ne123 (oallS ne123 (oallS ne123 (oallS ne123 oall0))))).ext E95) K97 (oallS ne124 (oallS ne124 (oallS ne124 (oallS ne124 oall0))))).ext E107)
      obtain ⟨_, _, ⟨T108, L108, k108, n108⟩, -, X108, ⟨Lc108, hQ108, l108, y108, z108⟩, st108⟩ := X107.specialBack hx (y := (⟨"com/example/archipel/archipel/model/AttributeChange", "<init>", "(Lcom/example/archipel/archipel/model/Entity;Lcom/example/archipel/archipel/model/Entity;Lcom/example/archipel/archipel/model/Attribute;Lcom/example/archipel/archipel/model/Attribute;)V"⟩ : MethodName)) rfl hown (mvT hZ (ow hw 67 rfl)) (mvT hZ (ow hw 68 rfl)) (mvT hZ (ow hw 69 rfl)) (by decide) (backOf (W := 1) (rm11_4 l Z a0 hw [] G b107 b92 b95 b4_7 b4_8 b2_5_7 b2_5_8 k2_5_7 (nar .byte (((p2 &&& (255 : Int32)).toUInt32.toUInt16.toUInt32.toInt32).toInt8.toInt32)) k2_5_8 (nar .byte (((p3 &&& (255 : Int32)).toUInt32.toUInt16.toUInt32.toInt32).toInt8.toInt32)) h107 n0 O107 ((OKeep.exa ((OKeep.exa A92 K94).ext E95) K97).ext E107) F110 ((OKeep.exa A95 K97).ext E107) F111 ((OKeep.exa ((OKeep.exa ((OKeep.exa Fo7_0 K8).ext E92) K94).ext E95) K97).ext E107) ne11 ((OKeep.exa ((OKeep.exa (Fo8_0.ext E92) K94).ext E95) K97).ext E107) F114 F117 F118 F119 F122 F125 hs16 A107 F107_before g_b107 F107_after F107_was F107_becomes) hZ (ow hw 69 rfl) (ow hw 66 rfl) (by decide) (by decide)) (g := (mkF m 153 #[.val (.int p1), .val (.int p2), .val (.int p3), .val (.int p4), .val (.int p5), .val (.int p6), .val (.int (2 : Int32)), .val (.ref b4_7), .val (.ref b4_8), .val (.ref (f6 w_INTEGER w_TEXT w_DATE w_DECIMAL p4)), .val (.ref (f6 w_INTEGER w_TEXT w_DATE w_DECIMAL p5)), .val (.ref b92), .val (.ref b95), .val (.ref b92), .val (.ref b95), .unset] [(.ref b95), (.ref b92), .null, .null, (.ref b107), (.ref b107)])) rfl (by rw [hml]; rfl) (Steps.refl _) (a := b107) (argsL := [.null, .null, (.ref b92), (.ref b95)]) (rest := [(.ref b107)]) (lenOf pd_9 rfl) rfl (by show 2 * 0 + _ ≤ _; exact Nat.le_of_eq rfl) (hb hby at_153) (fun _ _ => ⟨rfl, e107, (by decide : 7 + 0 ≤ _), (by decide : 22 + 0 ≤ _)⟩)
      dsimp only [Pt.U, Pt.locs, Pt.cells, Pt.slots] at X108 l108 y108 z108 st108 hQ108
      subst l108 y108 z108
      obtain ⟨N108q, rfl, K108, Fo108_0, Fo108_1, Fo108_2, Fo108_3⟩ := hQ108
      have O108 := OKeep.old O107 K108 (ogeS g_b107 (ogeS g_b107 (ogeS g_b107 (ogeS g_b107 oge0))))
      have N108 := Fr.app N97 N108q
      refine OGot.on st108 ?_
      show OGot p.tables e below (T108.setTop (mkF m 156 #[.val (.int p1), .val (.int p2), .val (.int p3), .val (.int p4), .val (.int p5), .val (.int p6), .val (.int (2 : Int32)), .val (.ref b4_7), .val (.ref b4_8), .val (.ref (f6 w_INTEGER w_TEXT w_DATE w_DECIMAL p4)), .val (.ref (f6 w_INTEGER w_TEXT w_DATE w_DECIMAL p5)), .val (.ref b92), .val (.ref b95), .val (.ref b92), .val (.ref b95), .unset] [(.ref b107)])) _
      refine OGot.go (fun t k => XS.astore X108.here hx rfl (hb hby at_156) rfl rfl (l' := #[.val (.int p1), .val (.int p2), .val (.int p3), .val (.int p4), .val (.int p5), .val (.int p6), .val (.int (2 : Int32)), .val (.ref b4_7), .val (.ref b4_8), .val (.ref (f6 w_INTEGER w_TEXT w_DATE w_DECIMAL p4)), .val (.ref (f6 w_INTEGER w_TEXT w_DATE w_DECIMAL p5)), .val (.ref b92), .val (.ref b95), .val (.ref b92), .val (.ref b95), .val (.ref b107)]) rfl k) ?_
      show OGot p.tables e below (T108.setTop (mkF m 158 #[.val (.int p1), .val (.int p2), .val (.int p3), .val (.int p4), .val (.int p5), .val (.int p6), .val (.int (2 : Int32)), .val (.ref b4_7), .val (.ref b4_8), .val (.ref (f6 w_INTEGER w_TEXT w_DATE w_DECIMAL p4)), .val (.ref (f6 w_INTEGER w_TEXT w_DATE w_DECIMAL p5)), .val (.ref b92), .val (.ref b95), .val (.ref b92), .val (.ref b95), .val (.ref b107)] [])) _
      refine OGot.go (fun t k => XS.aload X108.here hx rfl (hb hby at_158) rfl rfl k) ?_
      show OGot p.tables e below (T108.setTop (mkF m 160 #[.val (.int p1), .val (.int p2), .val (.int p3), .val (.int p4), .val (.int p5), .val (.int p6), .val (.int (2 : Int32)), .val (.ref b4_7), .val (.ref b4_8), .val (.ref (f6 w_INTEGER w_TEXT w_DATE w_DECIMAL p4)), .val (.ref (f6 w_INTEGER w_TEXT w_DATE w_DECIMAL p5)), .val (.ref b92), .val (.ref b95), .val (.ref b92), .val (.ref b95), .val (.ref b107)] [(.ref b107)])) _
      obtain ⟨cq126, kq126, q126a, q126b, q126c⟩ := isOf hZ rfl (OKeep.exa A107 K108)
      obtain ⟨_, _, ⟨T126, L126, k126, n126⟩, -, X126, ⟨Lc126, hQ126, l126, y126, z126⟩, st126⟩ := X108.virtualBack hx (y := (⟨"com/example/archipel/archipel/model/AttributeChange", "added", "()Z"⟩ : MethodName)) (z := (⟨"com/example/archipel/archipel/model/AttributeChange", "added", "()Z"⟩ : MethodName)) hown (mvT hZ (ow hw 79 rfl)) (mvT hZ (ow hw 80 rfl)) (notFace_of_selects (args := #[]) (mvT hZ (ow hw 82 rfl))) (mvT hZ (ow hw 82 rfl)) (mvT hZ (ow hw 81 rfl)) (by decide) (backOf (W := 0) (rm12_1 l Z a0 hw [] G b107 b92 T108.heap n0 O108 Fo108_2) hZ (ow hw 83 rfl) (ow hw 66 rfl) (by decide) (by decide)) q126a q126c (g := (mkF m 160 #[.val (.int p1), .val (.int p2), .val (.int p3), .val (.int p4), .val (.int p5), .val (.int p6), .val (.int (2 : Int32)), .val (.ref b4_7), .val (.ref b4_8), .val (.ref (f6 w_INTEGER w_TEXT w_DATE w_DECIMAL p4)), .val (.ref (f6 w_INTEGER w_TEXT w_DATE w_DECIMAL p5)), .val (.ref b92), .val (.ref b95), .val (.ref b92), .val (.ref b95), .val (.ref b107)] [(.ref b107)])) rfl (by rw [hml]; rfl) (Steps.refl _) (argsL := []) (rest := []) (lenOf pd_10 rfl) rfl (by show 2 * 0 + _ ≤ _; exact Nat.le_of_eq rfl) (hb hby at_160) (fun _ _ => ⟨rfl, rfl, (by decide : 7 + 0 ≤ _), (by decide : 22 + 0 ≤ _)⟩)
      dsimp only [Pt.U, Pt.locs, Pt.cells, Pt.slots] at X126 l126 y126 z126 st126 hQ126
      subst l126 y126 z126
      obtain ⟨rfl, N126q, e126⟩ := hQ126
      have N126 := Fr.app N108 N126q
      refine OGot.on st126 ?_
      show OGot p.tables e below (T126.setTop (mkF m 163 #[.val (.int p1), .val (.int p2), .val (.int p3), .val (.int p4), .val (.int p5), .val (.int p6), .val (.int (2 : Int32)), .val (.ref b4_7), .val (.ref b4_8), .val (.ref (f6 w_INTEGER w_TEXT w_DATE w_DECIMAL p4)), .val (.ref (f6 w_INTEGER w_TEXT w_DATE w_DECIMAL p5)), .val (.ref b92), .val (.ref b95), .val (.ref b92), .val (.ref b95), .val (.ref b107)] [(.int (0 : Int32))])) _
      refine OGot.go (fun t k => XS.iload X126.here hx rfl (hb hby at_163) rfl k) ?_
      show OGot p.tables e below (T126.setTop (mkF m 165 #[.val (.int p1), .val (.int p2), .val (.int p3), .val (.int p4), .val (.int p5), .val (.int p6), .val (.int (2 : Int32)), .val (.ref b4_7), .val (.ref b4_8), .val (.ref (f6 w_INTEGER w_TEXT w_DATE w_DECIMAL p4)), .val (.ref (f6 w_INTEGER w_TEXT w_DATE w_DECIMAL p5)), .val (.ref b92), .val (.ref b95), .val (.ref b92), .val (.ref b95), .val (.ref b107)] [(.int (2 : Int32)), (.int (0 : Int32))])) _
      refine OGot.go (fun t k => XS.ifYes X126.here hx rfl (pc0 := 165) (pc' := 172) rfl (hb hby at_165) rfl (by decide) (by decide) (by decide) k) ?_
      show OGot p.tables e below (T126.setTop (mkF m 172 #[.val (.int p1), .val (.int p2), .val (.int p3), .val (.int p4), .val (.int p5), .val (.int p6), .val (.int (2 : Int32)), .val (.ref b4_7), .val (.ref b4_8), .val (.ref (f6 w_INTEGER w_TEXT w_DATE w_DECIMAL p4)), .val (.ref (f6 w_INTEGER w_TEXT w_DATE w_DECIMAL p5)), .val (.ref b92), .val (.ref b95), .val (.ref b92), .val (.ref b95), .val (.ref b107)] [(.int (0 : Int32))])) _
      refine OGot.go (fun t k => XS.iconst X126.here hx rfl (hb hby at_172) k) ?_
      show OGot p.tables e below (T126.setTop (mkF m 173 #[.val (.int p1), .val (.int p2), .val (.int p3), .val (.int p4), .val (.int p5), .val (.int p6), .val (.int (2 : Int32)), .val (.ref b4_7), .val (.ref b4_8), .val (.ref (f6 w_INTEGER w_TEXT w_DATE w_DECIMAL p4)), .val (.ref (f6 w_INTEGER w_TEXT w_DATE w_DECIMAL p5)), .val (.ref b92), .val (.ref b95), .val (.ref b92), .val (.ref b95), .val (.ref b107)] [(.int (0 : Int32)), (.int (0 : Int32))])) _
      refine OGot.go (fun t k => XS.icmpNo X126.here hx rfl (hb hby at_173) rfl (by decide) k) ?_
      show OGot p.tables e below (T126.setTop (mkF m 176 #[.val (.int p1), .val (.int p2), .val (.int p3), .val (.int p4), .val (.int p5), .val (.int p6), .val (.int (2 : Int32)), .val (.ref b4_7), .val (.ref b4_8), .val (.ref (f6 w_INTEGER w_TEXT w_DATE w_DECIMAL p4)), .val (.ref (f6 w_INTEGER w_TEXT w_DATE w_DECIMAL p5)), .val (.ref b92), .val (.ref b95), .val (.ref b92), .val (.ref b95), .val (.ref b107)] [])) _
      refine OGot.go (fun t k => XS.iconst X126.here hx rfl (hb hby at_176) k) ?_
      show OGot p.tables e below (T126.setTop (mkF m 177 #[.val (.int p1), .val (.int p2), .val (.int p3), .val (.int p4), .val (.int p5), .val (.int p6), .val (.int (2 : Int32)), .val (.ref b4_7), .val (.ref b4_8), .val (.ref (f6 w_INTEGER w_TEXT w_DATE w_DECIMAL p4)), .val (.ref (f6 w_INTEGER w_TEXT w_DATE w_DECIMAL p5)), .val (.ref b92), .val (.ref b95), .val (.ref b92), .val (.ref b95), .val (.ref b107)] [(.int (1 : Int32))])) _
      refine OGot.go (fun t k => XS.goto X126.here hx rfl (pc0 := 177) (pc' := 181) rfl (hb hby at_177) (by decide) (by decide) k) ?_
      show OGot p.tables e below (T126.setTop (mkF m 181 #[.val (.int p1), .val (.int p2), .val (.int p3), .val (.int p4), .val (.int p5), .val (.int p6), .val (.int (2 : Int32)), .val (.ref b4_7), .val (.ref b4_8), .val (.ref (f6 w_INTEGER w_TEXT w_DATE w_DECIMAL p4)), .val (.ref (f6 w_INTEGER w_TEXT w_DATE w_DECIMAL p5)), .val (.ref b92), .val (.ref b95), .val (.ref b92), .val (.ref b95), .val (.ref b107)] [(.int (1 : Int32))])) _
      obtain ⟨fs, hr, hrun, hended, hW, hsame⟩ := X126.leave (v := some (.int (1 : Int32))) (fun h => by rw [Bd.returns] at h; cases h)
      refine ⟨_, _, retN X126 hx (t := .boolean) Bd.returns (by simp) (hb hby at_181) hr, hrun, hended, _, _, rfl, ?_, ⟨_, rfl⟩, hW, hsame.mono (by decide) (by decide)⟩
      exact (⟨rfl, N126⟩ : Q0 Z w_INTEGER w_TEXT w_DATE w_DECIMAL i_COMPACT_STRINGS p1 p2 p3 p4 p5 p6 h0 n0 _ T126.heap _)
set_option maxRecDepth 65536 in
set_option maxHeartbeats 40000000 in
theorem comes_1 {Post : Tables → Env → Array Value → State → Outcome → State → Prop} (hpost : ∀ tb e args s v u, (limb_1_1.after args s (.returned v) u = true ∧ limb_1_2.after args s (.returned v) u = true ∧ True) → FrameEnd s (.returned v) u (Jvm.fieldLocs frame_1_writes args s ++ Jvm.arrayLocs frame_1_arrays args s ++ Jvm.staticLocs frame_1_statics s) 24 128 → Post tb e args s (.returned v) u) :
    ArmFor flags0 classFile x code maxLocals ret World_1 tables_1 room_1 Calls_1 rest_1 Pre_1 Post := by
  intro l hfl _ _ p e ha hc hk s m args below hf hA hF happ hP
  obtain ⟨hcalls, hrest, hpre⟩ := hP
  obtain ⟨-, -, -, hnamed, -, -, -, hat⟩ := (Spec.applies_iff hf).mp happ
  obtain ⟨hg, hn⟩ := and_e (Cond.before_iff.mp (show (Jvm.Cond.and given_1 narrow_1).before args s = true from hpre))
  obtain ⟨g0, g0r⟩ := and_e hg
  obtain ⟨g1, g1r⟩ := and_e g0r
  obtain ⟨g2, g2r⟩ := and_e g1r
  obtain ⟨g3, g3r⟩ := and_e g2r
  obtain ⟨g4, g4r⟩ := and_e g3r
  obtain ⟨g5, g5r⟩ := and_e g4r
  obtain ⟨w0, w1, w2, w3, w4, w5, rfl⟩ : ∃ w0 w1 w2 w3 w4 w5 : Value, args = #[w0, w1, w2, w3, w4, w5] := by
    have hs : args.size = 6 := by simpa [Cond.value, given_1] using g0
    obtain ⟨L⟩ := args
    match L, hs with
    | [w0, w1, w2, w3, w4, w5], _ => exact ⟨w0, w1, w2, w3, w4, w5, rfl⟩
  have hw := fun d (hd : d ∈ tables_1) => atoms_spec (ws := Jvm.Cond.code x code maxLocals ret :: tables_1) hat d (List.mem_cons_of_mem _ hd)
  obtain ⟨i0, ei0⟩ := is_v g1
  obtain rfl : w0 = (.int i0) := Option.some.inj ei0
  obtain ⟨i1, ei1⟩ := is_v g2
  obtain rfl : w1 = (.int i1) := Option.some.inj ei1
  obtain ⟨i2, ei2⟩ := is_v g3
  obtain rfl : w2 = (.int i2) := Option.some.inj ei2
  obtain ⟨i3, ei3⟩ := is_v g4
  obtain rfl : w3 = (.int i3) := Option.some.inj ei3
  obtain ⟨i4, ei4⟩ := is_v g5
  obtain rfl : w4 = (.int i4) := Option.some.inj ei4
  obtain ⟨i5, ei5⟩ := is_v g5r
  obtain rfl : w5 = (.int i5) := Option.some.inj ei5
  obtain ⟨m0, m0r⟩ := and_e hn
  obtain ⟨m1, m1r⟩ := and_e m0r
  obtain ⟨m2, m2r⟩ := and_e m1r
  obtain ⟨m3, m3r⟩ := and_e m2r
  obtain ⟨m4, m4r⟩ := and_e m3r
  obtain ⟨m5, m5r⟩ := and_e m4r
  obtain ⟨m6, m6r⟩ := and_e m5r
  obtain ⟨hsets, hown0⟩ := atoms_of _ (rest_1_c_eq ▸ (show rest_1_c.before _ s = true from hrest))
  obtain ⟨w_INTEGER, ev_w_INTEGER⟩ := exa_v m0
  obtain ⟨w_TEXT, ev_w_TEXT⟩ := exa_v m1
  obtain ⟨w_DATE, ev_w_DATE⟩ := exa_v m4
  obtain ⟨w_DECIMAL, ev_w_DECIMAL⟩ := exa_v m6
  obtain ⟨i_COMPACT_STRINGS, ev_i_COMPACT_STRINGS⟩ := is_v (Cond.before_iff.mp (hsets _ (List.mem_of_getElem? (i := 1) rfl)))
  have G : Glob s w_INTEGER w_TEXT w_DATE w_DECIMAL i_COMPACT_STRINGS := ⟨(Sta.start ev_w_INTEGER (Or.inr ⟨(ow hw 32 rfl), (ow hw 33 rfl)⟩)), (Exa.start ev_w_INTEGER m0), (Sta.start ev_w_TEXT (Or.inr ⟨(ow hw 32 rfl), (ow hw 35 rfl)⟩)), (Exa.start ev_w_TEXT m1), (Sta.start ev_w_DATE (Or.inr ⟨(ow hw 32 rfl), (ow hw 85 rfl)⟩)), (Exa.start ev_w_DATE m4), (Sta.start ev_w_DECIMAL (Or.inr ⟨(ow hw 32 rfl), (ow hw 98 rfl)⟩)), (Exa.start ev_w_DECIMAL m6), (Fld.start ((fld_at ev_w_INTEGER).symm.trans (oeq_int m2))), (Fld.start ((fld_at ev_w_TEXT).symm.trans (oeq_int m3))), (Fld.start ((fld_at ev_w_DATE).symm.trans (oeq_int m5))), (Fld.start ((fld_at ev_w_DECIMAL).symm.trans (oeq_int m6r))), (Sta.start ev_i_COMPACT_STRINGS (Or.inl (hsets _ (List.mem_of_getElem? (i := 0) rfl)))), (one_int ev_i_COMPACT_STRINGS (Cond.before_iff.mp (hsets _ (List.mem_of_getElem? (i := 2) rfl))))⟩
  obtain ⟨n, o, h1, h2, h3, _, L, rfl, ⟨rfl, N⟩, hq⟩ := rm0 l s _ hw tables_1 G i0 i1 i2 i3 i4 i5 s.heap s.heap.size (Old.start s) p e ha hc hk s m _ below hf ((Spec.applies_iff_loose hf).mp happ).1 ⟨rfl, State.Warmed39.refl s, rfl⟩ trivial
  refine ⟨n, _, h1, h2, h3, hpost _ _ _ _ _ _ ⟨Cond.after_iff.mpr rfl, Cond.after_iff.mpr (eq_i res_at (Term.int_eval (1)) rfl), trivial⟩ ⟨hq.1, hq.2.1, (hq.2.2.sift fun y hy => Or.inr (N y hy)).mono (by decide) (by decide)⟩⟩
theorem main_1_1 : Claimed_1_1 := comes_1 fun _ _ _ _ _ _ h hF => ⟨h.1, hF⟩
theorem main_1_2 : Claimed_1_2 := comes_1 fun _ _ _ _ _ _ h hF => ⟨h.2.1, hF⟩
end Jvm.Pilot.@@N@@
namespace Jvm.Pilot.@@N@@
open Jvm Jvm.ClassFile Sem Op Lib Jvm.Free Jvm.Stand Jvm.Pilot.@@N@@.Jvm.D
/-! MADE BY PROGRAM (witnessworld.py) out of the Statement's table words and the real class files: 22 classes; the members and pool entries that the words name. The judged class is class 1, her method 2. -/
namespace start1
open Jvm.ClassFile
def u (s : String) : CpInfo := .utf8 (stringToUtf16 s)
/-- a pool by its gaps: so many unusable entries, then the entry; so many at the end -/
def gap : Nat → List CpInfo → List CpInfo
  | 0, r => r
  | n + 1, r => .unusable :: gap n r
def poolList (es : List (Nat × CpInfo)) (last : Nat) : List CpInfo := es.foldr (fun e r => gap e.1 (e.2 :: r)) (gap last [])
def pool (es : List (Nat × CpInfo)) (last : Nat) : Array CpInfo := ⟨poolList es last⟩
def fileOf (pool : Array CpInfo) (this : Nat) (attrs : Array Attribute := #[]) (ms : Array MethodInfo := #[]) (fl : Nat := 33) (sup : Nat := 0) (ifs : Array Nat := #[]) (fds : Array FieldInfo := #[]) : ClassFile where
  minorVersion := 0
  majorVersion := 65
  constantPool := pool
  accessFlags := fl
  thisClass := this
  superClass := sup
  interfaces := ifs
  fields := fds
  methods := ms
  attributes := attrs
def plain (name : String) (sup : Option ClassId) : Class where
  name := name
  kind := .ordinary
  loader := none
  accessFlags := 33
  super := sup
  interfaces := #[]
  cf := none
  fields := #[]
  methods := #[]
  instanceTypes := #[]
  staticTypes := #[]
  resolved := #[]
  callSites := []
  init := .initialized
  statics := none
  mirror := none

def pool0 : Array CpInfo := pool [(5, u "<init>"), (0, u "()V"), (1, .class_ 10), (1, u "java/lang/Object")] 113

def k0c0 : Code := { maxStack := 0, maxLocals := 1, code := object_method_1_code, exceptionTable := #[], attributes := #[] }
def k0m0 : Method := { name := "<init>", desc := "()V", sig := { parameters := [], returnType := none }, accessFlags := 1, code := some k0c0 }
/-- java/lang/Object -/
def k0 : Class := { plain "java/lang/Object" none with
  accessFlags := 33
  interfaces := #[]
  cf := some (fileOf pool0 8 #[] #[{ accessFlags := 1, nameIndex := 5, descriptorIndex := 6, attributes := #[] }] 33 0 #[] #[])
  fields := #[]
  methods := #[k0m0]
  instanceTypes := #[]
  staticTypes := #[]
  resolved := Array.replicate 124 none
  statics := none }

def pool1 : Array CpInfo := pool [(2, .class_ 4), (1, u "java/lang/Object"), (0, u "<init>"), (0, u "()V"), (0, .fieldref 8 9), (0, .class_ 10), (0, .nameAndType 11 12), (0, u "com/example/archipel/archipel/model/DataType"), (0, u "TEXT"), (0, u "Lcom/example/archipel/archipel/model/DataType;"), (0, .fieldref 8 14), (0, .nameAndType 15 12), (0, u "INTEGER"), (0, .fieldref 8 17), (0, .nameAndType 18 12), (0, u "DECIMAL"), (0, .fieldref 8 20), (0, .nameAndType 21 12), (0, u "DATE"), (0, .integer 2147483647), (0, .methodref 24 25), (0, .class_ 26), (0, .nameAndType 27 28), (0, u "java/lang/String"), (0, u "valueOf"), (0, u "(C)Ljava/lang/String;"), (0, .methodref 30 31), (0, .class_ 32), (0, .nameAndType 33 34), (0, u "com/example/archipel/archipel/model/AttributeChangeAddedPinLaw"), (0, u "type"), (0, u "(I)Lcom/example/archipel/archipel/model/DataType;"), (0, .methodref 24 36), (0, .nameAndType 37 38), (0, u "equals"), (0, u "(Ljava/lang/Object;)Z"), (0, .class_ 40), (0, u "com/example/archipel/archipel/model/Attribute"), (0, .methodref 39 42), (0, .nameAndType 5 43), (0, u "(Ljava/lang/String;Lcom/example/archipel/archipel/model/DataType;ZLjava/lang/String;)V"), (0, .class_ 45), (0, u "com/example/archipel/archipel/model/AttributeChange"), (0, .methodref 44 47), (0, .nameAndType 5 48), (0, u "(Lcom/example/archipel/archipel/model/Entity;Lcom/example/archipel/archipel/model/Entity;Lcom/example/archipel/archipel/model/Attribute;Lcom/example/archipel/archipel/model/Attribute;)V"), (0, .methodref 44 50), (0, .nameAndType 51 52), (0, u "added"), (0, u "()Z"), (3, u "law"), (0, u "(IIIIII)Z")] 2

def k1m0 : Method := { name := "<init>", desc := "()V", sig := { parameters := [], returnType := none }, accessFlags := 1, code := none }
def k1c1 : Code := { maxStack := 2, maxLocals := 2, code := method_2_code, exceptionTable := #[], attributes := #[] }
def k1m1 : Method := { name := "type", desc := "(I)Lcom/example/archipel/archipel/model/DataType;", sig := { parameters := [.int], returnType := some (.object "com/example/archipel/archipel/model/DataType") }, accessFlags := 10, code := some k1c1 }
def k1c2 : Code := { maxStack := 6, maxLocals := 16, code := code, exceptionTable := #[], attributes := #[] }
def k1m2 : Method := { name := "law", desc := "(IIIIII)Z", sig := { parameters := [.int, .int, .int, .int, .int, .int], returnType := some .boolean }, accessFlags := 9, code := some k1c2 }
/-- com/example/archipel/archipel/model/AttributeChangeAddedPinLaw -/
def k1 : Class := { plain "com/example/archipel/archipel/model/AttributeChangeAddedPinLaw" (some 0) with
  accessFlags := 49
  interfaces := #[]
  cf := some (fileOf pool1 30 #[] #[{ accessFlags := 1, nameIndex := 5, descriptorIndex := 6, attributes := #[] }, { accessFlags := 10, nameIndex := 33, descriptorIndex := 34, attributes := #[] }, { accessFlags := 9, nameIndex := 56, descriptorIndex := 57, attributes := #[] }] 49 2 #[] #[])
  fields := #[]
  methods := #[k1m0, k1m1, k1m2]
  instanceTypes := #[]
  staticTypes := #[]
  resolved := Array.replicate 60 none
  statics := none }

def pool2 : Array CpInfo := pool [(1, .class_ 2), (0, u "java/io/Serializable"), (0, .class_ 4), (0, u "java/lang/Object")] 2

/-- java/io/Serializable -/
def k2 : Class := { plain "java/io/Serializable" (some 0) with
  accessFlags := 1537
  interfaces := #[]
  cf := some (fileOf pool2 1 #[] #[] 1537 3 #[] #[])
  fields := #[]
  methods := #[]
  instanceTypes := #[]
  staticTypes := #[]
  resolved := Array.replicate 7 none
  statics := none }

def pool3 : Array CpInfo := pool [(1, .class_ 2), (0, u "java/lang/Comparable"), (0, .class_ 4), (0, u "java/lang/Object")] 7

/-- java/lang/Comparable -/
def k3 : Class := { plain "java/lang/Comparable" (some 0) with
  accessFlags := 1537
  interfaces := #[]
  cf := some (fileOf pool3 1 #[] #[] 1537 3 #[] #[])
  fields := #[]
  methods := #[]
  instanceTypes := #[]
  staticTypes := #[]
  resolved := Array.replicate 12 none
  statics := none }

def pool4 : Array CpInfo := pool [(2, .class_ 4), (1, u "java/lang/CharSequence"), (42, .class_ 48), (0, u "java/lang/CharSequence$1CodePointIterator"), (10, .class_ 60), (0, u "java/lang/CharSequence$1CharIterator"), (5, .class_ 67), (0, u "java/lang/Object")] 63

/-- java/lang/CharSequence -/
def k4 : Class := { plain "java/lang/CharSequence" (some 0) with
  accessFlags := 1537
  interfaces := #[]
  cf := some (fileOf pool4 2 #[.nestMembers #[47, 59]] #[] 1537 66 #[] #[])
  fields := #[]
  methods := #[]
  instanceTypes := #[]
  staticTypes := #[]
  resolved := Array.replicate 131 none
  statics := none }

def pool5 : Array CpInfo := pool [(1, .class_ 2), (0, u "java/lang/constant/Constable"), (0, .class_ 4), (0, u "java/lang/Object")] 6

/-- java/lang/constant/Constable -/
def k5 : Class := { plain "java/lang/constant/Constable" (some 0) with
  accessFlags := 1537
  interfaces := #[]
  cf := some (fileOf pool5 1 #[] #[] 1537 3 #[] #[])
  fields := #[]
  methods := #[]
  instanceTypes := #[]
  staticTypes := #[]
  resolved := Array.replicate 11 none
  statics := none }

def pool6 : Array CpInfo := pool [(1, .class_ 2), (0, u "java/lang/constant/ConstantDesc"), (0, .class_ 4), (0, u "java/lang/Object")] 32

/-- java/lang/constant/ConstantDesc -/
def k6 : Class := { plain "java/lang/constant/ConstantDesc" (some 0) with
  accessFlags := 1537
  interfaces := #[]
  cf := some (fileOf pool6 1 #[] #[] 1537 3 #[] #[])
  fields := #[]
  methods := #[]
  instanceTypes := #[]
  staticTypes := #[]
  resolved := Array.replicate 37 none
  statics := none }

def pool7 : Array CpInfo := pool [(1, .methodref 2 3), (0, .class_ 4), (0, .nameAndType 5 6), (0, u "java/lang/Object"), (0, u "<init>"), (0, u "()V"), (2, .fieldref 10 11), (0, .class_ 12), (0, .nameAndType 13 14), (0, u "java/lang/String"), (0, u "value"), (0, u "[B"), (0, .fieldref 10 16), (0, .nameAndType 17 18), (0, u "coder"), (0, u "B"), (2, u "hash"), (0, u "I"), (2, u "hashIsZero"), (0, u "Z"), (11, .fieldref 10 39), (0, .nameAndType 40 26), (0, u "COMPACT_STRINGS"), (12, u "toBytes"), (53, .class_ 109), (1, u "java/lang/StringLatin1"), (99, .methodref 10 210), (0, .nameAndType 5 211), (0, u "([BB)V"), (157, u "(C)Z"), (171, .methodref 107 542), (0, .nameAndType 543 544), (0, u "equals"), (0, u "([B[B)Z"), (28, u "(Ljava/lang/Object;)Z"), (1, .class_ 576), (0, u "java/lang/CharSequence"), (22, u "CASE_INSENSITIVE_ORDER"), (0, u "Ljava/util/Comparator;"), (181, u "valueOf"), (0, u "(C)Ljava/lang/String;"), (231, .methodref 107 1016), (0, .nameAndType 1017 369), (0, u "canEncode"), (0, .methodref 107 1019), (0, .nameAndType 53 1020), (0, u "(C)[B"), (80, u "serialPersistentFields"), (0, u "[Ljava/io/ObjectStreamField;"), (0, .class_ 1104), (0, u "java/lang/String$CaseInsensitiveComparator"), (1, .class_ 1107), (0, u "java/io/Serializable"), (0, .class_ 1109), (0, u "java/lang/Comparable"), (0, .class_ 1111), (0, u "java/lang/constant/Constable"), (0, .class_ 1113), (0, u "java/lang/constant/ConstantDesc"), (2, u "serialVersionUID"), (0, u "J"), (3, u "REPL"), (0, u "C"), (2, u "LATIN1"), (1, u "UTF16")] 323

def k7m0 : Method := { name := "<init>", desc := "()V", sig := { parameters := [], returnType := none }, accessFlags := 1, code := none }
def k7c1 : Code := { maxStack := 2, maxLocals := 3, code := jdk_42_method_66_code, exceptionTable := #[], attributes := #[] }
def k7m1 : Method := { name := "equals", desc := "(Ljava/lang/Object;)Z", sig := { parameters := [(.object "java/lang/Object")], returnType := some .boolean }, accessFlags := 1, code := some k7c1 }
def k7c2 : Code := { maxStack := 4, maxLocals := 1, code := jdk_42_method_139_code, exceptionTable := #[], attributes := #[] }
def k7m2 : Method := { name := "valueOf", desc := "(C)Ljava/lang/String;", sig := { parameters := [.char], returnType := some (.object "java/lang/String") }, accessFlags := 9, code := some k7c2 }
def k7c3 : Code := { maxStack := 2, maxLocals := 3, code := jdk_42_method_151_code, exceptionTable := #[], attributes := #[] }
def k7m3 : Method := { name := "<init>", desc := "([BB)V", sig := { parameters := [(.array .byte), .byte], returnType := none }, accessFlags := 0, code := some k7c3 }
/-- java/lang/String -/
def k7 : Class := { plain "java/lang/String" (some 0) with
  accessFlags := 49
  interfaces := #[2, 3, 4, 5, 6]
  cf := some (fileOf pool7 10 #[.nestMembers #[1103]] #[{ accessFlags := 1, nameIndex := 5, descriptorIndex := 6, attributes := #[] }, { accessFlags := 1, nameIndex := 543, descriptorIndex := 573, attributes := #[] }, { accessFlags := 9, nameIndex := 782, descriptorIndex := 783, attributes := #[] }, { accessFlags := 0, nameIndex := 5, descriptorIndex := 211, attributes := #[] }] 49 2 #[1106, 1108, 575, 1110, 1112] #[{ accessFlags := 18, nameIndex := 13, descriptorIndex := 14, attributes := #[] }, { accessFlags := 18, nameIndex := 17, descriptorIndex := 18, attributes := #[] }, { accessFlags := 2, nameIndex := 21, descriptorIndex := 22, attributes := #[] }, { accessFlags := 2, nameIndex := 25, descriptorIndex := 26, attributes := #[] }, { accessFlags := 26, nameIndex := 1116, descriptorIndex := 1117, attributes := #[] }, { accessFlags := 24, nameIndex := 40, descriptorIndex := 26, attributes := #[] }, { accessFlags := 26, nameIndex := 1101, descriptorIndex := 1102, attributes := #[] }, { accessFlags := 26, nameIndex := 1121, descriptorIndex := 1122, attributes := #[] }, { accessFlags := 25, nameIndex := 599, descriptorIndex := 600, attributes := #[] }, { accessFlags := 24, nameIndex := 1125, descriptorIndex := 18, attributes := #[] }, { accessFlags := 24, nameIndex := 1127, descriptorIndex := 18, attributes := #[] }])
  fields := #[{ name := "value", type := (.array .byte), accessFlags := 18, slot := 0, constantValue := 0 }, { name := "coder", type := .byte, accessFlags := 18, slot := 1, constantValue := 0 }, { name := "hash", type := .int, accessFlags := 2, slot := 2, constantValue := 0 }, { name := "hashIsZero", type := .boolean, accessFlags := 2, slot := 3, constantValue := 0 }, { name := "serialVersionUID", type := .long, accessFlags := 26, slot := 0, constantValue := 0 }, { name := "COMPACT_STRINGS", type := .boolean, accessFlags := 24, slot := 1, constantValue := 0 }, { name := "serialPersistentFields", type := (.array (.object "java/io/ObjectStreamField")), accessFlags := 26, slot := 2, constantValue := 0 }, { name := "REPL", type := .char, accessFlags := 26, slot := 3, constantValue := 0 }, { name := "CASE_INSENSITIVE_ORDER", type := (.object "java/util/Comparator"), accessFlags := 25, slot := 4, constantValue := 0 }, { name := "LATIN1", type := .byte, accessFlags := 24, slot := 5, constantValue := 0 }, { name := "UTF16", type := .byte, accessFlags := 24, slot := 6, constantValue := 0 }]
  methods := #[k7m0, k7m1, k7m2, k7m3]
  instanceTypes := #[(.array .byte), .byte, .int, .boolean]
  staticTypes := #[.long, .boolean, (.array (.object "java/io/ObjectStreamField")), .char, (.object "java/util/Comparator"), .byte, .byte]
  resolved := Array.replicate 1451 none
  statics := some 0 }

def pool8 : Array CpInfo := pool [(4, .class_ 6), (1, u "java/lang/Object"), (0, u "<init>"), (0, u "()V"), (5, .class_ 16), (1, u "java/lang/StringLatin1"), (73, u "canEncode"), (14, u "(C)Z"), (15, u "$assertionsDisabled"), (0, u "Z"), (98, .class_ 223), (1, u "java/lang/StringLatin1$LinesSpliterator"), (57, u "equals"), (0, u "([B[B)Z"), (97, u "toBytes"), (1, u "(C)[B"), (7, .class_ 391), (0, u "java/lang/StringLatin1$CharsSpliterator")] 3

def k8m0 : Method := { name := "<init>", desc := "()V", sig := { parameters := [], returnType := none }, accessFlags := 0, code := none }
def k8c1 : Code := { maxStack := 2, maxLocals := 1, code := jdk_43_method_3_code, exceptionTable := #[], attributes := #[] }
def k8m1 : Method := { name := "canEncode", desc := "(C)Z", sig := { parameters := [.char], returnType := some .boolean }, accessFlags := 9, code := some k8c1 }
def k8c2 : Code := { maxStack := 3, maxLocals := 3, code := jdk_43_method_13_code, exceptionTable := #[], attributes := #[] }
def k8m2 : Method := { name := "equals", desc := "([B[B)Z", sig := { parameters := [(.array .byte), (.array .byte)], returnType := some .boolean }, accessFlags := 9, code := some k8c2 }
def k8c3 : Code := { maxStack := 4, maxLocals := 1, code := jdk_43_method_46_code, exceptionTable := #[], attributes := #[] }
def k8m3 : Method := { name := "toBytes", desc := "(C)[B", sig := { parameters := [.char], returnType := some (.array .byte) }, accessFlags := 9, code := some k8c3 }
/-- java/lang/StringLatin1 -/
def k8 : Class := { plain "java/lang/StringLatin1" (some 0) with
  accessFlags := 48
  interfaces := #[]
  cf := some (fileOf pool8 14 #[.nestMembers #[390, 221]] #[{ accessFlags := 0, nameIndex := 7, descriptorIndex := 8, attributes := #[] }, { accessFlags := 9, nameIndex := 90, descriptorIndex := 105, attributes := #[] }, { accessFlags := 9, nameIndex := 281, descriptorIndex := 282, attributes := #[] }, { accessFlags := 9, nameIndex := 380, descriptorIndex := 382, attributes := #[] }] 48 4 #[] #[{ accessFlags := 4120, nameIndex := 121, descriptorIndex := 122, attributes := #[] }])
  fields := #[{ name := "$assertionsDisabled", type := .boolean, accessFlags := 4120, slot := 0, constantValue := 0 }]
  methods := #[k8m0, k8m1, k8m2, k8m3]
  instanceTypes := #[]
  staticTypes := #[.boolean]
  resolved := Array.replicate 395 none
  statics := none }

def pool9 : Array CpInfo := pool [(2, .class_ 4), (1, u "java/lang/Enum"), (0, u "name"), (0, u "Ljava/lang/String;"), (2, u "ordinal"), (0, u "I"), (1, .class_ 14), (1, u "java/lang/Object"), (4, u "hash"), (86, .class_ 108), (1, u "java/lang/Enum$EnumDesc"), (2, .class_ 112), (0, u "java/lang/constant/Constable"), (0, .class_ 114), (0, u "java/lang/Comparable"), (0, .class_ 116), (0, u "java/io/Serializable")] 87

/-- java/lang/Enum -/
def k9 : Class := { plain "java/lang/Enum" (some 0) with
  accessFlags := 1057
  interfaces := #[5, 3, 2]
  cf := some (fileOf pool9 2 #[.nestMembers #[106]] #[] 1057 12 #[111, 113, 115] #[{ accessFlags := 18, nameIndex := 5, descriptorIndex := 6, attributes := #[] }, { accessFlags := 18, nameIndex := 9, descriptorIndex := 10, attributes := #[] }, { accessFlags := 2, nameIndex := 19, descriptorIndex := 10, attributes := #[] }])
  fields := #[{ name := "name", type := (.object "java/lang/String"), accessFlags := 18, slot := 0, constantValue := 0 }, { name := "ordinal", type := .int, accessFlags := 18, slot := 1, constantValue := 0 }, { name := "hash", type := .int, accessFlags := 2, slot := 2, constantValue := 0 }]
  methods := #[]
  instanceTypes := #[(.object "java/lang/String"), .int, .int]
  staticTypes := #[]
  resolved := Array.replicate 204 none
  statics := none }

def pool10 : Array CpInfo := pool [(1, .class_ 2), (0, u "com/example/archipel/archipel/model/DataType"), (2, u "TEXT"), (0, u "Lcom/example/archipel/archipel/model/DataType;"), (2, u "INTEGER"), (2, u "DECIMAL"), (2, u "DATE"), (2, u "$VALUES"), (0, u "[Lcom/example/archipel/archipel/model/DataType;"), (6, .class_ 28), (1, u "java/lang/Enum"), (93, u "DATE_FORM"), (0, u "Ljava/util/regex/Pattern;"), (34, u "PLAIN_INTEGER"), (2, u "PLAIN_DECIMAL"), (83, u "LAST_YEAR"), (0, u "I"), (2, u "LONG_DIGITS")] 47

/-- com/example/archipel/archipel/model/DataType -/
def k10 : Class := { plain "com/example/archipel/archipel/model/DataType" (some 9) with
  accessFlags := 16433
  interfaces := #[]
  cf := some (fileOf pool10 1 #[] #[] 16433 26 #[] #[{ accessFlags := 16409, nameIndex := 5, descriptorIndex := 6, attributes := #[] }, { accessFlags := 16409, nameIndex := 9, descriptorIndex := 6, attributes := #[] }, { accessFlags := 16409, nameIndex := 12, descriptorIndex := 6, attributes := #[] }, { accessFlags := 16409, nameIndex := 15, descriptorIndex := 6, attributes := #[] }, { accessFlags := 26, nameIndex := 122, descriptorIndex := 123, attributes := #[] }, { accessFlags := 26, nameIndex := 158, descriptorIndex := 123, attributes := #[] }, { accessFlags := 26, nameIndex := 161, descriptorIndex := 123, attributes := #[] }, { accessFlags := 26, nameIndex := 245, descriptorIndex := 246, attributes := #[] }, { accessFlags := 26, nameIndex := 249, descriptorIndex := 246, attributes := #[] }, { accessFlags := 4122, nameIndex := 18, descriptorIndex := 19, attributes := #[] }])
  fields := #[{ name := "TEXT", type := (.object "com/example/archipel/archipel/model/DataType"), accessFlags := 16409, slot := 0, constantValue := 0 }, { name := "INTEGER", type := (.object "com/example/archipel/archipel/model/DataType"), accessFlags := 16409, slot := 1, constantValue := 0 }, { name := "DECIMAL", type := (.object "com/example/archipel/archipel/model/DataType"), accessFlags := 16409, slot := 2, constantValue := 0 }, { name := "DATE", type := (.object "com/example/archipel/archipel/model/DataType"), accessFlags := 16409, slot := 3, constantValue := 0 }, { name := "DATE_FORM", type := (.object "java/util/regex/Pattern"), accessFlags := 26, slot := 4, constantValue := 0 }, { name := "PLAIN_INTEGER", type := (.object "java/util/regex/Pattern"), accessFlags := 26, slot := 5, constantValue := 0 }, { name := "PLAIN_DECIMAL", type := (.object "java/util/regex/Pattern"), accessFlags := 26, slot := 6, constantValue := 0 }, { name := "LAST_YEAR", type := .int, accessFlags := 26, slot := 7, constantValue := 0 }, { name := "LONG_DIGITS", type := .int, accessFlags := 26, slot := 8, constantValue := 0 }, { name := "$VALUES", type := (.array (.object "com/example/archipel/archipel/model/DataType")), accessFlags := 4122, slot := 9, constantValue := 0 }]
  methods := #[]
  instanceTypes := #[(.object "java/lang/String"), .int, .int]
  staticTypes := #[(.object "com/example/archipel/archipel/model/DataType"), (.object "com/example/archipel/archipel/model/DataType"), (.object "com/example/archipel/archipel/model/DataType"), (.object "com/example/archipel/archipel/model/DataType"), (.object "java/util/regex/Pattern"), (.object "java/util/regex/Pattern"), (.object "java/util/regex/Pattern"), .int, .int, (.array (.object "com/example/archipel/archipel/model/DataType"))]
  resolved := Array.replicate 297 none
  statics := some 1 }

def pool11 : Array CpInfo := pool [(1, .methodref 2 3), (0, .class_ 4), (0, .nameAndType 5 6), (0, u "java/lang/Object"), (0, u "<init>"), (0, u "()V"), (0, .class_ 8), (0, u "java/lang/Record")] 13

def k11c0 : Code := { maxStack := 1, maxLocals := 1, code := jdk_30_method_1_code, exceptionTable := #[], attributes := #[] }
def k11m0 : Method := { name := "<init>", desc := "()V", sig := { parameters := [], returnType := none }, accessFlags := 4, code := some k11c0 }
/-- java/lang/Record -/
def k11 : Class := { plain "java/lang/Record" (some 0) with
  accessFlags := 1057
  interfaces := #[]
  cf := some (fileOf pool11 7 #[] #[{ accessFlags := 4, nameIndex := 5, descriptorIndex := 6, attributes := #[] }] 1057 2 #[] #[])
  fields := #[]
  methods := #[k11m0]
  instanceTypes := #[]
  staticTypes := #[]
  resolved := Array.replicate 22 none
  statics := none }

def pool12 : Array CpInfo := pool [(1, .methodref 2 3), (0, .class_ 4), (0, .nameAndType 5 6), (0, u "java/lang/Record"), (0, u "<init>"), (0, u "()V"), (0, .fieldref 8 9), (0, .class_ 10), (0, .nameAndType 11 12), (0, u "com/example/archipel/archipel/model/Attribute"), (0, u "name"), (0, u "Ljava/lang/String;"), (0, .fieldref 8 14), (0, .nameAndType 15 16), (0, u "type"), (0, u "Lcom/example/archipel/archipel/model/DataType;"), (0, .fieldref 8 18), (0, .nameAndType 19 20), (0, u "notNull"), (0, u "Z"), (0, .fieldref 8 22), (0, .nameAndType 23 12), (0, u "references"), (12, u "(Ljava/lang/String;Lcom/example/archipel/archipel/model/DataType;ZLjava/lang/String;)V"), (3, u "()Ljava/lang/String;"), (2, u "()Lcom/example/archipel/archipel/model/DataType;")] 24

def k12c0 : Code := { maxStack := 2, maxLocals := 5, code := prog_29_method_1_code, exceptionTable := #[], attributes := #[] }
def k12m0 : Method := { name := "<init>", desc := "(Ljava/lang/String;Lcom/example/archipel/archipel/model/DataType;ZLjava/lang/String;)V", sig := { parameters := [(.object "java/lang/String"), (.object "com/example/archipel/archipel/model/DataType"), .boolean, (.object "java/lang/String")], returnType := none }, accessFlags := 1, code := some k12c0 }
def k12c1 : Code := { maxStack := 1, maxLocals := 1, code := prog_29_method_5_code, exceptionTable := #[], attributes := #[] }
def k12m1 : Method := { name := "name", desc := "()Ljava/lang/String;", sig := { parameters := [], returnType := some (.object "java/lang/String") }, accessFlags := 1, code := some k12c1 }
def k12c2 : Code := { maxStack := 1, maxLocals := 1, code := prog_29_method_6_code, exceptionTable := #[], attributes := #[] }
def k12m2 : Method := { name := "type", desc := "()Lcom/example/archipel/archipel/model/DataType;", sig := { parameters := [], returnType := some (.object "com/example/archipel/archipel/model/DataType") }, accessFlags := 1, code := some k12c2 }
/-- com/example/archipel/archipel/model/Attribute -/
def k12 : Class := { plain "com/example/archipel/archipel/model/Attribute" (some 11) with
  accessFlags := 49
  interfaces := #[]
  cf := some (fileOf pool12 8 #[] #[{ accessFlags := 1, nameIndex := 5, descriptorIndex := 36, attributes := #[] }, { accessFlags := 1, nameIndex := 11, descriptorIndex := 40, attributes := #[] }, { accessFlags := 1, nameIndex := 15, descriptorIndex := 43, attributes := #[] }] 49 2 #[] #[{ accessFlags := 18, nameIndex := 11, descriptorIndex := 12, attributes := #[] }, { accessFlags := 18, nameIndex := 15, descriptorIndex := 16, attributes := #[] }, { accessFlags := 18, nameIndex := 19, descriptorIndex := 20, attributes := #[] }, { accessFlags := 18, nameIndex := 23, descriptorIndex := 12, attributes := #[] }])
  fields := #[{ name := "name", type := (.object "java/lang/String"), accessFlags := 18, slot := 0, constantValue := 0 }, { name := "type", type := (.object "com/example/archipel/archipel/model/DataType"), accessFlags := 18, slot := 1, constantValue := 0 }, { name := "notNull", type := .boolean, accessFlags := 18, slot := 2, constantValue := 0 }, { name := "references", type := (.object "java/lang/String"), accessFlags := 18, slot := 3, constantValue := 0 }]
  methods := #[k12m0, k12m1, k12m2]
  instanceTypes := #[(.object "java/lang/String"), (.object "com/example/archipel/archipel/model/DataType"), .boolean, (.object "java/lang/String")]
  staticTypes := #[]
  resolved := Array.replicate 68 none
  statics := none }

def pool13 : Array CpInfo := pool [(1, .class_ 2), (0, u "com/example/archipel/archipel/model/EntityChange"), (0, .class_ 4), (0, u "java/lang/Object")] 7

/-- com/example/archipel/archipel/model/EntityChange -/
def k13 : Class := { plain "com/example/archipel/archipel/model/EntityChange" (some 0) with
  accessFlags := 1537
  interfaces := #[]
  cf := some (fileOf pool13 1 #[] #[] 1537 3 #[] #[])
  fields := #[]
  methods := #[]
  instanceTypes := #[]
  staticTypes := #[]
  resolved := Array.replicate 12 none
  statics := none }

def pool14 : Array CpInfo := pool [(1, .methodref 2 3), (0, .class_ 4), (0, .nameAndType 5 6), (0, u "java/lang/Record"), (0, u "<init>"), (0, u "()V"), (0, .methodref 8 9), (0, .class_ 10), (0, .nameAndType 11 12), (0, u "com/example/archipel/archipel/model/Attribute"), (0, u "name"), (0, u "()Ljava/lang/String;"), (0, .methodref 14 15), (0, .class_ 16), (0, .nameAndType 17 18), (0, u "java/lang/String"), (0, u "equals"), (0, u "(Ljava/lang/Object;)Z"), (0, .methodref 8 20), (0, .nameAndType 21 22), (0, u "type"), (0, u "()Lcom/example/archipel/archipel/model/DataType;"), (13, .fieldref 37 38), (0, .class_ 39), (0, .nameAndType 40 41), (0, u "com/example/archipel/archipel/model/AttributeChange"), (0, u "before"), (0, u "Lcom/example/archipel/archipel/model/Entity;"), (0, .fieldref 37 43), (0, .nameAndType 44 41), (0, u "after"), (0, .fieldref 37 46), (0, .nameAndType 47 48), (0, u "was"), (0, u "Lcom/example/archipel/archipel/model/Attribute;"), (0, .fieldref 37 50), (0, .nameAndType 51 48), (0, u "becomes"), (2, u "added"), (0, u "()Z"), (24, .class_ 81), (0, u "com/example/archipel/archipel/model/EntityChange"), (0, u "(Lcom/example/archipel/archipel/model/Entity;Lcom/example/archipel/archipel/model/Entity;Lcom/example/archipel/archipel/model/Attribute;Lcom/example/archipel/archipel/model/Attribute;)V")] 48

def k14c0 : Code := { maxStack := 4, maxLocals := 5, code := prog_30_method_1_code, exceptionTable := #[], attributes := #[] }
def k14m0 : Method := { name := "<init>", desc := "(Lcom/example/archipel/archipel/model/Entity;Lcom/example/archipel/archipel/model/Entity;Lcom/example/archipel/archipel/model/Attribute;Lcom/example/archipel/archipel/model/Attribute;)V", sig := { parameters := [(.object "com/example/archipel/archipel/model/Entity"), (.object "com/example/archipel/archipel/model/Entity"), (.object "com/example/archipel/archipel/model/Attribute"), (.object "com/example/archipel/archipel/model/Attribute")], returnType := none }, accessFlags := 1, code := some k14c0 }
def k14c1 : Code := { maxStack := 1, maxLocals := 1, code := prog_30_method_2_code, exceptionTable := #[], attributes := #[] }
def k14m1 : Method := { name := "added", desc := "()Z", sig := { parameters := [], returnType := some .boolean }, accessFlags := 1, code := some k14c1 }
/-- com/example/archipel/archipel/model/AttributeChange -/
def k14 : Class := { plain "com/example/archipel/archipel/model/AttributeChange" (some 11) with
  accessFlags := 49
  interfaces := #[13]
  cf := some (fileOf pool14 37 #[] #[{ accessFlags := 1, nameIndex := 5, descriptorIndex := 82, attributes := #[] }, { accessFlags := 1, nameIndex := 54, descriptorIndex := 55, attributes := #[] }] 49 2 #[80] #[{ accessFlags := 18, nameIndex := 40, descriptorIndex := 41, attributes := #[] }, { accessFlags := 18, nameIndex := 44, descriptorIndex := 41, attributes := #[] }, { accessFlags := 18, nameIndex := 47, descriptorIndex := 48, attributes := #[] }, { accessFlags := 18, nameIndex := 51, descriptorIndex := 48, attributes := #[] }])
  fields := #[{ name := "before", type := (.object "com/example/archipel/archipel/model/Entity"), accessFlags := 18, slot := 0, constantValue := 0 }, { name := "after", type := (.object "com/example/archipel/archipel/model/Entity"), accessFlags := 18, slot := 1, constantValue := 0 }, { name := "was", type := (.object "com/example/archipel/archipel/model/Attribute"), accessFlags := 18, slot := 2, constantValue := 0 }, { name := "becomes", type := (.object "com/example/archipel/archipel/model/Attribute"), accessFlags := 18, slot := 3, constantValue := 0 }]
  methods := #[k14m0, k14m1]
  instanceTypes := #[(.object "com/example/archipel/archipel/model/Entity"), (.object "com/example/archipel/archipel/model/Entity"), (.object "com/example/archipel/archipel/model/Attribute"), (.object "com/example/archipel/archipel/model/Attribute")]
  staticTypes := #[]
  resolved := Array.replicate 131 none
  statics := none }

def pool15 : Array CpInfo := pool [(2, .class_ 4), (1, u "java/lang/Object"), (0, u "<init>"), (0, u "()V"), (17, .class_ 26), (1, u "jdk/internal/util/Preconditions"), (28, .class_ 56), (0, u "jdk/internal/util/Preconditions$4"), (57, .class_ 115), (0, u "jdk/internal/util/Preconditions$1"), (7, u "SIOOBE_FORMATTER"), (0, u "Ljava/util/function/BiFunction;"), (0, .class_ 126), (0, u "jdk/internal/util/Preconditions$2"), (3, u "AIOOBE_FORMATTER"), (0, .class_ 132), (0, u "jdk/internal/util/Preconditions$3"), (3, u "IOOBE_FORMATTER")] 57

def k15m0 : Method := { name := "<init>", desc := "()V", sig := { parameters := [], returnType := none }, accessFlags := 1, code := none }
/-- jdk/internal/util/Preconditions -/
def k15 : Class := { plain "jdk/internal/util/Preconditions" (some 0) with
  accessFlags := 33
  interfaces := #[]
  cf := some (fileOf pool15 24 #[.nestMembers #[55, 131, 125, 114]] #[{ accessFlags := 1, nameIndex := 5, descriptorIndex := 6, attributes := #[] }] 33 2 #[] #[{ accessFlags := 25, nameIndex := 123, descriptorIndex := 124, attributes := #[] }, { accessFlags := 25, nameIndex := 130, descriptorIndex := 124, attributes := #[] }, { accessFlags := 25, nameIndex := 136, descriptorIndex := 124, attributes := #[] }])
  fields := #[{ name := "SIOOBE_FORMATTER", type := (.object "java/util/function/BiFunction"), accessFlags := 25, slot := 0, constantValue := 0 }, { name := "AIOOBE_FORMATTER", type := (.object "java/util/function/BiFunction"), accessFlags := 25, slot := 1, constantValue := 0 }, { name := "IOOBE_FORMATTER", type := (.object "java/util/function/BiFunction"), accessFlags := 25, slot := 2, constantValue := 0 }]
  methods := #[k15m0]
  instanceTypes := #[]
  staticTypes := #[(.object "java/util/function/BiFunction"), (.object "java/util/function/BiFunction"), (.object "java/util/function/BiFunction")]
  resolved := Array.replicate 194 none
  statics := some 2 }

def pool16 : Array CpInfo := pool [(9, u "<init>"), (6, .class_ 18), (1, u "java/lang/Object"), (0, u "()V"), (1, .class_ 23), (1, u "jdk/internal/util/ArraysSupport"), (0, u "LOG2_ARRAY_LONG_INDEX_SCALE"), (0, u "I"), (2, u "U"), (0, u "Ljdk/internal/misc/Unsafe;"), (8, u "BIG_ENDIAN"), (0, u "Z"), (8, u "LOG2_BYTE_BIT_SIZE"), (4, u "LOG2_ARRAY_INT_INDEX_SCALE"), (54, u "JLA"), (0, u "Ljdk/internal/access/JavaLangAccess;"), (11, u "LOG2_ARRAY_BOOLEAN_INDEX_SCALE"), (9, u "LOG2_ARRAY_BYTE_INDEX_SCALE"), (5, u "LOG2_ARRAY_CHAR_INDEX_SCALE"), (5, u "LOG2_ARRAY_SHORT_INDEX_SCALE"), (18, u "LOG2_ARRAY_FLOAT_INDEX_SCALE"), (24, u "LOG2_ARRAY_DOUBLE_INDEX_SCALE"), (89, u "T_BOOLEAN"), (2, u "T_CHAR"), (1, u "T_FLOAT"), (1, u "T_DOUBLE"), (1, u "T_BYTE"), (1, u "T_SHORT"), (1, u "T_INT"), (1, u "T_LONG"), (1, u "SOFT_MAX_ARRAY_LENGTH")] 83

def k16m0 : Method := { name := "<init>", desc := "()V", sig := { parameters := [], returnType := none }, accessFlags := 2, code := none }
/-- jdk/internal/util/ArraysSupport -/
def k16 : Class := { plain "jdk/internal/util/ArraysSupport" (some 0) with
  accessFlags := 33
  interfaces := #[]
  cf := some (fileOf pool16 21 #[] #[{ accessFlags := 2, nameIndex := 9, descriptorIndex := 19, attributes := #[] }] 33 16 #[] #[{ accessFlags := 24, nameIndex := 28, descriptorIndex := 29, attributes := #[] }, { accessFlags := 26, nameIndex := 38, descriptorIndex := 39, attributes := #[] }, { accessFlags := 25, nameIndex := 121, descriptorIndex := 25, attributes := #[] }, { accessFlags := 25, nameIndex := 131, descriptorIndex := 25, attributes := #[] }, { accessFlags := 25, nameIndex := 137, descriptorIndex := 25, attributes := #[] }, { accessFlags := 25, nameIndex := 143, descriptorIndex := 25, attributes := #[] }, { accessFlags := 25, nameIndex := 53, descriptorIndex := 25, attributes := #[] }, { accessFlags := 25, nameIndex := 24, descriptorIndex := 25, attributes := #[] }, { accessFlags := 25, nameIndex := 162, descriptorIndex := 25, attributes := #[] }, { accessFlags := 25, nameIndex := 187, descriptorIndex := 25, attributes := #[] }, { accessFlags := 26, nameIndex := 48, descriptorIndex := 25, attributes := #[] }, { accessFlags := 25, nameIndex := 277, descriptorIndex := 25, attributes := #[] }, { accessFlags := 25, nameIndex := 280, descriptorIndex := 25, attributes := #[] }, { accessFlags := 25, nameIndex := 282, descriptorIndex := 25, attributes := #[] }, { accessFlags := 25, nameIndex := 284, descriptorIndex := 25, attributes := #[] }, { accessFlags := 25, nameIndex := 286, descriptorIndex := 25, attributes := #[] }, { accessFlags := 25, nameIndex := 288, descriptorIndex := 25, attributes := #[] }, { accessFlags := 25, nameIndex := 290, descriptorIndex := 25, attributes := #[] }, { accessFlags := 25, nameIndex := 292, descriptorIndex := 25, attributes := #[] }, { accessFlags := 26, nameIndex := 108, descriptorIndex := 109, attributes := #[] }, { accessFlags := 25, nameIndex := 294, descriptorIndex := 25, attributes := #[] }])
  fields := #[{ name := "U", type := (.object "jdk/internal/misc/Unsafe"), accessFlags := 24, slot := 0, constantValue := 0 }, { name := "BIG_ENDIAN", type := .boolean, accessFlags := 26, slot := 1, constantValue := 0 }, { name := "LOG2_ARRAY_BOOLEAN_INDEX_SCALE", type := .int, accessFlags := 25, slot := 2, constantValue := 0 }, { name := "LOG2_ARRAY_BYTE_INDEX_SCALE", type := .int, accessFlags := 25, slot := 3, constantValue := 0 }, { name := "LOG2_ARRAY_CHAR_INDEX_SCALE", type := .int, accessFlags := 25, slot := 4, constantValue := 0 }, { name := "LOG2_ARRAY_SHORT_INDEX_SCALE", type := .int, accessFlags := 25, slot := 5, constantValue := 0 }, { name := "LOG2_ARRAY_INT_INDEX_SCALE", type := .int, accessFlags := 25, slot := 6, constantValue := 0 }, { name := "LOG2_ARRAY_LONG_INDEX_SCALE", type := .int, accessFlags := 25, slot := 7, constantValue := 0 }, { name := "LOG2_ARRAY_FLOAT_INDEX_SCALE", type := .int, accessFlags := 25, slot := 8, constantValue := 0 }, { name := "LOG2_ARRAY_DOUBLE_INDEX_SCALE", type := .int, accessFlags := 25, slot := 9, constantValue := 0 }, { name := "LOG2_BYTE_BIT_SIZE", type := .int, accessFlags := 26, slot := 10, constantValue := 0 }, { name := "T_BOOLEAN", type := .int, accessFlags := 25, slot := 11, constantValue := 0 }, { name := "T_CHAR", type := .int, accessFlags := 25, slot := 12, constantValue := 0 }, { name := "T_FLOAT", type := .int, accessFlags := 25, slot := 13, constantValue := 0 }, { name := "T_DOUBLE", type := .int, accessFlags := 25, slot := 14, constantValue := 0 }, { name := "T_BYTE", type := .int, accessFlags := 25, slot := 15, constantValue := 0 }, { name := "T_SHORT", type := .int, accessFlags := 25, slot := 16, constantValue := 0 }, { name := "T_INT", type := .int, accessFlags := 25, slot := 17, constantValue := 0 }, { name := "T_LONG", type := .int, accessFlags := 25, slot := 18, constantValue := 0 }, { name := "JLA", type := (.object "jdk/internal/access/JavaLangAccess"), accessFlags := 26, slot := 19, constantValue := 0 }, { name := "SOFT_MAX_ARRAY_LENGTH", type := .int, accessFlags := 25, slot := 20, constantValue := 0 }]
  methods := #[k16m0]
  instanceTypes := #[]
  staticTypes := #[(.object "jdk/internal/misc/Unsafe"), .boolean, .int, .int, .int, .int, .int, .int, .int, .int, .int, .int, .int, .int, .int, .int, .int, .int, .int, (.object "jdk/internal/access/JavaLangAccess"), .int]
  resolved := Array.replicate 378 none
  statics := none }

def pool17 : Array CpInfo := pool [(1, u "java/lang/Cloneable"), (0, .class_ 1), (0, u "java/lang/Object"), (0, .class_ 3)] 3

/-- java/lang/Cloneable -/
def k17 : Class := { plain "java/lang/Cloneable" (some 0) with
  accessFlags := 1537
  interfaces := #[]
  cf := some (fileOf pool17 2 #[] #[] 1537 4 #[] #[])
  fields := #[]
  methods := #[]
  instanceTypes := #[]
  staticTypes := #[]
  resolved := Array.replicate 8 none
  statics := none }

/-- the primitive byte -/
def k18 : Class := { plain "byte" none with kind := .primitive 'B', accessFlags := 0x411 }
/-- [B -/
def k19 : Class := { plain "[B" (some 0) with kind := .array 18 .byte, interfaces := #[17, 2], accessFlags := 1041 }

/-- the primitive int -/
def k20 : Class := { plain "int" none with kind := .primitive 'I', accessFlags := 0x411 }
/-- [I -/
def k21 : Class := { plain "[I" (some 0) with kind := .array 20 .int, interfaces := #[17, 2], accessFlags := 1041 }

def heap : Heap := #[{ cls := 7, slots := #[.long 0, .int 1, .null, .int 0, .null, .int 0, .int 0], vm := .statics 7 },
  { cls := 10, slots := #[.ref 4, .ref 3, .ref 6, .ref 5, .null, .null, .null, .int 0, .int 0, .null], vm := .statics 10 },
  { cls := 15, slots := #[.null, .null, .null], vm := .statics 15 },
  { cls := 10, slots := #[.null, .int 1, .int 0], vm := .none },
  { cls := 10, slots := #[.null, .int 0, .int 0], vm := .none },
  { cls := 10, slots := #[.null, .int 3, .int 0], vm := .none },
  { cls := 10, slots := #[.null, .int 2, .int 0], vm := .none }]
def classes : Array Class := #[k0, k1, k2, k3, k4, k5, k6, k7, k8, k9, k10, k11, k12, k13, k14, k15, k16, k17, k18, k19, k20, k21]
def interned : List (Array UInt16 × Addr) := []
def slotsUsed : Nat := 32
def theMethod : MethodId := ⟨1, 2⟩
def args0 : Array Value := #[.int 5, .int 6, .int 7, .int 8, .int 9, .int 10]
def aboutOver (below : List Frame) : State where
  vm := { classes := classes, interned := interned.toArray }
  heap := heap
  slotsUsed := slotsUsed
  threads := #[{ frames := .invoking theMethod args0 :: below }]
def below0 : List Frame := [.native { method := ⟨0, 0⟩, args := #[] }]
def about1 : State := aboutOver below0
def p0 : Program := .bare "" "" ""
def e0 : Env := launch0.env 0 0 0
theorem w_frames : about1.frames = Frame.invoking theMethod args0 :: below0 := rfl
set_option maxRecDepth 65536 in
theorem w_args : argsFit about1.vm theMethod args0 = true := by decide +kernel
set_option maxRecDepth 65536 in
theorem w_heap : heapFits about1 = true := by decide +kernel
set_option maxRecDepth 65536 in
theorem w_runnable : about1.curStatus? = some .runnable := by decide +kernel
set_option maxRecDepth 65536 in
theorem w_alone : about1.alone = true := by decide +kernel
set_option maxRecDepth 65536 in
theorem w_named : about1.methodNamed? x = some theMethod := by decide +kernel
set_option maxRecDepth 65536 in
theorem w_hears : about1.hears theMethod below0 = true := by decide +kernel
set_option maxRecDepth 65536 in
theorem w_ripe : about1.ripe theMethod args0 below0 = true := by decide +kernel
theorem w_running : about1.status = .running := rfl
set_option maxRecDepth 65536 in
theorem w_room : about1.hasRoom e0.platform room_1 = true :=
  launch0.hasRoom_least _ room_1 (by decide +kernel) (by decide +kernel) (by decide +kernel) (by decide +kernel) (by decide +kernel) (by decide +kernel)
theorem allAtoms_all (ts : List Jvm.Cond) (a : Array Jvm.Value) (st : Jvm.State) : (allAtoms ts).before a st = ts.all (fun c => c.before a st) := by
  induction ts with
  | nil => rfl
  | cons c t ih =>
    show (Jvm.Cond.and c (allAtoms t)).before a st = _
    rw [Jvm.Cond.before_and, ih, List.all_cons]
def words1 : List Jvm.Cond := Jvm.Cond.code x code maxLocals ret :: tables_1
/-- a 'code' word, met by the world's own term for the bytes: nothing is compared byte by byte -/
theorem code_word {y : MethodName} {bytes : ByteArray} {mx : Nat} {rt : Option FieldType} {a : Array Value} {s : State} {m : MethodId} {meth : Method} {c : Code} (h1 : s.methodNamed? y = some m) (h2 : s.vm.method? m = some meth) (h3 : meth.code = some c) (h4 : c.code = bytes)
    (h5 : (c.maxLocals == mx && c.exceptionTable.isEmpty && decide (c.maxStack ≤ mostOperands) && decide (meth.sig.returnType = rt) && !meth.locks && decide (parseMethodDescriptor y.desc = some meth.sig)) = true) : (Jvm.Cond.code y bytes mx rt).before a s = true := by
  simp only [Bool.and_eq_true, beq_iff_eq, Bool.not_eq_true', decide_eq_true_eq] at h5
  obtain ⟨⟨⟨⟨⟨g1, g2⟩, g3⟩, g4⟩, g5⟩, g6⟩ := h5
  simp [Cond.before, Cond.holds, Cond.value, h1, h2, h3, h4, g1, g2, g3, g4, g5, g6]
def isCode : Jvm.Cond → Bool
  | .code _ _ _ _ => true
  | _ => false
theorem all_split {L : List Jvm.Cond} {P : Jvm.Cond → Bool} (h1 : L.all (fun c => isCode c || P c) = true) (h2 : ∀ c ∈ L.filter isCode, P c = true) : L.all P = true := by
  refine List.all_eq_true.mpr fun c hc => ?_
  have h := List.all_eq_true.mp h1 c hc
  rcases Bool.eq_false_or_eq_true (isCode c) with hi | hi
  · exact h2 c (List.mem_filter.mpr ⟨hc, hi⟩)
  · simpa [hi] using h
set_option maxRecDepth 65536 in
theorem w_c0 : (Jvm.Cond.code x code maxLocals ret).before args0 about1 = true := code_word (m := ⟨1, 2⟩) (meth := k1m2) (c := k1c2) (by decide +kernel) rfl rfl rfl (by decide +kernel)
set_option maxRecDepth 65536 in
theorem w_c1 : (Jvm.Cond.code ({ cls := "java/lang/String", name := "valueOf", desc := "(C)Ljava/lang/String;" } : Jvm.MethodName) jdk_42_method_139_code (1 : Nat) (Option.some (Jvm.ClassFile.FieldType.object "java/lang/String"))).before args0 about1 = true := code_word (m := ⟨7, 2⟩) (meth := k7m2) (c := k7c2) (by decide +kernel) rfl rfl rfl (by decide +kernel)
set_option maxRecDepth 65536 in
theorem w_c2 : (Jvm.Cond.code ({ cls := "java/lang/StringLatin1", name := "canEncode", desc := "(C)Z" } : Jvm.MethodName) jdk_43_method_3_code (1 : Nat) (Option.some Jvm.ClassFile.FieldType.boolean)).before args0 about1 = true := code_word (m := ⟨8, 1⟩) (meth := k8m1) (c := k8c1) (by decide +kernel) rfl rfl rfl (by decide +kernel)
set_option maxRecDepth 65536 in
theorem w_c3 : (Jvm.Cond.code ({ cls := "java/lang/StringLatin1", name := "toBytes", desc := "(C)[B" } : Jvm.MethodName) jdk_43_method_46_code (1 : Nat) (Option.some (Jvm.ClassFile.FieldType.array Jvm.ClassFile.FieldType.byte))).before args0 about1 = true := code_word (m := ⟨8, 3⟩) (meth := k8m3) (c := k8c3) (by decide +kernel) rfl rfl rfl (by decide +kernel)
set_option maxRecDepth 65536 in
theorem w_c4 : (Jvm.Cond.code ({ cls := "java/lang/String", name := "<init>", desc := "([BB)V" } : Jvm.MethodName) jdk_42_method_151_code (3 : Nat) (Option.none : Option Jvm.ClassFile.FieldType)).before args0 about1 = true := code_word (m := ⟨7, 3⟩) (meth := k7m3) (c := k7c3) (by decide +kernel) rfl rfl rfl (by decide +kernel)
set_option maxRecDepth 65536 in
theorem w_c5 : (Jvm.Cond.code ({ cls := "java/lang/Object", name := "<init>", desc := "()V" } : Jvm.MethodName) object_method_1_code (1 : Nat) (Option.none : Option Jvm.ClassFile.FieldType)).before args0 about1 = true := code_word (m := ⟨0, 0⟩) (meth := k0m0) (c := k0c0) (by decide +kernel) rfl rfl rfl (by decide +kernel)
set_option maxRecDepth 65536 in
theorem w_c6 : (Jvm.Cond.code ({ cls := "com/example/archipel/archipel/model/AttributeChangeAddedPinLaw", name := "type", desc := "(I)Lcom/example/archipel/archipel/model/DataType;" } : Jvm.MethodName) method_2_code (2 : Nat) (Option.some (Jvm.ClassFile.FieldType.object "com/example/archipel/archipel/model/DataType"))).before args0 about1 = true := code_word (m := ⟨1, 1⟩) (meth := k1m1) (c := k1c1) (by decide +kernel) rfl rfl rfl (by decide +kernel)
set_option maxRecDepth 65536 in
theorem w_c7 : (Jvm.Cond.code ({ cls := "java/lang/String", name := "equals", desc := "(Ljava/lang/Object;)Z" } : Jvm.MethodName) jdk_42_method_66_code (3 : Nat) (Option.some Jvm.ClassFile.FieldType.boolean)).before args0 about1 = true := code_word (m := ⟨7, 1⟩) (meth := k7m1) (c := k7c1) (by decide +kernel) rfl rfl rfl (by decide +kernel)
set_option maxRecDepth 65536 in
theorem w_c8 : (Jvm.Cond.code ({ cls := "java/lang/StringLatin1", name := "equals", desc := "([B[B)Z" } : Jvm.MethodName) jdk_43_method_13_code (3 : Nat) (Option.some Jvm.ClassFile.FieldType.boolean)).before args0 about1 = true := code_word (m := ⟨8, 2⟩) (meth := k8m2) (c := k8c2) (by decide +kernel) rfl rfl rfl (by decide +kernel)
set_option maxRecDepth 65536 in
theorem w_c9 : (Jvm.Cond.code ({ cls := "com/example/archipel/archipel/model/Attribute", name := "<init>", desc := "(Ljava/lang/String;Lcom/example/archipel/archipel/model/DataType;ZLjava/lang/String;)V" } : Jvm.MethodName) prog_29_method_1_code (5 : Nat) (Option.none : Option Jvm.ClassFile.FieldType)).before args0 about1 = true := code_word (m := ⟨12, 0⟩) (meth := k12m0) (c := k12c0) (by decide +kernel) rfl rfl rfl (by decide +kernel)
set_option maxRecDepth 65536 in
theorem w_c10 : (Jvm.Cond.code ({ cls := "java/lang/Record", name := "<init>", desc := "()V" } : Jvm.MethodName) jdk_30_method_1_code (1 : Nat) (Option.none : Option Jvm.ClassFile.FieldType)).before args0 about1 = true := code_word (m := ⟨11, 0⟩) (meth := k11m0) (c := k11c0) (by decide +kernel) rfl rfl rfl (by decide +kernel)
set_option maxRecDepth 65536 in
theorem w_c11 : (Jvm.Cond.code ({ cls := "com/example/archipel/archipel/model/AttributeChange", name := "<init>", desc := "(Lcom/example/archipel/archipel/model/Entity;Lcom/example/archipel/archipel/model/Entity;Lcom/example/archipel/archipel/model/Attribute;Lcom/example/archipel/archipel/model/Attribute;)V" } : Jvm.MethodName) prog_30_method_1_code (5 : Nat) (Option.none : Option Jvm.ClassFile.FieldType)).before args0 about1 = true := code_word (m := ⟨14, 0⟩) (meth := k14m0) (c := k14c0) (by decide +kernel) rfl rfl rfl (by decide +kernel)
set_option maxRecDepth 65536 in
theorem w_c12 : (Jvm.Cond.code ({ cls := "com/example/archipel/archipel/model/AttributeChange", name := "added", desc := "()Z" } : Jvm.MethodName) prog_30_method_2_code (1 : Nat) (Option.some Jvm.ClassFile.FieldType.boolean)).before args0 about1 = true := code_word (m := ⟨14, 1⟩) (meth := k14m1) (c := k14c1) (by decide +kernel) rfl rfl rfl (by decide +kernel)
set_option maxRecDepth 65536 in
theorem w_c13 : (Jvm.Cond.code ({ cls := "com/example/archipel/archipel/model/Attribute", name := "name", desc := "()Ljava/lang/String;" } : Jvm.MethodName) prog_29_method_5_code (1 : Nat) (Option.some (Jvm.ClassFile.FieldType.object "java/lang/String"))).before args0 about1 = true := code_word (m := ⟨12, 1⟩) (meth := k12m1) (c := k12c1) (by decide +kernel) rfl rfl rfl (by decide +kernel)
set_option maxRecDepth 65536 in
theorem w_c14 : (Jvm.Cond.code ({ cls := "com/example/archipel/archipel/model/Attribute", name := "type", desc := "()Lcom/example/archipel/archipel/model/DataType;" } : Jvm.MethodName) prog_29_method_6_code (1 : Nat) (Option.some (Jvm.ClassFile.FieldType.object "com/example/archipel/archipel/model/DataType"))).before args0 about1 = true := code_word (m := ⟨12, 2⟩) (meth := k12m2) (c := k12c2) (by decide +kernel) rfl rfl rfl (by decide +kernel)
def codes1 : List Jvm.Cond := [Jvm.Cond.code x code maxLocals ret, Jvm.Cond.code ({ cls := "java/lang/String", name := "valueOf", desc := "(C)Ljava/lang/String;" } : Jvm.MethodName) jdk_42_method_139_code (1 : Nat) (Option.some (Jvm.ClassFile.FieldType.object "java/lang/String")), Jvm.Cond.code ({ cls := "java/lang/StringLatin1", name := "canEncode", desc := "(C)Z" } : Jvm.MethodName) jdk_43_method_3_code (1 : Nat) (Option.some Jvm.ClassFile.FieldType.boolean), Jvm.Cond.code ({ cls := "java/lang/StringLatin1", name := "toBytes", desc := "(C)[B" } : Jvm.MethodName) jdk_43_method_46_code (1 : Nat) (Option.some (Jvm.ClassFile.FieldType.array Jvm.ClassFile.FieldType.byte)), Jvm.Cond.code ({ cls := "java/lang/String", name := "<init>", desc := "([BB)V" } : Jvm.MethodName) jdk_42_method_151_code (3 : Nat) (Option.none : Option Jvm.ClassFile.FieldType), Jvm.Cond.code ({ cls := "java/lang/Object", name := "<init>", desc := "()V" } : Jvm.MethodName) object_method_1_code (1 : Nat) (Option.none : Option Jvm.ClassFile.FieldType), Jvm.Cond.code ({ cls := "com/example/archipel/archipel/model/AttributeChangeAddedPinLaw", name := "type", desc := "(I)Lcom/example/archipel/archipel/model/DataType;" } : Jvm.MethodName) method_2_code (2 : Nat) (Option.some (Jvm.ClassFile.FieldType.object "com/example/archipel/archipel/model/DataType")), Jvm.Cond.code ({ cls := "java/lang/String", name := "equals", desc := "(Ljava/lang/Object;)Z" } : Jvm.MethodName) jdk_42_method_66_code (3 : Nat) (Option.some Jvm.ClassFile.FieldType.boolean), Jvm.Cond.code ({ cls := "java/lang/StringLatin1", name := "equals", desc := "([B[B)Z" } : Jvm.MethodName) jdk_43_method_13_code (3 : Nat) (Option.some Jvm.ClassFile.FieldType.boolean), Jvm.Cond.code ({ cls := "com/example/archipel/archipel/model/Attribute", name := "<init>", desc := "(Ljava/lang/String;Lcom/example/archipel/archipel/model/DataType;ZLjava/lang/String;)V" } : Jvm.MethodName) prog_29_method_1_code (5 : Nat) (Option.none : Option Jvm.ClassFile.FieldType), Jvm.Cond.code ({ cls := "java/lang/Record", name := "<init>", desc := "()V" } : Jvm.MethodName) jdk_30_method_1_code (1 : Nat) (Option.none : Option Jvm.ClassFile.FieldType), Jvm.Cond.code ({ cls := "com/example/archipel/archipel/model/AttributeChange", name := "<init>", desc := "(Lcom/example/archipel/archipel/model/Entity;Lcom/example/archipel/archipel/model/Entity;Lcom/example/archipel/archipel/model/Attribute;Lcom/example/archipel/archipel/model/Attribute;)V" } : Jvm.MethodName) prog_30_method_1_code (5 : Nat) (Option.none : Option Jvm.ClassFile.FieldType), Jvm.Cond.code ({ cls := "com/example/archipel/archipel/model/AttributeChange", name := "added", desc := "()Z" } : Jvm.MethodName) prog_30_method_2_code (1 : Nat) (Option.some Jvm.ClassFile.FieldType.boolean), Jvm.Cond.code ({ cls := "com/example/archipel/archipel/model/Attribute", name := "name", desc := "()Ljava/lang/String;" } : Jvm.MethodName) prog_29_method_5_code (1 : Nat) (Option.some (Jvm.ClassFile.FieldType.object "java/lang/String")), Jvm.Cond.code ({ cls := "com/example/archipel/archipel/model/Attribute", name := "type", desc := "()Lcom/example/archipel/archipel/model/DataType;" } : Jvm.MethodName) prog_29_method_6_code (1 : Nat) (Option.some (Jvm.ClassFile.FieldType.object "com/example/archipel/archipel/model/DataType"))]
set_option maxRecDepth 65536 in
theorem codes_eq : words1.filter isCode = codes1 := rfl
theorem w_codes : ∀ c ∈ words1.filter isCode, c.before args0 about1 = true := by
  rw [codes_eq]
  intro c hc
  simp only [codes1, List.mem_cons, List.not_mem_nil, or_false] at hc
  rcases hc with rfl | rfl | rfl | rfl | rfl | rfl | rfl | rfl | rfl | rfl | rfl | rfl | rfl | rfl | rfl
  · exact w_c0
  · exact w_c1
  · exact w_c2
  · exact w_c3
  · exact w_c4
  · exact w_c5
  · exact w_c6
  · exact w_c7
  · exact w_c8
  · exact w_c9
  · exact w_c10
  · exact w_c11
  · exact w_c12
  · exact w_c13
  · exact w_c14
set_option maxRecDepth 65536 in
theorem w_t1 : (words1.take 24).all (fun c => isCode c || c.before args0 about1) = true := by decide +kernel
set_option maxRecDepth 65536 in
theorem w_t2 : ((words1.drop 24).take 24).all (fun c => isCode c || c.before args0 about1) = true := by decide +kernel
set_option maxRecDepth 65536 in
theorem w_t3 : (((words1.drop 24).drop 24).take 24).all (fun c => isCode c || c.before args0 about1) = true := by decide +kernel
set_option maxRecDepth 65536 in
theorem w_t4 : ((((words1.drop 24).drop 24).drop 24).take 24).all (fun c => isCode c || c.before args0 about1) = true := by decide +kernel
set_option maxRecDepth 65536 in
theorem w_t5 : ((((words1.drop 24).drop 24).drop 24).drop 24).all (fun c => isCode c || c.before args0 about1) = true := by decide +kernel
theorem w_tables : (allAtoms (Jvm.Cond.code x code maxLocals ret :: tables_1)).before args0 about1 = true := by
  rw [allAtoms_all]
  show words1.all (fun c => c.before args0 about1) = true
  refine all_split ?_ w_codes
  rw [← List.take_append_drop 24 words1, List.all_append, w_t1, ← List.take_append_drop 24 (words1.drop 24), List.all_append, w_t2, ← List.take_append_drop 24 ((words1.drop 24).drop 24), List.all_append, w_t3, ← List.take_append_drop 24 (((words1.drop 24).drop 24).drop 24), List.all_append, w_t4, w_t5]
  rfl
set_option maxRecDepth 65536 in
theorem w_rest : rest_1_c.before args0 about1 = true := by decide +kernel
set_option maxRecDepth 65536 in
theorem w_case : (Jvm.Cond.and given_1 narrow_1).before args0 about1 = true := by decide +kernel
theorem w_applies : (headSpec (Jvm.Cond.code x code maxLocals ret :: tables_1) room_1).applies x e0.platform about1 = true :=
  (Spec.applies_iff w_frames).mpr ⟨w_running, w_runnable, w_alone, w_named, w_hears, w_ripe, w_room, w_tables⟩
theorem atStart : AtStart classFile x code maxLocals ret World_1 tables_1 room_1 Calls_1 rest_1 Pre_1 launch0 p0 e0 about1 theMethod args0 below0 :=
  ⟨lists_1, trivial, launch0.admits_env _ _ _, launch0.least_env, fairChoices_fair.cas, fairChoices_fair.clock, w_frames, w_args, w_heap, w_applies, trivial, w_rest, w_case⟩
end start1
theorem witness_1 : WitnessClaimed_1 := ⟨start1.p0, start1.e0, start1.about1, start1.theMethod, start1.args0, start1.below0, start1.atStart⟩
end Jvm.Pilot.@@N@@
