import JvmDerived
import JvmDerived.Pilot.@@N@@Statement
import JvmDerived.Pilot.@@N@@Code
set_option linter.unusedVariables false
set_option linter.unusedSimpArgs false
namespace Jvm.Pilot.@@N@@
open Jvm Jvm.ClassFile Sem Op Lib Jvm.Free Jvm.Stand Jvm.LawKit Jvm.RoadKit Bundle Jvm.Pilot.@@N@@.Jvm.D
section OwnKit
variable {p : Program} {l : Launch} {e : Env} {R : Room} {s : State} {m : MethodId} {args : Array Value} {below : List Frame} {meth : Method} {c : Code} {T : State} {locs : List Loc} {cells slots : Nat}
theorem retI (X : Stand p l e R s m args below meth c T locs cells slots) (hx : p.tables.exec = Jvm.exec) {pc : Nat} {Ls : Array Slot} {z : Int32} {rest : List Value} (hret : meth.sig.returnType = some .int) (hd : decode c.code pc = .ok (.ireturn, 1)) {fs : List Frame}
    (hl : ∀ (f : JFrame) (acts : List Action), f.method = m → f.locked = none → f.entered = [] → (doReturn e (T.setTop f) acts (some (.int z))).1 = T.setFrames fs) : Steps p.tables e below (T.setTop (mkF m pc Ls (.int z :: rest))) (T.setFrames fs) :=
  retOut X hx hret rfl (Or.inl ⟨rfl, Or.inl rfl, z, rfl⟩) hd hl
theorem oretJ (X : Stand p l e R s m args below meth c T locs cells slots) (hx : p.tables.exec = Jvm.exec) {pc : Nat} {Ls : Array Slot} {z : Int64} {rest : List Value} (hret : meth.sig.returnType = some .long) (hd : decode c.code pc = .ok (.lreturn, 1)) {fs : List Frame}
    (hl : ∀ (f : JFrame) (acts : List Action), f.method = m → f.locked = none → f.entered = [] → (doReturn e (T.setTop f) acts (some (.long z))).1 = T.setFrames fs) : Steps p.tables e below (T.setTop (mkF m pc Ls (.long z :: rest))) (T.setFrames fs) :=
  retOut X hx hret rfl (Or.inr (Or.inl ⟨rfl, rfl, z, rfl⟩)) hd hl
theorem oretA (X : Stand p l e R s m args below meth c T locs cells slots) (hx : p.tables.exec = Jvm.exec) {pc : Nat} {Ls : Array Slot} {w : Value} {t : FieldType} {rest : List Value} (hret : meth.sig.returnType = some t) (ht : t.isReference = true) (hw : w.isRef = true) (hd : decode c.code pc = .ok (.areturn, 1)) {fs : List Frame}
    (hl : ∀ (f : JFrame) (acts : List Action), f.method = m → f.locked = none → f.entered = [] → (doReturn e (T.setTop f) acts (some w)).1 = T.setFrames fs) : Steps p.tables e below (T.setTop (mkF m pc Ls (w :: rest))) (T.setFrames fs) :=
  retOut X hx hret (by rcases ref_cases hw with rfl | ⟨a, rfl⟩ <;> cases t <;> rfl) (Or.inr (Or.inr (Or.inr (Or.inr ⟨rfl, ht, hw⟩)))) hd hl
end OwnKit
/-- the run that stands at A comes to an end of which P holds -/
def OGot (tb : Tables) (e : Env) (below : List Frame) (A : State) (P : State → Outcome → Prop) : Prop := ∃ U o, Steps tb e below A U ∧ P U o
theorem OGot.go {tb : Tables} {e : Env} {below : List Frame} {A B : State} {P : State → Outcome → Prop} (st : ∀ t, Steps tb e below B t → Steps tb e below A t) (h : OGot tb e below B P) : OGot tb e below A P := by
  obtain ⟨U, o, h1, h2⟩ := h
  exact ⟨U, o, st U h1, h2⟩
theorem OGot.on {tb : Tables} {e : Env} {below : List Frame} {A B : State} {P : State → Outcome → Prop} (st : Steps tb e below A B) (h : OGot tb e below B P) : OGot tb e below A P := by
  obtain ⟨U, o, h1, h2⟩ := h
  exact ⟨U, o, st.trans h1, h2⟩
section OwnFacts
variable {Z : State} {h h' h0 : Heap} {a b : Addr} {C n d : String} {v : Value} {sl : Nat} {n0 : Nat} {ws ws' : List (Addr × Nat)} {k : ClassId} {ty : FieldType} {z : Int32} {vs : List Value} {dv : Value}
theorem osz (X : Old Z n0 h) : n0 ≤ h.size := X.1 ▸ X.2.1
theorem oheap {U : State} {P : Heap → Prop} (q : U.heap = h) (x : P h) : P U.heap := q ▸ x
/-- what stood in h0 stands in h, but for the places at ws -/
def OKeep (h0 h : Heap) (ws : List (Addr × Nat)) : Prop := h0.size ≤ h.size ∧ ∀ (x : Addr) (c : Cell), h0[x]? = some c → ∃ c' : Cell, h[x]? = some c' ∧ c'.cls = c.cls ∧ c'.vm = c.vm ∧ c'.slots.size = c.slots.size ∧ (∀ i, (x, i) ∉ ws → c'.slots[i]? = c.slots[i]?) ∧ ((∀ i, (x, i) ∉ ws) → c' = c)
theorem OKeep.refl (h : Heap) (ws : List (Addr × Nat)) : OKeep h h ws := ⟨Nat.le_refl _, fun _ c q => ⟨c, q, rfl, rfl, rfl, fun _ _ => rfl, fun _ => rfl⟩⟩
theorem OKeep.ext (K : OKeep h0 h ws) (E : Ext h h') : OKeep h0 h' ws := ⟨Nat.le_trans K.1 E.1, fun x c q => by
  obtain ⟨c', q', r⟩ := K.2 x c q
  exact ⟨c', E.2 x c' q', r⟩⟩
theorem OKeep.trans (K : OKeep h0 h ws) (K' : OKeep h h' ws') (q : ∀ x ∈ ws', x ∈ ws ∨ h0.size ≤ x.1) : OKeep h0 h' ws := by
  refine ⟨Nat.le_trans K.1 K'.1, fun x c hx => ?_⟩
  have lt : x < h0.size := (Array.getElem?_eq_some_iff.mp hx).1
  have out : ∀ i, (x, i) ∉ ws → (x, i) ∉ ws' := fun i r z => (q _ z).elim r fun y => Nat.not_lt.mpr y lt
  obtain ⟨c1, q1, r1, r2, r3, r4, r5⟩ := K.2 x c hx
  obtain ⟨c2, q2, t1, t2, t3, t4, t5⟩ := K'.2 x c1 q1
  exact ⟨c2, q2, t1.trans r1, t2.trans r2, t3.trans r3, fun i r => (t4 i (out i r)).trans (r4 i r), fun r => (t5 fun i => out i (r i)).trans (r5 r)⟩
theorem OKeep.of_wr (W : Wr h h' a sl v) : OKeep h h' [(a, sl)] := by
  refine ⟨Nat.le_of_eq W.size.symm, fun x c q => ?_⟩
  obtain ⟨c', e1, e2, e3, e4, e5, e6, -⟩ := wr_at W q
  refine ⟨c', e1, e2, e3, e4, fun i r => ?_, fun r => e5 fun z => r sl (by simp [z])⟩
  by_cases z : x = a
  · subst z
    exact e6 i fun y => r (by simp [y])
  · rw [e5 z]
theorem OKeep.wr (K : OKeep h0 h ws) (W : Wr h h' a sl v) (q : (a, sl) ∈ ws ∨ h0.size ≤ a) : OKeep h0 h' ws := K.trans (OKeep.of_wr W) fun x hx => by cases List.mem_singleton.mp hx; exact q
theorem oslot {x : ClassId × Class × Nat × Field} (h2 : Z.fieldFound? C n d = some x) : Jvm.RoadKit.slotOf Z C n d = x.2.2.2.slot := by
  show ((Z.fieldFound? C n d).map (·.2.2.2.slot)).getD 0 = _
  rw [h2]; rfl
theorem OKeep.fld (F : Fld Z h a C n d v) (K : OKeep h h' ws) (q : (a, Jvm.RoadKit.slotOf Z C n d) ∉ ws) : Fld Z h' a C n d v := by
  obtain ⟨cell, cf, k, i, f, h1, h2, h3, h4, h5, h6, h7⟩ := F
  obtain ⟨c', r, r1, r2, -, r4, -⟩ := K.2 a cell h1
  exact ⟨c', cf, k, i, f, r, h2, h3, by rw [r2]; exact h4, by rw [r2]; exact h5, by rw [r1]; exact h6, by rw [r4 f.slot (fun y => q (by rw [oslot h2]; exact y))]; exact h7⟩
theorem OKeep.exa (F : Exa Z h a C) (K : OKeep h h' ws) : Exa Z h' a C := by
  obtain ⟨cell, k, h1, h2, h3, h4, h5⟩ := F
  obtain ⟨c', q, r1, r2, r3, -, -⟩ := K.2 a cell h1
  exact ⟨c', k, q, r1 ▸ h2, r1 ▸ h3, r2 ▸ h4, r3 ▸ h5⟩
theorem OKeep.arv (F : Arv Z h a k ty z vs dv) (K : OKeep h h' ws) (q : ∀ x ∈ ws, a ≠ x.1) : Arv Z h' a k ty z vs dv := by
  obtain ⟨c, A, r⟩ := F
  obtain ⟨c', e1, -, -, -, -, e5⟩ := K.2 a c A.1
  cases e5 fun i y => q _ y rfl
  exact ⟨c, ⟨e1, A.2⟩, r⟩
theorem OKeep.old (X : Old Z n0 h) (K : OKeep h h' ws) (q : ∀ x ∈ ws, n0 ≤ x.1) : Old Z n0 h' := ⟨X.1, Nat.le_trans X.2.1 K.1, fun x c r => by
  obtain ⟨c', e1, -, -, -, -, e5⟩ := K.2 x c (X.2.2 x c r)
  cases e5 fun i y => absurd (X.1 ▸ (Array.getElem?_eq_some_iff.mp r).1) (Nat.not_lt.mpr (q _ y))
  exact e1⟩
theorem onin0 {x : Addr × Nat} : x ∉ ([] : List (Addr × Nat)) := fun q => nomatch q
theorem oninA {t : Nat} {L : List (Addr × Nat)} (q : a ≠ b) (r : (a, sl) ∉ L) : (a, sl) ∉ (b, t) :: L := fun y => (List.mem_cons.mp y).elim (fun u => q (congrArg Prod.fst u)) r
theorem oninS {t : Nat} {L : List (Addr × Nat)} (q : sl ≠ t) (r : (a, sl) ∉ L) : (a, sl) ∉ (b, t) :: L := fun y => (List.mem_cons.mp y).elim (fun u => q (congrArg Prod.snd u)) r
theorem oall0 : ∀ x ∈ ([] : List (Addr × Nat)), a ≠ x.1 := fun _ q => nomatch q
theorem oallS {t : Nat} {L : List (Addr × Nat)} (q : a ≠ b) (r : ∀ x ∈ L, a ≠ x.1) : ∀ x ∈ (b, t) :: L, a ≠ x.1 := fun x y => (List.mem_cons.mp y).elim (fun u => by subst u; exact q) (r x)
theorem oge0 : ∀ x ∈ ([] : List (Addr × Nat)), n0 ≤ x.1 := fun _ q => nomatch q
theorem ogeS {t : Nat} {L : List (Addr × Nat)} (q : n0 ≤ b) (r : ∀ x ∈ L, n0 ≤ x.1) : ∀ x ∈ (b, t) :: L, n0 ≤ x.1 := fun x y => (List.mem_cons.mp y).elim (fun u => by subst u; exact q) (r x)
theorem oin0 {P : Addr × Nat → Prop} : ∀ x ∈ ([] : List (Addr × Nat)), P x := fun _ q => nomatch q
theorem oinS {P : Addr × Nat → Prop} {y : Addr × Nat} {L : List (Addr × Nat)} (q : P y) (r : ∀ x ∈ L, P x) : ∀ x ∈ y :: L, P x := fun x u => (List.mem_cons.mp u).elim (fun w => w ▸ q) (r x)
theorem oeq_int {args : Array Value} {first s : State} {o : Option Outcome} {idx : List Nat} {t : Term} {w : Int32} (q : (Jvm.Cond.eq t (.int w)).value args first o s idx = some true) : t.eval args first o idx s = some (.int w) := by
  simp only [Jvm.Cond.value, Term.eval] at q
  cases ht : t.eval args first o idx s with
  | none => simp [ht] at q
  | some x => cases x <;> simp [ht] at q ⊢; exact q
theorem oeq_ref {args : Array Value} {first s : State} {o : Option Outcome} {idx : List Nat} {t u : Term} {w : Addr} (q : (Jvm.Cond.eq t u).value args first o s idx = some true) (r : u.eval args first o idx s = some (.ref w)) : t.eval args first o idx s = some (.ref w) := by
  obtain ⟨x, y, e1, e2, k1, k2⟩ := cmp_v (Or.inl q)
  cases r.symm.trans e2
  rcases ref_cases k2.2 with rfl | ⟨z, rfl⟩
  · have := eq_R e1 e2 rfl rfl
    rw [q] at this
    simp at this
  · have := gotT (eq_R e1 e2 rfl rfl) q
    rw [e1, this]
theorem one_int {args : Array Value} {first s : State} {o : Option Outcome} {idx : List Nat} {t : Term} {w : Int32} (r : t.eval args first o idx s = some (.int w)) (q : (Jvm.Cond.not (.eq t (.int 0))).value args first o s idx = some true) : ¬ (w = (0 : Int32)) := by
  have := not_v q
  exact gotF (Cond.eq_ints r rfl) this
theorem olen {args : Array Value} {first s : State} {o : Option Outcome} {idx : List Nat} {t : Term} {cl : Cell} {w : Int32} (q : (Term.length t).eval args first o idx s = some (.int w)) (ht : t.eval args first o idx s = some (.ref a)) (ha : s.arrayAt? a = some cl) : cl.slots.size < 2 ^ 31 ∧ cl.slots.size.toInt32 = w := by
  simp only [Term.eval, ht, ha, Option.bind_eq_bind, Option.bind_some] at q
  by_cases y : cl.slots.size < 2 ^ 31
  · exact ⟨y, by simpa [y] using q⟩
  · simp [y] at q
theorem osub128 {args : Array Value} {j : Int32} (hj : ¬ j < 0) : (Term.sub (.index 0) (.int 128)).eval args Z none [j.toNatClampNeg] Z = some (.int (j - 128)) := by
  have e := idx_at (args := args) (first := Z) (s := Z) (o := none) hj
  simp only [Term.eval] at e ⊢
  simp [e]
  exact (back32 hj).1
def obox (c : Cell) (j : Int32) : Addr := match c.slots[j.toNatClampNeg]? with
  | some (.ref b) => b
  | _ => 0
theorem obox_at {cl : Cell} {K dd : String} {w : Int32} {val : Int32 → Value} (B : Bxs Z a cl K dd w val) {j : Int32} (hj : ¬ (j < 0 ∨ cl.slots.size ≤ j.toNatClampNeg)) : cl.slots[j.toNatClampNeg]? = some (.ref (obox cl j)) ∧ Exa Z Z.heap (obox cl j) K ∧ Fld Z Z.heap (obox cl j) K "value" dd (val j) := by
  obtain ⟨b, h1, h2, h3⟩ := B.2.2.2 j hj
  have e : obox cl j = b := by unfold obox; rw [h1]
  rw [e]; exact ⟨h1, h2, h3⟩
theorem oNS.root {a0 : Array Value} {O K : String} {i : Nat} (w : (Cond.noSuperclass O).before a0 Z = true) (wk : (Cond.instantiable K i).before a0 Z = true) (hn : O ≠ K) : NS Z O K := by
  obtain ⟨c, k, h1, h2, h3, -, -⟩ := Cond.noSuperclass_spec w
  obtain ⟨t, kt, g1, -⟩ := Cond.instantiable_spec wk
  have ne := ids_ne h1 g1 hn
  refine ⟨c, t, h1, g1, fun fuel => ?_⟩
  cases fuel with
  | zero => rfl
  | succ f => simp [Vm.isSubclassAux, ne, h2, h3]
theorem oNS.no {a0 : Array Value} {C S K : String} {i : Nat} (w : (Cond.superclass C S).before a0 Z = true) (wk : (Cond.instantiable K i).before a0 Z = true) (q : NS Z C K) (hn : C ≠ K) : ∃ c t, Z.vm.findClass C = some c ∧ Z.vm.findClass K = some t ∧ Z.vm.assignable c t = false := by
  obtain ⟨c, t, h0, g0, n3⟩ := q
  obtain ⟨p, k, kp, h1, h2, h3, h4, h5, -, h7⟩ := Cond.superclass_spec h0 w
  obtain ⟨t', k', g1, g2, g3, g4, -⟩ := Cond.instantiable_spec wk
  cases g0.symm.trans g1
  have ne := ids_ne h0 g0 hn
  have g7 : k'.isInterface = false := (Bool.or_eq_false_iff.mp g4).1
  refine ⟨c, t, h0, g0, ?_⟩
  show Z.vm.assignableAux (255 + 1) c t = false
  simp [Vm.assignableAux, ne, h2, g2, h5, g3, g7, Vm.isSubclass, n3]
theorem osel {s : State} {a0 aa : Array Value} {y : MethodName} {i : Nat} (hZ : Z.Warmed39 s.vm) (wi : (Cond.instantiable y.cls i).before a0 Z = true) (wm : (Cond.instanceMethod y).before a0 Z = true) (wp : (Cond.privateMethod y).before a0 Z = true) (hy : y.cls ≠ "java/lang/invoke/MethodHandle" ∧ y.cls ≠ "java/lang/invoke/VarHandle") : (Cond.selects y.cls y y).before aa s = true := by
  have w2 : (Cond.instantiable y.cls i).before aa s = true := mvT hZ wi
  obtain ⟨c, k, h1, h2, h3, h4, -⟩ := Cond.instantiable_spec w2
  exact Jvm.Stand.selects_self_of_private h1 h2 (Bool.or_eq_false_iff.mp h4).1 (Cond.privateMethod_at (mvP hZ wp (args := #[]))) (mvT hZ wm) hy
end OwnFacts
theorem ow {Z : State} {a0 : Array Value} (hw : ∀ d ∈ tables_1, d.before a0 Z = true) (i : Nat) {d : Jvm.Cond} (h : tables_1[i]? = some d) : d.before a0 Z = true := hw _ (List.mem_of_getElem? h)
section OwnUp
variable {p : Program} {l : Launch} {e : Env} {R : Room} {s : State} {m : MethodId} {args : Array Value} {below : List Frame} {meth : Method} {c : Code} {T : State} {locs : List Loc} {cells slots : Nat}
/-- what the link's word tells where the lookup goes on above the interface -/
theorem oLinkSays {cls : String} {x : MethodName} {index d q : Nat} {ck ok : Class} {mt : Method} {mf : MethodId} (hd : s.vm.findClass cls = some d) (hc : s.vm.findClass x.cls = some q) (hck : s.vm.classes[q]? = some ck) (hvi : ck.isInterface = true)
    (hf : s.methodFound? x.cls x.name x.desc = some mf) (hok : s.vm.classes[mf.cls]? = some ok) (hm : ok.methods[mf.idx]? = some mt) (hcl : x.name ≠ "clone") (h : (Cond.methodLink cls index x).before args s = true) :
    ∃ ci dk, s.vm.classes[d]? = some dk ∧ s.memberEntry? cls index = some (ci, true) ∧ s.classLinks cls ci x.cls = some true ∧ s.names cls index (.method x.cls x.name x.desc) = true ∧ s.openOr cls index (.method mf) = true ∧ ok.loader = none ∧ s.vm.Plain mt.accessFlags mf.cls ok q d dk := by
  have hmeth : s.vm.method? mf = some mt := by simp [Vm.method?, hok, hm]
  rcases hme : s.memberEntry? cls index with _ | ⟨ci, via⟩
  · simp [Cond.before, Cond.holds, Cond.value, hd, hc, hme] at h
  rcases hlk : s.classLinks cls ci x.cls with _ | lk
  · simp [Cond.before, Cond.holds, Cond.value, hd, hc, hf, hme, hlk] at h
  rcases hdk : s.vm.classes[d]? with _ | dk
  · simp [Cond.before, Cond.holds, Cond.value, hd, hc, hf, hme, hlk, hdk] at h
  simp [Cond.before, Cond.holds, Cond.value, hd, hc, hf, hme, hlk, hdk, hck, hok, hmeth, hvi, hcl] at h
  obtain ⟨⟨⟨⟨⟨⟨⟨rfl, h1⟩, h2⟩, rfl⟩, -⟩, -⟩, h3⟩, h4⟩ := h
  refine ⟨ci, dk, rfl, rfl, hlk, h1, h2, h3, ?_⟩
  simpa [plainAccess, Vm.Plain, or_assoc, and_assoc] using h4
theorem oLinkFF {cls : String} {x : MethodName} {index d q : Nat} {ck ok : Class} {mt : Method} {mf : MethodId} (hd : s.vm.findClass cls = some d) (hc : s.vm.findClass x.cls = some q) (hck : s.vm.classes[q]? = some ck) (hvi : ck.isInterface = true) (hnone : ck.findMethod x.name x.desc = none)
    (hf : s.methodFound? x.cls x.name x.desc = some mf) (hok : s.vm.classes[mf.cls]? = some ok) (hm : ok.methods[mf.idx]? = some mt) (hpoly : ∀ y, signaturePolymorphic ck y = false) (hcl : x.name ≠ "clone")
    (h : (Cond.methodLink cls index x).before args s = true) (pl : Platform) (hpl : pl.magicAccessors = ({} : Platform).magicAccessors) : ∃ ci, s.vm.MethodLinksFF pl d index ci q mf ∧ s.rightAt d index (.method mf) = true := by
  obtain ⟨ci, dk, hdk, hme, hlk, h1, h2, h3, hpa⟩ := oLinkSays hd hc hck hvi hf hok hm hcl h
  obtain ⟨q', g1, LK⟩ := State.classLinks_spec hd hlk pl hpl
  obtain rfl : q = q' := Option.some.inj (hc.symm.trans g1)
  obtain ⟨cp, g2, NM⟩ := State.names_spec h1
  obtain ⟨dk', cf, g3, g4, rfl⟩ := State.poolOf?_spec hd g2
  obtain rfl : dk = dk' := Option.some.inj (hdk.symm.trans g3)
  obtain ⟨cj, nt, g5, g6, -⟩ := namesOf?_method NM
  have g7 : cj = ci ∧ cf.constantPool[index]? = some (.interfaceMethodref ci nt) := by
    rcases g5 with g5 | g5
    · simp [State.memberEntry?, g2, g5] at hme
    · have : cj = ci := by simpa [State.memberEntry?, g2, g5] using hme
      subst this
      exact ⟨rfl, g5⟩
  obtain ⟨rfl, g8⟩ := g7
  obtain ⟨k1, cf1, nm, k2, a1, a2, a3, a4, -⟩ := LK.here
  obtain rfl : dk = k1 := Option.some.inj (hdk.symm.trans a1)
  obtain rfl : cf = cf1 := Option.some.inj (g4.symm.trans a2)
  have ne : cj ≠ index := fun z => by
    rw [← z] at g8
    simp [ConstantPool.className?, g8] at a4
  exact ⟨cj, ⟨dk, cf, nt, x.name, x.desc, ck, ok, mt, hdk, g4, g8, g6, LK, ne, hck, hvi, hpoly, hnone, State.faceFind_of_found hc hck hvi hpoly hnone hf, hok, hm, a3.trans h3.symm, hpa, State.openOr_spec hd hdk h2⟩, by simp [State.rightAt, hdk, g4, NM, hf]⟩
/-- a call through an interface whose method a higher interface declares; the access is what the link's word tells -/
theorem ointerfaceBackUp (X : Stand p l e R s m args below meth c T locs cells slots) (hx0 : p.tables.exec = Jvm.exec) {own C J : String} {index count : Nat} {xi y : MethodName} (hown : s.vm.findClass own = some m.cls) (w1 : (Cond.methodLink own index xi).before args s = true) (w2 : (Cond.declares ⟨J, xi.name, xi.desc⟩).before args s = true)
    (w3 : (Cond.interfaceMethod xi.cls J xi.name xi.desc).before args s = true) (hJ : xi.cls ≠ J) (w4 : (Cond.selects C xi y).before args s = true) (w5 : (Cond.instanceMethod y).before args s = true) (w6 : (Cond.publicMethod y).before args s = true) (w7 : (Cond.unhidden C xi.name xi.desc).before args s = true) (w8 : (Cond.castable C xi.cls).before args s = true)
    (hx : xi.cls ≠ "java/lang/invoke/MethodHandle" ∧ xi.cls ≠ "java/lang/invoke/VarHandle") (hcl : xi.name ≠ "clone") {W : Nat} {Pre : Pt → Array Value → Prop} {Post : Pt → Array Value → Option Value → Pt → Prop} (hK : Back l R p e below s args y 5 W Pre Post)
    {b : Addr} {cB : ClassId} {kB : Class} (f1 : s.vm.findClass C = some cB) (f2 : s.vm.classes[cB]? = some kB) (f3 : IsOf cB T b) {g : JFrame} (hg : g.method = m) (hsize : g.locals.size = c.maxLocals) {s₀ : State} (come : Steps p.tables e below s₀ (T.setTop g)) {argsL rest : List Value}
    (hlen : ∀ sig, parseMethodDescriptor xi.desc = some sig → argsL.length = sig.parameters.length) (hstack : g.stack = argsL.reverse ++ .ref b :: rest) (hW : 2 * g.monitorRoom + (rest.map fun v => v.category).sum ≤ W) (hdg : decode c.code g.pc = .ok (.invokeinterface index count, 5)) (hpre : ∀ vm₁, s.WarmedH vm₁ → Pre ⟨T.setVm vm₁, locs, cells, slots⟩ (.ref b :: argsL).toArray) :
    ∃ (v : Option Value) (vm₁ : Vm) (B : Pt), s.WarmedH vm₁ ∧ Stand p l e R s m args below meth c B.U B.locs B.cells B.slots ∧ Post ⟨T.setVm vm₁, locs, cells, slots⟩ (.ref b :: argsL).toArray v B ∧ Steps p.tables e below s₀ (B.U.setTop { g with pc := g.pc + 5, stack := v.toList ++ rest }) := by
  subst hg
  obtain ⟨cell, c1, rfl, c3⟩ := f3
  obtain ⟨r0, r, n1, n2, n3, n4⟩ := Cond.declares_spec w2
  obtain ⟨cI, kI, r1, i1, i2, i3, i4, i5⟩ := Cond.interfaceMethod_spec w3
  obtain rfl : r0 = r1 := Option.some.inj (n1.symm.trans i5)
  obtain ⟨mk, mM, j1, j2, -, j3⟩ := Cond.instanceMethod_spec w5
  obtain ⟨_, _, _, u1, u2, u3, u4, -⟩ := Cond.selects_spec w4
  cases f1.symm.trans u1
  cases i4.symm.trans u2
  cases j1.symm.trans u3
  obtain ⟨_, _, v1, v2, v3⟩ := Cond.castable_spec w8
  cases f1.symm.trans v1
  cases i1.symm.trans v2
  have way := Cond.unhidden_spec f1 w7
  rw [← (name_of_methodNamed n1 n2).1, ← (name_of_methodNamed n1 n2).2] at way
  obtain ⟨kI', i6, i7⟩ := Vm.findClass_spec i1
  obtain rfl : kI = kI' := Option.some.inj (i2.symm.trans i6)
  obtain ⟨ok, o1, o2⟩ := className_of_methodNamed n1
  have poly : ∀ z, signaturePolymorphic kI z = false := fun z => by simp [signaturePolymorphic, i7, hx.1, hx.2]
  have none_ : kI.findMethod xi.name xi.desc = none := by
    cases hj : kI.findMethod xi.name xi.desc with
    | none => rfl
    | some jj =>
      have lt := (Array.findIdx?_eq_some_iff_getElem.mp hj).1
      have := Option.some.inj (i4.symm.trans (State.methodFound?_declared i1 i2 poly hj (by simp [lt])))
      have o3 : s.vm.classes[cI]? = some ok := by rw [this] at o1; exact o1
      cases i2.symm.trans o3
      exact absurd (i7.symm.trans o2) hJ
  obtain ⟨ci, FF, right⟩ := oLinkFF hown i1 i2 i3 none_ i4 o1 (by simpa [Vm.method?, o1] using n2) poly hcl w1 e.platform (by rw [X.admits.platform])
  have E : s.MethodEntryUp e T.vm g.method.cls index cI r0 ci := State.methodEntryFF X.warmed FF right
  have al := E.warmed.alike
  obtain ⟨dk, cf, nt, _, _, kI', _, _, d1, d2, d3, -, -, -, d4, d5, -⟩ := FF.here
  obtain rfl : kI = kI' := Option.some.inj (i2.symm.trans d4)
  obtain ⟨dk2, x1, x2⟩ := E.classReady
  obtain ⟨dk3, x3, x4⟩ := al.2.2 _ _ d1
  obtain rfl : dk2 = dk3 := Option.some.inj (x1.symm.trans x3)
  obtain ⟨kI2, x5, x6⟩ := al.2.2 _ _ d4
  obtain ⟨kB2, x7, -⟩ := al.2.2 _ _ f2
  have X1 := X.noted E.warmed
  have p1 : (T.vm.calledUp g.method.cls ci index cI r0).method? r0 = some r := (al.method? _).trans n2
  have p2 : (T.vm.calledUp g.method.cls ci index cI r0).assignable cell.cls cI = true := by rw [al.assignable]; exact v3
  have p3 : selectMethod e.platform (T.vm.calledUp g.method.cls ci index cI r0) cell.cls r0 = .method mk := by rw [al.selectMethod, Launch.admits_selectMethod X.admits]; exact u4
  have p4 : (T.vm.calledUp g.method.cls ci index cI r0).method? mk = some mM := (al.method? _).trans j2
  have p5 : ((cell.cls :: (T.vm.calledUp g.method.cls ci index cI r0).superclasses cell.cls).any fun k => (declaredIn (T.vm.calledUp g.method.cls ci index cI r0) r.name r.desc k).any fun (_, z) => z.isPrivate || z.isStatic) = false := by simp only [al.superclasses, al.declaredIn]; exact way
  obtain ⟨v, B, X2, post, go⟩ := hK g.method meth c ⟨T.setVm (T.vm.calledUp g.method.cls ci index cI r0), locs, cells, slots⟩ { g with stack := rest } (.invokeinterface index count) mk (.ref b :: argsL).toArray X1 rfl hsize hdg hW (X1.named j1) (hpre (T.vm.calledUp g.method.cls ci index cI r0) X1.warmed)
  refine ⟨v, _, B, X1.warmed, X2, post, come.trans ?_⟩
  jvm_step X.here [hx0, hdg, invokeinterface.wp_coldFace (e := e) (s := T) (s₀ := s) (f := g) (count := count) X.here.top X.warmed E d1 d2 (Or.inr d3) d4 d5,
    invokeinterface.wp_ready (e := e) (s := T.setVm (T.vm.calledUp g.method.cls ci index cI r0)) (f := g) (count := count) (named := cI) (nt := nt) X.here.top E.ready p1 n3 (hlen _ n4) hstack c1 (fun z q => by rw [q] at c3; cases c3) x7 x1 (by rw [x4]; exact d2) d3 x2 x5 (by rw [x6]; exact d5) p2 p3 p4 (Or.inr (Or.inr p5)) (Or.inl (Cond.publicMethod_spec j1 j2 w6)) j3]
  intro acts
  rw [doInvoke_state]
  exact go
theorem omvI {Z : State} {a0 : Array Value} {r o n d : String} (hZ : Z.Warmed39 s.vm) (w : (Cond.interfaceMethod r o n d).before a0 Z = true) : (Cond.interfaceMethod r o n d).before args s = true := by
  obtain ⟨c, k, m, hc, hk, hi, hf, hn⟩ := Cond.interfaceMethod_spec w
  obtain ⟨k', hk', he⟩ := hZ.alike.2.2 _ _ hk
  have h1 : s.vm.findClass r = some c := by rw [hZ.alike.findClass]; exact hc
  have h2 : (Z.setVm s.vm).methodFound? r n d = some m := by rw [State.methodFound?_setVm hZ.alike]; exact hf
  have h3 : (Z.setVm s.vm).methodNamed? ⟨o, n, d⟩ = some m := by rw [State.methodNamed?_setVm hZ.alike]; exact hn
  have h4 : s.methodFound? r n d = some m := h2
  have h5 : s.methodNamed? ⟨o, n, d⟩ = some m := h3
  have h6 : k'.isInterface = true := by rw [he]; exact hi
  simp [Cond.before, Cond.holds, Cond.value, h1, h4, h5, hk', h6]
end OwnUp
theorem own_and1 (x : Int32) : (x &&& (1 : Int32)) = (0 : Int32) ∨ (x &&& (1 : Int32)) = (1 : Int32) := by
  have e : (x &&& (1 : Int32)).toInt = x.toInt % ((2 ^ 1 : Nat) : Int) := c_mask x 1 1 (by decide) (by decide)
  have p : ((2 ^ 1 : Nat) : Int) = 2 := rfl
  rw [p] at e
  simp only [← Int32.toInt_inj, e]
  have : (0 : Int32).toInt = 0 ∧ (1 : Int32).toInt = 1 := by decide
  omega
def Glob (Z : State) (w_LOWEST : Addr) (w_HIGHEST : Addr) (w_EMPTY_ELEMENTDATA : Addr) (w_DEFAULTCAPACITY_EMPTY_ELEMENTDATA : Addr) (k_w_EMPTY_ELEMENTDATA : ClassId) (k_w_DEFAULTCAPACITY_EMPTY_ELEMENTDATA : ClassId) : Prop := Sta Z Z.heap "com/example/restrained_scaler/restrainedscaler/decision/StabilizationWindow$Kept" "LOWEST" "Lcom/example/restrained_scaler/restrainedscaler/decision/StabilizationWindow$Kept;" (.ref w_LOWEST) ∧ Exa Z Z.heap w_LOWEST "com/example/restrained_scaler/restrainedscaler/decision/StabilizationWindow$Kept" ∧ Sta Z Z.heap "com/example/restrained_scaler/restrainedscaler/decision/StabilizationWindow$Kept" "HIGHEST" "Lcom/example/restrained_scaler/restrainedscaler/decision/StabilizationWindow$Kept;" (.ref w_HIGHEST) ∧ Exa Z Z.heap w_HIGHEST "com/example/restrained_scaler/restrainedscaler/decision/StabilizationWindow$Kept" ∧ Sta Z Z.heap "java/util/ArrayList" "EMPTY_ELEMENTDATA" "[Ljava/lang/Object;" (.ref w_EMPTY_ELEMENTDATA) ∧ Exa Z Z.heap w_EMPTY_ELEMENTDATA "[Ljava/lang/Object;" ∧ Sta Z Z.heap "java/util/ArrayList" "DEFAULTCAPACITY_EMPTY_ELEMENTDATA" "[Ljava/lang/Object;" (.ref w_DEFAULTCAPACITY_EMPTY_ELEMENTDATA) ∧ Exa Z Z.heap w_DEFAULTCAPACITY_EMPTY_ELEMENTDATA "[Ljava/lang/Object;" ∧ Fld Z Z.heap w_LOWEST "java/lang/Enum" "ordinal" "I" (.int (1 : Int32)) ∧ Fld Z Z.heap w_HIGHEST "java/lang/Enum" "ordinal" "I" (.int (0 : Int32)) ∧ Arv Z Z.heap w_EMPTY_ELEMENTDATA k_w_EMPTY_ELEMENTDATA (.object "java/lang/Object") (0 : Int32) [] .null ∧ Arv Z Z.heap w_DEFAULTCAPACITY_EMPTY_ELEMENTDATA k_w_DEFAULTCAPACITY_EMPTY_ELEMENTDATA (.object "java/lang/Object") (0 : Int32) [] .null
theorem d19_0 : decode prog_24_method_5_code 0 = .ok (.aload_n 0, 1) := by decide +kernel
theorem d19_1 : decode prog_24_method_5_code 1 = .ok (.getfield 10, 3) := by decide +kernel
theorem d19_4 : decode prog_24_method_5_code 4 = .ok (.invokeinterface 46 1, 5) := by decide +kernel
theorem d20_0 : decode jdk_21_method_38_code 0 = .ok (.aload_n 0, 1) := by decide +kernel
theorem d20_1 : decode jdk_21_method_38_code 1 = .ok (.getfield 24, 3) := by decide +kernel
theorem d20_4 : decode jdk_21_method_38_code 4 = .ok (.aload_n 0, 1) := by decide +kernel
theorem d20_5 : decode jdk_21_method_38_code 5 = .ok (.getfield 20, 3) := by decide +kernel
theorem d20_8 : decode jdk_21_method_38_code 8 = .ok (.if_icmp .ne 7, 3) := by decide +kernel
theorem d20_11 : decode jdk_21_method_38_code 11 = .ok (.iconst 1, 1) := by decide +kernel
theorem d20_12 : decode jdk_21_method_38_code 12 = .ok (.goto 4, 3) := by decide +kernel
theorem d20_16 : decode jdk_21_method_38_code 16 = .ok (.ireturn, 1) := by decide +kernel
theorem pn_java_util_ArrayDeque : plainName "java/util/ArrayDeque" = true := by first | (simp [plainName, overriddenIn]; done) | decide +kernel
def Q20 (Z : State) (w_LOWEST : Addr) (w_HIGHEST : Addr) (w_EMPTY_ELEMENTDATA : Addr) (w_DEFAULTCAPACITY_EMPTY_ELEMENTDATA : Addr) (k_w_EMPTY_ELEMENTDATA : ClassId) (k_w_DEFAULTCAPACITY_EMPTY_ELEMENTDATA : ClassId) (a1 : Addr) (p2 : Int32) (p4 : Int32) (h0 : Heap) (n0 : Nat) (v : Option Value) (h : Heap) (L : List Loc) : Prop := v = some (.int (1 : Int32)) ∧ Fr n0 L ∧ h = h0
theorem ef20 (m : MethodId) (x0 : Addr) : entryFrame m #[(.ref x0)] 1 = mkF m 0 #[.val (.ref x0)] [] := by first | (simp [entryFrame, mkF, argsToLocals, Value.category]; done) | rfl
set_option maxRecDepth 65536 in
set_option maxHeartbeats 40000000 in
theorem rm20 (l : Launch) (Z : State) (a0 : Array Value) (hw : ∀ d ∈ tables_1, d.before a0 Z = true) (ws : List Jvm.Cond) {w_LOWEST : Addr} {w_HIGHEST : Addr} {w_EMPTY_ELEMENTDATA : Addr} {w_DEFAULTCAPACITY_EMPTY_ELEMENTDATA : Addr} {k_w_EMPTY_ELEMENTDATA : ClassId} {k_w_DEFAULTCAPACITY_EMPTY_ELEMENTDATA : ClassId} (G : Glob Z w_LOWEST w_HIGHEST w_EMPTY_ELEMENTDATA w_DEFAULTCAPACITY_EMPTY_ELEMENTDATA k_w_EMPTY_ELEMENTDATA k_w_DEFAULTCAPACITY_EMPTY_ELEMENTDATA) (a1 : Addr) (p2 : Int32) (p4 : Int32) (h0 : Heap) (n0 : Nat) (O0 : Old Z n0 h0) (F_head_a1 : Fld Z h0 a1 "java/util/ArrayDeque" "head" "I" (.int p2)) (F_tail_a1 : Fld Z h0 a1 "java/util/ArrayDeque" "tail" "I" (.int p4)) (hc_1 : p2 = p4) :
    MetFree l (⟨"java/util/ArrayDeque", "isEmpty", "()Z"⟩ : MethodName) (head1 (Jvm.Cond.code (⟨"java/util/ArrayDeque", "isEmpty", "()Z"⟩ : MethodName) jdk_21_method_38_code 1 (some .boolean) :: ws) ({ frames := 0, cells := 0, slots := 0, locals := 0 } : Room)) (fun a U => a = #[(.ref a1)] ∧ Z.Warmed39 U.vm ∧ U.heap = h0) (fun _ _ _ _ _ => True) (fun _ U o U' => ∃ v L, o = .returned v ∧ Q20 Z w_LOWEST w_HIGHEST w_EMPTY_ELEMENTDATA w_DEFAULTCAPACITY_EMPTY_ELEMENTDATA k_w_EMPTY_ELEMENTDATA k_w_DEFAULTCAPACITY_EMPTY_ELEMENTDATA a1 p2 p4 h0 n0 v U'.heap L ∧ FrameEnd U o U' L ({ frames := 0, cells := 0, slots := 0, locals := 0 } : Room).cells ({ frames := 0, cells := 0, slots := 0, locals := 0 } : Room).slots) := by
  refine MetFree.of_bodySF (plainFor_of_name pn_java_util_ArrayDeque) hisR ?_
  intro p e s m args below meth c s₁ Bd hml0 hP hK
  obtain ⟨rfl, hZ, hh⟩ := hP
  have hx := Bd.exec
  have hby := Bd.bytes
  have hml : c.maxLocals = 1 := hml0
  have hown : s.vm.findClass "java/util/ArrayDeque" = some m.cls := findClass_of_methodNamed Bd.named
  have hnm := (name_of_methodNamed Bd.named Bd.method).1
  have X0 : Stand p l e ({ frames := 0, cells := 0, slots := 0, locals := 0 } : Room) s m #[(.ref a1)] below meth c s₁ [] 0 0 := Stand.of_body Bd
  have e0 : s₁.heap = h0 := by rw [← hh, Bd.state]; rfl
  have N0 := Fr.nil n0
  show OGot p.tables e below (s₁.setTop (entryFrame m #[(.ref a1)] 1)) _
  refine OGot.go (fun t k => castTop (ef20 m a1) k) ?_
  show OGot p.tables e below (s₁.setTop (mkF m 0 #[.val (.ref a1)] [])) _
  refine OGot.go (fun t k => XS.aloadN X0.here hx rfl (hb hby d20_0) rfl rfl k) ?_
  obtain ⟨T3, X3, e3, st3⟩ := getF X0 hx hZ hown (host := "") (Or.inl (ow hw 169 rfl)) Via.refl e0 F_head_a1 (g := (mkF m 1 #[.val (.ref a1)] [(.ref a1)])) rfl rfl (hb hby d20_1)
  refine OGot.go st3 ?_
  refine OGot.go (fun t k => XS.aloadN X3.here hx rfl (hb hby d20_4) rfl rfl k) ?_
  obtain ⟨T5, X5, e5, st5⟩ := getF X3 hx hZ hown (host := "") (Or.inl (ow hw 171 rfl)) Via.refl e3 F_tail_a1 (g := (mkF m 5 #[.val (.ref a1)] [(.ref a1), (.int p2)])) rfl rfl (hb hby d20_5)
  refine OGot.go st5 ?_
  refine OGot.go (fun t k => XS.icmpNo X5.here hx rfl (hb hby d20_8) rfl (teq hc_1).2 k) ?_
  refine OGot.go (fun t k => XS.iconst X5.here hx rfl (hb hby d20_11) k) ?_
  show OGot p.tables e below (T5.setTop (mkF m 12 #[.val (.ref a1)] [(.int (1 : Int32))])) _
  refine OGot.go (fun t k => XS.goto X5.here hx rfl (pc0 := 12) (pc' := 16) rfl (hb hby d20_12) (by decide) (by decide) k) ?_
  show OGot p.tables e below (T5.setTop (mkF m 16 #[.val (.ref a1)] [(.int (1 : Int32))])) _
  obtain ⟨fs, hr, hrun, hended, hW, hsame⟩ := X5.leave (v := some (.int (1 : Int32))) (fun h => by rw [Bd.returns] at h; cases h)
  refine ⟨_, _, retN X5 hx (t := .boolean) Bd.returns (by simp) (hb hby d20_16) hr, hrun, hended, _, _, rfl, ?_, ⟨_, rfl⟩, hW, hsame.mono (by decide) (by decide)⟩
  exact (⟨rfl, N0, e5⟩ : Q20 Z w_LOWEST w_HIGHEST w_EMPTY_ELEMENTDATA w_DEFAULTCAPACITY_EMPTY_ELEMENTDATA k_w_EMPTY_ELEMENTDATA k_w_DEFAULTCAPACITY_EMPTY_ELEMENTDATA a1 p2 p4 h0 n0 _ T5.heap _)
theorem pd_0 : parseMethodDescriptor "()Z" = some ⟨[], some .boolean⟩ := by decide +kernel
theorem d19_9 : decode prog_24_method_5_code 9 = .ok (.ifCond .ne 36, 3) := by decide +kernel
theorem d19_45 : decode prog_24_method_5_code 45 = .ok (.aload_n 0, 1) := by decide +kernel
theorem d19_46 : decode prog_24_method_5_code 46 = .ok (.getfield 10, 3) := by decide +kernel
theorem d19_49 : decode prog_24_method_5_code 49 = .ok (.aload_n 1, 1) := by decide +kernel
theorem d19_50 : decode prog_24_method_5_code 50 = .ok (.invokeinterface 84 2, 5) := by decide +kernel
theorem d21_0 : decode jdk_21_method_13_code 0 = .ok (.aload_n 1, 1) := by decide +kernel
theorem d21_1 : decode jdk_21_method_13_code 1 = .ok (.ifnonnull 11, 3) := by decide +kernel
theorem d21_12 : decode jdk_21_method_13_code 12 = .ok (.aload_n 0, 1) := by decide +kernel
theorem d21_13 : decode jdk_21_method_13_code 13 = .ok (.getfield 3, 3) := by decide +kernel
theorem d21_16 : decode jdk_21_method_13_code 16 = .ok (.astore_n 2, 1) := by decide +kernel
theorem d21_17 : decode jdk_21_method_13_code 17 = .ok (.aload_n 2, 1) := by decide +kernel
theorem d21_18 : decode jdk_21_method_13_code 18 = .ok (.aload_n 0, 1) := by decide +kernel
theorem d21_19 : decode jdk_21_method_13_code 19 = .ok (.getfield 20, 3) := by decide +kernel
theorem d21_22 : decode jdk_21_method_13_code 22 = .ok (.aload_n 1, 1) := by decide +kernel
theorem d21_23 : decode jdk_21_method_13_code 23 = .ok (.aastore, 1) := by decide +kernel
theorem d21_24 : decode jdk_21_method_13_code 24 = .ok (.aload_n 0, 1) := by decide +kernel
theorem d21_25 : decode jdk_21_method_13_code 25 = .ok (.getfield 24, 3) := by decide +kernel
theorem d21_28 : decode jdk_21_method_13_code 28 = .ok (.aload_n 0, 1) := by decide +kernel
theorem d21_29 : decode jdk_21_method_13_code 29 = .ok (.aload_n 0, 1) := by decide +kernel
theorem d21_30 : decode jdk_21_method_13_code 30 = .ok (.getfield 20, 3) := by decide +kernel
theorem d21_33 : decode jdk_21_method_13_code 33 = .ok (.aload_n 2, 1) := by decide +kernel
theorem d21_34 : decode jdk_21_method_13_code 34 = .ok (.arraylength, 1) := by decide +kernel
theorem d21_35 : decode jdk_21_method_13_code 35 = .ok (.invokestatic 74, 3) := by decide +kernel
theorem d22_0 : decode jdk_21_method_6_code 0 = .ok (.iinc 0 1, 3) := by decide +kernel
theorem d22_3 : decode jdk_21_method_6_code 3 = .ok (.iload_n 0, 1) := by decide +kernel
theorem d22_4 : decode jdk_21_method_6_code 4 = .ok (.iload_n 1, 1) := by decide +kernel
theorem d22_5 : decode jdk_21_method_6_code 5 = .ok (.if_icmp .lt 5, 3) := by decide +kernel
theorem d22_10 : decode jdk_21_method_6_code 10 = .ok (.iload_n 0, 1) := by decide +kernel
theorem d22_11 : decode jdk_21_method_6_code 11 = .ok (.ireturn, 1) := by decide +kernel
def Q22 (Z : State) (w_LOWEST : Addr) (w_HIGHEST : Addr) (w_EMPTY_ELEMENTDATA : Addr) (w_DEFAULTCAPACITY_EMPTY_ELEMENTDATA : Addr) (k_w_EMPTY_ELEMENTDATA : ClassId) (k_w_DEFAULTCAPACITY_EMPTY_ELEMENTDATA : ClassId) (p1 : Int32) (h0 : Heap) (n0 : Nat) (v : Option Value) (h : Heap) (L : List Loc) : Prop := v = some (.int (p1 + (1 : Int32))) ∧ Fr n0 L ∧ h = h0
theorem ef22 (m : MethodId) (x0 : Int32) : entryFrame m #[(.int x0), (.int (17 : Int32))] 2 = mkF m 0 #[.val (.int x0), .val (.int (17 : Int32))] [] := by first | (simp [entryFrame, mkF, argsToLocals, Value.category]; done) | rfl
set_option maxRecDepth 65536 in
set_option maxHeartbeats 40000000 in
theorem rm22 (l : Launch) (Z : State) (a0 : Array Value) (hw : ∀ d ∈ tables_1, d.before a0 Z = true) (ws : List Jvm.Cond) {w_LOWEST : Addr} {w_HIGHEST : Addr} {w_EMPTY_ELEMENTDATA : Addr} {w_DEFAULTCAPACITY_EMPTY_ELEMENTDATA : Addr} {k_w_EMPTY_ELEMENTDATA : ClassId} {k_w_DEFAULTCAPACITY_EMPTY_ELEMENTDATA : ClassId} (G : Glob Z w_LOWEST w_HIGHEST w_EMPTY_ELEMENTDATA w_DEFAULTCAPACITY_EMPTY_ELEMENTDATA k_w_EMPTY_ELEMENTDATA k_w_DEFAULTCAPACITY_EMPTY_ELEMENTDATA) (p1 : Int32) (h0 : Heap) (n0 : Nat) (O0 : Old Z n0 h0) (hc_1 : (p1 + (1 : Int32)) < (17 : Int32)) :
    MetFree l (⟨"java/util/ArrayDeque", "inc", "(II)I"⟩ : MethodName) (head1 (Jvm.Cond.code (⟨"java/util/ArrayDeque", "inc", "(II)I"⟩ : MethodName) jdk_21_method_6_code 2 (some .int) :: ws) ({ frames := 0, cells := 0, slots := 0, locals := 0 } : Room)) (fun a U => a = #[(.int p1), (.int (17 : Int32))] ∧ Z.Warmed39 U.vm ∧ U.heap = h0) (fun _ _ _ _ _ => True) (fun _ U o U' => ∃ v L, o = .returned v ∧ Q22 Z w_LOWEST w_HIGHEST w_EMPTY_ELEMENTDATA w_DEFAULTCAPACITY_EMPTY_ELEMENTDATA k_w_EMPTY_ELEMENTDATA k_w_DEFAULTCAPACITY_EMPTY_ELEMENTDATA p1 h0 n0 v U'.heap L ∧ FrameEnd U o U' L ({ frames := 0, cells := 0, slots := 0, locals := 0 } : Room).cells ({ frames := 0, cells := 0, slots := 0, locals := 0 } : Room).slots) := by
  refine MetFree.of_bodySF (plainFor_of_name pn_java_util_ArrayDeque) hisR ?_
  intro p e s m args below meth c s₁ Bd hml0 hP hK
  obtain ⟨rfl, hZ, hh⟩ := hP
  have hx := Bd.exec
  have hby := Bd.bytes
  have hml : c.maxLocals = 2 := hml0
  have hown : s.vm.findClass "java/util/ArrayDeque" = some m.cls := findClass_of_methodNamed Bd.named
  have hnm := (name_of_methodNamed Bd.named Bd.method).1
  have X0 : Stand p l e ({ frames := 0, cells := 0, slots := 0, locals := 0 } : Room) s m #[(.int p1), (.int (17 : Int32))] below meth c s₁ [] 0 0 := Stand.of_body Bd
  have e0 : s₁.heap = h0 := by rw [← hh, Bd.state]; rfl
  have N0 := Fr.nil n0
  show OGot p.tables e below (s₁.setTop (entryFrame m #[(.int p1), (.int (17 : Int32))] 2)) _
  refine OGot.go (fun t k => castTop (ef22 m p1) k) ?_
  show OGot p.tables e below (s₁.setTop (mkF m 0 #[.val (.int p1), .val (.int (17 : Int32))] [])) _
  refine OGot.go (fun t k => XS.iinc X0.here hx rfl (hb hby d22_0) rfl (l' := #[.val (.int (p1 + (1 : Int32))), .val (.int (17 : Int32))]) rfl k) ?_
  refine OGot.go (fun t k => XS.iloadN X0.here hx rfl (hb hby d22_3) rfl k) ?_
  refine OGot.go (fun t k => XS.iloadN X0.here hx rfl (hb hby d22_4) rfl k) ?_
  refine OGot.go (fun t k => XS.icmpYes X0.here hx rfl (pc0 := 5) (pc' := 10) rfl (hb hby d22_5) rfl (tlt hc_1).1 (by decide) (by decide) k) ?_
  refine OGot.go (fun t k => XS.iloadN X0.here hx rfl (hb hby d22_10) rfl k) ?_
  show OGot p.tables e below (s₁.setTop (mkF m 11 #[.val (.int (p1 + (1 : Int32))), .val (.int (17 : Int32))] [(.int (p1 + (1 : Int32)))])) _
  obtain ⟨fs, hr, hrun, hended, hW, hsame⟩ := X0.leave (v := some (.int (p1 + (1 : Int32)))) (fun h => by rw [Bd.returns] at h; cases h)
  refine ⟨_, _, retI X0 hx Bd.returns (hb hby d22_11) hr, hrun, hended, _, _, rfl, ?_, ⟨_, rfl⟩, hW, hsame.mono (by decide) (by decide)⟩
  exact (⟨rfl, N0, e0⟩ : Q22 Z w_LOWEST w_HIGHEST w_EMPTY_ELEMENTDATA w_DEFAULTCAPACITY_EMPTY_ELEMENTDATA k_w_EMPTY_ELEMENTDATA k_w_DEFAULTCAPACITY_EMPTY_ELEMENTDATA p1 h0 n0 _ s₁.heap _)
theorem pd_1 : parseMethodDescriptor "(II)I" = some ⟨[.int, .int], some .int⟩ := by decide +kernel
theorem d21_38 : decode jdk_21_method_13_code 38 = .ok (.dup_x1, 1) := by decide +kernel
theorem d21_39 : decode jdk_21_method_13_code 39 = .ok (.putfield 20, 3) := by decide +kernel
theorem d21_42 : decode jdk_21_method_13_code 42 = .ok (.if_icmp .ne 8, 3) := by decide +kernel
theorem d21_50 : decode jdk_21_method_13_code 50 = .ok (.return_, 1) := by decide +kernel
def Q21 (Z : State) (w_LOWEST : Addr) (w_HIGHEST : Addr) (w_EMPTY_ELEMENTDATA : Addr) (w_DEFAULTCAPACITY_EMPTY_ELEMENTDATA : Addr) (k_w_EMPTY_ELEMENTDATA : ClassId) (k_w_DEFAULTCAPACITY_EMPTY_ELEMENTDATA : ClassId) (a1 : Addr) (a2 : Addr) (a3 : Addr) (p5 : Int32) (k7 : ClassId) (vs8 : List Value) (p10 : Int32) (h0 : Heap) (n0 : Nat) (v : Option Value) (h : Heap) (L : List Loc) : Prop := Fr n0 L ∧ v = none ∧ OKeep h0 h [(a3, (p5).toNatClampNeg), (a1, Jvm.RoadKit.slotOf Z "java/util/ArrayDeque" "tail" "I")] ∧ Arv Z h a3 k7 (.object "java/lang/Object") (17 : Int32) (vs8.set (p5).toNatClampNeg (.ref a2)) .null ∧ Fld Z h a1 "java/util/ArrayDeque" "tail" "I" (.int (p5 + (1 : Int32)))
theorem ef21 (m : MethodId) (x0 : Addr) (x1 : Addr) : entryFrame m #[(.ref x0), (.ref x1)] 3 = mkF m 0 #[.val (.ref x0), .val (.ref x1), .unset] [] := by first | (simp [entryFrame, mkF, argsToLocals, Value.category]; done) | rfl
set_option maxRecDepth 65536 in
set_option maxHeartbeats 40000000 in
theorem rm21 (l : Launch) (Z : State) (a0 : Array Value) (hw : ∀ d ∈ tables_1, d.before a0 Z = true) (ws : List Jvm.Cond) {w_LOWEST : Addr} {w_HIGHEST : Addr} {w_EMPTY_ELEMENTDATA : Addr} {w_DEFAULTCAPACITY_EMPTY_ELEMENTDATA : Addr} {k_w_EMPTY_ELEMENTDATA : ClassId} {k_w_DEFAULTCAPACITY_EMPTY_ELEMENTDATA : ClassId} (G : Glob Z w_LOWEST w_HIGHEST w_EMPTY_ELEMENTDATA w_DEFAULTCAPACITY_EMPTY_ELEMENTDATA k_w_EMPTY_ELEMENTDATA k_w_DEFAULTCAPACITY_EMPTY_ELEMENTDATA) (a1 : Addr) (a2 : Addr) (a3 : Addr) (p5 : Int32) (k7 : ClassId) (vs8 : List Value) (p10 : Int32) (h0 : Heap) (n0 : Nat) (O0 : Old Z n0 h0) (F_elements_a1 : Fld Z h0 a1 "java/util/ArrayDeque" "elements" "[Ljava/lang/Object;" (.ref a3)) (F_tail_a1 : Fld Z h0 a1 "java/util/ArrayDeque" "tail" "I" (.int p5)) (V_a3 : Arv Z h0 a3 k7 (.object "java/lang/Object") (17 : Int32) vs8 .null) (O_k7 : Ovr Z k7 "java/lang/Object") (g_a3 : n0 ≤ a3) (hi_1 : ¬ p5 < 0 ∧ p5 < (17 : Int32)) (hl_1 : (p5).toNatClampNeg < (vs8).length) (E_a2 : Exa Z h0 a2 "com/example/restrained_scaler/restrainedscaler/decision/Decider$Demand") (F_head_a1 : Fld Z h0 a1 "java/util/ArrayDeque" "head" "I" (.int p10)) (ne_a1_a3 : a1 ≠ a3) (hc_1 : (p5 + (1 : Int32)) < (17 : Int32)) (E_a1 : Exa Z h0 a1 "java/util/ArrayDeque") (g_a1 : n0 ≤ a1) (hc_2 : ¬ (p10 = (p5 + (1 : Int32)))) :
    MetFree l (⟨"java/util/ArrayDeque", "addLast", "(Ljava/lang/Object;)V"⟩ : MethodName) (head1 (Jvm.Cond.code (⟨"java/util/ArrayDeque", "addLast", "(Ljava/lang/Object;)V"⟩ : MethodName) jdk_21_method_13_code 3 none :: ws) ({ frames := 1, cells := 0, slots := 0, locals := 15 } : Room)) (fun a U => a = #[(.ref a1), (.ref a2)] ∧ Z.Warmed39 U.vm ∧ U.heap = h0) (fun _ _ _ _ _ => True) (fun _ U o U' => ∃ v L, o = .returned v ∧ Q21 Z w_LOWEST w_HIGHEST w_EMPTY_ELEMENTDATA w_DEFAULTCAPACITY_EMPTY_ELEMENTDATA k_w_EMPTY_ELEMENTDATA k_w_DEFAULTCAPACITY_EMPTY_ELEMENTDATA a1 a2 a3 p5 k7 vs8 p10 h0 n0 v U'.heap L ∧ FrameEnd U o U' L ({ frames := 1, cells := 0, slots := 0, locals := 15 } : Room).cells ({ frames := 1, cells := 0, slots := 0, locals := 15 } : Room).slots) := by
  refine MetFree.of_bodySF (plainFor_of_name pn_java_util_ArrayDeque) hisR ?_
  intro p e s m args below meth c s₁ Bd hml0 hP hK
  obtain ⟨rfl, hZ, hh⟩ := hP
  have hx := Bd.exec
  have hby := Bd.bytes
  have hml : c.maxLocals = 3 := hml0
  have hown : s.vm.findClass "java/util/ArrayDeque" = some m.cls := findClass_of_methodNamed Bd.named
  have hnm := (name_of_methodNamed Bd.named Bd.method).1
  have X0 : Stand p l e ({ frames := 1, cells := 0, slots := 0, locals := 15 } : Room) s m #[(.ref a1), (.ref a2)] below meth c s₁ [] 0 0 := Stand.of_body Bd
  have e0 : s₁.heap = h0 := by rw [← hh, Bd.state]; rfl
  have N0 := Fr.nil n0
  show OGot p.tables e below (s₁.setTop (entryFrame m #[(.ref a1), (.ref a2)] 3)) _
  refine OGot.go (fun t k => castTop (ef21 m a1 a2) k) ?_
  show OGot p.tables e below (s₁.setTop (mkF m 0 #[.val (.ref a1), .val (.ref a2), .unset] [])) _
  refine OGot.go (fun t k => XS.aloadN X0.here hx rfl (hb hby d21_0) rfl rfl k) ?_
  refine OGot.go (fun t k => XS.ifnonnullYes X0.here hx rfl (pc0 := 1) (pc' := 12) rfl (hb hby d21_1) rfl (by decide) (by decide) k) ?_
  refine OGot.go (fun t k => XS.aloadN X0.here hx rfl (hb hby d21_12) rfl rfl k) ?_
  obtain ⟨T4, X4, e4, st4⟩ := getF X0 hx hZ hown (host := "") (Or.inl (ow hw 97 rfl)) Via.refl e0 F_elements_a1 (g := (mkF m 13 #[.val (.ref a1), .val (.ref a2), .unset] [(.ref a1)])) rfl rfl (hb hby d21_13)
  refine OGot.go st4 ?_
  refine OGot.go (fun t k => XS.astoreN X4.here hx rfl (hb hby d21_16) rfl rfl (l' := #[.val (.ref a1), .val (.ref a2), .val (.ref a3)]) rfl k) ?_
  refine OGot.go (fun t k => XS.aloadN X4.here hx rfl (hb hby d21_17) rfl rfl k) ?_
  show OGot p.tables e below (T4.setTop (mkF m 18 #[.val (.ref a1), .val (.ref a2), .val (.ref a3)] [(.ref a3)])) _
  refine OGot.go (fun t k => XS.aloadN X4.here hx rfl (hb hby d21_18) rfl rfl k) ?_
  obtain ⟨T6, X6, e6, st6⟩ := getF X4 hx hZ hown (host := "") (Or.inl (ow hw 171 rfl)) Via.refl e4 F_tail_a1 (g := (mkF m 19 #[.val (.ref a1), .val (.ref a2), .val (.ref a3)] [(.ref a1), (.ref a3)])) rfl rfl (hb hby d21_19)
  refine OGot.go st6 ?_
  refine OGot.go (fun t k => XS.aloadN X6.here hx rfl (hb hby d21_22) rfl rfl k) ?_
  obtain ⟨cl9, Ar9, qc9, Sz9, Ng9, Hh9, Gg9⟩ := id (V_a3)
  have hin9 : ¬ (p5 < 0 ∨ cl9.slots.size ≤ (p5).toNatClampNeg) := inb_of Sz9 hi_1
  obtain ⟨T9, h9, X9, e9, W9, st9⟩ := stR X6 hx hZ e6 Ar9 (j := p5) hin9 rfl (Sto.ofV Ar9 qc9 O_k7 (Ins.of_exa E_a2 (ow hw 80 rfl))) (g := (mkF m 23 #[.val (.ref a1), .val (.ref a2), .val (.ref a3)] [(.ref a2), (.int p5), (.ref a3)])) rfl rfl (hb hby d21_23)
  refine OGot.go st9 ?_
  have N9 := Fr.snoc X9 N0 g_a3
  have O9 := O0.wr W9 g_a3
  have K9 := (OKeep.refl h0 [(a3, (p5).toNatClampNeg), (a1, Jvm.RoadKit.slotOf Z "java/util/ArrayDeque" "tail" "I")]).wr W9 (Or.inl (List.mem_of_getElem? (i := 0) rfl))
  have Va9 : Arv Z h9 a3 k7 (.object "java/lang/Object") (17 : Int32) (vs8.set (p5).toNatClampNeg (.ref a2)) .null := Arv.set Ar9 qc9 Sz9 Ng9 Hh9 Gg9 rfl W9 (p5).toNatClampNeg rfl hl_1
  refine OGot.go (fun t k => XS.aloadN X9.here hx rfl (hb hby d21_24) rfl rfl k) ?_
  have ne11 : a1 ≠ a3 := ne_a1_a3
  have F12 : Fld Z h9 a1 "java/util/ArrayDeque" "head" "I" (.int p10) := (F_head_a1.other W9 (Or.inl ne11))
  obtain ⟨T13, X13, e13, st13⟩ := getF X9 hx hZ hown (host := "") (Or.inl (ow hw 169 rfl)) Via.refl e9 F12 (g := (mkF m 25 #[.val (.ref a1), .val (.ref a2), .val (.ref a3)] [(.ref a1)])) rfl rfl (hb hby d21_25)
  refine OGot.go st13 ?_
  show OGot p.tables e below (T13.setTop (mkF m 28 #[.val (.ref a1), .val (.ref a2), .val (.ref a3)] [(.int p10)])) _
  refine OGot.go (fun t k => XS.aloadN X13.here hx rfl (hb hby d21_28) rfl rfl k) ?_
  refine OGot.go (fun t k => XS.aloadN X13.here hx rfl (hb hby d21_29) rfl rfl k) ?_
  have F14 : Fld Z h9 a1 "java/util/ArrayDeque" "tail" "I" (.int p5) := (F_tail_a1.other W9 (Or.inl ne11))
  obtain ⟨T15, X15, e15, st15⟩ := getF X13 hx hZ hown (host := "") (Or.inl (ow hw 171 rfl)) Via.refl e13 F14 (g := (mkF m 30 #[.val (.ref a1), .val (.ref a2), .val (.ref a3)] [(.ref a1), (.ref a1), (.int p10)])) rfl rfl (hb hby d21_30)
  refine OGot.go st15 ?_
  refine OGot.go (fun t k => XS.aloadN X15.here hx rfl (hb hby d21_33) rfl rfl k) ?_
  obtain ⟨cl16, Ar16, -, Sz16, Ng16, -, -⟩ := id (Va9)
  refine OGot.go (fun t k => X15.arraylength hx (by rw [e15]; exact Ar16.1) (State.isArrayOf_alike hZ.alike Ar16.2.1) (g := (mkF m 34 #[.val (.ref a1), .val (.ref a2), .val (.ref a3)] [(.ref a3), (.int p5), (.ref a1), (.int p10)])) rfl rfl (hb hby d21_34) _ k) ?_
  rw [len_of Sz16 Ng16]
  obtain ⟨_, _, ⟨T17, L17, k17, n17⟩, -, X17, ⟨Lc17, hQ17, l17, y17, z17⟩, st17⟩ := Jvm.LawKit.callS X15 hx (y := (⟨"java/util/ArrayDeque", "inc", "(II)I"⟩ : MethodName)) hown (mvT hZ (ow hw 181 rfl)) (mvT hZ (ow hw 182 rfl)) (mvT hZ (ow hw 90 rfl)) (mvT hZ (ow hw 183 rfl)) (by decide) (backOf (W := 2) (rm22 l Z a0 hw [] G p5 h9 n0 O9 hc_1) hZ (ow hw 183 rfl) (ow hw 90 rfl) (by decide) (by decide)) (g := (mkF m 35 #[.val (.ref a1), .val (.ref a2), .val (.ref a3)] [(.int (17 : Int32)), (.int p5), (.ref a1), (.int p10)])) rfl (by rw [hml]; rfl) (argsL := [(.int p5), (.int (17 : Int32))]) (rest := [(.ref a1), (.int p10)]) (lenOf pd_1 rfl) rfl (by show 2 * 0 + _ ≤ _; exact Nat.le_of_eq rfl) (hb hby d21_35) (fun _ _ => ⟨rfl, e15, (by decide : 0 + 0 ≤ _), (by decide : 0 + 0 ≤ _)⟩)
  dsimp only [Pt.U, Pt.locs, Pt.cells, Pt.slots] at X17 l17 y17 z17 st17 hQ17
  subst l17 y17 z17
  obtain ⟨rfl, N17q, e17⟩ := hQ17
  have N17 := Fr.app N9 N17q
  refine OGot.go st17 ?_
  show OGot p.tables e below (T17.setTop (mkF m 38 #[.val (.ref a1), .val (.ref a2), .val (.ref a3)] [(.int (p5 + (1 : Int32))), (.ref a1), (.int p10)])) _
  refine OGot.go (fun t k => XS.dupX1 X17.here hx rfl (hb hby d21_38) rfl rfl rfl k) ?_
  obtain ⟨T18, h18, X18, e18, W18, st18⟩ := putF X17 hx hZ hown (host := "") (Or.inl (ow hw 171 rfl)) Via.refl e17 F14 (E_a1.wr W9) (Or.inl (ow hw 172 rfl)) (ow hw 89 rfl) (ty := .int) (by decide) rfl rfl (g := (mkF m 39 #[.val (.ref a1), .val (.ref a2), .val (.ref a3)] [(.int (p5 + (1 : Int32))), (.ref a1), (.int (p5 + (1 : Int32))), (.int p10)])) rfl rfl (hb hby d21_39)
  refine OGot.go st18 ?_
  have N18 := Fr.snoc X18 N17 g_a1
  have O18 := O9.wr W18 g_a1
  have K18 := K9.wr W18 (Or.inl (List.mem_of_getElem? (i := 1) rfl))
  have Fw18 : Fld Z h18 a1 "java/util/ArrayDeque" "tail" "I" (.int (p5 + (1 : Int32))) := F14.same W18
  refine OGot.go (fun t k => XS.icmpYes X18.here hx rfl (pc0 := 42) (pc' := 50) rfl (hb hby d21_42) rfl (feq hc_2).2 (by decide) (by decide) k) ?_
  show OGot p.tables e below (T18.setTop (mkF m 50 #[.val (.ref a1), .val (.ref a2), .val (.ref a3)] [])) _
  obtain ⟨fs, hr, hrun, hended, hW, hsame⟩ := X18.leave (v := none) (fun _ => rfl)
  refine ⟨_, _, X18.returnOut hx Bd.returns (hb hby d21_50) hr, hrun, hended, _, _, rfl, ?_, ⟨_, rfl⟩, hW, hsame.mono (by decide) (by decide)⟩
  have F19 : Arv Z h18 a3 k7 (.object "java/lang/Object") (17 : Int32) (vs8.set (p5).toNatClampNeg (.ref a2)) .null := (Va9.other W18 (Ne.symm ne11))
  show Q21 Z w_LOWEST w_HIGHEST w_EMPTY_ELEMENTDATA w_DEFAULTCAPACITY_EMPTY_ELEMENTDATA k_w_EMPTY_ELEMENTDATA k_w_DEFAULTCAPACITY_EMPTY_ELEMENTDATA a1 a2 a3 p5 k7 vs8 p10 h0 n0 _ T18.heap _
  rw [e18]
  exact ⟨N18, rfl, K18, F19, Fw18⟩
theorem pd_2 : parseMethodDescriptor "(Ljava/lang/Object;)V" = some ⟨[(.object "java/lang/Object")], none⟩ := by decide +kernel
set_option maxRecDepth 65536 in
set_option maxHeartbeats 40000000 in
theorem kpA {p : Program} {l : Launch} {e : Env} {s : State} {m : MethodId} {args : Array Value} {below : List Frame} {meth : Method} {c : Code} {T0 : State} {locs : List Loc} {Z : State} {a0 : Array Value} (hw : ∀ d ∈ tables_1, d.before a0 Z = true) {w_LOWEST : Addr} {w_HIGHEST : Addr} {w_EMPTY_ELEMENTDATA : Addr} {w_DEFAULTCAPACITY_EMPTY_ELEMENTDATA : Addr} {k_w_EMPTY_ELEMENTDATA : ClassId} {k_w_DEFAULTCAPACITY_EMPTY_ELEMENTDATA : ClassId} (G : Glob Z w_LOWEST w_HIGHEST w_EMPTY_ELEMENTDATA w_DEFAULTCAPACITY_EMPTY_ELEMENTDATA k_w_EMPTY_ELEMENTDATA k_w_DEFAULTCAPACITY_EMPTY_ELEMENTDATA) (X0 : Stand p l e ({ frames := 3, cells := 0, slots := 0, locals := 60 } : Room) s m args below meth c T0 locs 0 0) (hx : p.tables.exec = Jvm.exec) (hZ : Z.Warmed39 s.vm) (hby : c.code = prog_24_method_5_code) (hml : c.maxLocals = 2) (hown : s.vm.findClass "com/example/restrained_scaler/restrainedscaler/decision/StabilizationWindow" = some m.cls) (aW : Addr) (dq : Addr) (ar : Addr) (kp : Addr) (sec : Int64) (kA : ClassId) (hd : Int32) (tl : Int32) (vs : List Value) (aD : Addr) (tN : Int64) (eN : Int64) (h0 : Heap) (n0 : Nat) (O0 : Old Z n0 h0) (e0 : T0.heap = h0) (N0 : Fr n0 locs) (E_aW : Exa Z h0 aW "com/example/restrained_scaler/restrainedscaler/decision/StabilizationWindow") (F_demands_aW : Fld Z h0 aW "com/example/restrained_scaler/restrainedscaler/decision/StabilizationWindow" "demands" "Ljava/util/Deque;" (.ref dq)) (F_kept_aW : Fld Z h0 aW "com/example/restrained_scaler/restrainedscaler/decision/StabilizationWindow" "kept" "Lcom/example/restrained_scaler/restrainedscaler/decision/StabilizationWindow$Kept;" (.ref kp)) (F_seconds_aW : Fld Z h0 aW "com/example/restrained_scaler/restrainedscaler/decision/StabilizationWindow" "seconds" "J" (.long sec)) (E_dq : Exa Z h0 dq "java/util/ArrayDeque") (F_head_dq : Fld Z h0 dq "java/util/ArrayDeque" "head" "I" (.int hd)) (F_tail_dq : Fld Z h0 dq "java/util/ArrayDeque" "tail" "I" (.int tl)) (F_elements_dq : Fld Z h0 dq "java/util/ArrayDeque" "elements" "[Ljava/lang/Object;" (.ref ar)) (E_ar : Exa Z h0 ar "[Ljava/lang/Object;") (V_ar : Arv Z h0 ar kA (.object "java/lang/Object") (17 : Int32) vs .null) (O_kA : Ovr Z kA "java/lang/Object") (g_dq : n0 ≤ dq) (g_ar : n0 ≤ ar) (E_aD : Exa Z h0 aD "com/example/restrained_scaler/restrainedscaler/decision/Decider$Demand") (F_time_aD : Fld Z h0 aD "com/example/restrained_scaler/restrainedscaler/decision/Decider$Demand" "time" "J" (.long tN)) (F_desired_aD : Fld Z h0 aD "com/example/restrained_scaler/restrainedscaler/decision/Decider$Demand" "desired" "J" (.long eN)) (hc_1 : hd = tl) (hc_2 : (tl + (1 : Int32)) < (17 : Int32)) (hc_3 : ¬ (hd = (tl + (1 : Int32)))) (hi_1 : ¬ tl < 0 ∧ tl < (17 : Int32)) (hl_1 : (tl).toNatClampNeg < (vs).length) :
    ∃ (T' : State) (L' : List Loc) (h' : Heap), Stand p l e ({ frames := 3, cells := 0, slots := 0, locals := 60 } : Room) s m args below meth c T' L' 0 0 ∧ T'.heap = h' ∧ Fr n0 L' ∧ Old Z n0 h' ∧ (∀ t, Steps p.tables e below (T'.setTop (mkF m 55 #[.val (.ref aW), .val (.ref aD)] [])) t → Steps p.tables e below (T0.setTop (mkF m 0 #[.val (.ref aW), .val (.ref aD)] [])) t) ∧ OKeep h0 h' [(dq, Jvm.RoadKit.slotOf Z "java/util/ArrayDeque" "tail" "I"), (ar, (tl).toNatClampNeg)] ∧ Exa Z h' aW "com/example/restrained_scaler/restrainedscaler/decision/StabilizationWindow" ∧ Fld Z h' aW "com/example/restrained_scaler/restrainedscaler/decision/StabilizationWindow" "demands" "Ljava/util/Deque;" (.ref dq) ∧ Fld Z h' aW "com/example/restrained_scaler/restrainedscaler/decision/StabilizationWindow" "kept" "Lcom/example/restrained_scaler/restrainedscaler/decision/StabilizationWindow$Kept;" (.ref kp) ∧ Fld Z h' aW "com/example/restrained_scaler/restrainedscaler/decision/StabilizationWindow" "seconds" "J" (.long sec) ∧ Exa Z h' dq "java/util/ArrayDeque" ∧ Fld Z h' dq "java/util/ArrayDeque" "head" "I" (.int hd) ∧ Fld Z h' dq "java/util/ArrayDeque" "tail" "I" (.int (tl + (1 : Int32))) ∧ Fld Z h' dq "java/util/ArrayDeque" "elements" "[Ljava/lang/Object;" (.ref ar) ∧ Exa Z h' ar "[Ljava/lang/Object;" ∧ Arv Z h' ar kA (.object "java/lang/Object") (17 : Int32) (vs.set (tl).toNatClampNeg (.ref aD)) .null ∧ Exa Z h' aD "com/example/restrained_scaler/restrainedscaler/decision/Decider$Demand" ∧ Fld Z h' aD "com/example/restrained_scaler/restrainedscaler/decision/Decider$Demand" "time" "J" (.long tN) ∧ Fld Z h' aD "com/example/restrained_scaler/restrainedscaler/decision/Decider$Demand" "desired" "J" (.long eN) := by
  obtain ⟨T101, X101, e101, st101⟩ := getF X0 hx hZ hown (host := "") (Or.inl (ow hw 99 rfl)) Via.refl e0 F_demands_aW (g := (mkF m 1 #[.val (.ref aW), .val (.ref aD)] [(.ref aW)])) rfl rfl (hb hby d19_1)
  obtain ⟨cq102, kq102, q102a, q102b, q102c⟩ := isOf hZ e101 E_dq
  obtain ⟨_, _, ⟨T102, L102, k102, n102⟩, -, X102, ⟨Lc102, hQ102, l102, y102, z102⟩, st102⟩ := ointerfaceBackUp X101 hx (J := "java/util/Collection") (xi := (⟨"java/util/Deque", "isEmpty", "()Z"⟩ : MethodName)) (y := (⟨"java/util/ArrayDeque", "isEmpty", "()Z"⟩ : MethodName)) hown (mvT hZ (ow hw 160 rfl)) (mvT hZ (ow hw 161 rfl)) (omvI hZ (ow hw 162 rfl)) (by decide) (mvT hZ (ow hw 163 rfl)) (mvT hZ (ow hw 164 rfl)) (mvT hZ (ow hw 165 rfl)) (mvT hZ (ow hw 166 rfl)) (mvT hZ (ow hw 167 rfl)) (by decide) (by decide) (backOf (W := 0) (rm20 l Z a0 hw [] G dq hd tl h0 n0 O0 F_head_dq F_tail_dq hc_1) hZ (ow hw 168 rfl) (ow hw 90 rfl) (by decide) (by decide)) q102a q102b q102c (g := (mkF m 4 #[.val (.ref aW), .val (.ref aD)] [(.ref dq)])) rfl (by rw [hml]; rfl) (Steps.refl _) (argsL := []) (rest := []) (lenOf pd_0 rfl) rfl (by show 2 * 0 + _ ≤ _; exact Nat.le_of_eq rfl) (hb hby d19_4) (fun _ _ => ⟨rfl, e101, (by decide : 0 + 0 ≤ _), (by decide : 0 + 0 ≤ _)⟩)
  dsimp only [Pt.U, Pt.locs, Pt.cells, Pt.slots] at X102 l102 y102 z102 st102 hQ102
  subst l102 y102 z102
  obtain ⟨rfl, N102q, e102⟩ := hQ102
  have N102 := Fr.app N0 N102q
  obtain ⟨T103, X103, e103, st103⟩ := getF X102 hx hZ hown (host := "") (Or.inl (ow hw 99 rfl)) Via.refl e102 F_demands_aW (g := (mkF m 46 #[.val (.ref aW), .val (.ref aD)] [(.ref aW)])) rfl rfl (hb hby d19_46)
  have ne104 : dq ≠ ar := (ne_exa E_dq E_ar (by decide))
  obtain ⟨cq105, kq105, q105a, q105b, q105c⟩ := isOf hZ e103 E_dq
  obtain ⟨_, _, ⟨T105, L105, k105, n105⟩, -, X105, ⟨Lc105, hQ105, l105, y105, z105⟩, st105⟩ := X103.interfaceBack hx (xi := (⟨"java/util/Deque", "addLast", "(Ljava/lang/Object;)V"⟩ : MethodName)) (y := (⟨"java/util/ArrayDeque", "addLast", "(Ljava/lang/Object;)V"⟩ : MethodName)) hown (mvT hZ (ow hw 173 rfl)) (mvT hZ (ow hw 174 rfl)) (mvT hZ (ow hw 175 rfl)) (mvT hZ (ow hw 176 rfl)) (mvT hZ (ow hw 177 rfl)) (mvT hZ (ow hw 178 rfl)) (mvT hZ (ow hw 179 rfl)) (mvT hZ (ow hw 167 rfl)) (by decide) (backOf (W := 0) (rm21 l Z a0 hw [] G dq aD ar tl kA vs hd h0 n0 O0 F_elements_dq F_tail_dq V_ar O_kA g_ar hi_1 hl_1 E_aD F_head_dq ne104 hc_2 E_dq g_dq hc_3) hZ (ow hw 180 rfl) (ow hw 90 rfl) (by decide) (by decide)) q105a q105b q105c (g := (mkF m 50 #[.val (.ref aW), .val (.ref aD)] [(.ref aD), (.ref dq)])) rfl (by rw [hml]; rfl) (Steps.refl _) (argsL := [(.ref aD)]) (rest := []) (lenOf pd_2 rfl) rfl (by show 2 * 0 + _ ≤ _; exact Nat.le_of_eq rfl) (hb hby d19_50) (fun _ _ => ⟨rfl, e103, (by decide : 0 + 0 ≤ _), (by decide : 0 + 0 ≤ _)⟩)
  dsimp only [Pt.U, Pt.locs, Pt.cells, Pt.slots] at X105 l105 y105 z105 st105 hQ105
  subst l105 y105 z105
  obtain ⟨N105q, rfl, K105, Fo105_0, Fo105_1⟩ := hQ105
  have Kc105 := (OKeep.refl h0 [(dq, Jvm.RoadKit.slotOf Z "java/util/ArrayDeque" "tail" "I"), (ar, (tl).toNatClampNeg)]).trans K105 (oinS (Or.inl (List.mem_of_getElem? (i := 1) rfl)) (oinS (Or.inl (List.mem_of_getElem? (i := 0) rfl)) oin0))
  have O105 := OKeep.old O0 K105 (ogeS g_ar (ogeS g_dq oge0))
  have N105 := Fr.app N102 N105q
  have ne106 : aW ≠ dq := (ne_exa (OKeep.exa E_aW K105) (OKeep.exa E_dq K105) (by decide))
  have ne107 : aW ≠ ar := (ne_exa (OKeep.exa E_aW K105) (OKeep.exa E_ar K105) (by decide))
  have F108 : Fld Z T105.heap aW "com/example/restrained_scaler/restrainedscaler/decision/StabilizationWindow" "demands" "Ljava/util/Deque;" (.ref dq) := (OKeep.fld F_demands_aW K105 (oninA ne107 (oninA ne106 onin0)))
  have F109 : Fld Z T105.heap aW "com/example/restrained_scaler/restrainedscaler/decision/StabilizationWindow" "kept" "Lcom/example/restrained_scaler/restrainedscaler/decision/StabilizationWindow$Kept;" (.ref kp) := (OKeep.fld F_kept_aW K105 (oninA ne107 (oninA ne106 onin0)))
  have F110 : Fld Z T105.heap aW "com/example/restrained_scaler/restrainedscaler/decision/StabilizationWindow" "seconds" "J" (.long sec) := (OKeep.fld F_seconds_aW K105 (oninA ne107 (oninA ne106 onin0)))
  have F111 : Fld Z T105.heap dq "java/util/ArrayDeque" "head" "I" (.int hd) := (OKeep.fld F_head_dq K105 (oninA ne104 (oninS (slot_ne (Or.inl (ow hw 170 rfl)) (Or.inl (ow hw 172 rfl)) (by decide) (t := .int) (t' := .int) (by decide) (by decide)) onin0)))
  have F112 : Fld Z T105.heap dq "java/util/ArrayDeque" "elements" "[Ljava/lang/Object;" (.ref ar) := (OKeep.fld F_elements_dq K105 (oninA ne104 (oninS (slot_ne (Or.inl (ow hw 98 rfl)) (Or.inl (ow hw 172 rfl)) (by decide) (t := (.array (.object "java/lang/Object"))) (t' := .int) (by decide) (by decide)) onin0)))
  have ne113 : aD ≠ dq := (ne_exa (OKeep.exa E_aD K105) (OKeep.exa E_dq K105) (by decide))
  have ne114 : aD ≠ ar := (ne_exa (OKeep.exa E_aD K105) (OKeep.exa E_ar K105) (by decide))
  have F115 : Fld Z T105.heap aD "com/example/restrained_scaler/restrainedscaler/decision/Decider$Demand" "time" "J" (.long tN) := (OKeep.fld F_time_aD K105 (oninA ne114 (oninA ne113 onin0)))
  have F116 : Fld Z T105.heap aD "com/example/restrained_scaler/restrainedscaler/decision/Decider$Demand" "desired" "J" (.long eN) := (OKeep.fld F_desired_aD K105 (oninA ne114 (oninA ne113 onin0)))
  refine ⟨T105, _, T105.heap, X105, rfl, N105, O105, fun t k => ?_, Kc105, (OKeep.exa E_aW K105), F108, F109, F110, (OKeep.exa E_dq K105), F111, Fo105_1, F112, (OKeep.exa E_ar K105), Fo105_0, (OKeep.exa E_aD K105), F115, F116⟩
  refine XS.aloadN X0.here hx rfl (hb hby d19_0) rfl rfl ?_
  refine st101 _ ?_
  refine st102.trans ?_
  refine XS.ifYes X102.here hx rfl (pc0 := 9) (pc' := 45) rfl (hb hby d19_9) rfl (by decide) (by decide) (by decide) ?_
  refine XS.aloadN X102.here hx rfl (hb hby d19_45) rfl rfl ?_
  show Steps p.tables e below (T102.setTop (mkF m 46 #[.val (.ref aW), .val (.ref aD)] [(.ref aW)])) _
  refine st103 _ ?_
  refine XS.aloadN X103.here hx rfl (hb hby d19_49) rfl rfl ?_
  refine st105.trans ?_
  exact k
theorem d20_15 : decode jdk_21_method_38_code 15 = .ok (.iconst 0, 1) := by decide +kernel
def Q20_1 (Z : State) (w_LOWEST : Addr) (w_HIGHEST : Addr) (w_EMPTY_ELEMENTDATA : Addr) (w_DEFAULTCAPACITY_EMPTY_ELEMENTDATA : Addr) (k_w_EMPTY_ELEMENTDATA : ClassId) (k_w_DEFAULTCAPACITY_EMPTY_ELEMENTDATA : ClassId) (a1 : Addr) (p2 : Int32) (p4 : Int32) (h0 : Heap) (n0 : Nat) (v : Option Value) (h : Heap) (L : List Loc) : Prop := v = some (.int (0 : Int32)) ∧ Fr n0 L ∧ h = h0
theorem ef20_1 (m : MethodId) (x0 : Addr) : entryFrame m #[(.ref x0)] 1 = mkF m 0 #[.val (.ref x0)] [] := by first | (simp [entryFrame, mkF, argsToLocals, Value.category]; done) | rfl
set_option maxRecDepth 65536 in
set_option maxHeartbeats 40000000 in
theorem rm20_1 (l : Launch) (Z : State) (a0 : Array Value) (hw : ∀ d ∈ tables_1, d.before a0 Z = true) (ws : List Jvm.Cond) {w_LOWEST : Addr} {w_HIGHEST : Addr} {w_EMPTY_ELEMENTDATA : Addr} {w_DEFAULTCAPACITY_EMPTY_ELEMENTDATA : Addr} {k_w_EMPTY_ELEMENTDATA : ClassId} {k_w_DEFAULTCAPACITY_EMPTY_ELEMENTDATA : ClassId} (G : Glob Z w_LOWEST w_HIGHEST w_EMPTY_ELEMENTDATA w_DEFAULTCAPACITY_EMPTY_ELEMENTDATA k_w_EMPTY_ELEMENTDATA k_w_DEFAULTCAPACITY_EMPTY_ELEMENTDATA) (a1 : Addr) (p2 : Int32) (p4 : Int32) (h0 : Heap) (n0 : Nat) (O0 : Old Z n0 h0) (F_head_a1 : Fld Z h0 a1 "java/util/ArrayDeque" "head" "I" (.int p2)) (F_tail_a1 : Fld Z h0 a1 "java/util/ArrayDeque" "tail" "I" (.int p4)) (hc_1 : ¬ (p2 = p4)) :
    MetFree l (⟨"java/util/ArrayDeque", "isEmpty", "()Z"⟩ : MethodName) (head1 (Jvm.Cond.code (⟨"java/util/ArrayDeque", "isEmpty", "()Z"⟩ : MethodName) jdk_21_method_38_code 1 (some .boolean) :: ws) ({ frames := 0, cells := 0, slots := 0, locals := 0 } : Room)) (fun a U => a = #[(.ref a1)] ∧ Z.Warmed39 U.vm ∧ U.heap = h0) (fun _ _ _ _ _ => True) (fun _ U o U' => ∃ v L, o = .returned v ∧ Q20_1 Z w_LOWEST w_HIGHEST w_EMPTY_ELEMENTDATA w_DEFAULTCAPACITY_EMPTY_ELEMENTDATA k_w_EMPTY_ELEMENTDATA k_w_DEFAULTCAPACITY_EMPTY_ELEMENTDATA a1 p2 p4 h0 n0 v U'.heap L ∧ FrameEnd U o U' L ({ frames := 0, cells := 0, slots := 0, locals := 0 } : Room).cells ({ frames := 0, cells := 0, slots := 0, locals := 0 } : Room).slots) := by
  refine MetFree.of_bodySF (plainFor_of_name pn_java_util_ArrayDeque) hisR ?_
  intro p e s m args below meth c s₁ Bd hml0 hP hK
  obtain ⟨rfl, hZ, hh⟩ := hP
  have hx := Bd.exec
  have hby := Bd.bytes
  have hml : c.maxLocals = 1 := hml0
  have hown : s.vm.findClass "java/util/ArrayDeque" = some m.cls := findClass_of_methodNamed Bd.named
  have hnm := (name_of_methodNamed Bd.named Bd.method).1
  have X0 : Stand p l e ({ frames := 0, cells := 0, slots := 0, locals := 0 } : Room) s m #[(.ref a1)] below meth c s₁ [] 0 0 := Stand.of_body Bd
  have e0 : s₁.heap = h0 := by rw [← hh, Bd.state]; rfl
  have N0 := Fr.nil n0
  show OGot p.tables e below (s₁.setTop (entryFrame m #[(.ref a1)] 1)) _
  refine OGot.go (fun t k => castTop (ef20_1 m a1) k) ?_
  show OGot p.tables e below (s₁.setTop (mkF m 0 #[.val (.ref a1)] [])) _
  refine OGot.go (fun t k => XS.aloadN X0.here hx rfl (hb hby d20_0) rfl rfl k) ?_
  obtain ⟨T3, X3, e3, st3⟩ := getF X0 hx hZ hown (host := "") (Or.inl (ow hw 169 rfl)) Via.refl e0 F_head_a1 (g := (mkF m 1 #[.val (.ref a1)] [(.ref a1)])) rfl rfl (hb hby d20_1)
  refine OGot.go st3 ?_
  refine OGot.go (fun t k => XS.aloadN X3.here hx rfl (hb hby d20_4) rfl rfl k) ?_
  obtain ⟨T5, X5, e5, st5⟩ := getF X3 hx hZ hown (host := "") (Or.inl (ow hw 171 rfl)) Via.refl e3 F_tail_a1 (g := (mkF m 5 #[.val (.ref a1)] [(.ref a1), (.int p2)])) rfl rfl (hb hby d20_5)
  refine OGot.go st5 ?_
  refine OGot.go (fun t k => XS.icmpYes X5.here hx rfl (pc0 := 8) (pc' := 15) rfl (hb hby d20_8) rfl (feq hc_1).2 (by decide) (by decide) k) ?_
  refine OGot.go (fun t k => XS.iconst X5.here hx rfl (hb hby d20_15) k) ?_
  show OGot p.tables e below (T5.setTop (mkF m 16 #[.val (.ref a1)] [(.int (0 : Int32))])) _
  obtain ⟨fs, hr, hrun, hended, hW, hsame⟩ := X5.leave (v := some (.int (0 : Int32))) (fun h => by rw [Bd.returns] at h; cases h)
  refine ⟨_, _, retN X5 hx (t := .boolean) Bd.returns (by simp) (hb hby d20_16) hr, hrun, hended, _, _, rfl, ?_, ⟨_, rfl⟩, hW, hsame.mono (by decide) (by decide)⟩
  exact (⟨rfl, N0, e5⟩ : Q20_1 Z w_LOWEST w_HIGHEST w_EMPTY_ELEMENTDATA w_DEFAULTCAPACITY_EMPTY_ELEMENTDATA k_w_EMPTY_ELEMENTDATA k_w_DEFAULTCAPACITY_EMPTY_ELEMENTDATA a1 p2 p4 h0 n0 _ T5.heap _)
theorem d19_12 : decode prog_24_method_5_code 12 = .ok (.aload_n 0, 1) := by decide +kernel
theorem d19_13 : decode prog_24_method_5_code 13 = .ok (.aload_n 0, 1) := by decide +kernel
theorem d19_14 : decode prog_24_method_5_code 14 = .ok (.getfield 10, 3) := by decide +kernel
theorem d19_17 : decode prog_24_method_5_code 17 = .ok (.invokeinterface 74 1, 5) := by decide +kernel
theorem d33_0 : decode jdk_21_method_25_code 0 = .ok (.aload_n 0, 1) := by decide +kernel
theorem d33_1 : decode jdk_21_method_25_code 1 = .ok (.getfield 3, 3) := by decide +kernel
theorem d33_4 : decode jdk_21_method_25_code 4 = .ok (.dup, 1) := by decide +kernel
theorem d33_5 : decode jdk_21_method_25_code 5 = .ok (.astore_n 1, 1) := by decide +kernel
theorem d33_6 : decode jdk_21_method_25_code 6 = .ok (.aload_n 0, 1) := by decide +kernel
theorem d33_7 : decode jdk_21_method_25_code 7 = .ok (.getfield 20, 3) := by decide +kernel
theorem d33_10 : decode jdk_21_method_25_code 10 = .ok (.aload_n 1, 1) := by decide +kernel
theorem d33_11 : decode jdk_21_method_25_code 11 = .ok (.arraylength, 1) := by decide +kernel
theorem d33_12 : decode jdk_21_method_25_code 12 = .ok (.invokestatic 68, 3) := by decide +kernel
theorem d34_0 : decode jdk_21_method_7_code 0 = .ok (.iinc 0 (-1), 3) := by decide +kernel
theorem d34_3 : decode jdk_21_method_7_code 3 = .ok (.iload_n 0, 1) := by decide +kernel
theorem d34_4 : decode jdk_21_method_7_code 4 = .ok (.ifCond .ge 7, 3) := by decide +kernel
theorem d34_11 : decode jdk_21_method_7_code 11 = .ok (.iload_n 0, 1) := by decide +kernel
theorem d34_12 : decode jdk_21_method_7_code 12 = .ok (.ireturn, 1) := by decide +kernel
def Q34 (Z : State) (w_LOWEST : Addr) (w_HIGHEST : Addr) (w_EMPTY_ELEMENTDATA : Addr) (w_DEFAULTCAPACITY_EMPTY_ELEMENTDATA : Addr) (k_w_EMPTY_ELEMENTDATA : ClassId) (k_w_DEFAULTCAPACITY_EMPTY_ELEMENTDATA : ClassId) (p1 : Int32) (h0 : Heap) (n0 : Nat) (v : Option Value) (h : Heap) (L : List Loc) : Prop := v = some (.int (p1 + (-1 : Int32))) ∧ Fr n0 L ∧ h = h0
theorem ef34 (m : MethodId) (x0 : Int32) : entryFrame m #[(.int x0), (.int (17 : Int32))] 2 = mkF m 0 #[.val (.int x0), .val (.int (17 : Int32))] [] := by first | (simp [entryFrame, mkF, argsToLocals, Value.category]; done) | rfl
set_option maxRecDepth 65536 in
set_option maxHeartbeats 40000000 in
theorem rm34 (l : Launch) (Z : State) (a0 : Array Value) (hw : ∀ d ∈ tables_1, d.before a0 Z = true) (ws : List Jvm.Cond) {w_LOWEST : Addr} {w_HIGHEST : Addr} {w_EMPTY_ELEMENTDATA : Addr} {w_DEFAULTCAPACITY_EMPTY_ELEMENTDATA : Addr} {k_w_EMPTY_ELEMENTDATA : ClassId} {k_w_DEFAULTCAPACITY_EMPTY_ELEMENTDATA : ClassId} (G : Glob Z w_LOWEST w_HIGHEST w_EMPTY_ELEMENTDATA w_DEFAULTCAPACITY_EMPTY_ELEMENTDATA k_w_EMPTY_ELEMENTDATA k_w_DEFAULTCAPACITY_EMPTY_ELEMENTDATA) (p1 : Int32) (h0 : Heap) (n0 : Nat) (O0 : Old Z n0 h0) (hc_1 : ¬ ((p1 + (-1 : Int32)) < (0 : Int32))) :
    MetFree l (⟨"java/util/ArrayDeque", "dec", "(II)I"⟩ : MethodName) (head1 (Jvm.Cond.code (⟨"java/util/ArrayDeque", "dec", "(II)I"⟩ : MethodName) jdk_21_method_7_code 2 (some .int) :: ws) ({ frames := 0, cells := 0, slots := 0, locals := 0 } : Room)) (fun a U => a = #[(.int p1), (.int (17 : Int32))] ∧ Z.Warmed39 U.vm ∧ U.heap = h0) (fun _ _ _ _ _ => True) (fun _ U o U' => ∃ v L, o = .returned v ∧ Q34 Z w_LOWEST w_HIGHEST w_EMPTY_ELEMENTDATA w_DEFAULTCAPACITY_EMPTY_ELEMENTDATA k_w_EMPTY_ELEMENTDATA k_w_DEFAULTCAPACITY_EMPTY_ELEMENTDATA p1 h0 n0 v U'.heap L ∧ FrameEnd U o U' L ({ frames := 0, cells := 0, slots := 0, locals := 0 } : Room).cells ({ frames := 0, cells := 0, slots := 0, locals := 0 } : Room).slots) := by
  refine MetFree.of_bodySF (plainFor_of_name pn_java_util_ArrayDeque) hisR ?_
  intro p e s m args below meth c s₁ Bd hml0 hP hK
  obtain ⟨rfl, hZ, hh⟩ := hP
  have hx := Bd.exec
  have hby := Bd.bytes
  have hml : c.maxLocals = 2 := hml0
  have hown : s.vm.findClass "java/util/ArrayDeque" = some m.cls := findClass_of_methodNamed Bd.named
  have hnm := (name_of_methodNamed Bd.named Bd.method).1
  have X0 : Stand p l e ({ frames := 0, cells := 0, slots := 0, locals := 0 } : Room) s m #[(.int p1), (.int (17 : Int32))] below meth c s₁ [] 0 0 := Stand.of_body Bd
  have e0 : s₁.heap = h0 := by rw [← hh, Bd.state]; rfl
  have N0 := Fr.nil n0
  show OGot p.tables e below (s₁.setTop (entryFrame m #[(.int p1), (.int (17 : Int32))] 2)) _
  refine OGot.go (fun t k => castTop (ef34 m p1) k) ?_
  show OGot p.tables e below (s₁.setTop (mkF m 0 #[.val (.int p1), .val (.int (17 : Int32))] [])) _
  refine OGot.go (fun t k => XS.iinc X0.here hx rfl (hb hby d34_0) rfl (l' := #[.val (.int (p1 + (-1 : Int32))), .val (.int (17 : Int32))]) rfl k) ?_
  refine OGot.go (fun t k => XS.iloadN X0.here hx rfl (hb hby d34_3) rfl k) ?_
  refine OGot.go (fun t k => XS.ifYes X0.here hx rfl (pc0 := 4) (pc' := 11) rfl (hb hby d34_4) rfl ((if0 _ _).trans (flt hc_1).2.1) (by decide) (by decide) k) ?_
  refine OGot.go (fun t k => XS.iloadN X0.here hx rfl (hb hby d34_11) rfl k) ?_
  show OGot p.tables e below (s₁.setTop (mkF m 12 #[.val (.int (p1 + (-1 : Int32))), .val (.int (17 : Int32))] [(.int (p1 + (-1 : Int32)))])) _
  obtain ⟨fs, hr, hrun, hended, hW, hsame⟩ := X0.leave (v := some (.int (p1 + (-1 : Int32)))) (fun h => by rw [Bd.returns] at h; cases h)
  refine ⟨_, _, retI X0 hx Bd.returns (hb hby d34_12) hr, hrun, hended, _, _, rfl, ?_, ⟨_, rfl⟩, hW, hsame.mono (by decide) (by decide)⟩
  exact (⟨rfl, N0, e0⟩ : Q34 Z w_LOWEST w_HIGHEST w_EMPTY_ELEMENTDATA w_DEFAULTCAPACITY_EMPTY_ELEMENTDATA k_w_EMPTY_ELEMENTDATA k_w_DEFAULTCAPACITY_EMPTY_ELEMENTDATA p1 h0 n0 _ s₁.heap _)
theorem d33_15 : decode jdk_21_method_25_code 15 = .ok (.invokestatic 103, 3) := by decide +kernel
theorem d25_0 : decode jdk_21_method_10_code 0 = .ok (.aload_n 0, 1) := by decide +kernel
theorem d25_1 : decode jdk_21_method_10_code 1 = .ok (.iload_n 1, 1) := by decide +kernel
theorem d25_2 : decode jdk_21_method_10_code 2 = .ok (.aaload, 1) := by decide +kernel
theorem d25_3 : decode jdk_21_method_10_code 3 = .ok (.areturn, 1) := by decide +kernel
def Q25 (Z : State) (w_LOWEST : Addr) (w_HIGHEST : Addr) (w_EMPTY_ELEMENTDATA : Addr) (w_DEFAULTCAPACITY_EMPTY_ELEMENTDATA : Addr) (k_w_EMPTY_ELEMENTDATA : ClassId) (k_w_DEFAULTCAPACITY_EMPTY_ELEMENTDATA : ClassId) (a1 : Addr) (p2 : Int32) (k3 : ClassId) (vs4 : List Value) (a6 : Addr) (h0 : Heap) (n0 : Nat) (v : Option Value) (h : Heap) (L : List Loc) : Prop := v = some (.ref a6) ∧ Fr n0 L ∧ h = h0
theorem ef25 (m : MethodId) (x0 : Addr) (x1 : Int32) : entryFrame m #[(.ref x0), (.int x1)] 2 = mkF m 0 #[.val (.ref x0), .val (.int x1)] [] := by first | (simp [entryFrame, mkF, argsToLocals, Value.category]; done) | rfl
set_option maxRecDepth 65536 in
set_option maxHeartbeats 40000000 in
theorem rm25 (l : Launch) (Z : State) (a0 : Array Value) (hw : ∀ d ∈ tables_1, d.before a0 Z = true) (ws : List Jvm.Cond) {w_LOWEST : Addr} {w_HIGHEST : Addr} {w_EMPTY_ELEMENTDATA : Addr} {w_DEFAULTCAPACITY_EMPTY_ELEMENTDATA : Addr} {k_w_EMPTY_ELEMENTDATA : ClassId} {k_w_DEFAULTCAPACITY_EMPTY_ELEMENTDATA : ClassId} (G : Glob Z w_LOWEST w_HIGHEST w_EMPTY_ELEMENTDATA w_DEFAULTCAPACITY_EMPTY_ELEMENTDATA k_w_EMPTY_ELEMENTDATA k_w_DEFAULTCAPACITY_EMPTY_ELEMENTDATA) (a1 : Addr) (p2 : Int32) (k3 : ClassId) (vs4 : List Value) (a6 : Addr) (h0 : Heap) (n0 : Nat) (O0 : Old Z n0 h0) (V_a1 : Arv Z h0 a1 k3 (.object "java/lang/Object") (17 : Int32) vs4 .null) (O_k3 : Ovr Z k3 "java/lang/Object") (hg_1 : (vs4).getD (p2).toNatClampNeg .null = (.ref a6)) (hi_1 : ¬ p2 < 0 ∧ p2 < (17 : Int32)) :
    MetFree l (⟨"java/util/ArrayDeque", "elementAt", "([Ljava/lang/Object;I)Ljava/lang/Object;"⟩ : MethodName) (head1 (Jvm.Cond.code (⟨"java/util/ArrayDeque", "elementAt", "([Ljava/lang/Object;I)Ljava/lang/Object;"⟩ : MethodName) jdk_21_method_10_code 2 (some (.object "java/lang/Object")) :: ws) ({ frames := 0, cells := 0, slots := 0, locals := 0 } : Room)) (fun a U => a = #[(.ref a1), (.int p2)] ∧ Z.Warmed39 U.vm ∧ U.heap = h0) (fun _ _ _ _ _ => True) (fun _ U o U' => ∃ v L, o = .returned v ∧ Q25 Z w_LOWEST w_HIGHEST w_EMPTY_ELEMENTDATA w_DEFAULTCAPACITY_EMPTY_ELEMENTDATA k_w_EMPTY_ELEMENTDATA k_w_DEFAULTCAPACITY_EMPTY_ELEMENTDATA a1 p2 k3 vs4 a6 h0 n0 v U'.heap L ∧ FrameEnd U o U' L ({ frames := 0, cells := 0, slots := 0, locals := 0 } : Room).cells ({ frames := 0, cells := 0, slots := 0, locals := 0 } : Room).slots) := by
  refine MetFree.of_bodySF (plainFor_of_name pn_java_util_ArrayDeque) hisR ?_
  intro p e s m args below meth c s₁ Bd hml0 hP hK
  obtain ⟨rfl, hZ, hh⟩ := hP
  have hx := Bd.exec
  have hby := Bd.bytes
  have hml : c.maxLocals = 2 := hml0
  have hown : s.vm.findClass "java/util/ArrayDeque" = some m.cls := findClass_of_methodNamed Bd.named
  have hnm := (name_of_methodNamed Bd.named Bd.method).1
  have X0 : Stand p l e ({ frames := 0, cells := 0, slots := 0, locals := 0 } : Room) s m #[(.ref a1), (.int p2)] below meth c s₁ [] 0 0 := Stand.of_body Bd
  have e0 : s₁.heap = h0 := by rw [← hh, Bd.state]; rfl
  have N0 := Fr.nil n0
  show OGot p.tables e below (s₁.setTop (entryFrame m #[(.ref a1), (.int p2)] 2)) _
  refine OGot.go (fun t k => castTop (ef25 m a1 p2) k) ?_
  show OGot p.tables e below (s₁.setTop (mkF m 0 #[.val (.ref a1), .val (.int p2)] [])) _
  refine OGot.go (fun t k => XS.aloadN X0.here hx rfl (hb hby d25_0) rfl rfl k) ?_
  refine OGot.go (fun t k => XS.iloadN X0.here hx rfl (hb hby d25_1) rfl k) ?_
  obtain ⟨cl5, Ar5, qc5, Sz5, Ng5, Hh5, Gg5⟩ := id (V_a1)
  have hin5 : ¬ (p2 < 0 ∨ cl5.slots.size ≤ (p2).toNatClampNeg) := inb_of Sz5 hi_1
  have hat5 : cl5.slots[(p2).toNatClampNeg]? = some (.ref a6) := Hh5.at hin5 hg_1
  refine OGot.go (fun t k => X0.aaload hx (j := p2) (v := (.ref a6)) (by rw [e0]; exact Ar5.1) (State.isArrayOf_alike hZ.alike Ar5.2.1) rfl Ar5.2.2 hin5 hat5 (g := (mkF m 2 #[.val (.ref a1), .val (.int p2)] [(.int p2), (.ref a1)])) rfl rfl (hb hby d25_2) _ k) ?_
  show OGot p.tables e below (s₁.setTop (mkF m 3 #[.val (.ref a1), .val (.int p2)] [(.ref a6)])) _
  obtain ⟨fs, hr, hrun, hended, hW, hsame⟩ := X0.leave (v := some (.ref a6)) (fun h => by rw [Bd.returns] at h; cases h)
  refine ⟨_, _, oretA X0 hx Bd.returns rfl rfl (hb hby d25_3) hr, hrun, hended, _, _, rfl, ?_, ⟨_, rfl⟩, hW, hsame.mono (by decide) (by decide)⟩
  exact (⟨rfl, N0, e0⟩ : Q25 Z w_LOWEST w_HIGHEST w_EMPTY_ELEMENTDATA w_DEFAULTCAPACITY_EMPTY_ELEMENTDATA k_w_EMPTY_ELEMENTDATA k_w_DEFAULTCAPACITY_EMPTY_ELEMENTDATA a1 p2 k3 vs4 a6 h0 n0 _ s₁.heap _)
theorem pd_3 : parseMethodDescriptor "([Ljava/lang/Object;I)Ljava/lang/Object;" = some ⟨[(.array (.object "java/lang/Object")), .int], some (.object "java/lang/Object")⟩ := by decide +kernel
theorem d33_18 : decode jdk_21_method_25_code 18 = .ok (.areturn, 1) := by decide +kernel
def Q33 (Z : State) (w_LOWEST : Addr) (w_HIGHEST : Addr) (w_EMPTY_ELEMENTDATA : Addr) (w_DEFAULTCAPACITY_EMPTY_ELEMENTDATA : Addr) (k_w_EMPTY_ELEMENTDATA : ClassId) (k_w_DEFAULTCAPACITY_EMPTY_ELEMENTDATA : ClassId) (a1 : Addr) (a2 : Addr) (p4 : Int32) (k6 : ClassId) (vs7 : List Value) (a10 : Addr) (h0 : Heap) (n0 : Nat) (v : Option Value) (h : Heap) (L : List Loc) : Prop := v = some (.ref a10) ∧ Fr n0 L ∧ h = h0
theorem ef33 (m : MethodId) (x0 : Addr) : entryFrame m #[(.ref x0)] 2 = mkF m 0 #[.val (.ref x0), .unset] [] := by first | (simp [entryFrame, mkF, argsToLocals, Value.category]; done) | rfl
set_option maxRecDepth 65536 in
set_option maxHeartbeats 40000000 in
theorem rm33 (l : Launch) (Z : State) (a0 : Array Value) (hw : ∀ d ∈ tables_1, d.before a0 Z = true) (ws : List Jvm.Cond) {w_LOWEST : Addr} {w_HIGHEST : Addr} {w_EMPTY_ELEMENTDATA : Addr} {w_DEFAULTCAPACITY_EMPTY_ELEMENTDATA : Addr} {k_w_EMPTY_ELEMENTDATA : ClassId} {k_w_DEFAULTCAPACITY_EMPTY_ELEMENTDATA : ClassId} (G : Glob Z w_LOWEST w_HIGHEST w_EMPTY_ELEMENTDATA w_DEFAULTCAPACITY_EMPTY_ELEMENTDATA k_w_EMPTY_ELEMENTDATA k_w_DEFAULTCAPACITY_EMPTY_ELEMENTDATA) (a1 : Addr) (a2 : Addr) (p4 : Int32) (k6 : ClassId) (vs7 : List Value) (a10 : Addr) (h0 : Heap) (n0 : Nat) (O0 : Old Z n0 h0) (F_elements_a1 : Fld Z h0 a1 "java/util/ArrayDeque" "elements" "[Ljava/lang/Object;" (.ref a2)) (F_tail_a1 : Fld Z h0 a1 "java/util/ArrayDeque" "tail" "I" (.int p4)) (V_a2 : Arv Z h0 a2 k6 (.object "java/lang/Object") (17 : Int32) vs7 .null) (O_k6 : Ovr Z k6 "java/lang/Object") (hc_1 : ¬ ((p4 + (-1 : Int32)) < (0 : Int32))) (hg_1 : (vs7).getD ((p4 + (-1 : Int32))).toNatClampNeg .null = (.ref a10)) (hi_1 : ¬ (p4 + (-1 : Int32)) < 0 ∧ (p4 + (-1 : Int32)) < (17 : Int32)) :
    MetFree l (⟨"java/util/ArrayDeque", "peekLast", "()Ljava/lang/Object;"⟩ : MethodName) (head1 (Jvm.Cond.code (⟨"java/util/ArrayDeque", "peekLast", "()Ljava/lang/Object;"⟩ : MethodName) jdk_21_method_25_code 2 (some (.object "java/lang/Object")) :: ws) ({ frames := 1, cells := 0, slots := 0, locals := 14 } : Room)) (fun a U => a = #[(.ref a1)] ∧ Z.Warmed39 U.vm ∧ U.heap = h0) (fun _ _ _ _ _ => True) (fun _ U o U' => ∃ v L, o = .returned v ∧ Q33 Z w_LOWEST w_HIGHEST w_EMPTY_ELEMENTDATA w_DEFAULTCAPACITY_EMPTY_ELEMENTDATA k_w_EMPTY_ELEMENTDATA k_w_DEFAULTCAPACITY_EMPTY_ELEMENTDATA a1 a2 p4 k6 vs7 a10 h0 n0 v U'.heap L ∧ FrameEnd U o U' L ({ frames := 1, cells := 0, slots := 0, locals := 14 } : Room).cells ({ frames := 1, cells := 0, slots := 0, locals := 14 } : Room).slots) := by
  refine MetFree.of_bodySF (plainFor_of_name pn_java_util_ArrayDeque) hisR ?_
  intro p e s m args below meth c s₁ Bd hml0 hP hK
  obtain ⟨rfl, hZ, hh⟩ := hP
  have hx := Bd.exec
  have hby := Bd.bytes
  have hml : c.maxLocals = 2 := hml0
  have hown : s.vm.findClass "java/util/ArrayDeque" = some m.cls := findClass_of_methodNamed Bd.named
  have hnm := (name_of_methodNamed Bd.named Bd.method).1
  have X0 : Stand p l e ({ frames := 1, cells := 0, slots := 0, locals := 14 } : Room) s m #[(.ref a1)] below meth c s₁ [] 0 0 := Stand.of_body Bd
  have e0 : s₁.heap = h0 := by rw [← hh, Bd.state]; rfl
  have N0 := Fr.nil n0
  show OGot p.tables e below (s₁.setTop (entryFrame m #[(.ref a1)] 2)) _
  refine OGot.go (fun t k => castTop (ef33 m a1) k) ?_
  show OGot p.tables e below (s₁.setTop (mkF m 0 #[.val (.ref a1), .unset] [])) _
  refine OGot.go (fun t k => XS.aloadN X0.here hx rfl (hb hby d33_0) rfl rfl k) ?_
  obtain ⟨T3, X3, e3, st3⟩ := getF X0 hx hZ hown (host := "") (Or.inl (ow hw 97 rfl)) Via.refl e0 F_elements_a1 (g := (mkF m 1 #[.val (.ref a1), .unset] [(.ref a1)])) rfl rfl (hb hby d33_1)
  refine OGot.go st3 ?_
  refine OGot.go (fun t k => XS.dup X3.here hx rfl (hb hby d33_4) rfl rfl k) ?_
  refine OGot.go (fun t k => XS.astoreN X3.here hx rfl (hb hby d33_5) rfl rfl (l' := #[.val (.ref a1), .val (.ref a2)]) rfl k) ?_
  refine OGot.go (fun t k => XS.aloadN X3.here hx rfl (hb hby d33_6) rfl rfl k) ?_
  obtain ⟨T5, X5, e5, st5⟩ := getF X3 hx hZ hown (host := "") (Or.inl (ow hw 171 rfl)) Via.refl e3 F_tail_a1 (g := (mkF m 7 #[.val (.ref a1), .val (.ref a2)] [(.ref a1), (.ref a2)])) rfl rfl (hb hby d33_7)
  refine OGot.go st5 ?_
  show OGot p.tables e below (T5.setTop (mkF m 10 #[.val (.ref a1), .val (.ref a2)] [(.int p4), (.ref a2)])) _
  refine OGot.go (fun t k => XS.aloadN X5.here hx rfl (hb hby d33_10) rfl rfl k) ?_
  obtain ⟨cl8, Ar8, -, Sz8, Ng8, -, -⟩ := id (V_a2)
  refine OGot.go (fun t k => X5.arraylength hx (by rw [e5]; exact Ar8.1) (State.isArrayOf_alike hZ.alike Ar8.2.1) (g := (mkF m 11 #[.val (.ref a1), .val (.ref a2)] [(.ref a2), (.int p4), (.ref a2)])) rfl rfl (hb hby d33_11) _ k) ?_
  rw [len_of Sz8 Ng8]
  obtain ⟨_, _, ⟨T9, L9, k9, n9⟩, -, X9, ⟨Lc9, hQ9, l9, y9, z9⟩, st9⟩ := Jvm.LawKit.callS X5 hx (y := (⟨"java/util/ArrayDeque", "dec", "(II)I"⟩ : MethodName)) hown (mvT hZ (ow hw 251 rfl)) (mvT hZ (ow hw 252 rfl)) (mvT hZ (ow hw 90 rfl)) (mvT hZ (ow hw 253 rfl)) (by decide) (backOf (W := 1) (rm34 l Z a0 hw [] G p4 h0 n0 O0 hc_1) hZ (ow hw 253 rfl) (ow hw 90 rfl) (by decide) (by decide)) (g := (mkF m 12 #[.val (.ref a1), .val (.ref a2)] [(.int (17 : Int32)), (.int p4), (.ref a2)])) rfl (by rw [hml]; rfl) (argsL := [(.int p4), (.int (17 : Int32))]) (rest := [(.ref a2)]) (lenOf pd_1 rfl) rfl (by show 2 * 0 + _ ≤ _; exact Nat.le_of_eq rfl) (hb hby d33_12) (fun _ _ => ⟨rfl, e5, (by decide : 0 + 0 ≤ _), (by decide : 0 + 0 ≤ _)⟩)
  dsimp only [Pt.U, Pt.locs, Pt.cells, Pt.slots] at X9 l9 y9 z9 st9 hQ9
  subst l9 y9 z9
  obtain ⟨rfl, N9q, e9⟩ := hQ9
  have N9 := Fr.app N0 N9q
  refine OGot.go st9 ?_
  obtain ⟨_, _, ⟨T11, L11, k11, n11⟩, -, X11, ⟨Lc11, hQ11, l11, y11, z11⟩, st11⟩ := Jvm.LawKit.callS X9 hx (y := (⟨"java/util/ArrayDeque", "elementAt", "([Ljava/lang/Object;I)Ljava/lang/Object;"⟩ : MethodName)) hown (mvT hZ (ow hw 197 rfl)) (mvT hZ (ow hw 198 rfl)) (mvT hZ (ow hw 90 rfl)) (mvT hZ (ow hw 199 rfl)) (by decide) (backOf (W := 0) (rm25 l Z a0 hw [] G a2 (p4 + (-1 : Int32)) k6 vs7 a10 h0 n0 O0 V_a2 O_k6 hg_1 hi_1) hZ (ow hw 199 rfl) (ow hw 90 rfl) (by decide) (by decide)) (g := (mkF m 15 #[.val (.ref a1), .val (.ref a2)] [(.int (p4 + (-1 : Int32))), (.ref a2)])) rfl (by rw [hml]; rfl) (argsL := [(.ref a2), (.int (p4 + (-1 : Int32)))]) (rest := []) (lenOf pd_3 rfl) rfl (by show 2 * 0 + _ ≤ _; exact Nat.le_of_eq rfl) (hb hby d33_15) (fun _ _ => ⟨rfl, e9, (by decide : 0 + 0 ≤ _), (by decide : 0 + 0 ≤ _)⟩)
  dsimp only [Pt.U, Pt.locs, Pt.cells, Pt.slots] at X11 l11 y11 z11 st11 hQ11
  subst l11 y11 z11
  obtain ⟨rfl, N11q, e11⟩ := hQ11
  have N11 := Fr.app N9 N11q
  refine OGot.go st11 ?_
  show OGot p.tables e below (T11.setTop (mkF m 18 #[.val (.ref a1), .val (.ref a2)] [(.ref a10)])) _
  obtain ⟨fs, hr, hrun, hended, hW, hsame⟩ := X11.leave (v := some (.ref a10)) (fun h => by rw [Bd.returns] at h; cases h)
  refine ⟨_, _, oretA X11 hx Bd.returns rfl rfl (hb hby d33_18) hr, hrun, hended, _, _, rfl, ?_, ⟨_, rfl⟩, hW, hsame.mono (by decide) (by decide)⟩
  exact (⟨rfl, N11, e11⟩ : Q33 Z w_LOWEST w_HIGHEST w_EMPTY_ELEMENTDATA w_DEFAULTCAPACITY_EMPTY_ELEMENTDATA k_w_EMPTY_ELEMENTDATA k_w_DEFAULTCAPACITY_EMPTY_ELEMENTDATA a1 a2 p4 k6 vs7 a10 h0 n0 _ T11.heap _)
theorem pd_4 : parseMethodDescriptor "()Ljava/lang/Object;" = some ⟨[], some (.object "java/lang/Object")⟩ := by decide +kernel
theorem d19_22 : decode prog_24_method_5_code 22 = .ok (.checkcast 40, 3) := by decide +kernel
theorem d19_25 : decode prog_24_method_5_code 25 = .ok (.aload_n 1, 1) := by decide +kernel
theorem d19_26 : decode prog_24_method_5_code 26 = .ok (.invokevirtual 77, 3) := by decide +kernel
theorem d35_0 : decode prog_24_method_6_code 0 = .ok (.aload_n 0, 1) := by decide +kernel
theorem d35_1 : decode prog_24_method_6_code 1 = .ok (.getfield 20, 3) := by decide +kernel
theorem d35_4 : decode prog_24_method_6_code 4 = .ok (.getstatic 88, 3) := by decide +kernel
theorem d35_7 : decode prog_24_method_6_code 7 = .ok (.if_acmp .ne 23, 3) := by decide +kernel
theorem d35_10 : decode prog_24_method_6_code 10 = .ok (.aload_n 1, 1) := by decide +kernel
theorem d35_11 : decode prog_24_method_6_code 11 = .ok (.invokevirtual 67, 3) := by decide +kernel
theorem d26_0 : decode prog_16_method_6_code 0 = .ok (.aload_n 0, 1) := by decide +kernel
theorem d26_1 : decode prog_16_method_6_code 1 = .ok (.getfield 13, 3) := by decide +kernel
theorem d26_4 : decode prog_16_method_6_code 4 = .ok (.lreturn, 1) := by decide +kernel
theorem pn_com_example_restrained_scaler_restrainedscaler_decision_Decider_Demand : plainName "com/example/restrained_scaler/restrainedscaler/decision/Decider$Demand" = true := by first | (simp [plainName, overriddenIn]; done) | decide +kernel
def Q26 (Z : State) (w_LOWEST : Addr) (w_HIGHEST : Addr) (w_EMPTY_ELEMENTDATA : Addr) (w_DEFAULTCAPACITY_EMPTY_ELEMENTDATA : Addr) (k_w_EMPTY_ELEMENTDATA : ClassId) (k_w_DEFAULTCAPACITY_EMPTY_ELEMENTDATA : ClassId) (a1 : Addr) (q2 : Int64) (h0 : Heap) (n0 : Nat) (v : Option Value) (h : Heap) (L : List Loc) : Prop := v = some (.long q2) ∧ Fr n0 L ∧ h = h0
theorem ef26 (m : MethodId) (x0 : Addr) : entryFrame m #[(.ref x0)] 1 = mkF m 0 #[.val (.ref x0)] [] := by first | (simp [entryFrame, mkF, argsToLocals, Value.category]; done) | rfl
set_option maxRecDepth 65536 in
set_option maxHeartbeats 40000000 in
theorem rm26 (l : Launch) (Z : State) (a0 : Array Value) (hw : ∀ d ∈ tables_1, d.before a0 Z = true) (ws : List Jvm.Cond) {w_LOWEST : Addr} {w_HIGHEST : Addr} {w_EMPTY_ELEMENTDATA : Addr} {w_DEFAULTCAPACITY_EMPTY_ELEMENTDATA : Addr} {k_w_EMPTY_ELEMENTDATA : ClassId} {k_w_DEFAULTCAPACITY_EMPTY_ELEMENTDATA : ClassId} (G : Glob Z w_LOWEST w_HIGHEST w_EMPTY_ELEMENTDATA w_DEFAULTCAPACITY_EMPTY_ELEMENTDATA k_w_EMPTY_ELEMENTDATA k_w_DEFAULTCAPACITY_EMPTY_ELEMENTDATA) (a1 : Addr) (q2 : Int64) (h0 : Heap) (n0 : Nat) (O0 : Old Z n0 h0) (F_desired_a1 : Fld Z h0 a1 "com/example/restrained_scaler/restrainedscaler/decision/Decider$Demand" "desired" "J" (.long q2)) :
    MetFree l (⟨"com/example/restrained_scaler/restrainedscaler/decision/Decider$Demand", "desired", "()J"⟩ : MethodName) (head1 (Jvm.Cond.code (⟨"com/example/restrained_scaler/restrainedscaler/decision/Decider$Demand", "desired", "()J"⟩ : MethodName) prog_16_method_6_code 1 (some .long) :: ws) ({ frames := 0, cells := 0, slots := 0, locals := 0 } : Room)) (fun a U => a = #[(.ref a1)] ∧ Z.Warmed39 U.vm ∧ U.heap = h0) (fun _ _ _ _ _ => True) (fun _ U o U' => ∃ v L, o = .returned v ∧ Q26 Z w_LOWEST w_HIGHEST w_EMPTY_ELEMENTDATA w_DEFAULTCAPACITY_EMPTY_ELEMENTDATA k_w_EMPTY_ELEMENTDATA k_w_DEFAULTCAPACITY_EMPTY_ELEMENTDATA a1 q2 h0 n0 v U'.heap L ∧ FrameEnd U o U' L ({ frames := 0, cells := 0, slots := 0, locals := 0 } : Room).cells ({ frames := 0, cells := 0, slots := 0, locals := 0 } : Room).slots) := by
  refine MetFree.of_bodySF (plainFor_of_name pn_com_example_restrained_scaler_restrainedscaler_decision_Decider_Demand) hisR ?_
  intro p e s m args below meth c s₁ Bd hml0 hP hK
  obtain ⟨rfl, hZ, hh⟩ := hP
  have hx := Bd.exec
  have hby := Bd.bytes
  have hml : c.maxLocals = 1 := hml0
  have hown : s.vm.findClass "com/example/restrained_scaler/restrainedscaler/decision/Decider$Demand" = some m.cls := findClass_of_methodNamed Bd.named
  have hnm := (name_of_methodNamed Bd.named Bd.method).1
  have X0 : Stand p l e ({ frames := 0, cells := 0, slots := 0, locals := 0 } : Room) s m #[(.ref a1)] below meth c s₁ [] 0 0 := Stand.of_body Bd
  have e0 : s₁.heap = h0 := by rw [← hh, Bd.state]; rfl
  have N0 := Fr.nil n0
  show OGot p.tables e below (s₁.setTop (entryFrame m #[(.ref a1)] 1)) _
  refine OGot.go (fun t k => castTop (ef26 m a1) k) ?_
  show OGot p.tables e below (s₁.setTop (mkF m 0 #[.val (.ref a1)] [])) _
  refine OGot.go (fun t k => XS.aloadN X0.here hx rfl (hb hby d26_0) rfl rfl k) ?_
  obtain ⟨T3, X3, e3, st3⟩ := getF X0 hx hZ hown (host := "") (Or.inl (ow hw 44 rfl)) Via.refl e0 F_desired_a1 (g := (mkF m 1 #[.val (.ref a1)] [(.ref a1)])) rfl rfl (hb hby d26_1)
  refine OGot.go st3 ?_
  show OGot p.tables e below (T3.setTop (mkF m 4 #[.val (.ref a1)] [(.long q2)])) _
  obtain ⟨fs, hr, hrun, hended, hW, hsame⟩ := X3.leave (v := some (.long q2)) (fun h => by rw [Bd.returns] at h; cases h)
  refine ⟨_, _, oretJ X3 hx Bd.returns (hb hby d26_4) hr, hrun, hended, _, _, rfl, ?_, ⟨_, rfl⟩, hW, hsame.mono (by decide) (by decide)⟩
  exact (⟨rfl, N0, e3⟩ : Q26 Z w_LOWEST w_HIGHEST w_EMPTY_ELEMENTDATA w_DEFAULTCAPACITY_EMPTY_ELEMENTDATA k_w_EMPTY_ELEMENTDATA k_w_DEFAULTCAPACITY_EMPTY_ELEMENTDATA a1 q2 h0 n0 _ T3.heap _)
theorem pd_5 : parseMethodDescriptor "()J" = some ⟨[], some .long⟩ := by decide +kernel
theorem d35_14 : decode prog_24_method_6_code 14 = .ok (.aload_n 2, 1) := by decide +kernel
theorem d35_15 : decode prog_24_method_6_code 15 = .ok (.invokevirtual 67, 3) := by decide +kernel
theorem d35_18 : decode prog_24_method_6_code 18 = .ok (.lcmp, 1) := by decide +kernel
theorem d35_19 : decode prog_24_method_6_code 19 = .ok (.ifCond .gt 7, 3) := by decide +kernel
theorem d35_26 : decode prog_24_method_6_code 26 = .ok (.iconst 0, 1) := by decide +kernel
theorem d35_27 : decode prog_24_method_6_code 27 = .ok (.goto 20, 3) := by decide +kernel
theorem d35_47 : decode prog_24_method_6_code 47 = .ok (.ireturn, 1) := by decide +kernel
theorem d35_22 : decode prog_24_method_6_code 22 = .ok (.iconst 1, 1) := by decide +kernel
theorem d35_23 : decode prog_24_method_6_code 23 = .ok (.goto 24, 3) := by decide +kernel
theorem d35_30 : decode prog_24_method_6_code 30 = .ok (.aload_n 1, 1) := by decide +kernel
theorem d35_31 : decode prog_24_method_6_code 31 = .ok (.invokevirtual 67, 3) := by decide +kernel
theorem d35_34 : decode prog_24_method_6_code 34 = .ok (.aload_n 2, 1) := by decide +kernel
theorem d35_35 : decode prog_24_method_6_code 35 = .ok (.invokevirtual 67, 3) := by decide +kernel
theorem d35_38 : decode prog_24_method_6_code 38 = .ok (.lcmp, 1) := by decide +kernel
theorem d35_39 : decode prog_24_method_6_code 39 = .ok (.ifCond .lt 7, 3) := by decide +kernel
theorem d35_46 : decode prog_24_method_6_code 46 = .ok (.iconst 0, 1) := by decide +kernel
theorem d35_42 : decode prog_24_method_6_code 42 = .ok (.iconst 1, 1) := by decide +kernel
theorem d35_43 : decode prog_24_method_6_code 43 = .ok (.goto 4, 3) := by decide +kernel
theorem pn_com_example_restrained_scaler_restrainedscaler_decision_StabilizationWindow : plainName "com/example/restrained_scaler/restrainedscaler/decision/StabilizationWindow" = true := by first | (simp [plainName, overriddenIn]; done) | decide +kernel
def f35 (w_HIGHEST : Addr) (a4 : Addr) (q8 : Int64) (q10 : Int64) : Int32 := (if a4 = w_HIGHEST then (if q10 < q8 then (0 : Int32) else (1 : Int32)) else (if q8 < q10 then (0 : Int32) else (1 : Int32)))
def Q35 (Z : State) (w_LOWEST : Addr) (w_HIGHEST : Addr) (w_EMPTY_ELEMENTDATA : Addr) (w_DEFAULTCAPACITY_EMPTY_ELEMENTDATA : Addr) (k_w_EMPTY_ELEMENTDATA : ClassId) (k_w_DEFAULTCAPACITY_EMPTY_ELEMENTDATA : ClassId) (a1 : Addr) (a2 : Addr) (a3 : Addr) (a4 : Addr) (q8 : Int64) (q10 : Int64) (h0 : Heap) (n0 : Nat) (v : Option Value) (h : Heap) (L : List Loc) : Prop := v = some (.int (f35 w_HIGHEST a4 q8 q10)) ∧ Fr n0 L ∧ h = h0
theorem ef35 (m : MethodId) (x0 : Addr) (x1 : Addr) (x2 : Addr) : entryFrame m #[(.ref x0), (.ref x1), (.ref x2)] 3 = mkF m 0 #[.val (.ref x0), .val (.ref x1), .val (.ref x2)] [] := by first | (simp [entryFrame, mkF, argsToLocals, Value.category]; done) | rfl
set_option maxRecDepth 65536 in
set_option maxHeartbeats 40000000 in
theorem rm35 (l : Launch) (Z : State) (a0 : Array Value) (hw : ∀ d ∈ tables_1, d.before a0 Z = true) (ws : List Jvm.Cond) {w_LOWEST : Addr} {w_HIGHEST : Addr} {w_EMPTY_ELEMENTDATA : Addr} {w_DEFAULTCAPACITY_EMPTY_ELEMENTDATA : Addr} {k_w_EMPTY_ELEMENTDATA : ClassId} {k_w_DEFAULTCAPACITY_EMPTY_ELEMENTDATA : ClassId} (G : Glob Z w_LOWEST w_HIGHEST w_EMPTY_ELEMENTDATA w_DEFAULTCAPACITY_EMPTY_ELEMENTDATA k_w_EMPTY_ELEMENTDATA k_w_DEFAULTCAPACITY_EMPTY_ELEMENTDATA) (a1 : Addr) (a2 : Addr) (a3 : Addr) (a4 : Addr) (q8 : Int64) (q10 : Int64) (h0 : Heap) (n0 : Nat) (O0 : Old Z n0 h0) (F_kept_a1 : Fld Z h0 a1 "com/example/restrained_scaler/restrainedscaler/decision/StabilizationWindow" "kept" "Lcom/example/restrained_scaler/restrainedscaler/decision/StabilizationWindow$Kept;" (.ref a4)) (E_a2 : Exa Z h0 a2 "com/example/restrained_scaler/restrainedscaler/decision/Decider$Demand") (F_desired_a2 : Fld Z h0 a2 "com/example/restrained_scaler/restrainedscaler/decision/Decider$Demand" "desired" "J" (.long q8)) (E_a3 : Exa Z h0 a3 "com/example/restrained_scaler/restrainedscaler/decision/Decider$Demand") (F_desired_a3 : Fld Z h0 a3 "com/example/restrained_scaler/restrainedscaler/decision/Decider$Demand" "desired" "J" (.long q10)) :
    MetFree l (⟨"com/example/restrained_scaler/restrainedscaler/decision/StabilizationWindow", "outdone", "(Lcom/example/restrained_scaler/restrainedscaler/decision/Decider$Demand;Lcom/example/restrained_scaler/restrainedscaler/decision/Decider$Demand;)Z"⟩ : MethodName) (head1 (Jvm.Cond.code (⟨"com/example/restrained_scaler/restrainedscaler/decision/StabilizationWindow", "outdone", "(Lcom/example/restrained_scaler/restrainedscaler/decision/Decider$Demand;Lcom/example/restrained_scaler/restrainedscaler/decision/Decider$Demand;)Z"⟩ : MethodName) prog_24_method_6_code 3 (some .boolean) :: ws) ({ frames := 1, cells := 0, slots := 0, locals := 14 } : Room)) (fun a U => a = #[(.ref a1), (.ref a2), (.ref a3)] ∧ Z.Warmed39 U.vm ∧ U.heap = h0) (fun _ _ _ _ _ => True) (fun _ U o U' => ∃ v L, o = .returned v ∧ Q35 Z w_LOWEST w_HIGHEST w_EMPTY_ELEMENTDATA w_DEFAULTCAPACITY_EMPTY_ELEMENTDATA k_w_EMPTY_ELEMENTDATA k_w_DEFAULTCAPACITY_EMPTY_ELEMENTDATA a1 a2 a3 a4 q8 q10 h0 n0 v U'.heap L ∧ FrameEnd U o U' L ({ frames := 1, cells := 0, slots := 0, locals := 14 } : Room).cells ({ frames := 1, cells := 0, slots := 0, locals := 14 } : Room).slots) := by
  refine MetFree.of_bodySF (plainFor_of_name pn_com_example_restrained_scaler_restrainedscaler_decision_StabilizationWindow) hisR ?_
  intro p e s m args below meth c s₁ Bd hml0 hP hK
  obtain ⟨rfl, hZ, hh⟩ := hP
  have hx := Bd.exec
  have hby := Bd.bytes
  have hml : c.maxLocals = 3 := hml0
  have hown : s.vm.findClass "com/example/restrained_scaler/restrainedscaler/decision/StabilizationWindow" = some m.cls := findClass_of_methodNamed Bd.named
  have hnm := (name_of_methodNamed Bd.named Bd.method).1
  have X0 : Stand p l e ({ frames := 1, cells := 0, slots := 0, locals := 14 } : Room) s m #[(.ref a1), (.ref a2), (.ref a3)] below meth c s₁ [] 0 0 := Stand.of_body Bd
  have e0 : s₁.heap = h0 := by rw [← hh, Bd.state]; rfl
  have N0 := Fr.nil n0
  show OGot p.tables e below (s₁.setTop (entryFrame m #[(.ref a1), (.ref a2), (.ref a3)] 3)) _
  refine OGot.go (fun t k => castTop (ef35 m a1 a2 a3) k) ?_
  show OGot p.tables e below (s₁.setTop (mkF m 0 #[.val (.ref a1), .val (.ref a2), .val (.ref a3)] [])) _
  refine OGot.go (fun t k => XS.aloadN X0.here hx rfl (hb hby d35_0) rfl rfl k) ?_
  obtain ⟨T5, X5, e5, st5⟩ := getF X0 hx hZ hown (host := "") (Or.inl (ow hw 103 rfl)) Via.refl e0 F_kept_a1 (g := (mkF m 1 #[.val (.ref a1), .val (.ref a2), .val (.ref a3)] [(.ref a1)])) rfl rfl (hb hby d35_1)
  refine OGot.go st5 ?_
  obtain ⟨T6, X6, e6, st6⟩ := getS2 X5 hx hZ hown (host := "") (Or.inl (ow hw 258 rfl)) Via.refl e5 (G.2.2.1.ext O0.2) (g := (mkF m 4 #[.val (.ref a1), .val (.ref a2), .val (.ref a3)] [(.ref a4)])) rfl (hb hby d35_4)
  refine OGot.go st6 ?_
  show OGot p.tables e below (T6.setTop (mkF m 7 #[.val (.ref a1), .val (.ref a2), .val (.ref a3)] [(.ref w_HIGHEST), (.ref a4)])) _
  by_cases hs7 : a4 = w_HIGHEST
  · refine OGot.go (fun t k => Jvm.RoadKit.acmp (g := (mkF m 7 #[.val (.ref a1), .val (.ref a2), .val (.ref a3)] [(.ref w_HIGHEST), (.ref a4)])) X6 hx rfl rfl rfl (pc0 := 7) (pc' := 10) (same := true) rfl (hb hby d35_7) rfl (decide_eq_true (congrArg Value.ref hs7)) (by decide) (by decide) k) ?_
    refine OGot.go (fun t k => XS.aloadN X6.here hx rfl (hb hby d35_10) rfl rfl k) ?_
    obtain ⟨cq9, kq9, q9a, q9b, q9c⟩ := isOf hZ e6 E_a2
    obtain ⟨_, _, ⟨T9, L9, k9, n9⟩, -, X9, ⟨Lc9, hQ9, l9, y9, z9⟩, st9⟩ := X6.virtualBack hx (y := (⟨"com/example/restrained_scaler/restrainedscaler/decision/Decider$Demand", "desired", "()J"⟩ : MethodName)) (z := (⟨"com/example/restrained_scaler/restrainedscaler/decision/Decider$Demand", "desired", "()J"⟩ : MethodName)) hown (mvT hZ (ow hw 200 rfl)) (mvT hZ (ow hw 201 rfl)) (notFace_of_selects (args := #[]) (mvT hZ (ow hw 203 rfl))) (mvT hZ (ow hw 203 rfl)) (mvT hZ (ow hw 202 rfl)) (by decide) (backOf (W := 0) (rm26 l Z a0 hw [] G a2 q8 h0 n0 O0 F_desired_a2) hZ (ow hw 204 rfl) (ow hw 32 rfl) (by decide) (by decide)) q9a q9c (g := (mkF m 11 #[.val (.ref a1), .val (.ref a2), .val (.ref a3)] [(.ref a2)])) rfl (by rw [hml]; rfl) (Steps.refl _) (argsL := []) (rest := []) (lenOf pd_5 rfl) rfl (by show 2 * 0 + _ ≤ _; exact Nat.le_of_eq rfl) (hb hby d35_11) (fun _ _ => ⟨rfl, e6, (by decide : 0 + 0 ≤ _), (by decide : 0 + 0 ≤ _)⟩)
    dsimp only [Pt.U, Pt.locs, Pt.cells, Pt.slots] at X9 l9 y9 z9 st9 hQ9
    subst l9 y9 z9
    obtain ⟨rfl, N9q, e9⟩ := hQ9
    have N9 := Fr.app N0 N9q
    refine OGot.on st9 ?_
    refine OGot.go (fun t k => XS.aloadN X9.here hx rfl (hb hby d35_14) rfl rfl k) ?_
    obtain ⟨cq11, kq11, q11a, q11b, q11c⟩ := isOf hZ e9 E_a3
    obtain ⟨_, _, ⟨T11, L11, k11, n11⟩, -, X11, ⟨Lc11, hQ11, l11, y11, z11⟩, st11⟩ := X9.virtualBack hx (y := (⟨"com/example/restrained_scaler/restrainedscaler/decision/Decider$Demand", "desired", "()J"⟩ : MethodName)) (z := (⟨"com/example/restrained_scaler/restrainedscaler/decision/Decider$Demand", "desired", "()J"⟩ : MethodName)) hown (mvT hZ (ow hw 200 rfl)) (mvT hZ (ow hw 201 rfl)) (notFace_of_selects (args := #[]) (mvT hZ (ow hw 203 rfl))) (mvT hZ (ow hw 203 rfl)) (mvT hZ (ow hw 202 rfl)) (by decide) (backOf (W := 2) (rm26 l Z a0 hw [] G a3 q10 h0 n0 O0 F_desired_a3) hZ (ow hw 204 rfl) (ow hw 32 rfl) (by decide) (by decide)) q11a q11c (g := (mkF m 15 #[.val (.ref a1), .val (.ref a2), .val (.ref a3)] [(.ref a3), (.long q8)])) rfl (by rw [hml]; rfl) (Steps.refl _) (argsL := []) (rest := [(.long q8)]) (lenOf pd_5 rfl) rfl (by show 2 * 0 + _ ≤ _; exact Nat.le_of_eq rfl) (hb hby d35_15) (fun _ _ => ⟨rfl, e9, (by decide : 0 + 0 ≤ _), (by decide : 0 + 0 ≤ _)⟩)
    dsimp only [Pt.U, Pt.locs, Pt.cells, Pt.slots] at X11 l11 y11 z11 st11 hQ11
    subst l11 y11 z11
    obtain ⟨rfl, N11q, e11⟩ := hQ11
    have N11 := Fr.app N9 N11q
    refine OGot.on st11 ?_
    refine OGot.go (fun t k => XS.lcmp X11.here hx rfl (hb hby d35_18) rfl k) ?_
    show OGot p.tables e below (T11.setTop (mkF m 19 #[.val (.ref a1), .val (.ref a2), .val (.ref a3)] [(.int (lcmpW q8 q10))])) _
    by_cases hs12 : q10 < q8
    · refine OGot.go (fun t k => XS.ifYes X11.here hx rfl (pc0 := 19) (pc' := 26) rfl (hb hby d35_19) rfl ((if0 _ _).trans (tlt ((lw_gt q8 q10).mpr hs12)).2.2.1) (by decide) (by decide) k) ?_
      refine OGot.go (fun t k => XS.iconst X11.here hx rfl (hb hby d35_26) k) ?_
      refine OGot.go (fun t k => XS.goto X11.here hx rfl (pc0 := 27) (pc' := 47) rfl (hb hby d35_27) (by decide) (by decide) k) ?_
      show OGot p.tables e below (T11.setTop (mkF m 47 #[.val (.ref a1), .val (.ref a2), .val (.ref a3)] [(.int (0 : Int32))])) _
      obtain ⟨fs, hr, hrun, hended, hW, hsame⟩ := X11.leave (v := some (.int (0 : Int32))) (fun h => by rw [Bd.returns] at h; cases h)
      refine ⟨_, _, retN X11 hx (t := .boolean) Bd.returns (by simp) (hb hby d35_47) hr, hrun, hended, _, _, rfl, ?_, ⟨_, rfl⟩, hW, hsame.mono (by decide) (by decide)⟩
      exact (⟨(by unfold f35; rw [if_pos hs7, if_pos hs12]), N11, e11⟩ : Q35 Z w_LOWEST w_HIGHEST w_EMPTY_ELEMENTDATA w_DEFAULTCAPACITY_EMPTY_ELEMENTDATA k_w_EMPTY_ELEMENTDATA k_w_DEFAULTCAPACITY_EMPTY_ELEMENTDATA a1 a2 a3 a4 q8 q10 h0 n0 _ T11.heap _)
    · refine OGot.go (fun t k => XS.ifNo X11.here hx rfl (hb hby d35_19) rfl ((if0 _ _).trans (flt (fun q => hs12 ((lw_gt q8 q10).mp q))).2.2.1) k) ?_
      refine OGot.go (fun t k => XS.iconst X11.here hx rfl (hb hby d35_22) k) ?_
      refine OGot.go (fun t k => XS.goto X11.here hx rfl (pc0 := 23) (pc' := 47) rfl (hb hby d35_23) (by decide) (by decide) k) ?_
      show OGot p.tables e below (T11.setTop (mkF m 47 #[.val (.ref a1), .val (.ref a2), .val (.ref a3)] [(.int (1 : Int32))])) _
      obtain ⟨fs, hr, hrun, hended, hW, hsame⟩ := X11.leave (v := some (.int (1 : Int32))) (fun h => by rw [Bd.returns] at h; cases h)
      refine ⟨_, _, retN X11 hx (t := .boolean) Bd.returns (by simp) (hb hby d35_47) hr, hrun, hended, _, _, rfl, ?_, ⟨_, rfl⟩, hW, hsame.mono (by decide) (by decide)⟩
      exact (⟨(by unfold f35; rw [if_pos hs7, if_neg hs12]), N11, e11⟩ : Q35 Z w_LOWEST w_HIGHEST w_EMPTY_ELEMENTDATA w_DEFAULTCAPACITY_EMPTY_ELEMENTDATA k_w_EMPTY_ELEMENTDATA k_w_DEFAULTCAPACITY_EMPTY_ELEMENTDATA a1 a2 a3 a4 q8 q10 h0 n0 _ T11.heap _)
  · refine OGot.go (fun t k => Jvm.RoadKit.acmp (g := (mkF m 7 #[.val (.ref a1), .val (.ref a2), .val (.ref a3)] [(.ref w_HIGHEST), (.ref a4)])) X6 hx rfl rfl rfl (pc0 := 7) (pc' := 30) (same := false) rfl (hb hby d35_7) rfl (decide_eq_false fun q => hs7 (Value.ref.inj q)) (by decide) (by decide) k) ?_
    refine OGot.go (fun t k => XS.aloadN X6.here hx rfl (hb hby d35_30) rfl rfl k) ?_
    obtain ⟨cq13, kq13, q13a, q13b, q13c⟩ := isOf hZ e6 E_a2
    obtain ⟨_, _, ⟨T13, L13, k13, n13⟩, -, X13, ⟨Lc13, hQ13, l13, y13, z13⟩, st13⟩ := X6.virtualBack hx (y := (⟨"com/example/restrained_scaler/restrainedscaler/decision/Decider$Demand", "desired", "()J"⟩ : MethodName)) (z := (⟨"com/example/restrained_scaler/restrainedscaler/decision/Decider$Demand", "desired", "()J"⟩ : MethodName)) hown (mvT hZ (ow hw 200 rfl)) (mvT hZ (ow hw 201 rfl)) (notFace_of_selects (args := #[]) (mvT hZ (ow hw 203 rfl))) (mvT hZ (ow hw 203 rfl)) (mvT hZ (ow hw 202 rfl)) (by decide) (backOf (W := 0) (rm26 l Z a0 hw [] G a2 q8 h0 n0 O0 F_desired_a2) hZ (ow hw 204 rfl) (ow hw 32 rfl) (by decide) (by decide)) q13a q13c (g := (mkF m 31 #[.val (.ref a1), .val (.ref a2), .val (.ref a3)] [(.ref a2)])) rfl (by rw [hml]; rfl) (Steps.refl _) (argsL := []) (rest := []) (lenOf pd_5 rfl) rfl (by show 2 * 0 + _ ≤ _; exact Nat.le_of_eq rfl) (hb hby d35_31) (fun _ _ => ⟨rfl, e6, (by decide : 0 + 0 ≤ _), (by decide : 0 + 0 ≤ _)⟩)
    dsimp only [Pt.U, Pt.locs, Pt.cells, Pt.slots] at X13 l13 y13 z13 st13 hQ13
    subst l13 y13 z13
    obtain ⟨rfl, N13q, e13⟩ := hQ13
    have N13 := Fr.app N0 N13q
    refine OGot.on st13 ?_
    refine OGot.go (fun t k => XS.aloadN X13.here hx rfl (hb hby d35_34) rfl rfl k) ?_
    obtain ⟨cq14, kq14, q14a, q14b, q14c⟩ := isOf hZ e13 E_a3
    obtain ⟨_, _, ⟨T14, L14, k14, n14⟩, -, X14, ⟨Lc14, hQ14, l14, y14, z14⟩, st14⟩ := X13.virtualBack hx (y := (⟨"com/example/restrained_scaler/restrainedscaler/decision/Decider$Demand", "desired", "()J"⟩ : MethodName)) (z := (⟨"com/example/restrained_scaler/restrainedscaler/decision/Decider$Demand", "desired", "()J"⟩ : MethodName)) hown (mvT hZ (ow hw 200 rfl)) (mvT hZ (ow hw 201 rfl)) (notFace_of_selects (args := #[]) (mvT hZ (ow hw 203 rfl))) (mvT hZ (ow hw 203 rfl)) (mvT hZ (ow hw 202 rfl)) (by decide) (backOf (W := 2) (rm26 l Z a0 hw [] G a3 q10 h0 n0 O0 F_desired_a3) hZ (ow hw 204 rfl) (ow hw 32 rfl) (by decide) (by decide)) q14a q14c (g := (mkF m 35 #[.val (.ref a1), .val (.ref a2), .val (.ref a3)] [(.ref a3), (.long q8)])) rfl (by rw [hml]; rfl) (Steps.refl _) (argsL := []) (rest := [(.long q8)]) (lenOf pd_5 rfl) rfl (by show 2 * 0 + _ ≤ _; exact Nat.le_of_eq rfl) (hb hby d35_35) (fun _ _ => ⟨rfl, e13, (by decide : 0 + 0 ≤ _), (by decide : 0 + 0 ≤ _)⟩)
    dsimp only [Pt.U, Pt.locs, Pt.cells, Pt.slots] at X14 l14 y14 z14 st14 hQ14
    subst l14 y14 z14
    obtain ⟨rfl, N14q, e14⟩ := hQ14
    have N14 := Fr.app N13 N14q
    refine OGot.on st14 ?_
    refine OGot.go (fun t k => XS.lcmp X14.here hx rfl (hb hby d35_38) rfl k) ?_
    show OGot p.tables e below (T14.setTop (mkF m 39 #[.val (.ref a1), .val (.ref a2), .val (.ref a3)] [(.int (lcmpW q8 q10))])) _
    by_cases hs15 : q8 < q10
    · refine OGot.go (fun t k => XS.ifYes X14.here hx rfl (pc0 := 39) (pc' := 46) rfl (hb hby d35_39) rfl ((if0 _ _).trans (tlt ((lw_lt q8 q10).mpr hs15)).1) (by decide) (by decide) k) ?_
      refine OGot.go (fun t k => XS.iconst X14.here hx rfl (hb hby d35_46) k) ?_
      show OGot p.tables e below (T14.setTop (mkF m 47 #[.val (.ref a1), .val (.ref a2), .val (.ref a3)] [(.int (0 : Int32))])) _
      obtain ⟨fs, hr, hrun, hended, hW, hsame⟩ := X14.leave (v := some (.int (0 : Int32))) (fun h => by rw [Bd.returns] at h; cases h)
      refine ⟨_, _, retN X14 hx (t := .boolean) Bd.returns (by simp) (hb hby d35_47) hr, hrun, hended, _, _, rfl, ?_, ⟨_, rfl⟩, hW, hsame.mono (by decide) (by decide)⟩
      exact (⟨(by unfold f35; rw [if_neg hs7, if_pos hs15]), N14, e14⟩ : Q35 Z w_LOWEST w_HIGHEST w_EMPTY_ELEMENTDATA w_DEFAULTCAPACITY_EMPTY_ELEMENTDATA k_w_EMPTY_ELEMENTDATA k_w_DEFAULTCAPACITY_EMPTY_ELEMENTDATA a1 a2 a3 a4 q8 q10 h0 n0 _ T14.heap _)
    · refine OGot.go (fun t k => XS.ifNo X14.here hx rfl (hb hby d35_39) rfl ((if0 _ _).trans (flt (fun q => hs15 ((lw_lt q8 q10).mp q))).1) k) ?_
      refine OGot.go (fun t k => XS.iconst X14.here hx rfl (hb hby d35_42) k) ?_
      refine OGot.go (fun t k => XS.goto X14.here hx rfl (pc0 := 43) (pc' := 47) rfl (hb hby d35_43) (by decide) (by decide) k) ?_
      show OGot p.tables e below (T14.setTop (mkF m 47 #[.val (.ref a1), .val (.ref a2), .val (.ref a3)] [(.int (1 : Int32))])) _
      obtain ⟨fs, hr, hrun, hended, hW, hsame⟩ := X14.leave (v := some (.int (1 : Int32))) (fun h => by rw [Bd.returns] at h; cases h)
      refine ⟨_, _, retN X14 hx (t := .boolean) Bd.returns (by simp) (hb hby d35_47) hr, hrun, hended, _, _, rfl, ?_, ⟨_, rfl⟩, hW, hsame.mono (by decide) (by decide)⟩
      exact (⟨(by unfold f35; rw [if_neg hs7, if_neg hs15]), N14, e14⟩ : Q35 Z w_LOWEST w_HIGHEST w_EMPTY_ELEMENTDATA w_DEFAULTCAPACITY_EMPTY_ELEMENTDATA k_w_EMPTY_ELEMENTDATA k_w_DEFAULTCAPACITY_EMPTY_ELEMENTDATA a1 a2 a3 a4 q8 q10 h0 n0 _ T14.heap _)
theorem pd_6 : parseMethodDescriptor "(Lcom/example/restrained_scaler/restrainedscaler/decision/Decider$Demand;Lcom/example/restrained_scaler/restrainedscaler/decision/Decider$Demand;)Z" = some ⟨[(.object "com/example/restrained_scaler/restrainedscaler/decision/Decider$Demand"), (.object "com/example/restrained_scaler/restrainedscaler/decision/Decider$Demand")], some .boolean⟩ := by decide +kernel
theorem d19_29 : decode prog_24_method_5_code 29 = .ok (.ifCond .eq 16, 3) := by decide +kernel
set_option maxRecDepth 65536 in
set_option maxHeartbeats 40000000 in
theorem kpB {p : Program} {l : Launch} {e : Env} {s : State} {m : MethodId} {args : Array Value} {below : List Frame} {meth : Method} {c : Code} {T0 : State} {locs : List Loc} {Z : State} {a0 : Array Value} (hw : ∀ d ∈ tables_1, d.before a0 Z = true) {w_LOWEST : Addr} {w_HIGHEST : Addr} {w_EMPTY_ELEMENTDATA : Addr} {w_DEFAULTCAPACITY_EMPTY_ELEMENTDATA : Addr} {k_w_EMPTY_ELEMENTDATA : ClassId} {k_w_DEFAULTCAPACITY_EMPTY_ELEMENTDATA : ClassId} (G : Glob Z w_LOWEST w_HIGHEST w_EMPTY_ELEMENTDATA w_DEFAULTCAPACITY_EMPTY_ELEMENTDATA k_w_EMPTY_ELEMENTDATA k_w_DEFAULTCAPACITY_EMPTY_ELEMENTDATA) (X0 : Stand p l e ({ frames := 3, cells := 0, slots := 0, locals := 60 } : Room) s m args below meth c T0 locs 0 0) (hx : p.tables.exec = Jvm.exec) (hZ : Z.Warmed39 s.vm) (hby : c.code = prog_24_method_5_code) (hml : c.maxLocals = 2) (hown : s.vm.findClass "com/example/restrained_scaler/restrainedscaler/decision/StabilizationWindow" = some m.cls) (aW : Addr) (dq : Addr) (ar : Addr) (kp : Addr) (sec : Int64) (kA : ClassId) (hd : Int32) (tl : Int32) (vs : List Value) (aD : Addr) (tN : Int64) (eN : Int64) (aX : Addr) (tX : Int64) (eX : Int64) (h0 : Heap) (n0 : Nat) (O0 : Old Z n0 h0) (e0 : T0.heap = h0) (N0 : Fr n0 locs) (E_aW : Exa Z h0 aW "com/example/restrained_scaler/restrainedscaler/decision/StabilizationWindow") (F_demands_aW : Fld Z h0 aW "com/example/restrained_scaler/restrainedscaler/decision/StabilizationWindow" "demands" "Ljava/util/Deque;" (.ref dq)) (F_kept_aW : Fld Z h0 aW "com/example/restrained_scaler/restrainedscaler/decision/StabilizationWindow" "kept" "Lcom/example/restrained_scaler/restrainedscaler/decision/StabilizationWindow$Kept;" (.ref kp)) (F_seconds_aW : Fld Z h0 aW "com/example/restrained_scaler/restrainedscaler/decision/StabilizationWindow" "seconds" "J" (.long sec)) (E_dq : Exa Z h0 dq "java/util/ArrayDeque") (F_head_dq : Fld Z h0 dq "java/util/ArrayDeque" "head" "I" (.int hd)) (F_tail_dq : Fld Z h0 dq "java/util/ArrayDeque" "tail" "I" (.int tl)) (F_elements_dq : Fld Z h0 dq "java/util/ArrayDeque" "elements" "[Ljava/lang/Object;" (.ref ar)) (E_ar : Exa Z h0 ar "[Ljava/lang/Object;") (V_ar : Arv Z h0 ar kA (.object "java/lang/Object") (17 : Int32) vs .null) (O_kA : Ovr Z kA "java/lang/Object") (g_dq : n0 ≤ dq) (g_ar : n0 ≤ ar) (E_aD : Exa Z h0 aD "com/example/restrained_scaler/restrainedscaler/decision/Decider$Demand") (F_time_aD : Fld Z h0 aD "com/example/restrained_scaler/restrainedscaler/decision/Decider$Demand" "time" "J" (.long tN)) (F_desired_aD : Fld Z h0 aD "com/example/restrained_scaler/restrainedscaler/decision/Decider$Demand" "desired" "J" (.long eN)) (E_aX : Exa Z h0 aX "com/example/restrained_scaler/restrainedscaler/decision/Decider$Demand") (F_time_aX : Fld Z h0 aX "com/example/restrained_scaler/restrainedscaler/decision/Decider$Demand" "time" "J" (.long tX)) (F_desired_aX : Fld Z h0 aX "com/example/restrained_scaler/restrainedscaler/decision/Decider$Demand" "desired" "J" (.long eX)) (hc_1 : ¬ (hd = tl)) (hc_2 : ¬ ((tl + (-1 : Int32)) < (0 : Int32))) (hg_1 : (vs).getD ((tl + (-1 : Int32))).toNatClampNeg .null = (.ref aX)) (hi_1 : ¬ (tl + (-1 : Int32)) < 0 ∧ (tl + (-1 : Int32)) < (17 : Int32)) (hc_3 : (f35 w_HIGHEST kp eX eN) = (0 : Int32)) (hc_4 : (tl + (1 : Int32)) < (17 : Int32)) (hc_5 : ¬ (hd = (tl + (1 : Int32)))) (hi_2 : ¬ tl < 0 ∧ tl < (17 : Int32)) (hl_1 : (tl).toNatClampNeg < (vs).length) :
    ∃ (T' : State) (L' : List Loc) (h' : Heap), Stand p l e ({ frames := 3, cells := 0, slots := 0, locals := 60 } : Room) s m args below meth c T' L' 0 0 ∧ T'.heap = h' ∧ Fr n0 L' ∧ Old Z n0 h' ∧ (∀ t, Steps p.tables e below (T'.setTop (mkF m 55 #[.val (.ref aW), .val (.ref aD)] [])) t → Steps p.tables e below (T0.setTop (mkF m 0 #[.val (.ref aW), .val (.ref aD)] [])) t) ∧ OKeep h0 h' [(dq, Jvm.RoadKit.slotOf Z "java/util/ArrayDeque" "tail" "I"), (ar, (tl).toNatClampNeg)] ∧ Exa Z h' aW "com/example/restrained_scaler/restrainedscaler/decision/StabilizationWindow" ∧ Fld Z h' aW "com/example/restrained_scaler/restrainedscaler/decision/StabilizationWindow" "demands" "Ljava/util/Deque;" (.ref dq) ∧ Fld Z h' aW "com/example/restrained_scaler/restrainedscaler/decision/StabilizationWindow" "kept" "Lcom/example/restrained_scaler/restrainedscaler/decision/StabilizationWindow$Kept;" (.ref kp) ∧ Fld Z h' aW "com/example/restrained_scaler/restrainedscaler/decision/StabilizationWindow" "seconds" "J" (.long sec) ∧ Exa Z h' dq "java/util/ArrayDeque" ∧ Fld Z h' dq "java/util/ArrayDeque" "head" "I" (.int hd) ∧ Fld Z h' dq "java/util/ArrayDeque" "tail" "I" (.int (tl + (1 : Int32))) ∧ Fld Z h' dq "java/util/ArrayDeque" "elements" "[Ljava/lang/Object;" (.ref ar) ∧ Exa Z h' ar "[Ljava/lang/Object;" ∧ Arv Z h' ar kA (.object "java/lang/Object") (17 : Int32) (vs.set (tl).toNatClampNeg (.ref aD)) .null ∧ Exa Z h' aD "com/example/restrained_scaler/restrainedscaler/decision/Decider$Demand" ∧ Fld Z h' aD "com/example/restrained_scaler/restrainedscaler/decision/Decider$Demand" "time" "J" (.long tN) ∧ Fld Z h' aD "com/example/restrained_scaler/restrainedscaler/decision/Decider$Demand" "desired" "J" (.long eN) ∧ Exa Z h' aX "com/example/restrained_scaler/restrainedscaler/decision/Decider$Demand" ∧ Fld Z h' aX "com/example/restrained_scaler/restrainedscaler/decision/Decider$Demand" "time" "J" (.long tX) ∧ Fld Z h' aX "com/example/restrained_scaler/restrainedscaler/decision/Decider$Demand" "desired" "J" (.long eX) := by
  obtain ⟨T101, X101, e101, st101⟩ := getF X0 hx hZ hown (host := "") (Or.inl (ow hw 99 rfl)) Via.refl e0 F_demands_aW (g := (mkF m 1 #[.val (.ref aW), .val (.ref aD)] [(.ref aW)])) rfl rfl (hb hby d19_1)
  obtain ⟨cq102, kq102, q102a, q102b, q102c⟩ := isOf hZ e101 E_dq
  obtain ⟨_, _, ⟨T102, L102, k102, n102⟩, -, X102, ⟨Lc102, hQ102, l102, y102, z102⟩, st102⟩ := ointerfaceBackUp X101 hx (J := "java/util/Collection") (xi := (⟨"java/util/Deque", "isEmpty", "()Z"⟩ : MethodName)) (y := (⟨"java/util/ArrayDeque", "isEmpty", "()Z"⟩ : MethodName)) hown (mvT hZ (ow hw 160 rfl)) (mvT hZ (ow hw 161 rfl)) (omvI hZ (ow hw 162 rfl)) (by decide) (mvT hZ (ow hw 163 rfl)) (mvT hZ (ow hw 164 rfl)) (mvT hZ (ow hw 165 rfl)) (mvT hZ (ow hw 166 rfl)) (mvT hZ (ow hw 167 rfl)) (by decide) (by decide) (backOf (W := 0) (rm20_1 l Z a0 hw [] G dq hd tl h0 n0 O0 F_head_dq F_tail_dq hc_1) hZ (ow hw 168 rfl) (ow hw 90 rfl) (by decide) (by decide)) q102a q102b q102c (g := (mkF m 4 #[.val (.ref aW), .val (.ref aD)] [(.ref dq)])) rfl (by rw [hml]; rfl) (Steps.refl _) (argsL := []) (rest := []) (lenOf pd_0 rfl) rfl (by show 2 * 0 + _ ≤ _; exact Nat.le_of_eq rfl) (hb hby d19_4) (fun _ _ => ⟨rfl, e101, (by decide : 0 + 0 ≤ _), (by decide : 0 + 0 ≤ _)⟩)
  dsimp only [Pt.U, Pt.locs, Pt.cells, Pt.slots] at X102 l102 y102 z102 st102 hQ102
  subst l102 y102 z102
  obtain ⟨rfl, N102q, e102⟩ := hQ102
  have N102 := Fr.app N0 N102q
  obtain ⟨T103, X103, e103, st103⟩ := getF X102 hx hZ hown (host := "") (Or.inl (ow hw 99 rfl)) Via.refl e102 F_demands_aW (g := (mkF m 14 #[.val (.ref aW), .val (.ref aD)] [(.ref aW), (.ref aW)])) rfl rfl (hb hby d19_14)
  obtain ⟨cq104, kq104, q104a, q104b, q104c⟩ := isOf hZ e103 E_dq
  obtain ⟨_, _, ⟨T104, L104, k104, n104⟩, -, X104, ⟨Lc104, hQ104, l104, y104, z104⟩, st104⟩ := X103.interfaceBack hx (xi := (⟨"java/util/Deque", "peekLast", "()Ljava/lang/Object;"⟩ : MethodName)) (y := (⟨"java/util/ArrayDeque", "peekLast", "()Ljava/lang/Object;"⟩ : MethodName)) hown (mvT hZ (ow hw 243 rfl)) (mvT hZ (ow hw 244 rfl)) (mvT hZ (ow hw 245 rfl)) (mvT hZ (ow hw 246 rfl)) (mvT hZ (ow hw 247 rfl)) (mvT hZ (ow hw 248 rfl)) (mvT hZ (ow hw 249 rfl)) (mvT hZ (ow hw 167 rfl)) (by decide) (backOf (W := 1) (rm33 l Z a0 hw [] G dq ar tl kA vs aX h0 n0 O0 F_elements_dq F_tail_dq V_ar O_kA hc_2 hg_1 hi_1) hZ (ow hw 250 rfl) (ow hw 90 rfl) (by decide) (by decide)) q104a q104b q104c (g := (mkF m 17 #[.val (.ref aW), .val (.ref aD)] [(.ref dq), (.ref aW)])) rfl (by rw [hml]; rfl) (Steps.refl _) (argsL := []) (rest := [(.ref aW)]) (lenOf pd_4 rfl) rfl (by show 2 * 0 + _ ≤ _; exact Nat.le_of_eq rfl) (hb hby d19_17) (fun _ _ => ⟨rfl, e103, (by decide : 0 + 0 ≤ _), (by decide : 0 + 0 ≤ _)⟩)
  dsimp only [Pt.U, Pt.locs, Pt.cells, Pt.slots] at X104 l104 y104 z104 st104 hQ104
  subst l104 y104 z104
  obtain ⟨rfl, N104q, e104⟩ := hQ104
  have N104 := Fr.app N102 N104q
  obtain ⟨T105, X105, e105, st105⟩ := castY X104 hx hZ hown (ow hw 154 rfl) e104 (Ins.self E_aX) (g := (mkF m 22 #[.val (.ref aW), .val (.ref aD)] [(.ref aX), (.ref aW)])) rfl rfl (hb hby d19_22)
  obtain ⟨cq106, q106, q106'⟩ := E_aW.cell
  obtain ⟨_, _, ⟨T106, L106, k106, n106⟩, -, X106, ⟨Lc106, hQ106, l106, y106, z106⟩, st106⟩ := X105.privateBack hx (y := (⟨"com/example/restrained_scaler/restrainedscaler/decision/StabilizationWindow", "outdone", "(Lcom/example/restrained_scaler/restrainedscaler/decision/Decider$Demand;Lcom/example/restrained_scaler/restrainedscaler/decision/Decider$Demand;)Z"⟩ : MethodName)) hown (mvT hZ (ow hw 254 rfl)) (mvT hZ (ow hw 255 rfl)) (osel hZ (ow hw 82 rfl) (ow hw 255 rfl) (ow hw 256 rfl) (by decide)) (Cond.privateMethod_at (mvP hZ (ow hw 256 rfl) (args := #[]))) (mvT hZ (ow hw 257 rfl)) (by decide) (backOf (W := 0) (rm35 l Z a0 hw [] G aW aX aD kp eX eN h0 n0 O0 F_kept_aW E_aX F_desired_aX E_aD F_desired_aD) hZ (ow hw 257 rfl) (ow hw 83 rfl) (by decide) (by decide)) (g := (mkF m 26 #[.val (.ref aW), .val (.ref aD)] [(.ref aD), (.ref aX), (.ref aW)])) rfl (by rw [hml]; rfl) (Steps.refl _) (a := aW) (by rw [e105]; exact q106) q106' (argsL := [(.ref aX), (.ref aD)]) (rest := []) (lenOf pd_6 rfl) rfl (by show 2 * 0 + _ ≤ _; exact Nat.le_of_eq rfl) (hb hby d19_26) (fun _ _ => ⟨rfl, e105, (by decide : 0 + 0 ≤ _), (by decide : 0 + 0 ≤ _)⟩)
  dsimp only [Pt.U, Pt.locs, Pt.cells, Pt.slots] at X106 l106 y106 z106 st106 hQ106
  subst l106 y106 z106
  obtain ⟨rfl, N106q, e106⟩ := hQ106
  have N106 := Fr.app N104 N106q
  obtain ⟨T107, X107, e107, st107⟩ := getF X106 hx hZ hown (host := "") (Or.inl (ow hw 99 rfl)) Via.refl e106 F_demands_aW (g := (mkF m 46 #[.val (.ref aW), .val (.ref aD)] [(.ref aW)])) rfl rfl (hb hby d19_46)
  have ne108 : dq ≠ ar := (ne_exa E_dq E_ar (by decide))
  obtain ⟨cq109, kq109, q109a, q109b, q109c⟩ := isOf hZ e107 E_dq
  obtain ⟨_, _, ⟨T109, L109, k109, n109⟩, -, X109, ⟨Lc109, hQ109, l109, y109, z109⟩, st109⟩ := X107.interfaceBack hx (xi := (⟨"java/util/Deque", "addLast", "(Ljava/lang/Object;)V"⟩ : MethodName)) (y := (⟨"java/util/ArrayDeque", "addLast", "(Ljava/lang/Object;)V"⟩ : MethodName)) hown (mvT hZ (ow hw 173 rfl)) (mvT hZ (ow hw 174 rfl)) (mvT hZ (ow hw 175 rfl)) (mvT hZ (ow hw 176 rfl)) (mvT hZ (ow hw 177 rfl)) (mvT hZ (ow hw 178 rfl)) (mvT hZ (ow hw 179 rfl)) (mvT hZ (ow hw 167 rfl)) (by decide) (backOf (W := 0) (rm21 l Z a0 hw [] G dq aD ar tl kA vs hd h0 n0 O0 F_elements_dq F_tail_dq V_ar O_kA g_ar hi_2 hl_1 E_aD F_head_dq ne108 hc_4 E_dq g_dq hc_5) hZ (ow hw 180 rfl) (ow hw 90 rfl) (by decide) (by decide)) q109a q109b q109c (g := (mkF m 50 #[.val (.ref aW), .val (.ref aD)] [(.ref aD), (.ref dq)])) rfl (by rw [hml]; rfl) (Steps.refl _) (argsL := [(.ref aD)]) (rest := []) (lenOf pd_2 rfl) rfl (by show 2 * 0 + _ ≤ _; exact Nat.le_of_eq rfl) (hb hby d19_50) (fun _ _ => ⟨rfl, e107, (by decide : 0 + 0 ≤ _), (by decide : 0 + 0 ≤ _)⟩)
  dsimp only [Pt.U, Pt.locs, Pt.cells, Pt.slots] at X109 l109 y109 z109 st109 hQ109
  subst l109 y109 z109
  obtain ⟨N109q, rfl, K109, Fo109_0, Fo109_1⟩ := hQ109
  have Kc109 := (OKeep.refl h0 [(dq, Jvm.RoadKit.slotOf Z "java/util/ArrayDeque" "tail" "I"), (ar, (tl).toNatClampNeg)]).trans K109 (oinS (Or.inl (List.mem_of_getElem? (i := 1) rfl)) (oinS (Or.inl (List.mem_of_getElem? (i := 0) rfl)) oin0))
  have O109 := OKeep.old O0 K109 (ogeS g_ar (ogeS g_dq oge0))
  have N109 := Fr.app N106 N109q
  have ne110 : aW ≠ dq := (ne_exa (OKeep.exa E_aW K109) (OKeep.exa E_dq K109) (by decide))
  have ne111 : aW ≠ ar := (ne_exa (OKeep.exa E_aW K109) (OKeep.exa E_ar K109) (by decide))
  have F112 : Fld Z T109.heap aW "com/example/restrained_scaler/restrainedscaler/decision/StabilizationWindow" "demands" "Ljava/util/Deque;" (.ref dq) := (OKeep.fld F_demands_aW K109 (oninA ne111 (oninA ne110 onin0)))
  have F113 : Fld Z T109.heap aW "com/example/restrained_scaler/restrainedscaler/decision/StabilizationWindow" "kept" "Lcom/example/restrained_scaler/restrainedscaler/decision/StabilizationWindow$Kept;" (.ref kp) := (OKeep.fld F_kept_aW K109 (oninA ne111 (oninA ne110 onin0)))
  have F114 : Fld Z T109.heap aW "com/example/restrained_scaler/restrainedscaler/decision/StabilizationWindow" "seconds" "J" (.long sec) := (OKeep.fld F_seconds_aW K109 (oninA ne111 (oninA ne110 onin0)))
  have F115 : Fld Z T109.heap dq "java/util/ArrayDeque" "head" "I" (.int hd) := (OKeep.fld F_head_dq K109 (oninA ne108 (oninS (slot_ne (Or.inl (ow hw 170 rfl)) (Or.inl (ow hw 172 rfl)) (by decide) (t := .int) (t' := .int) (by decide) (by decide)) onin0)))
  have F116 : Fld Z T109.heap dq "java/util/ArrayDeque" "elements" "[Ljava/lang/Object;" (.ref ar) := (OKeep.fld F_elements_dq K109 (oninA ne108 (oninS (slot_ne (Or.inl (ow hw 98 rfl)) (Or.inl (ow hw 172 rfl)) (by decide) (t := (.array (.object "java/lang/Object"))) (t' := .int) (by decide) (by decide)) onin0)))
  have ne117 : aD ≠ dq := (ne_exa (OKeep.exa E_aD K109) (OKeep.exa E_dq K109) (by decide))
  have ne118 : aD ≠ ar := (ne_exa (OKeep.exa E_aD K109) (OKeep.exa E_ar K109) (by decide))
  have F119 : Fld Z T109.heap aD "com/example/restrained_scaler/restrainedscaler/decision/Decider$Demand" "time" "J" (.long tN) := (OKeep.fld F_time_aD K109 (oninA ne118 (oninA ne117 onin0)))
  have F120 : Fld Z T109.heap aD "com/example/restrained_scaler/restrainedscaler/decision/Decider$Demand" "desired" "J" (.long eN) := (OKeep.fld F_desired_aD K109 (oninA ne118 (oninA ne117 onin0)))
  have ne121 : aX ≠ dq := (ne_exa (OKeep.exa E_aX K109) (OKeep.exa E_dq K109) (by decide))
  have ne122 : aX ≠ ar := (ne_exa (OKeep.exa E_aX K109) (OKeep.exa E_ar K109) (by decide))
  have F123 : Fld Z T109.heap aX "com/example/restrained_scaler/restrainedscaler/decision/Decider$Demand" "time" "J" (.long tX) := (OKeep.fld F_time_aX K109 (oninA ne122 (oninA ne121 onin0)))
  have F124 : Fld Z T109.heap aX "com/example/restrained_scaler/restrainedscaler/decision/Decider$Demand" "desired" "J" (.long eX) := (OKeep.fld F_desired_aX K109 (oninA ne122 (oninA ne121 onin0)))
  refine ⟨T109, _, T109.heap, X109, rfl, N109, O109, fun t k => ?_, Kc109, (OKeep.exa E_aW K109), F112, F113, F114, (OKeep.exa E_dq K109), F115, Fo109_1, F116, (OKeep.exa E_ar K109), Fo109_0, (OKeep.exa E_aD K109), F119, F120, (OKeep.exa E_aX K109), F123, F124⟩
  refine XS.aloadN X0.here hx rfl (hb hby d19_0) rfl rfl ?_
  refine st101 _ ?_
  refine st102.trans ?_
  refine XS.ifNo X102.here hx rfl (hb hby d19_9) rfl (by decide) ?_
  refine XS.aloadN X102.here hx rfl (hb hby d19_12) rfl rfl ?_
  show Steps p.tables e below (T102.setTop (mkF m 13 #[.val (.ref aW), .val (.ref aD)] [(.ref aW)])) _
  refine XS.aloadN X102.here hx rfl (hb hby d19_13) rfl rfl ?_
  refine st103 _ ?_
  refine st104.trans ?_
  refine st105 _ ?_
  refine XS.aloadN X105.here hx rfl (hb hby d19_25) rfl rfl ?_
  refine st106.trans ?_
  show Steps p.tables e below (T106.setTop (mkF m 29 #[.val (.ref aW), .val (.ref aD)] [(.int (f35 w_HIGHEST kp eX eN))])) _
  refine XS.ifYes X106.here hx rfl (pc0 := 29) (pc' := 45) rfl (hb hby d19_29) rfl ((if0 _ _).trans (teq hc_3).1) (by decide) (by decide) ?_
  refine XS.aloadN X106.here hx rfl (hb hby d19_45) rfl rfl ?_
  refine st107 _ ?_
  refine XS.aloadN X107.here hx rfl (hb hby d19_49) rfl rfl ?_
  refine st109.trans ?_
  exact k
theorem d19_32 : decode prog_24_method_5_code 32 = .ok (.aload_n 0, 1) := by decide +kernel
theorem d19_33 : decode prog_24_method_5_code 33 = .ok (.getfield 10, 3) := by decide +kernel
theorem d19_36 : decode prog_24_method_5_code 36 = .ok (.invokeinterface 81 1, 5) := by decide +kernel
theorem d36_0 : decode jdk_21_method_19_code 0 = .ok (.aload_n 0, 1) := by decide +kernel
theorem d36_1 : decode jdk_21_method_19_code 1 = .ok (.invokevirtual 100, 3) := by decide +kernel
theorem d37_0 : decode jdk_21_method_21_code 0 = .ok (.aload_n 0, 1) := by decide +kernel
theorem d37_1 : decode jdk_21_method_21_code 1 = .ok (.getfield 3, 3) := by decide +kernel
theorem d37_4 : decode jdk_21_method_21_code 4 = .ok (.dup, 1) := by decide +kernel
theorem d37_5 : decode jdk_21_method_21_code 5 = .ok (.astore_n 1, 1) := by decide +kernel
theorem d37_6 : decode jdk_21_method_21_code 6 = .ok (.aload_n 0, 1) := by decide +kernel
theorem d37_7 : decode jdk_21_method_21_code 7 = .ok (.getfield 20, 3) := by decide +kernel
theorem d37_10 : decode jdk_21_method_21_code 10 = .ok (.aload_n 1, 1) := by decide +kernel
theorem d37_11 : decode jdk_21_method_21_code 11 = .ok (.arraylength, 1) := by decide +kernel
theorem d37_12 : decode jdk_21_method_21_code 12 = .ok (.invokestatic 68, 3) := by decide +kernel
theorem d37_15 : decode jdk_21_method_21_code 15 = .ok (.dup, 1) := by decide +kernel
theorem d37_16 : decode jdk_21_method_21_code 16 = .ok (.istore_n 2, 1) := by decide +kernel
theorem d37_17 : decode jdk_21_method_21_code 17 = .ok (.invokestatic 103, 3) := by decide +kernel
theorem d37_20 : decode jdk_21_method_21_code 20 = .ok (.astore_n 3, 1) := by decide +kernel
theorem d37_21 : decode jdk_21_method_21_code 21 = .ok (.aload_n 3, 1) := by decide +kernel
theorem d37_22 : decode jdk_21_method_21_code 22 = .ok (.ifnull 12, 3) := by decide +kernel
theorem d37_25 : decode jdk_21_method_21_code 25 = .ok (.aload_n 1, 1) := by decide +kernel
theorem d37_26 : decode jdk_21_method_21_code 26 = .ok (.aload_n 0, 1) := by decide +kernel
theorem d37_27 : decode jdk_21_method_21_code 27 = .ok (.iload_n 2, 1) := by decide +kernel
theorem d37_28 : decode jdk_21_method_21_code 28 = .ok (.dup_x1, 1) := by decide +kernel
theorem d37_29 : decode jdk_21_method_21_code 29 = .ok (.putfield 20, 3) := by decide +kernel
theorem d37_32 : decode jdk_21_method_21_code 32 = .ok (.aconst_null, 1) := by decide +kernel
theorem d37_33 : decode jdk_21_method_21_code 33 = .ok (.aastore, 1) := by decide +kernel
theorem d37_34 : decode jdk_21_method_21_code 34 = .ok (.aload_n 3, 1) := by decide +kernel
theorem d37_35 : decode jdk_21_method_21_code 35 = .ok (.areturn, 1) := by decide +kernel
def Q37 (Z : State) (w_LOWEST : Addr) (w_HIGHEST : Addr) (w_EMPTY_ELEMENTDATA : Addr) (w_DEFAULTCAPACITY_EMPTY_ELEMENTDATA : Addr) (k_w_EMPTY_ELEMENTDATA : ClassId) (k_w_DEFAULTCAPACITY_EMPTY_ELEMENTDATA : ClassId) (a1 : Addr) (a2 : Addr) (p4 : Int32) (k6 : ClassId) (vs7 : List Value) (a10 : Addr) (h0 : Heap) (n0 : Nat) (v : Option Value) (h : Heap) (L : List Loc) : Prop := Fr n0 L ∧ v = some (.ref a10) ∧ OKeep h0 h [(a1, Jvm.RoadKit.slotOf Z "java/util/ArrayDeque" "tail" "I"), (a2, ((p4 + (-1 : Int32))).toNatClampNeg)] ∧ Fld Z h a1 "java/util/ArrayDeque" "tail" "I" (.int (p4 + (-1 : Int32))) ∧ Arv Z h a2 k6 (.object "java/lang/Object") (17 : Int32) (vs7.set ((p4 + (-1 : Int32))).toNatClampNeg .null) .null
theorem ef37 (m : MethodId) (x0 : Addr) : entryFrame m #[(.ref x0)] 4 = mkF m 0 #[.val (.ref x0), .unset, .unset, .unset] [] := by first | (simp [entryFrame, mkF, argsToLocals, Value.category]; done) | rfl
set_option maxRecDepth 65536 in
set_option maxHeartbeats 40000000 in
theorem rm37 (l : Launch) (Z : State) (a0 : Array Value) (hw : ∀ d ∈ tables_1, d.before a0 Z = true) (ws : List Jvm.Cond) {w_LOWEST : Addr} {w_HIGHEST : Addr} {w_EMPTY_ELEMENTDATA : Addr} {w_DEFAULTCAPACITY_EMPTY_ELEMENTDATA : Addr} {k_w_EMPTY_ELEMENTDATA : ClassId} {k_w_DEFAULTCAPACITY_EMPTY_ELEMENTDATA : ClassId} (G : Glob Z w_LOWEST w_HIGHEST w_EMPTY_ELEMENTDATA w_DEFAULTCAPACITY_EMPTY_ELEMENTDATA k_w_EMPTY_ELEMENTDATA k_w_DEFAULTCAPACITY_EMPTY_ELEMENTDATA) (a1 : Addr) (a2 : Addr) (p4 : Int32) (k6 : ClassId) (vs7 : List Value) (a10 : Addr) (h0 : Heap) (n0 : Nat) (O0 : Old Z n0 h0) (F_elements_a1 : Fld Z h0 a1 "java/util/ArrayDeque" "elements" "[Ljava/lang/Object;" (.ref a2)) (F_tail_a1 : Fld Z h0 a1 "java/util/ArrayDeque" "tail" "I" (.int p4)) (V_a2 : Arv Z h0 a2 k6 (.object "java/lang/Object") (17 : Int32) vs7 .null) (O_k6 : Ovr Z k6 "java/lang/Object") (hc_1 : ¬ ((p4 + (-1 : Int32)) < (0 : Int32))) (hg_1 : (vs7).getD ((p4 + (-1 : Int32))).toNatClampNeg .null = (.ref a10)) (hi_1 : ¬ (p4 + (-1 : Int32)) < 0 ∧ (p4 + (-1 : Int32)) < (17 : Int32)) (E_a1 : Exa Z h0 a1 "java/util/ArrayDeque") (g_a1 : n0 ≤ a1) (g_a2 : n0 ≤ a2) (ne_a2_a1 : a2 ≠ a1) (hl_1 : ((p4 + (-1 : Int32))).toNatClampNeg < (vs7).length) :
    MetFree l (⟨"java/util/ArrayDeque", "pollLast", "()Ljava/lang/Object;"⟩ : MethodName) (head1 (Jvm.Cond.code (⟨"java/util/ArrayDeque", "pollLast", "()Ljava/lang/Object;"⟩ : MethodName) jdk_21_method_21_code 4 (some (.object "java/lang/Object")) :: ws) ({ frames := 1, cells := 0, slots := 0, locals := 14 } : Room)) (fun a U => a = #[(.ref a1)] ∧ Z.Warmed39 U.vm ∧ U.heap = h0) (fun _ _ _ _ _ => True) (fun _ U o U' => ∃ v L, o = .returned v ∧ Q37 Z w_LOWEST w_HIGHEST w_EMPTY_ELEMENTDATA w_DEFAULTCAPACITY_EMPTY_ELEMENTDATA k_w_EMPTY_ELEMENTDATA k_w_DEFAULTCAPACITY_EMPTY_ELEMENTDATA a1 a2 p4 k6 vs7 a10 h0 n0 v U'.heap L ∧ FrameEnd U o U' L ({ frames := 1, cells := 0, slots := 0, locals := 14 } : Room).cells ({ frames := 1, cells := 0, slots := 0, locals := 14 } : Room).slots) := by
  refine MetFree.of_bodySF (plainFor_of_name pn_java_util_ArrayDeque) hisR ?_
  intro p e s m args below meth c s₁ Bd hml0 hP hK
  obtain ⟨rfl, hZ, hh⟩ := hP
  have hx := Bd.exec
  have hby := Bd.bytes
  have hml : c.maxLocals = 4 := hml0
  have hown : s.vm.findClass "java/util/ArrayDeque" = some m.cls := findClass_of_methodNamed Bd.named
  have hnm := (name_of_methodNamed Bd.named Bd.method).1
  have X0 : Stand p l e ({ frames := 1, cells := 0, slots := 0, locals := 14 } : Room) s m #[(.ref a1)] below meth c s₁ [] 0 0 := Stand.of_body Bd
  have e0 : s₁.heap = h0 := by rw [← hh, Bd.state]; rfl
  have N0 := Fr.nil n0
  show OGot p.tables e below (s₁.setTop (entryFrame m #[(.ref a1)] 4)) _
  refine OGot.go (fun t k => castTop (ef37 m a1) k) ?_
  show OGot p.tables e below (s₁.setTop (mkF m 0 #[.val (.ref a1), .unset, .unset, .unset] [])) _
  refine OGot.go (fun t k => XS.aloadN X0.here hx rfl (hb hby d37_0) rfl rfl k) ?_
  obtain ⟨T3, X3, e3, st3⟩ := getF X0 hx hZ hown (host := "") (Or.inl (ow hw 97 rfl)) Via.refl e0 F_elements_a1 (g := (mkF m 1 #[.val (.ref a1), .unset, .unset, .unset] [(.ref a1)])) rfl rfl (hb hby d37_1)
  refine OGot.go st3 ?_
  refine OGot.go (fun t k => XS.dup X3.here hx rfl (hb hby d37_4) rfl rfl k) ?_
  refine OGot.go (fun t k => XS.astoreN X3.here hx rfl (hb hby d37_5) rfl rfl (l' := #[.val (.ref a1), .val (.ref a2), .unset, .unset]) rfl k) ?_
  refine OGot.go (fun t k => XS.aloadN X3.here hx rfl (hb hby d37_6) rfl rfl k) ?_
  obtain ⟨T5, X5, e5, st5⟩ := getF X3 hx hZ hown (host := "") (Or.inl (ow hw 171 rfl)) Via.refl e3 F_tail_a1 (g := (mkF m 7 #[.val (.ref a1), .val (.ref a2), .unset, .unset] [(.ref a1), (.ref a2)])) rfl rfl (hb hby d37_7)
  refine OGot.go st5 ?_
  show OGot p.tables e below (T5.setTop (mkF m 10 #[.val (.ref a1), .val (.ref a2), .unset, .unset] [(.int p4), (.ref a2)])) _
  refine OGot.go (fun t k => XS.aloadN X5.here hx rfl (hb hby d37_10) rfl rfl k) ?_
  obtain ⟨cl8, Ar8, -, Sz8, Ng8, -, -⟩ := id (V_a2)
  refine OGot.go (fun t k => X5.arraylength hx (by rw [e5]; exact Ar8.1) (State.isArrayOf_alike hZ.alike Ar8.2.1) (g := (mkF m 11 #[.val (.ref a1), .val (.ref a2), .unset, .unset] [(.ref a2), (.int p4), (.ref a2)])) rfl rfl (hb hby d37_11) _ k) ?_
  rw [len_of Sz8 Ng8]
  obtain ⟨_, _, ⟨T9, L9, k9, n9⟩, -, X9, ⟨Lc9, hQ9, l9, y9, z9⟩, st9⟩ := Jvm.LawKit.callS X5 hx (y := (⟨"java/util/ArrayDeque", "dec", "(II)I"⟩ : MethodName)) hown (mvT hZ (ow hw 251 rfl)) (mvT hZ (ow hw 252 rfl)) (mvT hZ (ow hw 90 rfl)) (mvT hZ (ow hw 253 rfl)) (by decide) (backOf (W := 1) (rm34 l Z a0 hw [] G p4 h0 n0 O0 hc_1) hZ (ow hw 253 rfl) (ow hw 90 rfl) (by decide) (by decide)) (g := (mkF m 12 #[.val (.ref a1), .val (.ref a2), .unset, .unset] [(.int (17 : Int32)), (.int p4), (.ref a2)])) rfl (by rw [hml]; rfl) (argsL := [(.int p4), (.int (17 : Int32))]) (rest := [(.ref a2)]) (lenOf pd_1 rfl) rfl (by show 2 * 0 + _ ≤ _; exact Nat.le_of_eq rfl) (hb hby d37_12) (fun _ _ => ⟨rfl, e5, (by decide : 0 + 0 ≤ _), (by decide : 0 + 0 ≤ _)⟩)
  dsimp only [Pt.U, Pt.locs, Pt.cells, Pt.slots] at X9 l9 y9 z9 st9 hQ9
  subst l9 y9 z9
  obtain ⟨rfl, N9q, e9⟩ := hQ9
  have N9 := Fr.app N0 N9q
  refine OGot.go st9 ?_
  refine OGot.go (fun t k => XS.dup X9.here hx rfl (hb hby d37_15) rfl rfl k) ?_
  refine OGot.go (fun t k => XS.istoreN X9.here hx rfl (hb hby d37_16) rfl (l' := #[.val (.ref a1), .val (.ref a2), .val (.int (p4 + (-1 : Int32))), .unset]) rfl k) ?_
  obtain ⟨_, _, ⟨T11, L11, k11, n11⟩, -, X11, ⟨Lc11, hQ11, l11, y11, z11⟩, st11⟩ := Jvm.LawKit.callS X9 hx (y := (⟨"java/util/ArrayDeque", "elementAt", "([Ljava/lang/Object;I)Ljava/lang/Object;"⟩ : MethodName)) hown (mvT hZ (ow hw 197 rfl)) (mvT hZ (ow hw 198 rfl)) (mvT hZ (ow hw 90 rfl)) (mvT hZ (ow hw 199 rfl)) (by decide) (backOf (W := 0) (rm25 l Z a0 hw [] G a2 (p4 + (-1 : Int32)) k6 vs7 a10 h0 n0 O0 V_a2 O_k6 hg_1 hi_1) hZ (ow hw 199 rfl) (ow hw 90 rfl) (by decide) (by decide)) (g := (mkF m 17 #[.val (.ref a1), .val (.ref a2), .val (.int (p4 + (-1 : Int32))), .unset] [(.int (p4 + (-1 : Int32))), (.ref a2)])) rfl (by rw [hml]; rfl) (argsL := [(.ref a2), (.int (p4 + (-1 : Int32)))]) (rest := []) (lenOf pd_3 rfl) rfl (by show 2 * 0 + _ ≤ _; exact Nat.le_of_eq rfl) (hb hby d37_17) (fun _ _ => ⟨rfl, e9, (by decide : 0 + 0 ≤ _), (by decide : 0 + 0 ≤ _)⟩)
  dsimp only [Pt.U, Pt.locs, Pt.cells, Pt.slots] at X11 l11 y11 z11 st11 hQ11
  subst l11 y11 z11
  obtain ⟨rfl, N11q, e11⟩ := hQ11
  have N11 := Fr.app N9 N11q
  refine OGot.go st11 ?_
  show OGot p.tables e below (T11.setTop (mkF m 20 #[.val (.ref a1), .val (.ref a2), .val (.int (p4 + (-1 : Int32))), .unset] [(.ref a10)])) _
  refine OGot.go (fun t k => XS.astoreN X11.here hx rfl (hb hby d37_20) rfl rfl (l' := #[.val (.ref a1), .val (.ref a2), .val (.int (p4 + (-1 : Int32))), .val (.ref a10)]) rfl k) ?_
  refine OGot.go (fun t k => XS.aloadN X11.here hx rfl (hb hby d37_21) rfl rfl k) ?_
  refine OGot.go (fun t k => XS.ifnullNo X11.here hx rfl (hb hby d37_22) rfl k) ?_
  refine OGot.go (fun t k => XS.aloadN X11.here hx rfl (hb hby d37_25) rfl rfl k) ?_
  refine OGot.go (fun t k => XS.aloadN X11.here hx rfl (hb hby d37_26) rfl rfl k) ?_
  refine OGot.go (fun t k => XS.iloadN X11.here hx rfl (hb hby d37_27) rfl k) ?_
  show OGot p.tables e below (T11.setTop (mkF m 28 #[.val (.ref a1), .val (.ref a2), .val (.int (p4 + (-1 : Int32))), .val (.ref a10)] [(.int (p4 + (-1 : Int32))), (.ref a1), (.ref a2)])) _
  refine OGot.go (fun t k => XS.dupX1 X11.here hx rfl (hb hby d37_28) rfl rfl rfl k) ?_
  obtain ⟨T12, h12, X12, e12, W12, st12⟩ := putF X11 hx hZ hown (host := "") (Or.inl (ow hw 171 rfl)) Via.refl e11 F_tail_a1 E_a1 (Or.inl (ow hw 172 rfl)) (ow hw 89 rfl) (ty := .int) (by decide) rfl rfl (g := (mkF m 29 #[.val (.ref a1), .val (.ref a2), .val (.int (p4 + (-1 : Int32))), .val (.ref a10)] [(.int (p4 + (-1 : Int32))), (.ref a1), (.int (p4 + (-1 : Int32))), (.ref a2)])) rfl rfl (hb hby d37_29)
  refine OGot.go st12 ?_
  have N12 := Fr.snoc X12 N11 g_a1
  have O12 := O0.wr W12 g_a1
  have K12 := (OKeep.refl h0 [(a1, Jvm.RoadKit.slotOf Z "java/util/ArrayDeque" "tail" "I"), (a2, ((p4 + (-1 : Int32))).toNatClampNeg)]).wr W12 (Or.inl (List.mem_of_getElem? (i := 0) rfl))
  have Fw12 : Fld Z h12 a1 "java/util/ArrayDeque" "tail" "I" (.int (p4 + (-1 : Int32))) := F_tail_a1.same W12
  refine OGot.go (fun t k => XS.aconstNull X12.here hx rfl (hb hby d37_32) k) ?_
  have ne13 : a2 ≠ a1 := ne_a2_a1
  have F14 : Arv Z h12 a2 k6 (.object "java/lang/Object") (17 : Int32) vs7 .null := (V_a2.other W12 ne13)
  obtain ⟨cl15, Ar15, qc15, Sz15, Ng15, Hh15, Gg15⟩ := id (F14)
  have hin15 : ¬ ((p4 + (-1 : Int32)) < 0 ∨ cl15.slots.size ≤ ((p4 + (-1 : Int32))).toNatClampNeg) := inb_of Sz15 hi_1
  obtain ⟨T15, h15, X15, e15, W15, st15⟩ := stR X12 hx hZ e12 Ar15 (j := (p4 + (-1 : Int32))) hin15 rfl (Or.inl rfl) (g := (mkF m 33 #[.val (.ref a1), .val (.ref a2), .val (.int (p4 + (-1 : Int32))), .val (.ref a10)] [.null, (.int (p4 + (-1 : Int32))), (.ref a2)])) rfl rfl (hb hby d37_33)
  refine OGot.go st15 ?_
  have N15 := Fr.snoc X15 N12 g_a2
  have O15 := O12.wr W15 g_a2
  have K15 := K12.wr W15 (Or.inl (List.mem_of_getElem? (i := 1) rfl))
  have Va15 : Arv Z h15 a2 k6 (.object "java/lang/Object") (17 : Int32) (vs7.set ((p4 + (-1 : Int32))).toNatClampNeg .null) .null := Arv.set Ar15 qc15 Sz15 Ng15 Hh15 Gg15 rfl W15 ((p4 + (-1 : Int32))).toNatClampNeg rfl hl_1
  refine OGot.go (fun t k => XS.aloadN X15.here hx rfl (hb hby d37_34) rfl rfl k) ?_
  show OGot p.tables e below (T15.setTop (mkF m 35 #[.val (.ref a1), .val (.ref a2), .val (.int (p4 + (-1 : Int32))), .val (.ref a10)] [(.ref a10)])) _
  obtain ⟨fs, hr, hrun, hended, hW, hsame⟩ := X15.leave (v := some (.ref a10)) (fun h => by rw [Bd.returns] at h; cases h)
  refine ⟨_, _, oretA X15 hx Bd.returns rfl rfl (hb hby d37_35) hr, hrun, hended, _, _, rfl, ?_, ⟨_, rfl⟩, hW, hsame.mono (by decide) (by decide)⟩
  have F16 : Fld Z h15 a1 "java/util/ArrayDeque" "tail" "I" (.int (p4 + (-1 : Int32))) := (Fw12.other W15 (Or.inl (Ne.symm ne13)))
  show Q37 Z w_LOWEST w_HIGHEST w_EMPTY_ELEMENTDATA w_DEFAULTCAPACITY_EMPTY_ELEMENTDATA k_w_EMPTY_ELEMENTDATA k_w_DEFAULTCAPACITY_EMPTY_ELEMENTDATA a1 a2 p4 k6 vs7 a10 h0 n0 _ T15.heap _
  rw [e15]
  exact ⟨N15, rfl, K15, F16, Va15⟩
theorem d36_4 : decode jdk_21_method_19_code 4 = .ok (.astore_n 1, 1) := by decide +kernel
theorem d36_5 : decode jdk_21_method_19_code 5 = .ok (.aload_n 1, 1) := by decide +kernel
theorem d36_6 : decode jdk_21_method_19_code 6 = .ok (.ifnonnull 11, 3) := by decide +kernel
theorem d36_17 : decode jdk_21_method_19_code 17 = .ok (.aload_n 1, 1) := by decide +kernel
theorem d36_18 : decode jdk_21_method_19_code 18 = .ok (.areturn, 1) := by decide +kernel
def Q36 (Z : State) (w_LOWEST : Addr) (w_HIGHEST : Addr) (w_EMPTY_ELEMENTDATA : Addr) (w_DEFAULTCAPACITY_EMPTY_ELEMENTDATA : Addr) (k_w_EMPTY_ELEMENTDATA : ClassId) (k_w_DEFAULTCAPACITY_EMPTY_ELEMENTDATA : ClassId) (a1 : Addr) (a2 : Addr) (p3 : Int32) (k4 : ClassId) (vs5 : List Value) (a6 : Addr) (h0 : Heap) (n0 : Nat) (v : Option Value) (h : Heap) (L : List Loc) : Prop := Fr n0 L ∧ v = some (.ref a6) ∧ OKeep h0 h [(a2, ((p3 + (-1 : Int32))).toNatClampNeg), (a1, Jvm.RoadKit.slotOf Z "java/util/ArrayDeque" "tail" "I")] ∧ Arv Z h a2 k4 (.object "java/lang/Object") (17 : Int32) (vs5.set ((p3 + (-1 : Int32))).toNatClampNeg .null) .null ∧ Fld Z h a1 "java/util/ArrayDeque" "tail" "I" (.int (p3 + (-1 : Int32)))
theorem ef36 (m : MethodId) (x0 : Addr) : entryFrame m #[(.ref x0)] 2 = mkF m 0 #[.val (.ref x0), .unset] [] := by first | (simp [entryFrame, mkF, argsToLocals, Value.category]; done) | rfl
set_option maxRecDepth 65536 in
set_option maxHeartbeats 40000000 in
theorem rm36 (l : Launch) (Z : State) (a0 : Array Value) (hw : ∀ d ∈ tables_1, d.before a0 Z = true) (ws : List Jvm.Cond) {w_LOWEST : Addr} {w_HIGHEST : Addr} {w_EMPTY_ELEMENTDATA : Addr} {w_DEFAULTCAPACITY_EMPTY_ELEMENTDATA : Addr} {k_w_EMPTY_ELEMENTDATA : ClassId} {k_w_DEFAULTCAPACITY_EMPTY_ELEMENTDATA : ClassId} (G : Glob Z w_LOWEST w_HIGHEST w_EMPTY_ELEMENTDATA w_DEFAULTCAPACITY_EMPTY_ELEMENTDATA k_w_EMPTY_ELEMENTDATA k_w_DEFAULTCAPACITY_EMPTY_ELEMENTDATA) (a1 : Addr) (a2 : Addr) (p3 : Int32) (k4 : ClassId) (vs5 : List Value) (a6 : Addr) (h0 : Heap) (n0 : Nat) (O0 : Old Z n0 h0) (E_a1 : Exa Z h0 a1 "java/util/ArrayDeque") (F_elements_a1 : Fld Z h0 a1 "java/util/ArrayDeque" "elements" "[Ljava/lang/Object;" (.ref a2)) (F_tail_a1 : Fld Z h0 a1 "java/util/ArrayDeque" "tail" "I" (.int p3)) (V_a2 : Arv Z h0 a2 k4 (.object "java/lang/Object") (17 : Int32) vs5 .null) (O_k4 : Ovr Z k4 "java/lang/Object") (hc_1 : ¬ ((p3 + (-1 : Int32)) < (0 : Int32))) (hg_1 : (vs5).getD ((p3 + (-1 : Int32))).toNatClampNeg .null = (.ref a6)) (g_a1 : n0 ≤ a1) (g_a2 : n0 ≤ a2) (ne_a2_a1 : a2 ≠ a1) (hi_1 : ¬ (p3 + (-1 : Int32)) < 0 ∧ (p3 + (-1 : Int32)) < (17 : Int32)) (hl_1 : ((p3 + (-1 : Int32))).toNatClampNeg < (vs5).length) :
    MetFree l (⟨"java/util/ArrayDeque", "removeLast", "()Ljava/lang/Object;"⟩ : MethodName) (head1 (Jvm.Cond.code (⟨"java/util/ArrayDeque", "removeLast", "()Ljava/lang/Object;"⟩ : MethodName) jdk_21_method_19_code 2 (some (.object "java/lang/Object")) :: ws) ({ frames := 2, cells := 0, slots := 0, locals := 29 } : Room)) (fun a U => a = #[(.ref a1)] ∧ Z.Warmed39 U.vm ∧ U.heap = h0) (fun _ _ _ _ _ => True) (fun _ U o U' => ∃ v L, o = .returned v ∧ Q36 Z w_LOWEST w_HIGHEST w_EMPTY_ELEMENTDATA w_DEFAULTCAPACITY_EMPTY_ELEMENTDATA k_w_EMPTY_ELEMENTDATA k_w_DEFAULTCAPACITY_EMPTY_ELEMENTDATA a1 a2 p3 k4 vs5 a6 h0 n0 v U'.heap L ∧ FrameEnd U o U' L ({ frames := 2, cells := 0, slots := 0, locals := 29 } : Room).cells ({ frames := 2, cells := 0, slots := 0, locals := 29 } : Room).slots) := by
  refine MetFree.of_bodySF (plainFor_of_name pn_java_util_ArrayDeque) hisR ?_
  intro p e s m args below meth c s₁ Bd hml0 hP hK
  obtain ⟨rfl, hZ, hh⟩ := hP
  have hx := Bd.exec
  have hby := Bd.bytes
  have hml : c.maxLocals = 2 := hml0
  have hown : s.vm.findClass "java/util/ArrayDeque" = some m.cls := findClass_of_methodNamed Bd.named
  have hnm := (name_of_methodNamed Bd.named Bd.method).1
  have X0 : Stand p l e ({ frames := 2, cells := 0, slots := 0, locals := 29 } : Room) s m #[(.ref a1)] below meth c s₁ [] 0 0 := Stand.of_body Bd
  have e0 : s₁.heap = h0 := by rw [← hh, Bd.state]; rfl
  have N0 := Fr.nil n0
  show OGot p.tables e below (s₁.setTop (entryFrame m #[(.ref a1)] 2)) _
  refine OGot.go (fun t k => castTop (ef36 m a1) k) ?_
  show OGot p.tables e below (s₁.setTop (mkF m 0 #[.val (.ref a1), .unset] [])) _
  refine OGot.go (fun t k => XS.aloadN X0.here hx rfl (hb hby d36_0) rfl rfl k) ?_
  have ne7 : a2 ≠ a1 := ne_a2_a1
  obtain ⟨cq8, kq8, q8a, q8b, q8c⟩ := isOf hZ e0 E_a1
  obtain ⟨_, _, ⟨T8, L8, k8, n8⟩, -, X8, ⟨Lc8, hQ8, l8, y8, z8⟩, st8⟩ := X0.virtualBack hx (y := (⟨"java/util/ArrayDeque", "pollLast", "()Ljava/lang/Object;"⟩ : MethodName)) (z := (⟨"java/util/ArrayDeque", "pollLast", "()Ljava/lang/Object;"⟩ : MethodName)) hown (mvT hZ (ow hw 267 rfl)) (mvT hZ (ow hw 268 rfl)) (notFace_of_selects (args := #[]) (mvT hZ (ow hw 270 rfl))) (mvT hZ (ow hw 270 rfl)) (mvT hZ (ow hw 269 rfl)) (by decide) (backOf (W := 0) (rm37 l Z a0 hw [] G a1 a2 p3 k4 vs5 a6 h0 n0 O0 F_elements_a1 F_tail_a1 V_a2 O_k4 hc_1 hg_1 hi_1 E_a1 g_a1 g_a2 ne7 hl_1) hZ (ow hw 271 rfl) (ow hw 90 rfl) (by decide) (by decide)) q8a q8c (g := (mkF m 1 #[.val (.ref a1), .unset] [(.ref a1)])) rfl (by rw [hml]; rfl) (Steps.refl _) (argsL := []) (rest := []) (lenOf pd_4 rfl) rfl (by show 2 * 0 + _ ≤ _; exact Nat.le_of_eq rfl) (hb hby d36_1) (fun _ _ => ⟨rfl, e0, (by decide : 0 + 0 ≤ _), (by decide : 0 + 0 ≤ _)⟩)
  dsimp only [Pt.U, Pt.locs, Pt.cells, Pt.slots] at X8 l8 y8 z8 st8 hQ8
  subst l8 y8 z8
  obtain ⟨N8q, rfl, K8, Fo8_0, Fo8_1⟩ := hQ8
  have Kc8 := (OKeep.refl h0 [(a2, ((p3 + (-1 : Int32))).toNatClampNeg), (a1, Jvm.RoadKit.slotOf Z "java/util/ArrayDeque" "tail" "I")]).trans K8 (oinS (Or.inl (List.mem_of_getElem? (i := 1) rfl)) (oinS (Or.inl (List.mem_of_getElem? (i := 0) rfl)) oin0))
  have O8 := OKeep.old O0 K8 (ogeS g_a1 (ogeS g_a2 oge0))
  have N8 := Fr.app N0 N8q
  refine OGot.on st8 ?_
  refine OGot.go (fun t k => XS.astoreN X8.here hx rfl (hb hby d36_4) rfl rfl (l' := #[.val (.ref a1), .val (.ref a6)]) rfl k) ?_
  refine OGot.go (fun t k => XS.aloadN X8.here hx rfl (hb hby d36_5) rfl rfl k) ?_
  refine OGot.go (fun t k => XS.ifnonnullYes X8.here hx rfl (pc0 := 6) (pc' := 17) rfl (hb hby d36_6) rfl (by decide) (by decide) k) ?_
  refine OGot.go (fun t k => XS.aloadN X8.here hx rfl (hb hby d36_17) rfl rfl k) ?_
  show OGot p.tables e below (T8.setTop (mkF m 18 #[.val (.ref a1), .val (.ref a6)] [(.ref a6)])) _
  obtain ⟨fs, hr, hrun, hended, hW, hsame⟩ := X8.leave (v := some (.ref a6)) (fun h => by rw [Bd.returns] at h; cases h)
  refine ⟨_, _, oretA X8 hx Bd.returns rfl rfl (hb hby d36_18) hr, hrun, hended, _, _, rfl, ?_, ⟨_, rfl⟩, hW, hsame.mono (by decide) (by decide)⟩
  show Q36 Z w_LOWEST w_HIGHEST w_EMPTY_ELEMENTDATA w_DEFAULTCAPACITY_EMPTY_ELEMENTDATA k_w_EMPTY_ELEMENTDATA k_w_DEFAULTCAPACITY_EMPTY_ELEMENTDATA a1 a2 p3 k4 vs5 a6 h0 n0 _ T8.heap _
  exact ⟨N8, rfl, Kc8, Fo8_1, Fo8_0⟩
theorem d19_41 : decode prog_24_method_5_code 41 = .ok (.pop, 1) := by decide +kernel
theorem d19_42 : decode prog_24_method_5_code 42 = .ok (.goto (-42), 3) := by decide +kernel
set_option maxRecDepth 65536 in
set_option maxHeartbeats 40000000 in
theorem kpC {p : Program} {l : Launch} {e : Env} {s : State} {m : MethodId} {args : Array Value} {below : List Frame} {meth : Method} {c : Code} {T0 : State} {locs : List Loc} {Z : State} {a0 : Array Value} (hw : ∀ d ∈ tables_1, d.before a0 Z = true) {w_LOWEST : Addr} {w_HIGHEST : Addr} {w_EMPTY_ELEMENTDATA : Addr} {w_DEFAULTCAPACITY_EMPTY_ELEMENTDATA : Addr} {k_w_EMPTY_ELEMENTDATA : ClassId} {k_w_DEFAULTCAPACITY_EMPTY_ELEMENTDATA : ClassId} (G : Glob Z w_LOWEST w_HIGHEST w_EMPTY_ELEMENTDATA w_DEFAULTCAPACITY_EMPTY_ELEMENTDATA k_w_EMPTY_ELEMENTDATA k_w_DEFAULTCAPACITY_EMPTY_ELEMENTDATA) (X0 : Stand p l e ({ frames := 3, cells := 0, slots := 0, locals := 60 } : Room) s m args below meth c T0 locs 0 0) (hx : p.tables.exec = Jvm.exec) (hZ : Z.Warmed39 s.vm) (hby : c.code = prog_24_method_5_code) (hml : c.maxLocals = 2) (hown : s.vm.findClass "com/example/restrained_scaler/restrainedscaler/decision/StabilizationWindow" = some m.cls) (aW : Addr) (dq : Addr) (ar : Addr) (kp : Addr) (sec : Int64) (kA : ClassId) (hd : Int32) (tl : Int32) (vs : List Value) (aD : Addr) (tN : Int64) (eN : Int64) (aX : Addr) (tX : Int64) (eX : Int64) (h0 : Heap) (n0 : Nat) (O0 : Old Z n0 h0) (e0 : T0.heap = h0) (N0 : Fr n0 locs) (E_aW : Exa Z h0 aW "com/example/restrained_scaler/restrainedscaler/decision/StabilizationWindow") (F_demands_aW : Fld Z h0 aW "com/example/restrained_scaler/restrainedscaler/decision/StabilizationWindow" "demands" "Ljava/util/Deque;" (.ref dq)) (F_kept_aW : Fld Z h0 aW "com/example/restrained_scaler/restrainedscaler/decision/StabilizationWindow" "kept" "Lcom/example/restrained_scaler/restrainedscaler/decision/StabilizationWindow$Kept;" (.ref kp)) (F_seconds_aW : Fld Z h0 aW "com/example/restrained_scaler/restrainedscaler/decision/StabilizationWindow" "seconds" "J" (.long sec)) (E_dq : Exa Z h0 dq "java/util/ArrayDeque") (F_head_dq : Fld Z h0 dq "java/util/ArrayDeque" "head" "I" (.int hd)) (F_tail_dq : Fld Z h0 dq "java/util/ArrayDeque" "tail" "I" (.int tl)) (F_elements_dq : Fld Z h0 dq "java/util/ArrayDeque" "elements" "[Ljava/lang/Object;" (.ref ar)) (E_ar : Exa Z h0 ar "[Ljava/lang/Object;") (V_ar : Arv Z h0 ar kA (.object "java/lang/Object") (17 : Int32) vs .null) (O_kA : Ovr Z kA "java/lang/Object") (g_dq : n0 ≤ dq) (g_ar : n0 ≤ ar) (E_aD : Exa Z h0 aD "com/example/restrained_scaler/restrainedscaler/decision/Decider$Demand") (F_time_aD : Fld Z h0 aD "com/example/restrained_scaler/restrainedscaler/decision/Decider$Demand" "time" "J" (.long tN)) (F_desired_aD : Fld Z h0 aD "com/example/restrained_scaler/restrainedscaler/decision/Decider$Demand" "desired" "J" (.long eN)) (E_aX : Exa Z h0 aX "com/example/restrained_scaler/restrainedscaler/decision/Decider$Demand") (F_time_aX : Fld Z h0 aX "com/example/restrained_scaler/restrainedscaler/decision/Decider$Demand" "time" "J" (.long tX)) (F_desired_aX : Fld Z h0 aX "com/example/restrained_scaler/restrainedscaler/decision/Decider$Demand" "desired" "J" (.long eX)) (hc_1 : ¬ (hd = tl)) (hc_2 : ¬ ((tl + (-1 : Int32)) < (0 : Int32))) (hg_1 : (vs).getD ((tl + (-1 : Int32))).toNatClampNeg .null = (.ref aX)) (hi_1 : ¬ (tl + (-1 : Int32)) < 0 ∧ (tl + (-1 : Int32)) < (17 : Int32)) (hc_3 : ¬ ((f35 w_HIGHEST kp eX eN) = (0 : Int32))) (hl_1 : ((tl + (-1 : Int32))).toNatClampNeg < (vs).length) :
    ∃ (T' : State) (L' : List Loc) (h' : Heap), Stand p l e ({ frames := 3, cells := 0, slots := 0, locals := 60 } : Room) s m args below meth c T' L' 0 0 ∧ T'.heap = h' ∧ Fr n0 L' ∧ Old Z n0 h' ∧ (∀ t, Steps p.tables e below (T'.setTop (mkF m 0 #[.val (.ref aW), .val (.ref aD)] [])) t → Steps p.tables e below (T0.setTop (mkF m 0 #[.val (.ref aW), .val (.ref aD)] [])) t) ∧ OKeep h0 h' [(dq, Jvm.RoadKit.slotOf Z "java/util/ArrayDeque" "tail" "I"), (ar, ((tl + (-1 : Int32))).toNatClampNeg)] ∧ Exa Z h' aW "com/example/restrained_scaler/restrainedscaler/decision/StabilizationWindow" ∧ Fld Z h' aW "com/example/restrained_scaler/restrainedscaler/decision/StabilizationWindow" "demands" "Ljava/util/Deque;" (.ref dq) ∧ Fld Z h' aW "com/example/restrained_scaler/restrainedscaler/decision/StabilizationWindow" "kept" "Lcom/example/restrained_scaler/restrainedscaler/decision/StabilizationWindow$Kept;" (.ref kp) ∧ Fld Z h' aW "com/example/restrained_scaler/restrainedscaler/decision/StabilizationWindow" "seconds" "J" (.long sec) ∧ Exa Z h' dq "java/util/ArrayDeque" ∧ Fld Z h' dq "java/util/ArrayDeque" "head" "I" (.int hd) ∧ Fld Z h' dq "java/util/ArrayDeque" "tail" "I" (.int (tl + (-1 : Int32))) ∧ Fld Z h' dq "java/util/ArrayDeque" "elements" "[Ljava/lang/Object;" (.ref ar) ∧ Exa Z h' ar "[Ljava/lang/Object;" ∧ Arv Z h' ar kA (.object "java/lang/Object") (17 : Int32) (vs.set ((tl + (-1 : Int32))).toNatClampNeg .null) .null ∧ Exa Z h' aD "com/example/restrained_scaler/restrainedscaler/decision/Decider$Demand" ∧ Fld Z h' aD "com/example/restrained_scaler/restrainedscaler/decision/Decider$Demand" "time" "J" (.long tN) ∧ Fld Z h' aD "com/example/restrained_scaler/restrainedscaler/decision/Decider$Demand" "desired" "J" (.long eN) ∧ Exa Z h' aX "com/example/restrained_scaler/restrainedscaler/decision/Decider$Demand" ∧ Fld Z h' aX "com/example/restrained_scaler/restrainedscaler/decision/Decider$Demand" "time" "J" (.long tX) ∧ Fld Z h' aX "com/example/restrained_scaler/restrainedscaler/decision/Decider$Demand" "desired" "J" (.long eX) := by
  obtain ⟨T101, X101, e101, st101⟩ := getF X0 hx hZ hown (host := "") (Or.inl (ow hw 99 rfl)) Via.refl e0 F_demands_aW (g := (mkF m 1 #[.val (.ref aW), .val (.ref aD)] [(.ref aW)])) rfl rfl (hb hby d19_1)
  obtain ⟨cq102, kq102, q102a, q102b, q102c⟩ := isOf hZ e101 E_dq
  obtain ⟨_, _, ⟨T102, L102, k102, n102⟩, -, X102, ⟨Lc102, hQ102, l102, y102, z102⟩, st102⟩ := ointerfaceBackUp X101 hx (J := "java/util/Collection") (xi := (⟨"java/util/Deque", "isEmpty", "()Z"⟩ : MethodName)) (y := (⟨"java/util/ArrayDeque", "isEmpty", "()Z"⟩ : MethodName)) hown (mvT hZ (ow hw 160 rfl)) (mvT hZ (ow hw 161 rfl)) (omvI hZ (ow hw 162 rfl)) (by decide) (mvT hZ (ow hw 163 rfl)) (mvT hZ (ow hw 164 rfl)) (mvT hZ (ow hw 165 rfl)) (mvT hZ (ow hw 166 rfl)) (mvT hZ (ow hw 167 rfl)) (by decide) (by decide) (backOf (W := 0) (rm20_1 l Z a0 hw [] G dq hd tl h0 n0 O0 F_head_dq F_tail_dq hc_1) hZ (ow hw 168 rfl) (ow hw 90 rfl) (by decide) (by decide)) q102a q102b q102c (g := (mkF m 4 #[.val (.ref aW), .val (.ref aD)] [(.ref dq)])) rfl (by rw [hml]; rfl) (Steps.refl _) (argsL := []) (rest := []) (lenOf pd_0 rfl) rfl (by show 2 * 0 + _ ≤ _; exact Nat.le_of_eq rfl) (hb hby d19_4) (fun _ _ => ⟨rfl, e101, (by decide : 0 + 0 ≤ _), (by decide : 0 + 0 ≤ _)⟩)
  dsimp only [Pt.U, Pt.locs, Pt.cells, Pt.slots] at X102 l102 y102 z102 st102 hQ102
  subst l102 y102 z102
  obtain ⟨rfl, N102q, e102⟩ := hQ102
  have N102 := Fr.app N0 N102q
  obtain ⟨T103, X103, e103, st103⟩ := getF X102 hx hZ hown (host := "") (Or.inl (ow hw 99 rfl)) Via.refl e102 F_demands_aW (g := (mkF m 14 #[.val (.ref aW), .val (.ref aD)] [(.ref aW), (.ref aW)])) rfl rfl (hb hby d19_14)
  obtain ⟨cq104, kq104, q104a, q104b, q104c⟩ := isOf hZ e103 E_dq
  obtain ⟨_, _, ⟨T104, L104, k104, n104⟩, -, X104, ⟨Lc104, hQ104, l104, y104, z104⟩, st104⟩ := X103.interfaceBack hx (xi := (⟨"java/util/Deque", "peekLast", "()Ljava/lang/Object;"⟩ : MethodName)) (y := (⟨"java/util/ArrayDeque", "peekLast", "()Ljava/lang/Object;"⟩ : MethodName)) hown (mvT hZ (ow hw 243 rfl)) (mvT hZ (ow hw 244 rfl)) (mvT hZ (ow hw 245 rfl)) (mvT hZ (ow hw 246 rfl)) (mvT hZ (ow hw 247 rfl)) (mvT hZ (ow hw 248 rfl)) (mvT hZ (ow hw 249 rfl)) (mvT hZ (ow hw 167 rfl)) (by decide) (backOf (W := 1) (rm33 l Z a0 hw [] G dq ar tl kA vs aX h0 n0 O0 F_elements_dq F_tail_dq V_ar O_kA hc_2 hg_1 hi_1) hZ (ow hw 250 rfl) (ow hw 90 rfl) (by decide) (by decide)) q104a q104b q104c (g := (mkF m 17 #[.val (.ref aW), .val (.ref aD)] [(.ref dq), (.ref aW)])) rfl (by rw [hml]; rfl) (Steps.refl _) (argsL := []) (rest := [(.ref aW)]) (lenOf pd_4 rfl) rfl (by show 2 * 0 + _ ≤ _; exact Nat.le_of_eq rfl) (hb hby d19_17) (fun _ _ => ⟨rfl, e103, (by decide : 0 + 0 ≤ _), (by decide : 0 + 0 ≤ _)⟩)
  dsimp only [Pt.U, Pt.locs, Pt.cells, Pt.slots] at X104 l104 y104 z104 st104 hQ104
  subst l104 y104 z104
  obtain ⟨rfl, N104q, e104⟩ := hQ104
  have N104 := Fr.app N102 N104q
  obtain ⟨T105, X105, e105, st105⟩ := castY X104 hx hZ hown (ow hw 154 rfl) e104 (Ins.self E_aX) (g := (mkF m 22 #[.val (.ref aW), .val (.ref aD)] [(.ref aX), (.ref aW)])) rfl rfl (hb hby d19_22)
  obtain ⟨cq106, q106, q106'⟩ := E_aW.cell
  obtain ⟨_, _, ⟨T106, L106, k106, n106⟩, -, X106, ⟨Lc106, hQ106, l106, y106, z106⟩, st106⟩ := X105.privateBack hx (y := (⟨"com/example/restrained_scaler/restrainedscaler/decision/StabilizationWindow", "outdone", "(Lcom/example/restrained_scaler/restrainedscaler/decision/Decider$Demand;Lcom/example/restrained_scaler/restrainedscaler/decision/Decider$Demand;)Z"⟩ : MethodName)) hown (mvT hZ (ow hw 254 rfl)) (mvT hZ (ow hw 255 rfl)) (osel hZ (ow hw 82 rfl) (ow hw 255 rfl) (ow hw 256 rfl) (by decide)) (Cond.privateMethod_at (mvP hZ (ow hw 256 rfl) (args := #[]))) (mvT hZ (ow hw 257 rfl)) (by decide) (backOf (W := 0) (rm35 l Z a0 hw [] G aW aX aD kp eX eN h0 n0 O0 F_kept_aW E_aX F_desired_aX E_aD F_desired_aD) hZ (ow hw 257 rfl) (ow hw 83 rfl) (by decide) (by decide)) (g := (mkF m 26 #[.val (.ref aW), .val (.ref aD)] [(.ref aD), (.ref aX), (.ref aW)])) rfl (by rw [hml]; rfl) (Steps.refl _) (a := aW) (by rw [e105]; exact q106) q106' (argsL := [(.ref aX), (.ref aD)]) (rest := []) (lenOf pd_6 rfl) rfl (by show 2 * 0 + _ ≤ _; exact Nat.le_of_eq rfl) (hb hby d19_26) (fun _ _ => ⟨rfl, e105, (by decide : 0 + 0 ≤ _), (by decide : 0 + 0 ≤ _)⟩)
  dsimp only [Pt.U, Pt.locs, Pt.cells, Pt.slots] at X106 l106 y106 z106 st106 hQ106
  subst l106 y106 z106
  obtain ⟨rfl, N106q, e106⟩ := hQ106
  have N106 := Fr.app N104 N106q
  obtain ⟨T107, X107, e107, st107⟩ := getF X106 hx hZ hown (host := "") (Or.inl (ow hw 99 rfl)) Via.refl e106 F_demands_aW (g := (mkF m 33 #[.val (.ref aW), .val (.ref aD)] [(.ref aW)])) rfl rfl (hb hby d19_33)
  have ne108 : ar ≠ dq := (ne_exa E_ar E_dq (by decide))
  obtain ⟨cq109, kq109, q109a, q109b, q109c⟩ := isOf hZ e107 E_dq
  obtain ⟨_, _, ⟨T109, L109, k109, n109⟩, -, X109, ⟨Lc109, hQ109, l109, y109, z109⟩, st109⟩ := X107.interfaceBack hx (xi := (⟨"java/util/Deque", "removeLast", "()Ljava/lang/Object;"⟩ : MethodName)) (y := (⟨"java/util/ArrayDeque", "removeLast", "()Ljava/lang/Object;"⟩ : MethodName)) hown (mvT hZ (ow hw 259 rfl)) (mvT hZ (ow hw 260 rfl)) (mvT hZ (ow hw 261 rfl)) (mvT hZ (ow hw 262 rfl)) (mvT hZ (ow hw 263 rfl)) (mvT hZ (ow hw 264 rfl)) (mvT hZ (ow hw 265 rfl)) (mvT hZ (ow hw 167 rfl)) (by decide) (backOf (W := 0) (rm36 l Z a0 hw [] G dq ar tl kA vs aX h0 n0 O0 E_dq F_elements_dq F_tail_dq V_ar O_kA hc_2 hg_1 g_dq g_ar ne108 hi_1 hl_1) hZ (ow hw 266 rfl) (ow hw 90 rfl) (by decide) (by decide)) q109a q109b q109c (g := (mkF m 36 #[.val (.ref aW), .val (.ref aD)] [(.ref dq)])) rfl (by rw [hml]; rfl) (Steps.refl _) (argsL := []) (rest := []) (lenOf pd_4 rfl) rfl (by show 2 * 0 + _ ≤ _; exact Nat.le_of_eq rfl) (hb hby d19_36) (fun _ _ => ⟨rfl, e107, (by decide : 0 + 0 ≤ _), (by decide : 0 + 0 ≤ _)⟩)
  dsimp only [Pt.U, Pt.locs, Pt.cells, Pt.slots] at X109 l109 y109 z109 st109 hQ109
  subst l109 y109 z109
  obtain ⟨N109q, rfl, K109, Fo109_0, Fo109_1⟩ := hQ109
  have Kc109 := (OKeep.refl h0 [(dq, Jvm.RoadKit.slotOf Z "java/util/ArrayDeque" "tail" "I"), (ar, ((tl + (-1 : Int32))).toNatClampNeg)]).trans K109 (oinS (Or.inl (List.mem_of_getElem? (i := 1) rfl)) (oinS (Or.inl (List.mem_of_getElem? (i := 0) rfl)) oin0))
  have O109 := OKeep.old O0 K109 (ogeS g_ar (ogeS g_dq oge0))
  have N109 := Fr.app N106 N109q
  have ne110 : aW ≠ dq := (ne_exa (OKeep.exa E_aW K109) (OKeep.exa E_dq K109) (by decide))
  have ne111 : aW ≠ ar := (ne_exa (OKeep.exa E_aW K109) (OKeep.exa E_ar K109) (by decide))
  have F112 : Fld Z T109.heap aW "com/example/restrained_scaler/restrainedscaler/decision/StabilizationWindow" "demands" "Ljava/util/Deque;" (.ref dq) := (OKeep.fld F_demands_aW K109 (oninA ne111 (oninA ne110 onin0)))
  have F113 : Fld Z T109.heap aW "com/example/restrained_scaler/restrainedscaler/decision/StabilizationWindow" "kept" "Lcom/example/restrained_scaler/restrainedscaler/decision/StabilizationWindow$Kept;" (.ref kp) := (OKeep.fld F_kept_aW K109 (oninA ne111 (oninA ne110 onin0)))
  have F114 : Fld Z T109.heap aW "com/example/restrained_scaler/restrainedscaler/decision/StabilizationWindow" "seconds" "J" (.long sec) := (OKeep.fld F_seconds_aW K109 (oninA ne111 (oninA ne110 onin0)))
  have F115 : Fld Z T109.heap dq "java/util/ArrayDeque" "head" "I" (.int hd) := (OKeep.fld F_head_dq K109 (oninA (Ne.symm ne108) (oninS (slot_ne (Or.inl (ow hw 170 rfl)) (Or.inl (ow hw 172 rfl)) (by decide) (t := .int) (t' := .int) (by decide) (by decide)) onin0)))
  have F116 : Fld Z T109.heap dq "java/util/ArrayDeque" "elements" "[Ljava/lang/Object;" (.ref ar) := (OKeep.fld F_elements_dq K109 (oninA (Ne.symm ne108) (oninS (slot_ne (Or.inl (ow hw 98 rfl)) (Or.inl (ow hw 172 rfl)) (by decide) (t := (.array (.object "java/lang/Object"))) (t' := .int) (by decide) (by decide)) onin0)))
  have ne117 : aD ≠ dq := (ne_exa (OKeep.exa E_aD K109) (OKeep.exa E_dq K109) (by decide))
  have ne118 : aD ≠ ar := (ne_exa (OKeep.exa E_aD K109) (OKeep.exa E_ar K109) (by decide))
  have F119 : Fld Z T109.heap aD "com/example/restrained_scaler/restrainedscaler/decision/Decider$Demand" "time" "J" (.long tN) := (OKeep.fld F_time_aD K109 (oninA ne118 (oninA ne117 onin0)))
  have F120 : Fld Z T109.heap aD "com/example/restrained_scaler/restrainedscaler/decision/Decider$Demand" "desired" "J" (.long eN) := (OKeep.fld F_desired_aD K109 (oninA ne118 (oninA ne117 onin0)))
  have ne121 : aX ≠ dq := (ne_exa (OKeep.exa E_aX K109) (OKeep.exa E_dq K109) (by decide))
  have ne122 : aX ≠ ar := (ne_exa (OKeep.exa E_aX K109) (OKeep.exa E_ar K109) (by decide))
  have F123 : Fld Z T109.heap aX "com/example/restrained_scaler/restrainedscaler/decision/Decider$Demand" "time" "J" (.long tX) := (OKeep.fld F_time_aX K109 (oninA ne122 (oninA ne121 onin0)))
  have F124 : Fld Z T109.heap aX "com/example/restrained_scaler/restrainedscaler/decision/Decider$Demand" "desired" "J" (.long eX) := (OKeep.fld F_desired_aX K109 (oninA ne122 (oninA ne121 onin0)))
  refine ⟨T109, _, T109.heap, X109, rfl, N109, O109, fun t k => ?_, Kc109, (OKeep.exa E_aW K109), F112, F113, F114, (OKeep.exa E_dq K109), F115, Fo109_1, F116, (OKeep.exa E_ar K109), Fo109_0, (OKeep.exa E_aD K109), F119, F120, (OKeep.exa E_aX K109), F123, F124⟩
  refine XS.aloadN X0.here hx rfl (hb hby d19_0) rfl rfl ?_
  refine st101 _ ?_
  refine st102.trans ?_
  refine XS.ifNo X102.here hx rfl (hb hby d19_9) rfl (by decide) ?_
  refine XS.aloadN X102.here hx rfl (hb hby d19_12) rfl rfl ?_
  show Steps p.tables e below (T102.setTop (mkF m 13 #[.val (.ref aW), .val (.ref aD)] [(.ref aW)])) _
  refine XS.aloadN X102.here hx rfl (hb hby d19_13) rfl rfl ?_
  refine st103 _ ?_
  refine st104.trans ?_
  refine st105 _ ?_
  refine XS.aloadN X105.here hx rfl (hb hby d19_25) rfl rfl ?_
  refine st106.trans ?_
  show Steps p.tables e below (T106.setTop (mkF m 29 #[.val (.ref aW), .val (.ref aD)] [(.int (f35 w_HIGHEST kp eX eN))])) _
  refine XS.ifNo X106.here hx rfl (hb hby d19_29) rfl ((if0 _ _).trans (feq hc_3).1) ?_
  refine XS.aloadN X106.here hx rfl (hb hby d19_32) rfl rfl ?_
  refine st107 _ ?_
  refine st109.trans ?_
  refine XS.pop X109.here hx rfl (hb hby d19_41) rfl rfl ?_
  refine XS.goto X109.here hx rfl (pc0 := 42) (pc' := 0) rfl (hb hby d19_42) (by decide) (by decide) ?_
  show Steps p.tables e below (T109.setTop (mkF m 0 #[.val (.ref aW), .val (.ref aD)] [])) _
  exact k
theorem d27_0 : decode prog_24_method_2_code 0 = .ok (.lload_n 1, 1) := by decide +kernel
theorem d27_1 : decode prog_24_method_2_code 1 = .ok (.aload_n 0, 1) := by decide +kernel
theorem d27_2 : decode prog_24_method_2_code 2 = .ok (.getfield 16, 3) := by decide +kernel
theorem d27_5 : decode prog_24_method_2_code 5 = .ok (.lsub, 1) := by decide +kernel
theorem d27_6 : decode prog_24_method_2_code 6 = .ok (.lstore 5, 2) := by decide +kernel
set_option maxRecDepth 65536 in
set_option maxHeartbeats 40000000 in
theorem adS {p : Program} {l : Launch} {e : Env} {s : State} {m : MethodId} {args : Array Value} {below : List Frame} {meth : Method} {c : Code} {T0 : State} {locs : List Loc} {Z : State} {a0 : Array Value} (hw : ∀ d ∈ tables_1, d.before a0 Z = true) {w_LOWEST : Addr} {w_HIGHEST : Addr} {w_EMPTY_ELEMENTDATA : Addr} {w_DEFAULTCAPACITY_EMPTY_ELEMENTDATA : Addr} {k_w_EMPTY_ELEMENTDATA : ClassId} {k_w_DEFAULTCAPACITY_EMPTY_ELEMENTDATA : ClassId} (G : Glob Z w_LOWEST w_HIGHEST w_EMPTY_ELEMENTDATA w_DEFAULTCAPACITY_EMPTY_ELEMENTDATA k_w_EMPTY_ELEMENTDATA k_w_DEFAULTCAPACITY_EMPTY_ELEMENTDATA) (X0 : Stand p l e ({ frames := 4, cells := 1, slots := 2, locals := 120 } : Room) s m args below meth c T0 locs 0 0) (hx : p.tables.exec = Jvm.exec) (hZ : Z.Warmed39 s.vm) (hby : c.code = prog_24_method_2_code) (hml : c.maxLocals = 7) (hown : s.vm.findClass "com/example/restrained_scaler/restrainedscaler/decision/StabilizationWindow" = some m.cls) (aW : Addr) (dq : Addr) (ar : Addr) (kp : Addr) (sec : Int64) (kA : ClassId) (hd : Int32) (tl : Int32) (vs : List Value) (qT : Int64) (qE : Int64) (h0 : Heap) (n0 : Nat) (O0 : Old Z n0 h0) (e0 : T0.heap = h0) (N0 : Fr n0 locs) (E_aW : Exa Z h0 aW "com/example/restrained_scaler/restrainedscaler/decision/StabilizationWindow") (F_demands_aW : Fld Z h0 aW "com/example/restrained_scaler/restrainedscaler/decision/StabilizationWindow" "demands" "Ljava/util/Deque;" (.ref dq)) (F_kept_aW : Fld Z h0 aW "com/example/restrained_scaler/restrainedscaler/decision/StabilizationWindow" "kept" "Lcom/example/restrained_scaler/restrainedscaler/decision/StabilizationWindow$Kept;" (.ref kp)) (F_seconds_aW : Fld Z h0 aW "com/example/restrained_scaler/restrainedscaler/decision/StabilizationWindow" "seconds" "J" (.long sec)) (E_dq : Exa Z h0 dq "java/util/ArrayDeque") (F_head_dq : Fld Z h0 dq "java/util/ArrayDeque" "head" "I" (.int hd)) (F_tail_dq : Fld Z h0 dq "java/util/ArrayDeque" "tail" "I" (.int tl)) (F_elements_dq : Fld Z h0 dq "java/util/ArrayDeque" "elements" "[Ljava/lang/Object;" (.ref ar)) (E_ar : Exa Z h0 ar "[Ljava/lang/Object;") (V_ar : Arv Z h0 ar kA (.object "java/lang/Object") (17 : Int32) vs .null) (O_kA : Ovr Z kA "java/lang/Object") (g_dq : n0 ≤ dq) (g_ar : n0 ≤ ar) :
    ∃ (T' : State) (L' : List Loc) (h' : Heap), Stand p l e ({ frames := 4, cells := 1, slots := 2, locals := 120 } : Room) s m args below meth c T' L' 0 0 ∧ T'.heap = h' ∧ Fr n0 L' ∧ Old Z n0 h' ∧ (∀ t, Steps p.tables e below (T'.setTop (mkF m 8 #[.val (.ref aW), .val (.long qT), .second, .val (.long qE), .second, .val (.long (qT - sec)), .second] [])) t → Steps p.tables e below (T0.setTop (mkF m 0 #[.val (.ref aW), .val (.long qT), .second, .val (.long qE), .second, .unset, .unset] [])) t) ∧ OKeep h0 h' [] ∧ Exa Z h' aW "com/example/restrained_scaler/restrainedscaler/decision/StabilizationWindow" ∧ Fld Z h' aW "com/example/restrained_scaler/restrainedscaler/decision/StabilizationWindow" "demands" "Ljava/util/Deque;" (.ref dq) ∧ Fld Z h' aW "com/example/restrained_scaler/restrainedscaler/decision/StabilizationWindow" "kept" "Lcom/example/restrained_scaler/restrainedscaler/decision/StabilizationWindow$Kept;" (.ref kp) ∧ Fld Z h' aW "com/example/restrained_scaler/restrainedscaler/decision/StabilizationWindow" "seconds" "J" (.long sec) ∧ Exa Z h' dq "java/util/ArrayDeque" ∧ Fld Z h' dq "java/util/ArrayDeque" "head" "I" (.int hd) ∧ Fld Z h' dq "java/util/ArrayDeque" "tail" "I" (.int tl) ∧ Fld Z h' dq "java/util/ArrayDeque" "elements" "[Ljava/lang/Object;" (.ref ar) ∧ Exa Z h' ar "[Ljava/lang/Object;" ∧ Arv Z h' ar kA (.object "java/lang/Object") (17 : Int32) vs .null := by
  obtain ⟨T101, X101, e101, st101⟩ := getF X0 hx hZ hown (host := "") (Or.inl (ow hw 101 rfl)) Via.refl e0 F_seconds_aW (g := (mkF m 2 #[.val (.ref aW), .val (.long qT), .second, .val (.long qE), .second, .unset, .unset] [(.ref aW), (.long qT)])) rfl rfl (hb hby d27_2)
  refine ⟨T101, _, h0, X101, e101, N0, O0, fun t k => ?_, (OKeep.refl h0 []), E_aW, F_demands_aW, F_kept_aW, F_seconds_aW, E_dq, F_head_dq, F_tail_dq, F_elements_dq, E_ar, V_ar⟩
  refine XS.lloadN X0.here hx rfl (hb hby d27_0) rfl ?_
  refine XS.aloadN X0.here hx rfl (hb hby d27_1) rfl rfl ?_
  refine st101 _ ?_
  refine XS.lsub X101.here hx rfl (hb hby d27_5) rfl ?_
  refine XS.lstore X101.here hx rfl (hb hby d27_6) rfl (l' := #[.val (.ref aW), .val (.long qT), .second, .val (.long qE), .second, .val (.long (qT - sec)), .second]) rfl ?_
  show Steps p.tables e below (T101.setTop (mkF m 8 #[.val (.ref aW), .val (.long qT), .second, .val (.long qE), .second, .val (.long (qT - sec)), .second] [])) _
  exact k
theorem d27_8 : decode prog_24_method_2_code 8 = .ok (.aload_n 0, 1) := by decide +kernel
theorem d27_9 : decode prog_24_method_2_code 9 = .ok (.getfield 10, 3) := by decide +kernel
theorem d27_12 : decode prog_24_method_2_code 12 = .ok (.invokeinterface 46 1, 5) := by decide +kernel
theorem d27_17 : decode prog_24_method_2_code 17 = .ok (.ifCond .ne 37, 3) := by decide +kernel
set_option maxRecDepth 65536 in
set_option maxHeartbeats 40000000 in
theorem adX {p : Program} {l : Launch} {e : Env} {s : State} {m : MethodId} {args : Array Value} {below : List Frame} {meth : Method} {c : Code} {T0 : State} {locs : List Loc} {Z : State} {a0 : Array Value} (hw : ∀ d ∈ tables_1, d.before a0 Z = true) {w_LOWEST : Addr} {w_HIGHEST : Addr} {w_EMPTY_ELEMENTDATA : Addr} {w_DEFAULTCAPACITY_EMPTY_ELEMENTDATA : Addr} {k_w_EMPTY_ELEMENTDATA : ClassId} {k_w_DEFAULTCAPACITY_EMPTY_ELEMENTDATA : ClassId} (G : Glob Z w_LOWEST w_HIGHEST w_EMPTY_ELEMENTDATA w_DEFAULTCAPACITY_EMPTY_ELEMENTDATA k_w_EMPTY_ELEMENTDATA k_w_DEFAULTCAPACITY_EMPTY_ELEMENTDATA) (X0 : Stand p l e ({ frames := 4, cells := 1, slots := 2, locals := 120 } : Room) s m args below meth c T0 locs 0 0) (hx : p.tables.exec = Jvm.exec) (hZ : Z.Warmed39 s.vm) (hby : c.code = prog_24_method_2_code) (hml : c.maxLocals = 7) (hown : s.vm.findClass "com/example/restrained_scaler/restrainedscaler/decision/StabilizationWindow" = some m.cls) (aW : Addr) (dq : Addr) (ar : Addr) (kp : Addr) (sec : Int64) (kA : ClassId) (hd : Int32) (tl : Int32) (vs : List Value) (qT : Int64) (qE : Int64) (qS : Int64) (h0 : Heap) (n0 : Nat) (O0 : Old Z n0 h0) (e0 : T0.heap = h0) (N0 : Fr n0 locs) (E_aW : Exa Z h0 aW "com/example/restrained_scaler/restrainedscaler/decision/StabilizationWindow") (F_demands_aW : Fld Z h0 aW "com/example/restrained_scaler/restrainedscaler/decision/StabilizationWindow" "demands" "Ljava/util/Deque;" (.ref dq)) (F_kept_aW : Fld Z h0 aW "com/example/restrained_scaler/restrainedscaler/decision/StabilizationWindow" "kept" "Lcom/example/restrained_scaler/restrainedscaler/decision/StabilizationWindow$Kept;" (.ref kp)) (F_seconds_aW : Fld Z h0 aW "com/example/restrained_scaler/restrainedscaler/decision/StabilizationWindow" "seconds" "J" (.long sec)) (E_dq : Exa Z h0 dq "java/util/ArrayDeque") (F_head_dq : Fld Z h0 dq "java/util/ArrayDeque" "head" "I" (.int hd)) (F_tail_dq : Fld Z h0 dq "java/util/ArrayDeque" "tail" "I" (.int tl)) (F_elements_dq : Fld Z h0 dq "java/util/ArrayDeque" "elements" "[Ljava/lang/Object;" (.ref ar)) (E_ar : Exa Z h0 ar "[Ljava/lang/Object;") (V_ar : Arv Z h0 ar kA (.object "java/lang/Object") (17 : Int32) vs .null) (O_kA : Ovr Z kA "java/lang/Object") (g_dq : n0 ≤ dq) (g_ar : n0 ≤ ar) (hc_1 : hd = tl) :
    ∃ (T' : State) (L' : List Loc) (h' : Heap), Stand p l e ({ frames := 4, cells := 1, slots := 2, locals := 120 } : Room) s m args below meth c T' L' 0 0 ∧ T'.heap = h' ∧ Fr n0 L' ∧ Old Z n0 h' ∧ (∀ t, Steps p.tables e below (T'.setTop (mkF m 54 #[.val (.ref aW), .val (.long qT), .second, .val (.long qE), .second, .val (.long qS), .second] [])) t → Steps p.tables e below (T0.setTop (mkF m 8 #[.val (.ref aW), .val (.long qT), .second, .val (.long qE), .second, .val (.long qS), .second] [])) t) ∧ OKeep h0 h' [] ∧ Exa Z h' aW "com/example/restrained_scaler/restrainedscaler/decision/StabilizationWindow" ∧ Fld Z h' aW "com/example/restrained_scaler/restrainedscaler/decision/StabilizationWindow" "demands" "Ljava/util/Deque;" (.ref dq) ∧ Fld Z h' aW "com/example/restrained_scaler/restrainedscaler/decision/StabilizationWindow" "kept" "Lcom/example/restrained_scaler/restrainedscaler/decision/StabilizationWindow$Kept;" (.ref kp) ∧ Fld Z h' aW "com/example/restrained_scaler/restrainedscaler/decision/StabilizationWindow" "seconds" "J" (.long sec) ∧ Exa Z h' dq "java/util/ArrayDeque" ∧ Fld Z h' dq "java/util/ArrayDeque" "head" "I" (.int hd) ∧ Fld Z h' dq "java/util/ArrayDeque" "tail" "I" (.int tl) ∧ Fld Z h' dq "java/util/ArrayDeque" "elements" "[Ljava/lang/Object;" (.ref ar) ∧ Exa Z h' ar "[Ljava/lang/Object;" ∧ Arv Z h' ar kA (.object "java/lang/Object") (17 : Int32) vs .null := by
  obtain ⟨T101, X101, e101, st101⟩ := getF X0 hx hZ hown (host := "") (Or.inl (ow hw 99 rfl)) Via.refl e0 F_demands_aW (g := (mkF m 9 #[.val (.ref aW), .val (.long qT), .second, .val (.long qE), .second, .val (.long qS), .second] [(.ref aW)])) rfl rfl (hb hby d27_9)
  obtain ⟨cq102, kq102, q102a, q102b, q102c⟩ := isOf hZ e101 E_dq
  obtain ⟨_, _, ⟨T102, L102, k102, n102⟩, -, X102, ⟨Lc102, hQ102, l102, y102, z102⟩, st102⟩ := ointerfaceBackUp X101 hx (J := "java/util/Collection") (xi := (⟨"java/util/Deque", "isEmpty", "()Z"⟩ : MethodName)) (y := (⟨"java/util/ArrayDeque", "isEmpty", "()Z"⟩ : MethodName)) hown (mvT hZ (ow hw 160 rfl)) (mvT hZ (ow hw 161 rfl)) (omvI hZ (ow hw 162 rfl)) (by decide) (mvT hZ (ow hw 163 rfl)) (mvT hZ (ow hw 164 rfl)) (mvT hZ (ow hw 165 rfl)) (mvT hZ (ow hw 166 rfl)) (mvT hZ (ow hw 167 rfl)) (by decide) (by decide) (backOf (W := 0) (rm20 l Z a0 hw [] G dq hd tl h0 n0 O0 F_head_dq F_tail_dq hc_1) hZ (ow hw 168 rfl) (ow hw 90 rfl) (by decide) (by decide)) q102a q102b q102c (g := (mkF m 12 #[.val (.ref aW), .val (.long qT), .second, .val (.long qE), .second, .val (.long qS), .second] [(.ref dq)])) rfl (by rw [hml]; rfl) (Steps.refl _) (argsL := []) (rest := []) (lenOf pd_0 rfl) rfl (by show 2 * 0 + _ ≤ _; exact Nat.le_of_eq rfl) (hb hby d27_12) (fun _ _ => ⟨rfl, e101, (by decide : 0 + 0 ≤ _), (by decide : 0 + 0 ≤ _)⟩)
  dsimp only [Pt.U, Pt.locs, Pt.cells, Pt.slots] at X102 l102 y102 z102 st102 hQ102
  subst l102 y102 z102
  obtain ⟨rfl, N102q, e102⟩ := hQ102
  have N102 := Fr.app N0 N102q
  refine ⟨T102, _, h0, X102, e102, N102, O0, fun t k => ?_, (OKeep.refl h0 []), E_aW, F_demands_aW, F_kept_aW, F_seconds_aW, E_dq, F_head_dq, F_tail_dq, F_elements_dq, E_ar, V_ar⟩
  refine XS.aloadN X0.here hx rfl (hb hby d27_8) rfl rfl ?_
  refine st101 _ ?_
  refine st102.trans ?_
  refine XS.ifYes X102.here hx rfl (pc0 := 17) (pc' := 54) rfl (hb hby d27_17) rfl (by decide) (by decide) (by decide) ?_
  exact k
theorem d27_20 : decode prog_24_method_2_code 20 = .ok (.aload_n 0, 1) := by decide +kernel
theorem d27_21 : decode prog_24_method_2_code 21 = .ok (.getfield 10, 3) := by decide +kernel
theorem d27_24 : decode prog_24_method_2_code 24 = .ok (.invokeinterface 51 1, 5) := by decide +kernel
theorem d28_0 : decode jdk_21_method_24_code 0 = .ok (.aload_n 0, 1) := by decide +kernel
theorem d28_1 : decode jdk_21_method_24_code 1 = .ok (.getfield 3, 3) := by decide +kernel
theorem d28_4 : decode jdk_21_method_24_code 4 = .ok (.aload_n 0, 1) := by decide +kernel
theorem d28_5 : decode jdk_21_method_24_code 5 = .ok (.getfield 24, 3) := by decide +kernel
theorem d28_8 : decode jdk_21_method_24_code 8 = .ok (.invokestatic 103, 3) := by decide +kernel
theorem d28_11 : decode jdk_21_method_24_code 11 = .ok (.areturn, 1) := by decide +kernel
def Q28 (Z : State) (w_LOWEST : Addr) (w_HIGHEST : Addr) (w_EMPTY_ELEMENTDATA : Addr) (w_DEFAULTCAPACITY_EMPTY_ELEMENTDATA : Addr) (k_w_EMPTY_ELEMENTDATA : ClassId) (k_w_DEFAULTCAPACITY_EMPTY_ELEMENTDATA : ClassId) (a1 : Addr) (a2 : Addr) (p4 : Int32) (k6 : ClassId) (vs7 : List Value) (a8 : Addr) (h0 : Heap) (n0 : Nat) (v : Option Value) (h : Heap) (L : List Loc) : Prop := v = some (.ref a8) ∧ Fr n0 L ∧ h = h0
theorem ef28 (m : MethodId) (x0 : Addr) : entryFrame m #[(.ref x0)] 1 = mkF m 0 #[.val (.ref x0)] [] := by first | (simp [entryFrame, mkF, argsToLocals, Value.category]; done) | rfl
set_option maxRecDepth 65536 in
set_option maxHeartbeats 40000000 in
theorem rm28 (l : Launch) (Z : State) (a0 : Array Value) (hw : ∀ d ∈ tables_1, d.before a0 Z = true) (ws : List Jvm.Cond) {w_LOWEST : Addr} {w_HIGHEST : Addr} {w_EMPTY_ELEMENTDATA : Addr} {w_DEFAULTCAPACITY_EMPTY_ELEMENTDATA : Addr} {k_w_EMPTY_ELEMENTDATA : ClassId} {k_w_DEFAULTCAPACITY_EMPTY_ELEMENTDATA : ClassId} (G : Glob Z w_LOWEST w_HIGHEST w_EMPTY_ELEMENTDATA w_DEFAULTCAPACITY_EMPTY_ELEMENTDATA k_w_EMPTY_ELEMENTDATA k_w_DEFAULTCAPACITY_EMPTY_ELEMENTDATA) (a1 : Addr) (a2 : Addr) (p4 : Int32) (k6 : ClassId) (vs7 : List Value) (a8 : Addr) (h0 : Heap) (n0 : Nat) (O0 : Old Z n0 h0) (F_elements_a1 : Fld Z h0 a1 "java/util/ArrayDeque" "elements" "[Ljava/lang/Object;" (.ref a2)) (F_head_a1 : Fld Z h0 a1 "java/util/ArrayDeque" "head" "I" (.int p4)) (V_a2 : Arv Z h0 a2 k6 (.object "java/lang/Object") (17 : Int32) vs7 .null) (O_k6 : Ovr Z k6 "java/lang/Object") (hg_1 : (vs7).getD (p4).toNatClampNeg .null = (.ref a8)) (hi_1 : ¬ p4 < 0 ∧ p4 < (17 : Int32)) :
    MetFree l (⟨"java/util/ArrayDeque", "peekFirst", "()Ljava/lang/Object;"⟩ : MethodName) (head1 (Jvm.Cond.code (⟨"java/util/ArrayDeque", "peekFirst", "()Ljava/lang/Object;"⟩ : MethodName) jdk_21_method_24_code 1 (some (.object "java/lang/Object")) :: ws) ({ frames := 1, cells := 0, slots := 0, locals := 13 } : Room)) (fun a U => a = #[(.ref a1)] ∧ Z.Warmed39 U.vm ∧ U.heap = h0) (fun _ _ _ _ _ => True) (fun _ U o U' => ∃ v L, o = .returned v ∧ Q28 Z w_LOWEST w_HIGHEST w_EMPTY_ELEMENTDATA w_DEFAULTCAPACITY_EMPTY_ELEMENTDATA k_w_EMPTY_ELEMENTDATA k_w_DEFAULTCAPACITY_EMPTY_ELEMENTDATA a1 a2 p4 k6 vs7 a8 h0 n0 v U'.heap L ∧ FrameEnd U o U' L ({ frames := 1, cells := 0, slots := 0, locals := 13 } : Room).cells ({ frames := 1, cells := 0, slots := 0, locals := 13 } : Room).slots) := by
  refine MetFree.of_bodySF (plainFor_of_name pn_java_util_ArrayDeque) hisR ?_
  intro p e s m args below meth c s₁ Bd hml0 hP hK
  obtain ⟨rfl, hZ, hh⟩ := hP
  have hx := Bd.exec
  have hby := Bd.bytes
  have hml : c.maxLocals = 1 := hml0
  have hown : s.vm.findClass "java/util/ArrayDeque" = some m.cls := findClass_of_methodNamed Bd.named
  have hnm := (name_of_methodNamed Bd.named Bd.method).1
  have X0 : Stand p l e ({ frames := 1, cells := 0, slots := 0, locals := 13 } : Room) s m #[(.ref a1)] below meth c s₁ [] 0 0 := Stand.of_body Bd
  have e0 : s₁.heap = h0 := by rw [← hh, Bd.state]; rfl
  have N0 := Fr.nil n0
  show OGot p.tables e below (s₁.setTop (entryFrame m #[(.ref a1)] 1)) _
  refine OGot.go (fun t k => castTop (ef28 m a1) k) ?_
  show OGot p.tables e below (s₁.setTop (mkF m 0 #[.val (.ref a1)] [])) _
  refine OGot.go (fun t k => XS.aloadN X0.here hx rfl (hb hby d28_0) rfl rfl k) ?_
  obtain ⟨T3, X3, e3, st3⟩ := getF X0 hx hZ hown (host := "") (Or.inl (ow hw 97 rfl)) Via.refl e0 F_elements_a1 (g := (mkF m 1 #[.val (.ref a1)] [(.ref a1)])) rfl rfl (hb hby d28_1)
  refine OGot.go st3 ?_
  refine OGot.go (fun t k => XS.aloadN X3.here hx rfl (hb hby d28_4) rfl rfl k) ?_
  obtain ⟨T5, X5, e5, st5⟩ := getF X3 hx hZ hown (host := "") (Or.inl (ow hw 169 rfl)) Via.refl e3 F_head_a1 (g := (mkF m 5 #[.val (.ref a1)] [(.ref a1), (.ref a2)])) rfl rfl (hb hby d28_5)
  refine OGot.go st5 ?_
  obtain ⟨_, _, ⟨T9, L9, k9, n9⟩, -, X9, ⟨Lc9, hQ9, l9, y9, z9⟩, st9⟩ := Jvm.LawKit.callS X5 hx (y := (⟨"java/util/ArrayDeque", "elementAt", "([Ljava/lang/Object;I)Ljava/lang/Object;"⟩ : MethodName)) hown (mvT hZ (ow hw 197 rfl)) (mvT hZ (ow hw 198 rfl)) (mvT hZ (ow hw 90 rfl)) (mvT hZ (ow hw 199 rfl)) (by decide) (backOf (W := 0) (rm25 l Z a0 hw [] G a2 p4 k6 vs7 a8 h0 n0 O0 V_a2 O_k6 hg_1 hi_1) hZ (ow hw 199 rfl) (ow hw 90 rfl) (by decide) (by decide)) (g := (mkF m 8 #[.val (.ref a1)] [(.int p4), (.ref a2)])) rfl (by rw [hml]; rfl) (argsL := [(.ref a2), (.int p4)]) (rest := []) (lenOf pd_3 rfl) rfl (by show 2 * 0 + _ ≤ _; exact Nat.le_of_eq rfl) (hb hby d28_8) (fun _ _ => ⟨rfl, e5, (by decide : 0 + 0 ≤ _), (by decide : 0 + 0 ≤ _)⟩)
  dsimp only [Pt.U, Pt.locs, Pt.cells, Pt.slots] at X9 l9 y9 z9 st9 hQ9
  subst l9 y9 z9
  obtain ⟨rfl, N9q, e9⟩ := hQ9
  have N9 := Fr.app N0 N9q
  refine OGot.go st9 ?_
  show OGot p.tables e below (T9.setTop (mkF m 11 #[.val (.ref a1)] [(.ref a8)])) _
  obtain ⟨fs, hr, hrun, hended, hW, hsame⟩ := X9.leave (v := some (.ref a8)) (fun h => by rw [Bd.returns] at h; cases h)
  refine ⟨_, _, oretA X9 hx Bd.returns rfl rfl (hb hby d28_11) hr, hrun, hended, _, _, rfl, ?_, ⟨_, rfl⟩, hW, hsame.mono (by decide) (by decide)⟩
  exact (⟨rfl, N9, e9⟩ : Q28 Z w_LOWEST w_HIGHEST w_EMPTY_ELEMENTDATA w_DEFAULTCAPACITY_EMPTY_ELEMENTDATA k_w_EMPTY_ELEMENTDATA k_w_DEFAULTCAPACITY_EMPTY_ELEMENTDATA a1 a2 p4 k6 vs7 a8 h0 n0 _ T9.heap _)
theorem d27_29 : decode prog_24_method_2_code 29 = .ok (.checkcast 40, 3) := by decide +kernel
theorem d27_32 : decode prog_24_method_2_code 32 = .ok (.invokevirtual 54, 3) := by decide +kernel
theorem d29_0 : decode prog_16_method_5_code 0 = .ok (.aload_n 0, 1) := by decide +kernel
theorem d29_1 : decode prog_16_method_5_code 1 = .ok (.getfield 7, 3) := by decide +kernel
theorem d29_4 : decode prog_16_method_5_code 4 = .ok (.lreturn, 1) := by decide +kernel
def Q29 (Z : State) (w_LOWEST : Addr) (w_HIGHEST : Addr) (w_EMPTY_ELEMENTDATA : Addr) (w_DEFAULTCAPACITY_EMPTY_ELEMENTDATA : Addr) (k_w_EMPTY_ELEMENTDATA : ClassId) (k_w_DEFAULTCAPACITY_EMPTY_ELEMENTDATA : ClassId) (a1 : Addr) (q2 : Int64) (h0 : Heap) (n0 : Nat) (v : Option Value) (h : Heap) (L : List Loc) : Prop := v = some (.long q2) ∧ Fr n0 L ∧ h = h0
theorem ef29 (m : MethodId) (x0 : Addr) : entryFrame m #[(.ref x0)] 1 = mkF m 0 #[.val (.ref x0)] [] := by first | (simp [entryFrame, mkF, argsToLocals, Value.category]; done) | rfl
set_option maxRecDepth 65536 in
set_option maxHeartbeats 40000000 in
theorem rm29 (l : Launch) (Z : State) (a0 : Array Value) (hw : ∀ d ∈ tables_1, d.before a0 Z = true) (ws : List Jvm.Cond) {w_LOWEST : Addr} {w_HIGHEST : Addr} {w_EMPTY_ELEMENTDATA : Addr} {w_DEFAULTCAPACITY_EMPTY_ELEMENTDATA : Addr} {k_w_EMPTY_ELEMENTDATA : ClassId} {k_w_DEFAULTCAPACITY_EMPTY_ELEMENTDATA : ClassId} (G : Glob Z w_LOWEST w_HIGHEST w_EMPTY_ELEMENTDATA w_DEFAULTCAPACITY_EMPTY_ELEMENTDATA k_w_EMPTY_ELEMENTDATA k_w_DEFAULTCAPACITY_EMPTY_ELEMENTDATA) (a1 : Addr) (q2 : Int64) (h0 : Heap) (n0 : Nat) (O0 : Old Z n0 h0) (F_time_a1 : Fld Z h0 a1 "com/example/restrained_scaler/restrainedscaler/decision/Decider$Demand" "time" "J" (.long q2)) :
    MetFree l (⟨"com/example/restrained_scaler/restrainedscaler/decision/Decider$Demand", "time", "()J"⟩ : MethodName) (head1 (Jvm.Cond.code (⟨"com/example/restrained_scaler/restrainedscaler/decision/Decider$Demand", "time", "()J"⟩ : MethodName) prog_16_method_5_code 1 (some .long) :: ws) ({ frames := 0, cells := 0, slots := 0, locals := 0 } : Room)) (fun a U => a = #[(.ref a1)] ∧ Z.Warmed39 U.vm ∧ U.heap = h0) (fun _ _ _ _ _ => True) (fun _ U o U' => ∃ v L, o = .returned v ∧ Q29 Z w_LOWEST w_HIGHEST w_EMPTY_ELEMENTDATA w_DEFAULTCAPACITY_EMPTY_ELEMENTDATA k_w_EMPTY_ELEMENTDATA k_w_DEFAULTCAPACITY_EMPTY_ELEMENTDATA a1 q2 h0 n0 v U'.heap L ∧ FrameEnd U o U' L ({ frames := 0, cells := 0, slots := 0, locals := 0 } : Room).cells ({ frames := 0, cells := 0, slots := 0, locals := 0 } : Room).slots) := by
  refine MetFree.of_bodySF (plainFor_of_name pn_com_example_restrained_scaler_restrainedscaler_decision_Decider_Demand) hisR ?_
  intro p e s m args below meth c s₁ Bd hml0 hP hK
  obtain ⟨rfl, hZ, hh⟩ := hP
  have hx := Bd.exec
  have hby := Bd.bytes
  have hml : c.maxLocals = 1 := hml0
  have hown : s.vm.findClass "com/example/restrained_scaler/restrainedscaler/decision/Decider$Demand" = some m.cls := findClass_of_methodNamed Bd.named
  have hnm := (name_of_methodNamed Bd.named Bd.method).1
  have X0 : Stand p l e ({ frames := 0, cells := 0, slots := 0, locals := 0 } : Room) s m #[(.ref a1)] below meth c s₁ [] 0 0 := Stand.of_body Bd
  have e0 : s₁.heap = h0 := by rw [← hh, Bd.state]; rfl
  have N0 := Fr.nil n0
  show OGot p.tables e below (s₁.setTop (entryFrame m #[(.ref a1)] 1)) _
  refine OGot.go (fun t k => castTop (ef29 m a1) k) ?_
  show OGot p.tables e below (s₁.setTop (mkF m 0 #[.val (.ref a1)] [])) _
  refine OGot.go (fun t k => XS.aloadN X0.here hx rfl (hb hby d29_0) rfl rfl k) ?_
  obtain ⟨T3, X3, e3, st3⟩ := getF X0 hx hZ hown (host := "") (Or.inl (ow hw 42 rfl)) Via.refl e0 F_time_a1 (g := (mkF m 1 #[.val (.ref a1)] [(.ref a1)])) rfl rfl (hb hby d29_1)
  refine OGot.go st3 ?_
  show OGot p.tables e below (T3.setTop (mkF m 4 #[.val (.ref a1)] [(.long q2)])) _
  obtain ⟨fs, hr, hrun, hended, hW, hsame⟩ := X3.leave (v := some (.long q2)) (fun h => by rw [Bd.returns] at h; cases h)
  refine ⟨_, _, oretJ X3 hx Bd.returns (hb hby d29_4) hr, hrun, hended, _, _, rfl, ?_, ⟨_, rfl⟩, hW, hsame.mono (by decide) (by decide)⟩
  exact (⟨rfl, N0, e3⟩ : Q29 Z w_LOWEST w_HIGHEST w_EMPTY_ELEMENTDATA w_DEFAULTCAPACITY_EMPTY_ELEMENTDATA k_w_EMPTY_ELEMENTDATA k_w_DEFAULTCAPACITY_EMPTY_ELEMENTDATA a1 q2 h0 n0 _ T3.heap _)
theorem d27_35 : decode prog_24_method_2_code 35 = .ok (.lload 5, 2) := by decide +kernel
theorem d27_37 : decode prog_24_method_2_code 37 = .ok (.lcmp, 1) := by decide +kernel
theorem d27_38 : decode prog_24_method_2_code 38 = .ok (.ifCond .gt 16, 3) := by decide +kernel
set_option maxRecDepth 65536 in
set_option maxHeartbeats 40000000 in
theorem adY {p : Program} {l : Launch} {e : Env} {s : State} {m : MethodId} {args : Array Value} {below : List Frame} {meth : Method} {c : Code} {T0 : State} {locs : List Loc} {Z : State} {a0 : Array Value} (hw : ∀ d ∈ tables_1, d.before a0 Z = true) {w_LOWEST : Addr} {w_HIGHEST : Addr} {w_EMPTY_ELEMENTDATA : Addr} {w_DEFAULTCAPACITY_EMPTY_ELEMENTDATA : Addr} {k_w_EMPTY_ELEMENTDATA : ClassId} {k_w_DEFAULTCAPACITY_EMPTY_ELEMENTDATA : ClassId} (G : Glob Z w_LOWEST w_HIGHEST w_EMPTY_ELEMENTDATA w_DEFAULTCAPACITY_EMPTY_ELEMENTDATA k_w_EMPTY_ELEMENTDATA k_w_DEFAULTCAPACITY_EMPTY_ELEMENTDATA) (X0 : Stand p l e ({ frames := 4, cells := 1, slots := 2, locals := 120 } : Room) s m args below meth c T0 locs 0 0) (hx : p.tables.exec = Jvm.exec) (hZ : Z.Warmed39 s.vm) (hby : c.code = prog_24_method_2_code) (hml : c.maxLocals = 7) (hown : s.vm.findClass "com/example/restrained_scaler/restrainedscaler/decision/StabilizationWindow" = some m.cls) (aW : Addr) (dq : Addr) (ar : Addr) (kp : Addr) (sec : Int64) (kA : ClassId) (hd : Int32) (tl : Int32) (vs : List Value) (qT : Int64) (qE : Int64) (qS : Int64) (aX : Addr) (tX : Int64) (eX : Int64) (h0 : Heap) (n0 : Nat) (O0 : Old Z n0 h0) (e0 : T0.heap = h0) (N0 : Fr n0 locs) (E_aW : Exa Z h0 aW "com/example/restrained_scaler/restrainedscaler/decision/StabilizationWindow") (F_demands_aW : Fld Z h0 aW "com/example/restrained_scaler/restrainedscaler/decision/StabilizationWindow" "demands" "Ljava/util/Deque;" (.ref dq)) (F_kept_aW : Fld Z h0 aW "com/example/restrained_scaler/restrainedscaler/decision/StabilizationWindow" "kept" "Lcom/example/restrained_scaler/restrainedscaler/decision/StabilizationWindow$Kept;" (.ref kp)) (F_seconds_aW : Fld Z h0 aW "com/example/restrained_scaler/restrainedscaler/decision/StabilizationWindow" "seconds" "J" (.long sec)) (E_dq : Exa Z h0 dq "java/util/ArrayDeque") (F_head_dq : Fld Z h0 dq "java/util/ArrayDeque" "head" "I" (.int hd)) (F_tail_dq : Fld Z h0 dq "java/util/ArrayDeque" "tail" "I" (.int tl)) (F_elements_dq : Fld Z h0 dq "java/util/ArrayDeque" "elements" "[Ljava/lang/Object;" (.ref ar)) (E_ar : Exa Z h0 ar "[Ljava/lang/Object;") (V_ar : Arv Z h0 ar kA (.object "java/lang/Object") (17 : Int32) vs .null) (O_kA : Ovr Z kA "java/lang/Object") (g_dq : n0 ≤ dq) (g_ar : n0 ≤ ar) (E_aX : Exa Z h0 aX "com/example/restrained_scaler/restrainedscaler/decision/Decider$Demand") (F_time_aX : Fld Z h0 aX "com/example/restrained_scaler/restrainedscaler/decision/Decider$Demand" "time" "J" (.long tX)) (F_desired_aX : Fld Z h0 aX "com/example/restrained_scaler/restrainedscaler/decision/Decider$Demand" "desired" "J" (.long eX)) (hc_1 : ¬ (hd = tl)) (hg_1 : (vs).getD (hd).toNatClampNeg .null = (.ref aX)) (hi_1 : ¬ hd < 0 ∧ hd < (17 : Int32)) (hc_2 : qS < tX) :
    ∃ (T' : State) (L' : List Loc) (h' : Heap), Stand p l e ({ frames := 4, cells := 1, slots := 2, locals := 120 } : Room) s m args below meth c T' L' 0 0 ∧ T'.heap = h' ∧ Fr n0 L' ∧ Old Z n0 h' ∧ (∀ t, Steps p.tables e below (T'.setTop (mkF m 54 #[.val (.ref aW), .val (.long qT), .second, .val (.long qE), .second, .val (.long qS), .second] [])) t → Steps p.tables e below (T0.setTop (mkF m 8 #[.val (.ref aW), .val (.long qT), .second, .val (.long qE), .second, .val (.long qS), .second] [])) t) ∧ OKeep h0 h' [] ∧ Exa Z h' aW "com/example/restrained_scaler/restrainedscaler/decision/StabilizationWindow" ∧ Fld Z h' aW "com/example/restrained_scaler/restrainedscaler/decision/StabilizationWindow" "demands" "Ljava/util/Deque;" (.ref dq) ∧ Fld Z h' aW "com/example/restrained_scaler/restrainedscaler/decision/StabilizationWindow" "kept" "Lcom/example/restrained_scaler/restrainedscaler/decision/StabilizationWindow$Kept;" (.ref kp) ∧ Fld Z h' aW "com/example/restrained_scaler/restrainedscaler/decision/StabilizationWindow" "seconds" "J" (.long sec) ∧ Exa Z h' dq "java/util/ArrayDeque" ∧ Fld Z h' dq "java/util/ArrayDeque" "head" "I" (.int hd) ∧ Fld Z h' dq "java/util/ArrayDeque" "tail" "I" (.int tl) ∧ Fld Z h' dq "java/util/ArrayDeque" "elements" "[Ljava/lang/Object;" (.ref ar) ∧ Exa Z h' ar "[Ljava/lang/Object;" ∧ Arv Z h' ar kA (.object "java/lang/Object") (17 : Int32) vs .null ∧ Exa Z h' aX "com/example/restrained_scaler/restrainedscaler/decision/Decider$Demand" ∧ Fld Z h' aX "com/example/restrained_scaler/restrainedscaler/decision/Decider$Demand" "time" "J" (.long tX) ∧ Fld Z h' aX "com/example/restrained_scaler/restrainedscaler/decision/Decider$Demand" "desired" "J" (.long eX) := by
  obtain ⟨T101, X101, e101, st101⟩ := getF X0 hx hZ hown (host := "") (Or.inl (ow hw 99 rfl)) Via.refl e0 F_demands_aW (g := (mkF m 9 #[.val (.ref aW), .val (.long qT), .second, .val (.long qE), .second, .val (.long qS), .second] [(.ref aW)])) rfl rfl (hb hby d27_9)
  obtain ⟨cq102, kq102, q102a, q102b, q102c⟩ := isOf hZ e101 E_dq
  obtain ⟨_, _, ⟨T102, L102, k102, n102⟩, -, X102, ⟨Lc102, hQ102, l102, y102, z102⟩, st102⟩ := ointerfaceBackUp X101 hx (J := "java/util/Collection") (xi := (⟨"java/util/Deque", "isEmpty", "()Z"⟩ : MethodName)) (y := (⟨"java/util/ArrayDeque", "isEmpty", "()Z"⟩ : MethodName)) hown (mvT hZ (ow hw 160 rfl)) (mvT hZ (ow hw 161 rfl)) (omvI hZ (ow hw 162 rfl)) (by decide) (mvT hZ (ow hw 163 rfl)) (mvT hZ (ow hw 164 rfl)) (mvT hZ (ow hw 165 rfl)) (mvT hZ (ow hw 166 rfl)) (mvT hZ (ow hw 167 rfl)) (by decide) (by decide) (backOf (W := 0) (rm20_1 l Z a0 hw [] G dq hd tl h0 n0 O0 F_head_dq F_tail_dq hc_1) hZ (ow hw 168 rfl) (ow hw 90 rfl) (by decide) (by decide)) q102a q102b q102c (g := (mkF m 12 #[.val (.ref aW), .val (.long qT), .second, .val (.long qE), .second, .val (.long qS), .second] [(.ref dq)])) rfl (by rw [hml]; rfl) (Steps.refl _) (argsL := []) (rest := []) (lenOf pd_0 rfl) rfl (by show 2 * 0 + _ ≤ _; exact Nat.le_of_eq rfl) (hb hby d27_12) (fun _ _ => ⟨rfl, e101, (by decide : 0 + 0 ≤ _), (by decide : 0 + 0 ≤ _)⟩)
  dsimp only [Pt.U, Pt.locs, Pt.cells, Pt.slots] at X102 l102 y102 z102 st102 hQ102
  subst l102 y102 z102
  obtain ⟨rfl, N102q, e102⟩ := hQ102
  have N102 := Fr.app N0 N102q
  obtain ⟨T103, X103, e103, st103⟩ := getF X102 hx hZ hown (host := "") (Or.inl (ow hw 99 rfl)) Via.refl e102 F_demands_aW (g := (mkF m 21 #[.val (.ref aW), .val (.long qT), .second, .val (.long qE), .second, .val (.long qS), .second] [(.ref aW)])) rfl rfl (hb hby d27_21)
  obtain ⟨cq104, kq104, q104a, q104b, q104c⟩ := isOf hZ e103 E_dq
  obtain ⟨_, _, ⟨T104, L104, k104, n104⟩, -, X104, ⟨Lc104, hQ104, l104, y104, z104⟩, st104⟩ := X103.interfaceBack hx (xi := (⟨"java/util/Deque", "peekFirst", "()Ljava/lang/Object;"⟩ : MethodName)) (y := (⟨"java/util/ArrayDeque", "peekFirst", "()Ljava/lang/Object;"⟩ : MethodName)) hown (mvT hZ (ow hw 210 rfl)) (mvT hZ (ow hw 211 rfl)) (mvT hZ (ow hw 212 rfl)) (mvT hZ (ow hw 213 rfl)) (mvT hZ (ow hw 214 rfl)) (mvT hZ (ow hw 215 rfl)) (mvT hZ (ow hw 216 rfl)) (mvT hZ (ow hw 167 rfl)) (by decide) (backOf (W := 0) (rm28 l Z a0 hw [] G dq ar hd kA vs aX h0 n0 O0 F_elements_dq F_head_dq V_ar O_kA hg_1 hi_1) hZ (ow hw 217 rfl) (ow hw 90 rfl) (by decide) (by decide)) q104a q104b q104c (g := (mkF m 24 #[.val (.ref aW), .val (.long qT), .second, .val (.long qE), .second, .val (.long qS), .second] [(.ref dq)])) rfl (by rw [hml]; rfl) (Steps.refl _) (argsL := []) (rest := []) (lenOf pd_4 rfl) rfl (by show 2 * 0 + _ ≤ _; exact Nat.le_of_eq rfl) (hb hby d27_24) (fun _ _ => ⟨rfl, e103, (by decide : 0 + 0 ≤ _), (by decide : 0 + 0 ≤ _)⟩)
  dsimp only [Pt.U, Pt.locs, Pt.cells, Pt.slots] at X104 l104 y104 z104 st104 hQ104
  subst l104 y104 z104
  obtain ⟨rfl, N104q, e104⟩ := hQ104
  have N104 := Fr.app N102 N104q
  obtain ⟨T105, X105, e105, st105⟩ := castY X104 hx hZ hown (ow hw 154 rfl) e104 (Ins.self E_aX) (g := (mkF m 29 #[.val (.ref aW), .val (.long qT), .second, .val (.long qE), .second, .val (.long qS), .second] [(.ref aX)])) rfl rfl (hb hby d27_29)
  obtain ⟨cq106, kq106, q106a, q106b, q106c⟩ := isOf hZ e105 E_aX
  obtain ⟨_, _, ⟨T106, L106, k106, n106⟩, -, X106, ⟨Lc106, hQ106, l106, y106, z106⟩, st106⟩ := X105.virtualBack hx (y := (⟨"com/example/restrained_scaler/restrainedscaler/decision/Decider$Demand", "time", "()J"⟩ : MethodName)) (z := (⟨"com/example/restrained_scaler/restrainedscaler/decision/Decider$Demand", "time", "()J"⟩ : MethodName)) hown (mvT hZ (ow hw 218 rfl)) (mvT hZ (ow hw 219 rfl)) (notFace_of_selects (args := #[]) (mvT hZ (ow hw 221 rfl))) (mvT hZ (ow hw 221 rfl)) (mvT hZ (ow hw 220 rfl)) (by decide) (backOf (W := 0) (rm29 l Z a0 hw [] G aX tX h0 n0 O0 F_time_aX) hZ (ow hw 222 rfl) (ow hw 32 rfl) (by decide) (by decide)) q106a q106c (g := (mkF m 32 #[.val (.ref aW), .val (.long qT), .second, .val (.long qE), .second, .val (.long qS), .second] [(.ref aX)])) rfl (by rw [hml]; rfl) (Steps.refl _) (argsL := []) (rest := []) (lenOf pd_5 rfl) rfl (by show 2 * 0 + _ ≤ _; exact Nat.le_of_eq rfl) (hb hby d27_32) (fun _ _ => ⟨rfl, e105, (by decide : 0 + 0 ≤ _), (by decide : 0 + 0 ≤ _)⟩)
  dsimp only [Pt.U, Pt.locs, Pt.cells, Pt.slots] at X106 l106 y106 z106 st106 hQ106
  subst l106 y106 z106
  obtain ⟨rfl, N106q, e106⟩ := hQ106
  have N106 := Fr.app N104 N106q
  refine ⟨T106, _, h0, X106, e106, N106, O0, fun t k => ?_, (OKeep.refl h0 []), E_aW, F_demands_aW, F_kept_aW, F_seconds_aW, E_dq, F_head_dq, F_tail_dq, F_elements_dq, E_ar, V_ar, E_aX, F_time_aX, F_desired_aX⟩
  refine XS.aloadN X0.here hx rfl (hb hby d27_8) rfl rfl ?_
  refine st101 _ ?_
  refine st102.trans ?_
  refine XS.ifNo X102.here hx rfl (hb hby d27_17) rfl (by decide) ?_
  refine XS.aloadN X102.here hx rfl (hb hby d27_20) rfl rfl ?_
  show Steps p.tables e below (T102.setTop (mkF m 21 #[.val (.ref aW), .val (.long qT), .second, .val (.long qE), .second, .val (.long qS), .second] [(.ref aW)])) _
  refine st103 _ ?_
  refine st104.trans ?_
  refine st105 _ ?_
  refine st106.trans ?_
  refine XS.lload X106.here hx rfl (hb hby d27_35) rfl ?_
  refine XS.lcmp X106.here hx rfl (hb hby d27_37) rfl ?_
  show Steps p.tables e below (T106.setTop (mkF m 38 #[.val (.ref aW), .val (.long qT), .second, .val (.long qE), .second, .val (.long qS), .second] [(.int (lcmpW tX qS))])) _
  refine XS.ifYes X106.here hx rfl (pc0 := 38) (pc' := 54) rfl (hb hby d27_38) rfl ((if0 _ _).trans (tlt ((lw_gt tX qS).mpr hc_2)).2.2.1) (by decide) (by decide) ?_
  exact k
theorem d27_41 : decode prog_24_method_2_code 41 = .ok (.aload_n 0, 1) := by decide +kernel
theorem d27_42 : decode prog_24_method_2_code 42 = .ok (.getfield 10, 3) := by decide +kernel
theorem d27_45 : decode prog_24_method_2_code 45 = .ok (.invokeinterface 58 1, 5) := by decide +kernel
theorem d30_0 : decode jdk_21_method_18_code 0 = .ok (.aload_n 0, 1) := by decide +kernel
theorem d30_1 : decode jdk_21_method_18_code 1 = .ok (.invokevirtual 93, 3) := by decide +kernel
theorem d31_0 : decode jdk_21_method_20_code 0 = .ok (.aload_n 0, 1) := by decide +kernel
theorem d31_1 : decode jdk_21_method_20_code 1 = .ok (.getfield 3, 3) := by decide +kernel
theorem d31_4 : decode jdk_21_method_20_code 4 = .ok (.dup, 1) := by decide +kernel
theorem d31_5 : decode jdk_21_method_20_code 5 = .ok (.astore_n 1, 1) := by decide +kernel
theorem d31_6 : decode jdk_21_method_20_code 6 = .ok (.aload_n 0, 1) := by decide +kernel
theorem d31_7 : decode jdk_21_method_20_code 7 = .ok (.getfield 24, 3) := by decide +kernel
theorem d31_10 : decode jdk_21_method_20_code 10 = .ok (.dup, 1) := by decide +kernel
theorem d31_11 : decode jdk_21_method_20_code 11 = .ok (.istore_n 2, 1) := by decide +kernel
theorem d31_12 : decode jdk_21_method_20_code 12 = .ok (.invokestatic 103, 3) := by decide +kernel
theorem d31_15 : decode jdk_21_method_20_code 15 = .ok (.astore_n 3, 1) := by decide +kernel
theorem d31_16 : decode jdk_21_method_20_code 16 = .ok (.aload_n 3, 1) := by decide +kernel
theorem d31_17 : decode jdk_21_method_20_code 17 = .ok (.ifnull 17, 3) := by decide +kernel
theorem d31_20 : decode jdk_21_method_20_code 20 = .ok (.aload_n 1, 1) := by decide +kernel
theorem d31_21 : decode jdk_21_method_20_code 21 = .ok (.iload_n 2, 1) := by decide +kernel
theorem d31_22 : decode jdk_21_method_20_code 22 = .ok (.aconst_null, 1) := by decide +kernel
theorem d31_23 : decode jdk_21_method_20_code 23 = .ok (.aastore, 1) := by decide +kernel
theorem d31_24 : decode jdk_21_method_20_code 24 = .ok (.aload_n 0, 1) := by decide +kernel
theorem d31_25 : decode jdk_21_method_20_code 25 = .ok (.iload_n 2, 1) := by decide +kernel
theorem d31_26 : decode jdk_21_method_20_code 26 = .ok (.aload_n 1, 1) := by decide +kernel
theorem d31_27 : decode jdk_21_method_20_code 27 = .ok (.arraylength, 1) := by decide +kernel
theorem d31_28 : decode jdk_21_method_20_code 28 = .ok (.invokestatic 74, 3) := by decide +kernel
theorem d31_31 : decode jdk_21_method_20_code 31 = .ok (.putfield 24, 3) := by decide +kernel
theorem d31_34 : decode jdk_21_method_20_code 34 = .ok (.aload_n 3, 1) := by decide +kernel
theorem d31_35 : decode jdk_21_method_20_code 35 = .ok (.areturn, 1) := by decide +kernel
def Q31 (Z : State) (w_LOWEST : Addr) (w_HIGHEST : Addr) (w_EMPTY_ELEMENTDATA : Addr) (w_DEFAULTCAPACITY_EMPTY_ELEMENTDATA : Addr) (k_w_EMPTY_ELEMENTDATA : ClassId) (k_w_DEFAULTCAPACITY_EMPTY_ELEMENTDATA : ClassId) (a1 : Addr) (a2 : Addr) (p4 : Int32) (k6 : ClassId) (vs7 : List Value) (a8 : Addr) (h0 : Heap) (n0 : Nat) (v : Option Value) (h : Heap) (L : List Loc) : Prop := Fr n0 L ∧ v = some (.ref a8) ∧ OKeep h0 h [(a2, (p4).toNatClampNeg), (a1, Jvm.RoadKit.slotOf Z "java/util/ArrayDeque" "head" "I")] ∧ Arv Z h a2 k6 (.object "java/lang/Object") (17 : Int32) (vs7.set (p4).toNatClampNeg .null) .null ∧ Fld Z h a1 "java/util/ArrayDeque" "head" "I" (.int (p4 + (1 : Int32)))
theorem ef31 (m : MethodId) (x0 : Addr) : entryFrame m #[(.ref x0)] 4 = mkF m 0 #[.val (.ref x0), .unset, .unset, .unset] [] := by first | (simp [entryFrame, mkF, argsToLocals, Value.category]; done) | rfl
set_option maxRecDepth 65536 in
set_option maxHeartbeats 40000000 in
theorem rm31 (l : Launch) (Z : State) (a0 : Array Value) (hw : ∀ d ∈ tables_1, d.before a0 Z = true) (ws : List Jvm.Cond) {w_LOWEST : Addr} {w_HIGHEST : Addr} {w_EMPTY_ELEMENTDATA : Addr} {w_DEFAULTCAPACITY_EMPTY_ELEMENTDATA : Addr} {k_w_EMPTY_ELEMENTDATA : ClassId} {k_w_DEFAULTCAPACITY_EMPTY_ELEMENTDATA : ClassId} (G : Glob Z w_LOWEST w_HIGHEST w_EMPTY_ELEMENTDATA w_DEFAULTCAPACITY_EMPTY_ELEMENTDATA k_w_EMPTY_ELEMENTDATA k_w_DEFAULTCAPACITY_EMPTY_ELEMENTDATA) (a1 : Addr) (a2 : Addr) (p4 : Int32) (k6 : ClassId) (vs7 : List Value) (a8 : Addr) (h0 : Heap) (n0 : Nat) (O0 : Old Z n0 h0) (F_elements_a1 : Fld Z h0 a1 "java/util/ArrayDeque" "elements" "[Ljava/lang/Object;" (.ref a2)) (F_head_a1 : Fld Z h0 a1 "java/util/ArrayDeque" "head" "I" (.int p4)) (V_a2 : Arv Z h0 a2 k6 (.object "java/lang/Object") (17 : Int32) vs7 .null) (O_k6 : Ovr Z k6 "java/lang/Object") (hg_1 : (vs7).getD (p4).toNatClampNeg .null = (.ref a8)) (hi_1 : ¬ p4 < 0 ∧ p4 < (17 : Int32)) (g_a2 : n0 ≤ a2) (hl_1 : (p4).toNatClampNeg < (vs7).length) (hc_1 : (p4 + (1 : Int32)) < (17 : Int32)) (E_a1 : Exa Z h0 a1 "java/util/ArrayDeque") (g_a1 : n0 ≤ a1) (ne_a1_a2 : a1 ≠ a2) :
    MetFree l (⟨"java/util/ArrayDeque", "pollFirst", "()Ljava/lang/Object;"⟩ : MethodName) (head1 (Jvm.Cond.code (⟨"java/util/ArrayDeque", "pollFirst", "()Ljava/lang/Object;"⟩ : MethodName) jdk_21_method_20_code 4 (some (.object "java/lang/Object")) :: ws) ({ frames := 1, cells := 0, slots := 0, locals := 14 } : Room)) (fun a U => a = #[(.ref a1)] ∧ Z.Warmed39 U.vm ∧ U.heap = h0) (fun _ _ _ _ _ => True) (fun _ U o U' => ∃ v L, o = .returned v ∧ Q31 Z w_LOWEST w_HIGHEST w_EMPTY_ELEMENTDATA w_DEFAULTCAPACITY_EMPTY_ELEMENTDATA k_w_EMPTY_ELEMENTDATA k_w_DEFAULTCAPACITY_EMPTY_ELEMENTDATA a1 a2 p4 k6 vs7 a8 h0 n0 v U'.heap L ∧ FrameEnd U o U' L ({ frames := 1, cells := 0, slots := 0, locals := 14 } : Room).cells ({ frames := 1, cells := 0, slots := 0, locals := 14 } : Room).slots) := by
  refine MetFree.of_bodySF (plainFor_of_name pn_java_util_ArrayDeque) hisR ?_
  intro p e s m args below meth c s₁ Bd hml0 hP hK
  obtain ⟨rfl, hZ, hh⟩ := hP
  have hx := Bd.exec
  have hby := Bd.bytes
  have hml : c.maxLocals = 4 := hml0
  have hown : s.vm.findClass "java/util/ArrayDeque" = some m.cls := findClass_of_methodNamed Bd.named
  have hnm := (name_of_methodNamed Bd.named Bd.method).1
  have X0 : Stand p l e ({ frames := 1, cells := 0, slots := 0, locals := 14 } : Room) s m #[(.ref a1)] below meth c s₁ [] 0 0 := Stand.of_body Bd
  have e0 : s₁.heap = h0 := by rw [← hh, Bd.state]; rfl
  have N0 := Fr.nil n0
  show OGot p.tables e below (s₁.setTop (entryFrame m #[(.ref a1)] 4)) _
  refine OGot.go (fun t k => castTop (ef31 m a1) k) ?_
  show OGot p.tables e below (s₁.setTop (mkF m 0 #[.val (.ref a1), .unset, .unset, .unset] [])) _
  refine OGot.go (fun t k => XS.aloadN X0.here hx rfl (hb hby d31_0) rfl rfl k) ?_
  obtain ⟨T3, X3, e3, st3⟩ := getF X0 hx hZ hown (host := "") (Or.inl (ow hw 97 rfl)) Via.refl e0 F_elements_a1 (g := (mkF m 1 #[.val (.ref a1), .unset, .unset, .unset] [(.ref a1)])) rfl rfl (hb hby d31_1)
  refine OGot.go st3 ?_
  refine OGot.go (fun t k => XS.dup X3.here hx rfl (hb hby d31_4) rfl rfl k) ?_
  refine OGot.go (fun t k => XS.astoreN X3.here hx rfl (hb hby d31_5) rfl rfl (l' := #[.val (.ref a1), .val (.ref a2), .unset, .unset]) rfl k) ?_
  refine OGot.go (fun t k => XS.aloadN X3.here hx rfl (hb hby d31_6) rfl rfl k) ?_
  obtain ⟨T5, X5, e5, st5⟩ := getF X3 hx hZ hown (host := "") (Or.inl (ow hw 169 rfl)) Via.refl e3 F_head_a1 (g := (mkF m 7 #[.val (.ref a1), .val (.ref a2), .unset, .unset] [(.ref a1), (.ref a2)])) rfl rfl (hb hby d31_7)
  refine OGot.go st5 ?_
  show OGot p.tables e below (T5.setTop (mkF m 10 #[.val (.ref a1), .val (.ref a2), .unset, .unset] [(.int p4), (.ref a2)])) _
  refine OGot.go (fun t k => XS.dup X5.here hx rfl (hb hby d31_10) rfl rfl k) ?_
  refine OGot.go (fun t k => XS.istoreN X5.here hx rfl (hb hby d31_11) rfl (l' := #[.val (.ref a1), .val (.ref a2), .val (.int p4), .unset]) rfl k) ?_
  obtain ⟨_, _, ⟨T9, L9, k9, n9⟩, -, X9, ⟨Lc9, hQ9, l9, y9, z9⟩, st9⟩ := Jvm.LawKit.callS X5 hx (y := (⟨"java/util/ArrayDeque", "elementAt", "([Ljava/lang/Object;I)Ljava/lang/Object;"⟩ : MethodName)) hown (mvT hZ (ow hw 197 rfl)) (mvT hZ (ow hw 198 rfl)) (mvT hZ (ow hw 90 rfl)) (mvT hZ (ow hw 199 rfl)) (by decide) (backOf (W := 0) (rm25 l Z a0 hw [] G a2 p4 k6 vs7 a8 h0 n0 O0 V_a2 O_k6 hg_1 hi_1) hZ (ow hw 199 rfl) (ow hw 90 rfl) (by decide) (by decide)) (g := (mkF m 12 #[.val (.ref a1), .val (.ref a2), .val (.int p4), .unset] [(.int p4), (.ref a2)])) rfl (by rw [hml]; rfl) (argsL := [(.ref a2), (.int p4)]) (rest := []) (lenOf pd_3 rfl) rfl (by show 2 * 0 + _ ≤ _; exact Nat.le_of_eq rfl) (hb hby d31_12) (fun _ _ => ⟨rfl, e5, (by decide : 0 + 0 ≤ _), (by decide : 0 + 0 ≤ _)⟩)
  dsimp only [Pt.U, Pt.locs, Pt.cells, Pt.slots] at X9 l9 y9 z9 st9 hQ9
  subst l9 y9 z9
  obtain ⟨rfl, N9q, e9⟩ := hQ9
  have N9 := Fr.app N0 N9q
  refine OGot.go st9 ?_
  refine OGot.go (fun t k => XS.astoreN X9.here hx rfl (hb hby d31_15) rfl rfl (l' := #[.val (.ref a1), .val (.ref a2), .val (.int p4), .val (.ref a8)]) rfl k) ?_
  refine OGot.go (fun t k => XS.aloadN X9.here hx rfl (hb hby d31_16) rfl rfl k) ?_
  refine OGot.go (fun t k => XS.ifnullNo X9.here hx rfl (hb hby d31_17) rfl k) ?_
  show OGot p.tables e below (T9.setTop (mkF m 20 #[.val (.ref a1), .val (.ref a2), .val (.int p4), .val (.ref a8)] [])) _
  refine OGot.go (fun t k => XS.aloadN X9.here hx rfl (hb hby d31_20) rfl rfl k) ?_
  refine OGot.go (fun t k => XS.iloadN X9.here hx rfl (hb hby d31_21) rfl k) ?_
  refine OGot.go (fun t k => XS.aconstNull X9.here hx rfl (hb hby d31_22) k) ?_
  obtain ⟨cl10, Ar10, qc10, Sz10, Ng10, Hh10, Gg10⟩ := id (V_a2)
  have hin10 : ¬ (p4 < 0 ∨ cl10.slots.size ≤ (p4).toNatClampNeg) := inb_of Sz10 hi_1
  obtain ⟨T10, h10, X10, e10, W10, st10⟩ := stR X9 hx hZ e9 Ar10 (j := p4) hin10 rfl (Or.inl rfl) (g := (mkF m 23 #[.val (.ref a1), .val (.ref a2), .val (.int p4), .val (.ref a8)] [.null, (.int p4), (.ref a2)])) rfl rfl (hb hby d31_23)
  refine OGot.go st10 ?_
  have N10 := Fr.snoc X10 N9 g_a2
  have O10 := O0.wr W10 g_a2
  have K10 := (OKeep.refl h0 [(a2, (p4).toNatClampNeg), (a1, Jvm.RoadKit.slotOf Z "java/util/ArrayDeque" "head" "I")]).wr W10 (Or.inl (List.mem_of_getElem? (i := 0) rfl))
  have Va10 : Arv Z h10 a2 k6 (.object "java/lang/Object") (17 : Int32) (vs7.set (p4).toNatClampNeg .null) .null := Arv.set Ar10 qc10 Sz10 Ng10 Hh10 Gg10 rfl W10 (p4).toNatClampNeg rfl hl_1
  refine OGot.go (fun t k => XS.aloadN X10.here hx rfl (hb hby d31_24) rfl rfl k) ?_
  refine OGot.go (fun t k => XS.iloadN X10.here hx rfl (hb hby d31_25) rfl k) ?_
  show OGot p.tables e below (T10.setTop (mkF m 26 #[.val (.ref a1), .val (.ref a2), .val (.int p4), .val (.ref a8)] [(.int p4), (.ref a1)])) _
  refine OGot.go (fun t k => XS.aloadN X10.here hx rfl (hb hby d31_26) rfl rfl k) ?_
  obtain ⟨cl11, Ar11, -, Sz11, Ng11, -, -⟩ := id (Va10)
  refine OGot.go (fun t k => X10.arraylength hx (by rw [e10]; exact Ar11.1) (State.isArrayOf_alike hZ.alike Ar11.2.1) (g := (mkF m 27 #[.val (.ref a1), .val (.ref a2), .val (.int p4), .val (.ref a8)] [(.ref a2), (.int p4), (.ref a1)])) rfl rfl (hb hby d31_27) _ k) ?_
  rw [len_of Sz11 Ng11]
  obtain ⟨_, _, ⟨T12, L12, k12, n12⟩, -, X12, ⟨Lc12, hQ12, l12, y12, z12⟩, st12⟩ := Jvm.LawKit.callS X10 hx (y := (⟨"java/util/ArrayDeque", "inc", "(II)I"⟩ : MethodName)) hown (mvT hZ (ow hw 181 rfl)) (mvT hZ (ow hw 182 rfl)) (mvT hZ (ow hw 90 rfl)) (mvT hZ (ow hw 183 rfl)) (by decide) (backOf (W := 1) (rm22 l Z a0 hw [] G p4 h10 n0 O10 hc_1) hZ (ow hw 183 rfl) (ow hw 90 rfl) (by decide) (by decide)) (g := (mkF m 28 #[.val (.ref a1), .val (.ref a2), .val (.int p4), .val (.ref a8)] [(.int (17 : Int32)), (.int p4), (.ref a1)])) rfl (by rw [hml]; rfl) (argsL := [(.int p4), (.int (17 : Int32))]) (rest := [(.ref a1)]) (lenOf pd_1 rfl) rfl (by show 2 * 0 + _ ≤ _; exact Nat.le_of_eq rfl) (hb hby d31_28) (fun _ _ => ⟨rfl, e10, (by decide : 0 + 0 ≤ _), (by decide : 0 + 0 ≤ _)⟩)
  dsimp only [Pt.U, Pt.locs, Pt.cells, Pt.slots] at X12 l12 y12 z12 st12 hQ12
  subst l12 y12 z12
  obtain ⟨rfl, N12q, e12⟩ := hQ12
  have N12 := Fr.app N10 N12q
  refine OGot.go st12 ?_
  have ne13 : a1 ≠ a2 := ne_a1_a2
  have F14 : Fld Z h10 a1 "java/util/ArrayDeque" "head" "I" (.int p4) := (F_head_a1.other W10 (Or.inl ne13))
  obtain ⟨T15, h15, X15, e15, W15, st15⟩ := putF X12 hx hZ hown (host := "") (Or.inl (ow hw 169 rfl)) Via.refl e12 F14 (E_a1.wr W10) (Or.inl (ow hw 170 rfl)) (ow hw 89 rfl) (ty := .int) (by decide) rfl rfl (g := (mkF m 31 #[.val (.ref a1), .val (.ref a2), .val (.int p4), .val (.ref a8)] [(.int (p4 + (1 : Int32))), (.ref a1)])) rfl rfl (hb hby d31_31)
  refine OGot.go st15 ?_
  have N15 := Fr.snoc X15 N12 g_a1
  have O15 := O10.wr W15 g_a1
  have K15 := K10.wr W15 (Or.inl (List.mem_of_getElem? (i := 1) rfl))
  have Fw15 : Fld Z h15 a1 "java/util/ArrayDeque" "head" "I" (.int (p4 + (1 : Int32))) := F14.same W15
  refine OGot.go (fun t k => XS.aloadN X15.here hx rfl (hb hby d31_34) rfl rfl k) ?_
  show OGot p.tables e below (T15.setTop (mkF m 35 #[.val (.ref a1), .val (.ref a2), .val (.int p4), .val (.ref a8)] [(.ref a8)])) _
  obtain ⟨fs, hr, hrun, hended, hW, hsame⟩ := X15.leave (v := some (.ref a8)) (fun h => by rw [Bd.returns] at h; cases h)
  refine ⟨_, _, oretA X15 hx Bd.returns rfl rfl (hb hby d31_35) hr, hrun, hended, _, _, rfl, ?_, ⟨_, rfl⟩, hW, hsame.mono (by decide) (by decide)⟩
  have F16 : Arv Z h15 a2 k6 (.object "java/lang/Object") (17 : Int32) (vs7.set (p4).toNatClampNeg .null) .null := (Va10.other W15 (Ne.symm ne13))
  show Q31 Z w_LOWEST w_HIGHEST w_EMPTY_ELEMENTDATA w_DEFAULTCAPACITY_EMPTY_ELEMENTDATA k_w_EMPTY_ELEMENTDATA k_w_DEFAULTCAPACITY_EMPTY_ELEMENTDATA a1 a2 p4 k6 vs7 a8 h0 n0 _ T15.heap _
  rw [e15]
  exact ⟨N15, rfl, K15, F16, Fw15⟩
theorem d30_4 : decode jdk_21_method_18_code 4 = .ok (.astore_n 1, 1) := by decide +kernel
theorem d30_5 : decode jdk_21_method_18_code 5 = .ok (.aload_n 1, 1) := by decide +kernel
theorem d30_6 : decode jdk_21_method_18_code 6 = .ok (.ifnonnull 11, 3) := by decide +kernel
theorem d30_17 : decode jdk_21_method_18_code 17 = .ok (.aload_n 1, 1) := by decide +kernel
theorem d30_18 : decode jdk_21_method_18_code 18 = .ok (.areturn, 1) := by decide +kernel
def Q30 (Z : State) (w_LOWEST : Addr) (w_HIGHEST : Addr) (w_EMPTY_ELEMENTDATA : Addr) (w_DEFAULTCAPACITY_EMPTY_ELEMENTDATA : Addr) (k_w_EMPTY_ELEMENTDATA : ClassId) (k_w_DEFAULTCAPACITY_EMPTY_ELEMENTDATA : ClassId) (a1 : Addr) (a2 : Addr) (p3 : Int32) (k4 : ClassId) (vs5 : List Value) (a6 : Addr) (h0 : Heap) (n0 : Nat) (v : Option Value) (h : Heap) (L : List Loc) : Prop := Fr n0 L ∧ v = some (.ref a6) ∧ OKeep h0 h [(a1, Jvm.RoadKit.slotOf Z "java/util/ArrayDeque" "head" "I"), (a2, (p3).toNatClampNeg)] ∧ Fld Z h a1 "java/util/ArrayDeque" "head" "I" (.int (p3 + (1 : Int32))) ∧ Arv Z h a2 k4 (.object "java/lang/Object") (17 : Int32) (vs5.set (p3).toNatClampNeg .null) .null
theorem ef30 (m : MethodId) (x0 : Addr) : entryFrame m #[(.ref x0)] 2 = mkF m 0 #[.val (.ref x0), .unset] [] := by first | (simp [entryFrame, mkF, argsToLocals, Value.category]; done) | rfl
set_option maxRecDepth 65536 in
set_option maxHeartbeats 40000000 in
theorem rm30 (l : Launch) (Z : State) (a0 : Array Value) (hw : ∀ d ∈ tables_1, d.before a0 Z = true) (ws : List Jvm.Cond) {w_LOWEST : Addr} {w_HIGHEST : Addr} {w_EMPTY_ELEMENTDATA : Addr} {w_DEFAULTCAPACITY_EMPTY_ELEMENTDATA : Addr} {k_w_EMPTY_ELEMENTDATA : ClassId} {k_w_DEFAULTCAPACITY_EMPTY_ELEMENTDATA : ClassId} (G : Glob Z w_LOWEST w_HIGHEST w_EMPTY_ELEMENTDATA w_DEFAULTCAPACITY_EMPTY_ELEMENTDATA k_w_EMPTY_ELEMENTDATA k_w_DEFAULTCAPACITY_EMPTY_ELEMENTDATA) (a1 : Addr) (a2 : Addr) (p3 : Int32) (k4 : ClassId) (vs5 : List Value) (a6 : Addr) (h0 : Heap) (n0 : Nat) (O0 : Old Z n0 h0) (E_a1 : Exa Z h0 a1 "java/util/ArrayDeque") (F_elements_a1 : Fld Z h0 a1 "java/util/ArrayDeque" "elements" "[Ljava/lang/Object;" (.ref a2)) (F_head_a1 : Fld Z h0 a1 "java/util/ArrayDeque" "head" "I" (.int p3)) (V_a2 : Arv Z h0 a2 k4 (.object "java/lang/Object") (17 : Int32) vs5 .null) (O_k4 : Ovr Z k4 "java/lang/Object") (hg_1 : (vs5).getD (p3).toNatClampNeg .null = (.ref a6)) (g_a2 : n0 ≤ a2) (hc_1 : (p3 + (1 : Int32)) < (17 : Int32)) (g_a1 : n0 ≤ a1) (ne_a1_a2 : a1 ≠ a2) (hi_1 : ¬ p3 < 0 ∧ p3 < (17 : Int32)) (hl_1 : (p3).toNatClampNeg < (vs5).length) :
    MetFree l (⟨"java/util/ArrayDeque", "removeFirst", "()Ljava/lang/Object;"⟩ : MethodName) (head1 (Jvm.Cond.code (⟨"java/util/ArrayDeque", "removeFirst", "()Ljava/lang/Object;"⟩ : MethodName) jdk_21_method_18_code 2 (some (.object "java/lang/Object")) :: ws) ({ frames := 2, cells := 0, slots := 0, locals := 29 } : Room)) (fun a U => a = #[(.ref a1)] ∧ Z.Warmed39 U.vm ∧ U.heap = h0) (fun _ _ _ _ _ => True) (fun _ U o U' => ∃ v L, o = .returned v ∧ Q30 Z w_LOWEST w_HIGHEST w_EMPTY_ELEMENTDATA w_DEFAULTCAPACITY_EMPTY_ELEMENTDATA k_w_EMPTY_ELEMENTDATA k_w_DEFAULTCAPACITY_EMPTY_ELEMENTDATA a1 a2 p3 k4 vs5 a6 h0 n0 v U'.heap L ∧ FrameEnd U o U' L ({ frames := 2, cells := 0, slots := 0, locals := 29 } : Room).cells ({ frames := 2, cells := 0, slots := 0, locals := 29 } : Room).slots) := by
  refine MetFree.of_bodySF (plainFor_of_name pn_java_util_ArrayDeque) hisR ?_
  intro p e s m args below meth c s₁ Bd hml0 hP hK
  obtain ⟨rfl, hZ, hh⟩ := hP
  have hx := Bd.exec
  have hby := Bd.bytes
  have hml : c.maxLocals = 2 := hml0
  have hown : s.vm.findClass "java/util/ArrayDeque" = some m.cls := findClass_of_methodNamed Bd.named
  have hnm := (name_of_methodNamed Bd.named Bd.method).1
  have X0 : Stand p l e ({ frames := 2, cells := 0, slots := 0, locals := 29 } : Room) s m #[(.ref a1)] below meth c s₁ [] 0 0 := Stand.of_body Bd
  have e0 : s₁.heap = h0 := by rw [← hh, Bd.state]; rfl
  have N0 := Fr.nil n0
  show OGot p.tables e below (s₁.setTop (entryFrame m #[(.ref a1)] 2)) _
  refine OGot.go (fun t k => castTop (ef30 m a1) k) ?_
  show OGot p.tables e below (s₁.setTop (mkF m 0 #[.val (.ref a1), .unset] [])) _
  refine OGot.go (fun t k => XS.aloadN X0.here hx rfl (hb hby d30_0) rfl rfl k) ?_
  have ne7 : a1 ≠ a2 := ne_a1_a2
  obtain ⟨cq8, kq8, q8a, q8b, q8c⟩ := isOf hZ e0 E_a1
  obtain ⟨_, _, ⟨T8, L8, k8, n8⟩, -, X8, ⟨Lc8, hQ8, l8, y8, z8⟩, st8⟩ := X0.virtualBack hx (y := (⟨"java/util/ArrayDeque", "pollFirst", "()Ljava/lang/Object;"⟩ : MethodName)) (z := (⟨"java/util/ArrayDeque", "pollFirst", "()Ljava/lang/Object;"⟩ : MethodName)) hown (mvT hZ (ow hw 231 rfl)) (mvT hZ (ow hw 232 rfl)) (notFace_of_selects (args := #[]) (mvT hZ (ow hw 234 rfl))) (mvT hZ (ow hw 234 rfl)) (mvT hZ (ow hw 233 rfl)) (by decide) (backOf (W := 0) (rm31 l Z a0 hw [] G a1 a2 p3 k4 vs5 a6 h0 n0 O0 F_elements_a1 F_head_a1 V_a2 O_k4 hg_1 hi_1 g_a2 hl_1 hc_1 E_a1 g_a1 ne7) hZ (ow hw 235 rfl) (ow hw 90 rfl) (by decide) (by decide)) q8a q8c (g := (mkF m 1 #[.val (.ref a1), .unset] [(.ref a1)])) rfl (by rw [hml]; rfl) (Steps.refl _) (argsL := []) (rest := []) (lenOf pd_4 rfl) rfl (by show 2 * 0 + _ ≤ _; exact Nat.le_of_eq rfl) (hb hby d30_1) (fun _ _ => ⟨rfl, e0, (by decide : 0 + 0 ≤ _), (by decide : 0 + 0 ≤ _)⟩)
  dsimp only [Pt.U, Pt.locs, Pt.cells, Pt.slots] at X8 l8 y8 z8 st8 hQ8
  subst l8 y8 z8
  obtain ⟨N8q, rfl, K8, Fo8_0, Fo8_1⟩ := hQ8
  have Kc8 := (OKeep.refl h0 [(a1, Jvm.RoadKit.slotOf Z "java/util/ArrayDeque" "head" "I"), (a2, (p3).toNatClampNeg)]).trans K8 (oinS (Or.inl (List.mem_of_getElem? (i := 1) rfl)) (oinS (Or.inl (List.mem_of_getElem? (i := 0) rfl)) oin0))
  have O8 := OKeep.old O0 K8 (ogeS g_a2 (ogeS g_a1 oge0))
  have N8 := Fr.app N0 N8q
  refine OGot.on st8 ?_
  refine OGot.go (fun t k => XS.astoreN X8.here hx rfl (hb hby d30_4) rfl rfl (l' := #[.val (.ref a1), .val (.ref a6)]) rfl k) ?_
  refine OGot.go (fun t k => XS.aloadN X8.here hx rfl (hb hby d30_5) rfl rfl k) ?_
  refine OGot.go (fun t k => XS.ifnonnullYes X8.here hx rfl (pc0 := 6) (pc' := 17) rfl (hb hby d30_6) rfl (by decide) (by decide) k) ?_
  refine OGot.go (fun t k => XS.aloadN X8.here hx rfl (hb hby d30_17) rfl rfl k) ?_
  show OGot p.tables e below (T8.setTop (mkF m 18 #[.val (.ref a1), .val (.ref a6)] [(.ref a6)])) _
  obtain ⟨fs, hr, hrun, hended, hW, hsame⟩ := X8.leave (v := some (.ref a6)) (fun h => by rw [Bd.returns] at h; cases h)
  refine ⟨_, _, oretA X8 hx Bd.returns rfl rfl (hb hby d30_18) hr, hrun, hended, _, _, rfl, ?_, ⟨_, rfl⟩, hW, hsame.mono (by decide) (by decide)⟩
  show Q30 Z w_LOWEST w_HIGHEST w_EMPTY_ELEMENTDATA w_DEFAULTCAPACITY_EMPTY_ELEMENTDATA k_w_EMPTY_ELEMENTDATA k_w_DEFAULTCAPACITY_EMPTY_ELEMENTDATA a1 a2 p3 k4 vs5 a6 h0 n0 _ T8.heap _
  exact ⟨N8, rfl, Kc8, Fo8_1, Fo8_0⟩
theorem d27_50 : decode prog_24_method_2_code 50 = .ok (.pop, 1) := by decide +kernel
theorem d27_51 : decode prog_24_method_2_code 51 = .ok (.goto (-43), 3) := by decide +kernel
set_option maxRecDepth 65536 in
set_option maxHeartbeats 40000000 in
theorem adE {p : Program} {l : Launch} {e : Env} {s : State} {m : MethodId} {args : Array Value} {below : List Frame} {meth : Method} {c : Code} {T0 : State} {locs : List Loc} {Z : State} {a0 : Array Value} (hw : ∀ d ∈ tables_1, d.before a0 Z = true) {w_LOWEST : Addr} {w_HIGHEST : Addr} {w_EMPTY_ELEMENTDATA : Addr} {w_DEFAULTCAPACITY_EMPTY_ELEMENTDATA : Addr} {k_w_EMPTY_ELEMENTDATA : ClassId} {k_w_DEFAULTCAPACITY_EMPTY_ELEMENTDATA : ClassId} (G : Glob Z w_LOWEST w_HIGHEST w_EMPTY_ELEMENTDATA w_DEFAULTCAPACITY_EMPTY_ELEMENTDATA k_w_EMPTY_ELEMENTDATA k_w_DEFAULTCAPACITY_EMPTY_ELEMENTDATA) (X0 : Stand p l e ({ frames := 4, cells := 1, slots := 2, locals := 120 } : Room) s m args below meth c T0 locs 0 0) (hx : p.tables.exec = Jvm.exec) (hZ : Z.Warmed39 s.vm) (hby : c.code = prog_24_method_2_code) (hml : c.maxLocals = 7) (hown : s.vm.findClass "com/example/restrained_scaler/restrainedscaler/decision/StabilizationWindow" = some m.cls) (aW : Addr) (dq : Addr) (ar : Addr) (kp : Addr) (sec : Int64) (kA : ClassId) (hd : Int32) (tl : Int32) (vs : List Value) (qT : Int64) (qE : Int64) (qS : Int64) (aX : Addr) (tX : Int64) (eX : Int64) (h0 : Heap) (n0 : Nat) (O0 : Old Z n0 h0) (e0 : T0.heap = h0) (N0 : Fr n0 locs) (E_aW : Exa Z h0 aW "com/example/restrained_scaler/restrainedscaler/decision/StabilizationWindow") (F_demands_aW : Fld Z h0 aW "com/example/restrained_scaler/restrainedscaler/decision/StabilizationWindow" "demands" "Ljava/util/Deque;" (.ref dq)) (F_kept_aW : Fld Z h0 aW "com/example/restrained_scaler/restrainedscaler/decision/StabilizationWindow" "kept" "Lcom/example/restrained_scaler/restrainedscaler/decision/StabilizationWindow$Kept;" (.ref kp)) (F_seconds_aW : Fld Z h0 aW "com/example/restrained_scaler/restrainedscaler/decision/StabilizationWindow" "seconds" "J" (.long sec)) (E_dq : Exa Z h0 dq "java/util/ArrayDeque") (F_head_dq : Fld Z h0 dq "java/util/ArrayDeque" "head" "I" (.int hd)) (F_tail_dq : Fld Z h0 dq "java/util/ArrayDeque" "tail" "I" (.int tl)) (F_elements_dq : Fld Z h0 dq "java/util/ArrayDeque" "elements" "[Ljava/lang/Object;" (.ref ar)) (E_ar : Exa Z h0 ar "[Ljava/lang/Object;") (V_ar : Arv Z h0 ar kA (.object "java/lang/Object") (17 : Int32) vs .null) (O_kA : Ovr Z kA "java/lang/Object") (g_dq : n0 ≤ dq) (g_ar : n0 ≤ ar) (E_aX : Exa Z h0 aX "com/example/restrained_scaler/restrainedscaler/decision/Decider$Demand") (F_time_aX : Fld Z h0 aX "com/example/restrained_scaler/restrainedscaler/decision/Decider$Demand" "time" "J" (.long tX)) (F_desired_aX : Fld Z h0 aX "com/example/restrained_scaler/restrainedscaler/decision/Decider$Demand" "desired" "J" (.long eX)) (hc_1 : ¬ (hd = tl)) (hg_1 : (vs).getD (hd).toNatClampNeg .null = (.ref aX)) (hi_1 : ¬ hd < 0 ∧ hd < (17 : Int32)) (hc_2 : ¬ (qS < tX)) (hc_3 : (hd + (1 : Int32)) < (17 : Int32)) (hl_1 : (hd).toNatClampNeg < (vs).length) :
    ∃ (T' : State) (L' : List Loc) (h' : Heap), Stand p l e ({ frames := 4, cells := 1, slots := 2, locals := 120 } : Room) s m args below meth c T' L' 0 0 ∧ T'.heap = h' ∧ Fr n0 L' ∧ Old Z n0 h' ∧ (∀ t, Steps p.tables e below (T'.setTop (mkF m 8 #[.val (.ref aW), .val (.long qT), .second, .val (.long qE), .second, .val (.long qS), .second] [])) t → Steps p.tables e below (T0.setTop (mkF m 8 #[.val (.ref aW), .val (.long qT), .second, .val (.long qE), .second, .val (.long qS), .second] [])) t) ∧ OKeep h0 h' [(ar, (hd).toNatClampNeg), (dq, Jvm.RoadKit.slotOf Z "java/util/ArrayDeque" "head" "I")] ∧ Exa Z h' aW "com/example/restrained_scaler/restrainedscaler/decision/StabilizationWindow" ∧ Fld Z h' aW "com/example/restrained_scaler/restrainedscaler/decision/StabilizationWindow" "demands" "Ljava/util/Deque;" (.ref dq) ∧ Fld Z h' aW "com/example/restrained_scaler/restrainedscaler/decision/StabilizationWindow" "kept" "Lcom/example/restrained_scaler/restrainedscaler/decision/StabilizationWindow$Kept;" (.ref kp) ∧ Fld Z h' aW "com/example/restrained_scaler/restrainedscaler/decision/StabilizationWindow" "seconds" "J" (.long sec) ∧ Exa Z h' dq "java/util/ArrayDeque" ∧ Fld Z h' dq "java/util/ArrayDeque" "head" "I" (.int (hd + (1 : Int32))) ∧ Fld Z h' dq "java/util/ArrayDeque" "tail" "I" (.int tl) ∧ Fld Z h' dq "java/util/ArrayDeque" "elements" "[Ljava/lang/Object;" (.ref ar) ∧ Exa Z h' ar "[Ljava/lang/Object;" ∧ Arv Z h' ar kA (.object "java/lang/Object") (17 : Int32) (vs.set (hd).toNatClampNeg .null) .null ∧ Exa Z h' aX "com/example/restrained_scaler/restrainedscaler/decision/Decider$Demand" ∧ Fld Z h' aX "com/example/restrained_scaler/restrainedscaler/decision/Decider$Demand" "time" "J" (.long tX) ∧ Fld Z h' aX "com/example/restrained_scaler/restrainedscaler/decision/Decider$Demand" "desired" "J" (.long eX) := by
  obtain ⟨T101, X101, e101, st101⟩ := getF X0 hx hZ hown (host := "") (Or.inl (ow hw 99 rfl)) Via.refl e0 F_demands_aW (g := (mkF m 9 #[.val (.ref aW), .val (.long qT), .second, .val (.long qE), .second, .val (.long qS), .second] [(.ref aW)])) rfl rfl (hb hby d27_9)
  obtain ⟨cq102, kq102, q102a, q102b, q102c⟩ := isOf hZ e101 E_dq
  obtain ⟨_, _, ⟨T102, L102, k102, n102⟩, -, X102, ⟨Lc102, hQ102, l102, y102, z102⟩, st102⟩ := ointerfaceBackUp X101 hx (J := "java/util/Collection") (xi := (⟨"java/util/Deque", "isEmpty", "()Z"⟩ : MethodName)) (y := (⟨"java/util/ArrayDeque", "isEmpty", "()Z"⟩ : MethodName)) hown (mvT hZ (ow hw 160 rfl)) (mvT hZ (ow hw 161 rfl)) (omvI hZ (ow hw 162 rfl)) (by decide) (mvT hZ (ow hw 163 rfl)) (mvT hZ (ow hw 164 rfl)) (mvT hZ (ow hw 165 rfl)) (mvT hZ (ow hw 166 rfl)) (mvT hZ (ow hw 167 rfl)) (by decide) (by decide) (backOf (W := 0) (rm20_1 l Z a0 hw [] G dq hd tl h0 n0 O0 F_head_dq F_tail_dq hc_1) hZ (ow hw 168 rfl) (ow hw 90 rfl) (by decide) (by decide)) q102a q102b q102c (g := (mkF m 12 #[.val (.ref aW), .val (.long qT), .second, .val (.long qE), .second, .val (.long qS), .second] [(.ref dq)])) rfl (by rw [hml]; rfl) (Steps.refl _) (argsL := []) (rest := []) (lenOf pd_0 rfl) rfl (by show 2 * 0 + _ ≤ _; exact Nat.le_of_eq rfl) (hb hby d27_12) (fun _ _ => ⟨rfl, e101, (by decide : 0 + 0 ≤ _), (by decide : 0 + 0 ≤ _)⟩)
  dsimp only [Pt.U, Pt.locs, Pt.cells, Pt.slots] at X102 l102 y102 z102 st102 hQ102
  subst l102 y102 z102
  obtain ⟨rfl, N102q, e102⟩ := hQ102
  have N102 := Fr.app N0 N102q
  obtain ⟨T103, X103, e103, st103⟩ := getF X102 hx hZ hown (host := "") (Or.inl (ow hw 99 rfl)) Via.refl e102 F_demands_aW (g := (mkF m 21 #[.val (.ref aW), .val (.long qT), .second, .val (.long qE), .second, .val (.long qS), .second] [(.ref aW)])) rfl rfl (hb hby d27_21)
  obtain ⟨cq104, kq104, q104a, q104b, q104c⟩ := isOf hZ e103 E_dq
  obtain ⟨_, _, ⟨T104, L104, k104, n104⟩, -, X104, ⟨Lc104, hQ104, l104, y104, z104⟩, st104⟩ := X103.interfaceBack hx (xi := (⟨"java/util/Deque", "peekFirst", "()Ljava/lang/Object;"⟩ : MethodName)) (y := (⟨"java/util/ArrayDeque", "peekFirst", "()Ljava/lang/Object;"⟩ : MethodName)) hown (mvT hZ (ow hw 210 rfl)) (mvT hZ (ow hw 211 rfl)) (mvT hZ (ow hw 212 rfl)) (mvT hZ (ow hw 213 rfl)) (mvT hZ (ow hw 214 rfl)) (mvT hZ (ow hw 215 rfl)) (mvT hZ (ow hw 216 rfl)) (mvT hZ (ow hw 167 rfl)) (by decide) (backOf (W := 0) (rm28 l Z a0 hw [] G dq ar hd kA vs aX h0 n0 O0 F_elements_dq F_head_dq V_ar O_kA hg_1 hi_1) hZ (ow hw 217 rfl) (ow hw 90 rfl) (by decide) (by decide)) q104a q104b q104c (g := (mkF m 24 #[.val (.ref aW), .val (.long qT), .second, .val (.long qE), .second, .val (.long qS), .second] [(.ref dq)])) rfl (by rw [hml]; rfl) (Steps.refl _) (argsL := []) (rest := []) (lenOf pd_4 rfl) rfl (by show 2 * 0 + _ ≤ _; exact Nat.le_of_eq rfl) (hb hby d27_24) (fun _ _ => ⟨rfl, e103, (by decide : 0 + 0 ≤ _), (by decide : 0 + 0 ≤ _)⟩)
  dsimp only [Pt.U, Pt.locs, Pt.cells, Pt.slots] at X104 l104 y104 z104 st104 hQ104
  subst l104 y104 z104
  obtain ⟨rfl, N104q, e104⟩ := hQ104
  have N104 := Fr.app N102 N104q
  obtain ⟨T105, X105, e105, st105⟩ := castY X104 hx hZ hown (ow hw 154 rfl) e104 (Ins.self E_aX) (g := (mkF m 29 #[.val (.ref aW), .val (.long qT), .second, .val (.long qE), .second, .val (.long qS), .second] [(.ref aX)])) rfl rfl (hb hby d27_29)
  obtain ⟨cq106, kq106, q106a, q106b, q106c⟩ := isOf hZ e105 E_aX
  obtain ⟨_, _, ⟨T106, L106, k106, n106⟩, -, X106, ⟨Lc106, hQ106, l106, y106, z106⟩, st106⟩ := X105.virtualBack hx (y := (⟨"com/example/restrained_scaler/restrainedscaler/decision/Decider$Demand", "time", "()J"⟩ : MethodName)) (z := (⟨"com/example/restrained_scaler/restrainedscaler/decision/Decider$Demand", "time", "()J"⟩ : MethodName)) hown (mvT hZ (ow hw 218 rfl)) (mvT hZ (ow hw 219 rfl)) (notFace_of_selects (args := #[]) (mvT hZ (ow hw 221 rfl))) (mvT hZ (ow hw 221 rfl)) (mvT hZ (ow hw 220 rfl)) (by decide) (backOf (W := 0) (rm29 l Z a0 hw [] G aX tX h0 n0 O0 F_time_aX) hZ (ow hw 222 rfl) (ow hw 32 rfl) (by decide) (by decide)) q106a q106c (g := (mkF m 32 #[.val (.ref aW), .val (.long qT), .second, .val (.long qE), .second, .val (.long qS), .second] [(.ref aX)])) rfl (by rw [hml]; rfl) (Steps.refl _) (argsL := []) (rest := []) (lenOf pd_5 rfl) rfl (by show 2 * 0 + _ ≤ _; exact Nat.le_of_eq rfl) (hb hby d27_32) (fun _ _ => ⟨rfl, e105, (by decide : 0 + 0 ≤ _), (by decide : 0 + 0 ≤ _)⟩)
  dsimp only [Pt.U, Pt.locs, Pt.cells, Pt.slots] at X106 l106 y106 z106 st106 hQ106
  subst l106 y106 z106
  obtain ⟨rfl, N106q, e106⟩ := hQ106
  have N106 := Fr.app N104 N106q
  obtain ⟨T107, X107, e107, st107⟩ := getF X106 hx hZ hown (host := "") (Or.inl (ow hw 99 rfl)) Via.refl e106 F_demands_aW (g := (mkF m 42 #[.val (.ref aW), .val (.long qT), .second, .val (.long qE), .second, .val (.long qS), .second] [(.ref aW)])) rfl rfl (hb hby d27_42)
  have ne108 : dq ≠ ar := (ne_exa E_dq E_ar (by decide))
  obtain ⟨cq109, kq109, q109a, q109b, q109c⟩ := isOf hZ e107 E_dq
  obtain ⟨_, _, ⟨T109, L109, k109, n109⟩, -, X109, ⟨Lc109, hQ109, l109, y109, z109⟩, st109⟩ := X107.interfaceBack hx (xi := (⟨"java/util/Deque", "removeFirst", "()Ljava/lang/Object;"⟩ : MethodName)) (y := (⟨"java/util/ArrayDeque", "removeFirst", "()Ljava/lang/Object;"⟩ : MethodName)) hown (mvT hZ (ow hw 223 rfl)) (mvT hZ (ow hw 224 rfl)) (mvT hZ (ow hw 225 rfl)) (mvT hZ (ow hw 226 rfl)) (mvT hZ (ow hw 227 rfl)) (mvT hZ (ow hw 228 rfl)) (mvT hZ (ow hw 229 rfl)) (mvT hZ (ow hw 167 rfl)) (by decide) (backOf (W := 0) (rm30 l Z a0 hw [] G dq ar hd kA vs aX h0 n0 O0 E_dq F_elements_dq F_head_dq V_ar O_kA hg_1 g_ar hc_3 g_dq ne108 hi_1 hl_1) hZ (ow hw 230 rfl) (ow hw 90 rfl) (by decide) (by decide)) q109a q109b q109c (g := (mkF m 45 #[.val (.ref aW), .val (.long qT), .second, .val (.long qE), .second, .val (.long qS), .second] [(.ref dq)])) rfl (by rw [hml]; rfl) (Steps.refl _) (argsL := []) (rest := []) (lenOf pd_4 rfl) rfl (by show 2 * 0 + _ ≤ _; exact Nat.le_of_eq rfl) (hb hby d27_45) (fun _ _ => ⟨rfl, e107, (by decide : 0 + 0 ≤ _), (by decide : 0 + 0 ≤ _)⟩)
  dsimp only [Pt.U, Pt.locs, Pt.cells, Pt.slots] at X109 l109 y109 z109 st109 hQ109
  subst l109 y109 z109
  obtain ⟨N109q, rfl, K109, Fo109_0, Fo109_1⟩ := hQ109
  have Kc109 := (OKeep.refl h0 [(ar, (hd).toNatClampNeg), (dq, Jvm.RoadKit.slotOf Z "java/util/ArrayDeque" "head" "I")]).trans K109 (oinS (Or.inl (List.mem_of_getElem? (i := 1) rfl)) (oinS (Or.inl (List.mem_of_getElem? (i := 0) rfl)) oin0))
  have O109 := OKeep.old O0 K109 (ogeS g_dq (ogeS g_ar oge0))
  have N109 := Fr.app N106 N109q
  have ne110 : aW ≠ ar := (ne_exa (OKeep.exa E_aW K109) (OKeep.exa E_ar K109) (by decide))
  have ne111 : aW ≠ dq := (ne_exa (OKeep.exa E_aW K109) (OKeep.exa E_dq K109) (by decide))
  have F112 : Fld Z T109.heap aW "com/example/restrained_scaler/restrainedscaler/decision/StabilizationWindow" "demands" "Ljava/util/Deque;" (.ref dq) := (OKeep.fld F_demands_aW K109 (oninA ne111 (oninA ne110 onin0)))
  have F113 : Fld Z T109.heap aW "com/example/restrained_scaler/restrainedscaler/decision/StabilizationWindow" "kept" "Lcom/example/restrained_scaler/restrainedscaler/decision/StabilizationWindow$Kept;" (.ref kp) := (OKeep.fld F_kept_aW K109 (oninA ne111 (oninA ne110 onin0)))
  have F114 : Fld Z T109.heap aW "com/example/restrained_scaler/restrainedscaler/decision/StabilizationWindow" "seconds" "J" (.long sec) := (OKeep.fld F_seconds_aW K109 (oninA ne111 (oninA ne110 onin0)))
  have F115 : Fld Z T109.heap dq "java/util/ArrayDeque" "tail" "I" (.int tl) := (OKeep.fld F_tail_dq K109 (oninS (slot_ne (Or.inl (ow hw 172 rfl)) (Or.inl (ow hw 170 rfl)) (by decide) (t := .int) (t' := .int) (by decide) (by decide)) (oninA ne108 onin0)))
  have F116 : Fld Z T109.heap dq "java/util/ArrayDeque" "elements" "[Ljava/lang/Object;" (.ref ar) := (OKeep.fld F_elements_dq K109 (oninS (slot_ne (Or.inl (ow hw 98 rfl)) (Or.inl (ow hw 170 rfl)) (by decide) (t := (.array (.object "java/lang/Object"))) (t' := .int) (by decide) (by decide)) (oninA ne108 onin0)))
  have ne117 : aX ≠ ar := (ne_exa (OKeep.exa E_aX K109) (OKeep.exa E_ar K109) (by decide))
  have ne118 : aX ≠ dq := (ne_exa (OKeep.exa E_aX K109) (OKeep.exa E_dq K109) (by decide))
  have F119 : Fld Z T109.heap aX "com/example/restrained_scaler/restrainedscaler/decision/Decider$Demand" "time" "J" (.long tX) := (OKeep.fld F_time_aX K109 (oninA ne118 (oninA ne117 onin0)))
  have F120 : Fld Z T109.heap aX "com/example/restrained_scaler/restrainedscaler/decision/Decider$Demand" "desired" "J" (.long eX) := (OKeep.fld F_desired_aX K109 (oninA ne118 (oninA ne117 onin0)))
  refine ⟨T109, _, T109.heap, X109, rfl, N109, O109, fun t k => ?_, Kc109, (OKeep.exa E_aW K109), F112, F113, F114, (OKeep.exa E_dq K109), Fo109_0, F115, F116, (OKeep.exa E_ar K109), Fo109_1, (OKeep.exa E_aX K109), F119, F120⟩
  refine XS.aloadN X0.here hx rfl (hb hby d27_8) rfl rfl ?_
  refine st101 _ ?_
  refine st102.trans ?_
  refine XS.ifNo X102.here hx rfl (hb hby d27_17) rfl (by decide) ?_
  refine XS.aloadN X102.here hx rfl (hb hby d27_20) rfl rfl ?_
  show Steps p.tables e below (T102.setTop (mkF m 21 #[.val (.ref aW), .val (.long qT), .second, .val (.long qE), .second, .val (.long qS), .second] [(.ref aW)])) _
  refine st103 _ ?_
  refine st104.trans ?_
  refine st105 _ ?_
  refine st106.trans ?_
  refine XS.lload X106.here hx rfl (hb hby d27_35) rfl ?_
  refine XS.lcmp X106.here hx rfl (hb hby d27_37) rfl ?_
  show Steps p.tables e below (T106.setTop (mkF m 38 #[.val (.ref aW), .val (.long qT), .second, .val (.long qE), .second, .val (.long qS), .second] [(.int (lcmpW tX qS))])) _
  refine XS.ifNo X106.here hx rfl (hb hby d27_38) rfl ((if0 _ _).trans (flt (fun q => hc_2 ((lw_gt tX qS).mp q))).2.2.1) ?_
  refine XS.aloadN X106.here hx rfl (hb hby d27_41) rfl rfl ?_
  refine st107 _ ?_
  refine st109.trans ?_
  refine XS.pop X109.here hx rfl (hb hby d27_50) rfl rfl ?_
  refine XS.goto X109.here hx rfl (pc0 := 51) (pc' := 8) rfl (hb hby d27_51) (by decide) (by decide) ?_
  show Steps p.tables e below (T109.setTop (mkF m 8 #[.val (.ref aW), .val (.long qT), .second, .val (.long qE), .second, .val (.long qS), .second] [])) _
  exact k
theorem d27_54 : decode prog_24_method_2_code 54 = .ok (.aload_n 0, 1) := by decide +kernel
theorem d27_55 : decode prog_24_method_2_code 55 = .ok (.new 40, 3) := by decide +kernel
theorem d27_58 : decode prog_24_method_2_code 58 = .ok (.dup, 1) := by decide +kernel
theorem d27_59 : decode prog_24_method_2_code 59 = .ok (.lload_n 1, 1) := by decide +kernel
theorem d27_60 : decode prog_24_method_2_code 60 = .ok (.lload_n 3, 1) := by decide +kernel
theorem d27_61 : decode prog_24_method_2_code 61 = .ok (.invokespecial 61, 3) := by decide +kernel
theorem d5_0 : decode prog_16_method_1_code 0 = .ok (.aload_n 0, 1) := by decide +kernel
theorem d5_1 : decode prog_16_method_1_code 1 = .ok (.invokespecial 1, 3) := by decide +kernel
theorem d6_0 : decode jdk_30_method_1_code 0 = .ok (.aload_n 0, 1) := by decide +kernel
theorem d6_1 : decode jdk_30_method_1_code 1 = .ok (.invokespecial 1, 3) := by decide +kernel
theorem d6_4 : decode jdk_30_method_1_code 4 = .ok (.return_, 1) := by decide +kernel
theorem pn_java_lang_Record : plainName "java/lang/Record" = true := by first | (simp [plainName, overriddenIn]; done) | decide +kernel
def Q6 (Z : State) (w_LOWEST : Addr) (w_HIGHEST : Addr) (w_EMPTY_ELEMENTDATA : Addr) (w_DEFAULTCAPACITY_EMPTY_ELEMENTDATA : Addr) (k_w_EMPTY_ELEMENTDATA : ClassId) (k_w_DEFAULTCAPACITY_EMPTY_ELEMENTDATA : ClassId) (a1 : Addr) (h0 : Heap) (n0 : Nat) (v : Option Value) (h : Heap) (L : List Loc) : Prop := v = none ∧ Fr n0 L ∧ h = h0
theorem ef6 (m : MethodId) (x0 : Addr) : entryFrame m #[(.ref x0)] 1 = mkF m 0 #[.val (.ref x0)] [] := by first | (simp [entryFrame, mkF, argsToLocals, Value.category]; done) | rfl
set_option maxRecDepth 65536 in
set_option maxHeartbeats 40000000 in
theorem rm6 (l : Launch) (Z : State) (a0 : Array Value) (hw : ∀ d ∈ tables_1, d.before a0 Z = true) (ws : List Jvm.Cond) {w_LOWEST : Addr} {w_HIGHEST : Addr} {w_EMPTY_ELEMENTDATA : Addr} {w_DEFAULTCAPACITY_EMPTY_ELEMENTDATA : Addr} {k_w_EMPTY_ELEMENTDATA : ClassId} {k_w_DEFAULTCAPACITY_EMPTY_ELEMENTDATA : ClassId} (G : Glob Z w_LOWEST w_HIGHEST w_EMPTY_ELEMENTDATA w_DEFAULTCAPACITY_EMPTY_ELEMENTDATA k_w_EMPTY_ELEMENTDATA k_w_DEFAULTCAPACITY_EMPTY_ELEMENTDATA) (a1 : Addr) (h0 : Heap) (n0 : Nat) (O0 : Old Z n0 h0) :
    MetFree l (⟨"java/lang/Record", "<init>", "()V"⟩ : MethodName) (head1 (Jvm.Cond.code (⟨"java/lang/Record", "<init>", "()V"⟩ : MethodName) jdk_30_method_1_code 1 none :: ws) ({ frames := 1, cells := 0, slots := 0, locals := 12 } : Room)) (fun a U => a = #[(.ref a1)] ∧ Z.Warmed39 U.vm ∧ U.heap = h0) (fun _ _ _ _ _ => True) (fun _ U o U' => ∃ v L, o = .returned v ∧ Q6 Z w_LOWEST w_HIGHEST w_EMPTY_ELEMENTDATA w_DEFAULTCAPACITY_EMPTY_ELEMENTDATA k_w_EMPTY_ELEMENTDATA k_w_DEFAULTCAPACITY_EMPTY_ELEMENTDATA a1 h0 n0 v U'.heap L ∧ FrameEnd U o U' L ({ frames := 1, cells := 0, slots := 0, locals := 12 } : Room).cells ({ frames := 1, cells := 0, slots := 0, locals := 12 } : Room).slots) := by
  refine MetFree.of_bodySF (plainFor_of_name pn_java_lang_Record) hisR ?_
  intro p e s m args below meth c s₁ Bd hml0 hP hK
  obtain ⟨rfl, hZ, hh⟩ := hP
  have hx := Bd.exec
  have hby := Bd.bytes
  have hml : c.maxLocals = 1 := hml0
  have hown : s.vm.findClass "java/lang/Record" = some m.cls := findClass_of_methodNamed Bd.named
  have hnm := (name_of_methodNamed Bd.named Bd.method).1
  have X0 : Stand p l e ({ frames := 1, cells := 0, slots := 0, locals := 12 } : Room) s m #[(.ref a1)] below meth c s₁ [] 0 0 := Stand.of_body Bd
  have e0 : s₁.heap = h0 := by rw [← hh, Bd.state]; rfl
  have N0 := Fr.nil n0
  show OGot p.tables e below (s₁.setTop (entryFrame m #[(.ref a1)] 1)) _
  refine OGot.go (fun t k => castTop (ef6 m a1) k) ?_
  show OGot p.tables e below (s₁.setTop (mkF m 0 #[.val (.ref a1)] [])) _
  refine OGot.go (fun t k => XS.aloadN X0.here hx rfl (hb hby d6_0) rfl rfl k) ?_
  obtain ⟨T2, X2, e2, st2⟩ := initO X0 hx hZ hown (ow hw 41 rfl) (ow hw 23 rfl) (ow hw 24 rfl) e0 (g := (mkF m 1 #[.val (.ref a1)] [(.ref a1)])) rfl (by rw [hml]; rfl) rfl (hb hby d6_1) (by decide) (W := 0) (by show 2 * 0 + _ ≤ _; exact Nat.le_of_eq rfl) (by decide)
  refine OGot.go st2 ?_
  show OGot p.tables e below (T2.setTop (mkF m 4 #[.val (.ref a1)] [])) _
  obtain ⟨fs, hr, hrun, hended, hW, hsame⟩ := X2.leave (v := none) (fun _ => rfl)
  refine ⟨_, _, X2.returnOut hx Bd.returns (hb hby d6_4) hr, hrun, hended, _, _, rfl, ?_, ⟨_, rfl⟩, hW, hsame.mono (by decide) (by decide)⟩
  exact (⟨rfl, N0, e2⟩ : Q6 Z w_LOWEST w_HIGHEST w_EMPTY_ELEMENTDATA w_DEFAULTCAPACITY_EMPTY_ELEMENTDATA k_w_EMPTY_ELEMENTDATA k_w_DEFAULTCAPACITY_EMPTY_ELEMENTDATA a1 h0 n0 _ T2.heap _)
theorem pd_7 : parseMethodDescriptor "()V" = some ⟨[], none⟩ := by decide +kernel
theorem d5_4 : decode prog_16_method_1_code 4 = .ok (.aload_n 0, 1) := by decide +kernel
theorem d5_5 : decode prog_16_method_1_code 5 = .ok (.lload_n 1, 1) := by decide +kernel
theorem d5_6 : decode prog_16_method_1_code 6 = .ok (.putfield 7, 3) := by decide +kernel
theorem d5_9 : decode prog_16_method_1_code 9 = .ok (.aload_n 0, 1) := by decide +kernel
theorem d5_10 : decode prog_16_method_1_code 10 = .ok (.lload_n 3, 1) := by decide +kernel
theorem d5_11 : decode prog_16_method_1_code 11 = .ok (.putfield 13, 3) := by decide +kernel
theorem d5_14 : decode prog_16_method_1_code 14 = .ok (.return_, 1) := by decide +kernel
def Q5 (Z : State) (w_LOWEST : Addr) (w_HIGHEST : Addr) (w_EMPTY_ELEMENTDATA : Addr) (w_DEFAULTCAPACITY_EMPTY_ELEMENTDATA : Addr) (k_w_EMPTY_ELEMENTDATA : ClassId) (k_w_DEFAULTCAPACITY_EMPTY_ELEMENTDATA : ClassId) (a1 : Addr) (q2 : Int64) (q3 : Int64) (h0 : Heap) (n0 : Nat) (v : Option Value) (h : Heap) (L : List Loc) : Prop := Fr n0 L ∧ v = none ∧ OKeep h0 h [(a1, Jvm.RoadKit.slotOf Z "com/example/restrained_scaler/restrainedscaler/decision/Decider$Demand" "time" "J"), (a1, Jvm.RoadKit.slotOf Z "com/example/restrained_scaler/restrainedscaler/decision/Decider$Demand" "desired" "J")] ∧ Fld Z h a1 "com/example/restrained_scaler/restrainedscaler/decision/Decider$Demand" "time" "J" (.long q2) ∧ Fld Z h a1 "com/example/restrained_scaler/restrainedscaler/decision/Decider$Demand" "desired" "J" (.long q3)
theorem ef5 (m : MethodId) (x0 : Addr) (x1 : Int64) (x2 : Int64) : entryFrame m #[(.ref x0), (.long x1), (.long x2)] 5 = mkF m 0 #[.val (.ref x0), .val (.long x1), .second, .val (.long x2), .second] [] := by first | (simp [entryFrame, mkF, argsToLocals, Value.category]; done) | rfl
set_option maxRecDepth 65536 in
set_option maxHeartbeats 40000000 in
theorem rm5 (l : Launch) (Z : State) (a0 : Array Value) (hw : ∀ d ∈ tables_1, d.before a0 Z = true) (ws : List Jvm.Cond) {w_LOWEST : Addr} {w_HIGHEST : Addr} {w_EMPTY_ELEMENTDATA : Addr} {w_DEFAULTCAPACITY_EMPTY_ELEMENTDATA : Addr} {k_w_EMPTY_ELEMENTDATA : ClassId} {k_w_DEFAULTCAPACITY_EMPTY_ELEMENTDATA : ClassId} (G : Glob Z w_LOWEST w_HIGHEST w_EMPTY_ELEMENTDATA w_DEFAULTCAPACITY_EMPTY_ELEMENTDATA k_w_EMPTY_ELEMENTDATA k_w_DEFAULTCAPACITY_EMPTY_ELEMENTDATA) (a1 : Addr) (q2 : Int64) (q3 : Int64) (h0 : Heap) (n0 : Nat) (O0 : Old Z n0 h0) (E_a1 : Exa Z h0 a1 "com/example/restrained_scaler/restrainedscaler/decision/Decider$Demand") (F_time_a1 : Fld Z h0 a1 "com/example/restrained_scaler/restrainedscaler/decision/Decider$Demand" "time" "J" (.long (0 : Int64))) (g_a1 : n0 ≤ a1) (F_desired_a1 : Fld Z h0 a1 "com/example/restrained_scaler/restrainedscaler/decision/Decider$Demand" "desired" "J" (.long (0 : Int64))) :
    MetFree l (⟨"com/example/restrained_scaler/restrainedscaler/decision/Decider$Demand", "<init>", "(JJ)V"⟩ : MethodName) (head1 (Jvm.Cond.code (⟨"com/example/restrained_scaler/restrainedscaler/decision/Decider$Demand", "<init>", "(JJ)V"⟩ : MethodName) prog_16_method_1_code 5 none :: ws) ({ frames := 2, cells := 0, slots := 0, locals := 24 } : Room)) (fun a U => a = #[(.ref a1), (.long q2), (.long q3)] ∧ Z.Warmed39 U.vm ∧ U.heap = h0) (fun _ _ _ _ _ => True) (fun _ U o U' => ∃ v L, o = .returned v ∧ Q5 Z w_LOWEST w_HIGHEST w_EMPTY_ELEMENTDATA w_DEFAULTCAPACITY_EMPTY_ELEMENTDATA k_w_EMPTY_ELEMENTDATA k_w_DEFAULTCAPACITY_EMPTY_ELEMENTDATA a1 q2 q3 h0 n0 v U'.heap L ∧ FrameEnd U o U' L ({ frames := 2, cells := 0, slots := 0, locals := 24 } : Room).cells ({ frames := 2, cells := 0, slots := 0, locals := 24 } : Room).slots) := by
  refine MetFree.of_bodySF (plainFor_of_name pn_com_example_restrained_scaler_restrainedscaler_decision_Decider_Demand) hisR ?_
  intro p e s m args below meth c s₁ Bd hml0 hP hK
  obtain ⟨rfl, hZ, hh⟩ := hP
  have hx := Bd.exec
  have hby := Bd.bytes
  have hml : c.maxLocals = 5 := hml0
  have hown : s.vm.findClass "com/example/restrained_scaler/restrainedscaler/decision/Decider$Demand" = some m.cls := findClass_of_methodNamed Bd.named
  have hnm := (name_of_methodNamed Bd.named Bd.method).1
  have X0 : Stand p l e ({ frames := 2, cells := 0, slots := 0, locals := 24 } : Room) s m #[(.ref a1), (.long q2), (.long q3)] below meth c s₁ [] 0 0 := Stand.of_body Bd
  have e0 : s₁.heap = h0 := by rw [← hh, Bd.state]; rfl
  have N0 := Fr.nil n0
  show OGot p.tables e below (s₁.setTop (entryFrame m #[(.ref a1), (.long q2), (.long q3)] 5)) _
  refine OGot.go (fun t k => castTop (ef5 m a1 q2 q3) k) ?_
  show OGot p.tables e below (s₁.setTop (mkF m 0 #[.val (.ref a1), .val (.long q2), .second, .val (.long q3), .second] [])) _
  refine OGot.go (fun t k => XS.aloadN X0.here hx rfl (hb hby d5_0) rfl rfl k) ?_
  obtain ⟨_, _, ⟨T4, L4, k4, n4⟩, -, X4, ⟨Lc4, hQ4, l4, y4, z4⟩, st4⟩ := X0.specialBack hx (y := (⟨"java/lang/Record", "<init>", "()V"⟩ : MethodName)) rfl hown (mvT hZ (ow hw 36 rfl)) (mvT hZ (ow hw 37 rfl)) (mvT hZ (ow hw 40 rfl)) (by decide) (backOf (W := 0) (rm6 l Z a0 hw [] G a1 h0 n0 O0 ) hZ (ow hw 40 rfl) (ow hw 39 rfl) (by decide) (by decide)) (g := (mkF m 1 #[.val (.ref a1), .val (.long q2), .second, .val (.long q3), .second] [(.ref a1)])) rfl (by rw [hml]; rfl) (Steps.refl _) (a := a1) (argsL := []) (rest := []) (lenOf pd_7 rfl) rfl (by show 2 * 0 + _ ≤ _; exact Nat.le_of_eq rfl) (hb hby d5_1) (fun _ _ => ⟨rfl, e0, (by decide : 0 + 0 ≤ _), (by decide : 0 + 0 ≤ _)⟩)
  dsimp only [Pt.U, Pt.locs, Pt.cells, Pt.slots] at X4 l4 y4 z4 st4 hQ4
  subst l4 y4 z4
  obtain ⟨rfl, N4q, e4⟩ := hQ4
  have N4 := Fr.app N0 N4q
  refine OGot.on st4 ?_
  refine OGot.go (fun t k => XS.aloadN X4.here hx rfl (hb hby d5_4) rfl rfl k) ?_
  refine OGot.go (fun t k => XS.lloadN X4.here hx rfl (hb hby d5_5) rfl k) ?_
  obtain ⟨T5, h5, X5, e5, W5, st5⟩ := putF X4 hx hZ hown (host := "") (Or.inl (ow hw 42 rfl)) Via.refl e4 F_time_a1 E_a1 (Or.inr ⟨(ow hw 43 rfl), rfl, hnm⟩) (ow hw 31 rfl) (ty := .long) (by decide) rfl rfl (g := (mkF m 6 #[.val (.ref a1), .val (.long q2), .second, .val (.long q3), .second] [(.long q2), (.ref a1)])) rfl rfl (hb hby d5_6)
  refine OGot.go st5 ?_
  have N5 := Fr.snoc X5 N4 g_a1
  have O5 := O0.wr W5 g_a1
  have K5 := (OKeep.refl h0 [(a1, Jvm.RoadKit.slotOf Z "com/example/restrained_scaler/restrainedscaler/decision/Decider$Demand" "time" "J"), (a1, Jvm.RoadKit.slotOf Z "com/example/restrained_scaler/restrainedscaler/decision/Decider$Demand" "desired" "J")]).wr W5 (Or.inl (List.mem_of_getElem? (i := 0) rfl))
  have Fw5 : Fld Z h5 a1 "com/example/restrained_scaler/restrainedscaler/decision/Decider$Demand" "time" "J" (.long q2) := F_time_a1.same W5
  refine OGot.go (fun t k => XS.aloadN X5.here hx rfl (hb hby d5_9) rfl rfl k) ?_
  show OGot p.tables e below (T5.setTop (mkF m 10 #[.val (.ref a1), .val (.long q2), .second, .val (.long q3), .second] [(.ref a1)])) _
  refine OGot.go (fun t k => XS.lloadN X5.here hx rfl (hb hby d5_10) rfl k) ?_
  have F6 : Fld Z h5 a1 "com/example/restrained_scaler/restrainedscaler/decision/Decider$Demand" "desired" "J" (.long (0 : Int64)) := (F_desired_a1.other W5 (Or.inr (slot_ne (Or.inr (ow hw 45 rfl)) (Or.inr (ow hw 43 rfl)) (by decide) (t := .long) (t' := .long) (by decide) (by decide))))
  obtain ⟨T7, h7, X7, e7, W7, st7⟩ := putF X5 hx hZ hown (host := "") (Or.inl (ow hw 44 rfl)) Via.refl e5 F6 (E_a1.wr W5) (Or.inr ⟨(ow hw 45 rfl), rfl, hnm⟩) (ow hw 31 rfl) (ty := .long) (by decide) rfl rfl (g := (mkF m 11 #[.val (.ref a1), .val (.long q2), .second, .val (.long q3), .second] [(.long q3), (.ref a1)])) rfl rfl (hb hby d5_11)
  refine OGot.go st7 ?_
  have N7 := Fr.snoc X7 N5 g_a1
  have O7 := O5.wr W7 g_a1
  have K7 := K5.wr W7 (Or.inl (List.mem_of_getElem? (i := 1) rfl))
  have Fw7 : Fld Z h7 a1 "com/example/restrained_scaler/restrainedscaler/decision/Decider$Demand" "desired" "J" (.long q3) := F6.same W7
  show OGot p.tables e below (T7.setTop (mkF m 14 #[.val (.ref a1), .val (.long q2), .second, .val (.long q3), .second] [])) _
  obtain ⟨fs, hr, hrun, hended, hW, hsame⟩ := X7.leave (v := none) (fun _ => rfl)
  refine ⟨_, _, X7.returnOut hx Bd.returns (hb hby d5_14) hr, hrun, hended, _, _, rfl, ?_, ⟨_, rfl⟩, hW, hsame.mono (by decide) (by decide)⟩
  have F8 : Fld Z h7 a1 "com/example/restrained_scaler/restrainedscaler/decision/Decider$Demand" "time" "J" (.long q2) := (Fw5.other W7 (Or.inr (slot_ne (Or.inr (ow hw 43 rfl)) (Or.inr (ow hw 45 rfl)) (by decide) (t := .long) (t' := .long) (by decide) (by decide))))
  show Q5 Z w_LOWEST w_HIGHEST w_EMPTY_ELEMENTDATA w_DEFAULTCAPACITY_EMPTY_ELEMENTDATA k_w_EMPTY_ELEMENTDATA k_w_DEFAULTCAPACITY_EMPTY_ELEMENTDATA a1 q2 q3 h0 n0 _ T7.heap _
  rw [e7]
  exact ⟨N7, rfl, K7, F8, Fw7⟩
theorem pd_8 : parseMethodDescriptor "(JJ)V" = some ⟨[.long, .long], none⟩ := by decide +kernel
set_option maxRecDepth 65536 in
set_option maxHeartbeats 40000000 in
theorem adN {p : Program} {l : Launch} {e : Env} {s : State} {m : MethodId} {args : Array Value} {below : List Frame} {meth : Method} {c : Code} {T0 : State} {locs : List Loc} {Z : State} {a0 : Array Value} (hw : ∀ d ∈ tables_1, d.before a0 Z = true) {w_LOWEST : Addr} {w_HIGHEST : Addr} {w_EMPTY_ELEMENTDATA : Addr} {w_DEFAULTCAPACITY_EMPTY_ELEMENTDATA : Addr} {k_w_EMPTY_ELEMENTDATA : ClassId} {k_w_DEFAULTCAPACITY_EMPTY_ELEMENTDATA : ClassId} (G : Glob Z w_LOWEST w_HIGHEST w_EMPTY_ELEMENTDATA w_DEFAULTCAPACITY_EMPTY_ELEMENTDATA k_w_EMPTY_ELEMENTDATA k_w_DEFAULTCAPACITY_EMPTY_ELEMENTDATA) (X0 : Stand p l e ({ frames := 4, cells := 1, slots := 2, locals := 120 } : Room) s m args below meth c T0 locs 0 0) (hx : p.tables.exec = Jvm.exec) (hZ : Z.Warmed39 s.vm) (hby : c.code = prog_24_method_2_code) (hml : c.maxLocals = 7) (hown : s.vm.findClass "com/example/restrained_scaler/restrainedscaler/decision/StabilizationWindow" = some m.cls) (aW : Addr) (dq : Addr) (ar : Addr) (kp : Addr) (sec : Int64) (kA : ClassId) (hd : Int32) (tl : Int32) (vs : List Value) (qT : Int64) (qE : Int64) (qS : Int64) (h0 : Heap) (n0 : Nat) (O0 : Old Z n0 h0) (e0 : T0.heap = h0) (N0 : Fr n0 locs) (E_aW : Exa Z h0 aW "com/example/restrained_scaler/restrainedscaler/decision/StabilizationWindow") (F_demands_aW : Fld Z h0 aW "com/example/restrained_scaler/restrainedscaler/decision/StabilizationWindow" "demands" "Ljava/util/Deque;" (.ref dq)) (F_kept_aW : Fld Z h0 aW "com/example/restrained_scaler/restrainedscaler/decision/StabilizationWindow" "kept" "Lcom/example/restrained_scaler/restrainedscaler/decision/StabilizationWindow$Kept;" (.ref kp)) (F_seconds_aW : Fld Z h0 aW "com/example/restrained_scaler/restrainedscaler/decision/StabilizationWindow" "seconds" "J" (.long sec)) (E_dq : Exa Z h0 dq "java/util/ArrayDeque") (F_head_dq : Fld Z h0 dq "java/util/ArrayDeque" "head" "I" (.int hd)) (F_tail_dq : Fld Z h0 dq "java/util/ArrayDeque" "tail" "I" (.int tl)) (F_elements_dq : Fld Z h0 dq "java/util/ArrayDeque" "elements" "[Ljava/lang/Object;" (.ref ar)) (E_ar : Exa Z h0 ar "[Ljava/lang/Object;") (V_ar : Arv Z h0 ar kA (.object "java/lang/Object") (17 : Int32) vs .null) (O_kA : Ovr Z kA "java/lang/Object") (g_dq : n0 ≤ dq) (g_ar : n0 ≤ ar) :
    ∃ (T' : State) (L' : List Loc) (h' : Heap), ∃ b101 : Addr, Stand p l e ({ frames := 4, cells := 1, slots := 2, locals := 120 } : Room) s m args below meth c T' L' 1 2 ∧ T'.heap = h' ∧ Fr n0 L' ∧ Old Z n0 h' ∧ (∀ t, Steps p.tables e below (T'.setTop (mkF m 64 #[.val (.ref aW), .val (.long qT), .second, .val (.long qE), .second, .val (.long qS), .second] [(.ref b101), (.ref aW)])) t → Steps p.tables e below (T0.setTop (mkF m 54 #[.val (.ref aW), .val (.long qT), .second, .val (.long qE), .second, .val (.long qS), .second] [])) t) ∧ h0.size ≤ b101 ∧ OKeep h0 h' [] ∧ Exa Z h' aW "com/example/restrained_scaler/restrainedscaler/decision/StabilizationWindow" ∧ Fld Z h' aW "com/example/restrained_scaler/restrainedscaler/decision/StabilizationWindow" "demands" "Ljava/util/Deque;" (.ref dq) ∧ Fld Z h' aW "com/example/restrained_scaler/restrainedscaler/decision/StabilizationWindow" "kept" "Lcom/example/restrained_scaler/restrainedscaler/decision/StabilizationWindow$Kept;" (.ref kp) ∧ Fld Z h' aW "com/example/restrained_scaler/restrainedscaler/decision/StabilizationWindow" "seconds" "J" (.long sec) ∧ Exa Z h' dq "java/util/ArrayDeque" ∧ Fld Z h' dq "java/util/ArrayDeque" "head" "I" (.int hd) ∧ Fld Z h' dq "java/util/ArrayDeque" "tail" "I" (.int tl) ∧ Fld Z h' dq "java/util/ArrayDeque" "elements" "[Ljava/lang/Object;" (.ref ar) ∧ Exa Z h' ar "[Ljava/lang/Object;" ∧ Arv Z h' ar kA (.object "java/lang/Object") (17 : Int32) vs .null ∧ Exa Z h' b101 "com/example/restrained_scaler/restrainedscaler/decision/Decider$Demand" ∧ Fld Z h' b101 "com/example/restrained_scaler/restrainedscaler/decision/Decider$Demand" "desired" "J" (.long qE) ∧ Fld Z h' b101 "com/example/restrained_scaler/restrainedscaler/decision/Decider$Demand" "time" "J" (.long qT) := by
  obtain ⟨T101, h101, X101, e101, E101, A101, D101, -, st101⟩ := newO X0 hx hZ hown (ow hw 154 rfl) (ow hw 31 rfl) (ow hw 32 rfl) e0 (g := (mkF m 55 #[.val (.ref aW), .val (.long qT), .second, .val (.long qE), .second, .val (.long qS), .second] [(.ref aW)])) rfl (hb hby d27_55) (by decide) (by decide)
  obtain ⟨b101, g101⟩ : ∃ z, z = h0.size := ⟨_, rfl⟩
  rw [← g101] at A101 D101 st101
  have g_b101 : n0 ≤ b101 := Nat.le_trans (osz O0) (Nat.le_of_eq g101.symm)
  have sy_b101 : h0.size ≤ b101 := Nat.le_of_eq g101.symm
  have sz_b101 : h0.size ≤ b101 := Nat.le_trans (OKeep.refl h0 []).1 sy_b101
  have K101 := (OKeep.refl h0 []).ext E101
  have O101 := O0.ext E101
  have F101_time : Fld Z h101 b101 "com/example/restrained_scaler/restrainedscaler/decision/Decider$Demand" "time" "J" (.long (0 : Int64)) := D101 (Or.inr (ow hw 43 rfl)) (ty := .long) (by decide)
  have F101_desired : Fld Z h101 b101 "com/example/restrained_scaler/restrainedscaler/decision/Decider$Demand" "desired" "J" (.long (0 : Int64)) := D101 (Or.inr (ow hw 45 rfl)) (ty := .long) (by decide)
  obtain ⟨_, _, ⟨T102, L102, k102, n102⟩, -, X102, ⟨Lc102, hQ102, l102, y102, z102⟩, st102⟩ := X101.specialBack hx (y := (⟨"com/example/restrained_scaler/restrainedscaler/decision/Decider$Demand", "<init>", "(JJ)V"⟩ : MethodName)) rfl hown (mvT hZ (ow hw 236 rfl)) (mvT hZ (ow hw 34 rfl)) (mvT hZ (ow hw 35 rfl)) (by decide) (backOf (W := 2) (rm5 l Z a0 hw [] G b101 qT qE h101 n0 O101 A101 F101_time g_b101 F101_desired) hZ (ow hw 35 rfl) (ow hw 32 rfl) (by decide) (by decide)) (g := (mkF m 61 #[.val (.ref aW), .val (.long qT), .second, .val (.long qE), .second, .val (.long qS), .second] [(.long qE), (.long qT), (.ref b101), (.ref b101), (.ref aW)])) rfl (by rw [hml]; rfl) (Steps.refl _) (a := b101) (argsL := [(.long qT), (.long qE)]) (rest := [(.ref b101), (.ref aW)]) (lenOf pd_8 rfl) rfl (by show 2 * 0 + _ ≤ _; exact Nat.le_of_eq rfl) (hb hby d27_61) (fun _ _ => ⟨rfl, e101, (by decide : 1 + 0 ≤ _), (by decide : 2 + 0 ≤ _)⟩)
  dsimp only [Pt.U, Pt.locs, Pt.cells, Pt.slots] at X102 l102 y102 z102 st102 hQ102
  subst l102 y102 z102
  obtain ⟨N102q, rfl, K102, Fo102_0, Fo102_1⟩ := hQ102
  have Kc102 := K101.trans K102 (oinS (Or.inr sz_b101) (oinS (Or.inr sz_b101) oin0))
  have O102 := OKeep.old O101 K102 (ogeS g_b101 (ogeS g_b101 oge0))
  have N102 := Fr.app N0 N102q
  have ne103 : aW ≠ b101 := (Nat.ne_of_lt (Nat.lt_of_lt_of_le F_seconds_aW.lt sy_b101))
  have F104 : Fld Z T102.heap aW "com/example/restrained_scaler/restrainedscaler/decision/StabilizationWindow" "demands" "Ljava/util/Deque;" (.ref dq) := (OKeep.fld (F_demands_aW.ext E101) K102 (oninA ne103 (oninA ne103 onin0)))
  have F105 : Fld Z T102.heap aW "com/example/restrained_scaler/restrainedscaler/decision/StabilizationWindow" "kept" "Lcom/example/restrained_scaler/restrainedscaler/decision/StabilizationWindow$Kept;" (.ref kp) := (OKeep.fld (F_kept_aW.ext E101) K102 (oninA ne103 (oninA ne103 onin0)))
  have F106 : Fld Z T102.heap aW "com/example/restrained_scaler/restrainedscaler/decision/StabilizationWindow" "seconds" "J" (.long sec) := (OKeep.fld (F_seconds_aW.ext E101) K102 (oninA ne103 (oninA ne103 onin0)))
  have ne107 : dq ≠ b101 := (Nat.ne_of_lt (Nat.lt_of_lt_of_le F_elements_dq.lt sy_b101))
  have F108 : Fld Z T102.heap dq "java/util/ArrayDeque" "head" "I" (.int hd) := (OKeep.fld (F_head_dq.ext E101) K102 (oninA ne107 (oninA ne107 onin0)))
  have F109 : Fld Z T102.heap dq "java/util/ArrayDeque" "tail" "I" (.int tl) := (OKeep.fld (F_tail_dq.ext E101) K102 (oninA ne107 (oninA ne107 onin0)))
  have F110 : Fld Z T102.heap dq "java/util/ArrayDeque" "elements" "[Ljava/lang/Object;" (.ref ar) := (OKeep.fld (F_elements_dq.ext E101) K102 (oninA ne107 (oninA ne107 onin0)))
  have ne111 : ar ≠ b101 := (Nat.ne_of_lt (Nat.lt_of_lt_of_le V_ar.lt sy_b101))
  have F112 : Arv Z T102.heap ar kA (.object "java/lang/Object") (17 : Int32) vs .null := (OKeep.arv (V_ar.ext E101) K102 (oallS ne111 (oallS ne111 oall0)))
  refine ⟨T102, _, T102.heap, b101, X102, rfl, N102, O102, fun t k => ?_, sz_b101, Kc102, (OKeep.exa (E_aW.ext E101) K102), F104, F105, F106, (OKeep.exa (E_dq.ext E101) K102), F108, F109, F110, (OKeep.exa (E_ar.ext E101) K102), F112, (OKeep.exa A101 K102), Fo102_1, Fo102_0⟩
  refine XS.aloadN X0.here hx rfl (hb hby d27_54) rfl rfl ?_
  refine st101 _ ?_
  refine XS.dup X101.here hx rfl (hb hby d27_58) rfl rfl ?_
  refine XS.lloadN X101.here hx rfl (hb hby d27_59) rfl ?_
  refine XS.lloadN X101.here hx rfl (hb hby d27_60) rfl ?_
  show Steps p.tables e below (T101.setTop (mkF m 61 #[.val (.ref aW), .val (.long qT), .second, .val (.long qE), .second, .val (.long qS), .second] [(.long qE), (.long qT), (.ref b101), (.ref b101), (.ref aW)])) _
  refine st102.trans ?_
  exact k
theorem d23_0 : decode prog_24_method_3_code 0 = .ok (.aload_n 0, 1) := by decide +kernel
theorem d23_1 : decode prog_24_method_3_code 1 = .ok (.getfield 10, 3) := by decide +kernel
theorem d23_4 : decode prog_24_method_3_code 4 = .ok (.invokeinterface 64 1, 5) := by decide +kernel
theorem d24_0 : decode jdk_21_method_22_code 0 = .ok (.aload_n 0, 1) := by decide +kernel
theorem d24_1 : decode jdk_21_method_22_code 1 = .ok (.getfield 3, 3) := by decide +kernel
theorem d24_4 : decode jdk_21_method_22_code 4 = .ok (.aload_n 0, 1) := by decide +kernel
theorem d24_5 : decode jdk_21_method_22_code 5 = .ok (.getfield 24, 3) := by decide +kernel
theorem d24_8 : decode jdk_21_method_22_code 8 = .ok (.invokestatic 103, 3) := by decide +kernel
theorem d24_11 : decode jdk_21_method_22_code 11 = .ok (.astore_n 1, 1) := by decide +kernel
theorem d24_12 : decode jdk_21_method_22_code 12 = .ok (.aload_n 1, 1) := by decide +kernel
theorem d24_13 : decode jdk_21_method_22_code 13 = .ok (.ifnonnull 11, 3) := by decide +kernel
theorem d24_24 : decode jdk_21_method_22_code 24 = .ok (.aload_n 1, 1) := by decide +kernel
theorem d24_25 : decode jdk_21_method_22_code 25 = .ok (.areturn, 1) := by decide +kernel
def Q24 (Z : State) (w_LOWEST : Addr) (w_HIGHEST : Addr) (w_EMPTY_ELEMENTDATA : Addr) (w_DEFAULTCAPACITY_EMPTY_ELEMENTDATA : Addr) (k_w_EMPTY_ELEMENTDATA : ClassId) (k_w_DEFAULTCAPACITY_EMPTY_ELEMENTDATA : ClassId) (a1 : Addr) (a2 : Addr) (p4 : Int32) (k6 : ClassId) (vs7 : List Value) (a8 : Addr) (h0 : Heap) (n0 : Nat) (v : Option Value) (h : Heap) (L : List Loc) : Prop := v = some (.ref a8) ∧ Fr n0 L ∧ h = h0
theorem ef24 (m : MethodId) (x0 : Addr) : entryFrame m #[(.ref x0)] 2 = mkF m 0 #[.val (.ref x0), .unset] [] := by first | (simp [entryFrame, mkF, argsToLocals, Value.category]; done) | rfl
set_option maxRecDepth 65536 in
set_option maxHeartbeats 40000000 in
theorem rm24 (l : Launch) (Z : State) (a0 : Array Value) (hw : ∀ d ∈ tables_1, d.before a0 Z = true) (ws : List Jvm.Cond) {w_LOWEST : Addr} {w_HIGHEST : Addr} {w_EMPTY_ELEMENTDATA : Addr} {w_DEFAULTCAPACITY_EMPTY_ELEMENTDATA : Addr} {k_w_EMPTY_ELEMENTDATA : ClassId} {k_w_DEFAULTCAPACITY_EMPTY_ELEMENTDATA : ClassId} (G : Glob Z w_LOWEST w_HIGHEST w_EMPTY_ELEMENTDATA w_DEFAULTCAPACITY_EMPTY_ELEMENTDATA k_w_EMPTY_ELEMENTDATA k_w_DEFAULTCAPACITY_EMPTY_ELEMENTDATA) (a1 : Addr) (a2 : Addr) (p4 : Int32) (k6 : ClassId) (vs7 : List Value) (a8 : Addr) (h0 : Heap) (n0 : Nat) (O0 : Old Z n0 h0) (F_elements_a1 : Fld Z h0 a1 "java/util/ArrayDeque" "elements" "[Ljava/lang/Object;" (.ref a2)) (F_head_a1 : Fld Z h0 a1 "java/util/ArrayDeque" "head" "I" (.int p4)) (V_a2 : Arv Z h0 a2 k6 (.object "java/lang/Object") (17 : Int32) vs7 .null) (O_k6 : Ovr Z k6 "java/lang/Object") (hg_1 : (vs7).getD (p4).toNatClampNeg .null = (.ref a8)) (hi_1 : ¬ p4 < 0 ∧ p4 < (17 : Int32)) :
    MetFree l (⟨"java/util/ArrayDeque", "getFirst", "()Ljava/lang/Object;"⟩ : MethodName) (head1 (Jvm.Cond.code (⟨"java/util/ArrayDeque", "getFirst", "()Ljava/lang/Object;"⟩ : MethodName) jdk_21_method_22_code 2 (some (.object "java/lang/Object")) :: ws) ({ frames := 1, cells := 0, slots := 0, locals := 13 } : Room)) (fun a U => a = #[(.ref a1)] ∧ Z.Warmed39 U.vm ∧ U.heap = h0) (fun _ _ _ _ _ => True) (fun _ U o U' => ∃ v L, o = .returned v ∧ Q24 Z w_LOWEST w_HIGHEST w_EMPTY_ELEMENTDATA w_DEFAULTCAPACITY_EMPTY_ELEMENTDATA k_w_EMPTY_ELEMENTDATA k_w_DEFAULTCAPACITY_EMPTY_ELEMENTDATA a1 a2 p4 k6 vs7 a8 h0 n0 v U'.heap L ∧ FrameEnd U o U' L ({ frames := 1, cells := 0, slots := 0, locals := 13 } : Room).cells ({ frames := 1, cells := 0, slots := 0, locals := 13 } : Room).slots) := by
  refine MetFree.of_bodySF (plainFor_of_name pn_java_util_ArrayDeque) hisR ?_
  intro p e s m args below meth c s₁ Bd hml0 hP hK
  obtain ⟨rfl, hZ, hh⟩ := hP
  have hx := Bd.exec
  have hby := Bd.bytes
  have hml : c.maxLocals = 2 := hml0
  have hown : s.vm.findClass "java/util/ArrayDeque" = some m.cls := findClass_of_methodNamed Bd.named
  have hnm := (name_of_methodNamed Bd.named Bd.method).1
  have X0 : Stand p l e ({ frames := 1, cells := 0, slots := 0, locals := 13 } : Room) s m #[(.ref a1)] below meth c s₁ [] 0 0 := Stand.of_body Bd
  have e0 : s₁.heap = h0 := by rw [← hh, Bd.state]; rfl
  have N0 := Fr.nil n0
  show OGot p.tables e below (s₁.setTop (entryFrame m #[(.ref a1)] 2)) _
  refine OGot.go (fun t k => castTop (ef24 m a1) k) ?_
  show OGot p.tables e below (s₁.setTop (mkF m 0 #[.val (.ref a1), .unset] [])) _
  refine OGot.go (fun t k => XS.aloadN X0.here hx rfl (hb hby d24_0) rfl rfl k) ?_
  obtain ⟨T3, X3, e3, st3⟩ := getF X0 hx hZ hown (host := "") (Or.inl (ow hw 97 rfl)) Via.refl e0 F_elements_a1 (g := (mkF m 1 #[.val (.ref a1), .unset] [(.ref a1)])) rfl rfl (hb hby d24_1)
  refine OGot.go st3 ?_
  refine OGot.go (fun t k => XS.aloadN X3.here hx rfl (hb hby d24_4) rfl rfl k) ?_
  obtain ⟨T5, X5, e5, st5⟩ := getF X3 hx hZ hown (host := "") (Or.inl (ow hw 169 rfl)) Via.refl e3 F_head_a1 (g := (mkF m 5 #[.val (.ref a1), .unset] [(.ref a1), (.ref a2)])) rfl rfl (hb hby d24_5)
  refine OGot.go st5 ?_
  obtain ⟨_, _, ⟨T9, L9, k9, n9⟩, -, X9, ⟨Lc9, hQ9, l9, y9, z9⟩, st9⟩ := Jvm.LawKit.callS X5 hx (y := (⟨"java/util/ArrayDeque", "elementAt", "([Ljava/lang/Object;I)Ljava/lang/Object;"⟩ : MethodName)) hown (mvT hZ (ow hw 197 rfl)) (mvT hZ (ow hw 198 rfl)) (mvT hZ (ow hw 90 rfl)) (mvT hZ (ow hw 199 rfl)) (by decide) (backOf (W := 0) (rm25 l Z a0 hw [] G a2 p4 k6 vs7 a8 h0 n0 O0 V_a2 O_k6 hg_1 hi_1) hZ (ow hw 199 rfl) (ow hw 90 rfl) (by decide) (by decide)) (g := (mkF m 8 #[.val (.ref a1), .unset] [(.int p4), (.ref a2)])) rfl (by rw [hml]; rfl) (argsL := [(.ref a2), (.int p4)]) (rest := []) (lenOf pd_3 rfl) rfl (by show 2 * 0 + _ ≤ _; exact Nat.le_of_eq rfl) (hb hby d24_8) (fun _ _ => ⟨rfl, e5, (by decide : 0 + 0 ≤ _), (by decide : 0 + 0 ≤ _)⟩)
  dsimp only [Pt.U, Pt.locs, Pt.cells, Pt.slots] at X9 l9 y9 z9 st9 hQ9
  subst l9 y9 z9
  obtain ⟨rfl, N9q, e9⟩ := hQ9
  have N9 := Fr.app N0 N9q
  refine OGot.go st9 ?_
  refine OGot.go (fun t k => XS.astoreN X9.here hx rfl (hb hby d24_11) rfl rfl (l' := #[.val (.ref a1), .val (.ref a8)]) rfl k) ?_
  show OGot p.tables e below (T9.setTop (mkF m 12 #[.val (.ref a1), .val (.ref a8)] [])) _
  refine OGot.go (fun t k => XS.aloadN X9.here hx rfl (hb hby d24_12) rfl rfl k) ?_
  refine OGot.go (fun t k => XS.ifnonnullYes X9.here hx rfl (pc0 := 13) (pc' := 24) rfl (hb hby d24_13) rfl (by decide) (by decide) k) ?_
  refine OGot.go (fun t k => XS.aloadN X9.here hx rfl (hb hby d24_24) rfl rfl k) ?_
  show OGot p.tables e below (T9.setTop (mkF m 25 #[.val (.ref a1), .val (.ref a8)] [(.ref a8)])) _
  obtain ⟨fs, hr, hrun, hended, hW, hsame⟩ := X9.leave (v := some (.ref a8)) (fun h => by rw [Bd.returns] at h; cases h)
  refine ⟨_, _, oretA X9 hx Bd.returns rfl rfl (hb hby d24_25) hr, hrun, hended, _, _, rfl, ?_, ⟨_, rfl⟩, hW, hsame.mono (by decide) (by decide)⟩
  exact (⟨rfl, N9, e9⟩ : Q24 Z w_LOWEST w_HIGHEST w_EMPTY_ELEMENTDATA w_DEFAULTCAPACITY_EMPTY_ELEMENTDATA k_w_EMPTY_ELEMENTDATA k_w_DEFAULTCAPACITY_EMPTY_ELEMENTDATA a1 a2 p4 k6 vs7 a8 h0 n0 _ T9.heap _)
theorem d23_9 : decode prog_24_method_3_code 9 = .ok (.checkcast 40, 3) := by decide +kernel
theorem d23_12 : decode prog_24_method_3_code 12 = .ok (.invokevirtual 67, 3) := by decide +kernel
theorem d23_15 : decode prog_24_method_3_code 15 = .ok (.lreturn, 1) := by decide +kernel
def Q23 (Z : State) (w_LOWEST : Addr) (w_HIGHEST : Addr) (w_EMPTY_ELEMENTDATA : Addr) (w_DEFAULTCAPACITY_EMPTY_ELEMENTDATA : Addr) (k_w_EMPTY_ELEMENTDATA : ClassId) (k_w_DEFAULTCAPACITY_EMPTY_ELEMENTDATA : ClassId) (a1 : Addr) (a2 : Addr) (a4 : Addr) (p5 : Int32) (k6 : ClassId) (vs7 : List Value) (a8 : Addr) (q11 : Int64) (h0 : Heap) (n0 : Nat) (v : Option Value) (h : Heap) (L : List Loc) : Prop := v = some (.long q11) ∧ Fr n0 L ∧ h = h0
theorem ef23 (m : MethodId) (x0 : Addr) : entryFrame m #[(.ref x0)] 1 = mkF m 0 #[.val (.ref x0)] [] := by first | (simp [entryFrame, mkF, argsToLocals, Value.category]; done) | rfl
set_option maxRecDepth 65536 in
set_option maxHeartbeats 40000000 in
theorem rm23 (l : Launch) (Z : State) (a0 : Array Value) (hw : ∀ d ∈ tables_1, d.before a0 Z = true) (ws : List Jvm.Cond) {w_LOWEST : Addr} {w_HIGHEST : Addr} {w_EMPTY_ELEMENTDATA : Addr} {w_DEFAULTCAPACITY_EMPTY_ELEMENTDATA : Addr} {k_w_EMPTY_ELEMENTDATA : ClassId} {k_w_DEFAULTCAPACITY_EMPTY_ELEMENTDATA : ClassId} (G : Glob Z w_LOWEST w_HIGHEST w_EMPTY_ELEMENTDATA w_DEFAULTCAPACITY_EMPTY_ELEMENTDATA k_w_EMPTY_ELEMENTDATA k_w_DEFAULTCAPACITY_EMPTY_ELEMENTDATA) (a1 : Addr) (a2 : Addr) (a4 : Addr) (p5 : Int32) (k6 : ClassId) (vs7 : List Value) (a8 : Addr) (q11 : Int64) (h0 : Heap) (n0 : Nat) (O0 : Old Z n0 h0) (F_demands_a1 : Fld Z h0 a1 "com/example/restrained_scaler/restrainedscaler/decision/StabilizationWindow" "demands" "Ljava/util/Deque;" (.ref a2)) (E_a2 : Exa Z h0 a2 "java/util/ArrayDeque") (F_elements_a2 : Fld Z h0 a2 "java/util/ArrayDeque" "elements" "[Ljava/lang/Object;" (.ref a4)) (F_head_a2 : Fld Z h0 a2 "java/util/ArrayDeque" "head" "I" (.int p5)) (V_a4 : Arv Z h0 a4 k6 (.object "java/lang/Object") (17 : Int32) vs7 .null) (O_k6 : Ovr Z k6 "java/lang/Object") (hg_1 : (vs7).getD (p5).toNatClampNeg .null = (.ref a8)) (hi_1 : ¬ p5 < 0 ∧ p5 < (17 : Int32)) (E_a8 : Exa Z h0 a8 "com/example/restrained_scaler/restrainedscaler/decision/Decider$Demand") (F_desired_a8 : Fld Z h0 a8 "com/example/restrained_scaler/restrainedscaler/decision/Decider$Demand" "desired" "J" (.long q11)) :
    MetFree l (⟨"com/example/restrained_scaler/restrainedscaler/decision/StabilizationWindow", "demand", "()J"⟩ : MethodName) (head1 (Jvm.Cond.code (⟨"com/example/restrained_scaler/restrainedscaler/decision/StabilizationWindow", "demand", "()J"⟩ : MethodName) prog_24_method_3_code 1 (some .long) :: ws) ({ frames := 2, cells := 0, slots := 0, locals := 26 } : Room)) (fun a U => a = #[(.ref a1)] ∧ Z.Warmed39 U.vm ∧ U.heap = h0) (fun _ _ _ _ _ => True) (fun _ U o U' => ∃ v L, o = .returned v ∧ Q23 Z w_LOWEST w_HIGHEST w_EMPTY_ELEMENTDATA w_DEFAULTCAPACITY_EMPTY_ELEMENTDATA k_w_EMPTY_ELEMENTDATA k_w_DEFAULTCAPACITY_EMPTY_ELEMENTDATA a1 a2 a4 p5 k6 vs7 a8 q11 h0 n0 v U'.heap L ∧ FrameEnd U o U' L ({ frames := 2, cells := 0, slots := 0, locals := 26 } : Room).cells ({ frames := 2, cells := 0, slots := 0, locals := 26 } : Room).slots) := by
  refine MetFree.of_bodySF (plainFor_of_name pn_com_example_restrained_scaler_restrainedscaler_decision_StabilizationWindow) hisR ?_
  intro p e s m args below meth c s₁ Bd hml0 hP hK
  obtain ⟨rfl, hZ, hh⟩ := hP
  have hx := Bd.exec
  have hby := Bd.bytes
  have hml : c.maxLocals = 1 := hml0
  have hown : s.vm.findClass "com/example/restrained_scaler/restrainedscaler/decision/StabilizationWindow" = some m.cls := findClass_of_methodNamed Bd.named
  have hnm := (name_of_methodNamed Bd.named Bd.method).1
  have X0 : Stand p l e ({ frames := 2, cells := 0, slots := 0, locals := 26 } : Room) s m #[(.ref a1)] below meth c s₁ [] 0 0 := Stand.of_body Bd
  have e0 : s₁.heap = h0 := by rw [← hh, Bd.state]; rfl
  have N0 := Fr.nil n0
  show OGot p.tables e below (s₁.setTop (entryFrame m #[(.ref a1)] 1)) _
  refine OGot.go (fun t k => castTop (ef23 m a1) k) ?_
  show OGot p.tables e below (s₁.setTop (mkF m 0 #[.val (.ref a1)] [])) _
  refine OGot.go (fun t k => XS.aloadN X0.here hx rfl (hb hby d23_0) rfl rfl k) ?_
  obtain ⟨T3, X3, e3, st3⟩ := getF X0 hx hZ hown (host := "") (Or.inl (ow hw 99 rfl)) Via.refl e0 F_demands_a1 (g := (mkF m 1 #[.val (.ref a1)] [(.ref a1)])) rfl rfl (hb hby d23_1)
  refine OGot.go st3 ?_
  obtain ⟨cq9, kq9, q9a, q9b, q9c⟩ := isOf hZ e3 E_a2
  obtain ⟨_, _, ⟨T9, L9, k9, n9⟩, -, X9, ⟨Lc9, hQ9, l9, y9, z9⟩, st9⟩ := X3.interfaceBack hx (xi := (⟨"java/util/Deque", "getFirst", "()Ljava/lang/Object;"⟩ : MethodName)) (y := (⟨"java/util/ArrayDeque", "getFirst", "()Ljava/lang/Object;"⟩ : MethodName)) hown (mvT hZ (ow hw 189 rfl)) (mvT hZ (ow hw 190 rfl)) (mvT hZ (ow hw 191 rfl)) (mvT hZ (ow hw 192 rfl)) (mvT hZ (ow hw 193 rfl)) (mvT hZ (ow hw 194 rfl)) (mvT hZ (ow hw 195 rfl)) (mvT hZ (ow hw 167 rfl)) (by decide) (backOf (W := 0) (rm24 l Z a0 hw [] G a2 a4 p5 k6 vs7 a8 h0 n0 O0 F_elements_a2 F_head_a2 V_a4 O_k6 hg_1 hi_1) hZ (ow hw 196 rfl) (ow hw 90 rfl) (by decide) (by decide)) q9a q9b q9c (g := (mkF m 4 #[.val (.ref a1)] [(.ref a2)])) rfl (by rw [hml]; rfl) (Steps.refl _) (argsL := []) (rest := []) (lenOf pd_4 rfl) rfl (by show 2 * 0 + _ ≤ _; exact Nat.le_of_eq rfl) (hb hby d23_4) (fun _ _ => ⟨rfl, e3, (by decide : 0 + 0 ≤ _), (by decide : 0 + 0 ≤ _)⟩)
  dsimp only [Pt.U, Pt.locs, Pt.cells, Pt.slots] at X9 l9 y9 z9 st9 hQ9
  subst l9 y9 z9
  obtain ⟨rfl, N9q, e9⟩ := hQ9
  have N9 := Fr.app N0 N9q
  refine OGot.on st9 ?_
  obtain ⟨T10, X10, e10, st10⟩ := castY X9 hx hZ hown (ow hw 154 rfl) e9 (Ins.self E_a8) (g := (mkF m 9 #[.val (.ref a1)] [(.ref a8)])) rfl rfl (hb hby d23_9)
  refine OGot.go st10 ?_
  obtain ⟨cq12, kq12, q12a, q12b, q12c⟩ := isOf hZ e10 E_a8
  obtain ⟨_, _, ⟨T12, L12, k12, n12⟩, -, X12, ⟨Lc12, hQ12, l12, y12, z12⟩, st12⟩ := X10.virtualBack hx (y := (⟨"com/example/restrained_scaler/restrainedscaler/decision/Decider$Demand", "desired", "()J"⟩ : MethodName)) (z := (⟨"com/example/restrained_scaler/restrainedscaler/decision/Decider$Demand", "desired", "()J"⟩ : MethodName)) hown (mvT hZ (ow hw 200 rfl)) (mvT hZ (ow hw 201 rfl)) (notFace_of_selects (args := #[]) (mvT hZ (ow hw 203 rfl))) (mvT hZ (ow hw 203 rfl)) (mvT hZ (ow hw 202 rfl)) (by decide) (backOf (W := 0) (rm26 l Z a0 hw [] G a8 q11 h0 n0 O0 F_desired_a8) hZ (ow hw 204 rfl) (ow hw 32 rfl) (by decide) (by decide)) q12a q12c (g := (mkF m 12 #[.val (.ref a1)] [(.ref a8)])) rfl (by rw [hml]; rfl) (Steps.refl _) (argsL := []) (rest := []) (lenOf pd_5 rfl) rfl (by show 2 * 0 + _ ≤ _; exact Nat.le_of_eq rfl) (hb hby d23_12) (fun _ _ => ⟨rfl, e10, (by decide : 0 + 0 ≤ _), (by decide : 0 + 0 ≤ _)⟩)
  dsimp only [Pt.U, Pt.locs, Pt.cells, Pt.slots] at X12 l12 y12 z12 st12 hQ12
  subst l12 y12 z12
  obtain ⟨rfl, N12q, e12⟩ := hQ12
  have N12 := Fr.app N9 N12q
  refine OGot.on st12 ?_
  show OGot p.tables e below (T12.setTop (mkF m 15 #[.val (.ref a1)] [(.long q11)])) _
  obtain ⟨fs, hr, hrun, hended, hW, hsame⟩ := X12.leave (v := some (.long q11)) (fun h => by rw [Bd.returns] at h; cases h)
  refine ⟨_, _, oretJ X12 hx Bd.returns (hb hby d23_15) hr, hrun, hended, _, _, rfl, ?_, ⟨_, rfl⟩, hW, hsame.mono (by decide) (by decide)⟩
  exact (⟨rfl, N12, e12⟩ : Q23 Z w_LOWEST w_HIGHEST w_EMPTY_ELEMENTDATA w_DEFAULTCAPACITY_EMPTY_ELEMENTDATA k_w_EMPTY_ELEMENTDATA k_w_DEFAULTCAPACITY_EMPTY_ELEMENTDATA a1 a2 a4 p5 k6 vs7 a8 q11 h0 n0 _ T12.heap _)
theorem pd_9 : parseMethodDescriptor "(Lcom/example/restrained_scaler/restrainedscaler/decision/Decider$Demand;)V" = some ⟨[(.object "com/example/restrained_scaler/restrainedscaler/decision/Decider$Demand")], none⟩ := by decide +kernel
theorem d19_55 : decode prog_24_method_5_code 55 = .ok (.return_, 1) := by decide +kernel
theorem d27_64 : decode prog_24_method_2_code 64 = .ok (.invokevirtual 42, 3) := by decide +kernel
theorem d27_67 : decode prog_24_method_2_code 67 = .ok (.return_, 1) := by decide +kernel
/-! the deque, as a list -/
def dqv (hd : Nat) (L : List Addr) : List Value := List.replicate hd .null ++ (L.map Value.ref ++ List.replicate (17 - hd - L.length) .null)
def Dm (Z : State) (h : Heap) (d : Addr × Int64 × Int64) : Prop := Exa Z h d.1 "com/example/restrained_scaler/restrainedscaler/decision/Decider$Demand" ∧ Fld Z h d.1 "com/example/restrained_scaler/restrainedscaler/decision/Decider$Demand" "time" "J" (.long d.2.1) ∧ Fld Z h d.1 "com/example/restrained_scaler/restrainedscaler/decision/Decider$Demand" "desired" "J" (.long d.2.2)
def Dq (Z : State) (h : Heap) (n0 : Nat) (W dq ar kp : Addr) (sec : Int64) (kA : ClassId) (hd : Nat) (L : List Addr) : Prop :=
  Exa Z h W "com/example/restrained_scaler/restrainedscaler/decision/StabilizationWindow" ∧ Fld Z h W "com/example/restrained_scaler/restrainedscaler/decision/StabilizationWindow" "demands" "Ljava/util/Deque;" (.ref dq) ∧ Fld Z h W "com/example/restrained_scaler/restrainedscaler/decision/StabilizationWindow" "kept" "Lcom/example/restrained_scaler/restrainedscaler/decision/StabilizationWindow$Kept;" (.ref kp) ∧ Fld Z h W "com/example/restrained_scaler/restrainedscaler/decision/StabilizationWindow" "seconds" "J" (.long sec) ∧ Exa Z h dq "java/util/ArrayDeque" ∧ Fld Z h dq "java/util/ArrayDeque" "head" "I" (.int (Int32.ofNat hd)) ∧ Fld Z h dq "java/util/ArrayDeque" "tail" "I" (.int (Int32.ofNat (hd + L.length))) ∧ Fld Z h dq "java/util/ArrayDeque" "elements" "[Ljava/lang/Object;" (.ref ar) ∧ Exa Z h ar "[Ljava/lang/Object;" ∧ Arv Z h ar kA (.object "java/lang/Object") (17 : Int32) (dqv hd L) .null ∧ Ovr Z kA "java/lang/Object" ∧ n0 ≤ dq ∧ n0 ≤ ar
theorem own_n5 {n : Nat} (h : n ≤ 5) : n = 0 ∨ n = 1 ∨ n = 2 ∨ n = 3 ∨ n = 4 ∨ n = 5 := by omega
theorem own_i {n : Nat} (h : n ≤ 4) : (Int32.ofNat n).toNatClampNeg = n ∧ Int32.ofNat n + (1 : Int32) = Int32.ofNat (n + 1) ∧ (¬ Int32.ofNat n < 0 ∧ Int32.ofNat n < (17 : Int32)) ∧ Int32.ofNat n + (1 : Int32) < (17 : Int32) ∧ Int32.ofNat (n + 1) + (-1 : Int32) = Int32.ofNat n := by
  rcases own_n5 (Nat.le_succ_of_le h) with rfl | rfl | rfl | rfl | rfl | rfl <;> first | decide | omega
theorem own_inj5 {a b : Nat} (ha : a ≤ 5) (hb : b ≤ 5) (h : Int32.ofNat a = Int32.ofNat b) : a = b := by
  rcases own_n5 ha with rfl | rfl | rfl | rfl | rfl | rfl <;> rcases own_n5 hb with rfl | rfl | rfl | rfl | rfl | rfl <;> first | rfl | (revert h; decide)
theorem own_sh {L : List Addr} (h : L.length ≤ 4) : L = [] ∨ (∃ a, L = [a]) ∨ (∃ a b, L = [a, b]) ∨ (∃ a b c, L = [a, b, c]) ∨ ∃ a b c d, L = [a, b, c, d] := by
  match L, h with
  | [], _ => exact Or.inl rfl
  | [a], _ => exact Or.inr (Or.inl ⟨a, rfl⟩)
  | [a, b], _ => exact Or.inr (Or.inr (Or.inl ⟨a, b, rfl⟩))
  | [a, b, c], _ => exact Or.inr (Or.inr (Or.inr (Or.inl ⟨a, b, c, rfl⟩)))
  | [a, b, c, d], _ => exact Or.inr (Or.inr (Or.inr (Or.inr ⟨a, b, c, d, rfl⟩)))
  | _ :: _ :: _ :: _ :: _ :: _, h => simp at h
theorem dqv_len {hd : Nat} {L : List Addr} (h : hd + L.length ≤ 4) : (dqv hd L).length = 17 := by
  simp only [dqv, List.length_append, List.length_replicate, List.length_map]
  omega
theorem dqv_add {hd : Nat} {L : List Addr} {x : Addr} (h : hd + L.length ≤ 3) : (dqv hd L).set (hd + L.length) (.ref x) = dqv hd (L ++ [x]) := by
  rcases own_n5 (n := hd) (by omega) with rfl | rfl | rfl | rfl | rfl | rfl <;> rcases own_sh (L := L) (by omega) with rfl | ⟨a, rfl⟩ | ⟨a, b, rfl⟩ | ⟨a, b, c, rfl⟩ | ⟨a, b, c, d, rfl⟩ <;> first | rfl | (exfalso; simp at h)
theorem dqv_popL {hd : Nat} {L : List Addr} {x : Addr} (h : hd + L.length ≤ 3) : (dqv hd (L ++ [x])).set (hd + L.length) .null = dqv hd L := by
  rcases own_n5 (n := hd) (by omega) with rfl | rfl | rfl | rfl | rfl | rfl <;> rcases own_sh (L := L) (by omega) with rfl | ⟨a, rfl⟩ | ⟨a, b, rfl⟩ | ⟨a, b, c, rfl⟩ | ⟨a, b, c, d, rfl⟩ <;> first | rfl | (exfalso; simp at h)
theorem dqv_last {hd : Nat} {L : List Addr} {x : Addr} (h : hd + L.length ≤ 3) : (dqv hd (L ++ [x])).getD (hd + L.length) .null = .ref x := by
  rcases own_n5 (n := hd) (by omega) with rfl | rfl | rfl | rfl | rfl | rfl <;> rcases own_sh (L := L) (by omega) with rfl | ⟨a, rfl⟩ | ⟨a, b, rfl⟩ | ⟨a, b, c, rfl⟩ | ⟨a, b, c, d, rfl⟩ <;> first | rfl | (exfalso; simp at h)
theorem dqv_popF {hd : Nat} {L : List Addr} {x : Addr} (h : hd + L.length ≤ 3) : (dqv hd (x :: L)).set hd .null = dqv (hd + 1) L := by
  rcases own_n5 (n := hd) (by omega) with rfl | rfl | rfl | rfl | rfl | rfl <;> rcases own_sh (L := L) (by omega) with rfl | ⟨a, rfl⟩ | ⟨a, b, rfl⟩ | ⟨a, b, c, rfl⟩ | ⟨a, b, c, d, rfl⟩ <;> first | rfl | (exfalso; simp at h)
theorem dqv_first {hd : Nat} {L : List Addr} {x : Addr} (h : hd + L.length ≤ 3) : (dqv hd (x :: L)).getD hd .null = .ref x := by
  rcases own_n5 (n := hd) (by omega) with rfl | rfl | rfl | rfl | rfl | rfl <;> rcases own_sh (L := L) (by omega) with rfl | ⟨a, rfl⟩ | ⟨a, b, rfl⟩ | ⟨a, b, c, rfl⟩ | ⟨a, b, c, d, rfl⟩ <;> first | rfl | (exfalso; simp at h)
theorem Dm.carry {Z : State} {h h' : Heap} {ws : List (Addr × Nat)} {dq ar : Addr} {d : Addr × Int64 × Int64} (F : Dm Z h d) (K : OKeep h h' ws) (hws : ∀ x ∈ ws, x.1 = dq ∨ x.1 = ar) (Ed : Exa Z h dq "java/util/ArrayDeque") (Ea : Exa Z h ar "[Ljava/lang/Object;") : Dm Z h' d := by
  have n1 : d.1 ≠ dq := ne_exa F.1 Ed (by decide)
  have n2 : d.1 ≠ ar := ne_exa F.1 Ea (by decide)
  have nn : ∀ i, (d.1, i) ∉ ws := fun i q => (hws _ q).elim n1 n2
  exact ⟨OKeep.exa F.1 K, OKeep.fld F.2.1 K (nn _), OKeep.fld F.2.2 K (nn _)⟩
theorem own_two {dq ar : Addr} {i j : Nat} : ∀ x ∈ [(dq, i), (ar, j)], x.1 = dq ∨ x.1 = ar := fun x hx => by
  rcases List.mem_cons.mp hx with rfl | hx
  · exact Or.inl rfl
  · cases List.mem_singleton.mp hx; exact Or.inr rfl
theorem own_two' {dq ar : Addr} {i j : Nat} : ∀ x ∈ [(ar, i), (dq, j)], x.1 = dq ∨ x.1 = ar := fun x hx => by
  rcases List.mem_cons.mp hx with rfl | hx
  · exact Or.inr rfl
  · cases List.mem_singleton.mp hx; exact Or.inl rfl
def popB (HI kp : Addr) (eN : Int64) (L : List (Addr × Int64 × Int64)) : List (Addr × Int64 × Int64) := (L.reverse.dropWhile fun d => !(f35 HI kp d.2.2 eN == 0)).reverse
theorem popB_nil {HI kp : Addr} {eN : Int64} : popB HI kp eN [] = [] := rfl
theorem popB_no {HI kp : Addr} {eN : Int64} {L : List (Addr × Int64 × Int64)} {x : Addr × Int64 × Int64} (h : f35 HI kp x.2.2 eN = (0 : Int32)) : popB HI kp eN (L ++ [x]) = L ++ [x] := by
  simp [popB, h]
theorem popB_yes {HI kp : Addr} {eN : Int64} {L : List (Addr × Int64 × Int64)} {x : Addr × Int64 × Int64} (h : ¬ (f35 HI kp x.2.2 eN = (0 : Int32))) : popB HI kp eN (L ++ [x]) = popB HI kp eN L := by
  simp [popB, h]
theorem own_c {hd n : Nat} (h1 : hd ≤ n) (h2 : n ≤ 3) : ¬ (Int32.ofNat hd = Int32.ofNat (n + 1)) ∧ ¬ (Int32.ofNat hd = Int32.ofNat n + (1 : Int32)) := by
  have i := own_i (n := n) (by omega)
  rw [i.2.1]
  exact ⟨fun q => by have := own_inj5 (by omega) (by omega) q; omega, fun q => by have := own_inj5 (by omega) (by omega) q; omega⟩
theorem Dq.mk_add {Z : State} {h : Heap} {n0 : Nat} {W dq ar kp x : Addr} {sec : Int64} {kA : ClassId} {hd : Nat} {L : List Addr} (hl : hd + L.length ≤ 3) (q1 : Exa Z h W "com/example/restrained_scaler/restrainedscaler/decision/StabilizationWindow") (q2 : Fld Z h W "com/example/restrained_scaler/restrainedscaler/decision/StabilizationWindow" "demands" "Ljava/util/Deque;" (.ref dq)) (q3 : Fld Z h W "com/example/restrained_scaler/restrainedscaler/decision/StabilizationWindow" "kept" "Lcom/example/restrained_scaler/restrainedscaler/decision/StabilizationWindow$Kept;" (.ref kp)) (q4 : Fld Z h W "com/example/restrained_scaler/restrainedscaler/decision/StabilizationWindow" "seconds" "J" (.long sec)) (q5 : Exa Z h dq "java/util/ArrayDeque") (q6 : Fld Z h dq "java/util/ArrayDeque" "head" "I" (.int (Int32.ofNat hd))) (q7 : Fld Z h dq "java/util/ArrayDeque" "tail" "I" (.int (Int32.ofNat (hd + L.length) + (1 : Int32)))) (q8 : Fld Z h dq "java/util/ArrayDeque" "elements" "[Ljava/lang/Object;" (.ref ar)) (q9 : Exa Z h ar "[Ljava/lang/Object;") (q10 : Arv Z h ar kA (.object "java/lang/Object") (17 : Int32) ((dqv hd L).set (Int32.ofNat (hd + L.length)).toNatClampNeg (.ref x)) .null) (q11 : Ovr Z kA "java/lang/Object") (q12 : n0 ≤ dq) (q13 : n0 ≤ ar) : Dq Z h n0 W dq ar kp sec kA hd (L ++ [x]) := by
  have i := own_i (n := hd + L.length) (by omega)
  rw [i.1, dqv_add hl] at q10
  rw [i.2.1] at q7
  have e : hd + (L ++ [x]).length = hd + L.length + 1 := by simp; omega
  exact ⟨q1, q2, q3, q4, q5, q6, by rw [e]; exact q7, q8, q9, q10, q11, q12, q13⟩
theorem Dq.mk_popL {Z : State} {h : Heap} {n0 : Nat} {W dq ar kp x : Addr} {sec : Int64} {kA : ClassId} {hd : Nat} {L : List Addr} (hl : hd + L.length ≤ 3) (q1 : Exa Z h W "com/example/restrained_scaler/restrainedscaler/decision/StabilizationWindow") (q2 : Fld Z h W "com/example/restrained_scaler/restrainedscaler/decision/StabilizationWindow" "demands" "Ljava/util/Deque;" (.ref dq)) (q3 : Fld Z h W "com/example/restrained_scaler/restrainedscaler/decision/StabilizationWindow" "kept" "Lcom/example/restrained_scaler/restrainedscaler/decision/StabilizationWindow$Kept;" (.ref kp)) (q4 : Fld Z h W "com/example/restrained_scaler/restrainedscaler/decision/StabilizationWindow" "seconds" "J" (.long sec)) (q5 : Exa Z h dq "java/util/ArrayDeque") (q6 : Fld Z h dq "java/util/ArrayDeque" "head" "I" (.int (Int32.ofNat hd))) (q7 : Fld Z h dq "java/util/ArrayDeque" "tail" "I" (.int (Int32.ofNat (hd + L.length + 1) + (-1 : Int32)))) (q8 : Fld Z h dq "java/util/ArrayDeque" "elements" "[Ljava/lang/Object;" (.ref ar)) (q9 : Exa Z h ar "[Ljava/lang/Object;") (q10 : Arv Z h ar kA (.object "java/lang/Object") (17 : Int32) ((dqv hd (L ++ [x])).set (Int32.ofNat (hd + L.length + 1) + (-1 : Int32)).toNatClampNeg .null) .null) (q11 : Ovr Z kA "java/lang/Object") (q12 : n0 ≤ dq) (q13 : n0 ≤ ar) : Dq Z h n0 W dq ar kp sec kA hd L := by
  have i := own_i (n := hd + L.length) (by omega)
  rw [i.2.2.2.2, i.1, dqv_popL hl] at q10
  rw [i.2.2.2.2] at q7
  exact ⟨q1, q2, q3, q4, q5, q6, q7, q8, q9, q10, q11, q12, q13⟩
theorem Dq.mk_popF {Z : State} {h : Heap} {n0 : Nat} {W dq ar kp x : Addr} {sec : Int64} {kA : ClassId} {hd : Nat} {L : List Addr} (hl : hd + L.length ≤ 3) (q1 : Exa Z h W "com/example/restrained_scaler/restrainedscaler/decision/StabilizationWindow") (q2 : Fld Z h W "com/example/restrained_scaler/restrainedscaler/decision/StabilizationWindow" "demands" "Ljava/util/Deque;" (.ref dq)) (q3 : Fld Z h W "com/example/restrained_scaler/restrainedscaler/decision/StabilizationWindow" "kept" "Lcom/example/restrained_scaler/restrainedscaler/decision/StabilizationWindow$Kept;" (.ref kp)) (q4 : Fld Z h W "com/example/restrained_scaler/restrainedscaler/decision/StabilizationWindow" "seconds" "J" (.long sec)) (q5 : Exa Z h dq "java/util/ArrayDeque") (q6 : Fld Z h dq "java/util/ArrayDeque" "head" "I" (.int (Int32.ofNat hd + (1 : Int32)))) (q7 : Fld Z h dq "java/util/ArrayDeque" "tail" "I" (.int (Int32.ofNat (hd + L.length + 1)))) (q8 : Fld Z h dq "java/util/ArrayDeque" "elements" "[Ljava/lang/Object;" (.ref ar)) (q9 : Exa Z h ar "[Ljava/lang/Object;") (q10 : Arv Z h ar kA (.object "java/lang/Object") (17 : Int32) ((dqv hd (x :: L)).set (Int32.ofNat hd).toNatClampNeg .null) .null) (q11 : Ovr Z kA "java/lang/Object") (q12 : n0 ≤ dq) (q13 : n0 ≤ ar) : Dq Z h n0 W dq ar kp sec kA (hd + 1) L := by
  have i := own_i (n := hd) (by omega)
  rw [i.1, dqv_popF hl] at q10
  rw [i.2.1] at q6
  have e : hd + 1 + L.length = hd + L.length + 1 := by omega
  exact ⟨q1, q2, q3, q4, q5, q6, by rw [e]; exact q7, q8, q9, q10, q11, q12, q13⟩
def QK (Z : State) (HI W D dq ar kp : Addr) (sec tN eN : Int64) (kA : ClassId) (hd : Nat) (LD : List (Addr × Int64 × Int64)) (n0 : Nat) (v : Option Value) (h : Heap) (L : List Loc) : Prop := v = none ∧ Fr n0 L ∧ Old Z n0 h ∧ Dq Z h n0 W dq ar kp sec kA hd ((popB HI kp eN LD ++ [(D, tN, eN)]).map (·.1)) ∧ ∀ d ∈ popB HI kp eN LD ++ [(D, tN, eN)], Dm Z h d
theorem efK (m : MethodId) (x0 x1 : Addr) : entryFrame m #[(.ref x0), (.ref x1)] 2 = mkF m 0 #[.val (.ref x0), .val (.ref x1)] [] := by first | (simp [entryFrame, mkF, argsToLocals, Value.category]; done) | rfl
theorem own_all {Z : State} {h : Heap} {M : List (Addr × Int64 × Int64)} {x : Addr × Int64 × Int64} (F : ∀ d ∈ M, Dm Z h d) (G : Dm Z h x) : ∀ d ∈ M ++ [x], Dm Z h d := fun d q => by
  rcases List.mem_append.mp q with q | q
  · exact F d q
  · cases List.mem_singleton.mp q; exact G
set_option maxRecDepth 65536 in
set_option maxHeartbeats 40000000 in
theorem keepAll (l : Launch) (Z : State) (a0 : Array Value) (hw : ∀ d ∈ tables_1, d.before a0 Z = true) (ws : List Jvm.Cond) {w_LOWEST : Addr} {w_HIGHEST : Addr} {w_EMPTY_ELEMENTDATA : Addr} {w_DEFAULTCAPACITY_EMPTY_ELEMENTDATA : Addr} {k_w_EMPTY_ELEMENTDATA : ClassId} {k_w_DEFAULTCAPACITY_EMPTY_ELEMENTDATA : ClassId} (G : Glob Z w_LOWEST w_HIGHEST w_EMPTY_ELEMENTDATA w_DEFAULTCAPACITY_EMPTY_ELEMENTDATA k_w_EMPTY_ELEMENTDATA k_w_DEFAULTCAPACITY_EMPTY_ELEMENTDATA) (W D dq ar kp : Addr) (sec tN eN : Int64) (kA : ClassId) (hd : Nat) (LD : List (Addr × Int64 × Int64)) (h0 : Heap) (n0 : Nat) (O0 : Old Z n0 h0) (HQ : Dq Z h0 n0 W dq ar kp sec kA hd (LD.map (·.1))) (HD : ∀ d ∈ LD, Dm Z h0 d) (HN : Dm Z h0 (D, tN, eN)) (hbd : hd + LD.length ≤ 3) :
    MetFree l (⟨"com/example/restrained_scaler/restrainedscaler/decision/StabilizationWindow", "keep", "(Lcom/example/restrained_scaler/restrainedscaler/decision/Decider$Demand;)V"⟩ : MethodName) (head1 (Jvm.Cond.code (⟨"com/example/restrained_scaler/restrainedscaler/decision/StabilizationWindow", "keep", "(Lcom/example/restrained_scaler/restrainedscaler/decision/Decider$Demand;)V"⟩ : MethodName) prog_24_method_5_code 2 none :: ws) ({ frames := 3, cells := 0, slots := 0, locals := 60 } : Room)) (fun a U => a = #[(.ref W), (.ref D)] ∧ Z.Warmed39 U.vm ∧ U.heap = h0) (fun _ _ _ _ _ => True) (fun _ U o U' => ∃ v L, o = .returned v ∧ QK Z w_HIGHEST W D dq ar kp sec tN eN kA hd LD n0 v U'.heap L ∧ FrameEnd U o U' L ({ frames := 3, cells := 0, slots := 0, locals := 60 } : Room).cells ({ frames := 3, cells := 0, slots := 0, locals := 60 } : Room).slots) := by
  refine MetFree.of_bodySF (plainFor_of_name pn_com_example_restrained_scaler_restrainedscaler_decision_StabilizationWindow) hisR ?_
  intro p e s m args below meth c s₁ Bd hml0 hP hK
  obtain ⟨rfl, hZ, hh⟩ := hP
  have hx := Bd.exec
  have hby := Bd.bytes
  have hml : c.maxLocals = 2 := hml0
  have hown : s.vm.findClass "com/example/restrained_scaler/restrainedscaler/decision/StabilizationWindow" = some m.cls := findClass_of_methodNamed Bd.named
  have X0 : Stand p l e ({ frames := 3, cells := 0, slots := 0, locals := 60 } : Room) s m #[(.ref W), (.ref D)] below meth c s₁ [] 0 0 := Stand.of_body Bd
  have e0 : s₁.heap = h0 := by rw [← hh, Bd.state]; rfl
  have N0 := Fr.nil n0
  show OGot p.tables e below (s₁.setTop (entryFrame m #[(.ref W), (.ref D)] 2)) _
  refine OGot.go (fun t k => castTop (efK m W D) k) ?_
  have loop : ∀ (n : Nat) (M : List (Addr × Int64 × Int64)) (T : State) (locs : List Loc) (h : Heap), M.length = n → Stand p l e ({ frames := 3, cells := 0, slots := 0, locals := 60 } : Room) s m #[(.ref W), (.ref D)] below meth c T locs 0 0 → T.heap = h → Fr n0 locs → Old Z n0 h → Dq Z h n0 W dq ar kp sec kA hd (M.map (·.1)) → (∀ d ∈ M, Dm Z h d) → Dm Z h (D, tN, eN) → hd + M.length ≤ 3 → popB w_HIGHEST kp eN M = popB w_HIGHEST kp eN LD →
      OGot p.tables e below (T.setTop (mkF m 0 #[.val (.ref W), .val (.ref D)] [])) (fun U o => U.status = .running ∧ Ended U below o ∧ ∃ v L, o = .returned v ∧ QK Z w_HIGHEST W D dq ar kp sec tN eN kA hd LD n0 v U.heap L ∧ FrameEnd s o U L ({ frames := 3, cells := 0, slots := 0, locals := 60 } : Room).cells ({ frames := 3, cells := 0, slots := 0, locals := 60 } : Room).slots) := by
    intro n
    induction n with
    | zero =>
      intro M T locs h hM X eT N O Q F FN hb3 hp
      obtain rfl := List.length_eq_zero_iff.mp hM
      obtain ⟨q1, q2, q3, q4, q5, q6, q7, q8, q9, q10, q11, q12, q13⟩ := Q
      have hd3 : hd ≤ 3 := by simpa using hb3
      have i := own_i (n := hd) (by omega)
      have cc := own_c (Nat.le_refl hd) hd3
      have hl : (Int32.ofNat hd).toNatClampNeg < (dqv hd []).length := by rw [i.1, dqv_len (by simp; omega)]; omega
      obtain ⟨T', L', h', X', eT', N', O', st, K, r1, r2, r3, r4, r5, r6, r7, r8, r9, r10, r11, r12, r13⟩ := kpA hw G X hx hZ hby hml hown W dq ar kp sec kA (Int32.ofNat hd) (Int32.ofNat hd) (dqv hd []) D tN eN h n0 O eT N q1 q2 q3 q4 q5 q6 q7 q8 q9 q10 q11 q12 q13 FN.1 FN.2.1 FN.2.2 rfl i.2.2.2.1 cc.2 i.2.2.1 hl
      refine OGot.go st ?_
      have e2 : popB w_HIGHEST kp eN LD = [] := hp.symm.trans popB_nil
      obtain ⟨fs, hr, hrun, hended, hW, hsame⟩ := X'.leave (v := none) (fun _ => rfl)
      refine ⟨_, _, X'.returnOut hx Bd.returns (hb hby d19_55) hr, hrun, hended, _, _, rfl, ?_, ⟨_, rfl⟩, hW, hsame.mono (by decide) (by decide)⟩
      show QK Z w_HIGHEST W D dq ar kp sec tN eN kA hd LD n0 _ T'.heap _
      rw [eT']
      refine ⟨rfl, N', O', ?_, ?_⟩
      · rw [e2]
        exact Dq.mk_add (L := []) (x := D) (by simpa using hd3) r1 r2 r3 r4 r5 r6 r7 r8 r9 r10 q11 q12 q13
      · rw [e2]
        exact own_all (fun d q => nomatch q) ⟨r11, r12, r13⟩
    | succ n ih =>
      intro M T locs h hM X eT N O Q F FN hb3 hp
      obtain ⟨M', x, rfl⟩ : ∃ M' x, M = M' ++ [x] := ⟨M.dropLast, M.getLast (by intro q; subst q; simp at hM), (List.dropLast_concat_getLast _).symm⟩
      have hl1 : (M'.map (·.1)).length = M'.length := List.length_map ..
      have hlen : M'.length = n := by simpa using hM
      have hb2 : hd + M'.length ≤ 2 := by simp at hb3; omega
      have em : (M' ++ [x]).map (·.1) = M'.map (·.1) ++ [x.1] := by simp
      rw [em] at Q
      obtain ⟨q1, q2, q3, q4, q5, q6, q7, q8, q9, q10, q11, q12, q13⟩ := Q
      have et : hd + (M'.map (·.1) ++ [x.1]).length = hd + (M'.map (·.1)).length + 1 := by simp; omega
      rw [et] at q7
      have i := own_i (n := hd + (M'.map (·.1)).length) (by omega)
      have i1 := own_i (n := hd + (M'.map (·.1)).length + 1) (by omega)
      have c1 := own_c (hd := hd) (n := hd + (M'.map (·.1)).length) (by omega) (by omega)
      have c2 := own_c (hd := hd) (n := hd + (M'.map (·.1)).length + 1) (by omega) (by omega)
      have ld : (dqv hd (M'.map (·.1) ++ [x.1])).length = 17 := dqv_len (by simp; omega)
      have hg : (dqv hd (M'.map (·.1) ++ [x.1])).getD (Int32.ofNat (hd + (M'.map (·.1)).length + 1) + (-1 : Int32)).toNatClampNeg .null = .ref x.1 := by rw [i.2.2.2.2, i.1]; exact dqv_last (by omega)
      have h2 : ¬ (Int32.ofNat (hd + (M'.map (·.1)).length + 1) + (-1 : Int32) < (0 : Int32)) := by rw [i.2.2.2.2]; exact i.2.2.1.1
      have hi1 : ¬ Int32.ofNat (hd + (M'.map (·.1)).length + 1) + (-1 : Int32) < 0 ∧ Int32.ofNat (hd + (M'.map (·.1)).length + 1) + (-1 : Int32) < (17 : Int32) := by rw [i.2.2.2.2]; exact i.2.2.1
      have Fx := F x (List.mem_append_right _ (List.mem_singleton.mpr rfl))
      by_cases hf : f35 w_HIGHEST kp x.2.2 eN = (0 : Int32)
      · have hl : (Int32.ofNat (hd + (M'.map (·.1)).length + 1)).toNatClampNeg < (dqv hd (M'.map (·.1) ++ [x.1])).length := by rw [i1.1, ld]; omega
        obtain ⟨T', L', h', X', eT', N', O', st, K, r1, r2, r3, r4, r5, r6, r7, r8, r9, r10, r11, r12, r13, r14, r15, r16⟩ := kpB hw G X hx hZ hby hml hown W dq ar kp sec kA (Int32.ofNat hd) (Int32.ofNat (hd + (M'.map (·.1)).length + 1)) (dqv hd (M'.map (·.1) ++ [x.1])) D tN eN x.1 x.2.1 x.2.2 h n0 O eT N q1 q2 q3 q4 q5 q6 q7 q8 q9 q10 q11 q12 q13 FN.1 FN.2.1 FN.2.2 Fx.1 Fx.2.1 Fx.2.2 c1.1 h2 hg hi1 hf i1.2.2.2.1 c2.2 i1.2.2.1 hl
        refine OGot.go st ?_
        have e2 : popB w_HIGHEST kp eN LD = M' ++ [x] := hp.symm.trans (popB_no hf)
        obtain ⟨fs, hr, hrun, hended, hW, hsame⟩ := X'.leave (v := none) (fun _ => rfl)
        refine ⟨_, _, X'.returnOut hx Bd.returns (hb hby d19_55) hr, hrun, hended, _, _, rfl, ?_, ⟨_, rfl⟩, hW, hsame.mono (by decide) (by decide)⟩
        show QK Z w_HIGHEST W D dq ar kp sec tN eN kA hd LD n0 _ T'.heap _
        rw [eT']
        refine ⟨rfl, N', O', ?_, ?_⟩
        · rw [e2, List.map_append, em]
          rw [← et] at r7 r10
          exact Dq.mk_add (L := M'.map (·.1) ++ [x.1]) (x := D) (by simp; omega) r1 r2 r3 r4 r5 r6 r7 r8 r9 r10 q11 q12 q13
        · rw [e2]
          exact own_all (fun d q => (F d q).carry K own_two q5 q9) ⟨r11, r12, r13⟩
      · have hl : (Int32.ofNat (hd + (M'.map (·.1)).length + 1) + (-1 : Int32)).toNatClampNeg < (dqv hd (M'.map (·.1) ++ [x.1])).length := by rw [i.2.2.2.2, i.1, ld]; omega
        obtain ⟨T', L', h', X', eT', N', O', st, K, r1, r2, r3, r4, r5, r6, r7, r8, r9, r10, r11, r12, r13, r14, r15, r16⟩ := kpC hw G X hx hZ hby hml hown W dq ar kp sec kA (Int32.ofNat hd) (Int32.ofNat (hd + (M'.map (·.1)).length + 1)) (dqv hd (M'.map (·.1) ++ [x.1])) D tN eN x.1 x.2.1 x.2.2 h n0 O eT N q1 q2 q3 q4 q5 q6 q7 q8 q9 q10 q11 q12 q13 FN.1 FN.2.1 FN.2.2 Fx.1 Fx.2.1 Fx.2.2 c1.1 h2 hg hi1 hf hl
        refine OGot.go st ?_
        exact ih M' T' L' h' hlen X' eT' N' O' (Dq.mk_popL (x := x.1) (by omega) r1 r2 r3 r4 r5 r6 r7 r8 r9 r10 q11 q12 q13) (fun d q => (F d (List.mem_append_left _ q)).carry K own_two q5 q9) ⟨r11, r12, r13⟩ (by omega) ((popB_yes hf).symm.trans hp)
  exact loop _ LD s₁ [] h0 rfl X0 e0 N0 O0 HQ HD HN hbd rfl
def dropF (st : Int64) (L : List (Addr × Int64 × Int64)) : List (Addr × Int64 × Int64) := L.dropWhile fun d => !(decide (st < d.2.1))
theorem dropF_no {st : Int64} {L : List (Addr × Int64 × Int64)} {x : Addr × Int64 × Int64} (h : st < x.2.1) : dropF st (x :: L) = x :: L := by simp [dropF, h]
theorem dropF_yes {st : Int64} {L : List (Addr × Int64 × Int64)} {x : Addr × Int64 × Int64} (h : ¬ (st < x.2.1)) : dropF st (x :: L) = dropF st L := by simp [dropF, h]
theorem popB_le {HI kp : Addr} {eN : Int64} : ∀ (n : Nat) (L : List (Addr × Int64 × Int64)), L.length = n → (popB HI kp eN L).length ≤ n := by
  intro n
  induction n with
  | zero => intro L h; obtain rfl := List.length_eq_zero_iff.mp h; exact Nat.le_refl 0
  | succ n ih =>
    intro L h
    obtain ⟨M', x, rfl⟩ : ∃ M' x, L = M' ++ [x] := ⟨L.dropLast, L.getLast (by intro q; subst q; simp at h), (List.dropLast_concat_getLast _).symm⟩
    by_cases hf : f35 HI kp x.2.2 eN = (0 : Int32)
    · rw [popB_no hf]; exact Nat.le_of_eq h
    · rw [popB_yes hf]; exact Nat.le_succ_of_le (ih M' (by simpa using h))
def QA (Z : State) (HI W dq ar kp : Addr) (sec tN eN : Int64) (kA : ClassId) (hd : Nat) (LD : List (Addr × Int64 × Int64)) (n0 : Nat) (v : Option Value) (h : Heap) (L : List Loc) : Prop := v = none ∧ Fr n0 L ∧ Old Z n0 h ∧ ∃ (D : Addr) (hd' : Nat) (M : List (Addr × Int64 × Int64)), M = popB HI kp eN (dropF (tN - sec) LD) ++ [(D, tN, eN)] ∧ hd' + M.length ≤ hd + LD.length + 1 ∧ Dq Z h n0 W dq ar kp sec kA hd' (M.map (·.1)) ∧ ∀ d ∈ M, Dm Z h d
theorem efA (m : MethodId) (x0 : Addr) (x1 x2 : Int64) : entryFrame m #[(.ref x0), (.long x1), (.long x2)] 7 = mkF m 0 #[.val (.ref x0), .val (.long x1), .second, .val (.long x2), .second, .unset, .unset] [] := by first | (simp [entryFrame, mkF, argsToLocals, Value.category]; done) | rfl
set_option maxRecDepth 65536 in
set_option maxHeartbeats 40000000 in
theorem addAll (l : Launch) (Z : State) (a0 : Array Value) (hw : ∀ d ∈ tables_1, d.before a0 Z = true) (ws : List Jvm.Cond) {w_LOWEST : Addr} {w_HIGHEST : Addr} {w_EMPTY_ELEMENTDATA : Addr} {w_DEFAULTCAPACITY_EMPTY_ELEMENTDATA : Addr} {k_w_EMPTY_ELEMENTDATA : ClassId} {k_w_DEFAULTCAPACITY_EMPTY_ELEMENTDATA : ClassId} (G : Glob Z w_LOWEST w_HIGHEST w_EMPTY_ELEMENTDATA w_DEFAULTCAPACITY_EMPTY_ELEMENTDATA k_w_EMPTY_ELEMENTDATA k_w_DEFAULTCAPACITY_EMPTY_ELEMENTDATA) (W dq ar kp : Addr) (sec tN eN : Int64) (kA : ClassId) (hd : Nat) (LD : List (Addr × Int64 × Int64)) (h0 : Heap) (n0 : Nat) (O0 : Old Z n0 h0) (HQ : Dq Z h0 n0 W dq ar kp sec kA hd (LD.map (·.1))) (HD : ∀ d ∈ LD, Dm Z h0 d) (hbd : hd + LD.length ≤ 3) :
    MetFree l (⟨"com/example/restrained_scaler/restrainedscaler/decision/StabilizationWindow", "add", "(JJ)V"⟩ : MethodName) (head1 (Jvm.Cond.code (⟨"com/example/restrained_scaler/restrainedscaler/decision/StabilizationWindow", "add", "(JJ)V"⟩ : MethodName) prog_24_method_2_code 7 none :: ws) ({ frames := 4, cells := 1, slots := 2, locals := 120 } : Room)) (fun a U => a = #[(.ref W), (.long tN), (.long eN)] ∧ Z.Warmed39 U.vm ∧ U.heap = h0) (fun _ _ _ _ _ => True) (fun _ U o U' => ∃ v L, o = .returned v ∧ QA Z w_HIGHEST W dq ar kp sec tN eN kA hd LD n0 v U'.heap L ∧ FrameEnd U o U' L ({ frames := 4, cells := 1, slots := 2, locals := 120 } : Room).cells ({ frames := 4, cells := 1, slots := 2, locals := 120 } : Room).slots) := by
  refine MetFree.of_bodySF (plainFor_of_name pn_com_example_restrained_scaler_restrainedscaler_decision_StabilizationWindow) hisR ?_
  intro p e s m args below meth c s₁ Bd hml0 hP hK
  obtain ⟨rfl, hZ, hh⟩ := hP
  have hx := Bd.exec
  have hby := Bd.bytes
  have hml : c.maxLocals = 7 := hml0
  have hown : s.vm.findClass "com/example/restrained_scaler/restrainedscaler/decision/StabilizationWindow" = some m.cls := findClass_of_methodNamed Bd.named
  have X0 : Stand p l e ({ frames := 4, cells := 1, slots := 2, locals := 120 } : Room) s m #[(.ref W), (.long tN), (.long eN)] below meth c s₁ [] 0 0 := Stand.of_body Bd
  have e0 : s₁.heap = h0 := by rw [← hh, Bd.state]; rfl
  have N0 := Fr.nil n0
  show OGot p.tables e below (s₁.setTop (entryFrame m #[(.ref W), (.long tN), (.long eN)] 7)) _
  refine OGot.go (fun t k => castTop (efA m W tN eN) k) ?_
  have fin : ∀ (M : List (Addr × Int64 × Int64)) (hd' : Nat) (T : State) (locs : List Loc) (h : Heap), Stand p l e ({ frames := 4, cells := 1, slots := 2, locals := 120 } : Room) s m #[(.ref W), (.long tN), (.long eN)] below meth c T locs 0 0 → T.heap = h → Fr n0 locs → Old Z n0 h → Dq Z h n0 W dq ar kp sec kA hd' (M.map (·.1)) → (∀ d ∈ M, Dm Z h d) → hd' + M.length ≤ hd + LD.length → M = dropF (tN - sec) LD →
      OGot p.tables e below (T.setTop (mkF m 54 #[.val (.ref W), .val (.long tN), .second, .val (.long eN), .second, .val (.long (tN - sec)), .second] [])) (fun U o => U.status = .running ∧ Ended U below o ∧ ∃ v L, o = .returned v ∧ QA Z w_HIGHEST W dq ar kp sec tN eN kA hd LD n0 v U.heap L ∧ FrameEnd s o U L ({ frames := 4, cells := 1, slots := 2, locals := 120 } : Room).cells ({ frames := 4, cells := 1, slots := 2, locals := 120 } : Room).slots) := by
    intro M hd' T locs h X eT N O Q F hle hM
    obtain ⟨q1, q2, q3, q4, q5, q6, q7, q8, q9, q10, q11, q12, q13⟩ := Q
    obtain ⟨T', L', h', b, X', eT', N', O', st, hsz, K, r1, r2, r3, r4, r5, r6, r7, r8, r9, r10, r11, r12, r13⟩ := adN hw G X hx hZ hby hml hown W dq ar kp sec kA (Int32.ofNat hd') (Int32.ofNat (hd' + (M.map (·.1)).length)) (dqv hd' (M.map (·.1))) tN eN (tN - sec) h n0 O eT N q1 q2 q3 q4 q5 q6 q7 q8 q9 q10 q11 q12 q13
    refine OGot.go st ?_
    obtain ⟨cq, qq, qq'⟩ := r1.cell
    obtain ⟨_, _, ⟨T5, L5, k5, n5⟩, -, X5, ⟨Lc5, hQ5, l5, y5, z5⟩, st5⟩ := X'.privateBack hx (y := (⟨"com/example/restrained_scaler/restrainedscaler/decision/StabilizationWindow", "keep", "(Lcom/example/restrained_scaler/restrainedscaler/decision/Decider$Demand;)V"⟩ : MethodName)) hown (mvT hZ (ow hw 156 rfl)) (mvT hZ (ow hw 157 rfl)) (osel hZ (ow hw 82 rfl) (ow hw 157 rfl) (ow hw 158 rfl) (by decide)) (Cond.privateMethod_at (mvP hZ (ow hw 158 rfl) (args := #[]))) (mvT hZ (ow hw 159 rfl)) (by decide) (backOf (W := 0) (keepAll l Z a0 hw [] G W b dq ar kp sec tN eN kA hd' M h' n0 O' ⟨r1, r2, r3, r4, r5, r6, r7, r8, r9, r10, q11, q12, q13⟩ (fun d q => (F d q).carry K (fun _ z => nomatch z) q5 q9) ⟨r11, r13, r12⟩ (by omega)) hZ (ow hw 159 rfl) (ow hw 83 rfl) (by decide) (by decide)) (g := (mkF m 64 #[.val (.ref W), .val (.long tN), .second, .val (.long eN), .second, .val (.long (tN - sec)), .second] [(.ref b), (.ref W)])) rfl (by rw [hml]; rfl) (Steps.refl _) (a := W) (by rw [eT']; exact qq) qq' (argsL := [(.ref b)]) (rest := []) (lenOf pd_9 rfl) rfl (by show 2 * 0 + _ ≤ _; exact Nat.le_of_eq rfl) (hb hby d27_64) (fun _ _ => ⟨rfl, eT', (by decide : 1 + 0 ≤ _), (by decide : 2 + 0 ≤ _)⟩)
    dsimp only [Pt.U, Pt.locs, Pt.cells, Pt.slots] at X5 l5 y5 z5 st5 hQ5
    subst l5 y5 z5
    obtain ⟨rfl, N5q, O5, HQ5, HD5⟩ := hQ5
    have N5 := Fr.app N' N5q
    refine OGot.on st5 ?_
    show OGot p.tables e below (T5.setTop (mkF m 67 #[.val (.ref W), .val (.long tN), .second, .val (.long eN), .second, .val (.long (tN - sec)), .second] [])) _
    obtain ⟨fs, hr, hrun, hended, hW, hsame⟩ := X5.leave (v := none) (fun _ => rfl)
    refine ⟨_, _, X5.returnOut hx Bd.returns (hb hby d27_67) hr, hrun, hended, _, _, rfl, ?_, ⟨_, rfl⟩, hW, hsame.mono (by decide) (by decide)⟩
    have hp := popB_le (HI := w_HIGHEST) (kp := kp) (eN := eN) _ M rfl
    exact (⟨rfl, N5, O5, b, hd', _, by rw [← hM], by simp only [List.length_append, List.length_singleton]; omega, HQ5, HD5⟩ : QA Z w_HIGHEST W dq ar kp sec tN eN kA hd LD n0 _ T5.heap _)
  have loop : ∀ (M : List (Addr × Int64 × Int64)) (hd' : Nat) (T : State) (locs : List Loc) (h : Heap), Stand p l e ({ frames := 4, cells := 1, slots := 2, locals := 120 } : Room) s m #[(.ref W), (.long tN), (.long eN)] below meth c T locs 0 0 → T.heap = h → Fr n0 locs → Old Z n0 h → Dq Z h n0 W dq ar kp sec kA hd' (M.map (·.1)) → (∀ d ∈ M, Dm Z h d) → hd' + M.length ≤ hd + LD.length → dropF (tN - sec) M = dropF (tN - sec) LD →
      OGot p.tables e below (T.setTop (mkF m 8 #[.val (.ref W), .val (.long tN), .second, .val (.long eN), .second, .val (.long (tN - sec)), .second] [])) (fun U o => U.status = .running ∧ Ended U below o ∧ ∃ v L, o = .returned v ∧ QA Z w_HIGHEST W dq ar kp sec tN eN kA hd LD n0 v U.heap L ∧ FrameEnd s o U L ({ frames := 4, cells := 1, slots := 2, locals := 120 } : Room).cells ({ frames := 4, cells := 1, slots := 2, locals := 120 } : Room).slots) := by
    intro M
    induction M with
    | nil =>
      intro hd' T locs h X eT N O Q F hle hM
      obtain ⟨q1, q2, q3, q4, q5, q6, q7, q8, q9, q10, q11, q12, q13⟩ := Q
      obtain ⟨T', L', h', X', eT', N', O', st, K, r1, r2, r3, r4, r5, r6, r7, r8, r9, r10⟩ := adX hw G X hx hZ hby hml hown W dq ar kp sec kA (Int32.ofNat hd') (Int32.ofNat hd') (dqv hd' []) tN eN (tN - sec) h n0 O eT N q1 q2 q3 q4 q5 q6 q7 q8 q9 q10 q11 q12 q13 rfl
      refine OGot.go st ?_
      exact fin [] hd' T' L' h' X' eT' N' O' ⟨r1, r2, r3, r4, r5, r6, r7, r8, r9, r10, q11, q12, q13⟩ (fun d q => nomatch q) hle hM
    | cons x M ih =>
      intro hd' T locs h X eT N O Q F hle hM
      have Fx := F x (List.mem_cons_self ..)
      have hb2 : hd' + (M.map (·.1)).length ≤ 2 := by simp at hle ⊢; omega
      obtain ⟨q1, q2, q3, q4, q5, q6, q7, q8, q9, q10, q11, q12, q13⟩ := Q
      have et : hd' + ((x :: M).map (·.1)).length = hd' + (M.map (·.1)).length + 1 := by simp; omega
      rw [et] at q7
      have i := own_i (n := hd') (by omega)
      have c1 := own_c (hd := hd') (n := hd' + (M.map (·.1)).length) (by omega) (by omega)
      have hg : (dqv hd' ((x :: M).map (·.1))).getD (Int32.ofNat hd').toNatClampNeg .null = .ref x.1 := by rw [i.1]; exact dqv_first (by omega)
      by_cases ht : tN - sec < x.2.1
      · obtain ⟨T', L', h', X', eT', N', O', st, K, r1, r2, r3, r4, r5, r6, r7, r8, r9, r10, r11, r12, r13⟩ := adY hw G X hx hZ hby hml hown W dq ar kp sec kA (Int32.ofNat hd') (Int32.ofNat (hd' + (M.map (·.1)).length + 1)) (dqv hd' ((x :: M).map (·.1))) tN eN (tN - sec) x.1 x.2.1 x.2.2 h n0 O eT N q1 q2 q3 q4 q5 q6 q7 q8 q9 q10 q11 q12 q13 Fx.1 Fx.2.1 Fx.2.2 c1.1 hg i.2.2.1 ht
        refine OGot.go st ?_
        rw [← et] at r7
        exact fin (x :: M) hd' T' L' h' X' eT' N' O' ⟨r1, r2, r3, r4, r5, r6, r7, r8, r9, r10, q11, q12, q13⟩ (fun d q => (F d q).carry K (fun _ z => nomatch z) q5 q9) hle ((dropF_no ht).symm.trans hM)
      · have hl : (Int32.ofNat hd').toNatClampNeg < (dqv hd' ((x :: M).map (·.1))).length := by rw [i.1, dqv_len (by simp at hb2 ⊢; omega)]; omega
        obtain ⟨T', L', h', X', eT', N', O', st, K, r1, r2, r3, r4, r5, r6, r7, r8, r9, r10, r11, r12, r13⟩ := adE hw G X hx hZ hby hml hown W dq ar kp sec kA (Int32.ofNat hd') (Int32.ofNat (hd' + (M.map (·.1)).length + 1)) (dqv hd' ((x :: M).map (·.1))) tN eN (tN - sec) x.1 x.2.1 x.2.2 h n0 O eT N q1 q2 q3 q4 q5 q6 q7 q8 q9 q10 q11 q12 q13 Fx.1 Fx.2.1 Fx.2.2 c1.1 hg i.2.2.1 ht i.2.2.2.1 hl
        refine OGot.go st ?_
        exact ih (hd' + 1) T' L' h' X' eT' N' O' (Dq.mk_popF (x := x.1) (by omega) r1 r2 r3 r4 r5 r6 r7 r8 r9 r10 q11 q12 q13) (fun d q => (F d (List.mem_cons_of_mem _ q)).carry K own_two' q5 q9) (by simp at hle; omega) ((dropF_yes ht).symm.trans hM)
  obtain ⟨q1, q2, q3, q4, q5, q6, q7, q8, q9, q10, q11, q12, q13⟩ := HQ
  obtain ⟨T', L', h', X', eT', N', O', st, K, r1, r2, r3, r4, r5, r6, r7, r8, r9, r10⟩ := adS hw G X0 hx hZ hby hml hown W dq ar kp sec kA (Int32.ofNat hd) (Int32.ofNat (hd + (LD.map (·.1)).length)) (dqv hd (LD.map (·.1))) tN eN h0 n0 O0 e0 N0 q1 q2 q3 q4 q5 q6 q7 q8 q9 q10 q11 q12 q13
  refine OGot.go st ?_
  exact loop LD hd T' L' h' X' eT' N' O' ⟨r1, r2, r3, r4, r5, r6, r7, r8, r9, r10, q11, q12, q13⟩ (fun d q => (HD d q).carry K (fun _ z => nomatch z) q5 q9) (Nat.le_refl _) rfl
def dem (M : List (Addr × Int64 × Int64)) : Int64 := match M with
  | [] => 0
  | d :: _ => d.2.2
def QD (M : List (Addr × Int64 × Int64)) (n0 : Nat) (h0 : Heap) (v : Option Value) (h : Heap) (L : List Loc) : Prop := v = some (.long (dem M)) ∧ Fr n0 L ∧ h = h0
theorem demAll (l : Launch) (Z : State) (a0 : Array Value) (hw : ∀ d ∈ tables_1, d.before a0 Z = true) (ws : List Jvm.Cond) {w_LOWEST : Addr} {w_HIGHEST : Addr} {w_EMPTY_ELEMENTDATA : Addr} {w_DEFAULTCAPACITY_EMPTY_ELEMENTDATA : Addr} {k_w_EMPTY_ELEMENTDATA : ClassId} {k_w_DEFAULTCAPACITY_EMPTY_ELEMENTDATA : ClassId} (G : Glob Z w_LOWEST w_HIGHEST w_EMPTY_ELEMENTDATA w_DEFAULTCAPACITY_EMPTY_ELEMENTDATA k_w_EMPTY_ELEMENTDATA k_w_DEFAULTCAPACITY_EMPTY_ELEMENTDATA) (W dq ar kp : Addr) (sec : Int64) (kA : ClassId) (hd : Nat) (M : List (Addr × Int64 × Int64)) (h0 : Heap) (n0 : Nat) (O0 : Old Z n0 h0) (HQ : Dq Z h0 n0 W dq ar kp sec kA hd (M.map (·.1))) (HD : ∀ d ∈ M, Dm Z h0 d) (hbd : hd + M.length ≤ 4) (hne : M ≠ []) :
    MetFree l (⟨"com/example/restrained_scaler/restrainedscaler/decision/StabilizationWindow", "demand", "()J"⟩ : MethodName) (head1 (Jvm.Cond.code (⟨"com/example/restrained_scaler/restrainedscaler/decision/StabilizationWindow", "demand", "()J"⟩ : MethodName) prog_24_method_3_code 1 (some .long) :: ws) ({ frames := 2, cells := 0, slots := 0, locals := 26 } : Room)) (fun a U => a = #[(.ref W)] ∧ Z.Warmed39 U.vm ∧ U.heap = h0) (fun _ _ _ _ _ => True) (fun _ U o U' => ∃ v L, o = .returned v ∧ QD M n0 h0 v U'.heap L ∧ FrameEnd U o U' L ({ frames := 2, cells := 0, slots := 0, locals := 26 } : Room).cells ({ frames := 2, cells := 0, slots := 0, locals := 26 } : Room).slots) := by
  obtain ⟨x, M', rfl⟩ : ∃ x M', M = x :: M' := by
    cases M with
    | nil => exact absurd rfl hne
    | cons x M' => exact ⟨x, M', rfl⟩
  have Fx := HD x (List.mem_cons_self ..)
  have hb3 : hd + (M'.map (·.1)).length ≤ 3 := by simp at hbd ⊢; omega
  have i := own_i (n := hd) (by omega)
  have hg : (dqv hd ((x :: M').map (·.1))).getD (Int32.ofNat hd).toNatClampNeg .null = .ref x.1 := by rw [i.1]; exact dqv_first hb3
  obtain ⟨q1, q2, q3, q4, q5, q6, q7, q8, q9, q10, q11, q12, q13⟩ := HQ
  exact rm23 l Z a0 hw ws G W dq ar (Int32.ofNat hd) kA (dqv hd ((x :: M').map (·.1))) x.1 x.2.2 h0 n0 O0 q2 q5 q8 q6 q10 q11 hg i.2.2.1 Fx.1 Fx.2.2

theorem d1_0 : decode jdk_38_method_2_code 0 = .ok (.aload_n 0, 1) := by decide +kernel
theorem d1_1 : decode jdk_38_method_2_code 1 = .ok (.invokespecial 1, 3) := by decide +kernel
theorem d2_0 : decode jdk_39_method_1_code 0 = .ok (.aload_n 0, 1) := by decide +kernel
theorem d2_1 : decode jdk_39_method_1_code 1 = .ok (.invokespecial 1, 3) := by decide +kernel
theorem d3_0 : decode jdk_22_method_1_code 0 = .ok (.aload_n 0, 1) := by decide +kernel
theorem d3_1 : decode jdk_22_method_1_code 1 = .ok (.invokespecial 1, 3) := by decide +kernel
theorem d3_4 : decode jdk_22_method_1_code 4 = .ok (.return_, 1) := by decide +kernel
theorem pn_java_util_AbstractCollection : plainName "java/util/AbstractCollection" = true := by first | (simp [plainName, overriddenIn]; done) | decide +kernel
def Q3 (Z : State) (w_LOWEST : Addr) (w_HIGHEST : Addr) (w_EMPTY_ELEMENTDATA : Addr) (w_DEFAULTCAPACITY_EMPTY_ELEMENTDATA : Addr) (k_w_EMPTY_ELEMENTDATA : ClassId) (k_w_DEFAULTCAPACITY_EMPTY_ELEMENTDATA : ClassId) (a1 : Addr) (h0 : Heap) (n0 : Nat) (v : Option Value) (h : Heap) (L : List Loc) : Prop := v = none ∧ Fr n0 L ∧ h = h0
theorem ef3 (m : MethodId) (x0 : Addr) : entryFrame m #[(.ref x0)] 1 = mkF m 0 #[.val (.ref x0)] [] := by first | (simp [entryFrame, mkF, argsToLocals, Value.category]; done) | rfl
set_option maxRecDepth 65536 in
set_option maxHeartbeats 40000000 in
theorem rm3 (l : Launch) (Z : State) (a0 : Array Value) (hw : ∀ d ∈ tables_1, d.before a0 Z = true) (ws : List Jvm.Cond) {w_LOWEST : Addr} {w_HIGHEST : Addr} {w_EMPTY_ELEMENTDATA : Addr} {w_DEFAULTCAPACITY_EMPTY_ELEMENTDATA : Addr} {k_w_EMPTY_ELEMENTDATA : ClassId} {k_w_DEFAULTCAPACITY_EMPTY_ELEMENTDATA : ClassId} (G : Glob Z w_LOWEST w_HIGHEST w_EMPTY_ELEMENTDATA w_DEFAULTCAPACITY_EMPTY_ELEMENTDATA k_w_EMPTY_ELEMENTDATA k_w_DEFAULTCAPACITY_EMPTY_ELEMENTDATA) (a1 : Addr) (h0 : Heap) (n0 : Nat) (O0 : Old Z n0 h0) :
    MetFree l (⟨"java/util/AbstractCollection", "<init>", "()V"⟩ : MethodName) (head1 (Jvm.Cond.code (⟨"java/util/AbstractCollection", "<init>", "()V"⟩ : MethodName) jdk_22_method_1_code 1 none :: ws) ({ frames := 1, cells := 0, slots := 0, locals := 12 } : Room)) (fun a U => a = #[(.ref a1)] ∧ Z.Warmed39 U.vm ∧ U.heap = h0) (fun _ _ _ _ _ => True) (fun _ U o U' => ∃ v L, o = .returned v ∧ Q3 Z w_LOWEST w_HIGHEST w_EMPTY_ELEMENTDATA w_DEFAULTCAPACITY_EMPTY_ELEMENTDATA k_w_EMPTY_ELEMENTDATA k_w_DEFAULTCAPACITY_EMPTY_ELEMENTDATA a1 h0 n0 v U'.heap L ∧ FrameEnd U o U' L ({ frames := 1, cells := 0, slots := 0, locals := 12 } : Room).cells ({ frames := 1, cells := 0, slots := 0, locals := 12 } : Room).slots) := by
  refine MetFree.of_bodySF (plainFor_of_name pn_java_util_AbstractCollection) hisR ?_
  intro p e s m args below meth c s₁ Bd hml0 hP hK
  obtain ⟨rfl, hZ, hh⟩ := hP
  have hx := Bd.exec
  have hby := Bd.bytes
  have hml : c.maxLocals = 1 := hml0
  have hown : s.vm.findClass "java/util/AbstractCollection" = some m.cls := findClass_of_methodNamed Bd.named
  have hnm := (name_of_methodNamed Bd.named Bd.method).1
  have X0 : Stand p l e ({ frames := 1, cells := 0, slots := 0, locals := 12 } : Room) s m #[(.ref a1)] below meth c s₁ [] 0 0 := Stand.of_body Bd
  have e0 : s₁.heap = h0 := by rw [← hh, Bd.state]; rfl
  have N0 := Fr.nil n0
  show OGot p.tables e below (s₁.setTop (entryFrame m #[(.ref a1)] 1)) _
  refine OGot.go (fun t k => castTop (ef3 m a1) k) ?_
  show OGot p.tables e below (s₁.setTop (mkF m 0 #[.val (.ref a1)] [])) _
  refine OGot.go (fun t k => XS.aloadN X0.here hx rfl (hb hby d3_0) rfl rfl k) ?_
  obtain ⟨T2, X2, e2, st2⟩ := initO X0 hx hZ hown (ow hw 22 rfl) (ow hw 23 rfl) (ow hw 24 rfl) e0 (g := (mkF m 1 #[.val (.ref a1)] [(.ref a1)])) rfl (by rw [hml]; rfl) rfl (hb hby d3_1) (by decide) (W := 0) (by show 2 * 0 + _ ≤ _; exact Nat.le_of_eq rfl) (by decide)
  refine OGot.go st2 ?_
  show OGot p.tables e below (T2.setTop (mkF m 4 #[.val (.ref a1)] [])) _
  obtain ⟨fs, hr, hrun, hended, hW, hsame⟩ := X2.leave (v := none) (fun _ => rfl)
  refine ⟨_, _, X2.returnOut hx Bd.returns (hb hby d3_4) hr, hrun, hended, _, _, rfl, ?_, ⟨_, rfl⟩, hW, hsame.mono (by decide) (by decide)⟩
  exact (⟨rfl, N0, e2⟩ : Q3 Z w_LOWEST w_HIGHEST w_EMPTY_ELEMENTDATA w_DEFAULTCAPACITY_EMPTY_ELEMENTDATA k_w_EMPTY_ELEMENTDATA k_w_DEFAULTCAPACITY_EMPTY_ELEMENTDATA a1 h0 n0 _ T2.heap _)
theorem d2_4 : decode jdk_39_method_1_code 4 = .ok (.aload_n 0, 1) := by decide +kernel
theorem d2_5 : decode jdk_39_method_1_code 5 = .ok (.iconst 0, 1) := by decide +kernel
theorem d2_6 : decode jdk_39_method_1_code 6 = .ok (.putfield 7, 3) := by decide +kernel
theorem d2_9 : decode jdk_39_method_1_code 9 = .ok (.return_, 1) := by decide +kernel
theorem pn_java_util_AbstractList : plainName "java/util/AbstractList" = true := by first | (simp [plainName, overriddenIn]; done) | decide +kernel
def Q2 (Z : State) (w_LOWEST : Addr) (w_HIGHEST : Addr) (w_EMPTY_ELEMENTDATA : Addr) (w_DEFAULTCAPACITY_EMPTY_ELEMENTDATA : Addr) (k_w_EMPTY_ELEMENTDATA : ClassId) (k_w_DEFAULTCAPACITY_EMPTY_ELEMENTDATA : ClassId) (a1 : Addr) (h0 : Heap) (n0 : Nat) (v : Option Value) (h : Heap) (L : List Loc) : Prop := Fr n0 L ∧ v = none ∧ OKeep h0 h [(a1, Jvm.RoadKit.slotOf Z "java/util/AbstractList" "modCount" "I")] ∧ Fld Z h a1 "java/util/AbstractList" "modCount" "I" (.int (0 : Int32))
theorem ef2 (m : MethodId) (x0 : Addr) : entryFrame m #[(.ref x0)] 1 = mkF m 0 #[.val (.ref x0)] [] := by first | (simp [entryFrame, mkF, argsToLocals, Value.category]; done) | rfl
set_option maxRecDepth 65536 in
set_option maxHeartbeats 40000000 in
theorem rm2 (l : Launch) (Z : State) (a0 : Array Value) (hw : ∀ d ∈ tables_1, d.before a0 Z = true) (ws : List Jvm.Cond) {w_LOWEST : Addr} {w_HIGHEST : Addr} {w_EMPTY_ELEMENTDATA : Addr} {w_DEFAULTCAPACITY_EMPTY_ELEMENTDATA : Addr} {k_w_EMPTY_ELEMENTDATA : ClassId} {k_w_DEFAULTCAPACITY_EMPTY_ELEMENTDATA : ClassId} (G : Glob Z w_LOWEST w_HIGHEST w_EMPTY_ELEMENTDATA w_DEFAULTCAPACITY_EMPTY_ELEMENTDATA k_w_EMPTY_ELEMENTDATA k_w_DEFAULTCAPACITY_EMPTY_ELEMENTDATA) (a1 : Addr) (h0 : Heap) (n0 : Nat) (O0 : Old Z n0 h0) (E_a1 : Exa Z h0 a1 "java/util/ArrayList") (F_modCount_a1 : Fld Z h0 a1 "java/util/AbstractList" "modCount" "I" (.int (0 : Int32))) (g_a1 : n0 ≤ a1) :
    MetFree l (⟨"java/util/AbstractList", "<init>", "()V"⟩ : MethodName) (head1 (Jvm.Cond.code (⟨"java/util/AbstractList", "<init>", "()V"⟩ : MethodName) jdk_39_method_1_code 1 none :: ws) ({ frames := 2, cells := 0, slots := 0, locals := 24 } : Room)) (fun a U => a = #[(.ref a1)] ∧ Z.Warmed39 U.vm ∧ U.heap = h0) (fun _ _ _ _ _ => True) (fun _ U o U' => ∃ v L, o = .returned v ∧ Q2 Z w_LOWEST w_HIGHEST w_EMPTY_ELEMENTDATA w_DEFAULTCAPACITY_EMPTY_ELEMENTDATA k_w_EMPTY_ELEMENTDATA k_w_DEFAULTCAPACITY_EMPTY_ELEMENTDATA a1 h0 n0 v U'.heap L ∧ FrameEnd U o U' L ({ frames := 2, cells := 0, slots := 0, locals := 24 } : Room).cells ({ frames := 2, cells := 0, slots := 0, locals := 24 } : Room).slots) := by
  refine MetFree.of_bodySF (plainFor_of_name pn_java_util_AbstractList) hisR ?_
  intro p e s m args below meth c s₁ Bd hml0 hP hK
  obtain ⟨rfl, hZ, hh⟩ := hP
  have hx := Bd.exec
  have hby := Bd.bytes
  have hml : c.maxLocals = 1 := hml0
  have hown : s.vm.findClass "java/util/AbstractList" = some m.cls := findClass_of_methodNamed Bd.named
  have hnm := (name_of_methodNamed Bd.named Bd.method).1
  have X0 : Stand p l e ({ frames := 2, cells := 0, slots := 0, locals := 24 } : Room) s m #[(.ref a1)] below meth c s₁ [] 0 0 := Stand.of_body Bd
  have e0 : s₁.heap = h0 := by rw [← hh, Bd.state]; rfl
  have N0 := Fr.nil n0
  show OGot p.tables e below (s₁.setTop (entryFrame m #[(.ref a1)] 1)) _
  refine OGot.go (fun t k => castTop (ef2 m a1) k) ?_
  show OGot p.tables e below (s₁.setTop (mkF m 0 #[.val (.ref a1)] [])) _
  refine OGot.go (fun t k => XS.aloadN X0.here hx rfl (hb hby d2_0) rfl rfl k) ?_
  obtain ⟨_, _, ⟨T2, L2, k2, n2⟩, -, X2, ⟨Lc2, hQ2, l2, y2, z2⟩, st2⟩ := X0.specialBack hx (y := (⟨"java/util/AbstractCollection", "<init>", "()V"⟩ : MethodName)) rfl hown (mvT hZ (ow hw 16 rfl)) (mvT hZ (ow hw 17 rfl)) (mvT hZ (ow hw 21 rfl)) (by decide) (backOf (W := 0) (rm3 l Z a0 hw [] G a1 h0 n0 O0 ) hZ (ow hw 21 rfl) (ow hw 20 rfl) (by decide) (by decide)) (g := (mkF m 1 #[.val (.ref a1)] [(.ref a1)])) rfl (by rw [hml]; rfl) (Steps.refl _) (a := a1) (argsL := []) (rest := []) (lenOf pd_7 rfl) rfl (by show 2 * 0 + _ ≤ _; exact Nat.le_of_eq rfl) (hb hby d2_1) (fun _ _ => ⟨rfl, e0, (by decide : 0 + 0 ≤ _), (by decide : 0 + 0 ≤ _)⟩)
  dsimp only [Pt.U, Pt.locs, Pt.cells, Pt.slots] at X2 l2 y2 z2 st2 hQ2
  subst l2 y2 z2
  obtain ⟨rfl, N2q, e2⟩ := hQ2
  have N2 := Fr.app N0 N2q
  refine OGot.on st2 ?_
  refine OGot.go (fun t k => XS.aloadN X2.here hx rfl (hb hby d2_4) rfl rfl k) ?_
  refine OGot.go (fun t k => XS.iconst X2.here hx rfl (hb hby d2_5) k) ?_
  obtain ⟨T3, h3, X3, e3, W3, st3⟩ := putF X2 hx hZ hown (host := "") (Or.inl (ow hw 25 rfl)) Via.refl e2 F_modCount_a1 E_a1 (Or.inl (ow hw 26 rfl)) (ow hw 5 rfl) (ty := .int) (by decide) rfl rfl (g := (mkF m 6 #[.val (.ref a1)] [(.int (0 : Int32)), (.ref a1)])) rfl rfl (hb hby d2_6)
  refine OGot.go st3 ?_
  have N3 := Fr.snoc X3 N2 g_a1
  have O3 := O0.wr W3 g_a1
  have K3 := (OKeep.refl h0 [(a1, Jvm.RoadKit.slotOf Z "java/util/AbstractList" "modCount" "I")]).wr W3 (Or.inl (List.mem_of_getElem? (i := 0) rfl))
  have Fw3 : Fld Z h3 a1 "java/util/AbstractList" "modCount" "I" (.int (0 : Int32)) := F_modCount_a1.same W3
  show OGot p.tables e below (T3.setTop (mkF m 9 #[.val (.ref a1)] [])) _
  obtain ⟨fs, hr, hrun, hended, hW, hsame⟩ := X3.leave (v := none) (fun _ => rfl)
  refine ⟨_, _, X3.returnOut hx Bd.returns (hb hby d2_9) hr, hrun, hended, _, _, rfl, ?_, ⟨_, rfl⟩, hW, hsame.mono (by decide) (by decide)⟩
  show Q2 Z w_LOWEST w_HIGHEST w_EMPTY_ELEMENTDATA w_DEFAULTCAPACITY_EMPTY_ELEMENTDATA k_w_EMPTY_ELEMENTDATA k_w_DEFAULTCAPACITY_EMPTY_ELEMENTDATA a1 h0 n0 _ T3.heap _
  rw [e3]
  exact ⟨N3, rfl, K3, Fw3⟩
theorem d1_4 : decode jdk_38_method_2_code 4 = .ok (.aload_n 0, 1) := by decide +kernel
theorem d1_5 : decode jdk_38_method_2_code 5 = .ok (.getstatic 39, 3) := by decide +kernel
theorem d1_8 : decode jdk_38_method_2_code 8 = .ok (.putfield 9, 3) := by decide +kernel
theorem d1_11 : decode jdk_38_method_2_code 11 = .ok (.return_, 1) := by decide +kernel
theorem pn_java_util_ArrayList : plainName "java/util/ArrayList" = true := by first | (simp [plainName, overriddenIn]; done) | decide +kernel
def Q1 (Z : State) (w_LOWEST : Addr) (w_HIGHEST : Addr) (w_EMPTY_ELEMENTDATA : Addr) (w_DEFAULTCAPACITY_EMPTY_ELEMENTDATA : Addr) (k_w_EMPTY_ELEMENTDATA : ClassId) (k_w_DEFAULTCAPACITY_EMPTY_ELEMENTDATA : ClassId) (a1 : Addr) (h0 : Heap) (n0 : Nat) (v : Option Value) (h : Heap) (L : List Loc) : Prop := Fr n0 L ∧ v = none ∧ OKeep h0 h [(a1, Jvm.RoadKit.slotOf Z "java/util/AbstractList" "modCount" "I"), (a1, Jvm.RoadKit.slotOf Z "java/util/ArrayList" "elementData" "[Ljava/lang/Object;")] ∧ Fld Z h a1 "java/util/AbstractList" "modCount" "I" (.int (0 : Int32)) ∧ Fld Z h a1 "java/util/ArrayList" "elementData" "[Ljava/lang/Object;" (.ref w_DEFAULTCAPACITY_EMPTY_ELEMENTDATA)
theorem ef1 (m : MethodId) (x0 : Addr) : entryFrame m #[(.ref x0)] 1 = mkF m 0 #[.val (.ref x0)] [] := by first | (simp [entryFrame, mkF, argsToLocals, Value.category]; done) | rfl
set_option maxRecDepth 65536 in
set_option maxHeartbeats 40000000 in
theorem rm1 (l : Launch) (Z : State) (a0 : Array Value) (hw : ∀ d ∈ tables_1, d.before a0 Z = true) (ws : List Jvm.Cond) {w_LOWEST : Addr} {w_HIGHEST : Addr} {w_EMPTY_ELEMENTDATA : Addr} {w_DEFAULTCAPACITY_EMPTY_ELEMENTDATA : Addr} {k_w_EMPTY_ELEMENTDATA : ClassId} {k_w_DEFAULTCAPACITY_EMPTY_ELEMENTDATA : ClassId} (G : Glob Z w_LOWEST w_HIGHEST w_EMPTY_ELEMENTDATA w_DEFAULTCAPACITY_EMPTY_ELEMENTDATA k_w_EMPTY_ELEMENTDATA k_w_DEFAULTCAPACITY_EMPTY_ELEMENTDATA) (a1 : Addr) (h0 : Heap) (n0 : Nat) (O0 : Old Z n0 h0) (E_a1 : Exa Z h0 a1 "java/util/ArrayList") (F_modCount_a1 : Fld Z h0 a1 "java/util/AbstractList" "modCount" "I" (.int (0 : Int32))) (g_a1 : n0 ≤ a1) (F_elementData_a1 : Fld Z h0 a1 "java/util/ArrayList" "elementData" "[Ljava/lang/Object;" .null) :
    MetFree l (⟨"java/util/ArrayList", "<init>", "()V"⟩ : MethodName) (head1 (Jvm.Cond.code (⟨"java/util/ArrayList", "<init>", "()V"⟩ : MethodName) jdk_38_method_2_code 1 none :: ws) ({ frames := 3, cells := 0, slots := 0, locals := 36 } : Room)) (fun a U => a = #[(.ref a1)] ∧ Z.Warmed39 U.vm ∧ U.heap = h0) (fun _ _ _ _ _ => True) (fun _ U o U' => ∃ v L, o = .returned v ∧ Q1 Z w_LOWEST w_HIGHEST w_EMPTY_ELEMENTDATA w_DEFAULTCAPACITY_EMPTY_ELEMENTDATA k_w_EMPTY_ELEMENTDATA k_w_DEFAULTCAPACITY_EMPTY_ELEMENTDATA a1 h0 n0 v U'.heap L ∧ FrameEnd U o U' L ({ frames := 3, cells := 0, slots := 0, locals := 36 } : Room).cells ({ frames := 3, cells := 0, slots := 0, locals := 36 } : Room).slots) := by
  refine MetFree.of_bodySF (plainFor_of_name pn_java_util_ArrayList) hisR ?_
  intro p e s m args below meth c s₁ Bd hml0 hP hK
  obtain ⟨rfl, hZ, hh⟩ := hP
  have hx := Bd.exec
  have hby := Bd.bytes
  have hml : c.maxLocals = 1 := hml0
  have hown : s.vm.findClass "java/util/ArrayList" = some m.cls := findClass_of_methodNamed Bd.named
  have hnm := (name_of_methodNamed Bd.named Bd.method).1
  have X0 : Stand p l e ({ frames := 3, cells := 0, slots := 0, locals := 36 } : Room) s m #[(.ref a1)] below meth c s₁ [] 0 0 := Stand.of_body Bd
  have e0 : s₁.heap = h0 := by rw [← hh, Bd.state]; rfl
  have N0 := Fr.nil n0
  show OGot p.tables e below (s₁.setTop (entryFrame m #[(.ref a1)] 1)) _
  refine OGot.go (fun t k => castTop (ef1 m a1) k) ?_
  show OGot p.tables e below (s₁.setTop (mkF m 0 #[.val (.ref a1)] [])) _
  refine OGot.go (fun t k => XS.aloadN X0.here hx rfl (hb hby d1_0) rfl rfl k) ?_
  obtain ⟨_, _, ⟨T2, L2, k2, n2⟩, -, X2, ⟨Lc2, hQ2, l2, y2, z2⟩, st2⟩ := X0.specialBack hx (y := (⟨"java/util/AbstractList", "<init>", "()V"⟩ : MethodName)) rfl hown (mvT hZ (ow hw 10 rfl)) (mvT hZ (ow hw 11 rfl)) (mvT hZ (ow hw 15 rfl)) (by decide) (backOf (W := 0) (rm2 l Z a0 hw [] G a1 h0 n0 O0 E_a1 F_modCount_a1 g_a1) hZ (ow hw 15 rfl) (ow hw 14 rfl) (by decide) (by decide)) (g := (mkF m 1 #[.val (.ref a1)] [(.ref a1)])) rfl (by rw [hml]; rfl) (Steps.refl _) (a := a1) (argsL := []) (rest := []) (lenOf pd_7 rfl) rfl (by show 2 * 0 + _ ≤ _; exact Nat.le_of_eq rfl) (hb hby d1_1) (fun _ _ => ⟨rfl, e0, (by decide : 0 + 0 ≤ _), (by decide : 0 + 0 ≤ _)⟩)
  dsimp only [Pt.U, Pt.locs, Pt.cells, Pt.slots] at X2 l2 y2 z2 st2 hQ2
  subst l2 y2 z2
  obtain ⟨N2q, rfl, K2, Fo2_0⟩ := hQ2
  have Kc2 := (OKeep.refl h0 [(a1, Jvm.RoadKit.slotOf Z "java/util/AbstractList" "modCount" "I"), (a1, Jvm.RoadKit.slotOf Z "java/util/ArrayList" "elementData" "[Ljava/lang/Object;")]).trans K2 (oinS (Or.inl (List.mem_of_getElem? (i := 0) rfl)) oin0)
  have O2 := OKeep.old O0 K2 (ogeS g_a1 oge0)
  have N2 := Fr.app N0 N2q
  refine OGot.on st2 ?_
  refine OGot.go (fun t k => XS.aloadN X2.here hx rfl (hb hby d1_4) rfl rfl k) ?_
  obtain ⟨T3, X3, e3, st3⟩ := getS2 X2 hx hZ hown (host := "") (Or.inl (ow hw 27 rfl)) Via.refl rfl (G.2.2.2.2.2.2.1.ext O2.2) (g := (mkF m 5 #[.val (.ref a1)] [(.ref a1)])) rfl (hb hby d1_5)
  refine OGot.go st3 ?_
  have F4 : Fld Z T2.heap a1 "java/util/ArrayList" "elementData" "[Ljava/lang/Object;" .null := (OKeep.fld F_elementData_a1 K2 (oninS (slot_ne (Or.inl (ow hw 29 rfl)) (Or.inl (ow hw 26 rfl)) (by decide) (t := (.array (.object "java/lang/Object"))) (t' := .int) (by decide) (by decide)) onin0))
  obtain ⟨T5, h5, X5, e5, W5, st5⟩ := putF X3 hx hZ hown (host := "") (Or.inl (ow hw 28 rfl)) Via.refl e3 F4 (OKeep.exa E_a1 K2) (Or.inl (ow hw 29 rfl)) (ow hw 5 rfl) (ty := (.array (.object "java/lang/Object"))) (by decide) rfl rfl (g := (mkF m 8 #[.val (.ref a1)] [(.ref w_DEFAULTCAPACITY_EMPTY_ELEMENTDATA), (.ref a1)])) rfl rfl (hb hby d1_8)
  refine OGot.go st5 ?_
  have N5 := Fr.snoc X5 N2 g_a1
  have O5 := O2.wr W5 g_a1
  have K5 := Kc2.wr W5 (Or.inl (List.mem_of_getElem? (i := 1) rfl))
  have Fw5 : Fld Z h5 a1 "java/util/ArrayList" "elementData" "[Ljava/lang/Object;" (.ref w_DEFAULTCAPACITY_EMPTY_ELEMENTDATA) := F4.same W5
  show OGot p.tables e below (T5.setTop (mkF m 11 #[.val (.ref a1)] [])) _
  obtain ⟨fs, hr, hrun, hended, hW, hsame⟩ := X5.leave (v := none) (fun _ => rfl)
  refine ⟨_, _, X5.returnOut hx Bd.returns (hb hby d1_11) hr, hrun, hended, _, _, rfl, ?_, ⟨_, rfl⟩, hW, hsame.mono (by decide) (by decide)⟩
  have F6 : Fld Z h5 a1 "java/util/AbstractList" "modCount" "I" (.int (0 : Int32)) := (Fo2_0.other W5 (Or.inr (slot_ne (Or.inl (ow hw 26 rfl)) (Or.inl (ow hw 29 rfl)) (by decide) (t := .int) (t' := (.array (.object "java/lang/Object"))) (by decide) (by decide))))
  show Q1 Z w_LOWEST w_HIGHEST w_EMPTY_ELEMENTDATA w_DEFAULTCAPACITY_EMPTY_ELEMENTDATA k_w_EMPTY_ELEMENTDATA k_w_DEFAULTCAPACITY_EMPTY_ELEMENTDATA a1 h0 n0 _ T5.heap _
  rw [e5]
  exact ⟨N5, rfl, K5, F6, Fw5⟩
theorem d7_0 : decode jdk_38_method_25_code 0 = .ok (.aload_n 0, 1) := by decide +kernel
theorem d7_1 : decode jdk_38_method_25_code 1 = .ok (.dup, 1) := by decide +kernel
theorem d7_2 : decode jdk_38_method_25_code 2 = .ok (.getfield 63, 3) := by decide +kernel
theorem d7_5 : decode jdk_38_method_25_code 5 = .ok (.iconst 1, 1) := by decide +kernel
theorem d7_6 : decode jdk_38_method_25_code 6 = .ok (.iadd, 1) := by decide +kernel
theorem d7_7 : decode jdk_38_method_25_code 7 = .ok (.putfield 63, 3) := by decide +kernel
theorem d7_10 : decode jdk_38_method_25_code 10 = .ok (.aload_n 0, 1) := by decide +kernel
theorem d7_11 : decode jdk_38_method_25_code 11 = .ok (.aload_n 1, 1) := by decide +kernel
theorem d7_12 : decode jdk_38_method_25_code 12 = .ok (.aload_n 0, 1) := by decide +kernel
theorem d7_13 : decode jdk_38_method_25_code 13 = .ok (.getfield 9, 3) := by decide +kernel
theorem d7_16 : decode jdk_38_method_25_code 16 = .ok (.aload_n 0, 1) := by decide +kernel
theorem d7_17 : decode jdk_38_method_25_code 17 = .ok (.getfield 48, 3) := by decide +kernel
theorem d7_20 : decode jdk_38_method_25_code 20 = .ok (.invokevirtual 131, 3) := by decide +kernel
theorem d8_0 : decode jdk_38_method_24_code 0 = .ok (.iload_n 3, 1) := by decide +kernel
theorem d8_1 : decode jdk_38_method_24_code 1 = .ok (.aload_n 2, 1) := by decide +kernel
theorem d8_2 : decode jdk_38_method_24_code 2 = .ok (.arraylength, 1) := by decide +kernel
theorem d8_3 : decode jdk_38_method_24_code 3 = .ok (.if_icmp .ne 8, 3) := by decide +kernel
theorem d8_6 : decode jdk_38_method_24_code 6 = .ok (.aload_n 0, 1) := by decide +kernel
theorem d8_7 : decode jdk_38_method_24_code 7 = .ok (.invokevirtual 129, 3) := by decide +kernel
theorem d9_0 : decode jdk_38_method_7_code 0 = .ok (.aload_n 0, 1) := by decide +kernel
theorem d9_1 : decode jdk_38_method_7_code 1 = .ok (.aload_n 0, 1) := by decide +kernel
theorem d9_2 : decode jdk_38_method_7_code 2 = .ok (.getfield 48, 3) := by decide +kernel
theorem d9_5 : decode jdk_38_method_7_code 5 = .ok (.iconst 1, 1) := by decide +kernel
theorem d9_6 : decode jdk_38_method_7_code 6 = .ok (.iadd, 1) := by decide +kernel
theorem d9_7 : decode jdk_38_method_7_code 7 = .ok (.invokevirtual 69, 3) := by decide +kernel
theorem d10_0 : decode jdk_38_method_6_code 0 = .ok (.aload_n 0, 1) := by decide +kernel
theorem d10_1 : decode jdk_38_method_6_code 1 = .ok (.getfield 9, 3) := by decide +kernel
theorem d10_4 : decode jdk_38_method_6_code 4 = .ok (.arraylength, 1) := by decide +kernel
theorem d10_5 : decode jdk_38_method_6_code 5 = .ok (.istore_n 2, 1) := by decide +kernel
theorem d10_6 : decode jdk_38_method_6_code 6 = .ok (.iload_n 2, 1) := by decide +kernel
theorem d10_7 : decode jdk_38_method_6_code 7 = .ok (.ifCond .gt 13, 3) := by decide +kernel
theorem d10_10 : decode jdk_38_method_6_code 10 = .ok (.aload_n 0, 1) := by decide +kernel
theorem d10_11 : decode jdk_38_method_6_code 11 = .ok (.getfield 9, 3) := by decide +kernel
theorem d10_14 : decode jdk_38_method_6_code 14 = .ok (.getstatic 39, 3) := by decide +kernel
theorem d10_17 : decode jdk_38_method_6_code 17 = .ok (.if_acmp .eq 28, 3) := by decide +kernel
theorem d10_45 : decode jdk_38_method_6_code 45 = .ok (.aload_n 0, 1) := by decide +kernel
theorem d10_46 : decode jdk_38_method_6_code 46 = .ok (.bipush 10, 2) := by decide +kernel
theorem d10_48 : decode jdk_38_method_6_code 48 = .ok (.iload_n 1, 1) := by decide +kernel
theorem d10_49 : decode jdk_38_method_6_code 49 = .ok (.invokestatic 79, 3) := by decide +kernel
theorem d11_0 : decode jdk_29_method_65_code 0 = .ok (.iload_n 0, 1) := by decide +kernel
theorem d11_1 : decode jdk_29_method_65_code 1 = .ok (.iload_n 1, 1) := by decide +kernel
theorem d11_2 : decode jdk_29_method_65_code 2 = .ok (.if_icmp .lt 7, 3) := by decide +kernel
theorem d11_5 : decode jdk_29_method_65_code 5 = .ok (.iload_n 0, 1) := by decide +kernel
theorem d11_6 : decode jdk_29_method_65_code 6 = .ok (.goto 4, 3) := by decide +kernel
theorem d11_10 : decode jdk_29_method_65_code 10 = .ok (.ireturn, 1) := by decide +kernel
def Q11 (Z : State) (w_LOWEST : Addr) (w_HIGHEST : Addr) (w_EMPTY_ELEMENTDATA : Addr) (w_DEFAULTCAPACITY_EMPTY_ELEMENTDATA : Addr) (k_w_EMPTY_ELEMENTDATA : ClassId) (k_w_DEFAULTCAPACITY_EMPTY_ELEMENTDATA : ClassId)  (h0 : Heap) (n0 : Nat) (v : Option Value) (h : Heap) (L : List Loc) : Prop := v = some (.int (10 : Int32)) ∧ Fr n0 L ∧ h = h0
theorem ef11 (m : MethodId)  : entryFrame m #[(.int (10 : Int32)), (.int (1 : Int32))] 2 = mkF m 0 #[.val (.int (10 : Int32)), .val (.int (1 : Int32))] [] := by first | (simp [entryFrame, mkF, argsToLocals, Value.category]; done) | rfl
set_option maxRecDepth 65536 in
set_option maxHeartbeats 40000000 in
theorem rm11 (l : Launch) (Z : State) (a0 : Array Value) (hw : ∀ d ∈ tables_1, d.before a0 Z = true) (ws : List Jvm.Cond) {w_LOWEST : Addr} {w_HIGHEST : Addr} {w_EMPTY_ELEMENTDATA : Addr} {w_DEFAULTCAPACITY_EMPTY_ELEMENTDATA : Addr} {k_w_EMPTY_ELEMENTDATA : ClassId} {k_w_DEFAULTCAPACITY_EMPTY_ELEMENTDATA : ClassId} (G : Glob Z w_LOWEST w_HIGHEST w_EMPTY_ELEMENTDATA w_DEFAULTCAPACITY_EMPTY_ELEMENTDATA k_w_EMPTY_ELEMENTDATA k_w_DEFAULTCAPACITY_EMPTY_ELEMENTDATA)  (h0 : Heap) (n0 : Nat) (O0 : Old Z n0 h0) :
    MetFree l (⟨"java/lang/Math", "max", "(II)I"⟩ : MethodName) (head1 (Jvm.Cond.code (⟨"java/lang/Math", "max", "(II)I"⟩ : MethodName) jdk_29_method_65_code 2 (some .int) :: ws) ({ frames := 0, cells := 0, slots := 0, locals := 0 } : Room)) (fun a U => a = #[(.int (10 : Int32)), (.int (1 : Int32))] ∧ Z.Warmed39 U.vm ∧ U.heap = h0) (fun _ _ _ _ _ => True) (fun _ U o U' => ∃ v L, o = .returned v ∧ Q11 Z w_LOWEST w_HIGHEST w_EMPTY_ELEMENTDATA w_DEFAULTCAPACITY_EMPTY_ELEMENTDATA k_w_EMPTY_ELEMENTDATA k_w_DEFAULTCAPACITY_EMPTY_ELEMENTDATA  h0 n0 v U'.heap L ∧ FrameEnd U o U' L ({ frames := 0, cells := 0, slots := 0, locals := 0 } : Room).cells ({ frames := 0, cells := 0, slots := 0, locals := 0 } : Room).slots) := by
  refine MetFree.of_bodySF (Jvm.Free.JP.mathPlain rfl (by decide +kernel)) hisR ?_
  intro p e s m args below meth c s₁ Bd hml0 hP hK
  obtain ⟨rfl, hZ, hh⟩ := hP
  have hx := Bd.exec
  have hby := Bd.bytes
  have hml : c.maxLocals = 2 := hml0
  have hown : s.vm.findClass "java/lang/Math" = some m.cls := findClass_of_methodNamed Bd.named
  have hnm := (name_of_methodNamed Bd.named Bd.method).1
  have X0 : Stand p l e ({ frames := 0, cells := 0, slots := 0, locals := 0 } : Room) s m #[(.int (10 : Int32)), (.int (1 : Int32))] below meth c s₁ [] 0 0 := Stand.of_body Bd
  have e0 : s₁.heap = h0 := by rw [← hh, Bd.state]; rfl
  have N0 := Fr.nil n0
  show OGot p.tables e below (s₁.setTop (entryFrame m #[(.int (10 : Int32)), (.int (1 : Int32))] 2)) _
  refine OGot.go (fun t k => castTop (ef11 m ) k) ?_
  show OGot p.tables e below (s₁.setTop (mkF m 0 #[.val (.int (10 : Int32)), .val (.int (1 : Int32))] [])) _
  refine OGot.go (fun t k => XS.iloadN X0.here hx rfl (hb hby d11_0) rfl k) ?_
  refine OGot.go (fun t k => XS.iloadN X0.here hx rfl (hb hby d11_1) rfl k) ?_
  refine OGot.go (fun t k => XS.icmpNo X0.here hx rfl (hb hby d11_2) rfl (by decide) k) ?_
  refine OGot.go (fun t k => XS.iloadN X0.here hx rfl (hb hby d11_5) rfl k) ?_
  refine OGot.go (fun t k => XS.goto X0.here hx rfl (pc0 := 6) (pc' := 10) rfl (hb hby d11_6) (by decide) (by decide) k) ?_
  show OGot p.tables e below (s₁.setTop (mkF m 10 #[.val (.int (10 : Int32)), .val (.int (1 : Int32))] [(.int (10 : Int32))])) _
  obtain ⟨fs, hr, hrun, hended, hW, hsame⟩ := X0.leave (v := some (.int (10 : Int32))) (fun h => by rw [Bd.returns] at h; cases h)
  refine ⟨_, _, retI X0 hx Bd.returns (hb hby d11_10) hr, hrun, hended, _, _, rfl, ?_, ⟨_, rfl⟩, hW, hsame.mono (by decide) (by decide)⟩
  exact (⟨rfl, N0, e0⟩ : Q11 Z w_LOWEST w_HIGHEST w_EMPTY_ELEMENTDATA w_DEFAULTCAPACITY_EMPTY_ELEMENTDATA k_w_EMPTY_ELEMENTDATA k_w_DEFAULTCAPACITY_EMPTY_ELEMENTDATA  h0 n0 _ s₁.heap _)
theorem d10_52 : decode jdk_38_method_6_code 52 = .ok (.anewarray 7, 3) := by decide +kernel
theorem d10_55 : decode jdk_38_method_6_code 55 = .ok (.dup_x1, 1) := by decide +kernel
theorem d10_56 : decode jdk_38_method_6_code 56 = .ok (.putfield 9, 3) := by decide +kernel
theorem d10_59 : decode jdk_38_method_6_code 59 = .ok (.areturn, 1) := by decide +kernel
def Q10 (Z : State) (w_LOWEST : Addr) (w_HIGHEST : Addr) (w_EMPTY_ELEMENTDATA : Addr) (w_DEFAULTCAPACITY_EMPTY_ELEMENTDATA : Addr) (k_w_EMPTY_ELEMENTDATA : ClassId) (k_w_DEFAULTCAPACITY_EMPTY_ELEMENTDATA : ClassId) (a1 : Addr) (a2 : Addr) (k4 : ClassId) (h0 : Heap) (n0 : Nat) (v : Option Value) (h : Heap) (L : List Loc) : Prop := Fr n0 L ∧ ∃ b9 : Addr, ∃ k9 : ClassId, v = some (.ref b9) ∧ h0.size ≤ b9 ∧ OKeep h0 h [(a1, Jvm.RoadKit.slotOf Z "java/util/ArrayList" "elementData" "[Ljava/lang/Object;")] ∧ Fld Z h a1 "java/util/ArrayList" "elementData" "[Ljava/lang/Object;" (.ref b9) ∧ Exa Z h b9 "[Ljava/lang/Object;" ∧ Arv Z h b9 k9 (.object "java/lang/Object") (10 : Int32) [.null, .null, .null, .null, .null, .null, .null, .null, .null, .null] .null ∧ Ovr Z k9 "java/lang/Object"
theorem ef10 (m : MethodId) (x0 : Addr) : entryFrame m #[(.ref x0), (.int (1 : Int32))] 4 = mkF m 0 #[.val (.ref x0), .val (.int (1 : Int32)), .unset, .unset] [] := by first | (simp [entryFrame, mkF, argsToLocals, Value.category]; done) | rfl
set_option maxRecDepth 65536 in
set_option maxHeartbeats 40000000 in
theorem rm10 (l : Launch) (Z : State) (a0 : Array Value) (hw : ∀ d ∈ tables_1, d.before a0 Z = true) (ws : List Jvm.Cond) {w_LOWEST : Addr} {w_HIGHEST : Addr} {w_EMPTY_ELEMENTDATA : Addr} {w_DEFAULTCAPACITY_EMPTY_ELEMENTDATA : Addr} {k_w_EMPTY_ELEMENTDATA : ClassId} {k_w_DEFAULTCAPACITY_EMPTY_ELEMENTDATA : ClassId} (G : Glob Z w_LOWEST w_HIGHEST w_EMPTY_ELEMENTDATA w_DEFAULTCAPACITY_EMPTY_ELEMENTDATA k_w_EMPTY_ELEMENTDATA k_w_DEFAULTCAPACITY_EMPTY_ELEMENTDATA) (a1 : Addr) (a2 : Addr) (k4 : ClassId) (h0 : Heap) (n0 : Nat) (O0 : Old Z n0 h0) (F_elementData_a1 : Fld Z h0 a1 "java/util/ArrayList" "elementData" "[Ljava/lang/Object;" (.ref a2)) (V_a2 : Arv Z h0 a2 k4 (.object "java/lang/Object") (0 : Int32) [] .null) (E_a2 : Exa Z h0 a2 "[Ljava/lang/Object;") (hc_1 : a2 = w_DEFAULTCAPACITY_EMPTY_ELEMENTDATA) (E_a1 : Exa Z h0 a1 "java/util/ArrayList") (g_a1 : n0 ≤ a1) :
    MetFree l (⟨"java/util/ArrayList", "grow", "(I)[Ljava/lang/Object;"⟩ : MethodName) (head1 (Jvm.Cond.code (⟨"java/util/ArrayList", "grow", "(I)[Ljava/lang/Object;"⟩ : MethodName) jdk_38_method_6_code 4 (some (.array (.object "java/lang/Object"))) :: ws) ({ frames := 1, cells := 1, slots := 10, locals := 14 } : Room)) (fun a U => a = #[(.ref a1), (.int (1 : Int32))] ∧ Z.Warmed39 U.vm ∧ U.heap = h0) (fun _ _ _ _ _ => True) (fun _ U o U' => ∃ v L, o = .returned v ∧ Q10 Z w_LOWEST w_HIGHEST w_EMPTY_ELEMENTDATA w_DEFAULTCAPACITY_EMPTY_ELEMENTDATA k_w_EMPTY_ELEMENTDATA k_w_DEFAULTCAPACITY_EMPTY_ELEMENTDATA a1 a2 k4 h0 n0 v U'.heap L ∧ FrameEnd U o U' L ({ frames := 1, cells := 1, slots := 10, locals := 14 } : Room).cells ({ frames := 1, cells := 1, slots := 10, locals := 14 } : Room).slots) := by
  refine MetFree.of_bodySF (plainFor_of_name pn_java_util_ArrayList) hisR ?_
  intro p e s m args below meth c s₁ Bd hml0 hP hK
  obtain ⟨rfl, hZ, hh⟩ := hP
  have hx := Bd.exec
  have hby := Bd.bytes
  have hml : c.maxLocals = 4 := hml0
  have hown : s.vm.findClass "java/util/ArrayList" = some m.cls := findClass_of_methodNamed Bd.named
  have hnm := (name_of_methodNamed Bd.named Bd.method).1
  have X0 : Stand p l e ({ frames := 1, cells := 1, slots := 10, locals := 14 } : Room) s m #[(.ref a1), (.int (1 : Int32))] below meth c s₁ [] 0 0 := Stand.of_body Bd
  have e0 : s₁.heap = h0 := by rw [← hh, Bd.state]; rfl
  have N0 := Fr.nil n0
  show OGot p.tables e below (s₁.setTop (entryFrame m #[(.ref a1), (.int (1 : Int32))] 4)) _
  refine OGot.go (fun t k => castTop (ef10 m a1) k) ?_
  show OGot p.tables e below (s₁.setTop (mkF m 0 #[.val (.ref a1), .val (.int (1 : Int32)), .unset, .unset] [])) _
  refine OGot.go (fun t k => XS.aloadN X0.here hx rfl (hb hby d10_0) rfl rfl k) ?_
  obtain ⟨T3, X3, e3, st3⟩ := getF X0 hx hZ hown (host := "") (Or.inl (ow hw 28 rfl)) Via.refl e0 F_elementData_a1 (g := (mkF m 1 #[.val (.ref a1), .val (.int (1 : Int32)), .unset, .unset] [(.ref a1)])) rfl rfl (hb hby d10_1)
  refine OGot.go st3 ?_
  obtain ⟨cl5, Ar5, -, Sz5, Ng5, -, -⟩ := id (V_a2)
  refine OGot.go (fun t k => X3.arraylength hx (by rw [e3]; exact Ar5.1) (State.isArrayOf_alike hZ.alike Ar5.2.1) (g := (mkF m 4 #[.val (.ref a1), .val (.int (1 : Int32)), .unset, .unset] [(.ref a2)])) rfl rfl (hb hby d10_4) _ k) ?_
  rw [len_of Sz5 Ng5]
  refine OGot.go (fun t k => XS.istoreN X3.here hx rfl (hb hby d10_5) rfl (l' := #[.val (.ref a1), .val (.int (1 : Int32)), .val (.int (0 : Int32)), .unset]) rfl k) ?_
  refine OGot.go (fun t k => XS.iloadN X3.here hx rfl (hb hby d10_6) rfl k) ?_
  refine OGot.go (fun t k => XS.ifNo X3.here hx rfl (hb hby d10_7) rfl (by decide) k) ?_
  show OGot p.tables e below (T3.setTop (mkF m 10 #[.val (.ref a1), .val (.int (1 : Int32)), .val (.int (0 : Int32)), .unset] [])) _
  refine OGot.go (fun t k => XS.aloadN X3.here hx rfl (hb hby d10_10) rfl rfl k) ?_
  obtain ⟨T6, X6, e6, st6⟩ := getF X3 hx hZ hown (host := "") (Or.inl (ow hw 28 rfl)) Via.refl e3 F_elementData_a1 (g := (mkF m 11 #[.val (.ref a1), .val (.int (1 : Int32)), .val (.int (0 : Int32)), .unset] [(.ref a1)])) rfl rfl (hb hby d10_11)
  refine OGot.go st6 ?_
  obtain ⟨T7, X7, e7, st7⟩ := getS2 X6 hx hZ hown (host := "") (Or.inl (ow hw 27 rfl)) Via.refl e6 (G.2.2.2.2.2.2.1.ext O0.2) (g := (mkF m 14 #[.val (.ref a1), .val (.int (1 : Int32)), .val (.int (0 : Int32)), .unset] [(.ref a2)])) rfl (hb hby d10_14)
  refine OGot.go st7 ?_
  refine OGot.go (fun t k => Jvm.RoadKit.acmp (g := (mkF m 17 #[.val (.ref a1), .val (.int (1 : Int32)), .val (.int (0 : Int32)), .unset] [(.ref w_DEFAULTCAPACITY_EMPTY_ELEMENTDATA), (.ref a2)])) X7 hx rfl rfl rfl (pc0 := 17) (pc' := 45) (same := true) rfl (hb hby d10_17) rfl (decide_eq_true (congrArg Value.ref hc_1)) (by decide) (by decide) k) ?_
  refine OGot.go (fun t k => XS.aloadN X7.here hx rfl (hb hby d10_45) rfl rfl k) ?_
  refine OGot.go (fun t k => XS.bipush X7.here hx rfl (hb hby d10_46) k) ?_
  show OGot p.tables e below (T7.setTop (mkF m 48 #[.val (.ref a1), .val (.int (1 : Int32)), .val (.int (0 : Int32)), .unset] [(.int (10 : Int32)), (.ref a1)])) _
  refine OGot.go (fun t k => XS.iloadN X7.here hx rfl (hb hby d10_48) rfl k) ?_
  obtain ⟨_, _, ⟨T8, L8, k8, n8⟩, -, X8, ⟨Lc8, hQ8, l8, y8, z8⟩, st8⟩ := Jvm.LawKit.callS X7 hx (y := (⟨"java/lang/Math", "max", "(II)I"⟩ : MethodName)) hown (mvT hZ (ow hw 74 rfl)) (mvT hZ (ow hw 75 rfl)) (mvT hZ (ow hw 76 rfl)) (mvT hZ (ow hw 77 rfl)) (by decide) (backOf (W := 1) (rm11 l Z a0 hw [] G  h0 n0 O0 ) hZ (ow hw 77 rfl) (ow hw 76 rfl) (by decide) (by decide)) (g := (mkF m 49 #[.val (.ref a1), .val (.int (1 : Int32)), .val (.int (0 : Int32)), .unset] [(.int (1 : Int32)), (.int (10 : Int32)), (.ref a1)])) rfl (by rw [hml]; rfl) (argsL := [(.int (10 : Int32)), (.int (1 : Int32))]) (rest := [(.ref a1)]) (lenOf pd_1 rfl) rfl (by show 2 * 0 + _ ≤ _; exact Nat.le_of_eq rfl) (hb hby d10_49) (fun _ _ => ⟨rfl, e7, (by decide : 0 + 0 ≤ _), (by decide : 0 + 0 ≤ _)⟩)
  dsimp only [Pt.U, Pt.locs, Pt.cells, Pt.slots] at X8 l8 y8 z8 st8 hQ8
  subst l8 y8 z8
  obtain ⟨rfl, N8q, e8⟩ := hQ8
  have N8 := Fr.app N0 N8q
  refine OGot.go st8 ?_
  obtain ⟨T9, h9, k9, X9, e9, E9, A9, Ea9, V9, st9⟩ := newRE X8 hx hZ hown (ow hw 78 rfl) (ow hw 79 rfl) e8 (g := (mkF m 52 #[.val (.ref a1), .val (.int (1 : Int32)), .val (.int (0 : Int32)), .unset] [(.int (10 : Int32)), (.ref a1)])) rfl (hb hby d10_52) rfl (by decide) (cap := 10) (by decide) (by decide) (by decide) (by decide) (ad := "[Ljava/lang/Object;") (by decide)
  obtain ⟨b9, g9⟩ : ∃ z, z = h0.size := ⟨_, rfl⟩
  rw [← g9] at A9 Ea9 st9
  refine OGot.go st9 ?_
  have g_b9 : n0 ≤ b9 := Nat.le_trans (osz O0) (Nat.le_of_eq g9.symm)
  have sy_b9 : h0.size ≤ b9 := Nat.le_of_eq g9.symm
  have sz_b9 : h0.size ≤ b9 := Nat.le_trans (OKeep.refl h0 [(a1, Jvm.RoadKit.slotOf Z "java/util/ArrayList" "elementData" "[Ljava/lang/Object;")]).1 sy_b9
  have K9 := (OKeep.refl h0 [(a1, Jvm.RoadKit.slotOf Z "java/util/ArrayList" "elementData" "[Ljava/lang/Object;")]).ext E9
  have O9 := O0.ext E9
  have Va9 : Arv Z h9 b9 k9 (.object "java/lang/Object") (10 : Int32) [.null, .null, .null, .null, .null, .null, .null, .null, .null, .null] .null := (Arv.new A9 (by decide)).pad (pad_rep [] .null 10)
  refine OGot.go (fun t k => XS.dupX1 X9.here hx rfl (hb hby d10_55) rfl rfl rfl k) ?_
  have F10 : Fld Z h9 a1 "java/util/ArrayList" "elementData" "[Ljava/lang/Object;" (.ref a2) := (F_elementData_a1.ext E9)
  obtain ⟨T11, h11, X11, e11, W11, st11⟩ := putF X9 hx hZ hown (host := "") (Or.inl (ow hw 28 rfl)) Via.refl e9 F10 (E_a1.ext E9) (Or.inl (ow hw 29 rfl)) (ow hw 5 rfl) (ty := (.array (.object "java/lang/Object"))) (by decide) rfl rfl (g := (mkF m 56 #[.val (.ref a1), .val (.int (1 : Int32)), .val (.int (0 : Int32)), .unset] [(.ref b9), (.ref a1), (.ref b9)])) rfl rfl (hb hby d10_56)
  refine OGot.go st11 ?_
  have N11 := Fr.snoc X11 N8 g_a1
  have O11 := O9.wr W11 g_a1
  have K11 := K9.wr W11 (Or.inl (List.mem_of_getElem? (i := 0) rfl))
  have Fw11 : Fld Z h11 a1 "java/util/ArrayList" "elementData" "[Ljava/lang/Object;" (.ref b9) := F10.same W11
  show OGot p.tables e below (T11.setTop (mkF m 59 #[.val (.ref a1), .val (.int (1 : Int32)), .val (.int (0 : Int32)), .unset] [(.ref b9)])) _
  obtain ⟨fs, hr, hrun, hended, hW, hsame⟩ := X11.leave (v := some (.ref b9)) (fun h => by rw [Bd.returns] at h; cases h)
  refine ⟨_, _, oretA X11 hx Bd.returns rfl rfl (hb hby d10_59) hr, hrun, hended, _, _, rfl, ?_, ⟨_, rfl⟩, hW, hsame.mono (by decide) (by decide)⟩
  have ne12 : a1 ≠ b9 := (Nat.ne_of_lt (Nat.lt_of_lt_of_le E_a1.lt sy_b9))
  have F13 : Arv Z h11 b9 k9 (.object "java/lang/Object") (10 : Int32) [.null, .null, .null, .null, .null, .null, .null, .null, .null, .null] .null := (Va9.other W11 (Ne.symm ne12))
  show Q10 Z w_LOWEST w_HIGHEST w_EMPTY_ELEMENTDATA w_DEFAULTCAPACITY_EMPTY_ELEMENTDATA k_w_EMPTY_ELEMENTDATA k_w_DEFAULTCAPACITY_EMPTY_ELEMENTDATA a1 a2 k4 h0 n0 _ T11.heap _
  rw [e11]
  exact ⟨N11, b9, k9, rfl, sz_b9, K11, Fw11, (Ea9.wr W11), F13, V9⟩
theorem pd_10 : parseMethodDescriptor "(I)[Ljava/lang/Object;" = some ⟨[.int], some (.array (.object "java/lang/Object"))⟩ := by decide +kernel
theorem d9_10 : decode jdk_38_method_7_code 10 = .ok (.areturn, 1) := by decide +kernel
def Q9 (Z : State) (w_LOWEST : Addr) (w_HIGHEST : Addr) (w_EMPTY_ELEMENTDATA : Addr) (w_DEFAULTCAPACITY_EMPTY_ELEMENTDATA : Addr) (k_w_EMPTY_ELEMENTDATA : ClassId) (k_w_DEFAULTCAPACITY_EMPTY_ELEMENTDATA : ClassId) (a1 : Addr) (a3 : Addr) (k4 : ClassId) (h0 : Heap) (n0 : Nat) (v : Option Value) (h : Heap) (L : List Loc) : Prop := Fr n0 L ∧ ∃ b9_5 : Addr, ∃ k9_5 : ClassId, v = some (.ref b9_5) ∧ h0.size ≤ b9_5 ∧ OKeep h0 h [(a1, Jvm.RoadKit.slotOf Z "java/util/ArrayList" "elementData" "[Ljava/lang/Object;")] ∧ Fld Z h a1 "java/util/ArrayList" "elementData" "[Ljava/lang/Object;" (.ref b9_5) ∧ Exa Z h b9_5 "[Ljava/lang/Object;" ∧ Arv Z h b9_5 k9_5 (.object "java/lang/Object") (10 : Int32) [.null, .null, .null, .null, .null, .null, .null, .null, .null, .null] .null ∧ Ovr Z k9_5 "java/lang/Object"
theorem ef9 (m : MethodId) (x0 : Addr) : entryFrame m #[(.ref x0)] 1 = mkF m 0 #[.val (.ref x0)] [] := by first | (simp [entryFrame, mkF, argsToLocals, Value.category]; done) | rfl
set_option maxRecDepth 65536 in
set_option maxHeartbeats 40000000 in
theorem rm9 (l : Launch) (Z : State) (a0 : Array Value) (hw : ∀ d ∈ tables_1, d.before a0 Z = true) (ws : List Jvm.Cond) {w_LOWEST : Addr} {w_HIGHEST : Addr} {w_EMPTY_ELEMENTDATA : Addr} {w_DEFAULTCAPACITY_EMPTY_ELEMENTDATA : Addr} {k_w_EMPTY_ELEMENTDATA : ClassId} {k_w_DEFAULTCAPACITY_EMPTY_ELEMENTDATA : ClassId} (G : Glob Z w_LOWEST w_HIGHEST w_EMPTY_ELEMENTDATA w_DEFAULTCAPACITY_EMPTY_ELEMENTDATA k_w_EMPTY_ELEMENTDATA k_w_DEFAULTCAPACITY_EMPTY_ELEMENTDATA) (a1 : Addr) (a3 : Addr) (k4 : ClassId) (h0 : Heap) (n0 : Nat) (O0 : Old Z n0 h0) (F_size_a1 : Fld Z h0 a1 "java/util/ArrayList" "size" "I" (.int (0 : Int32))) (E_a1 : Exa Z h0 a1 "java/util/ArrayList") (F_elementData_a1 : Fld Z h0 a1 "java/util/ArrayList" "elementData" "[Ljava/lang/Object;" (.ref a3)) (V_a3 : Arv Z h0 a3 k4 (.object "java/lang/Object") (0 : Int32) [] .null) (E_a3 : Exa Z h0 a3 "[Ljava/lang/Object;") (hc_1 : a3 = w_DEFAULTCAPACITY_EMPTY_ELEMENTDATA) (g_a1 : n0 ≤ a1) :
    MetFree l (⟨"java/util/ArrayList", "grow", "()[Ljava/lang/Object;"⟩ : MethodName) (head1 (Jvm.Cond.code (⟨"java/util/ArrayList", "grow", "()[Ljava/lang/Object;"⟩ : MethodName) jdk_38_method_7_code 1 (some (.array (.object "java/lang/Object"))) :: ws) ({ frames := 2, cells := 1, slots := 10, locals := 29 } : Room)) (fun a U => a = #[(.ref a1)] ∧ Z.Warmed39 U.vm ∧ U.heap = h0) (fun _ _ _ _ _ => True) (fun _ U o U' => ∃ v L, o = .returned v ∧ Q9 Z w_LOWEST w_HIGHEST w_EMPTY_ELEMENTDATA w_DEFAULTCAPACITY_EMPTY_ELEMENTDATA k_w_EMPTY_ELEMENTDATA k_w_DEFAULTCAPACITY_EMPTY_ELEMENTDATA a1 a3 k4 h0 n0 v U'.heap L ∧ FrameEnd U o U' L ({ frames := 2, cells := 1, slots := 10, locals := 29 } : Room).cells ({ frames := 2, cells := 1, slots := 10, locals := 29 } : Room).slots) := by
  refine MetFree.of_bodySF (plainFor_of_name pn_java_util_ArrayList) hisR ?_
  intro p e s m args below meth c s₁ Bd hml0 hP hK
  obtain ⟨rfl, hZ, hh⟩ := hP
  have hx := Bd.exec
  have hby := Bd.bytes
  have hml : c.maxLocals = 1 := hml0
  have hown : s.vm.findClass "java/util/ArrayList" = some m.cls := findClass_of_methodNamed Bd.named
  have hnm := (name_of_methodNamed Bd.named Bd.method).1
  have X0 : Stand p l e ({ frames := 2, cells := 1, slots := 10, locals := 29 } : Room) s m #[(.ref a1)] below meth c s₁ [] 0 0 := Stand.of_body Bd
  have e0 : s₁.heap = h0 := by rw [← hh, Bd.state]; rfl
  have N0 := Fr.nil n0
  show OGot p.tables e below (s₁.setTop (entryFrame m #[(.ref a1)] 1)) _
  refine OGot.go (fun t k => castTop (ef9 m a1) k) ?_
  show OGot p.tables e below (s₁.setTop (mkF m 0 #[.val (.ref a1)] [])) _
  refine OGot.go (fun t k => XS.aloadN X0.here hx rfl (hb hby d9_0) rfl rfl k) ?_
  refine OGot.go (fun t k => XS.aloadN X0.here hx rfl (hb hby d9_1) rfl rfl k) ?_
  obtain ⟨T2, X2, e2, st2⟩ := getF X0 hx hZ hown (host := "") (Or.inl (ow hw 57 rfl)) Via.refl e0 F_size_a1 (g := (mkF m 2 #[.val (.ref a1)] [(.ref a1), (.ref a1)])) rfl rfl (hb hby d9_2)
  refine OGot.go st2 ?_
  refine OGot.go (fun t k => XS.iconst X2.here hx rfl (hb hby d9_5) k) ?_
  refine OGot.go (fun t k => XS.iadd X2.here hx rfl (hb hby d9_6) rfl k) ?_
  show OGot p.tables e below (T2.setTop (mkF m 7 #[.val (.ref a1)] [(.int ((0 : Int32) + (1 : Int32))), (.ref a1)])) _
  rw [show ((0 : Int32) + (1 : Int32)) = (1 : Int32) from by decide]
  obtain ⟨cq5, q5, q5'⟩ := E_a1.cell
  obtain ⟨_, _, ⟨T5, L5, k5, n5⟩, -, X5, ⟨Lc5, hQ5, l5, y5, z5⟩, st5⟩ := X2.privateBack hx (y := (⟨"java/util/ArrayList", "grow", "(I)[Ljava/lang/Object;"⟩ : MethodName)) hown (mvT hZ (ow hw 69 rfl)) (mvT hZ (ow hw 70 rfl)) (mvT hZ (ow hw 72 rfl)) (Cond.privateMethod_at (mvP hZ (ow hw 71 rfl) (args := #[]))) (mvT hZ (ow hw 73 rfl)) (by decide) (backOf (W := 0) (rm10 l Z a0 hw [] G a1 a3 k4 h0 n0 O0 F_elementData_a1 V_a3 E_a3 hc_1 E_a1 g_a1) hZ (ow hw 73 rfl) (ow hw 6 rfl) (by decide) (by decide)) (g := (mkF m 7 #[.val (.ref a1)] [(.int (1 : Int32)), (.ref a1)])) rfl (by rw [hml]; rfl) (Steps.refl _) (a := a1) (by rw [e2]; exact q5) q5' (argsL := [(.int (1 : Int32))]) (rest := []) (lenOf pd_10 rfl) rfl (by show 2 * 0 + _ ≤ _; exact Nat.le_of_eq rfl) (hb hby d9_7) (fun _ _ => ⟨rfl, e2, (by decide : 0 + 1 ≤ _), (by decide : 0 + 10 ≤ _)⟩)
  dsimp only [Pt.U, Pt.locs, Pt.cells, Pt.slots] at X5 l5 y5 z5 st5 hQ5
  subst l5 y5 z5
  obtain ⟨N5q, b9_5, k9_5, rfl, szb9_5_5, K5, Fo5_0, Fo5_1, Fo5_2, Fo5_3⟩ := hQ5
  have g_b9_5 : n0 ≤ b9_5 := Nat.le_trans (osz O0) szb9_5_5
  have sz_b9_5 : h0.size ≤ b9_5 := Nat.le_trans (OKeep.refl h0 [(a1, Jvm.RoadKit.slotOf Z "java/util/ArrayList" "elementData" "[Ljava/lang/Object;")]).1 szb9_5_5
  have Kc5 := (OKeep.refl h0 [(a1, Jvm.RoadKit.slotOf Z "java/util/ArrayList" "elementData" "[Ljava/lang/Object;")]).trans K5 (oinS (Or.inl (List.mem_of_getElem? (i := 0) rfl)) oin0)
  have O5 := OKeep.old O0 K5 (ogeS g_a1 oge0)
  have N5 := Fr.app N0 N5q
  refine OGot.on st5 ?_
  show OGot p.tables e below (T5.setTop (mkF m 10 #[.val (.ref a1)] [(.ref b9_5)])) _
  obtain ⟨fs, hr, hrun, hended, hW, hsame⟩ := X5.leave (v := some (.ref b9_5)) (fun h => by rw [Bd.returns] at h; cases h)
  refine ⟨_, _, oretA X5 hx Bd.returns rfl rfl (hb hby d9_10) hr, hrun, hended, _, _, rfl, ?_, ⟨_, rfl⟩, hW, hsame.mono (by decide) (by decide)⟩
  show Q9 Z w_LOWEST w_HIGHEST w_EMPTY_ELEMENTDATA w_DEFAULTCAPACITY_EMPTY_ELEMENTDATA k_w_EMPTY_ELEMENTDATA k_w_DEFAULTCAPACITY_EMPTY_ELEMENTDATA a1 a3 k4 h0 n0 _ T5.heap _
  exact ⟨N5, b9_5, k9_5, rfl, sz_b9_5, Kc5, Fo5_0, Fo5_1, Fo5_2, Fo5_3⟩
theorem pd_11 : parseMethodDescriptor "()[Ljava/lang/Object;" = some ⟨[], some (.array (.object "java/lang/Object"))⟩ := by decide +kernel
theorem d8_10 : decode jdk_38_method_24_code 10 = .ok (.astore_n 2, 1) := by decide +kernel
theorem d8_11 : decode jdk_38_method_24_code 11 = .ok (.aload_n 2, 1) := by decide +kernel
theorem d8_12 : decode jdk_38_method_24_code 12 = .ok (.iload_n 3, 1) := by decide +kernel
theorem d8_13 : decode jdk_38_method_24_code 13 = .ok (.aload_n 1, 1) := by decide +kernel
theorem d8_14 : decode jdk_38_method_24_code 14 = .ok (.aastore, 1) := by decide +kernel
theorem d8_15 : decode jdk_38_method_24_code 15 = .ok (.aload_n 0, 1) := by decide +kernel
theorem d8_16 : decode jdk_38_method_24_code 16 = .ok (.iload_n 3, 1) := by decide +kernel
theorem d8_17 : decode jdk_38_method_24_code 17 = .ok (.iconst 1, 1) := by decide +kernel
theorem d8_18 : decode jdk_38_method_24_code 18 = .ok (.iadd, 1) := by decide +kernel
theorem d8_19 : decode jdk_38_method_24_code 19 = .ok (.putfield 48, 3) := by decide +kernel
theorem d8_22 : decode jdk_38_method_24_code 22 = .ok (.return_, 1) := by decide +kernel
def Q8 (Z : State) (w_LOWEST : Addr) (w_HIGHEST : Addr) (w_EMPTY_ELEMENTDATA : Addr) (w_DEFAULTCAPACITY_EMPTY_ELEMENTDATA : Addr) (k_w_EMPTY_ELEMENTDATA : ClassId) (k_w_DEFAULTCAPACITY_EMPTY_ELEMENTDATA : ClassId) (a1 : Addr) (a2 : Addr) (a3 : Addr) (k4 : ClassId) (h0 : Heap) (n0 : Nat) (v : Option Value) (h : Heap) (L : List Loc) : Prop := Fr n0 L ∧ ∃ b9_5_6 : Addr, ∃ k9_5_6 : ClassId, v = none ∧ h0.size ≤ b9_5_6 ∧ OKeep h0 h [(a1, Jvm.RoadKit.slotOf Z "java/util/ArrayList" "elementData" "[Ljava/lang/Object;"), (a1, Jvm.RoadKit.slotOf Z "java/util/ArrayList" "size" "I")] ∧ Fld Z h a1 "java/util/ArrayList" "elementData" "[Ljava/lang/Object;" (.ref b9_5_6) ∧ Fld Z h a1 "java/util/ArrayList" "size" "I" (.int (1 : Int32)) ∧ Exa Z h b9_5_6 "[Ljava/lang/Object;" ∧ Arv Z h b9_5_6 k9_5_6 (.object "java/lang/Object") (10 : Int32) [(.ref a2), .null, .null, .null, .null, .null, .null, .null, .null, .null] .null ∧ Ovr Z k9_5_6 "java/lang/Object"
theorem ef8 (m : MethodId) (x0 : Addr) (x1 : Addr) (x2 : Addr) : entryFrame m #[(.ref x0), (.ref x1), (.ref x2), (.int (0 : Int32))] 4 = mkF m 0 #[.val (.ref x0), .val (.ref x1), .val (.ref x2), .val (.int (0 : Int32))] [] := by first | (simp [entryFrame, mkF, argsToLocals, Value.category]; done) | rfl
set_option maxRecDepth 65536 in
set_option maxHeartbeats 40000000 in
theorem rm8 (l : Launch) (Z : State) (a0 : Array Value) (hw : ∀ d ∈ tables_1, d.before a0 Z = true) (ws : List Jvm.Cond) {w_LOWEST : Addr} {w_HIGHEST : Addr} {w_EMPTY_ELEMENTDATA : Addr} {w_DEFAULTCAPACITY_EMPTY_ELEMENTDATA : Addr} {k_w_EMPTY_ELEMENTDATA : ClassId} {k_w_DEFAULTCAPACITY_EMPTY_ELEMENTDATA : ClassId} (G : Glob Z w_LOWEST w_HIGHEST w_EMPTY_ELEMENTDATA w_DEFAULTCAPACITY_EMPTY_ELEMENTDATA k_w_EMPTY_ELEMENTDATA k_w_DEFAULTCAPACITY_EMPTY_ELEMENTDATA) (a1 : Addr) (a2 : Addr) (a3 : Addr) (k4 : ClassId) (h0 : Heap) (n0 : Nat) (O0 : Old Z n0 h0) (V_a3 : Arv Z h0 a3 k4 (.object "java/lang/Object") (0 : Int32) [] .null) (E_a1 : Exa Z h0 a1 "java/util/ArrayList") (F_size_a1 : Fld Z h0 a1 "java/util/ArrayList" "size" "I" (.int (0 : Int32))) (F_elementData_a1 : Fld Z h0 a1 "java/util/ArrayList" "elementData" "[Ljava/lang/Object;" (.ref a3)) (E_a3 : Exa Z h0 a3 "[Ljava/lang/Object;") (hc_1 : a3 = w_DEFAULTCAPACITY_EMPTY_ELEMENTDATA) (g_a1 : n0 ≤ a1) (E_a2 : Exa Z h0 a2 "com/example/restrained_scaler/restrainedscaler/decision/Decider$Demand") :
    MetFree l (⟨"java/util/ArrayList", "add", "(Ljava/lang/Object;[Ljava/lang/Object;I)V"⟩ : MethodName) (head1 (Jvm.Cond.code (⟨"java/util/ArrayList", "add", "(Ljava/lang/Object;[Ljava/lang/Object;I)V"⟩ : MethodName) jdk_38_method_24_code 4 none :: ws) ({ frames := 3, cells := 1, slots := 10, locals := 41 } : Room)) (fun a U => a = #[(.ref a1), (.ref a2), (.ref a3), (.int (0 : Int32))] ∧ Z.Warmed39 U.vm ∧ U.heap = h0) (fun _ _ _ _ _ => True) (fun _ U o U' => ∃ v L, o = .returned v ∧ Q8 Z w_LOWEST w_HIGHEST w_EMPTY_ELEMENTDATA w_DEFAULTCAPACITY_EMPTY_ELEMENTDATA k_w_EMPTY_ELEMENTDATA k_w_DEFAULTCAPACITY_EMPTY_ELEMENTDATA a1 a2 a3 k4 h0 n0 v U'.heap L ∧ FrameEnd U o U' L ({ frames := 3, cells := 1, slots := 10, locals := 41 } : Room).cells ({ frames := 3, cells := 1, slots := 10, locals := 41 } : Room).slots) := by
  refine MetFree.of_bodySF (plainFor_of_name pn_java_util_ArrayList) hisR ?_
  intro p e s m args below meth c s₁ Bd hml0 hP hK
  obtain ⟨rfl, hZ, hh⟩ := hP
  have hx := Bd.exec
  have hby := Bd.bytes
  have hml : c.maxLocals = 4 := hml0
  have hown : s.vm.findClass "java/util/ArrayList" = some m.cls := findClass_of_methodNamed Bd.named
  have hnm := (name_of_methodNamed Bd.named Bd.method).1
  have X0 : Stand p l e ({ frames := 3, cells := 1, slots := 10, locals := 41 } : Room) s m #[(.ref a1), (.ref a2), (.ref a3), (.int (0 : Int32))] below meth c s₁ [] 0 0 := Stand.of_body Bd
  have e0 : s₁.heap = h0 := by rw [← hh, Bd.state]; rfl
  have N0 := Fr.nil n0
  show OGot p.tables e below (s₁.setTop (entryFrame m #[(.ref a1), (.ref a2), (.ref a3), (.int (0 : Int32))] 4)) _
  refine OGot.go (fun t k => castTop (ef8 m a1 a2 a3) k) ?_
  show OGot p.tables e below (s₁.setTop (mkF m 0 #[.val (.ref a1), .val (.ref a2), .val (.ref a3), .val (.int (0 : Int32))] [])) _
  refine OGot.go (fun t k => XS.iloadN X0.here hx rfl (hb hby d8_0) rfl k) ?_
  refine OGot.go (fun t k => XS.aloadN X0.here hx rfl (hb hby d8_1) rfl rfl k) ?_
  obtain ⟨cl5, Ar5, -, Sz5, Ng5, -, -⟩ := id (V_a3)
  refine OGot.go (fun t k => X0.arraylength hx (by rw [e0]; exact Ar5.1) (State.isArrayOf_alike hZ.alike Ar5.2.1) (g := (mkF m 2 #[.val (.ref a1), .val (.ref a2), .val (.ref a3), .val (.int (0 : Int32))] [(.ref a3), (.int (0 : Int32))])) rfl rfl (hb hby d8_2) _ k) ?_
  rw [len_of Sz5 Ng5]
  refine OGot.go (fun t k => XS.icmpNo X0.here hx rfl (hb hby d8_3) rfl (by decide) k) ?_
  refine OGot.go (fun t k => XS.aloadN X0.here hx rfl (hb hby d8_6) rfl rfl k) ?_
  obtain ⟨cq6, q6, q6'⟩ := E_a1.cell
  obtain ⟨_, _, ⟨T6, L6, k6, n6⟩, -, X6, ⟨Lc6, hQ6, l6, y6, z6⟩, st6⟩ := X0.privateBack hx (y := (⟨"java/util/ArrayList", "grow", "()[Ljava/lang/Object;"⟩ : MethodName)) hown (mvT hZ (ow hw 64 rfl)) (mvT hZ (ow hw 65 rfl)) (mvT hZ (ow hw 67 rfl)) (Cond.privateMethod_at (mvP hZ (ow hw 66 rfl) (args := #[]))) (mvT hZ (ow hw 68 rfl)) (by decide) (backOf (W := 0) (rm9 l Z a0 hw [] G a1 a3 k4 h0 n0 O0 F_size_a1 E_a1 F_elementData_a1 V_a3 E_a3 hc_1 g_a1) hZ (ow hw 68 rfl) (ow hw 6 rfl) (by decide) (by decide)) (g := (mkF m 7 #[.val (.ref a1), .val (.ref a2), .val (.ref a3), .val (.int (0 : Int32))] [(.ref a1)])) rfl (by rw [hml]; rfl) (Steps.refl _) (a := a1) (by rw [e0]; exact q6) q6' (argsL := []) (rest := []) (lenOf pd_11 rfl) rfl (by show 2 * 0 + _ ≤ _; exact Nat.le_of_eq rfl) (hb hby d8_7) (fun _ _ => ⟨rfl, e0, (by decide : 0 + 1 ≤ _), (by decide : 0 + 10 ≤ _)⟩)
  dsimp only [Pt.U, Pt.locs, Pt.cells, Pt.slots] at X6 l6 y6 z6 st6 hQ6
  subst l6 y6 z6
  obtain ⟨N6q, b9_5_6, k9_5_6, rfl, szb9_5_6_6, K6, Fo6_0, Fo6_1, Fo6_2, Fo6_3⟩ := hQ6
  have g_b9_5_6 : n0 ≤ b9_5_6 := Nat.le_trans (osz O0) szb9_5_6_6
  have sz_b9_5_6 : h0.size ≤ b9_5_6 := Nat.le_trans (OKeep.refl h0 [(a1, Jvm.RoadKit.slotOf Z "java/util/ArrayList" "elementData" "[Ljava/lang/Object;"), (a1, Jvm.RoadKit.slotOf Z "java/util/ArrayList" "size" "I")]).1 szb9_5_6_6
  have Kc6 := (OKeep.refl h0 [(a1, Jvm.RoadKit.slotOf Z "java/util/ArrayList" "elementData" "[Ljava/lang/Object;"), (a1, Jvm.RoadKit.slotOf Z "java/util/ArrayList" "size" "I")]).trans K6 (oinS (Or.inl (List.mem_of_getElem? (i := 0) rfl)) oin0)
  have O6 := OKeep.old O0 K6 (ogeS g_a1 oge0)
  have N6 := Fr.app N0 N6q
  refine OGot.on st6 ?_
  show OGot p.tables e below (T6.setTop (mkF m 10 #[.val (.ref a1), .val (.ref a2), .val (.ref a3), .val (.int (0 : Int32))] [(.ref b9_5_6)])) _
  refine OGot.go (fun t k => XS.astoreN X6.here hx rfl (hb hby d8_10) rfl rfl (l' := #[.val (.ref a1), .val (.ref a2), .val (.ref b9_5_6), .val (.int (0 : Int32))]) rfl k) ?_
  refine OGot.go (fun t k => XS.aloadN X6.here hx rfl (hb hby d8_11) rfl rfl k) ?_
  refine OGot.go (fun t k => XS.iloadN X6.here hx rfl (hb hby d8_12) rfl k) ?_
  refine OGot.go (fun t k => XS.aloadN X6.here hx rfl (hb hby d8_13) rfl rfl k) ?_
  obtain ⟨cl7, Ar7, qc7, Sz7, Ng7, Hh7, Gg7⟩ := id (Fo6_2)
  have hin7 : ¬ ((0 : Int32) < 0 ∨ cl7.slots.size ≤ ((0 : Int32)).toNatClampNeg) := inb_of Sz7 ⟨by decide, by decide⟩
  obtain ⟨T7, h7, X7, e7, W7, st7⟩ := stR X6 hx hZ rfl Ar7 (j := (0 : Int32)) hin7 rfl (Sto.ofV Ar7 qc7 Fo6_3 (Ins.of_exa (OKeep.exa E_a2 K6) (ow hw 80 rfl))) (g := (mkF m 14 #[.val (.ref a1), .val (.ref a2), .val (.ref b9_5_6), .val (.int (0 : Int32))] [(.ref a2), (.int (0 : Int32)), (.ref b9_5_6)])) rfl rfl (hb hby d8_14)
  refine OGot.go st7 ?_
  have N7 := Fr.snoc X7 N6 g_b9_5_6
  have O7 := O6.wr W7 g_b9_5_6
  have K7 := Kc6.wr W7 (Or.inr sz_b9_5_6)
  have Va7 : Arv Z h7 b9_5_6 k9_5_6 (.object "java/lang/Object") (10 : Int32) [(.ref a2), .null, .null, .null, .null, .null, .null, .null, .null, .null] .null := Arv.set Ar7 qc7 Sz7 Ng7 Hh7 Gg7 rfl W7 0 rfl (Nat.le_of_ble_eq_true rfl)
  refine OGot.go (fun t k => XS.aloadN X7.here hx rfl (hb hby d8_15) rfl rfl k) ?_
  show OGot p.tables e below (T7.setTop (mkF m 16 #[.val (.ref a1), .val (.ref a2), .val (.ref b9_5_6), .val (.int (0 : Int32))] [(.ref a1)])) _
  refine OGot.go (fun t k => XS.iloadN X7.here hx rfl (hb hby d8_16) rfl k) ?_
  refine OGot.go (fun t k => XS.iconst X7.here hx rfl (hb hby d8_17) k) ?_
  refine OGot.go (fun t k => XS.iadd X7.here hx rfl (hb hby d8_18) rfl k) ?_
  show OGot p.tables e below (T7.setTop (mkF m 19 #[.val (.ref a1), .val (.ref a2), .val (.ref b9_5_6), .val (.int (0 : Int32))] [(.int ((0 : Int32) + (1 : Int32))), (.ref a1)])) _
  rw [show ((0 : Int32) + (1 : Int32)) = (1 : Int32) from by decide]
  have ne8 : a1 ≠ b9_5_6 := (Nat.ne_of_lt (Nat.lt_of_lt_of_le F_size_a1.lt szb9_5_6_6))
  have F9 : Fld Z h7 a1 "java/util/ArrayList" "size" "I" (.int (0 : Int32)) := ((OKeep.fld F_size_a1 K6 (oninS (slot_ne (Or.inl (ow hw 58 rfl)) (Or.inl (ow hw 29 rfl)) (by decide) (t := .int) (t' := (.array (.object "java/lang/Object"))) (by decide) (by decide)) onin0)).other W7 (Or.inl ne8))
  obtain ⟨T10, h10, X10, e10, W10, st10⟩ := putF X7 hx hZ hown (host := "") (Or.inl (ow hw 57 rfl)) Via.refl e7 F9 ((OKeep.exa E_a1 K6).wr W7) (Or.inl (ow hw 58 rfl)) (ow hw 5 rfl) (ty := .int) (by decide) rfl rfl (g := (mkF m 19 #[.val (.ref a1), .val (.ref a2), .val (.ref b9_5_6), .val (.int (0 : Int32))] [(.int (1 : Int32)), (.ref a1)])) rfl rfl (hb hby d8_19)
  refine OGot.go st10 ?_
  have N10 := Fr.snoc X10 N7 g_a1
  have O10 := O7.wr W10 g_a1
  have K10 := K7.wr W10 (Or.inl (List.mem_of_getElem? (i := 1) rfl))
  have Fw10 : Fld Z h10 a1 "java/util/ArrayList" "size" "I" (.int (1 : Int32)) := F9.same W10
  show OGot p.tables e below (T10.setTop (mkF m 22 #[.val (.ref a1), .val (.ref a2), .val (.ref b9_5_6), .val (.int (0 : Int32))] [])) _
  obtain ⟨fs, hr, hrun, hended, hW, hsame⟩ := X10.leave (v := none) (fun _ => rfl)
  refine ⟨_, _, X10.returnOut hx Bd.returns (hb hby d8_22) hr, hrun, hended, _, _, rfl, ?_, ⟨_, rfl⟩, hW, hsame.mono (by decide) (by decide)⟩
  have F11 : Fld Z h10 a1 "java/util/ArrayList" "elementData" "[Ljava/lang/Object;" (.ref b9_5_6) := ((Fo6_0.other W7 (Or.inl ne8)).other W10 (Or.inr (slot_ne (Or.inl (ow hw 29 rfl)) (Or.inl (ow hw 58 rfl)) (by decide) (t := (.array (.object "java/lang/Object"))) (t' := .int) (by decide) (by decide))))
  have F12 : Arv Z h10 b9_5_6 k9_5_6 (.object "java/lang/Object") (10 : Int32) [(.ref a2), .null, .null, .null, .null, .null, .null, .null, .null, .null] .null := (Va7.other W10 (Ne.symm ne8))
  show Q8 Z w_LOWEST w_HIGHEST w_EMPTY_ELEMENTDATA w_DEFAULTCAPACITY_EMPTY_ELEMENTDATA k_w_EMPTY_ELEMENTDATA k_w_DEFAULTCAPACITY_EMPTY_ELEMENTDATA a1 a2 a3 k4 h0 n0 _ T10.heap _
  rw [e10]
  exact ⟨N10, b9_5_6, k9_5_6, rfl, sz_b9_5_6, K10, F11, Fw10, ((Fo6_1.wr W7).wr W10), F12, Fo6_3⟩
theorem pd_12 : parseMethodDescriptor "(Ljava/lang/Object;[Ljava/lang/Object;I)V" = some ⟨[(.object "java/lang/Object"), (.array (.object "java/lang/Object")), .int], none⟩ := by decide +kernel
theorem d7_23 : decode jdk_38_method_25_code 23 = .ok (.iconst 1, 1) := by decide +kernel
theorem d7_24 : decode jdk_38_method_25_code 24 = .ok (.ireturn, 1) := by decide +kernel
def Q7 (Z : State) (w_LOWEST : Addr) (w_HIGHEST : Addr) (w_EMPTY_ELEMENTDATA : Addr) (w_DEFAULTCAPACITY_EMPTY_ELEMENTDATA : Addr) (k_w_EMPTY_ELEMENTDATA : ClassId) (k_w_DEFAULTCAPACITY_EMPTY_ELEMENTDATA : ClassId) (a1 : Addr) (a2 : Addr) (a5 : Addr) (k10 : ClassId) (h0 : Heap) (n0 : Nat) (v : Option Value) (h : Heap) (L : List Loc) : Prop := Fr n0 L ∧ ∃ b9_5_6_11 : Addr, ∃ k9_5_6_11 : ClassId, v = some (.int (1 : Int32)) ∧ h0.size ≤ b9_5_6_11 ∧ OKeep h0 h [(a1, Jvm.RoadKit.slotOf Z "java/util/AbstractList" "modCount" "I"), (a1, Jvm.RoadKit.slotOf Z "java/util/ArrayList" "size" "I"), (a1, Jvm.RoadKit.slotOf Z "java/util/ArrayList" "elementData" "[Ljava/lang/Object;")] ∧ Fld Z h a1 "java/util/AbstractList" "modCount" "I" (.int (1 : Int32)) ∧ Fld Z h a1 "java/util/ArrayList" "size" "I" (.int (1 : Int32)) ∧ Fld Z h a1 "java/util/ArrayList" "elementData" "[Ljava/lang/Object;" (.ref b9_5_6_11) ∧ Exa Z h b9_5_6_11 "[Ljava/lang/Object;" ∧ Arv Z h b9_5_6_11 k9_5_6_11 (.object "java/lang/Object") (10 : Int32) [(.ref a2), .null, .null, .null, .null, .null, .null, .null, .null, .null] .null ∧ Ovr Z k9_5_6_11 "java/lang/Object"
theorem ef7 (m : MethodId) (x0 : Addr) (x1 : Addr) : entryFrame m #[(.ref x0), (.ref x1)] 2 = mkF m 0 #[.val (.ref x0), .val (.ref x1)] [] := by first | (simp [entryFrame, mkF, argsToLocals, Value.category]; done) | rfl
set_option maxRecDepth 65536 in
set_option maxHeartbeats 40000000 in
theorem rm7 (l : Launch) (Z : State) (a0 : Array Value) (hw : ∀ d ∈ tables_1, d.before a0 Z = true) (ws : List Jvm.Cond) {w_LOWEST : Addr} {w_HIGHEST : Addr} {w_EMPTY_ELEMENTDATA : Addr} {w_DEFAULTCAPACITY_EMPTY_ELEMENTDATA : Addr} {k_w_EMPTY_ELEMENTDATA : ClassId} {k_w_DEFAULTCAPACITY_EMPTY_ELEMENTDATA : ClassId} (G : Glob Z w_LOWEST w_HIGHEST w_EMPTY_ELEMENTDATA w_DEFAULTCAPACITY_EMPTY_ELEMENTDATA k_w_EMPTY_ELEMENTDATA k_w_DEFAULTCAPACITY_EMPTY_ELEMENTDATA) (a1 : Addr) (a2 : Addr) (a5 : Addr) (k10 : ClassId) (h0 : Heap) (n0 : Nat) (O0 : Old Z n0 h0) (F_modCount_a1 : Fld Z h0 a1 "java/util/AbstractList" "modCount" "I" (.int (0 : Int32))) (E_a1 : Exa Z h0 a1 "java/util/ArrayList") (g_a1 : n0 ≤ a1) (F_elementData_a1 : Fld Z h0 a1 "java/util/ArrayList" "elementData" "[Ljava/lang/Object;" (.ref a5)) (F_size_a1 : Fld Z h0 a1 "java/util/ArrayList" "size" "I" (.int (0 : Int32))) (V_a5 : Arv Z h0 a5 k10 (.object "java/lang/Object") (0 : Int32) [] .null) (E_a5 : Exa Z h0 a5 "[Ljava/lang/Object;") (hc_1 : a5 = w_DEFAULTCAPACITY_EMPTY_ELEMENTDATA) (E_a2 : Exa Z h0 a2 "com/example/restrained_scaler/restrainedscaler/decision/Decider$Demand") (ne_a5_a1 : a5 ≠ a1) :
    MetFree l (⟨"java/util/ArrayList", "add", "(Ljava/lang/Object;)Z"⟩ : MethodName) (head1 (Jvm.Cond.code (⟨"java/util/ArrayList", "add", "(Ljava/lang/Object;)Z"⟩ : MethodName) jdk_38_method_25_code 2 (some .boolean) :: ws) ({ frames := 4, cells := 1, slots := 10, locals := 56 } : Room)) (fun a U => a = #[(.ref a1), (.ref a2)] ∧ Z.Warmed39 U.vm ∧ U.heap = h0) (fun _ _ _ _ _ => True) (fun _ U o U' => ∃ v L, o = .returned v ∧ Q7 Z w_LOWEST w_HIGHEST w_EMPTY_ELEMENTDATA w_DEFAULTCAPACITY_EMPTY_ELEMENTDATA k_w_EMPTY_ELEMENTDATA k_w_DEFAULTCAPACITY_EMPTY_ELEMENTDATA a1 a2 a5 k10 h0 n0 v U'.heap L ∧ FrameEnd U o U' L ({ frames := 4, cells := 1, slots := 10, locals := 56 } : Room).cells ({ frames := 4, cells := 1, slots := 10, locals := 56 } : Room).slots) := by
  refine MetFree.of_bodySF (plainFor_of_name pn_java_util_ArrayList) hisR ?_
  intro p e s m args below meth c s₁ Bd hml0 hP hK
  obtain ⟨rfl, hZ, hh⟩ := hP
  have hx := Bd.exec
  have hby := Bd.bytes
  have hml : c.maxLocals = 2 := hml0
  have hown : s.vm.findClass "java/util/ArrayList" = some m.cls := findClass_of_methodNamed Bd.named
  have hnm := (name_of_methodNamed Bd.named Bd.method).1
  have X0 : Stand p l e ({ frames := 4, cells := 1, slots := 10, locals := 56 } : Room) s m #[(.ref a1), (.ref a2)] below meth c s₁ [] 0 0 := Stand.of_body Bd
  have e0 : s₁.heap = h0 := by rw [← hh, Bd.state]; rfl
  have N0 := Fr.nil n0
  show OGot p.tables e below (s₁.setTop (entryFrame m #[(.ref a1), (.ref a2)] 2)) _
  refine OGot.go (fun t k => castTop (ef7 m a1 a2) k) ?_
  show OGot p.tables e below (s₁.setTop (mkF m 0 #[.val (.ref a1), .val (.ref a2)] [])) _
  refine OGot.go (fun t k => XS.aloadN X0.here hx rfl (hb hby d7_0) rfl rfl k) ?_
  refine OGot.go (fun t k => XS.dup X0.here hx rfl (hb hby d7_1) rfl rfl k) ?_
  obtain ⟨T3, X3, e3, st3⟩ := getF X0 hx hZ hown (host := "") (Or.inl (ow hw 55 rfl)) (Via.of (ow hw 56 rfl)) e0 F_modCount_a1 (g := (mkF m 2 #[.val (.ref a1), .val (.ref a2)] [(.ref a1), (.ref a1)])) rfl rfl (hb hby d7_2)
  refine OGot.go st3 ?_
  refine OGot.go (fun t k => XS.iconst X3.here hx rfl (hb hby d7_5) k) ?_
  refine OGot.go (fun t k => XS.iadd X3.here hx rfl (hb hby d7_6) rfl k) ?_
  show OGot p.tables e below (T3.setTop (mkF m 7 #[.val (.ref a1), .val (.ref a2)] [(.int ((0 : Int32) + (1 : Int32))), (.ref a1)])) _
  rw [show ((0 : Int32) + (1 : Int32)) = (1 : Int32) from by decide]
  obtain ⟨T4, h4, X4, e4, W4, st4⟩ := putF X3 hx hZ hown (host := "") (Or.inl (ow hw 55 rfl)) (Via.of (ow hw 56 rfl)) e3 F_modCount_a1 E_a1 (Or.inl (ow hw 26 rfl)) (ow hw 5 rfl) (ty := .int) (by decide) rfl rfl (g := (mkF m 7 #[.val (.ref a1), .val (.ref a2)] [(.int (1 : Int32)), (.ref a1)])) rfl rfl (hb hby d7_7)
  refine OGot.go st4 ?_
  have N4 := Fr.snoc X4 N0 g_a1
  have O4 := O0.wr W4 g_a1
  have K4 := (OKeep.refl h0 [(a1, Jvm.RoadKit.slotOf Z "java/util/AbstractList" "modCount" "I"), (a1, Jvm.RoadKit.slotOf Z "java/util/ArrayList" "size" "I"), (a1, Jvm.RoadKit.slotOf Z "java/util/ArrayList" "elementData" "[Ljava/lang/Object;")]).wr W4 (Or.inl (List.mem_of_getElem? (i := 0) rfl))
  have Fw4 : Fld Z h4 a1 "java/util/AbstractList" "modCount" "I" (.int (1 : Int32)) := F_modCount_a1.same W4
  show OGot p.tables e below (T4.setTop (mkF m 10 #[.val (.ref a1), .val (.ref a2)] [])) _
  refine OGot.go (fun t k => XS.aloadN X4.here hx rfl (hb hby d7_10) rfl rfl k) ?_
  refine OGot.go (fun t k => XS.aloadN X4.here hx rfl (hb hby d7_11) rfl rfl k) ?_
  refine OGot.go (fun t k => XS.aloadN X4.here hx rfl (hb hby d7_12) rfl rfl k) ?_
  have F6 : Fld Z h4 a1 "java/util/ArrayList" "elementData" "[Ljava/lang/Object;" (.ref a5) := (F_elementData_a1.other W4 (Or.inr (slot_ne (Or.inl (ow hw 29 rfl)) (Or.inl (ow hw 26 rfl)) (by decide) (t := (.array (.object "java/lang/Object"))) (t' := .int) (by decide) (by decide))))
  obtain ⟨T7, X7, e7, st7⟩ := getF X4 hx hZ hown (host := "") (Or.inl (ow hw 28 rfl)) Via.refl e4 F6 (g := (mkF m 13 #[.val (.ref a1), .val (.ref a2)] [(.ref a1), (.ref a2), (.ref a1)])) rfl rfl (hb hby d7_13)
  refine OGot.go st7 ?_
  refine OGot.go (fun t k => XS.aloadN X7.here hx rfl (hb hby d7_16) rfl rfl k) ?_
  have F8 : Fld Z h4 a1 "java/util/ArrayList" "size" "I" (.int (0 : Int32)) := (F_size_a1.other W4 (Or.inr (slot_ne (Or.inl (ow hw 58 rfl)) (Or.inl (ow hw 26 rfl)) (by decide) (t := .int) (t' := .int) (by decide) (by decide))))
  obtain ⟨T9, X9, e9, st9⟩ := getF X7 hx hZ hown (host := "") (Or.inl (ow hw 57 rfl)) Via.refl e7 F8 (g := (mkF m 17 #[.val (.ref a1), .val (.ref a2)] [(.ref a1), (.ref a5), (.ref a2), (.ref a1)])) rfl rfl (hb hby d7_17)
  refine OGot.go st9 ?_
  show OGot p.tables e below (T9.setTop (mkF m 20 #[.val (.ref a1), .val (.ref a2)] [(.int (0 : Int32)), (.ref a5), (.ref a2), (.ref a1)])) _
  have ne12 : a5 ≠ a1 := ne_a5_a1
  have F13 : Arv Z h4 a5 k10 (.object "java/lang/Object") (0 : Int32) [] .null := (V_a5.other W4 ne12)
  obtain ⟨cq11, q11, q11'⟩ := (E_a1.wr W4).cell
  obtain ⟨_, _, ⟨T11, L11, k11, n11⟩, -, X11, ⟨Lc11, hQ11, l11, y11, z11⟩, st11⟩ := X9.privateBack hx (y := (⟨"java/util/ArrayList", "add", "(Ljava/lang/Object;[Ljava/lang/Object;I)V"⟩ : MethodName)) hown (mvT hZ (ow hw 59 rfl)) (mvT hZ (ow hw 60 rfl)) (mvT hZ (ow hw 62 rfl)) (Cond.privateMethod_at (mvP hZ (ow hw 61 rfl) (args := #[]))) (mvT hZ (ow hw 63 rfl)) (by decide) (backOf (W := 0) (rm8 l Z a0 hw [] G a1 a2 a5 k10 h4 n0 O4 F13 (E_a1.wr W4) F8 F6 (E_a5.wr W4) hc_1 g_a1 (E_a2.wr W4)) hZ (ow hw 63 rfl) (ow hw 6 rfl) (by decide) (by decide)) (g := (mkF m 20 #[.val (.ref a1), .val (.ref a2)] [(.int (0 : Int32)), (.ref a5), (.ref a2), (.ref a1)])) rfl (by rw [hml]; rfl) (Steps.refl _) (a := a1) (by rw [e9]; exact q11) q11' (argsL := [(.ref a2), (.ref a5), (.int (0 : Int32))]) (rest := []) (lenOf pd_12 rfl) rfl (by show 2 * 0 + _ ≤ _; exact Nat.le_of_eq rfl) (hb hby d7_20) (fun _ _ => ⟨rfl, e9, (by decide : 0 + 1 ≤ _), (by decide : 0 + 10 ≤ _)⟩)
  dsimp only [Pt.U, Pt.locs, Pt.cells, Pt.slots] at X11 l11 y11 z11 st11 hQ11
  subst l11 y11 z11
  obtain ⟨N11q, b9_5_6_11, k9_5_6_11, rfl, szb9_5_6_11_11, K11, Fo11_0, Fo11_1, Fo11_2, Fo11_3, Fo11_4⟩ := hQ11
  have g_b9_5_6_11 : n0 ≤ b9_5_6_11 := Nat.le_trans (osz O4) szb9_5_6_11_11
  have sz_b9_5_6_11 : h0.size ≤ b9_5_6_11 := Nat.le_trans K4.1 szb9_5_6_11_11
  have Kc11 := K4.trans K11 (oinS (Or.inl (List.mem_of_getElem? (i := 2) rfl)) (oinS (Or.inl (List.mem_of_getElem? (i := 1) rfl)) oin0))
  have O11 := OKeep.old O4 K11 (ogeS g_a1 (ogeS g_a1 oge0))
  have N11 := Fr.app N4 N11q
  refine OGot.on st11 ?_
  refine OGot.go (fun t k => XS.iconst X11.here hx rfl (hb hby d7_23) k) ?_
  show OGot p.tables e below (T11.setTop (mkF m 24 #[.val (.ref a1), .val (.ref a2)] [(.int (1 : Int32))])) _
  obtain ⟨fs, hr, hrun, hended, hW, hsame⟩ := X11.leave (v := some (.int (1 : Int32))) (fun h => by rw [Bd.returns] at h; cases h)
  refine ⟨_, _, retN X11 hx (t := .boolean) Bd.returns (by simp) (hb hby d7_24) hr, hrun, hended, _, _, rfl, ?_, ⟨_, rfl⟩, hW, hsame.mono (by decide) (by decide)⟩
  have F14 : Fld Z T11.heap a1 "java/util/AbstractList" "modCount" "I" (.int (1 : Int32)) := (OKeep.fld Fw4 K11 (oninS (slot_ne (Or.inl (ow hw 26 rfl)) (Or.inl (ow hw 29 rfl)) (by decide) (t := .int) (t' := (.array (.object "java/lang/Object"))) (by decide) (by decide)) (oninS (slot_ne (Or.inl (ow hw 26 rfl)) (Or.inl (ow hw 58 rfl)) (by decide) (t := .int) (t' := .int) (by decide) (by decide)) onin0)))
  show Q7 Z w_LOWEST w_HIGHEST w_EMPTY_ELEMENTDATA w_DEFAULTCAPACITY_EMPTY_ELEMENTDATA k_w_EMPTY_ELEMENTDATA k_w_DEFAULTCAPACITY_EMPTY_ELEMENTDATA a1 a2 a5 k10 h0 n0 _ T11.heap _
  exact ⟨N11, b9_5_6_11, k9_5_6_11, rfl, sz_b9_5_6_11, Kc11, F14, Fo11_1, Fo11_0, Fo11_2, Fo11_3, Fo11_4⟩
theorem pd_13 : parseMethodDescriptor "(Ljava/lang/Object;)Z" = some ⟨[(.object "java/lang/Object")], some .boolean⟩ := by decide +kernel
theorem d12_0 : decode prog_24_method_1_code 0 = .ok (.aload_n 0, 1) := by decide +kernel
theorem d12_1 : decode prog_24_method_1_code 1 = .ok (.invokespecial 1, 3) := by decide +kernel
theorem d12_4 : decode prog_24_method_1_code 4 = .ok (.aload_n 0, 1) := by decide +kernel
theorem d12_5 : decode prog_24_method_1_code 5 = .ok (.new 7, 3) := by decide +kernel
theorem d12_8 : decode prog_24_method_1_code 8 = .ok (.dup, 1) := by decide +kernel
theorem d12_9 : decode prog_24_method_1_code 9 = .ok (.invokespecial 9, 3) := by decide +kernel
theorem d13_0 : decode jdk_21_method_3_code 0 = .ok (.aload_n 0, 1) := by decide +kernel
theorem d13_1 : decode jdk_21_method_3_code 1 = .ok (.invokespecial 42, 3) := by decide +kernel
theorem d13_4 : decode jdk_21_method_3_code 4 = .ok (.aload_n 0, 1) := by decide +kernel
theorem d13_5 : decode jdk_21_method_3_code 5 = .ok (.bipush 17, 2) := by decide +kernel
theorem d13_7 : decode jdk_21_method_3_code 7 = .ok (.anewarray 47, 3) := by decide +kernel
theorem d13_10 : decode jdk_21_method_3_code 10 = .ok (.putfield 3, 3) := by decide +kernel
theorem d13_13 : decode jdk_21_method_3_code 13 = .ok (.return_, 1) := by decide +kernel
def Q13 (Z : State) (w_LOWEST : Addr) (w_HIGHEST : Addr) (w_EMPTY_ELEMENTDATA : Addr) (w_DEFAULTCAPACITY_EMPTY_ELEMENTDATA : Addr) (k_w_EMPTY_ELEMENTDATA : ClassId) (k_w_DEFAULTCAPACITY_EMPTY_ELEMENTDATA : ClassId) (a1 : Addr) (h0 : Heap) (n0 : Nat) (v : Option Value) (h : Heap) (L : List Loc) : Prop := Fr n0 L ∧ ∃ b3 : Addr, ∃ k3 : ClassId, v = none ∧ h0.size ≤ b3 ∧ OKeep h0 h [(a1, Jvm.RoadKit.slotOf Z "java/util/ArrayDeque" "elements" "[Ljava/lang/Object;")] ∧ Fld Z h a1 "java/util/ArrayDeque" "elements" "[Ljava/lang/Object;" (.ref b3) ∧ Exa Z h b3 "[Ljava/lang/Object;" ∧ Arv Z h b3 k3 (.object "java/lang/Object") (17 : Int32) [.null, .null, .null, .null, .null, .null, .null, .null, .null, .null, .null, .null, .null, .null, .null, .null, .null] .null ∧ Ovr Z k3 "java/lang/Object"
theorem ef13 (m : MethodId) (x0 : Addr) : entryFrame m #[(.ref x0)] 1 = mkF m 0 #[.val (.ref x0)] [] := by first | (simp [entryFrame, mkF, argsToLocals, Value.category]; done) | rfl
set_option maxRecDepth 65536 in
set_option maxHeartbeats 40000000 in
theorem rm13 (l : Launch) (Z : State) (a0 : Array Value) (hw : ∀ d ∈ tables_1, d.before a0 Z = true) (ws : List Jvm.Cond) {w_LOWEST : Addr} {w_HIGHEST : Addr} {w_EMPTY_ELEMENTDATA : Addr} {w_DEFAULTCAPACITY_EMPTY_ELEMENTDATA : Addr} {k_w_EMPTY_ELEMENTDATA : ClassId} {k_w_DEFAULTCAPACITY_EMPTY_ELEMENTDATA : ClassId} (G : Glob Z w_LOWEST w_HIGHEST w_EMPTY_ELEMENTDATA w_DEFAULTCAPACITY_EMPTY_ELEMENTDATA k_w_EMPTY_ELEMENTDATA k_w_DEFAULTCAPACITY_EMPTY_ELEMENTDATA) (a1 : Addr) (h0 : Heap) (n0 : Nat) (O0 : Old Z n0 h0) (E_a1 : Exa Z h0 a1 "java/util/ArrayDeque") (F_elements_a1 : Fld Z h0 a1 "java/util/ArrayDeque" "elements" "[Ljava/lang/Object;" .null) (g_a1 : n0 ≤ a1) :
    MetFree l (⟨"java/util/ArrayDeque", "<init>", "()V"⟩ : MethodName) (head1 (Jvm.Cond.code (⟨"java/util/ArrayDeque", "<init>", "()V"⟩ : MethodName) jdk_21_method_3_code 1 none :: ws) ({ frames := 2, cells := 1, slots := 17, locals := 24 } : Room)) (fun a U => a = #[(.ref a1)] ∧ Z.Warmed39 U.vm ∧ U.heap = h0) (fun _ _ _ _ _ => True) (fun _ U o U' => ∃ v L, o = .returned v ∧ Q13 Z w_LOWEST w_HIGHEST w_EMPTY_ELEMENTDATA w_DEFAULTCAPACITY_EMPTY_ELEMENTDATA k_w_EMPTY_ELEMENTDATA k_w_DEFAULTCAPACITY_EMPTY_ELEMENTDATA a1 h0 n0 v U'.heap L ∧ FrameEnd U o U' L ({ frames := 2, cells := 1, slots := 17, locals := 24 } : Room).cells ({ frames := 2, cells := 1, slots := 17, locals := 24 } : Room).slots) := by
  refine MetFree.of_bodySF (plainFor_of_name pn_java_util_ArrayDeque) hisR ?_
  intro p e s m args below meth c s₁ Bd hml0 hP hK
  obtain ⟨rfl, hZ, hh⟩ := hP
  have hx := Bd.exec
  have hby := Bd.bytes
  have hml : c.maxLocals = 1 := hml0
  have hown : s.vm.findClass "java/util/ArrayDeque" = some m.cls := findClass_of_methodNamed Bd.named
  have hnm := (name_of_methodNamed Bd.named Bd.method).1
  have X0 : Stand p l e ({ frames := 2, cells := 1, slots := 17, locals := 24 } : Room) s m #[(.ref a1)] below meth c s₁ [] 0 0 := Stand.of_body Bd
  have e0 : s₁.heap = h0 := by rw [← hh, Bd.state]; rfl
  have N0 := Fr.nil n0
  show OGot p.tables e below (s₁.setTop (entryFrame m #[(.ref a1)] 1)) _
  refine OGot.go (fun t k => castTop (ef13 m a1) k) ?_
  show OGot p.tables e below (s₁.setTop (mkF m 0 #[.val (.ref a1)] [])) _
  refine OGot.go (fun t k => XS.aloadN X0.here hx rfl (hb hby d13_0) rfl rfl k) ?_
  obtain ⟨_, _, ⟨T2, L2, k2, n2⟩, -, X2, ⟨Lc2, hQ2, l2, y2, z2⟩, st2⟩ := X0.specialBack hx (y := (⟨"java/util/AbstractCollection", "<init>", "()V"⟩ : MethodName)) rfl hown (mvT hZ (ow hw 94 rfl)) (mvT hZ (ow hw 17 rfl)) (mvT hZ (ow hw 21 rfl)) (by decide) (backOf (W := 0) (rm3 l Z a0 hw [] G a1 h0 n0 O0 ) hZ (ow hw 21 rfl) (ow hw 20 rfl) (by decide) (by decide)) (g := (mkF m 1 #[.val (.ref a1)] [(.ref a1)])) rfl (by rw [hml]; rfl) (Steps.refl _) (a := a1) (argsL := []) (rest := []) (lenOf pd_7 rfl) rfl (by show 2 * 0 + _ ≤ _; exact Nat.le_of_eq rfl) (hb hby d13_1) (fun _ _ => ⟨rfl, e0, (by decide : 0 + 0 ≤ _), (by decide : 0 + 0 ≤ _)⟩)
  dsimp only [Pt.U, Pt.locs, Pt.cells, Pt.slots] at X2 l2 y2 z2 st2 hQ2
  subst l2 y2 z2
  obtain ⟨rfl, N2q, e2⟩ := hQ2
  have N2 := Fr.app N0 N2q
  refine OGot.on st2 ?_
  refine OGot.go (fun t k => XS.aloadN X2.here hx rfl (hb hby d13_4) rfl rfl k) ?_
  refine OGot.go (fun t k => XS.bipush X2.here hx rfl (hb hby d13_5) k) ?_
  obtain ⟨T3, h3, k3, X3, e3, E3, A3, Ea3, V3, st3⟩ := newRE X2 hx hZ hown (ow hw 96 rfl) (ow hw 79 rfl) e2 (g := (mkF m 7 #[.val (.ref a1)] [(.int (17 : Int32)), (.ref a1)])) rfl (hb hby d13_7) rfl (by decide) (cap := 17) (by decide) (by decide) (by decide) (by decide) (ad := "[Ljava/lang/Object;") (by decide)
  obtain ⟨b3, g3⟩ : ∃ z, z = h0.size := ⟨_, rfl⟩
  rw [← g3] at A3 Ea3 st3
  refine OGot.go st3 ?_
  have g_b3 : n0 ≤ b3 := Nat.le_trans (osz O0) (Nat.le_of_eq g3.symm)
  have sy_b3 : h0.size ≤ b3 := Nat.le_of_eq g3.symm
  have sz_b3 : h0.size ≤ b3 := Nat.le_trans (OKeep.refl h0 [(a1, Jvm.RoadKit.slotOf Z "java/util/ArrayDeque" "elements" "[Ljava/lang/Object;")]).1 sy_b3
  have K3 := (OKeep.refl h0 [(a1, Jvm.RoadKit.slotOf Z "java/util/ArrayDeque" "elements" "[Ljava/lang/Object;")]).ext E3
  have O3 := O0.ext E3
  have Va3 : Arv Z h3 b3 k3 (.object "java/lang/Object") (17 : Int32) [.null, .null, .null, .null, .null, .null, .null, .null, .null, .null, .null, .null, .null, .null, .null, .null, .null] .null := (Arv.new A3 (by decide)).pad (pad_rep [] .null 17)
  have F4 : Fld Z h3 a1 "java/util/ArrayDeque" "elements" "[Ljava/lang/Object;" .null := (F_elements_a1.ext E3)
  obtain ⟨T5, h5, X5, e5, W5, st5⟩ := putF X3 hx hZ hown (host := "") (Or.inl (ow hw 97 rfl)) Via.refl e3 F4 (E_a1.ext E3) (Or.inl (ow hw 98 rfl)) (ow hw 89 rfl) (ty := (.array (.object "java/lang/Object"))) (by decide) rfl rfl (g := (mkF m 10 #[.val (.ref a1)] [(.ref b3), (.ref a1)])) rfl rfl (hb hby d13_10)
  refine OGot.go st5 ?_
  have N5 := Fr.snoc X5 N2 g_a1
  have O5 := O3.wr W5 g_a1
  have K5 := K3.wr W5 (Or.inl (List.mem_of_getElem? (i := 0) rfl))
  have Fw5 : Fld Z h5 a1 "java/util/ArrayDeque" "elements" "[Ljava/lang/Object;" (.ref b3) := F4.same W5
  show OGot p.tables e below (T5.setTop (mkF m 13 #[.val (.ref a1)] [])) _
  obtain ⟨fs, hr, hrun, hended, hW, hsame⟩ := X5.leave (v := none) (fun _ => rfl)
  refine ⟨_, _, X5.returnOut hx Bd.returns (hb hby d13_13) hr, hrun, hended, _, _, rfl, ?_, ⟨_, rfl⟩, hW, hsame.mono (by decide) (by decide)⟩
  have ne6 : a1 ≠ b3 := (Nat.ne_of_lt (Nat.lt_of_lt_of_le E_a1.lt sy_b3))
  have F7 : Arv Z h5 b3 k3 (.object "java/lang/Object") (17 : Int32) [.null, .null, .null, .null, .null, .null, .null, .null, .null, .null, .null, .null, .null, .null, .null, .null, .null] .null := (Va3.other W5 (Ne.symm ne6))
  show Q13 Z w_LOWEST w_HIGHEST w_EMPTY_ELEMENTDATA w_DEFAULTCAPACITY_EMPTY_ELEMENTDATA k_w_EMPTY_ELEMENTDATA k_w_DEFAULTCAPACITY_EMPTY_ELEMENTDATA a1 h0 n0 _ T5.heap _
  rw [e5]
  exact ⟨N5, b3, k3, rfl, sz_b3, K5, Fw5, (Ea3.wr W5), F7, V3⟩
theorem d12_12 : decode prog_24_method_1_code 12 = .ok (.putfield 10, 3) := by decide +kernel
theorem d12_15 : decode prog_24_method_1_code 15 = .ok (.aload_n 0, 1) := by decide +kernel
theorem d12_16 : decode prog_24_method_1_code 16 = .ok (.lload_n 1, 1) := by decide +kernel
theorem d12_17 : decode prog_24_method_1_code 17 = .ok (.putfield 16, 3) := by decide +kernel
theorem d12_20 : decode prog_24_method_1_code 20 = .ok (.aload_n 0, 1) := by decide +kernel
theorem d12_21 : decode prog_24_method_1_code 21 = .ok (.aload_n 3, 1) := by decide +kernel
theorem d12_22 : decode prog_24_method_1_code 22 = .ok (.putfield 20, 3) := by decide +kernel
theorem d12_25 : decode prog_24_method_1_code 25 = .ok (.aload 4, 2) := by decide +kernel
theorem d12_27 : decode prog_24_method_1_code 27 = .ok (.invokeinterface 24 1, 5) := by decide +kernel
theorem d14_0 : decode jdk_38_method_55_code 0 = .ok (.new 267, 3) := by decide +kernel
theorem d14_3 : decode jdk_38_method_55_code 3 = .ok (.dup, 1) := by decide +kernel
theorem d14_4 : decode jdk_38_method_55_code 4 = .ok (.aload_n 0, 1) := by decide +kernel
theorem d14_5 : decode jdk_38_method_55_code 5 = .ok (.invokespecial 269, 3) := by decide +kernel
theorem d15_0 : decode jdk_49_method_1_code 0 = .ok (.aload_n 0, 1) := by decide +kernel
theorem d15_1 : decode jdk_49_method_1_code 1 = .ok (.aload_n 1, 1) := by decide +kernel
theorem d15_2 : decode jdk_49_method_1_code 2 = .ok (.putfield 1, 3) := by decide +kernel
theorem d15_5 : decode jdk_49_method_1_code 5 = .ok (.aload_n 0, 1) := by decide +kernel
theorem d15_6 : decode jdk_49_method_1_code 6 = .ok (.invokespecial 7, 3) := by decide +kernel
theorem d15_9 : decode jdk_49_method_1_code 9 = .ok (.aload_n 0, 1) := by decide +kernel
theorem d15_10 : decode jdk_49_method_1_code 10 = .ok (.iconst (-1), 1) := by decide +kernel
theorem d15_11 : decode jdk_49_method_1_code 11 = .ok (.putfield 13, 3) := by decide +kernel
theorem d15_14 : decode jdk_49_method_1_code 14 = .ok (.aload_n 0, 1) := by decide +kernel
theorem d15_15 : decode jdk_49_method_1_code 15 = .ok (.aload_n 0, 1) := by decide +kernel
theorem d15_16 : decode jdk_49_method_1_code 16 = .ok (.getfield 1, 3) := by decide +kernel
theorem d15_19 : decode jdk_49_method_1_code 19 = .ok (.getfield 17, 3) := by decide +kernel
theorem d15_22 : decode jdk_49_method_1_code 22 = .ok (.putfield 22, 3) := by decide +kernel
theorem d15_25 : decode jdk_49_method_1_code 25 = .ok (.return_, 1) := by decide +kernel
theorem pn_java_util_ArrayList_Itr : plainName "java/util/ArrayList$Itr" = true := by first | (simp [plainName, overriddenIn]; done) | decide +kernel
def Q15 (Z : State) (w_LOWEST : Addr) (w_HIGHEST : Addr) (w_EMPTY_ELEMENTDATA : Addr) (w_DEFAULTCAPACITY_EMPTY_ELEMENTDATA : Addr) (k_w_EMPTY_ELEMENTDATA : ClassId) (k_w_DEFAULTCAPACITY_EMPTY_ELEMENTDATA : ClassId) (a1 : Addr) (a2 : Addr) (h0 : Heap) (n0 : Nat) (v : Option Value) (h : Heap) (L : List Loc) : Prop := Fr n0 L ∧ v = none ∧ OKeep h0 h [(a1, Jvm.RoadKit.slotOf Z "java/util/ArrayList$Itr" "this$0" "Ljava/util/ArrayList;"), (a1, Jvm.RoadKit.slotOf Z "java/util/ArrayList$Itr" "lastRet" "I"), (a1, Jvm.RoadKit.slotOf Z "java/util/ArrayList$Itr" "expectedModCount" "I")] ∧ Fld Z h a1 "java/util/ArrayList$Itr" "this$0" "Ljava/util/ArrayList;" (.ref a2) ∧ Fld Z h a1 "java/util/ArrayList$Itr" "lastRet" "I" (.int (-1 : Int32)) ∧ Fld Z h a1 "java/util/ArrayList$Itr" "expectedModCount" "I" (.int (1 : Int32))
theorem ef15 (m : MethodId) (x0 : Addr) (x1 : Addr) : entryFrame m #[(.ref x0), (.ref x1)] 2 = mkF m 0 #[.val (.ref x0), .val (.ref x1)] [] := by first | (simp [entryFrame, mkF, argsToLocals, Value.category]; done) | rfl
set_option maxRecDepth 65536 in
set_option maxHeartbeats 40000000 in
theorem rm15 (l : Launch) (Z : State) (a0 : Array Value) (hw : ∀ d ∈ tables_1, d.before a0 Z = true) (ws : List Jvm.Cond) {w_LOWEST : Addr} {w_HIGHEST : Addr} {w_EMPTY_ELEMENTDATA : Addr} {w_DEFAULTCAPACITY_EMPTY_ELEMENTDATA : Addr} {k_w_EMPTY_ELEMENTDATA : ClassId} {k_w_DEFAULTCAPACITY_EMPTY_ELEMENTDATA : ClassId} (G : Glob Z w_LOWEST w_HIGHEST w_EMPTY_ELEMENTDATA w_DEFAULTCAPACITY_EMPTY_ELEMENTDATA k_w_EMPTY_ELEMENTDATA k_w_DEFAULTCAPACITY_EMPTY_ELEMENTDATA) (a1 : Addr) (a2 : Addr) (h0 : Heap) (n0 : Nat) (O0 : Old Z n0 h0) (E_a1 : Exa Z h0 a1 "java/util/ArrayList$Itr") (F_this_0_a1 : Fld Z h0 a1 "java/util/ArrayList$Itr" "this$0" "Ljava/util/ArrayList;" .null) (g_a1 : n0 ≤ a1) (F_lastRet_a1 : Fld Z h0 a1 "java/util/ArrayList$Itr" "lastRet" "I" (.int (0 : Int32))) (F_modCount_a2 : Fld Z h0 a2 "java/util/AbstractList" "modCount" "I" (.int (1 : Int32))) (ne_a2_a1 : a2 ≠ a1) (F_expectedModCount_a1 : Fld Z h0 a1 "java/util/ArrayList$Itr" "expectedModCount" "I" (.int (0 : Int32))) :
    MetFree l (⟨"java/util/ArrayList$Itr", "<init>", "(Ljava/util/ArrayList;)V"⟩ : MethodName) (head1 (Jvm.Cond.code (⟨"java/util/ArrayList$Itr", "<init>", "(Ljava/util/ArrayList;)V"⟩ : MethodName) jdk_49_method_1_code 2 none :: ws) ({ frames := 1, cells := 0, slots := 0, locals := 12 } : Room)) (fun a U => a = #[(.ref a1), (.ref a2)] ∧ Z.Warmed39 U.vm ∧ U.heap = h0) (fun _ _ _ _ _ => True) (fun _ U o U' => ∃ v L, o = .returned v ∧ Q15 Z w_LOWEST w_HIGHEST w_EMPTY_ELEMENTDATA w_DEFAULTCAPACITY_EMPTY_ELEMENTDATA k_w_EMPTY_ELEMENTDATA k_w_DEFAULTCAPACITY_EMPTY_ELEMENTDATA a1 a2 h0 n0 v U'.heap L ∧ FrameEnd U o U' L ({ frames := 1, cells := 0, slots := 0, locals := 12 } : Room).cells ({ frames := 1, cells := 0, slots := 0, locals := 12 } : Room).slots) := by
  refine MetFree.of_bodySF (plainFor_of_name pn_java_util_ArrayList_Itr) hisR ?_
  intro p e s m args below meth c s₁ Bd hml0 hP hK
  obtain ⟨rfl, hZ, hh⟩ := hP
  have hx := Bd.exec
  have hby := Bd.bytes
  have hml : c.maxLocals = 2 := hml0
  have hown : s.vm.findClass "java/util/ArrayList$Itr" = some m.cls := findClass_of_methodNamed Bd.named
  have hnm := (name_of_methodNamed Bd.named Bd.method).1
  have X0 : Stand p l e ({ frames := 1, cells := 0, slots := 0, locals := 12 } : Room) s m #[(.ref a1), (.ref a2)] below meth c s₁ [] 0 0 := Stand.of_body Bd
  have e0 : s₁.heap = h0 := by rw [← hh, Bd.state]; rfl
  have N0 := Fr.nil n0
  show OGot p.tables e below (s₁.setTop (entryFrame m #[(.ref a1), (.ref a2)] 2)) _
  refine OGot.go (fun t k => castTop (ef15 m a1 a2) k) ?_
  show OGot p.tables e below (s₁.setTop (mkF m 0 #[.val (.ref a1), .val (.ref a2)] [])) _
  refine OGot.go (fun t k => XS.aloadN X0.here hx rfl (hb hby d15_0) rfl rfl k) ?_
  refine OGot.go (fun t k => XS.aloadN X0.here hx rfl (hb hby d15_1) rfl rfl k) ?_
  obtain ⟨T3, h3, X3, e3, W3, st3⟩ := putF X0 hx hZ hown (host := "") (Or.inl (ow hw 120 rfl)) Via.refl e0 F_this_0_a1 E_a1 (Or.inr ⟨(ow hw 121 rfl), rfl, hnm⟩) (ow hw 114 rfl) (ty := (.object "java/util/ArrayList")) (by decide) rfl rfl (g := (mkF m 2 #[.val (.ref a1), .val (.ref a2)] [(.ref a2), (.ref a1)])) rfl rfl (hb hby d15_2)
  refine OGot.go st3 ?_
  have N3 := Fr.snoc X3 N0 g_a1
  have O3 := O0.wr W3 g_a1
  have K3 := (OKeep.refl h0 [(a1, Jvm.RoadKit.slotOf Z "java/util/ArrayList$Itr" "this$0" "Ljava/util/ArrayList;"), (a1, Jvm.RoadKit.slotOf Z "java/util/ArrayList$Itr" "lastRet" "I"), (a1, Jvm.RoadKit.slotOf Z "java/util/ArrayList$Itr" "expectedModCount" "I")]).wr W3 (Or.inl (List.mem_of_getElem? (i := 0) rfl))
  have Fw3 : Fld Z h3 a1 "java/util/ArrayList$Itr" "this$0" "Ljava/util/ArrayList;" (.ref a2) := F_this_0_a1.same W3
  refine OGot.go (fun t k => XS.aloadN X3.here hx rfl (hb hby d15_5) rfl rfl k) ?_
  obtain ⟨T4, X4, e4, st4⟩ := initO X3 hx hZ hown (ow hw 122 rfl) (ow hw 23 rfl) (ow hw 24 rfl) e3 (g := (mkF m 6 #[.val (.ref a1), .val (.ref a2)] [(.ref a1)])) rfl (by rw [hml]; rfl) rfl (hb hby d15_6) (by decide) (W := 0) (by show 2 * 0 + _ ≤ _; exact Nat.le_of_eq rfl) (by decide)
  refine OGot.go st4 ?_
  refine OGot.go (fun t k => XS.aloadN X4.here hx rfl (hb hby d15_9) rfl rfl k) ?_
  show OGot p.tables e below (T4.setTop (mkF m 10 #[.val (.ref a1), .val (.ref a2)] [(.ref a1)])) _
  refine OGot.go (fun t k => XS.iconst X4.here hx rfl (hb hby d15_10) k) ?_
  have F5 : Fld Z h3 a1 "java/util/ArrayList$Itr" "lastRet" "I" (.int (0 : Int32)) := (F_lastRet_a1.other W3 (Or.inr (slot_ne (Or.inl (ow hw 124 rfl)) (Or.inr (ow hw 121 rfl)) (by decide) (t := .int) (t' := (.object "java/util/ArrayList")) (by decide) (by decide))))
  obtain ⟨T6, h6, X6, e6, W6, st6⟩ := putF X4 hx hZ hown (host := "") (Or.inl (ow hw 123 rfl)) Via.refl e4 F5 (E_a1.wr W3) (Or.inl (ow hw 124 rfl)) (ow hw 114 rfl) (ty := .int) (by decide) rfl rfl (g := (mkF m 11 #[.val (.ref a1), .val (.ref a2)] [(.int (-1 : Int32)), (.ref a1)])) rfl rfl (hb hby d15_11)
  refine OGot.go st6 ?_
  have N6 := Fr.snoc X6 N3 g_a1
  have O6 := O3.wr W6 g_a1
  have K6 := K3.wr W6 (Or.inl (List.mem_of_getElem? (i := 1) rfl))
  have Fw6 : Fld Z h6 a1 "java/util/ArrayList$Itr" "lastRet" "I" (.int (-1 : Int32)) := F5.same W6
  refine OGot.go (fun t k => XS.aloadN X6.here hx rfl (hb hby d15_14) rfl rfl k) ?_
  refine OGot.go (fun t k => XS.aloadN X6.here hx rfl (hb hby d15_15) rfl rfl k) ?_
  have F7 : Fld Z h6 a1 "java/util/ArrayList$Itr" "this$0" "Ljava/util/ArrayList;" (.ref a2) := (Fw3.other W6 (Or.inr (slot_ne (Or.inr (ow hw 121 rfl)) (Or.inl (ow hw 124 rfl)) (by decide) (t := (.object "java/util/ArrayList")) (t' := .int) (by decide) (by decide))))
  obtain ⟨T8, X8, e8, st8⟩ := getF X6 hx hZ hown (host := "") (Or.inl (ow hw 120 rfl)) Via.refl e6 F7 (g := (mkF m 16 #[.val (.ref a1), .val (.ref a2)] [(.ref a1), (.ref a1)])) rfl rfl (hb hby d15_16)
  refine OGot.go st8 ?_
  have ne9 : a2 ≠ a1 := ne_a2_a1
  have F10 : Fld Z h6 a2 "java/util/AbstractList" "modCount" "I" (.int (1 : Int32)) := ((F_modCount_a2.other W3 (Or.inl ne9)).other W6 (Or.inl ne9))
  obtain ⟨T11, X11, e11, st11⟩ := getF X8 hx hZ hown (host := "") (Or.inl (ow hw 125 rfl)) (Via.of (ow hw 56 rfl)) e8 F10 (g := (mkF m 19 #[.val (.ref a1), .val (.ref a2)] [(.ref a2), (.ref a1)])) rfl rfl (hb hby d15_19)
  refine OGot.go st11 ?_
  show OGot p.tables e below (T11.setTop (mkF m 22 #[.val (.ref a1), .val (.ref a2)] [(.int (1 : Int32)), (.ref a1)])) _
  have F12 : Fld Z h6 a1 "java/util/ArrayList$Itr" "expectedModCount" "I" (.int (0 : Int32)) := ((F_expectedModCount_a1.other W3 (Or.inr (slot_ne (Or.inl (ow hw 127 rfl)) (Or.inr (ow hw 121 rfl)) (by decide) (t := .int) (t' := (.object "java/util/ArrayList")) (by decide) (by decide)))).other W6 (Or.inr (slot_ne (Or.inl (ow hw 127 rfl)) (Or.inl (ow hw 124 rfl)) (by decide) (t := .int) (t' := .int) (by decide) (by decide))))
  obtain ⟨T13, h13, X13, e13, W13, st13⟩ := putF X11 hx hZ hown (host := "") (Or.inl (ow hw 126 rfl)) Via.refl e11 F12 ((E_a1.wr W3).wr W6) (Or.inl (ow hw 127 rfl)) (ow hw 114 rfl) (ty := .int) (by decide) rfl rfl (g := (mkF m 22 #[.val (.ref a1), .val (.ref a2)] [(.int (1 : Int32)), (.ref a1)])) rfl rfl (hb hby d15_22)
  refine OGot.go st13 ?_
  have N13 := Fr.snoc X13 N6 g_a1
  have O13 := O6.wr W13 g_a1
  have K13 := K6.wr W13 (Or.inl (List.mem_of_getElem? (i := 2) rfl))
  have Fw13 : Fld Z h13 a1 "java/util/ArrayList$Itr" "expectedModCount" "I" (.int (1 : Int32)) := F12.same W13
  show OGot p.tables e below (T13.setTop (mkF m 25 #[.val (.ref a1), .val (.ref a2)] [])) _
  obtain ⟨fs, hr, hrun, hended, hW, hsame⟩ := X13.leave (v := none) (fun _ => rfl)
  refine ⟨_, _, X13.returnOut hx Bd.returns (hb hby d15_25) hr, hrun, hended, _, _, rfl, ?_, ⟨_, rfl⟩, hW, hsame.mono (by decide) (by decide)⟩
  have F14 : Fld Z h13 a1 "java/util/ArrayList$Itr" "this$0" "Ljava/util/ArrayList;" (.ref a2) := (F7.other W13 (Or.inr (slot_ne (Or.inr (ow hw 121 rfl)) (Or.inl (ow hw 127 rfl)) (by decide) (t := (.object "java/util/ArrayList")) (t' := .int) (by decide) (by decide))))
  have F15 : Fld Z h13 a1 "java/util/ArrayList$Itr" "lastRet" "I" (.int (-1 : Int32)) := (Fw6.other W13 (Or.inr (slot_ne (Or.inl (ow hw 124 rfl)) (Or.inl (ow hw 127 rfl)) (by decide) (t := .int) (t' := .int) (by decide) (by decide))))
  show Q15 Z w_LOWEST w_HIGHEST w_EMPTY_ELEMENTDATA w_DEFAULTCAPACITY_EMPTY_ELEMENTDATA k_w_EMPTY_ELEMENTDATA k_w_DEFAULTCAPACITY_EMPTY_ELEMENTDATA a1 a2 h0 n0 _ T13.heap _
  rw [e13]
  exact ⟨N13, rfl, K13, F14, F15, Fw13⟩
theorem pd_14 : parseMethodDescriptor "(Ljava/util/ArrayList;)V" = some ⟨[(.object "java/util/ArrayList")], none⟩ := by decide +kernel
theorem d14_8 : decode jdk_38_method_55_code 8 = .ok (.areturn, 1) := by decide +kernel
def Q14 (Z : State) (w_LOWEST : Addr) (w_HIGHEST : Addr) (w_EMPTY_ELEMENTDATA : Addr) (w_DEFAULTCAPACITY_EMPTY_ELEMENTDATA : Addr) (k_w_EMPTY_ELEMENTDATA : ClassId) (k_w_DEFAULTCAPACITY_EMPTY_ELEMENTDATA : ClassId) (a1 : Addr) (h0 : Heap) (n0 : Nat) (v : Option Value) (h : Heap) (L : List Loc) : Prop := Fr n0 L ∧ ∃ b2 : Addr, v = some (.ref b2) ∧ h0.size ≤ b2 ∧ OKeep h0 h [] ∧ Exa Z h b2 "java/util/ArrayList$Itr" ∧ Fld Z h b2 "java/util/ArrayList$Itr" "cursor" "I" (.int (0 : Int32)) ∧ Fld Z h b2 "java/util/ArrayList$Itr" "expectedModCount" "I" (.int (1 : Int32)) ∧ Fld Z h b2 "java/util/ArrayList$Itr" "lastRet" "I" (.int (-1 : Int32)) ∧ Fld Z h b2 "java/util/ArrayList$Itr" "this$0" "Ljava/util/ArrayList;" (.ref a1)
theorem ef14 (m : MethodId) (x0 : Addr) : entryFrame m #[(.ref x0)] 1 = mkF m 0 #[.val (.ref x0)] [] := by first | (simp [entryFrame, mkF, argsToLocals, Value.category]; done) | rfl
set_option maxRecDepth 65536 in
set_option maxHeartbeats 40000000 in
theorem rm14 (l : Launch) (Z : State) (a0 : Array Value) (hw : ∀ d ∈ tables_1, d.before a0 Z = true) (ws : List Jvm.Cond) {w_LOWEST : Addr} {w_HIGHEST : Addr} {w_EMPTY_ELEMENTDATA : Addr} {w_DEFAULTCAPACITY_EMPTY_ELEMENTDATA : Addr} {k_w_EMPTY_ELEMENTDATA : ClassId} {k_w_DEFAULTCAPACITY_EMPTY_ELEMENTDATA : ClassId} (G : Glob Z w_LOWEST w_HIGHEST w_EMPTY_ELEMENTDATA w_DEFAULTCAPACITY_EMPTY_ELEMENTDATA k_w_EMPTY_ELEMENTDATA k_w_DEFAULTCAPACITY_EMPTY_ELEMENTDATA) (a1 : Addr) (h0 : Heap) (n0 : Nat) (O0 : Old Z n0 h0) (F_modCount_a1 : Fld Z h0 a1 "java/util/AbstractList" "modCount" "I" (.int (1 : Int32))) :
    MetFree l (⟨"java/util/ArrayList", "iterator", "()Ljava/util/Iterator;"⟩ : MethodName) (head1 (Jvm.Cond.code (⟨"java/util/ArrayList", "iterator", "()Ljava/util/Iterator;"⟩ : MethodName) jdk_38_method_55_code 1 (some (.object "java/util/Iterator")) :: ws) ({ frames := 2, cells := 1, slots := 4, locals := 26 } : Room)) (fun a U => a = #[(.ref a1)] ∧ Z.Warmed39 U.vm ∧ U.heap = h0) (fun _ _ _ _ _ => True) (fun _ U o U' => ∃ v L, o = .returned v ∧ Q14 Z w_LOWEST w_HIGHEST w_EMPTY_ELEMENTDATA w_DEFAULTCAPACITY_EMPTY_ELEMENTDATA k_w_EMPTY_ELEMENTDATA k_w_DEFAULTCAPACITY_EMPTY_ELEMENTDATA a1 h0 n0 v U'.heap L ∧ FrameEnd U o U' L ({ frames := 2, cells := 1, slots := 4, locals := 26 } : Room).cells ({ frames := 2, cells := 1, slots := 4, locals := 26 } : Room).slots) := by
  refine MetFree.of_bodySF (plainFor_of_name pn_java_util_ArrayList) hisR ?_
  intro p e s m args below meth c s₁ Bd hml0 hP hK
  obtain ⟨rfl, hZ, hh⟩ := hP
  have hx := Bd.exec
  have hby := Bd.bytes
  have hml : c.maxLocals = 1 := hml0
  have hown : s.vm.findClass "java/util/ArrayList" = some m.cls := findClass_of_methodNamed Bd.named
  have hnm := (name_of_methodNamed Bd.named Bd.method).1
  have X0 : Stand p l e ({ frames := 2, cells := 1, slots := 4, locals := 26 } : Room) s m #[(.ref a1)] below meth c s₁ [] 0 0 := Stand.of_body Bd
  have e0 : s₁.heap = h0 := by rw [← hh, Bd.state]; rfl
  have N0 := Fr.nil n0
  show OGot p.tables e below (s₁.setTop (entryFrame m #[(.ref a1)] 1)) _
  refine OGot.go (fun t k => castTop (ef14 m a1) k) ?_
  show OGot p.tables e below (s₁.setTop (mkF m 0 #[.val (.ref a1)] [])) _
  obtain ⟨T2, h2, X2, e2, E2, A2, D2, -, st2⟩ := newO X0 hx hZ hown (ow hw 113 rfl) (ow hw 114 rfl) (ow hw 115 rfl) e0 (g := (mkF m 0 #[.val (.ref a1)] [])) rfl (hb hby d14_0) (by decide) (by decide)
  obtain ⟨b2, g2⟩ : ∃ z, z = h0.size := ⟨_, rfl⟩
  rw [← g2] at A2 D2 st2
  refine OGot.go st2 ?_
  have g_b2 : n0 ≤ b2 := Nat.le_trans (osz O0) (Nat.le_of_eq g2.symm)
  have sy_b2 : h0.size ≤ b2 := Nat.le_of_eq g2.symm
  have sz_b2 : h0.size ≤ b2 := Nat.le_trans (OKeep.refl h0 []).1 sy_b2
  have K2 := (OKeep.refl h0 []).ext E2
  have O2 := O0.ext E2
  have F2_this_0 : Fld Z h2 b2 "java/util/ArrayList$Itr" "this$0" "Ljava/util/ArrayList;" .null := D2 (Or.inr (ow hw 121 rfl)) (ty := (.object "java/util/ArrayList")) (by decide)
  have F2_lastRet : Fld Z h2 b2 "java/util/ArrayList$Itr" "lastRet" "I" (.int (0 : Int32)) := D2 (Or.inl (ow hw 124 rfl)) (ty := .int) (by decide)
  have F2_expectedModCount : Fld Z h2 b2 "java/util/ArrayList$Itr" "expectedModCount" "I" (.int (0 : Int32)) := D2 (Or.inl (ow hw 127 rfl)) (ty := .int) (by decide)
  have F2_cursor : Fld Z h2 b2 "java/util/ArrayList$Itr" "cursor" "I" (.int (0 : Int32)) := D2 (Or.inl (ow hw 138 rfl)) (ty := .int) (by decide)
  refine OGot.go (fun t k => XS.dup X2.here hx rfl (hb hby d14_3) rfl rfl k) ?_
  refine OGot.go (fun t k => XS.aloadN X2.here hx rfl (hb hby d14_4) rfl rfl k) ?_
  have ne3 : a1 ≠ b2 := (Nat.ne_of_lt (Nat.lt_of_lt_of_le F_modCount_a1.lt sy_b2))
  have F5 : Fld Z h2 a1 "java/util/AbstractList" "modCount" "I" (.int (1 : Int32)) := (F_modCount_a1.ext E2)
  obtain ⟨_, _, ⟨T4, L4, k4, n4⟩, -, X4, ⟨Lc4, hQ4, l4, y4, z4⟩, st4⟩ := X2.specialBack hx (y := (⟨"java/util/ArrayList$Itr", "<init>", "(Ljava/util/ArrayList;)V"⟩ : MethodName)) rfl hown (mvT hZ (ow hw 116 rfl)) (mvT hZ (ow hw 117 rfl)) (mvT hZ (ow hw 119 rfl)) (by decide) (backOf (W := 1) (rm15 l Z a0 hw [] G b2 a1 h2 n0 O2 A2 F2_this_0 g_b2 F2_lastRet F5 ne3 F2_expectedModCount) hZ (ow hw 119 rfl) (ow hw 115 rfl) (by decide) (by decide)) (g := (mkF m 5 #[.val (.ref a1)] [(.ref a1), (.ref b2), (.ref b2)])) rfl (by rw [hml]; rfl) (Steps.refl _) (a := b2) (argsL := [(.ref a1)]) (rest := [(.ref b2)]) (lenOf pd_14 rfl) rfl (by show 2 * 0 + _ ≤ _; exact Nat.le_of_eq rfl) (hb hby d14_5) (fun _ _ => ⟨rfl, e2, (by decide : 1 + 0 ≤ _), (by decide : 4 + 0 ≤ _)⟩)
  dsimp only [Pt.U, Pt.locs, Pt.cells, Pt.slots] at X4 l4 y4 z4 st4 hQ4
  subst l4 y4 z4
  obtain ⟨N4q, rfl, K4, Fo4_0, Fo4_1, Fo4_2⟩ := hQ4
  have Kc4 := K2.trans K4 (oinS (Or.inr sz_b2) (oinS (Or.inr sz_b2) (oinS (Or.inr sz_b2) oin0)))
  have O4 := OKeep.old O2 K4 (ogeS g_b2 (ogeS g_b2 (ogeS g_b2 oge0)))
  have N4 := Fr.app N0 N4q
  refine OGot.on st4 ?_
  show OGot p.tables e below (T4.setTop (mkF m 8 #[.val (.ref a1)] [(.ref b2)])) _
  obtain ⟨fs, hr, hrun, hended, hW, hsame⟩ := X4.leave (v := some (.ref b2)) (fun h => by rw [Bd.returns] at h; cases h)
  refine ⟨_, _, oretA X4 hx Bd.returns rfl rfl (hb hby d14_8) hr, hrun, hended, _, _, rfl, ?_, ⟨_, rfl⟩, hW, hsame.mono (by decide) (by decide)⟩
  have F6 : Fld Z T4.heap b2 "java/util/ArrayList$Itr" "cursor" "I" (.int (0 : Int32)) := (OKeep.fld F2_cursor K4 (oninS (slot_ne (Or.inl (ow hw 138 rfl)) (Or.inr (ow hw 121 rfl)) (by decide) (t := .int) (t' := (.object "java/util/ArrayList")) (by decide) (by decide)) (oninS (slot_ne (Or.inl (ow hw 138 rfl)) (Or.inl (ow hw 124 rfl)) (by decide) (t := .int) (t' := .int) (by decide) (by decide)) (oninS (slot_ne (Or.inl (ow hw 138 rfl)) (Or.inl (ow hw 127 rfl)) (by decide) (t := .int) (t' := .int) (by decide) (by decide)) onin0))))
  show Q14 Z w_LOWEST w_HIGHEST w_EMPTY_ELEMENTDATA w_DEFAULTCAPACITY_EMPTY_ELEMENTDATA k_w_EMPTY_ELEMENTDATA k_w_DEFAULTCAPACITY_EMPTY_ELEMENTDATA a1 h0 n0 _ T4.heap _
  exact ⟨N4, b2, rfl, sz_b2, Kc4, (OKeep.exa A2 K4), F6, Fo4_2, Fo4_1, Fo4_0⟩
theorem pd_15 : parseMethodDescriptor "()Ljava/util/Iterator;" = some ⟨[], some (.object "java/util/Iterator")⟩ := by decide +kernel
theorem d12_32 : decode prog_24_method_1_code 32 = .ok (.astore 5, 2) := by decide +kernel
theorem d12_34 : decode prog_24_method_1_code 34 = .ok (.aload 5, 2) := by decide +kernel
theorem d12_36 : decode prog_24_method_1_code 36 = .ok (.invokeinterface 30 1, 5) := by decide +kernel
theorem d16_0 : decode jdk_49_method_2_code 0 = .ok (.aload_n 0, 1) := by decide +kernel
theorem d16_1 : decode jdk_49_method_2_code 1 = .ok (.getfield 25, 3) := by decide +kernel
theorem d16_4 : decode jdk_49_method_2_code 4 = .ok (.aload_n 0, 1) := by decide +kernel
theorem d16_5 : decode jdk_49_method_2_code 5 = .ok (.getfield 1, 3) := by decide +kernel
theorem d16_8 : decode jdk_49_method_2_code 8 = .ok (.getfield 28, 3) := by decide +kernel
theorem d16_11 : decode jdk_49_method_2_code 11 = .ok (.if_icmp .eq 7, 3) := by decide +kernel
theorem d16_14 : decode jdk_49_method_2_code 14 = .ok (.iconst 1, 1) := by decide +kernel
theorem d16_15 : decode jdk_49_method_2_code 15 = .ok (.goto 4, 3) := by decide +kernel
theorem d16_19 : decode jdk_49_method_2_code 19 = .ok (.ireturn, 1) := by decide +kernel
def Q16 (Z : State) (w_LOWEST : Addr) (w_HIGHEST : Addr) (w_EMPTY_ELEMENTDATA : Addr) (w_DEFAULTCAPACITY_EMPTY_ELEMENTDATA : Addr) (k_w_EMPTY_ELEMENTDATA : ClassId) (k_w_DEFAULTCAPACITY_EMPTY_ELEMENTDATA : ClassId) (a1 : Addr) (a3 : Addr) (h0 : Heap) (n0 : Nat) (v : Option Value) (h : Heap) (L : List Loc) : Prop := v = some (.int (1 : Int32)) ∧ Fr n0 L ∧ h = h0
theorem ef16 (m : MethodId) (x0 : Addr) : entryFrame m #[(.ref x0)] 1 = mkF m 0 #[.val (.ref x0)] [] := by first | (simp [entryFrame, mkF, argsToLocals, Value.category]; done) | rfl
set_option maxRecDepth 65536 in
set_option maxHeartbeats 40000000 in
theorem rm16 (l : Launch) (Z : State) (a0 : Array Value) (hw : ∀ d ∈ tables_1, d.before a0 Z = true) (ws : List Jvm.Cond) {w_LOWEST : Addr} {w_HIGHEST : Addr} {w_EMPTY_ELEMENTDATA : Addr} {w_DEFAULTCAPACITY_EMPTY_ELEMENTDATA : Addr} {k_w_EMPTY_ELEMENTDATA : ClassId} {k_w_DEFAULTCAPACITY_EMPTY_ELEMENTDATA : ClassId} (G : Glob Z w_LOWEST w_HIGHEST w_EMPTY_ELEMENTDATA w_DEFAULTCAPACITY_EMPTY_ELEMENTDATA k_w_EMPTY_ELEMENTDATA k_w_DEFAULTCAPACITY_EMPTY_ELEMENTDATA) (a1 : Addr) (a3 : Addr) (h0 : Heap) (n0 : Nat) (O0 : Old Z n0 h0) (F_cursor_a1 : Fld Z h0 a1 "java/util/ArrayList$Itr" "cursor" "I" (.int (0 : Int32))) (F_this_0_a1 : Fld Z h0 a1 "java/util/ArrayList$Itr" "this$0" "Ljava/util/ArrayList;" (.ref a3)) (F_size_a3 : Fld Z h0 a3 "java/util/ArrayList" "size" "I" (.int (1 : Int32))) :
    MetFree l (⟨"java/util/ArrayList$Itr", "hasNext", "()Z"⟩ : MethodName) (head1 (Jvm.Cond.code (⟨"java/util/ArrayList$Itr", "hasNext", "()Z"⟩ : MethodName) jdk_49_method_2_code 1 (some .boolean) :: ws) ({ frames := 0, cells := 0, slots := 0, locals := 0 } : Room)) (fun a U => a = #[(.ref a1)] ∧ Z.Warmed39 U.vm ∧ U.heap = h0) (fun _ _ _ _ _ => True) (fun _ U o U' => ∃ v L, o = .returned v ∧ Q16 Z w_LOWEST w_HIGHEST w_EMPTY_ELEMENTDATA w_DEFAULTCAPACITY_EMPTY_ELEMENTDATA k_w_EMPTY_ELEMENTDATA k_w_DEFAULTCAPACITY_EMPTY_ELEMENTDATA a1 a3 h0 n0 v U'.heap L ∧ FrameEnd U o U' L ({ frames := 0, cells := 0, slots := 0, locals := 0 } : Room).cells ({ frames := 0, cells := 0, slots := 0, locals := 0 } : Room).slots) := by
  refine MetFree.of_bodySF (plainFor_of_name pn_java_util_ArrayList_Itr) hisR ?_
  intro p e s m args below meth c s₁ Bd hml0 hP hK
  obtain ⟨rfl, hZ, hh⟩ := hP
  have hx := Bd.exec
  have hby := Bd.bytes
  have hml : c.maxLocals = 1 := hml0
  have hown : s.vm.findClass "java/util/ArrayList$Itr" = some m.cls := findClass_of_methodNamed Bd.named
  have hnm := (name_of_methodNamed Bd.named Bd.method).1
  have X0 : Stand p l e ({ frames := 0, cells := 0, slots := 0, locals := 0 } : Room) s m #[(.ref a1)] below meth c s₁ [] 0 0 := Stand.of_body Bd
  have e0 : s₁.heap = h0 := by rw [← hh, Bd.state]; rfl
  have N0 := Fr.nil n0
  show OGot p.tables e below (s₁.setTop (entryFrame m #[(.ref a1)] 1)) _
  refine OGot.go (fun t k => castTop (ef16 m a1) k) ?_
  show OGot p.tables e below (s₁.setTop (mkF m 0 #[.val (.ref a1)] [])) _
  refine OGot.go (fun t k => XS.aloadN X0.here hx rfl (hb hby d16_0) rfl rfl k) ?_
  obtain ⟨T2, X2, e2, st2⟩ := getF X0 hx hZ hown (host := "") (Or.inl (ow hw 137 rfl)) Via.refl e0 F_cursor_a1 (g := (mkF m 1 #[.val (.ref a1)] [(.ref a1)])) rfl rfl (hb hby d16_1)
  refine OGot.go st2 ?_
  refine OGot.go (fun t k => XS.aloadN X2.here hx rfl (hb hby d16_4) rfl rfl k) ?_
  obtain ⟨T4, X4, e4, st4⟩ := getF X2 hx hZ hown (host := "") (Or.inl (ow hw 120 rfl)) Via.refl e2 F_this_0_a1 (g := (mkF m 5 #[.val (.ref a1)] [(.ref a1), (.int (0 : Int32))])) rfl rfl (hb hby d16_5)
  refine OGot.go st4 ?_
  obtain ⟨T5, X5, e5, st5⟩ := getF X4 hx hZ hown (Or.inr (ow hw 139 rfl)) Via.refl e4 F_size_a3 (g := (mkF m 8 #[.val (.ref a1)] [(.ref a3), (.int (0 : Int32))])) rfl rfl (hb hby d16_8)
  refine OGot.go st5 ?_
  refine OGot.go (fun t k => XS.icmpNo X5.here hx rfl (hb hby d16_11) rfl (by decide) k) ?_
  show OGot p.tables e below (T5.setTop (mkF m 14 #[.val (.ref a1)] [])) _
  refine OGot.go (fun t k => XS.iconst X5.here hx rfl (hb hby d16_14) k) ?_
  refine OGot.go (fun t k => XS.goto X5.here hx rfl (pc0 := 15) (pc' := 19) rfl (hb hby d16_15) (by decide) (by decide) k) ?_
  show OGot p.tables e below (T5.setTop (mkF m 19 #[.val (.ref a1)] [(.int (1 : Int32))])) _
  obtain ⟨fs, hr, hrun, hended, hW, hsame⟩ := X5.leave (v := some (.int (1 : Int32))) (fun h => by rw [Bd.returns] at h; cases h)
  refine ⟨_, _, retN X5 hx (t := .boolean) Bd.returns (by simp) (hb hby d16_19) hr, hrun, hended, _, _, rfl, ?_, ⟨_, rfl⟩, hW, hsame.mono (by decide) (by decide)⟩
  exact (⟨rfl, N0, e5⟩ : Q16 Z w_LOWEST w_HIGHEST w_EMPTY_ELEMENTDATA w_DEFAULTCAPACITY_EMPTY_ELEMENTDATA k_w_EMPTY_ELEMENTDATA k_w_DEFAULTCAPACITY_EMPTY_ELEMENTDATA a1 a3 h0 n0 _ T5.heap _)
theorem d12_41 : decode prog_24_method_1_code 41 = .ok (.ifCond .eq 24, 3) := by decide +kernel
theorem d12_44 : decode prog_24_method_1_code 44 = .ok (.aload 5, 2) := by decide +kernel
theorem d12_46 : decode prog_24_method_1_code 46 = .ok (.invokeinterface 36 1, 5) := by decide +kernel
theorem d17_0 : decode jdk_49_method_3_code 0 = .ok (.aload_n 0, 1) := by decide +kernel
theorem d17_1 : decode jdk_49_method_3_code 1 = .ok (.invokevirtual 31, 3) := by decide +kernel
theorem d18_0 : decode jdk_49_method_6_code 0 = .ok (.aload_n 0, 1) := by decide +kernel
theorem d18_1 : decode jdk_49_method_6_code 1 = .ok (.getfield 1, 3) := by decide +kernel
theorem d18_4 : decode jdk_49_method_6_code 4 = .ok (.getfield 17, 3) := by decide +kernel
theorem d18_7 : decode jdk_49_method_6_code 7 = .ok (.aload_n 0, 1) := by decide +kernel
theorem d18_8 : decode jdk_49_method_6_code 8 = .ok (.getfield 22, 3) := by decide +kernel
theorem d18_11 : decode jdk_49_method_6_code 11 = .ok (.if_icmp .eq 11, 3) := by decide +kernel
theorem d18_22 : decode jdk_49_method_6_code 22 = .ok (.return_, 1) := by decide +kernel
def Q18 (Z : State) (w_LOWEST : Addr) (w_HIGHEST : Addr) (w_EMPTY_ELEMENTDATA : Addr) (w_DEFAULTCAPACITY_EMPTY_ELEMENTDATA : Addr) (k_w_EMPTY_ELEMENTDATA : ClassId) (k_w_DEFAULTCAPACITY_EMPTY_ELEMENTDATA : ClassId) (a1 : Addr) (a2 : Addr) (h0 : Heap) (n0 : Nat) (v : Option Value) (h : Heap) (L : List Loc) : Prop := v = none ∧ Fr n0 L ∧ h = h0
theorem ef18 (m : MethodId) (x0 : Addr) : entryFrame m #[(.ref x0)] 1 = mkF m 0 #[.val (.ref x0)] [] := by first | (simp [entryFrame, mkF, argsToLocals, Value.category]; done) | rfl
set_option maxRecDepth 65536 in
set_option maxHeartbeats 40000000 in
theorem rm18 (l : Launch) (Z : State) (a0 : Array Value) (hw : ∀ d ∈ tables_1, d.before a0 Z = true) (ws : List Jvm.Cond) {w_LOWEST : Addr} {w_HIGHEST : Addr} {w_EMPTY_ELEMENTDATA : Addr} {w_DEFAULTCAPACITY_EMPTY_ELEMENTDATA : Addr} {k_w_EMPTY_ELEMENTDATA : ClassId} {k_w_DEFAULTCAPACITY_EMPTY_ELEMENTDATA : ClassId} (G : Glob Z w_LOWEST w_HIGHEST w_EMPTY_ELEMENTDATA w_DEFAULTCAPACITY_EMPTY_ELEMENTDATA k_w_EMPTY_ELEMENTDATA k_w_DEFAULTCAPACITY_EMPTY_ELEMENTDATA) (a1 : Addr) (a2 : Addr) (h0 : Heap) (n0 : Nat) (O0 : Old Z n0 h0) (F_this_0_a1 : Fld Z h0 a1 "java/util/ArrayList$Itr" "this$0" "Ljava/util/ArrayList;" (.ref a2)) (F_modCount_a2 : Fld Z h0 a2 "java/util/AbstractList" "modCount" "I" (.int (1 : Int32))) (F_expectedModCount_a1 : Fld Z h0 a1 "java/util/ArrayList$Itr" "expectedModCount" "I" (.int (1 : Int32))) :
    MetFree l (⟨"java/util/ArrayList$Itr", "checkForComodification", "()V"⟩ : MethodName) (head1 (Jvm.Cond.code (⟨"java/util/ArrayList$Itr", "checkForComodification", "()V"⟩ : MethodName) jdk_49_method_6_code 1 none :: ws) ({ frames := 0, cells := 0, slots := 0, locals := 0 } : Room)) (fun a U => a = #[(.ref a1)] ∧ Z.Warmed39 U.vm ∧ U.heap = h0) (fun _ _ _ _ _ => True) (fun _ U o U' => ∃ v L, o = .returned v ∧ Q18 Z w_LOWEST w_HIGHEST w_EMPTY_ELEMENTDATA w_DEFAULTCAPACITY_EMPTY_ELEMENTDATA k_w_EMPTY_ELEMENTDATA k_w_DEFAULTCAPACITY_EMPTY_ELEMENTDATA a1 a2 h0 n0 v U'.heap L ∧ FrameEnd U o U' L ({ frames := 0, cells := 0, slots := 0, locals := 0 } : Room).cells ({ frames := 0, cells := 0, slots := 0, locals := 0 } : Room).slots) := by
  refine MetFree.of_bodySF (plainFor_of_name pn_java_util_ArrayList_Itr) hisR ?_
  intro p e s m args below meth c s₁ Bd hml0 hP hK
  obtain ⟨rfl, hZ, hh⟩ := hP
  have hx := Bd.exec
  have hby := Bd.bytes
  have hml : c.maxLocals = 1 := hml0
  have hown : s.vm.findClass "java/util/ArrayList$Itr" = some m.cls := findClass_of_methodNamed Bd.named
  have hnm := (name_of_methodNamed Bd.named Bd.method).1
  have X0 : Stand p l e ({ frames := 0, cells := 0, slots := 0, locals := 0 } : Room) s m #[(.ref a1)] below meth c s₁ [] 0 0 := Stand.of_body Bd
  have e0 : s₁.heap = h0 := by rw [← hh, Bd.state]; rfl
  have N0 := Fr.nil n0
  show OGot p.tables e below (s₁.setTop (entryFrame m #[(.ref a1)] 1)) _
  refine OGot.go (fun t k => castTop (ef18 m a1) k) ?_
  show OGot p.tables e below (s₁.setTop (mkF m 0 #[.val (.ref a1)] [])) _
  refine OGot.go (fun t k => XS.aloadN X0.here hx rfl (hb hby d18_0) rfl rfl k) ?_
  obtain ⟨T3, X3, e3, st3⟩ := getF X0 hx hZ hown (host := "") (Or.inl (ow hw 120 rfl)) Via.refl e0 F_this_0_a1 (g := (mkF m 1 #[.val (.ref a1)] [(.ref a1)])) rfl rfl (hb hby d18_1)
  refine OGot.go st3 ?_
  obtain ⟨T4, X4, e4, st4⟩ := getF X3 hx hZ hown (host := "") (Or.inl (ow hw 125 rfl)) (Via.of (ow hw 56 rfl)) e3 F_modCount_a2 (g := (mkF m 4 #[.val (.ref a1)] [(.ref a2)])) rfl rfl (hb hby d18_4)
  refine OGot.go st4 ?_
  refine OGot.go (fun t k => XS.aloadN X4.here hx rfl (hb hby d18_7) rfl rfl k) ?_
  obtain ⟨T5, X5, e5, st5⟩ := getF X4 hx hZ hown (host := "") (Or.inl (ow hw 126 rfl)) Via.refl e4 F_expectedModCount_a1 (g := (mkF m 8 #[.val (.ref a1)] [(.ref a1), (.int (1 : Int32))])) rfl rfl (hb hby d18_8)
  refine OGot.go st5 ?_
  refine OGot.go (fun t k => XS.icmpYes X5.here hx rfl (pc0 := 11) (pc' := 22) rfl (hb hby d18_11) rfl (by decide) (by decide) (by decide) k) ?_
  show OGot p.tables e below (T5.setTop (mkF m 22 #[.val (.ref a1)] [])) _
  obtain ⟨fs, hr, hrun, hended, hW, hsame⟩ := X5.leave (v := none) (fun _ => rfl)
  refine ⟨_, _, X5.returnOut hx Bd.returns (hb hby d18_22) hr, hrun, hended, _, _, rfl, ?_, ⟨_, rfl⟩, hW, hsame.mono (by decide) (by decide)⟩
  exact (⟨rfl, N0, e5⟩ : Q18 Z w_LOWEST w_HIGHEST w_EMPTY_ELEMENTDATA w_DEFAULTCAPACITY_EMPTY_ELEMENTDATA k_w_EMPTY_ELEMENTDATA k_w_DEFAULTCAPACITY_EMPTY_ELEMENTDATA a1 a2 h0 n0 _ T5.heap _)
theorem d17_4 : decode jdk_49_method_3_code 4 = .ok (.aload_n 0, 1) := by decide +kernel
theorem d17_5 : decode jdk_49_method_3_code 5 = .ok (.getfield 25, 3) := by decide +kernel
theorem d17_8 : decode jdk_49_method_3_code 8 = .ok (.istore_n 1, 1) := by decide +kernel
theorem d17_9 : decode jdk_49_method_3_code 9 = .ok (.iload_n 1, 1) := by decide +kernel
theorem d17_10 : decode jdk_49_method_3_code 10 = .ok (.aload_n 0, 1) := by decide +kernel
theorem d17_11 : decode jdk_49_method_3_code 11 = .ok (.getfield 1, 3) := by decide +kernel
theorem d17_14 : decode jdk_49_method_3_code 14 = .ok (.getfield 28, 3) := by decide +kernel
theorem d17_17 : decode jdk_49_method_3_code 17 = .ok (.if_icmp .lt 11, 3) := by decide +kernel
theorem d17_28 : decode jdk_49_method_3_code 28 = .ok (.aload_n 0, 1) := by decide +kernel
theorem d17_29 : decode jdk_49_method_3_code 29 = .ok (.getfield 1, 3) := by decide +kernel
theorem d17_32 : decode jdk_49_method_3_code 32 = .ok (.getfield 37, 3) := by decide +kernel
theorem d17_35 : decode jdk_49_method_3_code 35 = .ok (.astore_n 2, 1) := by decide +kernel
theorem d17_36 : decode jdk_49_method_3_code 36 = .ok (.iload_n 1, 1) := by decide +kernel
theorem d17_37 : decode jdk_49_method_3_code 37 = .ok (.aload_n 2, 1) := by decide +kernel
theorem d17_38 : decode jdk_49_method_3_code 38 = .ok (.arraylength, 1) := by decide +kernel
theorem d17_39 : decode jdk_49_method_3_code 39 = .ok (.if_icmp .lt 11, 3) := by decide +kernel
theorem d17_50 : decode jdk_49_method_3_code 50 = .ok (.aload_n 0, 1) := by decide +kernel
theorem d17_51 : decode jdk_49_method_3_code 51 = .ok (.iload_n 1, 1) := by decide +kernel
theorem d17_52 : decode jdk_49_method_3_code 52 = .ok (.iconst 1, 1) := by decide +kernel
theorem d17_53 : decode jdk_49_method_3_code 53 = .ok (.iadd, 1) := by decide +kernel
theorem d17_54 : decode jdk_49_method_3_code 54 = .ok (.putfield 25, 3) := by decide +kernel
theorem d17_57 : decode jdk_49_method_3_code 57 = .ok (.aload_n 2, 1) := by decide +kernel
theorem d17_58 : decode jdk_49_method_3_code 58 = .ok (.aload_n 0, 1) := by decide +kernel
theorem d17_59 : decode jdk_49_method_3_code 59 = .ok (.iload_n 1, 1) := by decide +kernel
theorem d17_60 : decode jdk_49_method_3_code 60 = .ok (.dup_x1, 1) := by decide +kernel
theorem d17_61 : decode jdk_49_method_3_code 61 = .ok (.putfield 13, 3) := by decide +kernel
theorem d17_64 : decode jdk_49_method_3_code 64 = .ok (.aaload, 1) := by decide +kernel
theorem d17_65 : decode jdk_49_method_3_code 65 = .ok (.areturn, 1) := by decide +kernel
def Q17 (Z : State) (w_LOWEST : Addr) (w_HIGHEST : Addr) (w_EMPTY_ELEMENTDATA : Addr) (w_DEFAULTCAPACITY_EMPTY_ELEMENTDATA : Addr) (k_w_EMPTY_ELEMENTDATA : ClassId) (k_w_DEFAULTCAPACITY_EMPTY_ELEMENTDATA : ClassId) (a1 : Addr) (a2 : Addr) (a8 : Addr) (k10 : ClassId) (a11 : Addr) (h0 : Heap) (n0 : Nat) (v : Option Value) (h : Heap) (L : List Loc) : Prop := Fr n0 L ∧ v = some (.ref a11) ∧ OKeep h0 h [(a1, Jvm.RoadKit.slotOf Z "java/util/ArrayList$Itr" "cursor" "I"), (a1, Jvm.RoadKit.slotOf Z "java/util/ArrayList$Itr" "lastRet" "I")] ∧ Fld Z h a1 "java/util/ArrayList$Itr" "cursor" "I" (.int (1 : Int32)) ∧ Fld Z h a1 "java/util/ArrayList$Itr" "lastRet" "I" (.int (0 : Int32))
theorem ef17 (m : MethodId) (x0 : Addr) : entryFrame m #[(.ref x0)] 3 = mkF m 0 #[.val (.ref x0), .unset, .unset] [] := by first | (simp [entryFrame, mkF, argsToLocals, Value.category]; done) | rfl
set_option maxRecDepth 65536 in
set_option maxHeartbeats 40000000 in
theorem rm17 (l : Launch) (Z : State) (a0 : Array Value) (hw : ∀ d ∈ tables_1, d.before a0 Z = true) (ws : List Jvm.Cond) {w_LOWEST : Addr} {w_HIGHEST : Addr} {w_EMPTY_ELEMENTDATA : Addr} {w_DEFAULTCAPACITY_EMPTY_ELEMENTDATA : Addr} {k_w_EMPTY_ELEMENTDATA : ClassId} {k_w_DEFAULTCAPACITY_EMPTY_ELEMENTDATA : ClassId} (G : Glob Z w_LOWEST w_HIGHEST w_EMPTY_ELEMENTDATA w_DEFAULTCAPACITY_EMPTY_ELEMENTDATA k_w_EMPTY_ELEMENTDATA k_w_DEFAULTCAPACITY_EMPTY_ELEMENTDATA) (a1 : Addr) (a2 : Addr) (a8 : Addr) (k10 : ClassId) (a11 : Addr) (h0 : Heap) (n0 : Nat) (O0 : Old Z n0 h0) (E_a1 : Exa Z h0 a1 "java/util/ArrayList$Itr") (F_this_0_a1 : Fld Z h0 a1 "java/util/ArrayList$Itr" "this$0" "Ljava/util/ArrayList;" (.ref a2)) (F_modCount_a2 : Fld Z h0 a2 "java/util/AbstractList" "modCount" "I" (.int (1 : Int32))) (F_expectedModCount_a1 : Fld Z h0 a1 "java/util/ArrayList$Itr" "expectedModCount" "I" (.int (1 : Int32))) (F_cursor_a1 : Fld Z h0 a1 "java/util/ArrayList$Itr" "cursor" "I" (.int (0 : Int32))) (F_size_a2 : Fld Z h0 a2 "java/util/ArrayList" "size" "I" (.int (1 : Int32))) (F_elementData_a2 : Fld Z h0 a2 "java/util/ArrayList" "elementData" "[Ljava/lang/Object;" (.ref a8)) (V_a8 : Arv Z h0 a8 k10 (.object "java/lang/Object") (10 : Int32) [(.ref a11), .null, .null, .null, .null, .null, .null, .null, .null, .null] .null) (O_k10 : Ovr Z k10 "java/lang/Object") (g_a1 : n0 ≤ a1) (F_lastRet_a1 : Fld Z h0 a1 "java/util/ArrayList$Itr" "lastRet" "I" (.int (-1 : Int32))) (ne_a8_a1 : a8 ≠ a1) :
    MetFree l (⟨"java/util/ArrayList$Itr", "next", "()Ljava/lang/Object;"⟩ : MethodName) (head1 (Jvm.Cond.code (⟨"java/util/ArrayList$Itr", "next", "()Ljava/lang/Object;"⟩ : MethodName) jdk_49_method_3_code 3 (some (.object "java/lang/Object")) :: ws) ({ frames := 1, cells := 0, slots := 0, locals := 12 } : Room)) (fun a U => a = #[(.ref a1)] ∧ Z.Warmed39 U.vm ∧ U.heap = h0) (fun _ _ _ _ _ => True) (fun _ U o U' => ∃ v L, o = .returned v ∧ Q17 Z w_LOWEST w_HIGHEST w_EMPTY_ELEMENTDATA w_DEFAULTCAPACITY_EMPTY_ELEMENTDATA k_w_EMPTY_ELEMENTDATA k_w_DEFAULTCAPACITY_EMPTY_ELEMENTDATA a1 a2 a8 k10 a11 h0 n0 v U'.heap L ∧ FrameEnd U o U' L ({ frames := 1, cells := 0, slots := 0, locals := 12 } : Room).cells ({ frames := 1, cells := 0, slots := 0, locals := 12 } : Room).slots) := by
  refine MetFree.of_bodySF (plainFor_of_name pn_java_util_ArrayList_Itr) hisR ?_
  intro p e s m args below meth c s₁ Bd hml0 hP hK
  obtain ⟨rfl, hZ, hh⟩ := hP
  have hx := Bd.exec
  have hby := Bd.bytes
  have hml : c.maxLocals = 3 := hml0
  have hown : s.vm.findClass "java/util/ArrayList$Itr" = some m.cls := findClass_of_methodNamed Bd.named
  have hnm := (name_of_methodNamed Bd.named Bd.method).1
  have X0 : Stand p l e ({ frames := 1, cells := 0, slots := 0, locals := 12 } : Room) s m #[(.ref a1)] below meth c s₁ [] 0 0 := Stand.of_body Bd
  have e0 : s₁.heap = h0 := by rw [← hh, Bd.state]; rfl
  have N0 := Fr.nil n0
  show OGot p.tables e below (s₁.setTop (entryFrame m #[(.ref a1)] 3)) _
  refine OGot.go (fun t k => castTop (ef17 m a1) k) ?_
  show OGot p.tables e below (s₁.setTop (mkF m 0 #[.val (.ref a1), .unset, .unset] [])) _
  refine OGot.go (fun t k => XS.aloadN X0.here hx rfl (hb hby d17_0) rfl rfl k) ?_
  obtain ⟨cq3, kq3, q3a, q3b, q3c⟩ := isOf hZ e0 E_a1
  obtain ⟨_, _, ⟨T3, L3, k3, n3⟩, -, X3, ⟨Lc3, hQ3, l3, y3, z3⟩, st3⟩ := X0.virtualBack hx (y := (⟨"java/util/ArrayList$Itr", "checkForComodification", "()V"⟩ : MethodName)) (z := (⟨"java/util/ArrayList$Itr", "checkForComodification", "()V"⟩ : MethodName)) hown (mvT hZ (ow hw 148 rfl)) (mvT hZ (ow hw 149 rfl)) (notFace_of_selects (args := #[]) (mvT hZ (ow hw 151 rfl))) (mvT hZ (ow hw 151 rfl)) (mvT hZ (ow hw 150 rfl)) (by decide) (backOf (W := 0) (rm18 l Z a0 hw [] G a1 a2 h0 n0 O0 F_this_0_a1 F_modCount_a2 F_expectedModCount_a1) hZ (ow hw 152 rfl) (ow hw 115 rfl) (by decide) (by decide)) q3a q3c (g := (mkF m 1 #[.val (.ref a1), .unset, .unset] [(.ref a1)])) rfl (by rw [hml]; rfl) (Steps.refl _) (argsL := []) (rest := []) (lenOf pd_7 rfl) rfl (by show 2 * 0 + _ ≤ _; exact Nat.le_of_eq rfl) (hb hby d17_1) (fun _ _ => ⟨rfl, e0, (by decide : 0 + 0 ≤ _), (by decide : 0 + 0 ≤ _)⟩)
  dsimp only [Pt.U, Pt.locs, Pt.cells, Pt.slots] at X3 l3 y3 z3 st3 hQ3
  subst l3 y3 z3
  obtain ⟨rfl, N3q, e3⟩ := hQ3
  have N3 := Fr.app N0 N3q
  refine OGot.on st3 ?_
  refine OGot.go (fun t k => XS.aloadN X3.here hx rfl (hb hby d17_4) rfl rfl k) ?_
  obtain ⟨T4, X4, e4, st4⟩ := getF X3 hx hZ hown (host := "") (Or.inl (ow hw 137 rfl)) Via.refl e3 F_cursor_a1 (g := (mkF m 5 #[.val (.ref a1), .unset, .unset] [(.ref a1)])) rfl rfl (hb hby d17_5)
  refine OGot.go st4 ?_
  refine OGot.go (fun t k => XS.istoreN X4.here hx rfl (hb hby d17_8) rfl (l' := #[.val (.ref a1), .val (.int (0 : Int32)), .unset]) rfl k) ?_
  refine OGot.go (fun t k => XS.iloadN X4.here hx rfl (hb hby d17_9) rfl k) ?_
  show OGot p.tables e below (T4.setTop (mkF m 10 #[.val (.ref a1), .val (.int (0 : Int32)), .unset] [(.int (0 : Int32))])) _
  refine OGot.go (fun t k => XS.aloadN X4.here hx rfl (hb hby d17_10) rfl rfl k) ?_
  obtain ⟨T5, X5, e5, st5⟩ := getF X4 hx hZ hown (host := "") (Or.inl (ow hw 120 rfl)) Via.refl e4 F_this_0_a1 (g := (mkF m 11 #[.val (.ref a1), .val (.int (0 : Int32)), .unset] [(.ref a1), (.int (0 : Int32))])) rfl rfl (hb hby d17_11)
  refine OGot.go st5 ?_
  obtain ⟨T6, X6, e6, st6⟩ := getF X5 hx hZ hown (Or.inr (ow hw 139 rfl)) Via.refl e5 F_size_a2 (g := (mkF m 14 #[.val (.ref a1), .val (.int (0 : Int32)), .unset] [(.ref a2), (.int (0 : Int32))])) rfl rfl (hb hby d17_14)
  refine OGot.go st6 ?_
  refine OGot.go (fun t k => XS.icmpYes X6.here hx rfl (pc0 := 17) (pc' := 28) rfl (hb hby d17_17) rfl (by decide) (by decide) (by decide) k) ?_
  refine OGot.go (fun t k => XS.aloadN X6.here hx rfl (hb hby d17_28) rfl rfl k) ?_
  obtain ⟨T7, X7, e7, st7⟩ := getF X6 hx hZ hown (host := "") (Or.inl (ow hw 120 rfl)) Via.refl e6 F_this_0_a1 (g := (mkF m 29 #[.val (.ref a1), .val (.int (0 : Int32)), .unset] [(.ref a1)])) rfl rfl (hb hby d17_29)
  refine OGot.go st7 ?_
  show OGot p.tables e below (T7.setTop (mkF m 32 #[.val (.ref a1), .val (.int (0 : Int32)), .unset] [(.ref a2)])) _
  obtain ⟨T9, X9, e9, st9⟩ := getF X7 hx hZ hown (host := "") (Or.inl (ow hw 153 rfl)) Via.refl e7 F_elementData_a2 (g := (mkF m 32 #[.val (.ref a1), .val (.int (0 : Int32)), .unset] [(.ref a2)])) rfl rfl (hb hby d17_32)
  refine OGot.go st9 ?_
  refine OGot.go (fun t k => XS.astoreN X9.here hx rfl (hb hby d17_35) rfl rfl (l' := #[.val (.ref a1), .val (.int (0 : Int32)), .val (.ref a8)]) rfl k) ?_
  refine OGot.go (fun t k => XS.iloadN X9.here hx rfl (hb hby d17_36) rfl k) ?_
  refine OGot.go (fun t k => XS.aloadN X9.here hx rfl (hb hby d17_37) rfl rfl k) ?_
  obtain ⟨cl12, Ar12, -, Sz12, Ng12, -, -⟩ := id (V_a8)
  refine OGot.go (fun t k => X9.arraylength hx (by rw [e9]; exact Ar12.1) (State.isArrayOf_alike hZ.alike Ar12.2.1) (g := (mkF m 38 #[.val (.ref a1), .val (.int (0 : Int32)), .val (.ref a8)] [(.ref a8), (.int (0 : Int32))])) rfl rfl (hb hby d17_38) _ k) ?_
  rw [len_of Sz12 Ng12]
  refine OGot.go (fun t k => XS.icmpYes X9.here hx rfl (pc0 := 39) (pc' := 50) rfl (hb hby d17_39) rfl (by decide) (by decide) (by decide) k) ?_
  show OGot p.tables e below (T9.setTop (mkF m 50 #[.val (.ref a1), .val (.int (0 : Int32)), .val (.ref a8)] [])) _
  refine OGot.go (fun t k => XS.aloadN X9.here hx rfl (hb hby d17_50) rfl rfl k) ?_
  refine OGot.go (fun t k => XS.iloadN X9.here hx rfl (hb hby d17_51) rfl k) ?_
  refine OGot.go (fun t k => XS.iconst X9.here hx rfl (hb hby d17_52) k) ?_
  refine OGot.go (fun t k => XS.iadd X9.here hx rfl (hb hby d17_53) rfl k) ?_
  show OGot p.tables e below (T9.setTop (mkF m 54 #[.val (.ref a1), .val (.int (0 : Int32)), .val (.ref a8)] [(.int ((0 : Int32) + (1 : Int32))), (.ref a1)])) _
  rw [show ((0 : Int32) + (1 : Int32)) = (1 : Int32) from by decide]
  obtain ⟨T13, h13, X13, e13, W13, st13⟩ := putF X9 hx hZ hown (host := "") (Or.inl (ow hw 137 rfl)) Via.refl e9 F_cursor_a1 E_a1 (Or.inl (ow hw 138 rfl)) (ow hw 114 rfl) (ty := .int) (by decide) rfl rfl (g := (mkF m 54 #[.val (.ref a1), .val (.int (0 : Int32)), .val (.ref a8)] [(.int (1 : Int32)), (.ref a1)])) rfl rfl (hb hby d17_54)
  refine OGot.go st13 ?_
  have N13 := Fr.snoc X13 N3 g_a1
  have O13 := O0.wr W13 g_a1
  have K13 := (OKeep.refl h0 [(a1, Jvm.RoadKit.slotOf Z "java/util/ArrayList$Itr" "cursor" "I"), (a1, Jvm.RoadKit.slotOf Z "java/util/ArrayList$Itr" "lastRet" "I")]).wr W13 (Or.inl (List.mem_of_getElem? (i := 0) rfl))
  have Fw13 : Fld Z h13 a1 "java/util/ArrayList$Itr" "cursor" "I" (.int (1 : Int32)) := F_cursor_a1.same W13
  refine OGot.go (fun t k => XS.aloadN X13.here hx rfl (hb hby d17_57) rfl rfl k) ?_
  show OGot p.tables e below (T13.setTop (mkF m 58 #[.val (.ref a1), .val (.int (0 : Int32)), .val (.ref a8)] [(.ref a8)])) _
  refine OGot.go (fun t k => XS.aloadN X13.here hx rfl (hb hby d17_58) rfl rfl k) ?_
  refine OGot.go (fun t k => XS.iloadN X13.here hx rfl (hb hby d17_59) rfl k) ?_
  refine OGot.go (fun t k => XS.dupX1 X13.here hx rfl (hb hby d17_60) rfl rfl rfl k) ?_
  have F14 : Fld Z h13 a1 "java/util/ArrayList$Itr" "lastRet" "I" (.int (-1 : Int32)) := (F_lastRet_a1.other W13 (Or.inr (slot_ne (Or.inl (ow hw 124 rfl)) (Or.inl (ow hw 138 rfl)) (by decide) (t := .int) (t' := .int) (by decide) (by decide))))
  obtain ⟨T15, h15, X15, e15, W15, st15⟩ := putF X13 hx hZ hown (host := "") (Or.inl (ow hw 123 rfl)) Via.refl e13 F14 (E_a1.wr W13) (Or.inl (ow hw 124 rfl)) (ow hw 114 rfl) (ty := .int) (by decide) rfl rfl (g := (mkF m 61 #[.val (.ref a1), .val (.int (0 : Int32)), .val (.ref a8)] [(.int (0 : Int32)), (.ref a1), (.int (0 : Int32)), (.ref a8)])) rfl rfl (hb hby d17_61)
  refine OGot.go st15 ?_
  have N15 := Fr.snoc X15 N13 g_a1
  have O15 := O13.wr W15 g_a1
  have K15 := K13.wr W15 (Or.inl (List.mem_of_getElem? (i := 1) rfl))
  have Fw15 : Fld Z h15 a1 "java/util/ArrayList$Itr" "lastRet" "I" (.int (0 : Int32)) := F14.same W15
  have ne16 : a8 ≠ a1 := ne_a8_a1
  have F17 : Arv Z h15 a8 k10 (.object "java/lang/Object") (10 : Int32) [(.ref a11), .null, .null, .null, .null, .null, .null, .null, .null, .null] .null := ((V_a8.other W13 ne16).other W15 ne16)
  obtain ⟨cl18, Ar18, qc18, Sz18, Ng18, Hh18, Gg18⟩ := id (F17)
  have hin18 : ¬ ((0 : Int32) < 0 ∨ cl18.slots.size ≤ ((0 : Int32)).toNatClampNeg) := inb_of Sz18 ⟨by decide, by decide⟩
  have hat18 : cl18.slots[((0 : Int32)).toNatClampNeg]? = some (.ref a11) := Hh18.at hin18 rfl
  refine OGot.go (fun t k => X15.aaload hx (j := (0 : Int32)) (v := (.ref a11)) (by rw [e15]; exact Ar18.1) (State.isArrayOf_alike hZ.alike Ar18.2.1) rfl Ar18.2.2 hin18 hat18 (g := (mkF m 64 #[.val (.ref a1), .val (.int (0 : Int32)), .val (.ref a8)] [(.int (0 : Int32)), (.ref a8)])) rfl rfl (hb hby d17_64) _ k) ?_
  show OGot p.tables e below (T15.setTop (mkF m 65 #[.val (.ref a1), .val (.int (0 : Int32)), .val (.ref a8)] [(.ref a11)])) _
  obtain ⟨fs, hr, hrun, hended, hW, hsame⟩ := X15.leave (v := some (.ref a11)) (fun h => by rw [Bd.returns] at h; cases h)
  refine ⟨_, _, oretA X15 hx Bd.returns rfl rfl (hb hby d17_65) hr, hrun, hended, _, _, rfl, ?_, ⟨_, rfl⟩, hW, hsame.mono (by decide) (by decide)⟩
  have F19 : Fld Z h15 a1 "java/util/ArrayList$Itr" "cursor" "I" (.int (1 : Int32)) := (Fw13.other W15 (Or.inr (slot_ne (Or.inl (ow hw 138 rfl)) (Or.inl (ow hw 124 rfl)) (by decide) (t := .int) (t' := .int) (by decide) (by decide))))
  show Q17 Z w_LOWEST w_HIGHEST w_EMPTY_ELEMENTDATA w_DEFAULTCAPACITY_EMPTY_ELEMENTDATA k_w_EMPTY_ELEMENTDATA k_w_DEFAULTCAPACITY_EMPTY_ELEMENTDATA a1 a2 a8 k10 a11 h0 n0 _ T15.heap _
  rw [e15]
  exact ⟨N15, rfl, K15, F19, Fw15⟩
theorem d12_51 : decode prog_24_method_1_code 51 = .ok (.checkcast 40, 3) := by decide +kernel
theorem d12_54 : decode prog_24_method_1_code 54 = .ok (.astore 6, 2) := by decide +kernel
theorem d12_56 : decode prog_24_method_1_code 56 = .ok (.aload_n 0, 1) := by decide +kernel
theorem d12_57 : decode prog_24_method_1_code 57 = .ok (.aload 6, 2) := by decide +kernel
theorem d12_59 : decode prog_24_method_1_code 59 = .ok (.invokevirtual 42, 3) := by decide +kernel
def Q20_2 (Z : State) (w_LOWEST : Addr) (w_HIGHEST : Addr) (w_EMPTY_ELEMENTDATA : Addr) (w_DEFAULTCAPACITY_EMPTY_ELEMENTDATA : Addr) (k_w_EMPTY_ELEMENTDATA : ClassId) (k_w_DEFAULTCAPACITY_EMPTY_ELEMENTDATA : ClassId) (a1 : Addr) (h0 : Heap) (n0 : Nat) (v : Option Value) (h : Heap) (L : List Loc) : Prop := v = some (.int (1 : Int32)) ∧ Fr n0 L ∧ h = h0
theorem ef20_2 (m : MethodId) (x0 : Addr) : entryFrame m #[(.ref x0)] 1 = mkF m 0 #[.val (.ref x0)] [] := by first | (simp [entryFrame, mkF, argsToLocals, Value.category]; done) | rfl
set_option maxRecDepth 65536 in
set_option maxHeartbeats 40000000 in
theorem rm20_2 (l : Launch) (Z : State) (a0 : Array Value) (hw : ∀ d ∈ tables_1, d.before a0 Z = true) (ws : List Jvm.Cond) {w_LOWEST : Addr} {w_HIGHEST : Addr} {w_EMPTY_ELEMENTDATA : Addr} {w_DEFAULTCAPACITY_EMPTY_ELEMENTDATA : Addr} {k_w_EMPTY_ELEMENTDATA : ClassId} {k_w_DEFAULTCAPACITY_EMPTY_ELEMENTDATA : ClassId} (G : Glob Z w_LOWEST w_HIGHEST w_EMPTY_ELEMENTDATA w_DEFAULTCAPACITY_EMPTY_ELEMENTDATA k_w_EMPTY_ELEMENTDATA k_w_DEFAULTCAPACITY_EMPTY_ELEMENTDATA) (a1 : Addr) (h0 : Heap) (n0 : Nat) (O0 : Old Z n0 h0) (F_head_a1 : Fld Z h0 a1 "java/util/ArrayDeque" "head" "I" (.int (0 : Int32))) (F_tail_a1 : Fld Z h0 a1 "java/util/ArrayDeque" "tail" "I" (.int (0 : Int32))) :
    MetFree l (⟨"java/util/ArrayDeque", "isEmpty", "()Z"⟩ : MethodName) (head1 (Jvm.Cond.code (⟨"java/util/ArrayDeque", "isEmpty", "()Z"⟩ : MethodName) jdk_21_method_38_code 1 (some .boolean) :: ws) ({ frames := 0, cells := 0, slots := 0, locals := 0 } : Room)) (fun a U => a = #[(.ref a1)] ∧ Z.Warmed39 U.vm ∧ U.heap = h0) (fun _ _ _ _ _ => True) (fun _ U o U' => ∃ v L, o = .returned v ∧ Q20_2 Z w_LOWEST w_HIGHEST w_EMPTY_ELEMENTDATA w_DEFAULTCAPACITY_EMPTY_ELEMENTDATA k_w_EMPTY_ELEMENTDATA k_w_DEFAULTCAPACITY_EMPTY_ELEMENTDATA a1 h0 n0 v U'.heap L ∧ FrameEnd U o U' L ({ frames := 0, cells := 0, slots := 0, locals := 0 } : Room).cells ({ frames := 0, cells := 0, slots := 0, locals := 0 } : Room).slots) := by
  refine MetFree.of_bodySF (plainFor_of_name pn_java_util_ArrayDeque) hisR ?_
  intro p e s m args below meth c s₁ Bd hml0 hP hK
  obtain ⟨rfl, hZ, hh⟩ := hP
  have hx := Bd.exec
  have hby := Bd.bytes
  have hml : c.maxLocals = 1 := hml0
  have hown : s.vm.findClass "java/util/ArrayDeque" = some m.cls := findClass_of_methodNamed Bd.named
  have hnm := (name_of_methodNamed Bd.named Bd.method).1
  have X0 : Stand p l e ({ frames := 0, cells := 0, slots := 0, locals := 0 } : Room) s m #[(.ref a1)] below meth c s₁ [] 0 0 := Stand.of_body Bd
  have e0 : s₁.heap = h0 := by rw [← hh, Bd.state]; rfl
  have N0 := Fr.nil n0
  show OGot p.tables e below (s₁.setTop (entryFrame m #[(.ref a1)] 1)) _
  refine OGot.go (fun t k => castTop (ef20_2 m a1) k) ?_
  show OGot p.tables e below (s₁.setTop (mkF m 0 #[.val (.ref a1)] [])) _
  refine OGot.go (fun t k => XS.aloadN X0.here hx rfl (hb hby d20_0) rfl rfl k) ?_
  obtain ⟨T2, X2, e2, st2⟩ := getF X0 hx hZ hown (host := "") (Or.inl (ow hw 169 rfl)) Via.refl e0 F_head_a1 (g := (mkF m 1 #[.val (.ref a1)] [(.ref a1)])) rfl rfl (hb hby d20_1)
  refine OGot.go st2 ?_
  refine OGot.go (fun t k => XS.aloadN X2.here hx rfl (hb hby d20_4) rfl rfl k) ?_
  obtain ⟨T3, X3, e3, st3⟩ := getF X2 hx hZ hown (host := "") (Or.inl (ow hw 171 rfl)) Via.refl e2 F_tail_a1 (g := (mkF m 5 #[.val (.ref a1)] [(.ref a1), (.int (0 : Int32))])) rfl rfl (hb hby d20_5)
  refine OGot.go st3 ?_
  refine OGot.go (fun t k => XS.icmpNo X3.here hx rfl (hb hby d20_8) rfl (by decide) k) ?_
  refine OGot.go (fun t k => XS.iconst X3.here hx rfl (hb hby d20_11) k) ?_
  show OGot p.tables e below (T3.setTop (mkF m 12 #[.val (.ref a1)] [(.int (1 : Int32))])) _
  refine OGot.go (fun t k => XS.goto X3.here hx rfl (pc0 := 12) (pc' := 16) rfl (hb hby d20_12) (by decide) (by decide) k) ?_
  show OGot p.tables e below (T3.setTop (mkF m 16 #[.val (.ref a1)] [(.int (1 : Int32))])) _
  obtain ⟨fs, hr, hrun, hended, hW, hsame⟩ := X3.leave (v := some (.int (1 : Int32))) (fun h => by rw [Bd.returns] at h; cases h)
  refine ⟨_, _, retN X3 hx (t := .boolean) Bd.returns (by simp) (hb hby d20_16) hr, hrun, hended, _, _, rfl, ?_, ⟨_, rfl⟩, hW, hsame.mono (by decide) (by decide)⟩
  exact (⟨rfl, N0, e3⟩ : Q20_2 Z w_LOWEST w_HIGHEST w_EMPTY_ELEMENTDATA w_DEFAULTCAPACITY_EMPTY_ELEMENTDATA k_w_EMPTY_ELEMENTDATA k_w_DEFAULTCAPACITY_EMPTY_ELEMENTDATA a1 h0 n0 _ T3.heap _)
def Q22_1 (Z : State) (w_LOWEST : Addr) (w_HIGHEST : Addr) (w_EMPTY_ELEMENTDATA : Addr) (w_DEFAULTCAPACITY_EMPTY_ELEMENTDATA : Addr) (k_w_EMPTY_ELEMENTDATA : ClassId) (k_w_DEFAULTCAPACITY_EMPTY_ELEMENTDATA : ClassId)  (h0 : Heap) (n0 : Nat) (v : Option Value) (h : Heap) (L : List Loc) : Prop := v = some (.int (1 : Int32)) ∧ Fr n0 L ∧ h = h0
theorem ef22_1 (m : MethodId)  : entryFrame m #[(.int (0 : Int32)), (.int (17 : Int32))] 2 = mkF m 0 #[.val (.int (0 : Int32)), .val (.int (17 : Int32))] [] := by first | (simp [entryFrame, mkF, argsToLocals, Value.category]; done) | rfl
set_option maxRecDepth 65536 in
set_option maxHeartbeats 40000000 in
theorem rm22_1 (l : Launch) (Z : State) (a0 : Array Value) (hw : ∀ d ∈ tables_1, d.before a0 Z = true) (ws : List Jvm.Cond) {w_LOWEST : Addr} {w_HIGHEST : Addr} {w_EMPTY_ELEMENTDATA : Addr} {w_DEFAULTCAPACITY_EMPTY_ELEMENTDATA : Addr} {k_w_EMPTY_ELEMENTDATA : ClassId} {k_w_DEFAULTCAPACITY_EMPTY_ELEMENTDATA : ClassId} (G : Glob Z w_LOWEST w_HIGHEST w_EMPTY_ELEMENTDATA w_DEFAULTCAPACITY_EMPTY_ELEMENTDATA k_w_EMPTY_ELEMENTDATA k_w_DEFAULTCAPACITY_EMPTY_ELEMENTDATA)  (h0 : Heap) (n0 : Nat) (O0 : Old Z n0 h0) :
    MetFree l (⟨"java/util/ArrayDeque", "inc", "(II)I"⟩ : MethodName) (head1 (Jvm.Cond.code (⟨"java/util/ArrayDeque", "inc", "(II)I"⟩ : MethodName) jdk_21_method_6_code 2 (some .int) :: ws) ({ frames := 0, cells := 0, slots := 0, locals := 0 } : Room)) (fun a U => a = #[(.int (0 : Int32)), (.int (17 : Int32))] ∧ Z.Warmed39 U.vm ∧ U.heap = h0) (fun _ _ _ _ _ => True) (fun _ U o U' => ∃ v L, o = .returned v ∧ Q22_1 Z w_LOWEST w_HIGHEST w_EMPTY_ELEMENTDATA w_DEFAULTCAPACITY_EMPTY_ELEMENTDATA k_w_EMPTY_ELEMENTDATA k_w_DEFAULTCAPACITY_EMPTY_ELEMENTDATA  h0 n0 v U'.heap L ∧ FrameEnd U o U' L ({ frames := 0, cells := 0, slots := 0, locals := 0 } : Room).cells ({ frames := 0, cells := 0, slots := 0, locals := 0 } : Room).slots) := by
  refine MetFree.of_bodySF (plainFor_of_name pn_java_util_ArrayDeque) hisR ?_
  intro p e s m args below meth c s₁ Bd hml0 hP hK
  obtain ⟨rfl, hZ, hh⟩ := hP
  have hx := Bd.exec
  have hby := Bd.bytes
  have hml : c.maxLocals = 2 := hml0
  have hown : s.vm.findClass "java/util/ArrayDeque" = some m.cls := findClass_of_methodNamed Bd.named
  have hnm := (name_of_methodNamed Bd.named Bd.method).1
  have X0 : Stand p l e ({ frames := 0, cells := 0, slots := 0, locals := 0 } : Room) s m #[(.int (0 : Int32)), (.int (17 : Int32))] below meth c s₁ [] 0 0 := Stand.of_body Bd
  have e0 : s₁.heap = h0 := by rw [← hh, Bd.state]; rfl
  have N0 := Fr.nil n0
  show OGot p.tables e below (s₁.setTop (entryFrame m #[(.int (0 : Int32)), (.int (17 : Int32))] 2)) _
  refine OGot.go (fun t k => castTop (ef22_1 m ) k) ?_
  show OGot p.tables e below (s₁.setTop (mkF m 0 #[.val (.int (0 : Int32)), .val (.int (17 : Int32))] [])) _
  refine OGot.go (fun t k => XS.iinc X0.here hx rfl (hb hby d22_0) rfl (l' := #[.val (.int (1 : Int32)), .val (.int (17 : Int32))]) rfl k) ?_
  refine OGot.go (fun t k => XS.iloadN X0.here hx rfl (hb hby d22_3) rfl k) ?_
  refine OGot.go (fun t k => XS.iloadN X0.here hx rfl (hb hby d22_4) rfl k) ?_
  refine OGot.go (fun t k => XS.icmpYes X0.here hx rfl (pc0 := 5) (pc' := 10) rfl (hb hby d22_5) rfl (by decide) (by decide) (by decide) k) ?_
  refine OGot.go (fun t k => XS.iloadN X0.here hx rfl (hb hby d22_10) rfl k) ?_
  show OGot p.tables e below (s₁.setTop (mkF m 11 #[.val (.int (1 : Int32)), .val (.int (17 : Int32))] [(.int (1 : Int32))])) _
  obtain ⟨fs, hr, hrun, hended, hW, hsame⟩ := X0.leave (v := some (.int (1 : Int32))) (fun h => by rw [Bd.returns] at h; cases h)
  refine ⟨_, _, retI X0 hx Bd.returns (hb hby d22_11) hr, hrun, hended, _, _, rfl, ?_, ⟨_, rfl⟩, hW, hsame.mono (by decide) (by decide)⟩
  exact (⟨rfl, N0, e0⟩ : Q22_1 Z w_LOWEST w_HIGHEST w_EMPTY_ELEMENTDATA w_DEFAULTCAPACITY_EMPTY_ELEMENTDATA k_w_EMPTY_ELEMENTDATA k_w_DEFAULTCAPACITY_EMPTY_ELEMENTDATA  h0 n0 _ s₁.heap _)
def Q21_1 (Z : State) (w_LOWEST : Addr) (w_HIGHEST : Addr) (w_EMPTY_ELEMENTDATA : Addr) (w_DEFAULTCAPACITY_EMPTY_ELEMENTDATA : Addr) (k_w_EMPTY_ELEMENTDATA : ClassId) (k_w_DEFAULTCAPACITY_EMPTY_ELEMENTDATA : ClassId) (a1 : Addr) (a2 : Addr) (a3 : Addr) (k6 : ClassId) (h0 : Heap) (n0 : Nat) (v : Option Value) (h : Heap) (L : List Loc) : Prop := Fr n0 L ∧ v = none ∧ OKeep h0 h [(a3, (0 : Int32).toNatClampNeg), (a1, Jvm.RoadKit.slotOf Z "java/util/ArrayDeque" "tail" "I")] ∧ Arv Z h a3 k6 (.object "java/lang/Object") (17 : Int32) [(.ref a2), .null, .null, .null, .null, .null, .null, .null, .null, .null, .null, .null, .null, .null, .null, .null, .null] .null ∧ Fld Z h a1 "java/util/ArrayDeque" "tail" "I" (.int (1 : Int32))
theorem ef21_1 (m : MethodId) (x0 : Addr) (x1 : Addr) : entryFrame m #[(.ref x0), (.ref x1)] 3 = mkF m 0 #[.val (.ref x0), .val (.ref x1), .unset] [] := by first | (simp [entryFrame, mkF, argsToLocals, Value.category]; done) | rfl
set_option maxRecDepth 65536 in
set_option maxHeartbeats 40000000 in
theorem rm21_1 (l : Launch) (Z : State) (a0 : Array Value) (hw : ∀ d ∈ tables_1, d.before a0 Z = true) (ws : List Jvm.Cond) {w_LOWEST : Addr} {w_HIGHEST : Addr} {w_EMPTY_ELEMENTDATA : Addr} {w_DEFAULTCAPACITY_EMPTY_ELEMENTDATA : Addr} {k_w_EMPTY_ELEMENTDATA : ClassId} {k_w_DEFAULTCAPACITY_EMPTY_ELEMENTDATA : ClassId} (G : Glob Z w_LOWEST w_HIGHEST w_EMPTY_ELEMENTDATA w_DEFAULTCAPACITY_EMPTY_ELEMENTDATA k_w_EMPTY_ELEMENTDATA k_w_DEFAULTCAPACITY_EMPTY_ELEMENTDATA) (a1 : Addr) (a2 : Addr) (a3 : Addr) (k6 : ClassId) (h0 : Heap) (n0 : Nat) (O0 : Old Z n0 h0) (F_elements_a1 : Fld Z h0 a1 "java/util/ArrayDeque" "elements" "[Ljava/lang/Object;" (.ref a3)) (F_tail_a1 : Fld Z h0 a1 "java/util/ArrayDeque" "tail" "I" (.int (0 : Int32))) (V_a3 : Arv Z h0 a3 k6 (.object "java/lang/Object") (17 : Int32) [.null, .null, .null, .null, .null, .null, .null, .null, .null, .null, .null, .null, .null, .null, .null, .null, .null] .null) (O_k6 : Ovr Z k6 "java/lang/Object") (g_a3 : n0 ≤ a3) (E_a2 : Exa Z h0 a2 "com/example/restrained_scaler/restrainedscaler/decision/Decider$Demand") (F_head_a1 : Fld Z h0 a1 "java/util/ArrayDeque" "head" "I" (.int (0 : Int32))) (ne_a1_a3 : a1 ≠ a3) (E_a1 : Exa Z h0 a1 "java/util/ArrayDeque") (g_a1 : n0 ≤ a1) :
    MetFree l (⟨"java/util/ArrayDeque", "addLast", "(Ljava/lang/Object;)V"⟩ : MethodName) (head1 (Jvm.Cond.code (⟨"java/util/ArrayDeque", "addLast", "(Ljava/lang/Object;)V"⟩ : MethodName) jdk_21_method_13_code 3 none :: ws) ({ frames := 1, cells := 0, slots := 0, locals := 15 } : Room)) (fun a U => a = #[(.ref a1), (.ref a2)] ∧ Z.Warmed39 U.vm ∧ U.heap = h0) (fun _ _ _ _ _ => True) (fun _ U o U' => ∃ v L, o = .returned v ∧ Q21_1 Z w_LOWEST w_HIGHEST w_EMPTY_ELEMENTDATA w_DEFAULTCAPACITY_EMPTY_ELEMENTDATA k_w_EMPTY_ELEMENTDATA k_w_DEFAULTCAPACITY_EMPTY_ELEMENTDATA a1 a2 a3 k6 h0 n0 v U'.heap L ∧ FrameEnd U o U' L ({ frames := 1, cells := 0, slots := 0, locals := 15 } : Room).cells ({ frames := 1, cells := 0, slots := 0, locals := 15 } : Room).slots) := by
  refine MetFree.of_bodySF (plainFor_of_name pn_java_util_ArrayDeque) hisR ?_
  intro p e s m args below meth c s₁ Bd hml0 hP hK
  obtain ⟨rfl, hZ, hh⟩ := hP
  have hx := Bd.exec
  have hby := Bd.bytes
  have hml : c.maxLocals = 3 := hml0
  have hown : s.vm.findClass "java/util/ArrayDeque" = some m.cls := findClass_of_methodNamed Bd.named
  have hnm := (name_of_methodNamed Bd.named Bd.method).1
  have X0 : Stand p l e ({ frames := 1, cells := 0, slots := 0, locals := 15 } : Room) s m #[(.ref a1), (.ref a2)] below meth c s₁ [] 0 0 := Stand.of_body Bd
  have e0 : s₁.heap = h0 := by rw [← hh, Bd.state]; rfl
  have N0 := Fr.nil n0
  show OGot p.tables e below (s₁.setTop (entryFrame m #[(.ref a1), (.ref a2)] 3)) _
  refine OGot.go (fun t k => castTop (ef21_1 m a1 a2) k) ?_
  show OGot p.tables e below (s₁.setTop (mkF m 0 #[.val (.ref a1), .val (.ref a2), .unset] [])) _
  refine OGot.go (fun t k => XS.aloadN X0.here hx rfl (hb hby d21_0) rfl rfl k) ?_
  refine OGot.go (fun t k => XS.ifnonnullYes X0.here hx rfl (pc0 := 1) (pc' := 12) rfl (hb hby d21_1) rfl (by decide) (by decide) k) ?_
  refine OGot.go (fun t k => XS.aloadN X0.here hx rfl (hb hby d21_12) rfl rfl k) ?_
  obtain ⟨T4, X4, e4, st4⟩ := getF X0 hx hZ hown (host := "") (Or.inl (ow hw 97 rfl)) Via.refl e0 F_elements_a1 (g := (mkF m 13 #[.val (.ref a1), .val (.ref a2), .unset] [(.ref a1)])) rfl rfl (hb hby d21_13)
  refine OGot.go st4 ?_
  refine OGot.go (fun t k => XS.astoreN X4.here hx rfl (hb hby d21_16) rfl rfl (l' := #[.val (.ref a1), .val (.ref a2), .val (.ref a3)]) rfl k) ?_
  refine OGot.go (fun t k => XS.aloadN X4.here hx rfl (hb hby d21_17) rfl rfl k) ?_
  show OGot p.tables e below (T4.setTop (mkF m 18 #[.val (.ref a1), .val (.ref a2), .val (.ref a3)] [(.ref a3)])) _
  refine OGot.go (fun t k => XS.aloadN X4.here hx rfl (hb hby d21_18) rfl rfl k) ?_
  obtain ⟨T5, X5, e5, st5⟩ := getF X4 hx hZ hown (host := "") (Or.inl (ow hw 171 rfl)) Via.refl e4 F_tail_a1 (g := (mkF m 19 #[.val (.ref a1), .val (.ref a2), .val (.ref a3)] [(.ref a1), (.ref a3)])) rfl rfl (hb hby d21_19)
  refine OGot.go st5 ?_
  refine OGot.go (fun t k => XS.aloadN X5.here hx rfl (hb hby d21_22) rfl rfl k) ?_
  obtain ⟨cl7, Ar7, qc7, Sz7, Ng7, Hh7, Gg7⟩ := id (V_a3)
  have hin7 : ¬ ((0 : Int32) < 0 ∨ cl7.slots.size ≤ ((0 : Int32)).toNatClampNeg) := inb_of Sz7 ⟨by decide, by decide⟩
  obtain ⟨T7, h7, X7, e7, W7, st7⟩ := stR X5 hx hZ e5 Ar7 (j := (0 : Int32)) hin7 rfl (Sto.ofV Ar7 qc7 O_k6 (Ins.of_exa E_a2 (ow hw 80 rfl))) (g := (mkF m 23 #[.val (.ref a1), .val (.ref a2), .val (.ref a3)] [(.ref a2), (.int (0 : Int32)), (.ref a3)])) rfl rfl (hb hby d21_23)
  refine OGot.go st7 ?_
  have N7 := Fr.snoc X7 N0 g_a3
  have O7 := O0.wr W7 g_a3
  have K7 := (OKeep.refl h0 [(a3, (0 : Int32).toNatClampNeg), (a1, Jvm.RoadKit.slotOf Z "java/util/ArrayDeque" "tail" "I")]).wr W7 (Or.inl (List.mem_of_getElem? (i := 0) rfl))
  have Va7 : Arv Z h7 a3 k6 (.object "java/lang/Object") (17 : Int32) [(.ref a2), .null, .null, .null, .null, .null, .null, .null, .null, .null, .null, .null, .null, .null, .null, .null, .null] .null := Arv.set Ar7 qc7 Sz7 Ng7 Hh7 Gg7 rfl W7 0 rfl (Nat.le_of_ble_eq_true rfl)
  refine OGot.go (fun t k => XS.aloadN X7.here hx rfl (hb hby d21_24) rfl rfl k) ?_
  have ne8 : a1 ≠ a3 := ne_a1_a3
  have F9 : Fld Z h7 a1 "java/util/ArrayDeque" "head" "I" (.int (0 : Int32)) := (F_head_a1.other W7 (Or.inl ne8))
  obtain ⟨T10, X10, e10, st10⟩ := getF X7 hx hZ hown (host := "") (Or.inl (ow hw 169 rfl)) Via.refl e7 F9 (g := (mkF m 25 #[.val (.ref a1), .val (.ref a2), .val (.ref a3)] [(.ref a1)])) rfl rfl (hb hby d21_25)
  refine OGot.go st10 ?_
  show OGot p.tables e below (T10.setTop (mkF m 28 #[.val (.ref a1), .val (.ref a2), .val (.ref a3)] [(.int (0 : Int32))])) _
  refine OGot.go (fun t k => XS.aloadN X10.here hx rfl (hb hby d21_28) rfl rfl k) ?_
  refine OGot.go (fun t k => XS.aloadN X10.here hx rfl (hb hby d21_29) rfl rfl k) ?_
  have F11 : Fld Z h7 a1 "java/util/ArrayDeque" "tail" "I" (.int (0 : Int32)) := (F_tail_a1.other W7 (Or.inl ne8))
  obtain ⟨T12, X12, e12, st12⟩ := getF X10 hx hZ hown (host := "") (Or.inl (ow hw 171 rfl)) Via.refl e10 F11 (g := (mkF m 30 #[.val (.ref a1), .val (.ref a2), .val (.ref a3)] [(.ref a1), (.ref a1), (.int (0 : Int32))])) rfl rfl (hb hby d21_30)
  refine OGot.go st12 ?_
  refine OGot.go (fun t k => XS.aloadN X12.here hx rfl (hb hby d21_33) rfl rfl k) ?_
  obtain ⟨cl13, Ar13, -, Sz13, Ng13, -, -⟩ := id (Va7)
  refine OGot.go (fun t k => X12.arraylength hx (by rw [e12]; exact Ar13.1) (State.isArrayOf_alike hZ.alike Ar13.2.1) (g := (mkF m 34 #[.val (.ref a1), .val (.ref a2), .val (.ref a3)] [(.ref a3), (.int (0 : Int32)), (.ref a1), (.int (0 : Int32))])) rfl rfl (hb hby d21_34) _ k) ?_
  rw [len_of Sz13 Ng13]
  obtain ⟨_, _, ⟨T14, L14, k14, n14⟩, -, X14, ⟨Lc14, hQ14, l14, y14, z14⟩, st14⟩ := Jvm.LawKit.callS X12 hx (y := (⟨"java/util/ArrayDeque", "inc", "(II)I"⟩ : MethodName)) hown (mvT hZ (ow hw 181 rfl)) (mvT hZ (ow hw 182 rfl)) (mvT hZ (ow hw 90 rfl)) (mvT hZ (ow hw 183 rfl)) (by decide) (backOf (W := 2) (rm22_1 l Z a0 hw [] G  h7 n0 O7 ) hZ (ow hw 183 rfl) (ow hw 90 rfl) (by decide) (by decide)) (g := (mkF m 35 #[.val (.ref a1), .val (.ref a2), .val (.ref a3)] [(.int (17 : Int32)), (.int (0 : Int32)), (.ref a1), (.int (0 : Int32))])) rfl (by rw [hml]; rfl) (argsL := [(.int (0 : Int32)), (.int (17 : Int32))]) (rest := [(.ref a1), (.int (0 : Int32))]) (lenOf pd_1 rfl) rfl (by show 2 * 0 + _ ≤ _; exact Nat.le_of_eq rfl) (hb hby d21_35) (fun _ _ => ⟨rfl, e12, (by decide : 0 + 0 ≤ _), (by decide : 0 + 0 ≤ _)⟩)
  dsimp only [Pt.U, Pt.locs, Pt.cells, Pt.slots] at X14 l14 y14 z14 st14 hQ14
  subst l14 y14 z14
  obtain ⟨rfl, N14q, e14⟩ := hQ14
  have N14 := Fr.app N7 N14q
  refine OGot.go st14 ?_
  show OGot p.tables e below (T14.setTop (mkF m 38 #[.val (.ref a1), .val (.ref a2), .val (.ref a3)] [(.int (1 : Int32)), (.ref a1), (.int (0 : Int32))])) _
  refine OGot.go (fun t k => XS.dupX1 X14.here hx rfl (hb hby d21_38) rfl rfl rfl k) ?_
  obtain ⟨T15, h15, X15, e15, W15, st15⟩ := putF X14 hx hZ hown (host := "") (Or.inl (ow hw 171 rfl)) Via.refl e14 F11 (E_a1.wr W7) (Or.inl (ow hw 172 rfl)) (ow hw 89 rfl) (ty := .int) (by decide) rfl rfl (g := (mkF m 39 #[.val (.ref a1), .val (.ref a2), .val (.ref a3)] [(.int (1 : Int32)), (.ref a1), (.int (1 : Int32)), (.int (0 : Int32))])) rfl rfl (hb hby d21_39)
  refine OGot.go st15 ?_
  have N15 := Fr.snoc X15 N14 g_a1
  have O15 := O7.wr W15 g_a1
  have K15 := K7.wr W15 (Or.inl (List.mem_of_getElem? (i := 1) rfl))
  have Fw15 : Fld Z h15 a1 "java/util/ArrayDeque" "tail" "I" (.int (1 : Int32)) := F11.same W15
  refine OGot.go (fun t k => XS.icmpYes X15.here hx rfl (pc0 := 42) (pc' := 50) rfl (hb hby d21_42) rfl (by decide) (by decide) (by decide) k) ?_
  show OGot p.tables e below (T15.setTop (mkF m 50 #[.val (.ref a1), .val (.ref a2), .val (.ref a3)] [])) _
  obtain ⟨fs, hr, hrun, hended, hW, hsame⟩ := X15.leave (v := none) (fun _ => rfl)
  refine ⟨_, _, X15.returnOut hx Bd.returns (hb hby d21_50) hr, hrun, hended, _, _, rfl, ?_, ⟨_, rfl⟩, hW, hsame.mono (by decide) (by decide)⟩
  have F16 : Arv Z h15 a3 k6 (.object "java/lang/Object") (17 : Int32) [(.ref a2), .null, .null, .null, .null, .null, .null, .null, .null, .null, .null, .null, .null, .null, .null, .null, .null] .null := (Va7.other W15 (Ne.symm ne8))
  show Q21_1 Z w_LOWEST w_HIGHEST w_EMPTY_ELEMENTDATA w_DEFAULTCAPACITY_EMPTY_ELEMENTDATA k_w_EMPTY_ELEMENTDATA k_w_DEFAULTCAPACITY_EMPTY_ELEMENTDATA a1 a2 a3 k6 h0 n0 _ T15.heap _
  rw [e15]
  exact ⟨N15, rfl, K15, F16, Fw15⟩
def Q19 (Z : State) (w_LOWEST : Addr) (w_HIGHEST : Addr) (w_EMPTY_ELEMENTDATA : Addr) (w_DEFAULTCAPACITY_EMPTY_ELEMENTDATA : Addr) (k_w_EMPTY_ELEMENTDATA : ClassId) (k_w_DEFAULTCAPACITY_EMPTY_ELEMENTDATA : ClassId) (a1 : Addr) (a2 : Addr) (a3 : Addr) (a7 : Addr) (k8 : ClassId) (h0 : Heap) (n0 : Nat) (v : Option Value) (h : Heap) (L : List Loc) : Prop := Fr n0 L ∧ v = none ∧ OKeep h0 h [(a3, Jvm.RoadKit.slotOf Z "java/util/ArrayDeque" "tail" "I"), (a7, (0 : Int32).toNatClampNeg)] ∧ Fld Z h a3 "java/util/ArrayDeque" "tail" "I" (.int (1 : Int32)) ∧ Arv Z h a7 k8 (.object "java/lang/Object") (17 : Int32) [(.ref a2), .null, .null, .null, .null, .null, .null, .null, .null, .null, .null, .null, .null, .null, .null, .null, .null] .null
theorem ef19 (m : MethodId) (x0 : Addr) (x1 : Addr) : entryFrame m #[(.ref x0), (.ref x1)] 2 = mkF m 0 #[.val (.ref x0), .val (.ref x1)] [] := by first | (simp [entryFrame, mkF, argsToLocals, Value.category]; done) | rfl
set_option maxRecDepth 65536 in
set_option maxHeartbeats 40000000 in
theorem rm19 (l : Launch) (Z : State) (a0 : Array Value) (hw : ∀ d ∈ tables_1, d.before a0 Z = true) (ws : List Jvm.Cond) {w_LOWEST : Addr} {w_HIGHEST : Addr} {w_EMPTY_ELEMENTDATA : Addr} {w_DEFAULTCAPACITY_EMPTY_ELEMENTDATA : Addr} {k_w_EMPTY_ELEMENTDATA : ClassId} {k_w_DEFAULTCAPACITY_EMPTY_ELEMENTDATA : ClassId} (G : Glob Z w_LOWEST w_HIGHEST w_EMPTY_ELEMENTDATA w_DEFAULTCAPACITY_EMPTY_ELEMENTDATA k_w_EMPTY_ELEMENTDATA k_w_DEFAULTCAPACITY_EMPTY_ELEMENTDATA) (a1 : Addr) (a2 : Addr) (a3 : Addr) (a7 : Addr) (k8 : ClassId) (h0 : Heap) (n0 : Nat) (O0 : Old Z n0 h0) (F_demands_a1 : Fld Z h0 a1 "com/example/restrained_scaler/restrainedscaler/decision/StabilizationWindow" "demands" "Ljava/util/Deque;" (.ref a3)) (E_a3 : Exa Z h0 a3 "java/util/ArrayDeque") (F_head_a3 : Fld Z h0 a3 "java/util/ArrayDeque" "head" "I" (.int (0 : Int32))) (F_tail_a3 : Fld Z h0 a3 "java/util/ArrayDeque" "tail" "I" (.int (0 : Int32))) (F_elements_a3 : Fld Z h0 a3 "java/util/ArrayDeque" "elements" "[Ljava/lang/Object;" (.ref a7)) (V_a7 : Arv Z h0 a7 k8 (.object "java/lang/Object") (17 : Int32) [.null, .null, .null, .null, .null, .null, .null, .null, .null, .null, .null, .null, .null, .null, .null, .null, .null] .null) (O_k8 : Ovr Z k8 "java/lang/Object") (g_a7 : n0 ≤ a7) (E_a2 : Exa Z h0 a2 "com/example/restrained_scaler/restrainedscaler/decision/Decider$Demand") (ne_a3_a7 : a3 ≠ a7) (g_a3 : n0 ≤ a3) :
    MetFree l (⟨"com/example/restrained_scaler/restrainedscaler/decision/StabilizationWindow", "keep", "(Lcom/example/restrained_scaler/restrainedscaler/decision/Decider$Demand;)V"⟩ : MethodName) (head1 (Jvm.Cond.code (⟨"com/example/restrained_scaler/restrainedscaler/decision/StabilizationWindow", "keep", "(Lcom/example/restrained_scaler/restrainedscaler/decision/Decider$Demand;)V"⟩ : MethodName) prog_24_method_5_code 2 none :: ws) ({ frames := 2, cells := 0, slots := 0, locals := 29 } : Room)) (fun a U => a = #[(.ref a1), (.ref a2)] ∧ Z.Warmed39 U.vm ∧ U.heap = h0) (fun _ _ _ _ _ => True) (fun _ U o U' => ∃ v L, o = .returned v ∧ Q19 Z w_LOWEST w_HIGHEST w_EMPTY_ELEMENTDATA w_DEFAULTCAPACITY_EMPTY_ELEMENTDATA k_w_EMPTY_ELEMENTDATA k_w_DEFAULTCAPACITY_EMPTY_ELEMENTDATA a1 a2 a3 a7 k8 h0 n0 v U'.heap L ∧ FrameEnd U o U' L ({ frames := 2, cells := 0, slots := 0, locals := 29 } : Room).cells ({ frames := 2, cells := 0, slots := 0, locals := 29 } : Room).slots) := by
  refine MetFree.of_bodySF (plainFor_of_name pn_com_example_restrained_scaler_restrainedscaler_decision_StabilizationWindow) hisR ?_
  intro p e s m args below meth c s₁ Bd hml0 hP hK
  obtain ⟨rfl, hZ, hh⟩ := hP
  have hx := Bd.exec
  have hby := Bd.bytes
  have hml : c.maxLocals = 2 := hml0
  have hown : s.vm.findClass "com/example/restrained_scaler/restrainedscaler/decision/StabilizationWindow" = some m.cls := findClass_of_methodNamed Bd.named
  have hnm := (name_of_methodNamed Bd.named Bd.method).1
  have X0 : Stand p l e ({ frames := 2, cells := 0, slots := 0, locals := 29 } : Room) s m #[(.ref a1), (.ref a2)] below meth c s₁ [] 0 0 := Stand.of_body Bd
  have e0 : s₁.heap = h0 := by rw [← hh, Bd.state]; rfl
  have N0 := Fr.nil n0
  show OGot p.tables e below (s₁.setTop (entryFrame m #[(.ref a1), (.ref a2)] 2)) _
  refine OGot.go (fun t k => castTop (ef19 m a1 a2) k) ?_
  show OGot p.tables e below (s₁.setTop (mkF m 0 #[.val (.ref a1), .val (.ref a2)] [])) _
  refine OGot.go (fun t k => XS.aloadN X0.here hx rfl (hb hby d19_0) rfl rfl k) ?_
  obtain ⟨T4, X4, e4, st4⟩ := getF X0 hx hZ hown (host := "") (Or.inl (ow hw 99 rfl)) Via.refl e0 F_demands_a1 (g := (mkF m 1 #[.val (.ref a1), .val (.ref a2)] [(.ref a1)])) rfl rfl (hb hby d19_1)
  refine OGot.go st4 ?_
  obtain ⟨cq5, kq5, q5a, q5b, q5c⟩ := isOf hZ e4 E_a3
  obtain ⟨_, _, ⟨T5, L5, k5, n5⟩, -, X5, ⟨Lc5, hQ5, l5, y5, z5⟩, st5⟩ := ointerfaceBackUp X4 hx (J := "java/util/Collection") (xi := (⟨"java/util/Deque", "isEmpty", "()Z"⟩ : MethodName)) (y := (⟨"java/util/ArrayDeque", "isEmpty", "()Z"⟩ : MethodName)) hown (mvT hZ (ow hw 160 rfl)) (mvT hZ (ow hw 161 rfl)) (omvI hZ (ow hw 162 rfl)) (by decide) (mvT hZ (ow hw 163 rfl)) (mvT hZ (ow hw 164 rfl)) (mvT hZ (ow hw 165 rfl)) (mvT hZ (ow hw 166 rfl)) (mvT hZ (ow hw 167 rfl)) (by decide) (by decide) (backOf (W := 0) (rm20_2 l Z a0 hw [] G a3 h0 n0 O0 F_head_a3 F_tail_a3) hZ (ow hw 168 rfl) (ow hw 90 rfl) (by decide) (by decide)) q5a q5b q5c (g := (mkF m 4 #[.val (.ref a1), .val (.ref a2)] [(.ref a3)])) rfl (by rw [hml]; rfl) (Steps.refl _) (argsL := []) (rest := []) (lenOf pd_0 rfl) rfl (by show 2 * 0 + _ ≤ _; exact Nat.le_of_eq rfl) (hb hby d19_4) (fun _ _ => ⟨rfl, e4, (by decide : 0 + 0 ≤ _), (by decide : 0 + 0 ≤ _)⟩)
  dsimp only [Pt.U, Pt.locs, Pt.cells, Pt.slots] at X5 l5 y5 z5 st5 hQ5
  subst l5 y5 z5
  obtain ⟨rfl, N5q, e5⟩ := hQ5
  have N5 := Fr.app N0 N5q
  refine OGot.on st5 ?_
  refine OGot.go (fun t k => XS.ifYes X5.here hx rfl (pc0 := 9) (pc' := 45) rfl (hb hby d19_9) rfl (by decide) (by decide) (by decide) k) ?_
  refine OGot.go (fun t k => XS.aloadN X5.here hx rfl (hb hby d19_45) rfl rfl k) ?_
  obtain ⟨T6, X6, e6, st6⟩ := getF X5 hx hZ hown (host := "") (Or.inl (ow hw 99 rfl)) Via.refl e5 F_demands_a1 (g := (mkF m 46 #[.val (.ref a1), .val (.ref a2)] [(.ref a1)])) rfl rfl (hb hby d19_46)
  refine OGot.go st6 ?_
  show OGot p.tables e below (T6.setTop (mkF m 49 #[.val (.ref a1), .val (.ref a2)] [(.ref a3)])) _
  refine OGot.go (fun t k => XS.aloadN X6.here hx rfl (hb hby d19_49) rfl rfl k) ?_
  have ne9 : a3 ≠ a7 := ne_a3_a7
  obtain ⟨cq10, kq10, q10a, q10b, q10c⟩ := isOf hZ e6 E_a3
  obtain ⟨_, _, ⟨T10, L10, k10, n10⟩, -, X10, ⟨Lc10, hQ10, l10, y10, z10⟩, st10⟩ := X6.interfaceBack hx (xi := (⟨"java/util/Deque", "addLast", "(Ljava/lang/Object;)V"⟩ : MethodName)) (y := (⟨"java/util/ArrayDeque", "addLast", "(Ljava/lang/Object;)V"⟩ : MethodName)) hown (mvT hZ (ow hw 173 rfl)) (mvT hZ (ow hw 174 rfl)) (mvT hZ (ow hw 175 rfl)) (mvT hZ (ow hw 176 rfl)) (mvT hZ (ow hw 177 rfl)) (mvT hZ (ow hw 178 rfl)) (mvT hZ (ow hw 179 rfl)) (mvT hZ (ow hw 167 rfl)) (by decide) (backOf (W := 0) (rm21_1 l Z a0 hw [] G a3 a2 a7 k8 h0 n0 O0 F_elements_a3 F_tail_a3 V_a7 O_k8 g_a7 E_a2 F_head_a3 ne9 E_a3 g_a3) hZ (ow hw 180 rfl) (ow hw 90 rfl) (by decide) (by decide)) q10a q10b q10c (g := (mkF m 50 #[.val (.ref a1), .val (.ref a2)] [(.ref a2), (.ref a3)])) rfl (by rw [hml]; rfl) (Steps.refl _) (argsL := [(.ref a2)]) (rest := []) (lenOf pd_2 rfl) rfl (by show 2 * 0 + _ ≤ _; exact Nat.le_of_eq rfl) (hb hby d19_50) (fun _ _ => ⟨rfl, e6, (by decide : 0 + 0 ≤ _), (by decide : 0 + 0 ≤ _)⟩)
  dsimp only [Pt.U, Pt.locs, Pt.cells, Pt.slots] at X10 l10 y10 z10 st10 hQ10
  subst l10 y10 z10
  obtain ⟨N10q, rfl, K10, Fo10_0, Fo10_1⟩ := hQ10
  have Kc10 := (OKeep.refl h0 [(a3, Jvm.RoadKit.slotOf Z "java/util/ArrayDeque" "tail" "I"), (a7, (0 : Int32).toNatClampNeg)]).trans K10 (oinS (Or.inl (List.mem_of_getElem? (i := 1) rfl)) (oinS (Or.inl (List.mem_of_getElem? (i := 0) rfl)) oin0))
  have O10 := OKeep.old O0 K10 (ogeS g_a7 (ogeS g_a3 oge0))
  have N10 := Fr.app N5 N10q
  refine OGot.on st10 ?_
  show OGot p.tables e below (T10.setTop (mkF m 55 #[.val (.ref a1), .val (.ref a2)] [])) _
  obtain ⟨fs, hr, hrun, hended, hW, hsame⟩ := X10.leave (v := none) (fun _ => rfl)
  refine ⟨_, _, X10.returnOut hx Bd.returns (hb hby d19_55) hr, hrun, hended, _, _, rfl, ?_, ⟨_, rfl⟩, hW, hsame.mono (by decide) (by decide)⟩
  show Q19 Z w_LOWEST w_HIGHEST w_EMPTY_ELEMENTDATA w_DEFAULTCAPACITY_EMPTY_ELEMENTDATA k_w_EMPTY_ELEMENTDATA k_w_DEFAULTCAPACITY_EMPTY_ELEMENTDATA a1 a2 a3 a7 k8 h0 n0 _ T10.heap _
  exact ⟨N10, rfl, Kc10, Fo10_1, Fo10_0⟩
theorem d12_62 : decode prog_24_method_1_code 62 = .ok (.goto (-28), 3) := by decide +kernel
theorem d16_18 : decode jdk_49_method_2_code 18 = .ok (.iconst 0, 1) := by decide +kernel
def Q16_1 (Z : State) (w_LOWEST : Addr) (w_HIGHEST : Addr) (w_EMPTY_ELEMENTDATA : Addr) (w_DEFAULTCAPACITY_EMPTY_ELEMENTDATA : Addr) (k_w_EMPTY_ELEMENTDATA : ClassId) (k_w_DEFAULTCAPACITY_EMPTY_ELEMENTDATA : ClassId) (a1 : Addr) (a3 : Addr) (h0 : Heap) (n0 : Nat) (v : Option Value) (h : Heap) (L : List Loc) : Prop := v = some (.int (0 : Int32)) ∧ Fr n0 L ∧ h = h0
theorem ef16_1 (m : MethodId) (x0 : Addr) : entryFrame m #[(.ref x0)] 1 = mkF m 0 #[.val (.ref x0)] [] := by first | (simp [entryFrame, mkF, argsToLocals, Value.category]; done) | rfl
set_option maxRecDepth 65536 in
set_option maxHeartbeats 40000000 in
theorem rm16_1 (l : Launch) (Z : State) (a0 : Array Value) (hw : ∀ d ∈ tables_1, d.before a0 Z = true) (ws : List Jvm.Cond) {w_LOWEST : Addr} {w_HIGHEST : Addr} {w_EMPTY_ELEMENTDATA : Addr} {w_DEFAULTCAPACITY_EMPTY_ELEMENTDATA : Addr} {k_w_EMPTY_ELEMENTDATA : ClassId} {k_w_DEFAULTCAPACITY_EMPTY_ELEMENTDATA : ClassId} (G : Glob Z w_LOWEST w_HIGHEST w_EMPTY_ELEMENTDATA w_DEFAULTCAPACITY_EMPTY_ELEMENTDATA k_w_EMPTY_ELEMENTDATA k_w_DEFAULTCAPACITY_EMPTY_ELEMENTDATA) (a1 : Addr) (a3 : Addr) (h0 : Heap) (n0 : Nat) (O0 : Old Z n0 h0) (F_cursor_a1 : Fld Z h0 a1 "java/util/ArrayList$Itr" "cursor" "I" (.int (1 : Int32))) (F_this_0_a1 : Fld Z h0 a1 "java/util/ArrayList$Itr" "this$0" "Ljava/util/ArrayList;" (.ref a3)) (F_size_a3 : Fld Z h0 a3 "java/util/ArrayList" "size" "I" (.int (1 : Int32))) :
    MetFree l (⟨"java/util/ArrayList$Itr", "hasNext", "()Z"⟩ : MethodName) (head1 (Jvm.Cond.code (⟨"java/util/ArrayList$Itr", "hasNext", "()Z"⟩ : MethodName) jdk_49_method_2_code 1 (some .boolean) :: ws) ({ frames := 0, cells := 0, slots := 0, locals := 0 } : Room)) (fun a U => a = #[(.ref a1)] ∧ Z.Warmed39 U.vm ∧ U.heap = h0) (fun _ _ _ _ _ => True) (fun _ U o U' => ∃ v L, o = .returned v ∧ Q16_1 Z w_LOWEST w_HIGHEST w_EMPTY_ELEMENTDATA w_DEFAULTCAPACITY_EMPTY_ELEMENTDATA k_w_EMPTY_ELEMENTDATA k_w_DEFAULTCAPACITY_EMPTY_ELEMENTDATA a1 a3 h0 n0 v U'.heap L ∧ FrameEnd U o U' L ({ frames := 0, cells := 0, slots := 0, locals := 0 } : Room).cells ({ frames := 0, cells := 0, slots := 0, locals := 0 } : Room).slots) := by
  refine MetFree.of_bodySF (plainFor_of_name pn_java_util_ArrayList_Itr) hisR ?_
  intro p e s m args below meth c s₁ Bd hml0 hP hK
  obtain ⟨rfl, hZ, hh⟩ := hP
  have hx := Bd.exec
  have hby := Bd.bytes
  have hml : c.maxLocals = 1 := hml0
  have hown : s.vm.findClass "java/util/ArrayList$Itr" = some m.cls := findClass_of_methodNamed Bd.named
  have hnm := (name_of_methodNamed Bd.named Bd.method).1
  have X0 : Stand p l e ({ frames := 0, cells := 0, slots := 0, locals := 0 } : Room) s m #[(.ref a1)] below meth c s₁ [] 0 0 := Stand.of_body Bd
  have e0 : s₁.heap = h0 := by rw [← hh, Bd.state]; rfl
  have N0 := Fr.nil n0
  show OGot p.tables e below (s₁.setTop (entryFrame m #[(.ref a1)] 1)) _
  refine OGot.go (fun t k => castTop (ef16_1 m a1) k) ?_
  show OGot p.tables e below (s₁.setTop (mkF m 0 #[.val (.ref a1)] [])) _
  refine OGot.go (fun t k => XS.aloadN X0.here hx rfl (hb hby d16_0) rfl rfl k) ?_
  obtain ⟨T2, X2, e2, st2⟩ := getF X0 hx hZ hown (host := "") (Or.inl (ow hw 137 rfl)) Via.refl e0 F_cursor_a1 (g := (mkF m 1 #[.val (.ref a1)] [(.ref a1)])) rfl rfl (hb hby d16_1)
  refine OGot.go st2 ?_
  refine OGot.go (fun t k => XS.aloadN X2.here hx rfl (hb hby d16_4) rfl rfl k) ?_
  obtain ⟨T4, X4, e4, st4⟩ := getF X2 hx hZ hown (host := "") (Or.inl (ow hw 120 rfl)) Via.refl e2 F_this_0_a1 (g := (mkF m 5 #[.val (.ref a1)] [(.ref a1), (.int (1 : Int32))])) rfl rfl (hb hby d16_5)
  refine OGot.go st4 ?_
  obtain ⟨T5, X5, e5, st5⟩ := getF X4 hx hZ hown (Or.inr (ow hw 139 rfl)) Via.refl e4 F_size_a3 (g := (mkF m 8 #[.val (.ref a1)] [(.ref a3), (.int (1 : Int32))])) rfl rfl (hb hby d16_8)
  refine OGot.go st5 ?_
  refine OGot.go (fun t k => XS.icmpYes X5.here hx rfl (pc0 := 11) (pc' := 18) rfl (hb hby d16_11) rfl (by decide) (by decide) (by decide) k) ?_
  show OGot p.tables e below (T5.setTop (mkF m 18 #[.val (.ref a1)] [])) _
  refine OGot.go (fun t k => XS.iconst X5.here hx rfl (hb hby d16_18) k) ?_
  show OGot p.tables e below (T5.setTop (mkF m 19 #[.val (.ref a1)] [(.int (0 : Int32))])) _
  obtain ⟨fs, hr, hrun, hended, hW, hsame⟩ := X5.leave (v := some (.int (0 : Int32))) (fun h => by rw [Bd.returns] at h; cases h)
  refine ⟨_, _, retN X5 hx (t := .boolean) Bd.returns (by simp) (hb hby d16_19) hr, hrun, hended, _, _, rfl, ?_, ⟨_, rfl⟩, hW, hsame.mono (by decide) (by decide)⟩
  exact (⟨rfl, N0, e5⟩ : Q16_1 Z w_LOWEST w_HIGHEST w_EMPTY_ELEMENTDATA w_DEFAULTCAPACITY_EMPTY_ELEMENTDATA k_w_EMPTY_ELEMENTDATA k_w_DEFAULTCAPACITY_EMPTY_ELEMENTDATA a1 a3 h0 n0 _ T5.heap _)
theorem d12_65 : decode prog_24_method_1_code 65 = .ok (.return_, 1) := by decide +kernel
def Q12 (Z : State) (w_LOWEST : Addr) (w_HIGHEST : Addr) (w_EMPTY_ELEMENTDATA : Addr) (w_DEFAULTCAPACITY_EMPTY_ELEMENTDATA : Addr) (k_w_EMPTY_ELEMENTDATA : ClassId) (k_w_DEFAULTCAPACITY_EMPTY_ELEMENTDATA : ClassId) (a1 : Addr) (q2 : Int64) (a4 : Addr) (a21 : Addr) (k22 : ClassId) (a23 : Addr) (h0 : Heap) (n0 : Nat) (v : Option Value) (h : Heap) (L : List Loc) : Prop := Fr n0 L ∧ ∃ b6 : Addr, ∃ b3_7 : Addr, ∃ k3_7 : ClassId, v = none ∧ h0.size ≤ b6 ∧ h0.size ≤ b3_7 ∧ b6 ≠ b3_7 ∧ OKeep h0 h [(a1, Jvm.RoadKit.slotOf Z "com/example/restrained_scaler/restrainedscaler/decision/StabilizationWindow" "demands" "Ljava/util/Deque;"), (a1, Jvm.RoadKit.slotOf Z "com/example/restrained_scaler/restrainedscaler/decision/StabilizationWindow" "seconds" "J"), (a1, Jvm.RoadKit.slotOf Z "com/example/restrained_scaler/restrainedscaler/decision/StabilizationWindow" "kept" "Lcom/example/restrained_scaler/restrainedscaler/decision/StabilizationWindow$Kept;")] ∧ Fld Z h a1 "com/example/restrained_scaler/restrainedscaler/decision/StabilizationWindow" "demands" "Ljava/util/Deque;" (.ref b6) ∧ Fld Z h a1 "com/example/restrained_scaler/restrainedscaler/decision/StabilizationWindow" "seconds" "J" (.long q2) ∧ Fld Z h a1 "com/example/restrained_scaler/restrainedscaler/decision/StabilizationWindow" "kept" "Lcom/example/restrained_scaler/restrainedscaler/decision/StabilizationWindow$Kept;" (.ref w_LOWEST) ∧ Exa Z h b6 "java/util/ArrayDeque" ∧ Fld Z h b6 "java/util/ArrayDeque" "elements" "[Ljava/lang/Object;" (.ref b3_7) ∧ Fld Z h b6 "java/util/ArrayDeque" "head" "I" (.int (0 : Int32)) ∧ Fld Z h b6 "java/util/ArrayDeque" "tail" "I" (.int (1 : Int32)) ∧ Exa Z h b3_7 "[Ljava/lang/Object;" ∧ Arv Z h b3_7 k3_7 (.object "java/lang/Object") (17 : Int32) [(.ref a23), .null, .null, .null, .null, .null, .null, .null, .null, .null, .null, .null, .null, .null, .null, .null, .null] .null ∧ Ovr Z k3_7 "java/lang/Object"
theorem ef12 (m : MethodId) (x0 : Addr) (x1 : Int64) (x2 : Addr) (x3 : Addr) : entryFrame m #[(.ref x0), (.long x1), (.ref x2), (.ref x3)] 7 = mkF m 0 #[.val (.ref x0), .val (.long x1), .second, .val (.ref x2), .val (.ref x3), .unset, .unset] [] := by first | (simp [entryFrame, mkF, argsToLocals, Value.category]; done) | rfl
set_option maxRecDepth 65536 in
set_option maxHeartbeats 40000000 in
theorem rm12 (l : Launch) (Z : State) (a0 : Array Value) (hw : ∀ d ∈ tables_1, d.before a0 Z = true) (ws : List Jvm.Cond) {w_LOWEST : Addr} {w_HIGHEST : Addr} {w_EMPTY_ELEMENTDATA : Addr} {w_DEFAULTCAPACITY_EMPTY_ELEMENTDATA : Addr} {k_w_EMPTY_ELEMENTDATA : ClassId} {k_w_DEFAULTCAPACITY_EMPTY_ELEMENTDATA : ClassId} (G : Glob Z w_LOWEST w_HIGHEST w_EMPTY_ELEMENTDATA w_DEFAULTCAPACITY_EMPTY_ELEMENTDATA k_w_EMPTY_ELEMENTDATA k_w_DEFAULTCAPACITY_EMPTY_ELEMENTDATA) (a1 : Addr) (q2 : Int64) (a4 : Addr) (a21 : Addr) (k22 : ClassId) (a23 : Addr) (h0 : Heap) (n0 : Nat) (O0 : Old Z n0 h0) (E_a1 : Exa Z h0 a1 "com/example/restrained_scaler/restrainedscaler/decision/StabilizationWindow") (F_demands_a1 : Fld Z h0 a1 "com/example/restrained_scaler/restrainedscaler/decision/StabilizationWindow" "demands" "Ljava/util/Deque;" .null) (g_a1 : n0 ≤ a1) (F_seconds_a1 : Fld Z h0 a1 "com/example/restrained_scaler/restrainedscaler/decision/StabilizationWindow" "seconds" "J" (.long (0 : Int64))) (F_kept_a1 : Fld Z h0 a1 "com/example/restrained_scaler/restrainedscaler/decision/StabilizationWindow" "kept" "Lcom/example/restrained_scaler/restrainedscaler/decision/StabilizationWindow$Kept;" .null) (E_a4 : Exa Z h0 a4 "java/util/ArrayList") (F_modCount_a4 : Fld Z h0 a4 "java/util/AbstractList" "modCount" "I" (.int (1 : Int32))) (ne_a4_a1 : a4 ≠ a1) (F_size_a4 : Fld Z h0 a4 "java/util/ArrayList" "size" "I" (.int (1 : Int32))) (F_elementData_a4 : Fld Z h0 a4 "java/util/ArrayList" "elementData" "[Ljava/lang/Object;" (.ref a21)) (V_a21 : Arv Z h0 a21 k22 (.object "java/lang/Object") (10 : Int32) [(.ref a23), .null, .null, .null, .null, .null, .null, .null, .null, .null] .null) (O_k22 : Ovr Z k22 "java/lang/Object") (ne_a21_a1 : a21 ≠ a1) (E_a23 : Exa Z h0 a23 "com/example/restrained_scaler/restrainedscaler/decision/Decider$Demand") :
    MetFree l (⟨"com/example/restrained_scaler/restrainedscaler/decision/StabilizationWindow", "<init>", "(JLcom/example/restrained_scaler/restrainedscaler/decision/StabilizationWindow$Kept;Ljava/util/List;)V"⟩ : MethodName) (head1 (Jvm.Cond.code (⟨"com/example/restrained_scaler/restrainedscaler/decision/StabilizationWindow", "<init>", "(JLcom/example/restrained_scaler/restrainedscaler/decision/StabilizationWindow$Kept;Ljava/util/List;)V"⟩ : MethodName) prog_24_method_1_code 7 none :: ws) ({ frames := 3, cells := 3, slots := 24, locals := 42 } : Room)) (fun a U => a = #[(.ref a1), (.long q2), (.ref w_LOWEST), (.ref a4)] ∧ Z.Warmed39 U.vm ∧ U.heap = h0) (fun _ _ _ _ _ => True) (fun _ U o U' => ∃ v L, o = .returned v ∧ Q12 Z w_LOWEST w_HIGHEST w_EMPTY_ELEMENTDATA w_DEFAULTCAPACITY_EMPTY_ELEMENTDATA k_w_EMPTY_ELEMENTDATA k_w_DEFAULTCAPACITY_EMPTY_ELEMENTDATA a1 q2 a4 a21 k22 a23 h0 n0 v U'.heap L ∧ FrameEnd U o U' L ({ frames := 3, cells := 3, slots := 24, locals := 42 } : Room).cells ({ frames := 3, cells := 3, slots := 24, locals := 42 } : Room).slots) := by
  refine MetFree.of_bodySF (plainFor_of_name pn_com_example_restrained_scaler_restrainedscaler_decision_StabilizationWindow) hisR ?_
  intro p e s m args below meth c s₁ Bd hml0 hP hK
  obtain ⟨rfl, hZ, hh⟩ := hP
  have hx := Bd.exec
  have hby := Bd.bytes
  have hml : c.maxLocals = 7 := hml0
  have hown : s.vm.findClass "com/example/restrained_scaler/restrainedscaler/decision/StabilizationWindow" = some m.cls := findClass_of_methodNamed Bd.named
  have hnm := (name_of_methodNamed Bd.named Bd.method).1
  have X0 : Stand p l e ({ frames := 3, cells := 3, slots := 24, locals := 42 } : Room) s m #[(.ref a1), (.long q2), (.ref w_LOWEST), (.ref a4)] below meth c s₁ [] 0 0 := Stand.of_body Bd
  have e0 : s₁.heap = h0 := by rw [← hh, Bd.state]; rfl
  have N0 := Fr.nil n0
  show OGot p.tables e below (s₁.setTop (entryFrame m #[(.ref a1), (.long q2), (.ref w_LOWEST), (.ref a4)] 7)) _
  refine OGot.go (fun t k => castTop (ef12 m a1 q2 w_LOWEST a4) k) ?_
  show OGot p.tables e below (s₁.setTop (mkF m 0 #[.val (.ref a1), .val (.long q2), .second, .val (.ref w_LOWEST), .val (.ref a4), .unset, .unset] [])) _
  refine OGot.go (fun t k => XS.aloadN X0.here hx rfl (hb hby d12_0) rfl rfl k) ?_
  obtain ⟨T5, X5, e5, st5⟩ := initO X0 hx hZ hown (ow hw 87 rfl) (ow hw 23 rfl) (ow hw 24 rfl) e0 (g := (mkF m 1 #[.val (.ref a1), .val (.long q2), .second, .val (.ref w_LOWEST), .val (.ref a4), .unset, .unset] [(.ref a1)])) rfl (by rw [hml]; rfl) rfl (hb hby d12_1) (by decide) (W := 0) (by show 2 * 0 + _ ≤ _; exact Nat.le_of_eq rfl) (by decide)
  refine OGot.go st5 ?_
  refine OGot.go (fun t k => XS.aloadN X5.here hx rfl (hb hby d12_4) rfl rfl k) ?_
  obtain ⟨T6, h6, X6, e6, E6, A6, D6, -, st6⟩ := newO X5 hx hZ hown (ow hw 88 rfl) (ow hw 89 rfl) (ow hw 90 rfl) e5 (g := (mkF m 5 #[.val (.ref a1), .val (.long q2), .second, .val (.ref w_LOWEST), .val (.ref a4), .unset, .unset] [(.ref a1)])) rfl (hb hby d12_5) (by decide) (by decide)
  obtain ⟨b6, g6⟩ : ∃ z, z = h0.size := ⟨_, rfl⟩
  rw [← g6] at A6 D6 st6
  refine OGot.go st6 ?_
  have g_b6 : n0 ≤ b6 := Nat.le_trans (osz O0) (Nat.le_of_eq g6.symm)
  have sy_b6 : h0.size ≤ b6 := Nat.le_of_eq g6.symm
  have sz_b6 : h0.size ≤ b6 := Nat.le_trans (OKeep.refl h0 [(a1, Jvm.RoadKit.slotOf Z "com/example/restrained_scaler/restrainedscaler/decision/StabilizationWindow" "demands" "Ljava/util/Deque;"), (a1, Jvm.RoadKit.slotOf Z "com/example/restrained_scaler/restrainedscaler/decision/StabilizationWindow" "seconds" "J"), (a1, Jvm.RoadKit.slotOf Z "com/example/restrained_scaler/restrainedscaler/decision/StabilizationWindow" "kept" "Lcom/example/restrained_scaler/restrainedscaler/decision/StabilizationWindow$Kept;")]).1 sy_b6
  have K6 := (OKeep.refl h0 [(a1, Jvm.RoadKit.slotOf Z "com/example/restrained_scaler/restrainedscaler/decision/StabilizationWindow" "demands" "Ljava/util/Deque;"), (a1, Jvm.RoadKit.slotOf Z "com/example/restrained_scaler/restrainedscaler/decision/StabilizationWindow" "seconds" "J"), (a1, Jvm.RoadKit.slotOf Z "com/example/restrained_scaler/restrainedscaler/decision/StabilizationWindow" "kept" "Lcom/example/restrained_scaler/restrainedscaler/decision/StabilizationWindow$Kept;")]).ext E6
  have O6 := O0.ext E6
  have F6_elements : Fld Z h6 b6 "java/util/ArrayDeque" "elements" "[Ljava/lang/Object;" .null := D6 (Or.inl (ow hw 98 rfl)) (ty := (.array (.object "java/lang/Object"))) (by decide)
  have F6_head : Fld Z h6 b6 "java/util/ArrayDeque" "head" "I" (.int (0 : Int32)) := D6 (Or.inl (ow hw 170 rfl)) (ty := .int) (by decide)
  have F6_tail : Fld Z h6 b6 "java/util/ArrayDeque" "tail" "I" (.int (0 : Int32)) := D6 (Or.inl (ow hw 172 rfl)) (ty := .int) (by decide)
  refine OGot.go (fun t k => XS.dup X6.here hx rfl (hb hby d12_8) rfl rfl k) ?_
  obtain ⟨_, _, ⟨T7, L7, k7, n7⟩, -, X7, ⟨Lc7, hQ7, l7, y7, z7⟩, st7⟩ := X6.specialBack hx (y := (⟨"java/util/ArrayDeque", "<init>", "()V"⟩ : MethodName)) rfl hown (mvT hZ (ow hw 91 rfl)) (mvT hZ (ow hw 92 rfl)) (mvT hZ (ow hw 93 rfl)) (by decide) (backOf (W := 2) (rm13 l Z a0 hw [] G b6 h6 n0 O6 A6 F6_elements g_b6) hZ (ow hw 93 rfl) (ow hw 90 rfl) (by decide) (by decide)) (g := (mkF m 9 #[.val (.ref a1), .val (.long q2), .second, .val (.ref w_LOWEST), .val (.ref a4), .unset, .unset] [(.ref b6), (.ref b6), (.ref a1)])) rfl (by rw [hml]; rfl) (Steps.refl _) (a := b6) (argsL := []) (rest := [(.ref b6), (.ref a1)]) (lenOf pd_7 rfl) rfl (by show 2 * 0 + _ ≤ _; exact Nat.le_of_eq rfl) (hb hby d12_9) (fun _ _ => ⟨rfl, e6, (by decide : 1 + 1 ≤ _), (by decide : 3 + 17 ≤ _)⟩)
  dsimp only [Pt.U, Pt.locs, Pt.cells, Pt.slots] at X7 l7 y7 z7 st7 hQ7
  subst l7 y7 z7
  obtain ⟨N7q, b3_7, k3_7, rfl, szb3_7_7, K7, Fo7_0, Fo7_1, Fo7_2, Fo7_3⟩ := hQ7
  have g_b3_7 : n0 ≤ b3_7 := Nat.le_trans (osz O6) szb3_7_7
  have sz_b3_7 : h0.size ≤ b3_7 := Nat.le_trans K6.1 szb3_7_7
  have Kc7 := K6.trans K7 (oinS (Or.inr sz_b6) oin0)
  have O7 := OKeep.old O6 K7 (ogeS g_b6 oge0)
  have N7 := Fr.app N0 N7q
  refine OGot.on st7 ?_
  show OGot p.tables e below (T7.setTop (mkF m 12 #[.val (.ref a1), .val (.long q2), .second, .val (.ref w_LOWEST), .val (.ref a4), .unset, .unset] [(.ref b6), (.ref a1)])) _
  have ne8 : a1 ≠ b6 := (Nat.ne_of_lt (Nat.lt_of_lt_of_le F_demands_a1.lt sy_b6))
  have F9 : Fld Z T7.heap a1 "com/example/restrained_scaler/restrainedscaler/decision/StabilizationWindow" "demands" "Ljava/util/Deque;" .null := (OKeep.fld (F_demands_a1.ext E6) K7 (oninA ne8 onin0))
  obtain ⟨T10, h10, X10, e10, W10, st10⟩ := putF X7 hx hZ hown (host := "") (Or.inl (ow hw 99 rfl)) Via.refl rfl F9 (OKeep.exa (E_a1.ext E6) K7) (Or.inr ⟨(ow hw 100 rfl), rfl, hnm⟩) (ow hw 82 rfl) (ty := (.object "java/util/Deque")) (by decide) rfl rfl (g := (mkF m 12 #[.val (.ref a1), .val (.long q2), .second, .val (.ref w_LOWEST), .val (.ref a4), .unset, .unset] [(.ref b6), (.ref a1)])) rfl rfl (hb hby d12_12)
  refine OGot.go st10 ?_
  have N10 := Fr.snoc X10 N7 g_a1
  have O10 := O7.wr W10 g_a1
  have K10 := Kc7.wr W10 (Or.inl (List.mem_of_getElem? (i := 0) rfl))
  have Fw10 : Fld Z h10 a1 "com/example/restrained_scaler/restrainedscaler/decision/StabilizationWindow" "demands" "Ljava/util/Deque;" (.ref b6) := F9.same W10
  refine OGot.go (fun t k => XS.aloadN X10.here hx rfl (hb hby d12_15) rfl rfl k) ?_
  refine OGot.go (fun t k => XS.lloadN X10.here hx rfl (hb hby d12_16) rfl k) ?_
  have F11 : Fld Z h10 a1 "com/example/restrained_scaler/restrainedscaler/decision/StabilizationWindow" "seconds" "J" (.long (0 : Int64)) := ((OKeep.fld (F_seconds_a1.ext E6) K7 (oninA ne8 onin0)).other W10 (Or.inr (slot_ne (Or.inr (ow hw 102 rfl)) (Or.inr (ow hw 100 rfl)) (by decide) (t := .long) (t' := (.object "java/util/Deque")) (by decide) (by decide))))
  obtain ⟨T12, h12, X12, e12, W12, st12⟩ := putF X10 hx hZ hown (host := "") (Or.inl (ow hw 101 rfl)) Via.refl e10 F11 ((OKeep.exa (E_a1.ext E6) K7).wr W10) (Or.inr ⟨(ow hw 102 rfl), rfl, hnm⟩) (ow hw 82 rfl) (ty := .long) (by decide) rfl rfl (g := (mkF m 17 #[.val (.ref a1), .val (.long q2), .second, .val (.ref w_LOWEST), .val (.ref a4), .unset, .unset] [(.long q2), (.ref a1)])) rfl rfl (hb hby d12_17)
  refine OGot.go st12 ?_
  have N12 := Fr.snoc X12 N10 g_a1
  have O12 := O10.wr W12 g_a1
  have K12 := K10.wr W12 (Or.inl (List.mem_of_getElem? (i := 1) rfl))
  have Fw12 : Fld Z h12 a1 "com/example/restrained_scaler/restrainedscaler/decision/StabilizationWindow" "seconds" "J" (.long q2) := F11.same W12
  refine OGot.go (fun t k => XS.aloadN X12.here hx rfl (hb hby d12_20) rfl rfl k) ?_
  refine OGot.go (fun t k => XS.aloadN X12.here hx rfl (hb hby d12_21) rfl rfl k) ?_
  show OGot p.tables e below (T12.setTop (mkF m 22 #[.val (.ref a1), .val (.long q2), .second, .val (.ref w_LOWEST), .val (.ref a4), .unset, .unset] [(.ref w_LOWEST), (.ref a1)])) _
  have F13 : Fld Z h12 a1 "com/example/restrained_scaler/restrainedscaler/decision/StabilizationWindow" "kept" "Lcom/example/restrained_scaler/restrainedscaler/decision/StabilizationWindow$Kept;" .null := (((OKeep.fld (F_kept_a1.ext E6) K7 (oninA ne8 onin0)).other W10 (Or.inr (slot_ne (Or.inr (ow hw 104 rfl)) (Or.inr (ow hw 100 rfl)) (by decide) (t := (.object "com/example/restrained_scaler/restrainedscaler/decision/StabilizationWindow$Kept")) (t' := (.object "java/util/Deque")) (by decide) (by decide)))).other W12 (Or.inr (slot_ne (Or.inr (ow hw 104 rfl)) (Or.inr (ow hw 102 rfl)) (by decide) (t := (.object "com/example/restrained_scaler/restrainedscaler/decision/StabilizationWindow$Kept")) (t' := .long) (by decide) (by decide))))
  obtain ⟨T14, h14, X14, e14, W14, st14⟩ := putF X12 hx hZ hown (host := "") (Or.inl (ow hw 103 rfl)) Via.refl e12 F13 (((OKeep.exa (E_a1.ext E6) K7).wr W10).wr W12) (Or.inr ⟨(ow hw 104 rfl), rfl, hnm⟩) (ow hw 82 rfl) (ty := (.object "com/example/restrained_scaler/restrainedscaler/decision/StabilizationWindow$Kept")) (by decide) rfl rfl (g := (mkF m 22 #[.val (.ref a1), .val (.long q2), .second, .val (.ref w_LOWEST), .val (.ref a4), .unset, .unset] [(.ref w_LOWEST), (.ref a1)])) rfl rfl (hb hby d12_22)
  refine OGot.go st14 ?_
  have N14 := Fr.snoc X14 N12 g_a1
  have O14 := O12.wr W14 g_a1
  have K14 := K12.wr W14 (Or.inl (List.mem_of_getElem? (i := 2) rfl))
  have Fw14 : Fld Z h14 a1 "com/example/restrained_scaler/restrainedscaler/decision/StabilizationWindow" "kept" "Lcom/example/restrained_scaler/restrainedscaler/decision/StabilizationWindow$Kept;" (.ref w_LOWEST) := F13.same W14
  refine OGot.go (fun t k => XS.aload X14.here hx rfl (hb hby d12_25) rfl rfl k) ?_
  have ne16 : a4 ≠ b6 := (Nat.ne_of_lt (Nat.lt_of_lt_of_le F_modCount_a4.lt sy_b6))
  have ne17 : a4 ≠ a1 := ne_a4_a1
  have F18 : Fld Z h14 a4 "java/util/AbstractList" "modCount" "I" (.int (1 : Int32)) := ((((OKeep.fld (F_modCount_a4.ext E6) K7 (oninA ne16 onin0)).other W10 (Or.inl ne17)).other W12 (Or.inl ne17)).other W14 (Or.inl ne17))
  obtain ⟨cq15, kq15, q15a, q15b, q15c⟩ := isOf hZ e14 ((((OKeep.exa (E_a4.ext E6) K7).wr W10).wr W12).wr W14)
  obtain ⟨_, _, ⟨T15, L15, k15, n15⟩, -, X15, ⟨Lc15, hQ15, l15, y15, z15⟩, st15⟩ := X14.interfaceBack hx (xi := (⟨"java/util/List", "iterator", "()Ljava/util/Iterator;"⟩ : MethodName)) (y := (⟨"java/util/ArrayList", "iterator", "()Ljava/util/Iterator;"⟩ : MethodName)) hown (mvT hZ (ow hw 105 rfl)) (mvT hZ (ow hw 106 rfl)) (mvT hZ (ow hw 107 rfl)) (mvT hZ (ow hw 108 rfl)) (mvT hZ (ow hw 109 rfl)) (mvT hZ (ow hw 110 rfl)) (mvT hZ (ow hw 111 rfl)) (mvT hZ (ow hw 53 rfl)) (by decide) (backOf (W := 0) (rm14 l Z a0 hw [] G a4 h14 n0 O14 F18) hZ (ow hw 112 rfl) (ow hw 6 rfl) (by decide) (by decide)) q15a q15b q15c (g := (mkF m 27 #[.val (.ref a1), .val (.long q2), .second, .val (.ref w_LOWEST), .val (.ref a4), .unset, .unset] [(.ref a4)])) rfl (by rw [hml]; rfl) (Steps.refl _) (argsL := []) (rest := []) (lenOf pd_15 rfl) rfl (by show 2 * 0 + _ ≤ _; exact Nat.le_of_eq rfl) (hb hby d12_27) (fun _ _ => ⟨rfl, e14, (by decide : 2 + 1 ≤ _), (by decide : 20 + 4 ≤ _)⟩)
  dsimp only [Pt.U, Pt.locs, Pt.cells, Pt.slots] at X15 l15 y15 z15 st15 hQ15
  subst l15 y15 z15
  obtain ⟨N15q, b2_15, rfl, szb2_15_15, K15, Fo15_0, Fo15_1, Fo15_2, Fo15_3, Fo15_4⟩ := hQ15
  have g_b2_15 : n0 ≤ b2_15 := Nat.le_trans (osz O14) szb2_15_15
  have sz_b2_15 : h0.size ≤ b2_15 := Nat.le_trans K14.1 szb2_15_15
  have Kc15 := K14.trans K15 oin0
  have O15 := OKeep.old O14 K15 oge0
  have N15 := Fr.app N14 N15q
  refine OGot.on st15 ?_
  refine OGot.go (fun t k => XS.astore X15.here hx rfl (hb hby d12_32) rfl rfl (l' := #[.val (.ref a1), .val (.long q2), .second, .val (.ref w_LOWEST), .val (.ref a4), .val (.ref b2_15), .unset]) rfl k) ?_
  refine OGot.go (fun t k => XS.aload X15.here hx rfl (hb hby d12_34) rfl rfl k) ?_
  have F20 : Fld Z T15.heap a4 "java/util/ArrayList" "size" "I" (.int (1 : Int32)) := (OKeep.fld ((((OKeep.fld (F_size_a4.ext E6) K7 (oninA ne16 onin0)).other W10 (Or.inl ne17)).other W12 (Or.inl ne17)).other W14 (Or.inl ne17)) K15 onin0)
  obtain ⟨cq19, kq19, q19a, q19b, q19c⟩ := isOf hZ rfl Fo15_0
  obtain ⟨_, _, ⟨T19, L19, k19, n19⟩, -, X19, ⟨Lc19, hQ19, l19, y19, z19⟩, st19⟩ := X15.interfaceBack hx (xi := (⟨"java/util/Iterator", "hasNext", "()Z"⟩ : MethodName)) (y := (⟨"java/util/ArrayList$Itr", "hasNext", "()Z"⟩ : MethodName)) hown (mvT hZ (ow hw 128 rfl)) (mvT hZ (ow hw 129 rfl)) (mvT hZ (ow hw 130 rfl)) (mvT hZ (ow hw 131 rfl)) (mvT hZ (ow hw 132 rfl)) (mvT hZ (ow hw 133 rfl)) (mvT hZ (ow hw 134 rfl)) (mvT hZ (ow hw 135 rfl)) (by decide) (backOf (W := 0) (rm16 l Z a0 hw [] G b2_15 a4 T15.heap n0 O15 Fo15_1 Fo15_4 F20) hZ (ow hw 136 rfl) (ow hw 115 rfl) (by decide) (by decide)) q19a q19b q19c (g := (mkF m 36 #[.val (.ref a1), .val (.long q2), .second, .val (.ref w_LOWEST), .val (.ref a4), .val (.ref b2_15), .unset] [(.ref b2_15)])) rfl (by rw [hml]; rfl) (Steps.refl _) (argsL := []) (rest := []) (lenOf pd_0 rfl) rfl (by show 2 * 0 + _ ≤ _; exact Nat.le_of_eq rfl) (hb hby d12_36) (fun _ _ => ⟨rfl, rfl, (by decide : 3 + 0 ≤ _), (by decide : 24 + 0 ≤ _)⟩)
  dsimp only [Pt.U, Pt.locs, Pt.cells, Pt.slots] at X19 l19 y19 z19 st19 hQ19
  subst l19 y19 z19
  obtain ⟨rfl, N19q, e19⟩ := hQ19
  have N19 := Fr.app N15 N19q
  refine OGot.on st19 ?_
  show OGot p.tables e below (T19.setTop (mkF m 41 #[.val (.ref a1), .val (.long q2), .second, .val (.ref w_LOWEST), .val (.ref a4), .val (.ref b2_15), .unset] [(.int (1 : Int32))])) _
  refine OGot.go (fun t k => XS.ifNo X19.here hx rfl (hb hby d12_41) rfl (by decide) k) ?_
  refine OGot.go (fun t k => XS.aload X19.here hx rfl (hb hby d12_44) rfl rfl k) ?_
  have ne24 : a21 ≠ b2_15 := (Nat.ne_of_lt (Nat.lt_of_lt_of_le (Nat.lt_of_lt_of_le (Nat.lt_of_lt_of_le (Nat.lt_of_lt_of_le (Nat.lt_of_lt_of_le (Nat.lt_of_lt_of_le V_a21.lt E6.1) K7.1) (Keep.of_wr W10).1) (Keep.of_wr W12).1) (Keep.of_wr W14).1) szb2_15_15))
  have F26 : Fld Z T15.heap a4 "java/util/AbstractList" "modCount" "I" (.int (1 : Int32)) := (OKeep.fld F18 K15 onin0)
  have F27 : Fld Z T15.heap a4 "java/util/ArrayList" "elementData" "[Ljava/lang/Object;" (.ref a21) := (OKeep.fld ((((OKeep.fld (F_elementData_a4.ext E6) K7 (oninA ne16 onin0)).other W10 (Or.inl ne17)).other W12 (Or.inl ne17)).other W14 (Or.inl ne17)) K15 onin0)
  have ne28 : a21 ≠ b6 := (Nat.ne_of_lt (Nat.lt_of_lt_of_le V_a21.lt sy_b6))
  have ne29 : a21 ≠ a1 := ne_a21_a1
  have F30 : Arv Z T15.heap a21 k22 (.object "java/lang/Object") (10 : Int32) [(.ref a23), .null, .null, .null, .null, .null, .null, .null, .null, .null] .null := (OKeep.arv ((((OKeep.arv (V_a21.ext E6) K7 (oallS ne28 oall0)).other W10 ne29).other W12 ne29).other W14 ne29) K15 oall0)
  obtain ⟨cq25, kq25, q25a, q25b, q25c⟩ := isOf hZ e19 Fo15_0
  obtain ⟨_, _, ⟨T25, L25, k25, n25⟩, -, X25, ⟨Lc25, hQ25, l25, y25, z25⟩, st25⟩ := X19.interfaceBack hx (xi := (⟨"java/util/Iterator", "next", "()Ljava/lang/Object;"⟩ : MethodName)) (y := (⟨"java/util/ArrayList$Itr", "next", "()Ljava/lang/Object;"⟩ : MethodName)) hown (mvT hZ (ow hw 140 rfl)) (mvT hZ (ow hw 141 rfl)) (mvT hZ (ow hw 142 rfl)) (mvT hZ (ow hw 143 rfl)) (mvT hZ (ow hw 144 rfl)) (mvT hZ (ow hw 145 rfl)) (mvT hZ (ow hw 146 rfl)) (mvT hZ (ow hw 135 rfl)) (by decide) (backOf (W := 0) (rm17 l Z a0 hw [] G b2_15 a4 a21 k22 a23 T15.heap n0 O15 Fo15_0 Fo15_4 F26 Fo15_2 Fo15_1 F20 F27 F30 O_k22 g_b2_15 Fo15_3 ne24) hZ (ow hw 147 rfl) (ow hw 115 rfl) (by decide) (by decide)) q25a q25b q25c (g := (mkF m 46 #[.val (.ref a1), .val (.long q2), .second, .val (.ref w_LOWEST), .val (.ref a4), .val (.ref b2_15), .unset] [(.ref b2_15)])) rfl (by rw [hml]; rfl) (Steps.refl _) (argsL := []) (rest := []) (lenOf pd_4 rfl) rfl (by show 2 * 0 + _ ≤ _; exact Nat.le_of_eq rfl) (hb hby d12_46) (fun _ _ => ⟨rfl, e19, (by decide : 3 + 0 ≤ _), (by decide : 24 + 0 ≤ _)⟩)
  dsimp only [Pt.U, Pt.locs, Pt.cells, Pt.slots] at X25 l25 y25 z25 st25 hQ25
  subst l25 y25 z25
  obtain ⟨N25q, rfl, K25, Fo25_0, Fo25_1⟩ := hQ25
  have Kc25 := Kc15.trans K25 (oinS (Or.inr sz_b2_15) (oinS (Or.inr sz_b2_15) oin0))
  have O25 := OKeep.old O15 K25 (ogeS g_b2_15 (ogeS g_b2_15 oge0))
  have N25 := Fr.app N19 N25q
  refine OGot.on st25 ?_
  obtain ⟨T31, X31, e31, st31⟩ := castY X25 hx hZ hown (ow hw 154 rfl) rfl (Ins.self (OKeep.exa (OKeep.exa ((((OKeep.exa (E_a23.ext E6) K7).wr W10).wr W12).wr W14) K15) K25)) (g := (mkF m 51 #[.val (.ref a1), .val (.long q2), .second, .val (.ref w_LOWEST), .val (.ref a4), .val (.ref b2_15), .unset] [(.ref a23)])) rfl rfl (hb hby d12_51)
  refine OGot.go st31 ?_
  refine OGot.go (fun t k => XS.astore X31.here hx rfl (hb hby d12_54) rfl rfl (l' := #[.val (.ref a1), .val (.long q2), .second, .val (.ref w_LOWEST), .val (.ref a4), .val (.ref b2_15), .val (.ref a23)]) rfl k) ?_
  refine OGot.go (fun t k => XS.aloadN X31.here hx rfl (hb hby d12_56) rfl rfl k) ?_
  show OGot p.tables e below (T31.setTop (mkF m 57 #[.val (.ref a1), .val (.long q2), .second, .val (.ref w_LOWEST), .val (.ref a4), .val (.ref b2_15), .val (.ref a23)] [(.ref a1)])) _
  refine OGot.go (fun t k => XS.aload X31.here hx rfl (hb hby d12_57) rfl rfl k) ?_
  have ne32 : b6 ≠ b3_7 := (Nat.ne_of_lt (Nat.lt_of_lt_of_le A6.lt szb3_7_7))
  have ne34 : a1 ≠ b2_15 := (Nat.ne_of_lt (Nat.lt_of_lt_of_le (Nat.lt_of_lt_of_le (Nat.lt_of_lt_of_le (Nat.lt_of_lt_of_le (Nat.lt_of_lt_of_le (Nat.lt_of_lt_of_le F_demands_a1.lt E6.1) K7.1) (Keep.of_wr W10).1) (Keep.of_wr W12).1) (Keep.of_wr W14).1) szb2_15_15))
  have F35 : Fld Z T25.heap a1 "com/example/restrained_scaler/restrainedscaler/decision/StabilizationWindow" "demands" "Ljava/util/Deque;" (.ref b6) := (OKeep.fld (OKeep.fld ((Fw10.other W12 (Or.inr (slot_ne (Or.inr (ow hw 100 rfl)) (Or.inr (ow hw 102 rfl)) (by decide) (t := (.object "java/util/Deque")) (t' := .long) (by decide) (by decide)))).other W14 (Or.inr (slot_ne (Or.inr (ow hw 100 rfl)) (Or.inr (ow hw 104 rfl)) (by decide) (t := (.object "java/util/Deque")) (t' := (.object "com/example/restrained_scaler/restrainedscaler/decision/StabilizationWindow$Kept")) (by decide) (by decide)))) K15 onin0) K25 (oninA ne34 (oninA ne34 onin0)))
  have ne36 : b6 ≠ b2_15 := (Nat.ne_of_lt (Nat.lt_of_lt_of_le (Nat.lt_of_lt_of_le (Nat.lt_of_lt_of_le (Nat.lt_of_lt_of_le (Nat.lt_of_lt_of_le A6.lt K7.1) (Keep.of_wr W10).1) (Keep.of_wr W12).1) (Keep.of_wr W14).1) szb2_15_15))
  have F37 : Fld Z T25.heap b6 "java/util/ArrayDeque" "head" "I" (.int (0 : Int32)) := (OKeep.fld (OKeep.fld ((((OKeep.fld F6_head K7 (oninS (slot_ne (Or.inl (ow hw 170 rfl)) (Or.inl (ow hw 98 rfl)) (by decide) (t := .int) (t' := (.array (.object "java/lang/Object"))) (by decide) (by decide)) onin0)).other W10 (Or.inl (Ne.symm ne8))).other W12 (Or.inl (Ne.symm ne8))).other W14 (Or.inl (Ne.symm ne8))) K15 onin0) K25 (oninA ne36 (oninA ne36 onin0)))
  have F38 : Fld Z T25.heap b6 "java/util/ArrayDeque" "tail" "I" (.int (0 : Int32)) := (OKeep.fld (OKeep.fld ((((OKeep.fld F6_tail K7 (oninS (slot_ne (Or.inl (ow hw 172 rfl)) (Or.inl (ow hw 98 rfl)) (by decide) (t := .int) (t' := (.array (.object "java/lang/Object"))) (by decide) (by decide)) onin0)).other W10 (Or.inl (Ne.symm ne8))).other W12 (Or.inl (Ne.symm ne8))).other W14 (Or.inl (Ne.symm ne8))) K15 onin0) K25 (oninA ne36 (oninA ne36 onin0)))
  have F39 : Fld Z T25.heap b6 "java/util/ArrayDeque" "elements" "[Ljava/lang/Object;" (.ref b3_7) := (OKeep.fld (OKeep.fld (((Fo7_0.other W10 (Or.inl (Ne.symm ne8))).other W12 (Or.inl (Ne.symm ne8))).other W14 (Or.inl (Ne.symm ne8))) K15 onin0) K25 (oninA ne36 (oninA ne36 onin0)))
  have ne40 : a1 ≠ b3_7 := (Nat.ne_of_lt (Nat.lt_of_lt_of_le (Nat.lt_of_lt_of_le F_demands_a1.lt E6.1) szb3_7_7))
  have ne41 : b3_7 ≠ b2_15 := (Nat.ne_of_lt (Nat.lt_of_lt_of_le (Nat.lt_of_lt_of_le (Nat.lt_of_lt_of_le (Nat.lt_of_lt_of_le Fo7_1.lt (Keep.of_wr W10).1) (Keep.of_wr W12).1) (Keep.of_wr W14).1) szb2_15_15))
  have F42 : Arv Z T25.heap b3_7 k3_7 (.object "java/lang/Object") (17 : Int32) [.null, .null, .null, .null, .null, .null, .null, .null, .null, .null, .null, .null, .null, .null, .null, .null, .null] .null := (OKeep.arv (OKeep.arv (((Fo7_2.other W10 (Ne.symm ne40)).other W12 (Ne.symm ne40)).other W14 (Ne.symm ne40)) K15 oall0) K25 (oallS ne41 (oallS ne41 oall0)))
  obtain ⟨cq33, q33, q33'⟩ := (OKeep.exa (OKeep.exa ((((OKeep.exa (E_a1.ext E6) K7).wr W10).wr W12).wr W14) K15) K25).cell
  obtain ⟨_, _, ⟨T33, L33, k33, n33⟩, -, X33, ⟨Lc33, hQ33, l33, y33, z33⟩, st33⟩ := X31.privateBack hx (y := (⟨"com/example/restrained_scaler/restrainedscaler/decision/StabilizationWindow", "keep", "(Lcom/example/restrained_scaler/restrainedscaler/decision/Decider$Demand;)V"⟩ : MethodName)) hown (mvT hZ (ow hw 156 rfl)) (mvT hZ (ow hw 157 rfl)) (osel hZ (ow hw 82 rfl) (ow hw 157 rfl) (ow hw 158 rfl) (by decide)) (Cond.privateMethod_at (mvP hZ (ow hw 158 rfl) (args := #[]))) (mvT hZ (ow hw 159 rfl)) (by decide) (backOf (W := 0) (rm19 l Z a0 hw [] G a1 a23 b6 b3_7 k3_7 T25.heap n0 O25 F35 (OKeep.exa (OKeep.exa ((((OKeep.exa A6 K7).wr W10).wr W12).wr W14) K15) K25) F37 F38 F39 F42 Fo7_3 g_b3_7 (OKeep.exa (OKeep.exa ((((OKeep.exa (E_a23.ext E6) K7).wr W10).wr W12).wr W14) K15) K25) ne32 g_b6) hZ (ow hw 159 rfl) (ow hw 83 rfl) (by decide) (by decide)) (g := (mkF m 59 #[.val (.ref a1), .val (.long q2), .second, .val (.ref w_LOWEST), .val (.ref a4), .val (.ref b2_15), .val (.ref a23)] [(.ref a23), (.ref a1)])) rfl (by rw [hml]; rfl) (Steps.refl _) (a := a1) (by rw [e31]; exact q33) q33' (argsL := [(.ref a23)]) (rest := []) (lenOf pd_9 rfl) rfl (by show 2 * 0 + _ ≤ _; exact Nat.le_of_eq rfl) (hb hby d12_59) (fun _ _ => ⟨rfl, e31, (by decide : 3 + 0 ≤ _), (by decide : 24 + 0 ≤ _)⟩)
  dsimp only [Pt.U, Pt.locs, Pt.cells, Pt.slots] at X33 l33 y33 z33 st33 hQ33
  subst l33 y33 z33
  obtain ⟨N33q, rfl, K33, Fo33_0, Fo33_1⟩ := hQ33
  have Kc33 := Kc25.trans K33 (oinS (Or.inr sz_b6) (oinS (Or.inr sz_b3_7) oin0))
  have O33 := OKeep.old O25 K33 (ogeS g_b6 (ogeS g_b3_7 oge0))
  have N33 := Fr.app N25 N33q
  refine OGot.on st33 ?_
  refine OGot.go (fun t k => XS.goto X33.here hx rfl (pc0 := 62) (pc' := 34) rfl (hb hby d12_62) (by decide) (by decide) k) ?_
  refine OGot.go (fun t k => XS.aload X33.here hx rfl (hb hby d12_34) rfl rfl k) ?_
  have F44 : Fld Z T33.heap b2_15 "java/util/ArrayList$Itr" "cursor" "I" (.int (1 : Int32)) := (OKeep.fld Fo25_0 K33 (oninA (Ne.symm ne36) (oninA (Ne.symm ne41) onin0)))
  have F45 : Fld Z T33.heap b2_15 "java/util/ArrayList$Itr" "this$0" "Ljava/util/ArrayList;" (.ref a4) := (OKeep.fld (OKeep.fld Fo15_4 K25 (oninS (slot_ne (Or.inr (ow hw 121 rfl)) (Or.inl (ow hw 138 rfl)) (by decide) (t := (.object "java/util/ArrayList")) (t' := .int) (by decide) (by decide)) (oninS (slot_ne (Or.inr (ow hw 121 rfl)) (Or.inl (ow hw 124 rfl)) (by decide) (t := (.object "java/util/ArrayList")) (t' := .int) (by decide) (by decide)) onin0))) K33 (oninA (Ne.symm ne36) (oninA (Ne.symm ne41) onin0)))
  have ne46 : a4 ≠ b2_15 := (Nat.ne_of_lt (Nat.lt_of_lt_of_le (Nat.lt_of_lt_of_le (Nat.lt_of_lt_of_le (Nat.lt_of_lt_of_le (Nat.lt_of_lt_of_le (Nat.lt_of_lt_of_le F_modCount_a4.lt E6.1) K7.1) (Keep.of_wr W10).1) (Keep.of_wr W12).1) (Keep.of_wr W14).1) szb2_15_15))
  have ne47 : a4 ≠ b3_7 := (Nat.ne_of_lt (Nat.lt_of_lt_of_le (Nat.lt_of_lt_of_le F_modCount_a4.lt E6.1) szb3_7_7))
  have F48 : Fld Z T33.heap a4 "java/util/ArrayList" "size" "I" (.int (1 : Int32)) := (OKeep.fld (OKeep.fld F20 K25 (oninA ne46 (oninA ne46 onin0))) K33 (oninA ne16 (oninA ne47 onin0)))
  obtain ⟨cq43, kq43, q43a, q43b, q43c⟩ := isOf hZ rfl (OKeep.exa (OKeep.exa Fo15_0 K25) K33)
  obtain ⟨_, _, ⟨T43, L43, k43, n43⟩, -, X43, ⟨Lc43, hQ43, l43, y43, z43⟩, st43⟩ := X33.interfaceBack hx (xi := (⟨"java/util/Iterator", "hasNext", "()Z"⟩ : MethodName)) (y := (⟨"java/util/ArrayList$Itr", "hasNext", "()Z"⟩ : MethodName)) hown (mvT hZ (ow hw 128 rfl)) (mvT hZ (ow hw 129 rfl)) (mvT hZ (ow hw 130 rfl)) (mvT hZ (ow hw 131 rfl)) (mvT hZ (ow hw 132 rfl)) (mvT hZ (ow hw 133 rfl)) (mvT hZ (ow hw 134 rfl)) (mvT hZ (ow hw 135 rfl)) (by decide) (backOf (W := 0) (rm16_1 l Z a0 hw [] G b2_15 a4 T33.heap n0 O33 F44 F45 F48) hZ (ow hw 136 rfl) (ow hw 115 rfl) (by decide) (by decide)) q43a q43b q43c (g := (mkF m 36 #[.val (.ref a1), .val (.long q2), .second, .val (.ref w_LOWEST), .val (.ref a4), .val (.ref b2_15), .val (.ref a23)] [(.ref b2_15)])) rfl (by rw [hml]; rfl) (Steps.refl _) (argsL := []) (rest := []) (lenOf pd_0 rfl) rfl (by show 2 * 0 + _ ≤ _; exact Nat.le_of_eq rfl) (hb hby d12_36) (fun _ _ => ⟨rfl, rfl, (by decide : 3 + 0 ≤ _), (by decide : 24 + 0 ≤ _)⟩)
  dsimp only [Pt.U, Pt.locs, Pt.cells, Pt.slots] at X43 l43 y43 z43 st43 hQ43
  subst l43 y43 z43
  obtain ⟨rfl, N43q, e43⟩ := hQ43
  have N43 := Fr.app N33 N43q
  refine OGot.on st43 ?_
  refine OGot.go (fun t k => XS.ifYes X43.here hx rfl (pc0 := 41) (pc' := 65) rfl (hb hby d12_41) rfl (by decide) (by decide) (by decide) k) ?_
  show OGot p.tables e below (T43.setTop (mkF m 65 #[.val (.ref a1), .val (.long q2), .second, .val (.ref w_LOWEST), .val (.ref a4), .val (.ref b2_15), .val (.ref a23)] [])) _
  obtain ⟨fs, hr, hrun, hended, hW, hsame⟩ := X43.leave (v := none) (fun _ => rfl)
  refine ⟨_, _, X43.returnOut hx Bd.returns (hb hby d12_65) hr, hrun, hended, _, _, rfl, ?_, ⟨_, rfl⟩, hW, hsame.mono (by decide) (by decide)⟩
  have F49 : Fld Z T33.heap a1 "com/example/restrained_scaler/restrainedscaler/decision/StabilizationWindow" "demands" "Ljava/util/Deque;" (.ref b6) := (OKeep.fld F35 K33 (oninA ne8 (oninA ne40 onin0)))
  have F50 : Fld Z T33.heap a1 "com/example/restrained_scaler/restrainedscaler/decision/StabilizationWindow" "seconds" "J" (.long q2) := (OKeep.fld (OKeep.fld (OKeep.fld (Fw12.other W14 (Or.inr (slot_ne (Or.inr (ow hw 102 rfl)) (Or.inr (ow hw 104 rfl)) (by decide) (t := .long) (t' := (.object "com/example/restrained_scaler/restrainedscaler/decision/StabilizationWindow$Kept")) (by decide) (by decide)))) K15 onin0) K25 (oninA ne34 (oninA ne34 onin0))) K33 (oninA ne8 (oninA ne40 onin0)))
  have F51 : Fld Z T33.heap a1 "com/example/restrained_scaler/restrainedscaler/decision/StabilizationWindow" "kept" "Lcom/example/restrained_scaler/restrainedscaler/decision/StabilizationWindow$Kept;" (.ref w_LOWEST) := (OKeep.fld (OKeep.fld (OKeep.fld Fw14 K15 onin0) K25 (oninA ne34 (oninA ne34 onin0))) K33 (oninA ne8 (oninA ne40 onin0)))
  have F52 : Fld Z T33.heap b6 "java/util/ArrayDeque" "elements" "[Ljava/lang/Object;" (.ref b3_7) := (OKeep.fld F39 K33 (oninS (slot_ne (Or.inl (ow hw 98 rfl)) (Or.inl (ow hw 172 rfl)) (by decide) (t := (.array (.object "java/lang/Object"))) (t' := .int) (by decide) (by decide)) (oninA ne32 onin0)))
  have F53 : Fld Z T33.heap b6 "java/util/ArrayDeque" "head" "I" (.int (0 : Int32)) := (OKeep.fld F37 K33 (oninS (slot_ne (Or.inl (ow hw 170 rfl)) (Or.inl (ow hw 172 rfl)) (by decide) (t := .int) (t' := .int) (by decide) (by decide)) (oninA ne32 onin0)))
  show Q12 Z w_LOWEST w_HIGHEST w_EMPTY_ELEMENTDATA w_DEFAULTCAPACITY_EMPTY_ELEMENTDATA k_w_EMPTY_ELEMENTDATA k_w_DEFAULTCAPACITY_EMPTY_ELEMENTDATA a1 q2 a4 a21 k22 a23 h0 n0 _ T43.heap _
  rw [e43]
  exact ⟨N43, b6, b3_7, k3_7, rfl, sz_b6, sz_b3_7, ne32, Kc33, F49, F50, F51, (OKeep.exa (OKeep.exa (OKeep.exa ((((OKeep.exa A6 K7).wr W10).wr W12).wr W14) K15) K25) K33), F52, F53, Fo33_0, (OKeep.exa (OKeep.exa (OKeep.exa (((Fo7_1.wr W10).wr W12).wr W14) K15) K25) K33), Fo33_1, Fo7_3⟩
theorem pd_16 : parseMethodDescriptor "(JLcom/example/restrained_scaler/restrainedscaler/decision/StabilizationWindow$Kept;Ljava/util/List;)V" = some ⟨[.long, (.object "com/example/restrained_scaler/restrainedscaler/decision/StabilizationWindow$Kept"), (.object "java/util/List")], none⟩ := by decide +kernel
def Q25_1 (Z : State) (w_LOWEST : Addr) (w_HIGHEST : Addr) (w_EMPTY_ELEMENTDATA : Addr) (w_DEFAULTCAPACITY_EMPTY_ELEMENTDATA : Addr) (k_w_EMPTY_ELEMENTDATA : ClassId) (k_w_DEFAULTCAPACITY_EMPTY_ELEMENTDATA : ClassId) (a1 : Addr) (k2 : ClassId) (a3 : Addr) (h0 : Heap) (n0 : Nat) (v : Option Value) (h : Heap) (L : List Loc) : Prop := v = some (.ref a3) ∧ Fr n0 L ∧ h = h0
theorem ef25_1 (m : MethodId) (x0 : Addr) : entryFrame m #[(.ref x0), (.int (0 : Int32))] 2 = mkF m 0 #[.val (.ref x0), .val (.int (0 : Int32))] [] := by first | (simp [entryFrame, mkF, argsToLocals, Value.category]; done) | rfl
set_option maxRecDepth 65536 in
set_option maxHeartbeats 40000000 in
theorem rm25_1 (l : Launch) (Z : State) (a0 : Array Value) (hw : ∀ d ∈ tables_1, d.before a0 Z = true) (ws : List Jvm.Cond) {w_LOWEST : Addr} {w_HIGHEST : Addr} {w_EMPTY_ELEMENTDATA : Addr} {w_DEFAULTCAPACITY_EMPTY_ELEMENTDATA : Addr} {k_w_EMPTY_ELEMENTDATA : ClassId} {k_w_DEFAULTCAPACITY_EMPTY_ELEMENTDATA : ClassId} (G : Glob Z w_LOWEST w_HIGHEST w_EMPTY_ELEMENTDATA w_DEFAULTCAPACITY_EMPTY_ELEMENTDATA k_w_EMPTY_ELEMENTDATA k_w_DEFAULTCAPACITY_EMPTY_ELEMENTDATA) (a1 : Addr) (k2 : ClassId) (a3 : Addr) (h0 : Heap) (n0 : Nat) (O0 : Old Z n0 h0) (V_a1 : Arv Z h0 a1 k2 (.object "java/lang/Object") (17 : Int32) [(.ref a3), .null, .null, .null, .null, .null, .null, .null, .null, .null, .null, .null, .null, .null, .null, .null, .null] .null) (O_k2 : Ovr Z k2 "java/lang/Object") :
    MetFree l (⟨"java/util/ArrayDeque", "elementAt", "([Ljava/lang/Object;I)Ljava/lang/Object;"⟩ : MethodName) (head1 (Jvm.Cond.code (⟨"java/util/ArrayDeque", "elementAt", "([Ljava/lang/Object;I)Ljava/lang/Object;"⟩ : MethodName) jdk_21_method_10_code 2 (some (.object "java/lang/Object")) :: ws) ({ frames := 0, cells := 0, slots := 0, locals := 0 } : Room)) (fun a U => a = #[(.ref a1), (.int (0 : Int32))] ∧ Z.Warmed39 U.vm ∧ U.heap = h0) (fun _ _ _ _ _ => True) (fun _ U o U' => ∃ v L, o = .returned v ∧ Q25_1 Z w_LOWEST w_HIGHEST w_EMPTY_ELEMENTDATA w_DEFAULTCAPACITY_EMPTY_ELEMENTDATA k_w_EMPTY_ELEMENTDATA k_w_DEFAULTCAPACITY_EMPTY_ELEMENTDATA a1 k2 a3 h0 n0 v U'.heap L ∧ FrameEnd U o U' L ({ frames := 0, cells := 0, slots := 0, locals := 0 } : Room).cells ({ frames := 0, cells := 0, slots := 0, locals := 0 } : Room).slots) := by
  refine MetFree.of_bodySF (plainFor_of_name pn_java_util_ArrayDeque) hisR ?_
  intro p e s m args below meth c s₁ Bd hml0 hP hK
  obtain ⟨rfl, hZ, hh⟩ := hP
  have hx := Bd.exec
  have hby := Bd.bytes
  have hml : c.maxLocals = 2 := hml0
  have hown : s.vm.findClass "java/util/ArrayDeque" = some m.cls := findClass_of_methodNamed Bd.named
  have hnm := (name_of_methodNamed Bd.named Bd.method).1
  have X0 : Stand p l e ({ frames := 0, cells := 0, slots := 0, locals := 0 } : Room) s m #[(.ref a1), (.int (0 : Int32))] below meth c s₁ [] 0 0 := Stand.of_body Bd
  have e0 : s₁.heap = h0 := by rw [← hh, Bd.state]; rfl
  have N0 := Fr.nil n0
  show OGot p.tables e below (s₁.setTop (entryFrame m #[(.ref a1), (.int (0 : Int32))] 2)) _
  refine OGot.go (fun t k => castTop (ef25_1 m a1) k) ?_
  show OGot p.tables e below (s₁.setTop (mkF m 0 #[.val (.ref a1), .val (.int (0 : Int32))] [])) _
  refine OGot.go (fun t k => XS.aloadN X0.here hx rfl (hb hby d25_0) rfl rfl k) ?_
  refine OGot.go (fun t k => XS.iloadN X0.here hx rfl (hb hby d25_1) rfl k) ?_
  obtain ⟨cl4, Ar4, qc4, Sz4, Ng4, Hh4, Gg4⟩ := id (V_a1)
  have hin4 : ¬ ((0 : Int32) < 0 ∨ cl4.slots.size ≤ ((0 : Int32)).toNatClampNeg) := inb_of Sz4 ⟨by decide, by decide⟩
  have hat4 : cl4.slots[((0 : Int32)).toNatClampNeg]? = some (.ref a3) := Hh4.at hin4 rfl
  refine OGot.go (fun t k => X0.aaload hx (j := (0 : Int32)) (v := (.ref a3)) (by rw [e0]; exact Ar4.1) (State.isArrayOf_alike hZ.alike Ar4.2.1) rfl Ar4.2.2 hin4 hat4 (g := (mkF m 2 #[.val (.ref a1), .val (.int (0 : Int32))] [(.int (0 : Int32)), (.ref a1)])) rfl rfl (hb hby d25_2) _ k) ?_
  show OGot p.tables e below (s₁.setTop (mkF m 3 #[.val (.ref a1), .val (.int (0 : Int32))] [(.ref a3)])) _
  obtain ⟨fs, hr, hrun, hended, hW, hsame⟩ := X0.leave (v := some (.ref a3)) (fun h => by rw [Bd.returns] at h; cases h)
  refine ⟨_, _, oretA X0 hx Bd.returns rfl rfl (hb hby d25_3) hr, hrun, hended, _, _, rfl, ?_, ⟨_, rfl⟩, hW, hsame.mono (by decide) (by decide)⟩
  exact (⟨rfl, N0, e0⟩ : Q25_1 Z w_LOWEST w_HIGHEST w_EMPTY_ELEMENTDATA w_DEFAULTCAPACITY_EMPTY_ELEMENTDATA k_w_EMPTY_ELEMENTDATA k_w_DEFAULTCAPACITY_EMPTY_ELEMENTDATA a1 k2 a3 h0 n0 _ s₁.heap _)
def Q24_1 (Z : State) (w_LOWEST : Addr) (w_HIGHEST : Addr) (w_EMPTY_ELEMENTDATA : Addr) (w_DEFAULTCAPACITY_EMPTY_ELEMENTDATA : Addr) (k_w_EMPTY_ELEMENTDATA : ClassId) (k_w_DEFAULTCAPACITY_EMPTY_ELEMENTDATA : ClassId) (a1 : Addr) (a2 : Addr) (k5 : ClassId) (a6 : Addr) (h0 : Heap) (n0 : Nat) (v : Option Value) (h : Heap) (L : List Loc) : Prop := v = some (.ref a6) ∧ Fr n0 L ∧ h = h0
theorem ef24_1 (m : MethodId) (x0 : Addr) : entryFrame m #[(.ref x0)] 2 = mkF m 0 #[.val (.ref x0), .unset] [] := by first | (simp [entryFrame, mkF, argsToLocals, Value.category]; done) | rfl
set_option maxRecDepth 65536 in
set_option maxHeartbeats 40000000 in
theorem rm24_1 (l : Launch) (Z : State) (a0 : Array Value) (hw : ∀ d ∈ tables_1, d.before a0 Z = true) (ws : List Jvm.Cond) {w_LOWEST : Addr} {w_HIGHEST : Addr} {w_EMPTY_ELEMENTDATA : Addr} {w_DEFAULTCAPACITY_EMPTY_ELEMENTDATA : Addr} {k_w_EMPTY_ELEMENTDATA : ClassId} {k_w_DEFAULTCAPACITY_EMPTY_ELEMENTDATA : ClassId} (G : Glob Z w_LOWEST w_HIGHEST w_EMPTY_ELEMENTDATA w_DEFAULTCAPACITY_EMPTY_ELEMENTDATA k_w_EMPTY_ELEMENTDATA k_w_DEFAULTCAPACITY_EMPTY_ELEMENTDATA) (a1 : Addr) (a2 : Addr) (k5 : ClassId) (a6 : Addr) (h0 : Heap) (n0 : Nat) (O0 : Old Z n0 h0) (F_elements_a1 : Fld Z h0 a1 "java/util/ArrayDeque" "elements" "[Ljava/lang/Object;" (.ref a2)) (F_head_a1 : Fld Z h0 a1 "java/util/ArrayDeque" "head" "I" (.int (0 : Int32))) (V_a2 : Arv Z h0 a2 k5 (.object "java/lang/Object") (17 : Int32) [(.ref a6), .null, .null, .null, .null, .null, .null, .null, .null, .null, .null, .null, .null, .null, .null, .null, .null] .null) (O_k5 : Ovr Z k5 "java/lang/Object") :
    MetFree l (⟨"java/util/ArrayDeque", "getFirst", "()Ljava/lang/Object;"⟩ : MethodName) (head1 (Jvm.Cond.code (⟨"java/util/ArrayDeque", "getFirst", "()Ljava/lang/Object;"⟩ : MethodName) jdk_21_method_22_code 2 (some (.object "java/lang/Object")) :: ws) ({ frames := 1, cells := 0, slots := 0, locals := 13 } : Room)) (fun a U => a = #[(.ref a1)] ∧ Z.Warmed39 U.vm ∧ U.heap = h0) (fun _ _ _ _ _ => True) (fun _ U o U' => ∃ v L, o = .returned v ∧ Q24_1 Z w_LOWEST w_HIGHEST w_EMPTY_ELEMENTDATA w_DEFAULTCAPACITY_EMPTY_ELEMENTDATA k_w_EMPTY_ELEMENTDATA k_w_DEFAULTCAPACITY_EMPTY_ELEMENTDATA a1 a2 k5 a6 h0 n0 v U'.heap L ∧ FrameEnd U o U' L ({ frames := 1, cells := 0, slots := 0, locals := 13 } : Room).cells ({ frames := 1, cells := 0, slots := 0, locals := 13 } : Room).slots) := by
  refine MetFree.of_bodySF (plainFor_of_name pn_java_util_ArrayDeque) hisR ?_
  intro p e s m args below meth c s₁ Bd hml0 hP hK
  obtain ⟨rfl, hZ, hh⟩ := hP
  have hx := Bd.exec
  have hby := Bd.bytes
  have hml : c.maxLocals = 2 := hml0
  have hown : s.vm.findClass "java/util/ArrayDeque" = some m.cls := findClass_of_methodNamed Bd.named
  have hnm := (name_of_methodNamed Bd.named Bd.method).1
  have X0 : Stand p l e ({ frames := 1, cells := 0, slots := 0, locals := 13 } : Room) s m #[(.ref a1)] below meth c s₁ [] 0 0 := Stand.of_body Bd
  have e0 : s₁.heap = h0 := by rw [← hh, Bd.state]; rfl
  have N0 := Fr.nil n0
  show OGot p.tables e below (s₁.setTop (entryFrame m #[(.ref a1)] 2)) _
  refine OGot.go (fun t k => castTop (ef24_1 m a1) k) ?_
  show OGot p.tables e below (s₁.setTop (mkF m 0 #[.val (.ref a1), .unset] [])) _
  refine OGot.go (fun t k => XS.aloadN X0.here hx rfl (hb hby d24_0) rfl rfl k) ?_
  obtain ⟨T3, X3, e3, st3⟩ := getF X0 hx hZ hown (host := "") (Or.inl (ow hw 97 rfl)) Via.refl e0 F_elements_a1 (g := (mkF m 1 #[.val (.ref a1), .unset] [(.ref a1)])) rfl rfl (hb hby d24_1)
  refine OGot.go st3 ?_
  refine OGot.go (fun t k => XS.aloadN X3.here hx rfl (hb hby d24_4) rfl rfl k) ?_
  obtain ⟨T4, X4, e4, st4⟩ := getF X3 hx hZ hown (host := "") (Or.inl (ow hw 169 rfl)) Via.refl e3 F_head_a1 (g := (mkF m 5 #[.val (.ref a1), .unset] [(.ref a1), (.ref a2)])) rfl rfl (hb hby d24_5)
  refine OGot.go st4 ?_
  obtain ⟨_, _, ⟨T7, L7, k7, n7⟩, -, X7, ⟨Lc7, hQ7, l7, y7, z7⟩, st7⟩ := Jvm.LawKit.callS X4 hx (y := (⟨"java/util/ArrayDeque", "elementAt", "([Ljava/lang/Object;I)Ljava/lang/Object;"⟩ : MethodName)) hown (mvT hZ (ow hw 197 rfl)) (mvT hZ (ow hw 198 rfl)) (mvT hZ (ow hw 90 rfl)) (mvT hZ (ow hw 199 rfl)) (by decide) (backOf (W := 0) (rm25_1 l Z a0 hw [] G a2 k5 a6 h0 n0 O0 V_a2 O_k5) hZ (ow hw 199 rfl) (ow hw 90 rfl) (by decide) (by decide)) (g := (mkF m 8 #[.val (.ref a1), .unset] [(.int (0 : Int32)), (.ref a2)])) rfl (by rw [hml]; rfl) (argsL := [(.ref a2), (.int (0 : Int32))]) (rest := []) (lenOf pd_3 rfl) rfl (by show 2 * 0 + _ ≤ _; exact Nat.le_of_eq rfl) (hb hby d24_8) (fun _ _ => ⟨rfl, e4, (by decide : 0 + 0 ≤ _), (by decide : 0 + 0 ≤ _)⟩)
  dsimp only [Pt.U, Pt.locs, Pt.cells, Pt.slots] at X7 l7 y7 z7 st7 hQ7
  subst l7 y7 z7
  obtain ⟨rfl, N7q, e7⟩ := hQ7
  have N7 := Fr.app N0 N7q
  refine OGot.go st7 ?_
  refine OGot.go (fun t k => XS.astoreN X7.here hx rfl (hb hby d24_11) rfl rfl (l' := #[.val (.ref a1), .val (.ref a6)]) rfl k) ?_
  show OGot p.tables e below (T7.setTop (mkF m 12 #[.val (.ref a1), .val (.ref a6)] [])) _
  refine OGot.go (fun t k => XS.aloadN X7.here hx rfl (hb hby d24_12) rfl rfl k) ?_
  refine OGot.go (fun t k => XS.ifnonnullYes X7.here hx rfl (pc0 := 13) (pc' := 24) rfl (hb hby d24_13) rfl (by decide) (by decide) k) ?_
  refine OGot.go (fun t k => XS.aloadN X7.here hx rfl (hb hby d24_24) rfl rfl k) ?_
  show OGot p.tables e below (T7.setTop (mkF m 25 #[.val (.ref a1), .val (.ref a6)] [(.ref a6)])) _
  obtain ⟨fs, hr, hrun, hended, hW, hsame⟩ := X7.leave (v := some (.ref a6)) (fun h => by rw [Bd.returns] at h; cases h)
  refine ⟨_, _, oretA X7 hx Bd.returns rfl rfl (hb hby d24_25) hr, hrun, hended, _, _, rfl, ?_, ⟨_, rfl⟩, hW, hsame.mono (by decide) (by decide)⟩
  exact (⟨rfl, N7, e7⟩ : Q24_1 Z w_LOWEST w_HIGHEST w_EMPTY_ELEMENTDATA w_DEFAULTCAPACITY_EMPTY_ELEMENTDATA k_w_EMPTY_ELEMENTDATA k_w_DEFAULTCAPACITY_EMPTY_ELEMENTDATA a1 a2 k5 a6 h0 n0 _ T7.heap _)
def Q23_1 (Z : State) (w_LOWEST : Addr) (w_HIGHEST : Addr) (w_EMPTY_ELEMENTDATA : Addr) (w_DEFAULTCAPACITY_EMPTY_ELEMENTDATA : Addr) (k_w_EMPTY_ELEMENTDATA : ClassId) (k_w_DEFAULTCAPACITY_EMPTY_ELEMENTDATA : ClassId) (a1 : Addr) (a2 : Addr) (a4 : Addr) (k5 : ClassId) (a6 : Addr) (q9 : Int64) (h0 : Heap) (n0 : Nat) (v : Option Value) (h : Heap) (L : List Loc) : Prop := v = some (.long q9) ∧ Fr n0 L ∧ h = h0
theorem ef23_1 (m : MethodId) (x0 : Addr) : entryFrame m #[(.ref x0)] 1 = mkF m 0 #[.val (.ref x0)] [] := by first | (simp [entryFrame, mkF, argsToLocals, Value.category]; done) | rfl
set_option maxRecDepth 65536 in
set_option maxHeartbeats 40000000 in
theorem rm23_1 (l : Launch) (Z : State) (a0 : Array Value) (hw : ∀ d ∈ tables_1, d.before a0 Z = true) (ws : List Jvm.Cond) {w_LOWEST : Addr} {w_HIGHEST : Addr} {w_EMPTY_ELEMENTDATA : Addr} {w_DEFAULTCAPACITY_EMPTY_ELEMENTDATA : Addr} {k_w_EMPTY_ELEMENTDATA : ClassId} {k_w_DEFAULTCAPACITY_EMPTY_ELEMENTDATA : ClassId} (G : Glob Z w_LOWEST w_HIGHEST w_EMPTY_ELEMENTDATA w_DEFAULTCAPACITY_EMPTY_ELEMENTDATA k_w_EMPTY_ELEMENTDATA k_w_DEFAULTCAPACITY_EMPTY_ELEMENTDATA) (a1 : Addr) (a2 : Addr) (a4 : Addr) (k5 : ClassId) (a6 : Addr) (q9 : Int64) (h0 : Heap) (n0 : Nat) (O0 : Old Z n0 h0) (F_demands_a1 : Fld Z h0 a1 "com/example/restrained_scaler/restrainedscaler/decision/StabilizationWindow" "demands" "Ljava/util/Deque;" (.ref a2)) (E_a2 : Exa Z h0 a2 "java/util/ArrayDeque") (F_elements_a2 : Fld Z h0 a2 "java/util/ArrayDeque" "elements" "[Ljava/lang/Object;" (.ref a4)) (F_head_a2 : Fld Z h0 a2 "java/util/ArrayDeque" "head" "I" (.int (0 : Int32))) (V_a4 : Arv Z h0 a4 k5 (.object "java/lang/Object") (17 : Int32) [(.ref a6), .null, .null, .null, .null, .null, .null, .null, .null, .null, .null, .null, .null, .null, .null, .null, .null] .null) (O_k5 : Ovr Z k5 "java/lang/Object") (E_a6 : Exa Z h0 a6 "com/example/restrained_scaler/restrainedscaler/decision/Decider$Demand") (F_desired_a6 : Fld Z h0 a6 "com/example/restrained_scaler/restrainedscaler/decision/Decider$Demand" "desired" "J" (.long q9)) :
    MetFree l (⟨"com/example/restrained_scaler/restrainedscaler/decision/StabilizationWindow", "demand", "()J"⟩ : MethodName) (head1 (Jvm.Cond.code (⟨"com/example/restrained_scaler/restrainedscaler/decision/StabilizationWindow", "demand", "()J"⟩ : MethodName) prog_24_method_3_code 1 (some .long) :: ws) ({ frames := 2, cells := 0, slots := 0, locals := 26 } : Room)) (fun a U => a = #[(.ref a1)] ∧ Z.Warmed39 U.vm ∧ U.heap = h0) (fun _ _ _ _ _ => True) (fun _ U o U' => ∃ v L, o = .returned v ∧ Q23_1 Z w_LOWEST w_HIGHEST w_EMPTY_ELEMENTDATA w_DEFAULTCAPACITY_EMPTY_ELEMENTDATA k_w_EMPTY_ELEMENTDATA k_w_DEFAULTCAPACITY_EMPTY_ELEMENTDATA a1 a2 a4 k5 a6 q9 h0 n0 v U'.heap L ∧ FrameEnd U o U' L ({ frames := 2, cells := 0, slots := 0, locals := 26 } : Room).cells ({ frames := 2, cells := 0, slots := 0, locals := 26 } : Room).slots) := by
  refine MetFree.of_bodySF (plainFor_of_name pn_com_example_restrained_scaler_restrainedscaler_decision_StabilizationWindow) hisR ?_
  intro p e s m args below meth c s₁ Bd hml0 hP hK
  obtain ⟨rfl, hZ, hh⟩ := hP
  have hx := Bd.exec
  have hby := Bd.bytes
  have hml : c.maxLocals = 1 := hml0
  have hown : s.vm.findClass "com/example/restrained_scaler/restrainedscaler/decision/StabilizationWindow" = some m.cls := findClass_of_methodNamed Bd.named
  have hnm := (name_of_methodNamed Bd.named Bd.method).1
  have X0 : Stand p l e ({ frames := 2, cells := 0, slots := 0, locals := 26 } : Room) s m #[(.ref a1)] below meth c s₁ [] 0 0 := Stand.of_body Bd
  have e0 : s₁.heap = h0 := by rw [← hh, Bd.state]; rfl
  have N0 := Fr.nil n0
  show OGot p.tables e below (s₁.setTop (entryFrame m #[(.ref a1)] 1)) _
  refine OGot.go (fun t k => castTop (ef23_1 m a1) k) ?_
  show OGot p.tables e below (s₁.setTop (mkF m 0 #[.val (.ref a1)] [])) _
  refine OGot.go (fun t k => XS.aloadN X0.here hx rfl (hb hby d23_0) rfl rfl k) ?_
  obtain ⟨T3, X3, e3, st3⟩ := getF X0 hx hZ hown (host := "") (Or.inl (ow hw 99 rfl)) Via.refl e0 F_demands_a1 (g := (mkF m 1 #[.val (.ref a1)] [(.ref a1)])) rfl rfl (hb hby d23_1)
  refine OGot.go st3 ?_
  obtain ⟨cq7, kq7, q7a, q7b, q7c⟩ := isOf hZ e3 E_a2
  obtain ⟨_, _, ⟨T7, L7, k7, n7⟩, -, X7, ⟨Lc7, hQ7, l7, y7, z7⟩, st7⟩ := X3.interfaceBack hx (xi := (⟨"java/util/Deque", "getFirst", "()Ljava/lang/Object;"⟩ : MethodName)) (y := (⟨"java/util/ArrayDeque", "getFirst", "()Ljava/lang/Object;"⟩ : MethodName)) hown (mvT hZ (ow hw 189 rfl)) (mvT hZ (ow hw 190 rfl)) (mvT hZ (ow hw 191 rfl)) (mvT hZ (ow hw 192 rfl)) (mvT hZ (ow hw 193 rfl)) (mvT hZ (ow hw 194 rfl)) (mvT hZ (ow hw 195 rfl)) (mvT hZ (ow hw 167 rfl)) (by decide) (backOf (W := 0) (rm24_1 l Z a0 hw [] G a2 a4 k5 a6 h0 n0 O0 F_elements_a2 F_head_a2 V_a4 O_k5) hZ (ow hw 196 rfl) (ow hw 90 rfl) (by decide) (by decide)) q7a q7b q7c (g := (mkF m 4 #[.val (.ref a1)] [(.ref a2)])) rfl (by rw [hml]; rfl) (Steps.refl _) (argsL := []) (rest := []) (lenOf pd_4 rfl) rfl (by show 2 * 0 + _ ≤ _; exact Nat.le_of_eq rfl) (hb hby d23_4) (fun _ _ => ⟨rfl, e3, (by decide : 0 + 0 ≤ _), (by decide : 0 + 0 ≤ _)⟩)
  dsimp only [Pt.U, Pt.locs, Pt.cells, Pt.slots] at X7 l7 y7 z7 st7 hQ7
  subst l7 y7 z7
  obtain ⟨rfl, N7q, e7⟩ := hQ7
  have N7 := Fr.app N0 N7q
  refine OGot.on st7 ?_
  obtain ⟨T8, X8, e8, st8⟩ := castY X7 hx hZ hown (ow hw 154 rfl) e7 (Ins.self E_a6) (g := (mkF m 9 #[.val (.ref a1)] [(.ref a6)])) rfl rfl (hb hby d23_9)
  refine OGot.go st8 ?_
  obtain ⟨cq10, kq10, q10a, q10b, q10c⟩ := isOf hZ e8 E_a6
  obtain ⟨_, _, ⟨T10, L10, k10, n10⟩, -, X10, ⟨Lc10, hQ10, l10, y10, z10⟩, st10⟩ := X8.virtualBack hx (y := (⟨"com/example/restrained_scaler/restrainedscaler/decision/Decider$Demand", "desired", "()J"⟩ : MethodName)) (z := (⟨"com/example/restrained_scaler/restrainedscaler/decision/Decider$Demand", "desired", "()J"⟩ : MethodName)) hown (mvT hZ (ow hw 200 rfl)) (mvT hZ (ow hw 201 rfl)) (notFace_of_selects (args := #[]) (mvT hZ (ow hw 203 rfl))) (mvT hZ (ow hw 203 rfl)) (mvT hZ (ow hw 202 rfl)) (by decide) (backOf (W := 0) (rm26 l Z a0 hw [] G a6 q9 h0 n0 O0 F_desired_a6) hZ (ow hw 204 rfl) (ow hw 32 rfl) (by decide) (by decide)) q10a q10c (g := (mkF m 12 #[.val (.ref a1)] [(.ref a6)])) rfl (by rw [hml]; rfl) (Steps.refl _) (argsL := []) (rest := []) (lenOf pd_5 rfl) rfl (by show 2 * 0 + _ ≤ _; exact Nat.le_of_eq rfl) (hb hby d23_12) (fun _ _ => ⟨rfl, e8, (by decide : 0 + 0 ≤ _), (by decide : 0 + 0 ≤ _)⟩)
  dsimp only [Pt.U, Pt.locs, Pt.cells, Pt.slots] at X10 l10 y10 z10 st10 hQ10
  subst l10 y10 z10
  obtain ⟨rfl, N10q, e10⟩ := hQ10
  have N10 := Fr.app N7 N10q
  refine OGot.on st10 ?_
  show OGot p.tables e below (T10.setTop (mkF m 15 #[.val (.ref a1)] [(.long q9)])) _
  obtain ⟨fs, hr, hrun, hended, hW, hsame⟩ := X10.leave (v := some (.long q9)) (fun h => by rw [Bd.returns] at h; cases h)
  refine ⟨_, _, oretJ X10 hx Bd.returns (hb hby d23_15) hr, hrun, hended, _, _, rfl, ?_, ⟨_, rfl⟩, hW, hsame.mono (by decide) (by decide)⟩
  exact (⟨rfl, N10, e10⟩ : Q23_1 Z w_LOWEST w_HIGHEST w_EMPTY_ELEMENTDATA w_DEFAULTCAPACITY_EMPTY_ELEMENTDATA k_w_EMPTY_ELEMENTDATA k_w_DEFAULTCAPACITY_EMPTY_ELEMENTDATA a1 a2 a4 k5 a6 q9 h0 n0 _ T10.heap _)
theorem d32_0 : decode method_3_code 0 = .ok (.iload_n 3, 1) := by decide +kernel
theorem d32_1 : decode method_3_code 1 = .ok (.ifCond .ne 5, 3) := by decide +kernel
theorem d32_4 : decode method_3_code 4 = .ok (.lload_n 1, 1) := by decide +kernel
theorem d32_5 : decode method_3_code 5 = .ok (.lreturn, 1) := by decide +kernel
theorem d32_6 : decode method_3_code 6 = .ok (.iload_n 0, 1) := by decide +kernel
theorem d32_7 : decode method_3_code 7 = .ok (.ifCond .eq 10, 3) := by decide +kernel
theorem d32_17 : decode method_3_code 17 = .ok (.lload_n 1, 1) := by decide +kernel
theorem d32_18 : decode method_3_code 18 = .ok (.lload 4, 2) := by decide +kernel
theorem d32_20 : decode method_3_code 20 = .ok (.invokestatic 57, 3) := by decide +kernel
theorem d39_0 : decode jdk_29_method_70_code 0 = .ok (.lload_n 0, 1) := by decide +kernel
theorem d39_1 : decode jdk_29_method_70_code 1 = .ok (.lload_n 2, 1) := by decide +kernel
theorem d39_2 : decode jdk_29_method_70_code 2 = .ok (.lcmp, 1) := by decide +kernel
theorem d39_3 : decode jdk_29_method_70_code 3 = .ok (.ifCond .gt 7, 3) := by decide +kernel
theorem d39_10 : decode jdk_29_method_70_code 10 = .ok (.lload_n 2, 1) := by decide +kernel
theorem d39_11 : decode jdk_29_method_70_code 11 = .ok (.lreturn, 1) := by decide +kernel
theorem d39_6 : decode jdk_29_method_70_code 6 = .ok (.lload_n 0, 1) := by decide +kernel
theorem d39_7 : decode jdk_29_method_70_code 7 = .ok (.goto 4, 3) := by decide +kernel
def f39 (q1 : Int64) (q2 : Int64) : Int64 := (if q2 < q1 then q2 else q1)
def Q39 (Z : State) (w_LOWEST : Addr) (w_HIGHEST : Addr) (w_EMPTY_ELEMENTDATA : Addr) (w_DEFAULTCAPACITY_EMPTY_ELEMENTDATA : Addr) (k_w_EMPTY_ELEMENTDATA : ClassId) (k_w_DEFAULTCAPACITY_EMPTY_ELEMENTDATA : ClassId) (q1 : Int64) (q2 : Int64) (h0 : Heap) (n0 : Nat) (v : Option Value) (h : Heap) (L : List Loc) : Prop := v = some (.long (f39 q1 q2)) ∧ Fr n0 L ∧ h = h0
theorem ef39 (m : MethodId) (x0 : Int64) (x1 : Int64) : entryFrame m #[(.long x0), (.long x1)] 4 = mkF m 0 #[.val (.long x0), .second, .val (.long x1), .second] [] := by first | (simp [entryFrame, mkF, argsToLocals, Value.category]; done) | rfl
set_option maxRecDepth 65536 in
set_option maxHeartbeats 40000000 in
theorem rm39 (l : Launch) (Z : State) (a0 : Array Value) (hw : ∀ d ∈ tables_1, d.before a0 Z = true) (ws : List Jvm.Cond) {w_LOWEST : Addr} {w_HIGHEST : Addr} {w_EMPTY_ELEMENTDATA : Addr} {w_DEFAULTCAPACITY_EMPTY_ELEMENTDATA : Addr} {k_w_EMPTY_ELEMENTDATA : ClassId} {k_w_DEFAULTCAPACITY_EMPTY_ELEMENTDATA : ClassId} (G : Glob Z w_LOWEST w_HIGHEST w_EMPTY_ELEMENTDATA w_DEFAULTCAPACITY_EMPTY_ELEMENTDATA k_w_EMPTY_ELEMENTDATA k_w_DEFAULTCAPACITY_EMPTY_ELEMENTDATA) (q1 : Int64) (q2 : Int64) (h0 : Heap) (n0 : Nat) (O0 : Old Z n0 h0) :
    MetFree l (⟨"java/lang/Math", "min", "(JJ)J"⟩ : MethodName) (head1 (Jvm.Cond.code (⟨"java/lang/Math", "min", "(JJ)J"⟩ : MethodName) jdk_29_method_70_code 4 (some .long) :: ws) ({ frames := 0, cells := 0, slots := 0, locals := 0 } : Room)) (fun a U => a = #[(.long q1), (.long q2)] ∧ Z.Warmed39 U.vm ∧ U.heap = h0) (fun _ _ _ _ _ => True) (fun _ U o U' => ∃ v L, o = .returned v ∧ Q39 Z w_LOWEST w_HIGHEST w_EMPTY_ELEMENTDATA w_DEFAULTCAPACITY_EMPTY_ELEMENTDATA k_w_EMPTY_ELEMENTDATA k_w_DEFAULTCAPACITY_EMPTY_ELEMENTDATA q1 q2 h0 n0 v U'.heap L ∧ FrameEnd U o U' L ({ frames := 0, cells := 0, slots := 0, locals := 0 } : Room).cells ({ frames := 0, cells := 0, slots := 0, locals := 0 } : Room).slots) := by
  refine MetFree.of_bodySF (Jvm.Free.JP.mathPlain rfl (by decide +kernel)) hisR ?_
  intro p e s m args below meth c s₁ Bd hml0 hP hK
  obtain ⟨rfl, hZ, hh⟩ := hP
  have hx := Bd.exec
  have hby := Bd.bytes
  have hml : c.maxLocals = 4 := hml0
  have hown : s.vm.findClass "java/lang/Math" = some m.cls := findClass_of_methodNamed Bd.named
  have hnm := (name_of_methodNamed Bd.named Bd.method).1
  have X0 : Stand p l e ({ frames := 0, cells := 0, slots := 0, locals := 0 } : Room) s m #[(.long q1), (.long q2)] below meth c s₁ [] 0 0 := Stand.of_body Bd
  have e0 : s₁.heap = h0 := by rw [← hh, Bd.state]; rfl
  have N0 := Fr.nil n0
  show OGot p.tables e below (s₁.setTop (entryFrame m #[(.long q1), (.long q2)] 4)) _
  refine OGot.go (fun t k => castTop (ef39 m q1 q2) k) ?_
  show OGot p.tables e below (s₁.setTop (mkF m 0 #[.val (.long q1), .second, .val (.long q2), .second] [])) _
  refine OGot.go (fun t k => XS.lloadN X0.here hx rfl (hb hby d39_0) rfl k) ?_
  refine OGot.go (fun t k => XS.lloadN X0.here hx rfl (hb hby d39_1) rfl k) ?_
  refine OGot.go (fun t k => XS.lcmp X0.here hx rfl (hb hby d39_2) rfl k) ?_
  show OGot p.tables e below (s₁.setTop (mkF m 3 #[.val (.long q1), .second, .val (.long q2), .second] [(.int (lcmpW q1 q2))])) _
  by_cases hs3 : q2 < q1
  · refine OGot.go (fun t k => XS.ifYes X0.here hx rfl (pc0 := 3) (pc' := 10) rfl (hb hby d39_3) rfl ((if0 _ _).trans (tlt ((lw_gt q1 q2).mpr hs3)).2.2.1) (by decide) (by decide) k) ?_
    refine OGot.go (fun t k => XS.lloadN X0.here hx rfl (hb hby d39_10) rfl k) ?_
    show OGot p.tables e below (s₁.setTop (mkF m 11 #[.val (.long q1), .second, .val (.long q2), .second] [(.long q2)])) _
    obtain ⟨fs, hr, hrun, hended, hW, hsame⟩ := X0.leave (v := some (.long q2)) (fun h => by rw [Bd.returns] at h; cases h)
    refine ⟨_, _, oretJ X0 hx Bd.returns (hb hby d39_11) hr, hrun, hended, _, _, rfl, ?_, ⟨_, rfl⟩, hW, hsame.mono (by decide) (by decide)⟩
    exact (⟨(by unfold f39; rw [if_pos hs3]), N0, e0⟩ : Q39 Z w_LOWEST w_HIGHEST w_EMPTY_ELEMENTDATA w_DEFAULTCAPACITY_EMPTY_ELEMENTDATA k_w_EMPTY_ELEMENTDATA k_w_DEFAULTCAPACITY_EMPTY_ELEMENTDATA q1 q2 h0 n0 _ s₁.heap _)
  · refine OGot.go (fun t k => XS.ifNo X0.here hx rfl (hb hby d39_3) rfl ((if0 _ _).trans (flt (fun q => hs3 ((lw_gt q1 q2).mp q))).2.2.1) k) ?_
    refine OGot.go (fun t k => XS.lloadN X0.here hx rfl (hb hby d39_6) rfl k) ?_
    refine OGot.go (fun t k => XS.goto X0.here hx rfl (pc0 := 7) (pc' := 11) rfl (hb hby d39_7) (by decide) (by decide) k) ?_
    show OGot p.tables e below (s₁.setTop (mkF m 11 #[.val (.long q1), .second, .val (.long q2), .second] [(.long q1)])) _
    obtain ⟨fs, hr, hrun, hended, hW, hsame⟩ := X0.leave (v := some (.long q1)) (fun h => by rw [Bd.returns] at h; cases h)
    refine ⟨_, _, oretJ X0 hx Bd.returns (hb hby d39_11) hr, hrun, hended, _, _, rfl, ?_, ⟨_, rfl⟩, hW, hsame.mono (by decide) (by decide)⟩
    exact (⟨(by unfold f39; rw [if_neg hs3]), N0, e0⟩ : Q39 Z w_LOWEST w_HIGHEST w_EMPTY_ELEMENTDATA w_DEFAULTCAPACITY_EMPTY_ELEMENTDATA k_w_EMPTY_ELEMENTDATA k_w_DEFAULTCAPACITY_EMPTY_ELEMENTDATA q1 q2 h0 n0 _ s₁.heap _)
theorem pd_17 : parseMethodDescriptor "(JJ)J" = some ⟨[.long, .long], some .long⟩ := by decide +kernel
theorem d32_23 : decode method_3_code 23 = .ok (.lreturn, 1) := by decide +kernel
theorem pn_com_example_restrained_scaler_restrainedscaler_decision_StabilizationWindowDemandPinLaw : plainName "com/example/restrained_scaler/restrainedscaler/decision/StabilizationWindowDemandPinLaw" = true := by first | (simp [plainName, overriddenIn]; done) | decide +kernel
def f32 (q1 : Int64) (p2 : Int32) (q3 : Int64) : Int64 := (if p2 = (0 : Int32) then q1 else (f39 q1 q3))
def Q32 (Z : State) (w_LOWEST : Addr) (w_HIGHEST : Addr) (w_EMPTY_ELEMENTDATA : Addr) (w_DEFAULTCAPACITY_EMPTY_ELEMENTDATA : Addr) (k_w_EMPTY_ELEMENTDATA : ClassId) (k_w_DEFAULTCAPACITY_EMPTY_ELEMENTDATA : ClassId) (q1 : Int64) (p2 : Int32) (q3 : Int64) (h0 : Heap) (n0 : Nat) (v : Option Value) (h : Heap) (L : List Loc) : Prop := v = some (.long (f32 q1 p2 q3)) ∧ Fr n0 L ∧ h = h0
theorem ef32 (m : MethodId) (x1 : Int64) (x2 : Int32) (x3 : Int64) : entryFrame m #[(.int (0 : Int32)), (.long x1), (.int x2), (.long x3)] 6 = mkF m 0 #[.val (.int (0 : Int32)), .val (.long x1), .second, .val (.int x2), .val (.long x3), .second] [] := by first | (simp [entryFrame, mkF, argsToLocals, Value.category]; done) | rfl
set_option maxRecDepth 65536 in
set_option maxHeartbeats 40000000 in
theorem rm32 (l : Launch) (Z : State) (a0 : Array Value) (hw : ∀ d ∈ tables_1, d.before a0 Z = true) (ws : List Jvm.Cond) {w_LOWEST : Addr} {w_HIGHEST : Addr} {w_EMPTY_ELEMENTDATA : Addr} {w_DEFAULTCAPACITY_EMPTY_ELEMENTDATA : Addr} {k_w_EMPTY_ELEMENTDATA : ClassId} {k_w_DEFAULTCAPACITY_EMPTY_ELEMENTDATA : ClassId} (G : Glob Z w_LOWEST w_HIGHEST w_EMPTY_ELEMENTDATA w_DEFAULTCAPACITY_EMPTY_ELEMENTDATA k_w_EMPTY_ELEMENTDATA k_w_DEFAULTCAPACITY_EMPTY_ELEMENTDATA) (q1 : Int64) (p2 : Int32) (q3 : Int64) (h0 : Heap) (n0 : Nat) (O0 : Old Z n0 h0) :
    MetFree l (⟨"com/example/restrained_scaler/restrainedscaler/decision/StabilizationWindowDemandPinLaw", "fold", "(ZJZJ)J"⟩ : MethodName) (head1 (Jvm.Cond.code (⟨"com/example/restrained_scaler/restrainedscaler/decision/StabilizationWindowDemandPinLaw", "fold", "(ZJZJ)J"⟩ : MethodName) method_3_code 6 (some .long) :: ws) ({ frames := 1, cells := 0, slots := 0, locals := 15 } : Room)) (fun a U => a = #[(.int (0 : Int32)), (.long q1), (.int p2), (.long q3)] ∧ Z.Warmed39 U.vm ∧ U.heap = h0) (fun _ _ _ _ _ => True) (fun _ U o U' => ∃ v L, o = .returned v ∧ Q32 Z w_LOWEST w_HIGHEST w_EMPTY_ELEMENTDATA w_DEFAULTCAPACITY_EMPTY_ELEMENTDATA k_w_EMPTY_ELEMENTDATA k_w_DEFAULTCAPACITY_EMPTY_ELEMENTDATA q1 p2 q3 h0 n0 v U'.heap L ∧ FrameEnd U o U' L ({ frames := 1, cells := 0, slots := 0, locals := 15 } : Room).cells ({ frames := 1, cells := 0, slots := 0, locals := 15 } : Room).slots) := by
  refine MetFree.of_bodySF (plainFor_of_name pn_com_example_restrained_scaler_restrainedscaler_decision_StabilizationWindowDemandPinLaw) hisR ?_
  intro p e s m args below meth c s₁ Bd hml0 hP hK
  obtain ⟨rfl, hZ, hh⟩ := hP
  have hx := Bd.exec
  have hby := Bd.bytes
  have hml : c.maxLocals = 6 := hml0
  have hown : s.vm.findClass "com/example/restrained_scaler/restrainedscaler/decision/StabilizationWindowDemandPinLaw" = some m.cls := findClass_of_methodNamed Bd.named
  have hnm := (name_of_methodNamed Bd.named Bd.method).1
  have X0 : Stand p l e ({ frames := 1, cells := 0, slots := 0, locals := 15 } : Room) s m #[(.int (0 : Int32)), (.long q1), (.int p2), (.long q3)] below meth c s₁ [] 0 0 := Stand.of_body Bd
  have e0 : s₁.heap = h0 := by rw [← hh, Bd.state]; rfl
  have N0 := Fr.nil n0
  show OGot p.tables e below (s₁.setTop (entryFrame m #[(.int (0 : Int32)), (.long q1), (.int p2), (.long q3)] 6)) _
  refine OGot.go (fun t k => castTop (ef32 m q1 p2 q3) k) ?_
  show OGot p.tables e below (s₁.setTop (mkF m 0 #[.val (.int (0 : Int32)), .val (.long q1), .second, .val (.int p2), .val (.long q3), .second] [])) _
  refine OGot.go (fun t k => XS.iloadN X0.here hx rfl (hb hby d32_0) rfl k) ?_
  show OGot p.tables e below (s₁.setTop (mkF m 1 #[.val (.int (0 : Int32)), .val (.long q1), .second, .val (.int p2), .val (.long q3), .second] [(.int p2)])) _
  by_cases hs4 : p2 = (0 : Int32)
  · refine OGot.go (fun t k => XS.ifNo X0.here hx rfl (hb hby d32_1) rfl ((if0 _ _).trans (teq hs4).2) k) ?_
    refine OGot.go (fun t k => XS.lloadN X0.here hx rfl (hb hby d32_4) rfl k) ?_
    show OGot p.tables e below (s₁.setTop (mkF m 5 #[.val (.int (0 : Int32)), .val (.long q1), .second, .val (.int p2), .val (.long q3), .second] [(.long q1)])) _
    obtain ⟨fs, hr, hrun, hended, hW, hsame⟩ := X0.leave (v := some (.long q1)) (fun h => by rw [Bd.returns] at h; cases h)
    refine ⟨_, _, oretJ X0 hx Bd.returns (hb hby d32_5) hr, hrun, hended, _, _, rfl, ?_, ⟨_, rfl⟩, hW, hsame.mono (by decide) (by decide)⟩
    exact (⟨(by unfold f32; rw [if_pos hs4]), N0, e0⟩ : Q32 Z w_LOWEST w_HIGHEST w_EMPTY_ELEMENTDATA w_DEFAULTCAPACITY_EMPTY_ELEMENTDATA k_w_EMPTY_ELEMENTDATA k_w_DEFAULTCAPACITY_EMPTY_ELEMENTDATA q1 p2 q3 h0 n0 _ s₁.heap _)
  · refine OGot.go (fun t k => XS.ifYes X0.here hx rfl (pc0 := 1) (pc' := 6) rfl (hb hby d32_1) rfl ((if0 _ _).trans (feq hs4).2) (by decide) (by decide) k) ?_
    refine OGot.go (fun t k => XS.iloadN X0.here hx rfl (hb hby d32_6) rfl k) ?_
    refine OGot.go (fun t k => XS.ifYes X0.here hx rfl (pc0 := 7) (pc' := 17) rfl (hb hby d32_7) rfl (by decide) (by decide) (by decide) k) ?_
    refine OGot.go (fun t k => XS.lloadN X0.here hx rfl (hb hby d32_17) rfl k) ?_
    refine OGot.go (fun t k => XS.lload X0.here hx rfl (hb hby d32_18) rfl k) ?_
    obtain ⟨_, _, ⟨T5, L5, k5, n5⟩, -, X5, ⟨Lc5, hQ5, l5, y5, z5⟩, st5⟩ := Jvm.LawKit.callS X0 hx (y := (⟨"java/lang/Math", "min", "(JJ)J"⟩ : MethodName)) hown (mvT hZ (ow hw 275 rfl)) (mvT hZ (ow hw 276 rfl)) (mvT hZ (ow hw 76 rfl)) (mvT hZ (ow hw 277 rfl)) (by decide) (backOf (W := 0) (rm39 l Z a0 hw [] G q1 q3 h0 n0 O0 ) hZ (ow hw 277 rfl) (ow hw 76 rfl) (by decide) (by decide)) (g := (mkF m 20 #[.val (.int (0 : Int32)), .val (.long q1), .second, .val (.int p2), .val (.long q3), .second] [(.long q3), (.long q1)])) rfl (by rw [hml]; rfl) (argsL := [(.long q1), (.long q3)]) (rest := []) (lenOf pd_17 rfl) rfl (by show 2 * 0 + _ ≤ _; exact Nat.le_of_eq rfl) (hb hby d32_20) (fun _ _ => ⟨rfl, e0, (by decide : 0 + 0 ≤ _), (by decide : 0 + 0 ≤ _)⟩)
    dsimp only [Pt.U, Pt.locs, Pt.cells, Pt.slots] at X5 l5 y5 z5 st5 hQ5
    subst l5 y5 z5
    obtain ⟨rfl, N5q, e5⟩ := hQ5
    have N5 := Fr.app N0 N5q
    refine OGot.go st5 ?_
    show OGot p.tables e below (T5.setTop (mkF m 23 #[.val (.int (0 : Int32)), .val (.long q1), .second, .val (.int p2), .val (.long q3), .second] [(.long (f39 q1 q3))])) _
    obtain ⟨fs, hr, hrun, hended, hW, hsame⟩ := X5.leave (v := some (.long (f39 q1 q3))) (fun h => by rw [Bd.returns] at h; cases h)
    refine ⟨_, _, oretJ X5 hx Bd.returns (hb hby d32_23) hr, hrun, hended, _, _, rfl, ?_, ⟨_, rfl⟩, hW, hsame.mono (by decide) (by decide)⟩
    exact (⟨(by unfold f32; rw [if_neg hs4]), N5, e5⟩ : Q32 Z w_LOWEST w_HIGHEST w_EMPTY_ELEMENTDATA w_DEFAULTCAPACITY_EMPTY_ELEMENTDATA k_w_EMPTY_ELEMENTDATA k_w_DEFAULTCAPACITY_EMPTY_ELEMENTDATA q1 p2 q3 h0 n0 _ T5.heap _)
theorem pd_18 : parseMethodDescriptor "(ZJZJ)J" = some ⟨[.boolean, .long, .boolean, .long], some .long⟩ := by decide +kernel
def OTimes (t0 t1 t2 t3 s : Int64) : Prop := (t1 - s).toInt = t1.toInt - s.toInt ∧ (t2 - s).toInt = t2.toInt - s.toInt ∧ (t3 - s).toInt = t3.toInt - s.toInt ∧ t0.toInt < t1.toInt ∧ t1.toInt < t2.toInt ∧ t2.toInt < t3.toInt
theorem own_times {p1 p2 : Int32} {s t0 t1 t2 t3 : Int64} (hs : s = ((((p1.toUInt32 >>> ((1 : Int32) &&& 31).toUInt32).toInt32) &&& (63 : Int32)).toInt64)) (h0 : t0 = (((p2 &&& (63 : Int32)) - (32 : Int32)).toInt64)) (h1 : t1 = ((t0 + ((((p2.toUInt32 >>> ((6 : Int32) &&& 31).toUInt32).toInt32) &&& (31 : Int32)).toInt64)) + (1 : Int64))) (h2 : t2 = ((t1 + ((((p2.toUInt32 >>> ((11 : Int32) &&& 31).toUInt32).toInt32) &&& (31 : Int32)).toInt64)) + (1 : Int64))) (h3 : t3 = ((t2 + ((((p2.toUInt32 >>> ((16 : Int32) &&& 31).toUInt32).toInt32) &&& (31 : Int32)).toInt64)) + (1 : Int64))) : OTimes t0 t1 t2 t3 s := by
  have b63 : ∀ x : Int32, 0 ≤ (x &&& (63 : Int32)).toInt ∧ (x &&& (63 : Int32)).toInt < 64 := fun x => by
    have := c_mask x 63 6 (by decide) (by decide)
    have p : ((2 ^ 6 : Nat) : Int) = 64 := rfl
    rw [p] at this; omega
  have b31 : ∀ x : Int32, 0 ≤ (x &&& (31 : Int32)).toInt ∧ (x &&& (31 : Int32)).toInt < 32 := fun x => by
    have := c_mask x 31 5 (by decide) (by decide)
    have p : ((2 ^ 5 : Nat) : Int) = 32 := rfl
    rw [p] at this; omega
  have one : (1 : Int64).toInt = 1 := rfl
  have th : (32 : Int32).toInt = 32 := rfl
  have es : s.toInt = (((p1.toUInt32 >>> ((1 : Int32) &&& 31).toUInt32).toInt32) &&& (63 : Int32)).toInt := by rw [hs, c_i2l]
  have bs := b63 ((p1.toUInt32 >>> ((1 : Int32) &&& 31).toUInt32).toInt32)
  have e0 : t0.toInt = ((p2 &&& (63 : Int32)) - (32 : Int32)).toInt := by rw [h0, c_i2l]
  have b0 := b63 p2
  have d0 := c_isub (p2 &&& (63 : Int32)) (32 : Int32)
  have r0 := rng32 ((p2 &&& (63 : Int32)) - (32 : Int32))
  have st : ∀ (t u : Int64) (x : Int32), -1000 ≤ t.toInt → t.toInt ≤ 1000 → u = ((t + ((x &&& (31 : Int32)).toInt64)) + (1 : Int64)) → t.toInt < u.toInt ∧ u.toInt ≤ t.toInt + 32 := fun t u x l1 l2 hu => by
    have a := c_ladd t ((x &&& (31 : Int32)).toInt64)
    have b := c_ladd (t + ((x &&& (31 : Int32)).toInt64)) (1 : Int64)
    have c := c_i2l (x &&& (31 : Int32))
    have d := b31 x
    have r := rng64 (t + ((x &&& (31 : Int32)).toInt64))
    have r' := rng64 u
    rw [← hu] at b
    omega
  have q1 := st t0 t1 _ (by omega) (by omega) h1
  have q2 := st t1 t2 _ (by omega) (by omega) h2
  have q3 := st t2 t3 _ (by omega) (by omega) h3
  have sb : ∀ t : Int64, -1000 ≤ t.toInt → t.toInt ≤ 1000 → (t - s).toInt = t.toInt - s.toInt := fun t l1 l2 => by
    have a := c_lsub t s
    have r := rng64 (t - s)
    omega
  exact ⟨sb t1 (by omega) (by omega), sb t2 (by omega) (by omega), sb t3 (by omega) (by omega), q1.1, q2.1, q3.1⟩

theorem own_fL {P : Prop} [Decidable P] (a b : Int64) : (P ∧ b.toInt < a.toInt ∧ (f32 a (if P then (1 : Int32) else (0 : Int32)) b).toInt = b.toInt) ∨ (P ∧ ¬ b.toInt < a.toInt ∧ (f32 a (if P then (1 : Int32) else (0 : Int32)) b).toInt = a.toInt) ∨ (¬ P ∧ (f32 a (if P then (1 : Int32) else (0 : Int32)) b).toInt = a.toInt) := by
  unfold f32 f39
  by_cases p : P <;> by_cases q : b < a <;> simp [p, Int64.lt_iff_toInt_lt.mpr, q, Int64.lt_iff_toInt_lt] <;> simp_all [Int64.lt_iff_toInt_lt]
theorem own_m1L {w_LOWEST w_HIGHEST : Addr} {d0 d1 d2 d3 : Addr} {t0 t1 t2 t3 s e0 e1 e2 e3 : Int64} {M1 M2 M3 : List (Addr × Int64 × Int64)} (hn : w_LOWEST ≠ w_HIGHEST) (h : M1 = popB w_HIGHEST w_LOWEST e1 (dropF (t1 - s) [(d0, t0, e0)]) ++ [(d1, t1, e1)]) : (t1 - s < t0 ∧ e0 < e1 ∧ M1 = [(d0, t0, e0), (d1, t1, e1)]) ∨ ((¬ t1 - s < t0 ∨ ¬ e0 < e1) ∧ M1 = [(d1, t1, e1)]) := by
  subst h
  by_cases a : t1 - s < t0 <;> by_cases b : e0 < e1 <;> simp [dropF, popB, f35, a, b, hn]
theorem own_a1L {w_LOWEST w_HIGHEST : Addr} {d d' : Addr} {t t' s e e' : Int64} {M : List (Addr × Int64 × Int64)} (hn : w_LOWEST ≠ w_HIGHEST) (h : M = popB w_HIGHEST w_LOWEST e' (dropF (t' - s) [(d, t, e)]) ++ [(d', t', e')]) : (t' - s < t ∧ e < e' ∧ M = [(d, t, e), (d', t', e')]) ∨ ((¬ t' - s < t ∨ ¬ e < e') ∧ M = [(d', t', e')]) := by
  subst h
  by_cases a : t' - s < t <;> by_cases b : e < e' <;> simp [dropF, popB, f35, a, b, hn]
theorem own_a2L {w_LOWEST w_HIGHEST : Addr} {d d1 d' : Addr} {t t1 t' s e e1 e' : Int64} {M : List (Addr × Int64 × Int64)} (hn : w_LOWEST ≠ w_HIGHEST) (h : M = popB w_HIGHEST w_LOWEST e' (dropF (t' - s) [(d, t, e), (d1, t1, e1)]) ++ [(d', t', e')]) : (t' - s < t ∧ e1 < e' ∧ M = [(d, t, e), (d1, t1, e1), (d', t', e')]) ∨ (t' - s < t ∧ ¬ e1 < e' ∧ e < e' ∧ M = [(d, t, e), (d', t', e')]) ∨ (¬ t' - s < t ∧ t' - s < t1 ∧ e1 < e' ∧ M = [(d1, t1, e1), (d', t', e')]) ∨ (((t' - s < t ∧ ¬ e1 < e' ∧ ¬ e < e') ∨ (¬ t' - s < t ∧ (¬ t' - s < t1 ∨ ¬ e1 < e'))) ∧ M = [(d', t', e')]) := by
  subst h
  by_cases a : t' - s < t <;> by_cases a1 : t' - s < t1 <;> by_cases b : e < e' <;> by_cases b1 : e1 < e' <;> simp [dropF, popB, f35, a, a1, b, b1, hn]
theorem own_a3L {w_LOWEST w_HIGHEST : Addr} {d d1 d2 d' : Addr} {t t1 t2 t' s e e1 e2 e' : Int64} {M : List (Addr × Int64 × Int64)} (hn : w_LOWEST ≠ w_HIGHEST) (h : M = popB w_HIGHEST w_LOWEST e' (dropF (t' - s) [(d, t, e), (d1, t1, e1), (d2, t2, e2)]) ++ [(d', t', e')]) : (t' - s < t ∧ (e < e' ∨ e1 < e' ∨ e2 < e') ∧ dem M = e) ∨ (¬ t' - s < t ∧ t' - s < t1 ∧ (e1 < e' ∨ e2 < e') ∧ dem M = e1) ∨ (¬ t' - s < t ∧ ¬ t' - s < t1 ∧ t' - s < t2 ∧ e2 < e' ∧ dem M = e2) ∨ (((t' - s < t ∧ ¬ e < e' ∧ ¬ e1 < e' ∧ ¬ e2 < e') ∨ (¬ t' - s < t ∧ t' - s < t1 ∧ ¬ e1 < e' ∧ ¬ e2 < e') ∨ (¬ t' - s < t ∧ ¬ t' - s < t1 ∧ (¬ t' - s < t2 ∨ ¬ e2 < e'))) ∧ dem M = e') := by
  subst h
  by_cases a : t' - s < t <;> by_cases a1 : t' - s < t1 <;> by_cases a2 : t' - s < t2 <;> by_cases b : e < e' <;> by_cases b1 : e1 < e' <;> by_cases b2 : e2 < e' <;> simp [dropF, popB, f35, dem, a, a1, a2, b, b1, b2, hn]
theorem own_r1L {w_LOWEST w_HIGHEST : Addr} {d0 d1 : Addr} {t0 t1 t2 t3 s e0 e1 : Int64} {M1 : List (Addr × Int64 × Int64)} (o : OTimes t0 t1 t2 t3 s) (hn : w_LOWEST ≠ w_HIGHEST) (h1 : M1 = popB w_HIGHEST w_LOWEST e1 (dropF (t1 - s) [(d0, t0, e0)]) ++ [(d1, t1, e1)]) : dem M1 = (f32 e1 (if (t1 - s) < t0 then (1 : Int32) else (0 : Int32)) e0) := by
  obtain ⟨s1, s2, s3, o1, o2, o3⟩ := o
  apply Int64.toInt_inj.mp
  have f1 := own_fL (P := t1 - s < t0) e1 e0
  generalize (f32 e1 (if (t1 - s) < t0 then (1 : Int32) else (0 : Int32)) e0) = c1 at *
  rcases own_a1L hn h1 with ⟨a, b, rfl⟩ | ⟨a, rfl⟩ <;> (simp only [Int64.lt_iff_toInt_lt, s1, s2, s3, dem] at *; omega)
theorem own_r2L {w_LOWEST w_HIGHEST : Addr} {d0 d1 d2 : Addr} {t0 t1 t2 t3 s e0 e1 e2 : Int64} {M1 M2 : List (Addr × Int64 × Int64)} (o : OTimes t0 t1 t2 t3 s) (hn : w_LOWEST ≠ w_HIGHEST) (h1 : M1 = popB w_HIGHEST w_LOWEST e1 (dropF (t1 - s) [(d0, t0, e0)]) ++ [(d1, t1, e1)]) (h2 : M2 = popB w_HIGHEST w_LOWEST e2 (dropF (t2 - s) M1) ++ [(d2, t2, e2)]) : dem M2 = (f32 (f32 e2 (if (t2 - s) < t1 then (1 : Int32) else (0 : Int32)) e1) (if (t2 - s) < t0 then (1 : Int32) else (0 : Int32)) e0) := by
  obtain ⟨s1, s2, s3, o1, o2, o3⟩ := o
  apply Int64.toInt_inj.mp
  have f1 := own_fL (P := t2 - s < t1) e2 e1
  have f2 := own_fL (P := t2 - s < t0) (f32 e2 (if (t2 - s) < t1 then (1 : Int32) else (0 : Int32)) e1) e0
  generalize (f32 (f32 e2 (if (t2 - s) < t1 then (1 : Int32) else (0 : Int32)) e1) (if (t2 - s) < t0 then (1 : Int32) else (0 : Int32)) e0) = c2 at *
  generalize (f32 e2 (if (t2 - s) < t1 then (1 : Int32) else (0 : Int32)) e1) = c1 at *
  rcases own_a1L hn h1 with ⟨a, b, rfl⟩ | ⟨a, rfl⟩
  · rcases own_a2L hn h2 with ⟨c, d, rfl⟩ | ⟨c, d, e, rfl⟩ | ⟨c, d, e, rfl⟩ | ⟨c, rfl⟩ <;> (simp only [Int64.lt_iff_toInt_lt, s1, s2, s3, dem] at *; omega)
  · rcases own_a1L hn h2 with ⟨c, d, rfl⟩ | ⟨c, rfl⟩ <;> (simp only [Int64.lt_iff_toInt_lt, s1, s2, s3, dem] at *; omega)
theorem own_r3L {w_LOWEST w_HIGHEST : Addr} {d0 d1 d2 d3 : Addr} {t0 t1 t2 t3 s e0 e1 e2 e3 : Int64} {M1 M2 M3 : List (Addr × Int64 × Int64)} (o : OTimes t0 t1 t2 t3 s) (hn : w_LOWEST ≠ w_HIGHEST) (h1 : M1 = popB w_HIGHEST w_LOWEST e1 (dropF (t1 - s) [(d0, t0, e0)]) ++ [(d1, t1, e1)]) (h2 : M2 = popB w_HIGHEST w_LOWEST e2 (dropF (t2 - s) M1) ++ [(d2, t2, e2)]) (h3 : M3 = popB w_HIGHEST w_LOWEST e3 (dropF (t3 - s) M2) ++ [(d3, t3, e3)]) : dem M3 = (f32 (f32 (f32 e3 (if (t3 - s) < t2 then (1 : Int32) else (0 : Int32)) e2) (if (t3 - s) < t1 then (1 : Int32) else (0 : Int32)) e1) (if (t3 - s) < t0 then (1 : Int32) else (0 : Int32)) e0) := by
  obtain ⟨s1, s2, s3, o1, o2, o3⟩ := o
  apply Int64.toInt_inj.mp
  have f1 := own_fL (P := t3 - s < t2) e3 e2
  have f2 := own_fL (P := t3 - s < t1) (f32 e3 (if (t3 - s) < t2 then (1 : Int32) else (0 : Int32)) e2) e1
  have f3 := own_fL (P := t3 - s < t0) (f32 (f32 e3 (if (t3 - s) < t2 then (1 : Int32) else (0 : Int32)) e2) (if (t3 - s) < t1 then (1 : Int32) else (0 : Int32)) e1) e0
  generalize (f32 (f32 (f32 e3 (if (t3 - s) < t2 then (1 : Int32) else (0 : Int32)) e2) (if (t3 - s) < t1 then (1 : Int32) else (0 : Int32)) e1) (if (t3 - s) < t0 then (1 : Int32) else (0 : Int32)) e0) = c3 at *
  generalize (f32 (f32 e3 (if (t3 - s) < t2 then (1 : Int32) else (0 : Int32)) e2) (if (t3 - s) < t1 then (1 : Int32) else (0 : Int32)) e1) = c2 at *
  generalize (f32 e3 (if (t3 - s) < t2 then (1 : Int32) else (0 : Int32)) e2) = c1 at *
  rcases own_a1L hn h1 with ⟨a, b, rfl⟩ | ⟨a, rfl⟩
  · rcases own_a2L hn h2 with ⟨c, d, rfl⟩ | ⟨c, d, e, rfl⟩ | ⟨c, d, e, rfl⟩ | ⟨c, rfl⟩
    · rcases own_a3L hn h3 with ⟨f, g, k⟩ | ⟨f, g, i, k⟩ | ⟨f, g, i, j, k⟩ | ⟨f, k⟩ <;> (rw [k]; simp only [Int64.lt_iff_toInt_lt, s1, s2, s3, dem] at *; omega)
    · rcases own_a2L hn h3 with ⟨f, g, rfl⟩ | ⟨f, g, i, rfl⟩ | ⟨f, g, i, rfl⟩ | ⟨f, rfl⟩ <;> (simp only [Int64.lt_iff_toInt_lt, s1, s2, s3, dem] at *; omega)
    · rcases own_a2L hn h3 with ⟨f, g, rfl⟩ | ⟨f, g, i, rfl⟩ | ⟨f, g, i, rfl⟩ | ⟨f, rfl⟩ <;> (simp only [Int64.lt_iff_toInt_lt, s1, s2, s3, dem] at *; omega)
    · rcases own_a1L hn h3 with ⟨f, g, rfl⟩ | ⟨f, rfl⟩ <;> (simp only [Int64.lt_iff_toInt_lt, s1, s2, s3, dem] at *; omega)
  · rcases own_a1L hn h2 with ⟨c, d, rfl⟩ | ⟨c, rfl⟩
    · rcases own_a2L hn h3 with ⟨f, g, rfl⟩ | ⟨f, g, i, rfl⟩ | ⟨f, g, i, rfl⟩ | ⟨f, rfl⟩ <;> (simp only [Int64.lt_iff_toInt_lt, s1, s2, s3, dem] at *; omega)
    · rcases own_a1L hn h3 with ⟨f, g, rfl⟩ | ⟨f, rfl⟩ <;> (simp only [Int64.lt_iff_toInt_lt, s1, s2, s3, dem] at *; omega)

def Q12_1 (Z : State) (w_LOWEST : Addr) (w_HIGHEST : Addr) (w_EMPTY_ELEMENTDATA : Addr) (w_DEFAULTCAPACITY_EMPTY_ELEMENTDATA : Addr) (k_w_EMPTY_ELEMENTDATA : ClassId) (k_w_DEFAULTCAPACITY_EMPTY_ELEMENTDATA : ClassId) (a1 : Addr) (q2 : Int64) (a4 : Addr) (a21 : Addr) (k22 : ClassId) (a23 : Addr) (h0 : Heap) (n0 : Nat) (v : Option Value) (h : Heap) (L : List Loc) : Prop := Fr n0 L ∧ ∃ b6 : Addr, ∃ b3_7 : Addr, ∃ k3_7 : ClassId, v = none ∧ h0.size ≤ b6 ∧ h0.size ≤ b3_7 ∧ b6 ≠ b3_7 ∧ OKeep h0 h [(a1, Jvm.RoadKit.slotOf Z "com/example/restrained_scaler/restrainedscaler/decision/StabilizationWindow" "demands" "Ljava/util/Deque;"), (a1, Jvm.RoadKit.slotOf Z "com/example/restrained_scaler/restrainedscaler/decision/StabilizationWindow" "seconds" "J"), (a1, Jvm.RoadKit.slotOf Z "com/example/restrained_scaler/restrainedscaler/decision/StabilizationWindow" "kept" "Lcom/example/restrained_scaler/restrainedscaler/decision/StabilizationWindow$Kept;")] ∧ Fld Z h a1 "com/example/restrained_scaler/restrainedscaler/decision/StabilizationWindow" "demands" "Ljava/util/Deque;" (.ref b6) ∧ Fld Z h a1 "com/example/restrained_scaler/restrainedscaler/decision/StabilizationWindow" "seconds" "J" (.long q2) ∧ Fld Z h a1 "com/example/restrained_scaler/restrainedscaler/decision/StabilizationWindow" "kept" "Lcom/example/restrained_scaler/restrainedscaler/decision/StabilizationWindow$Kept;" (.ref w_HIGHEST) ∧ Exa Z h b6 "java/util/ArrayDeque" ∧ Fld Z h b6 "java/util/ArrayDeque" "elements" "[Ljava/lang/Object;" (.ref b3_7) ∧ Fld Z h b6 "java/util/ArrayDeque" "head" "I" (.int (0 : Int32)) ∧ Fld Z h b6 "java/util/ArrayDeque" "tail" "I" (.int (1 : Int32)) ∧ Exa Z h b3_7 "[Ljava/lang/Object;" ∧ Arv Z h b3_7 k3_7 (.object "java/lang/Object") (17 : Int32) [(.ref a23), .null, .null, .null, .null, .null, .null, .null, .null, .null, .null, .null, .null, .null, .null, .null, .null] .null ∧ Ovr Z k3_7 "java/lang/Object"
theorem ef12_1 (m : MethodId) (x0 : Addr) (x1 : Int64) (x2 : Addr) (x3 : Addr) : entryFrame m #[(.ref x0), (.long x1), (.ref x2), (.ref x3)] 7 = mkF m 0 #[.val (.ref x0), .val (.long x1), .second, .val (.ref x2), .val (.ref x3), .unset, .unset] [] := by first | (simp [entryFrame, mkF, argsToLocals, Value.category]; done) | rfl
set_option maxRecDepth 65536 in
set_option maxHeartbeats 40000000 in
theorem rm12_1 (l : Launch) (Z : State) (a0 : Array Value) (hw : ∀ d ∈ tables_1, d.before a0 Z = true) (ws : List Jvm.Cond) {w_LOWEST : Addr} {w_HIGHEST : Addr} {w_EMPTY_ELEMENTDATA : Addr} {w_DEFAULTCAPACITY_EMPTY_ELEMENTDATA : Addr} {k_w_EMPTY_ELEMENTDATA : ClassId} {k_w_DEFAULTCAPACITY_EMPTY_ELEMENTDATA : ClassId} (G : Glob Z w_LOWEST w_HIGHEST w_EMPTY_ELEMENTDATA w_DEFAULTCAPACITY_EMPTY_ELEMENTDATA k_w_EMPTY_ELEMENTDATA k_w_DEFAULTCAPACITY_EMPTY_ELEMENTDATA) (a1 : Addr) (q2 : Int64) (a4 : Addr) (a21 : Addr) (k22 : ClassId) (a23 : Addr) (h0 : Heap) (n0 : Nat) (O0 : Old Z n0 h0) (E_a1 : Exa Z h0 a1 "com/example/restrained_scaler/restrainedscaler/decision/StabilizationWindow") (F_demands_a1 : Fld Z h0 a1 "com/example/restrained_scaler/restrainedscaler/decision/StabilizationWindow" "demands" "Ljava/util/Deque;" .null) (g_a1 : n0 ≤ a1) (F_seconds_a1 : Fld Z h0 a1 "com/example/restrained_scaler/restrainedscaler/decision/StabilizationWindow" "seconds" "J" (.long (0 : Int64))) (F_kept_a1 : Fld Z h0 a1 "com/example/restrained_scaler/restrainedscaler/decision/StabilizationWindow" "kept" "Lcom/example/restrained_scaler/restrainedscaler/decision/StabilizationWindow$Kept;" .null) (E_a4 : Exa Z h0 a4 "java/util/ArrayList") (F_modCount_a4 : Fld Z h0 a4 "java/util/AbstractList" "modCount" "I" (.int (1 : Int32))) (ne_a4_a1 : a4 ≠ a1) (F_size_a4 : Fld Z h0 a4 "java/util/ArrayList" "size" "I" (.int (1 : Int32))) (F_elementData_a4 : Fld Z h0 a4 "java/util/ArrayList" "elementData" "[Ljava/lang/Object;" (.ref a21)) (V_a21 : Arv Z h0 a21 k22 (.object "java/lang/Object") (10 : Int32) [(.ref a23), .null, .null, .null, .null, .null, .null, .null, .null, .null] .null) (O_k22 : Ovr Z k22 "java/lang/Object") (ne_a21_a1 : a21 ≠ a1) (E_a23 : Exa Z h0 a23 "com/example/restrained_scaler/restrainedscaler/decision/Decider$Demand") :
    MetFree l (⟨"com/example/restrained_scaler/restrainedscaler/decision/StabilizationWindow", "<init>", "(JLcom/example/restrained_scaler/restrainedscaler/decision/StabilizationWindow$Kept;Ljava/util/List;)V"⟩ : MethodName) (head1 (Jvm.Cond.code (⟨"com/example/restrained_scaler/restrainedscaler/decision/StabilizationWindow", "<init>", "(JLcom/example/restrained_scaler/restrainedscaler/decision/StabilizationWindow$Kept;Ljava/util/List;)V"⟩ : MethodName) prog_24_method_1_code 7 none :: ws) ({ frames := 3, cells := 3, slots := 24, locals := 42 } : Room)) (fun a U => a = #[(.ref a1), (.long q2), (.ref w_HIGHEST), (.ref a4)] ∧ Z.Warmed39 U.vm ∧ U.heap = h0) (fun _ _ _ _ _ => True) (fun _ U o U' => ∃ v L, o = .returned v ∧ Q12_1 Z w_LOWEST w_HIGHEST w_EMPTY_ELEMENTDATA w_DEFAULTCAPACITY_EMPTY_ELEMENTDATA k_w_EMPTY_ELEMENTDATA k_w_DEFAULTCAPACITY_EMPTY_ELEMENTDATA a1 q2 a4 a21 k22 a23 h0 n0 v U'.heap L ∧ FrameEnd U o U' L ({ frames := 3, cells := 3, slots := 24, locals := 42 } : Room).cells ({ frames := 3, cells := 3, slots := 24, locals := 42 } : Room).slots) := by
  refine MetFree.of_bodySF (plainFor_of_name pn_com_example_restrained_scaler_restrainedscaler_decision_StabilizationWindow) hisR ?_
  intro p e s m args below meth c s₁ Bd hml0 hP hK
  obtain ⟨rfl, hZ, hh⟩ := hP
  have hx := Bd.exec
  have hby := Bd.bytes
  have hml : c.maxLocals = 7 := hml0
  have hown : s.vm.findClass "com/example/restrained_scaler/restrainedscaler/decision/StabilizationWindow" = some m.cls := findClass_of_methodNamed Bd.named
  have hnm := (name_of_methodNamed Bd.named Bd.method).1
  have X0 : Stand p l e ({ frames := 3, cells := 3, slots := 24, locals := 42 } : Room) s m #[(.ref a1), (.long q2), (.ref w_HIGHEST), (.ref a4)] below meth c s₁ [] 0 0 := Stand.of_body Bd
  have e0 : s₁.heap = h0 := by rw [← hh, Bd.state]; rfl
  have N0 := Fr.nil n0
  show OGot p.tables e below (s₁.setTop (entryFrame m #[(.ref a1), (.long q2), (.ref w_HIGHEST), (.ref a4)] 7)) _
  refine OGot.go (fun t k => castTop (ef12_1 m a1 q2 w_HIGHEST a4) k) ?_
  show OGot p.tables e below (s₁.setTop (mkF m 0 #[.val (.ref a1), .val (.long q2), .second, .val (.ref w_HIGHEST), .val (.ref a4), .unset, .unset] [])) _
  refine OGot.go (fun t k => XS.aloadN X0.here hx rfl (hb hby d12_0) rfl rfl k) ?_
  obtain ⟨T5, X5, e5, st5⟩ := initO X0 hx hZ hown (ow hw 87 rfl) (ow hw 23 rfl) (ow hw 24 rfl) e0 (g := (mkF m 1 #[.val (.ref a1), .val (.long q2), .second, .val (.ref w_HIGHEST), .val (.ref a4), .unset, .unset] [(.ref a1)])) rfl (by rw [hml]; rfl) rfl (hb hby d12_1) (by decide) (W := 0) (by show 2 * 0 + _ ≤ _; exact Nat.le_of_eq rfl) (by decide)
  refine OGot.go st5 ?_
  refine OGot.go (fun t k => XS.aloadN X5.here hx rfl (hb hby d12_4) rfl rfl k) ?_
  obtain ⟨T6, h6, X6, e6, E6, A6, D6, -, st6⟩ := newO X5 hx hZ hown (ow hw 88 rfl) (ow hw 89 rfl) (ow hw 90 rfl) e5 (g := (mkF m 5 #[.val (.ref a1), .val (.long q2), .second, .val (.ref w_HIGHEST), .val (.ref a4), .unset, .unset] [(.ref a1)])) rfl (hb hby d12_5) (by decide) (by decide)
  obtain ⟨b6, g6⟩ : ∃ z, z = h0.size := ⟨_, rfl⟩
  rw [← g6] at A6 D6 st6
  refine OGot.go st6 ?_
  have g_b6 : n0 ≤ b6 := Nat.le_trans (osz O0) (Nat.le_of_eq g6.symm)
  have sy_b6 : h0.size ≤ b6 := Nat.le_of_eq g6.symm
  have sz_b6 : h0.size ≤ b6 := Nat.le_trans (OKeep.refl h0 [(a1, Jvm.RoadKit.slotOf Z "com/example/restrained_scaler/restrainedscaler/decision/StabilizationWindow" "demands" "Ljava/util/Deque;"), (a1, Jvm.RoadKit.slotOf Z "com/example/restrained_scaler/restrainedscaler/decision/StabilizationWindow" "seconds" "J"), (a1, Jvm.RoadKit.slotOf Z "com/example/restrained_scaler/restrainedscaler/decision/StabilizationWindow" "kept" "Lcom/example/restrained_scaler/restrainedscaler/decision/StabilizationWindow$Kept;")]).1 sy_b6
  have K6 := (OKeep.refl h0 [(a1, Jvm.RoadKit.slotOf Z "com/example/restrained_scaler/restrainedscaler/decision/StabilizationWindow" "demands" "Ljava/util/Deque;"), (a1, Jvm.RoadKit.slotOf Z "com/example/restrained_scaler/restrainedscaler/decision/StabilizationWindow" "seconds" "J"), (a1, Jvm.RoadKit.slotOf Z "com/example/restrained_scaler/restrainedscaler/decision/StabilizationWindow" "kept" "Lcom/example/restrained_scaler/restrainedscaler/decision/StabilizationWindow$Kept;")]).ext E6
  have O6 := O0.ext E6
  have F6_elements : Fld Z h6 b6 "java/util/ArrayDeque" "elements" "[Ljava/lang/Object;" .null := D6 (Or.inl (ow hw 98 rfl)) (ty := (.array (.object "java/lang/Object"))) (by decide)
  have F6_head : Fld Z h6 b6 "java/util/ArrayDeque" "head" "I" (.int (0 : Int32)) := D6 (Or.inl (ow hw 170 rfl)) (ty := .int) (by decide)
  have F6_tail : Fld Z h6 b6 "java/util/ArrayDeque" "tail" "I" (.int (0 : Int32)) := D6 (Or.inl (ow hw 172 rfl)) (ty := .int) (by decide)
  refine OGot.go (fun t k => XS.dup X6.here hx rfl (hb hby d12_8) rfl rfl k) ?_
  obtain ⟨_, _, ⟨T7, L7, k7, n7⟩, -, X7, ⟨Lc7, hQ7, l7, y7, z7⟩, st7⟩ := X6.specialBack hx (y := (⟨"java/util/ArrayDeque", "<init>", "()V"⟩ : MethodName)) rfl hown (mvT hZ (ow hw 91 rfl)) (mvT hZ (ow hw 92 rfl)) (mvT hZ (ow hw 93 rfl)) (by decide) (backOf (W := 2) (rm13 l Z a0 hw [] G b6 h6 n0 O6 A6 F6_elements g_b6) hZ (ow hw 93 rfl) (ow hw 90 rfl) (by decide) (by decide)) (g := (mkF m 9 #[.val (.ref a1), .val (.long q2), .second, .val (.ref w_HIGHEST), .val (.ref a4), .unset, .unset] [(.ref b6), (.ref b6), (.ref a1)])) rfl (by rw [hml]; rfl) (Steps.refl _) (a := b6) (argsL := []) (rest := [(.ref b6), (.ref a1)]) (lenOf pd_7 rfl) rfl (by show 2 * 0 + _ ≤ _; exact Nat.le_of_eq rfl) (hb hby d12_9) (fun _ _ => ⟨rfl, e6, (by decide : 1 + 1 ≤ _), (by decide : 3 + 17 ≤ _)⟩)
  dsimp only [Pt.U, Pt.locs, Pt.cells, Pt.slots] at X7 l7 y7 z7 st7 hQ7
  subst l7 y7 z7
  obtain ⟨N7q, b3_7, k3_7, rfl, szb3_7_7, K7, Fo7_0, Fo7_1, Fo7_2, Fo7_3⟩ := hQ7
  have g_b3_7 : n0 ≤ b3_7 := Nat.le_trans (osz O6) szb3_7_7
  have sz_b3_7 : h0.size ≤ b3_7 := Nat.le_trans K6.1 szb3_7_7
  have Kc7 := K6.trans K7 (oinS (Or.inr sz_b6) oin0)
  have O7 := OKeep.old O6 K7 (ogeS g_b6 oge0)
  have N7 := Fr.app N0 N7q
  refine OGot.on st7 ?_
  show OGot p.tables e below (T7.setTop (mkF m 12 #[.val (.ref a1), .val (.long q2), .second, .val (.ref w_HIGHEST), .val (.ref a4), .unset, .unset] [(.ref b6), (.ref a1)])) _
  have ne8 : a1 ≠ b6 := (Nat.ne_of_lt (Nat.lt_of_lt_of_le F_demands_a1.lt sy_b6))
  have F9 : Fld Z T7.heap a1 "com/example/restrained_scaler/restrainedscaler/decision/StabilizationWindow" "demands" "Ljava/util/Deque;" .null := (OKeep.fld (F_demands_a1.ext E6) K7 (oninA ne8 onin0))
  obtain ⟨T10, h10, X10, e10, W10, st10⟩ := putF X7 hx hZ hown (host := "") (Or.inl (ow hw 99 rfl)) Via.refl rfl F9 (OKeep.exa (E_a1.ext E6) K7) (Or.inr ⟨(ow hw 100 rfl), rfl, hnm⟩) (ow hw 82 rfl) (ty := (.object "java/util/Deque")) (by decide) rfl rfl (g := (mkF m 12 #[.val (.ref a1), .val (.long q2), .second, .val (.ref w_HIGHEST), .val (.ref a4), .unset, .unset] [(.ref b6), (.ref a1)])) rfl rfl (hb hby d12_12)
  refine OGot.go st10 ?_
  have N10 := Fr.snoc X10 N7 g_a1
  have O10 := O7.wr W10 g_a1
  have K10 := Kc7.wr W10 (Or.inl (List.mem_of_getElem? (i := 0) rfl))
  have Fw10 : Fld Z h10 a1 "com/example/restrained_scaler/restrainedscaler/decision/StabilizationWindow" "demands" "Ljava/util/Deque;" (.ref b6) := F9.same W10
  refine OGot.go (fun t k => XS.aloadN X10.here hx rfl (hb hby d12_15) rfl rfl k) ?_
  refine OGot.go (fun t k => XS.lloadN X10.here hx rfl (hb hby d12_16) rfl k) ?_
  have F11 : Fld Z h10 a1 "com/example/restrained_scaler/restrainedscaler/decision/StabilizationWindow" "seconds" "J" (.long (0 : Int64)) := ((OKeep.fld (F_seconds_a1.ext E6) K7 (oninA ne8 onin0)).other W10 (Or.inr (slot_ne (Or.inr (ow hw 102 rfl)) (Or.inr (ow hw 100 rfl)) (by decide) (t := .long) (t' := (.object "java/util/Deque")) (by decide) (by decide))))
  obtain ⟨T12, h12, X12, e12, W12, st12⟩ := putF X10 hx hZ hown (host := "") (Or.inl (ow hw 101 rfl)) Via.refl e10 F11 ((OKeep.exa (E_a1.ext E6) K7).wr W10) (Or.inr ⟨(ow hw 102 rfl), rfl, hnm⟩) (ow hw 82 rfl) (ty := .long) (by decide) rfl rfl (g := (mkF m 17 #[.val (.ref a1), .val (.long q2), .second, .val (.ref w_HIGHEST), .val (.ref a4), .unset, .unset] [(.long q2), (.ref a1)])) rfl rfl (hb hby d12_17)
  refine OGot.go st12 ?_
  have N12 := Fr.snoc X12 N10 g_a1
  have O12 := O10.wr W12 g_a1
  have K12 := K10.wr W12 (Or.inl (List.mem_of_getElem? (i := 1) rfl))
  have Fw12 : Fld Z h12 a1 "com/example/restrained_scaler/restrainedscaler/decision/StabilizationWindow" "seconds" "J" (.long q2) := F11.same W12
  refine OGot.go (fun t k => XS.aloadN X12.here hx rfl (hb hby d12_20) rfl rfl k) ?_
  refine OGot.go (fun t k => XS.aloadN X12.here hx rfl (hb hby d12_21) rfl rfl k) ?_
  show OGot p.tables e below (T12.setTop (mkF m 22 #[.val (.ref a1), .val (.long q2), .second, .val (.ref w_HIGHEST), .val (.ref a4), .unset, .unset] [(.ref w_HIGHEST), (.ref a1)])) _
  have F13 : Fld Z h12 a1 "com/example/restrained_scaler/restrainedscaler/decision/StabilizationWindow" "kept" "Lcom/example/restrained_scaler/restrainedscaler/decision/StabilizationWindow$Kept;" .null := (((OKeep.fld (F_kept_a1.ext E6) K7 (oninA ne8 onin0)).other W10 (Or.inr (slot_ne (Or.inr (ow hw 104 rfl)) (Or.inr (ow hw 100 rfl)) (by decide) (t := (.object "com/example/restrained_scaler/restrainedscaler/decision/StabilizationWindow$Kept")) (t' := (.object "java/util/Deque")) (by decide) (by decide)))).other W12 (Or.inr (slot_ne (Or.inr (ow hw 104 rfl)) (Or.inr (ow hw 102 rfl)) (by decide) (t := (.object "com/example/restrained_scaler/restrainedscaler/decision/StabilizationWindow$Kept")) (t' := .long) (by decide) (by decide))))
  obtain ⟨T14, h14, X14, e14, W14, st14⟩ := putF X12 hx hZ hown (host := "") (Or.inl (ow hw 103 rfl)) Via.refl e12 F13 (((OKeep.exa (E_a1.ext E6) K7).wr W10).wr W12) (Or.inr ⟨(ow hw 104 rfl), rfl, hnm⟩) (ow hw 82 rfl) (ty := (.object "com/example/restrained_scaler/restrainedscaler/decision/StabilizationWindow$Kept")) (by decide) rfl rfl (g := (mkF m 22 #[.val (.ref a1), .val (.long q2), .second, .val (.ref w_HIGHEST), .val (.ref a4), .unset, .unset] [(.ref w_HIGHEST), (.ref a1)])) rfl rfl (hb hby d12_22)
  refine OGot.go st14 ?_
  have N14 := Fr.snoc X14 N12 g_a1
  have O14 := O12.wr W14 g_a1
  have K14 := K12.wr W14 (Or.inl (List.mem_of_getElem? (i := 2) rfl))
  have Fw14 : Fld Z h14 a1 "com/example/restrained_scaler/restrainedscaler/decision/StabilizationWindow" "kept" "Lcom/example/restrained_scaler/restrainedscaler/decision/StabilizationWindow$Kept;" (.ref w_HIGHEST) := F13.same W14
  refine OGot.go (fun t k => XS.aload X14.here hx rfl (hb hby d12_25) rfl rfl k) ?_
  have ne16 : a4 ≠ b6 := (Nat.ne_of_lt (Nat.lt_of_lt_of_le F_modCount_a4.lt sy_b6))
  have ne17 : a4 ≠ a1 := ne_a4_a1
  have F18 : Fld Z h14 a4 "java/util/AbstractList" "modCount" "I" (.int (1 : Int32)) := ((((OKeep.fld (F_modCount_a4.ext E6) K7 (oninA ne16 onin0)).other W10 (Or.inl ne17)).other W12 (Or.inl ne17)).other W14 (Or.inl ne17))
  obtain ⟨cq15, kq15, q15a, q15b, q15c⟩ := isOf hZ e14 ((((OKeep.exa (E_a4.ext E6) K7).wr W10).wr W12).wr W14)
  obtain ⟨_, _, ⟨T15, L15, k15, n15⟩, -, X15, ⟨Lc15, hQ15, l15, y15, z15⟩, st15⟩ := X14.interfaceBack hx (xi := (⟨"java/util/List", "iterator", "()Ljava/util/Iterator;"⟩ : MethodName)) (y := (⟨"java/util/ArrayList", "iterator", "()Ljava/util/Iterator;"⟩ : MethodName)) hown (mvT hZ (ow hw 105 rfl)) (mvT hZ (ow hw 106 rfl)) (mvT hZ (ow hw 107 rfl)) (mvT hZ (ow hw 108 rfl)) (mvT hZ (ow hw 109 rfl)) (mvT hZ (ow hw 110 rfl)) (mvT hZ (ow hw 111 rfl)) (mvT hZ (ow hw 53 rfl)) (by decide) (backOf (W := 0) (rm14 l Z a0 hw [] G a4 h14 n0 O14 F18) hZ (ow hw 112 rfl) (ow hw 6 rfl) (by decide) (by decide)) q15a q15b q15c (g := (mkF m 27 #[.val (.ref a1), .val (.long q2), .second, .val (.ref w_HIGHEST), .val (.ref a4), .unset, .unset] [(.ref a4)])) rfl (by rw [hml]; rfl) (Steps.refl _) (argsL := []) (rest := []) (lenOf pd_15 rfl) rfl (by show 2 * 0 + _ ≤ _; exact Nat.le_of_eq rfl) (hb hby d12_27) (fun _ _ => ⟨rfl, e14, (by decide : 2 + 1 ≤ _), (by decide : 20 + 4 ≤ _)⟩)
  dsimp only [Pt.U, Pt.locs, Pt.cells, Pt.slots] at X15 l15 y15 z15 st15 hQ15
  subst l15 y15 z15
  obtain ⟨N15q, b2_15, rfl, szb2_15_15, K15, Fo15_0, Fo15_1, Fo15_2, Fo15_3, Fo15_4⟩ := hQ15
  have g_b2_15 : n0 ≤ b2_15 := Nat.le_trans (osz O14) szb2_15_15
  have sz_b2_15 : h0.size ≤ b2_15 := Nat.le_trans K14.1 szb2_15_15
  have Kc15 := K14.trans K15 oin0
  have O15 := OKeep.old O14 K15 oge0
  have N15 := Fr.app N14 N15q
  refine OGot.on st15 ?_
  refine OGot.go (fun t k => XS.astore X15.here hx rfl (hb hby d12_32) rfl rfl (l' := #[.val (.ref a1), .val (.long q2), .second, .val (.ref w_HIGHEST), .val (.ref a4), .val (.ref b2_15), .unset]) rfl k) ?_
  refine OGot.go (fun t k => XS.aload X15.here hx rfl (hb hby d12_34) rfl rfl k) ?_
  have F20 : Fld Z T15.heap a4 "java/util/ArrayList" "size" "I" (.int (1 : Int32)) := (OKeep.fld ((((OKeep.fld (F_size_a4.ext E6) K7 (oninA ne16 onin0)).other W10 (Or.inl ne17)).other W12 (Or.inl ne17)).other W14 (Or.inl ne17)) K15 onin0)
  obtain ⟨cq19, kq19, q19a, q19b, q19c⟩ := isOf hZ rfl Fo15_0
  obtain ⟨_, _, ⟨T19, L19, k19, n19⟩, -, X19, ⟨Lc19, hQ19, l19, y19, z19⟩, st19⟩ := X15.interfaceBack hx (xi := (⟨"java/util/Iterator", "hasNext", "()Z"⟩ : MethodName)) (y := (⟨"java/util/ArrayList$Itr", "hasNext", "()Z"⟩ : MethodName)) hown (mvT hZ (ow hw 128 rfl)) (mvT hZ (ow hw 129 rfl)) (mvT hZ (ow hw 130 rfl)) (mvT hZ (ow hw 131 rfl)) (mvT hZ (ow hw 132 rfl)) (mvT hZ (ow hw 133 rfl)) (mvT hZ (ow hw 134 rfl)) (mvT hZ (ow hw 135 rfl)) (by decide) (backOf (W := 0) (rm16 l Z a0 hw [] G b2_15 a4 T15.heap n0 O15 Fo15_1 Fo15_4 F20) hZ (ow hw 136 rfl) (ow hw 115 rfl) (by decide) (by decide)) q19a q19b q19c (g := (mkF m 36 #[.val (.ref a1), .val (.long q2), .second, .val (.ref w_HIGHEST), .val (.ref a4), .val (.ref b2_15), .unset] [(.ref b2_15)])) rfl (by rw [hml]; rfl) (Steps.refl _) (argsL := []) (rest := []) (lenOf pd_0 rfl) rfl (by show 2 * 0 + _ ≤ _; exact Nat.le_of_eq rfl) (hb hby d12_36) (fun _ _ => ⟨rfl, rfl, (by decide : 3 + 0 ≤ _), (by decide : 24 + 0 ≤ _)⟩)
  dsimp only [Pt.U, Pt.locs, Pt.cells, Pt.slots] at X19 l19 y19 z19 st19 hQ19
  subst l19 y19 z19
  obtain ⟨rfl, N19q, e19⟩ := hQ19
  have N19 := Fr.app N15 N19q
  refine OGot.on st19 ?_
  show OGot p.tables e below (T19.setTop (mkF m 41 #[.val (.ref a1), .val (.long q2), .second, .val (.ref w_HIGHEST), .val (.ref a4), .val (.ref b2_15), .unset] [(.int (1 : Int32))])) _
  refine OGot.go (fun t k => XS.ifNo X19.here hx rfl (hb hby d12_41) rfl (by decide) k) ?_
  refine OGot.go (fun t k => XS.aload X19.here hx rfl (hb hby d12_44) rfl rfl k) ?_
  have ne24 : a21 ≠ b2_15 := (Nat.ne_of_lt (Nat.lt_of_lt_of_le (Nat.lt_of_lt_of_le (Nat.lt_of_lt_of_le (Nat.lt_of_lt_of_le (Nat.lt_of_lt_of_le (Nat.lt_of_lt_of_le V_a21.lt E6.1) K7.1) (Keep.of_wr W10).1) (Keep.of_wr W12).1) (Keep.of_wr W14).1) szb2_15_15))
  have F26 : Fld Z T15.heap a4 "java/util/AbstractList" "modCount" "I" (.int (1 : Int32)) := (OKeep.fld F18 K15 onin0)
  have F27 : Fld Z T15.heap a4 "java/util/ArrayList" "elementData" "[Ljava/lang/Object;" (.ref a21) := (OKeep.fld ((((OKeep.fld (F_elementData_a4.ext E6) K7 (oninA ne16 onin0)).other W10 (Or.inl ne17)).other W12 (Or.inl ne17)).other W14 (Or.inl ne17)) K15 onin0)
  have ne28 : a21 ≠ b6 := (Nat.ne_of_lt (Nat.lt_of_lt_of_le V_a21.lt sy_b6))
  have ne29 : a21 ≠ a1 := ne_a21_a1
  have F30 : Arv Z T15.heap a21 k22 (.object "java/lang/Object") (10 : Int32) [(.ref a23), .null, .null, .null, .null, .null, .null, .null, .null, .null] .null := (OKeep.arv ((((OKeep.arv (V_a21.ext E6) K7 (oallS ne28 oall0)).other W10 ne29).other W12 ne29).other W14 ne29) K15 oall0)
  obtain ⟨cq25, kq25, q25a, q25b, q25c⟩ := isOf hZ e19 Fo15_0
  obtain ⟨_, _, ⟨T25, L25, k25, n25⟩, -, X25, ⟨Lc25, hQ25, l25, y25, z25⟩, st25⟩ := X19.interfaceBack hx (xi := (⟨"java/util/Iterator", "next", "()Ljava/lang/Object;"⟩ : MethodName)) (y := (⟨"java/util/ArrayList$Itr", "next", "()Ljava/lang/Object;"⟩ : MethodName)) hown (mvT hZ (ow hw 140 rfl)) (mvT hZ (ow hw 141 rfl)) (mvT hZ (ow hw 142 rfl)) (mvT hZ (ow hw 143 rfl)) (mvT hZ (ow hw 144 rfl)) (mvT hZ (ow hw 145 rfl)) (mvT hZ (ow hw 146 rfl)) (mvT hZ (ow hw 135 rfl)) (by decide) (backOf (W := 0) (rm17 l Z a0 hw [] G b2_15 a4 a21 k22 a23 T15.heap n0 O15 Fo15_0 Fo15_4 F26 Fo15_2 Fo15_1 F20 F27 F30 O_k22 g_b2_15 Fo15_3 ne24) hZ (ow hw 147 rfl) (ow hw 115 rfl) (by decide) (by decide)) q25a q25b q25c (g := (mkF m 46 #[.val (.ref a1), .val (.long q2), .second, .val (.ref w_HIGHEST), .val (.ref a4), .val (.ref b2_15), .unset] [(.ref b2_15)])) rfl (by rw [hml]; rfl) (Steps.refl _) (argsL := []) (rest := []) (lenOf pd_4 rfl) rfl (by show 2 * 0 + _ ≤ _; exact Nat.le_of_eq rfl) (hb hby d12_46) (fun _ _ => ⟨rfl, e19, (by decide : 3 + 0 ≤ _), (by decide : 24 + 0 ≤ _)⟩)
  dsimp only [Pt.U, Pt.locs, Pt.cells, Pt.slots] at X25 l25 y25 z25 st25 hQ25
  subst l25 y25 z25
  obtain ⟨N25q, rfl, K25, Fo25_0, Fo25_1⟩ := hQ25
  have Kc25 := Kc15.trans K25 (oinS (Or.inr sz_b2_15) (oinS (Or.inr sz_b2_15) oin0))
  have O25 := OKeep.old O15 K25 (ogeS g_b2_15 (ogeS g_b2_15 oge0))
  have N25 := Fr.app N19 N25q
  refine OGot.on st25 ?_
  obtain ⟨T31, X31, e31, st31⟩ := castY X25 hx hZ hown (ow hw 154 rfl) rfl (Ins.self (OKeep.exa (OKeep.exa ((((OKeep.exa (E_a23.ext E6) K7).wr W10).wr W12).wr W14) K15) K25)) (g := (mkF m 51 #[.val (.ref a1), .val (.long q2), .second, .val (.ref w_HIGHEST), .val (.ref a4), .val (.ref b2_15), .unset] [(.ref a23)])) rfl rfl (hb hby d12_51)
  refine OGot.go st31 ?_
  refine OGot.go (fun t k => XS.astore X31.here hx rfl (hb hby d12_54) rfl rfl (l' := #[.val (.ref a1), .val (.long q2), .second, .val (.ref w_HIGHEST), .val (.ref a4), .val (.ref b2_15), .val (.ref a23)]) rfl k) ?_
  refine OGot.go (fun t k => XS.aloadN X31.here hx rfl (hb hby d12_56) rfl rfl k) ?_
  show OGot p.tables e below (T31.setTop (mkF m 57 #[.val (.ref a1), .val (.long q2), .second, .val (.ref w_HIGHEST), .val (.ref a4), .val (.ref b2_15), .val (.ref a23)] [(.ref a1)])) _
  refine OGot.go (fun t k => XS.aload X31.here hx rfl (hb hby d12_57) rfl rfl k) ?_
  have ne32 : b6 ≠ b3_7 := (Nat.ne_of_lt (Nat.lt_of_lt_of_le A6.lt szb3_7_7))
  have ne34 : a1 ≠ b2_15 := (Nat.ne_of_lt (Nat.lt_of_lt_of_le (Nat.lt_of_lt_of_le (Nat.lt_of_lt_of_le (Nat.lt_of_lt_of_le (Nat.lt_of_lt_of_le (Nat.lt_of_lt_of_le F_demands_a1.lt E6.1) K7.1) (Keep.of_wr W10).1) (Keep.of_wr W12).1) (Keep.of_wr W14).1) szb2_15_15))
  have F35 : Fld Z T25.heap a1 "com/example/restrained_scaler/restrainedscaler/decision/StabilizationWindow" "demands" "Ljava/util/Deque;" (.ref b6) := (OKeep.fld (OKeep.fld ((Fw10.other W12 (Or.inr (slot_ne (Or.inr (ow hw 100 rfl)) (Or.inr (ow hw 102 rfl)) (by decide) (t := (.object "java/util/Deque")) (t' := .long) (by decide) (by decide)))).other W14 (Or.inr (slot_ne (Or.inr (ow hw 100 rfl)) (Or.inr (ow hw 104 rfl)) (by decide) (t := (.object "java/util/Deque")) (t' := (.object "com/example/restrained_scaler/restrainedscaler/decision/StabilizationWindow$Kept")) (by decide) (by decide)))) K15 onin0) K25 (oninA ne34 (oninA ne34 onin0)))
  have ne36 : b6 ≠ b2_15 := (Nat.ne_of_lt (Nat.lt_of_lt_of_le (Nat.lt_of_lt_of_le (Nat.lt_of_lt_of_le (Nat.lt_of_lt_of_le (Nat.lt_of_lt_of_le A6.lt K7.1) (Keep.of_wr W10).1) (Keep.of_wr W12).1) (Keep.of_wr W14).1) szb2_15_15))
  have F37 : Fld Z T25.heap b6 "java/util/ArrayDeque" "head" "I" (.int (0 : Int32)) := (OKeep.fld (OKeep.fld ((((OKeep.fld F6_head K7 (oninS (slot_ne (Or.inl (ow hw 170 rfl)) (Or.inl (ow hw 98 rfl)) (by decide) (t := .int) (t' := (.array (.object "java/lang/Object"))) (by decide) (by decide)) onin0)).other W10 (Or.inl (Ne.symm ne8))).other W12 (Or.inl (Ne.symm ne8))).other W14 (Or.inl (Ne.symm ne8))) K15 onin0) K25 (oninA ne36 (oninA ne36 onin0)))
  have F38 : Fld Z T25.heap b6 "java/util/ArrayDeque" "tail" "I" (.int (0 : Int32)) := (OKeep.fld (OKeep.fld ((((OKeep.fld F6_tail K7 (oninS (slot_ne (Or.inl (ow hw 172 rfl)) (Or.inl (ow hw 98 rfl)) (by decide) (t := .int) (t' := (.array (.object "java/lang/Object"))) (by decide) (by decide)) onin0)).other W10 (Or.inl (Ne.symm ne8))).other W12 (Or.inl (Ne.symm ne8))).other W14 (Or.inl (Ne.symm ne8))) K15 onin0) K25 (oninA ne36 (oninA ne36 onin0)))
  have F39 : Fld Z T25.heap b6 "java/util/ArrayDeque" "elements" "[Ljava/lang/Object;" (.ref b3_7) := (OKeep.fld (OKeep.fld (((Fo7_0.other W10 (Or.inl (Ne.symm ne8))).other W12 (Or.inl (Ne.symm ne8))).other W14 (Or.inl (Ne.symm ne8))) K15 onin0) K25 (oninA ne36 (oninA ne36 onin0)))
  have ne40 : a1 ≠ b3_7 := (Nat.ne_of_lt (Nat.lt_of_lt_of_le (Nat.lt_of_lt_of_le F_demands_a1.lt E6.1) szb3_7_7))
  have ne41 : b3_7 ≠ b2_15 := (Nat.ne_of_lt (Nat.lt_of_lt_of_le (Nat.lt_of_lt_of_le (Nat.lt_of_lt_of_le (Nat.lt_of_lt_of_le Fo7_1.lt (Keep.of_wr W10).1) (Keep.of_wr W12).1) (Keep.of_wr W14).1) szb2_15_15))
  have F42 : Arv Z T25.heap b3_7 k3_7 (.object "java/lang/Object") (17 : Int32) [.null, .null, .null, .null, .null, .null, .null, .null, .null, .null, .null, .null, .null, .null, .null, .null, .null] .null := (OKeep.arv (OKeep.arv (((Fo7_2.other W10 (Ne.symm ne40)).other W12 (Ne.symm ne40)).other W14 (Ne.symm ne40)) K15 oall0) K25 (oallS ne41 (oallS ne41 oall0)))
  obtain ⟨cq33, q33, q33'⟩ := (OKeep.exa (OKeep.exa ((((OKeep.exa (E_a1.ext E6) K7).wr W10).wr W12).wr W14) K15) K25).cell
  obtain ⟨_, _, ⟨T33, L33, k33, n33⟩, -, X33, ⟨Lc33, hQ33, l33, y33, z33⟩, st33⟩ := X31.privateBack hx (y := (⟨"com/example/restrained_scaler/restrainedscaler/decision/StabilizationWindow", "keep", "(Lcom/example/restrained_scaler/restrainedscaler/decision/Decider$Demand;)V"⟩ : MethodName)) hown (mvT hZ (ow hw 156 rfl)) (mvT hZ (ow hw 157 rfl)) (osel hZ (ow hw 82 rfl) (ow hw 157 rfl) (ow hw 158 rfl) (by decide)) (Cond.privateMethod_at (mvP hZ (ow hw 158 rfl) (args := #[]))) (mvT hZ (ow hw 159 rfl)) (by decide) (backOf (W := 0) (rm19 l Z a0 hw [] G a1 a23 b6 b3_7 k3_7 T25.heap n0 O25 F35 (OKeep.exa (OKeep.exa ((((OKeep.exa A6 K7).wr W10).wr W12).wr W14) K15) K25) F37 F38 F39 F42 Fo7_3 g_b3_7 (OKeep.exa (OKeep.exa ((((OKeep.exa (E_a23.ext E6) K7).wr W10).wr W12).wr W14) K15) K25) ne32 g_b6) hZ (ow hw 159 rfl) (ow hw 83 rfl) (by decide) (by decide)) (g := (mkF m 59 #[.val (.ref a1), .val (.long q2), .second, .val (.ref w_HIGHEST), .val (.ref a4), .val (.ref b2_15), .val (.ref a23)] [(.ref a23), (.ref a1)])) rfl (by rw [hml]; rfl) (Steps.refl _) (a := a1) (by rw [e31]; exact q33) q33' (argsL := [(.ref a23)]) (rest := []) (lenOf pd_9 rfl) rfl (by show 2 * 0 + _ ≤ _; exact Nat.le_of_eq rfl) (hb hby d12_59) (fun _ _ => ⟨rfl, e31, (by decide : 3 + 0 ≤ _), (by decide : 24 + 0 ≤ _)⟩)
  dsimp only [Pt.U, Pt.locs, Pt.cells, Pt.slots] at X33 l33 y33 z33 st33 hQ33
  subst l33 y33 z33
  obtain ⟨N33q, rfl, K33, Fo33_0, Fo33_1⟩ := hQ33
  have Kc33 := Kc25.trans K33 (oinS (Or.inr sz_b6) (oinS (Or.inr sz_b3_7) oin0))
  have O33 := OKeep.old O25 K33 (ogeS g_b6 (ogeS g_b3_7 oge0))
  have N33 := Fr.app N25 N33q
  refine OGot.on st33 ?_
  refine OGot.go (fun t k => XS.goto X33.here hx rfl (pc0 := 62) (pc' := 34) rfl (hb hby d12_62) (by decide) (by decide) k) ?_
  refine OGot.go (fun t k => XS.aload X33.here hx rfl (hb hby d12_34) rfl rfl k) ?_
  have F44 : Fld Z T33.heap b2_15 "java/util/ArrayList$Itr" "cursor" "I" (.int (1 : Int32)) := (OKeep.fld Fo25_0 K33 (oninA (Ne.symm ne36) (oninA (Ne.symm ne41) onin0)))
  have F45 : Fld Z T33.heap b2_15 "java/util/ArrayList$Itr" "this$0" "Ljava/util/ArrayList;" (.ref a4) := (OKeep.fld (OKeep.fld Fo15_4 K25 (oninS (slot_ne (Or.inr (ow hw 121 rfl)) (Or.inl (ow hw 138 rfl)) (by decide) (t := (.object "java/util/ArrayList")) (t' := .int) (by decide) (by decide)) (oninS (slot_ne (Or.inr (ow hw 121 rfl)) (Or.inl (ow hw 124 rfl)) (by decide) (t := (.object "java/util/ArrayList")) (t' := .int) (by decide) (by decide)) onin0))) K33 (oninA (Ne.symm ne36) (oninA (Ne.symm ne41) onin0)))
  have ne46 : a4 ≠ b2_15 := (Nat.ne_of_lt (Nat.lt_of_lt_of_le (Nat.lt_of_lt_of_le (Nat.lt_of_lt_of_le (Nat.lt_of_lt_of_le (Nat.lt_of_lt_of_le (Nat.lt_of_lt_of_le F_modCount_a4.lt E6.1) K7.1) (Keep.of_wr W10).1) (Keep.of_wr W12).1) (Keep.of_wr W14).1) szb2_15_15))
  have ne47 : a4 ≠ b3_7 := (Nat.ne_of_lt (Nat.lt_of_lt_of_le (Nat.lt_of_lt_of_le F_modCount_a4.lt E6.1) szb3_7_7))
  have F48 : Fld Z T33.heap a4 "java/util/ArrayList" "size" "I" (.int (1 : Int32)) := (OKeep.fld (OKeep.fld F20 K25 (oninA ne46 (oninA ne46 onin0))) K33 (oninA ne16 (oninA ne47 onin0)))
  obtain ⟨cq43, kq43, q43a, q43b, q43c⟩ := isOf hZ rfl (OKeep.exa (OKeep.exa Fo15_0 K25) K33)
  obtain ⟨_, _, ⟨T43, L43, k43, n43⟩, -, X43, ⟨Lc43, hQ43, l43, y43, z43⟩, st43⟩ := X33.interfaceBack hx (xi := (⟨"java/util/Iterator", "hasNext", "()Z"⟩ : MethodName)) (y := (⟨"java/util/ArrayList$Itr", "hasNext", "()Z"⟩ : MethodName)) hown (mvT hZ (ow hw 128 rfl)) (mvT hZ (ow hw 129 rfl)) (mvT hZ (ow hw 130 rfl)) (mvT hZ (ow hw 131 rfl)) (mvT hZ (ow hw 132 rfl)) (mvT hZ (ow hw 133 rfl)) (mvT hZ (ow hw 134 rfl)) (mvT hZ (ow hw 135 rfl)) (by decide) (backOf (W := 0) (rm16_1 l Z a0 hw [] G b2_15 a4 T33.heap n0 O33 F44 F45 F48) hZ (ow hw 136 rfl) (ow hw 115 rfl) (by decide) (by decide)) q43a q43b q43c (g := (mkF m 36 #[.val (.ref a1), .val (.long q2), .second, .val (.ref w_HIGHEST), .val (.ref a4), .val (.ref b2_15), .val (.ref a23)] [(.ref b2_15)])) rfl (by rw [hml]; rfl) (Steps.refl _) (argsL := []) (rest := []) (lenOf pd_0 rfl) rfl (by show 2 * 0 + _ ≤ _; exact Nat.le_of_eq rfl) (hb hby d12_36) (fun _ _ => ⟨rfl, rfl, (by decide : 3 + 0 ≤ _), (by decide : 24 + 0 ≤ _)⟩)
  dsimp only [Pt.U, Pt.locs, Pt.cells, Pt.slots] at X43 l43 y43 z43 st43 hQ43
  subst l43 y43 z43
  obtain ⟨rfl, N43q, e43⟩ := hQ43
  have N43 := Fr.app N33 N43q
  refine OGot.on st43 ?_
  refine OGot.go (fun t k => XS.ifYes X43.here hx rfl (pc0 := 41) (pc' := 65) rfl (hb hby d12_41) rfl (by decide) (by decide) (by decide) k) ?_
  show OGot p.tables e below (T43.setTop (mkF m 65 #[.val (.ref a1), .val (.long q2), .second, .val (.ref w_HIGHEST), .val (.ref a4), .val (.ref b2_15), .val (.ref a23)] [])) _
  obtain ⟨fs, hr, hrun, hended, hW, hsame⟩ := X43.leave (v := none) (fun _ => rfl)
  refine ⟨_, _, X43.returnOut hx Bd.returns (hb hby d12_65) hr, hrun, hended, _, _, rfl, ?_, ⟨_, rfl⟩, hW, hsame.mono (by decide) (by decide)⟩
  have F49 : Fld Z T33.heap a1 "com/example/restrained_scaler/restrainedscaler/decision/StabilizationWindow" "demands" "Ljava/util/Deque;" (.ref b6) := (OKeep.fld F35 K33 (oninA ne8 (oninA ne40 onin0)))
  have F50 : Fld Z T33.heap a1 "com/example/restrained_scaler/restrainedscaler/decision/StabilizationWindow" "seconds" "J" (.long q2) := (OKeep.fld (OKeep.fld (OKeep.fld (Fw12.other W14 (Or.inr (slot_ne (Or.inr (ow hw 102 rfl)) (Or.inr (ow hw 104 rfl)) (by decide) (t := .long) (t' := (.object "com/example/restrained_scaler/restrainedscaler/decision/StabilizationWindow$Kept")) (by decide) (by decide)))) K15 onin0) K25 (oninA ne34 (oninA ne34 onin0))) K33 (oninA ne8 (oninA ne40 onin0)))
  have F51 : Fld Z T33.heap a1 "com/example/restrained_scaler/restrainedscaler/decision/StabilizationWindow" "kept" "Lcom/example/restrained_scaler/restrainedscaler/decision/StabilizationWindow$Kept;" (.ref w_HIGHEST) := (OKeep.fld (OKeep.fld (OKeep.fld Fw14 K15 onin0) K25 (oninA ne34 (oninA ne34 onin0))) K33 (oninA ne8 (oninA ne40 onin0)))
  have F52 : Fld Z T33.heap b6 "java/util/ArrayDeque" "elements" "[Ljava/lang/Object;" (.ref b3_7) := (OKeep.fld F39 K33 (oninS (slot_ne (Or.inl (ow hw 98 rfl)) (Or.inl (ow hw 172 rfl)) (by decide) (t := (.array (.object "java/lang/Object"))) (t' := .int) (by decide) (by decide)) (oninA ne32 onin0)))
  have F53 : Fld Z T33.heap b6 "java/util/ArrayDeque" "head" "I" (.int (0 : Int32)) := (OKeep.fld F37 K33 (oninS (slot_ne (Or.inl (ow hw 170 rfl)) (Or.inl (ow hw 172 rfl)) (by decide) (t := .int) (t' := .int) (by decide) (by decide)) (oninA ne32 onin0)))
  show Q12_1 Z w_LOWEST w_HIGHEST w_EMPTY_ELEMENTDATA w_DEFAULTCAPACITY_EMPTY_ELEMENTDATA k_w_EMPTY_ELEMENTDATA k_w_DEFAULTCAPACITY_EMPTY_ELEMENTDATA a1 q2 a4 a21 k22 a23 h0 n0 _ T43.heap _
  rw [e43]
  exact ⟨N43, b6, b3_7, k3_7, rfl, sz_b6, sz_b3_7, ne32, Kc33, F49, F50, F51, (OKeep.exa (OKeep.exa (OKeep.exa ((((OKeep.exa A6 K7).wr W10).wr W12).wr W14) K15) K25) K33), F52, F53, Fo33_0, (OKeep.exa (OKeep.exa (OKeep.exa (((Fo7_1.wr W10).wr W12).wr W14) K15) K25) K33), Fo33_1, Fo7_3⟩
theorem d32_10 : decode method_3_code 10 = .ok (.lload_n 1, 1) := by decide +kernel
theorem d32_11 : decode method_3_code 11 = .ok (.lload 4, 2) := by decide +kernel
theorem d32_13 : decode method_3_code 13 = .ok (.invokestatic 51, 3) := by decide +kernel
theorem d38_0 : decode jdk_29_method_66_code 0 = .ok (.lload_n 0, 1) := by decide +kernel
theorem d38_1 : decode jdk_29_method_66_code 1 = .ok (.lload_n 2, 1) := by decide +kernel
theorem d38_2 : decode jdk_29_method_66_code 2 = .ok (.lcmp, 1) := by decide +kernel
theorem d38_3 : decode jdk_29_method_66_code 3 = .ok (.ifCond .lt 7, 3) := by decide +kernel
theorem d38_10 : decode jdk_29_method_66_code 10 = .ok (.lload_n 2, 1) := by decide +kernel
theorem d38_11 : decode jdk_29_method_66_code 11 = .ok (.lreturn, 1) := by decide +kernel
theorem d38_6 : decode jdk_29_method_66_code 6 = .ok (.lload_n 0, 1) := by decide +kernel
theorem d38_7 : decode jdk_29_method_66_code 7 = .ok (.goto 4, 3) := by decide +kernel
def f38 (q1 : Int64) (q2 : Int64) : Int64 := (if q1 < q2 then q2 else q1)
def Q38 (Z : State) (w_LOWEST : Addr) (w_HIGHEST : Addr) (w_EMPTY_ELEMENTDATA : Addr) (w_DEFAULTCAPACITY_EMPTY_ELEMENTDATA : Addr) (k_w_EMPTY_ELEMENTDATA : ClassId) (k_w_DEFAULTCAPACITY_EMPTY_ELEMENTDATA : ClassId) (q1 : Int64) (q2 : Int64) (h0 : Heap) (n0 : Nat) (v : Option Value) (h : Heap) (L : List Loc) : Prop := v = some (.long (f38 q1 q2)) ∧ Fr n0 L ∧ h = h0
theorem ef38 (m : MethodId) (x0 : Int64) (x1 : Int64) : entryFrame m #[(.long x0), (.long x1)] 4 = mkF m 0 #[.val (.long x0), .second, .val (.long x1), .second] [] := by first | (simp [entryFrame, mkF, argsToLocals, Value.category]; done) | rfl
set_option maxRecDepth 65536 in
set_option maxHeartbeats 40000000 in
theorem rm38 (l : Launch) (Z : State) (a0 : Array Value) (hw : ∀ d ∈ tables_1, d.before a0 Z = true) (ws : List Jvm.Cond) {w_LOWEST : Addr} {w_HIGHEST : Addr} {w_EMPTY_ELEMENTDATA : Addr} {w_DEFAULTCAPACITY_EMPTY_ELEMENTDATA : Addr} {k_w_EMPTY_ELEMENTDATA : ClassId} {k_w_DEFAULTCAPACITY_EMPTY_ELEMENTDATA : ClassId} (G : Glob Z w_LOWEST w_HIGHEST w_EMPTY_ELEMENTDATA w_DEFAULTCAPACITY_EMPTY_ELEMENTDATA k_w_EMPTY_ELEMENTDATA k_w_DEFAULTCAPACITY_EMPTY_ELEMENTDATA) (q1 : Int64) (q2 : Int64) (h0 : Heap) (n0 : Nat) (O0 : Old Z n0 h0) :
    MetFree l (⟨"java/lang/Math", "max", "(JJ)J"⟩ : MethodName) (head1 (Jvm.Cond.code (⟨"java/lang/Math", "max", "(JJ)J"⟩ : MethodName) jdk_29_method_66_code 4 (some .long) :: ws) ({ frames := 0, cells := 0, slots := 0, locals := 0 } : Room)) (fun a U => a = #[(.long q1), (.long q2)] ∧ Z.Warmed39 U.vm ∧ U.heap = h0) (fun _ _ _ _ _ => True) (fun _ U o U' => ∃ v L, o = .returned v ∧ Q38 Z w_LOWEST w_HIGHEST w_EMPTY_ELEMENTDATA w_DEFAULTCAPACITY_EMPTY_ELEMENTDATA k_w_EMPTY_ELEMENTDATA k_w_DEFAULTCAPACITY_EMPTY_ELEMENTDATA q1 q2 h0 n0 v U'.heap L ∧ FrameEnd U o U' L ({ frames := 0, cells := 0, slots := 0, locals := 0 } : Room).cells ({ frames := 0, cells := 0, slots := 0, locals := 0 } : Room).slots) := by
  refine MetFree.of_bodySF (Jvm.Free.JP.mathPlain rfl (by decide +kernel)) hisR ?_
  intro p e s m args below meth c s₁ Bd hml0 hP hK
  obtain ⟨rfl, hZ, hh⟩ := hP
  have hx := Bd.exec
  have hby := Bd.bytes
  have hml : c.maxLocals = 4 := hml0
  have hown : s.vm.findClass "java/lang/Math" = some m.cls := findClass_of_methodNamed Bd.named
  have hnm := (name_of_methodNamed Bd.named Bd.method).1
  have X0 : Stand p l e ({ frames := 0, cells := 0, slots := 0, locals := 0 } : Room) s m #[(.long q1), (.long q2)] below meth c s₁ [] 0 0 := Stand.of_body Bd
  have e0 : s₁.heap = h0 := by rw [← hh, Bd.state]; rfl
  have N0 := Fr.nil n0
  show OGot p.tables e below (s₁.setTop (entryFrame m #[(.long q1), (.long q2)] 4)) _
  refine OGot.go (fun t k => castTop (ef38 m q1 q2) k) ?_
  show OGot p.tables e below (s₁.setTop (mkF m 0 #[.val (.long q1), .second, .val (.long q2), .second] [])) _
  refine OGot.go (fun t k => XS.lloadN X0.here hx rfl (hb hby d38_0) rfl k) ?_
  refine OGot.go (fun t k => XS.lloadN X0.here hx rfl (hb hby d38_1) rfl k) ?_
  refine OGot.go (fun t k => XS.lcmp X0.here hx rfl (hb hby d38_2) rfl k) ?_
  show OGot p.tables e below (s₁.setTop (mkF m 3 #[.val (.long q1), .second, .val (.long q2), .second] [(.int (lcmpW q1 q2))])) _
  by_cases hs3 : q1 < q2
  · refine OGot.go (fun t k => XS.ifYes X0.here hx rfl (pc0 := 3) (pc' := 10) rfl (hb hby d38_3) rfl ((if0 _ _).trans (tlt ((lw_lt q1 q2).mpr hs3)).1) (by decide) (by decide) k) ?_
    refine OGot.go (fun t k => XS.lloadN X0.here hx rfl (hb hby d38_10) rfl k) ?_
    show OGot p.tables e below (s₁.setTop (mkF m 11 #[.val (.long q1), .second, .val (.long q2), .second] [(.long q2)])) _
    obtain ⟨fs, hr, hrun, hended, hW, hsame⟩ := X0.leave (v := some (.long q2)) (fun h => by rw [Bd.returns] at h; cases h)
    refine ⟨_, _, oretJ X0 hx Bd.returns (hb hby d38_11) hr, hrun, hended, _, _, rfl, ?_, ⟨_, rfl⟩, hW, hsame.mono (by decide) (by decide)⟩
    exact (⟨(by unfold f38; rw [if_pos hs3]), N0, e0⟩ : Q38 Z w_LOWEST w_HIGHEST w_EMPTY_ELEMENTDATA w_DEFAULTCAPACITY_EMPTY_ELEMENTDATA k_w_EMPTY_ELEMENTDATA k_w_DEFAULTCAPACITY_EMPTY_ELEMENTDATA q1 q2 h0 n0 _ s₁.heap _)
  · refine OGot.go (fun t k => XS.ifNo X0.here hx rfl (hb hby d38_3) rfl ((if0 _ _).trans (flt (fun q => hs3 ((lw_lt q1 q2).mp q))).1) k) ?_
    refine OGot.go (fun t k => XS.lloadN X0.here hx rfl (hb hby d38_6) rfl k) ?_
    refine OGot.go (fun t k => XS.goto X0.here hx rfl (pc0 := 7) (pc' := 11) rfl (hb hby d38_7) (by decide) (by decide) k) ?_
    show OGot p.tables e below (s₁.setTop (mkF m 11 #[.val (.long q1), .second, .val (.long q2), .second] [(.long q1)])) _
    obtain ⟨fs, hr, hrun, hended, hW, hsame⟩ := X0.leave (v := some (.long q1)) (fun h => by rw [Bd.returns] at h; cases h)
    refine ⟨_, _, oretJ X0 hx Bd.returns (hb hby d38_11) hr, hrun, hended, _, _, rfl, ?_, ⟨_, rfl⟩, hW, hsame.mono (by decide) (by decide)⟩
    exact (⟨(by unfold f38; rw [if_neg hs3]), N0, e0⟩ : Q38 Z w_LOWEST w_HIGHEST w_EMPTY_ELEMENTDATA w_DEFAULTCAPACITY_EMPTY_ELEMENTDATA k_w_EMPTY_ELEMENTDATA k_w_DEFAULTCAPACITY_EMPTY_ELEMENTDATA q1 q2 h0 n0 _ s₁.heap _)
theorem d32_16 : decode method_3_code 16 = .ok (.lreturn, 1) := by decide +kernel
def f32_1 (q1 : Int64) (p2 : Int32) (q3 : Int64) : Int64 := (if p2 = (0 : Int32) then q1 else (f38 q1 q3))
def Q32_1 (Z : State) (w_LOWEST : Addr) (w_HIGHEST : Addr) (w_EMPTY_ELEMENTDATA : Addr) (w_DEFAULTCAPACITY_EMPTY_ELEMENTDATA : Addr) (k_w_EMPTY_ELEMENTDATA : ClassId) (k_w_DEFAULTCAPACITY_EMPTY_ELEMENTDATA : ClassId) (q1 : Int64) (p2 : Int32) (q3 : Int64) (h0 : Heap) (n0 : Nat) (v : Option Value) (h : Heap) (L : List Loc) : Prop := v = some (.long (f32_1 q1 p2 q3)) ∧ Fr n0 L ∧ h = h0
theorem ef32_1 (m : MethodId) (x1 : Int64) (x2 : Int32) (x3 : Int64) : entryFrame m #[(.int (1 : Int32)), (.long x1), (.int x2), (.long x3)] 6 = mkF m 0 #[.val (.int (1 : Int32)), .val (.long x1), .second, .val (.int x2), .val (.long x3), .second] [] := by first | (simp [entryFrame, mkF, argsToLocals, Value.category]; done) | rfl
set_option maxRecDepth 65536 in
set_option maxHeartbeats 40000000 in
theorem rm32_1 (l : Launch) (Z : State) (a0 : Array Value) (hw : ∀ d ∈ tables_1, d.before a0 Z = true) (ws : List Jvm.Cond) {w_LOWEST : Addr} {w_HIGHEST : Addr} {w_EMPTY_ELEMENTDATA : Addr} {w_DEFAULTCAPACITY_EMPTY_ELEMENTDATA : Addr} {k_w_EMPTY_ELEMENTDATA : ClassId} {k_w_DEFAULTCAPACITY_EMPTY_ELEMENTDATA : ClassId} (G : Glob Z w_LOWEST w_HIGHEST w_EMPTY_ELEMENTDATA w_DEFAULTCAPACITY_EMPTY_ELEMENTDATA k_w_EMPTY_ELEMENTDATA k_w_DEFAULTCAPACITY_EMPTY_ELEMENTDATA) (q1 : Int64) (p2 : Int32) (q3 : Int64) (h0 : Heap) (n0 : Nat) (O0 : Old Z n0 h0) :
    MetFree l (⟨"com/example/restrained_scaler/restrainedscaler/decision/StabilizationWindowDemandPinLaw", "fold", "(ZJZJ)J"⟩ : MethodName) (head1 (Jvm.Cond.code (⟨"com/example/restrained_scaler/restrainedscaler/decision/StabilizationWindowDemandPinLaw", "fold", "(ZJZJ)J"⟩ : MethodName) method_3_code 6 (some .long) :: ws) ({ frames := 1, cells := 0, slots := 0, locals := 15 } : Room)) (fun a U => a = #[(.int (1 : Int32)), (.long q1), (.int p2), (.long q3)] ∧ Z.Warmed39 U.vm ∧ U.heap = h0) (fun _ _ _ _ _ => True) (fun _ U o U' => ∃ v L, o = .returned v ∧ Q32_1 Z w_LOWEST w_HIGHEST w_EMPTY_ELEMENTDATA w_DEFAULTCAPACITY_EMPTY_ELEMENTDATA k_w_EMPTY_ELEMENTDATA k_w_DEFAULTCAPACITY_EMPTY_ELEMENTDATA q1 p2 q3 h0 n0 v U'.heap L ∧ FrameEnd U o U' L ({ frames := 1, cells := 0, slots := 0, locals := 15 } : Room).cells ({ frames := 1, cells := 0, slots := 0, locals := 15 } : Room).slots) := by
  refine MetFree.of_bodySF (plainFor_of_name pn_com_example_restrained_scaler_restrainedscaler_decision_StabilizationWindowDemandPinLaw) hisR ?_
  intro p e s m args below meth c s₁ Bd hml0 hP hK
  obtain ⟨rfl, hZ, hh⟩ := hP
  have hx := Bd.exec
  have hby := Bd.bytes
  have hml : c.maxLocals = 6 := hml0
  have hown : s.vm.findClass "com/example/restrained_scaler/restrainedscaler/decision/StabilizationWindowDemandPinLaw" = some m.cls := findClass_of_methodNamed Bd.named
  have hnm := (name_of_methodNamed Bd.named Bd.method).1
  have X0 : Stand p l e ({ frames := 1, cells := 0, slots := 0, locals := 15 } : Room) s m #[(.int (1 : Int32)), (.long q1), (.int p2), (.long q3)] below meth c s₁ [] 0 0 := Stand.of_body Bd
  have e0 : s₁.heap = h0 := by rw [← hh, Bd.state]; rfl
  have N0 := Fr.nil n0
  show OGot p.tables e below (s₁.setTop (entryFrame m #[(.int (1 : Int32)), (.long q1), (.int p2), (.long q3)] 6)) _
  refine OGot.go (fun t k => castTop (ef32_1 m q1 p2 q3) k) ?_
  show OGot p.tables e below (s₁.setTop (mkF m 0 #[.val (.int (1 : Int32)), .val (.long q1), .second, .val (.int p2), .val (.long q3), .second] [])) _
  refine OGot.go (fun t k => XS.iloadN X0.here hx rfl (hb hby d32_0) rfl k) ?_
  show OGot p.tables e below (s₁.setTop (mkF m 1 #[.val (.int (1 : Int32)), .val (.long q1), .second, .val (.int p2), .val (.long q3), .second] [(.int p2)])) _
  by_cases hs4 : p2 = (0 : Int32)
  · refine OGot.go (fun t k => XS.ifNo X0.here hx rfl (hb hby d32_1) rfl ((if0 _ _).trans (teq hs4).2) k) ?_
    refine OGot.go (fun t k => XS.lloadN X0.here hx rfl (hb hby d32_4) rfl k) ?_
    show OGot p.tables e below (s₁.setTop (mkF m 5 #[.val (.int (1 : Int32)), .val (.long q1), .second, .val (.int p2), .val (.long q3), .second] [(.long q1)])) _
    obtain ⟨fs, hr, hrun, hended, hW, hsame⟩ := X0.leave (v := some (.long q1)) (fun h => by rw [Bd.returns] at h; cases h)
    refine ⟨_, _, oretJ X0 hx Bd.returns (hb hby d32_5) hr, hrun, hended, _, _, rfl, ?_, ⟨_, rfl⟩, hW, hsame.mono (by decide) (by decide)⟩
    exact (⟨(by unfold f32_1; rw [if_pos hs4]), N0, e0⟩ : Q32_1 Z w_LOWEST w_HIGHEST w_EMPTY_ELEMENTDATA w_DEFAULTCAPACITY_EMPTY_ELEMENTDATA k_w_EMPTY_ELEMENTDATA k_w_DEFAULTCAPACITY_EMPTY_ELEMENTDATA q1 p2 q3 h0 n0 _ s₁.heap _)
  · refine OGot.go (fun t k => XS.ifYes X0.here hx rfl (pc0 := 1) (pc' := 6) rfl (hb hby d32_1) rfl ((if0 _ _).trans (feq hs4).2) (by decide) (by decide) k) ?_
    refine OGot.go (fun t k => XS.iloadN X0.here hx rfl (hb hby d32_6) rfl k) ?_
    refine OGot.go (fun t k => XS.ifNo X0.here hx rfl (hb hby d32_7) rfl (by decide) k) ?_
    refine OGot.go (fun t k => XS.lloadN X0.here hx rfl (hb hby d32_10) rfl k) ?_
    refine OGot.go (fun t k => XS.lload X0.here hx rfl (hb hby d32_11) rfl k) ?_
    obtain ⟨_, _, ⟨T5, L5, k5, n5⟩, -, X5, ⟨Lc5, hQ5, l5, y5, z5⟩, st5⟩ := Jvm.LawKit.callS X0 hx (y := (⟨"java/lang/Math", "max", "(JJ)J"⟩ : MethodName)) hown (mvT hZ (ow hw 272 rfl)) (mvT hZ (ow hw 273 rfl)) (mvT hZ (ow hw 76 rfl)) (mvT hZ (ow hw 274 rfl)) (by decide) (backOf (W := 0) (rm38 l Z a0 hw [] G q1 q3 h0 n0 O0 ) hZ (ow hw 274 rfl) (ow hw 76 rfl) (by decide) (by decide)) (g := (mkF m 13 #[.val (.int (1 : Int32)), .val (.long q1), .second, .val (.int p2), .val (.long q3), .second] [(.long q3), (.long q1)])) rfl (by rw [hml]; rfl) (argsL := [(.long q1), (.long q3)]) (rest := []) (lenOf pd_17 rfl) rfl (by show 2 * 0 + _ ≤ _; exact Nat.le_of_eq rfl) (hb hby d32_13) (fun _ _ => ⟨rfl, e0, (by decide : 0 + 0 ≤ _), (by decide : 0 + 0 ≤ _)⟩)
    dsimp only [Pt.U, Pt.locs, Pt.cells, Pt.slots] at X5 l5 y5 z5 st5 hQ5
    subst l5 y5 z5
    obtain ⟨rfl, N5q, e5⟩ := hQ5
    have N5 := Fr.app N0 N5q
    refine OGot.go st5 ?_
    show OGot p.tables e below (T5.setTop (mkF m 16 #[.val (.int (1 : Int32)), .val (.long q1), .second, .val (.int p2), .val (.long q3), .second] [(.long (f38 q1 q3))])) _
    obtain ⟨fs, hr, hrun, hended, hW, hsame⟩ := X5.leave (v := some (.long (f38 q1 q3))) (fun h => by rw [Bd.returns] at h; cases h)
    refine ⟨_, _, oretJ X5 hx Bd.returns (hb hby d32_16) hr, hrun, hended, _, _, rfl, ?_, ⟨_, rfl⟩, hW, hsame.mono (by decide) (by decide)⟩
    exact (⟨(by unfold f32_1; rw [if_neg hs4]), N5, e5⟩ : Q32_1 Z w_LOWEST w_HIGHEST w_EMPTY_ELEMENTDATA w_DEFAULTCAPACITY_EMPTY_ELEMENTDATA k_w_EMPTY_ELEMENTDATA k_w_DEFAULTCAPACITY_EMPTY_ELEMENTDATA q1 p2 q3 h0 n0 _ T5.heap _)
theorem own_fH {P : Prop} [Decidable P] (a b : Int64) : (P ∧ a.toInt < b.toInt ∧ (f32_1 a (if P then (1 : Int32) else (0 : Int32)) b).toInt = b.toInt) ∨ (P ∧ ¬ a.toInt < b.toInt ∧ (f32_1 a (if P then (1 : Int32) else (0 : Int32)) b).toInt = a.toInt) ∨ (¬ P ∧ (f32_1 a (if P then (1 : Int32) else (0 : Int32)) b).toInt = a.toInt) := by
  unfold f32_1 f38
  by_cases p : P <;> by_cases q : a < b <;> simp [p, Int64.lt_iff_toInt_lt.mpr, q, Int64.lt_iff_toInt_lt] <;> simp_all [Int64.lt_iff_toInt_lt]
theorem own_m1H {w_HIGHEST : Addr} {d0 d1 d2 d3 : Addr} {t0 t1 t2 t3 s e0 e1 e2 e3 : Int64} {M1 M2 M3 : List (Addr × Int64 × Int64)} (h : M1 = popB w_HIGHEST w_HIGHEST e1 (dropF (t1 - s) [(d0, t0, e0)]) ++ [(d1, t1, e1)]) : (t1 - s < t0 ∧ e1 < e0 ∧ M1 = [(d0, t0, e0), (d1, t1, e1)]) ∨ ((¬ t1 - s < t0 ∨ ¬ e1 < e0) ∧ M1 = [(d1, t1, e1)]) := by
  subst h
  by_cases a : t1 - s < t0 <;> by_cases b : e1 < e0 <;> simp [dropF, popB, f35, a, b]
theorem own_a1H {w_HIGHEST : Addr} {d d' : Addr} {t t' s e e' : Int64} {M : List (Addr × Int64 × Int64)} (h : M = popB w_HIGHEST w_HIGHEST e' (dropF (t' - s) [(d, t, e)]) ++ [(d', t', e')]) : (t' - s < t ∧ e' < e ∧ M = [(d, t, e), (d', t', e')]) ∨ ((¬ t' - s < t ∨ ¬ e' < e) ∧ M = [(d', t', e')]) := by
  subst h
  by_cases a : t' - s < t <;> by_cases b : e' < e <;> simp [dropF, popB, f35, a, b]
theorem own_a2H {w_HIGHEST : Addr} {d d1 d' : Addr} {t t1 t' s e e1 e' : Int64} {M : List (Addr × Int64 × Int64)} (h : M = popB w_HIGHEST w_HIGHEST e' (dropF (t' - s) [(d, t, e), (d1, t1, e1)]) ++ [(d', t', e')]) : (t' - s < t ∧ e' < e1 ∧ M = [(d, t, e), (d1, t1, e1), (d', t', e')]) ∨ (t' - s < t ∧ ¬ e' < e1 ∧ e' < e ∧ M = [(d, t, e), (d', t', e')]) ∨ (¬ t' - s < t ∧ t' - s < t1 ∧ e' < e1 ∧ M = [(d1, t1, e1), (d', t', e')]) ∨ (((t' - s < t ∧ ¬ e' < e1 ∧ ¬ e' < e) ∨ (¬ t' - s < t ∧ (¬ t' - s < t1 ∨ ¬ e' < e1))) ∧ M = [(d', t', e')]) := by
  subst h
  by_cases a : t' - s < t <;> by_cases a1 : t' - s < t1 <;> by_cases b : e' < e <;> by_cases b1 : e' < e1 <;> simp [dropF, popB, f35, a, a1, b, b1]
theorem own_a3H {w_HIGHEST : Addr} {d d1 d2 d' : Addr} {t t1 t2 t' s e e1 e2 e' : Int64} {M : List (Addr × Int64 × Int64)} (h : M = popB w_HIGHEST w_HIGHEST e' (dropF (t' - s) [(d, t, e), (d1, t1, e1), (d2, t2, e2)]) ++ [(d', t', e')]) : (t' - s < t ∧ (e' < e ∨ e' < e1 ∨ e' < e2) ∧ dem M = e) ∨ (¬ t' - s < t ∧ t' - s < t1 ∧ (e' < e1 ∨ e' < e2) ∧ dem M = e1) ∨ (¬ t' - s < t ∧ ¬ t' - s < t1 ∧ t' - s < t2 ∧ e' < e2 ∧ dem M = e2) ∨ (((t' - s < t ∧ ¬ e' < e ∧ ¬ e' < e1 ∧ ¬ e' < e2) ∨ (¬ t' - s < t ∧ t' - s < t1 ∧ ¬ e' < e1 ∧ ¬ e' < e2) ∨ (¬ t' - s < t ∧ ¬ t' - s < t1 ∧ (¬ t' - s < t2 ∨ ¬ e' < e2))) ∧ dem M = e') := by
  subst h
  by_cases a : t' - s < t <;> by_cases a1 : t' - s < t1 <;> by_cases a2 : t' - s < t2 <;> by_cases b : e' < e <;> by_cases b1 : e' < e1 <;> by_cases b2 : e' < e2 <;> simp [dropF, popB, f35, dem, a, a1, a2, b, b1, b2]
theorem own_r1H {w_HIGHEST : Addr} {d0 d1 : Addr} {t0 t1 t2 t3 s e0 e1 : Int64} {M1 : List (Addr × Int64 × Int64)} (o : OTimes t0 t1 t2 t3 s) (h1 : M1 = popB w_HIGHEST w_HIGHEST e1 (dropF (t1 - s) [(d0, t0, e0)]) ++ [(d1, t1, e1)]) : dem M1 = (f32_1 e1 (if (t1 - s) < t0 then (1 : Int32) else (0 : Int32)) e0) := by
  obtain ⟨s1, s2, s3, o1, o2, o3⟩ := o
  apply Int64.toInt_inj.mp
  have f1 := own_fH (P := t1 - s < t0) e1 e0
  generalize (f32_1 e1 (if (t1 - s) < t0 then (1 : Int32) else (0 : Int32)) e0) = c1 at *
  rcases own_a1H h1 with ⟨a, b, rfl⟩ | ⟨a, rfl⟩ <;> (simp only [Int64.lt_iff_toInt_lt, s1, s2, s3, dem] at *; omega)
theorem own_r2H {w_HIGHEST : Addr} {d0 d1 d2 : Addr} {t0 t1 t2 t3 s e0 e1 e2 : Int64} {M1 M2 : List (Addr × Int64 × Int64)} (o : OTimes t0 t1 t2 t3 s) (h1 : M1 = popB w_HIGHEST w_HIGHEST e1 (dropF (t1 - s) [(d0, t0, e0)]) ++ [(d1, t1, e1)]) (h2 : M2 = popB w_HIGHEST w_HIGHEST e2 (dropF (t2 - s) M1) ++ [(d2, t2, e2)]) : dem M2 = (f32_1 (f32_1 e2 (if (t2 - s) < t1 then (1 : Int32) else (0 : Int32)) e1) (if (t2 - s) < t0 then (1 : Int32) else (0 : Int32)) e0) := by
  obtain ⟨s1, s2, s3, o1, o2, o3⟩ := o
  apply Int64.toInt_inj.mp
  have f1 := own_fH (P := t2 - s < t1) e2 e1
  have f2 := own_fH (P := t2 - s < t0) (f32_1 e2 (if (t2 - s) < t1 then (1 : Int32) else (0 : Int32)) e1) e0
  generalize (f32_1 (f32_1 e2 (if (t2 - s) < t1 then (1 : Int32) else (0 : Int32)) e1) (if (t2 - s) < t0 then (1 : Int32) else (0 : Int32)) e0) = c2 at *
  generalize (f32_1 e2 (if (t2 - s) < t1 then (1 : Int32) else (0 : Int32)) e1) = c1 at *
  rcases own_a1H h1 with ⟨a, b, rfl⟩ | ⟨a, rfl⟩
  · rcases own_a2H h2 with ⟨c, d, rfl⟩ | ⟨c, d, e, rfl⟩ | ⟨c, d, e, rfl⟩ | ⟨c, rfl⟩ <;> (simp only [Int64.lt_iff_toInt_lt, s1, s2, s3, dem] at *; omega)
  · rcases own_a1H h2 with ⟨c, d, rfl⟩ | ⟨c, rfl⟩ <;> (simp only [Int64.lt_iff_toInt_lt, s1, s2, s3, dem] at *; omega)
theorem own_r3H {w_HIGHEST : Addr} {d0 d1 d2 d3 : Addr} {t0 t1 t2 t3 s e0 e1 e2 e3 : Int64} {M1 M2 M3 : List (Addr × Int64 × Int64)} (o : OTimes t0 t1 t2 t3 s) (h1 : M1 = popB w_HIGHEST w_HIGHEST e1 (dropF (t1 - s) [(d0, t0, e0)]) ++ [(d1, t1, e1)]) (h2 : M2 = popB w_HIGHEST w_HIGHEST e2 (dropF (t2 - s) M1) ++ [(d2, t2, e2)]) (h3 : M3 = popB w_HIGHEST w_HIGHEST e3 (dropF (t3 - s) M2) ++ [(d3, t3, e3)]) : dem M3 = (f32_1 (f32_1 (f32_1 e3 (if (t3 - s) < t2 then (1 : Int32) else (0 : Int32)) e2) (if (t3 - s) < t1 then (1 : Int32) else (0 : Int32)) e1) (if (t3 - s) < t0 then (1 : Int32) else (0 : Int32)) e0) := by
  obtain ⟨s1, s2, s3, o1, o2, o3⟩ := o
  apply Int64.toInt_inj.mp
  have f1 := own_fH (P := t3 - s < t2) e3 e2
  have f2 := own_fH (P := t3 - s < t1) (f32_1 e3 (if (t3 - s) < t2 then (1 : Int32) else (0 : Int32)) e2) e1
  have f3 := own_fH (P := t3 - s < t0) (f32_1 (f32_1 e3 (if (t3 - s) < t2 then (1 : Int32) else (0 : Int32)) e2) (if (t3 - s) < t1 then (1 : Int32) else (0 : Int32)) e1) e0
  generalize (f32_1 (f32_1 (f32_1 e3 (if (t3 - s) < t2 then (1 : Int32) else (0 : Int32)) e2) (if (t3 - s) < t1 then (1 : Int32) else (0 : Int32)) e1) (if (t3 - s) < t0 then (1 : Int32) else (0 : Int32)) e0) = c3 at *
  generalize (f32_1 (f32_1 e3 (if (t3 - s) < t2 then (1 : Int32) else (0 : Int32)) e2) (if (t3 - s) < t1 then (1 : Int32) else (0 : Int32)) e1) = c2 at *
  generalize (f32_1 e3 (if (t3 - s) < t2 then (1 : Int32) else (0 : Int32)) e2) = c1 at *
  rcases own_a1H h1 with ⟨a, b, rfl⟩ | ⟨a, rfl⟩
  · rcases own_a2H h2 with ⟨c, d, rfl⟩ | ⟨c, d, e, rfl⟩ | ⟨c, d, e, rfl⟩ | ⟨c, rfl⟩
    · rcases own_a3H h3 with ⟨f, g, k⟩ | ⟨f, g, i, k⟩ | ⟨f, g, i, j, k⟩ | ⟨f, k⟩ <;> (rw [k]; simp only [Int64.lt_iff_toInt_lt, s1, s2, s3, dem] at *; omega)
    · rcases own_a2H h3 with ⟨f, g, rfl⟩ | ⟨f, g, i, rfl⟩ | ⟨f, g, i, rfl⟩ | ⟨f, rfl⟩ <;> (simp only [Int64.lt_iff_toInt_lt, s1, s2, s3, dem] at *; omega)
    · rcases own_a2H h3 with ⟨f, g, rfl⟩ | ⟨f, g, i, rfl⟩ | ⟨f, g, i, rfl⟩ | ⟨f, rfl⟩ <;> (simp only [Int64.lt_iff_toInt_lt, s1, s2, s3, dem] at *; omega)
    · rcases own_a1H h3 with ⟨f, g, rfl⟩ | ⟨f, rfl⟩ <;> (simp only [Int64.lt_iff_toInt_lt, s1, s2, s3, dem] at *; omega)
  · rcases own_a1H h2 with ⟨c, d, rfl⟩ | ⟨c, rfl⟩
    · rcases own_a2H h3 with ⟨f, g, rfl⟩ | ⟨f, g, i, rfl⟩ | ⟨f, g, i, rfl⟩ | ⟨f, rfl⟩ <;> (simp only [Int64.lt_iff_toInt_lt, s1, s2, s3, dem] at *; omega)
    · rcases own_a1H h3 with ⟨f, g, rfl⟩ | ⟨f, rfl⟩ <;> (simp only [Int64.lt_iff_toInt_lt, s1, s2, s3, dem] at *; omega)

def Q0 (Z : State) (w_LOWEST : Addr) (w_HIGHEST : Addr) (w_EMPTY_ELEMENTDATA : Addr) (w_DEFAULTCAPACITY_EMPTY_ELEMENTDATA : Addr) (k_w_EMPTY_ELEMENTDATA : ClassId) (k_w_DEFAULTCAPACITY_EMPTY_ELEMENTDATA : ClassId) (p1 : Int32) (p2 : Int32) (q3 : Int64) (q4 : Int64) (q5 : Int64) (q6 : Int64) (h0 : Heap) (n0 : Nat) (v : Option Value) (h : Heap) (L : List Loc) : Prop := v = some (.int (1 : Int32)) ∧ Fr n0 L
theorem ef0 (m : MethodId) (x0 : Int32) (x1 : Int32) (x2 : Int64) (x3 : Int64) (x4 : Int64) (x5 : Int64) : entryFrame m #[(.int x0), (.int x1), (.long x2), (.long x3), (.long x4), (.long x5)] maxLocals = mkF m 0 #[.val (.int x0), .val (.int x1), .val (.long x2), .second, .val (.long x3), .second, .val (.long x4), .second, .val (.long x5), .second, .unset, .unset, .unset, .unset, .unset, .unset, .unset, .unset, .unset, .unset, .unset, .unset, .unset, .unset, .unset, .unset, .unset, .unset, .unset, .unset, .unset, .unset, .unset, .unset, .unset, .unset, .unset, .unset, .unset] [] := by first | (simp [entryFrame, mkF, argsToLocals, Value.category, maxLocals]; done) | rfl
set_option maxRecDepth 65536 in
set_option maxHeartbeats 40000000 in
theorem rm0 (l : Launch) (Z : State) (a0 : Array Value) (hw : ∀ d ∈ tables_1, d.before a0 Z = true) (ws : List Jvm.Cond) {w_LOWEST : Addr} {w_HIGHEST : Addr} {w_EMPTY_ELEMENTDATA : Addr} {w_DEFAULTCAPACITY_EMPTY_ELEMENTDATA : Addr} {k_w_EMPTY_ELEMENTDATA : ClassId} {k_w_DEFAULTCAPACITY_EMPTY_ELEMENTDATA : ClassId} (G : Glob Z w_LOWEST w_HIGHEST w_EMPTY_ELEMENTDATA w_DEFAULTCAPACITY_EMPTY_ELEMENTDATA k_w_EMPTY_ELEMENTDATA k_w_DEFAULTCAPACITY_EMPTY_ELEMENTDATA) (p1 : Int32) (p2 : Int32) (q3 : Int64) (q4 : Int64) (q5 : Int64) (q6 : Int64) (h0 : Heap) (n0 : Nat) (O0 : Old Z n0 h0) :
    MetFree l x (head1 (Jvm.Cond.code x code maxLocals ret :: ws) room_1) (fun a U => a = #[(.int p1), (.int p2), (.long q3), (.long q4), (.long q5), (.long q6)] ∧ Z.Warmed39 U.vm ∧ U.heap = h0) (fun _ _ _ _ _ => True) (fun _ U o U' => ∃ v L, o = .returned v ∧ Q0 Z w_LOWEST w_HIGHEST w_EMPTY_ELEMENTDATA w_DEFAULTCAPACITY_EMPTY_ELEMENTDATA k_w_EMPTY_ELEMENTDATA k_w_DEFAULTCAPACITY_EMPTY_ELEMENTDATA p1 p2 q3 q4 q5 q6 h0 n0 v U'.heap L ∧ FrameEnd U o U' L room_1.cells room_1.slots) := by
  refine MetFree.of_bodySF (plainFor_of_name pn_com_example_restrained_scaler_restrainedscaler_decision_StabilizationWindowDemandPinLaw) hisR ?_
  intro p e s m args below meth c s₁ Bd hml0 hP hK
  obtain ⟨rfl, hZ, hh⟩ := hP
  have hx := Bd.exec
  have hby := Bd.bytes
  have hml : c.maxLocals = 39 := hml0
  have hown : s.vm.findClass "com/example/restrained_scaler/restrainedscaler/decision/StabilizationWindowDemandPinLaw" = some m.cls := findClass_of_methodNamed Bd.named
  have hnm := (name_of_methodNamed Bd.named Bd.method).1
  have X0 : Stand p l e room_1 s m #[(.int p1), (.int p2), (.long q3), (.long q4), (.long q5), (.long q6)] below meth c s₁ [] 0 0 := Stand.of_body Bd
  have e0 : s₁.heap = h0 := by rw [← hh, Bd.state]; rfl
  have N0 := Fr.nil n0
  show OGot p.tables e below (s₁.setTop (entryFrame m #[(.int p1), (.int p2), (.long q3), (.long q4), (.long q5), (.long q6)] maxLocals)) _
  refine OGot.go (fun t k => castTop (ef0 m p1 p2 q3 q4 q5 q6) k) ?_
  show OGot p.tables e below (s₁.setTop (mkF m 0 #[.val (.int p1), .val (.int p2), .val (.long q3), .second, .val (.long q4), .second, .val (.long q5), .second, .val (.long q6), .second, .unset, .unset, .unset, .unset, .unset, .unset, .unset, .unset, .unset, .unset, .unset, .unset, .unset, .unset, .unset, .unset, .unset, .unset, .unset, .unset, .unset, .unset, .unset, .unset, .unset, .unset, .unset, .unset, .unset] [])) _
  refine OGot.go (fun t k => XS.iloadN X0.here hx rfl (hb hby at_0) rfl k) ?_
  refine OGot.go (fun t k => XS.iconst X0.here hx rfl (hb hby at_1) k) ?_
  refine OGot.go (fun t k => XS.iand X0.here hx rfl (hb hby at_2) rfl k) ?_
  show OGot p.tables e below (s₁.setTop (mkF m 3 #[.val (.int p1), .val (.int p2), .val (.long q3), .second, .val (.long q4), .second, .val (.long q5), .second, .val (.long q6), .second, .unset, .unset, .unset, .unset, .unset, .unset, .unset, .unset, .unset, .unset, .unset, .unset, .unset, .unset, .unset, .unset, .unset, .unset, .unset, .unset, .unset, .unset, .unset, .unset, .unset, .unset, .unset, .unset, .unset] [(.int (p1 &&& (1 : Int32)))])) _
  rcases own_and1 p1 with hk7 | hk8
  · rw [hk7]
    show OGot p.tables e below (s₁.setTop (mkF m 3 #[.val (.int p1), .val (.int p2), .val (.long q3), .second, .val (.long q4), .second, .val (.long q5), .second, .val (.long q6), .second, .unset, .unset, .unset, .unset, .unset, .unset, .unset, .unset, .unset, .unset, .unset, .unset, .unset, .unset, .unset, .unset, .unset, .unset, .unset, .unset, .unset, .unset, .unset, .unset, .unset, .unset, .unset, .unset, .unset] [(.int (0 : Int32))])) _
    refine OGot.go (fun t k => XS.ifYes X0.here hx rfl (pc0 := 3) (pc' := 10) rfl (hb hby at_3) rfl (by decide) (by decide) (by decide) k) ?_
    refine OGot.go (fun t k => XS.iconst X0.here hx rfl (hb hby at_10) k) ?_
    refine OGot.go (fun t k => XS.istore X0.here hx rfl (hb hby at_11) rfl (l' := #[.val (.int p1), .val (.int p2), .val (.long q3), .second, .val (.long q4), .second, .val (.long q5), .second, .val (.long q6), .second, .val (.int (0 : Int32)), .unset, .unset, .unset, .unset, .unset, .unset, .unset, .unset, .unset, .unset, .unset, .unset, .unset, .unset, .unset, .unset, .unset, .unset, .unset, .unset, .unset, .unset, .unset, .unset, .unset, .unset, .unset, .unset]) rfl k) ?_
    refine OGot.go (fun t k => XS.iload X0.here hx rfl (hb hby at_13) rfl k) ?_
    refine OGot.go (fun t k => XS.ifYes X0.here hx rfl (pc0 := 15) (pc' := 24) rfl (hb hby at_15) rfl (by decide) (by decide) (by decide) k) ?_
    obtain ⟨T9, X9, e9, st9⟩ := getS2 X0 hx hZ hown (host := "") (Or.inl (ow hw 0 rfl)) Via.refl e0 (G.1.ext O0.2) (g := (mkF m 24 #[.val (.int p1), .val (.int p2), .val (.long q3), .second, .val (.long q4), .second, .val (.long q5), .second, .val (.long q6), .second, .val (.int (0 : Int32)), .unset, .unset, .unset, .unset, .unset, .unset, .unset, .unset, .unset, .unset, .unset, .unset, .unset, .unset, .unset, .unset, .unset, .unset, .unset, .unset, .unset, .unset, .unset, .unset, .unset, .unset, .unset, .unset] [])) rfl (hb hby at_24)
    refine OGot.go st9 ?_
    show OGot p.tables e below (T9.setTop (mkF m 27 #[.val (.int p1), .val (.int p2), .val (.long q3), .second, .val (.long q4), .second, .val (.long q5), .second, .val (.long q6), .second, .val (.int (0 : Int32)), .unset, .unset, .unset, .unset, .unset, .unset, .unset, .unset, .unset, .unset, .unset, .unset, .unset, .unset, .unset, .unset, .unset, .unset, .unset, .unset, .unset, .unset, .unset, .unset, .unset, .unset, .unset, .unset] [(.ref w_LOWEST)])) _
    refine OGot.go (fun t k => XS.astore X9.here hx rfl (hb hby at_27) rfl rfl (l' := #[.val (.int p1), .val (.int p2), .val (.long q3), .second, .val (.long q4), .second, .val (.long q5), .second, .val (.long q6), .second, .val (.int (0 : Int32)), .val (.ref w_LOWEST), .unset, .unset, .unset, .unset, .unset, .unset, .unset, .unset, .unset, .unset, .unset, .unset, .unset, .unset, .unset, .unset, .unset, .unset, .unset, .unset, .unset, .unset, .unset, .unset, .unset, .unset, .unset]) rfl k) ?_
    refine OGot.go (fun t k => XS.iloadN X9.here hx rfl (hb hby at_29) rfl k) ?_
    refine OGot.go (fun t k => XS.iconst X9.here hx rfl (hb hby at_30) k) ?_
    refine OGot.go (fun t k => XS.iushr X9.here hx rfl (hb hby at_31) rfl k) ?_
    refine OGot.go (fun t k => XS.bipush X9.here hx rfl (hb hby at_32) k) ?_
    refine OGot.go (fun t k => XS.iand X9.here hx rfl (hb hby at_34) rfl k) ?_
    show OGot p.tables e below (T9.setTop (mkF m 35 #[.val (.int p1), .val (.int p2), .val (.long q3), .second, .val (.long q4), .second, .val (.long q5), .second, .val (.long q6), .second, .val (.int (0 : Int32)), .val (.ref w_LOWEST), .unset, .unset, .unset, .unset, .unset, .unset, .unset, .unset, .unset, .unset, .unset, .unset, .unset, .unset, .unset, .unset, .unset, .unset, .unset, .unset, .unset, .unset, .unset, .unset, .unset, .unset, .unset] [(.int (((p1.toUInt32 >>> ((1 : Int32) &&& 31).toUInt32).toInt32) &&& (63 : Int32)))])) _
    refine OGot.go (fun t k => XS.i2l X9.here hx rfl (hb hby at_35) rfl k) ?_
    show OGot p.tables e below (T9.setTop (mkF m 36 #[.val (.int p1), .val (.int p2), .val (.long q3), .second, .val (.long q4), .second, .val (.long q5), .second, .val (.long q6), .second, .val (.int (0 : Int32)), .val (.ref w_LOWEST), .unset, .unset, .unset, .unset, .unset, .unset, .unset, .unset, .unset, .unset, .unset, .unset, .unset, .unset, .unset, .unset, .unset, .unset, .unset, .unset, .unset, .unset, .unset, .unset, .unset, .unset, .unset] [(.long ((((p1.toUInt32 >>> ((1 : Int32) &&& 31).toUInt32).toInt32) &&& (63 : Int32)).toInt64))])) _
    obtain ⟨vS, h_vS⟩ : ∃ z, z = ((((p1.toUInt32 >>> ((1 : Int32) &&& 31).toUInt32).toInt32) &&& (63 : Int32)).toInt64) := ⟨_, rfl⟩
    rw [← h_vS]
    refine OGot.go (fun t k => XS.lstore X9.here hx rfl (hb hby at_36) rfl (l' := #[.val (.int p1), .val (.int p2), .val (.long q3), .second, .val (.long q4), .second, .val (.long q5), .second, .val (.long q6), .second, .val (.int (0 : Int32)), .val (.ref w_LOWEST), .val (.long vS), .second, .unset, .unset, .unset, .unset, .unset, .unset, .unset, .unset, .unset, .unset, .unset, .unset, .unset, .unset, .unset, .unset, .unset, .unset, .unset, .unset, .unset, .unset, .unset, .unset, .unset]) rfl k) ?_
    refine OGot.go (fun t k => XS.iloadN X9.here hx rfl (hb hby at_38) rfl k) ?_
    refine OGot.go (fun t k => XS.bipush X9.here hx rfl (hb hby at_39) k) ?_
    refine OGot.go (fun t k => XS.iand X9.here hx rfl (hb hby at_41) rfl k) ?_
    refine OGot.go (fun t k => XS.bipush X9.here hx rfl (hb hby at_42) k) ?_
    show OGot p.tables e below (T9.setTop (mkF m 44 #[.val (.int p1), .val (.int p2), .val (.long q3), .second, .val (.long q4), .second, .val (.long q5), .second, .val (.long q6), .second, .val (.int (0 : Int32)), .val (.ref w_LOWEST), .val (.long vS), .second, .unset, .unset, .unset, .unset, .unset, .unset, .unset, .unset, .unset, .unset, .unset, .unset, .unset, .unset, .unset, .unset, .unset, .unset, .unset, .unset, .unset, .unset, .unset, .unset, .unset] [(.int (32 : Int32)), (.int (p2 &&& (63 : Int32)))])) _
    refine OGot.go (fun t k => XS.isub X9.here hx rfl (hb hby at_44) rfl k) ?_
    refine OGot.go (fun t k => XS.i2l X9.here hx rfl (hb hby at_45) rfl k) ?_
    show OGot p.tables e below (T9.setTop (mkF m 46 #[.val (.int p1), .val (.int p2), .val (.long q3), .second, .val (.long q4), .second, .val (.long q5), .second, .val (.long q6), .second, .val (.int (0 : Int32)), .val (.ref w_LOWEST), .val (.long vS), .second, .unset, .unset, .unset, .unset, .unset, .unset, .unset, .unset, .unset, .unset, .unset, .unset, .unset, .unset, .unset, .unset, .unset, .unset, .unset, .unset, .unset, .unset, .unset, .unset, .unset] [(.long (((p2 &&& (63 : Int32)) - (32 : Int32)).toInt64))])) _
    obtain ⟨vT0, h_vT0⟩ : ∃ z, z = (((p2 &&& (63 : Int32)) - (32 : Int32)).toInt64) := ⟨_, rfl⟩
    rw [← h_vT0]
    refine OGot.go (fun t k => XS.lstore X9.here hx rfl (hb hby at_46) rfl (l' := #[.val (.int p1), .val (.int p2), .val (.long q3), .second, .val (.long q4), .second, .val (.long q5), .second, .val (.long q6), .second, .val (.int (0 : Int32)), .val (.ref w_LOWEST), .val (.long vS), .second, .val (.long vT0), .second, .unset, .unset, .unset, .unset, .unset, .unset, .unset, .unset, .unset, .unset, .unset, .unset, .unset, .unset, .unset, .unset, .unset, .unset, .unset, .unset, .unset, .unset, .unset]) rfl k) ?_
    refine OGot.go (fun t k => XS.lload X9.here hx rfl (hb hby at_48) rfl k) ?_
    refine OGot.go (fun t k => XS.iloadN X9.here hx rfl (hb hby at_50) rfl k) ?_
    refine OGot.go (fun t k => XS.bipush X9.here hx rfl (hb hby at_51) k) ?_
    refine OGot.go (fun t k => XS.iushr X9.here hx rfl (hb hby at_53) rfl k) ?_
    show OGot p.tables e below (T9.setTop (mkF m 54 #[.val (.int p1), .val (.int p2), .val (.long q3), .second, .val (.long q4), .second, .val (.long q5), .second, .val (.long q6), .second, .val (.int (0 : Int32)), .val (.ref w_LOWEST), .val (.long vS), .second, .val (.long vT0), .second, .unset, .unset, .unset, .unset, .unset, .unset, .unset, .unset, .unset, .unset, .unset, .unset, .unset, .unset, .unset, .unset, .unset, .unset, .unset, .unset, .unset, .unset, .unset] [(.int ((p2.toUInt32 >>> ((6 : Int32) &&& 31).toUInt32).toInt32)), (.long vT0)])) _
    refine OGot.go (fun t k => XS.bipush X9.here hx rfl (hb hby at_54) k) ?_
    refine OGot.go (fun t k => XS.iand X9.here hx rfl (hb hby at_56) rfl k) ?_
    refine OGot.go (fun t k => XS.i2l X9.here hx rfl (hb hby at_57) rfl k) ?_
    refine OGot.go (fun t k => XS.ladd X9.here hx rfl (hb hby at_58) rfl k) ?_
    refine OGot.go (fun t k => XS.lconst X9.here hx rfl (hb hby at_59) k) ?_
    refine OGot.go (fun t k => XS.ladd X9.here hx rfl (hb hby at_60) rfl k) ?_
    show OGot p.tables e below (T9.setTop (mkF m 61 #[.val (.int p1), .val (.int p2), .val (.long q3), .second, .val (.long q4), .second, .val (.long q5), .second, .val (.long q6), .second, .val (.int (0 : Int32)), .val (.ref w_LOWEST), .val (.long vS), .second, .val (.long vT0), .second, .unset, .unset, .unset, .unset, .unset, .unset, .unset, .unset, .unset, .unset, .unset, .unset, .unset, .unset, .unset, .unset, .unset, .unset, .unset, .unset, .unset, .unset, .unset] [(.long ((vT0 + ((((p2.toUInt32 >>> ((6 : Int32) &&& 31).toUInt32).toInt32) &&& (31 : Int32)).toInt64)) + (1 : Int64)))])) _
    obtain ⟨vT1, h_vT1⟩ : ∃ z, z = ((vT0 + ((((p2.toUInt32 >>> ((6 : Int32) &&& 31).toUInt32).toInt32) &&& (31 : Int32)).toInt64)) + (1 : Int64)) := ⟨_, rfl⟩
    rw [← h_vT1]
    refine OGot.go (fun t k => XS.lstore X9.here hx rfl (hb hby at_61) rfl (l' := #[.val (.int p1), .val (.int p2), .val (.long q3), .second, .val (.long q4), .second, .val (.long q5), .second, .val (.long q6), .second, .val (.int (0 : Int32)), .val (.ref w_LOWEST), .val (.long vS), .second, .val (.long vT0), .second, .val (.long vT1), .second, .unset, .unset, .unset, .unset, .unset, .unset, .unset, .unset, .unset, .unset, .unset, .unset, .unset, .unset, .unset, .unset, .unset, .unset, .unset, .unset, .unset]) rfl k) ?_
    refine OGot.go (fun t k => XS.lload X9.here hx rfl (hb hby at_63) rfl k) ?_
    refine OGot.go (fun t k => XS.iloadN X9.here hx rfl (hb hby at_65) rfl k) ?_
    refine OGot.go (fun t k => XS.bipush X9.here hx rfl (hb hby at_66) k) ?_
    refine OGot.go (fun t k => XS.iushr X9.here hx rfl (hb hby at_68) rfl k) ?_
    show OGot p.tables e below (T9.setTop (mkF m 69 #[.val (.int p1), .val (.int p2), .val (.long q3), .second, .val (.long q4), .second, .val (.long q5), .second, .val (.long q6), .second, .val (.int (0 : Int32)), .val (.ref w_LOWEST), .val (.long vS), .second, .val (.long vT0), .second, .val (.long vT1), .second, .unset, .unset, .unset, .unset, .unset, .unset, .unset, .unset, .unset, .unset, .unset, .unset, .unset, .unset, .unset, .unset, .unset, .unset, .unset, .unset, .unset] [(.int ((p2.toUInt32 >>> ((11 : Int32) &&& 31).toUInt32).toInt32)), (.long vT1)])) _
    refine OGot.go (fun t k => XS.bipush X9.here hx rfl (hb hby at_69) k) ?_
    refine OGot.go (fun t k => XS.iand X9.here hx rfl (hb hby at_71) rfl k) ?_
    refine OGot.go (fun t k => XS.i2l X9.here hx rfl (hb hby at_72) rfl k) ?_
    refine OGot.go (fun t k => XS.ladd X9.here hx rfl (hb hby at_73) rfl k) ?_
    refine OGot.go (fun t k => XS.lconst X9.here hx rfl (hb hby at_74) k) ?_
    refine OGot.go (fun t k => XS.ladd X9.here hx rfl (hb hby at_75) rfl k) ?_
    show OGot p.tables e below (T9.setTop (mkF m 76 #[.val (.int p1), .val (.int p2), .val (.long q3), .second, .val (.long q4), .second, .val (.long q5), .second, .val (.long q6), .second, .val (.int (0 : Int32)), .val (.ref w_LOWEST), .val (.long vS), .second, .val (.long vT0), .second, .val (.long vT1), .second, .unset, .unset, .unset, .unset, .unset, .unset, .unset, .unset, .unset, .unset, .unset, .unset, .unset, .unset, .unset, .unset, .unset, .unset, .unset, .unset, .unset] [(.long ((vT1 + ((((p2.toUInt32 >>> ((11 : Int32) &&& 31).toUInt32).toInt32) &&& (31 : Int32)).toInt64)) + (1 : Int64)))])) _
    obtain ⟨vT2, h_vT2⟩ : ∃ z, z = ((vT1 + ((((p2.toUInt32 >>> ((11 : Int32) &&& 31).toUInt32).toInt32) &&& (31 : Int32)).toInt64)) + (1 : Int64)) := ⟨_, rfl⟩
    rw [← h_vT2]
    refine OGot.go (fun t k => XS.lstore X9.here hx rfl (hb hby at_76) rfl (l' := #[.val (.int p1), .val (.int p2), .val (.long q3), .second, .val (.long q4), .second, .val (.long q5), .second, .val (.long q6), .second, .val (.int (0 : Int32)), .val (.ref w_LOWEST), .val (.long vS), .second, .val (.long vT0), .second, .val (.long vT1), .second, .val (.long vT2), .second, .unset, .unset, .unset, .unset, .unset, .unset, .unset, .unset, .unset, .unset, .unset, .unset, .unset, .unset, .unset, .unset, .unset, .unset, .unset]) rfl k) ?_
    refine OGot.go (fun t k => XS.lload X9.here hx rfl (hb hby at_78) rfl k) ?_
    refine OGot.go (fun t k => XS.iloadN X9.here hx rfl (hb hby at_80) rfl k) ?_
    refine OGot.go (fun t k => XS.bipush X9.here hx rfl (hb hby at_81) k) ?_
    refine OGot.go (fun t k => XS.iushr X9.here hx rfl (hb hby at_83) rfl k) ?_
    show OGot p.tables e below (T9.setTop (mkF m 84 #[.val (.int p1), .val (.int p2), .val (.long q3), .second, .val (.long q4), .second, .val (.long q5), .second, .val (.long q6), .second, .val (.int (0 : Int32)), .val (.ref w_LOWEST), .val (.long vS), .second, .val (.long vT0), .second, .val (.long vT1), .second, .val (.long vT2), .second, .unset, .unset, .unset, .unset, .unset, .unset, .unset, .unset, .unset, .unset, .unset, .unset, .unset, .unset, .unset, .unset, .unset, .unset, .unset] [(.int ((p2.toUInt32 >>> ((16 : Int32) &&& 31).toUInt32).toInt32)), (.long vT2)])) _
    refine OGot.go (fun t k => XS.bipush X9.here hx rfl (hb hby at_84) k) ?_
    refine OGot.go (fun t k => XS.iand X9.here hx rfl (hb hby at_86) rfl k) ?_
    refine OGot.go (fun t k => XS.i2l X9.here hx rfl (hb hby at_87) rfl k) ?_
    refine OGot.go (fun t k => XS.ladd X9.here hx rfl (hb hby at_88) rfl k) ?_
    refine OGot.go (fun t k => XS.lconst X9.here hx rfl (hb hby at_89) k) ?_
    refine OGot.go (fun t k => XS.ladd X9.here hx rfl (hb hby at_90) rfl k) ?_
    show OGot p.tables e below (T9.setTop (mkF m 91 #[.val (.int p1), .val (.int p2), .val (.long q3), .second, .val (.long q4), .second, .val (.long q5), .second, .val (.long q6), .second, .val (.int (0 : Int32)), .val (.ref w_LOWEST), .val (.long vS), .second, .val (.long vT0), .second, .val (.long vT1), .second, .val (.long vT2), .second, .unset, .unset, .unset, .unset, .unset, .unset, .unset, .unset, .unset, .unset, .unset, .unset, .unset, .unset, .unset, .unset, .unset, .unset, .unset] [(.long ((vT2 + ((((p2.toUInt32 >>> ((16 : Int32) &&& 31).toUInt32).toInt32) &&& (31 : Int32)).toInt64)) + (1 : Int64)))])) _
    obtain ⟨vT3, h_vT3⟩ : ∃ z, z = ((vT2 + ((((p2.toUInt32 >>> ((16 : Int32) &&& 31).toUInt32).toInt32) &&& (31 : Int32)).toInt64)) + (1 : Int64)) := ⟨_, rfl⟩
    rw [← h_vT3]
    refine OGot.go (fun t k => XS.lstore X9.here hx rfl (hb hby at_91) rfl (l' := #[.val (.int p1), .val (.int p2), .val (.long q3), .second, .val (.long q4), .second, .val (.long q5), .second, .val (.long q6), .second, .val (.int (0 : Int32)), .val (.ref w_LOWEST), .val (.long vS), .second, .val (.long vT0), .second, .val (.long vT1), .second, .val (.long vT2), .second, .val (.long vT3), .second, .unset, .unset, .unset, .unset, .unset, .unset, .unset, .unset, .unset, .unset, .unset, .unset, .unset, .unset, .unset, .unset, .unset]) rfl k) ?_
    refine OGot.go (fun t k => XS.lloadN X9.here hx rfl (hb hby at_93) rfl k) ?_
    refine OGot.go (fun t k => X9.ldc2Long hx hown (mvT hZ (ow hw 3 rfl)) (g := (mkF m 94 #[.val (.int p1), .val (.int p2), .val (.long q3), .second, .val (.long q4), .second, .val (.long q5), .second, .val (.long q6), .second, .val (.int (0 : Int32)), .val (.ref w_LOWEST), .val (.long vS), .second, .val (.long vT0), .second, .val (.long vT1), .second, .val (.long vT2), .second, .val (.long vT3), .second, .unset, .unset, .unset, .unset, .unset, .unset, .unset, .unset, .unset, .unset, .unset, .unset, .unset, .unset, .unset, .unset, .unset] [(.long q3)])) rfl (hb hby at_94) _ k) ?_
    refine OGot.go (fun t k => XS.land X9.here hx rfl (hb hby at_97) rfl k) ?_
    show OGot p.tables e below (T9.setTop (mkF m 98 #[.val (.int p1), .val (.int p2), .val (.long q3), .second, .val (.long q4), .second, .val (.long q5), .second, .val (.long q6), .second, .val (.int (0 : Int32)), .val (.ref w_LOWEST), .val (.long vS), .second, .val (.long vT0), .second, .val (.long vT1), .second, .val (.long vT2), .second, .val (.long vT3), .second, .unset, .unset, .unset, .unset, .unset, .unset, .unset, .unset, .unset, .unset, .unset, .unset, .unset, .unset, .unset, .unset, .unset] [(.long (q3 &&& (9223372036854775807 : Int64)))])) _
    obtain ⟨vE0, h_vE0⟩ : ∃ z, z = (q3 &&& (9223372036854775807 : Int64)) := ⟨_, rfl⟩
    rw [← h_vE0]
    refine OGot.go (fun t k => XS.lstore X9.here hx rfl (hb hby at_98) rfl (l' := #[.val (.int p1), .val (.int p2), .val (.long q3), .second, .val (.long q4), .second, .val (.long q5), .second, .val (.long q6), .second, .val (.int (0 : Int32)), .val (.ref w_LOWEST), .val (.long vS), .second, .val (.long vT0), .second, .val (.long vT1), .second, .val (.long vT2), .second, .val (.long vT3), .second, .val (.long vE0), .second, .unset, .unset, .unset, .unset, .unset, .unset, .unset, .unset, .unset, .unset, .unset, .unset, .unset, .unset, .unset]) rfl k) ?_
    refine OGot.go (fun t k => XS.lload X9.here hx rfl (hb hby at_100) rfl k) ?_
    refine OGot.go (fun t k => X9.ldc2Long hx hown (mvT hZ (ow hw 3 rfl)) (g := (mkF m 102 #[.val (.int p1), .val (.int p2), .val (.long q3), .second, .val (.long q4), .second, .val (.long q5), .second, .val (.long q6), .second, .val (.int (0 : Int32)), .val (.ref w_LOWEST), .val (.long vS), .second, .val (.long vT0), .second, .val (.long vT1), .second, .val (.long vT2), .second, .val (.long vT3), .second, .val (.long vE0), .second, .unset, .unset, .unset, .unset, .unset, .unset, .unset, .unset, .unset, .unset, .unset, .unset, .unset, .unset, .unset] [(.long q4)])) rfl (hb hby at_102) _ k) ?_
    refine OGot.go (fun t k => XS.land X9.here hx rfl (hb hby at_105) rfl k) ?_
    show OGot p.tables e below (T9.setTop (mkF m 106 #[.val (.int p1), .val (.int p2), .val (.long q3), .second, .val (.long q4), .second, .val (.long q5), .second, .val (.long q6), .second, .val (.int (0 : Int32)), .val (.ref w_LOWEST), .val (.long vS), .second, .val (.long vT0), .second, .val (.long vT1), .second, .val (.long vT2), .second, .val (.long vT3), .second, .val (.long vE0), .second, .unset, .unset, .unset, .unset, .unset, .unset, .unset, .unset, .unset, .unset, .unset, .unset, .unset, .unset, .unset] [(.long (q4 &&& (9223372036854775807 : Int64)))])) _
    obtain ⟨vE1, h_vE1⟩ : ∃ z, z = (q4 &&& (9223372036854775807 : Int64)) := ⟨_, rfl⟩
    rw [← h_vE1]
    refine OGot.go (fun t k => XS.lstore X9.here hx rfl (hb hby at_106) rfl (l' := #[.val (.int p1), .val (.int p2), .val (.long q3), .second, .val (.long q4), .second, .val (.long q5), .second, .val (.long q6), .second, .val (.int (0 : Int32)), .val (.ref w_LOWEST), .val (.long vS), .second, .val (.long vT0), .second, .val (.long vT1), .second, .val (.long vT2), .second, .val (.long vT3), .second, .val (.long vE0), .second, .val (.long vE1), .second, .unset, .unset, .unset, .unset, .unset, .unset, .unset, .unset, .unset, .unset, .unset, .unset, .unset]) rfl k) ?_
    refine OGot.go (fun t k => XS.lload X9.here hx rfl (hb hby at_108) rfl k) ?_
    refine OGot.go (fun t k => X9.ldc2Long hx hown (mvT hZ (ow hw 3 rfl)) (g := (mkF m 110 #[.val (.int p1), .val (.int p2), .val (.long q3), .second, .val (.long q4), .second, .val (.long q5), .second, .val (.long q6), .second, .val (.int (0 : Int32)), .val (.ref w_LOWEST), .val (.long vS), .second, .val (.long vT0), .second, .val (.long vT1), .second, .val (.long vT2), .second, .val (.long vT3), .second, .val (.long vE0), .second, .val (.long vE1), .second, .unset, .unset, .unset, .unset, .unset, .unset, .unset, .unset, .unset, .unset, .unset, .unset, .unset] [(.long q5)])) rfl (hb hby at_110) _ k) ?_
    refine OGot.go (fun t k => XS.land X9.here hx rfl (hb hby at_113) rfl k) ?_
    show OGot p.tables e below (T9.setTop (mkF m 114 #[.val (.int p1), .val (.int p2), .val (.long q3), .second, .val (.long q4), .second, .val (.long q5), .second, .val (.long q6), .second, .val (.int (0 : Int32)), .val (.ref w_LOWEST), .val (.long vS), .second, .val (.long vT0), .second, .val (.long vT1), .second, .val (.long vT2), .second, .val (.long vT3), .second, .val (.long vE0), .second, .val (.long vE1), .second, .unset, .unset, .unset, .unset, .unset, .unset, .unset, .unset, .unset, .unset, .unset, .unset, .unset] [(.long (q5 &&& (9223372036854775807 : Int64)))])) _
    obtain ⟨vE2, h_vE2⟩ : ∃ z, z = (q5 &&& (9223372036854775807 : Int64)) := ⟨_, rfl⟩
    rw [← h_vE2]
    refine OGot.go (fun t k => XS.lstore X9.here hx rfl (hb hby at_114) rfl (l' := #[.val (.int p1), .val (.int p2), .val (.long q3), .second, .val (.long q4), .second, .val (.long q5), .second, .val (.long q6), .second, .val (.int (0 : Int32)), .val (.ref w_LOWEST), .val (.long vS), .second, .val (.long vT0), .second, .val (.long vT1), .second, .val (.long vT2), .second, .val (.long vT3), .second, .val (.long vE0), .second, .val (.long vE1), .second, .val (.long vE2), .second, .unset, .unset, .unset, .unset, .unset, .unset, .unset, .unset, .unset, .unset, .unset]) rfl k) ?_
    refine OGot.go (fun t k => XS.lload X9.here hx rfl (hb hby at_116) rfl k) ?_
    refine OGot.go (fun t k => X9.ldc2Long hx hown (mvT hZ (ow hw 3 rfl)) (g := (mkF m 118 #[.val (.int p1), .val (.int p2), .val (.long q3), .second, .val (.long q4), .second, .val (.long q5), .second, .val (.long q6), .second, .val (.int (0 : Int32)), .val (.ref w_LOWEST), .val (.long vS), .second, .val (.long vT0), .second, .val (.long vT1), .second, .val (.long vT2), .second, .val (.long vT3), .second, .val (.long vE0), .second, .val (.long vE1), .second, .val (.long vE2), .second, .unset, .unset, .unset, .unset, .unset, .unset, .unset, .unset, .unset, .unset, .unset] [(.long q6)])) rfl (hb hby at_118) _ k) ?_
    refine OGot.go (fun t k => XS.land X9.here hx rfl (hb hby at_121) rfl k) ?_
    show OGot p.tables e below (T9.setTop (mkF m 122 #[.val (.int p1), .val (.int p2), .val (.long q3), .second, .val (.long q4), .second, .val (.long q5), .second, .val (.long q6), .second, .val (.int (0 : Int32)), .val (.ref w_LOWEST), .val (.long vS), .second, .val (.long vT0), .second, .val (.long vT1), .second, .val (.long vT2), .second, .val (.long vT3), .second, .val (.long vE0), .second, .val (.long vE1), .second, .val (.long vE2), .second, .unset, .unset, .unset, .unset, .unset, .unset, .unset, .unset, .unset, .unset, .unset] [(.long (q6 &&& (9223372036854775807 : Int64)))])) _
    obtain ⟨vE3, h_vE3⟩ : ∃ z, z = (q6 &&& (9223372036854775807 : Int64)) := ⟨_, rfl⟩
    rw [← h_vE3]
    refine OGot.go (fun t k => XS.lstore X9.here hx rfl (hb hby at_122) rfl (l' := #[.val (.int p1), .val (.int p2), .val (.long q3), .second, .val (.long q4), .second, .val (.long q5), .second, .val (.long q6), .second, .val (.int (0 : Int32)), .val (.ref w_LOWEST), .val (.long vS), .second, .val (.long vT0), .second, .val (.long vT1), .second, .val (.long vT2), .second, .val (.long vT3), .second, .val (.long vE0), .second, .val (.long vE1), .second, .val (.long vE2), .second, .val (.long vE3), .second, .unset, .unset, .unset, .unset, .unset, .unset, .unset, .unset, .unset]) rfl k) ?_
    obtain ⟨T10, h10, X10, e10, E10, A10, D10, -, st10⟩ := newO X9 hx hZ hown (ow hw 4 rfl) (ow hw 5 rfl) (ow hw 6 rfl) e9 (g := (mkF m 124 #[.val (.int p1), .val (.int p2), .val (.long q3), .second, .val (.long q4), .second, .val (.long q5), .second, .val (.long q6), .second, .val (.int (0 : Int32)), .val (.ref w_LOWEST), .val (.long vS), .second, .val (.long vT0), .second, .val (.long vT1), .second, .val (.long vT2), .second, .val (.long vT3), .second, .val (.long vE0), .second, .val (.long vE1), .second, .val (.long vE2), .second, .val (.long vE3), .second, .unset, .unset, .unset, .unset, .unset, .unset, .unset, .unset, .unset] [])) rfl (hb hby at_124) (by decide) (by decide)
    obtain ⟨b10, g10⟩ : ∃ z, z = h0.size := ⟨_, rfl⟩
    rw [← g10] at A10 D10 st10
    refine OGot.go st10 ?_
    have g_b10 : n0 ≤ b10 := Nat.le_trans (osz O0) (Nat.le_of_eq g10.symm)
    have sy_b10 : h0.size ≤ b10 := Nat.le_of_eq g10.symm
    have O10 := O0.ext E10
    have F10_modCount : Fld Z h10 b10 "java/util/AbstractList" "modCount" "I" (.int (0 : Int32)) := D10 (Or.inl (ow hw 26 rfl)) (ty := .int) (by decide)
    have F10_elementData : Fld Z h10 b10 "java/util/ArrayList" "elementData" "[Ljava/lang/Object;" .null := D10 (Or.inl (ow hw 29 rfl)) (ty := (.array (.object "java/lang/Object"))) (by decide)
    have F10_size : Fld Z h10 b10 "java/util/ArrayList" "size" "I" (.int (0 : Int32)) := D10 (Or.inl (ow hw 58 rfl)) (ty := .int) (by decide)
    refine OGot.go (fun t k => XS.dup X10.here hx rfl (hb hby at_127) rfl rfl k) ?_
    obtain ⟨_, _, ⟨T11, L11, k11, n11⟩, -, X11, ⟨Lc11, hQ11, l11, y11, z11⟩, st11⟩ := X10.specialBack hx (y := (⟨"java/util/ArrayList", "<init>", "()V"⟩ : MethodName)) rfl hown (mvT hZ (ow hw 7 rfl)) (mvT hZ (ow hw 8 rfl)) (mvT hZ (ow hw 9 rfl)) (by decide) (backOf (W := 1) (rm1 l Z a0 hw [] G b10 h10 n0 O10 A10 F10_modCount g_b10 F10_elementData) hZ (ow hw 9 rfl) (ow hw 6 rfl) (by decide) (by decide)) (g := (mkF m 128 #[.val (.int p1), .val (.int p2), .val (.long q3), .second, .val (.long q4), .second, .val (.long q5), .second, .val (.long q6), .second, .val (.int (0 : Int32)), .val (.ref w_LOWEST), .val (.long vS), .second, .val (.long vT0), .second, .val (.long vT1), .second, .val (.long vT2), .second, .val (.long vT3), .second, .val (.long vE0), .second, .val (.long vE1), .second, .val (.long vE2), .second, .val (.long vE3), .second, .unset, .unset, .unset, .unset, .unset, .unset, .unset, .unset, .unset] [(.ref b10), (.ref b10)])) rfl (by rw [hml]; rfl) (Steps.refl _) (a := b10) (argsL := []) (rest := [(.ref b10)]) (lenOf pd_7 rfl) rfl (by show 2 * 0 + _ ≤ _; exact Nat.le_of_eq rfl) (hb hby at_128) (fun _ _ => ⟨rfl, e10, (by decide : 1 + 0 ≤ _), (by decide : 3 + 0 ≤ _)⟩)
    dsimp only [Pt.U, Pt.locs, Pt.cells, Pt.slots] at X11 l11 y11 z11 st11 hQ11
    subst l11 y11 z11
    obtain ⟨N11q, rfl, K11, Fo11_0, Fo11_1⟩ := hQ11
    have O11 := OKeep.old O10 K11 (ogeS g_b10 (ogeS g_b10 oge0))
    have N11 := Fr.app N0 N11q
    refine OGot.on st11 ?_
    refine OGot.go (fun t k => XS.astore X11.here hx rfl (hb hby at_131) rfl rfl (l' := #[.val (.int p1), .val (.int p2), .val (.long q3), .second, .val (.long q4), .second, .val (.long q5), .second, .val (.long q6), .second, .val (.int (0 : Int32)), .val (.ref w_LOWEST), .val (.long vS), .second, .val (.long vT0), .second, .val (.long vT1), .second, .val (.long vT2), .second, .val (.long vT3), .second, .val (.long vE0), .second, .val (.long vE1), .second, .val (.long vE2), .second, .val (.long vE3), .second, .val (.ref b10), .unset, .unset, .unset, .unset, .unset, .unset, .unset, .unset]) rfl k) ?_
    show OGot p.tables e below (T11.setTop (mkF m 133 #[.val (.int p1), .val (.int p2), .val (.long q3), .second, .val (.long q4), .second, .val (.long q5), .second, .val (.long q6), .second, .val (.int (0 : Int32)), .val (.ref w_LOWEST), .val (.long vS), .second, .val (.long vT0), .second, .val (.long vT1), .second, .val (.long vT2), .second, .val (.long vT3), .second, .val (.long vE0), .second, .val (.long vE1), .second, .val (.long vE2), .second, .val (.long vE3), .second, .val (.ref b10), .unset, .unset, .unset, .unset, .unset, .unset, .unset, .unset] [])) _
    refine OGot.go (fun t k => XS.aload X11.here hx rfl (hb hby at_133) rfl rfl k) ?_
    obtain ⟨T12, h12, X12, e12, E12, A12, D12, -, st12⟩ := newO X11 hx hZ hown (ow hw 30 rfl) (ow hw 31 rfl) (ow hw 32 rfl) rfl (g := (mkF m 135 #[.val (.int p1), .val (.int p2), .val (.long q3), .second, .val (.long q4), .second, .val (.long q5), .second, .val (.long q6), .second, .val (.int (0 : Int32)), .val (.ref w_LOWEST), .val (.long vS), .second, .val (.long vT0), .second, .val (.long vT1), .second, .val (.long vT2), .second, .val (.long vT3), .second, .val (.long vE0), .second, .val (.long vE1), .second, .val (.long vE2), .second, .val (.long vE3), .second, .val (.ref b10), .unset, .unset, .unset, .unset, .unset, .unset, .unset, .unset] [(.ref b10)])) rfl (hb hby at_135) (by decide) (by decide)
    obtain ⟨b12, g12⟩ : ∃ z, z = T11.heap.size := ⟨_, rfl⟩
    rw [← g12] at A12 D12 st12
    refine OGot.go st12 ?_
    have g_b12 : n0 ≤ b12 := Nat.le_trans (osz O11) (Nat.le_of_eq g12.symm)
    have sy_b12 : T11.heap.size ≤ b12 := Nat.le_of_eq g12.symm
    have O12 := O11.ext E12
    have F12_time : Fld Z h12 b12 "com/example/restrained_scaler/restrainedscaler/decision/Decider$Demand" "time" "J" (.long (0 : Int64)) := D12 (Or.inr (ow hw 43 rfl)) (ty := .long) (by decide)
    have F12_desired : Fld Z h12 b12 "com/example/restrained_scaler/restrainedscaler/decision/Decider$Demand" "desired" "J" (.long (0 : Int64)) := D12 (Or.inr (ow hw 45 rfl)) (ty := .long) (by decide)
    refine OGot.go (fun t k => XS.dup X12.here hx rfl (hb hby at_138) rfl rfl k) ?_
    refine OGot.go (fun t k => XS.lload X12.here hx rfl (hb hby at_139) rfl k) ?_
    refine OGot.go (fun t k => XS.lload X12.here hx rfl (hb hby at_141) rfl k) ?_
    obtain ⟨_, _, ⟨T13, L13, k13, n13⟩, -, X13, ⟨Lc13, hQ13, l13, y13, z13⟩, st13⟩ := X12.specialBack hx (y := (⟨"com/example/restrained_scaler/restrainedscaler/decision/Decider$Demand", "<init>", "(JJ)V"⟩ : MethodName)) rfl hown (mvT hZ (ow hw 33 rfl)) (mvT hZ (ow hw 34 rfl)) (mvT hZ (ow hw 35 rfl)) (by decide) (backOf (W := 2) (rm5 l Z a0 hw [] G b12 vT0 vE0 h12 n0 O12 A12 F12_time g_b12 F12_desired) hZ (ow hw 35 rfl) (ow hw 32 rfl) (by decide) (by decide)) (g := (mkF m 143 #[.val (.int p1), .val (.int p2), .val (.long q3), .second, .val (.long q4), .second, .val (.long q5), .second, .val (.long q6), .second, .val (.int (0 : Int32)), .val (.ref w_LOWEST), .val (.long vS), .second, .val (.long vT0), .second, .val (.long vT1), .second, .val (.long vT2), .second, .val (.long vT3), .second, .val (.long vE0), .second, .val (.long vE1), .second, .val (.long vE2), .second, .val (.long vE3), .second, .val (.ref b10), .unset, .unset, .unset, .unset, .unset, .unset, .unset, .unset] [(.long vE0), (.long vT0), (.ref b12), (.ref b12), (.ref b10)])) rfl (by rw [hml]; rfl) (Steps.refl _) (a := b12) (argsL := [(.long vT0), (.long vE0)]) (rest := [(.ref b12), (.ref b10)]) (lenOf pd_8 rfl) rfl (by show 2 * 0 + _ ≤ _; exact Nat.le_of_eq rfl) (hb hby at_143) (fun _ _ => ⟨rfl, e12, (by decide : 2 + 0 ≤ _), (by decide : 5 + 0 ≤ _)⟩)
    dsimp only [Pt.U, Pt.locs, Pt.cells, Pt.slots] at X13 l13 y13 z13 st13 hQ13
    subst l13 y13 z13
    obtain ⟨N13q, rfl, K13, Fo13_0, Fo13_1⟩ := hQ13
    have O13 := OKeep.old O12 K13 (ogeS g_b12 (ogeS g_b12 oge0))
    have N13 := Fr.app N11 N13q
    refine OGot.on st13 ?_
    show OGot p.tables e below (T13.setTop (mkF m 146 #[.val (.int p1), .val (.int p2), .val (.long q3), .second, .val (.long q4), .second, .val (.long q5), .second, .val (.long q6), .second, .val (.int (0 : Int32)), .val (.ref w_LOWEST), .val (.long vS), .second, .val (.long vT0), .second, .val (.long vT1), .second, .val (.long vT2), .second, .val (.long vT3), .second, .val (.long vE0), .second, .val (.long vE1), .second, .val (.long vE2), .second, .val (.long vE3), .second, .val (.ref b10), .unset, .unset, .unset, .unset, .unset, .unset, .unset, .unset] [(.ref b12), (.ref b10)])) _
    have ne14 : w_DEFAULTCAPACITY_EMPTY_ELEMENTDATA ≠ b10 := (O13.ne G.2.2.2.2.2.2.2.1.lt g_b10)
    have ne16 : b10 ≠ b12 := (Nat.ne_of_lt (Nat.lt_of_lt_of_le (Nat.lt_of_lt_of_le A10.lt K11.1) sy_b12))
    have F17 : Fld Z T13.heap b10 "java/util/AbstractList" "modCount" "I" (.int (0 : Int32)) := (OKeep.fld (Fo11_0.ext E12) K13 (oninA ne16 (oninA ne16 onin0)))
    have F18 : Fld Z T13.heap b10 "java/util/ArrayList" "elementData" "[Ljava/lang/Object;" (.ref w_DEFAULTCAPACITY_EMPTY_ELEMENTDATA) := (OKeep.fld (Fo11_1.ext E12) K13 (oninA ne16 (oninA ne16 onin0)))
    have F19 : Fld Z T13.heap b10 "java/util/ArrayList" "size" "I" (.int (0 : Int32)) := (OKeep.fld ((OKeep.fld F10_size K11 (oninS (slot_ne (Or.inl (ow hw 58 rfl)) (Or.inl (ow hw 26 rfl)) (by decide) (t := .int) (t' := .int) (by decide) (by decide)) (oninS (slot_ne (Or.inl (ow hw 58 rfl)) (Or.inl (ow hw 29 rfl)) (by decide) (t := .int) (t' := (.array (.object "java/lang/Object"))) (by decide) (by decide)) onin0))).ext E12) K13 (oninA ne16 (oninA ne16 onin0)))
    obtain ⟨cq15, kq15, q15a, q15b, q15c⟩ := isOf hZ rfl (OKeep.exa ((OKeep.exa A10 K11).ext E12) K13)
    obtain ⟨_, _, ⟨T15, L15, k15, n15⟩, -, X15, ⟨Lc15, hQ15, l15, y15, z15⟩, st15⟩ := X13.interfaceBack hx (xi := (⟨"java/util/List", "add", "(Ljava/lang/Object;)Z"⟩ : MethodName)) (y := (⟨"java/util/ArrayList", "add", "(Ljava/lang/Object;)Z"⟩ : MethodName)) hown (mvT hZ (ow hw 46 rfl)) (mvT hZ (ow hw 47 rfl)) (mvT hZ (ow hw 48 rfl)) (mvT hZ (ow hw 49 rfl)) (mvT hZ (ow hw 50 rfl)) (mvT hZ (ow hw 51 rfl)) (mvT hZ (ow hw 52 rfl)) (mvT hZ (ow hw 53 rfl)) (by decide) (backOf (W := 0) (rm7 l Z a0 hw [] G b10 b12 w_DEFAULTCAPACITY_EMPTY_ELEMENTDATA k_w_DEFAULTCAPACITY_EMPTY_ELEMENTDATA T13.heap n0 O13 F17 (OKeep.exa ((OKeep.exa A10 K11).ext E12) K13) g_b10 F18 F19 (G.2.2.2.2.2.2.2.2.2.2.2.ext O13.2) (G.2.2.2.2.2.2.2.1.ext O13.2) rfl (OKeep.exa A12 K13) ne14) hZ (ow hw 54 rfl) (ow hw 6 rfl) (by decide) (by decide)) q15a q15b q15c (g := (mkF m 146 #[.val (.int p1), .val (.int p2), .val (.long q3), .second, .val (.long q4), .second, .val (.long q5), .second, .val (.long q6), .second, .val (.int (0 : Int32)), .val (.ref w_LOWEST), .val (.long vS), .second, .val (.long vT0), .second, .val (.long vT1), .second, .val (.long vT2), .second, .val (.long vT3), .second, .val (.long vE0), .second, .val (.long vE1), .second, .val (.long vE2), .second, .val (.long vE3), .second, .val (.ref b10), .unset, .unset, .unset, .unset, .unset, .unset, .unset, .unset] [(.ref b12), (.ref b10)])) rfl (by rw [hml]; rfl) (Steps.refl _) (argsL := [(.ref b12)]) (rest := []) (lenOf pd_13 rfl) rfl (by show 2 * 0 + _ ≤ _; exact Nat.le_of_eq rfl) (hb hby at_146) (fun _ _ => ⟨rfl, rfl, (by decide : 2 + 1 ≤ _), (by decide : 5 + 10 ≤ _)⟩)
    dsimp only [Pt.U, Pt.locs, Pt.cells, Pt.slots] at X15 l15 y15 z15 st15 hQ15
    subst l15 y15 z15
    obtain ⟨N15q, b9_5_6_11_15, k9_5_6_11_15, rfl, szb9_5_6_11_15_15, K15, Fo15_0, Fo15_1, Fo15_2, Fo15_3, Fo15_4, Fo15_5⟩ := hQ15
    have g_b9_5_6_11_15 : n0 ≤ b9_5_6_11_15 := Nat.le_trans (osz O13) szb9_5_6_11_15_15
    have O15 := OKeep.old O13 K15 (ogeS g_b10 (ogeS g_b10 (ogeS g_b10 oge0)))
    have N15 := Fr.app N13 N15q
    refine OGot.on st15 ?_
    refine OGot.go (fun t k => XS.pop X15.here hx rfl (hb hby at_151) rfl rfl k) ?_
    obtain ⟨T20, h20, X20, e20, E20, A20, D20, -, st20⟩ := newO X15 hx hZ hown (ow hw 81 rfl) (ow hw 82 rfl) (ow hw 83 rfl) rfl (g := (mkF m 152 #[.val (.int p1), .val (.int p2), .val (.long q3), .second, .val (.long q4), .second, .val (.long q5), .second, .val (.long q6), .second, .val (.int (0 : Int32)), .val (.ref w_LOWEST), .val (.long vS), .second, .val (.long vT0), .second, .val (.long vT1), .second, .val (.long vT2), .second, .val (.long vT3), .second, .val (.long vE0), .second, .val (.long vE1), .second, .val (.long vE2), .second, .val (.long vE3), .second, .val (.ref b10), .unset, .unset, .unset, .unset, .unset, .unset, .unset, .unset] [])) rfl (hb hby at_152) (by decide) (by decide)
    obtain ⟨b20, g20⟩ : ∃ z, z = T15.heap.size := ⟨_, rfl⟩
    rw [← g20] at A20 D20 st20
    refine OGot.go st20 ?_
    have g_b20 : n0 ≤ b20 := Nat.le_trans (osz O15) (Nat.le_of_eq g20.symm)
    have sy_b20 : T15.heap.size ≤ b20 := Nat.le_of_eq g20.symm
    have O20 := O15.ext E20
    have F20_demands : Fld Z h20 b20 "com/example/restrained_scaler/restrainedscaler/decision/StabilizationWindow" "demands" "Ljava/util/Deque;" .null := D20 (Or.inr (ow hw 100 rfl)) (ty := (.object "java/util/Deque")) (by decide)
    have F20_seconds : Fld Z h20 b20 "com/example/restrained_scaler/restrainedscaler/decision/StabilizationWindow" "seconds" "J" (.long (0 : Int64)) := D20 (Or.inr (ow hw 102 rfl)) (ty := .long) (by decide)
    have F20_kept : Fld Z h20 b20 "com/example/restrained_scaler/restrainedscaler/decision/StabilizationWindow" "kept" "Lcom/example/restrained_scaler/restrainedscaler/decision/StabilizationWindow$Kept;" .null := D20 (Or.inr (ow hw 104 rfl)) (ty := (.object "com/example/restrained_scaler/restrainedscaler/decision/StabilizationWindow$Kept")) (by decide)
    refine OGot.go (fun t k => XS.dup X20.here hx rfl (hb hby at_155) rfl rfl k) ?_
    refine OGot.go (fun t k => XS.lload X20.here hx rfl (hb hby at_156) rfl k) ?_
    refine OGot.go (fun t k => XS.aload X20.here hx rfl (hb hby at_158) rfl rfl k) ?_
    show OGot p.tables e below (T20.setTop (mkF m 160 #[.val (.int p1), .val (.int p2), .val (.long q3), .second, .val (.long q4), .second, .val (.long q5), .second, .val (.long q6), .second, .val (.int (0 : Int32)), .val (.ref w_LOWEST), .val (.long vS), .second, .val (.long vT0), .second, .val (.long vT1), .second, .val (.long vT2), .second, .val (.long vT3), .second, .val (.long vE0), .second, .val (.long vE1), .second, .val (.long vE2), .second, .val (.long vE3), .second, .val (.ref b10), .unset, .unset, .unset, .unset, .unset, .unset, .unset, .unset] [(.ref w_LOWEST), (.long vS), (.ref b20), (.ref b20)])) _
    refine OGot.go (fun t k => XS.aload X20.here hx rfl (hb hby at_160) rfl rfl k) ?_
    have ne21 : b10 ≠ b20 := (Nat.ne_of_lt (Nat.lt_of_lt_of_le (Nat.lt_of_lt_of_le (Nat.lt_of_lt_of_le (Nat.lt_of_lt_of_le (Nat.lt_of_lt_of_le A10.lt K11.1) E12.1) K13.1) K15.1) sy_b20))
    have ne22 : b9_5_6_11_15 ≠ b20 := (Nat.ne_of_lt (Nat.lt_of_lt_of_le Fo15_3.lt sy_b20))
    have F24 : Fld Z h20 b10 "java/util/AbstractList" "modCount" "I" (.int (1 : Int32)) := (Fo15_0.ext E20)
    have F25 : Fld Z h20 b10 "java/util/ArrayList" "size" "I" (.int (1 : Int32)) := (Fo15_1.ext E20)
    have F26 : Fld Z h20 b10 "java/util/ArrayList" "elementData" "[Ljava/lang/Object;" (.ref b9_5_6_11_15) := (Fo15_2.ext E20)
    have F27 : Arv Z h20 b9_5_6_11_15 k9_5_6_11_15 (.object "java/lang/Object") (10 : Int32) [(.ref b12), .null, .null, .null, .null, .null, .null, .null, .null, .null] .null := (Fo15_4.ext E20)
    obtain ⟨_, _, ⟨T23, L23, k23, n23⟩, -, X23, ⟨Lc23, hQ23, l23, y23, z23⟩, st23⟩ := X20.specialBack hx (y := (⟨"com/example/restrained_scaler/restrainedscaler/decision/StabilizationWindow", "<init>", "(JLcom/example/restrained_scaler/restrainedscaler/decision/StabilizationWindow$Kept;Ljava/util/List;)V"⟩ : MethodName)) rfl hown (mvT hZ (ow hw 84 rfl)) (mvT hZ (ow hw 85 rfl)) (mvT hZ (ow hw 86 rfl)) (by decide) (backOf (W := 1) (rm12 l Z a0 hw [] G b20 vS b10 b9_5_6_11_15 k9_5_6_11_15 b12 h20 n0 O20 A20 F20_demands g_b20 F20_seconds F20_kept ((OKeep.exa (OKeep.exa ((OKeep.exa A10 K11).ext E12) K13) K15).ext E20) F24 ne21 F25 F26 F27 Fo15_5 ne22 ((OKeep.exa (OKeep.exa A12 K13) K15).ext E20)) hZ (ow hw 86 rfl) (ow hw 83 rfl) (by decide) (by decide)) (g := (mkF m 162 #[.val (.int p1), .val (.int p2), .val (.long q3), .second, .val (.long q4), .second, .val (.long q5), .second, .val (.long q6), .second, .val (.int (0 : Int32)), .val (.ref w_LOWEST), .val (.long vS), .second, .val (.long vT0), .second, .val (.long vT1), .second, .val (.long vT2), .second, .val (.long vT3), .second, .val (.long vE0), .second, .val (.long vE1), .second, .val (.long vE2), .second, .val (.long vE3), .second, .val (.ref b10), .unset, .unset, .unset, .unset, .unset, .unset, .unset, .unset] [(.ref b10), (.ref w_LOWEST), (.long vS), (.ref b20), (.ref b20)])) rfl (by rw [hml]; rfl) (Steps.refl _) (a := b20) (argsL := [(.long vS), (.ref w_LOWEST), (.ref b10)]) (rest := [(.ref b20)]) (lenOf pd_16 rfl) rfl (by show 2 * 0 + _ ≤ _; exact Nat.le_of_eq rfl) (hb hby at_162) (fun _ _ => ⟨rfl, e20, (by decide : 4 + 3 ≤ _), (by decide : 18 + 24 ≤ _)⟩)
    dsimp only [Pt.U, Pt.locs, Pt.cells, Pt.slots] at X23 l23 y23 z23 st23 hQ23
    subst l23 y23 z23
    obtain ⟨N23q, b6_23, b3_7_23, k3_7_23, rfl, szb6_23_23, szb3_7_23_23, neb6_23_b3_7_23_23, K23, Fo23_0, Fo23_1, Fo23_2, Fo23_3, Fo23_4, Fo23_5, Fo23_6, Fo23_7, Fo23_8, Fo23_9⟩ := hQ23
    have g_b6_23 : n0 ≤ b6_23 := Nat.le_trans (osz O20) szb6_23_23
    have g_b3_7_23 : n0 ≤ b3_7_23 := Nat.le_trans (osz O20) szb3_7_23_23
    have O23 := OKeep.old O20 K23 (ogeS g_b20 (ogeS g_b20 (ogeS g_b20 oge0)))
    have N23 := Fr.app N15 N23q
    refine OGot.on st23 ?_
    refine OGot.go (fun t k => XS.astore X23.here hx rfl (hb hby at_165) rfl rfl (l' := #[.val (.int p1), .val (.int p2), .val (.long q3), .second, .val (.long q4), .second, .val (.long q5), .second, .val (.long q6), .second, .val (.int (0 : Int32)), .val (.ref w_LOWEST), .val (.long vS), .second, .val (.long vT0), .second, .val (.long vT1), .second, .val (.long vT2), .second, .val (.long vT3), .second, .val (.long vE0), .second, .val (.long vE1), .second, .val (.long vE2), .second, .val (.long vE3), .second, .val (.ref b10), .val (.ref b20), .unset, .unset, .unset, .unset, .unset, .unset, .unset]) rfl k) ?_
    refine OGot.go (fun t k => XS.aload X23.here hx rfl (hb hby at_167) rfl rfl k) ?_
    have ne29 : b12 ≠ b20 := (Nat.ne_of_lt (Nat.lt_of_lt_of_le (Nat.lt_of_lt_of_le (Nat.lt_of_lt_of_le A12.lt K13.1) K15.1) sy_b20))
    have F30 : Fld Z T23.heap b12 "com/example/restrained_scaler/restrainedscaler/decision/Decider$Demand" "desired" "J" (.long vE0) := (OKeep.fld ((OKeep.fld Fo13_1 K15 (oninA (Ne.symm ne16) (oninA (Ne.symm ne16) (oninA (Ne.symm ne16) onin0)))).ext E20) K23 (oninA ne29 (oninA ne29 (oninA ne29 onin0))))
    obtain ⟨cq28, kq28, q28a, q28b, q28c⟩ := isOf hZ rfl (OKeep.exa A20 K23)
    obtain ⟨_, _, ⟨T28, L28, k28, n28⟩, -, X28, ⟨Lc28, hQ28, l28, y28, z28⟩, st28⟩ := X23.virtualBack hx (y := (⟨"com/example/restrained_scaler/restrainedscaler/decision/StabilizationWindow", "demand", "()J"⟩ : MethodName)) (z := (⟨"com/example/restrained_scaler/restrainedscaler/decision/StabilizationWindow", "demand", "()J"⟩ : MethodName)) hown (mvT hZ (ow hw 184 rfl)) (mvT hZ (ow hw 185 rfl)) (notFace_of_selects (args := #[]) (mvT hZ (ow hw 187 rfl))) (mvT hZ (ow hw 187 rfl)) (mvT hZ (ow hw 186 rfl)) (by decide) (backOf (W := 0) (rm23_1 l Z a0 hw [] G b20 b6_23 b3_7_23 k3_7_23 b12 vE0 T23.heap n0 O23 Fo23_0 Fo23_3 Fo23_4 Fo23_5 Fo23_8 Fo23_9 (OKeep.exa ((OKeep.exa (OKeep.exa A12 K13) K15).ext E20) K23) F30) hZ (ow hw 188 rfl) (ow hw 83 rfl) (by decide) (by decide)) q28a q28c (g := (mkF m 169 #[.val (.int p1), .val (.int p2), .val (.long q3), .second, .val (.long q4), .second, .val (.long q5), .second, .val (.long q6), .second, .val (.int (0 : Int32)), .val (.ref w_LOWEST), .val (.long vS), .second, .val (.long vT0), .second, .val (.long vT1), .second, .val (.long vT2), .second, .val (.long vT3), .second, .val (.long vE0), .second, .val (.long vE1), .second, .val (.long vE2), .second, .val (.long vE3), .second, .val (.ref b10), .val (.ref b20), .unset, .unset, .unset, .unset, .unset, .unset, .unset] [(.ref b20)])) rfl (by rw [hml]; rfl) (Steps.refl _) (argsL := []) (rest := []) (lenOf pd_5 rfl) rfl (by show 2 * 0 + _ ≤ _; exact Nat.le_of_eq rfl) (hb hby at_169) (fun _ _ => ⟨rfl, rfl, (by decide : 7 + 0 ≤ _), (by decide : 42 + 0 ≤ _)⟩)
    dsimp only [Pt.U, Pt.locs, Pt.cells, Pt.slots] at X28 l28 y28 z28 st28 hQ28
    subst l28 y28 z28
    obtain ⟨rfl, N28q, e28⟩ := hQ28
    have N28 := Fr.app N23 N28q
    refine OGot.on st28 ?_
    refine OGot.go (fun t k => XS.lload X28.here hx rfl (hb hby at_172) rfl k) ?_
    show OGot p.tables e below (T28.setTop (mkF m 174 #[.val (.int p1), .val (.int p2), .val (.long q3), .second, .val (.long q4), .second, .val (.long q5), .second, .val (.long q6), .second, .val (.int (0 : Int32)), .val (.ref w_LOWEST), .val (.long vS), .second, .val (.long vT0), .second, .val (.long vT1), .second, .val (.long vT2), .second, .val (.long vT3), .second, .val (.long vE0), .second, .val (.long vE1), .second, .val (.long vE2), .second, .val (.long vE3), .second, .val (.ref b10), .val (.ref b20), .unset, .unset, .unset, .unset, .unset, .unset, .unset] [(.long vE0), (.long vE0)])) _
    refine OGot.go (fun t k => XS.lcmp X28.here hx rfl (hb hby at_174) rfl k) ?_
    refine OGot.go (fun t k => XS.ifNo X28.here hx rfl (hb hby at_175) rfl ((if0 _ _).trans (teq ((lw_eq vE0 vE0).mpr rfl)).2) k) ?_
    refine OGot.go (fun t k => XS.iconst X28.here hx rfl (hb hby at_178) k) ?_
    refine OGot.go (fun t k => XS.goto X28.here hx rfl (pc0 := 179) (pc' := 183) rfl (hb hby at_179) (by decide) (by decide) k) ?_
    refine OGot.go (fun t k => XS.istore X28.here hx rfl (hb hby at_183) rfl (l' := #[.val (.int p1), .val (.int p2), .val (.long q3), .second, .val (.long q4), .second, .val (.long q5), .second, .val (.long q6), .second, .val (.int (0 : Int32)), .val (.ref w_LOWEST), .val (.long vS), .second, .val (.long vT0), .second, .val (.long vT1), .second, .val (.long vT2), .second, .val (.long vT3), .second, .val (.long vE0), .second, .val (.long vE1), .second, .val (.long vE2), .second, .val (.long vE3), .second, .val (.ref b10), .val (.ref b20), .val (.int (1 : Int32)), .unset, .unset, .unset, .unset, .unset, .unset]) rfl k) ?_
    refine OGot.go (fun t k => XS.aload X28.here hx rfl (hb hby at_185) rfl rfl k) ?_
    show OGot p.tables e below (T28.setTop (mkF m 187 #[.val (.int p1), .val (.int p2), .val (.long q3), .second, .val (.long q4), .second, .val (.long q5), .second, .val (.long q6), .second, .val (.int (0 : Int32)), .val (.ref w_LOWEST), .val (.long vS), .second, .val (.long vT0), .second, .val (.long vT1), .second, .val (.long vT2), .second, .val (.long vT3), .second, .val (.long vE0), .second, .val (.long vE1), .second, .val (.long vE2), .second, .val (.long vE3), .second, .val (.ref b10), .val (.ref b20), .val (.int (1 : Int32)), .unset, .unset, .unset, .unset, .unset, .unset] [(.ref b20)])) _
    refine OGot.go (fun t k => XS.lload X28.here hx rfl (hb hby at_187) rfl k) ?_
    refine OGot.go (fun t k => XS.lload X28.here hx rfl (hb hby at_189) rfl k) ?_
    have HQ0 : Dq Z T23.heap n0 b20 b6_23 b3_7_23 w_LOWEST vS k3_7_23 0 ([(b12, vT0, vE0)].map (·.1)) := ⟨(OKeep.exa A20 K23), Fo23_0, Fo23_2, Fo23_1, Fo23_3, Fo23_5, Fo23_6, Fo23_4, Fo23_7, Fo23_8, Fo23_9, g_b6_23, g_b3_7_23⟩
    have F31 : Fld Z T23.heap b12 "com/example/restrained_scaler/restrainedscaler/decision/Decider$Demand" "time" "J" (.long vT0) := (OKeep.fld ((OKeep.fld Fo13_0 K15 (oninA (Ne.symm ne16) (oninA (Ne.symm ne16) (oninA (Ne.symm ne16) onin0)))).ext E20) K23 (oninA ne29 (oninA ne29 (oninA ne29 onin0))))
    have HD0 : ∀ d ∈ [(b12, vT0, vE0)], Dm Z T23.heap d := fun d q => by cases List.mem_singleton.mp q; exact ⟨(OKeep.exa ((OKeep.exa (OKeep.exa A12 K13) K15).ext E20) K23), F31, F30⟩
    obtain ⟨cq32, kq32, q32a, q32b, q32c⟩ := isOf hZ e28 HQ0.1
    obtain ⟨_, _, ⟨T32, L32, k32, n32⟩, -, X32, ⟨Lc32, hQ32, l32, y32, z32⟩, st32⟩ := X28.virtualBack hx (y := (⟨"com/example/restrained_scaler/restrainedscaler/decision/StabilizationWindow", "add", "(JJ)V"⟩ : MethodName)) (z := (⟨"com/example/restrained_scaler/restrainedscaler/decision/StabilizationWindow", "add", "(JJ)V"⟩ : MethodName)) hown (mvT hZ (ow hw 205 rfl)) (mvT hZ (ow hw 206 rfl)) (notFace_of_selects (args := #[]) (mvT hZ (ow hw 208 rfl))) (mvT hZ (ow hw 208 rfl)) (mvT hZ (ow hw 207 rfl)) (by decide) (backOf (W := 0) (addAll l Z a0 hw [] G b20 b6_23 b3_7_23 w_LOWEST vS vT1 vE1 k3_7_23 0 [(b12, vT0, vE0)] T23.heap n0 O23 HQ0 HD0 (by show 0 + 1 ≤ 3; decide)) hZ (ow hw 209 rfl) (ow hw 83 rfl) (by decide) (by decide)) q32a q32c (g := (mkF m 191 #[.val (.int p1), .val (.int p2), .val (.long q3), .second, .val (.long q4), .second, .val (.long q5), .second, .val (.long q6), .second, .val (.int (0 : Int32)), .val (.ref w_LOWEST), .val (.long vS), .second, .val (.long vT0), .second, .val (.long vT1), .second, .val (.long vT2), .second, .val (.long vT3), .second, .val (.long vE0), .second, .val (.long vE1), .second, .val (.long vE2), .second, .val (.long vE3), .second, .val (.ref b10), .val (.ref b20), .val (.int (1 : Int32)), .unset, .unset, .unset, .unset, .unset, .unset] [(.long vE1), (.long vT1), (.ref b20)])) rfl (by rw [hml]; rfl) (Steps.refl _) (argsL := [(.long vT1), (.long vE1)]) (rest := []) (lenOf pd_8 rfl) rfl (by show 2 * 0 + _ ≤ _; exact Nat.le_of_eq rfl) (hb hby at_191) (fun _ _ => ⟨rfl, e28, (by decide : 7 + 1 ≤ _), (by decide : 42 + 2 ≤ _)⟩)
    dsimp only [Pt.U, Pt.locs, Pt.cells, Pt.slots] at X32 l32 y32 z32 st32 hQ32
    subst l32 y32 z32
    obtain ⟨rfl, N32q, O32, D32_, hd1, M1, hM1, le1_, HQ1, HD1⟩ := hQ32
    have le1 : hd1 + M1.length ≤ 2 := Nat.le_trans le1_ (Nat.le_refl 2)
    have ne1_ : M1 ≠ [] := by rw [hM1]; simp
    have N32 := Fr.app N28 N32q
    refine OGot.on st32 ?_
    refine OGot.go (fun t k => XS.iload X32.here hx rfl (hb hby at_194) rfl k) ?_
    refine OGot.go (fun t k => XS.lload X32.here hx rfl (hb hby at_196) rfl k) ?_
    refine OGot.go (fun t k => XS.lload X32.here hx rfl (hb hby at_198) rfl k) ?_
    show OGot p.tables e below (T32.setTop (mkF m 200 #[.val (.int p1), .val (.int p2), .val (.long q3), .second, .val (.long q4), .second, .val (.long q5), .second, .val (.long q6), .second, .val (.int (0 : Int32)), .val (.ref w_LOWEST), .val (.long vS), .second, .val (.long vT0), .second, .val (.long vT1), .second, .val (.long vT2), .second, .val (.long vT3), .second, .val (.long vE0), .second, .val (.long vE1), .second, .val (.long vE2), .second, .val (.long vE3), .second, .val (.ref b10), .val (.ref b20), .val (.int (1 : Int32)), .unset, .unset, .unset, .unset, .unset, .unset] [(.long vT0), (.long vE1), (.int (0 : Int32))])) _
    refine OGot.go (fun t k => XS.lload X32.here hx rfl (hb hby at_200) rfl k) ?_
    refine OGot.go (fun t k => XS.lload X32.here hx rfl (hb hby at_202) rfl k) ?_
    refine OGot.go (fun t k => XS.lsub X32.here hx rfl (hb hby at_204) rfl k) ?_
    refine OGot.go (fun t k => XS.lcmp X32.here hx rfl (hb hby at_205) rfl k) ?_
    show OGot p.tables e below (T32.setTop (mkF m 206 #[.val (.int p1), .val (.int p2), .val (.long q3), .second, .val (.long q4), .second, .val (.long q5), .second, .val (.long q6), .second, .val (.int (0 : Int32)), .val (.ref w_LOWEST), .val (.long vS), .second, .val (.long vT0), .second, .val (.long vT1), .second, .val (.long vT2), .second, .val (.long vT3), .second, .val (.long vE0), .second, .val (.long vE1), .second, .val (.long vE2), .second, .val (.long vE3), .second, .val (.ref b10), .val (.ref b20), .val (.int (1 : Int32)), .unset, .unset, .unset, .unset, .unset, .unset] [(.int (lcmpW vT0 (vT1 - vS))), (.long vE1), (.int (0 : Int32))])) _
    refine OGot.go (B := T32.setTop (mkF m 214 #[.val (.int p1), .val (.int p2), .val (.long q3), .second, .val (.long q4), .second, .val (.long q5), .second, .val (.long q6), .second, .val (.int (0 : Int32)), .val (.ref w_LOWEST), .val (.long vS), .second, .val (.long vT0), .second, .val (.long vT1), .second, .val (.long vT2), .second, .val (.long vT3), .second, .val (.long vE0), .second, .val (.long vE1), .second, .val (.long vE2), .second, .val (.long vE3), .second, .val (.ref b10), .val (.ref b20), .val (.int (1 : Int32)), .unset, .unset, .unset, .unset, .unset, .unset] [(.int (if (vT1 - vS) < vT0 then (1 : Int32) else (0 : Int32))), (.long vE1), (.int (0 : Int32))])) (fun t k => ?_) ?_
    · by_cases hj33 : (vT1 - vS) < vT0
      · refine XS.ifNo X32.here hx rfl (hb hby at_206) rfl ((if0 _ _).trans (tlt ((lw_gt vT0 (vT1 - vS)).mpr hj33)).2.2.2) ?_
        show Steps p.tables e below (T32.setTop (mkF m 209 #[.val (.int p1), .val (.int p2), .val (.long q3), .second, .val (.long q4), .second, .val (.long q5), .second, .val (.long q6), .second, .val (.int (0 : Int32)), .val (.ref w_LOWEST), .val (.long vS), .second, .val (.long vT0), .second, .val (.long vT1), .second, .val (.long vT2), .second, .val (.long vT3), .second, .val (.long vE0), .second, .val (.long vE1), .second, .val (.long vE2), .second, .val (.long vE3), .second, .val (.ref b10), .val (.ref b20), .val (.int (1 : Int32)), .unset, .unset, .unset, .unset, .unset, .unset] [(.long vE1), (.int (0 : Int32))])) _
        refine XS.iconst X32.here hx rfl (hb hby at_209) ?_
        show Steps p.tables e below (T32.setTop (mkF m 210 #[.val (.int p1), .val (.int p2), .val (.long q3), .second, .val (.long q4), .second, .val (.long q5), .second, .val (.long q6), .second, .val (.int (0 : Int32)), .val (.ref w_LOWEST), .val (.long vS), .second, .val (.long vT0), .second, .val (.long vT1), .second, .val (.long vT2), .second, .val (.long vT3), .second, .val (.long vE0), .second, .val (.long vE1), .second, .val (.long vE2), .second, .val (.long vE3), .second, .val (.ref b10), .val (.ref b20), .val (.int (1 : Int32)), .unset, .unset, .unset, .unset, .unset, .unset] [(.int (1 : Int32)), (.long vE1), (.int (0 : Int32))])) _
        refine XS.goto X32.here hx rfl (pc0 := 210) (pc' := 214) rfl (hb hby at_210) (by decide) (by decide) ?_
        show Steps p.tables e below (T32.setTop (mkF m 214 #[.val (.int p1), .val (.int p2), .val (.long q3), .second, .val (.long q4), .second, .val (.long q5), .second, .val (.long q6), .second, .val (.int (0 : Int32)), .val (.ref w_LOWEST), .val (.long vS), .second, .val (.long vT0), .second, .val (.long vT1), .second, .val (.long vT2), .second, .val (.long vT3), .second, .val (.long vE0), .second, .val (.long vE1), .second, .val (.long vE2), .second, .val (.long vE3), .second, .val (.ref b10), .val (.ref b20), .val (.int (1 : Int32)), .unset, .unset, .unset, .unset, .unset, .unset] [(.int (1 : Int32)), (.long vE1), (.int (0 : Int32))])) _
        simp only [if_pos hj33] at k
        exact k
      · refine XS.ifYes X32.here hx rfl (pc0 := 206) (pc' := 213) rfl (hb hby at_206) rfl ((if0 _ _).trans (flt (fun q => hj33 ((lw_gt vT0 (vT1 - vS)).mp q))).2.2.2) (by decide) (by decide) ?_
        show Steps p.tables e below (T32.setTop (mkF m 213 #[.val (.int p1), .val (.int p2), .val (.long q3), .second, .val (.long q4), .second, .val (.long q5), .second, .val (.long q6), .second, .val (.int (0 : Int32)), .val (.ref w_LOWEST), .val (.long vS), .second, .val (.long vT0), .second, .val (.long vT1), .second, .val (.long vT2), .second, .val (.long vT3), .second, .val (.long vE0), .second, .val (.long vE1), .second, .val (.long vE2), .second, .val (.long vE3), .second, .val (.ref b10), .val (.ref b20), .val (.int (1 : Int32)), .unset, .unset, .unset, .unset, .unset, .unset] [(.long vE1), (.int (0 : Int32))])) _
        refine XS.iconst X32.here hx rfl (hb hby at_213) ?_
        show Steps p.tables e below (T32.setTop (mkF m 214 #[.val (.int p1), .val (.int p2), .val (.long q3), .second, .val (.long q4), .second, .val (.long q5), .second, .val (.long q6), .second, .val (.int (0 : Int32)), .val (.ref w_LOWEST), .val (.long vS), .second, .val (.long vT0), .second, .val (.long vT1), .second, .val (.long vT2), .second, .val (.long vT3), .second, .val (.long vE0), .second, .val (.long vE1), .second, .val (.long vE2), .second, .val (.long vE3), .second, .val (.ref b10), .val (.ref b20), .val (.int (1 : Int32)), .unset, .unset, .unset, .unset, .unset, .unset] [(.int (0 : Int32)), (.long vE1), (.int (0 : Int32))])) _
        simp only [if_neg hj33] at k
        exact k
    refine OGot.go (fun t k => XS.lload X32.here hx rfl (hb hby at_214) rfl k) ?_
    obtain ⟨_, _, ⟨T34, L34, k34, n34⟩, -, X34, ⟨Lc34, hQ34, l34, y34, z34⟩, st34⟩ := Jvm.LawKit.callS X32 hx (y := (⟨"com/example/restrained_scaler/restrainedscaler/decision/StabilizationWindowDemandPinLaw", "fold", "(ZJZJ)J"⟩ : MethodName)) hown (mvT hZ (ow hw 237 rfl)) (mvT hZ (ow hw 238 rfl)) (mvT hZ (ow hw 239 rfl)) (mvT hZ (ow hw 240 rfl)) (by decide) (backOf (W := 0) (rm32 l Z a0 hw [] G vE1 (if (vT1 - vS) < vT0 then (1 : Int32) else (0 : Int32)) vE0 T32.heap n0 O32 ) hZ (ow hw 240 rfl) (ow hw 239 rfl) (by decide) (by decide)) (g := (mkF m 216 #[.val (.int p1), .val (.int p2), .val (.long q3), .second, .val (.long q4), .second, .val (.long q5), .second, .val (.long q6), .second, .val (.int (0 : Int32)), .val (.ref w_LOWEST), .val (.long vS), .second, .val (.long vT0), .second, .val (.long vT1), .second, .val (.long vT2), .second, .val (.long vT3), .second, .val (.long vE0), .second, .val (.long vE1), .second, .val (.long vE2), .second, .val (.long vE3), .second, .val (.ref b10), .val (.ref b20), .val (.int (1 : Int32)), .unset, .unset, .unset, .unset, .unset, .unset] [(.long vE0), (.int (if (vT1 - vS) < vT0 then (1 : Int32) else (0 : Int32))), (.long vE1), (.int (0 : Int32))])) rfl (by rw [hml]; rfl) (argsL := [(.int (0 : Int32)), (.long vE1), (.int (if (vT1 - vS) < vT0 then (1 : Int32) else (0 : Int32))), (.long vE0)]) (rest := []) (lenOf pd_18 rfl) rfl (by show 2 * 0 + _ ≤ _; exact Nat.le_of_eq rfl) (hb hby at_216) (fun _ _ => ⟨rfl, rfl, (by decide : 8 + 0 ≤ _), (by decide : 44 + 0 ≤ _)⟩)
    dsimp only [Pt.U, Pt.locs, Pt.cells, Pt.slots] at X34 l34 y34 z34 st34 hQ34
    subst l34 y34 z34
    obtain ⟨rfl, N34q, e34⟩ := hQ34
    have N34 := Fr.app N32 N34q
    refine OGot.go st34 ?_
    refine OGot.go (fun t k => XS.lstore X34.here hx rfl (hb hby at_219) rfl (l' := #[.val (.int p1), .val (.int p2), .val (.long q3), .second, .val (.long q4), .second, .val (.long q5), .second, .val (.long q6), .second, .val (.int (0 : Int32)), .val (.ref w_LOWEST), .val (.long vS), .second, .val (.long vT0), .second, .val (.long vT1), .second, .val (.long vT2), .second, .val (.long vT3), .second, .val (.long vE0), .second, .val (.long vE1), .second, .val (.long vE2), .second, .val (.long vE3), .second, .val (.ref b10), .val (.ref b20), .val (.int (1 : Int32)), .val (.long (f32 vE1 (if (vT1 - vS) < vT0 then (1 : Int32) else (0 : Int32)) vE0)), .second, .unset, .unset, .unset, .unset]) rfl k) ?_
    refine OGot.go (fun t k => XS.iload X34.here hx rfl (hb hby at_221) rfl k) ?_
    refine OGot.go (fun t k => XS.aload X34.here hx rfl (hb hby at_223) rfl rfl k) ?_
    show OGot p.tables e below (T34.setTop (mkF m 225 #[.val (.int p1), .val (.int p2), .val (.long q3), .second, .val (.long q4), .second, .val (.long q5), .second, .val (.long q6), .second, .val (.int (0 : Int32)), .val (.ref w_LOWEST), .val (.long vS), .second, .val (.long vT0), .second, .val (.long vT1), .second, .val (.long vT2), .second, .val (.long vT3), .second, .val (.long vE0), .second, .val (.long vE1), .second, .val (.long vE2), .second, .val (.long vE3), .second, .val (.ref b10), .val (.ref b20), .val (.int (1 : Int32)), .val (.long (f32 vE1 (if (vT1 - vS) < vT0 then (1 : Int32) else (0 : Int32)) vE0)), .second, .unset, .unset, .unset, .unset] [(.ref b20), (.int (1 : Int32))])) _
    obtain ⟨cq35, kq35, q35a, q35b, q35c⟩ := isOf hZ e34 HQ1.1
    obtain ⟨_, _, ⟨T35, L35, k35, n35⟩, -, X35, ⟨Lc35, hQ35, l35, y35, z35⟩, st35⟩ := X34.virtualBack hx (y := (⟨"com/example/restrained_scaler/restrainedscaler/decision/StabilizationWindow", "demand", "()J"⟩ : MethodName)) (z := (⟨"com/example/restrained_scaler/restrainedscaler/decision/StabilizationWindow", "demand", "()J"⟩ : MethodName)) hown (mvT hZ (ow hw 184 rfl)) (mvT hZ (ow hw 185 rfl)) (notFace_of_selects (args := #[]) (mvT hZ (ow hw 187 rfl))) (mvT hZ (ow hw 187 rfl)) (mvT hZ (ow hw 186 rfl)) (by decide) (backOf (W := 1) (demAll l Z a0 hw [] G b20 b6_23 b3_7_23 w_LOWEST vS k3_7_23 hd1 M1 T32.heap n0 O32 HQ1 HD1 (Nat.le_trans le1 (by decide)) ne1_) hZ (ow hw 188 rfl) (ow hw 83 rfl) (by decide) (by decide)) q35a q35c (g := (mkF m 225 #[.val (.int p1), .val (.int p2), .val (.long q3), .second, .val (.long q4), .second, .val (.long q5), .second, .val (.long q6), .second, .val (.int (0 : Int32)), .val (.ref w_LOWEST), .val (.long vS), .second, .val (.long vT0), .second, .val (.long vT1), .second, .val (.long vT2), .second, .val (.long vT3), .second, .val (.long vE0), .second, .val (.long vE1), .second, .val (.long vE2), .second, .val (.long vE3), .second, .val (.ref b10), .val (.ref b20), .val (.int (1 : Int32)), .val (.long (f32 vE1 (if (vT1 - vS) < vT0 then (1 : Int32) else (0 : Int32)) vE0)), .second, .unset, .unset, .unset, .unset] [(.ref b20), (.int (1 : Int32))])) rfl (by rw [hml]; rfl) (Steps.refl _) (argsL := []) (rest := [(.int (1 : Int32))]) (lenOf pd_5 rfl) rfl (by show 2 * 0 + _ ≤ _; exact Nat.le_of_eq rfl) (hb hby at_225) (fun _ _ => ⟨rfl, e34, (by decide : 8 + 0 ≤ _), (by decide : 44 + 0 ≤ _)⟩)
    dsimp only [Pt.U, Pt.locs, Pt.cells, Pt.slots] at X35 l35 y35 z35 st35 hQ35
    subst l35 y35 z35
    obtain ⟨rfl, N35q, e35⟩ := hQ35
    have N35 := Fr.app N34 N35q
    refine OGot.on st35 ?_
    refine OGot.go (fun t k => XS.lload X35.here hx rfl (hb hby at_228) rfl k) ?_
    refine OGot.go (fun t k => XS.lcmp X35.here hx rfl (hb hby at_230) rfl k) ?_
    refine OGot.go (fun t k => XS.ifNo X35.here hx rfl (hb hby at_231) rfl ((if0 _ _).trans (teq ((lw_eq (dem M1) (f32 vE1 (if (vT1 - vS) < vT0 then (1 : Int32) else (0 : Int32)) vE0)).mpr (own_r1L (own_times h_vS h_vT0 h_vT1 h_vT2 h_vT3) ((Fld.ne G.2.2.2.2.2.2.2.2.1 G.2.2.2.2.2.2.2.2.2.1 (by decide))) hM1))).2) k) ?_
    refine OGot.go (fun t k => XS.iconst X35.here hx rfl (hb hby at_234) k) ?_
    refine OGot.go (fun t k => XS.goto X35.here hx rfl (pc0 := 235) (pc' := 239) rfl (hb hby at_235) (by decide) (by decide) k) ?_
    show OGot p.tables e below (T35.setTop (mkF m 239 #[.val (.int p1), .val (.int p2), .val (.long q3), .second, .val (.long q4), .second, .val (.long q5), .second, .val (.long q6), .second, .val (.int (0 : Int32)), .val (.ref w_LOWEST), .val (.long vS), .second, .val (.long vT0), .second, .val (.long vT1), .second, .val (.long vT2), .second, .val (.long vT3), .second, .val (.long vE0), .second, .val (.long vE1), .second, .val (.long vE2), .second, .val (.long vE3), .second, .val (.ref b10), .val (.ref b20), .val (.int (1 : Int32)), .val (.long (f32 vE1 (if (vT1 - vS) < vT0 then (1 : Int32) else (0 : Int32)) vE0)), .second, .unset, .unset, .unset, .unset] [(.int (1 : Int32)), (.int (1 : Int32))])) _
    refine OGot.go (fun t k => XS.iand X35.here hx rfl (hb hby at_239) rfl k) ?_
    show OGot p.tables e below (T35.setTop (mkF m 240 #[.val (.int p1), .val (.int p2), .val (.long q3), .second, .val (.long q4), .second, .val (.long q5), .second, .val (.long q6), .second, .val (.int (0 : Int32)), .val (.ref w_LOWEST), .val (.long vS), .second, .val (.long vT0), .second, .val (.long vT1), .second, .val (.long vT2), .second, .val (.long vT3), .second, .val (.long vE0), .second, .val (.long vE1), .second, .val (.long vE2), .second, .val (.long vE3), .second, .val (.ref b10), .val (.ref b20), .val (.int (1 : Int32)), .val (.long (f32 vE1 (if (vT1 - vS) < vT0 then (1 : Int32) else (0 : Int32)) vE0)), .second, .unset, .unset, .unset, .unset] [(.int ((1 : Int32) &&& (1 : Int32)))])) _
    rw [show ((1 : Int32) &&& (1 : Int32)) = (1 : Int32) from by decide]
    refine OGot.go (fun t k => XS.istore X35.here hx rfl (hb hby at_240) rfl (l' := #[.val (.int p1), .val (.int p2), .val (.long q3), .second, .val (.long q4), .second, .val (.long q5), .second, .val (.long q6), .second, .val (.int (0 : Int32)), .val (.ref w_LOWEST), .val (.long vS), .second, .val (.long vT0), .second, .val (.long vT1), .second, .val (.long vT2), .second, .val (.long vT3), .second, .val (.long vE0), .second, .val (.long vE1), .second, .val (.long vE2), .second, .val (.long vE3), .second, .val (.ref b10), .val (.ref b20), .val (.int (1 : Int32)), .val (.long (f32 vE1 (if (vT1 - vS) < vT0 then (1 : Int32) else (0 : Int32)) vE0)), .second, .unset, .unset, .unset, .unset]) rfl k) ?_
    refine OGot.go (fun t k => XS.aload X35.here hx rfl (hb hby at_242) rfl rfl k) ?_
    refine OGot.go (fun t k => XS.lload X35.here hx rfl (hb hby at_244) rfl k) ?_
    refine OGot.go (fun t k => XS.lload X35.here hx rfl (hb hby at_246) rfl k) ?_
    obtain ⟨cq36, kq36, q36a, q36b, q36c⟩ := isOf hZ e35 HQ1.1
    obtain ⟨_, _, ⟨T36, L36, k36, n36⟩, -, X36, ⟨Lc36, hQ36, l36, y36, z36⟩, st36⟩ := X35.virtualBack hx (y := (⟨"com/example/restrained_scaler/restrainedscaler/decision/StabilizationWindow", "add", "(JJ)V"⟩ : MethodName)) (z := (⟨"com/example/restrained_scaler/restrainedscaler/decision/StabilizationWindow", "add", "(JJ)V"⟩ : MethodName)) hown (mvT hZ (ow hw 205 rfl)) (mvT hZ (ow hw 206 rfl)) (notFace_of_selects (args := #[]) (mvT hZ (ow hw 208 rfl))) (mvT hZ (ow hw 208 rfl)) (mvT hZ (ow hw 207 rfl)) (by decide) (backOf (W := 0) (addAll l Z a0 hw [] G b20 b6_23 b3_7_23 w_LOWEST vS vT2 vE2 k3_7_23 hd1 M1 T32.heap n0 O32 HQ1 HD1 (Nat.le_trans le1 (by decide))) hZ (ow hw 209 rfl) (ow hw 83 rfl) (by decide) (by decide)) q36a q36c (g := (mkF m 248 #[.val (.int p1), .val (.int p2), .val (.long q3), .second, .val (.long q4), .second, .val (.long q5), .second, .val (.long q6), .second, .val (.int (0 : Int32)), .val (.ref w_LOWEST), .val (.long vS), .second, .val (.long vT0), .second, .val (.long vT1), .second, .val (.long vT2), .second, .val (.long vT3), .second, .val (.long vE0), .second, .val (.long vE1), .second, .val (.long vE2), .second, .val (.long vE3), .second, .val (.ref b10), .val (.ref b20), .val (.int (1 : Int32)), .val (.long (f32 vE1 (if (vT1 - vS) < vT0 then (1 : Int32) else (0 : Int32)) vE0)), .second, .unset, .unset, .unset, .unset] [(.long vE2), (.long vT2), (.ref b20)])) rfl (by rw [hml]; rfl) (Steps.refl _) (argsL := [(.long vT2), (.long vE2)]) (rest := []) (lenOf pd_8 rfl) rfl (by show 2 * 0 + _ ≤ _; exact Nat.le_of_eq rfl) (hb hby at_248) (fun _ _ => ⟨rfl, e35, (by decide : 8 + 1 ≤ _), (by decide : 44 + 2 ≤ _)⟩)
    dsimp only [Pt.U, Pt.locs, Pt.cells, Pt.slots] at X36 l36 y36 z36 st36 hQ36
    subst l36 y36 z36
    obtain ⟨rfl, N36q, O36, D36_, hd2, M2, hM2, le2_, HQ2, HD2⟩ := hQ36
    have le2 : hd2 + M2.length ≤ 3 := Nat.le_trans le2_ (Nat.succ_le_succ le1)
    have ne2_ : M2 ≠ [] := by rw [hM2]; simp
    have N36 := Fr.app N35 N36q
    refine OGot.on st36 ?_
    show OGot p.tables e below (T36.setTop (mkF m 251 #[.val (.int p1), .val (.int p2), .val (.long q3), .second, .val (.long q4), .second, .val (.long q5), .second, .val (.long q6), .second, .val (.int (0 : Int32)), .val (.ref w_LOWEST), .val (.long vS), .second, .val (.long vT0), .second, .val (.long vT1), .second, .val (.long vT2), .second, .val (.long vT3), .second, .val (.long vE0), .second, .val (.long vE1), .second, .val (.long vE2), .second, .val (.long vE3), .second, .val (.ref b10), .val (.ref b20), .val (.int (1 : Int32)), .val (.long (f32 vE1 (if (vT1 - vS) < vT0 then (1 : Int32) else (0 : Int32)) vE0)), .second, .unset, .unset, .unset, .unset] [])) _
    refine OGot.go (fun t k => XS.iload X36.here hx rfl (hb hby at_251) rfl k) ?_
    refine OGot.go (fun t k => XS.iload X36.here hx rfl (hb hby at_253) rfl k) ?_
    refine OGot.go (fun t k => XS.lload X36.here hx rfl (hb hby at_255) rfl k) ?_
    refine OGot.go (fun t k => XS.lload X36.here hx rfl (hb hby at_257) rfl k) ?_
    refine OGot.go (fun t k => XS.lload X36.here hx rfl (hb hby at_259) rfl k) ?_
    refine OGot.go (fun t k => XS.lload X36.here hx rfl (hb hby at_261) rfl k) ?_
    show OGot p.tables e below (T36.setTop (mkF m 263 #[.val (.int p1), .val (.int p2), .val (.long q3), .second, .val (.long q4), .second, .val (.long q5), .second, .val (.long q6), .second, .val (.int (0 : Int32)), .val (.ref w_LOWEST), .val (.long vS), .second, .val (.long vT0), .second, .val (.long vT1), .second, .val (.long vT2), .second, .val (.long vT3), .second, .val (.long vE0), .second, .val (.long vE1), .second, .val (.long vE2), .second, .val (.long vE3), .second, .val (.ref b10), .val (.ref b20), .val (.int (1 : Int32)), .val (.long (f32 vE1 (if (vT1 - vS) < vT0 then (1 : Int32) else (0 : Int32)) vE0)), .second, .unset, .unset, .unset, .unset] [(.long vS), (.long vT2), (.long vT1), (.long vE2), (.int (0 : Int32)), (.int (0 : Int32))])) _
    refine OGot.go (fun t k => XS.lsub X36.here hx rfl (hb hby at_263) rfl k) ?_
    refine OGot.go (fun t k => XS.lcmp X36.here hx rfl (hb hby at_264) rfl k) ?_
    show OGot p.tables e below (T36.setTop (mkF m 265 #[.val (.int p1), .val (.int p2), .val (.long q3), .second, .val (.long q4), .second, .val (.long q5), .second, .val (.long q6), .second, .val (.int (0 : Int32)), .val (.ref w_LOWEST), .val (.long vS), .second, .val (.long vT0), .second, .val (.long vT1), .second, .val (.long vT2), .second, .val (.long vT3), .second, .val (.long vE0), .second, .val (.long vE1), .second, .val (.long vE2), .second, .val (.long vE3), .second, .val (.ref b10), .val (.ref b20), .val (.int (1 : Int32)), .val (.long (f32 vE1 (if (vT1 - vS) < vT0 then (1 : Int32) else (0 : Int32)) vE0)), .second, .unset, .unset, .unset, .unset] [(.int (lcmpW vT1 (vT2 - vS))), (.long vE2), (.int (0 : Int32)), (.int (0 : Int32))])) _
    refine OGot.go (B := T36.setTop (mkF m 273 #[.val (.int p1), .val (.int p2), .val (.long q3), .second, .val (.long q4), .second, .val (.long q5), .second, .val (.long q6), .second, .val (.int (0 : Int32)), .val (.ref w_LOWEST), .val (.long vS), .second, .val (.long vT0), .second, .val (.long vT1), .second, .val (.long vT2), .second, .val (.long vT3), .second, .val (.long vE0), .second, .val (.long vE1), .second, .val (.long vE2), .second, .val (.long vE3), .second, .val (.ref b10), .val (.ref b20), .val (.int (1 : Int32)), .val (.long (f32 vE1 (if (vT1 - vS) < vT0 then (1 : Int32) else (0 : Int32)) vE0)), .second, .unset, .unset, .unset, .unset] [(.int (if (vT2 - vS) < vT1 then (1 : Int32) else (0 : Int32))), (.long vE2), (.int (0 : Int32)), (.int (0 : Int32))])) (fun t k => ?_) ?_
    · by_cases hj37 : (vT2 - vS) < vT1
      · refine XS.ifNo X36.here hx rfl (hb hby at_265) rfl ((if0 _ _).trans (tlt ((lw_gt vT1 (vT2 - vS)).mpr hj37)).2.2.2) ?_
        show Steps p.tables e below (T36.setTop (mkF m 268 #[.val (.int p1), .val (.int p2), .val (.long q3), .second, .val (.long q4), .second, .val (.long q5), .second, .val (.long q6), .second, .val (.int (0 : Int32)), .val (.ref w_LOWEST), .val (.long vS), .second, .val (.long vT0), .second, .val (.long vT1), .second, .val (.long vT2), .second, .val (.long vT3), .second, .val (.long vE0), .second, .val (.long vE1), .second, .val (.long vE2), .second, .val (.long vE3), .second, .val (.ref b10), .val (.ref b20), .val (.int (1 : Int32)), .val (.long (f32 vE1 (if (vT1 - vS) < vT0 then (1 : Int32) else (0 : Int32)) vE0)), .second, .unset, .unset, .unset, .unset] [(.long vE2), (.int (0 : Int32)), (.int (0 : Int32))])) _
        refine XS.iconst X36.here hx rfl (hb hby at_268) ?_
        show Steps p.tables e below (T36.setTop (mkF m 269 #[.val (.int p1), .val (.int p2), .val (.long q3), .second, .val (.long q4), .second, .val (.long q5), .second, .val (.long q6), .second, .val (.int (0 : Int32)), .val (.ref w_LOWEST), .val (.long vS), .second, .val (.long vT0), .second, .val (.long vT1), .second, .val (.long vT2), .second, .val (.long vT3), .second, .val (.long vE0), .second, .val (.long vE1), .second, .val (.long vE2), .second, .val (.long vE3), .second, .val (.ref b10), .val (.ref b20), .val (.int (1 : Int32)), .val (.long (f32 vE1 (if (vT1 - vS) < vT0 then (1 : Int32) else (0 : Int32)) vE0)), .second, .unset, .unset, .unset, .unset] [(.int (1 : Int32)), (.long vE2), (.int (0 : Int32)), (.int (0 : Int32))])) _
        refine XS.goto X36.here hx rfl (pc0 := 269) (pc' := 273) rfl (hb hby at_269) (by decide) (by decide) ?_
        show Steps p.tables e below (T36.setTop (mkF m 273 #[.val (.int p1), .val (.int p2), .val (.long q3), .second, .val (.long q4), .second, .val (.long q5), .second, .val (.long q6), .second, .val (.int (0 : Int32)), .val (.ref w_LOWEST), .val (.long vS), .second, .val (.long vT0), .second, .val (.long vT1), .second, .val (.long vT2), .second, .val (.long vT3), .second, .val (.long vE0), .second, .val (.long vE1), .second, .val (.long vE2), .second, .val (.long vE3), .second, .val (.ref b10), .val (.ref b20), .val (.int (1 : Int32)), .val (.long (f32 vE1 (if (vT1 - vS) < vT0 then (1 : Int32) else (0 : Int32)) vE0)), .second, .unset, .unset, .unset, .unset] [(.int (1 : Int32)), (.long vE2), (.int (0 : Int32)), (.int (0 : Int32))])) _
        simp only [if_pos hj37] at k
        exact k
      · refine XS.ifYes X36.here hx rfl (pc0 := 265) (pc' := 272) rfl (hb hby at_265) rfl ((if0 _ _).trans (flt (fun q => hj37 ((lw_gt vT1 (vT2 - vS)).mp q))).2.2.2) (by decide) (by decide) ?_
        show Steps p.tables e below (T36.setTop (mkF m 272 #[.val (.int p1), .val (.int p2), .val (.long q3), .second, .val (.long q4), .second, .val (.long q5), .second, .val (.long q6), .second, .val (.int (0 : Int32)), .val (.ref w_LOWEST), .val (.long vS), .second, .val (.long vT0), .second, .val (.long vT1), .second, .val (.long vT2), .second, .val (.long vT3), .second, .val (.long vE0), .second, .val (.long vE1), .second, .val (.long vE2), .second, .val (.long vE3), .second, .val (.ref b10), .val (.ref b20), .val (.int (1 : Int32)), .val (.long (f32 vE1 (if (vT1 - vS) < vT0 then (1 : Int32) else (0 : Int32)) vE0)), .second, .unset, .unset, .unset, .unset] [(.long vE2), (.int (0 : Int32)), (.int (0 : Int32))])) _
        refine XS.iconst X36.here hx rfl (hb hby at_272) ?_
        show Steps p.tables e below (T36.setTop (mkF m 273 #[.val (.int p1), .val (.int p2), .val (.long q3), .second, .val (.long q4), .second, .val (.long q5), .second, .val (.long q6), .second, .val (.int (0 : Int32)), .val (.ref w_LOWEST), .val (.long vS), .second, .val (.long vT0), .second, .val (.long vT1), .second, .val (.long vT2), .second, .val (.long vT3), .second, .val (.long vE0), .second, .val (.long vE1), .second, .val (.long vE2), .second, .val (.long vE3), .second, .val (.ref b10), .val (.ref b20), .val (.int (1 : Int32)), .val (.long (f32 vE1 (if (vT1 - vS) < vT0 then (1 : Int32) else (0 : Int32)) vE0)), .second, .unset, .unset, .unset, .unset] [(.int (0 : Int32)), (.long vE2), (.int (0 : Int32)), (.int (0 : Int32))])) _
        simp only [if_neg hj37] at k
        exact k
    refine OGot.go (fun t k => XS.lload X36.here hx rfl (hb hby at_273) rfl k) ?_
    obtain ⟨_, _, ⟨T38, L38, k38, n38⟩, -, X38, ⟨Lc38, hQ38, l38, y38, z38⟩, st38⟩ := Jvm.LawKit.callS X36 hx (y := (⟨"com/example/restrained_scaler/restrainedscaler/decision/StabilizationWindowDemandPinLaw", "fold", "(ZJZJ)J"⟩ : MethodName)) hown (mvT hZ (ow hw 237 rfl)) (mvT hZ (ow hw 238 rfl)) (mvT hZ (ow hw 239 rfl)) (mvT hZ (ow hw 240 rfl)) (by decide) (backOf (W := 1) (rm32 l Z a0 hw [] G vE2 (if (vT2 - vS) < vT1 then (1 : Int32) else (0 : Int32)) vE1 T36.heap n0 O36 ) hZ (ow hw 240 rfl) (ow hw 239 rfl) (by decide) (by decide)) (g := (mkF m 275 #[.val (.int p1), .val (.int p2), .val (.long q3), .second, .val (.long q4), .second, .val (.long q5), .second, .val (.long q6), .second, .val (.int (0 : Int32)), .val (.ref w_LOWEST), .val (.long vS), .second, .val (.long vT0), .second, .val (.long vT1), .second, .val (.long vT2), .second, .val (.long vT3), .second, .val (.long vE0), .second, .val (.long vE1), .second, .val (.long vE2), .second, .val (.long vE3), .second, .val (.ref b10), .val (.ref b20), .val (.int (1 : Int32)), .val (.long (f32 vE1 (if (vT1 - vS) < vT0 then (1 : Int32) else (0 : Int32)) vE0)), .second, .unset, .unset, .unset, .unset] [(.long vE1), (.int (if (vT2 - vS) < vT1 then (1 : Int32) else (0 : Int32))), (.long vE2), (.int (0 : Int32)), (.int (0 : Int32))])) rfl (by rw [hml]; rfl) (argsL := [(.int (0 : Int32)), (.long vE2), (.int (if (vT2 - vS) < vT1 then (1 : Int32) else (0 : Int32))), (.long vE1)]) (rest := [(.int (0 : Int32))]) (lenOf pd_18 rfl) rfl (by show 2 * 0 + _ ≤ _; exact Nat.le_of_eq rfl) (hb hby at_275) (fun _ _ => ⟨rfl, rfl, (by decide : 9 + 0 ≤ _), (by decide : 46 + 0 ≤ _)⟩)
    dsimp only [Pt.U, Pt.locs, Pt.cells, Pt.slots] at X38 l38 y38 z38 st38 hQ38
    subst l38 y38 z38
    obtain ⟨rfl, N38q, e38⟩ := hQ38
    have N38 := Fr.app N36 N38q
    refine OGot.go st38 ?_
    refine OGot.go (fun t k => XS.lload X38.here hx rfl (hb hby at_278) rfl k) ?_
    refine OGot.go (fun t k => XS.lload X38.here hx rfl (hb hby at_280) rfl k) ?_
    refine OGot.go (fun t k => XS.lload X38.here hx rfl (hb hby at_282) rfl k) ?_
    show OGot p.tables e below (T38.setTop (mkF m 284 #[.val (.int p1), .val (.int p2), .val (.long q3), .second, .val (.long q4), .second, .val (.long q5), .second, .val (.long q6), .second, .val (.int (0 : Int32)), .val (.ref w_LOWEST), .val (.long vS), .second, .val (.long vT0), .second, .val (.long vT1), .second, .val (.long vT2), .second, .val (.long vT3), .second, .val (.long vE0), .second, .val (.long vE1), .second, .val (.long vE2), .second, .val (.long vE3), .second, .val (.ref b10), .val (.ref b20), .val (.int (1 : Int32)), .val (.long (f32 vE1 (if (vT1 - vS) < vT0 then (1 : Int32) else (0 : Int32)) vE0)), .second, .unset, .unset, .unset, .unset] [(.long vS), (.long vT2), (.long vT0), (.long (f32 vE2 (if (vT2 - vS) < vT1 then (1 : Int32) else (0 : Int32)) vE1)), (.int (0 : Int32))])) _
    refine OGot.go (fun t k => XS.lsub X38.here hx rfl (hb hby at_284) rfl k) ?_
    refine OGot.go (fun t k => XS.lcmp X38.here hx rfl (hb hby at_285) rfl k) ?_
    show OGot p.tables e below (T38.setTop (mkF m 286 #[.val (.int p1), .val (.int p2), .val (.long q3), .second, .val (.long q4), .second, .val (.long q5), .second, .val (.long q6), .second, .val (.int (0 : Int32)), .val (.ref w_LOWEST), .val (.long vS), .second, .val (.long vT0), .second, .val (.long vT1), .second, .val (.long vT2), .second, .val (.long vT3), .second, .val (.long vE0), .second, .val (.long vE1), .second, .val (.long vE2), .second, .val (.long vE3), .second, .val (.ref b10), .val (.ref b20), .val (.int (1 : Int32)), .val (.long (f32 vE1 (if (vT1 - vS) < vT0 then (1 : Int32) else (0 : Int32)) vE0)), .second, .unset, .unset, .unset, .unset] [(.int (lcmpW vT0 (vT2 - vS))), (.long (f32 vE2 (if (vT2 - vS) < vT1 then (1 : Int32) else (0 : Int32)) vE1)), (.int (0 : Int32))])) _
    refine OGot.go (B := T38.setTop (mkF m 294 #[.val (.int p1), .val (.int p2), .val (.long q3), .second, .val (.long q4), .second, .val (.long q5), .second, .val (.long q6), .second, .val (.int (0 : Int32)), .val (.ref w_LOWEST), .val (.long vS), .second, .val (.long vT0), .second, .val (.long vT1), .second, .val (.long vT2), .second, .val (.long vT3), .second, .val (.long vE0), .second, .val (.long vE1), .second, .val (.long vE2), .second, .val (.long vE3), .second, .val (.ref b10), .val (.ref b20), .val (.int (1 : Int32)), .val (.long (f32 vE1 (if (vT1 - vS) < vT0 then (1 : Int32) else (0 : Int32)) vE0)), .second, .unset, .unset, .unset, .unset] [(.int (if (vT2 - vS) < vT0 then (1 : Int32) else (0 : Int32))), (.long (f32 vE2 (if (vT2 - vS) < vT1 then (1 : Int32) else (0 : Int32)) vE1)), (.int (0 : Int32))])) (fun t k => ?_) ?_
    · by_cases hj39 : (vT2 - vS) < vT0
      · refine XS.ifNo X38.here hx rfl (hb hby at_286) rfl ((if0 _ _).trans (tlt ((lw_gt vT0 (vT2 - vS)).mpr hj39)).2.2.2) ?_
        show Steps p.tables e below (T38.setTop (mkF m 289 #[.val (.int p1), .val (.int p2), .val (.long q3), .second, .val (.long q4), .second, .val (.long q5), .second, .val (.long q6), .second, .val (.int (0 : Int32)), .val (.ref w_LOWEST), .val (.long vS), .second, .val (.long vT0), .second, .val (.long vT1), .second, .val (.long vT2), .second, .val (.long vT3), .second, .val (.long vE0), .second, .val (.long vE1), .second, .val (.long vE2), .second, .val (.long vE3), .second, .val (.ref b10), .val (.ref b20), .val (.int (1 : Int32)), .val (.long (f32 vE1 (if (vT1 - vS) < vT0 then (1 : Int32) else (0 : Int32)) vE0)), .second, .unset, .unset, .unset, .unset] [(.long (f32 vE2 (if (vT2 - vS) < vT1 then (1 : Int32) else (0 : Int32)) vE1)), (.int (0 : Int32))])) _
        refine XS.iconst X38.here hx rfl (hb hby at_289) ?_
        show Steps p.tables e below (T38.setTop (mkF m 290 #[.val (.int p1), .val (.int p2), .val (.long q3), .second, .val (.long q4), .second, .val (.long q5), .second, .val (.long q6), .second, .val (.int (0 : Int32)), .val (.ref w_LOWEST), .val (.long vS), .second, .val (.long vT0), .second, .val (.long vT1), .second, .val (.long vT2), .second, .val (.long vT3), .second, .val (.long vE0), .second, .val (.long vE1), .second, .val (.long vE2), .second, .val (.long vE3), .second, .val (.ref b10), .val (.ref b20), .val (.int (1 : Int32)), .val (.long (f32 vE1 (if (vT1 - vS) < vT0 then (1 : Int32) else (0 : Int32)) vE0)), .second, .unset, .unset, .unset, .unset] [(.int (1 : Int32)), (.long (f32 vE2 (if (vT2 - vS) < vT1 then (1 : Int32) else (0 : Int32)) vE1)), (.int (0 : Int32))])) _
        refine XS.goto X38.here hx rfl (pc0 := 290) (pc' := 294) rfl (hb hby at_290) (by decide) (by decide) ?_
        show Steps p.tables e below (T38.setTop (mkF m 294 #[.val (.int p1), .val (.int p2), .val (.long q3), .second, .val (.long q4), .second, .val (.long q5), .second, .val (.long q6), .second, .val (.int (0 : Int32)), .val (.ref w_LOWEST), .val (.long vS), .second, .val (.long vT0), .second, .val (.long vT1), .second, .val (.long vT2), .second, .val (.long vT3), .second, .val (.long vE0), .second, .val (.long vE1), .second, .val (.long vE2), .second, .val (.long vE3), .second, .val (.ref b10), .val (.ref b20), .val (.int (1 : Int32)), .val (.long (f32 vE1 (if (vT1 - vS) < vT0 then (1 : Int32) else (0 : Int32)) vE0)), .second, .unset, .unset, .unset, .unset] [(.int (1 : Int32)), (.long (f32 vE2 (if (vT2 - vS) < vT1 then (1 : Int32) else (0 : Int32)) vE1)), (.int (0 : Int32))])) _
        simp only [if_pos hj39] at k
        exact k
      · refine XS.ifYes X38.here hx rfl (pc0 := 286) (pc' := 293) rfl (hb hby at_286) rfl ((if0 _ _).trans (flt (fun q => hj39 ((lw_gt vT0 (vT2 - vS)).mp q))).2.2.2) (by decide) (by decide) ?_
        show Steps p.tables e below (T38.setTop (mkF m 293 #[.val (.int p1), .val (.int p2), .val (.long q3), .second, .val (.long q4), .second, .val (.long q5), .second, .val (.long q6), .second, .val (.int (0 : Int32)), .val (.ref w_LOWEST), .val (.long vS), .second, .val (.long vT0), .second, .val (.long vT1), .second, .val (.long vT2), .second, .val (.long vT3), .second, .val (.long vE0), .second, .val (.long vE1), .second, .val (.long vE2), .second, .val (.long vE3), .second, .val (.ref b10), .val (.ref b20), .val (.int (1 : Int32)), .val (.long (f32 vE1 (if (vT1 - vS) < vT0 then (1 : Int32) else (0 : Int32)) vE0)), .second, .unset, .unset, .unset, .unset] [(.long (f32 vE2 (if (vT2 - vS) < vT1 then (1 : Int32) else (0 : Int32)) vE1)), (.int (0 : Int32))])) _
        refine XS.iconst X38.here hx rfl (hb hby at_293) ?_
        show Steps p.tables e below (T38.setTop (mkF m 294 #[.val (.int p1), .val (.int p2), .val (.long q3), .second, .val (.long q4), .second, .val (.long q5), .second, .val (.long q6), .second, .val (.int (0 : Int32)), .val (.ref w_LOWEST), .val (.long vS), .second, .val (.long vT0), .second, .val (.long vT1), .second, .val (.long vT2), .second, .val (.long vT3), .second, .val (.long vE0), .second, .val (.long vE1), .second, .val (.long vE2), .second, .val (.long vE3), .second, .val (.ref b10), .val (.ref b20), .val (.int (1 : Int32)), .val (.long (f32 vE1 (if (vT1 - vS) < vT0 then (1 : Int32) else (0 : Int32)) vE0)), .second, .unset, .unset, .unset, .unset] [(.int (0 : Int32)), (.long (f32 vE2 (if (vT2 - vS) < vT1 then (1 : Int32) else (0 : Int32)) vE1)), (.int (0 : Int32))])) _
        simp only [if_neg hj39] at k
        exact k
    refine OGot.go (fun t k => XS.lload X38.here hx rfl (hb hby at_294) rfl k) ?_
    obtain ⟨_, _, ⟨T40, L40, k40, n40⟩, -, X40, ⟨Lc40, hQ40, l40, y40, z40⟩, st40⟩ := Jvm.LawKit.callS X38 hx (y := (⟨"com/example/restrained_scaler/restrainedscaler/decision/StabilizationWindowDemandPinLaw", "fold", "(ZJZJ)J"⟩ : MethodName)) hown (mvT hZ (ow hw 237 rfl)) (mvT hZ (ow hw 238 rfl)) (mvT hZ (ow hw 239 rfl)) (mvT hZ (ow hw 240 rfl)) (by decide) (backOf (W := 0) (rm32 l Z a0 hw [] G (f32 vE2 (if (vT2 - vS) < vT1 then (1 : Int32) else (0 : Int32)) vE1) (if (vT2 - vS) < vT0 then (1 : Int32) else (0 : Int32)) vE0 T36.heap n0 O36 ) hZ (ow hw 240 rfl) (ow hw 239 rfl) (by decide) (by decide)) (g := (mkF m 296 #[.val (.int p1), .val (.int p2), .val (.long q3), .second, .val (.long q4), .second, .val (.long q5), .second, .val (.long q6), .second, .val (.int (0 : Int32)), .val (.ref w_LOWEST), .val (.long vS), .second, .val (.long vT0), .second, .val (.long vT1), .second, .val (.long vT2), .second, .val (.long vT3), .second, .val (.long vE0), .second, .val (.long vE1), .second, .val (.long vE2), .second, .val (.long vE3), .second, .val (.ref b10), .val (.ref b20), .val (.int (1 : Int32)), .val (.long (f32 vE1 (if (vT1 - vS) < vT0 then (1 : Int32) else (0 : Int32)) vE0)), .second, .unset, .unset, .unset, .unset] [(.long vE0), (.int (if (vT2 - vS) < vT0 then (1 : Int32) else (0 : Int32))), (.long (f32 vE2 (if (vT2 - vS) < vT1 then (1 : Int32) else (0 : Int32)) vE1)), (.int (0 : Int32))])) rfl (by rw [hml]; rfl) (argsL := [(.int (0 : Int32)), (.long (f32 vE2 (if (vT2 - vS) < vT1 then (1 : Int32) else (0 : Int32)) vE1)), (.int (if (vT2 - vS) < vT0 then (1 : Int32) else (0 : Int32))), (.long vE0)]) (rest := []) (lenOf pd_18 rfl) rfl (by show 2 * 0 + _ ≤ _; exact Nat.le_of_eq rfl) (hb hby at_296) (fun _ _ => ⟨rfl, e38, (by decide : 9 + 0 ≤ _), (by decide : 46 + 0 ≤ _)⟩)
    dsimp only [Pt.U, Pt.locs, Pt.cells, Pt.slots] at X40 l40 y40 z40 st40 hQ40
    subst l40 y40 z40
    obtain ⟨rfl, N40q, e40⟩ := hQ40
    have N40 := Fr.app N38 N40q
    refine OGot.go st40 ?_
    refine OGot.go (fun t k => XS.lstore X40.here hx rfl (hb hby at_299) rfl (l' := #[.val (.int p1), .val (.int p2), .val (.long q3), .second, .val (.long q4), .second, .val (.long q5), .second, .val (.long q6), .second, .val (.int (0 : Int32)), .val (.ref w_LOWEST), .val (.long vS), .second, .val (.long vT0), .second, .val (.long vT1), .second, .val (.long vT2), .second, .val (.long vT3), .second, .val (.long vE0), .second, .val (.long vE1), .second, .val (.long vE2), .second, .val (.long vE3), .second, .val (.ref b10), .val (.ref b20), .val (.int (1 : Int32)), .val (.long (f32 vE1 (if (vT1 - vS) < vT0 then (1 : Int32) else (0 : Int32)) vE0)), .second, .val (.long (f32 (f32 vE2 (if (vT2 - vS) < vT1 then (1 : Int32) else (0 : Int32)) vE1) (if (vT2 - vS) < vT0 then (1 : Int32) else (0 : Int32)) vE0)), .second, .unset, .unset]) rfl k) ?_
    refine OGot.go (fun t k => XS.iload X40.here hx rfl (hb hby at_301) rfl k) ?_
    refine OGot.go (fun t k => XS.aload X40.here hx rfl (hb hby at_303) rfl rfl k) ?_
    show OGot p.tables e below (T40.setTop (mkF m 305 #[.val (.int p1), .val (.int p2), .val (.long q3), .second, .val (.long q4), .second, .val (.long q5), .second, .val (.long q6), .second, .val (.int (0 : Int32)), .val (.ref w_LOWEST), .val (.long vS), .second, .val (.long vT0), .second, .val (.long vT1), .second, .val (.long vT2), .second, .val (.long vT3), .second, .val (.long vE0), .second, .val (.long vE1), .second, .val (.long vE2), .second, .val (.long vE3), .second, .val (.ref b10), .val (.ref b20), .val (.int (1 : Int32)), .val (.long (f32 vE1 (if (vT1 - vS) < vT0 then (1 : Int32) else (0 : Int32)) vE0)), .second, .val (.long (f32 (f32 vE2 (if (vT2 - vS) < vT1 then (1 : Int32) else (0 : Int32)) vE1) (if (vT2 - vS) < vT0 then (1 : Int32) else (0 : Int32)) vE0)), .second, .unset, .unset] [(.ref b20), (.int (1 : Int32))])) _
    obtain ⟨cq41, kq41, q41a, q41b, q41c⟩ := isOf hZ e40 HQ2.1
    obtain ⟨_, _, ⟨T41, L41, k41, n41⟩, -, X41, ⟨Lc41, hQ41, l41, y41, z41⟩, st41⟩ := X40.virtualBack hx (y := (⟨"com/example/restrained_scaler/restrainedscaler/decision/StabilizationWindow", "demand", "()J"⟩ : MethodName)) (z := (⟨"com/example/restrained_scaler/restrainedscaler/decision/StabilizationWindow", "demand", "()J"⟩ : MethodName)) hown (mvT hZ (ow hw 184 rfl)) (mvT hZ (ow hw 185 rfl)) (notFace_of_selects (args := #[]) (mvT hZ (ow hw 187 rfl))) (mvT hZ (ow hw 187 rfl)) (mvT hZ (ow hw 186 rfl)) (by decide) (backOf (W := 1) (demAll l Z a0 hw [] G b20 b6_23 b3_7_23 w_LOWEST vS k3_7_23 hd2 M2 T36.heap n0 O36 HQ2 HD2 (Nat.le_trans le2 (by decide)) ne2_) hZ (ow hw 188 rfl) (ow hw 83 rfl) (by decide) (by decide)) q41a q41c (g := (mkF m 305 #[.val (.int p1), .val (.int p2), .val (.long q3), .second, .val (.long q4), .second, .val (.long q5), .second, .val (.long q6), .second, .val (.int (0 : Int32)), .val (.ref w_LOWEST), .val (.long vS), .second, .val (.long vT0), .second, .val (.long vT1), .second, .val (.long vT2), .second, .val (.long vT3), .second, .val (.long vE0), .second, .val (.long vE1), .second, .val (.long vE2), .second, .val (.long vE3), .second, .val (.ref b10), .val (.ref b20), .val (.int (1 : Int32)), .val (.long (f32 vE1 (if (vT1 - vS) < vT0 then (1 : Int32) else (0 : Int32)) vE0)), .second, .val (.long (f32 (f32 vE2 (if (vT2 - vS) < vT1 then (1 : Int32) else (0 : Int32)) vE1) (if (vT2 - vS) < vT0 then (1 : Int32) else (0 : Int32)) vE0)), .second, .unset, .unset] [(.ref b20), (.int (1 : Int32))])) rfl (by rw [hml]; rfl) (Steps.refl _) (argsL := []) (rest := [(.int (1 : Int32))]) (lenOf pd_5 rfl) rfl (by show 2 * 0 + _ ≤ _; exact Nat.le_of_eq rfl) (hb hby at_305) (fun _ _ => ⟨rfl, e40, (by decide : 9 + 0 ≤ _), (by decide : 46 + 0 ≤ _)⟩)
    dsimp only [Pt.U, Pt.locs, Pt.cells, Pt.slots] at X41 l41 y41 z41 st41 hQ41
    subst l41 y41 z41
    obtain ⟨rfl, N41q, e41⟩ := hQ41
    have N41 := Fr.app N40 N41q
    refine OGot.on st41 ?_
    refine OGot.go (fun t k => XS.lload X41.here hx rfl (hb hby at_308) rfl k) ?_
    refine OGot.go (fun t k => XS.lcmp X41.here hx rfl (hb hby at_310) rfl k) ?_
    refine OGot.go (fun t k => XS.ifNo X41.here hx rfl (hb hby at_311) rfl ((if0 _ _).trans (teq ((lw_eq (dem M2) (f32 (f32 vE2 (if (vT2 - vS) < vT1 then (1 : Int32) else (0 : Int32)) vE1) (if (vT2 - vS) < vT0 then (1 : Int32) else (0 : Int32)) vE0)).mpr (own_r2L (own_times h_vS h_vT0 h_vT1 h_vT2 h_vT3) ((Fld.ne G.2.2.2.2.2.2.2.2.1 G.2.2.2.2.2.2.2.2.2.1 (by decide))) hM1 hM2))).2) k) ?_
    refine OGot.go (fun t k => XS.iconst X41.here hx rfl (hb hby at_314) k) ?_
    refine OGot.go (fun t k => XS.goto X41.here hx rfl (pc0 := 315) (pc' := 319) rfl (hb hby at_315) (by decide) (by decide) k) ?_
    show OGot p.tables e below (T41.setTop (mkF m 319 #[.val (.int p1), .val (.int p2), .val (.long q3), .second, .val (.long q4), .second, .val (.long q5), .second, .val (.long q6), .second, .val (.int (0 : Int32)), .val (.ref w_LOWEST), .val (.long vS), .second, .val (.long vT0), .second, .val (.long vT1), .second, .val (.long vT2), .second, .val (.long vT3), .second, .val (.long vE0), .second, .val (.long vE1), .second, .val (.long vE2), .second, .val (.long vE3), .second, .val (.ref b10), .val (.ref b20), .val (.int (1 : Int32)), .val (.long (f32 vE1 (if (vT1 - vS) < vT0 then (1 : Int32) else (0 : Int32)) vE0)), .second, .val (.long (f32 (f32 vE2 (if (vT2 - vS) < vT1 then (1 : Int32) else (0 : Int32)) vE1) (if (vT2 - vS) < vT0 then (1 : Int32) else (0 : Int32)) vE0)), .second, .unset, .unset] [(.int (1 : Int32)), (.int (1 : Int32))])) _
    refine OGot.go (fun t k => XS.iand X41.here hx rfl (hb hby at_319) rfl k) ?_
    show OGot p.tables e below (T41.setTop (mkF m 320 #[.val (.int p1), .val (.int p2), .val (.long q3), .second, .val (.long q4), .second, .val (.long q5), .second, .val (.long q6), .second, .val (.int (0 : Int32)), .val (.ref w_LOWEST), .val (.long vS), .second, .val (.long vT0), .second, .val (.long vT1), .second, .val (.long vT2), .second, .val (.long vT3), .second, .val (.long vE0), .second, .val (.long vE1), .second, .val (.long vE2), .second, .val (.long vE3), .second, .val (.ref b10), .val (.ref b20), .val (.int (1 : Int32)), .val (.long (f32 vE1 (if (vT1 - vS) < vT0 then (1 : Int32) else (0 : Int32)) vE0)), .second, .val (.long (f32 (f32 vE2 (if (vT2 - vS) < vT1 then (1 : Int32) else (0 : Int32)) vE1) (if (vT2 - vS) < vT0 then (1 : Int32) else (0 : Int32)) vE0)), .second, .unset, .unset] [(.int ((1 : Int32) &&& (1 : Int32)))])) _
    rw [show ((1 : Int32) &&& (1 : Int32)) = (1 : Int32) from by decide]
    refine OGot.go (fun t k => XS.istore X41.here hx rfl (hb hby at_320) rfl (l' := #[.val (.int p1), .val (.int p2), .val (.long q3), .second, .val (.long q4), .second, .val (.long q5), .second, .val (.long q6), .second, .val (.int (0 : Int32)), .val (.ref w_LOWEST), .val (.long vS), .second, .val (.long vT0), .second, .val (.long vT1), .second, .val (.long vT2), .second, .val (.long vT3), .second, .val (.long vE0), .second, .val (.long vE1), .second, .val (.long vE2), .second, .val (.long vE3), .second, .val (.ref b10), .val (.ref b20), .val (.int (1 : Int32)), .val (.long (f32 vE1 (if (vT1 - vS) < vT0 then (1 : Int32) else (0 : Int32)) vE0)), .second, .val (.long (f32 (f32 vE2 (if (vT2 - vS) < vT1 then (1 : Int32) else (0 : Int32)) vE1) (if (vT2 - vS) < vT0 then (1 : Int32) else (0 : Int32)) vE0)), .second, .unset, .unset]) rfl k) ?_
    refine OGot.go (fun t k => XS.aload X41.here hx rfl (hb hby at_322) rfl rfl k) ?_
    refine OGot.go (fun t k => XS.lload X41.here hx rfl (hb hby at_324) rfl k) ?_
    refine OGot.go (fun t k => XS.lload X41.here hx rfl (hb hby at_326) rfl k) ?_
    obtain ⟨cq42, kq42, q42a, q42b, q42c⟩ := isOf hZ e41 HQ2.1
    obtain ⟨_, _, ⟨T42, L42, k42, n42⟩, -, X42, ⟨Lc42, hQ42, l42, y42, z42⟩, st42⟩ := X41.virtualBack hx (y := (⟨"com/example/restrained_scaler/restrainedscaler/decision/StabilizationWindow", "add", "(JJ)V"⟩ : MethodName)) (z := (⟨"com/example/restrained_scaler/restrainedscaler/decision/StabilizationWindow", "add", "(JJ)V"⟩ : MethodName)) hown (mvT hZ (ow hw 205 rfl)) (mvT hZ (ow hw 206 rfl)) (notFace_of_selects (args := #[]) (mvT hZ (ow hw 208 rfl))) (mvT hZ (ow hw 208 rfl)) (mvT hZ (ow hw 207 rfl)) (by decide) (backOf (W := 0) (addAll l Z a0 hw [] G b20 b6_23 b3_7_23 w_LOWEST vS vT3 vE3 k3_7_23 hd2 M2 T36.heap n0 O36 HQ2 HD2 (Nat.le_trans le2 (by decide))) hZ (ow hw 209 rfl) (ow hw 83 rfl) (by decide) (by decide)) q42a q42c (g := (mkF m 328 #[.val (.int p1), .val (.int p2), .val (.long q3), .second, .val (.long q4), .second, .val (.long q5), .second, .val (.long q6), .second, .val (.int (0 : Int32)), .val (.ref w_LOWEST), .val (.long vS), .second, .val (.long vT0), .second, .val (.long vT1), .second, .val (.long vT2), .second, .val (.long vT3), .second, .val (.long vE0), .second, .val (.long vE1), .second, .val (.long vE2), .second, .val (.long vE3), .second, .val (.ref b10), .val (.ref b20), .val (.int (1 : Int32)), .val (.long (f32 vE1 (if (vT1 - vS) < vT0 then (1 : Int32) else (0 : Int32)) vE0)), .second, .val (.long (f32 (f32 vE2 (if (vT2 - vS) < vT1 then (1 : Int32) else (0 : Int32)) vE1) (if (vT2 - vS) < vT0 then (1 : Int32) else (0 : Int32)) vE0)), .second, .unset, .unset] [(.long vE3), (.long vT3), (.ref b20)])) rfl (by rw [hml]; rfl) (Steps.refl _) (argsL := [(.long vT3), (.long vE3)]) (rest := []) (lenOf pd_8 rfl) rfl (by show 2 * 0 + _ ≤ _; exact Nat.le_of_eq rfl) (hb hby at_328) (fun _ _ => ⟨rfl, e41, (by decide : 9 + 1 ≤ _), (by decide : 46 + 2 ≤ _)⟩)
    dsimp only [Pt.U, Pt.locs, Pt.cells, Pt.slots] at X42 l42 y42 z42 st42 hQ42
    subst l42 y42 z42
    obtain ⟨rfl, N42q, O42, D42_, hd3, M3, hM3, le3_, HQ3, HD3⟩ := hQ42
    have le3 : hd3 + M3.length ≤ 4 := Nat.le_trans le3_ (Nat.succ_le_succ le2)
    have ne3_ : M3 ≠ [] := by rw [hM3]; simp
    have N42 := Fr.app N41 N42q
    refine OGot.on st42 ?_
    show OGot p.tables e below (T42.setTop (mkF m 331 #[.val (.int p1), .val (.int p2), .val (.long q3), .second, .val (.long q4), .second, .val (.long q5), .second, .val (.long q6), .second, .val (.int (0 : Int32)), .val (.ref w_LOWEST), .val (.long vS), .second, .val (.long vT0), .second, .val (.long vT1), .second, .val (.long vT2), .second, .val (.long vT3), .second, .val (.long vE0), .second, .val (.long vE1), .second, .val (.long vE2), .second, .val (.long vE3), .second, .val (.ref b10), .val (.ref b20), .val (.int (1 : Int32)), .val (.long (f32 vE1 (if (vT1 - vS) < vT0 then (1 : Int32) else (0 : Int32)) vE0)), .second, .val (.long (f32 (f32 vE2 (if (vT2 - vS) < vT1 then (1 : Int32) else (0 : Int32)) vE1) (if (vT2 - vS) < vT0 then (1 : Int32) else (0 : Int32)) vE0)), .second, .unset, .unset] [])) _
    refine OGot.go (fun t k => XS.iload X42.here hx rfl (hb hby at_331) rfl k) ?_
    refine OGot.go (fun t k => XS.iload X42.here hx rfl (hb hby at_333) rfl k) ?_
    refine OGot.go (fun t k => XS.iload X42.here hx rfl (hb hby at_335) rfl k) ?_
    refine OGot.go (fun t k => XS.lload X42.here hx rfl (hb hby at_337) rfl k) ?_
    refine OGot.go (fun t k => XS.lload X42.here hx rfl (hb hby at_339) rfl k) ?_
    refine OGot.go (fun t k => XS.lload X42.here hx rfl (hb hby at_341) rfl k) ?_
    show OGot p.tables e below (T42.setTop (mkF m 343 #[.val (.int p1), .val (.int p2), .val (.long q3), .second, .val (.long q4), .second, .val (.long q5), .second, .val (.long q6), .second, .val (.int (0 : Int32)), .val (.ref w_LOWEST), .val (.long vS), .second, .val (.long vT0), .second, .val (.long vT1), .second, .val (.long vT2), .second, .val (.long vT3), .second, .val (.long vE0), .second, .val (.long vE1), .second, .val (.long vE2), .second, .val (.long vE3), .second, .val (.ref b10), .val (.ref b20), .val (.int (1 : Int32)), .val (.long (f32 vE1 (if (vT1 - vS) < vT0 then (1 : Int32) else (0 : Int32)) vE0)), .second, .val (.long (f32 (f32 vE2 (if (vT2 - vS) < vT1 then (1 : Int32) else (0 : Int32)) vE1) (if (vT2 - vS) < vT0 then (1 : Int32) else (0 : Int32)) vE0)), .second, .unset, .unset] [(.long vT3), (.long vT2), (.long vE3), (.int (0 : Int32)), (.int (0 : Int32)), (.int (0 : Int32))])) _
    refine OGot.go (fun t k => XS.lload X42.here hx rfl (hb hby at_343) rfl k) ?_
    refine OGot.go (fun t k => XS.lsub X42.here hx rfl (hb hby at_345) rfl k) ?_
    refine OGot.go (fun t k => XS.lcmp X42.here hx rfl (hb hby at_346) rfl k) ?_
    show OGot p.tables e below (T42.setTop (mkF m 347 #[.val (.int p1), .val (.int p2), .val (.long q3), .second, .val (.long q4), .second, .val (.long q5), .second, .val (.long q6), .second, .val (.int (0 : Int32)), .val (.ref w_LOWEST), .val (.long vS), .second, .val (.long vT0), .second, .val (.long vT1), .second, .val (.long vT2), .second, .val (.long vT3), .second, .val (.long vE0), .second, .val (.long vE1), .second, .val (.long vE2), .second, .val (.long vE3), .second, .val (.ref b10), .val (.ref b20), .val (.int (1 : Int32)), .val (.long (f32 vE1 (if (vT1 - vS) < vT0 then (1 : Int32) else (0 : Int32)) vE0)), .second, .val (.long (f32 (f32 vE2 (if (vT2 - vS) < vT1 then (1 : Int32) else (0 : Int32)) vE1) (if (vT2 - vS) < vT0 then (1 : Int32) else (0 : Int32)) vE0)), .second, .unset, .unset] [(.int (lcmpW vT2 (vT3 - vS))), (.long vE3), (.int (0 : Int32)), (.int (0 : Int32)), (.int (0 : Int32))])) _
    refine OGot.go (B := T42.setTop (mkF m 355 #[.val (.int p1), .val (.int p2), .val (.long q3), .second, .val (.long q4), .second, .val (.long q5), .second, .val (.long q6), .second, .val (.int (0 : Int32)), .val (.ref w_LOWEST), .val (.long vS), .second, .val (.long vT0), .second, .val (.long vT1), .second, .val (.long vT2), .second, .val (.long vT3), .second, .val (.long vE0), .second, .val (.long vE1), .second, .val (.long vE2), .second, .val (.long vE3), .second, .val (.ref b10), .val (.ref b20), .val (.int (1 : Int32)), .val (.long (f32 vE1 (if (vT1 - vS) < vT0 then (1 : Int32) else (0 : Int32)) vE0)), .second, .val (.long (f32 (f32 vE2 (if (vT2 - vS) < vT1 then (1 : Int32) else (0 : Int32)) vE1) (if (vT2 - vS) < vT0 then (1 : Int32) else (0 : Int32)) vE0)), .second, .unset, .unset] [(.int (if (vT3 - vS) < vT2 then (1 : Int32) else (0 : Int32))), (.long vE3), (.int (0 : Int32)), (.int (0 : Int32)), (.int (0 : Int32))])) (fun t k => ?_) ?_
    · by_cases hj43 : (vT3 - vS) < vT2
      · refine XS.ifNo X42.here hx rfl (hb hby at_347) rfl ((if0 _ _).trans (tlt ((lw_gt vT2 (vT3 - vS)).mpr hj43)).2.2.2) ?_
        show Steps p.tables e below (T42.setTop (mkF m 350 #[.val (.int p1), .val (.int p2), .val (.long q3), .second, .val (.long q4), .second, .val (.long q5), .second, .val (.long q6), .second, .val (.int (0 : Int32)), .val (.ref w_LOWEST), .val (.long vS), .second, .val (.long vT0), .second, .val (.long vT1), .second, .val (.long vT2), .second, .val (.long vT3), .second, .val (.long vE0), .second, .val (.long vE1), .second, .val (.long vE2), .second, .val (.long vE3), .second, .val (.ref b10), .val (.ref b20), .val (.int (1 : Int32)), .val (.long (f32 vE1 (if (vT1 - vS) < vT0 then (1 : Int32) else (0 : Int32)) vE0)), .second, .val (.long (f32 (f32 vE2 (if (vT2 - vS) < vT1 then (1 : Int32) else (0 : Int32)) vE1) (if (vT2 - vS) < vT0 then (1 : Int32) else (0 : Int32)) vE0)), .second, .unset, .unset] [(.long vE3), (.int (0 : Int32)), (.int (0 : Int32)), (.int (0 : Int32))])) _
        refine XS.iconst X42.here hx rfl (hb hby at_350) ?_
        show Steps p.tables e below (T42.setTop (mkF m 351 #[.val (.int p1), .val (.int p2), .val (.long q3), .second, .val (.long q4), .second, .val (.long q5), .second, .val (.long q6), .second, .val (.int (0 : Int32)), .val (.ref w_LOWEST), .val (.long vS), .second, .val (.long vT0), .second, .val (.long vT1), .second, .val (.long vT2), .second, .val (.long vT3), .second, .val (.long vE0), .second, .val (.long vE1), .second, .val (.long vE2), .second, .val (.long vE3), .second, .val (.ref b10), .val (.ref b20), .val (.int (1 : Int32)), .val (.long (f32 vE1 (if (vT1 - vS) < vT0 then (1 : Int32) else (0 : Int32)) vE0)), .second, .val (.long (f32 (f32 vE2 (if (vT2 - vS) < vT1 then (1 : Int32) else (0 : Int32)) vE1) (if (vT2 - vS) < vT0 then (1 : Int32) else (0 : Int32)) vE0)), .second, .unset, .unset] [(.int (1 : Int32)), (.long vE3), (.int (0 : Int32)), (.int (0 : Int32)), (.int (0 : Int32))])) _
        refine XS.goto X42.here hx rfl (pc0 := 351) (pc' := 355) rfl (hb hby at_351) (by decide) (by decide) ?_
        show Steps p.tables e below (T42.setTop (mkF m 355 #[.val (.int p1), .val (.int p2), .val (.long q3), .second, .val (.long q4), .second, .val (.long q5), .second, .val (.long q6), .second, .val (.int (0 : Int32)), .val (.ref w_LOWEST), .val (.long vS), .second, .val (.long vT0), .second, .val (.long vT1), .second, .val (.long vT2), .second, .val (.long vT3), .second, .val (.long vE0), .second, .val (.long vE1), .second, .val (.long vE2), .second, .val (.long vE3), .second, .val (.ref b10), .val (.ref b20), .val (.int (1 : Int32)), .val (.long (f32 vE1 (if (vT1 - vS) < vT0 then (1 : Int32) else (0 : Int32)) vE0)), .second, .val (.long (f32 (f32 vE2 (if (vT2 - vS) < vT1 then (1 : Int32) else (0 : Int32)) vE1) (if (vT2 - vS) < vT0 then (1 : Int32) else (0 : Int32)) vE0)), .second, .unset, .unset] [(.int (1 : Int32)), (.long vE3), (.int (0 : Int32)), (.int (0 : Int32)), (.int (0 : Int32))])) _
        simp only [if_pos hj43] at k
        exact k
      · refine XS.ifYes X42.here hx rfl (pc0 := 347) (pc' := 354) rfl (hb hby at_347) rfl ((if0 _ _).trans (flt (fun q => hj43 ((lw_gt vT2 (vT3 - vS)).mp q))).2.2.2) (by decide) (by decide) ?_
        show Steps p.tables e below (T42.setTop (mkF m 354 #[.val (.int p1), .val (.int p2), .val (.long q3), .second, .val (.long q4), .second, .val (.long q5), .second, .val (.long q6), .second, .val (.int (0 : Int32)), .val (.ref w_LOWEST), .val (.long vS), .second, .val (.long vT0), .second, .val (.long vT1), .second, .val (.long vT2), .second, .val (.long vT3), .second, .val (.long vE0), .second, .val (.long vE1), .second, .val (.long vE2), .second, .val (.long vE3), .second, .val (.ref b10), .val (.ref b20), .val (.int (1 : Int32)), .val (.long (f32 vE1 (if (vT1 - vS) < vT0 then (1 : Int32) else (0 : Int32)) vE0)), .second, .val (.long (f32 (f32 vE2 (if (vT2 - vS) < vT1 then (1 : Int32) else (0 : Int32)) vE1) (if (vT2 - vS) < vT0 then (1 : Int32) else (0 : Int32)) vE0)), .second, .unset, .unset] [(.long vE3), (.int (0 : Int32)), (.int (0 : Int32)), (.int (0 : Int32))])) _
        refine XS.iconst X42.here hx rfl (hb hby at_354) ?_
        show Steps p.tables e below (T42.setTop (mkF m 355 #[.val (.int p1), .val (.int p2), .val (.long q3), .second, .val (.long q4), .second, .val (.long q5), .second, .val (.long q6), .second, .val (.int (0 : Int32)), .val (.ref w_LOWEST), .val (.long vS), .second, .val (.long vT0), .second, .val (.long vT1), .second, .val (.long vT2), .second, .val (.long vT3), .second, .val (.long vE0), .second, .val (.long vE1), .second, .val (.long vE2), .second, .val (.long vE3), .second, .val (.ref b10), .val (.ref b20), .val (.int (1 : Int32)), .val (.long (f32 vE1 (if (vT1 - vS) < vT0 then (1 : Int32) else (0 : Int32)) vE0)), .second, .val (.long (f32 (f32 vE2 (if (vT2 - vS) < vT1 then (1 : Int32) else (0 : Int32)) vE1) (if (vT2 - vS) < vT0 then (1 : Int32) else (0 : Int32)) vE0)), .second, .unset, .unset] [(.int (0 : Int32)), (.long vE3), (.int (0 : Int32)), (.int (0 : Int32)), (.int (0 : Int32))])) _
        simp only [if_neg hj43] at k
        exact k
    refine OGot.go (fun t k => XS.lload X42.here hx rfl (hb hby at_355) rfl k) ?_
    obtain ⟨_, _, ⟨T44, L44, k44, n44⟩, -, X44, ⟨Lc44, hQ44, l44, y44, z44⟩, st44⟩ := Jvm.LawKit.callS X42 hx (y := (⟨"com/example/restrained_scaler/restrainedscaler/decision/StabilizationWindowDemandPinLaw", "fold", "(ZJZJ)J"⟩ : MethodName)) hown (mvT hZ (ow hw 237 rfl)) (mvT hZ (ow hw 238 rfl)) (mvT hZ (ow hw 239 rfl)) (mvT hZ (ow hw 240 rfl)) (by decide) (backOf (W := 2) (rm32 l Z a0 hw [] G vE3 (if (vT3 - vS) < vT2 then (1 : Int32) else (0 : Int32)) vE2 T42.heap n0 O42 ) hZ (ow hw 240 rfl) (ow hw 239 rfl) (by decide) (by decide)) (g := (mkF m 357 #[.val (.int p1), .val (.int p2), .val (.long q3), .second, .val (.long q4), .second, .val (.long q5), .second, .val (.long q6), .second, .val (.int (0 : Int32)), .val (.ref w_LOWEST), .val (.long vS), .second, .val (.long vT0), .second, .val (.long vT1), .second, .val (.long vT2), .second, .val (.long vT3), .second, .val (.long vE0), .second, .val (.long vE1), .second, .val (.long vE2), .second, .val (.long vE3), .second, .val (.ref b10), .val (.ref b20), .val (.int (1 : Int32)), .val (.long (f32 vE1 (if (vT1 - vS) < vT0 then (1 : Int32) else (0 : Int32)) vE0)), .second, .val (.long (f32 (f32 vE2 (if (vT2 - vS) < vT1 then (1 : Int32) else (0 : Int32)) vE1) (if (vT2 - vS) < vT0 then (1 : Int32) else (0 : Int32)) vE0)), .second, .unset, .unset] [(.long vE2), (.int (if (vT3 - vS) < vT2 then (1 : Int32) else (0 : Int32))), (.long vE3), (.int (0 : Int32)), (.int (0 : Int32)), (.int (0 : Int32))])) rfl (by rw [hml]; rfl) (argsL := [(.int (0 : Int32)), (.long vE3), (.int (if (vT3 - vS) < vT2 then (1 : Int32) else (0 : Int32))), (.long vE2)]) (rest := [(.int (0 : Int32)), (.int (0 : Int32))]) (lenOf pd_18 rfl) rfl (by show 2 * 0 + _ ≤ _; exact Nat.le_of_eq rfl) (hb hby at_357) (fun _ _ => ⟨rfl, rfl, (by decide : 10 + 0 ≤ _), (by decide : 48 + 0 ≤ _)⟩)
    dsimp only [Pt.U, Pt.locs, Pt.cells, Pt.slots] at X44 l44 y44 z44 st44 hQ44
    subst l44 y44 z44
    obtain ⟨rfl, N44q, e44⟩ := hQ44
    have N44 := Fr.app N42 N44q
    refine OGot.go st44 ?_
    refine OGot.go (fun t k => XS.lload X44.here hx rfl (hb hby at_360) rfl k) ?_
    refine OGot.go (fun t k => XS.lload X44.here hx rfl (hb hby at_362) rfl k) ?_
    refine OGot.go (fun t k => XS.lload X44.here hx rfl (hb hby at_364) rfl k) ?_
    show OGot p.tables e below (T44.setTop (mkF m 366 #[.val (.int p1), .val (.int p2), .val (.long q3), .second, .val (.long q4), .second, .val (.long q5), .second, .val (.long q6), .second, .val (.int (0 : Int32)), .val (.ref w_LOWEST), .val (.long vS), .second, .val (.long vT0), .second, .val (.long vT1), .second, .val (.long vT2), .second, .val (.long vT3), .second, .val (.long vE0), .second, .val (.long vE1), .second, .val (.long vE2), .second, .val (.long vE3), .second, .val (.ref b10), .val (.ref b20), .val (.int (1 : Int32)), .val (.long (f32 vE1 (if (vT1 - vS) < vT0 then (1 : Int32) else (0 : Int32)) vE0)), .second, .val (.long (f32 (f32 vE2 (if (vT2 - vS) < vT1 then (1 : Int32) else (0 : Int32)) vE1) (if (vT2 - vS) < vT0 then (1 : Int32) else (0 : Int32)) vE0)), .second, .unset, .unset] [(.long vS), (.long vT3), (.long vT1), (.long (f32 vE3 (if (vT3 - vS) < vT2 then (1 : Int32) else (0 : Int32)) vE2)), (.int (0 : Int32)), (.int (0 : Int32))])) _
    refine OGot.go (fun t k => XS.lsub X44.here hx rfl (hb hby at_366) rfl k) ?_
    refine OGot.go (fun t k => XS.lcmp X44.here hx rfl (hb hby at_367) rfl k) ?_
    show OGot p.tables e below (T44.setTop (mkF m 368 #[.val (.int p1), .val (.int p2), .val (.long q3), .second, .val (.long q4), .second, .val (.long q5), .second, .val (.long q6), .second, .val (.int (0 : Int32)), .val (.ref w_LOWEST), .val (.long vS), .second, .val (.long vT0), .second, .val (.long vT1), .second, .val (.long vT2), .second, .val (.long vT3), .second, .val (.long vE0), .second, .val (.long vE1), .second, .val (.long vE2), .second, .val (.long vE3), .second, .val (.ref b10), .val (.ref b20), .val (.int (1 : Int32)), .val (.long (f32 vE1 (if (vT1 - vS) < vT0 then (1 : Int32) else (0 : Int32)) vE0)), .second, .val (.long (f32 (f32 vE2 (if (vT2 - vS) < vT1 then (1 : Int32) else (0 : Int32)) vE1) (if (vT2 - vS) < vT0 then (1 : Int32) else (0 : Int32)) vE0)), .second, .unset, .unset] [(.int (lcmpW vT1 (vT3 - vS))), (.long (f32 vE3 (if (vT3 - vS) < vT2 then (1 : Int32) else (0 : Int32)) vE2)), (.int (0 : Int32)), (.int (0 : Int32))])) _
    refine OGot.go (B := T44.setTop (mkF m 376 #[.val (.int p1), .val (.int p2), .val (.long q3), .second, .val (.long q4), .second, .val (.long q5), .second, .val (.long q6), .second, .val (.int (0 : Int32)), .val (.ref w_LOWEST), .val (.long vS), .second, .val (.long vT0), .second, .val (.long vT1), .second, .val (.long vT2), .second, .val (.long vT3), .second, .val (.long vE0), .second, .val (.long vE1), .second, .val (.long vE2), .second, .val (.long vE3), .second, .val (.ref b10), .val (.ref b20), .val (.int (1 : Int32)), .val (.long (f32 vE1 (if (vT1 - vS) < vT0 then (1 : Int32) else (0 : Int32)) vE0)), .second, .val (.long (f32 (f32 vE2 (if (vT2 - vS) < vT1 then (1 : Int32) else (0 : Int32)) vE1) (if (vT2 - vS) < vT0 then (1 : Int32) else (0 : Int32)) vE0)), .second, .unset, .unset] [(.int (if (vT3 - vS) < vT1 then (1 : Int32) else (0 : Int32))), (.long (f32 vE3 (if (vT3 - vS) < vT2 then (1 : Int32) else (0 : Int32)) vE2)), (.int (0 : Int32)), (.int (0 : Int32))])) (fun t k => ?_) ?_
    · by_cases hj45 : (vT3 - vS) < vT1
      · refine XS.ifNo X44.here hx rfl (hb hby at_368) rfl ((if0 _ _).trans (tlt ((lw_gt vT1 (vT3 - vS)).mpr hj45)).2.2.2) ?_
        show Steps p.tables e below (T44.setTop (mkF m 371 #[.val (.int p1), .val (.int p2), .val (.long q3), .second, .val (.long q4), .second, .val (.long q5), .second, .val (.long q6), .second, .val (.int (0 : Int32)), .val (.ref w_LOWEST), .val (.long vS), .second, .val (.long vT0), .second, .val (.long vT1), .second, .val (.long vT2), .second, .val (.long vT3), .second, .val (.long vE0), .second, .val (.long vE1), .second, .val (.long vE2), .second, .val (.long vE3), .second, .val (.ref b10), .val (.ref b20), .val (.int (1 : Int32)), .val (.long (f32 vE1 (if (vT1 - vS) < vT0 then (1 : Int32) else (0 : Int32)) vE0)), .second, .val (.long (f32 (f32 vE2 (if (vT2 - vS) < vT1 then (1 : Int32) else (0 : Int32)) vE1) (if (vT2 - vS) < vT0 then (1 : Int32) else (0 : Int32)) vE0)), .second, .unset, .unset] [(.long (f32 vE3 (if (vT3 - vS) < vT2 then (1 : Int32) else (0 : Int32)) vE2)), (.int (0 : Int32)), (.int (0 : Int32))])) _
        refine XS.iconst X44.here hx rfl (hb hby at_371) ?_
        show Steps p.tables e below (T44.setTop (mkF m 372 #[.val (.int p1), .val (.int p2), .val (.long q3), .second, .val (.long q4), .second, .val (.long q5), .second, .val (.long q6), .second, .val (.int (0 : Int32)), .val (.ref w_LOWEST), .val (.long vS), .second, .val (.long vT0), .second, .val (.long vT1), .second, .val (.long vT2), .second, .val (.long vT3), .second, .val (.long vE0), .second, .val (.long vE1), .second, .val (.long vE2), .second, .val (.long vE3), .second, .val (.ref b10), .val (.ref b20), .val (.int (1 : Int32)), .val (.long (f32 vE1 (if (vT1 - vS) < vT0 then (1 : Int32) else (0 : Int32)) vE0)), .second, .val (.long (f32 (f32 vE2 (if (vT2 - vS) < vT1 then (1 : Int32) else (0 : Int32)) vE1) (if (vT2 - vS) < vT0 then (1 : Int32) else (0 : Int32)) vE0)), .second, .unset, .unset] [(.int (1 : Int32)), (.long (f32 vE3 (if (vT3 - vS) < vT2 then (1 : Int32) else (0 : Int32)) vE2)), (.int (0 : Int32)), (.int (0 : Int32))])) _
        refine XS.goto X44.here hx rfl (pc0 := 372) (pc' := 376) rfl (hb hby at_372) (by decide) (by decide) ?_
        show Steps p.tables e below (T44.setTop (mkF m 376 #[.val (.int p1), .val (.int p2), .val (.long q3), .second, .val (.long q4), .second, .val (.long q5), .second, .val (.long q6), .second, .val (.int (0 : Int32)), .val (.ref w_LOWEST), .val (.long vS), .second, .val (.long vT0), .second, .val (.long vT1), .second, .val (.long vT2), .second, .val (.long vT3), .second, .val (.long vE0), .second, .val (.long vE1), .second, .val (.long vE2), .second, .val (.long vE3), .second, .val (.ref b10), .val (.ref b20), .val (.int (1 : Int32)), .val (.long (f32 vE1 (if (vT1 - vS) < vT0 then (1 : Int32) else (0 : Int32)) vE0)), .second, .val (.long (f32 (f32 vE2 (if (vT2 - vS) < vT1 then (1 : Int32) else (0 : Int32)) vE1) (if (vT2 - vS) < vT0 then (1 : Int32) else (0 : Int32)) vE0)), .second, .unset, .unset] [(.int (1 : Int32)), (.long (f32 vE3 (if (vT3 - vS) < vT2 then (1 : Int32) else (0 : Int32)) vE2)), (.int (0 : Int32)), (.int (0 : Int32))])) _
        simp only [if_pos hj45] at k
        exact k
      · refine XS.ifYes X44.here hx rfl (pc0 := 368) (pc' := 375) rfl (hb hby at_368) rfl ((if0 _ _).trans (flt (fun q => hj45 ((lw_gt vT1 (vT3 - vS)).mp q))).2.2.2) (by decide) (by decide) ?_
        show Steps p.tables e below (T44.setTop (mkF m 375 #[.val (.int p1), .val (.int p2), .val (.long q3), .second, .val (.long q4), .second, .val (.long q5), .second, .val (.long q6), .second, .val (.int (0 : Int32)), .val (.ref w_LOWEST), .val (.long vS), .second, .val (.long vT0), .second, .val (.long vT1), .second, .val (.long vT2), .second, .val (.long vT3), .second, .val (.long vE0), .second, .val (.long vE1), .second, .val (.long vE2), .second, .val (.long vE3), .second, .val (.ref b10), .val (.ref b20), .val (.int (1 : Int32)), .val (.long (f32 vE1 (if (vT1 - vS) < vT0 then (1 : Int32) else (0 : Int32)) vE0)), .second, .val (.long (f32 (f32 vE2 (if (vT2 - vS) < vT1 then (1 : Int32) else (0 : Int32)) vE1) (if (vT2 - vS) < vT0 then (1 : Int32) else (0 : Int32)) vE0)), .second, .unset, .unset] [(.long (f32 vE3 (if (vT3 - vS) < vT2 then (1 : Int32) else (0 : Int32)) vE2)), (.int (0 : Int32)), (.int (0 : Int32))])) _
        refine XS.iconst X44.here hx rfl (hb hby at_375) ?_
        show Steps p.tables e below (T44.setTop (mkF m 376 #[.val (.int p1), .val (.int p2), .val (.long q3), .second, .val (.long q4), .second, .val (.long q5), .second, .val (.long q6), .second, .val (.int (0 : Int32)), .val (.ref w_LOWEST), .val (.long vS), .second, .val (.long vT0), .second, .val (.long vT1), .second, .val (.long vT2), .second, .val (.long vT3), .second, .val (.long vE0), .second, .val (.long vE1), .second, .val (.long vE2), .second, .val (.long vE3), .second, .val (.ref b10), .val (.ref b20), .val (.int (1 : Int32)), .val (.long (f32 vE1 (if (vT1 - vS) < vT0 then (1 : Int32) else (0 : Int32)) vE0)), .second, .val (.long (f32 (f32 vE2 (if (vT2 - vS) < vT1 then (1 : Int32) else (0 : Int32)) vE1) (if (vT2 - vS) < vT0 then (1 : Int32) else (0 : Int32)) vE0)), .second, .unset, .unset] [(.int (0 : Int32)), (.long (f32 vE3 (if (vT3 - vS) < vT2 then (1 : Int32) else (0 : Int32)) vE2)), (.int (0 : Int32)), (.int (0 : Int32))])) _
        simp only [if_neg hj45] at k
        exact k
    refine OGot.go (fun t k => XS.lload X44.here hx rfl (hb hby at_376) rfl k) ?_
    obtain ⟨_, _, ⟨T46, L46, k46, n46⟩, -, X46, ⟨Lc46, hQ46, l46, y46, z46⟩, st46⟩ := Jvm.LawKit.callS X44 hx (y := (⟨"com/example/restrained_scaler/restrainedscaler/decision/StabilizationWindowDemandPinLaw", "fold", "(ZJZJ)J"⟩ : MethodName)) hown (mvT hZ (ow hw 237 rfl)) (mvT hZ (ow hw 238 rfl)) (mvT hZ (ow hw 239 rfl)) (mvT hZ (ow hw 240 rfl)) (by decide) (backOf (W := 1) (rm32 l Z a0 hw [] G (f32 vE3 (if (vT3 - vS) < vT2 then (1 : Int32) else (0 : Int32)) vE2) (if (vT3 - vS) < vT1 then (1 : Int32) else (0 : Int32)) vE1 T42.heap n0 O42 ) hZ (ow hw 240 rfl) (ow hw 239 rfl) (by decide) (by decide)) (g := (mkF m 378 #[.val (.int p1), .val (.int p2), .val (.long q3), .second, .val (.long q4), .second, .val (.long q5), .second, .val (.long q6), .second, .val (.int (0 : Int32)), .val (.ref w_LOWEST), .val (.long vS), .second, .val (.long vT0), .second, .val (.long vT1), .second, .val (.long vT2), .second, .val (.long vT3), .second, .val (.long vE0), .second, .val (.long vE1), .second, .val (.long vE2), .second, .val (.long vE3), .second, .val (.ref b10), .val (.ref b20), .val (.int (1 : Int32)), .val (.long (f32 vE1 (if (vT1 - vS) < vT0 then (1 : Int32) else (0 : Int32)) vE0)), .second, .val (.long (f32 (f32 vE2 (if (vT2 - vS) < vT1 then (1 : Int32) else (0 : Int32)) vE1) (if (vT2 - vS) < vT0 then (1 : Int32) else (0 : Int32)) vE0)), .second, .unset, .unset] [(.long vE1), (.int (if (vT3 - vS) < vT1 then (1 : Int32) else (0 : Int32))), (.long (f32 vE3 (if (vT3 - vS) < vT2 then (1 : Int32) else (0 : Int32)) vE2)), (.int (0 : Int32)), (.int (0 : Int32))])) rfl (by rw [hml]; rfl) (argsL := [(.int (0 : Int32)), (.long (f32 vE3 (if (vT3 - vS) < vT2 then (1 : Int32) else (0 : Int32)) vE2)), (.int (if (vT3 - vS) < vT1 then (1 : Int32) else (0 : Int32))), (.long vE1)]) (rest := [(.int (0 : Int32))]) (lenOf pd_18 rfl) rfl (by show 2 * 0 + _ ≤ _; exact Nat.le_of_eq rfl) (hb hby at_378) (fun _ _ => ⟨rfl, e44, (by decide : 10 + 0 ≤ _), (by decide : 48 + 0 ≤ _)⟩)
    dsimp only [Pt.U, Pt.locs, Pt.cells, Pt.slots] at X46 l46 y46 z46 st46 hQ46
    subst l46 y46 z46
    obtain ⟨rfl, N46q, e46⟩ := hQ46
    have N46 := Fr.app N44 N46q
    refine OGot.go st46 ?_
    refine OGot.go (fun t k => XS.lload X46.here hx rfl (hb hby at_381) rfl k) ?_
    refine OGot.go (fun t k => XS.lload X46.here hx rfl (hb hby at_383) rfl k) ?_
    refine OGot.go (fun t k => XS.lload X46.here hx rfl (hb hby at_385) rfl k) ?_
    show OGot p.tables e below (T46.setTop (mkF m 387 #[.val (.int p1), .val (.int p2), .val (.long q3), .second, .val (.long q4), .second, .val (.long q5), .second, .val (.long q6), .second, .val (.int (0 : Int32)), .val (.ref w_LOWEST), .val (.long vS), .second, .val (.long vT0), .second, .val (.long vT1), .second, .val (.long vT2), .second, .val (.long vT3), .second, .val (.long vE0), .second, .val (.long vE1), .second, .val (.long vE2), .second, .val (.long vE3), .second, .val (.ref b10), .val (.ref b20), .val (.int (1 : Int32)), .val (.long (f32 vE1 (if (vT1 - vS) < vT0 then (1 : Int32) else (0 : Int32)) vE0)), .second, .val (.long (f32 (f32 vE2 (if (vT2 - vS) < vT1 then (1 : Int32) else (0 : Int32)) vE1) (if (vT2 - vS) < vT0 then (1 : Int32) else (0 : Int32)) vE0)), .second, .unset, .unset] [(.long vS), (.long vT3), (.long vT0), (.long (f32 (f32 vE3 (if (vT3 - vS) < vT2 then (1 : Int32) else (0 : Int32)) vE2) (if (vT3 - vS) < vT1 then (1 : Int32) else (0 : Int32)) vE1)), (.int (0 : Int32))])) _
    refine OGot.go (fun t k => XS.lsub X46.here hx rfl (hb hby at_387) rfl k) ?_
    refine OGot.go (fun t k => XS.lcmp X46.here hx rfl (hb hby at_388) rfl k) ?_
    show OGot p.tables e below (T46.setTop (mkF m 389 #[.val (.int p1), .val (.int p2), .val (.long q3), .second, .val (.long q4), .second, .val (.long q5), .second, .val (.long q6), .second, .val (.int (0 : Int32)), .val (.ref w_LOWEST), .val (.long vS), .second, .val (.long vT0), .second, .val (.long vT1), .second, .val (.long vT2), .second, .val (.long vT3), .second, .val (.long vE0), .second, .val (.long vE1), .second, .val (.long vE2), .second, .val (.long vE3), .second, .val (.ref b10), .val (.ref b20), .val (.int (1 : Int32)), .val (.long (f32 vE1 (if (vT1 - vS) < vT0 then (1 : Int32) else (0 : Int32)) vE0)), .second, .val (.long (f32 (f32 vE2 (if (vT2 - vS) < vT1 then (1 : Int32) else (0 : Int32)) vE1) (if (vT2 - vS) < vT0 then (1 : Int32) else (0 : Int32)) vE0)), .second, .unset, .unset] [(.int (lcmpW vT0 (vT3 - vS))), (.long (f32 (f32 vE3 (if (vT3 - vS) < vT2 then (1 : Int32) else (0 : Int32)) vE2) (if (vT3 - vS) < vT1 then (1 : Int32) else (0 : Int32)) vE1)), (.int (0 : Int32))])) _
    refine OGot.go (B := T46.setTop (mkF m 397 #[.val (.int p1), .val (.int p2), .val (.long q3), .second, .val (.long q4), .second, .val (.long q5), .second, .val (.long q6), .second, .val (.int (0 : Int32)), .val (.ref w_LOWEST), .val (.long vS), .second, .val (.long vT0), .second, .val (.long vT1), .second, .val (.long vT2), .second, .val (.long vT3), .second, .val (.long vE0), .second, .val (.long vE1), .second, .val (.long vE2), .second, .val (.long vE3), .second, .val (.ref b10), .val (.ref b20), .val (.int (1 : Int32)), .val (.long (f32 vE1 (if (vT1 - vS) < vT0 then (1 : Int32) else (0 : Int32)) vE0)), .second, .val (.long (f32 (f32 vE2 (if (vT2 - vS) < vT1 then (1 : Int32) else (0 : Int32)) vE1) (if (vT2 - vS) < vT0 then (1 : Int32) else (0 : Int32)) vE0)), .second, .unset, .unset] [(.int (if (vT3 - vS) < vT0 then (1 : Int32) else (0 : Int32))), (.long (f32 (f32 vE3 (if (vT3 - vS) < vT2 then (1 : Int32) else (0 : Int32)) vE2) (if (vT3 - vS) < vT1 then (1 : Int32) else (0 : Int32)) vE1)), (.int (0 : Int32))])) (fun t k => ?_) ?_
    · by_cases hj47 : (vT3 - vS) < vT0
      · refine XS.ifNo X46.here hx rfl (hb hby at_389) rfl ((if0 _ _).trans (tlt ((lw_gt vT0 (vT3 - vS)).mpr hj47)).2.2.2) ?_
        show Steps p.tables e below (T46.setTop (mkF m 392 #[.val (.int p1), .val (.int p2), .val (.long q3), .second, .val (.long q4), .second, .val (.long q5), .second, .val (.long q6), .second, .val (.int (0 : Int32)), .val (.ref w_LOWEST), .val (.long vS), .second, .val (.long vT0), .second, .val (.long vT1), .second, .val (.long vT2), .second, .val (.long vT3), .second, .val (.long vE0), .second, .val (.long vE1), .second, .val (.long vE2), .second, .val (.long vE3), .second, .val (.ref b10), .val (.ref b20), .val (.int (1 : Int32)), .val (.long (f32 vE1 (if (vT1 - vS) < vT0 then (1 : Int32) else (0 : Int32)) vE0)), .second, .val (.long (f32 (f32 vE2 (if (vT2 - vS) < vT1 then (1 : Int32) else (0 : Int32)) vE1) (if (vT2 - vS) < vT0 then (1 : Int32) else (0 : Int32)) vE0)), .second, .unset, .unset] [(.long (f32 (f32 vE3 (if (vT3 - vS) < vT2 then (1 : Int32) else (0 : Int32)) vE2) (if (vT3 - vS) < vT1 then (1 : Int32) else (0 : Int32)) vE1)), (.int (0 : Int32))])) _
        refine XS.iconst X46.here hx rfl (hb hby at_392) ?_
        show Steps p.tables e below (T46.setTop (mkF m 393 #[.val (.int p1), .val (.int p2), .val (.long q3), .second, .val (.long q4), .second, .val (.long q5), .second, .val (.long q6), .second, .val (.int (0 : Int32)), .val (.ref w_LOWEST), .val (.long vS), .second, .val (.long vT0), .second, .val (.long vT1), .second, .val (.long vT2), .second, .val (.long vT3), .second, .val (.long vE0), .second, .val (.long vE1), .second, .val (.long vE2), .second, .val (.long vE3), .second, .val (.ref b10), .val (.ref b20), .val (.int (1 : Int32)), .val (.long (f32 vE1 (if (vT1 - vS) < vT0 then (1 : Int32) else (0 : Int32)) vE0)), .second, .val (.long (f32 (f32 vE2 (if (vT2 - vS) < vT1 then (1 : Int32) else (0 : Int32)) vE1) (if (vT2 - vS) < vT0 then (1 : Int32) else (0 : Int32)) vE0)), .second, .unset, .unset] [(.int (1 : Int32)), (.long (f32 (f32 vE3 (if (vT3 - vS) < vT2 then (1 : Int32) else (0 : Int32)) vE2) (if (vT3 - vS) < vT1 then (1 : Int32) else (0 : Int32)) vE1)), (.int (0 : Int32))])) _
        refine XS.goto X46.here hx rfl (pc0 := 393) (pc' := 397) rfl (hb hby at_393) (by decide) (by decide) ?_
        show Steps p.tables e below (T46.setTop (mkF m 397 #[.val (.int p1), .val (.int p2), .val (.long q3), .second, .val (.long q4), .second, .val (.long q5), .second, .val (.long q6), .second, .val (.int (0 : Int32)), .val (.ref w_LOWEST), .val (.long vS), .second, .val (.long vT0), .second, .val (.long vT1), .second, .val (.long vT2), .second, .val (.long vT3), .second, .val (.long vE0), .second, .val (.long vE1), .second, .val (.long vE2), .second, .val (.long vE3), .second, .val (.ref b10), .val (.ref b20), .val (.int (1 : Int32)), .val (.long (f32 vE1 (if (vT1 - vS) < vT0 then (1 : Int32) else (0 : Int32)) vE0)), .second, .val (.long (f32 (f32 vE2 (if (vT2 - vS) < vT1 then (1 : Int32) else (0 : Int32)) vE1) (if (vT2 - vS) < vT0 then (1 : Int32) else (0 : Int32)) vE0)), .second, .unset, .unset] [(.int (1 : Int32)), (.long (f32 (f32 vE3 (if (vT3 - vS) < vT2 then (1 : Int32) else (0 : Int32)) vE2) (if (vT3 - vS) < vT1 then (1 : Int32) else (0 : Int32)) vE1)), (.int (0 : Int32))])) _
        simp only [if_pos hj47] at k
        exact k
      · refine XS.ifYes X46.here hx rfl (pc0 := 389) (pc' := 396) rfl (hb hby at_389) rfl ((if0 _ _).trans (flt (fun q => hj47 ((lw_gt vT0 (vT3 - vS)).mp q))).2.2.2) (by decide) (by decide) ?_
        show Steps p.tables e below (T46.setTop (mkF m 396 #[.val (.int p1), .val (.int p2), .val (.long q3), .second, .val (.long q4), .second, .val (.long q5), .second, .val (.long q6), .second, .val (.int (0 : Int32)), .val (.ref w_LOWEST), .val (.long vS), .second, .val (.long vT0), .second, .val (.long vT1), .second, .val (.long vT2), .second, .val (.long vT3), .second, .val (.long vE0), .second, .val (.long vE1), .second, .val (.long vE2), .second, .val (.long vE3), .second, .val (.ref b10), .val (.ref b20), .val (.int (1 : Int32)), .val (.long (f32 vE1 (if (vT1 - vS) < vT0 then (1 : Int32) else (0 : Int32)) vE0)), .second, .val (.long (f32 (f32 vE2 (if (vT2 - vS) < vT1 then (1 : Int32) else (0 : Int32)) vE1) (if (vT2 - vS) < vT0 then (1 : Int32) else (0 : Int32)) vE0)), .second, .unset, .unset] [(.long (f32 (f32 vE3 (if (vT3 - vS) < vT2 then (1 : Int32) else (0 : Int32)) vE2) (if (vT3 - vS) < vT1 then (1 : Int32) else (0 : Int32)) vE1)), (.int (0 : Int32))])) _
        refine XS.iconst X46.here hx rfl (hb hby at_396) ?_
        show Steps p.tables e below (T46.setTop (mkF m 397 #[.val (.int p1), .val (.int p2), .val (.long q3), .second, .val (.long q4), .second, .val (.long q5), .second, .val (.long q6), .second, .val (.int (0 : Int32)), .val (.ref w_LOWEST), .val (.long vS), .second, .val (.long vT0), .second, .val (.long vT1), .second, .val (.long vT2), .second, .val (.long vT3), .second, .val (.long vE0), .second, .val (.long vE1), .second, .val (.long vE2), .second, .val (.long vE3), .second, .val (.ref b10), .val (.ref b20), .val (.int (1 : Int32)), .val (.long (f32 vE1 (if (vT1 - vS) < vT0 then (1 : Int32) else (0 : Int32)) vE0)), .second, .val (.long (f32 (f32 vE2 (if (vT2 - vS) < vT1 then (1 : Int32) else (0 : Int32)) vE1) (if (vT2 - vS) < vT0 then (1 : Int32) else (0 : Int32)) vE0)), .second, .unset, .unset] [(.int (0 : Int32)), (.long (f32 (f32 vE3 (if (vT3 - vS) < vT2 then (1 : Int32) else (0 : Int32)) vE2) (if (vT3 - vS) < vT1 then (1 : Int32) else (0 : Int32)) vE1)), (.int (0 : Int32))])) _
        simp only [if_neg hj47] at k
        exact k
    refine OGot.go (fun t k => XS.lload X46.here hx rfl (hb hby at_397) rfl k) ?_
    obtain ⟨_, _, ⟨T48, L48, k48, n48⟩, -, X48, ⟨Lc48, hQ48, l48, y48, z48⟩, st48⟩ := Jvm.LawKit.callS X46 hx (y := (⟨"com/example/restrained_scaler/restrainedscaler/decision/StabilizationWindowDemandPinLaw", "fold", "(ZJZJ)J"⟩ : MethodName)) hown (mvT hZ (ow hw 237 rfl)) (mvT hZ (ow hw 238 rfl)) (mvT hZ (ow hw 239 rfl)) (mvT hZ (ow hw 240 rfl)) (by decide) (backOf (W := 0) (rm32 l Z a0 hw [] G (f32 (f32 vE3 (if (vT3 - vS) < vT2 then (1 : Int32) else (0 : Int32)) vE2) (if (vT3 - vS) < vT1 then (1 : Int32) else (0 : Int32)) vE1) (if (vT3 - vS) < vT0 then (1 : Int32) else (0 : Int32)) vE0 T42.heap n0 O42 ) hZ (ow hw 240 rfl) (ow hw 239 rfl) (by decide) (by decide)) (g := (mkF m 399 #[.val (.int p1), .val (.int p2), .val (.long q3), .second, .val (.long q4), .second, .val (.long q5), .second, .val (.long q6), .second, .val (.int (0 : Int32)), .val (.ref w_LOWEST), .val (.long vS), .second, .val (.long vT0), .second, .val (.long vT1), .second, .val (.long vT2), .second, .val (.long vT3), .second, .val (.long vE0), .second, .val (.long vE1), .second, .val (.long vE2), .second, .val (.long vE3), .second, .val (.ref b10), .val (.ref b20), .val (.int (1 : Int32)), .val (.long (f32 vE1 (if (vT1 - vS) < vT0 then (1 : Int32) else (0 : Int32)) vE0)), .second, .val (.long (f32 (f32 vE2 (if (vT2 - vS) < vT1 then (1 : Int32) else (0 : Int32)) vE1) (if (vT2 - vS) < vT0 then (1 : Int32) else (0 : Int32)) vE0)), .second, .unset, .unset] [(.long vE0), (.int (if (vT3 - vS) < vT0 then (1 : Int32) else (0 : Int32))), (.long (f32 (f32 vE3 (if (vT3 - vS) < vT2 then (1 : Int32) else (0 : Int32)) vE2) (if (vT3 - vS) < vT1 then (1 : Int32) else (0 : Int32)) vE1)), (.int (0 : Int32))])) rfl (by rw [hml]; rfl) (argsL := [(.int (0 : Int32)), (.long (f32 (f32 vE3 (if (vT3 - vS) < vT2 then (1 : Int32) else (0 : Int32)) vE2) (if (vT3 - vS) < vT1 then (1 : Int32) else (0 : Int32)) vE1)), (.int (if (vT3 - vS) < vT0 then (1 : Int32) else (0 : Int32))), (.long vE0)]) (rest := []) (lenOf pd_18 rfl) rfl (by show 2 * 0 + _ ≤ _; exact Nat.le_of_eq rfl) (hb hby at_399) (fun _ _ => ⟨rfl, e46, (by decide : 10 + 0 ≤ _), (by decide : 48 + 0 ≤ _)⟩)
    dsimp only [Pt.U, Pt.locs, Pt.cells, Pt.slots] at X48 l48 y48 z48 st48 hQ48
    subst l48 y48 z48
    obtain ⟨rfl, N48q, e48⟩ := hQ48
    have N48 := Fr.app N46 N48q
    refine OGot.go st48 ?_
    refine OGot.go (fun t k => XS.lstore X48.here hx rfl (hb hby at_402) rfl (l' := #[.val (.int p1), .val (.int p2), .val (.long q3), .second, .val (.long q4), .second, .val (.long q5), .second, .val (.long q6), .second, .val (.int (0 : Int32)), .val (.ref w_LOWEST), .val (.long vS), .second, .val (.long vT0), .second, .val (.long vT1), .second, .val (.long vT2), .second, .val (.long vT3), .second, .val (.long vE0), .second, .val (.long vE1), .second, .val (.long vE2), .second, .val (.long vE3), .second, .val (.ref b10), .val (.ref b20), .val (.int (1 : Int32)), .val (.long (f32 vE1 (if (vT1 - vS) < vT0 then (1 : Int32) else (0 : Int32)) vE0)), .second, .val (.long (f32 (f32 vE2 (if (vT2 - vS) < vT1 then (1 : Int32) else (0 : Int32)) vE1) (if (vT2 - vS) < vT0 then (1 : Int32) else (0 : Int32)) vE0)), .second, .val (.long (f32 (f32 (f32 vE3 (if (vT3 - vS) < vT2 then (1 : Int32) else (0 : Int32)) vE2) (if (vT3 - vS) < vT1 then (1 : Int32) else (0 : Int32)) vE1) (if (vT3 - vS) < vT0 then (1 : Int32) else (0 : Int32)) vE0)), .second]) rfl k) ?_
    refine OGot.go (fun t k => XS.iload X48.here hx rfl (hb hby at_404) rfl k) ?_
    refine OGot.go (fun t k => XS.aload X48.here hx rfl (hb hby at_406) rfl rfl k) ?_
    show OGot p.tables e below (T48.setTop (mkF m 408 #[.val (.int p1), .val (.int p2), .val (.long q3), .second, .val (.long q4), .second, .val (.long q5), .second, .val (.long q6), .second, .val (.int (0 : Int32)), .val (.ref w_LOWEST), .val (.long vS), .second, .val (.long vT0), .second, .val (.long vT1), .second, .val (.long vT2), .second, .val (.long vT3), .second, .val (.long vE0), .second, .val (.long vE1), .second, .val (.long vE2), .second, .val (.long vE3), .second, .val (.ref b10), .val (.ref b20), .val (.int (1 : Int32)), .val (.long (f32 vE1 (if (vT1 - vS) < vT0 then (1 : Int32) else (0 : Int32)) vE0)), .second, .val (.long (f32 (f32 vE2 (if (vT2 - vS) < vT1 then (1 : Int32) else (0 : Int32)) vE1) (if (vT2 - vS) < vT0 then (1 : Int32) else (0 : Int32)) vE0)), .second, .val (.long (f32 (f32 (f32 vE3 (if (vT3 - vS) < vT2 then (1 : Int32) else (0 : Int32)) vE2) (if (vT3 - vS) < vT1 then (1 : Int32) else (0 : Int32)) vE1) (if (vT3 - vS) < vT0 then (1 : Int32) else (0 : Int32)) vE0)), .second] [(.ref b20), (.int (1 : Int32))])) _
    obtain ⟨cq49, kq49, q49a, q49b, q49c⟩ := isOf hZ e48 HQ3.1
    obtain ⟨_, _, ⟨T49, L49, k49, n49⟩, -, X49, ⟨Lc49, hQ49, l49, y49, z49⟩, st49⟩ := X48.virtualBack hx (y := (⟨"com/example/restrained_scaler/restrainedscaler/decision/StabilizationWindow", "demand", "()J"⟩ : MethodName)) (z := (⟨"com/example/restrained_scaler/restrainedscaler/decision/StabilizationWindow", "demand", "()J"⟩ : MethodName)) hown (mvT hZ (ow hw 184 rfl)) (mvT hZ (ow hw 185 rfl)) (notFace_of_selects (args := #[]) (mvT hZ (ow hw 187 rfl))) (mvT hZ (ow hw 187 rfl)) (mvT hZ (ow hw 186 rfl)) (by decide) (backOf (W := 1) (demAll l Z a0 hw [] G b20 b6_23 b3_7_23 w_LOWEST vS k3_7_23 hd3 M3 T42.heap n0 O42 HQ3 HD3 (Nat.le_trans le3 (by decide)) ne3_) hZ (ow hw 188 rfl) (ow hw 83 rfl) (by decide) (by decide)) q49a q49c (g := (mkF m 408 #[.val (.int p1), .val (.int p2), .val (.long q3), .second, .val (.long q4), .second, .val (.long q5), .second, .val (.long q6), .second, .val (.int (0 : Int32)), .val (.ref w_LOWEST), .val (.long vS), .second, .val (.long vT0), .second, .val (.long vT1), .second, .val (.long vT2), .second, .val (.long vT3), .second, .val (.long vE0), .second, .val (.long vE1), .second, .val (.long vE2), .second, .val (.long vE3), .second, .val (.ref b10), .val (.ref b20), .val (.int (1 : Int32)), .val (.long (f32 vE1 (if (vT1 - vS) < vT0 then (1 : Int32) else (0 : Int32)) vE0)), .second, .val (.long (f32 (f32 vE2 (if (vT2 - vS) < vT1 then (1 : Int32) else (0 : Int32)) vE1) (if (vT2 - vS) < vT0 then (1 : Int32) else (0 : Int32)) vE0)), .second, .val (.long (f32 (f32 (f32 vE3 (if (vT3 - vS) < vT2 then (1 : Int32) else (0 : Int32)) vE2) (if (vT3 - vS) < vT1 then (1 : Int32) else (0 : Int32)) vE1) (if (vT3 - vS) < vT0 then (1 : Int32) else (0 : Int32)) vE0)), .second] [(.ref b20), (.int (1 : Int32))])) rfl (by rw [hml]; rfl) (Steps.refl _) (argsL := []) (rest := [(.int (1 : Int32))]) (lenOf pd_5 rfl) rfl (by show 2 * 0 + _ ≤ _; exact Nat.le_of_eq rfl) (hb hby at_408) (fun _ _ => ⟨rfl, e48, (by decide : 10 + 0 ≤ _), (by decide : 48 + 0 ≤ _)⟩)
    dsimp only [Pt.U, Pt.locs, Pt.cells, Pt.slots] at X49 l49 y49 z49 st49 hQ49
    subst l49 y49 z49
    obtain ⟨rfl, N49q, e49⟩ := hQ49
    have N49 := Fr.app N48 N49q
    refine OGot.on st49 ?_
    refine OGot.go (fun t k => XS.lload X49.here hx rfl (hb hby at_411) rfl k) ?_
    refine OGot.go (fun t k => XS.lcmp X49.here hx rfl (hb hby at_413) rfl k) ?_
    refine OGot.go (fun t k => XS.ifNo X49.here hx rfl (hb hby at_414) rfl ((if0 _ _).trans (teq ((lw_eq (dem M3) (f32 (f32 (f32 vE3 (if (vT3 - vS) < vT2 then (1 : Int32) else (0 : Int32)) vE2) (if (vT3 - vS) < vT1 then (1 : Int32) else (0 : Int32)) vE1) (if (vT3 - vS) < vT0 then (1 : Int32) else (0 : Int32)) vE0)).mpr (own_r3L (own_times h_vS h_vT0 h_vT1 h_vT2 h_vT3) ((Fld.ne G.2.2.2.2.2.2.2.2.1 G.2.2.2.2.2.2.2.2.2.1 (by decide))) hM1 hM2 hM3))).2) k) ?_
    refine OGot.go (fun t k => XS.iconst X49.here hx rfl (hb hby at_417) k) ?_
    refine OGot.go (fun t k => XS.goto X49.here hx rfl (pc0 := 418) (pc' := 422) rfl (hb hby at_418) (by decide) (by decide) k) ?_
    show OGot p.tables e below (T49.setTop (mkF m 422 #[.val (.int p1), .val (.int p2), .val (.long q3), .second, .val (.long q4), .second, .val (.long q5), .second, .val (.long q6), .second, .val (.int (0 : Int32)), .val (.ref w_LOWEST), .val (.long vS), .second, .val (.long vT0), .second, .val (.long vT1), .second, .val (.long vT2), .second, .val (.long vT3), .second, .val (.long vE0), .second, .val (.long vE1), .second, .val (.long vE2), .second, .val (.long vE3), .second, .val (.ref b10), .val (.ref b20), .val (.int (1 : Int32)), .val (.long (f32 vE1 (if (vT1 - vS) < vT0 then (1 : Int32) else (0 : Int32)) vE0)), .second, .val (.long (f32 (f32 vE2 (if (vT2 - vS) < vT1 then (1 : Int32) else (0 : Int32)) vE1) (if (vT2 - vS) < vT0 then (1 : Int32) else (0 : Int32)) vE0)), .second, .val (.long (f32 (f32 (f32 vE3 (if (vT3 - vS) < vT2 then (1 : Int32) else (0 : Int32)) vE2) (if (vT3 - vS) < vT1 then (1 : Int32) else (0 : Int32)) vE1) (if (vT3 - vS) < vT0 then (1 : Int32) else (0 : Int32)) vE0)), .second] [(.int (1 : Int32)), (.int (1 : Int32))])) _
    refine OGot.go (fun t k => XS.iand X49.here hx rfl (hb hby at_422) rfl k) ?_
    show OGot p.tables e below (T49.setTop (mkF m 423 #[.val (.int p1), .val (.int p2), .val (.long q3), .second, .val (.long q4), .second, .val (.long q5), .second, .val (.long q6), .second, .val (.int (0 : Int32)), .val (.ref w_LOWEST), .val (.long vS), .second, .val (.long vT0), .second, .val (.long vT1), .second, .val (.long vT2), .second, .val (.long vT3), .second, .val (.long vE0), .second, .val (.long vE1), .second, .val (.long vE2), .second, .val (.long vE3), .second, .val (.ref b10), .val (.ref b20), .val (.int (1 : Int32)), .val (.long (f32 vE1 (if (vT1 - vS) < vT0 then (1 : Int32) else (0 : Int32)) vE0)), .second, .val (.long (f32 (f32 vE2 (if (vT2 - vS) < vT1 then (1 : Int32) else (0 : Int32)) vE1) (if (vT2 - vS) < vT0 then (1 : Int32) else (0 : Int32)) vE0)), .second, .val (.long (f32 (f32 (f32 vE3 (if (vT3 - vS) < vT2 then (1 : Int32) else (0 : Int32)) vE2) (if (vT3 - vS) < vT1 then (1 : Int32) else (0 : Int32)) vE1) (if (vT3 - vS) < vT0 then (1 : Int32) else (0 : Int32)) vE0)), .second] [(.int ((1 : Int32) &&& (1 : Int32)))])) _
    rw [show ((1 : Int32) &&& (1 : Int32)) = (1 : Int32) from by decide]
    refine OGot.go (fun t k => XS.istore X49.here hx rfl (hb hby at_423) rfl (l' := #[.val (.int p1), .val (.int p2), .val (.long q3), .second, .val (.long q4), .second, .val (.long q5), .second, .val (.long q6), .second, .val (.int (0 : Int32)), .val (.ref w_LOWEST), .val (.long vS), .second, .val (.long vT0), .second, .val (.long vT1), .second, .val (.long vT2), .second, .val (.long vT3), .second, .val (.long vE0), .second, .val (.long vE1), .second, .val (.long vE2), .second, .val (.long vE3), .second, .val (.ref b10), .val (.ref b20), .val (.int (1 : Int32)), .val (.long (f32 vE1 (if (vT1 - vS) < vT0 then (1 : Int32) else (0 : Int32)) vE0)), .second, .val (.long (f32 (f32 vE2 (if (vT2 - vS) < vT1 then (1 : Int32) else (0 : Int32)) vE1) (if (vT2 - vS) < vT0 then (1 : Int32) else (0 : Int32)) vE0)), .second, .val (.long (f32 (f32 (f32 vE3 (if (vT3 - vS) < vT2 then (1 : Int32) else (0 : Int32)) vE2) (if (vT3 - vS) < vT1 then (1 : Int32) else (0 : Int32)) vE1) (if (vT3 - vS) < vT0 then (1 : Int32) else (0 : Int32)) vE0)), .second]) rfl k) ?_
    refine OGot.go (fun t k => XS.iload X49.here hx rfl (hb hby at_425) rfl k) ?_
    show OGot p.tables e below (T49.setTop (mkF m 427 #[.val (.int p1), .val (.int p2), .val (.long q3), .second, .val (.long q4), .second, .val (.long q5), .second, .val (.long q6), .second, .val (.int (0 : Int32)), .val (.ref w_LOWEST), .val (.long vS), .second, .val (.long vT0), .second, .val (.long vT1), .second, .val (.long vT2), .second, .val (.long vT3), .second, .val (.long vE0), .second, .val (.long vE1), .second, .val (.long vE2), .second, .val (.long vE3), .second, .val (.ref b10), .val (.ref b20), .val (.int (1 : Int32)), .val (.long (f32 vE1 (if (vT1 - vS) < vT0 then (1 : Int32) else (0 : Int32)) vE0)), .second, .val (.long (f32 (f32 vE2 (if (vT2 - vS) < vT1 then (1 : Int32) else (0 : Int32)) vE1) (if (vT2 - vS) < vT0 then (1 : Int32) else (0 : Int32)) vE0)), .second, .val (.long (f32 (f32 (f32 vE3 (if (vT3 - vS) < vT2 then (1 : Int32) else (0 : Int32)) vE2) (if (vT3 - vS) < vT1 then (1 : Int32) else (0 : Int32)) vE1) (if (vT3 - vS) < vT0 then (1 : Int32) else (0 : Int32)) vE0)), .second] [(.int (1 : Int32))])) _
    obtain ⟨fs, hr, hrun, hended, hW, hsame⟩ := X49.leave (v := some (.int (1 : Int32))) (fun h => by rw [Bd.returns] at h; cases h)
    refine ⟨_, _, retN X49 hx (t := .boolean) Bd.returns (by simp) (hb hby at_427) hr, hrun, hended, _, _, rfl, ?_, ⟨_, rfl⟩, hW, hsame.mono (by decide) (by decide)⟩
    exact (⟨rfl, N49⟩ : Q0 Z w_LOWEST w_HIGHEST w_EMPTY_ELEMENTDATA w_DEFAULTCAPACITY_EMPTY_ELEMENTDATA k_w_EMPTY_ELEMENTDATA k_w_DEFAULTCAPACITY_EMPTY_ELEMENTDATA p1 p2 q3 q4 q5 q6 h0 n0 _ T49.heap _)
  · rw [hk8]
    show OGot p.tables e below (s₁.setTop (mkF m 3 #[.val (.int p1), .val (.int p2), .val (.long q3), .second, .val (.long q4), .second, .val (.long q5), .second, .val (.long q6), .second, .unset, .unset, .unset, .unset, .unset, .unset, .unset, .unset, .unset, .unset, .unset, .unset, .unset, .unset, .unset, .unset, .unset, .unset, .unset, .unset, .unset, .unset, .unset, .unset, .unset, .unset, .unset, .unset, .unset] [(.int (1 : Int32))])) _
    refine OGot.go (fun t k => XS.ifNo X0.here hx rfl (hb hby at_3) rfl (by decide) k) ?_
    refine OGot.go (fun t k => XS.iconst X0.here hx rfl (hb hby at_6) k) ?_
    refine OGot.go (fun t k => XS.goto X0.here hx rfl (pc0 := 7) (pc' := 11) rfl (hb hby at_7) (by decide) (by decide) k) ?_
    refine OGot.go (fun t k => XS.istore X0.here hx rfl (hb hby at_11) rfl (l' := #[.val (.int p1), .val (.int p2), .val (.long q3), .second, .val (.long q4), .second, .val (.long q5), .second, .val (.long q6), .second, .val (.int (1 : Int32)), .unset, .unset, .unset, .unset, .unset, .unset, .unset, .unset, .unset, .unset, .unset, .unset, .unset, .unset, .unset, .unset, .unset, .unset, .unset, .unset, .unset, .unset, .unset, .unset, .unset, .unset, .unset, .unset]) rfl k) ?_
    refine OGot.go (fun t k => XS.iload X0.here hx rfl (hb hby at_13) rfl k) ?_
    refine OGot.go (fun t k => XS.ifNo X0.here hx rfl (hb hby at_15) rfl (by decide) k) ?_
    show OGot p.tables e below (s₁.setTop (mkF m 18 #[.val (.int p1), .val (.int p2), .val (.long q3), .second, .val (.long q4), .second, .val (.long q5), .second, .val (.long q6), .second, .val (.int (1 : Int32)), .unset, .unset, .unset, .unset, .unset, .unset, .unset, .unset, .unset, .unset, .unset, .unset, .unset, .unset, .unset, .unset, .unset, .unset, .unset, .unset, .unset, .unset, .unset, .unset, .unset, .unset, .unset, .unset] [])) _
    obtain ⟨T50, X50, e50, st50⟩ := getS2 X0 hx hZ hown (host := "") (Or.inl (ow hw 241 rfl)) Via.refl e0 (G.2.2.1.ext O0.2) (g := (mkF m 18 #[.val (.int p1), .val (.int p2), .val (.long q3), .second, .val (.long q4), .second, .val (.long q5), .second, .val (.long q6), .second, .val (.int (1 : Int32)), .unset, .unset, .unset, .unset, .unset, .unset, .unset, .unset, .unset, .unset, .unset, .unset, .unset, .unset, .unset, .unset, .unset, .unset, .unset, .unset, .unset, .unset, .unset, .unset, .unset, .unset, .unset, .unset] [])) rfl (hb hby at_18)
    refine OGot.go st50 ?_
    refine OGot.go (fun t k => XS.goto X50.here hx rfl (pc0 := 21) (pc' := 27) rfl (hb hby at_21) (by decide) (by decide) k) ?_
    refine OGot.go (fun t k => XS.astore X50.here hx rfl (hb hby at_27) rfl rfl (l' := #[.val (.int p1), .val (.int p2), .val (.long q3), .second, .val (.long q4), .second, .val (.long q5), .second, .val (.long q6), .second, .val (.int (1 : Int32)), .val (.ref w_HIGHEST), .unset, .unset, .unset, .unset, .unset, .unset, .unset, .unset, .unset, .unset, .unset, .unset, .unset, .unset, .unset, .unset, .unset, .unset, .unset, .unset, .unset, .unset, .unset, .unset, .unset, .unset, .unset]) rfl k) ?_
    refine OGot.go (fun t k => XS.iloadN X50.here hx rfl (hb hby at_29) rfl k) ?_
    refine OGot.go (fun t k => XS.iconst X50.here hx rfl (hb hby at_30) k) ?_
    refine OGot.go (fun t k => XS.iushr X50.here hx rfl (hb hby at_31) rfl k) ?_
    show OGot p.tables e below (T50.setTop (mkF m 32 #[.val (.int p1), .val (.int p2), .val (.long q3), .second, .val (.long q4), .second, .val (.long q5), .second, .val (.long q6), .second, .val (.int (1 : Int32)), .val (.ref w_HIGHEST), .unset, .unset, .unset, .unset, .unset, .unset, .unset, .unset, .unset, .unset, .unset, .unset, .unset, .unset, .unset, .unset, .unset, .unset, .unset, .unset, .unset, .unset, .unset, .unset, .unset, .unset, .unset] [(.int ((p1.toUInt32 >>> ((1 : Int32) &&& 31).toUInt32).toInt32))])) _
    refine OGot.go (fun t k => XS.bipush X50.here hx rfl (hb hby at_32) k) ?_
    refine OGot.go (fun t k => XS.iand X50.here hx rfl (hb hby at_34) rfl k) ?_
    refine OGot.go (fun t k => XS.i2l X50.here hx rfl (hb hby at_35) rfl k) ?_
    show OGot p.tables e below (T50.setTop (mkF m 36 #[.val (.int p1), .val (.int p2), .val (.long q3), .second, .val (.long q4), .second, .val (.long q5), .second, .val (.long q6), .second, .val (.int (1 : Int32)), .val (.ref w_HIGHEST), .unset, .unset, .unset, .unset, .unset, .unset, .unset, .unset, .unset, .unset, .unset, .unset, .unset, .unset, .unset, .unset, .unset, .unset, .unset, .unset, .unset, .unset, .unset, .unset, .unset, .unset, .unset] [(.long ((((p1.toUInt32 >>> ((1 : Int32) &&& 31).toUInt32).toInt32) &&& (63 : Int32)).toInt64))])) _
    obtain ⟨vS, h_vS⟩ : ∃ z, z = ((((p1.toUInt32 >>> ((1 : Int32) &&& 31).toUInt32).toInt32) &&& (63 : Int32)).toInt64) := ⟨_, rfl⟩
    rw [← h_vS]
    refine OGot.go (fun t k => XS.lstore X50.here hx rfl (hb hby at_36) rfl (l' := #[.val (.int p1), .val (.int p2), .val (.long q3), .second, .val (.long q4), .second, .val (.long q5), .second, .val (.long q6), .second, .val (.int (1 : Int32)), .val (.ref w_HIGHEST), .val (.long vS), .second, .unset, .unset, .unset, .unset, .unset, .unset, .unset, .unset, .unset, .unset, .unset, .unset, .unset, .unset, .unset, .unset, .unset, .unset, .unset, .unset, .unset, .unset, .unset, .unset, .unset]) rfl k) ?_
    refine OGot.go (fun t k => XS.iloadN X50.here hx rfl (hb hby at_38) rfl k) ?_
    refine OGot.go (fun t k => XS.bipush X50.here hx rfl (hb hby at_39) k) ?_
    refine OGot.go (fun t k => XS.iand X50.here hx rfl (hb hby at_41) rfl k) ?_
    refine OGot.go (fun t k => XS.bipush X50.here hx rfl (hb hby at_42) k) ?_
    show OGot p.tables e below (T50.setTop (mkF m 44 #[.val (.int p1), .val (.int p2), .val (.long q3), .second, .val (.long q4), .second, .val (.long q5), .second, .val (.long q6), .second, .val (.int (1 : Int32)), .val (.ref w_HIGHEST), .val (.long vS), .second, .unset, .unset, .unset, .unset, .unset, .unset, .unset, .unset, .unset, .unset, .unset, .unset, .unset, .unset, .unset, .unset, .unset, .unset, .unset, .unset, .unset, .unset, .unset, .unset, .unset] [(.int (32 : Int32)), (.int (p2 &&& (63 : Int32)))])) _
    refine OGot.go (fun t k => XS.isub X50.here hx rfl (hb hby at_44) rfl k) ?_
    refine OGot.go (fun t k => XS.i2l X50.here hx rfl (hb hby at_45) rfl k) ?_
    show OGot p.tables e below (T50.setTop (mkF m 46 #[.val (.int p1), .val (.int p2), .val (.long q3), .second, .val (.long q4), .second, .val (.long q5), .second, .val (.long q6), .second, .val (.int (1 : Int32)), .val (.ref w_HIGHEST), .val (.long vS), .second, .unset, .unset, .unset, .unset, .unset, .unset, .unset, .unset, .unset, .unset, .unset, .unset, .unset, .unset, .unset, .unset, .unset, .unset, .unset, .unset, .unset, .unset, .unset, .unset, .unset] [(.long (((p2 &&& (63 : Int32)) - (32 : Int32)).toInt64))])) _
    obtain ⟨vT0, h_vT0⟩ : ∃ z, z = (((p2 &&& (63 : Int32)) - (32 : Int32)).toInt64) := ⟨_, rfl⟩
    rw [← h_vT0]
    refine OGot.go (fun t k => XS.lstore X50.here hx rfl (hb hby at_46) rfl (l' := #[.val (.int p1), .val (.int p2), .val (.long q3), .second, .val (.long q4), .second, .val (.long q5), .second, .val (.long q6), .second, .val (.int (1 : Int32)), .val (.ref w_HIGHEST), .val (.long vS), .second, .val (.long vT0), .second, .unset, .unset, .unset, .unset, .unset, .unset, .unset, .unset, .unset, .unset, .unset, .unset, .unset, .unset, .unset, .unset, .unset, .unset, .unset, .unset, .unset, .unset, .unset]) rfl k) ?_
    refine OGot.go (fun t k => XS.lload X50.here hx rfl (hb hby at_48) rfl k) ?_
    refine OGot.go (fun t k => XS.iloadN X50.here hx rfl (hb hby at_50) rfl k) ?_
    refine OGot.go (fun t k => XS.bipush X50.here hx rfl (hb hby at_51) k) ?_
    refine OGot.go (fun t k => XS.iushr X50.here hx rfl (hb hby at_53) rfl k) ?_
    show OGot p.tables e below (T50.setTop (mkF m 54 #[.val (.int p1), .val (.int p2), .val (.long q3), .second, .val (.long q4), .second, .val (.long q5), .second, .val (.long q6), .second, .val (.int (1 : Int32)), .val (.ref w_HIGHEST), .val (.long vS), .second, .val (.long vT0), .second, .unset, .unset, .unset, .unset, .unset, .unset, .unset, .unset, .unset, .unset, .unset, .unset, .unset, .unset, .unset, .unset, .unset, .unset, .unset, .unset, .unset, .unset, .unset] [(.int ((p2.toUInt32 >>> ((6 : Int32) &&& 31).toUInt32).toInt32)), (.long vT0)])) _
    refine OGot.go (fun t k => XS.bipush X50.here hx rfl (hb hby at_54) k) ?_
    refine OGot.go (fun t k => XS.iand X50.here hx rfl (hb hby at_56) rfl k) ?_
    refine OGot.go (fun t k => XS.i2l X50.here hx rfl (hb hby at_57) rfl k) ?_
    refine OGot.go (fun t k => XS.ladd X50.here hx rfl (hb hby at_58) rfl k) ?_
    refine OGot.go (fun t k => XS.lconst X50.here hx rfl (hb hby at_59) k) ?_
    refine OGot.go (fun t k => XS.ladd X50.here hx rfl (hb hby at_60) rfl k) ?_
    show OGot p.tables e below (T50.setTop (mkF m 61 #[.val (.int p1), .val (.int p2), .val (.long q3), .second, .val (.long q4), .second, .val (.long q5), .second, .val (.long q6), .second, .val (.int (1 : Int32)), .val (.ref w_HIGHEST), .val (.long vS), .second, .val (.long vT0), .second, .unset, .unset, .unset, .unset, .unset, .unset, .unset, .unset, .unset, .unset, .unset, .unset, .unset, .unset, .unset, .unset, .unset, .unset, .unset, .unset, .unset, .unset, .unset] [(.long ((vT0 + ((((p2.toUInt32 >>> ((6 : Int32) &&& 31).toUInt32).toInt32) &&& (31 : Int32)).toInt64)) + (1 : Int64)))])) _
    obtain ⟨vT1, h_vT1⟩ : ∃ z, z = ((vT0 + ((((p2.toUInt32 >>> ((6 : Int32) &&& 31).toUInt32).toInt32) &&& (31 : Int32)).toInt64)) + (1 : Int64)) := ⟨_, rfl⟩
    rw [← h_vT1]
    refine OGot.go (fun t k => XS.lstore X50.here hx rfl (hb hby at_61) rfl (l' := #[.val (.int p1), .val (.int p2), .val (.long q3), .second, .val (.long q4), .second, .val (.long q5), .second, .val (.long q6), .second, .val (.int (1 : Int32)), .val (.ref w_HIGHEST), .val (.long vS), .second, .val (.long vT0), .second, .val (.long vT1), .second, .unset, .unset, .unset, .unset, .unset, .unset, .unset, .unset, .unset, .unset, .unset, .unset, .unset, .unset, .unset, .unset, .unset, .unset, .unset, .unset, .unset]) rfl k) ?_
    refine OGot.go (fun t k => XS.lload X50.here hx rfl (hb hby at_63) rfl k) ?_
    refine OGot.go (fun t k => XS.iloadN X50.here hx rfl (hb hby at_65) rfl k) ?_
    refine OGot.go (fun t k => XS.bipush X50.here hx rfl (hb hby at_66) k) ?_
    refine OGot.go (fun t k => XS.iushr X50.here hx rfl (hb hby at_68) rfl k) ?_
    show OGot p.tables e below (T50.setTop (mkF m 69 #[.val (.int p1), .val (.int p2), .val (.long q3), .second, .val (.long q4), .second, .val (.long q5), .second, .val (.long q6), .second, .val (.int (1 : Int32)), .val (.ref w_HIGHEST), .val (.long vS), .second, .val (.long vT0), .second, .val (.long vT1), .second, .unset, .unset, .unset, .unset, .unset, .unset, .unset, .unset, .unset, .unset, .unset, .unset, .unset, .unset, .unset, .unset, .unset, .unset, .unset, .unset, .unset] [(.int ((p2.toUInt32 >>> ((11 : Int32) &&& 31).toUInt32).toInt32)), (.long vT1)])) _
    refine OGot.go (fun t k => XS.bipush X50.here hx rfl (hb hby at_69) k) ?_
    refine OGot.go (fun t k => XS.iand X50.here hx rfl (hb hby at_71) rfl k) ?_
    refine OGot.go (fun t k => XS.i2l X50.here hx rfl (hb hby at_72) rfl k) ?_
    refine OGot.go (fun t k => XS.ladd X50.here hx rfl (hb hby at_73) rfl k) ?_
    refine OGot.go (fun t k => XS.lconst X50.here hx rfl (hb hby at_74) k) ?_
    refine OGot.go (fun t k => XS.ladd X50.here hx rfl (hb hby at_75) rfl k) ?_
    show OGot p.tables e below (T50.setTop (mkF m 76 #[.val (.int p1), .val (.int p2), .val (.long q3), .second, .val (.long q4), .second, .val (.long q5), .second, .val (.long q6), .second, .val (.int (1 : Int32)), .val (.ref w_HIGHEST), .val (.long vS), .second, .val (.long vT0), .second, .val (.long vT1), .second, .unset, .unset, .unset, .unset, .unset, .unset, .unset, .unset, .unset, .unset, .unset, .unset, .unset, .unset, .unset, .unset, .unset, .unset, .unset, .unset, .unset] [(.long ((vT1 + ((((p2.toUInt32 >>> ((11 : Int32) &&& 31).toUInt32).toInt32) &&& (31 : Int32)).toInt64)) + (1 : Int64)))])) _
    obtain ⟨vT2, h_vT2⟩ : ∃ z, z = ((vT1 + ((((p2.toUInt32 >>> ((11 : Int32) &&& 31).toUInt32).toInt32) &&& (31 : Int32)).toInt64)) + (1 : Int64)) := ⟨_, rfl⟩
    rw [← h_vT2]
    refine OGot.go (fun t k => XS.lstore X50.here hx rfl (hb hby at_76) rfl (l' := #[.val (.int p1), .val (.int p2), .val (.long q3), .second, .val (.long q4), .second, .val (.long q5), .second, .val (.long q6), .second, .val (.int (1 : Int32)), .val (.ref w_HIGHEST), .val (.long vS), .second, .val (.long vT0), .second, .val (.long vT1), .second, .val (.long vT2), .second, .unset, .unset, .unset, .unset, .unset, .unset, .unset, .unset, .unset, .unset, .unset, .unset, .unset, .unset, .unset, .unset, .unset, .unset, .unset]) rfl k) ?_
    refine OGot.go (fun t k => XS.lload X50.here hx rfl (hb hby at_78) rfl k) ?_
    refine OGot.go (fun t k => XS.iloadN X50.here hx rfl (hb hby at_80) rfl k) ?_
    refine OGot.go (fun t k => XS.bipush X50.here hx rfl (hb hby at_81) k) ?_
    refine OGot.go (fun t k => XS.iushr X50.here hx rfl (hb hby at_83) rfl k) ?_
    show OGot p.tables e below (T50.setTop (mkF m 84 #[.val (.int p1), .val (.int p2), .val (.long q3), .second, .val (.long q4), .second, .val (.long q5), .second, .val (.long q6), .second, .val (.int (1 : Int32)), .val (.ref w_HIGHEST), .val (.long vS), .second, .val (.long vT0), .second, .val (.long vT1), .second, .val (.long vT2), .second, .unset, .unset, .unset, .unset, .unset, .unset, .unset, .unset, .unset, .unset, .unset, .unset, .unset, .unset, .unset, .unset, .unset, .unset, .unset] [(.int ((p2.toUInt32 >>> ((16 : Int32) &&& 31).toUInt32).toInt32)), (.long vT2)])) _
    refine OGot.go (fun t k => XS.bipush X50.here hx rfl (hb hby at_84) k) ?_
    refine OGot.go (fun t k => XS.iand X50.here hx rfl (hb hby at_86) rfl k) ?_
    refine OGot.go (fun t k => XS.i2l X50.here hx rfl (hb hby at_87) rfl k) ?_
    refine OGot.go (fun t k => XS.ladd X50.here hx rfl (hb hby at_88) rfl k) ?_
    refine OGot.go (fun t k => XS.lconst X50.here hx rfl (hb hby at_89) k) ?_
    refine OGot.go (fun t k => XS.ladd X50.here hx rfl (hb hby at_90) rfl k) ?_
    show OGot p.tables e below (T50.setTop (mkF m 91 #[.val (.int p1), .val (.int p2), .val (.long q3), .second, .val (.long q4), .second, .val (.long q5), .second, .val (.long q6), .second, .val (.int (1 : Int32)), .val (.ref w_HIGHEST), .val (.long vS), .second, .val (.long vT0), .second, .val (.long vT1), .second, .val (.long vT2), .second, .unset, .unset, .unset, .unset, .unset, .unset, .unset, .unset, .unset, .unset, .unset, .unset, .unset, .unset, .unset, .unset, .unset, .unset, .unset] [(.long ((vT2 + ((((p2.toUInt32 >>> ((16 : Int32) &&& 31).toUInt32).toInt32) &&& (31 : Int32)).toInt64)) + (1 : Int64)))])) _
    obtain ⟨vT3, h_vT3⟩ : ∃ z, z = ((vT2 + ((((p2.toUInt32 >>> ((16 : Int32) &&& 31).toUInt32).toInt32) &&& (31 : Int32)).toInt64)) + (1 : Int64)) := ⟨_, rfl⟩
    rw [← h_vT3]
    refine OGot.go (fun t k => XS.lstore X50.here hx rfl (hb hby at_91) rfl (l' := #[.val (.int p1), .val (.int p2), .val (.long q3), .second, .val (.long q4), .second, .val (.long q5), .second, .val (.long q6), .second, .val (.int (1 : Int32)), .val (.ref w_HIGHEST), .val (.long vS), .second, .val (.long vT0), .second, .val (.long vT1), .second, .val (.long vT2), .second, .val (.long vT3), .second, .unset, .unset, .unset, .unset, .unset, .unset, .unset, .unset, .unset, .unset, .unset, .unset, .unset, .unset, .unset, .unset, .unset]) rfl k) ?_
    refine OGot.go (fun t k => XS.lloadN X50.here hx rfl (hb hby at_93) rfl k) ?_
    refine OGot.go (fun t k => X50.ldc2Long hx hown (mvT hZ (ow hw 3 rfl)) (g := (mkF m 94 #[.val (.int p1), .val (.int p2), .val (.long q3), .second, .val (.long q4), .second, .val (.long q5), .second, .val (.long q6), .second, .val (.int (1 : Int32)), .val (.ref w_HIGHEST), .val (.long vS), .second, .val (.long vT0), .second, .val (.long vT1), .second, .val (.long vT2), .second, .val (.long vT3), .second, .unset, .unset, .unset, .unset, .unset, .unset, .unset, .unset, .unset, .unset, .unset, .unset, .unset, .unset, .unset, .unset, .unset] [(.long q3)])) rfl (hb hby at_94) _ k) ?_
    refine OGot.go (fun t k => XS.land X50.here hx rfl (hb hby at_97) rfl k) ?_
    show OGot p.tables e below (T50.setTop (mkF m 98 #[.val (.int p1), .val (.int p2), .val (.long q3), .second, .val (.long q4), .second, .val (.long q5), .second, .val (.long q6), .second, .val (.int (1 : Int32)), .val (.ref w_HIGHEST), .val (.long vS), .second, .val (.long vT0), .second, .val (.long vT1), .second, .val (.long vT2), .second, .val (.long vT3), .second, .unset, .unset, .unset, .unset, .unset, .unset, .unset, .unset, .unset, .unset, .unset, .unset, .unset, .unset, .unset, .unset, .unset] [(.long (q3 &&& (9223372036854775807 : Int64)))])) _
    obtain ⟨vE0, h_vE0⟩ : ∃ z, z = (q3 &&& (9223372036854775807 : Int64)) := ⟨_, rfl⟩
    rw [← h_vE0]
    refine OGot.go (fun t k => XS.lstore X50.here hx rfl (hb hby at_98) rfl (l' := #[.val (.int p1), .val (.int p2), .val (.long q3), .second, .val (.long q4), .second, .val (.long q5), .second, .val (.long q6), .second, .val (.int (1 : Int32)), .val (.ref w_HIGHEST), .val (.long vS), .second, .val (.long vT0), .second, .val (.long vT1), .second, .val (.long vT2), .second, .val (.long vT3), .second, .val (.long vE0), .second, .unset, .unset, .unset, .unset, .unset, .unset, .unset, .unset, .unset, .unset, .unset, .unset, .unset, .unset, .unset]) rfl k) ?_
    refine OGot.go (fun t k => XS.lload X50.here hx rfl (hb hby at_100) rfl k) ?_
    refine OGot.go (fun t k => X50.ldc2Long hx hown (mvT hZ (ow hw 3 rfl)) (g := (mkF m 102 #[.val (.int p1), .val (.int p2), .val (.long q3), .second, .val (.long q4), .second, .val (.long q5), .second, .val (.long q6), .second, .val (.int (1 : Int32)), .val (.ref w_HIGHEST), .val (.long vS), .second, .val (.long vT0), .second, .val (.long vT1), .second, .val (.long vT2), .second, .val (.long vT3), .second, .val (.long vE0), .second, .unset, .unset, .unset, .unset, .unset, .unset, .unset, .unset, .unset, .unset, .unset, .unset, .unset, .unset, .unset] [(.long q4)])) rfl (hb hby at_102) _ k) ?_
    refine OGot.go (fun t k => XS.land X50.here hx rfl (hb hby at_105) rfl k) ?_
    show OGot p.tables e below (T50.setTop (mkF m 106 #[.val (.int p1), .val (.int p2), .val (.long q3), .second, .val (.long q4), .second, .val (.long q5), .second, .val (.long q6), .second, .val (.int (1 : Int32)), .val (.ref w_HIGHEST), .val (.long vS), .second, .val (.long vT0), .second, .val (.long vT1), .second, .val (.long vT2), .second, .val (.long vT3), .second, .val (.long vE0), .second, .unset, .unset, .unset, .unset, .unset, .unset, .unset, .unset, .unset, .unset, .unset, .unset, .unset, .unset, .unset] [(.long (q4 &&& (9223372036854775807 : Int64)))])) _
    obtain ⟨vE1, h_vE1⟩ : ∃ z, z = (q4 &&& (9223372036854775807 : Int64)) := ⟨_, rfl⟩
    rw [← h_vE1]
    refine OGot.go (fun t k => XS.lstore X50.here hx rfl (hb hby at_106) rfl (l' := #[.val (.int p1), .val (.int p2), .val (.long q3), .second, .val (.long q4), .second, .val (.long q5), .second, .val (.long q6), .second, .val (.int (1 : Int32)), .val (.ref w_HIGHEST), .val (.long vS), .second, .val (.long vT0), .second, .val (.long vT1), .second, .val (.long vT2), .second, .val (.long vT3), .second, .val (.long vE0), .second, .val (.long vE1), .second, .unset, .unset, .unset, .unset, .unset, .unset, .unset, .unset, .unset, .unset, .unset, .unset, .unset]) rfl k) ?_
    refine OGot.go (fun t k => XS.lload X50.here hx rfl (hb hby at_108) rfl k) ?_
    refine OGot.go (fun t k => X50.ldc2Long hx hown (mvT hZ (ow hw 3 rfl)) (g := (mkF m 110 #[.val (.int p1), .val (.int p2), .val (.long q3), .second, .val (.long q4), .second, .val (.long q5), .second, .val (.long q6), .second, .val (.int (1 : Int32)), .val (.ref w_HIGHEST), .val (.long vS), .second, .val (.long vT0), .second, .val (.long vT1), .second, .val (.long vT2), .second, .val (.long vT3), .second, .val (.long vE0), .second, .val (.long vE1), .second, .unset, .unset, .unset, .unset, .unset, .unset, .unset, .unset, .unset, .unset, .unset, .unset, .unset] [(.long q5)])) rfl (hb hby at_110) _ k) ?_
    refine OGot.go (fun t k => XS.land X50.here hx rfl (hb hby at_113) rfl k) ?_
    show OGot p.tables e below (T50.setTop (mkF m 114 #[.val (.int p1), .val (.int p2), .val (.long q3), .second, .val (.long q4), .second, .val (.long q5), .second, .val (.long q6), .second, .val (.int (1 : Int32)), .val (.ref w_HIGHEST), .val (.long vS), .second, .val (.long vT0), .second, .val (.long vT1), .second, .val (.long vT2), .second, .val (.long vT3), .second, .val (.long vE0), .second, .val (.long vE1), .second, .unset, .unset, .unset, .unset, .unset, .unset, .unset, .unset, .unset, .unset, .unset, .unset, .unset] [(.long (q5 &&& (9223372036854775807 : Int64)))])) _
    obtain ⟨vE2, h_vE2⟩ : ∃ z, z = (q5 &&& (9223372036854775807 : Int64)) := ⟨_, rfl⟩
    rw [← h_vE2]
    refine OGot.go (fun t k => XS.lstore X50.here hx rfl (hb hby at_114) rfl (l' := #[.val (.int p1), .val (.int p2), .val (.long q3), .second, .val (.long q4), .second, .val (.long q5), .second, .val (.long q6), .second, .val (.int (1 : Int32)), .val (.ref w_HIGHEST), .val (.long vS), .second, .val (.long vT0), .second, .val (.long vT1), .second, .val (.long vT2), .second, .val (.long vT3), .second, .val (.long vE0), .second, .val (.long vE1), .second, .val (.long vE2), .second, .unset, .unset, .unset, .unset, .unset, .unset, .unset, .unset, .unset, .unset, .unset]) rfl k) ?_
    refine OGot.go (fun t k => XS.lload X50.here hx rfl (hb hby at_116) rfl k) ?_
    refine OGot.go (fun t k => X50.ldc2Long hx hown (mvT hZ (ow hw 3 rfl)) (g := (mkF m 118 #[.val (.int p1), .val (.int p2), .val (.long q3), .second, .val (.long q4), .second, .val (.long q5), .second, .val (.long q6), .second, .val (.int (1 : Int32)), .val (.ref w_HIGHEST), .val (.long vS), .second, .val (.long vT0), .second, .val (.long vT1), .second, .val (.long vT2), .second, .val (.long vT3), .second, .val (.long vE0), .second, .val (.long vE1), .second, .val (.long vE2), .second, .unset, .unset, .unset, .unset, .unset, .unset, .unset, .unset, .unset, .unset, .unset] [(.long q6)])) rfl (hb hby at_118) _ k) ?_
    refine OGot.go (fun t k => XS.land X50.here hx rfl (hb hby at_121) rfl k) ?_
    show OGot p.tables e below (T50.setTop (mkF m 122 #[.val (.int p1), .val (.int p2), .val (.long q3), .second, .val (.long q4), .second, .val (.long q5), .second, .val (.long q6), .second, .val (.int (1 : Int32)), .val (.ref w_HIGHEST), .val (.long vS), .second, .val (.long vT0), .second, .val (.long vT1), .second, .val (.long vT2), .second, .val (.long vT3), .second, .val (.long vE0), .second, .val (.long vE1), .second, .val (.long vE2), .second, .unset, .unset, .unset, .unset, .unset, .unset, .unset, .unset, .unset, .unset, .unset] [(.long (q6 &&& (9223372036854775807 : Int64)))])) _
    obtain ⟨vE3, h_vE3⟩ : ∃ z, z = (q6 &&& (9223372036854775807 : Int64)) := ⟨_, rfl⟩
    rw [← h_vE3]
    refine OGot.go (fun t k => XS.lstore X50.here hx rfl (hb hby at_122) rfl (l' := #[.val (.int p1), .val (.int p2), .val (.long q3), .second, .val (.long q4), .second, .val (.long q5), .second, .val (.long q6), .second, .val (.int (1 : Int32)), .val (.ref w_HIGHEST), .val (.long vS), .second, .val (.long vT0), .second, .val (.long vT1), .second, .val (.long vT2), .second, .val (.long vT3), .second, .val (.long vE0), .second, .val (.long vE1), .second, .val (.long vE2), .second, .val (.long vE3), .second, .unset, .unset, .unset, .unset, .unset, .unset, .unset, .unset, .unset]) rfl k) ?_
    obtain ⟨T51, h51, X51, e51, E51, A51, D51, -, st51⟩ := newO X50 hx hZ hown (ow hw 4 rfl) (ow hw 5 rfl) (ow hw 6 rfl) e50 (g := (mkF m 124 #[.val (.int p1), .val (.int p2), .val (.long q3), .second, .val (.long q4), .second, .val (.long q5), .second, .val (.long q6), .second, .val (.int (1 : Int32)), .val (.ref w_HIGHEST), .val (.long vS), .second, .val (.long vT0), .second, .val (.long vT1), .second, .val (.long vT2), .second, .val (.long vT3), .second, .val (.long vE0), .second, .val (.long vE1), .second, .val (.long vE2), .second, .val (.long vE3), .second, .unset, .unset, .unset, .unset, .unset, .unset, .unset, .unset, .unset] [])) rfl (hb hby at_124) (by decide) (by decide)
    obtain ⟨b51, g51⟩ : ∃ z, z = h0.size := ⟨_, rfl⟩
    rw [← g51] at A51 D51 st51
    refine OGot.go st51 ?_
    have g_b51 : n0 ≤ b51 := Nat.le_trans (osz O0) (Nat.le_of_eq g51.symm)
    have sy_b51 : h0.size ≤ b51 := Nat.le_of_eq g51.symm
    have O51 := O0.ext E51
    have F51_modCount : Fld Z h51 b51 "java/util/AbstractList" "modCount" "I" (.int (0 : Int32)) := D51 (Or.inl (ow hw 26 rfl)) (ty := .int) (by decide)
    have F51_elementData : Fld Z h51 b51 "java/util/ArrayList" "elementData" "[Ljava/lang/Object;" .null := D51 (Or.inl (ow hw 29 rfl)) (ty := (.array (.object "java/lang/Object"))) (by decide)
    have F51_size : Fld Z h51 b51 "java/util/ArrayList" "size" "I" (.int (0 : Int32)) := D51 (Or.inl (ow hw 58 rfl)) (ty := .int) (by decide)
    refine OGot.go (fun t k => XS.dup X51.here hx rfl (hb hby at_127) rfl rfl k) ?_
    obtain ⟨_, _, ⟨T52, L52, k52, n52⟩, -, X52, ⟨Lc52, hQ52, l52, y52, z52⟩, st52⟩ := X51.specialBack hx (y := (⟨"java/util/ArrayList", "<init>", "()V"⟩ : MethodName)) rfl hown (mvT hZ (ow hw 7 rfl)) (mvT hZ (ow hw 8 rfl)) (mvT hZ (ow hw 9 rfl)) (by decide) (backOf (W := 1) (rm1 l Z a0 hw [] G b51 h51 n0 O51 A51 F51_modCount g_b51 F51_elementData) hZ (ow hw 9 rfl) (ow hw 6 rfl) (by decide) (by decide)) (g := (mkF m 128 #[.val (.int p1), .val (.int p2), .val (.long q3), .second, .val (.long q4), .second, .val (.long q5), .second, .val (.long q6), .second, .val (.int (1 : Int32)), .val (.ref w_HIGHEST), .val (.long vS), .second, .val (.long vT0), .second, .val (.long vT1), .second, .val (.long vT2), .second, .val (.long vT3), .second, .val (.long vE0), .second, .val (.long vE1), .second, .val (.long vE2), .second, .val (.long vE3), .second, .unset, .unset, .unset, .unset, .unset, .unset, .unset, .unset, .unset] [(.ref b51), (.ref b51)])) rfl (by rw [hml]; rfl) (Steps.refl _) (a := b51) (argsL := []) (rest := [(.ref b51)]) (lenOf pd_7 rfl) rfl (by show 2 * 0 + _ ≤ _; exact Nat.le_of_eq rfl) (hb hby at_128) (fun _ _ => ⟨rfl, e51, (by decide : 1 + 0 ≤ _), (by decide : 3 + 0 ≤ _)⟩)
    dsimp only [Pt.U, Pt.locs, Pt.cells, Pt.slots] at X52 l52 y52 z52 st52 hQ52
    subst l52 y52 z52
    obtain ⟨N52q, rfl, K52, Fo52_0, Fo52_1⟩ := hQ52
    have O52 := OKeep.old O51 K52 (ogeS g_b51 (ogeS g_b51 oge0))
    have N52 := Fr.app N0 N52q
    refine OGot.on st52 ?_
    refine OGot.go (fun t k => XS.astore X52.here hx rfl (hb hby at_131) rfl rfl (l' := #[.val (.int p1), .val (.int p2), .val (.long q3), .second, .val (.long q4), .second, .val (.long q5), .second, .val (.long q6), .second, .val (.int (1 : Int32)), .val (.ref w_HIGHEST), .val (.long vS), .second, .val (.long vT0), .second, .val (.long vT1), .second, .val (.long vT2), .second, .val (.long vT3), .second, .val (.long vE0), .second, .val (.long vE1), .second, .val (.long vE2), .second, .val (.long vE3), .second, .val (.ref b51), .unset, .unset, .unset, .unset, .unset, .unset, .unset, .unset]) rfl k) ?_
    show OGot p.tables e below (T52.setTop (mkF m 133 #[.val (.int p1), .val (.int p2), .val (.long q3), .second, .val (.long q4), .second, .val (.long q5), .second, .val (.long q6), .second, .val (.int (1 : Int32)), .val (.ref w_HIGHEST), .val (.long vS), .second, .val (.long vT0), .second, .val (.long vT1), .second, .val (.long vT2), .second, .val (.long vT3), .second, .val (.long vE0), .second, .val (.long vE1), .second, .val (.long vE2), .second, .val (.long vE3), .second, .val (.ref b51), .unset, .unset, .unset, .unset, .unset, .unset, .unset, .unset] [])) _
    refine OGot.go (fun t k => XS.aload X52.here hx rfl (hb hby at_133) rfl rfl k) ?_
    obtain ⟨T53, h53, X53, e53, E53, A53, D53, -, st53⟩ := newO X52 hx hZ hown (ow hw 30 rfl) (ow hw 31 rfl) (ow hw 32 rfl) rfl (g := (mkF m 135 #[.val (.int p1), .val (.int p2), .val (.long q3), .second, .val (.long q4), .second, .val (.long q5), .second, .val (.long q6), .second, .val (.int (1 : Int32)), .val (.ref w_HIGHEST), .val (.long vS), .second, .val (.long vT0), .second, .val (.long vT1), .second, .val (.long vT2), .second, .val (.long vT3), .second, .val (.long vE0), .second, .val (.long vE1), .second, .val (.long vE2), .second, .val (.long vE3), .second, .val (.ref b51), .unset, .unset, .unset, .unset, .unset, .unset, .unset, .unset] [(.ref b51)])) rfl (hb hby at_135) (by decide) (by decide)
    obtain ⟨b53, g53⟩ : ∃ z, z = T52.heap.size := ⟨_, rfl⟩
    rw [← g53] at A53 D53 st53
    refine OGot.go st53 ?_
    have g_b53 : n0 ≤ b53 := Nat.le_trans (osz O52) (Nat.le_of_eq g53.symm)
    have sy_b53 : T52.heap.size ≤ b53 := Nat.le_of_eq g53.symm
    have O53 := O52.ext E53
    have F53_time : Fld Z h53 b53 "com/example/restrained_scaler/restrainedscaler/decision/Decider$Demand" "time" "J" (.long (0 : Int64)) := D53 (Or.inr (ow hw 43 rfl)) (ty := .long) (by decide)
    have F53_desired : Fld Z h53 b53 "com/example/restrained_scaler/restrainedscaler/decision/Decider$Demand" "desired" "J" (.long (0 : Int64)) := D53 (Or.inr (ow hw 45 rfl)) (ty := .long) (by decide)
    refine OGot.go (fun t k => XS.dup X53.here hx rfl (hb hby at_138) rfl rfl k) ?_
    refine OGot.go (fun t k => XS.lload X53.here hx rfl (hb hby at_139) rfl k) ?_
    refine OGot.go (fun t k => XS.lload X53.here hx rfl (hb hby at_141) rfl k) ?_
    obtain ⟨_, _, ⟨T54, L54, k54, n54⟩, -, X54, ⟨Lc54, hQ54, l54, y54, z54⟩, st54⟩ := X53.specialBack hx (y := (⟨"com/example/restrained_scaler/restrainedscaler/decision/Decider$Demand", "<init>", "(JJ)V"⟩ : MethodName)) rfl hown (mvT hZ (ow hw 33 rfl)) (mvT hZ (ow hw 34 rfl)) (mvT hZ (ow hw 35 rfl)) (by decide) (backOf (W := 2) (rm5 l Z a0 hw [] G b53 vT0 vE0 h53 n0 O53 A53 F53_time g_b53 F53_desired) hZ (ow hw 35 rfl) (ow hw 32 rfl) (by decide) (by decide)) (g := (mkF m 143 #[.val (.int p1), .val (.int p2), .val (.long q3), .second, .val (.long q4), .second, .val (.long q5), .second, .val (.long q6), .second, .val (.int (1 : Int32)), .val (.ref w_HIGHEST), .val (.long vS), .second, .val (.long vT0), .second, .val (.long vT1), .second, .val (.long vT2), .second, .val (.long vT3), .second, .val (.long vE0), .second, .val (.long vE1), .second, .val (.long vE2), .second, .val (.long vE3), .second, .val (.ref b51), .unset, .unset, .unset, .unset, .unset, .unset, .unset, .unset] [(.long vE0), (.long vT0), (.ref b53), (.ref b53), (.ref b51)])) rfl (by rw [hml]; rfl) (Steps.refl _) (a := b53) (argsL := [(.long vT0), (.long vE0)]) (rest := [(.ref b53), (.ref b51)]) (lenOf pd_8 rfl) rfl (by show 2 * 0 + _ ≤ _; exact Nat.le_of_eq rfl) (hb hby at_143) (fun _ _ => ⟨rfl, e53, (by decide : 2 + 0 ≤ _), (by decide : 5 + 0 ≤ _)⟩)
    dsimp only [Pt.U, Pt.locs, Pt.cells, Pt.slots] at X54 l54 y54 z54 st54 hQ54
    subst l54 y54 z54
    obtain ⟨N54q, rfl, K54, Fo54_0, Fo54_1⟩ := hQ54
    have O54 := OKeep.old O53 K54 (ogeS g_b53 (ogeS g_b53 oge0))
    have N54 := Fr.app N52 N54q
    refine OGot.on st54 ?_
    show OGot p.tables e below (T54.setTop (mkF m 146 #[.val (.int p1), .val (.int p2), .val (.long q3), .second, .val (.long q4), .second, .val (.long q5), .second, .val (.long q6), .second, .val (.int (1 : Int32)), .val (.ref w_HIGHEST), .val (.long vS), .second, .val (.long vT0), .second, .val (.long vT1), .second, .val (.long vT2), .second, .val (.long vT3), .second, .val (.long vE0), .second, .val (.long vE1), .second, .val (.long vE2), .second, .val (.long vE3), .second, .val (.ref b51), .unset, .unset, .unset, .unset, .unset, .unset, .unset, .unset] [(.ref b53), (.ref b51)])) _
    have ne55 : w_DEFAULTCAPACITY_EMPTY_ELEMENTDATA ≠ b51 := (O54.ne G.2.2.2.2.2.2.2.1.lt g_b51)
    have ne57 : b51 ≠ b53 := (Nat.ne_of_lt (Nat.lt_of_lt_of_le (Nat.lt_of_lt_of_le A51.lt K52.1) sy_b53))
    have F58 : Fld Z T54.heap b51 "java/util/AbstractList" "modCount" "I" (.int (0 : Int32)) := (OKeep.fld (Fo52_0.ext E53) K54 (oninA ne57 (oninA ne57 onin0)))
    have F59 : Fld Z T54.heap b51 "java/util/ArrayList" "elementData" "[Ljava/lang/Object;" (.ref w_DEFAULTCAPACITY_EMPTY_ELEMENTDATA) := (OKeep.fld (Fo52_1.ext E53) K54 (oninA ne57 (oninA ne57 onin0)))
    have F60 : Fld Z T54.heap b51 "java/util/ArrayList" "size" "I" (.int (0 : Int32)) := (OKeep.fld ((OKeep.fld F51_size K52 (oninS (slot_ne (Or.inl (ow hw 58 rfl)) (Or.inl (ow hw 26 rfl)) (by decide) (t := .int) (t' := .int) (by decide) (by decide)) (oninS (slot_ne (Or.inl (ow hw 58 rfl)) (Or.inl (ow hw 29 rfl)) (by decide) (t := .int) (t' := (.array (.object "java/lang/Object"))) (by decide) (by decide)) onin0))).ext E53) K54 (oninA ne57 (oninA ne57 onin0)))
    obtain ⟨cq56, kq56, q56a, q56b, q56c⟩ := isOf hZ rfl (OKeep.exa ((OKeep.exa A51 K52).ext E53) K54)
    obtain ⟨_, _, ⟨T56, L56, k56, n56⟩, -, X56, ⟨Lc56, hQ56, l56, y56, z56⟩, st56⟩ := X54.interfaceBack hx (xi := (⟨"java/util/List", "add", "(Ljava/lang/Object;)Z"⟩ : MethodName)) (y := (⟨"java/util/ArrayList", "add", "(Ljava/lang/Object;)Z"⟩ : MethodName)) hown (mvT hZ (ow hw 46 rfl)) (mvT hZ (ow hw 47 rfl)) (mvT hZ (ow hw 48 rfl)) (mvT hZ (ow hw 49 rfl)) (mvT hZ (ow hw 50 rfl)) (mvT hZ (ow hw 51 rfl)) (mvT hZ (ow hw 52 rfl)) (mvT hZ (ow hw 53 rfl)) (by decide) (backOf (W := 0) (rm7 l Z a0 hw [] G b51 b53 w_DEFAULTCAPACITY_EMPTY_ELEMENTDATA k_w_DEFAULTCAPACITY_EMPTY_ELEMENTDATA T54.heap n0 O54 F58 (OKeep.exa ((OKeep.exa A51 K52).ext E53) K54) g_b51 F59 F60 (G.2.2.2.2.2.2.2.2.2.2.2.ext O54.2) (G.2.2.2.2.2.2.2.1.ext O54.2) rfl (OKeep.exa A53 K54) ne55) hZ (ow hw 54 rfl) (ow hw 6 rfl) (by decide) (by decide)) q56a q56b q56c (g := (mkF m 146 #[.val (.int p1), .val (.int p2), .val (.long q3), .second, .val (.long q4), .second, .val (.long q5), .second, .val (.long q6), .second, .val (.int (1 : Int32)), .val (.ref w_HIGHEST), .val (.long vS), .second, .val (.long vT0), .second, .val (.long vT1), .second, .val (.long vT2), .second, .val (.long vT3), .second, .val (.long vE0), .second, .val (.long vE1), .second, .val (.long vE2), .second, .val (.long vE3), .second, .val (.ref b51), .unset, .unset, .unset, .unset, .unset, .unset, .unset, .unset] [(.ref b53), (.ref b51)])) rfl (by rw [hml]; rfl) (Steps.refl _) (argsL := [(.ref b53)]) (rest := []) (lenOf pd_13 rfl) rfl (by show 2 * 0 + _ ≤ _; exact Nat.le_of_eq rfl) (hb hby at_146) (fun _ _ => ⟨rfl, rfl, (by decide : 2 + 1 ≤ _), (by decide : 5 + 10 ≤ _)⟩)
    dsimp only [Pt.U, Pt.locs, Pt.cells, Pt.slots] at X56 l56 y56 z56 st56 hQ56
    subst l56 y56 z56
    obtain ⟨N56q, b9_5_6_11_56, k9_5_6_11_56, rfl, szb9_5_6_11_56_56, K56, Fo56_0, Fo56_1, Fo56_2, Fo56_3, Fo56_4, Fo56_5⟩ := hQ56
    have g_b9_5_6_11_56 : n0 ≤ b9_5_6_11_56 := Nat.le_trans (osz O54) szb9_5_6_11_56_56
    have O56 := OKeep.old O54 K56 (ogeS g_b51 (ogeS g_b51 (ogeS g_b51 oge0)))
    have N56 := Fr.app N54 N56q
    refine OGot.on st56 ?_
    refine OGot.go (fun t k => XS.pop X56.here hx rfl (hb hby at_151) rfl rfl k) ?_
    obtain ⟨T61, h61, X61, e61, E61, A61, D61, -, st61⟩ := newO X56 hx hZ hown (ow hw 81 rfl) (ow hw 82 rfl) (ow hw 83 rfl) rfl (g := (mkF m 152 #[.val (.int p1), .val (.int p2), .val (.long q3), .second, .val (.long q4), .second, .val (.long q5), .second, .val (.long q6), .second, .val (.int (1 : Int32)), .val (.ref w_HIGHEST), .val (.long vS), .second, .val (.long vT0), .second, .val (.long vT1), .second, .val (.long vT2), .second, .val (.long vT3), .second, .val (.long vE0), .second, .val (.long vE1), .second, .val (.long vE2), .second, .val (.long vE3), .second, .val (.ref b51), .unset, .unset, .unset, .unset, .unset, .unset, .unset, .unset] [])) rfl (hb hby at_152) (by decide) (by decide)
    obtain ⟨b61, g61⟩ : ∃ z, z = T56.heap.size := ⟨_, rfl⟩
    rw [← g61] at A61 D61 st61
    refine OGot.go st61 ?_
    have g_b61 : n0 ≤ b61 := Nat.le_trans (osz O56) (Nat.le_of_eq g61.symm)
    have sy_b61 : T56.heap.size ≤ b61 := Nat.le_of_eq g61.symm
    have O61 := O56.ext E61
    have F61_demands : Fld Z h61 b61 "com/example/restrained_scaler/restrainedscaler/decision/StabilizationWindow" "demands" "Ljava/util/Deque;" .null := D61 (Or.inr (ow hw 100 rfl)) (ty := (.object "java/util/Deque")) (by decide)
    have F61_seconds : Fld Z h61 b61 "com/example/restrained_scaler/restrainedscaler/decision/StabilizationWindow" "seconds" "J" (.long (0 : Int64)) := D61 (Or.inr (ow hw 102 rfl)) (ty := .long) (by decide)
    have F61_kept : Fld Z h61 b61 "com/example/restrained_scaler/restrainedscaler/decision/StabilizationWindow" "kept" "Lcom/example/restrained_scaler/restrainedscaler/decision/StabilizationWindow$Kept;" .null := D61 (Or.inr (ow hw 104 rfl)) (ty := (.object "com/example/restrained_scaler/restrainedscaler/decision/StabilizationWindow$Kept")) (by decide)
    refine OGot.go (fun t k => XS.dup X61.here hx rfl (hb hby at_155) rfl rfl k) ?_
    refine OGot.go (fun t k => XS.lload X61.here hx rfl (hb hby at_156) rfl k) ?_
    refine OGot.go (fun t k => XS.aload X61.here hx rfl (hb hby at_158) rfl rfl k) ?_
    show OGot p.tables e below (T61.setTop (mkF m 160 #[.val (.int p1), .val (.int p2), .val (.long q3), .second, .val (.long q4), .second, .val (.long q5), .second, .val (.long q6), .second, .val (.int (1 : Int32)), .val (.ref w_HIGHEST), .val (.long vS), .second, .val (.long vT0), .second, .val (.long vT1), .second, .val (.long vT2), .second, .val (.long vT3), .second, .val (.long vE0), .second, .val (.long vE1), .second, .val (.long vE2), .second, .val (.long vE3), .second, .val (.ref b51), .unset, .unset, .unset, .unset, .unset, .unset, .unset, .unset] [(.ref w_HIGHEST), (.long vS), (.ref b61), (.ref b61)])) _
    refine OGot.go (fun t k => XS.aload X61.here hx rfl (hb hby at_160) rfl rfl k) ?_
    have ne62 : b51 ≠ b61 := (Nat.ne_of_lt (Nat.lt_of_lt_of_le (Nat.lt_of_lt_of_le (Nat.lt_of_lt_of_le (Nat.lt_of_lt_of_le (Nat.lt_of_lt_of_le A51.lt K52.1) E53.1) K54.1) K56.1) sy_b61))
    have ne63 : b9_5_6_11_56 ≠ b61 := (Nat.ne_of_lt (Nat.lt_of_lt_of_le Fo56_3.lt sy_b61))
    have F65 : Fld Z h61 b51 "java/util/AbstractList" "modCount" "I" (.int (1 : Int32)) := (Fo56_0.ext E61)
    have F66 : Fld Z h61 b51 "java/util/ArrayList" "size" "I" (.int (1 : Int32)) := (Fo56_1.ext E61)
    have F67 : Fld Z h61 b51 "java/util/ArrayList" "elementData" "[Ljava/lang/Object;" (.ref b9_5_6_11_56) := (Fo56_2.ext E61)
    have F68 : Arv Z h61 b9_5_6_11_56 k9_5_6_11_56 (.object "java/lang/Object") (10 : Int32) [(.ref b53), .null, .null, .null, .null, .null, .null, .null, .null, .null] .null := (Fo56_4.ext E61)
    obtain ⟨_, _, ⟨T64, L64, k64, n64⟩, -, X64, ⟨Lc64, hQ64, l64, y64, z64⟩, st64⟩ := X61.specialBack hx (y := (⟨"com/example/restrained_scaler/restrainedscaler/decision/StabilizationWindow", "<init>", "(JLcom/example/restrained_scaler/restrainedscaler/decision/StabilizationWindow$Kept;Ljava/util/List;)V"⟩ : MethodName)) rfl hown (mvT hZ (ow hw 84 rfl)) (mvT hZ (ow hw 85 rfl)) (mvT hZ (ow hw 86 rfl)) (by decide) (backOf (W := 1) (rm12_1 l Z a0 hw [] G b61 vS b51 b9_5_6_11_56 k9_5_6_11_56 b53 h61 n0 O61 A61 F61_demands g_b61 F61_seconds F61_kept ((OKeep.exa (OKeep.exa ((OKeep.exa A51 K52).ext E53) K54) K56).ext E61) F65 ne62 F66 F67 F68 Fo56_5 ne63 ((OKeep.exa (OKeep.exa A53 K54) K56).ext E61)) hZ (ow hw 86 rfl) (ow hw 83 rfl) (by decide) (by decide)) (g := (mkF m 162 #[.val (.int p1), .val (.int p2), .val (.long q3), .second, .val (.long q4), .second, .val (.long q5), .second, .val (.long q6), .second, .val (.int (1 : Int32)), .val (.ref w_HIGHEST), .val (.long vS), .second, .val (.long vT0), .second, .val (.long vT1), .second, .val (.long vT2), .second, .val (.long vT3), .second, .val (.long vE0), .second, .val (.long vE1), .second, .val (.long vE2), .second, .val (.long vE3), .second, .val (.ref b51), .unset, .unset, .unset, .unset, .unset, .unset, .unset, .unset] [(.ref b51), (.ref w_HIGHEST), (.long vS), (.ref b61), (.ref b61)])) rfl (by rw [hml]; rfl) (Steps.refl _) (a := b61) (argsL := [(.long vS), (.ref w_HIGHEST), (.ref b51)]) (rest := [(.ref b61)]) (lenOf pd_16 rfl) rfl (by show 2 * 0 + _ ≤ _; exact Nat.le_of_eq rfl) (hb hby at_162) (fun _ _ => ⟨rfl, e61, (by decide : 4 + 3 ≤ _), (by decide : 18 + 24 ≤ _)⟩)
    dsimp only [Pt.U, Pt.locs, Pt.cells, Pt.slots] at X64 l64 y64 z64 st64 hQ64
    subst l64 y64 z64
    obtain ⟨N64q, b6_64, b3_7_64, k3_7_64, rfl, szb6_64_64, szb3_7_64_64, neb6_64_b3_7_64_64, K64, Fo64_0, Fo64_1, Fo64_2, Fo64_3, Fo64_4, Fo64_5, Fo64_6, Fo64_7, Fo64_8, Fo64_9⟩ := hQ64
    have g_b6_64 : n0 ≤ b6_64 := Nat.le_trans (osz O61) szb6_64_64
    have g_b3_7_64 : n0 ≤ b3_7_64 := Nat.le_trans (osz O61) szb3_7_64_64
    have O64 := OKeep.old O61 K64 (ogeS g_b61 (ogeS g_b61 (ogeS g_b61 oge0)))
    have N64 := Fr.app N56 N64q
    refine OGot.on st64 ?_
    refine OGot.go (fun t k => XS.astore X64.here hx rfl (hb hby at_165) rfl rfl (l' := #[.val (.int p1), .val (.int p2), .val (.long q3), .second, .val (.long q4), .second, .val (.long q5), .second, .val (.long q6), .second, .val (.int (1 : Int32)), .val (.ref w_HIGHEST), .val (.long vS), .second, .val (.long vT0), .second, .val (.long vT1), .second, .val (.long vT2), .second, .val (.long vT3), .second, .val (.long vE0), .second, .val (.long vE1), .second, .val (.long vE2), .second, .val (.long vE3), .second, .val (.ref b51), .val (.ref b61), .unset, .unset, .unset, .unset, .unset, .unset, .unset]) rfl k) ?_
    refine OGot.go (fun t k => XS.aload X64.here hx rfl (hb hby at_167) rfl rfl k) ?_
    have ne70 : b53 ≠ b61 := (Nat.ne_of_lt (Nat.lt_of_lt_of_le (Nat.lt_of_lt_of_le (Nat.lt_of_lt_of_le A53.lt K54.1) K56.1) sy_b61))
    have F71 : Fld Z T64.heap b53 "com/example/restrained_scaler/restrainedscaler/decision/Decider$Demand" "desired" "J" (.long vE0) := (OKeep.fld ((OKeep.fld Fo54_1 K56 (oninA (Ne.symm ne57) (oninA (Ne.symm ne57) (oninA (Ne.symm ne57) onin0)))).ext E61) K64 (oninA ne70 (oninA ne70 (oninA ne70 onin0))))
    obtain ⟨cq69, kq69, q69a, q69b, q69c⟩ := isOf hZ rfl (OKeep.exa A61 K64)
    obtain ⟨_, _, ⟨T69, L69, k69, n69⟩, -, X69, ⟨Lc69, hQ69, l69, y69, z69⟩, st69⟩ := X64.virtualBack hx (y := (⟨"com/example/restrained_scaler/restrainedscaler/decision/StabilizationWindow", "demand", "()J"⟩ : MethodName)) (z := (⟨"com/example/restrained_scaler/restrainedscaler/decision/StabilizationWindow", "demand", "()J"⟩ : MethodName)) hown (mvT hZ (ow hw 184 rfl)) (mvT hZ (ow hw 185 rfl)) (notFace_of_selects (args := #[]) (mvT hZ (ow hw 187 rfl))) (mvT hZ (ow hw 187 rfl)) (mvT hZ (ow hw 186 rfl)) (by decide) (backOf (W := 0) (rm23_1 l Z a0 hw [] G b61 b6_64 b3_7_64 k3_7_64 b53 vE0 T64.heap n0 O64 Fo64_0 Fo64_3 Fo64_4 Fo64_5 Fo64_8 Fo64_9 (OKeep.exa ((OKeep.exa (OKeep.exa A53 K54) K56).ext E61) K64) F71) hZ (ow hw 188 rfl) (ow hw 83 rfl) (by decide) (by decide)) q69a q69c (g := (mkF m 169 #[.val (.int p1), .val (.int p2), .val (.long q3), .second, .val (.long q4), .second, .val (.long q5), .second, .val (.long q6), .second, .val (.int (1 : Int32)), .val (.ref w_HIGHEST), .val (.long vS), .second, .val (.long vT0), .second, .val (.long vT1), .second, .val (.long vT2), .second, .val (.long vT3), .second, .val (.long vE0), .second, .val (.long vE1), .second, .val (.long vE2), .second, .val (.long vE3), .second, .val (.ref b51), .val (.ref b61), .unset, .unset, .unset, .unset, .unset, .unset, .unset] [(.ref b61)])) rfl (by rw [hml]; rfl) (Steps.refl _) (argsL := []) (rest := []) (lenOf pd_5 rfl) rfl (by show 2 * 0 + _ ≤ _; exact Nat.le_of_eq rfl) (hb hby at_169) (fun _ _ => ⟨rfl, rfl, (by decide : 7 + 0 ≤ _), (by decide : 42 + 0 ≤ _)⟩)
    dsimp only [Pt.U, Pt.locs, Pt.cells, Pt.slots] at X69 l69 y69 z69 st69 hQ69
    subst l69 y69 z69
    obtain ⟨rfl, N69q, e69⟩ := hQ69
    have N69 := Fr.app N64 N69q
    refine OGot.on st69 ?_
    refine OGot.go (fun t k => XS.lload X69.here hx rfl (hb hby at_172) rfl k) ?_
    show OGot p.tables e below (T69.setTop (mkF m 174 #[.val (.int p1), .val (.int p2), .val (.long q3), .second, .val (.long q4), .second, .val (.long q5), .second, .val (.long q6), .second, .val (.int (1 : Int32)), .val (.ref w_HIGHEST), .val (.long vS), .second, .val (.long vT0), .second, .val (.long vT1), .second, .val (.long vT2), .second, .val (.long vT3), .second, .val (.long vE0), .second, .val (.long vE1), .second, .val (.long vE2), .second, .val (.long vE3), .second, .val (.ref b51), .val (.ref b61), .unset, .unset, .unset, .unset, .unset, .unset, .unset] [(.long vE0), (.long vE0)])) _
    refine OGot.go (fun t k => XS.lcmp X69.here hx rfl (hb hby at_174) rfl k) ?_
    refine OGot.go (fun t k => XS.ifNo X69.here hx rfl (hb hby at_175) rfl ((if0 _ _).trans (teq ((lw_eq vE0 vE0).mpr rfl)).2) k) ?_
    refine OGot.go (fun t k => XS.iconst X69.here hx rfl (hb hby at_178) k) ?_
    refine OGot.go (fun t k => XS.goto X69.here hx rfl (pc0 := 179) (pc' := 183) rfl (hb hby at_179) (by decide) (by decide) k) ?_
    refine OGot.go (fun t k => XS.istore X69.here hx rfl (hb hby at_183) rfl (l' := #[.val (.int p1), .val (.int p2), .val (.long q3), .second, .val (.long q4), .second, .val (.long q5), .second, .val (.long q6), .second, .val (.int (1 : Int32)), .val (.ref w_HIGHEST), .val (.long vS), .second, .val (.long vT0), .second, .val (.long vT1), .second, .val (.long vT2), .second, .val (.long vT3), .second, .val (.long vE0), .second, .val (.long vE1), .second, .val (.long vE2), .second, .val (.long vE3), .second, .val (.ref b51), .val (.ref b61), .val (.int (1 : Int32)), .unset, .unset, .unset, .unset, .unset, .unset]) rfl k) ?_
    refine OGot.go (fun t k => XS.aload X69.here hx rfl (hb hby at_185) rfl rfl k) ?_
    show OGot p.tables e below (T69.setTop (mkF m 187 #[.val (.int p1), .val (.int p2), .val (.long q3), .second, .val (.long q4), .second, .val (.long q5), .second, .val (.long q6), .second, .val (.int (1 : Int32)), .val (.ref w_HIGHEST), .val (.long vS), .second, .val (.long vT0), .second, .val (.long vT1), .second, .val (.long vT2), .second, .val (.long vT3), .second, .val (.long vE0), .second, .val (.long vE1), .second, .val (.long vE2), .second, .val (.long vE3), .second, .val (.ref b51), .val (.ref b61), .val (.int (1 : Int32)), .unset, .unset, .unset, .unset, .unset, .unset] [(.ref b61)])) _
    refine OGot.go (fun t k => XS.lload X69.here hx rfl (hb hby at_187) rfl k) ?_
    refine OGot.go (fun t k => XS.lload X69.here hx rfl (hb hby at_189) rfl k) ?_
    have HQ0 : Dq Z T64.heap n0 b61 b6_64 b3_7_64 w_HIGHEST vS k3_7_64 0 ([(b53, vT0, vE0)].map (·.1)) := ⟨(OKeep.exa A61 K64), Fo64_0, Fo64_2, Fo64_1, Fo64_3, Fo64_5, Fo64_6, Fo64_4, Fo64_7, Fo64_8, Fo64_9, g_b6_64, g_b3_7_64⟩
    have F72 : Fld Z T64.heap b53 "com/example/restrained_scaler/restrainedscaler/decision/Decider$Demand" "time" "J" (.long vT0) := (OKeep.fld ((OKeep.fld Fo54_0 K56 (oninA (Ne.symm ne57) (oninA (Ne.symm ne57) (oninA (Ne.symm ne57) onin0)))).ext E61) K64 (oninA ne70 (oninA ne70 (oninA ne70 onin0))))
    have HD0 : ∀ d ∈ [(b53, vT0, vE0)], Dm Z T64.heap d := fun d q => by cases List.mem_singleton.mp q; exact ⟨(OKeep.exa ((OKeep.exa (OKeep.exa A53 K54) K56).ext E61) K64), F72, F71⟩
    obtain ⟨cq73, kq73, q73a, q73b, q73c⟩ := isOf hZ e69 HQ0.1
    obtain ⟨_, _, ⟨T73, L73, k73, n73⟩, -, X73, ⟨Lc73, hQ73, l73, y73, z73⟩, st73⟩ := X69.virtualBack hx (y := (⟨"com/example/restrained_scaler/restrainedscaler/decision/StabilizationWindow", "add", "(JJ)V"⟩ : MethodName)) (z := (⟨"com/example/restrained_scaler/restrainedscaler/decision/StabilizationWindow", "add", "(JJ)V"⟩ : MethodName)) hown (mvT hZ (ow hw 205 rfl)) (mvT hZ (ow hw 206 rfl)) (notFace_of_selects (args := #[]) (mvT hZ (ow hw 208 rfl))) (mvT hZ (ow hw 208 rfl)) (mvT hZ (ow hw 207 rfl)) (by decide) (backOf (W := 0) (addAll l Z a0 hw [] G b61 b6_64 b3_7_64 w_HIGHEST vS vT1 vE1 k3_7_64 0 [(b53, vT0, vE0)] T64.heap n0 O64 HQ0 HD0 (by show 0 + 1 ≤ 3; decide)) hZ (ow hw 209 rfl) (ow hw 83 rfl) (by decide) (by decide)) q73a q73c (g := (mkF m 191 #[.val (.int p1), .val (.int p2), .val (.long q3), .second, .val (.long q4), .second, .val (.long q5), .second, .val (.long q6), .second, .val (.int (1 : Int32)), .val (.ref w_HIGHEST), .val (.long vS), .second, .val (.long vT0), .second, .val (.long vT1), .second, .val (.long vT2), .second, .val (.long vT3), .second, .val (.long vE0), .second, .val (.long vE1), .second, .val (.long vE2), .second, .val (.long vE3), .second, .val (.ref b51), .val (.ref b61), .val (.int (1 : Int32)), .unset, .unset, .unset, .unset, .unset, .unset] [(.long vE1), (.long vT1), (.ref b61)])) rfl (by rw [hml]; rfl) (Steps.refl _) (argsL := [(.long vT1), (.long vE1)]) (rest := []) (lenOf pd_8 rfl) rfl (by show 2 * 0 + _ ≤ _; exact Nat.le_of_eq rfl) (hb hby at_191) (fun _ _ => ⟨rfl, e69, (by decide : 7 + 1 ≤ _), (by decide : 42 + 2 ≤ _)⟩)
    dsimp only [Pt.U, Pt.locs, Pt.cells, Pt.slots] at X73 l73 y73 z73 st73 hQ73
    subst l73 y73 z73
    obtain ⟨rfl, N73q, O73, D73_, hd1, M1, hM1, le1_, HQ1, HD1⟩ := hQ73
    have le1 : hd1 + M1.length ≤ 2 := Nat.le_trans le1_ (Nat.le_refl 2)
    have ne1_ : M1 ≠ [] := by rw [hM1]; simp
    have N73 := Fr.app N69 N73q
    refine OGot.on st73 ?_
    refine OGot.go (fun t k => XS.iload X73.here hx rfl (hb hby at_194) rfl k) ?_
    refine OGot.go (fun t k => XS.lload X73.here hx rfl (hb hby at_196) rfl k) ?_
    refine OGot.go (fun t k => XS.lload X73.here hx rfl (hb hby at_198) rfl k) ?_
    show OGot p.tables e below (T73.setTop (mkF m 200 #[.val (.int p1), .val (.int p2), .val (.long q3), .second, .val (.long q4), .second, .val (.long q5), .second, .val (.long q6), .second, .val (.int (1 : Int32)), .val (.ref w_HIGHEST), .val (.long vS), .second, .val (.long vT0), .second, .val (.long vT1), .second, .val (.long vT2), .second, .val (.long vT3), .second, .val (.long vE0), .second, .val (.long vE1), .second, .val (.long vE2), .second, .val (.long vE3), .second, .val (.ref b51), .val (.ref b61), .val (.int (1 : Int32)), .unset, .unset, .unset, .unset, .unset, .unset] [(.long vT0), (.long vE1), (.int (1 : Int32))])) _
    refine OGot.go (fun t k => XS.lload X73.here hx rfl (hb hby at_200) rfl k) ?_
    refine OGot.go (fun t k => XS.lload X73.here hx rfl (hb hby at_202) rfl k) ?_
    refine OGot.go (fun t k => XS.lsub X73.here hx rfl (hb hby at_204) rfl k) ?_
    refine OGot.go (fun t k => XS.lcmp X73.here hx rfl (hb hby at_205) rfl k) ?_
    show OGot p.tables e below (T73.setTop (mkF m 206 #[.val (.int p1), .val (.int p2), .val (.long q3), .second, .val (.long q4), .second, .val (.long q5), .second, .val (.long q6), .second, .val (.int (1 : Int32)), .val (.ref w_HIGHEST), .val (.long vS), .second, .val (.long vT0), .second, .val (.long vT1), .second, .val (.long vT2), .second, .val (.long vT3), .second, .val (.long vE0), .second, .val (.long vE1), .second, .val (.long vE2), .second, .val (.long vE3), .second, .val (.ref b51), .val (.ref b61), .val (.int (1 : Int32)), .unset, .unset, .unset, .unset, .unset, .unset] [(.int (lcmpW vT0 (vT1 - vS))), (.long vE1), (.int (1 : Int32))])) _
    refine OGot.go (B := T73.setTop (mkF m 214 #[.val (.int p1), .val (.int p2), .val (.long q3), .second, .val (.long q4), .second, .val (.long q5), .second, .val (.long q6), .second, .val (.int (1 : Int32)), .val (.ref w_HIGHEST), .val (.long vS), .second, .val (.long vT0), .second, .val (.long vT1), .second, .val (.long vT2), .second, .val (.long vT3), .second, .val (.long vE0), .second, .val (.long vE1), .second, .val (.long vE2), .second, .val (.long vE3), .second, .val (.ref b51), .val (.ref b61), .val (.int (1 : Int32)), .unset, .unset, .unset, .unset, .unset, .unset] [(.int (if (vT1 - vS) < vT0 then (1 : Int32) else (0 : Int32))), (.long vE1), (.int (1 : Int32))])) (fun t k => ?_) ?_
    · by_cases hj74 : (vT1 - vS) < vT0
      · refine XS.ifNo X73.here hx rfl (hb hby at_206) rfl ((if0 _ _).trans (tlt ((lw_gt vT0 (vT1 - vS)).mpr hj74)).2.2.2) ?_
        show Steps p.tables e below (T73.setTop (mkF m 209 #[.val (.int p1), .val (.int p2), .val (.long q3), .second, .val (.long q4), .second, .val (.long q5), .second, .val (.long q6), .second, .val (.int (1 : Int32)), .val (.ref w_HIGHEST), .val (.long vS), .second, .val (.long vT0), .second, .val (.long vT1), .second, .val (.long vT2), .second, .val (.long vT3), .second, .val (.long vE0), .second, .val (.long vE1), .second, .val (.long vE2), .second, .val (.long vE3), .second, .val (.ref b51), .val (.ref b61), .val (.int (1 : Int32)), .unset, .unset, .unset, .unset, .unset, .unset] [(.long vE1), (.int (1 : Int32))])) _
        refine XS.iconst X73.here hx rfl (hb hby at_209) ?_
        show Steps p.tables e below (T73.setTop (mkF m 210 #[.val (.int p1), .val (.int p2), .val (.long q3), .second, .val (.long q4), .second, .val (.long q5), .second, .val (.long q6), .second, .val (.int (1 : Int32)), .val (.ref w_HIGHEST), .val (.long vS), .second, .val (.long vT0), .second, .val (.long vT1), .second, .val (.long vT2), .second, .val (.long vT3), .second, .val (.long vE0), .second, .val (.long vE1), .second, .val (.long vE2), .second, .val (.long vE3), .second, .val (.ref b51), .val (.ref b61), .val (.int (1 : Int32)), .unset, .unset, .unset, .unset, .unset, .unset] [(.int (1 : Int32)), (.long vE1), (.int (1 : Int32))])) _
        refine XS.goto X73.here hx rfl (pc0 := 210) (pc' := 214) rfl (hb hby at_210) (by decide) (by decide) ?_
        show Steps p.tables e below (T73.setTop (mkF m 214 #[.val (.int p1), .val (.int p2), .val (.long q3), .second, .val (.long q4), .second, .val (.long q5), .second, .val (.long q6), .second, .val (.int (1 : Int32)), .val (.ref w_HIGHEST), .val (.long vS), .second, .val (.long vT0), .second, .val (.long vT1), .second, .val (.long vT2), .second, .val (.long vT3), .second, .val (.long vE0), .second, .val (.long vE1), .second, .val (.long vE2), .second, .val (.long vE3), .second, .val (.ref b51), .val (.ref b61), .val (.int (1 : Int32)), .unset, .unset, .unset, .unset, .unset, .unset] [(.int (1 : Int32)), (.long vE1), (.int (1 : Int32))])) _
        simp only [if_pos hj74] at k
        exact k
      · refine XS.ifYes X73.here hx rfl (pc0 := 206) (pc' := 213) rfl (hb hby at_206) rfl ((if0 _ _).trans (flt (fun q => hj74 ((lw_gt vT0 (vT1 - vS)).mp q))).2.2.2) (by decide) (by decide) ?_
        show Steps p.tables e below (T73.setTop (mkF m 213 #[.val (.int p1), .val (.int p2), .val (.long q3), .second, .val (.long q4), .second, .val (.long q5), .second, .val (.long q6), .second, .val (.int (1 : Int32)), .val (.ref w_HIGHEST), .val (.long vS), .second, .val (.long vT0), .second, .val (.long vT1), .second, .val (.long vT2), .second, .val (.long vT3), .second, .val (.long vE0), .second, .val (.long vE1), .second, .val (.long vE2), .second, .val (.long vE3), .second, .val (.ref b51), .val (.ref b61), .val (.int (1 : Int32)), .unset, .unset, .unset, .unset, .unset, .unset] [(.long vE1), (.int (1 : Int32))])) _
        refine XS.iconst X73.here hx rfl (hb hby at_213) ?_
        show Steps p.tables e below (T73.setTop (mkF m 214 #[.val (.int p1), .val (.int p2), .val (.long q3), .second, .val (.long q4), .second, .val (.long q5), .second, .val (.long q6), .second, .val (.int (1 : Int32)), .val (.ref w_HIGHEST), .val (.long vS), .second, .val (.long vT0), .second, .val (.long vT1), .second, .val (.long vT2), .second, .val (.long vT3), .second, .val (.long vE0), .second, .val (.long vE1), .second, .val (.long vE2), .second, .val (.long vE3), .second, .val (.ref b51), .val (.ref b61), .val (.int (1 : Int32)), .unset, .unset, .unset, .unset, .unset, .unset] [(.int (0 : Int32)), (.long vE1), (.int (1 : Int32))])) _
        simp only [if_neg hj74] at k
        exact k
    refine OGot.go (fun t k => XS.lload X73.here hx rfl (hb hby at_214) rfl k) ?_
    obtain ⟨_, _, ⟨T75, L75, k75, n75⟩, -, X75, ⟨Lc75, hQ75, l75, y75, z75⟩, st75⟩ := Jvm.LawKit.callS X73 hx (y := (⟨"com/example/restrained_scaler/restrainedscaler/decision/StabilizationWindowDemandPinLaw", "fold", "(ZJZJ)J"⟩ : MethodName)) hown (mvT hZ (ow hw 237 rfl)) (mvT hZ (ow hw 238 rfl)) (mvT hZ (ow hw 239 rfl)) (mvT hZ (ow hw 240 rfl)) (by decide) (backOf (W := 0) (rm32_1 l Z a0 hw [] G vE1 (if (vT1 - vS) < vT0 then (1 : Int32) else (0 : Int32)) vE0 T73.heap n0 O73 ) hZ (ow hw 240 rfl) (ow hw 239 rfl) (by decide) (by decide)) (g := (mkF m 216 #[.val (.int p1), .val (.int p2), .val (.long q3), .second, .val (.long q4), .second, .val (.long q5), .second, .val (.long q6), .second, .val (.int (1 : Int32)), .val (.ref w_HIGHEST), .val (.long vS), .second, .val (.long vT0), .second, .val (.long vT1), .second, .val (.long vT2), .second, .val (.long vT3), .second, .val (.long vE0), .second, .val (.long vE1), .second, .val (.long vE2), .second, .val (.long vE3), .second, .val (.ref b51), .val (.ref b61), .val (.int (1 : Int32)), .unset, .unset, .unset, .unset, .unset, .unset] [(.long vE0), (.int (if (vT1 - vS) < vT0 then (1 : Int32) else (0 : Int32))), (.long vE1), (.int (1 : Int32))])) rfl (by rw [hml]; rfl) (argsL := [(.int (1 : Int32)), (.long vE1), (.int (if (vT1 - vS) < vT0 then (1 : Int32) else (0 : Int32))), (.long vE0)]) (rest := []) (lenOf pd_18 rfl) rfl (by show 2 * 0 + _ ≤ _; exact Nat.le_of_eq rfl) (hb hby at_216) (fun _ _ => ⟨rfl, rfl, (by decide : 8 + 0 ≤ _), (by decide : 44 + 0 ≤ _)⟩)
    dsimp only [Pt.U, Pt.locs, Pt.cells, Pt.slots] at X75 l75 y75 z75 st75 hQ75
    subst l75 y75 z75
    obtain ⟨rfl, N75q, e75⟩ := hQ75
    have N75 := Fr.app N73 N75q
    refine OGot.go st75 ?_
    refine OGot.go (fun t k => XS.lstore X75.here hx rfl (hb hby at_219) rfl (l' := #[.val (.int p1), .val (.int p2), .val (.long q3), .second, .val (.long q4), .second, .val (.long q5), .second, .val (.long q6), .second, .val (.int (1 : Int32)), .val (.ref w_HIGHEST), .val (.long vS), .second, .val (.long vT0), .second, .val (.long vT1), .second, .val (.long vT2), .second, .val (.long vT3), .second, .val (.long vE0), .second, .val (.long vE1), .second, .val (.long vE2), .second, .val (.long vE3), .second, .val (.ref b51), .val (.ref b61), .val (.int (1 : Int32)), .val (.long (f32_1 vE1 (if (vT1 - vS) < vT0 then (1 : Int32) else (0 : Int32)) vE0)), .second, .unset, .unset, .unset, .unset]) rfl k) ?_
    refine OGot.go (fun t k => XS.iload X75.here hx rfl (hb hby at_221) rfl k) ?_
    refine OGot.go (fun t k => XS.aload X75.here hx rfl (hb hby at_223) rfl rfl k) ?_
    show OGot p.tables e below (T75.setTop (mkF m 225 #[.val (.int p1), .val (.int p2), .val (.long q3), .second, .val (.long q4), .second, .val (.long q5), .second, .val (.long q6), .second, .val (.int (1 : Int32)), .val (.ref w_HIGHEST), .val (.long vS), .second, .val (.long vT0), .second, .val (.long vT1), .second, .val (.long vT2), .second, .val (.long vT3), .second, .val (.long vE0), .second, .val (.long vE1), .second, .val (.long vE2), .second, .val (.long vE3), .second, .val (.ref b51), .val (.ref b61), .val (.int (1 : Int32)), .val (.long (f32_1 vE1 (if (vT1 - vS) < vT0 then (1 : Int32) else (0 : Int32)) vE0)), .second, .unset, .unset, .unset, .unset] [(.ref b61), (.int (1 : Int32))])) _
    obtain ⟨cq76, kq76, q76a, q76b, q76c⟩ := isOf hZ e75 HQ1.1
    obtain ⟨_, _, ⟨T76, L76, k76, n76⟩, -, X76, ⟨Lc76, hQ76, l76, y76, z76⟩, st76⟩ := X75.virtualBack hx (y := (⟨"com/example/restrained_scaler/restrainedscaler/decision/StabilizationWindow", "demand", "()J"⟩ : MethodName)) (z := (⟨"com/example/restrained_scaler/restrainedscaler/decision/StabilizationWindow", "demand", "()J"⟩ : MethodName)) hown (mvT hZ (ow hw 184 rfl)) (mvT hZ (ow hw 185 rfl)) (notFace_of_selects (args := #[]) (mvT hZ (ow hw 187 rfl))) (mvT hZ (ow hw 187 rfl)) (mvT hZ (ow hw 186 rfl)) (by decide) (backOf (W := 1) (demAll l Z a0 hw [] G b61 b6_64 b3_7_64 w_HIGHEST vS k3_7_64 hd1 M1 T73.heap n0 O73 HQ1 HD1 (Nat.le_trans le1 (by decide)) ne1_) hZ (ow hw 188 rfl) (ow hw 83 rfl) (by decide) (by decide)) q76a q76c (g := (mkF m 225 #[.val (.int p1), .val (.int p2), .val (.long q3), .second, .val (.long q4), .second, .val (.long q5), .second, .val (.long q6), .second, .val (.int (1 : Int32)), .val (.ref w_HIGHEST), .val (.long vS), .second, .val (.long vT0), .second, .val (.long vT1), .second, .val (.long vT2), .second, .val (.long vT3), .second, .val (.long vE0), .second, .val (.long vE1), .second, .val (.long vE2), .second, .val (.long vE3), .second, .val (.ref b51), .val (.ref b61), .val (.int (1 : Int32)), .val (.long (f32_1 vE1 (if (vT1 - vS) < vT0 then (1 : Int32) else (0 : Int32)) vE0)), .second, .unset, .unset, .unset, .unset] [(.ref b61), (.int (1 : Int32))])) rfl (by rw [hml]; rfl) (Steps.refl _) (argsL := []) (rest := [(.int (1 : Int32))]) (lenOf pd_5 rfl) rfl (by show 2 * 0 + _ ≤ _; exact Nat.le_of_eq rfl) (hb hby at_225) (fun _ _ => ⟨rfl, e75, (by decide : 8 + 0 ≤ _), (by decide : 44 + 0 ≤ _)⟩)
    dsimp only [Pt.U, Pt.locs, Pt.cells, Pt.slots] at X76 l76 y76 z76 st76 hQ76
    subst l76 y76 z76
    obtain ⟨rfl, N76q, e76⟩ := hQ76
    have N76 := Fr.app N75 N76q
    refine OGot.on st76 ?_
    refine OGot.go (fun t k => XS.lload X76.here hx rfl (hb hby at_228) rfl k) ?_
    refine OGot.go (fun t k => XS.lcmp X76.here hx rfl (hb hby at_230) rfl k) ?_
    refine OGot.go (fun t k => XS.ifNo X76.here hx rfl (hb hby at_231) rfl ((if0 _ _).trans (teq ((lw_eq (dem M1) (f32_1 vE1 (if (vT1 - vS) < vT0 then (1 : Int32) else (0 : Int32)) vE0)).mpr (own_r1H (own_times h_vS h_vT0 h_vT1 h_vT2 h_vT3) hM1))).2) k) ?_
    refine OGot.go (fun t k => XS.iconst X76.here hx rfl (hb hby at_234) k) ?_
    refine OGot.go (fun t k => XS.goto X76.here hx rfl (pc0 := 235) (pc' := 239) rfl (hb hby at_235) (by decide) (by decide) k) ?_
    show OGot p.tables e below (T76.setTop (mkF m 239 #[.val (.int p1), .val (.int p2), .val (.long q3), .second, .val (.long q4), .second, .val (.long q5), .second, .val (.long q6), .second, .val (.int (1 : Int32)), .val (.ref w_HIGHEST), .val (.long vS), .second, .val (.long vT0), .second, .val (.long vT1), .second, .val (.long vT2), .second, .val (.long vT3), .second, .val (.long vE0), .second, .val (.long vE1), .second, .val (.long vE2), .second, .val (.long vE3), .second, .val (.ref b51), .val (.ref b61), .val (.int (1 : Int32)), .val (.long (f32_1 vE1 (if (vT1 - vS) < vT0 then (1 : Int32) else (0 : Int32)) vE0)), .second, .unset, .unset, .unset, .unset] [(.int (1 : Int32)), (.int (1 : Int32))])) _
    refine OGot.go (fun t k => XS.iand X76.here hx rfl (hb hby at_239) rfl k) ?_
    show OGot p.tables e below (T76.setTop (mkF m 240 #[.val (.int p1), .val (.int p2), .val (.long q3), .second, .val (.long q4), .second, .val (.long q5), .second, .val (.long q6), .second, .val (.int (1 : Int32)), .val (.ref w_HIGHEST), .val (.long vS), .second, .val (.long vT0), .second, .val (.long vT1), .second, .val (.long vT2), .second, .val (.long vT3), .second, .val (.long vE0), .second, .val (.long vE1), .second, .val (.long vE2), .second, .val (.long vE3), .second, .val (.ref b51), .val (.ref b61), .val (.int (1 : Int32)), .val (.long (f32_1 vE1 (if (vT1 - vS) < vT0 then (1 : Int32) else (0 : Int32)) vE0)), .second, .unset, .unset, .unset, .unset] [(.int ((1 : Int32) &&& (1 : Int32)))])) _
    rw [show ((1 : Int32) &&& (1 : Int32)) = (1 : Int32) from by decide]
    refine OGot.go (fun t k => XS.istore X76.here hx rfl (hb hby at_240) rfl (l' := #[.val (.int p1), .val (.int p2), .val (.long q3), .second, .val (.long q4), .second, .val (.long q5), .second, .val (.long q6), .second, .val (.int (1 : Int32)), .val (.ref w_HIGHEST), .val (.long vS), .second, .val (.long vT0), .second, .val (.long vT1), .second, .val (.long vT2), .second, .val (.long vT3), .second, .val (.long vE0), .second, .val (.long vE1), .second, .val (.long vE2), .second, .val (.long vE3), .second, .val (.ref b51), .val (.ref b61), .val (.int (1 : Int32)), .val (.long (f32_1 vE1 (if (vT1 - vS) < vT0 then (1 : Int32) else (0 : Int32)) vE0)), .second, .unset, .unset, .unset, .unset]) rfl k) ?_
    refine OGot.go (fun t k => XS.aload X76.here hx rfl (hb hby at_242) rfl rfl k) ?_
    refine OGot.go (fun t k => XS.lload X76.here hx rfl (hb hby at_244) rfl k) ?_
    refine OGot.go (fun t k => XS.lload X76.here hx rfl (hb hby at_246) rfl k) ?_
    obtain ⟨cq77, kq77, q77a, q77b, q77c⟩ := isOf hZ e76 HQ1.1
    obtain ⟨_, _, ⟨T77, L77, k77, n77⟩, -, X77, ⟨Lc77, hQ77, l77, y77, z77⟩, st77⟩ := X76.virtualBack hx (y := (⟨"com/example/restrained_scaler/restrainedscaler/decision/StabilizationWindow", "add", "(JJ)V"⟩ : MethodName)) (z := (⟨"com/example/restrained_scaler/restrainedscaler/decision/StabilizationWindow", "add", "(JJ)V"⟩ : MethodName)) hown (mvT hZ (ow hw 205 rfl)) (mvT hZ (ow hw 206 rfl)) (notFace_of_selects (args := #[]) (mvT hZ (ow hw 208 rfl))) (mvT hZ (ow hw 208 rfl)) (mvT hZ (ow hw 207 rfl)) (by decide) (backOf (W := 0) (addAll l Z a0 hw [] G b61 b6_64 b3_7_64 w_HIGHEST vS vT2 vE2 k3_7_64 hd1 M1 T73.heap n0 O73 HQ1 HD1 (Nat.le_trans le1 (by decide))) hZ (ow hw 209 rfl) (ow hw 83 rfl) (by decide) (by decide)) q77a q77c (g := (mkF m 248 #[.val (.int p1), .val (.int p2), .val (.long q3), .second, .val (.long q4), .second, .val (.long q5), .second, .val (.long q6), .second, .val (.int (1 : Int32)), .val (.ref w_HIGHEST), .val (.long vS), .second, .val (.long vT0), .second, .val (.long vT1), .second, .val (.long vT2), .second, .val (.long vT3), .second, .val (.long vE0), .second, .val (.long vE1), .second, .val (.long vE2), .second, .val (.long vE3), .second, .val (.ref b51), .val (.ref b61), .val (.int (1 : Int32)), .val (.long (f32_1 vE1 (if (vT1 - vS) < vT0 then (1 : Int32) else (0 : Int32)) vE0)), .second, .unset, .unset, .unset, .unset] [(.long vE2), (.long vT2), (.ref b61)])) rfl (by rw [hml]; rfl) (Steps.refl _) (argsL := [(.long vT2), (.long vE2)]) (rest := []) (lenOf pd_8 rfl) rfl (by show 2 * 0 + _ ≤ _; exact Nat.le_of_eq rfl) (hb hby at_248) (fun _ _ => ⟨rfl, e76, (by decide : 8 + 1 ≤ _), (by decide : 44 + 2 ≤ _)⟩)
    dsimp only [Pt.U, Pt.locs, Pt.cells, Pt.slots] at X77 l77 y77 z77 st77 hQ77
    subst l77 y77 z77
    obtain ⟨rfl, N77q, O77, D77_, hd2, M2, hM2, le2_, HQ2, HD2⟩ := hQ77
    have le2 : hd2 + M2.length ≤ 3 := Nat.le_trans le2_ (Nat.succ_le_succ le1)
    have ne2_ : M2 ≠ [] := by rw [hM2]; simp
    have N77 := Fr.app N76 N77q
    refine OGot.on st77 ?_
    show OGot p.tables e below (T77.setTop (mkF m 251 #[.val (.int p1), .val (.int p2), .val (.long q3), .second, .val (.long q4), .second, .val (.long q5), .second, .val (.long q6), .second, .val (.int (1 : Int32)), .val (.ref w_HIGHEST), .val (.long vS), .second, .val (.long vT0), .second, .val (.long vT1), .second, .val (.long vT2), .second, .val (.long vT3), .second, .val (.long vE0), .second, .val (.long vE1), .second, .val (.long vE2), .second, .val (.long vE3), .second, .val (.ref b51), .val (.ref b61), .val (.int (1 : Int32)), .val (.long (f32_1 vE1 (if (vT1 - vS) < vT0 then (1 : Int32) else (0 : Int32)) vE0)), .second, .unset, .unset, .unset, .unset] [])) _
    refine OGot.go (fun t k => XS.iload X77.here hx rfl (hb hby at_251) rfl k) ?_
    refine OGot.go (fun t k => XS.iload X77.here hx rfl (hb hby at_253) rfl k) ?_
    refine OGot.go (fun t k => XS.lload X77.here hx rfl (hb hby at_255) rfl k) ?_
    refine OGot.go (fun t k => XS.lload X77.here hx rfl (hb hby at_257) rfl k) ?_
    refine OGot.go (fun t k => XS.lload X77.here hx rfl (hb hby at_259) rfl k) ?_
    refine OGot.go (fun t k => XS.lload X77.here hx rfl (hb hby at_261) rfl k) ?_
    show OGot p.tables e below (T77.setTop (mkF m 263 #[.val (.int p1), .val (.int p2), .val (.long q3), .second, .val (.long q4), .second, .val (.long q5), .second, .val (.long q6), .second, .val (.int (1 : Int32)), .val (.ref w_HIGHEST), .val (.long vS), .second, .val (.long vT0), .second, .val (.long vT1), .second, .val (.long vT2), .second, .val (.long vT3), .second, .val (.long vE0), .second, .val (.long vE1), .second, .val (.long vE2), .second, .val (.long vE3), .second, .val (.ref b51), .val (.ref b61), .val (.int (1 : Int32)), .val (.long (f32_1 vE1 (if (vT1 - vS) < vT0 then (1 : Int32) else (0 : Int32)) vE0)), .second, .unset, .unset, .unset, .unset] [(.long vS), (.long vT2), (.long vT1), (.long vE2), (.int (1 : Int32)), (.int (1 : Int32))])) _
    refine OGot.go (fun t k => XS.lsub X77.here hx rfl (hb hby at_263) rfl k) ?_
    refine OGot.go (fun t k => XS.lcmp X77.here hx rfl (hb hby at_264) rfl k) ?_
    show OGot p.tables e below (T77.setTop (mkF m 265 #[.val (.int p1), .val (.int p2), .val (.long q3), .second, .val (.long q4), .second, .val (.long q5), .second, .val (.long q6), .second, .val (.int (1 : Int32)), .val (.ref w_HIGHEST), .val (.long vS), .second, .val (.long vT0), .second, .val (.long vT1), .second, .val (.long vT2), .second, .val (.long vT3), .second, .val (.long vE0), .second, .val (.long vE1), .second, .val (.long vE2), .second, .val (.long vE3), .second, .val (.ref b51), .val (.ref b61), .val (.int (1 : Int32)), .val (.long (f32_1 vE1 (if (vT1 - vS) < vT0 then (1 : Int32) else (0 : Int32)) vE0)), .second, .unset, .unset, .unset, .unset] [(.int (lcmpW vT1 (vT2 - vS))), (.long vE2), (.int (1 : Int32)), (.int (1 : Int32))])) _
    refine OGot.go (B := T77.setTop (mkF m 273 #[.val (.int p1), .val (.int p2), .val (.long q3), .second, .val (.long q4), .second, .val (.long q5), .second, .val (.long q6), .second, .val (.int (1 : Int32)), .val (.ref w_HIGHEST), .val (.long vS), .second, .val (.long vT0), .second, .val (.long vT1), .second, .val (.long vT2), .second, .val (.long vT3), .second, .val (.long vE0), .second, .val (.long vE1), .second, .val (.long vE2), .second, .val (.long vE3), .second, .val (.ref b51), .val (.ref b61), .val (.int (1 : Int32)), .val (.long (f32_1 vE1 (if (vT1 - vS) < vT0 then (1 : Int32) else (0 : Int32)) vE0)), .second, .unset, .unset, .unset, .unset] [(.int (if (vT2 - vS) < vT1 then (1 : Int32) else (0 : Int32))), (.long vE2), (.int (1 : Int32)), (.int (1 : Int32))])) (fun t k => ?_) ?_
    · by_cases hj78 : (vT2 - vS) < vT1
      · refine XS.ifNo X77.here hx rfl (hb hby at_265) rfl ((if0 _ _).trans (tlt ((lw_gt vT1 (vT2 - vS)).mpr hj78)).2.2.2) ?_
        show Steps p.tables e below (T77.setTop (mkF m 268 #[.val (.int p1), .val (.int p2), .val (.long q3), .second, .val (.long q4), .second, .val (.long q5), .second, .val (.long q6), .second, .val (.int (1 : Int32)), .val (.ref w_HIGHEST), .val (.long vS), .second, .val (.long vT0), .second, .val (.long vT1), .second, .val (.long vT2), .second, .val (.long vT3), .second, .val (.long vE0), .second, .val (.long vE1), .second, .val (.long vE2), .second, .val (.long vE3), .second, .val (.ref b51), .val (.ref b61), .val (.int (1 : Int32)), .val (.long (f32_1 vE1 (if (vT1 - vS) < vT0 then (1 : Int32) else (0 : Int32)) vE0)), .second, .unset, .unset, .unset, .unset] [(.long vE2), (.int (1 : Int32)), (.int (1 : Int32))])) _
        refine XS.iconst X77.here hx rfl (hb hby at_268) ?_
        show Steps p.tables e below (T77.setTop (mkF m 269 #[.val (.int p1), .val (.int p2), .val (.long q3), .second, .val (.long q4), .second, .val (.long q5), .second, .val (.long q6), .second, .val (.int (1 : Int32)), .val (.ref w_HIGHEST), .val (.long vS), .second, .val (.long vT0), .second, .val (.long vT1), .second, .val (.long vT2), .second, .val (.long vT3), .second, .val (.long vE0), .second, .val (.long vE1), .second, .val (.long vE2), .second, .val (.long vE3), .second, .val (.ref b51), .val (.ref b61), .val (.int (1 : Int32)), .val (.long (f32_1 vE1 (if (vT1 - vS) < vT0 then (1 : Int32) else (0 : Int32)) vE0)), .second, .unset, .unset, .unset, .unset] [(.int (1 : Int32)), (.long vE2), (.int (1 : Int32)), (.int (1 : Int32))])) _
        refine XS.goto X77.here hx rfl (pc0 := 269) (pc' := 273) rfl (hb hby at_269) (by decide) (by decide) ?_
        show Steps p.tables e below (T77.setTop (mkF m 273 #[.val (.int p1), .val (.int p2), .val (.long q3), .second, .val (.long q4), .second, .val (.long q5), .second, .val (.long q6), .second, .val (.int (1 : Int32)), .val (.ref w_HIGHEST), .val (.long vS), .second, .val (.long vT0), .second, .val (.long vT1), .second, .val (.long vT2), .second, .val (.long vT3), .second, .val (.long vE0), .second, .val (.long vE1), .second, .val (.long vE2), .second, .val (.long vE3), .second, .val (.ref b51), .val (.ref b61), .val (.int (1 : Int32)), .val (.long (f32_1 vE1 (if (vT1 - vS) < vT0 then (1 : Int32) else (0 : Int32)) vE0)), .second, .unset, .unset, .unset, .unset] [(.int (1 : Int32)), (.long vE2), (.int (1 : Int32)), (.int (1 : Int32))])) _
        simp only [if_pos hj78] at k
        exact k
      · refine XS.ifYes X77.here hx rfl (pc0 := 265) (pc' := 272) rfl (hb hby at_265) rfl ((if0 _ _).trans (flt (fun q => hj78 ((lw_gt vT1 (vT2 - vS)).mp q))).2.2.2) (by decide) (by decide) ?_
        show Steps p.tables e below (T77.setTop (mkF m 272 #[.val (.int p1), .val (.int p2), .val (.long q3), .second, .val (.long q4), .second, .val (.long q5), .second, .val (.long q6), .second, .val (.int (1 : Int32)), .val (.ref w_HIGHEST), .val (.long vS), .second, .val (.long vT0), .second, .val (.long vT1), .second, .val (.long vT2), .second, .val (.long vT3), .second, .val (.long vE0), .second, .val (.long vE1), .second, .val (.long vE2), .second, .val (.long vE3), .second, .val (.ref b51), .val (.ref b61), .val (.int (1 : Int32)), .val (.long (f32_1 vE1 (if (vT1 - vS) < vT0 then (1 : Int32) else (0 : Int32)) vE0)), .second, .unset, .unset, .unset, .unset] [(.long vE2), (.int (1 : Int32)), (.int (1 : Int32))])) _
        refine XS.iconst X77.here hx rfl (hb hby at_272) ?_
        show Steps p.tables e below (T77.setTop (mkF m 273 #[.val (.int p1), .val (.int p2), .val (.long q3), .second, .val (.long q4), .second, .val (.long q5), .second, .val (.long q6), .second, .val (.int (1 : Int32)), .val (.ref w_HIGHEST), .val (.long vS), .second, .val (.long vT0), .second, .val (.long vT1), .second, .val (.long vT2), .second, .val (.long vT3), .second, .val (.long vE0), .second, .val (.long vE1), .second, .val (.long vE2), .second, .val (.long vE3), .second, .val (.ref b51), .val (.ref b61), .val (.int (1 : Int32)), .val (.long (f32_1 vE1 (if (vT1 - vS) < vT0 then (1 : Int32) else (0 : Int32)) vE0)), .second, .unset, .unset, .unset, .unset] [(.int (0 : Int32)), (.long vE2), (.int (1 : Int32)), (.int (1 : Int32))])) _
        simp only [if_neg hj78] at k
        exact k
    refine OGot.go (fun t k => XS.lload X77.here hx rfl (hb hby at_273) rfl k) ?_
    obtain ⟨_, _, ⟨T79, L79, k79, n79⟩, -, X79, ⟨Lc79, hQ79, l79, y79, z79⟩, st79⟩ := Jvm.LawKit.callS X77 hx (y := (⟨"com/example/restrained_scaler/restrainedscaler/decision/StabilizationWindowDemandPinLaw", "fold", "(ZJZJ)J"⟩ : MethodName)) hown (mvT hZ (ow hw 237 rfl)) (mvT hZ (ow hw 238 rfl)) (mvT hZ (ow hw 239 rfl)) (mvT hZ (ow hw 240 rfl)) (by decide) (backOf (W := 1) (rm32_1 l Z a0 hw [] G vE2 (if (vT2 - vS) < vT1 then (1 : Int32) else (0 : Int32)) vE1 T77.heap n0 O77 ) hZ (ow hw 240 rfl) (ow hw 239 rfl) (by decide) (by decide)) (g := (mkF m 275 #[.val (.int p1), .val (.int p2), .val (.long q3), .second, .val (.long q4), .second, .val (.long q5), .second, .val (.long q6), .second, .val (.int (1 : Int32)), .val (.ref w_HIGHEST), .val (.long vS), .second, .val (.long vT0), .second, .val (.long vT1), .second, .val (.long vT2), .second, .val (.long vT3), .second, .val (.long vE0), .second, .val (.long vE1), .second, .val (.long vE2), .second, .val (.long vE3), .second, .val (.ref b51), .val (.ref b61), .val (.int (1 : Int32)), .val (.long (f32_1 vE1 (if (vT1 - vS) < vT0 then (1 : Int32) else (0 : Int32)) vE0)), .second, .unset, .unset, .unset, .unset] [(.long vE1), (.int (if (vT2 - vS) < vT1 then (1 : Int32) else (0 : Int32))), (.long vE2), (.int (1 : Int32)), (.int (1 : Int32))])) rfl (by rw [hml]; rfl) (argsL := [(.int (1 : Int32)), (.long vE2), (.int (if (vT2 - vS) < vT1 then (1 : Int32) else (0 : Int32))), (.long vE1)]) (rest := [(.int (1 : Int32))]) (lenOf pd_18 rfl) rfl (by show 2 * 0 + _ ≤ _; exact Nat.le_of_eq rfl) (hb hby at_275) (fun _ _ => ⟨rfl, rfl, (by decide : 9 + 0 ≤ _), (by decide : 46 + 0 ≤ _)⟩)
    dsimp only [Pt.U, Pt.locs, Pt.cells, Pt.slots] at X79 l79 y79 z79 st79 hQ79
    subst l79 y79 z79
    obtain ⟨rfl, N79q, e79⟩ := hQ79
    have N79 := Fr.app N77 N79q
    refine OGot.go st79 ?_
    refine OGot.go (fun t k => XS.lload X79.here hx rfl (hb hby at_278) rfl k) ?_
    refine OGot.go (fun t k => XS.lload X79.here hx rfl (hb hby at_280) rfl k) ?_
    refine OGot.go (fun t k => XS.lload X79.here hx rfl (hb hby at_282) rfl k) ?_
    show OGot p.tables e below (T79.setTop (mkF m 284 #[.val (.int p1), .val (.int p2), .val (.long q3), .second, .val (.long q4), .second, .val (.long q5), .second, .val (.long q6), .second, .val (.int (1 : Int32)), .val (.ref w_HIGHEST), .val (.long vS), .second, .val (.long vT0), .second, .val (.long vT1), .second, .val (.long vT2), .second, .val (.long vT3), .second, .val (.long vE0), .second, .val (.long vE1), .second, .val (.long vE2), .second, .val (.long vE3), .second, .val (.ref b51), .val (.ref b61), .val (.int (1 : Int32)), .val (.long (f32_1 vE1 (if (vT1 - vS) < vT0 then (1 : Int32) else (0 : Int32)) vE0)), .second, .unset, .unset, .unset, .unset] [(.long vS), (.long vT2), (.long vT0), (.long (f32_1 vE2 (if (vT2 - vS) < vT1 then (1 : Int32) else (0 : Int32)) vE1)), (.int (1 : Int32))])) _
    refine OGot.go (fun t k => XS.lsub X79.here hx rfl (hb hby at_284) rfl k) ?_
    refine OGot.go (fun t k => XS.lcmp X79.here hx rfl (hb hby at_285) rfl k) ?_
    show OGot p.tables e below (T79.setTop (mkF m 286 #[.val (.int p1), .val (.int p2), .val (.long q3), .second, .val (.long q4), .second, .val (.long q5), .second, .val (.long q6), .second, .val (.int (1 : Int32)), .val (.ref w_HIGHEST), .val (.long vS), .second, .val (.long vT0), .second, .val (.long vT1), .second, .val (.long vT2), .second, .val (.long vT3), .second, .val (.long vE0), .second, .val (.long vE1), .second, .val (.long vE2), .second, .val (.long vE3), .second, .val (.ref b51), .val (.ref b61), .val (.int (1 : Int32)), .val (.long (f32_1 vE1 (if (vT1 - vS) < vT0 then (1 : Int32) else (0 : Int32)) vE0)), .second, .unset, .unset, .unset, .unset] [(.int (lcmpW vT0 (vT2 - vS))), (.long (f32_1 vE2 (if (vT2 - vS) < vT1 then (1 : Int32) else (0 : Int32)) vE1)), (.int (1 : Int32))])) _
    refine OGot.go (B := T79.setTop (mkF m 294 #[.val (.int p1), .val (.int p2), .val (.long q3), .second, .val (.long q4), .second, .val (.long q5), .second, .val (.long q6), .second, .val (.int (1 : Int32)), .val (.ref w_HIGHEST), .val (.long vS), .second, .val (.long vT0), .second, .val (.long vT1), .second, .val (.long vT2), .second, .val (.long vT3), .second, .val (.long vE0), .second, .val (.long vE1), .second, .val (.long vE2), .second, .val (.long vE3), .second, .val (.ref b51), .val (.ref b61), .val (.int (1 : Int32)), .val (.long (f32_1 vE1 (if (vT1 - vS) < vT0 then (1 : Int32) else (0 : Int32)) vE0)), .second, .unset, .unset, .unset, .unset] [(.int (if (vT2 - vS) < vT0 then (1 : Int32) else (0 : Int32))), (.long (f32_1 vE2 (if (vT2 - vS) < vT1 then (1 : Int32) else (0 : Int32)) vE1)), (.int (1 : Int32))])) (fun t k => ?_) ?_
    · by_cases hj80 : (vT2 - vS) < vT0
      · refine XS.ifNo X79.here hx rfl (hb hby at_286) rfl ((if0 _ _).trans (tlt ((lw_gt vT0 (vT2 - vS)).mpr hj80)).2.2.2) ?_
        show Steps p.tables e below (T79.setTop (mkF m 289 #[.val (.int p1), .val (.int p2), .val (.long q3), .second, .val (.long q4), .second, .val (.long q5), .second, .val (.long q6), .second, .val (.int (1 : Int32)), .val (.ref w_HIGHEST), .val (.long vS), .second, .val (.long vT0), .second, .val (.long vT1), .second, .val (.long vT2), .second, .val (.long vT3), .second, .val (.long vE0), .second, .val (.long vE1), .second, .val (.long vE2), .second, .val (.long vE3), .second, .val (.ref b51), .val (.ref b61), .val (.int (1 : Int32)), .val (.long (f32_1 vE1 (if (vT1 - vS) < vT0 then (1 : Int32) else (0 : Int32)) vE0)), .second, .unset, .unset, .unset, .unset] [(.long (f32_1 vE2 (if (vT2 - vS) < vT1 then (1 : Int32) else (0 : Int32)) vE1)), (.int (1 : Int32))])) _
        refine XS.iconst X79.here hx rfl (hb hby at_289) ?_
        show Steps p.tables e below (T79.setTop (mkF m 290 #[.val (.int p1), .val (.int p2), .val (.long q3), .second, .val (.long q4), .second, .val (.long q5), .second, .val (.long q6), .second, .val (.int (1 : Int32)), .val (.ref w_HIGHEST), .val (.long vS), .second, .val (.long vT0), .second, .val (.long vT1), .second, .val (.long vT2), .second, .val (.long vT3), .second, .val (.long vE0), .second, .val (.long vE1), .second, .val (.long vE2), .second, .val (.long vE3), .second, .val (.ref b51), .val (.ref b61), .val (.int (1 : Int32)), .val (.long (f32_1 vE1 (if (vT1 - vS) < vT0 then (1 : Int32) else (0 : Int32)) vE0)), .second, .unset, .unset, .unset, .unset] [(.int (1 : Int32)), (.long (f32_1 vE2 (if (vT2 - vS) < vT1 then (1 : Int32) else (0 : Int32)) vE1)), (.int (1 : Int32))])) _
        refine XS.goto X79.here hx rfl (pc0 := 290) (pc' := 294) rfl (hb hby at_290) (by decide) (by decide) ?_
        show Steps p.tables e below (T79.setTop (mkF m 294 #[.val (.int p1), .val (.int p2), .val (.long q3), .second, .val (.long q4), .second, .val (.long q5), .second, .val (.long q6), .second, .val (.int (1 : Int32)), .val (.ref w_HIGHEST), .val (.long vS), .second, .val (.long vT0), .second, .val (.long vT1), .second, .val (.long vT2), .second, .val (.long vT3), .second, .val (.long vE0), .second, .val (.long vE1), .second, .val (.long vE2), .second, .val (.long vE3), .second, .val (.ref b51), .val (.ref b61), .val (.int (1 : Int32)), .val (.long (f32_1 vE1 (if (vT1 - vS) < vT0 then (1 : Int32) else (0 : Int32)) vE0)), .second, .unset, .unset, .unset, .unset] [(.int (1 : Int32)), (.long (f32_1 vE2 (if (vT2 - vS) < vT1 then (1 : Int32) else (0 : Int32)) vE1)), (.int (1 : Int32))])) _
        simp only [if_pos hj80] at k
        exact k
      · refine XS.ifYes X79.here hx rfl (pc0 := 286) (pc' := 293) rfl (hb hby at_286) rfl ((if0 _ _).trans (flt (fun q => hj80 ((lw_gt vT0 (vT2 - vS)).mp q))).2.2.2) (by decide) (by decide) ?_
        show Steps p.tables e below (T79.setTop (mkF m 293 #[.val (.int p1), .val (.int p2), .val (.long q3), .second, .val (.long q4), .second, .val (.long q5), .second, .val (.long q6), .second, .val (.int (1 : Int32)), .val (.ref w_HIGHEST), .val (.long vS), .second, .val (.long vT0), .second, .val (.long vT1), .second, .val (.long vT2), .second, .val (.long vT3), .second, .val (.long vE0), .second, .val (.long vE1), .second, .val (.long vE2), .second, .val (.long vE3), .second, .val (.ref b51), .val (.ref b61), .val (.int (1 : Int32)), .val (.long (f32_1 vE1 (if (vT1 - vS) < vT0 then (1 : Int32) else (0 : Int32)) vE0)), .second, .unset, .unset, .unset, .unset] [(.long (f32_1 vE2 (if (vT2 - vS) < vT1 then (1 : Int32) else (0 : Int32)) vE1)), (.int (1 : Int32))])) _
        refine XS.iconst X79.here hx rfl (hb hby at_293) ?_
        show Steps p.tables e below (T79.setTop (mkF m 294 #[.val (.int p1), .val (.int p2), .val (.long q3), .second, .val (.long q4), .second, .val (.long q5), .second, .val (.long q6), .second, .val (.int (1 : Int32)), .val (.ref w_HIGHEST), .val (.long vS), .second, .val (.long vT0), .second, .val (.long vT1), .second, .val (.long vT2), .second, .val (.long vT3), .second, .val (.long vE0), .second, .val (.long vE1), .second, .val (.long vE2), .second, .val (.long vE3), .second, .val (.ref b51), .val (.ref b61), .val (.int (1 : Int32)), .val (.long (f32_1 vE1 (if (vT1 - vS) < vT0 then (1 : Int32) else (0 : Int32)) vE0)), .second, .unset, .unset, .unset, .unset] [(.int (0 : Int32)), (.long (f32_1 vE2 (if (vT2 - vS) < vT1 then (1 : Int32) else (0 : Int32)) vE1)), (.int (1 : Int32))])) _
        simp only [if_neg hj80] at k
        exact k
    refine OGot.go (fun t k => XS.lload X79.here hx rfl (hb hby at_294) rfl k) ?_
    obtain ⟨_, _, ⟨T81, L81, k81, n81⟩, -, X81, ⟨Lc81, hQ81, l81, y81, z81⟩, st81⟩ := Jvm.LawKit.callS X79 hx (y := (⟨"com/example/restrained_scaler/restrainedscaler/decision/StabilizationWindowDemandPinLaw", "fold", "(ZJZJ)J"⟩ : MethodName)) hown (mvT hZ (ow hw 237 rfl)) (mvT hZ (ow hw 238 rfl)) (mvT hZ (ow hw 239 rfl)) (mvT hZ (ow hw 240 rfl)) (by decide) (backOf (W := 0) (rm32_1 l Z a0 hw [] G (f32_1 vE2 (if (vT2 - vS) < vT1 then (1 : Int32) else (0 : Int32)) vE1) (if (vT2 - vS) < vT0 then (1 : Int32) else (0 : Int32)) vE0 T77.heap n0 O77 ) hZ (ow hw 240 rfl) (ow hw 239 rfl) (by decide) (by decide)) (g := (mkF m 296 #[.val (.int p1), .val (.int p2), .val (.long q3), .second, .val (.long q4), .second, .val (.long q5), .second, .val (.long q6), .second, .val (.int (1 : Int32)), .val (.ref w_HIGHEST), .val (.long vS), .second, .val (.long vT0), .second, .val (.long vT1), .second, .val (.long vT2), .second, .val (.long vT3), .second, .val (.long vE0), .second, .val (.long vE1), .second, .val (.long vE2), .second, .val (.long vE3), .second, .val (.ref b51), .val (.ref b61), .val (.int (1 : Int32)), .val (.long (f32_1 vE1 (if (vT1 - vS) < vT0 then (1 : Int32) else (0 : Int32)) vE0)), .second, .unset, .unset, .unset, .unset] [(.long vE0), (.int (if (vT2 - vS) < vT0 then (1 : Int32) else (0 : Int32))), (.long (f32_1 vE2 (if (vT2 - vS) < vT1 then (1 : Int32) else (0 : Int32)) vE1)), (.int (1 : Int32))])) rfl (by rw [hml]; rfl) (argsL := [(.int (1 : Int32)), (.long (f32_1 vE2 (if (vT2 - vS) < vT1 then (1 : Int32) else (0 : Int32)) vE1)), (.int (if (vT2 - vS) < vT0 then (1 : Int32) else (0 : Int32))), (.long vE0)]) (rest := []) (lenOf pd_18 rfl) rfl (by show 2 * 0 + _ ≤ _; exact Nat.le_of_eq rfl) (hb hby at_296) (fun _ _ => ⟨rfl, e79, (by decide : 9 + 0 ≤ _), (by decide : 46 + 0 ≤ _)⟩)
    dsimp only [Pt.U, Pt.locs, Pt.cells, Pt.slots] at X81 l81 y81 z81 st81 hQ81
    subst l81 y81 z81
    obtain ⟨rfl, N81q, e81⟩ := hQ81
    have N81 := Fr.app N79 N81q
    refine OGot.go st81 ?_
    refine OGot.go (fun t k => XS.lstore X81.here hx rfl (hb hby at_299) rfl (l' := #[.val (.int p1), .val (.int p2), .val (.long q3), .second, .val (.long q4), .second, .val (.long q5), .second, .val (.long q6), .second, .val (.int (1 : Int32)), .val (.ref w_HIGHEST), .val (.long vS), .second, .val (.long vT0), .second, .val (.long vT1), .second, .val (.long vT2), .second, .val (.long vT3), .second, .val (.long vE0), .second, .val (.long vE1), .second, .val (.long vE2), .second, .val (.long vE3), .second, .val (.ref b51), .val (.ref b61), .val (.int (1 : Int32)), .val (.long (f32_1 vE1 (if (vT1 - vS) < vT0 then (1 : Int32) else (0 : Int32)) vE0)), .second, .val (.long (f32_1 (f32_1 vE2 (if (vT2 - vS) < vT1 then (1 : Int32) else (0 : Int32)) vE1) (if (vT2 - vS) < vT0 then (1 : Int32) else (0 : Int32)) vE0)), .second, .unset, .unset]) rfl k) ?_
    refine OGot.go (fun t k => XS.iload X81.here hx rfl (hb hby at_301) rfl k) ?_
    refine OGot.go (fun t k => XS.aload X81.here hx rfl (hb hby at_303) rfl rfl k) ?_
    show OGot p.tables e below (T81.setTop (mkF m 305 #[.val (.int p1), .val (.int p2), .val (.long q3), .second, .val (.long q4), .second, .val (.long q5), .second, .val (.long q6), .second, .val (.int (1 : Int32)), .val (.ref w_HIGHEST), .val (.long vS), .second, .val (.long vT0), .second, .val (.long vT1), .second, .val (.long vT2), .second, .val (.long vT3), .second, .val (.long vE0), .second, .val (.long vE1), .second, .val (.long vE2), .second, .val (.long vE3), .second, .val (.ref b51), .val (.ref b61), .val (.int (1 : Int32)), .val (.long (f32_1 vE1 (if (vT1 - vS) < vT0 then (1 : Int32) else (0 : Int32)) vE0)), .second, .val (.long (f32_1 (f32_1 vE2 (if (vT2 - vS) < vT1 then (1 : Int32) else (0 : Int32)) vE1) (if (vT2 - vS) < vT0 then (1 : Int32) else (0 : Int32)) vE0)), .second, .unset, .unset] [(.ref b61), (.int (1 : Int32))])) _
    obtain ⟨cq82, kq82, q82a, q82b, q82c⟩ := isOf hZ e81 HQ2.1
    obtain ⟨_, _, ⟨T82, L82, k82, n82⟩, -, X82, ⟨Lc82, hQ82, l82, y82, z82⟩, st82⟩ := X81.virtualBack hx (y := (⟨"com/example/restrained_scaler/restrainedscaler/decision/StabilizationWindow", "demand", "()J"⟩ : MethodName)) (z := (⟨"com/example/restrained_scaler/restrainedscaler/decision/StabilizationWindow", "demand", "()J"⟩ : MethodName)) hown (mvT hZ (ow hw 184 rfl)) (mvT hZ (ow hw 185 rfl)) (notFace_of_selects (args := #[]) (mvT hZ (ow hw 187 rfl))) (mvT hZ (ow hw 187 rfl)) (mvT hZ (ow hw 186 rfl)) (by decide) (backOf (W := 1) (demAll l Z a0 hw [] G b61 b6_64 b3_7_64 w_HIGHEST vS k3_7_64 hd2 M2 T77.heap n0 O77 HQ2 HD2 (Nat.le_trans le2 (by decide)) ne2_) hZ (ow hw 188 rfl) (ow hw 83 rfl) (by decide) (by decide)) q82a q82c (g := (mkF m 305 #[.val (.int p1), .val (.int p2), .val (.long q3), .second, .val (.long q4), .second, .val (.long q5), .second, .val (.long q6), .second, .val (.int (1 : Int32)), .val (.ref w_HIGHEST), .val (.long vS), .second, .val (.long vT0), .second, .val (.long vT1), .second, .val (.long vT2), .second, .val (.long vT3), .second, .val (.long vE0), .second, .val (.long vE1), .second, .val (.long vE2), .second, .val (.long vE3), .second, .val (.ref b51), .val (.ref b61), .val (.int (1 : Int32)), .val (.long (f32_1 vE1 (if (vT1 - vS) < vT0 then (1 : Int32) else (0 : Int32)) vE0)), .second, .val (.long (f32_1 (f32_1 vE2 (if (vT2 - vS) < vT1 then (1 : Int32) else (0 : Int32)) vE1) (if (vT2 - vS) < vT0 then (1 : Int32) else (0 : Int32)) vE0)), .second, .unset, .unset] [(.ref b61), (.int (1 : Int32))])) rfl (by rw [hml]; rfl) (Steps.refl _) (argsL := []) (rest := [(.int (1 : Int32))]) (lenOf pd_5 rfl) rfl (by show 2 * 0 + _ ≤ _; exact Nat.le_of_eq rfl) (hb hby at_305) (fun _ _ => ⟨rfl, e81, (by decide : 9 + 0 ≤ _), (by decide : 46 + 0 ≤ _)⟩)
    dsimp only [Pt.U, Pt.locs, Pt.cells, Pt.slots] at X82 l82 y82 z82 st82 hQ82
    subst l82 y82 z82
    obtain ⟨rfl, N82q, e82⟩ := hQ82
    have N82 := Fr.app N81 N82q
    refine OGot.on st82 ?_
    refine OGot.go (fun t k => XS.lload X82.here hx rfl (hb hby at_308) rfl k) ?_
    refine OGot.go (fun t k => XS.lcmp X82.here hx rfl (hb hby at_310) rfl k) ?_
    refine OGot.go (fun t k => XS.ifNo X82.here hx rfl (hb hby at_311) rfl ((if0 _ _).trans (teq ((lw_eq (dem M2) (f32_1 (f32_1 vE2 (if (vT2 - vS) < vT1 then (1 : Int32) else (0 : Int32)) vE1) (if (vT2 - vS) < vT0 then (1 : Int32) else (0 : Int32)) vE0)).mpr (own_r2H (own_times h_vS h_vT0 h_vT1 h_vT2 h_vT3) hM1 hM2))).2) k) ?_
    refine OGot.go (fun t k => XS.iconst X82.here hx rfl (hb hby at_314) k) ?_
    refine OGot.go (fun t k => XS.goto X82.here hx rfl (pc0 := 315) (pc' := 319) rfl (hb hby at_315) (by decide) (by decide) k) ?_
    show OGot p.tables e below (T82.setTop (mkF m 319 #[.val (.int p1), .val (.int p2), .val (.long q3), .second, .val (.long q4), .second, .val (.long q5), .second, .val (.long q6), .second, .val (.int (1 : Int32)), .val (.ref w_HIGHEST), .val (.long vS), .second, .val (.long vT0), .second, .val (.long vT1), .second, .val (.long vT2), .second, .val (.long vT3), .second, .val (.long vE0), .second, .val (.long vE1), .second, .val (.long vE2), .second, .val (.long vE3), .second, .val (.ref b51), .val (.ref b61), .val (.int (1 : Int32)), .val (.long (f32_1 vE1 (if (vT1 - vS) < vT0 then (1 : Int32) else (0 : Int32)) vE0)), .second, .val (.long (f32_1 (f32_1 vE2 (if (vT2 - vS) < vT1 then (1 : Int32) else (0 : Int32)) vE1) (if (vT2 - vS) < vT0 then (1 : Int32) else (0 : Int32)) vE0)), .second, .unset, .unset] [(.int (1 : Int32)), (.int (1 : Int32))])) _
    refine OGot.go (fun t k => XS.iand X82.here hx rfl (hb hby at_319) rfl k) ?_
    show OGot p.tables e below (T82.setTop (mkF m 320 #[.val (.int p1), .val (.int p2), .val (.long q3), .second, .val (.long q4), .second, .val (.long q5), .second, .val (.long q6), .second, .val (.int (1 : Int32)), .val (.ref w_HIGHEST), .val (.long vS), .second, .val (.long vT0), .second, .val (.long vT1), .second, .val (.long vT2), .second, .val (.long vT3), .second, .val (.long vE0), .second, .val (.long vE1), .second, .val (.long vE2), .second, .val (.long vE3), .second, .val (.ref b51), .val (.ref b61), .val (.int (1 : Int32)), .val (.long (f32_1 vE1 (if (vT1 - vS) < vT0 then (1 : Int32) else (0 : Int32)) vE0)), .second, .val (.long (f32_1 (f32_1 vE2 (if (vT2 - vS) < vT1 then (1 : Int32) else (0 : Int32)) vE1) (if (vT2 - vS) < vT0 then (1 : Int32) else (0 : Int32)) vE0)), .second, .unset, .unset] [(.int ((1 : Int32) &&& (1 : Int32)))])) _
    rw [show ((1 : Int32) &&& (1 : Int32)) = (1 : Int32) from by decide]
    refine OGot.go (fun t k => XS.istore X82.here hx rfl (hb hby at_320) rfl (l' := #[.val (.int p1), .val (.int p2), .val (.long q3), .second, .val (.long q4), .second, .val (.long q5), .second, .val (.long q6), .second, .val (.int (1 : Int32)), .val (.ref w_HIGHEST), .val (.long vS), .second, .val (.long vT0), .second, .val (.long vT1), .second, .val (.long vT2), .second, .val (.long vT3), .second, .val (.long vE0), .second, .val (.long vE1), .second, .val (.long vE2), .second, .val (.long vE3), .second, .val (.ref b51), .val (.ref b61), .val (.int (1 : Int32)), .val (.long (f32_1 vE1 (if (vT1 - vS) < vT0 then (1 : Int32) else (0 : Int32)) vE0)), .second, .val (.long (f32_1 (f32_1 vE2 (if (vT2 - vS) < vT1 then (1 : Int32) else (0 : Int32)) vE1) (if (vT2 - vS) < vT0 then (1 : Int32) else (0 : Int32)) vE0)), .second, .unset, .unset]) rfl k) ?_
    refine OGot.go (fun t k => XS.aload X82.here hx rfl (hb hby at_322) rfl rfl k) ?_
    refine OGot.go (fun t k => XS.lload X82.here hx rfl (hb hby at_324) rfl k) ?_
    refine OGot.go (fun t k => XS.lload X82.here hx rfl (hb hby at_326) rfl k) ?_
    obtain ⟨cq83, kq83, q83a, q83b, q83c⟩ := isOf hZ e82 HQ2.1
    obtain ⟨_, _, ⟨T83, L83, k83, n83⟩, -, X83, ⟨Lc83, hQ83, l83, y83, z83⟩, st83⟩ := X82.virtualBack hx (y := (⟨"com/example/restrained_scaler/restrainedscaler/decision/StabilizationWindow", "add", "(JJ)V"⟩ : MethodName)) (z := (⟨"com/example/restrained_scaler/restrainedscaler/decision/StabilizationWindow", "add", "(JJ)V"⟩ : MethodName)) hown (mvT hZ (ow hw 205 rfl)) (mvT hZ (ow hw 206 rfl)) (notFace_of_selects (args := #[]) (mvT hZ (ow hw 208 rfl))) (mvT hZ (ow hw 208 rfl)) (mvT hZ (ow hw 207 rfl)) (by decide) (backOf (W := 0) (addAll l Z a0 hw [] G b61 b6_64 b3_7_64 w_HIGHEST vS vT3 vE3 k3_7_64 hd2 M2 T77.heap n0 O77 HQ2 HD2 (Nat.le_trans le2 (by decide))) hZ (ow hw 209 rfl) (ow hw 83 rfl) (by decide) (by decide)) q83a q83c (g := (mkF m 328 #[.val (.int p1), .val (.int p2), .val (.long q3), .second, .val (.long q4), .second, .val (.long q5), .second, .val (.long q6), .second, .val (.int (1 : Int32)), .val (.ref w_HIGHEST), .val (.long vS), .second, .val (.long vT0), .second, .val (.long vT1), .second, .val (.long vT2), .second, .val (.long vT3), .second, .val (.long vE0), .second, .val (.long vE1), .second, .val (.long vE2), .second, .val (.long vE3), .second, .val (.ref b51), .val (.ref b61), .val (.int (1 : Int32)), .val (.long (f32_1 vE1 (if (vT1 - vS) < vT0 then (1 : Int32) else (0 : Int32)) vE0)), .second, .val (.long (f32_1 (f32_1 vE2 (if (vT2 - vS) < vT1 then (1 : Int32) else (0 : Int32)) vE1) (if (vT2 - vS) < vT0 then (1 : Int32) else (0 : Int32)) vE0)), .second, .unset, .unset] [(.long vE3), (.long vT3), (.ref b61)])) rfl (by rw [hml]; rfl) (Steps.refl _) (argsL := [(.long vT3), (.long vE3)]) (rest := []) (lenOf pd_8 rfl) rfl (by show 2 * 0 + _ ≤ _; exact Nat.le_of_eq rfl) (hb hby at_328) (fun _ _ => ⟨rfl, e82, (by decide : 9 + 1 ≤ _), (by decide : 46 + 2 ≤ _)⟩)
    dsimp only [Pt.U, Pt.locs, Pt.cells, Pt.slots] at X83 l83 y83 z83 st83 hQ83
    subst l83 y83 z83
    obtain ⟨rfl, N83q, O83, D83_, hd3, M3, hM3, le3_, HQ3, HD3⟩ := hQ83
    have le3 : hd3 + M3.length ≤ 4 := Nat.le_trans le3_ (Nat.succ_le_succ le2)
    have ne3_ : M3 ≠ [] := by rw [hM3]; simp
    have N83 := Fr.app N82 N83q
    refine OGot.on st83 ?_
    show OGot p.tables e below (T83.setTop (mkF m 331 #[.val (.int p1), .val (.int p2), .val (.long q3), .second, .val (.long q4), .second, .val (.long q5), .second, .val (.long q6), .second, .val (.int (1 : Int32)), .val (.ref w_HIGHEST), .val (.long vS), .second, .val (.long vT0), .second, .val (.long vT1), .second, .val (.long vT2), .second, .val (.long vT3), .second, .val (.long vE0), .second, .val (.long vE1), .second, .val (.long vE2), .second, .val (.long vE3), .second, .val (.ref b51), .val (.ref b61), .val (.int (1 : Int32)), .val (.long (f32_1 vE1 (if (vT1 - vS) < vT0 then (1 : Int32) else (0 : Int32)) vE0)), .second, .val (.long (f32_1 (f32_1 vE2 (if (vT2 - vS) < vT1 then (1 : Int32) else (0 : Int32)) vE1) (if (vT2 - vS) < vT0 then (1 : Int32) else (0 : Int32)) vE0)), .second, .unset, .unset] [])) _
    refine OGot.go (fun t k => XS.iload X83.here hx rfl (hb hby at_331) rfl k) ?_
    refine OGot.go (fun t k => XS.iload X83.here hx rfl (hb hby at_333) rfl k) ?_
    refine OGot.go (fun t k => XS.iload X83.here hx rfl (hb hby at_335) rfl k) ?_
    refine OGot.go (fun t k => XS.lload X83.here hx rfl (hb hby at_337) rfl k) ?_
    refine OGot.go (fun t k => XS.lload X83.here hx rfl (hb hby at_339) rfl k) ?_
    refine OGot.go (fun t k => XS.lload X83.here hx rfl (hb hby at_341) rfl k) ?_
    show OGot p.tables e below (T83.setTop (mkF m 343 #[.val (.int p1), .val (.int p2), .val (.long q3), .second, .val (.long q4), .second, .val (.long q5), .second, .val (.long q6), .second, .val (.int (1 : Int32)), .val (.ref w_HIGHEST), .val (.long vS), .second, .val (.long vT0), .second, .val (.long vT1), .second, .val (.long vT2), .second, .val (.long vT3), .second, .val (.long vE0), .second, .val (.long vE1), .second, .val (.long vE2), .second, .val (.long vE3), .second, .val (.ref b51), .val (.ref b61), .val (.int (1 : Int32)), .val (.long (f32_1 vE1 (if (vT1 - vS) < vT0 then (1 : Int32) else (0 : Int32)) vE0)), .second, .val (.long (f32_1 (f32_1 vE2 (if (vT2 - vS) < vT1 then (1 : Int32) else (0 : Int32)) vE1) (if (vT2 - vS) < vT0 then (1 : Int32) else (0 : Int32)) vE0)), .second, .unset, .unset] [(.long vT3), (.long vT2), (.long vE3), (.int (1 : Int32)), (.int (1 : Int32)), (.int (1 : Int32))])) _
    refine OGot.go (fun t k => XS.lload X83.here hx rfl (hb hby at_343) rfl k) ?_
    refine OGot.go (fun t k => XS.lsub X83.here hx rfl (hb hby at_345) rfl k) ?_
    refine OGot.go (fun t k => XS.lcmp X83.here hx rfl (hb hby at_346) rfl k) ?_
    show OGot p.tables e below (T83.setTop (mkF m 347 #[.val (.int p1), .val (.int p2), .val (.long q3), .second, .val (.long q4), .second, .val (.long q5), .second, .val (.long q6), .second, .val (.int (1 : Int32)), .val (.ref w_HIGHEST), .val (.long vS), .second, .val (.long vT0), .second, .val (.long vT1), .second, .val (.long vT2), .second, .val (.long vT3), .second, .val (.long vE0), .second, .val (.long vE1), .second, .val (.long vE2), .second, .val (.long vE3), .second, .val (.ref b51), .val (.ref b61), .val (.int (1 : Int32)), .val (.long (f32_1 vE1 (if (vT1 - vS) < vT0 then (1 : Int32) else (0 : Int32)) vE0)), .second, .val (.long (f32_1 (f32_1 vE2 (if (vT2 - vS) < vT1 then (1 : Int32) else (0 : Int32)) vE1) (if (vT2 - vS) < vT0 then (1 : Int32) else (0 : Int32)) vE0)), .second, .unset, .unset] [(.int (lcmpW vT2 (vT3 - vS))), (.long vE3), (.int (1 : Int32)), (.int (1 : Int32)), (.int (1 : Int32))])) _
    refine OGot.go (B := T83.setTop (mkF m 355 #[.val (.int p1), .val (.int p2), .val (.long q3), .second, .val (.long q4), .second, .val (.long q5), .second, .val (.long q6), .second, .val (.int (1 : Int32)), .val (.ref w_HIGHEST), .val (.long vS), .second, .val (.long vT0), .second, .val (.long vT1), .second, .val (.long vT2), .second, .val (.long vT3), .second, .val (.long vE0), .second, .val (.long vE1), .second, .val (.long vE2), .second, .val (.long vE3), .second, .val (.ref b51), .val (.ref b61), .val (.int (1 : Int32)), .val (.long (f32_1 vE1 (if (vT1 - vS) < vT0 then (1 : Int32) else (0 : Int32)) vE0)), .second, .val (.long (f32_1 (f32_1 vE2 (if (vT2 - vS) < vT1 then (1 : Int32) else (0 : Int32)) vE1) (if (vT2 - vS) < vT0 then (1 : Int32) else (0 : Int32)) vE0)), .second, .unset, .unset] [(.int (if (vT3 - vS) < vT2 then (1 : Int32) else (0 : Int32))), (.long vE3), (.int (1 : Int32)), (.int (1 : Int32)), (.int (1 : Int32))])) (fun t k => ?_) ?_
    · by_cases hj84 : (vT3 - vS) < vT2
      · refine XS.ifNo X83.here hx rfl (hb hby at_347) rfl ((if0 _ _).trans (tlt ((lw_gt vT2 (vT3 - vS)).mpr hj84)).2.2.2) ?_
        show Steps p.tables e below (T83.setTop (mkF m 350 #[.val (.int p1), .val (.int p2), .val (.long q3), .second, .val (.long q4), .second, .val (.long q5), .second, .val (.long q6), .second, .val (.int (1 : Int32)), .val (.ref w_HIGHEST), .val (.long vS), .second, .val (.long vT0), .second, .val (.long vT1), .second, .val (.long vT2), .second, .val (.long vT3), .second, .val (.long vE0), .second, .val (.long vE1), .second, .val (.long vE2), .second, .val (.long vE3), .second, .val (.ref b51), .val (.ref b61), .val (.int (1 : Int32)), .val (.long (f32_1 vE1 (if (vT1 - vS) < vT0 then (1 : Int32) else (0 : Int32)) vE0)), .second, .val (.long (f32_1 (f32_1 vE2 (if (vT2 - vS) < vT1 then (1 : Int32) else (0 : Int32)) vE1) (if (vT2 - vS) < vT0 then (1 : Int32) else (0 : Int32)) vE0)), .second, .unset, .unset] [(.long vE3), (.int (1 : Int32)), (.int (1 : Int32)), (.int (1 : Int32))])) _
        refine XS.iconst X83.here hx rfl (hb hby at_350) ?_
        show Steps p.tables e below (T83.setTop (mkF m 351 #[.val (.int p1), .val (.int p2), .val (.long q3), .second, .val (.long q4), .second, .val (.long q5), .second, .val (.long q6), .second, .val (.int (1 : Int32)), .val (.ref w_HIGHEST), .val (.long vS), .second, .val (.long vT0), .second, .val (.long vT1), .second, .val (.long vT2), .second, .val (.long vT3), .second, .val (.long vE0), .second, .val (.long vE1), .second, .val (.long vE2), .second, .val (.long vE3), .second, .val (.ref b51), .val (.ref b61), .val (.int (1 : Int32)), .val (.long (f32_1 vE1 (if (vT1 - vS) < vT0 then (1 : Int32) else (0 : Int32)) vE0)), .second, .val (.long (f32_1 (f32_1 vE2 (if (vT2 - vS) < vT1 then (1 : Int32) else (0 : Int32)) vE1) (if (vT2 - vS) < vT0 then (1 : Int32) else (0 : Int32)) vE0)), .second, .unset, .unset] [(.int (1 : Int32)), (.long vE3), (.int (1 : Int32)), (.int (1 : Int32)), (.int (1 : Int32))])) _
        refine XS.goto X83.here hx rfl (pc0 := 351) (pc' := 355) rfl (hb hby at_351) (by decide) (by decide) ?_
        show Steps p.tables e below (T83.setTop (mkF m 355 #[.val (.int p1), .val (.int p2), .val (.long q3), .second, .val (.long q4), .second, .val (.long q5), .second, .val (.long q6), .second, .val (.int (1 : Int32)), .val (.ref w_HIGHEST), .val (.long vS), .second, .val (.long vT0), .second, .val (.long vT1), .second, .val (.long vT2), .second, .val (.long vT3), .second, .val (.long vE0), .second, .val (.long vE1), .second, .val (.long vE2), .second, .val (.long vE3), .second, .val (.ref b51), .val (.ref b61), .val (.int (1 : Int32)), .val (.long (f32_1 vE1 (if (vT1 - vS) < vT0 then (1 : Int32) else (0 : Int32)) vE0)), .second, .val (.long (f32_1 (f32_1 vE2 (if (vT2 - vS) < vT1 then (1 : Int32) else (0 : Int32)) vE1) (if (vT2 - vS) < vT0 then (1 : Int32) else (0 : Int32)) vE0)), .second, .unset, .unset] [(.int (1 : Int32)), (.long vE3), (.int (1 : Int32)), (.int (1 : Int32)), (.int (1 : Int32))])) _
        simp only [if_pos hj84] at k
        exact k
      · refine XS.ifYes X83.here hx rfl (pc0 := 347) (pc' := 354) rfl (hb hby at_347) rfl ((if0 _ _).trans (flt (fun q => hj84 ((lw_gt vT2 (vT3 - vS)).mp q))).2.2.2) (by decide) (by decide) ?_
        show Steps p.tables e below (T83.setTop (mkF m 354 #[.val (.int p1), .val (.int p2), .val (.long q3), .second, .val (.long q4), .second, .val (.long q5), .second, .val (.long q6), .second, .val (.int (1 : Int32)), .val (.ref w_HIGHEST), .val (.long vS), .second, .val (.long vT0), .second, .val (.long vT1), .second, .val (.long vT2), .second, .val (.long vT3), .second, .val (.long vE0), .second, .val (.long vE1), .second, .val (.long vE2), .second, .val (.long vE3), .second, .val (.ref b51), .val (.ref b61), .val (.int (1 : Int32)), .val (.long (f32_1 vE1 (if (vT1 - vS) < vT0 then (1 : Int32) else (0 : Int32)) vE0)), .second, .val (.long (f32_1 (f32_1 vE2 (if (vT2 - vS) < vT1 then (1 : Int32) else (0 : Int32)) vE1) (if (vT2 - vS) < vT0 then (1 : Int32) else (0 : Int32)) vE0)), .second, .unset, .unset] [(.long vE3), (.int (1 : Int32)), (.int (1 : Int32)), (.int (1 : Int32))])) _
        refine XS.iconst X83.here hx rfl (hb hby at_354) ?_
        show Steps p.tables e below (T83.setTop (mkF m 355 #[.val (.int p1), .val (.int p2), .val (.long q3), .second, .val (.long q4), .second, .val (.long q5), .second, .val (.long q6), .second, .val (.int (1 : Int32)), .val (.ref w_HIGHEST), .val (.long vS), .second, .val (.long vT0), .second, .val (.long vT1), .second, .val (.long vT2), .second, .val (.long vT3), .second, .val (.long vE0), .second, .val (.long vE1), .second, .val (.long vE2), .second, .val (.long vE3), .second, .val (.ref b51), .val (.ref b61), .val (.int (1 : Int32)), .val (.long (f32_1 vE1 (if (vT1 - vS) < vT0 then (1 : Int32) else (0 : Int32)) vE0)), .second, .val (.long (f32_1 (f32_1 vE2 (if (vT2 - vS) < vT1 then (1 : Int32) else (0 : Int32)) vE1) (if (vT2 - vS) < vT0 then (1 : Int32) else (0 : Int32)) vE0)), .second, .unset, .unset] [(.int (0 : Int32)), (.long vE3), (.int (1 : Int32)), (.int (1 : Int32)), (.int (1 : Int32))])) _
        simp only [if_neg hj84] at k
        exact k
    refine OGot.go (fun t k => XS.lload X83.here hx rfl (hb hby at_355) rfl k) ?_
    obtain ⟨_, _, ⟨T85, L85, k85, n85⟩, -, X85, ⟨Lc85, hQ85, l85, y85, z85⟩, st85⟩ := Jvm.LawKit.callS X83 hx (y := (⟨"com/example/restrained_scaler/restrainedscaler/decision/StabilizationWindowDemandPinLaw", "fold", "(ZJZJ)J"⟩ : MethodName)) hown (mvT hZ (ow hw 237 rfl)) (mvT hZ (ow hw 238 rfl)) (mvT hZ (ow hw 239 rfl)) (mvT hZ (ow hw 240 rfl)) (by decide) (backOf (W := 2) (rm32_1 l Z a0 hw [] G vE3 (if (vT3 - vS) < vT2 then (1 : Int32) else (0 : Int32)) vE2 T83.heap n0 O83 ) hZ (ow hw 240 rfl) (ow hw 239 rfl) (by decide) (by decide)) (g := (mkF m 357 #[.val (.int p1), .val (.int p2), .val (.long q3), .second, .val (.long q4), .second, .val (.long q5), .second, .val (.long q6), .second, .val (.int (1 : Int32)), .val (.ref w_HIGHEST), .val (.long vS), .second, .val (.long vT0), .second, .val (.long vT1), .second, .val (.long vT2), .second, .val (.long vT3), .second, .val (.long vE0), .second, .val (.long vE1), .second, .val (.long vE2), .second, .val (.long vE3), .second, .val (.ref b51), .val (.ref b61), .val (.int (1 : Int32)), .val (.long (f32_1 vE1 (if (vT1 - vS) < vT0 then (1 : Int32) else (0 : Int32)) vE0)), .second, .val (.long (f32_1 (f32_1 vE2 (if (vT2 - vS) < vT1 then (1 : Int32) else (0 : Int32)) vE1) (if (vT2 - vS) < vT0 then (1 : Int32) else (0 : Int32)) vE0)), .second, .unset, .unset] [(.long vE2), (.int (if (vT3 - vS) < vT2 then (1 : Int32) else (0 : Int32))), (.long vE3), (.int (1 : Int32)), (.int (1 : Int32)), (.int (1 : Int32))])) rfl (by rw [hml]; rfl) (argsL := [(.int (1 : Int32)), (.long vE3), (.int (if (vT3 - vS) < vT2 then (1 : Int32) else (0 : Int32))), (.long vE2)]) (rest := [(.int (1 : Int32)), (.int (1 : Int32))]) (lenOf pd_18 rfl) rfl (by show 2 * 0 + _ ≤ _; exact Nat.le_of_eq rfl) (hb hby at_357) (fun _ _ => ⟨rfl, rfl, (by decide : 10 + 0 ≤ _), (by decide : 48 + 0 ≤ _)⟩)
    dsimp only [Pt.U, Pt.locs, Pt.cells, Pt.slots] at X85 l85 y85 z85 st85 hQ85
    subst l85 y85 z85
    obtain ⟨rfl, N85q, e85⟩ := hQ85
    have N85 := Fr.app N83 N85q
    refine OGot.go st85 ?_
    refine OGot.go (fun t k => XS.lload X85.here hx rfl (hb hby at_360) rfl k) ?_
    refine OGot.go (fun t k => XS.lload X85.here hx rfl (hb hby at_362) rfl k) ?_
    refine OGot.go (fun t k => XS.lload X85.here hx rfl (hb hby at_364) rfl k) ?_
    show OGot p.tables e below (T85.setTop (mkF m 366 #[.val (.int p1), .val (.int p2), .val (.long q3), .second, .val (.long q4), .second, .val (.long q5), .second, .val (.long q6), .second, .val (.int (1 : Int32)), .val (.ref w_HIGHEST), .val (.long vS), .second, .val (.long vT0), .second, .val (.long vT1), .second, .val (.long vT2), .second, .val (.long vT3), .second, .val (.long vE0), .second, .val (.long vE1), .second, .val (.long vE2), .second, .val (.long vE3), .second, .val (.ref b51), .val (.ref b61), .val (.int (1 : Int32)), .val (.long (f32_1 vE1 (if (vT1 - vS) < vT0 then (1 : Int32) else (0 : Int32)) vE0)), .second, .val (.long (f32_1 (f32_1 vE2 (if (vT2 - vS) < vT1 then (1 : Int32) else (0 : Int32)) vE1) (if (vT2 - vS) < vT0 then (1 : Int32) else (0 : Int32)) vE0)), .second, .unset, .unset] [(.long vS), (.long vT3), (.long vT1), (.long (f32_1 vE3 (if (vT3 - vS) < vT2 then (1 : Int32) else (0 : Int32)) vE2)), (.int (1 : Int32)), (.int (1 : Int32))])) _
    refine OGot.go (fun t k => XS.lsub X85.here hx rfl (hb hby at_366) rfl k) ?_
    refine OGot.go (fun t k => XS.lcmp X85.here hx rfl (hb hby at_367) rfl k) ?_
    show OGot p.tables e below (T85.setTop (mkF m 368 #[.val (.int p1), .val (.int p2), .val (.long q3), .second, .val (.long q4), .second, .val (.long q5), .second, .val (.long q6), .second, .val (.int (1 : Int32)), .val (.ref w_HIGHEST), .val (.long vS), .second, .val (.long vT0), .second, .val (.long vT1), .second, .val (.long vT2), .second, .val (.long vT3), .second, .val (.long vE0), .second, .val (.long vE1), .second, .val (.long vE2), .second, .val (.long vE3), .second, .val (.ref b51), .val (.ref b61), .val (.int (1 : Int32)), .val (.long (f32_1 vE1 (if (vT1 - vS) < vT0 then (1 : Int32) else (0 : Int32)) vE0)), .second, .val (.long (f32_1 (f32_1 vE2 (if (vT2 - vS) < vT1 then (1 : Int32) else (0 : Int32)) vE1) (if (vT2 - vS) < vT0 then (1 : Int32) else (0 : Int32)) vE0)), .second, .unset, .unset] [(.int (lcmpW vT1 (vT3 - vS))), (.long (f32_1 vE3 (if (vT3 - vS) < vT2 then (1 : Int32) else (0 : Int32)) vE2)), (.int (1 : Int32)), (.int (1 : Int32))])) _
    refine OGot.go (B := T85.setTop (mkF m 376 #[.val (.int p1), .val (.int p2), .val (.long q3), .second, .val (.long q4), .second, .val (.long q5), .second, .val (.long q6), .second, .val (.int (1 : Int32)), .val (.ref w_HIGHEST), .val (.long vS), .second, .val (.long vT0), .second, .val (.long vT1), .second, .val (.long vT2), .second, .val (.long vT3), .second, .val (.long vE0), .second, .val (.long vE1), .second, .val (.long vE2), .second, .val (.long vE3), .second, .val (.ref b51), .val (.ref b61), .val (.int (1 : Int32)), .val (.long (f32_1 vE1 (if (vT1 - vS) < vT0 then (1 : Int32) else (0 : Int32)) vE0)), .second, .val (.long (f32_1 (f32_1 vE2 (if (vT2 - vS) < vT1 then (1 : Int32) else (0 : Int32)) vE1) (if (vT2 - vS) < vT0 then (1 : Int32) else (0 : Int32)) vE0)), .second, .unset, .unset] [(.int (if (vT3 - vS) < vT1 then (1 : Int32) else (0 : Int32))), (.long (f32_1 vE3 (if (vT3 - vS) < vT2 then (1 : Int32) else (0 : Int32)) vE2)), (.int (1 : Int32)), (.int (1 : Int32))])) (fun t k => ?_) ?_
    · by_cases hj86 : (vT3 - vS) < vT1
      · refine XS.ifNo X85.here hx rfl (hb hby at_368) rfl ((if0 _ _).trans (tlt ((lw_gt vT1 (vT3 - vS)).mpr hj86)).2.2.2) ?_
        show Steps p.tables e below (T85.setTop (mkF m 371 #[.val (.int p1), .val (.int p2), .val (.long q3), .second, .val (.long q4), .second, .val (.long q5), .second, .val (.long q6), .second, .val (.int (1 : Int32)), .val (.ref w_HIGHEST), .val (.long vS), .second, .val (.long vT0), .second, .val (.long vT1), .second, .val (.long vT2), .second, .val (.long vT3), .second, .val (.long vE0), .second, .val (.long vE1), .second, .val (.long vE2), .second, .val (.long vE3), .second, .val (.ref b51), .val (.ref b61), .val (.int (1 : Int32)), .val (.long (f32_1 vE1 (if (vT1 - vS) < vT0 then (1 : Int32) else (0 : Int32)) vE0)), .second, .val (.long (f32_1 (f32_1 vE2 (if (vT2 - vS) < vT1 then (1 : Int32) else (0 : Int32)) vE1) (if (vT2 - vS) < vT0 then (1 : Int32) else (0 : Int32)) vE0)), .second, .unset, .unset] [(.long (f32_1 vE3 (if (vT3 - vS) < vT2 then (1 : Int32) else (0 : Int32)) vE2)), (.int (1 : Int32)), (.int (1 : Int32))])) _
        refine XS.iconst X85.here hx rfl (hb hby at_371) ?_
        show Steps p.tables e below (T85.setTop (mkF m 372 #[.val (.int p1), .val (.int p2), .val (.long q3), .second, .val (.long q4), .second, .val (.long q5), .second, .val (.long q6), .second, .val (.int (1 : Int32)), .val (.ref w_HIGHEST), .val (.long vS), .second, .val (.long vT0), .second, .val (.long vT1), .second, .val (.long vT2), .second, .val (.long vT3), .second, .val (.long vE0), .second, .val (.long vE1), .second, .val (.long vE2), .second, .val (.long vE3), .second, .val (.ref b51), .val (.ref b61), .val (.int (1 : Int32)), .val (.long (f32_1 vE1 (if (vT1 - vS) < vT0 then (1 : Int32) else (0 : Int32)) vE0)), .second, .val (.long (f32_1 (f32_1 vE2 (if (vT2 - vS) < vT1 then (1 : Int32) else (0 : Int32)) vE1) (if (vT2 - vS) < vT0 then (1 : Int32) else (0 : Int32)) vE0)), .second, .unset, .unset] [(.int (1 : Int32)), (.long (f32_1 vE3 (if (vT3 - vS) < vT2 then (1 : Int32) else (0 : Int32)) vE2)), (.int (1 : Int32)), (.int (1 : Int32))])) _
        refine XS.goto X85.here hx rfl (pc0 := 372) (pc' := 376) rfl (hb hby at_372) (by decide) (by decide) ?_
        show Steps p.tables e below (T85.setTop (mkF m 376 #[.val (.int p1), .val (.int p2), .val (.long q3), .second, .val (.long q4), .second, .val (.long q5), .second, .val (.long q6), .second, .val (.int (1 : Int32)), .val (.ref w_HIGHEST), .val (.long vS), .second, .val (.long vT0), .second, .val (.long vT1), .second, .val (.long vT2), .second, .val (.long vT3), .second, .val (.long vE0), .second, .val (.long vE1), .second, .val (.long vE2), .second, .val (.long vE3), .second, .val (.ref b51), .val (.ref b61), .val (.int (1 : Int32)), .val (.long (f32_1 vE1 (if (vT1 - vS) < vT0 then (1 : Int32) else (0 : Int32)) vE0)), .second, .val (.long (f32_1 (f32_1 vE2 (if (vT2 - vS) < vT1 then (1 : Int32) else (0 : Int32)) vE1) (if (vT2 - vS) < vT0 then (1 : Int32) else (0 : Int32)) vE0)), .second, .unset, .unset] [(.int (1 : Int32)), (.long (f32_1 vE3 (if (vT3 - vS) < vT2 then (1 : Int32) else (0 : Int32)) vE2)), (.int (1 : Int32)), (.int (1 : Int32))])) _
        simp only [if_pos hj86] at k
        exact k
      · refine XS.ifYes X85.here hx rfl (pc0 := 368) (pc' := 375) rfl (hb hby at_368) rfl ((if0 _ _).trans (flt (fun q => hj86 ((lw_gt vT1 (vT3 - vS)).mp q))).2.2.2) (by decide) (by decide) ?_
        show Steps p.tables e below (T85.setTop (mkF m 375 #[.val (.int p1), .val (.int p2), .val (.long q3), .second, .val (.long q4), .second, .val (.long q5), .second, .val (.long q6), .second, .val (.int (1 : Int32)), .val (.ref w_HIGHEST), .val (.long vS), .second, .val (.long vT0), .second, .val (.long vT1), .second, .val (.long vT2), .second, .val (.long vT3), .second, .val (.long vE0), .second, .val (.long vE1), .second, .val (.long vE2), .second, .val (.long vE3), .second, .val (.ref b51), .val (.ref b61), .val (.int (1 : Int32)), .val (.long (f32_1 vE1 (if (vT1 - vS) < vT0 then (1 : Int32) else (0 : Int32)) vE0)), .second, .val (.long (f32_1 (f32_1 vE2 (if (vT2 - vS) < vT1 then (1 : Int32) else (0 : Int32)) vE1) (if (vT2 - vS) < vT0 then (1 : Int32) else (0 : Int32)) vE0)), .second, .unset, .unset] [(.long (f32_1 vE3 (if (vT3 - vS) < vT2 then (1 : Int32) else (0 : Int32)) vE2)), (.int (1 : Int32)), (.int (1 : Int32))])) _
        refine XS.iconst X85.here hx rfl (hb hby at_375) ?_
        show Steps p.tables e below (T85.setTop (mkF m 376 #[.val (.int p1), .val (.int p2), .val (.long q3), .second, .val (.long q4), .second, .val (.long q5), .second, .val (.long q6), .second, .val (.int (1 : Int32)), .val (.ref w_HIGHEST), .val (.long vS), .second, .val (.long vT0), .second, .val (.long vT1), .second, .val (.long vT2), .second, .val (.long vT3), .second, .val (.long vE0), .second, .val (.long vE1), .second, .val (.long vE2), .second, .val (.long vE3), .second, .val (.ref b51), .val (.ref b61), .val (.int (1 : Int32)), .val (.long (f32_1 vE1 (if (vT1 - vS) < vT0 then (1 : Int32) else (0 : Int32)) vE0)), .second, .val (.long (f32_1 (f32_1 vE2 (if (vT2 - vS) < vT1 then (1 : Int32) else (0 : Int32)) vE1) (if (vT2 - vS) < vT0 then (1 : Int32) else (0 : Int32)) vE0)), .second, .unset, .unset] [(.int (0 : Int32)), (.long (f32_1 vE3 (if (vT3 - vS) < vT2 then (1 : Int32) else (0 : Int32)) vE2)), (.int (1 : Int32)), (.int (1 : Int32))])) _
        simp only [if_neg hj86] at k
        exact k
    refine OGot.go (fun t k => XS.lload X85.here hx rfl (hb hby at_376) rfl k) ?_
    obtain ⟨_, _, ⟨T87, L87, k87, n87⟩, -, X87, ⟨Lc87, hQ87, l87, y87, z87⟩, st87⟩ := Jvm.LawKit.callS X85 hx (y := (⟨"com/example/restrained_scaler/restrainedscaler/decision/StabilizationWindowDemandPinLaw", "fold", "(ZJZJ)J"⟩ : MethodName)) hown (mvT hZ (ow hw 237 rfl)) (mvT hZ (ow hw 238 rfl)) (mvT hZ (ow hw 239 rfl)) (mvT hZ (ow hw 240 rfl)) (by decide) (backOf (W := 1) (rm32_1 l Z a0 hw [] G (f32_1 vE3 (if (vT3 - vS) < vT2 then (1 : Int32) else (0 : Int32)) vE2) (if (vT3 - vS) < vT1 then (1 : Int32) else (0 : Int32)) vE1 T83.heap n0 O83 ) hZ (ow hw 240 rfl) (ow hw 239 rfl) (by decide) (by decide)) (g := (mkF m 378 #[.val (.int p1), .val (.int p2), .val (.long q3), .second, .val (.long q4), .second, .val (.long q5), .second, .val (.long q6), .second, .val (.int (1 : Int32)), .val (.ref w_HIGHEST), .val (.long vS), .second, .val (.long vT0), .second, .val (.long vT1), .second, .val (.long vT2), .second, .val (.long vT3), .second, .val (.long vE0), .second, .val (.long vE1), .second, .val (.long vE2), .second, .val (.long vE3), .second, .val (.ref b51), .val (.ref b61), .val (.int (1 : Int32)), .val (.long (f32_1 vE1 (if (vT1 - vS) < vT0 then (1 : Int32) else (0 : Int32)) vE0)), .second, .val (.long (f32_1 (f32_1 vE2 (if (vT2 - vS) < vT1 then (1 : Int32) else (0 : Int32)) vE1) (if (vT2 - vS) < vT0 then (1 : Int32) else (0 : Int32)) vE0)), .second, .unset, .unset] [(.long vE1), (.int (if (vT3 - vS) < vT1 then (1 : Int32) else (0 : Int32))), (.long (f32_1 vE3 (if (vT3 - vS) < vT2 then (1 : Int32) else (0 : Int32)) vE2)), (.int (1 : Int32)), (.int (1 : Int32))])) rfl (by rw [hml]; rfl) (argsL := [(.int (1 : Int32)), (.long (f32_1 vE3 (if (vT3 - vS) < vT2 then (1 : Int32) else (0 : Int32)) vE2)), (.int (if (vT3 - vS) < vT1 then (1 : Int32) else (0 : Int32))), (.long vE1)]) (rest := [(.int (1 : Int32))]) (lenOf pd_18 rfl) rfl (by show 2 * 0 + _ ≤ _; exact Nat.le_of_eq rfl) (hb hby at_378) (fun _ _ => ⟨rfl, e85, (by decide : 10 + 0 ≤ _), (by decide : 48 + 0 ≤ _)⟩)
    dsimp only [Pt.U, Pt.locs, Pt.cells, Pt.slots] at X87 l87 y87 z87 st87 hQ87
    subst l87 y87 z87
    obtain ⟨rfl, N87q, e87⟩ := hQ87
    have N87 := Fr.app N85 N87q
    refine OGot.go st87 ?_
    refine OGot.go (fun t k => XS.lload X87.here hx rfl (hb hby at_381) rfl k) ?_
    refine OGot.go (fun t k => XS.lload X87.here hx rfl (hb hby at_383) rfl k) ?_
    refine OGot.go (fun t k => XS.lload X87.here hx rfl (hb hby at_385) rfl k) ?_
    show OGot p.tables e below (T87.setTop (mkF m 387 #[.val (.int p1), .val (.int p2), .val (.long q3), .second, .val (.long q4), .second, .val (.long q5), .second, .val (.long q6), .second, .val (.int (1 : Int32)), .val (.ref w_HIGHEST), .val (.long vS), .second, .val (.long vT0), .second, .val (.long vT1), .second, .val (.long vT2), .second, .val (.long vT3), .second, .val (.long vE0), .second, .val (.long vE1), .second, .val (.long vE2), .second, .val (.long vE3), .second, .val (.ref b51), .val (.ref b61), .val (.int (1 : Int32)), .val (.long (f32_1 vE1 (if (vT1 - vS) < vT0 then (1 : Int32) else (0 : Int32)) vE0)), .second, .val (.long (f32_1 (f32_1 vE2 (if (vT2 - vS) < vT1 then (1 : Int32) else (0 : Int32)) vE1) (if (vT2 - vS) < vT0 then (1 : Int32) else (0 : Int32)) vE0)), .second, .unset, .unset] [(.long vS), (.long vT3), (.long vT0), (.long (f32_1 (f32_1 vE3 (if (vT3 - vS) < vT2 then (1 : Int32) else (0 : Int32)) vE2) (if (vT3 - vS) < vT1 then (1 : Int32) else (0 : Int32)) vE1)), (.int (1 : Int32))])) _
    refine OGot.go (fun t k => XS.lsub X87.here hx rfl (hb hby at_387) rfl k) ?_
    refine OGot.go (fun t k => XS.lcmp X87.here hx rfl (hb hby at_388) rfl k) ?_
    show OGot p.tables e below (T87.setTop (mkF m 389 #[.val (.int p1), .val (.int p2), .val (.long q3), .second, .val (.long q4), .second, .val (.long q5), .second, .val (.long q6), .second, .val (.int (1 : Int32)), .val (.ref w_HIGHEST), .val (.long vS), .second, .val (.long vT0), .second, .val (.long vT1), .second, .val (.long vT2), .second, .val (.long vT3), .second, .val (.long vE0), .second, .val (.long vE1), .second, .val (.long vE2), .second, .val (.long vE3), .second, .val (.ref b51), .val (.ref b61), .val (.int (1 : Int32)), .val (.long (f32_1 vE1 (if (vT1 - vS) < vT0 then (1 : Int32) else (0 : Int32)) vE0)), .second, .val (.long (f32_1 (f32_1 vE2 (if (vT2 - vS) < vT1 then (1 : Int32) else (0 : Int32)) vE1) (if (vT2 - vS) < vT0 then (1 : Int32) else (0 : Int32)) vE0)), .second, .unset, .unset] [(.int (lcmpW vT0 (vT3 - vS))), (.long (f32_1 (f32_1 vE3 (if (vT3 - vS) < vT2 then (1 : Int32) else (0 : Int32)) vE2) (if (vT3 - vS) < vT1 then (1 : Int32) else (0 : Int32)) vE1)), (.int (1 : Int32))])) _
    refine OGot.go (B := T87.setTop (mkF m 397 #[.val (.int p1), .val (.int p2), .val (.long q3), .second, .val (.long q4), .second, .val (.long q5), .second, .val (.long q6), .second, .val (.int (1 : Int32)), .val (.ref w_HIGHEST), .val (.long vS), .second, .val (.long vT0), .second, .val (.long vT1), .second, .val (.long vT2), .second, .val (.long vT3), .second, .val (.long vE0), .second, .val (.long vE1), .second, .val (.long vE2), .second, .val (.long vE3), .second, .val (.ref b51), .val (.ref b61), .val (.int (1 : Int32)), .val (.long (f32_1 vE1 (if (vT1 - vS) < vT0 then (1 : Int32) else (0 : Int32)) vE0)), .second, .val (.long (f32_1 (f32_1 vE2 (if (vT2 - vS) < vT1 then (1 : Int32) else (0 : Int32)) vE1) (if (vT2 - vS) < vT0 then (1 : Int32) else (0 : Int32)) vE0)), .second, .unset, .unset] [(.int (if (vT3 - vS) < vT0 then (1 : Int32) else (0 : Int32))), (.long (f32_1 (f32_1 vE3 (if (vT3 - vS) < vT2 then (1 : Int32) else (0 : Int32)) vE2) (if (vT3 - vS) < vT1 then (1 : Int32) else (0 : Int32)) vE1)), (.int (1 : Int32))])) (fun t k => ?_) ?_
    · by_cases hj88 : (vT3 - vS) < vT0
      · refine XS.ifNo X87.here hx rfl (hb hby at_389) rfl ((if0 _ _).trans (tlt ((lw_gt vT0 (vT3 - vS)).mpr hj88)).2.2.2) ?_
        show Steps p.tables e below (T87.setTop (mkF m 392 #[.val (.int p1), .val (.int p2), .val (.long q3), .second, .val (.long q4), .second, .val (.long q5), .second, .val (.long q6), .second, .val (.int (1 : Int32)), .val (.ref w_HIGHEST), .val (.long vS), .second, .val (.long vT0), .second, .val (.long vT1), .second, .val (.long vT2), .second, .val (.long vT3), .second, .val (.long vE0), .second, .val (.long vE1), .second, .val (.long vE2), .second, .val (.long vE3), .second, .val (.ref b51), .val (.ref b61), .val (.int (1 : Int32)), .val (.long (f32_1 vE1 (if (vT1 - vS) < vT0 then (1 : Int32) else (0 : Int32)) vE0)), .second, .val (.long (f32_1 (f32_1 vE2 (if (vT2 - vS) < vT1 then (1 : Int32) else (0 : Int32)) vE1) (if (vT2 - vS) < vT0 then (1 : Int32) else (0 : Int32)) vE0)), .second, .unset, .unset] [(.long (f32_1 (f32_1 vE3 (if (vT3 - vS) < vT2 then (1 : Int32) else (0 : Int32)) vE2) (if (vT3 - vS) < vT1 then (1 : Int32) else (0 : Int32)) vE1)), (.int (1 : Int32))])) _
        refine XS.iconst X87.here hx rfl (hb hby at_392) ?_
        show Steps p.tables e below (T87.setTop (mkF m 393 #[.val (.int p1), .val (.int p2), .val (.long q3), .second, .val (.long q4), .second, .val (.long q5), .second, .val (.long q6), .second, .val (.int (1 : Int32)), .val (.ref w_HIGHEST), .val (.long vS), .second, .val (.long vT0), .second, .val (.long vT1), .second, .val (.long vT2), .second, .val (.long vT3), .second, .val (.long vE0), .second, .val (.long vE1), .second, .val (.long vE2), .second, .val (.long vE3), .second, .val (.ref b51), .val (.ref b61), .val (.int (1 : Int32)), .val (.long (f32_1 vE1 (if (vT1 - vS) < vT0 then (1 : Int32) else (0 : Int32)) vE0)), .second, .val (.long (f32_1 (f32_1 vE2 (if (vT2 - vS) < vT1 then (1 : Int32) else (0 : Int32)) vE1) (if (vT2 - vS) < vT0 then (1 : Int32) else (0 : Int32)) vE0)), .second, .unset, .unset] [(.int (1 : Int32)), (.long (f32_1 (f32_1 vE3 (if (vT3 - vS) < vT2 then (1 : Int32) else (0 : Int32)) vE2) (if (vT3 - vS) < vT1 then (1 : Int32) else (0 : Int32)) vE1)), (.int (1 : Int32))])) _
        refine XS.goto X87.here hx rfl (pc0 := 393) (pc' := 397) rfl (hb hby at_393) (by decide) (by decide) ?_
        show Steps p.tables e below (T87.setTop (mkF m 397 #[.val (.int p1), .val (.int p2), .val (.long q3), .second, .val (.long q4), .second, .val (.long q5), .second, .val (.long q6), .second, .val (.int (1 : Int32)), .val (.ref w_HIGHEST), .val (.long vS), .second, .val (.long vT0), .second, .val (.long vT1), .second, .val (.long vT2), .second, .val (.long vT3), .second, .val (.long vE0), .second, .val (.long vE1), .second, .val (.long vE2), .second, .val (.long vE3), .second, .val (.ref b51), .val (.ref b61), .val (.int (1 : Int32)), .val (.long (f32_1 vE1 (if (vT1 - vS) < vT0 then (1 : Int32) else (0 : Int32)) vE0)), .second, .val (.long (f32_1 (f32_1 vE2 (if (vT2 - vS) < vT1 then (1 : Int32) else (0 : Int32)) vE1) (if (vT2 - vS) < vT0 then (1 : Int32) else (0 : Int32)) vE0)), .second, .unset, .unset] [(.int (1 : Int32)), (.long (f32_1 (f32_1 vE3 (if (vT3 - vS) < vT2 then (1 : Int32) else (0 : Int32)) vE2) (if (vT3 - vS) < vT1 then (1 : Int32) else (0 : Int32)) vE1)), (.int (1 : Int32))])) _
        simp only [if_pos hj88] at k
        exact k
      · refine XS.ifYes X87.here hx rfl (pc0 := 389) (pc' := 396) rfl (hb hby at_389) rfl ((if0 _ _).trans (flt (fun q => hj88 ((lw_gt vT0 (vT3 - vS)).mp q))).2.2.2) (by decide) (by decide) ?_
        show Steps p.tables e below (T87.setTop (mkF m 396 #[.val (.int p1), .val (.int p2), .val (.long q3), .second, .val (.long q4), .second, .val (.long q5), .second, .val (.long q6), .second, .val (.int (1 : Int32)), .val (.ref w_HIGHEST), .val (.long vS), .second, .val (.long vT0), .second, .val (.long vT1), .second, .val (.long vT2), .second, .val (.long vT3), .second, .val (.long vE0), .second, .val (.long vE1), .second, .val (.long vE2), .second, .val (.long vE3), .second, .val (.ref b51), .val (.ref b61), .val (.int (1 : Int32)), .val (.long (f32_1 vE1 (if (vT1 - vS) < vT0 then (1 : Int32) else (0 : Int32)) vE0)), .second, .val (.long (f32_1 (f32_1 vE2 (if (vT2 - vS) < vT1 then (1 : Int32) else (0 : Int32)) vE1) (if (vT2 - vS) < vT0 then (1 : Int32) else (0 : Int32)) vE0)), .second, .unset, .unset] [(.long (f32_1 (f32_1 vE3 (if (vT3 - vS) < vT2 then (1 : Int32) else (0 : Int32)) vE2) (if (vT3 - vS) < vT1 then (1 : Int32) else (0 : Int32)) vE1)), (.int (1 : Int32))])) _
        refine XS.iconst X87.here hx rfl (hb hby at_396) ?_
        show Steps p.tables e below (T87.setTop (mkF m 397 #[.val (.int p1), .val (.int p2), .val (.long q3), .second, .val (.long q4), .second, .val (.long q5), .second, .val (.long q6), .second, .val (.int (1 : Int32)), .val (.ref w_HIGHEST), .val (.long vS), .second, .val (.long vT0), .second, .val (.long vT1), .second, .val (.long vT2), .second, .val (.long vT3), .second, .val (.long vE0), .second, .val (.long vE1), .second, .val (.long vE2), .second, .val (.long vE3), .second, .val (.ref b51), .val (.ref b61), .val (.int (1 : Int32)), .val (.long (f32_1 vE1 (if (vT1 - vS) < vT0 then (1 : Int32) else (0 : Int32)) vE0)), .second, .val (.long (f32_1 (f32_1 vE2 (if (vT2 - vS) < vT1 then (1 : Int32) else (0 : Int32)) vE1) (if (vT2 - vS) < vT0 then (1 : Int32) else (0 : Int32)) vE0)), .second, .unset, .unset] [(.int (0 : Int32)), (.long (f32_1 (f32_1 vE3 (if (vT3 - vS) < vT2 then (1 : Int32) else (0 : Int32)) vE2) (if (vT3 - vS) < vT1 then (1 : Int32) else (0 : Int32)) vE1)), (.int (1 : Int32))])) _
        simp only [if_neg hj88] at k
        exact k
    refine OGot.go (fun t k => XS.lload X87.here hx rfl (hb hby at_397) rfl k) ?_
    obtain ⟨_, _, ⟨T89, L89, k89, n89⟩, -, X89, ⟨Lc89, hQ89, l89, y89, z89⟩, st89⟩ := Jvm.LawKit.callS X87 hx (y := (⟨"com/example/restrained_scaler/restrainedscaler/decision/StabilizationWindowDemandPinLaw", "fold", "(ZJZJ)J"⟩ : MethodName)) hown (mvT hZ (ow hw 237 rfl)) (mvT hZ (ow hw 238 rfl)) (mvT hZ (ow hw 239 rfl)) (mvT hZ (ow hw 240 rfl)) (by decide) (backOf (W := 0) (rm32_1 l Z a0 hw [] G (f32_1 (f32_1 vE3 (if (vT3 - vS) < vT2 then (1 : Int32) else (0 : Int32)) vE2) (if (vT3 - vS) < vT1 then (1 : Int32) else (0 : Int32)) vE1) (if (vT3 - vS) < vT0 then (1 : Int32) else (0 : Int32)) vE0 T83.heap n0 O83 ) hZ (ow hw 240 rfl) (ow hw 239 rfl) (by decide) (by decide)) (g := (mkF m 399 #[.val (.int p1), .val (.int p2), .val (.long q3), .second, .val (.long q4), .second, .val (.long q5), .second, .val (.long q6), .second, .val (.int (1 : Int32)), .val (.ref w_HIGHEST), .val (.long vS), .second, .val (.long vT0), .second, .val (.long vT1), .second, .val (.long vT2), .second, .val (.long vT3), .second, .val (.long vE0), .second, .val (.long vE1), .second, .val (.long vE2), .second, .val (.long vE3), .second, .val (.ref b51), .val (.ref b61), .val (.int (1 : Int32)), .val (.long (f32_1 vE1 (if (vT1 - vS) < vT0 then (1 : Int32) else (0 : Int32)) vE0)), .second, .val (.long (f32_1 (f32_1 vE2 (if (vT2 - vS) < vT1 then (1 : Int32) else (0 : Int32)) vE1) (if (vT2 - vS) < vT0 then (1 : Int32) else (0 : Int32)) vE0)), .second, .unset, .unset] [(.long vE0), (.int (if (vT3 - vS) < vT0 then (1 : Int32) else (0 : Int32))), (.long (f32_1 (f32_1 vE3 (if (vT3 - vS) < vT2 then (1 : Int32) else (0 : Int32)) vE2) (if (vT3 - vS) < vT1 then (1 : Int32) else (0 : Int32)) vE1)), (.int (1 : Int32))])) rfl (by rw [hml]; rfl) (argsL := [(.int (1 : Int32)), (.long (f32_1 (f32_1 vE3 (if (vT3 - vS) < vT2 then (1 : Int32) else (0 : Int32)) vE2) (if (vT3 - vS) < vT1 then (1 : Int32) else (0 : Int32)) vE1)), (.int (if (vT3 - vS) < vT0 then (1 : Int32) else (0 : Int32))), (.long vE0)]) (rest := []) (lenOf pd_18 rfl) rfl (by show 2 * 0 + _ ≤ _; exact Nat.le_of_eq rfl) (hb hby at_399) (fun _ _ => ⟨rfl, e87, (by decide : 10 + 0 ≤ _), (by decide : 48 + 0 ≤ _)⟩)
    dsimp only [Pt.U, Pt.locs, Pt.cells, Pt.slots] at X89 l89 y89 z89 st89 hQ89
    subst l89 y89 z89
    obtain ⟨rfl, N89q, e89⟩ := hQ89
    have N89 := Fr.app N87 N89q
    refine OGot.go st89 ?_
    refine OGot.go (fun t k => XS.lstore X89.here hx rfl (hb hby at_402) rfl (l' := #[.val (.int p1), .val (.int p2), .val (.long q3), .second, .val (.long q4), .second, .val (.long q5), .second, .val (.long q6), .second, .val (.int (1 : Int32)), .val (.ref w_HIGHEST), .val (.long vS), .second, .val (.long vT0), .second, .val (.long vT1), .second, .val (.long vT2), .second, .val (.long vT3), .second, .val (.long vE0), .second, .val (.long vE1), .second, .val (.long vE2), .second, .val (.long vE3), .second, .val (.ref b51), .val (.ref b61), .val (.int (1 : Int32)), .val (.long (f32_1 vE1 (if (vT1 - vS) < vT0 then (1 : Int32) else (0 : Int32)) vE0)), .second, .val (.long (f32_1 (f32_1 vE2 (if (vT2 - vS) < vT1 then (1 : Int32) else (0 : Int32)) vE1) (if (vT2 - vS) < vT0 then (1 : Int32) else (0 : Int32)) vE0)), .second, .val (.long (f32_1 (f32_1 (f32_1 vE3 (if (vT3 - vS) < vT2 then (1 : Int32) else (0 : Int32)) vE2) (if (vT3 - vS) < vT1 then (1 : Int32) else (0 : Int32)) vE1) (if (vT3 - vS) < vT0 then (1 : Int32) else (0 : Int32)) vE0)), .second]) rfl k) ?_
    refine OGot.go (fun t k => XS.iload X89.here hx rfl (hb hby at_404) rfl k) ?_
    refine OGot.go (fun t k => XS.aload X89.here hx rfl (hb hby at_406) rfl rfl k) ?_
    show OGot p.tables e below (T89.setTop (mkF m 408 #[.val (.int p1), .val (.int p2), .val (.long q3), .second, .val (.long q4), .second, .val (.long q5), .second, .val (.long q6), .second, .val (.int (1 : Int32)), .val (.ref w_HIGHEST), .val (.long vS), .second, .val (.long vT0), .second, .val (.long vT1), .second, .val (.long vT2), .second, .val (.long vT3), .second, .val (.long vE0), .second, .val (.long vE1), .second, .val (.long vE2), .second, .val (.long vE3), .second, .val (.ref b51), .val (.ref b61), .val (.int (1 : Int32)), .val (.long (f32_1 vE1 (if (vT1 - vS) < vT0 then (1 : Int32) else (0 : Int32)) vE0)), .second, .val (.long (f32_1 (f32_1 vE2 (if (vT2 - vS) < vT1 then (1 : Int32) else (0 : Int32)) vE1) (if (vT2 - vS) < vT0 then (1 : Int32) else (0 : Int32)) vE0)), .second, .val (.long (f32_1 (f32_1 (f32_1 vE3 (if (vT3 - vS) < vT2 then (1 : Int32) else (0 : Int32)) vE2) (if (vT3 - vS) < vT1 then (1 : Int32) else (0 : Int32)) vE1) (if (vT3 - vS) < vT0 then (1 : Int32) else (0 : Int32)) vE0)), .second] [(.ref b61), (.int (1 : Int32))])) _
    obtain ⟨cq90, kq90, q90a, q90b, q90c⟩ := isOf hZ e89 HQ3.1
    obtain ⟨_, _, ⟨T90, L90, k90, n90⟩, -, X90, ⟨Lc90, hQ90, l90, y90, z90⟩, st90⟩ := X89.virtualBack hx (y := (⟨"com/example/restrained_scaler/restrainedscaler/decision/StabilizationWindow", "demand", "()J"⟩ : MethodName)) (z := (⟨"com/example/restrained_scaler/restrainedscaler/decision/StabilizationWindow", "demand", "()J"⟩ : MethodName)) hown (mvT hZ (ow hw 184 rfl)) (mvT hZ (ow hw 185 rfl)) (notFace_of_selects (args := #[]) (mvT hZ (ow hw 187 rfl))) (mvT hZ (ow hw 187 rfl)) (mvT hZ (ow hw 186 rfl)) (by decide) (backOf (W := 1) (demAll l Z a0 hw [] G b61 b6_64 b3_7_64 w_HIGHEST vS k3_7_64 hd3 M3 T83.heap n0 O83 HQ3 HD3 (Nat.le_trans le3 (by decide)) ne3_) hZ (ow hw 188 rfl) (ow hw 83 rfl) (by decide) (by decide)) q90a q90c (g := (mkF m 408 #[.val (.int p1), .val (.int p2), .val (.long q3), .second, .val (.long q4), .second, .val (.long q5), .second, .val (.long q6), .second, .val (.int (1 : Int32)), .val (.ref w_HIGHEST), .val (.long vS), .second, .val (.long vT0), .second, .val (.long vT1), .second, .val (.long vT2), .second, .val (.long vT3), .second, .val (.long vE0), .second, .val (.long vE1), .second, .val (.long vE2), .second, .val (.long vE3), .second, .val (.ref b51), .val (.ref b61), .val (.int (1 : Int32)), .val (.long (f32_1 vE1 (if (vT1 - vS) < vT0 then (1 : Int32) else (0 : Int32)) vE0)), .second, .val (.long (f32_1 (f32_1 vE2 (if (vT2 - vS) < vT1 then (1 : Int32) else (0 : Int32)) vE1) (if (vT2 - vS) < vT0 then (1 : Int32) else (0 : Int32)) vE0)), .second, .val (.long (f32_1 (f32_1 (f32_1 vE3 (if (vT3 - vS) < vT2 then (1 : Int32) else (0 : Int32)) vE2) (if (vT3 - vS) < vT1 then (1 : Int32) else (0 : Int32)) vE1) (if (vT3 - vS) < vT0 then (1 : Int32) else (0 : Int32)) vE0)), .second] [(.ref b61), (.int (1 : Int32))])) rfl (by rw [hml]; rfl) (Steps.refl _) (argsL := []) (rest := [(.int (1 : Int32))]) (lenOf pd_5 rfl) rfl (by show 2 * 0 + _ ≤ _; exact Nat.le_of_eq rfl) (hb hby at_408) (fun _ _ => ⟨rfl, e89, (by decide : 10 + 0 ≤ _), (by decide : 48 + 0 ≤ _)⟩)
    dsimp only [Pt.U, Pt.locs, Pt.cells, Pt.slots] at X90 l90 y90 z90 st90 hQ90
    subst l90 y90 z90
    obtain ⟨rfl, N90q, e90⟩ := hQ90
    have N90 := Fr.app N89 N90q
    refine OGot.on st90 ?_
    refine OGot.go (fun t k => XS.lload X90.here hx rfl (hb hby at_411) rfl k) ?_
    refine OGot.go (fun t k => XS.lcmp X90.here hx rfl (hb hby at_413) rfl k) ?_
    refine OGot.go (fun t k => XS.ifNo X90.here hx rfl (hb hby at_414) rfl ((if0 _ _).trans (teq ((lw_eq (dem M3) (f32_1 (f32_1 (f32_1 vE3 (if (vT3 - vS) < vT2 then (1 : Int32) else (0 : Int32)) vE2) (if (vT3 - vS) < vT1 then (1 : Int32) else (0 : Int32)) vE1) (if (vT3 - vS) < vT0 then (1 : Int32) else (0 : Int32)) vE0)).mpr (own_r3H (own_times h_vS h_vT0 h_vT1 h_vT2 h_vT3) hM1 hM2 hM3))).2) k) ?_
    refine OGot.go (fun t k => XS.iconst X90.here hx rfl (hb hby at_417) k) ?_
    refine OGot.go (fun t k => XS.goto X90.here hx rfl (pc0 := 418) (pc' := 422) rfl (hb hby at_418) (by decide) (by decide) k) ?_
    show OGot p.tables e below (T90.setTop (mkF m 422 #[.val (.int p1), .val (.int p2), .val (.long q3), .second, .val (.long q4), .second, .val (.long q5), .second, .val (.long q6), .second, .val (.int (1 : Int32)), .val (.ref w_HIGHEST), .val (.long vS), .second, .val (.long vT0), .second, .val (.long vT1), .second, .val (.long vT2), .second, .val (.long vT3), .second, .val (.long vE0), .second, .val (.long vE1), .second, .val (.long vE2), .second, .val (.long vE3), .second, .val (.ref b51), .val (.ref b61), .val (.int (1 : Int32)), .val (.long (f32_1 vE1 (if (vT1 - vS) < vT0 then (1 : Int32) else (0 : Int32)) vE0)), .second, .val (.long (f32_1 (f32_1 vE2 (if (vT2 - vS) < vT1 then (1 : Int32) else (0 : Int32)) vE1) (if (vT2 - vS) < vT0 then (1 : Int32) else (0 : Int32)) vE0)), .second, .val (.long (f32_1 (f32_1 (f32_1 vE3 (if (vT3 - vS) < vT2 then (1 : Int32) else (0 : Int32)) vE2) (if (vT3 - vS) < vT1 then (1 : Int32) else (0 : Int32)) vE1) (if (vT3 - vS) < vT0 then (1 : Int32) else (0 : Int32)) vE0)), .second] [(.int (1 : Int32)), (.int (1 : Int32))])) _
    refine OGot.go (fun t k => XS.iand X90.here hx rfl (hb hby at_422) rfl k) ?_
    show OGot p.tables e below (T90.setTop (mkF m 423 #[.val (.int p1), .val (.int p2), .val (.long q3), .second, .val (.long q4), .second, .val (.long q5), .second, .val (.long q6), .second, .val (.int (1 : Int32)), .val (.ref w_HIGHEST), .val (.long vS), .second, .val (.long vT0), .second, .val (.long vT1), .second, .val (.long vT2), .second, .val (.long vT3), .second, .val (.long vE0), .second, .val (.long vE1), .second, .val (.long vE2), .second, .val (.long vE3), .second, .val (.ref b51), .val (.ref b61), .val (.int (1 : Int32)), .val (.long (f32_1 vE1 (if (vT1 - vS) < vT0 then (1 : Int32) else (0 : Int32)) vE0)), .second, .val (.long (f32_1 (f32_1 vE2 (if (vT2 - vS) < vT1 then (1 : Int32) else (0 : Int32)) vE1) (if (vT2 - vS) < vT0 then (1 : Int32) else (0 : Int32)) vE0)), .second, .val (.long (f32_1 (f32_1 (f32_1 vE3 (if (vT3 - vS) < vT2 then (1 : Int32) else (0 : Int32)) vE2) (if (vT3 - vS) < vT1 then (1 : Int32) else (0 : Int32)) vE1) (if (vT3 - vS) < vT0 then (1 : Int32) else (0 : Int32)) vE0)), .second] [(.int ((1 : Int32) &&& (1 : Int32)))])) _
    rw [show ((1 : Int32) &&& (1 : Int32)) = (1 : Int32) from by decide]
    refine OGot.go (fun t k => XS.istore X90.here hx rfl (hb hby at_423) rfl (l' := #[.val (.int p1), .val (.int p2), .val (.long q3), .second, .val (.long q4), .second, .val (.long q5), .second, .val (.long q6), .second, .val (.int (1 : Int32)), .val (.ref w_HIGHEST), .val (.long vS), .second, .val (.long vT0), .second, .val (.long vT1), .second, .val (.long vT2), .second, .val (.long vT3), .second, .val (.long vE0), .second, .val (.long vE1), .second, .val (.long vE2), .second, .val (.long vE3), .second, .val (.ref b51), .val (.ref b61), .val (.int (1 : Int32)), .val (.long (f32_1 vE1 (if (vT1 - vS) < vT0 then (1 : Int32) else (0 : Int32)) vE0)), .second, .val (.long (f32_1 (f32_1 vE2 (if (vT2 - vS) < vT1 then (1 : Int32) else (0 : Int32)) vE1) (if (vT2 - vS) < vT0 then (1 : Int32) else (0 : Int32)) vE0)), .second, .val (.long (f32_1 (f32_1 (f32_1 vE3 (if (vT3 - vS) < vT2 then (1 : Int32) else (0 : Int32)) vE2) (if (vT3 - vS) < vT1 then (1 : Int32) else (0 : Int32)) vE1) (if (vT3 - vS) < vT0 then (1 : Int32) else (0 : Int32)) vE0)), .second]) rfl k) ?_
    refine OGot.go (fun t k => XS.iload X90.here hx rfl (hb hby at_425) rfl k) ?_
    show OGot p.tables e below (T90.setTop (mkF m 427 #[.val (.int p1), .val (.int p2), .val (.long q3), .second, .val (.long q4), .second, .val (.long q5), .second, .val (.long q6), .second, .val (.int (1 : Int32)), .val (.ref w_HIGHEST), .val (.long vS), .second, .val (.long vT0), .second, .val (.long vT1), .second, .val (.long vT2), .second, .val (.long vT3), .second, .val (.long vE0), .second, .val (.long vE1), .second, .val (.long vE2), .second, .val (.long vE3), .second, .val (.ref b51), .val (.ref b61), .val (.int (1 : Int32)), .val (.long (f32_1 vE1 (if (vT1 - vS) < vT0 then (1 : Int32) else (0 : Int32)) vE0)), .second, .val (.long (f32_1 (f32_1 vE2 (if (vT2 - vS) < vT1 then (1 : Int32) else (0 : Int32)) vE1) (if (vT2 - vS) < vT0 then (1 : Int32) else (0 : Int32)) vE0)), .second, .val (.long (f32_1 (f32_1 (f32_1 vE3 (if (vT3 - vS) < vT2 then (1 : Int32) else (0 : Int32)) vE2) (if (vT3 - vS) < vT1 then (1 : Int32) else (0 : Int32)) vE1) (if (vT3 - vS) < vT0 then (1 : Int32) else (0 : Int32)) vE0)), .second] [(.int (1 : Int32))])) _
    obtain ⟨fs, hr, hrun, hended, hW, hsame⟩ := X90.leave (v := some (.int (1 : Int32))) (fun h => by rw [Bd.returns] at h; cases h)
    refine ⟨_, _, retN X90 hx (t := .boolean) Bd.returns (by simp) (hb hby at_427) hr, hrun, hended, _, _, rfl, ?_, ⟨_, rfl⟩, hW, hsame.mono (by decide) (by decide)⟩
    exact (⟨rfl, N90⟩ : Q0 Z w_LOWEST w_HIGHEST w_EMPTY_ELEMENTDATA w_DEFAULTCAPACITY_EMPTY_ELEMENTDATA k_w_EMPTY_ELEMENTDATA k_w_DEFAULTCAPACITY_EMPTY_ELEMENTDATA p1 p2 q3 q4 q5 q6 h0 n0 _ T90.heap _)
set_option maxRecDepth 65536 in
set_option maxHeartbeats 40000000 in
theorem comes_1 {Post : Tables → Env → Array Value → State → Outcome → State → Prop} (hpost : ∀ tb e args s v u, (limb_1_1.after args s (.returned v) u = true ∧ limb_1_2.after args s (.returned v) u = true ∧ True) → FrameEnd s (.returned v) u (Jvm.fieldLocs frame_1_writes args s ++ Jvm.arrayLocs frame_1_arrays args s ++ Jvm.staticLocs frame_1_statics s) 32 192 → Post tb e args s (.returned v) u) :
    ArmFor flags0 classFile x code maxLocals ret World_1 tables_1 room_1 Calls_1 rest_1 Pre_1 Post := by
  intro l hfl _ _ p e ha hc hk s m args below hf hA hF happ hP
  obtain ⟨hcalls, hrest, hpre⟩ := hP
  obtain ⟨-, -, -, hnamed, -, -, -, hat⟩ := (Spec.applies_iff hf).mp happ
  obtain ⟨hg, hn⟩ := and_e (Cond.before_iff.mp (show (Jvm.Cond.and given_1 narrow_1).before args s = true from hpre))
  obtain ⟨g0, g0r⟩ := and_e hg
  obtain ⟨g1, g1r⟩ := and_e g0r
  obtain ⟨g2, g2r⟩ := and_e g1r
  obtain ⟨g3, g3r⟩ := and_e g2r
  obtain ⟨g4, g4r⟩ := and_e g3r
  obtain ⟨g5, g5r⟩ := and_e g4r
  obtain ⟨w0, w1, w2, w3, w4, w5, rfl⟩ : ∃ w0 w1 w2 w3 w4 w5 : Value, args = #[w0, w1, w2, w3, w4, w5] := by
    have hs : args.size = 6 := by simpa [Cond.value, given_1] using g0
    obtain ⟨L⟩ := args
    match L, hs with
    | [w0, w1, w2, w3, w4, w5], _ => exact ⟨w0, w1, w2, w3, w4, w5, rfl⟩
  have hw := fun d (hd : d ∈ tables_1) => atoms_spec (ws := Jvm.Cond.code x code maxLocals ret :: tables_1) hat d (List.mem_cons_of_mem _ hd)
  obtain ⟨i0, ei0⟩ := is_v g1
  obtain rfl : w0 = (.int i0) := Option.some.inj ei0
  obtain ⟨i1, ei1⟩ := is_v g2
  obtain rfl : w1 = (.int i1) := Option.some.inj ei1
  obtain ⟨i2, ei2⟩ := isL_v g3
  obtain rfl : w2 = (.long i2) := Option.some.inj ei2
  obtain ⟨i3, ei3⟩ := isL_v g4
  obtain rfl : w3 = (.long i3) := Option.some.inj ei3
  obtain ⟨i4, ei4⟩ := isL_v g5
  obtain rfl : w4 = (.long i4) := Option.some.inj ei4
  obtain ⟨i5, ei5⟩ := isL_v g5r
  obtain rfl : w5 = (.long i5) := Option.some.inj ei5
  obtain ⟨m0, m0r⟩ := and_e hn
  obtain ⟨m1, m1r⟩ := and_e m0r
  obtain ⟨m2, m2r⟩ := and_e m1r
  obtain ⟨hsets, hown0⟩ := atoms_of _ (rest_1_c_eq ▸ (show rest_1_c.before _ s = true from hrest))
  have hfit : Fit s := fun {y c} hc i hi => by
    obtain ⟨ha, rfl⟩ := Array.getElem?_eq_some_iff.mp hc
    have q := List.all_eq_true.mp ((Array.all_eq_true_iff_forall_mem.mp hF) _ (Array.getElem_mem ha)) i (List.mem_range.mpr hi)
    simpa [Array.getElem?_eq_getElem hi] using q
  obtain ⟨w_LOWEST, ev_w_LOWEST⟩ := exa_v m0
  obtain ⟨w_HIGHEST, ev_w_HIGHEST⟩ := exa_v m1
  obtain ⟨w_EMPTY_ELEMENTDATA, ev_w_EMPTY_ELEMENTDATA⟩ := exa_v (Cond.before_iff.mp (hsets _ (List.mem_of_getElem? (i := 4) rfl)))
  obtain ⟨w_DEFAULTCAPACITY_EMPTY_ELEMENTDATA, ev_w_DEFAULTCAPACITY_EMPTY_ELEMENTDATA⟩ := exa_v (Cond.before_iff.mp (hsets _ (List.mem_of_getElem? (i := 7) rfl)))
  obtain ⟨cl_w_EMPTY_ELEMENTDATA, A_w_EMPTY_ELEMENTDATA⟩ := Arr.start ev_w_EMPTY_ELEMENTDATA (Cond.before_iff.mp (hsets _ (List.mem_of_getElem? (i := 3) rfl)))
  obtain ⟨sz_w_EMPTY_ELEMENTDATA, ln_w_EMPTY_ELEMENTDATA⟩ := olen (oeq_int (Cond.before_iff.mp (hsets _ (List.mem_of_getElem? (i := 5) rfl)))) ev_w_EMPTY_ELEMENTDATA (A_w_EMPTY_ELEMENTDATA.fin (Vm.Alike.refl _))
  obtain ⟨k_w_EMPTY_ELEMENTDATA, hk_w_EMPTY_ELEMENTDATA⟩ : ∃ z, z = cl_w_EMPTY_ELEMENTDATA.cls := ⟨_, rfl⟩
  obtain ⟨cl_w_DEFAULTCAPACITY_EMPTY_ELEMENTDATA, A_w_DEFAULTCAPACITY_EMPTY_ELEMENTDATA⟩ := Arr.start ev_w_DEFAULTCAPACITY_EMPTY_ELEMENTDATA (Cond.before_iff.mp (hsets _ (List.mem_of_getElem? (i := 6) rfl)))
  obtain ⟨sz_w_DEFAULTCAPACITY_EMPTY_ELEMENTDATA, ln_w_DEFAULTCAPACITY_EMPTY_ELEMENTDATA⟩ := olen (oeq_int (Cond.before_iff.mp (hsets _ (List.mem_of_getElem? (i := 8) rfl)))) ev_w_DEFAULTCAPACITY_EMPTY_ELEMENTDATA (A_w_DEFAULTCAPACITY_EMPTY_ELEMENTDATA.fin (Vm.Alike.refl _))
  obtain ⟨k_w_DEFAULTCAPACITY_EMPTY_ELEMENTDATA, hk_w_DEFAULTCAPACITY_EMPTY_ELEMENTDATA⟩ : ∃ z, z = cl_w_DEFAULTCAPACITY_EMPTY_ELEMENTDATA.cls := ⟨_, rfl⟩
  have G : Glob s w_LOWEST w_HIGHEST w_EMPTY_ELEMENTDATA w_DEFAULTCAPACITY_EMPTY_ELEMENTDATA k_w_EMPTY_ELEMENTDATA k_w_DEFAULTCAPACITY_EMPTY_ELEMENTDATA := ⟨(Sta.start ev_w_LOWEST (Or.inr ⟨(ow hw 1 rfl), (ow hw 2 rfl)⟩)), (Exa.start ev_w_LOWEST m0), (Sta.start ev_w_HIGHEST (Or.inr ⟨(ow hw 1 rfl), (ow hw 242 rfl)⟩)), (Exa.start ev_w_HIGHEST m1), (Sta.start ev_w_EMPTY_ELEMENTDATA (Or.inl (hsets _ (List.mem_of_getElem? (i := 1) rfl)))), (Exa.start ev_w_EMPTY_ELEMENTDATA (Cond.before_iff.mp (hsets _ (List.mem_of_getElem? (i := 4) rfl)))), (Sta.start ev_w_DEFAULTCAPACITY_EMPTY_ELEMENTDATA (Or.inr ⟨(ow hw 6 rfl), (hsets _ (List.mem_of_getElem? (i := 2) rfl))⟩)), (Exa.start ev_w_DEFAULTCAPACITY_EMPTY_ELEMENTDATA (Cond.before_iff.mp (hsets _ (List.mem_of_getElem? (i := 7) rfl)))), (Fld.start ((fld_at ev_w_LOWEST).symm.trans (oeq_int m2))), (Fld.start ((fld_at ev_w_HIGHEST).symm.trans (oeq_int m2r))), (hk_w_EMPTY_ELEMENTDATA ▸ Arv.start hfit A_w_EMPTY_ELEMENTDATA sz_w_EMPTY_ELEMENTDATA ln_w_EMPTY_ELEMENTDATA (by decide) rfl trivial), (hk_w_DEFAULTCAPACITY_EMPTY_ELEMENTDATA ▸ Arv.start hfit A_w_DEFAULTCAPACITY_EMPTY_ELEMENTDATA sz_w_DEFAULTCAPACITY_EMPTY_ELEMENTDATA ln_w_DEFAULTCAPACITY_EMPTY_ELEMENTDATA (by decide) rfl trivial)⟩
  obtain ⟨n, o, h1, h2, h3, _, L, rfl, ⟨rfl, N⟩, hq⟩ := rm0 l s _ hw tables_1 G i0 i1 i2 i3 i4 i5 s.heap s.heap.size (Old.start s) p e ha hc hk s m _ below hf ((Spec.applies_iff_loose hf).mp happ).1 ⟨rfl, State.Warmed39.refl s, rfl⟩ trivial
  refine ⟨n, _, h1, h2, h3, hpost _ _ _ _ _ _ ⟨Cond.after_iff.mpr rfl, Cond.after_iff.mpr (eq_i res_at (Term.int_eval (1)) rfl), trivial⟩ ⟨hq.1, hq.2.1, (hq.2.2.sift fun y hy => Or.inr (N y hy)).mono (by decide) (by decide)⟩⟩
theorem main_1_1 : Claimed_1_1 := comes_1 fun _ _ _ _ _ _ h hF => ⟨h.1, hF⟩
theorem main_1_2 : Claimed_1_2 := comes_1 fun _ _ _ _ _ _ h hF => ⟨h.2.1, hF⟩
end Jvm.Pilot.@@N@@
namespace Jvm.Pilot.@@N@@
open Jvm Jvm.ClassFile Sem Op Lib Jvm.Free Jvm.Stand Jvm.Pilot.@@N@@.Jvm.D
/-! MADE BY PROGRAM (witnessworld.py) out of the Statement's table words and the real class files: 30 classes; the members and pool entries that the words name. The judged class is class 1, her method 1. -/
namespace start1
open Jvm.ClassFile
def u (s : String) : CpInfo := .utf8 (stringToUtf16 s)
/-- a pool by its gaps: so many unusable entries, then the entry; so many at the end -/
def gap : Nat → List CpInfo → List CpInfo
  | 0, r => r
  | n + 1, r => .unusable :: gap n r
def poolList (es : List (Nat × CpInfo)) (last : Nat) : List CpInfo := es.foldr (fun e r => gap e.1 (e.2 :: r)) (gap last [])
def pool (es : List (Nat × CpInfo)) (last : Nat) : Array CpInfo := ⟨poolList es last⟩
def fileOf (pool : Array CpInfo) (this : Nat) (attrs : Array Attribute := #[]) (ms : Array MethodInfo := #[]) (fl : Nat := 33) (sup : Nat := 0) (ifs : Array Nat := #[]) (fds : Array FieldInfo := #[]) : ClassFile where
  minorVersion := 0
  majorVersion := 65
  constantPool := pool
  accessFlags := fl
  thisClass := this
  superClass := sup
  interfaces := ifs
  fields := fds
  methods := ms
  attributes := attrs
def plain (name : String) (sup : Option ClassId) : Class where
  name := name
  kind := .ordinary
  loader := none
  accessFlags := 33
  super := sup
  interfaces := #[]
  cf := none
  fields := #[]
  methods := #[]
  instanceTypes := #[]
  staticTypes := #[]
  resolved := #[]
  callSites := []
  init := .initialized
  statics := none
  mirror := none

def pool0 : Array CpInfo := pool [(5, u "<init>"), (0, u "()V"), (1, .class_ 10), (1, u "java/lang/Object")] 113

def k0c0 : Code := { maxStack := 0, maxLocals := 1, code := object_method_1_code, exceptionTable := #[], attributes := #[] }
def k0m0 : Method := { name := "<init>", desc := "()V", sig := { parameters := [], returnType := none }, accessFlags := 1, code := some k0c0 }
/-- java/lang/Object -/
def k0 : Class := { plain "java/lang/Object" none with
  accessFlags := 33
  interfaces := #[]
  cf := some (fileOf pool0 8 #[] #[{ accessFlags := 1, nameIndex := 5, descriptorIndex := 6, attributes := #[] }] 33 0 #[] #[])
  fields := #[]
  methods := #[k0m0]
  instanceTypes := #[]
  staticTypes := #[]
  resolved := Array.replicate 124 none
  statics := none }

def pool1 : Array CpInfo := pool [(2, .class_ 4), (0, .nameAndType 5 6), (0, u "java/lang/Object"), (0, u "<init>"), (0, u "()V"), (0, .fieldref 8 9), (0, .class_ 10), (0, .nameAndType 11 12), (0, u "com/example/restrained_scaler/restrainedscaler/decision/StabilizationWindow$Kept"), (0, u "HIGHEST"), (0, u "Lcom/example/restrained_scaler/restrainedscaler/decision/StabilizationWindow$Kept;"), (0, .fieldref 8 14), (0, .nameAndType 15 12), (0, u "LOWEST"), (2, .long 9223372036854775807), (1, .class_ 21), (0, u "java/util/ArrayList"), (0, .methodref 20 3), (0, .class_ 24), (0, u "com/example/restrained_scaler/restrainedscaler/decision/Decider$Demand"), (0, .methodref 23 26), (0, .nameAndType 5 27), (0, u "(JJ)V"), (0, .interfaceMethodref 29 30), (0, .class_ 31), (0, .nameAndType 32 33), (0, u "java/util/List"), (0, u "add"), (0, u "(Ljava/lang/Object;)Z"), (0, .class_ 35), (0, u "com/example/restrained_scaler/restrainedscaler/decision/StabilizationWindow"), (0, .methodref 34 37), (0, .nameAndType 5 38), (0, u "(JLcom/example/restrained_scaler/restrainedscaler/decision/StabilizationWindow$Kept;Ljava/util/List;)V"), (0, .methodref 34 40), (0, .nameAndType 41 42), (0, u "demand"), (0, u "()J"), (0, .methodref 34 44), (0, .nameAndType 32 27), (0, .methodref 46 47), (0, .class_ 48), (0, .nameAndType 49 50), (0, u "com/example/restrained_scaler/restrainedscaler/decision/StabilizationWindowDemandPinLaw"), (0, u "fold"), (0, u "(ZJZJ)J"), (0, .methodref 52 53), (0, .class_ 54), (0, .nameAndType 55 56), (0, u "java/lang/Math"), (0, u "max"), (0, u "(JJ)J"), (0, .methodref 52 58), (0, .nameAndType 59 56), (0, u "min"), (2, u "law"), (0, u "(IIJJJJ)Z")] 8

def k1m0 : Method := { name := "<init>", desc := "()V", sig := { parameters := [], returnType := none }, accessFlags := 1, code := none }
def k1c1 : Code := { maxStack := 11, maxLocals := 39, code := code, exceptionTable := #[], attributes := #[] }
def k1m1 : Method := { name := "law", desc := "(IIJJJJ)Z", sig := { parameters := [.int, .int, .long, .long, .long, .long], returnType := some .boolean }, accessFlags := 9, code := some k1c1 }
def k1c2 : Code := { maxStack := 4, maxLocals := 6, code := method_3_code, exceptionTable := #[], attributes := #[] }
def k1m2 : Method := { name := "fold", desc := "(ZJZJ)J", sig := { parameters := [.boolean, .long, .boolean, .long], returnType := some .long }, accessFlags := 10, code := some k1c2 }
/-- com/example/restrained_scaler/restrainedscaler/decision/StabilizationWindowDemandPinLaw -/
def k1 : Class := { plain "com/example/restrained_scaler/restrainedscaler/decision/StabilizationWindowDemandPinLaw" (some 0) with
  accessFlags := 49
  interfaces := #[]
  cf := some (fileOf pool1 46 #[] #[{ accessFlags := 1, nameIndex := 5, descriptorIndex := 6, attributes := #[] }, { accessFlags := 9, nameIndex := 62, descriptorIndex := 63, attributes := #[] }, { accessFlags := 10, nameIndex := 49, descriptorIndex := 50, attributes := #[] }] 49 2 #[] #[])
  fields := #[]
  methods := #[k1m0, k1m1, k1m2]
  instanceTypes := #[]
  staticTypes := #[]
  resolved := Array.replicate 72 none
  statics := none }

def pool2 : Array CpInfo := pool [(1, .class_ 2), (0, u "java/lang/constant/Constable"), (0, .class_ 4), (0, u "java/lang/Object")] 6

/-- java/lang/constant/Constable -/
def k2 : Class := { plain "java/lang/constant/Constable" (some 0) with
  accessFlags := 1537
  interfaces := #[]
  cf := some (fileOf pool2 1 #[] #[] 1537 3 #[] #[])
  fields := #[]
  methods := #[]
  instanceTypes := #[]
  staticTypes := #[]
  resolved := Array.replicate 11 none
  statics := none }

def pool3 : Array CpInfo := pool [(1, .class_ 2), (0, u "java/lang/Comparable"), (0, .class_ 4), (0, u "java/lang/Object")] 7

/-- java/lang/Comparable -/
def k3 : Class := { plain "java/lang/Comparable" (some 0) with
  accessFlags := 1537
  interfaces := #[]
  cf := some (fileOf pool3 1 #[] #[] 1537 3 #[] #[])
  fields := #[]
  methods := #[]
  instanceTypes := #[]
  staticTypes := #[]
  resolved := Array.replicate 12 none
  statics := none }

def pool4 : Array CpInfo := pool [(1, .class_ 2), (0, u "java/io/Serializable"), (0, .class_ 4), (0, u "java/lang/Object")] 2

/-- java/io/Serializable -/
def k4 : Class := { plain "java/io/Serializable" (some 0) with
  accessFlags := 1537
  interfaces := #[]
  cf := some (fileOf pool4 1 #[] #[] 1537 3 #[] #[])
  fields := #[]
  methods := #[]
  instanceTypes := #[]
  staticTypes := #[]
  resolved := Array.replicate 7 none
  statics := none }

def pool5 : Array CpInfo := pool [(2, .class_ 4), (1, u "java/lang/Enum"), (0, u "name"), (0, u "Ljava/lang/String;"), (2, u "ordinal"), (0, u "I"), (1, .class_ 14), (1, u "java/lang/Object"), (4, u "hash"), (86, .class_ 108), (1, u "java/lang/Enum$EnumDesc"), (2, .class_ 112), (0, u "java/lang/constant/Constable"), (0, .class_ 114), (0, u "java/lang/Comparable"), (0, .class_ 116), (0, u "java/io/Serializable")] 87

/-- java/lang/Enum -/
def k5 : Class := { plain "java/lang/Enum" (some 0) with
  accessFlags := 1057
  interfaces := #[2, 3, 4]
  cf := some (fileOf pool5 2 #[.nestMembers #[106]] #[] 1057 12 #[111, 113, 115] #[{ accessFlags := 18, nameIndex := 5, descriptorIndex := 6, attributes := #[] }, { accessFlags := 18, nameIndex := 9, descriptorIndex := 10, attributes := #[] }, { accessFlags := 2, nameIndex := 19, descriptorIndex := 10, attributes := #[] }])
  fields := #[{ name := "name", type := (.object "java/lang/String"), accessFlags := 18, slot := 0, constantValue := 0 }, { name := "ordinal", type := .int, accessFlags := 18, slot := 1, constantValue := 0 }, { name := "hash", type := .int, accessFlags := 2, slot := 2, constantValue := 0 }]
  methods := #[]
  instanceTypes := #[(.object "java/lang/String"), .int, .int]
  staticTypes := #[]
  resolved := Array.replicate 204 none
  statics := none }

def pool6 : Array CpInfo := pool [(1, .class_ 2), (0, u "com/example/restrained_scaler/restrainedscaler/decision/StabilizationWindow$Kept"), (2, u "HIGHEST"), (0, u "Lcom/example/restrained_scaler/restrainedscaler/decision/StabilizationWindow$Kept;"), (2, u "LOWEST"), (2, u "$VALUES"), (0, u "[Lcom/example/restrained_scaler/restrainedscaler/decision/StabilizationWindow$Kept;"), (6, .class_ 22), (1, u "java/lang/Enum"), (25, .class_ 49), (0, u "com/example/restrained_scaler/restrainedscaler/decision/StabilizationWindow")] 2

/-- com/example/restrained_scaler/restrainedscaler/decision/StabilizationWindow$Kept -/
def k6 : Class := { plain "com/example/restrained_scaler/restrainedscaler/decision/StabilizationWindow$Kept" (some 5) with
  accessFlags := 16432
  interfaces := #[]
  cf := some (fileOf pool6 1 #[.nestHost 48] #[] 16432 20 #[] #[{ accessFlags := 16409, nameIndex := 5, descriptorIndex := 6, attributes := #[] }, { accessFlags := 16409, nameIndex := 9, descriptorIndex := 6, attributes := #[] }, { accessFlags := 4122, nameIndex := 12, descriptorIndex := 13, attributes := #[] }])
  fields := #[{ name := "HIGHEST", type := (.object "com/example/restrained_scaler/restrainedscaler/decision/StabilizationWindow$Kept"), accessFlags := 16409, slot := 0, constantValue := 0 }, { name := "LOWEST", type := (.object "com/example/restrained_scaler/restrainedscaler/decision/StabilizationWindow$Kept"), accessFlags := 16409, slot := 1, constantValue := 0 }, { name := "$VALUES", type := (.array (.object "com/example/restrained_scaler/restrainedscaler/decision/StabilizationWindow$Kept")), accessFlags := 4122, slot := 2, constantValue := 0 }]
  methods := #[]
  instanceTypes := #[(.object "java/lang/String"), .int, .int]
  staticTypes := #[(.object "com/example/restrained_scaler/restrainedscaler/decision/StabilizationWindow$Kept"), (.object "com/example/restrained_scaler/restrainedscaler/decision/StabilizationWindow$Kept"), (.array (.object "com/example/restrained_scaler/restrainedscaler/decision/StabilizationWindow$Kept"))]
  resolved := Array.replicate 52 none
  statics := some 0 }

def pool7 : Array CpInfo := pool [(8, .class_ 10), (1, u "java/lang/Iterable"), (24, .class_ 36), (0, u "java/lang/Object")] 25

/-- java/lang/Iterable -/
def k7 : Class := { plain "java/lang/Iterable" (some 0) with
  accessFlags := 1537
  interfaces := #[]
  cf := some (fileOf pool7 8 #[] #[] 1537 35 #[] #[])
  fields := #[]
  methods := #[]
  instanceTypes := #[]
  staticTypes := #[]
  resolved := Array.replicate 62 none
  statics := none }

def pool8 : Array CpInfo := pool [(10, .class_ 12), (1, u "java/util/Collection"), (17, u "()Z"), (29, .class_ 61), (0, u "java/lang/Object"), (0, .class_ 63), (0, u "java/lang/Iterable"), (2, u "isEmpty")] 48

def k8m0 : Method := { name := "isEmpty", desc := "()Z", sig := { parameters := [], returnType := some .boolean }, accessFlags := 1025, code := none }
/-- java/util/Collection -/
def k8 : Class := { plain "java/util/Collection" (some 0) with
  accessFlags := 1537
  interfaces := #[7]
  cf := some (fileOf pool8 10 #[] #[{ accessFlags := 1025, nameIndex := 66, descriptorIndex := 30, attributes := #[] }] 1537 60 #[62] #[])
  fields := #[]
  methods := #[k8m0]
  instanceTypes := #[]
  staticTypes := #[]
  resolved := Array.replicate 115 none
  statics := none }

def pool9 : Array CpInfo := pool [(1, .methodref 2 3), (0, .class_ 4), (0, .nameAndType 5 6), (0, u "java/lang/Object"), (0, u "<init>"), (0, u "()V"), (1, .class_ 10), (1, u "java/util/AbstractCollection"), (66, .class_ 78), (0, u "java/util/Collection")] 81

def k9c0 : Code := { maxStack := 1, maxLocals := 1, code := jdk_22_method_1_code, exceptionTable := #[], attributes := #[] }
def k9m0 : Method := { name := "<init>", desc := "()V", sig := { parameters := [], returnType := none }, accessFlags := 4, code := some k9c0 }
/-- java/util/AbstractCollection -/
def k9 : Class := { plain "java/util/AbstractCollection" (some 0) with
  accessFlags := 1057
  interfaces := #[8]
  cf := some (fileOf pool9 8 #[] #[{ accessFlags := 4, nameIndex := 5, descriptorIndex := 6, attributes := #[] }] 1057 2 #[77] #[])
  fields := #[]
  methods := #[k9m0]
  instanceTypes := #[]
  staticTypes := #[]
  resolved := Array.replicate 160 none
  statics := none }

def pool10 : Array CpInfo := pool [(8, .class_ 10), (1, u "java/util/SequencedCollection"), (15, .class_ 27), (0, u "java/lang/Object"), (0, .class_ 29), (0, u "java/util/Collection")] 27

/-- java/util/SequencedCollection -/
def k10 : Class := { plain "java/util/SequencedCollection" (some 0) with
  accessFlags := 1537
  interfaces := #[8]
  cf := some (fileOf pool10 8 #[] #[] 1537 26 #[28] #[])
  fields := #[]
  methods := #[]
  instanceTypes := #[]
  staticTypes := #[]
  resolved := Array.replicate 57 none
  statics := none }

def pool11 : Array CpInfo := pool [(8, .class_ 10), (1, u "java/util/List"), (49, u "add"), (3, u "(Ljava/lang/Object;)Z"), (38, .class_ 104), (0, u "java/lang/Object"), (15, .class_ 121), (0, u "java/util/SequencedCollection"), (1, u "iterator"), (0, u "()Ljava/util/Iterator;")] 126

def k11m0 : Method := { name := "iterator", desc := "()Ljava/util/Iterator;", sig := { parameters := [], returnType := some (.object "java/util/Iterator") }, accessFlags := 1025, code := none }
def k11m1 : Method := { name := "add", desc := "(Ljava/lang/Object;)Z", sig := { parameters := [(.object "java/lang/Object")], returnType := some .boolean }, accessFlags := 1025, code := none }
/-- java/util/List -/
def k11 : Class := { plain "java/util/List" (some 0) with
  accessFlags := 1537
  interfaces := #[10]
  cf := some (fileOf pool11 8 #[] #[{ accessFlags := 1025, nameIndex := 123, descriptorIndex := 124, attributes := #[] }, { accessFlags := 1025, nameIndex := 60, descriptorIndex := 64, attributes := #[] }] 1537 103 #[120] #[])
  fields := #[]
  methods := #[k11m0, k11m1]
  instanceTypes := #[]
  staticTypes := #[]
  resolved := Array.replicate 251 none
  statics := none }

def pool12 : Array CpInfo := pool [(1, .methodref 2 3), (0, .class_ 4), (0, .nameAndType 5 6), (0, u "java/util/AbstractCollection"), (0, u "<init>"), (0, u "()V"), (0, .fieldref 8 9), (0, .class_ 10), (0, .nameAndType 11 12), (0, u "java/util/AbstractList"), (0, u "modCount"), (0, u "I"), (64, .class_ 78), (0, u "java/util/AbstractList$Itr"), (3, .class_ 83), (0, u "java/util/AbstractList$ListItr"), (9, .class_ 94), (0, u "java/util/AbstractList$RandomAccessSubList"), (3, .class_ 99), (0, u "java/util/AbstractList$SubList"), (33, .class_ 134), (0, u "java/util/List"), (73, .class_ 209), (0, u "java/util/AbstractList$SubList$1"), (0, .class_ 211), (0, u "java/util/AbstractList$RandomAccessSpliterator")] 6

def k12c0 : Code := { maxStack := 2, maxLocals := 1, code := jdk_39_method_1_code, exceptionTable := #[], attributes := #[] }
def k12m0 : Method := { name := "<init>", desc := "()V", sig := { parameters := [], returnType := none }, accessFlags := 4, code := some k12c0 }
/-- java/util/AbstractList -/
def k12 : Class := { plain "java/util/AbstractList" (some 9) with
  accessFlags := 1057
  interfaces := #[11]
  cf := some (fileOf pool12 8 #[.nestMembers #[93, 98, 208, 210, 82, 77]] #[{ accessFlags := 4, nameIndex := 5, descriptorIndex := 6, attributes := #[] }] 1057 2 #[133] #[{ accessFlags := 132, nameIndex := 11, descriptorIndex := 12, attributes := #[] }])
  fields := #[{ name := "modCount", type := .int, accessFlags := 132, slot := 0, constantValue := 0 }]
  methods := #[k12m0]
  instanceTypes := #[.int]
  staticTypes := #[]
  resolved := Array.replicate 218 none
  statics := none }

def pool13 : Array CpInfo := pool [(1, .class_ 2), (0, u "java/util/RandomAccess"), (0, .class_ 4), (0, u "java/lang/Object")] 2

/-- java/util/RandomAccess -/
def k13 : Class := { plain "java/util/RandomAccess" (some 0) with
  accessFlags := 1537
  interfaces := #[]
  cf := some (fileOf pool13 1 #[] #[] 1537 3 #[] #[])
  fields := #[]
  methods := #[]
  instanceTypes := #[]
  staticTypes := #[]
  resolved := Array.replicate 7 none
  statics := none }

def pool14 : Array CpInfo := pool [(1, .class_ 2), (0, u "java/lang/Cloneable"), (0, .class_ 4), (0, u "java/lang/Object")] 2

/-- java/lang/Cloneable -/
def k14 : Class := { plain "java/lang/Cloneable" (some 0) with
  accessFlags := 1537
  interfaces := #[]
  cf := some (fileOf pool14 1 #[] #[] 1537 3 #[] #[])
  fields := #[]
  methods := #[]
  instanceTypes := #[]
  staticTypes := #[]
  resolved := Array.replicate 7 none
  statics := none }

def pool15 : Array CpInfo := pool [(1, .methodref 2 3), (0, .class_ 4), (0, .nameAndType 5 6), (0, u "java/util/AbstractList"), (0, u "<init>"), (0, u "()V"), (0, .class_ 8), (0, u "java/lang/Object"), (0, .fieldref 10 11), (0, .class_ 12), (0, .nameAndType 13 14), (0, u "java/util/ArrayList"), (0, u "elementData"), (0, u "[Ljava/lang/Object;"), (2, u "EMPTY_ELEMENTDATA"), (21, .fieldref 10 40), (0, .nameAndType 41 14), (0, u "DEFAULTCAPACITY_EMPTY_ELEMENTDATA"), (5, u "()[Ljava/lang/Object;"), (0, .fieldref 10 49), (0, .nameAndType 50 51), (0, u "size"), (0, u "I"), (11, .fieldref 10 64), (0, .nameAndType 65 51), (0, u "modCount"), (3, .methodref 10 70), (0, .nameAndType 71 72), (0, u "grow"), (0, u "(I)[Ljava/lang/Object;"), (6, .methodref 80 81), (0, .class_ 82), (0, .nameAndType 83 84), (0, u "java/lang/Math"), (0, u "max"), (0, u "(II)I"), (11, u "(Ljava/lang/Object;)Z"), (32, .methodref 10 130), (0, .nameAndType 71 47), (0, .methodref 10 132), (0, .nameAndType 133 134), (0, u "add"), (0, u "(Ljava/lang/Object;[Ljava/lang/Object;I)V"), (13, .class_ 149), (0, u "java/util/List"), (16, u "iterator"), (0, u "()Ljava/util/Iterator;"), (94, .class_ 263), (0, u "java/util/ArrayList$ListItr"), (3, .class_ 268), (0, u "java/util/ArrayList$Itr"), (0, .methodref 267 270), (0, .nameAndType 5 271), (0, u "(Ljava/util/ArrayList;)V"), (4, .class_ 277), (0, u "java/util/ArrayList$SubList"), (12, .class_ 291), (0, u "java/util/ArrayList$ArrayListSpliterator"), (37, .class_ 330), (0, u "java/util/RandomAccess"), (0, .class_ 332), (0, u "java/lang/Cloneable"), (0, .class_ 334), (0, u "java/io/Serializable"), (0, u "serialVersionUID"), (0, u "J"), (3, u "DEFAULT_CAPACITY"), (159, .class_ 501), (0, u "java/util/ArrayList$SubList$2"), (0, .class_ 503), (0, u "java/util/ArrayList$SubList$1")] 5

def k15c0 : Code := { maxStack := 2, maxLocals := 1, code := jdk_38_method_2_code, exceptionTable := #[], attributes := #[] }
def k15m0 : Method := { name := "<init>", desc := "()V", sig := { parameters := [], returnType := none }, accessFlags := 1, code := some k15c0 }
def k15c1 : Code := { maxStack := 4, maxLocals := 4, code := jdk_38_method_6_code, exceptionTable := #[], attributes := #[] }
def k15m1 : Method := { name := "grow", desc := "(I)[Ljava/lang/Object;", sig := { parameters := [.int], returnType := some (.array (.object "java/lang/Object")) }, accessFlags := 2, code := some k15c1 }
def k15c2 : Code := { maxStack := 3, maxLocals := 1, code := jdk_38_method_7_code, exceptionTable := #[], attributes := #[] }
def k15m2 : Method := { name := "grow", desc := "()[Ljava/lang/Object;", sig := { parameters := [], returnType := some (.array (.object "java/lang/Object")) }, accessFlags := 2, code := some k15c2 }
def k15c3 : Code := { maxStack := 3, maxLocals := 4, code := jdk_38_method_24_code, exceptionTable := #[], attributes := #[] }
def k15m3 : Method := { name := "add", desc := "(Ljava/lang/Object;[Ljava/lang/Object;I)V", sig := { parameters := [(.object "java/lang/Object"), (.array (.object "java/lang/Object")), .int], returnType := none }, accessFlags := 2, code := some k15c3 }
def k15c4 : Code := { maxStack := 4, maxLocals := 2, code := jdk_38_method_25_code, exceptionTable := #[], attributes := #[] }
def k15m4 : Method := { name := "add", desc := "(Ljava/lang/Object;)Z", sig := { parameters := [(.object "java/lang/Object")], returnType := some .boolean }, accessFlags := 1, code := some k15c4 }
def k15c5 : Code := { maxStack := 3, maxLocals := 1, code := jdk_38_method_55_code, exceptionTable := #[], attributes := #[] }
def k15m5 : Method := { name := "iterator", desc := "()Ljava/util/Iterator;", sig := { parameters := [], returnType := some (.object "java/util/Iterator") }, accessFlags := 1, code := some k15c5 }
/-- java/util/ArrayList -/
def k15 : Class := { plain "java/util/ArrayList" (some 12) with
  accessFlags := 33
  interfaces := #[11, 13, 14, 4]
  cf := some (fileOf pool15 10 #[.nestMembers #[290, 276, 500, 502, 262, 267]] #[{ accessFlags := 1, nameIndex := 5, descriptorIndex := 6, attributes := #[] }, { accessFlags := 2, nameIndex := 71, descriptorIndex := 72, attributes := #[] }, { accessFlags := 2, nameIndex := 71, descriptorIndex := 47, attributes := #[] }, { accessFlags := 2, nameIndex := 133, descriptorIndex := 134, attributes := #[] }, { accessFlags := 1, nameIndex := 133, descriptorIndex := 96, attributes := #[] }, { accessFlags := 1, nameIndex := 166, descriptorIndex := 167, attributes := #[] }] 33 2 #[148, 329, 331, 333] #[{ accessFlags := 26, nameIndex := 335, descriptorIndex := 336, attributes := #[] }, { accessFlags := 26, nameIndex := 340, descriptorIndex := 51, attributes := #[] }, { accessFlags := 26, nameIndex := 17, descriptorIndex := 14, attributes := #[] }, { accessFlags := 26, nameIndex := 41, descriptorIndex := 14, attributes := #[] }, { accessFlags := 128, nameIndex := 13, descriptorIndex := 14, attributes := #[] }, { accessFlags := 2, nameIndex := 50, descriptorIndex := 51, attributes := #[] }])
  fields := #[{ name := "serialVersionUID", type := .long, accessFlags := 26, slot := 0, constantValue := 0 }, { name := "DEFAULT_CAPACITY", type := .int, accessFlags := 26, slot := 1, constantValue := 0 }, { name := "EMPTY_ELEMENTDATA", type := (.array (.object "java/lang/Object")), accessFlags := 26, slot := 2, constantValue := 0 }, { name := "DEFAULTCAPACITY_EMPTY_ELEMENTDATA", type := (.array (.object "java/lang/Object")), accessFlags := 26, slot := 3, constantValue := 0 }, { name := "elementData", type := (.array (.object "java/lang/Object")), accessFlags := 128, slot := 1, constantValue := 0 }, { name := "size", type := .int, accessFlags := 2, slot := 2, constantValue := 0 }]
  methods := #[k15m0, k15m1, k15m2, k15m3, k15m4, k15m5]
  instanceTypes := #[.int, (.array (.object "java/lang/Object")), .int]
  staticTypes := #[.long, .int, (.array (.object "java/lang/Object")), (.array (.object "java/lang/Object"))]
  resolved := Array.replicate 509 none
  statics := some 1 }

def pool16 : Array CpInfo := pool [(1, .methodref 2 3), (0, .class_ 4), (0, .nameAndType 5 6), (0, u "java/lang/Object"), (0, u "<init>"), (0, u "()V"), (0, .class_ 8), (0, u "java/lang/Record")] 13

def k16c0 : Code := { maxStack := 1, maxLocals := 1, code := jdk_30_method_1_code, exceptionTable := #[], attributes := #[] }
def k16m0 : Method := { name := "<init>", desc := "()V", sig := { parameters := [], returnType := none }, accessFlags := 4, code := some k16c0 }
/-- java/lang/Record -/
def k16 : Class := { plain "java/lang/Record" (some 0) with
  accessFlags := 1057
  interfaces := #[]
  cf := some (fileOf pool16 7 #[] #[{ accessFlags := 4, nameIndex := 5, descriptorIndex := 6, attributes := #[] }] 1057 2 #[] #[])
  fields := #[]
  methods := #[k16m0]
  instanceTypes := #[]
  staticTypes := #[]
  resolved := Array.replicate 22 none
  statics := none }

def pool17 : Array CpInfo := pool [(1, .methodref 2 3), (0, .class_ 4), (0, .nameAndType 5 6), (0, u "java/lang/Record"), (0, u "<init>"), (0, u "()V"), (0, .fieldref 8 9), (0, .class_ 10), (0, .nameAndType 11 12), (0, u "com/example/restrained_scaler/restrainedscaler/decision/Decider$Demand"), (0, u "time"), (0, u "J"), (0, .fieldref 8 14), (0, .nameAndType 15 12), (0, u "desired"), (12, u "(JJ)V"), (6, u "()J"), (3, .class_ 40), (0, u "com/example/restrained_scaler/restrainedscaler/decision/Decider")] 20

def k17c0 : Code := { maxStack := 3, maxLocals := 5, code := prog_16_method_1_code, exceptionTable := #[], attributes := #[] }
def k17m0 : Method := { name := "<init>", desc := "(JJ)V", sig := { parameters := [.long, .long], returnType := none }, accessFlags := 1, code := some k17c0 }
def k17c1 : Code := { maxStack := 2, maxLocals := 1, code := prog_16_method_5_code, exceptionTable := #[], attributes := #[] }
def k17m1 : Method := { name := "time", desc := "()J", sig := { parameters := [], returnType := some .long }, accessFlags := 1, code := some k17c1 }
def k17c2 : Code := { maxStack := 2, maxLocals := 1, code := prog_16_method_6_code, exceptionTable := #[], attributes := #[] }
def k17m2 : Method := { name := "desired", desc := "()J", sig := { parameters := [], returnType := some .long }, accessFlags := 1, code := some k17c2 }
/-- com/example/restrained_scaler/restrainedscaler/decision/Decider$Demand -/
def k17 : Class := { plain "com/example/restrained_scaler/restrainedscaler/decision/Decider$Demand" (some 16) with
  accessFlags := 49
  interfaces := #[]
  cf := some (fileOf pool17 8 #[.nestHost 39] #[{ accessFlags := 1, nameIndex := 5, descriptorIndex := 28, attributes := #[] }, { accessFlags := 1, nameIndex := 11, descriptorIndex := 35, attributes := #[] }, { accessFlags := 1, nameIndex := 15, descriptorIndex := 35, attributes := #[] }] 49 2 #[] #[{ accessFlags := 18, nameIndex := 11, descriptorIndex := 12, attributes := #[] }, { accessFlags := 18, nameIndex := 15, descriptorIndex := 12, attributes := #[] }])
  fields := #[{ name := "time", type := .long, accessFlags := 18, slot := 0, constantValue := 0 }, { name := "desired", type := .long, accessFlags := 18, slot := 1, constantValue := 0 }]
  methods := #[k17m0, k17m1, k17m2]
  instanceTypes := #[.long, .long]
  staticTypes := #[]
  resolved := Array.replicate 61 none
  statics := none }

def pool18 : Array CpInfo := pool [(1, .class_ 2), (0, u "java/lang/Math"), (1, .class_ 6), (1, u "java/lang/Object"), (0, u "<init>"), (0, u "()V"), (89, .class_ 100), (1, u "java/lang/Math$RandomNumberGeneratorHolder"), (20, u "(JJ)J"), (50, u "negativeZeroFloatBits"), (0, u "J"), (2, u "negativeZeroDoubleBits"), (21, u "max"), (2, u "min"), (43, u "$assertionsDisabled"), (0, u "Z"), (88, u "(II)I"), (2, u "twoToTheDoubleScaleDown"), (0, u "D"), (4, u "twoToTheDoubleScaleUp"), (9, u "E"), (3, u "PI"), (2, u "TAU"), (2, u "DEGREES_TO_RADIANS"), (0, u "RADIANS_TO_DEGREES")] 94

def k18m0 : Method := { name := "<init>", desc := "()V", sig := { parameters := [], returnType := none }, accessFlags := 2, code := none }
def k18c1 : Code := { maxStack := 2, maxLocals := 2, code := jdk_29_method_65_code, exceptionTable := #[], attributes := #[] }
def k18m1 : Method := { name := "max", desc := "(II)I", sig := { parameters := [.int, .int], returnType := some .int }, accessFlags := 9, code := some k18c1 }
def k18c2 : Code := { maxStack := 4, maxLocals := 4, code := jdk_29_method_66_code, exceptionTable := #[], attributes := #[] }
def k18m2 : Method := { name := "max", desc := "(JJ)J", sig := { parameters := [.long, .long], returnType := some .long }, accessFlags := 9, code := some k18c2 }
def k18c3 : Code := { maxStack := 4, maxLocals := 4, code := jdk_29_method_70_code, exceptionTable := #[], attributes := #[] }
def k18m3 : Method := { name := "min", desc := "(JJ)J", sig := { parameters := [.long, .long], returnType := some .long }, accessFlags := 9, code := some k18c3 }
/-- java/lang/Math -/
def k18 : Class := { plain "java/lang/Math" (some 0) with
  accessFlags := 49
  interfaces := #[]
  cf := some (fileOf pool18 1 #[.nestMembers #[98]] #[{ accessFlags := 2, nameIndex := 7, descriptorIndex := 8, attributes := #[] }, { accessFlags := 9, nameIndex := 198, descriptorIndex := 335, attributes := #[] }, { accessFlags := 9, nameIndex := 198, descriptorIndex := 121, attributes := #[] }, { accessFlags := 9, nameIndex := 201, descriptorIndex := 121, attributes := #[] }] 49 4 #[] #[{ accessFlags := 25, nameIndex := 354, descriptorIndex := 339, attributes := #[] }, { accessFlags := 25, nameIndex := 358, descriptorIndex := 339, attributes := #[] }, { accessFlags := 25, nameIndex := 361, descriptorIndex := 339, attributes := #[] }, { accessFlags := 26, nameIndex := 364, descriptorIndex := 339, attributes := #[] }, { accessFlags := 26, nameIndex := 365, descriptorIndex := 339, attributes := #[] }, { accessFlags := 26, nameIndex := 172, descriptorIndex := 173, attributes := #[] }, { accessFlags := 26, nameIndex := 176, descriptorIndex := 173, attributes := #[] }, { accessFlags := 8, nameIndex := 344, descriptorIndex := 339, attributes := #[] }, { accessFlags := 8, nameIndex := 338, descriptorIndex := 339, attributes := #[] }, { accessFlags := 4120, nameIndex := 245, descriptorIndex := 246, attributes := #[] }])
  fields := #[{ name := "E", type := .double, accessFlags := 25, slot := 0, constantValue := 0 }, { name := "PI", type := .double, accessFlags := 25, slot := 1, constantValue := 0 }, { name := "TAU", type := .double, accessFlags := 25, slot := 2, constantValue := 0 }, { name := "DEGREES_TO_RADIANS", type := .double, accessFlags := 26, slot := 3, constantValue := 0 }, { name := "RADIANS_TO_DEGREES", type := .double, accessFlags := 26, slot := 4, constantValue := 0 }, { name := "negativeZeroFloatBits", type := .long, accessFlags := 26, slot := 5, constantValue := 0 }, { name := "negativeZeroDoubleBits", type := .long, accessFlags := 26, slot := 6, constantValue := 0 }, { name := "twoToTheDoubleScaleUp", type := .double, accessFlags := 8, slot := 7, constantValue := 0 }, { name := "twoToTheDoubleScaleDown", type := .double, accessFlags := 8, slot := 8, constantValue := 0 }, { name := "$assertionsDisabled", type := .boolean, accessFlags := 4120, slot := 9, constantValue := 0 }]
  methods := #[k18m0, k18m1, k18m2, k18m3]
  instanceTypes := #[]
  staticTypes := #[.double, .double, .double, .double, .double, .long, .long, .double, .double, .boolean]
  resolved := Array.replicate 460 none
  statics := none }

def pool19 : Array CpInfo := pool [(1, .methodref 2 3), (0, .class_ 4), (0, .nameAndType 5 6), (0, u "java/lang/Object"), (0, u "<init>"), (0, u "()V"), (0, .class_ 8), (0, u "java/util/ArrayDeque"), (0, .methodref 7 3), (0, .fieldref 11 12), (0, .class_ 13), (0, .nameAndType 14 15), (0, u "com/example/restrained_scaler/restrainedscaler/decision/StabilizationWindow"), (0, u "demands"), (0, u "Ljava/util/Deque;"), (0, .fieldref 11 17), (0, .nameAndType 18 19), (0, u "seconds"), (0, u "J"), (0, .fieldref 11 21), (0, .nameAndType 22 23), (0, u "kept"), (0, u "Lcom/example/restrained_scaler/restrainedscaler/decision/StabilizationWindow$Kept;"), (0, .interfaceMethodref 25 26), (0, .class_ 27), (0, .nameAndType 28 29), (0, u "java/util/List"), (0, u "iterator"), (0, u "()Ljava/util/Iterator;"), (0, .interfaceMethodref 31 32), (0, .class_ 33), (0, .nameAndType 34 35), (0, u "java/util/Iterator"), (0, u "hasNext"), (0, u "()Z"), (0, .interfaceMethodref 31 37), (0, .nameAndType 38 39), (0, u "next"), (0, u "()Ljava/lang/Object;"), (0, .class_ 41), (0, u "com/example/restrained_scaler/restrainedscaler/decision/Decider$Demand"), (0, .methodref 11 43), (0, .nameAndType 44 45), (0, u "keep"), (0, u "(Lcom/example/restrained_scaler/restrainedscaler/decision/Decider$Demand;)V"), (0, .interfaceMethodref 47 48), (0, .class_ 49), (0, .nameAndType 50 35), (0, u "java/util/Deque"), (0, u "isEmpty"), (0, .interfaceMethodref 47 52), (0, .nameAndType 53 39), (0, u "peekFirst"), (0, .methodref 40 55), (0, .nameAndType 56 57), (0, u "time"), (0, u "()J"), (0, .interfaceMethodref 47 59), (0, .nameAndType 60 39), (0, u "removeFirst"), (0, .methodref 40 62), (0, .nameAndType 5 63), (0, u "(JJ)V"), (0, .interfaceMethodref 47 65), (0, .nameAndType 66 39), (0, u "getFirst"), (0, .methodref 40 68), (0, .nameAndType 69 57), (0, u "desired"), (4, .interfaceMethodref 47 75), (0, .nameAndType 76 39), (0, u "peekLast"), (0, .methodref 11 78), (0, .nameAndType 79 80), (0, u "outdone"), (0, u "(Lcom/example/restrained_scaler/restrainedscaler/decision/Decider$Demand;Lcom/example/restrained_scaler/restrainedscaler/decision/Decider$Demand;)Z"), (0, .interfaceMethodref 47 82), (0, .nameAndType 83 39), (0, u "removeLast"), (0, .interfaceMethodref 47 85), (0, .nameAndType 86 87), (0, u "addLast"), (0, u "(Ljava/lang/Object;)V"), (0, .fieldref 89 90), (0, .class_ 91), (0, .nameAndType 92 23), (0, u "com/example/restrained_scaler/restrainedscaler/decision/StabilizationWindow$Kept"), (0, u "HIGHEST"), (2, u "(JLcom/example/restrained_scaler/restrainedscaler/decision/StabilizationWindow$Kept;Ljava/util/List;)V"), (4, u "add"), (0, u "demand")] 10

def k19c0 : Code := { maxStack := 3, maxLocals := 7, code := prog_24_method_1_code, exceptionTable := #[], attributes := #[] }
def k19m0 : Method := { name := "<init>", desc := "(JLcom/example/restrained_scaler/restrainedscaler/decision/StabilizationWindow$Kept;Ljava/util/List;)V", sig := { parameters := [.long, (.object "com/example/restrained_scaler/restrainedscaler/decision/StabilizationWindow$Kept"), (.object "java/util/List")], returnType := none }, accessFlags := 0, code := some k19c0 }
def k19c1 : Code := { maxStack := 7, maxLocals := 7, code := prog_24_method_2_code, exceptionTable := #[], attributes := #[] }
def k19m1 : Method := { name := "add", desc := "(JJ)V", sig := { parameters := [.long, .long], returnType := none }, accessFlags := 0, code := some k19c1 }
def k19c2 : Code := { maxStack := 2, maxLocals := 1, code := prog_24_method_3_code, exceptionTable := #[], attributes := #[] }
def k19m2 : Method := { name := "demand", desc := "()J", sig := { parameters := [], returnType := some .long }, accessFlags := 0, code := some k19c2 }
def k19c3 : Code := { maxStack := 3, maxLocals := 2, code := prog_24_method_5_code, exceptionTable := #[], attributes := #[] }
def k19m3 : Method := { name := "keep", desc := "(Lcom/example/restrained_scaler/restrainedscaler/decision/Decider$Demand;)V", sig := { parameters := [(.object "com/example/restrained_scaler/restrainedscaler/decision/Decider$Demand")], returnType := none }, accessFlags := 2, code := some k19c3 }
def k19c4 : Code := { maxStack := 4, maxLocals := 3, code := prog_24_method_6_code, exceptionTable := #[], attributes := #[] }
def k19m4 : Method := { name := "outdone", desc := "(Lcom/example/restrained_scaler/restrainedscaler/decision/Decider$Demand;Lcom/example/restrained_scaler/restrainedscaler/decision/Decider$Demand;)Z", sig := { parameters := [(.object "com/example/restrained_scaler/restrainedscaler/decision/Decider$Demand"), (.object "com/example/restrained_scaler/restrainedscaler/decision/Decider$Demand")], returnType := some .boolean }, accessFlags := 2, code := some k19c4 }
/-- com/example/restrained_scaler/restrainedscaler/decision/StabilizationWindow -/
def k19 : Class := { plain "com/example/restrained_scaler/restrainedscaler/decision/StabilizationWindow" (some 0) with
  accessFlags := 32
  interfaces := #[]
  cf := some (fileOf pool19 11 #[.nestMembers #[89]] #[{ accessFlags := 0, nameIndex := 5, descriptorIndex := 95, attributes := #[] }, { accessFlags := 0, nameIndex := 100, descriptorIndex := 63, attributes := #[] }, { accessFlags := 0, nameIndex := 101, descriptorIndex := 57, attributes := #[] }, { accessFlags := 2, nameIndex := 44, descriptorIndex := 45, attributes := #[] }, { accessFlags := 2, nameIndex := 79, descriptorIndex := 80, attributes := #[] }] 32 2 #[] #[{ accessFlags := 18, nameIndex := 18, descriptorIndex := 19, attributes := #[] }, { accessFlags := 18, nameIndex := 22, descriptorIndex := 23, attributes := #[] }, { accessFlags := 18, nameIndex := 14, descriptorIndex := 15, attributes := #[] }])
  fields := #[{ name := "seconds", type := .long, accessFlags := 18, slot := 0, constantValue := 0 }, { name := "kept", type := (.object "com/example/restrained_scaler/restrainedscaler/decision/StabilizationWindow$Kept"), accessFlags := 18, slot := 1, constantValue := 0 }, { name := "demands", type := (.object "java/util/Deque"), accessFlags := 18, slot := 2, constantValue := 0 }]
  methods := #[k19m0, k19m1, k19m2, k19m3, k19m4]
  instanceTypes := #[.long, (.object "com/example/restrained_scaler/restrainedscaler/decision/StabilizationWindow$Kept"), (.object "java/util/Deque")]
  staticTypes := #[]
  resolved := Array.replicate 112 none
  statics := none }

def pool20 : Array CpInfo := pool [(1, .class_ 2), (0, u "java/util/Queue"), (0, .class_ 4), (0, u "java/lang/Object"), (0, .class_ 6), (0, u "java/util/Collection")] 14

/-- java/util/Queue -/
def k20 : Class := { plain "java/util/Queue" (some 0) with
  accessFlags := 1537
  interfaces := #[8]
  cf := some (fileOf pool20 1 #[] #[] 1537 3 #[5] #[])
  fields := #[]
  methods := #[]
  instanceTypes := #[]
  staticTypes := #[]
  resolved := Array.replicate 21 none
  statics := none }

def pool21 : Array CpInfo := pool [(8, .class_ 10), (1, u "java/util/Deque"), (2, .class_ 14), (0, u "java/lang/Object"), (0, .class_ 16), (0, u "java/util/Queue"), (0, .class_ 18), (0, u "java/util/SequencedCollection"), (1, u "(Ljava/lang/Object;)V"), (2, u "addLast"), (4, u "removeFirst"), (0, u "()Ljava/lang/Object;"), (1, u "removeLast"), (2, u "getFirst"), (1, u "peekFirst"), (0, u "peekLast")] 32

def k21m0 : Method := { name := "addLast", desc := "(Ljava/lang/Object;)V", sig := { parameters := [(.object "java/lang/Object")], returnType := none }, accessFlags := 1025, code := none }
def k21m1 : Method := { name := "removeFirst", desc := "()Ljava/lang/Object;", sig := { parameters := [], returnType := some (.object "java/lang/Object") }, accessFlags := 1025, code := none }
def k21m2 : Method := { name := "removeLast", desc := "()Ljava/lang/Object;", sig := { parameters := [], returnType := some (.object "java/lang/Object") }, accessFlags := 1025, code := none }
def k21m3 : Method := { name := "getFirst", desc := "()Ljava/lang/Object;", sig := { parameters := [], returnType := some (.object "java/lang/Object") }, accessFlags := 1025, code := none }
def k21m4 : Method := { name := "peekFirst", desc := "()Ljava/lang/Object;", sig := { parameters := [], returnType := some (.object "java/lang/Object") }, accessFlags := 1025, code := none }
def k21m5 : Method := { name := "peekLast", desc := "()Ljava/lang/Object;", sig := { parameters := [], returnType := some (.object "java/lang/Object") }, accessFlags := 1025, code := none }
/-- java/util/Deque -/
def k21 : Class := { plain "java/util/Deque" (some 0) with
  accessFlags := 1537
  interfaces := #[20, 10]
  cf := some (fileOf pool21 8 #[] #[{ accessFlags := 1025, nameIndex := 23, descriptorIndex := 20, attributes := #[] }, { accessFlags := 1025, nameIndex := 28, descriptorIndex := 29, attributes := #[] }, { accessFlags := 1025, nameIndex := 31, descriptorIndex := 29, attributes := #[] }, { accessFlags := 1025, nameIndex := 34, descriptorIndex := 29, attributes := #[] }, { accessFlags := 1025, nameIndex := 36, descriptorIndex := 29, attributes := #[] }, { accessFlags := 1025, nameIndex := 37, descriptorIndex := 29, attributes := #[] }] 1537 13 #[15, 17] #[])
  fields := #[]
  methods := #[k21m0, k21m1, k21m2, k21m3, k21m4, k21m5]
  instanceTypes := #[]
  staticTypes := #[]
  resolved := Array.replicate 70 none
  statics := none }

def pool22 : Array CpInfo := pool [(3, .fieldref 4 5), (0, .class_ 6), (0, .nameAndType 7 8), (0, u "java/util/ArrayDeque"), (0, u "elements"), (0, u "[Ljava/lang/Object;"), (4, u "(II)I"), (6, .fieldref 4 21), (0, .nameAndType 22 23), (0, u "tail"), (0, u "I"), (0, .fieldref 4 25), (0, .nameAndType 26 23), (0, u "head"), (12, u "<init>"), (2, .methodref 43 44), (0, .class_ 45), (0, .nameAndType 39 46), (0, u "java/util/AbstractCollection"), (0, u "()V"), (0, .class_ 48), (0, u "java/lang/Object"), (19, .methodref 4 69), (0, .nameAndType 70 13), (0, u "dec"), (3, .methodref 4 75), (0, .nameAndType 76 13), (0, u "inc"), (12, u "(Ljava/lang/Object;)V"), (2, u "addLast"), (0, .methodref 4 94), (0, .nameAndType 95 96), (0, u "pollFirst"), (0, u "()Ljava/lang/Object;"), (3, .methodref 4 101), (0, .nameAndType 102 96), (0, u "pollLast"), (0, .methodref 4 104), (0, .nameAndType 105 106), (0, u "elementAt"), (0, u "([Ljava/lang/Object;I)Ljava/lang/Object;"), (13, u "removeFirst"), (2, u "getFirst"), (2, u "peekFirst"), (4, .class_ 132), (0, u "java/util/ArrayDeque$DeqIterator"), (3, .class_ 137), (0, u "java/util/ArrayDeque$DescendingIterator"), (1, .class_ 140), (0, u "java/util/ArrayDeque$DeqSpliterator"), (137, .class_ 279), (0, u "java/util/Deque"), (0, .class_ 281), (0, u "java/lang/Cloneable"), (0, .class_ 283), (0, u "java/io/Serializable"), (0, u "MAX_ARRAY_SIZE"), (1, u "serialVersionUID"), (0, u "J"), (40, u "removeLast"), (3, u "peekLast"), (14, u "isEmpty"), (0, u "()Z")] 89

def k22c0 : Code := { maxStack := 2, maxLocals := 1, code := jdk_21_method_3_code, exceptionTable := #[], attributes := #[] }
def k22m0 : Method := { name := "<init>", desc := "()V", sig := { parameters := [], returnType := none }, accessFlags := 1, code := some k22c0 }
def k22c1 : Code := { maxStack := 2, maxLocals := 2, code := jdk_21_method_6_code, exceptionTable := #[], attributes := #[] }
def k22m1 : Method := { name := "inc", desc := "(II)I", sig := { parameters := [.int, .int], returnType := some .int }, accessFlags := 24, code := some k22c1 }
def k22c2 : Code := { maxStack := 2, maxLocals := 2, code := jdk_21_method_7_code, exceptionTable := #[], attributes := #[] }
def k22m2 : Method := { name := "dec", desc := "(II)I", sig := { parameters := [.int, .int], returnType := some .int }, accessFlags := 24, code := some k22c2 }
def k22c3 : Code := { maxStack := 2, maxLocals := 2, code := jdk_21_method_10_code, exceptionTable := #[], attributes := #[] }
def k22m3 : Method := { name := "elementAt", desc := "([Ljava/lang/Object;I)Ljava/lang/Object;", sig := { parameters := [(.array (.object "java/lang/Object")), .int], returnType := some (.object "java/lang/Object") }, accessFlags := 24, code := some k22c3 }
def k22c4 : Code := { maxStack := 4, maxLocals := 3, code := jdk_21_method_13_code, exceptionTable := #[], attributes := #[] }
def k22m4 : Method := { name := "addLast", desc := "(Ljava/lang/Object;)V", sig := { parameters := [(.object "java/lang/Object")], returnType := none }, accessFlags := 1, code := some k22c4 }
def k22c5 : Code := { maxStack := 2, maxLocals := 2, code := jdk_21_method_18_code, exceptionTable := #[], attributes := #[] }
def k22m5 : Method := { name := "removeFirst", desc := "()Ljava/lang/Object;", sig := { parameters := [], returnType := some (.object "java/lang/Object") }, accessFlags := 1, code := some k22c5 }
def k22c6 : Code := { maxStack := 2, maxLocals := 2, code := jdk_21_method_19_code, exceptionTable := #[], attributes := #[] }
def k22m6 : Method := { name := "removeLast", desc := "()Ljava/lang/Object;", sig := { parameters := [], returnType := some (.object "java/lang/Object") }, accessFlags := 1, code := some k22c6 }
def k22c7 : Code := { maxStack := 3, maxLocals := 4, code := jdk_21_method_20_code, exceptionTable := #[], attributes := #[] }
def k22m7 : Method := { name := "pollFirst", desc := "()Ljava/lang/Object;", sig := { parameters := [], returnType := some (.object "java/lang/Object") }, accessFlags := 1, code := some k22c7 }
def k22c8 : Code := { maxStack := 4, maxLocals := 4, code := jdk_21_method_21_code, exceptionTable := #[], attributes := #[] }
def k22m8 : Method := { name := "pollLast", desc := "()Ljava/lang/Object;", sig := { parameters := [], returnType := some (.object "java/lang/Object") }, accessFlags := 1, code := some k22c8 }
def k22c9 : Code := { maxStack := 2, maxLocals := 2, code := jdk_21_method_22_code, exceptionTable := #[], attributes := #[] }
def k22m9 : Method := { name := "getFirst", desc := "()Ljava/lang/Object;", sig := { parameters := [], returnType := some (.object "java/lang/Object") }, accessFlags := 1, code := some k22c9 }
def k22c10 : Code := { maxStack := 2, maxLocals := 1, code := jdk_21_method_24_code, exceptionTable := #[], attributes := #[] }
def k22m10 : Method := { name := "peekFirst", desc := "()Ljava/lang/Object;", sig := { parameters := [], returnType := some (.object "java/lang/Object") }, accessFlags := 1, code := some k22c10 }
def k22c11 : Code := { maxStack := 3, maxLocals := 2, code := jdk_21_method_25_code, exceptionTable := #[], attributes := #[] }
def k22m11 : Method := { name := "peekLast", desc := "()Ljava/lang/Object;", sig := { parameters := [], returnType := some (.object "java/lang/Object") }, accessFlags := 1, code := some k22c11 }
def k22c12 : Code := { maxStack := 2, maxLocals := 1, code := jdk_21_method_38_code, exceptionTable := #[], attributes := #[] }
def k22m12 : Method := { name := "isEmpty", desc := "()Z", sig := { parameters := [], returnType := some .boolean }, accessFlags := 1, code := some k22c12 }
/-- java/util/ArrayDeque -/
def k22 : Class := { plain "java/util/ArrayDeque" (some 9) with
  accessFlags := 33
  interfaces := #[21, 14, 4]
  cf := some (fileOf pool22 4 #[.nestMembers #[139, 136, 131]] #[{ accessFlags := 1, nameIndex := 39, descriptorIndex := 46, attributes := #[] }, { accessFlags := 24, nameIndex := 76, descriptorIndex := 13, attributes := #[] }, { accessFlags := 24, nameIndex := 70, descriptorIndex := 13, attributes := #[] }, { accessFlags := 24, nameIndex := 105, descriptorIndex := 106, attributes := #[] }, { accessFlags := 1, nameIndex := 92, descriptorIndex := 89, attributes := #[] }, { accessFlags := 1, nameIndex := 120, descriptorIndex := 96, attributes := #[] }, { accessFlags := 1, nameIndex := 328, descriptorIndex := 96, attributes := #[] }, { accessFlags := 1, nameIndex := 95, descriptorIndex := 96, attributes := #[] }, { accessFlags := 1, nameIndex := 102, descriptorIndex := 96, attributes := #[] }, { accessFlags := 1, nameIndex := 123, descriptorIndex := 96, attributes := #[] }, { accessFlags := 1, nameIndex := 126, descriptorIndex := 96, attributes := #[] }, { accessFlags := 1, nameIndex := 332, descriptorIndex := 96, attributes := #[] }, { accessFlags := 1, nameIndex := 347, descriptorIndex := 348, attributes := #[] }] 33 43 #[278, 280, 282] #[{ accessFlags := 128, nameIndex := 7, descriptorIndex := 8, attributes := #[] }, { accessFlags := 128, nameIndex := 26, descriptorIndex := 23, attributes := #[] }, { accessFlags := 128, nameIndex := 22, descriptorIndex := 23, attributes := #[] }, { accessFlags := 26, nameIndex := 284, descriptorIndex := 23, attributes := #[] }, { accessFlags := 26, nameIndex := 286, descriptorIndex := 287, attributes := #[] }])
  fields := #[{ name := "elements", type := (.array (.object "java/lang/Object")), accessFlags := 128, slot := 0, constantValue := 0 }, { name := "head", type := .int, accessFlags := 128, slot := 1, constantValue := 0 }, { name := "tail", type := .int, accessFlags := 128, slot := 2, constantValue := 0 }, { name := "MAX_ARRAY_SIZE", type := .int, accessFlags := 26, slot := 0, constantValue := 0 }, { name := "serialVersionUID", type := .long, accessFlags := 26, slot := 1, constantValue := 0 }]
  methods := #[k22m0, k22m1, k22m2, k22m3, k22m4, k22m5, k22m6, k22m7, k22m8, k22m9, k22m10, k22m11, k22m12]
  instanceTypes := #[(.array (.object "java/lang/Object")), .int, .int]
  staticTypes := #[.int, .long]
  resolved := Array.replicate 438 none
  statics := none }

def pool23 : Array CpInfo := pool [(16, .class_ 18), (1, u "java/util/Iterator"), (0, u "hasNext"), (0, u "()Z"), (2, u "next"), (0, u "()Ljava/lang/Object;"), (6, .class_ 32), (0, u "java/lang/Object")] 20

def k23m0 : Method := { name := "hasNext", desc := "()Z", sig := { parameters := [], returnType := some .boolean }, accessFlags := 1025, code := none }
def k23m1 : Method := { name := "next", desc := "()Ljava/lang/Object;", sig := { parameters := [], returnType := some (.object "java/lang/Object") }, accessFlags := 1025, code := none }
/-- java/util/Iterator -/
def k23 : Class := { plain "java/util/Iterator" (some 0) with
  accessFlags := 1537
  interfaces := #[]
  cf := some (fileOf pool23 16 #[] #[{ accessFlags := 1025, nameIndex := 19, descriptorIndex := 20, attributes := #[] }, { accessFlags := 1025, nameIndex := 23, descriptorIndex := 24, attributes := #[] }] 1537 31 #[] #[])
  fields := #[]
  methods := #[k23m0, k23m1]
  instanceTypes := #[]
  staticTypes := #[]
  resolved := Array.replicate 53 none
  statics := none }

def pool24 : Array CpInfo := pool [(1, .fieldref 2 3), (0, .class_ 4), (0, .nameAndType 5 6), (0, u "java/util/ArrayList$Itr"), (0, u "this$0"), (0, u "Ljava/util/ArrayList;"), (0, .methodref 8 9), (0, .class_ 10), (0, .nameAndType 11 12), (0, u "java/lang/Object"), (0, u "<init>"), (0, u "()V"), (0, .fieldref 2 14), (0, .nameAndType 15 16), (0, u "lastRet"), (0, u "I"), (0, .fieldref 18 19), (0, .class_ 20), (0, .nameAndType 21 16), (0, u "java/util/ArrayList"), (0, u "modCount"), (0, .fieldref 2 23), (0, .nameAndType 24 16), (0, u "expectedModCount"), (0, .fieldref 2 26), (0, .nameAndType 27 16), (0, u "cursor"), (0, .fieldref 18 29), (0, .nameAndType 30 16), (0, u "size"), (0, .methodref 2 32), (0, .nameAndType 33 12), (0, u "checkForComodification"), (3, .fieldref 18 38), (0, .nameAndType 39 40), (0, u "elementData"), (0, u "[Ljava/lang/Object;"), (28, .class_ 70), (0, u "java/util/Iterator"), (0, u "(Ljava/util/ArrayList;)V"), (8, u "hasNext"), (0, u "()Z"), (1, u "next"), (0, u "()Ljava/lang/Object;")] 19

def k24c0 : Code := { maxStack := 2, maxLocals := 2, code := jdk_49_method_1_code, exceptionTable := #[], attributes := #[] }
def k24m0 : Method := { name := "<init>", desc := "(Ljava/util/ArrayList;)V", sig := { parameters := [(.object "java/util/ArrayList")], returnType := none }, accessFlags := 0, code := some k24c0 }
def k24c1 : Code := { maxStack := 2, maxLocals := 1, code := jdk_49_method_2_code, exceptionTable := #[], attributes := #[] }
def k24m1 : Method := { name := "hasNext", desc := "()Z", sig := { parameters := [], returnType := some .boolean }, accessFlags := 1, code := some k24c1 }
def k24c2 : Code := { maxStack := 4, maxLocals := 3, code := jdk_49_method_3_code, exceptionTable := #[], attributes := #[] }
def k24m2 : Method := { name := "next", desc := "()Ljava/lang/Object;", sig := { parameters := [], returnType := some (.object "java/lang/Object") }, accessFlags := 1, code := some k24c2 }
def k24c3 : Code := { maxStack := 2, maxLocals := 1, code := jdk_49_method_6_code, exceptionTable := #[], attributes := #[] }
def k24m3 : Method := { name := "checkForComodification", desc := "()V", sig := { parameters := [], returnType := none }, accessFlags := 16, code := some k24c3 }
/-- java/util/ArrayList$Itr -/
def k24 : Class := { plain "java/util/ArrayList$Itr" (some 0) with
  accessFlags := 32
  interfaces := #[23]
  cf := some (fileOf pool24 2 #[.nestHost 18] #[{ accessFlags := 0, nameIndex := 11, descriptorIndex := 71, attributes := #[] }, { accessFlags := 1, nameIndex := 80, descriptorIndex := 81, attributes := #[] }, { accessFlags := 1, nameIndex := 83, descriptorIndex := 84, attributes := #[] }, { accessFlags := 16, nameIndex := 33, descriptorIndex := 12, attributes := #[] }] 32 8 #[69] #[{ accessFlags := 0, nameIndex := 27, descriptorIndex := 16, attributes := #[] }, { accessFlags := 0, nameIndex := 15, descriptorIndex := 16, attributes := #[] }, { accessFlags := 0, nameIndex := 24, descriptorIndex := 16, attributes := #[] }, { accessFlags := 4112, nameIndex := 5, descriptorIndex := 6, attributes := #[] }])
  fields := #[{ name := "cursor", type := .int, accessFlags := 0, slot := 0, constantValue := 0 }, { name := "lastRet", type := .int, accessFlags := 0, slot := 1, constantValue := 0 }, { name := "expectedModCount", type := .int, accessFlags := 0, slot := 2, constantValue := 0 }, { name := "this$0", type := (.object "java/util/ArrayList"), accessFlags := 4112, slot := 3, constantValue := 0 }]
  methods := #[k24m0, k24m1, k24m2, k24m3]
  instanceTypes := #[.int, .int, .int, (.object "java/util/ArrayList")]
  staticTypes := #[]
  resolved := Array.replicate 104 none
  statics := none }

/-- the primitive byte -/
def k25 : Class := { plain "byte" none with kind := .primitive 'B', accessFlags := 0x411 }
/-- [B -/
def k26 : Class := { plain "[B" (some 0) with kind := .array 25 .byte, interfaces := #[14, 4], accessFlags := 1041 }

/-- the primitive int -/
def k27 : Class := { plain "int" none with kind := .primitive 'I', accessFlags := 0x411 }
/-- [I -/
def k28 : Class := { plain "[I" (some 0) with kind := .array 27 .int, interfaces := #[14, 4], accessFlags := 1041 }

/-- [Ljava/lang/Object; -/
def k29 : Class := { plain "[Ljava/lang/Object;" (some 0) with kind := .array 0 (.object "java/lang/Object"), interfaces := #[14, 4], accessFlags := 1041 }

def heap : Heap := #[{ cls := 6, slots := #[.ref 5, .ref 4, .null], vm := .statics 6 },
  { cls := 15, slots := #[.long 0, .int 0, .ref 2, .ref 3], vm := .statics 15 },
  { cls := 29, slots := #[], vm := .none },
  { cls := 29, slots := #[], vm := .none },
  { cls := 6, slots := #[.null, .int 1, .int 0], vm := .none },
  { cls := 6, slots := #[.null, .int 0, .int 0], vm := .none }]
def classes : Array Class := #[k0, k1, k2, k3, k4, k5, k6, k7, k8, k9, k10, k11, k12, k13, k14, k15, k16, k17, k18, k19, k20, k21, k22, k23, k24, k25, k26, k27, k28, k29]
def interned : List (Array UInt16 × Addr) := []
def slotsUsed : Nat := 13
def theMethod : MethodId := ⟨1, 1⟩
def args0 : Array Value := #[.int 5, .int 6, .long 7, .long 8, .long 9, .long 10]
def aboutOver (below : List Frame) : State where
  vm := { classes := classes, interned := interned.toArray }
  heap := heap
  slotsUsed := slotsUsed
  threads := #[{ frames := .invoking theMethod args0 :: below }]
def below0 : List Frame := [.native { method := ⟨0, 0⟩, args := #[] }]
def about1 : State := aboutOver below0
def p0 : Program := .bare "" "" ""
def e0 : Env := launch0.env 0 0 0
theorem w_frames : about1.frames = Frame.invoking theMethod args0 :: below0 := rfl
set_option maxRecDepth 65536 in
theorem w_args : argsFit about1.vm theMethod args0 = true := by decide +kernel
set_option maxRecDepth 65536 in
theorem w_heap : heapFits about1 = true := by decide +kernel
set_option maxRecDepth 65536 in
theorem w_runnable : about1.curStatus? = some .runnable := by decide +kernel
set_option maxRecDepth 65536 in
theorem w_alone : about1.alone = true := by decide +kernel
set_option maxRecDepth 65536 in
theorem w_named : about1.methodNamed? x = some theMethod := by decide +kernel
set_option maxRecDepth 65536 in
theorem w_hears : about1.hears theMethod below0 = true := by decide +kernel
set_option maxRecDepth 65536 in
theorem w_ripe : about1.ripe theMethod args0 below0 = true := by decide +kernel
theorem w_running : about1.status = .running := rfl
set_option maxRecDepth 65536 in
theorem w_room : about1.hasRoom e0.platform room_1 = true :=
  launch0.hasRoom_least _ room_1 (by decide +kernel) (by decide +kernel) (by decide +kernel) (by decide +kernel) (by decide +kernel) (by decide +kernel)
theorem allAtoms_all (ts : List Jvm.Cond) (a : Array Jvm.Value) (st : Jvm.State) : (allAtoms ts).before a st = ts.all (fun c => c.before a st) := by
  induction ts with
  | nil => rfl
  | cons c t ih =>
    show (Jvm.Cond.and c (allAtoms t)).before a st = _
    rw [Jvm.Cond.before_and, ih, List.all_cons]
def words1 : List Jvm.Cond := Jvm.Cond.code x code maxLocals ret :: tables_1
/-- a 'code' word, met by the world's own term for the bytes: nothing is compared byte by byte -/
theorem code_word {y : MethodName} {bytes : ByteArray} {mx : Nat} {rt : Option FieldType} {a : Array Value} {s : State} {m : MethodId} {meth : Method} {c : Code} (h1 : s.methodNamed? y = some m) (h2 : s.vm.method? m = some meth) (h3 : meth.code = some c) (h4 : c.code = bytes)
    (h5 : (c.maxLocals == mx && c.exceptionTable.isEmpty && decide (c.maxStack ≤ mostOperands) && decide (meth.sig.returnType = rt) && !meth.locks && decide (parseMethodDescriptor y.desc = some meth.sig)) = true) : (Jvm.Cond.code y bytes mx rt).before a s = true := by
  simp only [Bool.and_eq_true, beq_iff_eq, Bool.not_eq_true', decide_eq_true_eq] at h5
  obtain ⟨⟨⟨⟨⟨g1, g2⟩, g3⟩, g4⟩, g5⟩, g6⟩ := h5
  simp [Cond.before, Cond.holds, Cond.value, h1, h2, h3, h4, g1, g2, g3, g4, g5, g6]
def isCode : Jvm.Cond → Bool
  | .code _ _ _ _ => true
  | _ => false
theorem all_split {L : List Jvm.Cond} {P : Jvm.Cond → Bool} (h1 : L.all (fun c => isCode c || P c) = true) (h2 : ∀ c ∈ L.filter isCode, P c = true) : L.all P = true := by
  refine List.all_eq_true.mpr fun c hc => ?_
  have h := List.all_eq_true.mp h1 c hc
  rcases Bool.eq_false_or_eq_true (isCode c) with hi | hi
  · exact h2 c (List.mem_filter.mpr ⟨hc, hi⟩)
  · simpa [hi] using h
set_option maxRecDepth 65536 in
theorem w_c0 : (Jvm.Cond.code x code maxLocals ret).before args0 about1 = true := code_word (m := ⟨1, 1⟩) (meth := k1m1) (c := k1c1) (by decide +kernel) rfl rfl rfl (by decide +kernel)
set_option maxRecDepth 65536 in
theorem w_c1 : (Jvm.Cond.code ({ cls := "java/util/ArrayList", name := "<init>", desc := "()V" } : Jvm.MethodName) jdk_38_method_2_code (1 : Nat) (Option.none : Option Jvm.ClassFile.FieldType)).before args0 about1 = true := code_word (m := ⟨15, 0⟩) (meth := k15m0) (c := k15c0) (by decide +kernel) rfl rfl rfl (by decide +kernel)
set_option maxRecDepth 65536 in
theorem w_c2 : (Jvm.Cond.code ({ cls := "java/util/AbstractList", name := "<init>", desc := "()V" } : Jvm.MethodName) jdk_39_method_1_code (1 : Nat) (Option.none : Option Jvm.ClassFile.FieldType)).before args0 about1 = true := code_word (m := ⟨12, 0⟩) (meth := k12m0) (c := k12c0) (by decide +kernel) rfl rfl rfl (by decide +kernel)
set_option maxRecDepth 65536 in
theorem w_c3 : (Jvm.Cond.code ({ cls := "java/util/AbstractCollection", name := "<init>", desc := "()V" } : Jvm.MethodName) jdk_22_method_1_code (1 : Nat) (Option.none : Option Jvm.ClassFile.FieldType)).before args0 about1 = true := code_word (m := ⟨9, 0⟩) (meth := k9m0) (c := k9c0) (by decide +kernel) rfl rfl rfl (by decide +kernel)
set_option maxRecDepth 65536 in
theorem w_c4 : (Jvm.Cond.code ({ cls := "java/lang/Object", name := "<init>", desc := "()V" } : Jvm.MethodName) object_method_1_code (1 : Nat) (Option.none : Option Jvm.ClassFile.FieldType)).before args0 about1 = true := code_word (m := ⟨0, 0⟩) (meth := k0m0) (c := k0c0) (by decide +kernel) rfl rfl rfl (by decide +kernel)
set_option maxRecDepth 65536 in
theorem w_c5 : (Jvm.Cond.code ({ cls := "com/example/restrained_scaler/restrainedscaler/decision/Decider$Demand", name := "<init>", desc := "(JJ)V" } : Jvm.MethodName) prog_16_method_1_code (5 : Nat) (Option.none : Option Jvm.ClassFile.FieldType)).before args0 about1 = true := code_word (m := ⟨17, 0⟩) (meth := k17m0) (c := k17c0) (by decide +kernel) rfl rfl rfl (by decide +kernel)
set_option maxRecDepth 65536 in
theorem w_c6 : (Jvm.Cond.code ({ cls := "java/lang/Record", name := "<init>", desc := "()V" } : Jvm.MethodName) jdk_30_method_1_code (1 : Nat) (Option.none : Option Jvm.ClassFile.FieldType)).before args0 about1 = true := code_word (m := ⟨16, 0⟩) (meth := k16m0) (c := k16c0) (by decide +kernel) rfl rfl rfl (by decide +kernel)
set_option maxRecDepth 65536 in
theorem w_c7 : (Jvm.Cond.code ({ cls := "java/util/ArrayList", name := "add", desc := "(Ljava/lang/Object;)Z" } : Jvm.MethodName) jdk_38_method_25_code (2 : Nat) (Option.some Jvm.ClassFile.FieldType.boolean)).before args0 about1 = true := code_word (m := ⟨15, 4⟩) (meth := k15m4) (c := k15c4) (by decide +kernel) rfl rfl rfl (by decide +kernel)
set_option maxRecDepth 65536 in
theorem w_c8 : (Jvm.Cond.code ({ cls := "java/util/ArrayList", name := "add", desc := "(Ljava/lang/Object;[Ljava/lang/Object;I)V" } : Jvm.MethodName) jdk_38_method_24_code (4 : Nat) (Option.none : Option Jvm.ClassFile.FieldType)).before args0 about1 = true := code_word (m := ⟨15, 3⟩) (meth := k15m3) (c := k15c3) (by decide +kernel) rfl rfl rfl (by decide +kernel)
set_option maxRecDepth 65536 in
theorem w_c9 : (Jvm.Cond.code ({ cls := "java/util/ArrayList", name := "grow", desc := "()[Ljava/lang/Object;" } : Jvm.MethodName) jdk_38_method_7_code (1 : Nat) (Option.some (Jvm.ClassFile.FieldType.array (Jvm.ClassFile.FieldType.object "java/lang/Object")))).before args0 about1 = true := code_word (m := ⟨15, 2⟩) (meth := k15m2) (c := k15c2) (by decide +kernel) rfl rfl rfl (by decide +kernel)
set_option maxRecDepth 65536 in
theorem w_c10 : (Jvm.Cond.code ({ cls := "java/util/ArrayList", name := "grow", desc := "(I)[Ljava/lang/Object;" } : Jvm.MethodName) jdk_38_method_6_code (4 : Nat) (Option.some (Jvm.ClassFile.FieldType.array (Jvm.ClassFile.FieldType.object "java/lang/Object")))).before args0 about1 = true := code_word (m := ⟨15, 1⟩) (meth := k15m1) (c := k15c1) (by decide +kernel) rfl rfl rfl (by decide +kernel)
set_option maxRecDepth 65536 in
theorem w_c11 : (Jvm.Cond.code ({ cls := "java/lang/Math", name := "max", desc := "(II)I" } : Jvm.MethodName) jdk_29_method_65_code (2 : Nat) (Option.some Jvm.ClassFile.FieldType.int)).before args0 about1 = true := code_word (m := ⟨18, 1⟩) (meth := k18m1) (c := k18c1) (by decide +kernel) rfl rfl rfl (by decide +kernel)
set_option maxRecDepth 65536 in
theorem w_c12 : (Jvm.Cond.code ({ cls := "com/example/restrained_scaler/restrainedscaler/decision/StabilizationWindow", name := "<init>", desc := "(JLcom/example/restrained_scaler/restrainedscaler/decision/StabilizationWindow$Kept;Ljava/util/List;)V" } : Jvm.MethodName) prog_24_method_1_code (7 : Nat) (Option.none : Option Jvm.ClassFile.FieldType)).before args0 about1 = true := code_word (m := ⟨19, 0⟩) (meth := k19m0) (c := k19c0) (by decide +kernel) rfl rfl rfl (by decide +kernel)
set_option maxRecDepth 65536 in
theorem w_c13 : (Jvm.Cond.code ({ cls := "java/util/ArrayDeque", name := "<init>", desc := "()V" } : Jvm.MethodName) jdk_21_method_3_code (1 : Nat) (Option.none : Option Jvm.ClassFile.FieldType)).before args0 about1 = true := code_word (m := ⟨22, 0⟩) (meth := k22m0) (c := k22c0) (by decide +kernel) rfl rfl rfl (by decide +kernel)
set_option maxRecDepth 65536 in
theorem w_c14 : (Jvm.Cond.code ({ cls := "java/util/ArrayList", name := "iterator", desc := "()Ljava/util/Iterator;" } : Jvm.MethodName) jdk_38_method_55_code (1 : Nat) (Option.some (Jvm.ClassFile.FieldType.object "java/util/Iterator"))).before args0 about1 = true := code_word (m := ⟨15, 5⟩) (meth := k15m5) (c := k15c5) (by decide +kernel) rfl rfl rfl (by decide +kernel)
set_option maxRecDepth 65536 in
theorem w_c15 : (Jvm.Cond.code ({ cls := "java/util/ArrayList$Itr", name := "<init>", desc := "(Ljava/util/ArrayList;)V" } : Jvm.MethodName) jdk_49_method_1_code (2 : Nat) (Option.none : Option Jvm.ClassFile.FieldType)).before args0 about1 = true := code_word (m := ⟨24, 0⟩) (meth := k24m0) (c := k24c0) (by decide +kernel) rfl rfl rfl (by decide +kernel)
set_option maxRecDepth 65536 in
theorem w_c16 : (Jvm.Cond.code ({ cls := "java/util/ArrayList$Itr", name := "hasNext", desc := "()Z" } : Jvm.MethodName) jdk_49_method_2_code (1 : Nat) (Option.some Jvm.ClassFile.FieldType.boolean)).before args0 about1 = true := code_word (m := ⟨24, 1⟩) (meth := k24m1) (c := k24c1) (by decide +kernel) rfl rfl rfl (by decide +kernel)
set_option maxRecDepth 65536 in
theorem w_c17 : (Jvm.Cond.code ({ cls := "java/util/ArrayList$Itr", name := "next", desc := "()Ljava/lang/Object;" } : Jvm.MethodName) jdk_49_method_3_code (3 : Nat) (Option.some (Jvm.ClassFile.FieldType.object "java/lang/Object"))).before args0 about1 = true := code_word (m := ⟨24, 2⟩) (meth := k24m2) (c := k24c2) (by decide +kernel) rfl rfl rfl (by decide +kernel)
set_option maxRecDepth 65536 in
theorem w_c18 : (Jvm.Cond.code ({ cls := "java/util/ArrayList$Itr", name := "checkForComodification", desc := "()V" } : Jvm.MethodName) jdk_49_method_6_code (1 : Nat) (Option.none : Option Jvm.ClassFile.FieldType)).before args0 about1 = true := code_word (m := ⟨24, 3⟩) (meth := k24m3) (c := k24c3) (by decide +kernel) rfl rfl rfl (by decide +kernel)
set_option maxRecDepth 65536 in
theorem w_c19 : (Jvm.Cond.code ({ cls := "com/example/restrained_scaler/restrainedscaler/decision/StabilizationWindow", name := "keep", desc := "(Lcom/example/restrained_scaler/restrainedscaler/decision/Decider$Demand;)V" } : Jvm.MethodName) prog_24_method_5_code (2 : Nat) (Option.none : Option Jvm.ClassFile.FieldType)).before args0 about1 = true := code_word (m := ⟨19, 3⟩) (meth := k19m3) (c := k19c3) (by decide +kernel) rfl rfl rfl (by decide +kernel)
set_option maxRecDepth 65536 in
theorem w_c20 : (Jvm.Cond.code ({ cls := "java/util/ArrayDeque", name := "isEmpty", desc := "()Z" } : Jvm.MethodName) jdk_21_method_38_code (1 : Nat) (Option.some Jvm.ClassFile.FieldType.boolean)).before args0 about1 = true := code_word (m := ⟨22, 12⟩) (meth := k22m12) (c := k22c12) (by decide +kernel) rfl rfl rfl (by decide +kernel)
set_option maxRecDepth 65536 in
theorem w_c21 : (Jvm.Cond.code ({ cls := "java/util/ArrayDeque", name := "addLast", desc := "(Ljava/lang/Object;)V" } : Jvm.MethodName) jdk_21_method_13_code (3 : Nat) (Option.none : Option Jvm.ClassFile.FieldType)).before args0 about1 = true := code_word (m := ⟨22, 4⟩) (meth := k22m4) (c := k22c4) (by decide +kernel) rfl rfl rfl (by decide +kernel)
set_option maxRecDepth 65536 in
theorem w_c22 : (Jvm.Cond.code ({ cls := "java/util/ArrayDeque", name := "inc", desc := "(II)I" } : Jvm.MethodName) jdk_21_method_6_code (2 : Nat) (Option.some Jvm.ClassFile.FieldType.int)).before args0 about1 = true := code_word (m := ⟨22, 1⟩) (meth := k22m1) (c := k22c1) (by decide +kernel) rfl rfl rfl (by decide +kernel)
set_option maxRecDepth 65536 in
theorem w_c23 : (Jvm.Cond.code ({ cls := "com/example/restrained_scaler/restrainedscaler/decision/StabilizationWindow", name := "demand", desc := "()J" } : Jvm.MethodName) prog_24_method_3_code (1 : Nat) (Option.some Jvm.ClassFile.FieldType.long)).before args0 about1 = true := code_word (m := ⟨19, 2⟩) (meth := k19m2) (c := k19c2) (by decide +kernel) rfl rfl rfl (by decide +kernel)
set_option maxRecDepth 65536 in
theorem w_c24 : (Jvm.Cond.code ({ cls := "java/util/ArrayDeque", name := "getFirst", desc := "()Ljava/lang/Object;" } : Jvm.MethodName) jdk_21_method_22_code (2 : Nat) (Option.some (Jvm.ClassFile.FieldType.object "java/lang/Object"))).before args0 about1 = true := code_word (m := ⟨22, 9⟩) (meth := k22m9) (c := k22c9) (by decide +kernel) rfl rfl rfl (by decide +kernel)
set_option maxRecDepth 65536 in
theorem w_c25 : (Jvm.Cond.code ({ cls := "java/util/ArrayDeque", name := "elementAt", desc := "([Ljava/lang/Object;I)Ljava/lang/Object;" } : Jvm.MethodName) jdk_21_method_10_code (2 : Nat) (Option.some (Jvm.ClassFile.FieldType.object "java/lang/Object"))).before args0 about1 = true := code_word (m := ⟨22, 3⟩) (meth := k22m3) (c := k22c3) (by decide +kernel) rfl rfl rfl (by decide +kernel)
set_option maxRecDepth 65536 in
theorem w_c26 : (Jvm.Cond.code ({ cls := "com/example/restrained_scaler/restrainedscaler/decision/Decider$Demand", name := "desired", desc := "()J" } : Jvm.MethodName) prog_16_method_6_code (1 : Nat) (Option.some Jvm.ClassFile.FieldType.long)).before args0 about1 = true := code_word (m := ⟨17, 2⟩) (meth := k17m2) (c := k17c2) (by decide +kernel) rfl rfl rfl (by decide +kernel)
set_option maxRecDepth 65536 in
theorem w_c27 : (Jvm.Cond.code ({ cls := "com/example/restrained_scaler/restrainedscaler/decision/StabilizationWindow", name := "add", desc := "(JJ)V" } : Jvm.MethodName) prog_24_method_2_code (7 : Nat) (Option.none : Option Jvm.ClassFile.FieldType)).before args0 about1 = true := code_word (m := ⟨19, 1⟩) (meth := k19m1) (c := k19c1) (by decide +kernel) rfl rfl rfl (by decide +kernel)
set_option maxRecDepth 65536 in
theorem w_c28 : (Jvm.Cond.code ({ cls := "java/util/ArrayDeque", name := "peekFirst", desc := "()Ljava/lang/Object;" } : Jvm.MethodName) jdk_21_method_24_code (1 : Nat) (Option.some (Jvm.ClassFile.FieldType.object "java/lang/Object"))).before args0 about1 = true := code_word (m := ⟨22, 10⟩) (meth := k22m10) (c := k22c10) (by decide +kernel) rfl rfl rfl (by decide +kernel)
set_option maxRecDepth 65536 in
theorem w_c29 : (Jvm.Cond.code ({ cls := "com/example/restrained_scaler/restrainedscaler/decision/Decider$Demand", name := "time", desc := "()J" } : Jvm.MethodName) prog_16_method_5_code (1 : Nat) (Option.some Jvm.ClassFile.FieldType.long)).before args0 about1 = true := code_word (m := ⟨17, 1⟩) (meth := k17m1) (c := k17c1) (by decide +kernel) rfl rfl rfl (by decide +kernel)
set_option maxRecDepth 65536 in
theorem w_c30 : (Jvm.Cond.code ({ cls := "java/util/ArrayDeque", name := "removeFirst", desc := "()Ljava/lang/Object;" } : Jvm.MethodName) jdk_21_method_18_code (2 : Nat) (Option.some (Jvm.ClassFile.FieldType.object "java/lang/Object"))).before args0 about1 = true := code_word (m := ⟨22, 5⟩) (meth := k22m5) (c := k22c5) (by decide +kernel) rfl rfl rfl (by decide +kernel)
set_option maxRecDepth 65536 in
theorem w_c31 : (Jvm.Cond.code ({ cls := "java/util/ArrayDeque", name := "pollFirst", desc := "()Ljava/lang/Object;" } : Jvm.MethodName) jdk_21_method_20_code (4 : Nat) (Option.some (Jvm.ClassFile.FieldType.object "java/lang/Object"))).before args0 about1 = true := code_word (m := ⟨22, 7⟩) (meth := k22m7) (c := k22c7) (by decide +kernel) rfl rfl rfl (by decide +kernel)
set_option maxRecDepth 65536 in
theorem w_c32 : (Jvm.Cond.code ({ cls := "com/example/restrained_scaler/restrainedscaler/decision/StabilizationWindowDemandPinLaw", name := "fold", desc := "(ZJZJ)J" } : Jvm.MethodName) method_3_code (6 : Nat) (Option.some Jvm.ClassFile.FieldType.long)).before args0 about1 = true := code_word (m := ⟨1, 2⟩) (meth := k1m2) (c := k1c2) (by decide +kernel) rfl rfl rfl (by decide +kernel)
set_option maxRecDepth 65536 in
theorem w_c33 : (Jvm.Cond.code ({ cls := "java/util/ArrayDeque", name := "peekLast", desc := "()Ljava/lang/Object;" } : Jvm.MethodName) jdk_21_method_25_code (2 : Nat) (Option.some (Jvm.ClassFile.FieldType.object "java/lang/Object"))).before args0 about1 = true := code_word (m := ⟨22, 11⟩) (meth := k22m11) (c := k22c11) (by decide +kernel) rfl rfl rfl (by decide +kernel)
set_option maxRecDepth 65536 in
theorem w_c34 : (Jvm.Cond.code ({ cls := "java/util/ArrayDeque", name := "dec", desc := "(II)I" } : Jvm.MethodName) jdk_21_method_7_code (2 : Nat) (Option.some Jvm.ClassFile.FieldType.int)).before args0 about1 = true := code_word (m := ⟨22, 2⟩) (meth := k22m2) (c := k22c2) (by decide +kernel) rfl rfl rfl (by decide +kernel)
set_option maxRecDepth 65536 in
theorem w_c35 : (Jvm.Cond.code ({ cls := "com/example/restrained_scaler/restrainedscaler/decision/StabilizationWindow", name := "outdone", desc := "(Lcom/example/restrained_scaler/restrainedscaler/decision/Decider$Demand;Lcom/example/restrained_scaler/restrainedscaler/decision/Decider$Demand;)Z" } : Jvm.MethodName) prog_24_method_6_code (3 : Nat) (Option.some Jvm.ClassFile.FieldType.boolean)).before args0 about1 = true := code_word (m := ⟨19, 4⟩) (meth := k19m4) (c := k19c4) (by decide +kernel) rfl rfl rfl (by decide +kernel)
set_option maxRecDepth 65536 in
theorem w_c36 : (Jvm.Cond.code ({ cls := "java/util/ArrayDeque", name := "removeLast", desc := "()Ljava/lang/Object;" } : Jvm.MethodName) jdk_21_method_19_code (2 : Nat) (Option.some (Jvm.ClassFile.FieldType.object "java/lang/Object"))).before args0 about1 = true := code_word (m := ⟨22, 6⟩) (meth := k22m6) (c := k22c6) (by decide +kernel) rfl rfl rfl (by decide +kernel)
set_option maxRecDepth 65536 in
theorem w_c37 : (Jvm.Cond.code ({ cls := "java/util/ArrayDeque", name := "pollLast", desc := "()Ljava/lang/Object;" } : Jvm.MethodName) jdk_21_method_21_code (4 : Nat) (Option.some (Jvm.ClassFile.FieldType.object "java/lang/Object"))).before args0 about1 = true := code_word (m := ⟨22, 8⟩) (meth := k22m8) (c := k22c8) (by decide +kernel) rfl rfl rfl (by decide +kernel)
set_option maxRecDepth 65536 in
theorem w_c38 : (Jvm.Cond.code ({ cls := "java/lang/Math", name := "max", desc := "(JJ)J" } : Jvm.MethodName) jdk_29_method_66_code (4 : Nat) (Option.some Jvm.ClassFile.FieldType.long)).before args0 about1 = true := code_word (m := ⟨18, 2⟩) (meth := k18m2) (c := k18c2) (by decide +kernel) rfl rfl rfl (by decide +kernel)
set_option maxRecDepth 65536 in
theorem w_c39 : (Jvm.Cond.code ({ cls := "java/lang/Math", name := "min", desc := "(JJ)J" } : Jvm.MethodName) jdk_29_method_70_code (4 : Nat) (Option.some Jvm.ClassFile.FieldType.long)).before args0 about1 = true := code_word (m := ⟨18, 3⟩) (meth := k18m3) (c := k18c3) (by decide +kernel) rfl rfl rfl (by decide +kernel)
def codes1 : List Jvm.Cond := [Jvm.Cond.code x code maxLocals ret, Jvm.Cond.code ({ cls := "java/util/ArrayList", name := "<init>", desc := "()V" } : Jvm.MethodName) jdk_38_method_2_code (1 : Nat) (Option.none : Option Jvm.ClassFile.FieldType), Jvm.Cond.code ({ cls := "java/util/AbstractList", name := "<init>", desc := "()V" } : Jvm.MethodName) jdk_39_method_1_code (1 : Nat) (Option.none : Option Jvm.ClassFile.FieldType), Jvm.Cond.code ({ cls := "java/util/AbstractCollection", name := "<init>", desc := "()V" } : Jvm.MethodName) jdk_22_method_1_code (1 : Nat) (Option.none : Option Jvm.ClassFile.FieldType), Jvm.Cond.code ({ cls := "java/lang/Object", name := "<init>", desc := "()V" } : Jvm.MethodName) object_method_1_code (1 : Nat) (Option.none : Option Jvm.ClassFile.FieldType), Jvm.Cond.code ({ cls := "com/example/restrained_scaler/restrainedscaler/decision/Decider$Demand", name := "<init>", desc := "(JJ)V" } : Jvm.MethodName) prog_16_method_1_code (5 : Nat) (Option.none : Option Jvm.ClassFile.FieldType), Jvm.Cond.code ({ cls := "java/lang/Record", name := "<init>", desc := "()V" } : Jvm.MethodName) jdk_30_method_1_code (1 : Nat) (Option.none : Option Jvm.ClassFile.FieldType), Jvm.Cond.code ({ cls := "java/util/ArrayList", name := "add", desc := "(Ljava/lang/Object;)Z" } : Jvm.MethodName) jdk_38_method_25_code (2 : Nat) (Option.some Jvm.ClassFile.FieldType.boolean), Jvm.Cond.code ({ cls := "java/util/ArrayList", name := "add", desc := "(Ljava/lang/Object;[Ljava/lang/Object;I)V" } : Jvm.MethodName) jdk_38_method_24_code (4 : Nat) (Option.none : Option Jvm.ClassFile.FieldType), Jvm.Cond.code ({ cls := "java/util/ArrayList", name := "grow", desc := "()[Ljava/lang/Object;" } : Jvm.MethodName) jdk_38_method_7_code (1 : Nat) (Option.some (Jvm.ClassFile.FieldType.array (Jvm.ClassFile.FieldType.object "java/lang/Object"))), Jvm.Cond.code ({ cls := "java/util/ArrayList", name := "grow", desc := "(I)[Ljava/lang/Object;" } : Jvm.MethodName) jdk_38_method_6_code (4 : Nat) (Option.some (Jvm.ClassFile.FieldType.array (Jvm.ClassFile.FieldType.object "java/lang/Object"))), Jvm.Cond.code ({ cls := "java/lang/Math", name := "max", desc := "(II)I" } : Jvm.MethodName) jdk_29_method_65_code (2 : Nat) (Option.some Jvm.ClassFile.FieldType.int), Jvm.Cond.code ({ cls := "com/example/restrained_scaler/restrainedscaler/decision/StabilizationWindow", name := "<init>", desc := "(JLcom/example/restrained_scaler/restrainedscaler/decision/StabilizationWindow$Kept;Ljava/util/List;)V" } : Jvm.MethodName) prog_24_method_1_code (7 : Nat) (Option.none : Option Jvm.ClassFile.FieldType), Jvm.Cond.code ({ cls := "java/util/ArrayDeque", name := "<init>", desc := "()V" } : Jvm.MethodName) jdk_21_method_3_code (1 : Nat) (Option.none : Option Jvm.ClassFile.FieldType), Jvm.Cond.code ({ cls := "java/util/ArrayList", name := "iterator", desc := "()Ljava/util/Iterator;" } : Jvm.MethodName) jdk_38_method_55_code (1 : Nat) (Option.some (Jvm.ClassFile.FieldType.object "java/util/Iterator")), Jvm.Cond.code ({ cls := "java/util/ArrayList$Itr", name := "<init>", desc := "(Ljava/util/ArrayList;)V" } : Jvm.MethodName) jdk_49_method_1_code (2 : Nat) (Option.none : Option Jvm.ClassFile.FieldType), Jvm.Cond.code ({ cls := "java/util/ArrayList$Itr", name := "hasNext", desc := "()Z" } : Jvm.MethodName) jdk_49_method_2_code (1 : Nat) (Option.some Jvm.ClassFile.FieldType.boolean), Jvm.Cond.code ({ cls := "java/util/ArrayList$Itr", name := "next", desc := "()Ljava/lang/Object;" } : Jvm.MethodName) jdk_49_method_3_code (3 : Nat) (Option.some (Jvm.ClassFile.FieldType.object "java/lang/Object")), Jvm.Cond.code ({ cls := "java/util/ArrayList$Itr", name := "checkForComodification", desc := "()V" } : Jvm.MethodName) jdk_49_method_6_code (1 : Nat) (Option.none : Option Jvm.ClassFile.FieldType), Jvm.Cond.code ({ cls := "com/example/restrained_scaler/restrainedscaler/decision/StabilizationWindow", name := "keep", desc := "(Lcom/example/restrained_scaler/restrainedscaler/decision/Decider$Demand;)V" } : Jvm.MethodName) prog_24_method_5_code (2 : Nat) (Option.none : Option Jvm.ClassFile.FieldType), Jvm.Cond.code ({ cls := "java/util/ArrayDeque", name := "isEmpty", desc := "()Z" } : Jvm.MethodName) jdk_21_method_38_code (1 : Nat) (Option.some Jvm.ClassFile.FieldType.boolean), Jvm.Cond.code ({ cls := "java/util/ArrayDeque", name := "addLast", desc := "(Ljava/lang/Object;)V" } : Jvm.MethodName) jdk_21_method_13_code (3 : Nat) (Option.none : Option Jvm.ClassFile.FieldType), Jvm.Cond.code ({ cls := "java/util/ArrayDeque", name := "inc", desc := "(II)I" } : Jvm.MethodName) jdk_21_method_6_code (2 : Nat) (Option.some Jvm.ClassFile.FieldType.int), Jvm.Cond.code ({ cls := "com/example/restrained_scaler/restrainedscaler/decision/StabilizationWindow", name := "demand", desc := "()J" } : Jvm.MethodName) prog_24_method_3_code (1 : Nat) (Option.some Jvm.ClassFile.FieldType.long), Jvm.Cond.code ({ cls := "java/util/ArrayDeque", name := "getFirst", desc := "()Ljava/lang/Object;" } : Jvm.MethodName) jdk_21_method_22_code (2 : Nat) (Option.some (Jvm.ClassFile.FieldType.object "java/lang/Object")), Jvm.Cond.code ({ cls := "java/util/ArrayDeque", name := "elementAt", desc := "([Ljava/lang/Object;I)Ljava/lang/Object;" } : Jvm.MethodName) jdk_21_method_10_code (2 : Nat) (Option.some (Jvm.ClassFile.FieldType.object "java/lang/Object")), Jvm.Cond.code ({ cls := "com/example/restrained_scaler/restrainedscaler/decision/Decider$Demand", name := "desired", desc := "()J" } : Jvm.MethodName) prog_16_method_6_code (1 : Nat) (Option.some Jvm.ClassFile.FieldType.long), Jvm.Cond.code ({ cls := "com/example/restrained_scaler/restrainedscaler/decision/StabilizationWindow", name := "add", desc := "(JJ)V" } : Jvm.MethodName) prog_24_method_2_code (7 : Nat) (Option.none : Option Jvm.ClassFile.FieldType), Jvm.Cond.code ({ cls := "java/util/ArrayDeque", name := "peekFirst", desc := "()Ljava/lang/Object;" } : Jvm.MethodName) jdk_21_method_24_code (1 : Nat) (Option.some (Jvm.ClassFile.FieldType.object "java/lang/Object")), Jvm.Cond.code ({ cls := "com/example/restrained_scaler/restrainedscaler/decision/Decider$Demand", name := "time", desc := "()J" } : Jvm.MethodName) prog_16_method_5_code (1 : Nat) (Option.some Jvm.ClassFile.FieldType.long), Jvm.Cond.code ({ cls := "java/util/ArrayDeque", name := "removeFirst", desc := "()Ljava/lang/Object;" } : Jvm.MethodName) jdk_21_method_18_code (2 : Nat) (Option.some (Jvm.ClassFile.FieldType.object "java/lang/Object")), Jvm.Cond.code ({ cls := "java/util/ArrayDeque", name := "pollFirst", desc := "()Ljava/lang/Object;" } : Jvm.MethodName) jdk_21_method_20_code (4 : Nat) (Option.some (Jvm.ClassFile.FieldType.object "java/lang/Object")), Jvm.Cond.code ({ cls := "com/example/restrained_scaler/restrainedscaler/decision/StabilizationWindowDemandPinLaw", name := "fold", desc := "(ZJZJ)J" } : Jvm.MethodName) method_3_code (6 : Nat) (Option.some Jvm.ClassFile.FieldType.long), Jvm.Cond.code ({ cls := "java/util/ArrayDeque", name := "peekLast", desc := "()Ljava/lang/Object;" } : Jvm.MethodName) jdk_21_method_25_code (2 : Nat) (Option.some (Jvm.ClassFile.FieldType.object "java/lang/Object")), Jvm.Cond.code ({ cls := "java/util/ArrayDeque", name := "dec", desc := "(II)I" } : Jvm.MethodName) jdk_21_method_7_code (2 : Nat) (Option.some Jvm.ClassFile.FieldType.int), Jvm.Cond.code ({ cls := "com/example/restrained_scaler/restrainedscaler/decision/StabilizationWindow", name := "outdone", desc := "(Lcom/example/restrained_scaler/restrainedscaler/decision/Decider$Demand;Lcom/example/restrained_scaler/restrainedscaler/decision/Decider$Demand;)Z" } : Jvm.MethodName) prog_24_method_6_code (3 : Nat) (Option.some Jvm.ClassFile.FieldType.boolean), Jvm.Cond.code ({ cls := "java/util/ArrayDeque", name := "removeLast", desc := "()Ljava/lang/Object;" } : Jvm.MethodName) jdk_21_method_19_code (2 : Nat) (Option.some (Jvm.ClassFile.FieldType.object "java/lang/Object")), Jvm.Cond.code ({ cls := "java/util/ArrayDeque", name := "pollLast", desc := "()Ljava/lang/Object;" } : Jvm.MethodName) jdk_21_method_21_code (4 : Nat) (Option.some (Jvm.ClassFile.FieldType.object "java/lang/Object")), Jvm.Cond.code ({ cls := "java/lang/Math", name := "max", desc := "(JJ)J" } : Jvm.MethodName) jdk_29_method_66_code (4 : Nat) (Option.some Jvm.ClassFile.FieldType.long), Jvm.Cond.code ({ cls := "java/lang/Math", name := "min", desc := "(JJ)J" } : Jvm.MethodName) jdk_29_method_70_code (4 : Nat) (Option.some Jvm.ClassFile.FieldType.long)]
set_option maxRecDepth 65536 in
theorem codes_eq : words1.filter isCode = codes1 := rfl
theorem w_codes : ∀ c ∈ words1.filter isCode, c.before args0 about1 = true := by
  rw [codes_eq]
  intro c hc
  simp only [codes1, List.mem_cons, List.not_mem_nil, or_false] at hc
  rcases hc with rfl | rfl | rfl | rfl | rfl | rfl | rfl | rfl | rfl | rfl | rfl | rfl | rfl | rfl | rfl | rfl | rfl | rfl | rfl | rfl | rfl | rfl | rfl | rfl | rfl | rfl | rfl | rfl | rfl | rfl | rfl | rfl | rfl | rfl | rfl | rfl | rfl | rfl | rfl | rfl
  · exact w_c0
  · exact w_c1
  · exact w_c2
  · exact w_c3
  · exact w_c4
  · exact w_c5
  · exact w_c6
  · exact w_c7
  · exact w_c8
  · exact w_c9
  · exact w_c10
  · exact w_c11
  · exact w_c12
  · exact w_c13
  · exact w_c14
  · exact w_c15
  · exact w_c16
  · exact w_c17
  · exact w_c18
  · exact w_c19
  · exact w_c20
  · exact w_c21
  · exact w_c22
  · exact w_c23
  · exact w_c24
  · exact w_c25
  · exact w_c26
  · exact w_c27
  · exact w_c28
  · exact w_c29
  · exact w_c30
  · exact w_c31
  · exact w_c32
  · exact w_c33
  · exact w_c34
  · exact w_c35
  · exact w_c36
  · exact w_c37
  · exact w_c38
  · exact w_c39
set_option maxRecDepth 65536 in
theorem w_t1 : (words1.take 24).all (fun c => isCode c || c.before args0 about1) = true := by decide +kernel
set_option maxRecDepth 65536 in
theorem w_t2 : ((words1.drop 24).take 24).all (fun c => isCode c || c.before args0 about1) = true := by decide +kernel
set_option maxRecDepth 65536 in
theorem w_t3 : (((words1.drop 24).drop 24).take 24).all (fun c => isCode c || c.before args0 about1) = true := by decide +kernel
set_option maxRecDepth 65536 in
theorem w_t4 : ((((words1.drop 24).drop 24).drop 24).take 24).all (fun c => isCode c || c.before args0 about1) = true := by decide +kernel
set_option maxRecDepth 65536 in
theorem w_t5 : (((((words1.drop 24).drop 24).drop 24).drop 24).take 24).all (fun c => isCode c || c.before args0 about1) = true := by decide +kernel
set_option maxRecDepth 65536 in
theorem w_t6 : ((((((words1.drop 24).drop 24).drop 24).drop 24).drop 24).take 24).all (fun c => isCode c || c.before args0 about1) = true := by decide +kernel
set_option maxRecDepth 65536 in
theorem w_t7 : (((((((words1.drop 24).drop 24).drop 24).drop 24).drop 24).drop 24).take 24).all (fun c => isCode c || c.before args0 about1) = true := by decide +kernel
set_option maxRecDepth 65536 in
theorem w_t8 : ((((((((words1.drop 24).drop 24).drop 24).drop 24).drop 24).drop 24).drop 24).take 24).all (fun c => isCode c || c.before args0 about1) = true := by decide +kernel
set_option maxRecDepth 65536 in
theorem w_t9 : (((((((((words1.drop 24).drop 24).drop 24).drop 24).drop 24).drop 24).drop 24).drop 24).take 24).all (fun c => isCode c || c.before args0 about1) = true := by decide +kernel
set_option maxRecDepth 65536 in
theorem w_t10 : ((((((((((words1.drop 24).drop 24).drop 24).drop 24).drop 24).drop 24).drop 24).drop 24).drop 24).take 24).all (fun c => isCode c || c.before args0 about1) = true := by decide +kernel
set_option maxRecDepth 65536 in
theorem w_t11 : (((((((((((words1.drop 24).drop 24).drop 24).drop 24).drop 24).drop 24).drop 24).drop 24).drop 24).drop 24).take 24).all (fun c => isCode c || c.before args0 about1) = true := by decide +kernel
set_option maxRecDepth 65536 in
theorem w_t12 : (((((((((((words1.drop 24).drop 24).drop 24).drop 24).drop 24).drop 24).drop 24).drop 24).drop 24).drop 24).drop 24).all (fun c => isCode c || c.before args0 about1) = true := by decide +kernel
theorem w_tables : (allAtoms (Jvm.Cond.code x code maxLocals ret :: tables_1)).before args0 about1 = true := by
  rw [allAtoms_all]
  show words1.all (fun c => c.before args0 about1) = true
  refine all_split ?_ w_codes
  rw [← List.take_append_drop 24 words1, List.all_append, w_t1, ← List.take_append_drop 24 (words1.drop 24), List.all_append, w_t2, ← List.take_append_drop 24 ((words1.drop 24).drop 24), List.all_append, w_t3, ← List.take_append_drop 24 (((words1.drop 24).drop 24).drop 24), List.all_append, w_t4, ← List.take_append_drop 24 ((((words1.drop 24).drop 24).drop 24).drop 24), List.all_append, w_t5, ← List.take_append_drop 24 (((((words1.drop 24).drop 24).drop 24).drop 24).drop 24), List.all_append, w_t6, ← List.take_append_drop 24 ((((((words1.drop 24).drop 24).drop 24).drop 24).drop 24).drop 24), List.all_append, w_t7, ← List.take_append_drop 24 (((((((words1.drop 24).drop 24).drop 24).drop 24).drop 24).drop 24).drop 24), List.all_append, w_t8, ← List.take_append_drop 24 ((((((((words1.drop 24).drop 24).drop 24).drop 24).drop 24).drop 24).drop 24).drop 24), List.all_append, w_t9, ← List.take_append_drop 24 (((((((((words1.drop 24).drop 24).drop 24).drop 24).drop 24).drop 24).drop 24).drop 24).drop 24), List.all_append, w_t10, ← List.take_append_drop 24 ((((((((((words1.drop 24).drop 24).drop 24).drop 24).drop 24).drop 24).drop 24).drop 24).drop 24).drop 24), List.all_append, w_t11, w_t12]
  rfl
set_option maxRecDepth 65536 in
theorem w_rest : rest_1_c.before args0 about1 = true := by decide +kernel
set_option maxRecDepth 65536 in
theorem w_case : (Jvm.Cond.and given_1 narrow_1).before args0 about1 = true := by decide +kernel
theorem w_applies : (headSpec (Jvm.Cond.code x code maxLocals ret :: tables_1) room_1).applies x e0.platform about1 = true :=
  (Spec.applies_iff w_frames).mpr ⟨w_running, w_runnable, w_alone, w_named, w_hears, w_ripe, w_room, w_tables⟩
theorem atStart : AtStart classFile x code maxLocals ret World_1 tables_1 room_1 Calls_1 rest_1 Pre_1 launch0 p0 e0 about1 theMethod args0 below0 :=
  ⟨lists_1, trivial, launch0.admits_env _ _ _, launch0.least_env, fairChoices_fair.cas, fairChoices_fair.clock, w_frames, w_args, w_heap, w_applies, trivial, w_rest, w_case⟩
end start1
theorem witness_1 : WitnessClaimed_1 := ⟨start1.p0, start1.e0, start1.about1, start1.theMethod, start1.args0, start1.below0, start1.atStart⟩
end Jvm.Pilot.@@N@@
