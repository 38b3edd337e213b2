import JvmDerived
import JvmDerived.Pilot.@@N@@Statement
import JvmDerived.Pilot.@@N@@Code
set_option linter.unusedVariables false
set_option linter.unusedSimpArgs false
@@BLOCK:Masks.lean.txt@@
namespace Jvm.Pilot.@@N@@
open Jvm Jvm.ClassFile Sem Op Lib Jvm.Free Jvm.Stand Jvm.LawKit Jvm.RoadKit Bundle Jvm.Pilot.@@N@@.Jvm.D
section Own
variable {p : Program} {l : Launch} {e : Env} {R : Room} {s : State} {m : MethodId} {args : Array Value} {below : List Frame} {meth : Method} {c : Code} {T : State} {locs : List Loc} {cells slots : Nat} {Z : State} {h h' : Heap}
/-- the run goes on from S to a state of which F holds -/
def Goes (tb : Tables) (e : Env) (below : List Frame) (F : State → Prop) (S : State) : Prop := ∃ t, Steps tb e below S t ∧ F t
theorem Goes.via {tb : Tables} {F : State → Prop} {S S' : State} (q : ∀ t, Steps tb e below S' t → Steps tb e below S t) (g : Goes tb e below F S') : Goes tb e below F S := by
  obtain ⟨t, a, b⟩ := g
  exact ⟨t, q t a, b⟩
/-- what a body leaves -/
def Fin (s : State) (below : List Frame) (Q : Option Value → Heap → List Loc → Prop) (C S : Nat) (t : State) : Prop := ∃ o, t.status = .running ∧ Ended t below o ∧ ∃ v L, o = .returned v ∧ Q v t.heap L ∧ FrameEnd s o t L C S
theorem own_start {tb : Tables} {Q : Option Value → Heap → List Loc → Prop} {C S : Nat} {S0 : State} (g : Goes tb e below (Fin s below Q C S) S0) : ∃ s₂ o, Steps tb e below S0 s₂ ∧ s₂.status = .running ∧ Ended s₂ below o ∧ ∃ v L, o = .returned v ∧ Q v s₂.heap L ∧ FrameEnd s o s₂ L C S := by
  obtain ⟨t, a, o, b, d, r⟩ := g
  exact ⟨t, o, a, b, d, r⟩
theorem own_ret (X : Stand p l e R s m args below meth c T locs cells slots) (hx : p.tables.exec = Jvm.exec) {pc : Nat} {Ls : Array Slot} {w : Value} {t : FieldType} {i : Instr} {rest : List Value} (hlk : meth.locks = false) (hret : meth.sig.returnType = some t) (hn : narrow t w = w)
    (hi : (i = .ireturn ∧ (t = .int ∨ t = .boolean ∨ t = .byte ∨ t = .char ∨ t = .short) ∧ ∃ z, w = .int z) ∨ (i = .lreturn ∧ t = .long ∧ ∃ z, w = .long z) ∨ (i = .dreturn ∧ t = .double ∧ ∃ z, w = .double z) ∨ (i = .freturn ∧ t = .float ∧ ∃ z, w = .float z) ∨ (i = .areturn ∧ t.isReference = true ∧ w.isRef = true))
    (hd : decode c.code pc = .ok (i, 1)) {Q : Option Value → Heap → List Loc → Prop} {C S : Nat} (eT : T.heap = h) (hQ : Q (some w) h locs) (hc : cells ≤ C) (hs : slots ≤ S) : Goes p.tables e below (Fin s below Q C S) (T.setTop (mkF m pc Ls (w :: rest))) := by
  obtain ⟨fs, hr, hrun, hended, hW, hsame⟩ := X.leave (v := some w) (fun q => by rw [hret] at q; cases q) hlk
  exact ⟨_, retOut X hx hret hn hi hd hr, _, hrun, hended, _, _, rfl, (by show Q (some w) T.heap locs; rw [eT]; exact hQ), ⟨_, rfl⟩, hW, hsame.mono hc hs⟩
theorem own_retV (X : Stand p l e R s m args below meth c T locs cells slots) (hx : p.tables.exec = Jvm.exec) {pc : Nat} {Ls : Array Slot} (hlk : meth.locks = false) (hret : meth.sig.returnType = none)
    (hd : decode c.code pc = .ok (.return_, 1)) {Q : Option Value → Heap → List Loc → Prop} {C S : Nat} (eT : T.heap = h) (hQ : Q none h locs) (hc : cells ≤ C) (hs : slots ≤ S) : Goes p.tables e below (Fin s below Q C S) (T.setTop (mkF m pc Ls [])) := by
  obtain ⟨fs, hr, hrun, hended, hW, hsame⟩ := X.leave (v := none) (fun _ => rfl) hlk
  exact ⟨_, X.returnOut hx hret hd hr, _, hrun, hended, _, _, rfl, (by show Q none T.heap locs; rw [eT]; exact hQ), ⟨_, rfl⟩, hW, hsame.mono hc hs⟩
theorem own_b1 {P : Prop} [Decidable P] {v : Int32} (hv : v = if P then 1 else 0) (q : P) : ¬ v = 0 := by rw [hv, if_pos q]; decide
theorem own_b0 {P : Prop} [Decidable P] {v : Int32} (hv : v = if P then 1 else 0) (q : ¬ P) : v = 0 := by rw [hv, if_neg q]
theorem own_beq {P P' : Prop} [Decidable P] [Decidable P'] {v v' : Int32} (hv : v = if P then 1 else 0) (hv' : v' = if P' then 1 else 0) (q : P ↔ P') : v = v' := by rw [hv, hv']; simp [q]
theorem own_nb {P : Prop} [Decidable P] {v : Int32} (hv : v = if P then 1 else 0) : narrow .boolean (.int v) = .int v := by rw [hv]; split <;> rfl
theorem own_nb2 {P : Prop} [Decidable P] {v : Int32} (hv : v = if P then 1 else 0) : nar .boolean v = v := by rw [hv]; split <;> rfl
theorem own_lt {x y : Int64} (q : x < y) : lcmpW x y < 0 := (lw_lt x y).mpr q
theorem own_nlt {x y : Int64} (q : ¬ x < y) : ¬ lcmpW x y < 0 := fun r => q ((lw_lt x y).mp r)
theorem own_gt {x y : Int64} (q : y < x) : 0 < lcmpW x y := (lw_gt x y).mpr q
theorem own_ngt {x y : Int64} (q : ¬ y < x) : ¬ 0 < lcmpW x y := fun r => q ((lw_gt x y).mp r)
theorem own_eq {x y : Int64} (q : x = y) : lcmpW x y = 0 := (lw_eq x y).mpr q
theorem own_neq {x y : Int64} (q : ¬ x = y) : ¬ lcmpW x y = 0 := fun r => q ((lw_eq x y).mp r)
theorem own_staKeep {C n d : String} {v : Value} {ws : List Addr} (F : Sta Z h C n d v) (K : Keep h h' ws) (q : ∀ x ∈ ws, ∀ cc : Cell, h[x]? = some cc → cc.vm.isStatics = false) : Sta Z h' C n d v := by
  obtain ⟨cf, i, k, f, st, cell, h1, h2, h3, h4, h5, h6, h7⟩ := F
  exact ⟨cf, i, k, f, st, cell, h1, h2, h3, h4, K.2.1 st cell h5 (fun r => by rw [q st r cell h5] at h6; cases h6), h6, h7⟩
theorem own_nst {a : Addr} {C : String} (F : Exa Z h a C) : ∀ cc : Cell, h[a]? = some cc → cc.vm.isStatics = false := fun cc q => by
  obtain ⟨c1, k, h1, -, -, h4, -⟩ := F
  cases h1.symm.trans q
  exact h4
theorem own_nstV {a : Addr} {k : ClassId} {ty : FieldType} {n : Int32} {vs : List Value} {dv : Value} (F : Arv Z h a k ty n vs dv) : ∀ cc : Cell, h[a]? = some cc → cc.vm.isStatics = false := fun cc q => by
  obtain ⟨c1, A, -⟩ := F
  cases A.1.symm.trans q
  exact A.plain
theorem own_fval {a : Addr} {C n d : String} {v w : Value} (q : v = w) (F : Fld Z h a C n d v) : Fld Z h a C n d w := q ▸ F
theorem own_exS {a0 : Array Value} {C n d K : String} (q : (Cond.exactly (Term.static C n d) K).value a0 Z none Z [] = some true) (wi : (Cond.initialized C).before a0 Z = true) (wl : (Cond.laysStatic C n d).before a0 Z = true) : ∃ a, Sta Z Z.heap C n d (.ref a) ∧ Exa Z Z.heap a K ∧ (Term.static C n d).eval a0 Z none [] Z = some (.ref a) := by
  obtain ⟨a, c', cell, k, e1, -⟩ := Cond.exactly_spec (Cond.before_iff.mpr q)
  exact ⟨a, Sta.start e1 (Or.inr ⟨wi, wl⟩), Exa.start e1 q, e1⟩
theorem own_eqI {a0 : Array Value} {t : Term} {k : Int32} (q : (Cond.eq t (Term.int k)).value a0 Z none Z [] = some true) : t.eval a0 Z none [] Z = some (.int k) := by
  simp only [Cond.value] at q
  split at q <;> simp_all [Term.int_eval]
theorem own_fldI {a0 : Array Value} {t : Term} {O n d : String} {k : Int32} {a : Addr} (ev : t.eval a0 Z none [] Z = some (.ref a)) (q : (Cond.eq (Term.field t O n d) (Term.int k)).value a0 Z none Z [] = some true) : Fld Z Z.heap a O n d (.int k) := by
  have r : (Term.field t O n d).eval a0 Z none [] Z = some (.int k) := own_eqI q
  refine Fld.start ?_
  simpa [Term.eval, ev] using r
theorem own_intne {x y : Int32} (q : ¬ x = y) : Value.int x ≠ Value.int y := fun r => q (Value.int.inj r)
theorem own_fldN {a0 : Array Value} {t : Term} {O n d : String} {a : Addr} (ev : t.eval a0 Z none [] Z = some (.ref a)) (q : (Cond.eq (Term.field t O n d) Term.null).value a0 Z none Z [] = some true) : Fld Z Z.heap a O n d .null := by
  have r : (Term.field t O n d).eval a0 Z none [] Z = some .null := by
    have e0 : Term.null.eval a0 Z none [] Z = some .null := rfl
    simp only [Cond.value, e0] at q
    split at q <;> simp_all
  refine Fld.start ?_
  simpa [Term.eval, ev] using r
theorem own_nz {x : Int32} (q : x = 0 ∨ x = 1) : narrow .boolean (.int x) = .int x := by rcases q with rfl | rfl <;> rfl
theorem own_fz {x : Int32} (q : x = 0 ∨ x = 1) : fits .boolean (.int x) = true := by rcases q with rfl | rfl <;> rfl
theorem own_b01 {P : Prop} [Decidable P] {v : Int32} (hv : v = if P then 1 else 0) : v = 0 ∨ v = 1 := by rw [hv]; split <;> simp
theorem own_narR {C : String} {v : Value} (q : v.isRef = true) : narrow (.object C) v = v := by rcases ref_cases q with r | ⟨_, r⟩ <;> rw [r] <;> rfl
theorem own_fitR {C : String} {v : Value} (q : v.isRef = true) : fits (.object C) v = true := by rcases ref_cases q with r | ⟨_, r⟩ <;> rw [r] <;> rfl
theorem own_lenAt {a0 : Array Value} {t : Term} {k : Int32} {a : Addr} {cl : Cell} (ev : t.eval a0 Z none [] Z = some (.ref a)) (hA : Z.arrayAt? a = some cl) (q : (Term.length t).eval a0 Z none [] Z = some (.int k)) : cl.slots.size < 2 ^ 31 ∧ cl.slots.size.toInt32 = k := by
  by_cases hl : cl.slots.size < 2 ^ 31
  · rw [len_f ev hA hl] at q
    exact ⟨hl, Value.int.inj (Option.some.inj q)⟩
  · simp [Term.eval, ev, hA, hl] at q
end Own
theorem own_lsw {tb : Tables} [Ours tb] {e : Env} {below : List Frame} {T target : State} {m : MethodId} {c : Code} {g : JFrame} (h : At T m c below) (hx : tb.exec = Jvm.exec) (hg : g.method = m) {dflt : Int} {prs : Array (Int × Int)} {len : Nat} {o : Int} {pc0 pc' : Nat} (hpc : g.pc = pc0) (hd : decode c.code g.pc = .ok (.lookupswitch dflt prs, len)) {i : Int32} {rest : List Value} (hs : g.stack = .int i :: rest)
    (hsort : ∀ (a b a_1 b_1 : Int), ((a, b), a_1, b_1) ∈ prs.toList.zip prs.toList.tail → a < a_1) (hoff : lookupswitch.offset prs.toList dflt i.toInt = o) (ho : 0 ≤ (pc0 : Int) + o) (hp : ((pc0 : Int) + o).toNat = pc')
    (hr : Steps tb e below (T.setTop { g with pc := pc', stack := rest }) target) : Steps tb e below (T.setTop g) target := by
  subst hg hpc hp hoff
  jvm_step h [h.top, hx, hd, hs, ho, lookupswitch.wp_chain]
  exact ⟨hsort, hr⟩
theorem own_sort : ∀ (a b a_1 b_1 : Int), ((a, b), a_1, b_1) ∈ (#[(10, 67), (11, 67), (12, 67), (13, 67), (133, 67), (8232, 67), (8233, 67)] : Array (Int × Int)).toList.zip (#[(10, 67), (11, 67), (12, 67), (13, 67), (133, 67), (8232, 67), (8233, 67)] : Array (Int × Int)).toList.tail → a < a_1 := by
  intro a b c d q
  simp at q
  omega
theorem own_off1 {i : Int32} (h : ((i = 10) ∨ ((i = 11) ∨ ((i = 12) ∨ ((i = 13) ∨ ((i = 133) ∨ ((i = 8232) ∨ (i = 8233)))))))) : lookupswitch.offset #[(10, 67), (11, 67), (12, 67), (13, 67), (133, 67), (8232, 67), (8233, 67)].toList 71 i.toInt = 67 := by
  rcases h with rfl | rfl | rfl | rfl | rfl | rfl | rfl <;> decide
theorem own_off0 {i : Int32} (h : ¬ ((i = 10) ∨ ((i = 11) ∨ ((i = 12) ∨ ((i = 13) ∨ ((i = 133) ∨ ((i = 8232) ∨ (i = 8233)))))))) : lookupswitch.offset #[(10, 67), (11, 67), (12, 67), (13, 67), (133, 67), (8232, 67), (8233, 67)].toList 71 i.toInt = 71 := by
  have c1 : (10 : Int32).toInt = 10 := rfl
  have c2 : (11 : Int32).toInt = 11 := rfl
  have c3 : (12 : Int32).toInt = 12 := rfl
  have c4 : (13 : Int32).toInt = 13 := rfl
  have c5 : (133 : Int32).toInt = 133 := rfl
  have c6 : (8232 : Int32).toInt = 8232 := rfl
  have c7 : (8233 : Int32).toInt = 8233 := rfl
  simp only [← Int32.toInt_inj, c1, c2, c3, c4, c5, c6, c7] at h
  simp only [lookupswitch.offset_cons, lookupswitch.offset_nil]
  generalize i.toInt = z at h
  repeat (rw [if_neg (by omega)])
theorem own_lb (x : Int32) : ((x = 10) ∨ ((x = 11) ∨ ((x = 12) ∨ ((x = 13) ∨ ((x = 133) ∨ ((x = 8232) ∨ (x = 8233))))))) = (((¬ (x < 10)) ∧ (¬ (13 < x))) ∨ ((x = 133) ∨ ((¬ (x < 8232)) ∧ (¬ (8233 < x))))) := by
  apply propext
  have c1 : (10 : Int32).toInt = 10 := rfl
  have c2 : (11 : Int32).toInt = 11 := rfl
  have c3 : (12 : Int32).toInt = 12 := rfl
  have c4 : (13 : Int32).toInt = 13 := rfl
  have c5 : (133 : Int32).toInt = 133 := rfl
  have c6 : (8232 : Int32).toInt = 8232 := rfl
  have c7 : (8233 : Int32).toInt = 8233 := rfl
  simp only [← Int32.toInt_inj, Int32.lt_iff_toInt_lt, c1, c2, c3, c4, c5, c6, c7]
  omega
theorem own_allint (vs : List Value) (i : Nat) (h : ∀ v ∈ vs, ∃ y, v = .int y) : ∃ y : Int32, vs.getD i (.int (0 : Int32)) = .int y := by
  rw [List.getD_eq_getElem?_getD]
  by_cases q : i < vs.length
  · rw [List.getElem?_eq_getElem q]
    exact h _ (List.getElem_mem q)
  · rw [List.getElem?_eq_none (Nat.le_of_not_lt q)]
    exact ⟨0, rfl⟩
theorem own_sel (k : Int32) : ¬ (k &&& 31) < 0 := by
  have := (Jvm.Kit.i32_and_bounds k (m := 31) (by decide)).1
  exact Int32.not_lt.mpr this

theorem pd_0 : parseMethodDescriptor "(C)Z" = some ⟨[.char], some .boolean⟩ := by decide +kernel
theorem pd_1 : parseMethodDescriptor "(I)Z" = some ⟨[.int], some .boolean⟩ := by decide +kernel
theorem pn_6 : plainName "com/example/finder_compiler/findercompiler/LineBreaks" = true := by first | (simp [plainName, overriddenIn]; done) | decide +kernel
theorem pn_30 : plainName "com/example/finder_compiler/findercompiler/LineBreaksIsLineBreakPinLaw" = true := by first | (simp [plainName, overriddenIn]; done) | decide +kernel
theorem d1_0 : decode prog_96_method_2_code 0 = .ok (.iload_n 0, 1) := by decide +kernel
theorem d1_1 : decode prog_96_method_2_code 1 = .ok (.lookupswitch 71 #[(10, 67), (11, 67), (12, 67), (13, 67), (133, 67), (8232, 67), (8233, 67)], 67) := by decide +kernel
theorem d1_68 : decode prog_96_method_2_code 68 = .ok (.iconst 1, 1) := by decide +kernel
theorem d1_69 : decode prog_96_method_2_code 69 = .ok (.goto 4, 3) := by decide +kernel
theorem d1_72 : decode prog_96_method_2_code 72 = .ok (.iconst 0, 1) := by decide +kernel
theorem d1_73 : decode prog_96_method_2_code 73 = .ok (.ireturn, 1) := by decide +kernel
theorem ef_1 (m : MethodId) (p0 : Int32) : entryFrame m #[(.int p0)] 1 = mkF m 0 #[.val (.int p0)] [] := by first | (simp [entryFrame, mkF, argsToLocals, Value.category]; done) | rfl
def Q1 (Z : State) (p0 : Int32) (h0 : Heap) (n0 : Nat) (v : Option Value) (h : Heap) (L : List Loc) : Prop := ∃ r : Int32, v = some (.int r) ∧ r = (if ((p0 = 10) ∨ ((p0 = 11) ∨ ((p0 = 12) ∨ ((p0 = 13) ∨ ((p0 = 133) ∨ ((p0 = 8232) ∨ (p0 = 8233))))))) then (1 : Int32) else 0) ∧ Fr n0 L ∧ h = h0
set_option maxRecDepth 65536 in
set_option maxHeartbeats 40000000 in
theorem rm1 (l : Launch) (Z : State) (a0 : Array Value) (hw : ∀ d ∈ tables_1, d.before a0 Z = true) (ws : List Jvm.Cond) (p0 : Int32) (h0 : Heap) (n0 : Nat) (Z0 : n0 ≤ h0.size) :
    MetFree l (⟨"com/example/finder_compiler/findercompiler/LineBreaks", "isLineBreak", "(C)Z"⟩ : MethodName) (head1 (Jvm.Cond.code (⟨"com/example/finder_compiler/findercompiler/LineBreaks", "isLineBreak", "(C)Z"⟩ : MethodName) prog_96_method_2_code 1 (some .boolean) :: ws) ({ frames := 0, cells := 0, slots := 0, locals := 0 } : Room)) (fun a U => a = #[(.int p0)] ∧ Z.Warmed39 U.vm ∧ U.heap = h0) (fun _ _ _ _ _ => True) (fun _ U o U' => ∃ v L, o = .returned v ∧ Q1 Z p0 h0 n0 v U'.heap L ∧ FrameEnd U o U' L 0 0) := by
  refine MetFree.of_bodySF (plainFor_of_name pn_6) hisR ?_
  intro p e s m args below meth c s₁ Bd hml0 hP hK
  obtain ⟨rfl, hZ, hh⟩ := hP
  have hx := Bd.exec
  have hby := Bd.bytes
  have hml : c.maxLocals = 1 := hml0
  have hown : s.vm.findClass "com/example/finder_compiler/findercompiler/LineBreaks" = some m.cls := findClass_of_methodNamed Bd.named
  have hnm := (name_of_methodNamed Bd.named Bd.method).1
  have X0 : Stand p l e ({ frames := 0, cells := 0, slots := 0, locals := 0 } : Room) s m #[(.int p0)] below meth c s₁ [] 0 0 := Stand.of_body Bd
  have e0 : s₁.heap = h0 := by rw [← hh, Bd.state]; rfl
  have N0 := Fr.nil n0
  refine own_start (Q := fun v h L => Q1 Z p0 h0 n0 v h L) ?_
  refine Goes.via (S' := (s₁.setTop (mkF m 0 #[.val (.int p0)] []))) (fun t k => castTop (ef_1 m p0) k) ?_
  refine Goes.via (S' := (s₁.setTop (mkF m 1 #[.val (.int p0)] [(.int p0)]))) (fun t k => XS.iloadN X0.here hx rfl (hb hby d1_0) rfl k) ?_
  by_cases hc1 : ((p0 = 10) ∨ ((p0 = 11) ∨ ((p0 = 12) ∨ ((p0 = 13) ∨ ((p0 = 133) ∨ ((p0 = 8232) ∨ (p0 = 8233)))))))
  · refine Goes.via (S' := (s₁.setTop (mkF m 68 #[.val (.int p0)] []))) (fun t k => own_lsw X0.here hx rfl (pc0 := 1) (pc' := 68) rfl (hb hby d1_1) rfl own_sort (own_off1 hc1) (by decide) (by decide) k) ?_
    refine Goes.via (S' := (s₁.setTop (mkF m 69 #[.val (.int p0)] [(.int (1 : Int32))]))) (fun t k => XS.iconst X0.here hx rfl (hb hby d1_68) k) ?_
    refine Goes.via (S' := (s₁.setTop (mkF m 73 #[.val (.int p0)] [(.int (1 : Int32))]))) (fun t k => XS.goto X0.here hx rfl (pc0 := 69) (pc' := 73) rfl (hb hby d1_69) (by decide) (by decide) k) ?_
    exact own_ret X0 hx Bd.notSynchronized Bd.returns rfl (Or.inl ⟨rfl, by simp, _, rfl⟩) (hb hby d1_73) e0 ⟨(1 : Int32), rfl, (by rw [if_pos hc1]), N0, rfl⟩ (by decide) (by decide)
  · refine Goes.via (S' := (s₁.setTop (mkF m 72 #[.val (.int p0)] []))) (fun t k => own_lsw X0.here hx rfl (pc0 := 1) (pc' := 72) rfl (hb hby d1_1) rfl own_sort (own_off0 hc1) (by decide) (by decide) k) ?_
    refine Goes.via (S' := (s₁.setTop (mkF m 73 #[.val (.int p0)] [(.int (0 : Int32))]))) (fun t k => XS.iconst X0.here hx rfl (hb hby d1_72) k) ?_
    exact own_ret X0 hx Bd.notSynchronized Bd.returns rfl (Or.inl ⟨rfl, by simp, _, rfl⟩) (hb hby d1_73) e0 ⟨(0 : Int32), rfl, (by rw [if_neg hc1]), N0, rfl⟩ (by decide) (by decide)
theorem d2_0 : decode method_2_code 0 = .ok (.iload_n 0, 1) := by decide +kernel
theorem d2_1 : decode method_2_code 1 = .ok (.bipush 10, 2) := by decide +kernel
theorem d2_3 : decode method_2_code 3 = .ok (.if_icmp .lt 11, 3) := by decide +kernel
theorem d2_6 : decode method_2_code 6 = .ok (.iload_n 0, 1) := by decide +kernel
theorem d2_7 : decode method_2_code 7 = .ok (.bipush 13, 2) := by decide +kernel
theorem d2_9 : decode method_2_code 9 = .ok (.if_icmp .gt 5, 3) := by decide +kernel
theorem d2_12 : decode method_2_code 12 = .ok (.iconst 1, 1) := by decide +kernel
theorem d2_13 : decode method_2_code 13 = .ok (.ireturn, 1) := by decide +kernel
theorem d2_14 : decode method_2_code 14 = .ok (.iload_n 0, 1) := by decide +kernel
theorem d2_15 : decode method_2_code 15 = .ok (.sipush 133, 3) := by decide +kernel
theorem d2_18 : decode method_2_code 18 = .ok (.if_icmp .ne 5, 3) := by decide +kernel
theorem d2_21 : decode method_2_code 21 = .ok (.iconst 1, 1) := by decide +kernel
theorem d2_22 : decode method_2_code 22 = .ok (.ireturn, 1) := by decide +kernel
theorem d2_23 : decode method_2_code 23 = .ok (.iload_n 0, 1) := by decide +kernel
theorem d2_24 : decode method_2_code 24 = .ok (.sipush 8232, 3) := by decide +kernel
theorem d2_27 : decode method_2_code 27 = .ok (.if_icmp .lt 14, 3) := by decide +kernel
theorem d2_30 : decode method_2_code 30 = .ok (.iload_n 0, 1) := by decide +kernel
theorem d2_31 : decode method_2_code 31 = .ok (.sipush 8233, 3) := by decide +kernel
theorem d2_34 : decode method_2_code 34 = .ok (.if_icmp .gt 7, 3) := by decide +kernel
theorem d2_37 : decode method_2_code 37 = .ok (.iconst 1, 1) := by decide +kernel
theorem d2_38 : decode method_2_code 38 = .ok (.goto 4, 3) := by decide +kernel
theorem d2_41 : decode method_2_code 41 = .ok (.iconst 0, 1) := by decide +kernel
theorem d2_42 : decode method_2_code 42 = .ok (.ireturn, 1) := by decide +kernel
theorem ef_2 (m : MethodId) (p0 : Int32) : entryFrame m #[(.int p0)] 1 = mkF m 0 #[.val (.int p0)] [] := by first | (simp [entryFrame, mkF, argsToLocals, Value.category]; done) | rfl
def Q2 (Z : State) (p0 : Int32) (h0 : Heap) (n0 : Nat) (v : Option Value) (h : Heap) (L : List Loc) : Prop := ∃ r : Int32, v = some (.int r) ∧ r = (if (((¬ (p0 < 10)) ∧ (¬ (13 < p0))) ∨ ((p0 = 133) ∨ ((¬ (p0 < 8232)) ∧ (¬ (8233 < p0))))) then (1 : Int32) else 0) ∧ Fr n0 L ∧ h = h0
set_option maxRecDepth 65536 in
set_option maxHeartbeats 40000000 in
theorem rm2 (l : Launch) (Z : State) (a0 : Array Value) (hw : ∀ d ∈ tables_1, d.before a0 Z = true) (ws : List Jvm.Cond) (p0 : Int32) (h0 : Heap) (n0 : Nat) (Z0 : n0 ≤ h0.size) :
    MetFree l (⟨"com/example/finder_compiler/findercompiler/LineBreaksIsLineBreakPinLaw", "expected", "(I)Z"⟩ : MethodName) (head1 (Jvm.Cond.code (⟨"com/example/finder_compiler/findercompiler/LineBreaksIsLineBreakPinLaw", "expected", "(I)Z"⟩ : MethodName) method_2_code 1 (some .boolean) :: ws) ({ frames := 0, cells := 0, slots := 0, locals := 0 } : Room)) (fun a U => a = #[(.int p0)] ∧ Z.Warmed39 U.vm ∧ U.heap = h0) (fun _ _ _ _ _ => True) (fun _ U o U' => ∃ v L, o = .returned v ∧ Q2 Z p0 h0 n0 v U'.heap L ∧ FrameEnd U o U' L 0 0) := by
  refine MetFree.of_bodySF (plainFor_of_name pn_30) hisR ?_
  intro p e s m args below meth c s₁ Bd hml0 hP hK
  obtain ⟨rfl, hZ, hh⟩ := hP
  have hx := Bd.exec
  have hby := Bd.bytes
  have hml : c.maxLocals = 1 := hml0
  have hown : s.vm.findClass "com/example/finder_compiler/findercompiler/LineBreaksIsLineBreakPinLaw" = some m.cls := findClass_of_methodNamed Bd.named
  have hnm := (name_of_methodNamed Bd.named Bd.method).1
  have X0 : Stand p l e ({ frames := 0, cells := 0, slots := 0, locals := 0 } : Room) s m #[(.int p0)] below meth c s₁ [] 0 0 := Stand.of_body Bd
  have e0 : s₁.heap = h0 := by rw [← hh, Bd.state]; rfl
  have N0 := Fr.nil n0
  refine own_start (Q := fun v h L => Q2 Z p0 h0 n0 v h L) ?_
  refine Goes.via (S' := (s₁.setTop (mkF m 0 #[.val (.int p0)] []))) (fun t k => castTop (ef_2 m p0) k) ?_
  refine Goes.via (S' := (s₁.setTop (mkF m 1 #[.val (.int p0)] [(.int p0)]))) (fun t k => XS.iloadN X0.here hx rfl (hb hby d2_0) rfl k) ?_
  refine Goes.via (S' := (s₁.setTop (mkF m 3 #[.val (.int p0)] [(.int (10 : Int32)), (.int p0)]))) (fun t k => XS.bipush X0.here hx rfl (hb hby d2_1) k) ?_
  by_cases hc1 : (p0 < (10 : Int32))
  · refine Goes.via (S' := (s₁.setTop (mkF m 14 #[.val (.int p0)] []))) (fun t k => XS.icmpYes X0.here hx rfl (pc0 := 3) (pc' := 14) rfl (hb hby d2_3) rfl (tlt hc1).1 (by decide) (by decide) k) ?_
    refine Goes.via (S' := (s₁.setTop (mkF m 15 #[.val (.int p0)] [(.int p0)]))) (fun t k => XS.iloadN X0.here hx rfl (hb hby d2_14) rfl k) ?_
    refine Goes.via (S' := (s₁.setTop (mkF m 18 #[.val (.int p0)] [(.int (133 : Int32)), (.int p0)]))) (fun t k => XS.sipush X0.here hx rfl (hb hby d2_15) k) ?_
    by_cases hc2 : (p0 = (133 : Int32))
    · refine Goes.via (S' := (s₁.setTop (mkF m 21 #[.val (.int p0)] []))) (fun t k => XS.icmpNo X0.here hx rfl (hb hby d2_18) rfl (teq hc2).2 k) ?_
      refine Goes.via (S' := (s₁.setTop (mkF m 22 #[.val (.int p0)] [(.int (1 : Int32))]))) (fun t k => XS.iconst X0.here hx rfl (hb hby d2_21) k) ?_
      exact own_ret X0 hx Bd.notSynchronized Bd.returns rfl (Or.inl ⟨rfl, by simp, _, rfl⟩) (hb hby d2_22) e0 ⟨(1 : Int32), rfl, (by simp [hc1, hc2]), N0, rfl⟩ (by decide) (by decide)
    · refine Goes.via (S' := (s₁.setTop (mkF m 23 #[.val (.int p0)] []))) (fun t k => XS.icmpYes X0.here hx rfl (pc0 := 18) (pc' := 23) rfl (hb hby d2_18) rfl (feq hc2).2 (by decide) (by decide) k) ?_
      refine Goes.via (S' := (s₁.setTop (mkF m 24 #[.val (.int p0)] [(.int p0)]))) (fun t k => XS.iloadN X0.here hx rfl (hb hby d2_23) rfl k) ?_
      refine Goes.via (S' := (s₁.setTop (mkF m 27 #[.val (.int p0)] [(.int (8232 : Int32)), (.int p0)]))) (fun t k => XS.sipush X0.here hx rfl (hb hby d2_24) k) ?_
      obtain ⟨v5, hv5⟩ : ∃ z : Int32, z = (if ((¬ (p0 < (8232 : Int32))) ∧ (¬ ((8233 : Int32) < p0))) then (1 : Int32) else 0) := ⟨_, rfl⟩
      refine Goes.via (S' := (s₁.setTop (mkF m 42 #[.val (.int p0)] [(.int v5)]))) (fun t k => ?_) ?_
      · by_cases hc3 : (p0 < (8232 : Int32))
        · refine XS.icmpYes X0.here hx rfl (pc0 := 27) (pc' := 41) rfl (hb hby d2_27) rfl (tlt hc3).1 (by decide) (by decide) ?_
          show Steps p.tables e below (s₁.setTop (mkF m 41 #[.val (.int p0)] [])) _
          refine XS.iconst X0.here hx rfl (hb hby d2_41) ?_
          show Steps p.tables e below (s₁.setTop (mkF m 42 #[.val (.int p0)] [(.int (0 : Int32))])) _
          have q_v5 : v5 = (0 : Int32) := hv5.trans (if_neg (fun q => (fun q => q hc3) q.1))
          rw [q_v5] at k
          exact k
        · refine XS.icmpNo X0.here hx rfl (hb hby d2_27) rfl (flt hc3).1 ?_
          show Steps p.tables e below (s₁.setTop (mkF m 30 #[.val (.int p0)] [])) _
          refine XS.iloadN X0.here hx rfl (hb hby d2_30) rfl ?_
          show Steps p.tables e below (s₁.setTop (mkF m 31 #[.val (.int p0)] [(.int p0)])) _
          refine XS.sipush X0.here hx rfl (hb hby d2_31) ?_
          show Steps p.tables e below (s₁.setTop (mkF m 34 #[.val (.int p0)] [(.int (8233 : Int32)), (.int p0)])) _
          by_cases hc4 : ((8233 : Int32) < p0)
          · refine XS.icmpYes X0.here hx rfl (pc0 := 34) (pc' := 41) rfl (hb hby d2_34) rfl (tlt hc4).2.2.1 (by decide) (by decide) ?_
            show Steps p.tables e below (s₁.setTop (mkF m 41 #[.val (.int p0)] [])) _
            refine XS.iconst X0.here hx rfl (hb hby d2_41) ?_
            show Steps p.tables e below (s₁.setTop (mkF m 42 #[.val (.int p0)] [(.int (0 : Int32))])) _
            have q_v5 : v5 = (0 : Int32) := hv5.trans (if_neg (fun q => (fun q => q hc4) q.2))
            rw [q_v5] at k
            exact k
          · refine XS.icmpNo X0.here hx rfl (hb hby d2_34) rfl (flt hc4).2.2.1 ?_
            show Steps p.tables e below (s₁.setTop (mkF m 37 #[.val (.int p0)] [])) _
            refine XS.iconst X0.here hx rfl (hb hby d2_37) ?_
            show Steps p.tables e below (s₁.setTop (mkF m 38 #[.val (.int p0)] [(.int (1 : Int32))])) _
            refine XS.goto X0.here hx rfl (pc0 := 38) (pc' := 42) rfl (hb hby d2_38) (by decide) (by decide) ?_
            show Steps p.tables e below (s₁.setTop (mkF m 42 #[.val (.int p0)] [(.int (1 : Int32))])) _
            have q_v5 : v5 = (1 : Int32) := hv5.trans (if_pos ⟨hc3, hc4⟩)
            rw [q_v5] at k
            exact k
      exact own_ret X0 hx Bd.notSynchronized Bd.returns (own_nb hv5) (Or.inl ⟨rfl, by simp, _, rfl⟩) (hb hby d2_42) e0 ⟨v5, rfl, (by simp [hc1, hc2, hv5]), N0, rfl⟩ (by decide) (by decide)
  · refine Goes.via (S' := (s₁.setTop (mkF m 6 #[.val (.int p0)] []))) (fun t k => XS.icmpNo X0.here hx rfl (hb hby d2_3) rfl (flt hc1).1 k) ?_
    refine Goes.via (S' := (s₁.setTop (mkF m 7 #[.val (.int p0)] [(.int p0)]))) (fun t k => XS.iloadN X0.here hx rfl (hb hby d2_6) rfl k) ?_
    refine Goes.via (S' := (s₁.setTop (mkF m 9 #[.val (.int p0)] [(.int (13 : Int32)), (.int p0)]))) (fun t k => XS.bipush X0.here hx rfl (hb hby d2_7) k) ?_
    by_cases hc6 : ((13 : Int32) < p0)
    · refine Goes.via (S' := (s₁.setTop (mkF m 14 #[.val (.int p0)] []))) (fun t k => XS.icmpYes X0.here hx rfl (pc0 := 9) (pc' := 14) rfl (hb hby d2_9) rfl (tlt hc6).2.2.1 (by decide) (by decide) k) ?_
      refine Goes.via (S' := (s₁.setTop (mkF m 15 #[.val (.int p0)] [(.int p0)]))) (fun t k => XS.iloadN X0.here hx rfl (hb hby d2_14) rfl k) ?_
      refine Goes.via (S' := (s₁.setTop (mkF m 18 #[.val (.int p0)] [(.int (133 : Int32)), (.int p0)]))) (fun t k => XS.sipush X0.here hx rfl (hb hby d2_15) k) ?_
      by_cases hc7 : (p0 = (133 : Int32))
      · refine Goes.via (S' := (s₁.setTop (mkF m 21 #[.val (.int p0)] []))) (fun t k => XS.icmpNo X0.here hx rfl (hb hby d2_18) rfl (teq hc7).2 k) ?_
        refine Goes.via (S' := (s₁.setTop (mkF m 22 #[.val (.int p0)] [(.int (1 : Int32))]))) (fun t k => XS.iconst X0.here hx rfl (hb hby d2_21) k) ?_
        exact own_ret X0 hx Bd.notSynchronized Bd.returns rfl (Or.inl ⟨rfl, by simp, _, rfl⟩) (hb hby d2_22) e0 ⟨(1 : Int32), rfl, (by simp [hc1, hc6, hc7]), N0, rfl⟩ (by decide) (by decide)
      · refine Goes.via (S' := (s₁.setTop (mkF m 23 #[.val (.int p0)] []))) (fun t k => XS.icmpYes X0.here hx rfl (pc0 := 18) (pc' := 23) rfl (hb hby d2_18) rfl (feq hc7).2 (by decide) (by decide) k) ?_
        refine Goes.via (S' := (s₁.setTop (mkF m 24 #[.val (.int p0)] [(.int p0)]))) (fun t k => XS.iloadN X0.here hx rfl (hb hby d2_23) rfl k) ?_
        refine Goes.via (S' := (s₁.setTop (mkF m 27 #[.val (.int p0)] [(.int (8232 : Int32)), (.int p0)]))) (fun t k => XS.sipush X0.here hx rfl (hb hby d2_24) k) ?_
        obtain ⟨v10, hv10⟩ : ∃ z : Int32, z = (if ((¬ (p0 < (8232 : Int32))) ∧ (¬ ((8233 : Int32) < p0))) then (1 : Int32) else 0) := ⟨_, rfl⟩
        refine Goes.via (S' := (s₁.setTop (mkF m 42 #[.val (.int p0)] [(.int v10)]))) (fun t k => ?_) ?_
        · by_cases hc8 : (p0 < (8232 : Int32))
          · refine XS.icmpYes X0.here hx rfl (pc0 := 27) (pc' := 41) rfl (hb hby d2_27) rfl (tlt hc8).1 (by decide) (by decide) ?_
            show Steps p.tables e below (s₁.setTop (mkF m 41 #[.val (.int p0)] [])) _
            refine XS.iconst X0.here hx rfl (hb hby d2_41) ?_
            show Steps p.tables e below (s₁.setTop (mkF m 42 #[.val (.int p0)] [(.int (0 : Int32))])) _
            have q_v10 : v10 = (0 : Int32) := hv10.trans (if_neg (fun q => (fun q => q hc8) q.1))
            rw [q_v10] at k
            exact k
          · refine XS.icmpNo X0.here hx rfl (hb hby d2_27) rfl (flt hc8).1 ?_
            show Steps p.tables e below (s₁.setTop (mkF m 30 #[.val (.int p0)] [])) _
            refine XS.iloadN X0.here hx rfl (hb hby d2_30) rfl ?_
            show Steps p.tables e below (s₁.setTop (mkF m 31 #[.val (.int p0)] [(.int p0)])) _
            refine XS.sipush X0.here hx rfl (hb hby d2_31) ?_
            show Steps p.tables e below (s₁.setTop (mkF m 34 #[.val (.int p0)] [(.int (8233 : Int32)), (.int p0)])) _
            by_cases hc9 : ((8233 : Int32) < p0)
            · refine XS.icmpYes X0.here hx rfl (pc0 := 34) (pc' := 41) rfl (hb hby d2_34) rfl (tlt hc9).2.2.1 (by decide) (by decide) ?_
              show Steps p.tables e below (s₁.setTop (mkF m 41 #[.val (.int p0)] [])) _
              refine XS.iconst X0.here hx rfl (hb hby d2_41) ?_
              show Steps p.tables e below (s₁.setTop (mkF m 42 #[.val (.int p0)] [(.int (0 : Int32))])) _
              have q_v10 : v10 = (0 : Int32) := hv10.trans (if_neg (fun q => (fun q => q hc9) q.2))
              rw [q_v10] at k
              exact k
            · refine XS.icmpNo X0.here hx rfl (hb hby d2_34) rfl (flt hc9).2.2.1 ?_
              show Steps p.tables e below (s₁.setTop (mkF m 37 #[.val (.int p0)] [])) _
              refine XS.iconst X0.here hx rfl (hb hby d2_37) ?_
              show Steps p.tables e below (s₁.setTop (mkF m 38 #[.val (.int p0)] [(.int (1 : Int32))])) _
              refine XS.goto X0.here hx rfl (pc0 := 38) (pc' := 42) rfl (hb hby d2_38) (by decide) (by decide) ?_
              show Steps p.tables e below (s₁.setTop (mkF m 42 #[.val (.int p0)] [(.int (1 : Int32))])) _
              have q_v10 : v10 = (1 : Int32) := hv10.trans (if_pos ⟨hc8, hc9⟩)
              rw [q_v10] at k
              exact k
        exact own_ret X0 hx Bd.notSynchronized Bd.returns (own_nb hv10) (Or.inl ⟨rfl, by simp, _, rfl⟩) (hb hby d2_42) e0 ⟨v10, rfl, (by simp [hc1, hc6, hc7, hv10]), N0, rfl⟩ (by decide) (by decide)
    · refine Goes.via (S' := (s₁.setTop (mkF m 12 #[.val (.int p0)] []))) (fun t k => XS.icmpNo X0.here hx rfl (hb hby d2_9) rfl (flt hc6).2.2.1 k) ?_
      refine Goes.via (S' := (s₁.setTop (mkF m 13 #[.val (.int p0)] [(.int (1 : Int32))]))) (fun t k => XS.iconst X0.here hx rfl (hb hby d2_12) k) ?_
      exact own_ret X0 hx Bd.notSynchronized Bd.returns rfl (Or.inl ⟨rfl, by simp, _, rfl⟩) (hb hby d2_13) e0 ⟨(1 : Int32), rfl, (by simp [hc1, hc6]), N0, rfl⟩ (by decide) (by decide)
theorem ef_0 (m : MethodId) (p0 : Int32) (p1 : Int32) : entryFrame m #[(.int p0), (.int p1)] maxLocals = mkF m 0 #[.val (.int p0), .val (.int p1), .unset, .unset, .unset, .unset] [] := by first | (simp [entryFrame, mkF, argsToLocals, Value.category, maxLocals]; done) | rfl
def Q0 (Z : State) (p0 : Int32) (p1 : Int32) (h0 : Heap) (n0 : Nat) (v : Option Value) (h : Heap) (L : List Loc) : Prop := v = some (.int 1) ∧ Fr n0 L
set_option maxRecDepth 65536 in
set_option maxHeartbeats 40000000 in
theorem rm0 (l : Launch) (Z : State) (a0 : Array Value) (hw : ∀ d ∈ tables_1, d.before a0 Z = true) (ws : List Jvm.Cond) (p0 : Int32) (p1 : Int32) (h0 : Heap) (n0 : Nat) (Z0 : n0 ≤ h0.size) :
    MetFree l x (head1 (Jvm.Cond.code x code maxLocals ret :: ws) room_1) (fun a U => a = #[(.int p0), (.int p1)] ∧ Z.Warmed39 U.vm ∧ U.heap = h0) (fun _ _ _ _ _ => True) (fun _ U o U' => ∃ v L, o = .returned v ∧ Q0 Z p0 p1 h0 n0 v U'.heap L ∧ FrameEnd U o U' L 16 128) := by
  refine MetFree.of_bodySF (plainFor_of_name pn_30) hisR ?_
  intro p e s m args below meth c s₁ Bd hml0 hP hK
  obtain ⟨rfl, hZ, hh⟩ := hP
  have hx := Bd.exec
  have hby := Bd.bytes
  have hml : c.maxLocals = 6 := hml0
  have hown : s.vm.findClass "com/example/finder_compiler/findercompiler/LineBreaksIsLineBreakPinLaw" = some m.cls := findClass_of_methodNamed Bd.named
  have hnm := (name_of_methodNamed Bd.named Bd.method).1
  have X0 : Stand p l e room_1 s m #[(.int p0), (.int p1)] below meth c s₁ [] 0 0 := Stand.of_body Bd
  have e0 : s₁.heap = h0 := by rw [← hh, Bd.state]; rfl
  have N0 := Fr.nil n0
  refine own_start (Q := fun v h L => Q0 Z p0 p1 h0 n0 v h L) ?_
  refine Goes.via (S' := (s₁.setTop (mkF m 0 #[.val (.int p0), .val (.int p1), .unset, .unset, .unset, .unset] []))) (fun t k => castTop (ef_0 m p0 p1) k) ?_
  refine Goes.via (S' := (s₁.setTop (mkF m 2 #[.val (.int p0), .val (.int p1), .unset, .unset, .unset, .unset] [(.int (16 : Int32))]))) (fun t k => XS.bipush X0.here hx rfl (hb hby at_0) k) ?_
  obtain ⟨T1, h1, k1, X1, e1, E1, A1, st1⟩ := newP X0 hx hZ (hw _ (List.mem_of_getElem? (i := 0) rfl)) e0 (g := (mkF m 2 #[.val (.int p0), .val (.int p1), .unset, .unset, .unset, .unset] [(.int (16 : Int32))])) rfl (hb hby at_2) rfl (by decide) (cap := 16) (by decide) (by decide) (by decide) (by decide)
  obtain ⟨b1, g1⟩ : ∃ z, z = h0.size := ⟨_, rfl⟩
  rw [← g1] at A1 st1
  have K1 : Keep h0 h1 [] := Keep.ext (Keep.refl h0 []) E1
  have Z1 : n0 ≤ h1.size := Nat.le_trans Z0 K1.1
  have g_b1 : n0 ≤ b1 := Nat.le_trans Z0 (Nat.le_of_eq g1.symm)
  have sz_b1 : h0.size ≤ b1 := Nat.le_trans ((Keep.refl h0 [])).1 (Nat.le_of_eq g1.symm)
  have f2 : Arv Z h1 b1 k1 .int (16 : Int32) [(.int (0 : Int32)), (.int (0 : Int32)), (.int (0 : Int32)), (.int (0 : Int32)), (.int (0 : Int32)), (.int (0 : Int32)), (.int (0 : Int32)), (.int (0 : Int32)), (.int (0 : Int32)), (.int (0 : Int32)), (.int (0 : Int32)), (.int (0 : Int32)), (.int (0 : Int32)), (.int (0 : Int32)), (.int (0 : Int32)), (.int (0 : Int32))] (.int (0 : Int32)) := (Arv.new A1 (by decide)).pad (pad_rep [] (.int (0 : Int32)) 16)
  refine Goes.via (S' := (T1.setTop (mkF m 4 #[.val (.int p0), .val (.int p1), .unset, .unset, .unset, .unset] [(.ref b1)]))) (fun t k => st1 _ k) ?_
  refine Goes.via (S' := (T1.setTop (mkF m 5 #[.val (.int p0), .val (.int p1), .unset, .unset, .unset, .unset] [(.ref b1), (.ref b1)]))) (fun t k => XS.dup X1.here hx rfl (hb hby at_4) rfl rfl k) ?_
  refine Goes.via (S' := (T1.setTop (mkF m 6 #[.val (.int p0), .val (.int p1), .unset, .unset, .unset, .unset] [(.int (0 : Int32)), (.ref b1), (.ref b1)]))) (fun t k => XS.iconst X1.here hx rfl (hb hby at_5) k) ?_
  refine Goes.via (S' := (T1.setTop (mkF m 8 #[.val (.int p0), .val (.int p1), .unset, .unset, .unset, .unset] [(.int (9 : Int32)), (.int (0 : Int32)), (.ref b1), (.ref b1)]))) (fun t k => XS.bipush X1.here hx rfl (hb hby at_6) k) ?_
  obtain ⟨cl3, Ar3, q3, S3, M3, Hs3, G3⟩ := f2
  have hin3 : ¬ ((0 : Int32) < 0 ∨ cl3.slots.size ≤ ((0 : Int32)).toNatClampNeg) := inb_of S3 ⟨by decide, by decide⟩
  obtain ⟨T3, h3, X3, e3, W3, st3⟩ := stI X1 hx hZ e1 Ar3 (j := (0 : Int32)) hin3 (g := (mkF m 8 #[.val (.int p0), .val (.int p1), .unset, .unset, .unset, .unset] [(.int (9 : Int32)), (.int (0 : Int32)), (.ref b1), (.ref b1)])) rfl rfl (hb hby at_8)
  have f4 : Arv Z h3 b1 k1 .int (16 : Int32) [(.int (9 : Int32)), (.int (0 : Int32)), (.int (0 : Int32)), (.int (0 : Int32)), (.int (0 : Int32)), (.int (0 : Int32)), (.int (0 : Int32)), (.int (0 : Int32)), (.int (0 : Int32)), (.int (0 : Int32)), (.int (0 : Int32)), (.int (0 : Int32)), (.int (0 : Int32)), (.int (0 : Int32)), (.int (0 : Int32)), (.int (0 : Int32))] (.int (0 : Int32)) := Arv.set Ar3 q3 S3 M3 Hs3 G3 rfl W3 0 rfl (Nat.le_of_ble_eq_true rfl)
  have K3 : Keep h0 h3 [] := Keep.wr K1 W3 (Or.inr sz_b1)
  have Z3 : n0 ≤ h3.size := Nat.le_trans Z0 K3.1
  have N3 := Fr.snoc X3 N0 g_b1
  refine Goes.via (S' := (T3.setTop (mkF m 9 #[.val (.int p0), .val (.int p1), .unset, .unset, .unset, .unset] [(.ref b1)]))) (fun t k => st3 _ k) ?_
  refine Goes.via (S' := (T3.setTop (mkF m 10 #[.val (.int p0), .val (.int p1), .unset, .unset, .unset, .unset] [(.ref b1), (.ref b1)]))) (fun t k => XS.dup X3.here hx rfl (hb hby at_9) rfl rfl k) ?_
  refine Goes.via (S' := (T3.setTop (mkF m 11 #[.val (.int p0), .val (.int p1), .unset, .unset, .unset, .unset] [(.int (1 : Int32)), (.ref b1), (.ref b1)]))) (fun t k => XS.iconst X3.here hx rfl (hb hby at_10) k) ?_
  refine Goes.via (S' := (T3.setTop (mkF m 13 #[.val (.int p0), .val (.int p1), .unset, .unset, .unset, .unset] [(.int (10 : Int32)), (.int (1 : Int32)), (.ref b1), (.ref b1)]))) (fun t k => XS.bipush X3.here hx rfl (hb hby at_11) k) ?_
  obtain ⟨cl5, Ar5, q5, S5, M5, Hs5, G5⟩ := f4
  have hin5 : ¬ ((1 : Int32) < 0 ∨ cl5.slots.size ≤ ((1 : Int32)).toNatClampNeg) := inb_of S5 ⟨by decide, by decide⟩
  obtain ⟨T5, h5, X5, e5, W5, st5⟩ := stI X3 hx hZ e3 Ar5 (j := (1 : Int32)) hin5 (g := (mkF m 13 #[.val (.int p0), .val (.int p1), .unset, .unset, .unset, .unset] [(.int (10 : Int32)), (.int (1 : Int32)), (.ref b1), (.ref b1)])) rfl rfl (hb hby at_13)
  have f6 : Arv Z h5 b1 k1 .int (16 : Int32) [(.int (9 : Int32)), (.int (10 : Int32)), (.int (0 : Int32)), (.int (0 : Int32)), (.int (0 : Int32)), (.int (0 : Int32)), (.int (0 : Int32)), (.int (0 : Int32)), (.int (0 : Int32)), (.int (0 : Int32)), (.int (0 : Int32)), (.int (0 : Int32)), (.int (0 : Int32)), (.int (0 : Int32)), (.int (0 : Int32)), (.int (0 : Int32))] (.int (0 : Int32)) := Arv.set Ar5 q5 S5 M5 Hs5 G5 rfl W5 1 rfl (Nat.le_of_ble_eq_true rfl)
  have K5 : Keep h0 h5 [] := Keep.wr K3 W5 (Or.inr sz_b1)
  have Z5 : n0 ≤ h5.size := Nat.le_trans Z0 K5.1
  have N5 := Fr.snoc X5 N3 g_b1
  refine Goes.via (S' := (T5.setTop (mkF m 14 #[.val (.int p0), .val (.int p1), .unset, .unset, .unset, .unset] [(.ref b1)]))) (fun t k => st5 _ k) ?_
  refine Goes.via (S' := (T5.setTop (mkF m 15 #[.val (.int p0), .val (.int p1), .unset, .unset, .unset, .unset] [(.ref b1), (.ref b1)]))) (fun t k => XS.dup X5.here hx rfl (hb hby at_14) rfl rfl k) ?_
  refine Goes.via (S' := (T5.setTop (mkF m 16 #[.val (.int p0), .val (.int p1), .unset, .unset, .unset, .unset] [(.int (2 : Int32)), (.ref b1), (.ref b1)]))) (fun t k => XS.iconst X5.here hx rfl (hb hby at_15) k) ?_
  refine Goes.via (S' := (T5.setTop (mkF m 18 #[.val (.int p0), .val (.int p1), .unset, .unset, .unset, .unset] [(.int (11 : Int32)), (.int (2 : Int32)), (.ref b1), (.ref b1)]))) (fun t k => XS.bipush X5.here hx rfl (hb hby at_16) k) ?_
  obtain ⟨cl7, Ar7, q7, S7, M7, Hs7, G7⟩ := f6
  have hin7 : ¬ ((2 : Int32) < 0 ∨ cl7.slots.size ≤ ((2 : Int32)).toNatClampNeg) := inb_of S7 ⟨by decide, by decide⟩
  obtain ⟨T7, h7, X7, e7, W7, st7⟩ := stI X5 hx hZ e5 Ar7 (j := (2 : Int32)) hin7 (g := (mkF m 18 #[.val (.int p0), .val (.int p1), .unset, .unset, .unset, .unset] [(.int (11 : Int32)), (.int (2 : Int32)), (.ref b1), (.ref b1)])) rfl rfl (hb hby at_18)
  have f8 : Arv Z h7 b1 k1 .int (16 : Int32) [(.int (9 : Int32)), (.int (10 : Int32)), (.int (11 : Int32)), (.int (0 : Int32)), (.int (0 : Int32)), (.int (0 : Int32)), (.int (0 : Int32)), (.int (0 : Int32)), (.int (0 : Int32)), (.int (0 : Int32)), (.int (0 : Int32)), (.int (0 : Int32)), (.int (0 : Int32)), (.int (0 : Int32)), (.int (0 : Int32)), (.int (0 : Int32))] (.int (0 : Int32)) := Arv.set Ar7 q7 S7 M7 Hs7 G7 rfl W7 2 rfl (Nat.le_of_ble_eq_true rfl)
  have K7 : Keep h0 h7 [] := Keep.wr K5 W7 (Or.inr sz_b1)
  have Z7 : n0 ≤ h7.size := Nat.le_trans Z0 K7.1
  have N7 := Fr.snoc X7 N5 g_b1
  refine Goes.via (S' := (T7.setTop (mkF m 19 #[.val (.int p0), .val (.int p1), .unset, .unset, .unset, .unset] [(.ref b1)]))) (fun t k => st7 _ k) ?_
  refine Goes.via (S' := (T7.setTop (mkF m 20 #[.val (.int p0), .val (.int p1), .unset, .unset, .unset, .unset] [(.ref b1), (.ref b1)]))) (fun t k => XS.dup X7.here hx rfl (hb hby at_19) rfl rfl k) ?_
  refine Goes.via (S' := (T7.setTop (mkF m 21 #[.val (.int p0), .val (.int p1), .unset, .unset, .unset, .unset] [(.int (3 : Int32)), (.ref b1), (.ref b1)]))) (fun t k => XS.iconst X7.here hx rfl (hb hby at_20) k) ?_
  refine Goes.via (S' := (T7.setTop (mkF m 23 #[.val (.int p0), .val (.int p1), .unset, .unset, .unset, .unset] [(.int (12 : Int32)), (.int (3 : Int32)), (.ref b1), (.ref b1)]))) (fun t k => XS.bipush X7.here hx rfl (hb hby at_21) k) ?_
  obtain ⟨cl9, Ar9, q9, S9, M9, Hs9, G9⟩ := f8
  have hin9 : ¬ ((3 : Int32) < 0 ∨ cl9.slots.size ≤ ((3 : Int32)).toNatClampNeg) := inb_of S9 ⟨by decide, by decide⟩
  obtain ⟨T9, h9, X9, e9, W9, st9⟩ := stI X7 hx hZ e7 Ar9 (j := (3 : Int32)) hin9 (g := (mkF m 23 #[.val (.int p0), .val (.int p1), .unset, .unset, .unset, .unset] [(.int (12 : Int32)), (.int (3 : Int32)), (.ref b1), (.ref b1)])) rfl rfl (hb hby at_23)
  have f10 : Arv Z h9 b1 k1 .int (16 : Int32) [(.int (9 : Int32)), (.int (10 : Int32)), (.int (11 : Int32)), (.int (12 : Int32)), (.int (0 : Int32)), (.int (0 : Int32)), (.int (0 : Int32)), (.int (0 : Int32)), (.int (0 : Int32)), (.int (0 : Int32)), (.int (0 : Int32)), (.int (0 : Int32)), (.int (0 : Int32)), (.int (0 : Int32)), (.int (0 : Int32)), (.int (0 : Int32))] (.int (0 : Int32)) := Arv.set Ar9 q9 S9 M9 Hs9 G9 rfl W9 3 rfl (Nat.le_of_ble_eq_true rfl)
  have K9 : Keep h0 h9 [] := Keep.wr K7 W9 (Or.inr sz_b1)
  have Z9 : n0 ≤ h9.size := Nat.le_trans Z0 K9.1
  have N9 := Fr.snoc X9 N7 g_b1
  refine Goes.via (S' := (T9.setTop (mkF m 24 #[.val (.int p0), .val (.int p1), .unset, .unset, .unset, .unset] [(.ref b1)]))) (fun t k => st9 _ k) ?_
  refine Goes.via (S' := (T9.setTop (mkF m 25 #[.val (.int p0), .val (.int p1), .unset, .unset, .unset, .unset] [(.ref b1), (.ref b1)]))) (fun t k => XS.dup X9.here hx rfl (hb hby at_24) rfl rfl k) ?_
  refine Goes.via (S' := (T9.setTop (mkF m 26 #[.val (.int p0), .val (.int p1), .unset, .unset, .unset, .unset] [(.int (4 : Int32)), (.ref b1), (.ref b1)]))) (fun t k => XS.iconst X9.here hx rfl (hb hby at_25) k) ?_
  refine Goes.via (S' := (T9.setTop (mkF m 28 #[.val (.int p0), .val (.int p1), .unset, .unset, .unset, .unset] [(.int (13 : Int32)), (.int (4 : Int32)), (.ref b1), (.ref b1)]))) (fun t k => XS.bipush X9.here hx rfl (hb hby at_26) k) ?_
  obtain ⟨cl11, Ar11, q11, S11, M11, Hs11, G11⟩ := f10
  have hin11 : ¬ ((4 : Int32) < 0 ∨ cl11.slots.size ≤ ((4 : Int32)).toNatClampNeg) := inb_of S11 ⟨by decide, by decide⟩
  obtain ⟨T11, h11, X11, e11, W11, st11⟩ := stI X9 hx hZ e9 Ar11 (j := (4 : Int32)) hin11 (g := (mkF m 28 #[.val (.int p0), .val (.int p1), .unset, .unset, .unset, .unset] [(.int (13 : Int32)), (.int (4 : Int32)), (.ref b1), (.ref b1)])) rfl rfl (hb hby at_28)
  have f12 : Arv Z h11 b1 k1 .int (16 : Int32) [(.int (9 : Int32)), (.int (10 : Int32)), (.int (11 : Int32)), (.int (12 : Int32)), (.int (13 : Int32)), (.int (0 : Int32)), (.int (0 : Int32)), (.int (0 : Int32)), (.int (0 : Int32)), (.int (0 : Int32)), (.int (0 : Int32)), (.int (0 : Int32)), (.int (0 : Int32)), (.int (0 : Int32)), (.int (0 : Int32)), (.int (0 : Int32))] (.int (0 : Int32)) := Arv.set Ar11 q11 S11 M11 Hs11 G11 rfl W11 4 rfl (Nat.le_of_ble_eq_true rfl)
  have K11 : Keep h0 h11 [] := Keep.wr K9 W11 (Or.inr sz_b1)
  have Z11 : n0 ≤ h11.size := Nat.le_trans Z0 K11.1
  have N11 := Fr.snoc X11 N9 g_b1
  refine Goes.via (S' := (T11.setTop (mkF m 29 #[.val (.int p0), .val (.int p1), .unset, .unset, .unset, .unset] [(.ref b1)]))) (fun t k => st11 _ k) ?_
  refine Goes.via (S' := (T11.setTop (mkF m 30 #[.val (.int p0), .val (.int p1), .unset, .unset, .unset, .unset] [(.ref b1), (.ref b1)]))) (fun t k => XS.dup X11.here hx rfl (hb hby at_29) rfl rfl k) ?_
  refine Goes.via (S' := (T11.setTop (mkF m 31 #[.val (.int p0), .val (.int p1), .unset, .unset, .unset, .unset] [(.int (5 : Int32)), (.ref b1), (.ref b1)]))) (fun t k => XS.iconst X11.here hx rfl (hb hby at_30) k) ?_
  refine Goes.via (S' := (T11.setTop (mkF m 33 #[.val (.int p0), .val (.int p1), .unset, .unset, .unset, .unset] [(.int (14 : Int32)), (.int (5 : Int32)), (.ref b1), (.ref b1)]))) (fun t k => XS.bipush X11.here hx rfl (hb hby at_31) k) ?_
  obtain ⟨cl13, Ar13, q13, S13, M13, Hs13, G13⟩ := f12
  have hin13 : ¬ ((5 : Int32) < 0 ∨ cl13.slots.size ≤ ((5 : Int32)).toNatClampNeg) := inb_of S13 ⟨by decide, by decide⟩
  obtain ⟨T13, h13, X13, e13, W13, st13⟩ := stI X11 hx hZ e11 Ar13 (j := (5 : Int32)) hin13 (g := (mkF m 33 #[.val (.int p0), .val (.int p1), .unset, .unset, .unset, .unset] [(.int (14 : Int32)), (.int (5 : Int32)), (.ref b1), (.ref b1)])) rfl rfl (hb hby at_33)
  have f14 : Arv Z h13 b1 k1 .int (16 : Int32) [(.int (9 : Int32)), (.int (10 : Int32)), (.int (11 : Int32)), (.int (12 : Int32)), (.int (13 : Int32)), (.int (14 : Int32)), (.int (0 : Int32)), (.int (0 : Int32)), (.int (0 : Int32)), (.int (0 : Int32)), (.int (0 : Int32)), (.int (0 : Int32)), (.int (0 : Int32)), (.int (0 : Int32)), (.int (0 : Int32)), (.int (0 : Int32))] (.int (0 : Int32)) := Arv.set Ar13 q13 S13 M13 Hs13 G13 rfl W13 5 rfl (Nat.le_of_ble_eq_true rfl)
  have K13 : Keep h0 h13 [] := Keep.wr K11 W13 (Or.inr sz_b1)
  have Z13 : n0 ≤ h13.size := Nat.le_trans Z0 K13.1
  have N13 := Fr.snoc X13 N11 g_b1
  refine Goes.via (S' := (T13.setTop (mkF m 34 #[.val (.int p0), .val (.int p1), .unset, .unset, .unset, .unset] [(.ref b1)]))) (fun t k => st13 _ k) ?_
  refine Goes.via (S' := (T13.setTop (mkF m 35 #[.val (.int p0), .val (.int p1), .unset, .unset, .unset, .unset] [(.ref b1), (.ref b1)]))) (fun t k => XS.dup X13.here hx rfl (hb hby at_34) rfl rfl k) ?_
  refine Goes.via (S' := (T13.setTop (mkF m 37 #[.val (.int p0), .val (.int p1), .unset, .unset, .unset, .unset] [(.int (6 : Int32)), (.ref b1), (.ref b1)]))) (fun t k => XS.bipush X13.here hx rfl (hb hby at_35) k) ?_
  refine Goes.via (S' := (T13.setTop (mkF m 40 #[.val (.int p0), .val (.int p1), .unset, .unset, .unset, .unset] [(.int (132 : Int32)), (.int (6 : Int32)), (.ref b1), (.ref b1)]))) (fun t k => XS.sipush X13.here hx rfl (hb hby at_37) k) ?_
  obtain ⟨cl15, Ar15, q15, S15, M15, Hs15, G15⟩ := f14
  have hin15 : ¬ ((6 : Int32) < 0 ∨ cl15.slots.size ≤ ((6 : Int32)).toNatClampNeg) := inb_of S15 ⟨by decide, by decide⟩
  obtain ⟨T15, h15, X15, e15, W15, st15⟩ := stI X13 hx hZ e13 Ar15 (j := (6 : Int32)) hin15 (g := (mkF m 40 #[.val (.int p0), .val (.int p1), .unset, .unset, .unset, .unset] [(.int (132 : Int32)), (.int (6 : Int32)), (.ref b1), (.ref b1)])) rfl rfl (hb hby at_40)
  have f16 : Arv Z h15 b1 k1 .int (16 : Int32) [(.int (9 : Int32)), (.int (10 : Int32)), (.int (11 : Int32)), (.int (12 : Int32)), (.int (13 : Int32)), (.int (14 : Int32)), (.int (132 : Int32)), (.int (0 : Int32)), (.int (0 : Int32)), (.int (0 : Int32)), (.int (0 : Int32)), (.int (0 : Int32)), (.int (0 : Int32)), (.int (0 : Int32)), (.int (0 : Int32)), (.int (0 : Int32))] (.int (0 : Int32)) := Arv.set Ar15 q15 S15 M15 Hs15 G15 rfl W15 6 rfl (Nat.le_of_ble_eq_true rfl)
  have K15 : Keep h0 h15 [] := Keep.wr K13 W15 (Or.inr sz_b1)
  have Z15 : n0 ≤ h15.size := Nat.le_trans Z0 K15.1
  have N15 := Fr.snoc X15 N13 g_b1
  refine Goes.via (S' := (T15.setTop (mkF m 41 #[.val (.int p0), .val (.int p1), .unset, .unset, .unset, .unset] [(.ref b1)]))) (fun t k => st15 _ k) ?_
  refine Goes.via (S' := (T15.setTop (mkF m 42 #[.val (.int p0), .val (.int p1), .unset, .unset, .unset, .unset] [(.ref b1), (.ref b1)]))) (fun t k => XS.dup X15.here hx rfl (hb hby at_41) rfl rfl k) ?_
  refine Goes.via (S' := (T15.setTop (mkF m 44 #[.val (.int p0), .val (.int p1), .unset, .unset, .unset, .unset] [(.int (7 : Int32)), (.ref b1), (.ref b1)]))) (fun t k => XS.bipush X15.here hx rfl (hb hby at_42) k) ?_
  refine Goes.via (S' := (T15.setTop (mkF m 47 #[.val (.int p0), .val (.int p1), .unset, .unset, .unset, .unset] [(.int (133 : Int32)), (.int (7 : Int32)), (.ref b1), (.ref b1)]))) (fun t k => XS.sipush X15.here hx rfl (hb hby at_44) k) ?_
  obtain ⟨cl17, Ar17, q17, S17, M17, Hs17, G17⟩ := f16
  have hin17 : ¬ ((7 : Int32) < 0 ∨ cl17.slots.size ≤ ((7 : Int32)).toNatClampNeg) := inb_of S17 ⟨by decide, by decide⟩
  obtain ⟨T17, h17, X17, e17, W17, st17⟩ := stI X15 hx hZ e15 Ar17 (j := (7 : Int32)) hin17 (g := (mkF m 47 #[.val (.int p0), .val (.int p1), .unset, .unset, .unset, .unset] [(.int (133 : Int32)), (.int (7 : Int32)), (.ref b1), (.ref b1)])) rfl rfl (hb hby at_47)
  have f18 : Arv Z h17 b1 k1 .int (16 : Int32) [(.int (9 : Int32)), (.int (10 : Int32)), (.int (11 : Int32)), (.int (12 : Int32)), (.int (13 : Int32)), (.int (14 : Int32)), (.int (132 : Int32)), (.int (133 : Int32)), (.int (0 : Int32)), (.int (0 : Int32)), (.int (0 : Int32)), (.int (0 : Int32)), (.int (0 : Int32)), (.int (0 : Int32)), (.int (0 : Int32)), (.int (0 : Int32))] (.int (0 : Int32)) := Arv.set Ar17 q17 S17 M17 Hs17 G17 rfl W17 7 rfl (Nat.le_of_ble_eq_true rfl)
  have K17 : Keep h0 h17 [] := Keep.wr K15 W17 (Or.inr sz_b1)
  have Z17 : n0 ≤ h17.size := Nat.le_trans Z0 K17.1
  have N17 := Fr.snoc X17 N15 g_b1
  refine Goes.via (S' := (T17.setTop (mkF m 48 #[.val (.int p0), .val (.int p1), .unset, .unset, .unset, .unset] [(.ref b1)]))) (fun t k => st17 _ k) ?_
  refine Goes.via (S' := (T17.setTop (mkF m 49 #[.val (.int p0), .val (.int p1), .unset, .unset, .unset, .unset] [(.ref b1), (.ref b1)]))) (fun t k => XS.dup X17.here hx rfl (hb hby at_48) rfl rfl k) ?_
  refine Goes.via (S' := (T17.setTop (mkF m 51 #[.val (.int p0), .val (.int p1), .unset, .unset, .unset, .unset] [(.int (8 : Int32)), (.ref b1), (.ref b1)]))) (fun t k => XS.bipush X17.here hx rfl (hb hby at_49) k) ?_
  refine Goes.via (S' := (T17.setTop (mkF m 54 #[.val (.int p0), .val (.int p1), .unset, .unset, .unset, .unset] [(.int (134 : Int32)), (.int (8 : Int32)), (.ref b1), (.ref b1)]))) (fun t k => XS.sipush X17.here hx rfl (hb hby at_51) k) ?_
  obtain ⟨cl19, Ar19, q19, S19, M19, Hs19, G19⟩ := f18
  have hin19 : ¬ ((8 : Int32) < 0 ∨ cl19.slots.size ≤ ((8 : Int32)).toNatClampNeg) := inb_of S19 ⟨by decide, by decide⟩
  obtain ⟨T19, h19, X19, e19, W19, st19⟩ := stI X17 hx hZ e17 Ar19 (j := (8 : Int32)) hin19 (g := (mkF m 54 #[.val (.int p0), .val (.int p1), .unset, .unset, .unset, .unset] [(.int (134 : Int32)), (.int (8 : Int32)), (.ref b1), (.ref b1)])) rfl rfl (hb hby at_54)
  have f20 : Arv Z h19 b1 k1 .int (16 : Int32) [(.int (9 : Int32)), (.int (10 : Int32)), (.int (11 : Int32)), (.int (12 : Int32)), (.int (13 : Int32)), (.int (14 : Int32)), (.int (132 : Int32)), (.int (133 : Int32)), (.int (134 : Int32)), (.int (0 : Int32)), (.int (0 : Int32)), (.int (0 : Int32)), (.int (0 : Int32)), (.int (0 : Int32)), (.int (0 : Int32)), (.int (0 : Int32))] (.int (0 : Int32)) := Arv.set Ar19 q19 S19 M19 Hs19 G19 rfl W19 8 rfl (Nat.le_of_ble_eq_true rfl)
  have K19 : Keep h0 h19 [] := Keep.wr K17 W19 (Or.inr sz_b1)
  have Z19 : n0 ≤ h19.size := Nat.le_trans Z0 K19.1
  have N19 := Fr.snoc X19 N17 g_b1
  refine Goes.via (S' := (T19.setTop (mkF m 55 #[.val (.int p0), .val (.int p1), .unset, .unset, .unset, .unset] [(.ref b1)]))) (fun t k => st19 _ k) ?_
  refine Goes.via (S' := (T19.setTop (mkF m 56 #[.val (.int p0), .val (.int p1), .unset, .unset, .unset, .unset] [(.ref b1), (.ref b1)]))) (fun t k => XS.dup X19.here hx rfl (hb hby at_55) rfl rfl k) ?_
  refine Goes.via (S' := (T19.setTop (mkF m 58 #[.val (.int p0), .val (.int p1), .unset, .unset, .unset, .unset] [(.int (9 : Int32)), (.ref b1), (.ref b1)]))) (fun t k => XS.bipush X19.here hx rfl (hb hby at_56) k) ?_
  refine Goes.via (S' := (T19.setTop (mkF m 61 #[.val (.int p0), .val (.int p1), .unset, .unset, .unset, .unset] [(.int (8231 : Int32)), (.int (9 : Int32)), (.ref b1), (.ref b1)]))) (fun t k => XS.sipush X19.here hx rfl (hb hby at_58) k) ?_
  obtain ⟨cl21, Ar21, q21, S21, M21, Hs21, G21⟩ := f20
  have hin21 : ¬ ((9 : Int32) < 0 ∨ cl21.slots.size ≤ ((9 : Int32)).toNatClampNeg) := inb_of S21 ⟨by decide, by decide⟩
  obtain ⟨T21, h21, X21, e21, W21, st21⟩ := stI X19 hx hZ e19 Ar21 (j := (9 : Int32)) hin21 (g := (mkF m 61 #[.val (.int p0), .val (.int p1), .unset, .unset, .unset, .unset] [(.int (8231 : Int32)), (.int (9 : Int32)), (.ref b1), (.ref b1)])) rfl rfl (hb hby at_61)
  have f22 : Arv Z h21 b1 k1 .int (16 : Int32) [(.int (9 : Int32)), (.int (10 : Int32)), (.int (11 : Int32)), (.int (12 : Int32)), (.int (13 : Int32)), (.int (14 : Int32)), (.int (132 : Int32)), (.int (133 : Int32)), (.int (134 : Int32)), (.int (8231 : Int32)), (.int (0 : Int32)), (.int (0 : Int32)), (.int (0 : Int32)), (.int (0 : Int32)), (.int (0 : Int32)), (.int (0 : Int32))] (.int (0 : Int32)) := Arv.set Ar21 q21 S21 M21 Hs21 G21 rfl W21 9 rfl (Nat.le_of_ble_eq_true rfl)
  have K21 : Keep h0 h21 [] := Keep.wr K19 W21 (Or.inr sz_b1)
  have Z21 : n0 ≤ h21.size := Nat.le_trans Z0 K21.1
  have N21 := Fr.snoc X21 N19 g_b1
  refine Goes.via (S' := (T21.setTop (mkF m 62 #[.val (.int p0), .val (.int p1), .unset, .unset, .unset, .unset] [(.ref b1)]))) (fun t k => st21 _ k) ?_
  refine Goes.via (S' := (T21.setTop (mkF m 63 #[.val (.int p0), .val (.int p1), .unset, .unset, .unset, .unset] [(.ref b1), (.ref b1)]))) (fun t k => XS.dup X21.here hx rfl (hb hby at_62) rfl rfl k) ?_
  refine Goes.via (S' := (T21.setTop (mkF m 65 #[.val (.int p0), .val (.int p1), .unset, .unset, .unset, .unset] [(.int (10 : Int32)), (.ref b1), (.ref b1)]))) (fun t k => XS.bipush X21.here hx rfl (hb hby at_63) k) ?_
  refine Goes.via (S' := (T21.setTop (mkF m 68 #[.val (.int p0), .val (.int p1), .unset, .unset, .unset, .unset] [(.int (8232 : Int32)), (.int (10 : Int32)), (.ref b1), (.ref b1)]))) (fun t k => XS.sipush X21.here hx rfl (hb hby at_65) k) ?_
  obtain ⟨cl23, Ar23, q23, S23, M23, Hs23, G23⟩ := f22
  have hin23 : ¬ ((10 : Int32) < 0 ∨ cl23.slots.size ≤ ((10 : Int32)).toNatClampNeg) := inb_of S23 ⟨by decide, by decide⟩
  obtain ⟨T23, h23, X23, e23, W23, st23⟩ := stI X21 hx hZ e21 Ar23 (j := (10 : Int32)) hin23 (g := (mkF m 68 #[.val (.int p0), .val (.int p1), .unset, .unset, .unset, .unset] [(.int (8232 : Int32)), (.int (10 : Int32)), (.ref b1), (.ref b1)])) rfl rfl (hb hby at_68)
  have f24 : Arv Z h23 b1 k1 .int (16 : Int32) [(.int (9 : Int32)), (.int (10 : Int32)), (.int (11 : Int32)), (.int (12 : Int32)), (.int (13 : Int32)), (.int (14 : Int32)), (.int (132 : Int32)), (.int (133 : Int32)), (.int (134 : Int32)), (.int (8231 : Int32)), (.int (8232 : Int32)), (.int (0 : Int32)), (.int (0 : Int32)), (.int (0 : Int32)), (.int (0 : Int32)), (.int (0 : Int32))] (.int (0 : Int32)) := Arv.set Ar23 q23 S23 M23 Hs23 G23 rfl W23 10 rfl (Nat.le_of_ble_eq_true rfl)
  have K23 : Keep h0 h23 [] := Keep.wr K21 W23 (Or.inr sz_b1)
  have Z23 : n0 ≤ h23.size := Nat.le_trans Z0 K23.1
  have N23 := Fr.snoc X23 N21 g_b1
  refine Goes.via (S' := (T23.setTop (mkF m 69 #[.val (.int p0), .val (.int p1), .unset, .unset, .unset, .unset] [(.ref b1)]))) (fun t k => st23 _ k) ?_
  refine Goes.via (S' := (T23.setTop (mkF m 70 #[.val (.int p0), .val (.int p1), .unset, .unset, .unset, .unset] [(.ref b1), (.ref b1)]))) (fun t k => XS.dup X23.here hx rfl (hb hby at_69) rfl rfl k) ?_
  refine Goes.via (S' := (T23.setTop (mkF m 72 #[.val (.int p0), .val (.int p1), .unset, .unset, .unset, .unset] [(.int (11 : Int32)), (.ref b1), (.ref b1)]))) (fun t k => XS.bipush X23.here hx rfl (hb hby at_70) k) ?_
  refine Goes.via (S' := (T23.setTop (mkF m 75 #[.val (.int p0), .val (.int p1), .unset, .unset, .unset, .unset] [(.int (8233 : Int32)), (.int (11 : Int32)), (.ref b1), (.ref b1)]))) (fun t k => XS.sipush X23.here hx rfl (hb hby at_72) k) ?_
  obtain ⟨cl25, Ar25, q25, S25, M25, Hs25, G25⟩ := f24
  have hin25 : ¬ ((11 : Int32) < 0 ∨ cl25.slots.size ≤ ((11 : Int32)).toNatClampNeg) := inb_of S25 ⟨by decide, by decide⟩
  obtain ⟨T25, h25, X25, e25, W25, st25⟩ := stI X23 hx hZ e23 Ar25 (j := (11 : Int32)) hin25 (g := (mkF m 75 #[.val (.int p0), .val (.int p1), .unset, .unset, .unset, .unset] [(.int (8233 : Int32)), (.int (11 : Int32)), (.ref b1), (.ref b1)])) rfl rfl (hb hby at_75)
  have f26 : Arv Z h25 b1 k1 .int (16 : Int32) [(.int (9 : Int32)), (.int (10 : Int32)), (.int (11 : Int32)), (.int (12 : Int32)), (.int (13 : Int32)), (.int (14 : Int32)), (.int (132 : Int32)), (.int (133 : Int32)), (.int (134 : Int32)), (.int (8231 : Int32)), (.int (8232 : Int32)), (.int (8233 : Int32)), (.int (0 : Int32)), (.int (0 : Int32)), (.int (0 : Int32)), (.int (0 : Int32))] (.int (0 : Int32)) := Arv.set Ar25 q25 S25 M25 Hs25 G25 rfl W25 11 rfl (Nat.le_of_ble_eq_true rfl)
  have K25 : Keep h0 h25 [] := Keep.wr K23 W25 (Or.inr sz_b1)
  have Z25 : n0 ≤ h25.size := Nat.le_trans Z0 K25.1
  have N25 := Fr.snoc X25 N23 g_b1
  refine Goes.via (S' := (T25.setTop (mkF m 76 #[.val (.int p0), .val (.int p1), .unset, .unset, .unset, .unset] [(.ref b1)]))) (fun t k => st25 _ k) ?_
  refine Goes.via (S' := (T25.setTop (mkF m 77 #[.val (.int p0), .val (.int p1), .unset, .unset, .unset, .unset] [(.ref b1), (.ref b1)]))) (fun t k => XS.dup X25.here hx rfl (hb hby at_76) rfl rfl k) ?_
  refine Goes.via (S' := (T25.setTop (mkF m 79 #[.val (.int p0), .val (.int p1), .unset, .unset, .unset, .unset] [(.int (12 : Int32)), (.ref b1), (.ref b1)]))) (fun t k => XS.bipush X25.here hx rfl (hb hby at_77) k) ?_
  refine Goes.via (S' := (T25.setTop (mkF m 82 #[.val (.int p0), .val (.int p1), .unset, .unset, .unset, .unset] [(.int (8234 : Int32)), (.int (12 : Int32)), (.ref b1), (.ref b1)]))) (fun t k => XS.sipush X25.here hx rfl (hb hby at_79) k) ?_
  obtain ⟨cl27, Ar27, q27, S27, M27, Hs27, G27⟩ := f26
  have hin27 : ¬ ((12 : Int32) < 0 ∨ cl27.slots.size ≤ ((12 : Int32)).toNatClampNeg) := inb_of S27 ⟨by decide, by decide⟩
  obtain ⟨T27, h27, X27, e27, W27, st27⟩ := stI X25 hx hZ e25 Ar27 (j := (12 : Int32)) hin27 (g := (mkF m 82 #[.val (.int p0), .val (.int p1), .unset, .unset, .unset, .unset] [(.int (8234 : Int32)), (.int (12 : Int32)), (.ref b1), (.ref b1)])) rfl rfl (hb hby at_82)
  have f28 : Arv Z h27 b1 k1 .int (16 : Int32) [(.int (9 : Int32)), (.int (10 : Int32)), (.int (11 : Int32)), (.int (12 : Int32)), (.int (13 : Int32)), (.int (14 : Int32)), (.int (132 : Int32)), (.int (133 : Int32)), (.int (134 : Int32)), (.int (8231 : Int32)), (.int (8232 : Int32)), (.int (8233 : Int32)), (.int (8234 : Int32)), (.int (0 : Int32)), (.int (0 : Int32)), (.int (0 : Int32))] (.int (0 : Int32)) := Arv.set Ar27 q27 S27 M27 Hs27 G27 rfl W27 12 rfl (Nat.le_of_ble_eq_true rfl)
  have K27 : Keep h0 h27 [] := Keep.wr K25 W27 (Or.inr sz_b1)
  have Z27 : n0 ≤ h27.size := Nat.le_trans Z0 K27.1
  have N27 := Fr.snoc X27 N25 g_b1
  refine Goes.via (S' := (T27.setTop (mkF m 83 #[.val (.int p0), .val (.int p1), .unset, .unset, .unset, .unset] [(.ref b1)]))) (fun t k => st27 _ k) ?_
  refine Goes.via (S' := (T27.setTop (mkF m 84 #[.val (.int p0), .val (.int p1), .unset, .unset, .unset, .unset] [(.ref b1), (.ref b1)]))) (fun t k => XS.dup X27.here hx rfl (hb hby at_83) rfl rfl k) ?_
  refine Goes.via (S' := (T27.setTop (mkF m 86 #[.val (.int p0), .val (.int p1), .unset, .unset, .unset, .unset] [(.int (13 : Int32)), (.ref b1), (.ref b1)]))) (fun t k => XS.bipush X27.here hx rfl (hb hby at_84) k) ?_
  refine Goes.via (S' := (T27.setTop (mkF m 87 #[.val (.int p0), .val (.int p1), .unset, .unset, .unset, .unset] [(.int (0 : Int32)), (.int (13 : Int32)), (.ref b1), (.ref b1)]))) (fun t k => XS.iconst X27.here hx rfl (hb hby at_86) k) ?_
  obtain ⟨cl29, Ar29, q29, S29, M29, Hs29, G29⟩ := f28
  have hin29 : ¬ ((13 : Int32) < 0 ∨ cl29.slots.size ≤ ((13 : Int32)).toNatClampNeg) := inb_of S29 ⟨by decide, by decide⟩
  obtain ⟨T29, h29, X29, e29, W29, st29⟩ := stI X27 hx hZ e27 Ar29 (j := (13 : Int32)) hin29 (g := (mkF m 87 #[.val (.int p0), .val (.int p1), .unset, .unset, .unset, .unset] [(.int (0 : Int32)), (.int (13 : Int32)), (.ref b1), (.ref b1)])) rfl rfl (hb hby at_87)
  have f30 : Arv Z h29 b1 k1 .int (16 : Int32) [(.int (9 : Int32)), (.int (10 : Int32)), (.int (11 : Int32)), (.int (12 : Int32)), (.int (13 : Int32)), (.int (14 : Int32)), (.int (132 : Int32)), (.int (133 : Int32)), (.int (134 : Int32)), (.int (8231 : Int32)), (.int (8232 : Int32)), (.int (8233 : Int32)), (.int (8234 : Int32)), (.int (0 : Int32)), (.int (0 : Int32)), (.int (0 : Int32))] (.int (0 : Int32)) := Arv.set Ar29 q29 S29 M29 Hs29 G29 rfl W29 13 rfl (Nat.le_of_ble_eq_true rfl)
  have K29 : Keep h0 h29 [] := Keep.wr K27 W29 (Or.inr sz_b1)
  have Z29 : n0 ≤ h29.size := Nat.le_trans Z0 K29.1
  have N29 := Fr.snoc X29 N27 g_b1
  refine Goes.via (S' := (T29.setTop (mkF m 88 #[.val (.int p0), .val (.int p1), .unset, .unset, .unset, .unset] [(.ref b1)]))) (fun t k => st29 _ k) ?_
  refine Goes.via (S' := (T29.setTop (mkF m 89 #[.val (.int p0), .val (.int p1), .unset, .unset, .unset, .unset] [(.ref b1), (.ref b1)]))) (fun t k => XS.dup X29.here hx rfl (hb hby at_88) rfl rfl k) ?_
  refine Goes.via (S' := (T29.setTop (mkF m 91 #[.val (.int p0), .val (.int p1), .unset, .unset, .unset, .unset] [(.int (14 : Int32)), (.ref b1), (.ref b1)]))) (fun t k => XS.bipush X29.here hx rfl (hb hby at_89) k) ?_
  refine Goes.via (S' := (T29.setTop (mkF m 93 #[.val (.int p0), .val (.int p1), .unset, .unset, .unset, .unset] [(.int (65535 : Int32)), (.int (14 : Int32)), (.ref b1), (.ref b1)]))) (fun t k => X29.ldcInt hx hown (mvT hZ (hw _ (List.mem_of_getElem? (i := 1) rfl))) (g := (mkF m 91 #[.val (.int p0), .val (.int p1), .unset, .unset, .unset, .unset] [(.int (14 : Int32)), (.ref b1), (.ref b1)])) rfl (hb hby at_91) _ k) ?_
  obtain ⟨cl31, Ar31, q31, S31, M31, Hs31, G31⟩ := f30
  have hin31 : ¬ ((14 : Int32) < 0 ∨ cl31.slots.size ≤ ((14 : Int32)).toNatClampNeg) := inb_of S31 ⟨by decide, by decide⟩
  obtain ⟨T31, h31, X31, e31, W31, st31⟩ := stI X29 hx hZ e29 Ar31 (j := (14 : Int32)) hin31 (g := (mkF m 93 #[.val (.int p0), .val (.int p1), .unset, .unset, .unset, .unset] [(.int (65535 : Int32)), (.int (14 : Int32)), (.ref b1), (.ref b1)])) rfl rfl (hb hby at_93)
  have f32 : Arv Z h31 b1 k1 .int (16 : Int32) [(.int (9 : Int32)), (.int (10 : Int32)), (.int (11 : Int32)), (.int (12 : Int32)), (.int (13 : Int32)), (.int (14 : Int32)), (.int (132 : Int32)), (.int (133 : Int32)), (.int (134 : Int32)), (.int (8231 : Int32)), (.int (8232 : Int32)), (.int (8233 : Int32)), (.int (8234 : Int32)), (.int (0 : Int32)), (.int (65535 : Int32)), (.int (0 : Int32))] (.int (0 : Int32)) := Arv.set Ar31 q31 S31 M31 Hs31 G31 rfl W31 14 rfl (Nat.le_of_ble_eq_true rfl)
  have K31 : Keep h0 h31 [] := Keep.wr K29 W31 (Or.inr sz_b1)
  have Z31 : n0 ≤ h31.size := Nat.le_trans Z0 K31.1
  have N31 := Fr.snoc X31 N29 g_b1
  refine Goes.via (S' := (T31.setTop (mkF m 94 #[.val (.int p0), .val (.int p1), .unset, .unset, .unset, .unset] [(.ref b1)]))) (fun t k => st31 _ k) ?_
  refine Goes.via (S' := (T31.setTop (mkF m 95 #[.val (.int p0), .val (.int p1), .unset, .unset, .unset, .unset] [(.ref b1), (.ref b1)]))) (fun t k => XS.dup X31.here hx rfl (hb hby at_94) rfl rfl k) ?_
  refine Goes.via (S' := (T31.setTop (mkF m 97 #[.val (.int p0), .val (.int p1), .unset, .unset, .unset, .unset] [(.int (15 : Int32)), (.ref b1), (.ref b1)]))) (fun t k => XS.bipush X31.here hx rfl (hb hby at_95) k) ?_
  refine Goes.via (S' := (T31.setTop (mkF m 99 #[.val (.int p0), .val (.int p1), .unset, .unset, .unset, .unset] [(.int (32 : Int32)), (.int (15 : Int32)), (.ref b1), (.ref b1)]))) (fun t k => XS.bipush X31.here hx rfl (hb hby at_97) k) ?_
  obtain ⟨cl33, Ar33, q33, S33, M33, Hs33, G33⟩ := f32
  have hin33 : ¬ ((15 : Int32) < 0 ∨ cl33.slots.size ≤ ((15 : Int32)).toNatClampNeg) := inb_of S33 ⟨by decide, by decide⟩
  obtain ⟨T33, h33, X33, e33, W33, st33⟩ := stI X31 hx hZ e31 Ar33 (j := (15 : Int32)) hin33 (g := (mkF m 99 #[.val (.int p0), .val (.int p1), .unset, .unset, .unset, .unset] [(.int (32 : Int32)), (.int (15 : Int32)), (.ref b1), (.ref b1)])) rfl rfl (hb hby at_99)
  have f34 : Arv Z h33 b1 k1 .int (16 : Int32) [(.int (9 : Int32)), (.int (10 : Int32)), (.int (11 : Int32)), (.int (12 : Int32)), (.int (13 : Int32)), (.int (14 : Int32)), (.int (132 : Int32)), (.int (133 : Int32)), (.int (134 : Int32)), (.int (8231 : Int32)), (.int (8232 : Int32)), (.int (8233 : Int32)), (.int (8234 : Int32)), (.int (0 : Int32)), (.int (65535 : Int32)), (.int (32 : Int32))] (.int (0 : Int32)) := Arv.set Ar33 q33 S33 M33 Hs33 G33 rfl W33 15 rfl (Nat.le_of_ble_eq_true rfl)
  have K33 : Keep h0 h33 [] := Keep.wr K31 W33 (Or.inr sz_b1)
  have Z33 : n0 ≤ h33.size := Nat.le_trans Z0 K33.1
  have N33 := Fr.snoc X33 N31 g_b1
  refine Goes.via (S' := (T33.setTop (mkF m 100 #[.val (.int p0), .val (.int p1), .unset, .unset, .unset, .unset] [(.ref b1)]))) (fun t k => st33 _ k) ?_
  refine Goes.via (S' := (T33.setTop (mkF m 101 #[.val (.int p0), .val (.int p1), .val (.ref b1), .unset, .unset, .unset] []))) (fun t k => XS.astoreN X33.here hx rfl (hb hby at_100) rfl rfl (l' := #[.val (.int p0), .val (.int p1), .val (.ref b1), .unset, .unset, .unset]) rfl k) ?_
  refine Goes.via (S' := (T33.setTop (mkF m 102 #[.val (.int p0), .val (.int p1), .val (.ref b1), .unset, .unset, .unset] [(.int p1)]))) (fun t k => XS.iloadN X33.here hx rfl (hb hby at_101) rfl k) ?_
  refine Goes.via (S' := (T33.setTop (mkF m 104 #[.val (.int p0), .val (.int p1), .val (.ref b1), .unset, .unset, .unset] [(.int (31 : Int32)), (.int p1)]))) (fun t k => XS.bipush X33.here hx rfl (hb hby at_102) k) ?_
  refine Goes.via (S' := (T33.setTop (mkF m 105 #[.val (.int p0), .val (.int p1), .val (.ref b1), .unset, .unset, .unset] [(.int (p1 &&& (31 : Int32)))]))) (fun t k => XS.iand X33.here hx rfl (hb hby at_104) rfl k) ?_
  refine Goes.via (S' := (T33.setTop (mkF m 106 #[.val (.int p0), .val (.int p1), .val (.ref b1), .val (.int (p1 &&& (31 : Int32))), .unset, .unset] []))) (fun t k => XS.istoreN X33.here hx rfl (hb hby at_105) rfl (l' := #[.val (.int p0), .val (.int p1), .val (.ref b1), .val (.int (p1 &&& (31 : Int32))), .unset, .unset]) rfl k) ?_
  refine Goes.via (S' := (T33.setTop (mkF m 107 #[.val (.int p0), .val (.int p1), .val (.ref b1), .val (.int (p1 &&& (31 : Int32))), .unset, .unset] [(.int (p1 &&& (31 : Int32)))]))) (fun t k => XS.iloadN X33.here hx rfl (hb hby at_106) rfl k) ?_
  refine Goes.via (S' := (T33.setTop (mkF m 109 #[.val (.int p0), .val (.int p1), .val (.ref b1), .val (.int (p1 &&& (31 : Int32))), .unset, .unset] [(.int (16 : Int32)), (.int (p1 &&& (31 : Int32)))]))) (fun t k => XS.bipush X33.here hx rfl (hb hby at_107) k) ?_
  by_cases hc35 : ((p1 &&& (31 : Int32)) < (16 : Int32))
  · refine Goes.via (S' := (T33.setTop (mkF m 112 #[.val (.int p0), .val (.int p1), .val (.ref b1), .val (.int (p1 &&& (31 : Int32))), .unset, .unset] []))) (fun t k => XS.icmpNo X33.here hx rfl (hb hby at_109) rfl (tlt hc35).2.1 k) ?_
    refine Goes.via (S' := (T33.setTop (mkF m 113 #[.val (.int p0), .val (.int p1), .val (.ref b1), .val (.int (p1 &&& (31 : Int32))), .unset, .unset] [(.ref b1)]))) (fun t k => XS.aloadN X33.here hx rfl (hb hby at_112) rfl rfl k) ?_
    refine Goes.via (S' := (T33.setTop (mkF m 114 #[.val (.int p0), .val (.int p1), .val (.ref b1), .val (.int (p1 &&& (31 : Int32))), .unset, .unset] [(.int (p1 &&& (31 : Int32))), (.ref b1)]))) (fun t k => XS.iloadN X33.here hx rfl (hb hby at_113) rfl k) ?_
    obtain ⟨y36, hy36⟩ : ∃ y : Int32, ([(.int (9 : Int32)), (.int (10 : Int32)), (.int (11 : Int32)), (.int (12 : Int32)), (.int (13 : Int32)), (.int (14 : Int32)), (.int (132 : Int32)), (.int (133 : Int32)), (.int (134 : Int32)), (.int (8231 : Int32)), (.int (8232 : Int32)), (.int (8233 : Int32)), (.int (8234 : Int32)), (.int (0 : Int32)), (.int (65535 : Int32)), (.int (32 : Int32))] : List Value).getD ((p1 &&& (31 : Int32))).toNatClampNeg (.int (0 : Int32)) = .int y := own_allint _ _ (by simp) 
    obtain ⟨cl36, Ar36, q36, S36, M36, Hs36, G36⟩ := f34
    have hin36 : ¬ ((p1 &&& (31 : Int32)) < 0 ∨ cl36.slots.size ≤ ((p1 &&& (31 : Int32))).toNatClampNeg) := inb_of S36 ⟨own_sel _, hc35⟩
    have hat36 : cl36.slots[((p1 &&& (31 : Int32))).toNatClampNeg]? = some (.int y36) := Has.at Hs36 hin36 hy36
    refine Goes.via (S' := (T33.setTop (mkF m 115 #[.val (.int p0), .val (.int p1), .val (.ref b1), .val (.int (p1 &&& (31 : Int32))), .unset, .unset] [(.int y36)]))) (fun t k => X33.iaload hx (j := (p1 &&& (31 : Int32))) (v := (.int y36)) (by rw [e33]; exact Ar36.1) (State.isArrayOf_alike hZ.alike Ar36.2.1) Ar36.2.2 hin36 hat36 (g := (mkF m 114 #[.val (.int p0), .val (.int p1), .val (.ref b1), .val (.int (p1 &&& (31 : Int32))), .unset, .unset] [(.int (p1 &&& (31 : Int32))), (.ref b1)])) rfl rfl (hb hby at_114) _ k) ?_
    refine Goes.via (S' := (T33.setTop (mkF m 116 #[.val (.int p0), .val (.int p1), .val (.ref b1), .val (.int (p1 &&& (31 : Int32))), .unset, .unset] [(.int (y36.toUInt32.toUInt16.toUInt32.toInt32))]))) (fun t k => XS.i2c X33.here hx rfl (hb hby at_115) rfl k) ?_
    refine Goes.via (S' := (T33.setTop (mkF m 118 #[.val (.int p0), .val (.int p1), .val (.ref b1), .val (.int (p1 &&& (31 : Int32))), .val (.int (y36.toUInt32.toUInt16.toUInt32.toInt32)), .unset] []))) (fun t k => XS.istore X33.here hx rfl (hb hby at_116) rfl (l' := #[.val (.int p0), .val (.int p1), .val (.ref b1), .val (.int (p1 &&& (31 : Int32))), .val (.int (y36.toUInt32.toUInt16.toUInt32.toInt32)), .unset]) rfl k) ?_
    refine Goes.via (S' := (T33.setTop (mkF m 128 #[.val (.int p0), .val (.int p1), .val (.ref b1), .val (.int (p1 &&& (31 : Int32))), .val (.int (y36.toUInt32.toUInt16.toUInt32.toInt32)), .unset] []))) (fun t k => XS.goto X33.here hx rfl (pc0 := 118) (pc' := 128) rfl (hb hby at_118) (by decide) (by decide) k) ?_
    refine Goes.via (S' := (T33.setTop (mkF m 130 #[.val (.int p0), .val (.int p1), .val (.ref b1), .val (.int (p1 &&& (31 : Int32))), .val (.int (y36.toUInt32.toUInt16.toUInt32.toInt32)), .unset] [(.int (y36.toUInt32.toUInt16.toUInt32.toInt32))]))) (fun t k => XS.iload X33.here hx rfl (hb hby at_128) rfl k) ?_
    refine Goes.via (S' := (T33.setTop (mkF m 132 #[.val (.int p0), .val (.int p1), .val (.ref b1), .val (.int (p1 &&& (31 : Int32))), .val (.int (y36.toUInt32.toUInt16.toUInt32.toInt32)), .val (.int (y36.toUInt32.toUInt16.toUInt32.toInt32))] []))) (fun t k => XS.istore X33.here hx rfl (hb hby at_130) rfl (l' := #[.val (.int p0), .val (.int p1), .val (.ref b1), .val (.int (p1 &&& (31 : Int32))), .val (.int (y36.toUInt32.toUInt16.toUInt32.toInt32)), .val (.int (y36.toUInt32.toUInt16.toUInt32.toInt32))]) rfl k) ?_
    refine Goes.via (S' := (T33.setTop (mkF m 134 #[.val (.int p0), .val (.int p1), .val (.ref b1), .val (.int (p1 &&& (31 : Int32))), .val (.int (y36.toUInt32.toUInt16.toUInt32.toInt32)), .val (.int (y36.toUInt32.toUInt16.toUInt32.toInt32))] [(.int (y36.toUInt32.toUInt16.toUInt32.toInt32))]))) (fun t k => XS.iload X33.here hx rfl (hb hby at_132) rfl k) ?_
    obtain ⟨_, _, ⟨T37, L37, k37, n37⟩, -, X37, ⟨Lc37, hQ37, l37, y37, z37⟩, st37⟩ := Jvm.LawKit.callS X33 hx (y := (⟨"com/example/finder_compiler/findercompiler/LineBreaks", "isLineBreak", "(C)Z"⟩ : MethodName)) hown (mvT hZ (hw _ (List.mem_of_getElem? (i := 2) rfl))) (mvT hZ (hw _ (List.mem_of_getElem? (i := 3) rfl))) (mvT hZ (hw _ (List.mem_of_getElem? (i := 4) rfl))) (mvT hZ (hw _ (List.mem_of_getElem? (i := 5) rfl))) (by decide) (backOf (W := 0) (rm1 l Z a0 hw [] (y36.toUInt32.toUInt16.toUInt32.toInt32) h33 n0 Z33 ) hZ (hw _ (List.mem_of_getElem? (i := 5) rfl)) (hw _ (List.mem_of_getElem? (i := 4) rfl)) (by decide) (by decide)) (g := (mkF m 134 #[.val (.int p0), .val (.int p1), .val (.ref b1), .val (.int (p1 &&& (31 : Int32))), .val (.int (y36.toUInt32.toUInt16.toUInt32.toInt32)), .val (.int (y36.toUInt32.toUInt16.toUInt32.toInt32))] [(.int (y36.toUInt32.toUInt16.toUInt32.toInt32))])) rfl (by rw [hml]; rfl) (argsL := [(.int (y36.toUInt32.toUInt16.toUInt32.toInt32))]) (rest := []) (lenOf pd_0 rfl) rfl (by show 2 * 0 + _ ≤ _; exact Nat.le_of_eq rfl) (hb hby at_134) (fun _ _ => ⟨rfl, e33, (by decide : 1 + 0 ≤ _), (by decide : 16 + 0 ≤ _)⟩)
    dsimp only [Pt.U, Pt.locs, Pt.cells, Pt.slots] at X37 l37 y37 z37 st37 hQ37
    subst l37 y37 z37
    obtain ⟨r37, rfl, hr37, N37q, eq37⟩ := hQ37
    have N37 := Fr.app N33 N37q
    refine Goes.via (S' := (T37.setTop (mkF m 137 #[.val (.int p0), .val (.int p1), .val (.ref b1), .val (.int (p1 &&& (31 : Int32))), .val (.int (y36.toUInt32.toUInt16.toUInt32.toInt32)), .val (.int (y36.toUInt32.toUInt16.toUInt32.toInt32))] [(.int r37)]))) (fun t k => st37 _ k) ?_
    refine Goes.via (S' := (T37.setTop (mkF m 139 #[.val (.int p0), .val (.int p1), .val (.ref b1), .val (.int (p1 &&& (31 : Int32))), .val (.int (y36.toUInt32.toUInt16.toUInt32.toInt32)), .val (.int (y36.toUInt32.toUInt16.toUInt32.toInt32))] [(.int (y36.toUInt32.toUInt16.toUInt32.toInt32)), (.int r37)]))) (fun t k => XS.iload X37.here hx rfl (hb hby at_137) rfl k) ?_
    obtain ⟨_, _, ⟨T38, L38, k38, n38⟩, -, X38, ⟨Lc38, hQ38, l38, y38, z38⟩, st38⟩ := Jvm.LawKit.callS X37 hx (y := (⟨"com/example/finder_compiler/findercompiler/LineBreaksIsLineBreakPinLaw", "expected", "(I)Z"⟩ : MethodName)) hown (mvT hZ (hw _ (List.mem_of_getElem? (i := 6) rfl))) (mvT hZ (hw _ (List.mem_of_getElem? (i := 7) rfl))) (mvT hZ (hw _ (List.mem_of_getElem? (i := 8) rfl))) (mvT hZ (hw _ (List.mem_of_getElem? (i := 9) rfl))) (by decide) (backOf (W := 1) (rm2 l Z a0 hw [] (y36.toUInt32.toUInt16.toUInt32.toInt32) h33 n0 Z33 ) hZ (hw _ (List.mem_of_getElem? (i := 9) rfl)) (hw _ (List.mem_of_getElem? (i := 8) rfl)) (by decide) (by decide)) (g := (mkF m 139 #[.val (.int p0), .val (.int p1), .val (.ref b1), .val (.int (p1 &&& (31 : Int32))), .val (.int (y36.toUInt32.toUInt16.toUInt32.toInt32)), .val (.int (y36.toUInt32.toUInt16.toUInt32.toInt32))] [(.int (y36.toUInt32.toUInt16.toUInt32.toInt32)), (.int r37)])) rfl (by rw [hml]; rfl) (argsL := [(.int (y36.toUInt32.toUInt16.toUInt32.toInt32))]) (rest := [(.int r37)]) (lenOf pd_1 rfl) rfl (by show 2 * 0 + _ ≤ _; exact Nat.le_of_eq rfl) (hb hby at_139) (fun _ _ => ⟨rfl, eq37, (by decide : 1 + 0 ≤ _), (by decide : 16 + 0 ≤ _)⟩)
    dsimp only [Pt.U, Pt.locs, Pt.cells, Pt.slots] at X38 l38 y38 z38 st38 hQ38
    subst l38 y38 z38
    obtain ⟨r38, rfl, hr38, N38q, eq38⟩ := hQ38
    have N38 := Fr.app N37 N38q
    refine Goes.via (S' := (T38.setTop (mkF m 142 #[.val (.int p0), .val (.int p1), .val (.ref b1), .val (.int (p1 &&& (31 : Int32))), .val (.int (y36.toUInt32.toUInt16.toUInt32.toInt32)), .val (.int (y36.toUInt32.toUInt16.toUInt32.toInt32))] [(.int r38), (.int r37)]))) (fun t k => st38 _ k) ?_
    refine Goes.via (S' := (T38.setTop (mkF m 145 #[.val (.int p0), .val (.int p1), .val (.ref b1), .val (.int (p1 &&& (31 : Int32))), .val (.int (y36.toUInt32.toUInt16.toUInt32.toInt32)), .val (.int (y36.toUInt32.toUInt16.toUInt32.toInt32))] []))) (fun t k => XS.icmpNo X38.here hx rfl (hb hby at_142) rfl (teq (own_beq hr37 hr38 (iff_of_eq (own_lb _)) : (r37 = r38))).2 k) ?_
    refine Goes.via (S' := (T38.setTop (mkF m 146 #[.val (.int p0), .val (.int p1), .val (.ref b1), .val (.int (p1 &&& (31 : Int32))), .val (.int (y36.toUInt32.toUInt16.toUInt32.toInt32)), .val (.int (y36.toUInt32.toUInt16.toUInt32.toInt32))] [(.int (1 : Int32))]))) (fun t k => XS.iconst X38.here hx rfl (hb hby at_145) k) ?_
    refine Goes.via (S' := (T38.setTop (mkF m 150 #[.val (.int p0), .val (.int p1), .val (.ref b1), .val (.int (p1 &&& (31 : Int32))), .val (.int (y36.toUInt32.toUInt16.toUInt32.toInt32)), .val (.int (y36.toUInt32.toUInt16.toUInt32.toInt32))] [(.int (1 : Int32))]))) (fun t k => XS.goto X38.here hx rfl (pc0 := 146) (pc' := 150) rfl (hb hby at_146) (by decide) (by decide) k) ?_
    exact own_ret X38 hx Bd.notSynchronized Bd.returns rfl (Or.inl ⟨rfl, by simp, _, rfl⟩) (hb hby at_150) eq38 ⟨rfl, N38⟩ (by decide) (by decide)
  · refine Goes.via (S' := (T33.setTop (mkF m 121 #[.val (.int p0), .val (.int p1), .val (.ref b1), .val (.int (p1 &&& (31 : Int32))), .unset, .unset] []))) (fun t k => XS.icmpYes X33.here hx rfl (pc0 := 109) (pc' := 121) rfl (hb hby at_109) rfl (flt hc35).2.1 (by decide) (by decide) k) ?_
    refine Goes.via (S' := (T33.setTop (mkF m 122 #[.val (.int p0), .val (.int p1), .val (.ref b1), .val (.int (p1 &&& (31 : Int32))), .unset, .unset] [(.int p0)]))) (fun t k => XS.iloadN X33.here hx rfl (hb hby at_121) rfl k) ?_
    refine Goes.via (S' := (T33.setTop (mkF m 124 #[.val (.int p0), .val (.int p1), .val (.ref b1), .val (.int (p1 &&& (31 : Int32))), .unset, .unset] [(.int (65535 : Int32)), (.int p0)]))) (fun t k => X33.ldcInt hx hown (mvT hZ (hw _ (List.mem_of_getElem? (i := 1) rfl))) (g := (mkF m 122 #[.val (.int p0), .val (.int p1), .val (.ref b1), .val (.int (p1 &&& (31 : Int32))), .unset, .unset] [(.int p0)])) rfl (hb hby at_122) _ k) ?_
    refine Goes.via (S' := (T33.setTop (mkF m 125 #[.val (.int p0), .val (.int p1), .val (.ref b1), .val (.int (p1 &&& (31 : Int32))), .unset, .unset] [(.int (p0 &&& (65535 : Int32)))]))) (fun t k => XS.iand X33.here hx rfl (hb hby at_124) rfl k) ?_
    refine Goes.via (S' := (T33.setTop (mkF m 126 #[.val (.int p0), .val (.int p1), .val (.ref b1), .val (.int (p1 &&& (31 : Int32))), .unset, .unset] [(.int ((p0 &&& (65535 : Int32)).toUInt32.toUInt16.toUInt32.toInt32))]))) (fun t k => XS.i2c X33.here hx rfl (hb hby at_125) rfl k) ?_
    refine Goes.via (S' := (T33.setTop (mkF m 128 #[.val (.int p0), .val (.int p1), .val (.ref b1), .val (.int (p1 &&& (31 : Int32))), .val (.int ((p0 &&& (65535 : Int32)).toUInt32.toUInt16.toUInt32.toInt32)), .unset] []))) (fun t k => XS.istore X33.here hx rfl (hb hby at_126) rfl (l' := #[.val (.int p0), .val (.int p1), .val (.ref b1), .val (.int (p1 &&& (31 : Int32))), .val (.int ((p0 &&& (65535 : Int32)).toUInt32.toUInt16.toUInt32.toInt32)), .unset]) rfl k) ?_
    refine Goes.via (S' := (T33.setTop (mkF m 130 #[.val (.int p0), .val (.int p1), .val (.ref b1), .val (.int (p1 &&& (31 : Int32))), .val (.int ((p0 &&& (65535 : Int32)).toUInt32.toUInt16.toUInt32.toInt32)), .unset] [(.int ((p0 &&& (65535 : Int32)).toUInt32.toUInt16.toUInt32.toInt32))]))) (fun t k => XS.iload X33.here hx rfl (hb hby at_128) rfl k) ?_
    refine Goes.via (S' := (T33.setTop (mkF m 132 #[.val (.int p0), .val (.int p1), .val (.ref b1), .val (.int (p1 &&& (31 : Int32))), .val (.int ((p0 &&& (65535 : Int32)).toUInt32.toUInt16.toUInt32.toInt32)), .val (.int ((p0 &&& (65535 : Int32)).toUInt32.toUInt16.toUInt32.toInt32))] []))) (fun t k => XS.istore X33.here hx rfl (hb hby at_130) rfl (l' := #[.val (.int p0), .val (.int p1), .val (.ref b1), .val (.int (p1 &&& (31 : Int32))), .val (.int ((p0 &&& (65535 : Int32)).toUInt32.toUInt16.toUInt32.toInt32)), .val (.int ((p0 &&& (65535 : Int32)).toUInt32.toUInt16.toUInt32.toInt32))]) rfl k) ?_
    refine Goes.via (S' := (T33.setTop (mkF m 134 #[.val (.int p0), .val (.int p1), .val (.ref b1), .val (.int (p1 &&& (31 : Int32))), .val (.int ((p0 &&& (65535 : Int32)).toUInt32.toUInt16.toUInt32.toInt32)), .val (.int ((p0 &&& (65535 : Int32)).toUInt32.toUInt16.toUInt32.toInt32))] [(.int ((p0 &&& (65535 : Int32)).toUInt32.toUInt16.toUInt32.toInt32))]))) (fun t k => XS.iload X33.here hx rfl (hb hby at_132) rfl k) ?_
    obtain ⟨_, _, ⟨T39, L39, k39, n39⟩, -, X39, ⟨Lc39, hQ39, l39, y39, z39⟩, st39⟩ := Jvm.LawKit.callS X33 hx (y := (⟨"com/example/finder_compiler/findercompiler/LineBreaks", "isLineBreak", "(C)Z"⟩ : MethodName)) hown (mvT hZ (hw _ (List.mem_of_getElem? (i := 2) rfl))) (mvT hZ (hw _ (List.mem_of_getElem? (i := 3) rfl))) (mvT hZ (hw _ (List.mem_of_getElem? (i := 4) rfl))) (mvT hZ (hw _ (List.mem_of_getElem? (i := 5) rfl))) (by decide) (backOf (W := 0) (rm1 l Z a0 hw [] ((p0 &&& (65535 : Int32)).toUInt32.toUInt16.toUInt32.toInt32) h33 n0 Z33 ) hZ (hw _ (List.mem_of_getElem? (i := 5) rfl)) (hw _ (List.mem_of_getElem? (i := 4) rfl)) (by decide) (by decide)) (g := (mkF m 134 #[.val (.int p0), .val (.int p1), .val (.ref b1), .val (.int (p1 &&& (31 : Int32))), .val (.int ((p0 &&& (65535 : Int32)).toUInt32.toUInt16.toUInt32.toInt32)), .val (.int ((p0 &&& (65535 : Int32)).toUInt32.toUInt16.toUInt32.toInt32))] [(.int ((p0 &&& (65535 : Int32)).toUInt32.toUInt16.toUInt32.toInt32))])) rfl (by rw [hml]; rfl) (argsL := [(.int ((p0 &&& (65535 : Int32)).toUInt32.toUInt16.toUInt32.toInt32))]) (rest := []) (lenOf pd_0 rfl) rfl (by show 2 * 0 + _ ≤ _; exact Nat.le_of_eq rfl) (hb hby at_134) (fun _ _ => ⟨rfl, e33, (by decide : 1 + 0 ≤ _), (by decide : 16 + 0 ≤ _)⟩)
    dsimp only [Pt.U, Pt.locs, Pt.cells, Pt.slots] at X39 l39 y39 z39 st39 hQ39
    subst l39 y39 z39
    obtain ⟨r39, rfl, hr39, N39q, eq39⟩ := hQ39
    have N39 := Fr.app N33 N39q
    refine Goes.via (S' := (T39.setTop (mkF m 137 #[.val (.int p0), .val (.int p1), .val (.ref b1), .val (.int (p1 &&& (31 : Int32))), .val (.int ((p0 &&& (65535 : Int32)).toUInt32.toUInt16.toUInt32.toInt32)), .val (.int ((p0 &&& (65535 : Int32)).toUInt32.toUInt16.toUInt32.toInt32))] [(.int r39)]))) (fun t k => st39 _ k) ?_
    refine Goes.via (S' := (T39.setTop (mkF m 139 #[.val (.int p0), .val (.int p1), .val (.ref b1), .val (.int (p1 &&& (31 : Int32))), .val (.int ((p0 &&& (65535 : Int32)).toUInt32.toUInt16.toUInt32.toInt32)), .val (.int ((p0 &&& (65535 : Int32)).toUInt32.toUInt16.toUInt32.toInt32))] [(.int ((p0 &&& (65535 : Int32)).toUInt32.toUInt16.toUInt32.toInt32)), (.int r39)]))) (fun t k => XS.iload X39.here hx rfl (hb hby at_137) rfl k) ?_
    obtain ⟨_, _, ⟨T40, L40, k40, n40⟩, -, X40, ⟨Lc40, hQ40, l40, y40, z40⟩, st40⟩ := Jvm.LawKit.callS X39 hx (y := (⟨"com/example/finder_compiler/findercompiler/LineBreaksIsLineBreakPinLaw", "expected", "(I)Z"⟩ : MethodName)) hown (mvT hZ (hw _ (List.mem_of_getElem? (i := 6) rfl))) (mvT hZ (hw _ (List.mem_of_getElem? (i := 7) rfl))) (mvT hZ (hw _ (List.mem_of_getElem? (i := 8) rfl))) (mvT hZ (hw _ (List.mem_of_getElem? (i := 9) rfl))) (by decide) (backOf (W := 1) (rm2 l Z a0 hw [] ((p0 &&& (65535 : Int32)).toUInt32.toUInt16.toUInt32.toInt32) h33 n0 Z33 ) hZ (hw _ (List.mem_of_getElem? (i := 9) rfl)) (hw _ (List.mem_of_getElem? (i := 8) rfl)) (by decide) (by decide)) (g := (mkF m 139 #[.val (.int p0), .val (.int p1), .val (.ref b1), .val (.int (p1 &&& (31 : Int32))), .val (.int ((p0 &&& (65535 : Int32)).toUInt32.toUInt16.toUInt32.toInt32)), .val (.int ((p0 &&& (65535 : Int32)).toUInt32.toUInt16.toUInt32.toInt32))] [(.int ((p0 &&& (65535 : Int32)).toUInt32.toUInt16.toUInt32.toInt32)), (.int r39)])) rfl (by rw [hml]; rfl) (argsL := [(.int ((p0 &&& (65535 : Int32)).toUInt32.toUInt16.toUInt32.toInt32))]) (rest := [(.int r39)]) (lenOf pd_1 rfl) rfl (by show 2 * 0 + _ ≤ _; exact Nat.le_of_eq rfl) (hb hby at_139) (fun _ _ => ⟨rfl, eq39, (by decide : 1 + 0 ≤ _), (by decide : 16 + 0 ≤ _)⟩)
    dsimp only [Pt.U, Pt.locs, Pt.cells, Pt.slots] at X40 l40 y40 z40 st40 hQ40
    subst l40 y40 z40
    obtain ⟨r40, rfl, hr40, N40q, eq40⟩ := hQ40
    have N40 := Fr.app N39 N40q
    refine Goes.via (S' := (T40.setTop (mkF m 142 #[.val (.int p0), .val (.int p1), .val (.ref b1), .val (.int (p1 &&& (31 : Int32))), .val (.int ((p0 &&& (65535 : Int32)).toUInt32.toUInt16.toUInt32.toInt32)), .val (.int ((p0 &&& (65535 : Int32)).toUInt32.toUInt16.toUInt32.toInt32))] [(.int r40), (.int r39)]))) (fun t k => st40 _ k) ?_
    refine Goes.via (S' := (T40.setTop (mkF m 145 #[.val (.int p0), .val (.int p1), .val (.ref b1), .val (.int (p1 &&& (31 : Int32))), .val (.int ((p0 &&& (65535 : Int32)).toUInt32.toUInt16.toUInt32.toInt32)), .val (.int ((p0 &&& (65535 : Int32)).toUInt32.toUInt16.toUInt32.toInt32))] []))) (fun t k => XS.icmpNo X40.here hx rfl (hb hby at_142) rfl (teq (own_beq hr39 hr40 (iff_of_eq (own_lb _)) : (r39 = r40))).2 k) ?_
    refine Goes.via (S' := (T40.setTop (mkF m 146 #[.val (.int p0), .val (.int p1), .val (.ref b1), .val (.int (p1 &&& (31 : Int32))), .val (.int ((p0 &&& (65535 : Int32)).toUInt32.toUInt16.toUInt32.toInt32)), .val (.int ((p0 &&& (65535 : Int32)).toUInt32.toUInt16.toUInt32.toInt32))] [(.int (1 : Int32))]))) (fun t k => XS.iconst X40.here hx rfl (hb hby at_145) k) ?_
    refine Goes.via (S' := (T40.setTop (mkF m 150 #[.val (.int p0), .val (.int p1), .val (.ref b1), .val (.int (p1 &&& (31 : Int32))), .val (.int ((p0 &&& (65535 : Int32)).toUInt32.toUInt16.toUInt32.toInt32)), .val (.int ((p0 &&& (65535 : Int32)).toUInt32.toUInt16.toUInt32.toInt32))] [(.int (1 : Int32))]))) (fun t k => XS.goto X40.here hx rfl (pc0 := 146) (pc' := 150) rfl (hb hby at_146) (by decide) (by decide) k) ?_
    exact own_ret X40 hx Bd.notSynchronized Bd.returns rfl (Or.inl ⟨rfl, by simp, _, rfl⟩) (hb hby at_150) eq40 ⟨rfl, N40⟩ (by decide) (by decide)
set_option maxRecDepth 65536 in
set_option maxHeartbeats 40000000 in
theorem comes_1 {Post : Tables → Env → Array Value → State → Outcome → State → Prop} (hpost : ∀ tb e args s v u, (limb_1_1.after args s (.returned v) u = true ∧ limb_1_2.after args s (.returned v) u = true ∧ True) → FrameEnd s (.returned v) u (Jvm.fieldLocs frame_1_writes args s ++ Jvm.arrayLocs frame_1_arrays args s ++ Jvm.staticLocs frame_1_statics s) 16 128 → Post tb e args s (.returned v) u) :
    ArmFor flags0 classFile x code maxLocals ret World_1 tables_1 room_1 Calls_1 rest_1 Pre_1 Post := by
  intro l hfl _ _ p e ha hc hk s m args below hf hA hF happ hP
  obtain ⟨hcalls, hrest, hpre⟩ := hP
  obtain ⟨-, -, -, hnamed, -, -, -, hat⟩ := (Spec.applies_iff hf).mp happ
  obtain ⟨hg, hn⟩ := and_e (Cond.before_iff.mp (show (Jvm.Cond.and given_1 narrow_1).before args s = true from hpre))
  obtain ⟨g1, g2⟩ := and_e hg
  obtain ⟨g3, g4⟩ := and_e g2
  obtain ⟨w0, w1, rfl⟩ : ∃ w0 w1 : Value, args = #[w0, w1] := by
    have hs : args.size = 2 := by simpa [Cond.value, given_1] using g1
    obtain ⟨L⟩ := args
    match L, hs with
    | [w0, w1], _ => exact ⟨w0, w1, rfl⟩
  have hw := fun d (hd : d ∈ tables_1) => atoms_spec (ws := Jvm.Cond.code x code maxLocals ret :: tables_1) hat d (List.mem_cons_of_mem _ hd)
  have hfit : Fit s := fun {y c} hc i hi => by
    obtain ⟨ha, rfl⟩ := Array.getElem?_eq_some_iff.mp hc
    have q := List.all_eq_true.mp ((Array.all_eq_true_iff_forall_mem.mp hF) _ (Array.getElem_mem ha)) i (List.mem_range.mpr hi)
    simpa [Array.getElem?_eq_getElem hi] using q
  obtain ⟨i0, ei0⟩ := is_v g3
  obtain rfl : w0 = (.int i0) := Option.some.inj ei0
  obtain ⟨i1, ei1⟩ := is_v g4
  obtain rfl : w1 = (.int i1) := Option.some.inj ei1
  obtain ⟨n, o, h1, h2, h3, _, L, rfl, ⟨rfl, N⟩, hq⟩ := rm0 l s _ hw tables_1 i0 i1  s.heap s.heap.size (Nat.le_refl _)  p e ha hc hk s m _ below hf ((Spec.applies_iff_loose hf).mp happ).1 ⟨rfl, State.Warmed39.refl s, rfl⟩ trivial
  refine ⟨n, _, h1, h2, h3, hpost _ _ _ _ _ _ ⟨Cond.after_iff.mpr rfl, Cond.after_iff.mpr (eq_i res_at (Term.int_eval (1)) rfl), trivial⟩ ⟨hq.1, hq.2.1, (hq.2.2.sift fun y hy => Or.inr (N y hy)).mono (by decide) (by decide)⟩⟩
theorem main_1_1 : Claimed_1_1 := comes_1 fun _ _ _ _ _ _ h hF => ⟨h.1, hF⟩
theorem main_1_2 : Claimed_1_2 := comes_1 fun _ _ _ _ _ _ h hF => ⟨h.2.1, hF⟩
end Jvm.Pilot.@@N@@
namespace Jvm.Pilot.@@N@@
open Jvm Jvm.ClassFile Sem Op Lib Jvm.Free Jvm.Stand Jvm.Pilot.@@N@@.Jvm.D
/-! MADE BY PROGRAM (witnessworld.py) out of the Statement's table words and the real class files: 9 classes; the members and pool entries that the words name. The judged class is class 1, her method 2. -/
namespace start1
open Jvm.ClassFile
def u (s : String) : CpInfo := .utf8 (stringToUtf16 s)
/-- a pool by its gaps: so many unusable entries, then the entry; so many at the end -/
def gap : Nat → List CpInfo → List CpInfo
  | 0, r => r
  | n + 1, r => .unusable :: gap n r
def poolList (es : List (Nat × CpInfo)) (last : Nat) : List CpInfo := es.foldr (fun e r => gap e.1 (e.2 :: r)) (gap last [])
def pool (es : List (Nat × CpInfo)) (last : Nat) : Array CpInfo := ⟨poolList es last⟩
def fileOf (pool : Array CpInfo) (this : Nat) (attrs : Array Attribute := #[]) (ms : Array MethodInfo := #[]) (fl : Nat := 33) (sup : Nat := 0) (ifs : Array Nat := #[]) (fds : Array FieldInfo := #[]) : ClassFile where
  minorVersion := 0
  majorVersion := 65
  constantPool := pool
  accessFlags := fl
  thisClass := this
  superClass := sup
  interfaces := ifs
  fields := fds
  methods := ms
  attributes := attrs
def plain (name : String) (sup : Option ClassId) : Class where
  name := name
  kind := .ordinary
  loader := none
  accessFlags := 33
  super := sup
  interfaces := #[]
  cf := none
  fields := #[]
  methods := #[]
  instanceTypes := #[]
  staticTypes := #[]
  resolved := #[]
  callSites := []
  init := .initialized
  statics := none
  mirror := none

def pool0 : Array CpInfo := pool [(5, u "<init>"), (0, u "()V"), (1, .class_ 10), (1, u "java/lang/Object")] 113

def k0m0 : Method := { name := "<init>", desc := "()V", sig := { parameters := [], returnType := none }, accessFlags := 1, code := none }
/-- java/lang/Object -/
def k0 : Class := { plain "java/lang/Object" none with
  accessFlags := 33
  interfaces := #[]
  cf := some (fileOf pool0 8 #[] #[{ accessFlags := 1, nameIndex := 5, descriptorIndex := 6, attributes := #[] }] 33 0 #[] #[])
  fields := #[]
  methods := #[k0m0]
  instanceTypes := #[]
  staticTypes := #[]
  resolved := Array.replicate 124 none
  statics := none }

def pool1 : Array CpInfo := pool [(2, .class_ 4), (1, u "java/lang/Object"), (0, u "<init>"), (0, u "()V"), (0, .integer 65535), (0, .methodref 9 10), (0, .class_ 11), (0, .nameAndType 12 13), (0, u "com/example/finder_compiler/findercompiler/LineBreaks"), (0, u "isLineBreak"), (0, u "(C)Z"), (0, .methodref 15 16), (0, .class_ 17), (0, .nameAndType 18 19), (0, u "com/example/finder_compiler/findercompiler/LineBreaksIsLineBreakPinLaw"), (0, u "expected"), (0, u "(I)Z"), (3, u "law"), (0, u "(II)Z")] 4

def k1m0 : Method := { name := "<init>", desc := "()V", sig := { parameters := [], returnType := none }, accessFlags := 1, code := none }
def k1c1 : Code := { maxStack := 2, maxLocals := 1, code := method_2_code, exceptionTable := #[], attributes := #[] }
def k1m1 : Method := { name := "expected", desc := "(I)Z", sig := { parameters := [.int], returnType := some .boolean }, accessFlags := 10, code := some k1c1 }
def k1c2 : Code := { maxStack := 4, maxLocals := 6, code := code, exceptionTable := #[], attributes := #[] }
def k1m2 : Method := { name := "law", desc := "(II)Z", sig := { parameters := [.int, .int], returnType := some .boolean }, accessFlags := 9, code := some k1c2 }
/-- com/example/finder_compiler/findercompiler/LineBreaksIsLineBreakPinLaw -/
def k1 : Class := { plain "com/example/finder_compiler/findercompiler/LineBreaksIsLineBreakPinLaw" (some 0) with
  accessFlags := 49
  interfaces := #[]
  cf := some (fileOf pool1 15 #[] #[{ accessFlags := 1, nameIndex := 5, descriptorIndex := 6, attributes := #[] }, { accessFlags := 10, nameIndex := 18, descriptorIndex := 19, attributes := #[] }, { accessFlags := 9, nameIndex := 23, descriptorIndex := 24, attributes := #[] }] 49 2 #[] #[])
  fields := #[]
  methods := #[k1m0, k1m1, k1m2]
  instanceTypes := #[]
  staticTypes := #[]
  resolved := Array.replicate 29 none
  statics := none }

def pool2 : Array CpInfo := pool [(2, .class_ 4), (1, u "java/lang/Object"), (0, u "<init>"), (0, u "()V"), (27, u "(C)Z"), (1, .class_ 38), (1, u "com/example/finder_compiler/findercompiler/LineBreaks"), (0, u "isLineBreak")] 25

def k2m0 : Method := { name := "<init>", desc := "()V", sig := { parameters := [], returnType := none }, accessFlags := 2, code := none }
def k2c1 : Code := { maxStack := 1, maxLocals := 1, code := prog_96_method_2_code, exceptionTable := #[], attributes := #[] }
def k2m1 : Method := { name := "isLineBreak", desc := "(C)Z", sig := { parameters := [.char], returnType := some .boolean }, accessFlags := 8, code := some k2c1 }
/-- com/example/finder_compiler/findercompiler/LineBreaks -/
def k2 : Class := { plain "com/example/finder_compiler/findercompiler/LineBreaks" (some 0) with
  accessFlags := 48
  interfaces := #[]
  cf := some (fileOf pool2 36 #[] #[{ accessFlags := 2, nameIndex := 5, descriptorIndex := 6, attributes := #[] }, { accessFlags := 8, nameIndex := 39, descriptorIndex := 34, attributes := #[] }] 48 2 #[] #[])
  fields := #[]
  methods := #[k2m0, k2m1]
  instanceTypes := #[]
  staticTypes := #[]
  resolved := Array.replicate 65 none
  statics := none }

def pool3 : Array CpInfo := pool [(1, u "java/lang/Cloneable"), (0, .class_ 1), (0, u "java/lang/Object"), (0, .class_ 3)] 3

/-- java/lang/Cloneable -/
def k3 : Class := { plain "java/lang/Cloneable" (some 0) with
  accessFlags := 1537
  interfaces := #[]
  cf := some (fileOf pool3 2 #[] #[] 1537 4 #[] #[])
  fields := #[]
  methods := #[]
  instanceTypes := #[]
  staticTypes := #[]
  resolved := Array.replicate 8 none
  statics := none }

def pool4 : Array CpInfo := pool [(1, u "java/io/Serializable"), (0, .class_ 1), (0, u "java/lang/Object"), (0, .class_ 3)] 3

/-- java/io/Serializable -/
def k4 : Class := { plain "java/io/Serializable" (some 0) with
  accessFlags := 1537
  interfaces := #[]
  cf := some (fileOf pool4 2 #[] #[] 1537 4 #[] #[])
  fields := #[]
  methods := #[]
  instanceTypes := #[]
  staticTypes := #[]
  resolved := Array.replicate 8 none
  statics := none }

/-- the primitive byte -/
def k5 : Class := { plain "byte" none with kind := .primitive 'B', accessFlags := 0x411 }
/-- [B -/
def k6 : Class := { plain "[B" (some 0) with kind := .array 5 .byte, interfaces := #[3, 4], accessFlags := 1041 }

/-- the primitive int -/
def k7 : Class := { plain "int" none with kind := .primitive 'I', accessFlags := 0x411 }
/-- [I -/
def k8 : Class := { plain "[I" (some 0) with kind := .array 7 .int, interfaces := #[3, 4], accessFlags := 1041 }

def heap : Heap := #[]
def classes : Array Class := #[k0, k1, k2, k3, k4, k5, k6, k7, k8]
def interned : List (Array UInt16 × Addr) := []
def slotsUsed : Nat := 0
def theMethod : MethodId := ⟨1, 2⟩
def args0 : Array Value := #[.int 5, .int 5]
def aboutOver (below : List Frame) : State where
  vm := { classes := classes, interned := interned.toArray }
  heap := heap
  slotsUsed := slotsUsed
  threads := #[{ frames := .invoking theMethod args0 :: below }]
def below0 : List Frame := [.native { method := ⟨0, 0⟩, args := #[] }]
def about1 : State := aboutOver below0
def p0 : Program := .bare "" "" ""
def e0 : Env := launch0.env 0 0 0
theorem w_frames : about1.frames = Frame.invoking theMethod args0 :: below0 := rfl
set_option maxRecDepth 65536 in
theorem w_args : argsFit about1.vm theMethod args0 = true := by decide +kernel
set_option maxRecDepth 65536 in
theorem w_heap : heapFits about1 = true := by decide +kernel
set_option maxRecDepth 65536 in
theorem w_runnable : about1.curStatus? = some .runnable := by decide +kernel
set_option maxRecDepth 65536 in
theorem w_alone : about1.alone = true := by decide +kernel
set_option maxRecDepth 65536 in
theorem w_named : about1.methodNamed? x = some theMethod := by decide +kernel
set_option maxRecDepth 65536 in
theorem w_hears : about1.hears theMethod below0 = true := by decide +kernel
set_option maxRecDepth 65536 in
theorem w_ripe : about1.ripe theMethod args0 below0 = true := by decide +kernel
theorem w_running : about1.status = .running := rfl
set_option maxRecDepth 65536 in
theorem w_room : about1.hasRoom e0.platform room_1 = true :=
  launch0.hasRoom_least _ room_1 (by decide +kernel) (by decide +kernel) (by decide +kernel) (by decide +kernel) (by decide +kernel) (by decide +kernel)
theorem allAtoms_all (ts : List Jvm.Cond) (a : Array Jvm.Value) (st : Jvm.State) : (allAtoms ts).before a st = ts.all (fun c => c.before a st) := by
  induction ts with
  | nil => rfl
  | cons c t ih =>
    show (Jvm.Cond.and c (allAtoms t)).before a st = _
    rw [Jvm.Cond.before_and, ih, List.all_cons]
def words1 : List Jvm.Cond := Jvm.Cond.code x code maxLocals ret :: tables_1
/-- a 'code' word, met by the world's own term for the bytes: nothing is compared byte by byte -/
theorem code_word {y : MethodName} {bytes : ByteArray} {mx : Nat} {rt : Option FieldType} {a : Array Value} {s : State} {m : MethodId} {meth : Method} {c : Code} (h1 : s.methodNamed? y = some m) (h2 : s.vm.method? m = some meth) (h3 : meth.code = some c) (h4 : c.code = bytes)
    (h5 : (c.maxLocals == mx && c.exceptionTable.isEmpty && decide (c.maxStack ≤ mostOperands) && decide (meth.sig.returnType = rt) && !meth.locks && decide (parseMethodDescriptor y.desc = some meth.sig)) = true) : (Jvm.Cond.code y bytes mx rt).before a s = true := by
  simp only [Bool.and_eq_true, beq_iff_eq, Bool.not_eq_true', decide_eq_true_eq] at h5
  obtain ⟨⟨⟨⟨⟨g1, g2⟩, g3⟩, g4⟩, g5⟩, g6⟩ := h5
  simp [Cond.before, Cond.holds, Cond.value, h1, h2, h3, h4, g1, g2, g3, g4, g5, g6]
def isCode : Jvm.Cond → Bool
  | .code _ _ _ _ => true
  | _ => false
theorem all_split {L : List Jvm.Cond} {P : Jvm.Cond → Bool} (h1 : L.all (fun c => isCode c || P c) = true) (h2 : ∀ c ∈ L.filter isCode, P c = true) : L.all P = true := by
  refine List.all_eq_true.mpr fun c hc => ?_
  have h := List.all_eq_true.mp h1 c hc
  rcases Bool.eq_false_or_eq_true (isCode c) with hi | hi
  · exact h2 c (List.mem_filter.mpr ⟨hc, hi⟩)
  · simpa [hi] using h
set_option maxRecDepth 65536 in
theorem w_c0 : (Jvm.Cond.code x code maxLocals ret).before args0 about1 = true := code_word (m := ⟨1, 2⟩) (meth := k1m2) (c := k1c2) (by decide +kernel) rfl rfl rfl (by decide +kernel)
set_option maxRecDepth 65536 in
theorem w_c1 : (Jvm.Cond.code ({ cls := "com/example/finder_compiler/findercompiler/LineBreaks", name := "isLineBreak", desc := "(C)Z" } : Jvm.MethodName) prog_96_method_2_code (1 : Nat) (Option.some Jvm.ClassFile.FieldType.boolean)).before args0 about1 = true := code_word (m := ⟨2, 1⟩) (meth := k2m1) (c := k2c1) (by decide +kernel) rfl rfl rfl (by decide +kernel)
set_option maxRecDepth 65536 in
theorem w_c2 : (Jvm.Cond.code ({ cls := "com/example/finder_compiler/findercompiler/LineBreaksIsLineBreakPinLaw", name := "expected", desc := "(I)Z" } : Jvm.MethodName) method_2_code (1 : Nat) (Option.some Jvm.ClassFile.FieldType.boolean)).before args0 about1 = true := code_word (m := ⟨1, 1⟩) (meth := k1m1) (c := k1c1) (by decide +kernel) rfl rfl rfl (by decide +kernel)
def codes1 : List Jvm.Cond := [Jvm.Cond.code x code maxLocals ret, Jvm.Cond.code ({ cls := "com/example/finder_compiler/findercompiler/LineBreaks", name := "isLineBreak", desc := "(C)Z" } : Jvm.MethodName) prog_96_method_2_code (1 : Nat) (Option.some Jvm.ClassFile.FieldType.boolean), Jvm.Cond.code ({ cls := "com/example/finder_compiler/findercompiler/LineBreaksIsLineBreakPinLaw", name := "expected", desc := "(I)Z" } : Jvm.MethodName) method_2_code (1 : Nat) (Option.some Jvm.ClassFile.FieldType.boolean)]
set_option maxRecDepth 65536 in
theorem codes_eq : words1.filter isCode = codes1 := rfl
theorem w_codes : ∀ c ∈ words1.filter isCode, c.before args0 about1 = true := by
  rw [codes_eq]
  intro c hc
  simp only [codes1, List.mem_cons, List.not_mem_nil, or_false] at hc
  rcases hc with rfl | rfl | rfl
  · exact w_c0
  · exact w_c1
  · exact w_c2
set_option maxRecDepth 65536 in
theorem w_t1 : words1.all (fun c => isCode c || c.before args0 about1) = true := by decide +kernel
theorem w_tables : (allAtoms (Jvm.Cond.code x code maxLocals ret :: tables_1)).before args0 about1 = true := by
  rw [allAtoms_all]
  show words1.all (fun c => c.before args0 about1) = true
  refine all_split ?_ w_codes
  rw [w_t1]
set_option maxRecDepth 65536 in
theorem w_case : (Jvm.Cond.and given_1 narrow_1).before args0 about1 = true := by decide +kernel
theorem w_applies : (headSpec (Jvm.Cond.code x code maxLocals ret :: tables_1) room_1).applies x e0.platform about1 = true :=
  (Spec.applies_iff w_frames).mpr ⟨w_running, w_runnable, w_alone, w_named, w_hears, w_ripe, w_room, w_tables⟩
theorem atStart : AtStart classFile x code maxLocals ret World_1 tables_1 room_1 Calls_1 rest_1 Pre_1 launch0 p0 e0 about1 theMethod args0 below0 :=
  ⟨lists_1, trivial, launch0.admits_env _ _ _, launch0.least_env, fairChoices_fair.cas, fairChoices_fair.clock, w_frames, w_args, w_heap, w_applies, trivial, trivial, w_case⟩
end start1
theorem witness_1 : WitnessClaimed_1 := ⟨start1.p0, start1.e0, start1.about1, start1.theMethod, start1.args0, start1.below0, start1.atStart⟩
end Jvm.Pilot.@@N@@
