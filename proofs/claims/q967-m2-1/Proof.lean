import JvmDerived
import JvmDerived.Pilot.@@N@@Statement
import JvmDerived.Pilot.@@N@@Code
set_option linter.unusedVariables false
set_option linter.unusedSimpArgs false
@@BLOCK:NumsL.lean.txt@@
namespace Jvm.Pilot.@@N@@
open Jvm Jvm.ClassFile Sem Op Lib Jvm.Free Jvm.Stand Jvm.LawKit Jvm.RoadKit Bundle Jvm.Pilot.@@N@@.Jvm.D
section Own
variable {p : Program} {l : Launch} {e : Env} {R : Room} {s : State} {m : MethodId} {args : Array Value} {below : List Frame} {meth : Method} {c : Code} {T : State} {locs : List Loc} {cells slots : Nat} {Z : State} {h h' : Heap}
/-- the run goes on from S to a state of which F holds -/
def Goes (tb : Tables) (e : Env) (below : List Frame) (F : State → Prop) (S : State) : Prop := ∃ t, Steps tb e below S t ∧ F t
theorem Goes.via {tb : Tables} {F : State → Prop} {S S' : State} (q : ∀ t, Steps tb e below S' t → Steps tb e below S t) (g : Goes tb e below F S') : Goes tb e below F S := by
  obtain ⟨t, a, b⟩ := g
  exact ⟨t, q t a, b⟩
/-- what a body leaves -/
def Fin (s : State) (below : List Frame) (Q : Option Value → Heap → List Loc → Prop) (C S : Nat) (t : State) : Prop := ∃ o, t.status = .running ∧ Ended t below o ∧ ∃ v L, o = .returned v ∧ Q v t.heap L ∧ FrameEnd s o t L C S
theorem own_start {tb : Tables} {Q : Option Value → Heap → List Loc → Prop} {C S : Nat} {S0 : State} (g : Goes tb e below (Fin s below Q C S) S0) : ∃ s₂ o, Steps tb e below S0 s₂ ∧ s₂.status = .running ∧ Ended s₂ below o ∧ ∃ v L, o = .returned v ∧ Q v s₂.heap L ∧ FrameEnd s o s₂ L C S := by
  obtain ⟨t, a, o, b, d, r⟩ := g
  exact ⟨t, o, a, b, d, r⟩
theorem own_ret (X : Stand p l e R s m args below meth c T locs cells slots) (hx : p.tables.exec = Jvm.exec) {pc : Nat} {Ls : Array Slot} {w : Value} {t : FieldType} {i : Instr} {rest : List Value} (hlk : meth.locks = false) (hret : meth.sig.returnType = some t) (hn : narrow t w = w)
    (hi : (i = .ireturn ∧ (t = .int ∨ t = .boolean ∨ t = .byte ∨ t = .char ∨ t = .short) ∧ ∃ z, w = .int z) ∨ (i = .lreturn ∧ t = .long ∧ ∃ z, w = .long z) ∨ (i = .dreturn ∧ t = .double ∧ ∃ z, w = .double z) ∨ (i = .freturn ∧ t = .float ∧ ∃ z, w = .float z) ∨ (i = .areturn ∧ t.isReference = true ∧ w.isRef = true))
    (hd : decode c.code pc = .ok (i, 1)) {Q : Option Value → Heap → List Loc → Prop} {C S : Nat} (eT : T.heap = h) (hQ : Q (some w) h locs) (hc : cells ≤ C) (hs : slots ≤ S) : Goes p.tables e below (Fin s below Q C S) (T.setTop (mkF m pc Ls (w :: rest))) := by
  obtain ⟨fs, hr, hrun, hended, hW, hsame⟩ := X.leave (v := some w) (fun q => by rw [hret] at q; cases q) hlk
  exact ⟨_, retOut X hx hret hn hi hd hr, _, hrun, hended, _, _, rfl, (by show Q (some w) T.heap locs; rw [eT]; exact hQ), ⟨_, rfl⟩, hW, hsame.mono hc hs⟩
theorem own_retV (X : Stand p l e R s m args below meth c T locs cells slots) (hx : p.tables.exec = Jvm.exec) {pc : Nat} {Ls : Array Slot} (hlk : meth.locks = false) (hret : meth.sig.returnType = none)
    (hd : decode c.code pc = .ok (.return_, 1)) {Q : Option Value → Heap → List Loc → Prop} {C S : Nat} (eT : T.heap = h) (hQ : Q none h locs) (hc : cells ≤ C) (hs : slots ≤ S) : Goes p.tables e below (Fin s below Q C S) (T.setTop (mkF m pc Ls [])) := by
  obtain ⟨fs, hr, hrun, hended, hW, hsame⟩ := X.leave (v := none) (fun _ => rfl) hlk
  exact ⟨_, X.returnOut hx hret hd hr, _, hrun, hended, _, _, rfl, (by show Q none T.heap locs; rw [eT]; exact hQ), ⟨_, rfl⟩, hW, hsame.mono hc hs⟩
theorem own_b1 {P : Prop} [Decidable P] {v : Int32} (hv : v = if P then 1 else 0) (q : P) : ¬ v = 0 := by rw [hv, if_pos q]; decide
theorem own_b0 {P : Prop} [Decidable P] {v : Int32} (hv : v = if P then 1 else 0) (q : ¬ P) : v = 0 := by rw [hv, if_neg q]
theorem own_beq {P P' : Prop} [Decidable P] [Decidable P'] {v v' : Int32} (hv : v = if P then 1 else 0) (hv' : v' = if P' then 1 else 0) (q : P ↔ P') : v = v' := by rw [hv, hv']; simp [q]
theorem own_nb {P : Prop} [Decidable P] {v : Int32} (hv : v = if P then 1 else 0) : narrow .boolean (.int v) = .int v := by rw [hv]; split <;> rfl
theorem own_nb2 {P : Prop} [Decidable P] {v : Int32} (hv : v = if P then 1 else 0) : nar .boolean v = v := by rw [hv]; split <;> rfl
theorem own_lt {x y : Int64} (q : x < y) : lcmpW x y < 0 := (lw_lt x y).mpr q
theorem own_nlt {x y : Int64} (q : ¬ x < y) : ¬ lcmpW x y < 0 := fun r => q ((lw_lt x y).mp r)
theorem own_gt {x y : Int64} (q : y < x) : 0 < lcmpW x y := (lw_gt x y).mpr q
theorem own_ngt {x y : Int64} (q : ¬ y < x) : ¬ 0 < lcmpW x y := fun r => q ((lw_gt x y).mp r)
theorem own_eq {x y : Int64} (q : x = y) : lcmpW x y = 0 := (lw_eq x y).mpr q
theorem own_neq {x y : Int64} (q : ¬ x = y) : ¬ lcmpW x y = 0 := fun r => q ((lw_eq x y).mp r)
theorem own_staKeep {C n d : String} {v : Value} {ws : List Addr} (F : Sta Z h C n d v) (K : Keep h h' ws) (q : ∀ x ∈ ws, ∀ cc : Cell, h[x]? = some cc → cc.vm.isStatics = false) : Sta Z h' C n d v := by
  obtain ⟨cf, i, k, f, st, cell, h1, h2, h3, h4, h5, h6, h7⟩ := F
  exact ⟨cf, i, k, f, st, cell, h1, h2, h3, h4, K.2.1 st cell h5 (fun r => by rw [q st r cell h5] at h6; cases h6), h6, h7⟩
theorem own_nst {a : Addr} {C : String} (F : Exa Z h a C) : ∀ cc : Cell, h[a]? = some cc → cc.vm.isStatics = false := fun cc q => by
  obtain ⟨c1, k, h1, -, -, h4, -⟩ := F
  cases h1.symm.trans q
  exact h4
theorem own_nstV {a : Addr} {k : ClassId} {ty : FieldType} {n : Int32} {vs : List Value} {dv : Value} (F : Arv Z h a k ty n vs dv) : ∀ cc : Cell, h[a]? = some cc → cc.vm.isStatics = false := fun cc q => by
  obtain ⟨c1, A, -⟩ := F
  cases A.1.symm.trans q
  exact A.plain
theorem own_fval {a : Addr} {C n d : String} {v w : Value} (q : v = w) (F : Fld Z h a C n d v) : Fld Z h a C n d w := q ▸ F
theorem own_exS {a0 : Array Value} {C n d K : String} (q : (Cond.exactly (Term.static C n d) K).value a0 Z none Z [] = some true) (wi : (Cond.initialized C).before a0 Z = true) (wl : (Cond.laysStatic C n d).before a0 Z = true) : ∃ a, Sta Z Z.heap C n d (.ref a) ∧ Exa Z Z.heap a K ∧ (Term.static C n d).eval a0 Z none [] Z = some (.ref a) := by
  obtain ⟨a, c', cell, k, e1, -⟩ := Cond.exactly_spec (Cond.before_iff.mpr q)
  exact ⟨a, Sta.start e1 (Or.inr ⟨wi, wl⟩), Exa.start e1 q, e1⟩
theorem own_eqI {a0 : Array Value} {t : Term} {k : Int32} (q : (Cond.eq t (Term.int k)).value a0 Z none Z [] = some true) : t.eval a0 Z none [] Z = some (.int k) := by
  simp only [Cond.value] at q
  split at q <;> simp_all [Term.int_eval]
theorem own_fldI {a0 : Array Value} {t : Term} {O n d : String} {k : Int32} {a : Addr} (ev : t.eval a0 Z none [] Z = some (.ref a)) (q : (Cond.eq (Term.field t O n d) (Term.int k)).value a0 Z none Z [] = some true) : Fld Z Z.heap a O n d (.int k) := by
  have r : (Term.field t O n d).eval a0 Z none [] Z = some (.int k) := own_eqI q
  refine Fld.start ?_
  simpa [Term.eval, ev] using r
theorem own_intne {x y : Int32} (q : ¬ x = y) : Value.int x ≠ Value.int y := fun r => q (Value.int.inj r)
theorem own_fldN {a0 : Array Value} {t : Term} {O n d : String} {a : Addr} (ev : t.eval a0 Z none [] Z = some (.ref a)) (q : (Cond.eq (Term.field t O n d) Term.null).value a0 Z none Z [] = some true) : Fld Z Z.heap a O n d .null := by
  have r : (Term.field t O n d).eval a0 Z none [] Z = some .null := by
    have e0 : Term.null.eval a0 Z none [] Z = some .null := rfl
    simp only [Cond.value, e0] at q
    split at q <;> simp_all
  refine Fld.start ?_
  simpa [Term.eval, ev] using r
theorem own_nz {x : Int32} (q : x = 0 ∨ x = 1) : narrow .boolean (.int x) = .int x := by rcases q with rfl | rfl <;> rfl
theorem own_fz {x : Int32} (q : x = 0 ∨ x = 1) : fits .boolean (.int x) = true := by rcases q with rfl | rfl <;> rfl
theorem own_b01 {P : Prop} [Decidable P] {v : Int32} (hv : v = if P then 1 else 0) : v = 0 ∨ v = 1 := by rw [hv]; split <;> simp
theorem own_narR {C : String} {v : Value} (q : v.isRef = true) : narrow (.object C) v = v := by rcases ref_cases q with r | ⟨_, r⟩ <;> rw [r] <;> rfl
theorem own_fitR {C : String} {v : Value} (q : v.isRef = true) : fits (.object C) v = true := by rcases ref_cases q with r | ⟨_, r⟩ <;> rw [r] <;> rfl
theorem own_lenAt {a0 : Array Value} {t : Term} {k : Int32} {a : Addr} {cl : Cell} (ev : t.eval a0 Z none [] Z = some (.ref a)) (hA : Z.arrayAt? a = some cl) (q : (Term.length t).eval a0 Z none [] Z = some (.int k)) : cl.slots.size < 2 ^ 31 ∧ cl.slots.size.toInt32 = k := by
  by_cases hl : cl.slots.size < 2 ^ 31
  · rw [len_f ev hA hl] at q
    exact ⟨hl, Value.int.inj (Option.some.inj q)⟩
  · simp [Term.eval, ev, hA, hl] at q
end Own
def own_Cache (Z : State) (h : Heap) (yc : Addr) : Prop := ∀ x : Int64, ¬ x < (-128 : Int64) → ¬ (127 : Int64) < x → ∃ (cl : Cell) (b : Addr), Arr Z h yc cl (.object "java/lang/Long") ∧ ¬ ((x.toInt32 + (128 : Int32)) < 0 ∨ cl.slots.size ≤ (x.toInt32 + (128 : Int32)).toNatClampNeg) ∧ cl.slots[(x.toInt32 + (128 : Int32)).toNatClampNeg]? = some (.ref b) ∧ Exa Z h b "java/lang/Long"
theorem own_cacheKeep {Z : State} {h h' : Heap} {yc : Addr} (K : Keep h h' []) (q : own_Cache Z h yc) : own_Cache Z h' yc := fun x h1 h2 => by
  obtain ⟨cl, b, A, i, a, E⟩ := q x h1 h2
  exact ⟨cl, b, ⟨K.2.1 yc cl A.1 nin0, A.2⟩, i, a, E.keep K⟩
theorem own_cacheStart {Z : State} {a0 : Array Value} {cc : Cond} (w1 : (Cond.initializedFor "java/lang/Long$LongCache" "cache" "[Ljava/lang/Long;").before a0 Z = true) (w2 : (Cond.arrayOf (Term.static "java/lang/Long$LongCache" "cache" "[Ljava/lang/Long;") (.object "java/lang/Long")).before a0 Z = true) (w3 : (Cond.exactly (Term.static "java/lang/Long$LongCache" "cache" "[Ljava/lang/Long;") "[Ljava/lang/Long;").before a0 Z = true)
    (w4 : (Cond.eq (Term.length (Term.static "java/lang/Long$LongCache" "cache" "[Ljava/lang/Long;")) (Term.int (256 : Int32))).before a0 Z = true) (w5 : (Cond.all (Term.static "java/lang/Long$LongCache" "cache" "[Ljava/lang/Long;") (Cond.and (Cond.exactly (Term.elem (Term.static "java/lang/Long$LongCache" "cache" "[Ljava/lang/Long;") (Term.index (0 : Nat))) "java/lang/Long") cc)).before a0 Z = true) :
    ∃ yc, Sta Z Z.heap "java/lang/Long$LongCache" "cache" "[Ljava/lang/Long;" (.ref yc) ∧ own_Cache Z Z.heap yc := by
  obtain ⟨yc, c', cell, k, e1, -⟩ := Cond.exactly_spec w3
  obtain ⟨cl, A⟩ := Arr.start e1 (Cond.before_iff.mp w2)
  have hA : Z.arrayAt? yc = some cl := IntBox.arrayAt_of A.1 A.2.1 A.2.2
  have hsz : 256 ≤ cl.slots.size := by
    obtain ⟨l1, l2⟩ := own_lenAt e1 hA (own_eqI (Cond.before_iff.mp w4))
    have h2 := len_toInt l1
    rw [l2] at h2
    have c0 : (256 : Int32).toInt = 256 := rfl
    omega
  refine ⟨yc, Sta.start e1 (Or.inl w1), fun x hx1 hx2 => ?_⟩
  have c1 : (-128 : Int64).toInt = -128 := rfl
  have c2 : (127 : Int64).toInt = 127 := rfl
  have c3 : (128 : Int32).toInt = 128 := rfl
  have c4 : (0 : Int32).toInt = 0 := rfl
  rw [Int64.lt_iff_toInt_lt, c1] at hx1
  rw [Int64.lt_iff_toInt_lt, c2] at hx2
  have t1 : x.toInt32.toInt = x.toInt := Jvm.Kit.i32_of_i64 (by omega) (by omega)
  have t2 : (x.toInt32 + (128 : Int32)).toInt = x.toInt + 128 := by rw [Jvm.Kit.i32_add (by omega) (by omega), t1, c3]
  have hj : ¬ (x.toInt32 + (128 : Int32)) < 0 := by rw [Int32.lt_iff_toInt_lt, t2, c4]; omega
  have hi : (x.toInt32 + (128 : Int32)).toNatClampNeg < cl.slots.size := by simp only [Int32.toNatClampNeg, t2]; omega
  obtain ⟨q1, -⟩ := and_e (Cond.all_elim e1 hA (Cond.before_iff.mp w5) _ hi)
  have e2 : (Term.static "java/lang/Long$LongCache" "cache" "[Ljava/lang/Long;").eval a0 Z none [(x.toInt32 + (128 : Int32)).toNatClampNeg] Z = some (.ref yc) := by simpa only [Term.eval] using e1
  have el := elem_f e2 (idx_at hj) hA hj
  obtain ⟨b, _, _, _, e3, -⟩ := Cond.exactly_spec (t := Term.elem (Term.static "java/lang/Long$LongCache" "cache" "[Ljava/lang/Long;") (Term.index 0)) (cls := "java/lang/Long") (args := a0) (first := Z) (o := none) (s := Z) (idx := [(x.toInt32 + (128 : Int32)).toNatClampNeg]) (by simp only [Cond.holds, q1]; rfl)
  exact ⟨cl, b, A, fun q => q.elim hj (fun r => absurd hi (Nat.not_lt.mpr r)), el.symm.trans e3, exa_at e3 q1⟩
theorem own_notL {Z : State} {a0 : Array Value} {K : String} {n : Nat} (w1 : (Cond.superclass "java/lang/Long" "java/lang/Number").before a0 Z = true) (w2 : (Cond.superclass "java/lang/Number" "java/lang/Object").before a0 Z = true) (w3 : (Cond.noSuperclass "java/lang/Object").before a0 Z = true) (wk : (Cond.instantiable K n).before a0 Z = true)
    (n1 : "java/lang/Long" ≠ K) (n2 : "java/lang/Number" ≠ K) (n3 : "java/lang/Object" ≠ K) : ∃ c t, Z.vm.findClass "java/lang/Long" = some c ∧ Z.vm.findClass K = some t ∧ Z.vm.assignable c t = false := by
  obtain ⟨t, kt, g1, g2, g3, g4, -⟩ := Cond.instantiable_spec wk
  have r : NS Z "java/lang/Object" K := by
    obtain ⟨c, k, h1, h2, h3, -, -⟩ := Cond.noSuperclass_spec w3
    have ne := ids_ne h1 g1 n3
    refine ⟨c, t, h1, g1, fun fuel => ?_⟩
    cases fuel with
    | zero => rfl
    | succ f => simp [Vm.isSubclassAux, ne, h2, h3]
  obtain ⟨c, t', h0, g0, m3⟩ := NS.step w1 (NS.step w2 r n2) n1
  cases g1.symm.trans g0
  obtain ⟨p, k, kp, h1, h2, h3, h4, h5, -, h7⟩ := Cond.superclass_spec h0 w1
  have ne := ids_ne h0 g0 n1
  have g5 : kt.isInterface = false := by
    have := g4
    simp only [Bool.or_eq_false_iff] at this
    exact this.1
  refine ⟨c, t, h0, g0, ?_⟩
  show Z.vm.assignableAux (255 + 1) c t = false
  simp [Vm.assignableAux, ne, h2, g2, h5, g3, g5, Vm.isSubclass, m3]

theorem pd_0 : parseMethodDescriptor "()V" = some ⟨[], none⟩ := by decide +kernel
theorem pd_1 : parseMethodDescriptor "(J)V" = some ⟨[.long], none⟩ := by decide +kernel
theorem pd_2 : parseMethodDescriptor "(JJ)V" = some ⟨[.long, .long], none⟩ := by decide +kernel
theorem pd_3 : parseMethodDescriptor "(Ljava/lang/Object;)Z" = some ⟨[(.object "java/lang/Object")], some .boolean⟩ := by decide +kernel
theorem pd_4 : parseMethodDescriptor "(J)Ljava/lang/Long;" = some ⟨[.long], some (.object "java/lang/Long")⟩ := by decide +kernel
theorem pn_3 : plainName "java/lang/Number" = true := by first | (simp [plainName, overriddenIn]; done) | decide +kernel
theorem pn_10 : plainName "java/lang/Long" = true := by first | (simp [plainName, overriddenIn]; done) | decide +kernel
theorem pn_42 : plainName "com/example/eolog/eolog/record/OffsetAndTimestamp" = true := by first | (simp [plainName, overriddenIn]; done) | decide +kernel
theorem pn_67 : plainName "com/example/eolog/eolog/record/OffsetAndTimestampEqualsPinLaw" = true := by first | (simp [plainName, overriddenIn]; done) | decide +kernel
theorem d6_0 : decode jdk_18_method_1_code 0 = .ok (.aload_n 0, 1) := by decide +kernel
theorem d6_1 : decode jdk_18_method_1_code 1 = .ok (.invokespecial 1, 3) := by decide +kernel
theorem d6_4 : decode jdk_18_method_1_code 4 = .ok (.return_, 1) := by decide +kernel
theorem ef_6 (m : MethodId) (xa : Addr) : entryFrame m #[(.ref xa)] 1 = mkF m 0 #[.val (.ref xa)] [] := by first | (simp [entryFrame, mkF, argsToLocals, Value.category]; done) | rfl
def Q6 (Z : State) (xa : Addr) (h0 : Heap) (n0 : Nat) (v : Option Value) (h : Heap) (L : List Loc) : Prop := v = none ∧ Fr n0 L ∧ h = h0
set_option maxRecDepth 65536 in
set_option maxHeartbeats 40000000 in
theorem rm6 (l : Launch) (Z : State) (a0 : Array Value) (hw : ∀ d ∈ tables_1, d.before a0 Z = true) (ws : List Jvm.Cond) (xa : Addr) (h0 : Heap) (n0 : Nat) (Z0 : n0 ≤ h0.size) :
    MetFree l (⟨"java/lang/Number", "<init>", "()V"⟩ : MethodName) (head1 (Jvm.Cond.code (⟨"java/lang/Number", "<init>", "()V"⟩ : MethodName) jdk_18_method_1_code 1 none :: ws) ({ frames := 1, cells := 0, slots := 0, locals := 12 } : Room)) (fun a U => a = #[(.ref xa)] ∧ Z.Warmed39 U.vm ∧ U.heap = h0) (fun _ _ _ _ _ => True) (fun _ U o U' => ∃ v L, o = .returned v ∧ Q6 Z xa h0 n0 v U'.heap L ∧ FrameEnd U o U' L 0 0) := by
  refine MetFree.of_bodySF (plainFor_of_name pn_3) hisR ?_
  intro p e s m args below meth c s₁ Bd hml0 hP hK
  obtain ⟨rfl, hZ, hh⟩ := hP
  have hx := Bd.exec
  have hby := Bd.bytes
  have hml : c.maxLocals = 1 := hml0
  have hown : s.vm.findClass "java/lang/Number" = some m.cls := findClass_of_methodNamed Bd.named
  have hnm := (name_of_methodNamed Bd.named Bd.method).1
  have X0 : Stand p l e ({ frames := 1, cells := 0, slots := 0, locals := 12 } : Room) s m #[(.ref xa)] below meth c s₁ [] 0 0 := Stand.of_body Bd
  have e0 : s₁.heap = h0 := by rw [← hh, Bd.state]; rfl
  have N0 := Fr.nil n0
  refine own_start (Q := fun v h L => Q6 Z xa h0 n0 v h L) ?_
  refine Goes.via (S' := (s₁.setTop (mkF m 0 #[.val (.ref xa)] []))) (fun t k => castTop (ef_6 m xa) k) ?_
  refine Goes.via (S' := (s₁.setTop (mkF m 1 #[.val (.ref xa)] [(.ref xa)]))) (fun t k => XS.aloadN X0.here hx rfl (hb hby d6_0) rfl rfl k) ?_
  obtain ⟨T1, X1, e1, st1⟩ := initO X0 hx hZ hown (hw _ (List.mem_of_getElem? (i := 37) rfl)) (hw _ (List.mem_of_getElem? (i := 7) rfl)) (hw _ (List.mem_of_getElem? (i := 8) rfl)) e0 (g := (mkF m 1 #[.val (.ref xa)] [(.ref xa)])) rfl (by rw [hml]; rfl) rfl (hb hby d6_1) (by decide) (W := 0) (by show 2 * 0 + _ ≤ _; exact Nat.le_of_eq rfl) (by decide)
  refine Goes.via (S' := (T1.setTop (mkF m 4 #[.val (.ref xa)] []))) (fun t k => st1 _ k) ?_
  exact own_retV X1 hx Bd.notSynchronized Bd.returns (hb hby d6_4) e1 ⟨rfl, N0, rfl⟩ (by decide) (by decide)
theorem d5_0 : decode jdk_35_method_26_code 0 = .ok (.aload_n 0, 1) := by decide +kernel
theorem d5_1 : decode jdk_35_method_26_code 1 = .ok (.invokespecial 270, 3) := by decide +kernel
theorem d5_4 : decode jdk_35_method_26_code 4 = .ok (.aload_n 0, 1) := by decide +kernel
theorem d5_5 : decode jdk_35_method_26_code 5 = .ok (.lload_n 1, 1) := by decide +kernel
theorem d5_6 : decode jdk_35_method_26_code 6 = .ok (.putfield 273, 3) := by decide +kernel
theorem d5_9 : decode jdk_35_method_26_code 9 = .ok (.return_, 1) := by decide +kernel
theorem ef_5 (m : MethodId) (xa : Addr) (q1 : Int64) : entryFrame m #[(.ref xa), (.long q1)] 3 = mkF m 0 #[.val (.ref xa), .val (.long q1), .second] [] := by first | (simp [entryFrame, mkF, argsToLocals, Value.category]; done) | rfl
def Q5 (Z : State) (xa : Addr) (q1 : Int64) (u : Value) (h0 : Heap) (n0 : Nat) (v : Option Value) (h : Heap) (L : List Loc) : Prop := v = none ∧ Fr n0 L ∧ Keep h0 h [xa] ∧ Exa Z h xa "java/lang/Long" ∧ Fld Z h xa "java/lang/Long" "value" "J" (.long q1)
set_option maxRecDepth 65536 in
set_option maxHeartbeats 40000000 in
theorem rm5 (l : Launch) (Z : State) (a0 : Array Value) (hw : ∀ d ∈ tables_1, d.before a0 Z = true) (ws : List Jvm.Cond) (xa : Addr) (q1 : Int64) (u : Value) (h0 : Heap) (n0 : Nat) (Z0 : n0 ≤ h0.size) (f0_xa : Exa Z h0 xa "java/lang/Long") (f1_xa_value : Fld Z h0 xa "java/lang/Long" "value" "J" u) (g_xa : n0 ≤ xa) :
    MetFree l (⟨"java/lang/Long", "<init>", "(J)V"⟩ : MethodName) (head1 (Jvm.Cond.code (⟨"java/lang/Long", "<init>", "(J)V"⟩ : MethodName) jdk_35_method_26_code 3 none :: ws) ({ frames := 2, cells := 0, slots := 0, locals := 24 } : Room)) (fun a U => a = #[(.ref xa), (.long q1)] ∧ Z.Warmed39 U.vm ∧ U.heap = h0) (fun _ _ _ _ _ => True) (fun _ U o U' => ∃ v L, o = .returned v ∧ Q5 Z xa q1 u h0 n0 v U'.heap L ∧ FrameEnd U o U' L 0 0) := by
  refine MetFree.of_bodySF (plainFor_of_name pn_10) hisR ?_
  intro p e s m args below meth c s₁ Bd hml0 hP hK
  obtain ⟨rfl, hZ, hh⟩ := hP
  have hx := Bd.exec
  have hby := Bd.bytes
  have hml : c.maxLocals = 3 := hml0
  have hown : s.vm.findClass "java/lang/Long" = some m.cls := findClass_of_methodNamed Bd.named
  have hnm := (name_of_methodNamed Bd.named Bd.method).1
  have X0 : Stand p l e ({ frames := 2, cells := 0, slots := 0, locals := 24 } : Room) s m #[(.ref xa), (.long q1)] below meth c s₁ [] 0 0 := Stand.of_body Bd
  have e0 : s₁.heap = h0 := by rw [← hh, Bd.state]; rfl
  have N0 := Fr.nil n0
  refine own_start (Q := fun v h L => Q5 Z xa q1 u h0 n0 v h L) ?_
  refine Goes.via (S' := (s₁.setTop (mkF m 0 #[.val (.ref xa), .val (.long q1), .second] []))) (fun t k => castTop (ef_5 m xa q1) k) ?_
  refine Goes.via (S' := (s₁.setTop (mkF m 1 #[.val (.ref xa), .val (.long q1), .second] [(.ref xa)]))) (fun t k => XS.aloadN X0.here hx rfl (hb hby d5_0) rfl rfl k) ?_
  obtain ⟨_, _, ⟨T1, L1, k1, n1⟩, -, X1, ⟨Lc1, hQ1, l1, y1, z1⟩, st1⟩ := X0.specialBack hx (y := (⟨"java/lang/Number", "<init>", "()V"⟩ : MethodName)) rfl hown (mvT hZ (hw _ (List.mem_of_getElem? (i := 31) rfl))) (mvT hZ (hw _ (List.mem_of_getElem? (i := 32) rfl))) (mvT hZ (hw _ (List.mem_of_getElem? (i := 36) rfl))) (by decide) (backOf (W := 0) (rm6 l Z a0 hw [] xa h0 n0 Z0 ) hZ (hw _ (List.mem_of_getElem? (i := 36) rfl)) (hw _ (List.mem_of_getElem? (i := 35) rfl)) (by decide) (by decide)) (g := (mkF m 1 #[.val (.ref xa), .val (.long q1), .second] [(.ref xa)])) rfl (by rw [hml]; rfl) (Steps.refl _) (a := xa) (argsL := []) (rest := []) (lenOf pd_0 rfl) rfl (by show 2 * 0 + _ ≤ _; exact Nat.le_of_eq rfl) (hb hby d5_1) (fun _ _ => ⟨rfl, e0, (by decide : 0 + 0 ≤ _), (by decide : 0 + 0 ≤ _)⟩)
  dsimp only [Pt.U, Pt.locs, Pt.cells, Pt.slots] at X1 l1 y1 z1 st1 hQ1
  subst l1 y1 z1
  obtain ⟨rfl, N1q, eq1⟩ := hQ1
  have N1 := Fr.app N0 N1q
  refine Goes.via (S' := (T1.setTop (mkF m 4 #[.val (.ref xa), .val (.long q1), .second] []))) (fun t k => st1.trans k) ?_
  refine Goes.via (S' := (T1.setTop (mkF m 5 #[.val (.ref xa), .val (.long q1), .second] [(.ref xa)]))) (fun t k => XS.aloadN X1.here hx rfl (hb hby d5_4) rfl rfl k) ?_
  refine Goes.via (S' := (T1.setTop (mkF m 6 #[.val (.ref xa), .val (.long q1), .second] [(.long q1), (.ref xa)]))) (fun t k => XS.lloadN X1.here hx rfl (hb hby d5_5) rfl k) ?_
  obtain ⟨T2, h2, X2, e2, W2, st2⟩ := putF X1 hx hZ hown (host := "") (Or.inl (hw _ (List.mem_of_getElem? (i := 38) rfl))) Via.refl eq1 f1_xa_value f0_xa (Or.inr ⟨(hw _ (List.mem_of_getElem? (i := 39) rfl)), rfl, hnm⟩) (hw _ (List.mem_of_getElem? (i := 26) rfl)) (ty := .long) (by decide) rfl rfl (g := (mkF m 6 #[.val (.ref xa), .val (.long q1), .second] [(.long q1), (.ref xa)])) rfl rfl (hb hby d5_6)
  have f3 : Exa Z h2 xa "java/lang/Long" := f0_xa.wr W2
  have f4 : Fld Z h2 xa "java/lang/Long" "value" "J" (.long q1) := f1_xa_value.same W2
  have K2 : Keep h0 h2 [xa] := Keep.wr (Keep.refl h0 [xa]) W2 (Or.inl (List.mem_of_getElem? (i := 0) rfl))
  have Z2 : n0 ≤ h2.size := Nat.le_trans Z0 K2.1
  have N2 := Fr.snoc X2 N1 g_xa
  refine Goes.via (S' := (T2.setTop (mkF m 9 #[.val (.ref xa), .val (.long q1), .second] []))) (fun t k => st2 _ k) ?_
  exact own_retV X2 hx Bd.notSynchronized Bd.returns (hb hby d5_9) e2 ⟨rfl, N2, K2, f3, f4⟩ (by decide) (by decide)
theorem d4_0 : decode jdk_35_method_24_code 0 = .ok (.sipush 128, 3) := by decide +kernel
theorem d4_3 : decode jdk_35_method_24_code 3 = .ok (.istore_n 2, 1) := by decide +kernel
theorem d4_4 : decode jdk_35_method_24_code 4 = .ok (.lload_n 0, 1) := by decide +kernel
theorem d4_5 : decode jdk_35_method_24_code 5 = .ok (.ldc2_w 230, 3) := by decide +kernel
theorem d4_8 : decode jdk_35_method_24_code 8 = .ok (.lcmp, 1) := by decide +kernel
theorem d4_9 : decode jdk_35_method_24_code 9 = .ok (.ifCond .lt 22, 3) := by decide +kernel
theorem d4_12 : decode jdk_35_method_24_code 12 = .ok (.lload_n 0, 1) := by decide +kernel
theorem d4_13 : decode jdk_35_method_24_code 13 = .ok (.ldc2_w 232, 3) := by decide +kernel
theorem d4_16 : decode jdk_35_method_24_code 16 = .ok (.lcmp, 1) := by decide +kernel
theorem d4_17 : decode jdk_35_method_24_code 17 = .ok (.ifCond .gt 14, 3) := by decide +kernel
theorem d4_20 : decode jdk_35_method_24_code 20 = .ok (.getstatic 234, 3) := by decide +kernel
theorem d4_23 : decode jdk_35_method_24_code 23 = .ok (.lload_n 0, 1) := by decide +kernel
theorem d4_24 : decode jdk_35_method_24_code 24 = .ok (.l2i, 1) := by decide +kernel
theorem d4_25 : decode jdk_35_method_24_code 25 = .ok (.sipush 128, 3) := by decide +kernel
theorem d4_28 : decode jdk_35_method_24_code 28 = .ok (.iadd, 1) := by decide +kernel
theorem d4_29 : decode jdk_35_method_24_code 29 = .ok (.aaload, 1) := by decide +kernel
theorem d4_30 : decode jdk_35_method_24_code 30 = .ok (.areturn, 1) := by decide +kernel
theorem d4_31 : decode jdk_35_method_24_code 31 = .ok (.new 1, 3) := by decide +kernel
theorem d4_34 : decode jdk_35_method_24_code 34 = .ok (.dup, 1) := by decide +kernel
theorem d4_35 : decode jdk_35_method_24_code 35 = .ok (.lload_n 0, 1) := by decide +kernel
theorem d4_36 : decode jdk_35_method_24_code 36 = .ok (.invokespecial 240, 3) := by decide +kernel
theorem d4_39 : decode jdk_35_method_24_code 39 = .ok (.areturn, 1) := by decide +kernel
theorem ef_4 (m : MethodId) (q0 : Int64) : entryFrame m #[(.long q0)] 3 = mkF m 0 #[.val (.long q0), .second, .unset] [] := by first | (simp [entryFrame, mkF, argsToLocals, Value.category]; done) | rfl
def Q4 (Z : State) (q0 : Int64) (yc : Addr) (h0 : Heap) (n0 : Nat) (v : Option Value) (h : Heap) (L : List Loc) : Prop := ∃ r : Addr, v = some (.ref r) ∧ (True) ∧ Fr n0 L ∧ Keep h0 h [] ∧ Exa Z h r "java/lang/Long"
set_option maxRecDepth 65536 in
set_option maxHeartbeats 40000000 in
theorem rm4 (l : Launch) (Z : State) (a0 : Array Value) (hw : ∀ d ∈ tables_1, d.before a0 Z = true) (ws : List Jvm.Cond) (q0 : Int64) (yc : Addr) (h0 : Heap) (n0 : Nat) (Z0 : n0 ≤ h0.size) (f0_cache : Sta Z h0 "java/lang/Long$LongCache" "cache" "[Ljava/lang/Long;" (.ref yc)) (hcache : own_Cache Z h0 yc) :
    MetFree l (⟨"java/lang/Long", "valueOf", "(J)Ljava/lang/Long;"⟩ : MethodName) (head1 (Jvm.Cond.code (⟨"java/lang/Long", "valueOf", "(J)Ljava/lang/Long;"⟩ : MethodName) jdk_35_method_24_code 3 (some (.object "java/lang/Long")) :: ws) ({ frames := 3, cells := 1, slots := 1, locals := 39 } : Room)) (fun a U => a = #[(.long q0)] ∧ Z.Warmed39 U.vm ∧ U.heap = h0) (fun _ _ _ _ _ => True) (fun _ U o U' => ∃ v L, o = .returned v ∧ Q4 Z q0 yc h0 n0 v U'.heap L ∧ FrameEnd U o U' L 1 1) := by
  refine MetFree.of_bodySF (plainFor_of_name pn_10) hisR ?_
  intro p e s m args below meth c s₁ Bd hml0 hP hK
  obtain ⟨rfl, hZ, hh⟩ := hP
  have hx := Bd.exec
  have hby := Bd.bytes
  have hml : c.maxLocals = 3 := hml0
  have hown : s.vm.findClass "java/lang/Long" = some m.cls := findClass_of_methodNamed Bd.named
  have hnm := (name_of_methodNamed Bd.named Bd.method).1
  have X0 : Stand p l e ({ frames := 3, cells := 1, slots := 1, locals := 39 } : Room) s m #[(.long q0)] below meth c s₁ [] 0 0 := Stand.of_body Bd
  have e0 : s₁.heap = h0 := by rw [← hh, Bd.state]; rfl
  have N0 := Fr.nil n0
  refine own_start (Q := fun v h L => Q4 Z q0 yc h0 n0 v h L) ?_
  refine Goes.via (S' := (s₁.setTop (mkF m 0 #[.val (.long q0), .second, .unset] []))) (fun t k => castTop (ef_4 m q0) k) ?_
  refine Goes.via (S' := (s₁.setTop (mkF m 3 #[.val (.long q0), .second, .unset] [(.int (128 : Int32))]))) (fun t k => XS.sipush X0.here hx rfl (hb hby d4_0) k) ?_
  refine Goes.via (S' := (s₁.setTop (mkF m 4 #[.val (.long q0), .second, .val (.int (128 : Int32))] []))) (fun t k => XS.istoreN X0.here hx rfl (hb hby d4_3) rfl (l' := #[.val (.long q0), .second, .val (.int (128 : Int32))]) rfl k) ?_
  refine Goes.via (S' := (s₁.setTop (mkF m 5 #[.val (.long q0), .second, .val (.int (128 : Int32))] [(.long q0)]))) (fun t k => XS.lloadN X0.here hx rfl (hb hby d4_4) rfl k) ?_
  refine Goes.via (S' := (s₁.setTop (mkF m 8 #[.val (.long q0), .second, .val (.int (128 : Int32))] [(.long (-128 : Int64)), (.long q0)]))) (fun t k => X0.ldc2Long hx hown (mvT hZ (hw _ (List.mem_of_getElem? (i := 24) rfl))) (g := (mkF m 5 #[.val (.long q0), .second, .val (.int (128 : Int32))] [(.long q0)])) rfl (hb hby d4_5) _ k) ?_
  refine Goes.via (S' := (s₁.setTop (mkF m 9 #[.val (.long q0), .second, .val (.int (128 : Int32))] [(.int (lcmpW q0 (-128 : Int64)))]))) (fun t k => XS.lcmp X0.here hx rfl (hb hby d4_8) rfl k) ?_
  by_cases hc1 : (q0 < (-128 : Int64))
  · refine Goes.via (S' := (s₁.setTop (mkF m 31 #[.val (.long q0), .second, .val (.int (128 : Int32))] []))) (fun t k => XS.ifYes X0.here hx rfl (pc0 := 9) (pc' := 31) rfl (hb hby d4_9) rfl ((if0 _ _).trans (tlt (own_lt hc1)).1) (by decide) (by decide) k) ?_
    obtain ⟨T2, h2, X2, e2, E2, A2, D2, -, st2⟩ := newO X0 hx hZ hown (hw _ (List.mem_of_getElem? (i := 25) rfl)) (hw _ (List.mem_of_getElem? (i := 26) rfl)) (hw _ (List.mem_of_getElem? (i := 22) rfl)) e0 (g := (mkF m 31 #[.val (.long q0), .second, .val (.int (128 : Int32))] [])) rfl (hb hby d4_31) (by decide) (by decide)
    obtain ⟨b2, g2⟩ : ∃ z, z = h0.size := ⟨_, rfl⟩
    rw [← g2] at A2 D2 st2
    have f3 : Sta Z h2 "java/lang/Long$LongCache" "cache" "[Ljava/lang/Long;" (.ref yc) := f0_cache.ext E2
    have K2 : Keep h0 h2 [] := Keep.ext (Keep.refl h0 []) E2
    have Z2 : n0 ≤ h2.size := Nat.le_trans Z0 K2.1
    have g_b2 : n0 ≤ b2 := Nat.le_trans Z0 (Nat.le_of_eq g2.symm)
    have sz_b2 : h0.size ≤ b2 := Nat.le_trans ((Keep.refl h0 [])).1 (Nat.le_of_eq g2.symm)
    have f4 : Exa Z h2 b2 "java/lang/Long" := A2
    have f5 : Fld Z h2 b2 "java/lang/Long" "value" "J" (.long (0 : Int64)) := D2 (Or.inr (hw _ (List.mem_of_getElem? (i := 39) rfl))) (ty := .long) (by decide)
    refine Goes.via (S' := (T2.setTop (mkF m 34 #[.val (.long q0), .second, .val (.int (128 : Int32))] [(.ref b2)]))) (fun t k => st2 _ k) ?_
    refine Goes.via (S' := (T2.setTop (mkF m 35 #[.val (.long q0), .second, .val (.int (128 : Int32))] [(.ref b2), (.ref b2)]))) (fun t k => XS.dup X2.here hx rfl (hb hby d4_34) rfl rfl k) ?_
    refine Goes.via (S' := (T2.setTop (mkF m 36 #[.val (.long q0), .second, .val (.int (128 : Int32))] [(.long q0), (.ref b2), (.ref b2)]))) (fun t k => XS.lloadN X2.here hx rfl (hb hby d4_35) rfl k) ?_
    obtain ⟨_, _, ⟨T6, L6, k6, n6⟩, -, X6, ⟨Lc6, hQ6, l6, y6, z6⟩, st6⟩ := X2.specialBack hx (y := (⟨"java/lang/Long", "<init>", "(J)V"⟩ : MethodName)) rfl hown (mvT hZ (hw _ (List.mem_of_getElem? (i := 27) rfl))) (mvT hZ (hw _ (List.mem_of_getElem? (i := 28) rfl))) (mvT hZ (hw _ (List.mem_of_getElem? (i := 30) rfl))) (by decide) (backOf (W := 1) (rm5 l Z a0 hw [] b2 q0 (.long (0 : Int64)) h2 n0 Z2 f4 f5 g_b2) hZ (hw _ (List.mem_of_getElem? (i := 30) rfl)) (hw _ (List.mem_of_getElem? (i := 22) rfl)) (by decide) (by decide)) (g := (mkF m 36 #[.val (.long q0), .second, .val (.int (128 : Int32))] [(.long q0), (.ref b2), (.ref b2)])) rfl (by rw [hml]; rfl) (Steps.refl _) (a := b2) (argsL := [(.long q0)]) (rest := [(.ref b2)]) (lenOf pd_1 rfl) rfl (by show 2 * 0 + _ ≤ _; exact Nat.le_of_eq rfl) (hb hby d4_36) (fun _ _ => ⟨rfl, e2, (by decide : 1 + 0 ≤ _), (by decide : 1 + 0 ≤ _)⟩)
    dsimp only [Pt.U, Pt.locs, Pt.cells, Pt.slots] at X6 l6 y6 z6 st6 hQ6
    subst l6 y6 z6
    obtain ⟨rfl, N6q, K6q, po6_0, po6_1⟩ := hQ6
    have N6 := Fr.app N0 N6q
    have f7 : Sta Z T6.heap "java/lang/Long$LongCache" "cache" "[Ljava/lang/Long;" (.ref yc) := own_staKeep f3 K6q (allS (own_nst f4) all0)
    have f8 : Exa Z T6.heap b2 "java/lang/Long" := f4.keep K6q
    have K6 : Keep h0 T6.heap [] := Keep.trans K2 K6q (allS (Or.inr sz_b2) all0)
    have Z6 : n0 ≤ T6.heap.size := Nat.le_trans Z0 K6.1
    refine Goes.via (S' := (T6.setTop (mkF m 39 #[.val (.long q0), .second, .val (.int (128 : Int32))] [(.ref b2)]))) (fun t k => st6.trans k) ?_
    exact own_ret X6 hx Bd.notSynchronized Bd.returns rfl (Or.inr (Or.inr (Or.inr (Or.inr ⟨rfl, rfl, rfl⟩)))) (hb hby d4_39) rfl ⟨b2, rfl, trivial, N6, K6, po6_0⟩ (by decide) (by decide)
  · refine Goes.via (S' := (s₁.setTop (mkF m 12 #[.val (.long q0), .second, .val (.int (128 : Int32))] []))) (fun t k => XS.ifNo X0.here hx rfl (hb hby d4_9) rfl ((if0 _ _).trans (flt (own_nlt hc1)).1) k) ?_
    refine Goes.via (S' := (s₁.setTop (mkF m 13 #[.val (.long q0), .second, .val (.int (128 : Int32))] [(.long q0)]))) (fun t k => XS.lloadN X0.here hx rfl (hb hby d4_12) rfl k) ?_
    refine Goes.via (S' := (s₁.setTop (mkF m 16 #[.val (.long q0), .second, .val (.int (128 : Int32))] [(.long (127 : Int64)), (.long q0)]))) (fun t k => X0.ldc2Long hx hown (mvT hZ (hw _ (List.mem_of_getElem? (i := 43) rfl))) (g := (mkF m 13 #[.val (.long q0), .second, .val (.int (128 : Int32))] [(.long q0)])) rfl (hb hby d4_13) _ k) ?_
    refine Goes.via (S' := (s₁.setTop (mkF m 17 #[.val (.long q0), .second, .val (.int (128 : Int32))] [(.int (lcmpW q0 (127 : Int64)))]))) (fun t k => XS.lcmp X0.here hx rfl (hb hby d4_16) rfl k) ?_
    by_cases hc9 : ((127 : Int64) < q0)
    · refine Goes.via (S' := (s₁.setTop (mkF m 31 #[.val (.long q0), .second, .val (.int (128 : Int32))] []))) (fun t k => XS.ifYes X0.here hx rfl (pc0 := 17) (pc' := 31) rfl (hb hby d4_17) rfl ((if0 _ _).trans (tlt (own_gt hc9)).2.2.1) (by decide) (by decide) k) ?_
      obtain ⟨T10, h10, X10, e10, E10, A10, D10, -, st10⟩ := newO X0 hx hZ hown (hw _ (List.mem_of_getElem? (i := 25) rfl)) (hw _ (List.mem_of_getElem? (i := 26) rfl)) (hw _ (List.mem_of_getElem? (i := 22) rfl)) e0 (g := (mkF m 31 #[.val (.long q0), .second, .val (.int (128 : Int32))] [])) rfl (hb hby d4_31) (by decide) (by decide)
      obtain ⟨b10, g10⟩ : ∃ z, z = h0.size := ⟨_, rfl⟩
      rw [← g10] at A10 D10 st10
      have f11 : Sta Z h10 "java/lang/Long$LongCache" "cache" "[Ljava/lang/Long;" (.ref yc) := f0_cache.ext E10
      have K10 : Keep h0 h10 [] := Keep.ext (Keep.refl h0 []) E10
      have Z10 : n0 ≤ h10.size := Nat.le_trans Z0 K10.1
      have g_b10 : n0 ≤ b10 := Nat.le_trans Z0 (Nat.le_of_eq g10.symm)
      have sz_b10 : h0.size ≤ b10 := Nat.le_trans ((Keep.refl h0 [])).1 (Nat.le_of_eq g10.symm)
      have f12 : Exa Z h10 b10 "java/lang/Long" := A10
      have f13 : Fld Z h10 b10 "java/lang/Long" "value" "J" (.long (0 : Int64)) := D10 (Or.inr (hw _ (List.mem_of_getElem? (i := 39) rfl))) (ty := .long) (by decide)
      refine Goes.via (S' := (T10.setTop (mkF m 34 #[.val (.long q0), .second, .val (.int (128 : Int32))] [(.ref b10)]))) (fun t k => st10 _ k) ?_
      refine Goes.via (S' := (T10.setTop (mkF m 35 #[.val (.long q0), .second, .val (.int (128 : Int32))] [(.ref b10), (.ref b10)]))) (fun t k => XS.dup X10.here hx rfl (hb hby d4_34) rfl rfl k) ?_
      refine Goes.via (S' := (T10.setTop (mkF m 36 #[.val (.long q0), .second, .val (.int (128 : Int32))] [(.long q0), (.ref b10), (.ref b10)]))) (fun t k => XS.lloadN X10.here hx rfl (hb hby d4_35) rfl k) ?_
      obtain ⟨_, _, ⟨T14, L14, k14, n14⟩, -, X14, ⟨Lc14, hQ14, l14, y14, z14⟩, st14⟩ := X10.specialBack hx (y := (⟨"java/lang/Long", "<init>", "(J)V"⟩ : MethodName)) rfl hown (mvT hZ (hw _ (List.mem_of_getElem? (i := 27) rfl))) (mvT hZ (hw _ (List.mem_of_getElem? (i := 28) rfl))) (mvT hZ (hw _ (List.mem_of_getElem? (i := 30) rfl))) (by decide) (backOf (W := 1) (rm5 l Z a0 hw [] b10 q0 (.long (0 : Int64)) h10 n0 Z10 f12 f13 g_b10) hZ (hw _ (List.mem_of_getElem? (i := 30) rfl)) (hw _ (List.mem_of_getElem? (i := 22) rfl)) (by decide) (by decide)) (g := (mkF m 36 #[.val (.long q0), .second, .val (.int (128 : Int32))] [(.long q0), (.ref b10), (.ref b10)])) rfl (by rw [hml]; rfl) (Steps.refl _) (a := b10) (argsL := [(.long q0)]) (rest := [(.ref b10)]) (lenOf pd_1 rfl) rfl (by show 2 * 0 + _ ≤ _; exact Nat.le_of_eq rfl) (hb hby d4_36) (fun _ _ => ⟨rfl, e10, (by decide : 1 + 0 ≤ _), (by decide : 1 + 0 ≤ _)⟩)
      dsimp only [Pt.U, Pt.locs, Pt.cells, Pt.slots] at X14 l14 y14 z14 st14 hQ14
      subst l14 y14 z14
      obtain ⟨rfl, N14q, K14q, po14_0, po14_1⟩ := hQ14
      have N14 := Fr.app N0 N14q
      have f15 : Sta Z T14.heap "java/lang/Long$LongCache" "cache" "[Ljava/lang/Long;" (.ref yc) := own_staKeep f11 K14q (allS (own_nst f12) all0)
      have f16 : Exa Z T14.heap b10 "java/lang/Long" := f12.keep K14q
      have K14 : Keep h0 T14.heap [] := Keep.trans K10 K14q (allS (Or.inr sz_b10) all0)
      have Z14 : n0 ≤ T14.heap.size := Nat.le_trans Z0 K14.1
      refine Goes.via (S' := (T14.setTop (mkF m 39 #[.val (.long q0), .second, .val (.int (128 : Int32))] [(.ref b10)]))) (fun t k => st14.trans k) ?_
      exact own_ret X14 hx Bd.notSynchronized Bd.returns rfl (Or.inr (Or.inr (Or.inr (Or.inr ⟨rfl, rfl, rfl⟩)))) (hb hby d4_39) rfl ⟨b10, rfl, trivial, N14, K14, po14_0⟩ (by decide) (by decide)
    · refine Goes.via (S' := (s₁.setTop (mkF m 20 #[.val (.long q0), .second, .val (.int (128 : Int32))] []))) (fun t k => XS.ifNo X0.here hx rfl (hb hby d4_17) rfl ((if0 _ _).trans (flt (own_ngt hc9)).2.2.1) k) ?_
      obtain ⟨T17, X17, e17, st17⟩ := getS2 X0 hx hZ hown (host := "") (Or.inl (hw _ (List.mem_of_getElem? (i := 44) rfl))) Via.refl e0 f0_cache (g := (mkF m 20 #[.val (.long q0), .second, .val (.int (128 : Int32))] [])) rfl (hb hby d4_20)
      refine Goes.via (S' := (T17.setTop (mkF m 23 #[.val (.long q0), .second, .val (.int (128 : Int32))] [(.ref yc)]))) (fun t k => st17 _ k) ?_
      refine Goes.via (S' := (T17.setTop (mkF m 24 #[.val (.long q0), .second, .val (.int (128 : Int32))] [(.long q0), (.ref yc)]))) (fun t k => XS.lloadN X17.here hx rfl (hb hby d4_23) rfl k) ?_
      refine Goes.via (S' := (T17.setTop (mkF m 25 #[.val (.long q0), .second, .val (.int (128 : Int32))] [(.int (q0.toInt32)), (.ref yc)]))) (fun t k => XS.l2i X17.here hx rfl (hb hby d4_24) rfl k) ?_
      refine Goes.via (S' := (T17.setTop (mkF m 28 #[.val (.long q0), .second, .val (.int (128 : Int32))] [(.int (128 : Int32)), (.int (q0.toInt32)), (.ref yc)]))) (fun t k => XS.sipush X17.here hx rfl (hb hby d4_25) k) ?_
      refine Goes.via (S' := (T17.setTop (mkF m 29 #[.val (.long q0), .second, .val (.int (128 : Int32))] [(.int ((q0.toInt32) + (128 : Int32))), (.ref yc)]))) (fun t k => XS.iadd X17.here hx rfl (hb hby d4_28) rfl k) ?_
      obtain ⟨cl18, b18, Ar18, hin18, hat18, Eb18⟩ := hcache q0 hc1 hc9
      refine Goes.via (S' := (T17.setTop (mkF m 30 #[.val (.long q0), .second, .val (.int (128 : Int32))] [(.ref b18)]))) (fun t k => X17.aaload hx (j := ((q0.toInt32) + (128 : Int32))) (v := (.ref b18)) (by rw [e17]; exact Ar18.1) (State.isArrayOf_alike hZ.alike Ar18.2.1) rfl Ar18.2.2 hin18 hat18 (g := (mkF m 29 #[.val (.long q0), .second, .val (.int (128 : Int32))] [(.int ((q0.toInt32) + (128 : Int32))), (.ref yc)])) rfl rfl (hb hby d4_29) _ k) ?_
      exact own_ret X17 hx Bd.notSynchronized Bd.returns rfl (Or.inr (Or.inr (Or.inr (Or.inr ⟨rfl, rfl, rfl⟩)))) (hb hby d4_30) e17 ⟨b18, rfl, trivial, N0, (Keep.refl h0 []), Eb18⟩ (by decide) (by decide)
theorem d1_0 : decode prog_92_method_1_code 0 = .ok (.aload_n 0, 1) := by decide +kernel
theorem d1_1 : decode prog_92_method_1_code 1 = .ok (.invokespecial 1, 3) := by decide +kernel
theorem d1_4 : decode prog_92_method_1_code 4 = .ok (.aload_n 0, 1) := by decide +kernel
theorem d1_5 : decode prog_92_method_1_code 5 = .ok (.lload_n 1, 1) := by decide +kernel
theorem d1_6 : decode prog_92_method_1_code 6 = .ok (.putfield 7, 3) := by decide +kernel
theorem d1_9 : decode prog_92_method_1_code 9 = .ok (.aload_n 0, 1) := by decide +kernel
theorem d1_10 : decode prog_92_method_1_code 10 = .ok (.lload_n 3, 1) := by decide +kernel
theorem d1_11 : decode prog_92_method_1_code 11 = .ok (.putfield 13, 3) := by decide +kernel
theorem d1_14 : decode prog_92_method_1_code 14 = .ok (.return_, 1) := by decide +kernel
theorem ef_1 (m : MethodId) (xa : Addr) (q1 : Int64) (q2 : Int64) : entryFrame m #[(.ref xa), (.long q1), (.long q2)] 5 = mkF m 0 #[.val (.ref xa), .val (.long q1), .second, .val (.long q2), .second] [] := by first | (simp [entryFrame, mkF, argsToLocals, Value.category]; done) | rfl
def Q1 (Z : State) (xa : Addr) (q1 : Int64) (q2 : Int64) (u0 : Value) (u1 : Value) (h0 : Heap) (n0 : Nat) (v : Option Value) (h : Heap) (L : List Loc) : Prop := v = none ∧ Fr n0 L ∧ Keep h0 h [xa] ∧ Exa Z h xa "com/example/eolog/eolog/record/OffsetAndTimestamp" ∧ Fld Z h xa "com/example/eolog/eolog/record/OffsetAndTimestamp" "offset" "J" (.long q1) ∧ Fld Z h xa "com/example/eolog/eolog/record/OffsetAndTimestamp" "timestamp" "J" (.long q2)
set_option maxRecDepth 65536 in
set_option maxHeartbeats 40000000 in
theorem rm1 (l : Launch) (Z : State) (a0 : Array Value) (hw : ∀ d ∈ tables_1, d.before a0 Z = true) (ws : List Jvm.Cond) (xa : Addr) (q1 : Int64) (q2 : Int64) (u0 : Value) (u1 : Value) (h0 : Heap) (n0 : Nat) (Z0 : n0 ≤ h0.size) (f0_xa : Exa Z h0 xa "com/example/eolog/eolog/record/OffsetAndTimestamp") (f1_xa_offset : Fld Z h0 xa "com/example/eolog/eolog/record/OffsetAndTimestamp" "offset" "J" u0) (f2_xa_timestamp : Fld Z h0 xa "com/example/eolog/eolog/record/OffsetAndTimestamp" "timestamp" "J" u1) (g_xa : n0 ≤ xa) :
    MetFree l (⟨"com/example/eolog/eolog/record/OffsetAndTimestamp", "<init>", "(JJ)V"⟩ : MethodName) (head1 (Jvm.Cond.code (⟨"com/example/eolog/eolog/record/OffsetAndTimestamp", "<init>", "(JJ)V"⟩ : MethodName) prog_92_method_1_code 5 none :: ws) ({ frames := 1, cells := 0, slots := 0, locals := 12 } : Room)) (fun a U => a = #[(.ref xa), (.long q1), (.long q2)] ∧ Z.Warmed39 U.vm ∧ U.heap = h0) (fun _ _ _ _ _ => True) (fun _ U o U' => ∃ v L, o = .returned v ∧ Q1 Z xa q1 q2 u0 u1 h0 n0 v U'.heap L ∧ FrameEnd U o U' L 0 0) := by
  refine MetFree.of_bodySF (plainFor_of_name pn_42) hisR ?_
  intro p e s m args below meth c s₁ Bd hml0 hP hK
  obtain ⟨rfl, hZ, hh⟩ := hP
  have hx := Bd.exec
  have hby := Bd.bytes
  have hml : c.maxLocals = 5 := hml0
  have hown : s.vm.findClass "com/example/eolog/eolog/record/OffsetAndTimestamp" = some m.cls := findClass_of_methodNamed Bd.named
  have hnm := (name_of_methodNamed Bd.named Bd.method).1
  have X0 : Stand p l e ({ frames := 1, cells := 0, slots := 0, locals := 12 } : Room) s m #[(.ref xa), (.long q1), (.long q2)] below meth c s₁ [] 0 0 := Stand.of_body Bd
  have e0 : s₁.heap = h0 := by rw [← hh, Bd.state]; rfl
  have N0 := Fr.nil n0
  refine own_start (Q := fun v h L => Q1 Z xa q1 q2 u0 u1 h0 n0 v h L) ?_
  refine Goes.via (S' := (s₁.setTop (mkF m 0 #[.val (.ref xa), .val (.long q1), .second, .val (.long q2), .second] []))) (fun t k => castTop (ef_1 m xa q1 q2) k) ?_
  refine Goes.via (S' := (s₁.setTop (mkF m 1 #[.val (.ref xa), .val (.long q1), .second, .val (.long q2), .second] [(.ref xa)]))) (fun t k => XS.aloadN X0.here hx rfl (hb hby d1_0) rfl rfl k) ?_
  obtain ⟨T1, X1, e1, st1⟩ := initO X0 hx hZ hown (hw _ (List.mem_of_getElem? (i := 6) rfl)) (hw _ (List.mem_of_getElem? (i := 7) rfl)) (hw _ (List.mem_of_getElem? (i := 8) rfl)) e0 (g := (mkF m 1 #[.val (.ref xa), .val (.long q1), .second, .val (.long q2), .second] [(.ref xa)])) rfl (by rw [hml]; rfl) rfl (hb hby d1_1) (by decide) (W := 0) (by show 2 * 0 + _ ≤ _; exact Nat.le_of_eq rfl) (by decide)
  refine Goes.via (S' := (T1.setTop (mkF m 4 #[.val (.ref xa), .val (.long q1), .second, .val (.long q2), .second] []))) (fun t k => st1 _ k) ?_
  refine Goes.via (S' := (T1.setTop (mkF m 5 #[.val (.ref xa), .val (.long q1), .second, .val (.long q2), .second] [(.ref xa)]))) (fun t k => XS.aloadN X1.here hx rfl (hb hby d1_4) rfl rfl k) ?_
  refine Goes.via (S' := (T1.setTop (mkF m 6 #[.val (.ref xa), .val (.long q1), .second, .val (.long q2), .second] [(.long q1), (.ref xa)]))) (fun t k => XS.lloadN X1.here hx rfl (hb hby d1_5) rfl k) ?_
  obtain ⟨T2, h2, X2, e2, W2, st2⟩ := putF X1 hx hZ hown (host := "") (Or.inl (hw _ (List.mem_of_getElem? (i := 9) rfl))) Via.refl e1 f1_xa_offset f0_xa (Or.inr ⟨(hw _ (List.mem_of_getElem? (i := 10) rfl)), rfl, hnm⟩) (hw _ (List.mem_of_getElem? (i := 1) rfl)) (ty := .long) (by decide) rfl rfl (g := (mkF m 6 #[.val (.ref xa), .val (.long q1), .second, .val (.long q2), .second] [(.long q1), (.ref xa)])) rfl rfl (hb hby d1_6)
  have f3 : Exa Z h2 xa "com/example/eolog/eolog/record/OffsetAndTimestamp" := f0_xa.wr W2
  have f4 : Fld Z h2 xa "com/example/eolog/eolog/record/OffsetAndTimestamp" "timestamp" "J" u1 := f2_xa_timestamp.other W2 (Or.inr (slot_ne (Or.inr (hw _ (List.mem_of_getElem? (i := 12) rfl))) (Or.inr (hw _ (List.mem_of_getElem? (i := 10) rfl))) (by decide) (t := .long) (t' := .long) (by decide) (by decide)))
  have f5 : Fld Z h2 xa "com/example/eolog/eolog/record/OffsetAndTimestamp" "offset" "J" (.long q1) := f1_xa_offset.same W2
  have K2 : Keep h0 h2 [xa] := Keep.wr (Keep.refl h0 [xa]) W2 (Or.inl (List.mem_of_getElem? (i := 0) rfl))
  have Z2 : n0 ≤ h2.size := Nat.le_trans Z0 K2.1
  have N2 := Fr.snoc X2 N0 g_xa
  refine Goes.via (S' := (T2.setTop (mkF m 9 #[.val (.ref xa), .val (.long q1), .second, .val (.long q2), .second] []))) (fun t k => st2 _ k) ?_
  refine Goes.via (S' := (T2.setTop (mkF m 10 #[.val (.ref xa), .val (.long q1), .second, .val (.long q2), .second] [(.ref xa)]))) (fun t k => XS.aloadN X2.here hx rfl (hb hby d1_9) rfl rfl k) ?_
  refine Goes.via (S' := (T2.setTop (mkF m 11 #[.val (.ref xa), .val (.long q1), .second, .val (.long q2), .second] [(.long q2), (.ref xa)]))) (fun t k => XS.lloadN X2.here hx rfl (hb hby d1_10) rfl k) ?_
  obtain ⟨T6, h6, X6, e6, W6, st6⟩ := putF X2 hx hZ hown (host := "") (Or.inl (hw _ (List.mem_of_getElem? (i := 11) rfl))) Via.refl e2 f4 f3 (Or.inr ⟨(hw _ (List.mem_of_getElem? (i := 12) rfl)), rfl, hnm⟩) (hw _ (List.mem_of_getElem? (i := 1) rfl)) (ty := .long) (by decide) rfl rfl (g := (mkF m 11 #[.val (.ref xa), .val (.long q1), .second, .val (.long q2), .second] [(.long q2), (.ref xa)])) rfl rfl (hb hby d1_11)
  have f7 : Exa Z h6 xa "com/example/eolog/eolog/record/OffsetAndTimestamp" := f3.wr W6
  have f8 : Fld Z h6 xa "com/example/eolog/eolog/record/OffsetAndTimestamp" "offset" "J" (.long q1) := f5.other W6 (Or.inr (slot_ne (Or.inr (hw _ (List.mem_of_getElem? (i := 10) rfl))) (Or.inr (hw _ (List.mem_of_getElem? (i := 12) rfl))) (by decide) (t := .long) (t' := .long) (by decide) (by decide)))
  have f9 : Fld Z h6 xa "com/example/eolog/eolog/record/OffsetAndTimestamp" "timestamp" "J" (.long q2) := f4.same W6
  have K6 : Keep h0 h6 [xa] := Keep.wr K2 W6 (Or.inl (List.mem_of_getElem? (i := 0) rfl))
  have Z6 : n0 ≤ h6.size := Nat.le_trans Z0 K6.1
  have N6 := Fr.snoc X6 N2 g_xa
  refine Goes.via (S' := (T6.setTop (mkF m 14 #[.val (.ref xa), .val (.long q1), .second, .val (.long q2), .second] []))) (fun t k => st6 _ k) ?_
  exact own_retV X6 hx Bd.notSynchronized Bd.returns (hb hby d1_14) e6 ⟨rfl, N6, K6, f7, f8, f9⟩ (by decide) (by decide)
theorem d3_0 : decode prog_92_method_4_code 0 = .ok (.aload_n 1, 1) := by decide +kernel
theorem d3_1 : decode prog_92_method_4_code 1 = .ok (.instanceof 8, 3) := by decide +kernel
theorem d3_4 : decode prog_92_method_4_code 4 = .ok (.ifCond .ne 5, 3) := by decide +kernel
theorem d3_9 : decode prog_92_method_4_code 9 = .ok (.aload_n 1, 1) := by decide +kernel
theorem d3_10 : decode prog_92_method_4_code 10 = .ok (.checkcast 8, 3) := by decide +kernel
theorem d3_13 : decode prog_92_method_4_code 13 = .ok (.astore_n 2, 1) := by decide +kernel
theorem d3_14 : decode prog_92_method_4_code 14 = .ok (.aload_n 0, 1) := by decide +kernel
theorem d3_15 : decode prog_92_method_4_code 15 = .ok (.getfield 7, 3) := by decide +kernel
theorem d3_18 : decode prog_92_method_4_code 18 = .ok (.aload_n 2, 1) := by decide +kernel
theorem d3_19 : decode prog_92_method_4_code 19 = .ok (.getfield 7, 3) := by decide +kernel
theorem d3_22 : decode prog_92_method_4_code 22 = .ok (.lcmp, 1) := by decide +kernel
theorem d3_23 : decode prog_92_method_4_code 23 = .ok (.ifCond .ne 19, 3) := by decide +kernel
theorem d3_26 : decode prog_92_method_4_code 26 = .ok (.aload_n 0, 1) := by decide +kernel
theorem d3_27 : decode prog_92_method_4_code 27 = .ok (.getfield 13, 3) := by decide +kernel
theorem d3_30 : decode prog_92_method_4_code 30 = .ok (.aload_n 2, 1) := by decide +kernel
theorem d3_31 : decode prog_92_method_4_code 31 = .ok (.getfield 13, 3) := by decide +kernel
theorem d3_34 : decode prog_92_method_4_code 34 = .ok (.lcmp, 1) := by decide +kernel
theorem d3_35 : decode prog_92_method_4_code 35 = .ok (.ifCond .ne 7, 3) := by decide +kernel
theorem d3_38 : decode prog_92_method_4_code 38 = .ok (.iconst 1, 1) := by decide +kernel
theorem d3_39 : decode prog_92_method_4_code 39 = .ok (.goto 4, 3) := by decide +kernel
theorem d3_42 : decode prog_92_method_4_code 42 = .ok (.iconst 0, 1) := by decide +kernel
theorem d3_43 : decode prog_92_method_4_code 43 = .ok (.ireturn, 1) := by decide +kernel
theorem ef_3 (m : MethodId) (xa : Addr) (xb : Addr) : entryFrame m #[(.ref xa), (.ref xb)] 3 = mkF m 0 #[.val (.ref xa), .val (.ref xb), .unset] [] := by first | (simp [entryFrame, mkF, argsToLocals, Value.category]; done) | rfl
def Q3 (Z : State) (xa : Addr) (xb : Addr) (w0 : Int64) (w1 : Int64) (w2 : Int64) (w3 : Int64) (h0 : Heap) (n0 : Nat) (v : Option Value) (h : Heap) (L : List Loc) : Prop := ∃ r : Int32, v = some (.int r) ∧ r = (if ((w0 = w2) ∧ (w1 = w3)) then (1 : Int32) else 0) ∧ Fr n0 L ∧ h = h0
set_option maxRecDepth 65536 in
set_option maxHeartbeats 40000000 in
theorem rm3 (l : Launch) (Z : State) (a0 : Array Value) (hw : ∀ d ∈ tables_1, d.before a0 Z = true) (ws : List Jvm.Cond) (xa : Addr) (xb : Addr) (w0 : Int64) (w1 : Int64) (w2 : Int64) (w3 : Int64) (h0 : Heap) (n0 : Nat) (Z0 : n0 ≤ h0.size) (f0_xb : Exa Z h0 xb "com/example/eolog/eolog/record/OffsetAndTimestamp") (f1_xa_offset : Fld Z h0 xa "com/example/eolog/eolog/record/OffsetAndTimestamp" "offset" "J" (.long w0)) (f2_xa_timestamp : Fld Z h0 xa "com/example/eolog/eolog/record/OffsetAndTimestamp" "timestamp" "J" (.long w1)) (f3_xb_offset : Fld Z h0 xb "com/example/eolog/eolog/record/OffsetAndTimestamp" "offset" "J" (.long w2)) (f4_xb_timestamp : Fld Z h0 xb "com/example/eolog/eolog/record/OffsetAndTimestamp" "timestamp" "J" (.long w3)) :
    MetFree l (⟨"com/example/eolog/eolog/record/OffsetAndTimestamp", "equals", "(Ljava/lang/Object;)Z"⟩ : MethodName) (head1 (Jvm.Cond.code (⟨"com/example/eolog/eolog/record/OffsetAndTimestamp", "equals", "(Ljava/lang/Object;)Z"⟩ : MethodName) prog_92_method_4_code 3 (some .boolean) :: ws) ({ frames := 0, cells := 0, slots := 0, locals := 0 } : Room)) (fun a U => a = #[(.ref xa), (.ref xb)] ∧ Z.Warmed39 U.vm ∧ U.heap = h0) (fun _ _ _ _ _ => True) (fun _ U o U' => ∃ v L, o = .returned v ∧ Q3 Z xa xb w0 w1 w2 w3 h0 n0 v U'.heap L ∧ FrameEnd U o U' L 0 0) := by
  refine MetFree.of_bodySF (plainFor_of_name pn_42) hisR ?_
  intro p e s m args below meth c s₁ Bd hml0 hP hK
  obtain ⟨rfl, hZ, hh⟩ := hP
  have hx := Bd.exec
  have hby := Bd.bytes
  have hml : c.maxLocals = 3 := hml0
  have hown : s.vm.findClass "com/example/eolog/eolog/record/OffsetAndTimestamp" = some m.cls := findClass_of_methodNamed Bd.named
  have hnm := (name_of_methodNamed Bd.named Bd.method).1
  have X0 : Stand p l e ({ frames := 0, cells := 0, slots := 0, locals := 0 } : Room) s m #[(.ref xa), (.ref xb)] below meth c s₁ [] 0 0 := Stand.of_body Bd
  have e0 : s₁.heap = h0 := by rw [← hh, Bd.state]; rfl
  have N0 := Fr.nil n0
  refine own_start (Q := fun v h L => Q3 Z xa xb w0 w1 w2 w3 h0 n0 v h L) ?_
  refine Goes.via (S' := (s₁.setTop (mkF m 0 #[.val (.ref xa), .val (.ref xb), .unset] []))) (fun t k => castTop (ef_3 m xa xb) k) ?_
  refine Goes.via (S' := (s₁.setTop (mkF m 1 #[.val (.ref xa), .val (.ref xb), .unset] [(.ref xb)]))) (fun t k => XS.aloadN X0.here hx rfl (hb hby d3_0) rfl rfl k) ?_
  obtain ⟨T1, X1, e1, st1⟩ := instY X0 hx hZ hown (hw _ (List.mem_of_getElem? (i := 18) rfl)) e0 (Ins.self f0_xb) (g := (mkF m 1 #[.val (.ref xa), .val (.ref xb), .unset] [(.ref xb)])) rfl rfl (hb hby d3_1)
  refine Goes.via (S' := (T1.setTop (mkF m 4 #[.val (.ref xa), .val (.ref xb), .unset] [(.int (1 : Int32))]))) (fun t k => st1 _ k) ?_
  refine Goes.via (S' := (T1.setTop (mkF m 9 #[.val (.ref xa), .val (.ref xb), .unset] []))) (fun t k => XS.ifYes X1.here hx rfl (pc0 := 4) (pc' := 9) rfl (hb hby d3_4) rfl ((if0 _ _).trans (feq (by decide : ¬ ((1 : Int32) = (0 : Int32)))).2) (by decide) (by decide) k) ?_
  refine Goes.via (S' := (T1.setTop (mkF m 10 #[.val (.ref xa), .val (.ref xb), .unset] [(.ref xb)]))) (fun t k => XS.aloadN X1.here hx rfl (hb hby d3_9) rfl rfl k) ?_
  obtain ⟨T2, X2, e2, st2⟩ := castY X1 hx hZ hown (hw _ (List.mem_of_getElem? (i := 18) rfl)) e1 (Ins.self f0_xb) (g := (mkF m 10 #[.val (.ref xa), .val (.ref xb), .unset] [(.ref xb)])) rfl rfl (hb hby d3_10)
  refine Goes.via (S' := (T2.setTop (mkF m 13 #[.val (.ref xa), .val (.ref xb), .unset] [(.ref xb)]))) (fun t k => st2 _ k) ?_
  refine Goes.via (S' := (T2.setTop (mkF m 14 #[.val (.ref xa), .val (.ref xb), .val (.ref xb)] []))) (fun t k => XS.astoreN X2.here hx rfl (hb hby d3_13) rfl rfl (l' := #[.val (.ref xa), .val (.ref xb), .val (.ref xb)]) rfl k) ?_
  refine Goes.via (S' := (T2.setTop (mkF m 15 #[.val (.ref xa), .val (.ref xb), .val (.ref xb)] [(.ref xa)]))) (fun t k => XS.aloadN X2.here hx rfl (hb hby d3_14) rfl rfl k) ?_
  obtain ⟨T3, X3, e3, st3⟩ := getF X2 hx hZ hown (host := "") (Or.inl (hw _ (List.mem_of_getElem? (i := 9) rfl))) Via.refl e2 f1_xa_offset (g := (mkF m 15 #[.val (.ref xa), .val (.ref xb), .val (.ref xb)] [(.ref xa)])) rfl rfl (hb hby d3_15)
  refine Goes.via (S' := (T3.setTop (mkF m 18 #[.val (.ref xa), .val (.ref xb), .val (.ref xb)] [(.long w0)]))) (fun t k => st3 _ k) ?_
  refine Goes.via (S' := (T3.setTop (mkF m 19 #[.val (.ref xa), .val (.ref xb), .val (.ref xb)] [(.ref xb), (.long w0)]))) (fun t k => XS.aloadN X3.here hx rfl (hb hby d3_18) rfl rfl k) ?_
  obtain ⟨T4, X4, e4, st4⟩ := getF X3 hx hZ hown (host := "") (Or.inl (hw _ (List.mem_of_getElem? (i := 9) rfl))) Via.refl e3 f3_xb_offset (g := (mkF m 19 #[.val (.ref xa), .val (.ref xb), .val (.ref xb)] [(.ref xb), (.long w0)])) rfl rfl (hb hby d3_19)
  refine Goes.via (S' := (T4.setTop (mkF m 22 #[.val (.ref xa), .val (.ref xb), .val (.ref xb)] [(.long w2), (.long w0)]))) (fun t k => st4 _ k) ?_
  refine Goes.via (S' := (T4.setTop (mkF m 23 #[.val (.ref xa), .val (.ref xb), .val (.ref xb)] [(.int (lcmpW w0 w2))]))) (fun t k => XS.lcmp X4.here hx rfl (hb hby d3_22) rfl k) ?_
  by_cases hc6 : (w0 = w2)
  · refine Goes.via (S' := (T4.setTop (mkF m 26 #[.val (.ref xa), .val (.ref xb), .val (.ref xb)] []))) (fun t k => XS.ifNo X4.here hx rfl (hb hby d3_23) rfl ((if0 _ _).trans (teq (own_eq hc6)).2) k) ?_
    refine Goes.via (S' := (T4.setTop (mkF m 27 #[.val (.ref xa), .val (.ref xb), .val (.ref xb)] [(.ref xa)]))) (fun t k => XS.aloadN X4.here hx rfl (hb hby d3_26) rfl rfl k) ?_
    obtain ⟨T7, X7, e7, st7⟩ := getF X4 hx hZ hown (host := "") (Or.inl (hw _ (List.mem_of_getElem? (i := 11) rfl))) Via.refl e4 f2_xa_timestamp (g := (mkF m 27 #[.val (.ref xa), .val (.ref xb), .val (.ref xb)] [(.ref xa)])) rfl rfl (hb hby d3_27)
    refine Goes.via (S' := (T7.setTop (mkF m 30 #[.val (.ref xa), .val (.ref xb), .val (.ref xb)] [(.long w1)]))) (fun t k => st7 _ k) ?_
    refine Goes.via (S' := (T7.setTop (mkF m 31 #[.val (.ref xa), .val (.ref xb), .val (.ref xb)] [(.ref xb), (.long w1)]))) (fun t k => XS.aloadN X7.here hx rfl (hb hby d3_30) rfl rfl k) ?_
    obtain ⟨T8, X8, e8, st8⟩ := getF X7 hx hZ hown (host := "") (Or.inl (hw _ (List.mem_of_getElem? (i := 11) rfl))) Via.refl e7 f4_xb_timestamp (g := (mkF m 31 #[.val (.ref xa), .val (.ref xb), .val (.ref xb)] [(.ref xb), (.long w1)])) rfl rfl (hb hby d3_31)
    refine Goes.via (S' := (T8.setTop (mkF m 34 #[.val (.ref xa), .val (.ref xb), .val (.ref xb)] [(.long w3), (.long w1)]))) (fun t k => st8 _ k) ?_
    refine Goes.via (S' := (T8.setTop (mkF m 35 #[.val (.ref xa), .val (.ref xb), .val (.ref xb)] [(.int (lcmpW w1 w3))]))) (fun t k => XS.lcmp X8.here hx rfl (hb hby d3_34) rfl k) ?_
    obtain ⟨v10, hv10⟩ : ∃ z : Int32, z = (if (w1 = w3) then (1 : Int32) else 0) := ⟨_, rfl⟩
    refine Goes.via (S' := (T8.setTop (mkF m 43 #[.val (.ref xa), .val (.ref xb), .val (.ref xb)] [(.int v10)]))) (fun t k => ?_) ?_
    · by_cases hc9 : (w1 = w3)
      · refine XS.ifNo X8.here hx rfl (hb hby d3_35) rfl ((if0 _ _).trans (teq (own_eq hc9)).2) ?_
        show Steps p.tables e below (T8.setTop (mkF m 38 #[.val (.ref xa), .val (.ref xb), .val (.ref xb)] [])) _
        refine XS.iconst X8.here hx rfl (hb hby d3_38) ?_
        show Steps p.tables e below (T8.setTop (mkF m 39 #[.val (.ref xa), .val (.ref xb), .val (.ref xb)] [(.int (1 : Int32))])) _
        refine XS.goto X8.here hx rfl (pc0 := 39) (pc' := 43) rfl (hb hby d3_39) (by decide) (by decide) ?_
        show Steps p.tables e below (T8.setTop (mkF m 43 #[.val (.ref xa), .val (.ref xb), .val (.ref xb)] [(.int (1 : Int32))])) _
        have q_v10 : v10 = (1 : Int32) := hv10.trans (if_pos hc9)
        rw [q_v10] at k
        exact k
      · refine XS.ifYes X8.here hx rfl (pc0 := 35) (pc' := 42) rfl (hb hby d3_35) rfl ((if0 _ _).trans (feq (own_neq hc9)).2) (by decide) (by decide) ?_
        show Steps p.tables e below (T8.setTop (mkF m 42 #[.val (.ref xa), .val (.ref xb), .val (.ref xb)] [])) _
        refine XS.iconst X8.here hx rfl (hb hby d3_42) ?_
        show Steps p.tables e below (T8.setTop (mkF m 43 #[.val (.ref xa), .val (.ref xb), .val (.ref xb)] [(.int (0 : Int32))])) _
        have q_v10 : v10 = (0 : Int32) := hv10.trans (if_neg hc9)
        rw [q_v10] at k
        exact k
    exact own_ret X8 hx Bd.notSynchronized Bd.returns (own_nb hv10) (Or.inl ⟨rfl, by simp, _, rfl⟩) (hb hby d3_43) e8 ⟨v10, rfl, (by simp [hc6, hv10]), N0, rfl⟩ (by decide) (by decide)
  · refine Goes.via (S' := (T4.setTop (mkF m 42 #[.val (.ref xa), .val (.ref xb), .val (.ref xb)] []))) (fun t k => XS.ifYes X4.here hx rfl (pc0 := 23) (pc' := 42) rfl (hb hby d3_23) rfl ((if0 _ _).trans (feq (own_neq hc6)).2) (by decide) (by decide) k) ?_
    refine Goes.via (S' := (T4.setTop (mkF m 43 #[.val (.ref xa), .val (.ref xb), .val (.ref xb)] [(.int (0 : Int32))]))) (fun t k => XS.iconst X4.here hx rfl (hb hby d3_42) k) ?_
    exact own_ret X4 hx Bd.notSynchronized Bd.returns rfl (Or.inl ⟨rfl, by simp, _, rfl⟩) (hb hby d3_43) e4 ⟨(0 : Int32), rfl, (if_neg (fun q => hc6 q.1)).symm, N0, rfl⟩ (by decide) (by decide)
theorem d3_7 : decode prog_92_method_4_code 7 = .ok (.iconst 0, 1) := by decide +kernel
theorem d3_8 : decode prog_92_method_4_code 8 = .ok (.ireturn, 1) := by decide +kernel
theorem ef_3n (m : MethodId) (xa : Addr) : entryFrame m #[(.ref xa), .null] 3 = mkF m 0 #[.val (.ref xa), .val .null, .unset] [] := by first | (simp [entryFrame, mkF, argsToLocals, Value.category]; done) | rfl
def Q3n (Z : State) (xa : Addr) (h0 : Heap) (n0 : Nat) (v : Option Value) (h : Heap) (L : List Loc) : Prop := v = some (.int (0 : Int32)) ∧ Fr n0 L ∧ h = h0
set_option maxRecDepth 65536 in
set_option maxHeartbeats 40000000 in
theorem rm3n (l : Launch) (Z : State) (a0 : Array Value) (hw : ∀ d ∈ tables_1, d.before a0 Z = true) (ws : List Jvm.Cond) (xa : Addr) (h0 : Heap) (n0 : Nat) (Z0 : n0 ≤ h0.size) :
    MetFree l (⟨"com/example/eolog/eolog/record/OffsetAndTimestamp", "equals", "(Ljava/lang/Object;)Z"⟩ : MethodName) (head1 (Jvm.Cond.code (⟨"com/example/eolog/eolog/record/OffsetAndTimestamp", "equals", "(Ljava/lang/Object;)Z"⟩ : MethodName) prog_92_method_4_code 3 (some .boolean) :: ws) ({ frames := 0, cells := 0, slots := 0, locals := 0 } : Room)) (fun a U => a = #[(.ref xa), .null] ∧ Z.Warmed39 U.vm ∧ U.heap = h0) (fun _ _ _ _ _ => True) (fun _ U o U' => ∃ v L, o = .returned v ∧ Q3n Z xa h0 n0 v U'.heap L ∧ FrameEnd U o U' L 0 0) := by
  refine MetFree.of_bodySF (plainFor_of_name pn_42) hisR ?_
  intro p e s m args below meth c s₁ Bd hml0 hP hK
  obtain ⟨rfl, hZ, hh⟩ := hP
  have hx := Bd.exec
  have hby := Bd.bytes
  have hml : c.maxLocals = 3 := hml0
  have hown : s.vm.findClass "com/example/eolog/eolog/record/OffsetAndTimestamp" = some m.cls := findClass_of_methodNamed Bd.named
  have hnm := (name_of_methodNamed Bd.named Bd.method).1
  have X0 : Stand p l e ({ frames := 0, cells := 0, slots := 0, locals := 0 } : Room) s m #[(.ref xa), .null] below meth c s₁ [] 0 0 := Stand.of_body Bd
  have e0 : s₁.heap = h0 := by rw [← hh, Bd.state]; rfl
  have N0 := Fr.nil n0
  refine own_start (Q := fun v h L => Q3n Z xa h0 n0 v h L) ?_
  refine Goes.via (S' := (s₁.setTop (mkF m 0 #[.val (.ref xa), .val .null, .unset] []))) (fun t k => castTop (ef_3n m xa) k) ?_
  refine Goes.via (S' := (s₁.setTop (mkF m 1 #[.val (.ref xa), .val .null, .unset] [.null]))) (fun t k => XS.aloadN X0.here hx rfl (hb hby d3_0) rfl rfl k) ?_
  refine Goes.via (S' := (s₁.setTop (mkF m 4 #[.val (.ref xa), .val .null, .unset] [(.int (0 : Int32))]))) (fun t k => X0.instanceofNull hx (g := (mkF m 1 #[.val (.ref xa), .val .null, .unset] [.null])) rfl rfl (hb hby d3_1) _ k) ?_
  refine Goes.via (S' := (s₁.setTop (mkF m 7 #[.val (.ref xa), .val .null, .unset] []))) (fun t k => XS.ifNo X0.here hx rfl (hb hby d3_4) rfl ((if0 _ _).trans (teq rfl).2) k) ?_
  refine Goes.via (S' := (s₁.setTop (mkF m 8 #[.val (.ref xa), .val .null, .unset] [(.int (0 : Int32))]))) (fun t k => XS.iconst X0.here hx rfl (hb hby d3_7) k) ?_
  exact own_ret X0 hx Bd.notSynchronized Bd.returns rfl (Or.inl ⟨rfl, by simp, _, rfl⟩) (hb hby d3_8) e0 ⟨rfl, N0, rfl⟩ (by decide) (by decide)
theorem ef_3l (m : MethodId) (xa : Addr) (xb : Addr) : entryFrame m #[(.ref xa), (.ref xb)] 3 = mkF m 0 #[.val (.ref xa), .val (.ref xb), .unset] [] := by first | (simp [entryFrame, mkF, argsToLocals, Value.category]; done) | rfl
def Q3l (Z : State) (xa : Addr) (xb : Addr) (h0 : Heap) (n0 : Nat) (v : Option Value) (h : Heap) (L : List Loc) : Prop := v = some (.int (0 : Int32)) ∧ Fr n0 L ∧ h = h0
set_option maxRecDepth 65536 in
set_option maxHeartbeats 40000000 in
theorem rm3l (l : Launch) (Z : State) (a0 : Array Value) (hw : ∀ d ∈ tables_1, d.before a0 Z = true) (ws : List Jvm.Cond) (xa : Addr) (xb : Addr) (h0 : Heap) (n0 : Nat) (Z0 : n0 ≤ h0.size) (f0_xb : Exa Z h0 xb "java/lang/Long") :
    MetFree l (⟨"com/example/eolog/eolog/record/OffsetAndTimestamp", "equals", "(Ljava/lang/Object;)Z"⟩ : MethodName) (head1 (Jvm.Cond.code (⟨"com/example/eolog/eolog/record/OffsetAndTimestamp", "equals", "(Ljava/lang/Object;)Z"⟩ : MethodName) prog_92_method_4_code 3 (some .boolean) :: ws) ({ frames := 0, cells := 0, slots := 0, locals := 0 } : Room)) (fun a U => a = #[(.ref xa), (.ref xb)] ∧ Z.Warmed39 U.vm ∧ U.heap = h0) (fun _ _ _ _ _ => True) (fun _ U o U' => ∃ v L, o = .returned v ∧ Q3l Z xa xb h0 n0 v U'.heap L ∧ FrameEnd U o U' L 0 0) := by
  refine MetFree.of_bodySF (plainFor_of_name pn_42) hisR ?_
  intro p e s m args below meth c s₁ Bd hml0 hP hK
  obtain ⟨rfl, hZ, hh⟩ := hP
  have hx := Bd.exec
  have hby := Bd.bytes
  have hml : c.maxLocals = 3 := hml0
  have hown : s.vm.findClass "com/example/eolog/eolog/record/OffsetAndTimestamp" = some m.cls := findClass_of_methodNamed Bd.named
  have hnm := (name_of_methodNamed Bd.named Bd.method).1
  have X0 : Stand p l e ({ frames := 0, cells := 0, slots := 0, locals := 0 } : Room) s m #[(.ref xa), (.ref xb)] below meth c s₁ [] 0 0 := Stand.of_body Bd
  have e0 : s₁.heap = h0 := by rw [← hh, Bd.state]; rfl
  have N0 := Fr.nil n0
  refine own_start (Q := fun v h L => Q3l Z xa xb h0 n0 v h L) ?_
  refine Goes.via (S' := (s₁.setTop (mkF m 0 #[.val (.ref xa), .val (.ref xb), .unset] []))) (fun t k => castTop (ef_3l m xa xb) k) ?_
  refine Goes.via (S' := (s₁.setTop (mkF m 1 #[.val (.ref xa), .val (.ref xb), .unset] [(.ref xb)]))) (fun t k => XS.aloadN X0.here hx rfl (hb hby d3_0) rfl rfl k) ?_
  obtain ⟨T1, X1, e1, st1⟩ := instNo X0 hx hZ hown (hw _ (List.mem_of_getElem? (i := 18) rfl)) e0 f0_xb (own_notL (hw _ (List.mem_of_getElem? (i := 40) rfl)) (hw _ (List.mem_of_getElem? (i := 41) rfl)) (hw _ (List.mem_of_getElem? (i := 42) rfl)) (hw _ (List.mem_of_getElem? (i := 1) rfl)) (by decide) (by decide) (by decide)) (g := (mkF m 1 #[.val (.ref xa), .val (.ref xb), .unset] [(.ref xb)])) rfl rfl (hb hby d3_1)
  refine Goes.via (S' := (T1.setTop (mkF m 4 #[.val (.ref xa), .val (.ref xb), .unset] [(.int (0 : Int32))]))) (fun t k => st1 _ k) ?_
  refine Goes.via (S' := (T1.setTop (mkF m 7 #[.val (.ref xa), .val (.ref xb), .unset] []))) (fun t k => XS.ifNo X1.here hx rfl (hb hby d3_4) rfl ((if0 _ _).trans (teq rfl).2) k) ?_
  refine Goes.via (S' := (T1.setTop (mkF m 8 #[.val (.ref xa), .val (.ref xb), .unset] [(.int (0 : Int32))]))) (fun t k => XS.iconst X1.here hx rfl (hb hby d3_7) k) ?_
  exact own_ret X1 hx Bd.notSynchronized Bd.returns rfl (Or.inl ⟨rfl, by simp, _, rfl⟩) (hb hby d3_8) e1 ⟨rfl, N0, rfl⟩ (by decide) (by decide)
theorem ef_0 (m : MethodId) (q0 : Int64) (q1 : Int64) (q2 : Int64) (q3 : Int64) (p4 : Int32) : entryFrame m #[(.long q0), (.long q1), (.long q2), (.long q3), (.int p4)] maxLocals = mkF m 0 #[.val (.long q0), .second, .val (.long q1), .second, .val (.long q2), .second, .val (.long q3), .second, .val (.int p4), .unset, .unset, .unset, .unset, .unset, .unset, .unset, .unset, .unset, .unset, .unset] [] := by first | (simp [entryFrame, mkF, argsToLocals, Value.category, maxLocals]; done) | rfl
def Q0 (Z : State) (q0 : Int64) (q1 : Int64) (q2 : Int64) (q3 : Int64) (p4 : Int32) (yc : Addr) (h0 : Heap) (n0 : Nat) (v : Option Value) (h : Heap) (L : List Loc) : Prop := v = some (.int 1) ∧ Fr n0 L
set_option maxRecDepth 65536 in
set_option maxHeartbeats 40000000 in
theorem rm0 (l : Launch) (Z : State) (a0 : Array Value) (hw : ∀ d ∈ tables_1, d.before a0 Z = true) (ws : List Jvm.Cond) (q0 : Int64) (q1 : Int64) (q2 : Int64) (q3 : Int64) (p4 : Int32) (yc : Addr) (h0 : Heap) (n0 : Nat) (Z0 : n0 ≤ h0.size) (f0_cache : Sta Z h0 "java/lang/Long$LongCache" "cache" "[Ljava/lang/Long;" (.ref yc)) (hcache : own_Cache Z h0 yc) :
    MetFree l x (head1 (Jvm.Cond.code x code maxLocals ret :: ws) room_1) (fun a U => a = #[(.long q0), (.long q1), (.long q2), (.long q3), (.int p4)] ∧ Z.Warmed39 U.vm ∧ U.heap = h0) (fun _ _ _ _ _ => True) (fun _ U o U' => ∃ v L, o = .returned v ∧ Q0 Z q0 q1 q2 q3 p4 yc h0 n0 v U'.heap L ∧ FrameEnd U o U' L 16 128) := by
  refine MetFree.of_bodySF (plainFor_of_name pn_67) hisR ?_
  intro p e s m args below meth c s₁ Bd hml0 hP hK
  obtain ⟨rfl, hZ, hh⟩ := hP
  have hx := Bd.exec
  have hby := Bd.bytes
  have hml : c.maxLocals = 20 := hml0
  have hown : s.vm.findClass "com/example/eolog/eolog/record/OffsetAndTimestampEqualsPinLaw" = some m.cls := findClass_of_methodNamed Bd.named
  have hnm := (name_of_methodNamed Bd.named Bd.method).1
  have X0 : Stand p l e room_1 s m #[(.long q0), (.long q1), (.long q2), (.long q3), (.int p4)] below meth c s₁ [] 0 0 := Stand.of_body Bd
  have e0 : s₁.heap = h0 := by rw [← hh, Bd.state]; rfl
  have N0 := Fr.nil n0
  refine own_start (Q := fun v h L => Q0 Z q0 q1 q2 q3 p4 yc h0 n0 v h L) ?_
  refine Goes.via (S' := (s₁.setTop (mkF m 0 #[.val (.long q0), .second, .val (.long q1), .second, .val (.long q2), .second, .val (.long q3), .second, .val (.int p4), .unset, .unset, .unset, .unset, .unset, .unset, .unset, .unset, .unset, .unset, .unset] []))) (fun t k => castTop (ef_0 m q0 q1 q2 q3 p4) k) ?_
  refine Goes.via (S' := (s₁.setTop (mkF m 2 #[.val (.long q0), .second, .val (.long q1), .second, .val (.long q2), .second, .val (.long q3), .second, .val (.int p4), .unset, .unset, .unset, .unset, .unset, .unset, .unset, .unset, .unset, .unset, .unset] [(.int p4)]))) (fun t k => XS.iload X0.here hx rfl (hb hby at_0) rfl k) ?_
  refine Goes.via (S' := (s₁.setTop (mkF m 3 #[.val (.long q0), .second, .val (.long q1), .second, .val (.long q2), .second, .val (.long q3), .second, .val (.int p4), .unset, .unset, .unset, .unset, .unset, .unset, .unset, .unset, .unset, .unset, .unset] [(.int (1 : Int32)), (.int p4)]))) (fun t k => XS.iconst X0.here hx rfl (hb hby at_2) k) ?_
  refine Goes.via (S' := (s₁.setTop (mkF m 4 #[.val (.long q0), .second, .val (.long q1), .second, .val (.long q2), .second, .val (.long q3), .second, .val (.int p4), .unset, .unset, .unset, .unset, .unset, .unset, .unset, .unset, .unset, .unset, .unset] [(.int (p4 &&& (1 : Int32)))]))) (fun t k => XS.iand X0.here hx rfl (hb hby at_3) rfl k) ?_
  obtain ⟨v2, hv2⟩ : ∃ z : Int64, z = ((if ((p4 &&& (1 : Int32)) = (0 : Int32)) then q2 else q0)) := ⟨_, rfl⟩
  refine Goes.via (S' := (s₁.setTop (mkF m 13 #[.val (.long q0), .second, .val (.long q1), .second, .val (.long q2), .second, .val (.long q3), .second, .val (.int p4), .unset, .unset, .unset, .unset, .unset, .unset, .unset, .unset, .unset, .unset, .unset] [(.long v2)]))) (fun t k => ?_) ?_
  · by_cases hc1 : ((p4 &&& (1 : Int32)) = (0 : Int32))
    · refine XS.ifYes X0.here hx rfl (pc0 := 4) (pc' := 11) rfl (hb hby at_4) rfl ((if0 _ _).trans (teq hc1).1) (by decide) (by decide) ?_
      show Steps p.tables e below (s₁.setTop (mkF m 11 #[.val (.long q0), .second, .val (.long q1), .second, .val (.long q2), .second, .val (.long q3), .second, .val (.int p4), .unset, .unset, .unset, .unset, .unset, .unset, .unset, .unset, .unset, .unset, .unset] [])) _
      refine XS.lload X0.here hx rfl (hb hby at_11) rfl ?_
      show Steps p.tables e below (s₁.setTop (mkF m 13 #[.val (.long q0), .second, .val (.long q1), .second, .val (.long q2), .second, .val (.long q3), .second, .val (.int p4), .unset, .unset, .unset, .unset, .unset, .unset, .unset, .unset, .unset, .unset, .unset] [(.long q2)])) _
      have q_v2 : v2 = q2 := by rw [hv2, if_pos hc1]
      rw [q_v2] at k
      exact k
    · refine XS.ifNo X0.here hx rfl (hb hby at_4) rfl ((if0 _ _).trans (feq hc1).1) ?_
      show Steps p.tables e below (s₁.setTop (mkF m 7 #[.val (.long q0), .second, .val (.long q1), .second, .val (.long q2), .second, .val (.long q3), .second, .val (.int p4), .unset, .unset, .unset, .unset, .unset, .unset, .unset, .unset, .unset, .unset, .unset] [])) _
      refine XS.lloadN X0.here hx rfl (hb hby at_7) rfl ?_
      show Steps p.tables e below (s₁.setTop (mkF m 8 #[.val (.long q0), .second, .val (.long q1), .second, .val (.long q2), .second, .val (.long q3), .second, .val (.int p4), .unset, .unset, .unset, .unset, .unset, .unset, .unset, .unset, .unset, .unset, .unset] [(.long q0)])) _
      refine XS.goto X0.here hx rfl (pc0 := 8) (pc' := 13) rfl (hb hby at_8) (by decide) (by decide) ?_
      show Steps p.tables e below (s₁.setTop (mkF m 13 #[.val (.long q0), .second, .val (.long q1), .second, .val (.long q2), .second, .val (.long q3), .second, .val (.int p4), .unset, .unset, .unset, .unset, .unset, .unset, .unset, .unset, .unset, .unset, .unset] [(.long q0)])) _
      have q_v2 : v2 = q0 := by rw [hv2, if_neg hc1]
      rw [q_v2] at k
      exact k
  refine Goes.via (S' := (s₁.setTop (mkF m 15 #[.val (.long q0), .second, .val (.long q1), .second, .val (.long q2), .second, .val (.long q3), .second, .val (.int p4), .val (.long v2), .second, .unset, .unset, .unset, .unset, .unset, .unset, .unset, .unset, .unset] []))) (fun t k => XS.lstore X0.here hx rfl (hb hby at_13) rfl (l' := #[.val (.long q0), .second, .val (.long q1), .second, .val (.long q2), .second, .val (.long q3), .second, .val (.int p4), .val (.long v2), .second, .unset, .unset, .unset, .unset, .unset, .unset, .unset, .unset, .unset]) rfl k) ?_
  refine Goes.via (S' := (s₁.setTop (mkF m 17 #[.val (.long q0), .second, .val (.long q1), .second, .val (.long q2), .second, .val (.long q3), .second, .val (.int p4), .val (.long v2), .second, .unset, .unset, .unset, .unset, .unset, .unset, .unset, .unset, .unset] [(.int p4)]))) (fun t k => XS.iload X0.here hx rfl (hb hby at_15) rfl k) ?_
  refine Goes.via (S' := (s₁.setTop (mkF m 18 #[.val (.long q0), .second, .val (.long q1), .second, .val (.long q2), .second, .val (.long q3), .second, .val (.int p4), .val (.long v2), .second, .unset, .unset, .unset, .unset, .unset, .unset, .unset, .unset, .unset] [(.int (2 : Int32)), (.int p4)]))) (fun t k => XS.iconst X0.here hx rfl (hb hby at_17) k) ?_
  refine Goes.via (S' := (s₁.setTop (mkF m 19 #[.val (.long q0), .second, .val (.long q1), .second, .val (.long q2), .second, .val (.long q3), .second, .val (.int p4), .val (.long v2), .second, .unset, .unset, .unset, .unset, .unset, .unset, .unset, .unset, .unset] [(.int (p4 &&& (2 : Int32)))]))) (fun t k => XS.iand X0.here hx rfl (hb hby at_18) rfl k) ?_
  obtain ⟨v4, hv4⟩ : ∃ z : Int64, z = ((if ((p4 &&& (2 : Int32)) = (0 : Int32)) then q3 else q1)) := ⟨_, rfl⟩
  refine Goes.via (S' := (s₁.setTop (mkF m 28 #[.val (.long q0), .second, .val (.long q1), .second, .val (.long q2), .second, .val (.long q3), .second, .val (.int p4), .val (.long v2), .second, .unset, .unset, .unset, .unset, .unset, .unset, .unset, .unset, .unset] [(.long v4)]))) (fun t k => ?_) ?_
  · by_cases hc3 : ((p4 &&& (2 : Int32)) = (0 : Int32))
    · refine XS.ifYes X0.here hx rfl (pc0 := 19) (pc' := 26) rfl (hb hby at_19) rfl ((if0 _ _).trans (teq hc3).1) (by decide) (by decide) ?_
      show Steps p.tables e below (s₁.setTop (mkF m 26 #[.val (.long q0), .second, .val (.long q1), .second, .val (.long q2), .second, .val (.long q3), .second, .val (.int p4), .val (.long v2), .second, .unset, .unset, .unset, .unset, .unset, .unset, .unset, .unset, .unset] [])) _
      refine XS.lload X0.here hx rfl (hb hby at_26) rfl ?_
      show Steps p.tables e below (s₁.setTop (mkF m 28 #[.val (.long q0), .second, .val (.long q1), .second, .val (.long q2), .second, .val (.long q3), .second, .val (.int p4), .val (.long v2), .second, .unset, .unset, .unset, .unset, .unset, .unset, .unset, .unset, .unset] [(.long q3)])) _
      have q_v4 : v4 = q3 := by rw [hv4, if_pos hc3]
      rw [q_v4] at k
      exact k
    · refine XS.ifNo X0.here hx rfl (hb hby at_19) rfl ((if0 _ _).trans (feq hc3).1) ?_
      show Steps p.tables e below (s₁.setTop (mkF m 22 #[.val (.long q0), .second, .val (.long q1), .second, .val (.long q2), .second, .val (.long q3), .second, .val (.int p4), .val (.long v2), .second, .unset, .unset, .unset, .unset, .unset, .unset, .unset, .unset, .unset] [])) _
      refine XS.lloadN X0.here hx rfl (hb hby at_22) rfl ?_
      show Steps p.tables e below (s₁.setTop (mkF m 23 #[.val (.long q0), .second, .val (.long q1), .second, .val (.long q2), .second, .val (.long q3), .second, .val (.int p4), .val (.long v2), .second, .unset, .unset, .unset, .unset, .unset, .unset, .unset, .unset, .unset] [(.long q1)])) _
      refine XS.goto X0.here hx rfl (pc0 := 23) (pc' := 28) rfl (hb hby at_23) (by decide) (by decide) ?_
      show Steps p.tables e below (s₁.setTop (mkF m 28 #[.val (.long q0), .second, .val (.long q1), .second, .val (.long q2), .second, .val (.long q3), .second, .val (.int p4), .val (.long v2), .second, .unset, .unset, .unset, .unset, .unset, .unset, .unset, .unset, .unset] [(.long q1)])) _
      have q_v4 : v4 = q1 := by rw [hv4, if_neg hc3]
      rw [q_v4] at k
      exact k
  refine Goes.via (S' := (s₁.setTop (mkF m 30 #[.val (.long q0), .second, .val (.long q1), .second, .val (.long q2), .second, .val (.long q3), .second, .val (.int p4), .val (.long v2), .second, .val (.long v4), .second, .unset, .unset, .unset, .unset, .unset, .unset, .unset] []))) (fun t k => XS.lstore X0.here hx rfl (hb hby at_28) rfl (l' := #[.val (.long q0), .second, .val (.long q1), .second, .val (.long q2), .second, .val (.long q3), .second, .val (.int p4), .val (.long v2), .second, .val (.long v4), .second, .unset, .unset, .unset, .unset, .unset, .unset, .unset]) rfl k) ?_
  refine Goes.via (S' := (s₁.setTop (mkF m 32 #[.val (.long q0), .second, .val (.long q1), .second, .val (.long q2), .second, .val (.long q3), .second, .val (.int p4), .val (.long v2), .second, .val (.long v4), .second, .unset, .unset, .unset, .unset, .unset, .unset, .unset] [(.int p4)]))) (fun t k => XS.iload X0.here hx rfl (hb hby at_30) rfl k) ?_
  refine Goes.via (S' := (s₁.setTop (mkF m 33 #[.val (.long q0), .second, .val (.long q1), .second, .val (.long q2), .second, .val (.long q3), .second, .val (.int p4), .val (.long v2), .second, .val (.long v4), .second, .unset, .unset, .unset, .unset, .unset, .unset, .unset] [(.int (2 : Int32)), (.int p4)]))) (fun t k => XS.iconst X0.here hx rfl (hb hby at_32) k) ?_
  refine Goes.via (S' := (s₁.setTop (mkF m 34 #[.val (.long q0), .second, .val (.long q1), .second, .val (.long q2), .second, .val (.long q3), .second, .val (.int p4), .val (.long v2), .second, .val (.long v4), .second, .unset, .unset, .unset, .unset, .unset, .unset, .unset] [(.int ((p4.toUInt32 >>> ((2 : Int32) &&& 31).toUInt32).toInt32))]))) (fun t k => XS.iushr X0.here hx rfl (hb hby at_33) rfl k) ?_
  refine Goes.via (S' := (s₁.setTop (mkF m 35 #[.val (.long q0), .second, .val (.long q1), .second, .val (.long q2), .second, .val (.long q3), .second, .val (.int p4), .val (.long v2), .second, .val (.long v4), .second, .unset, .unset, .unset, .unset, .unset, .unset, .unset] [(.int (3 : Int32)), (.int ((p4.toUInt32 >>> ((2 : Int32) &&& 31).toUInt32).toInt32))]))) (fun t k => XS.iconst X0.here hx rfl (hb hby at_34) k) ?_
  refine Goes.via (S' := (s₁.setTop (mkF m 36 #[.val (.long q0), .second, .val (.long q1), .second, .val (.long q2), .second, .val (.long q3), .second, .val (.int p4), .val (.long v2), .second, .val (.long v4), .second, .unset, .unset, .unset, .unset, .unset, .unset, .unset] [(.int (((p4.toUInt32 >>> ((2 : Int32) &&& 31).toUInt32).toInt32) &&& (3 : Int32)))]))) (fun t k => XS.iand X0.here hx rfl (hb hby at_35) rfl k) ?_
  refine Goes.via (S' := (s₁.setTop (mkF m 38 #[.val (.long q0), .second, .val (.long q1), .second, .val (.long q2), .second, .val (.long q3), .second, .val (.int p4), .val (.long v2), .second, .val (.long v4), .second, .val (.int (((p4.toUInt32 >>> ((2 : Int32) &&& 31).toUInt32).toInt32) &&& (3 : Int32))), .unset, .unset, .unset, .unset, .unset, .unset] []))) (fun t k => XS.istore X0.here hx rfl (hb hby at_36) rfl (l' := #[.val (.long q0), .second, .val (.long q1), .second, .val (.long q2), .second, .val (.long q3), .second, .val (.int p4), .val (.long v2), .second, .val (.long v4), .second, .val (.int (((p4.toUInt32 >>> ((2 : Int32) &&& 31).toUInt32).toInt32) &&& (3 : Int32))), .unset, .unset, .unset, .unset, .unset, .unset]) rfl k) ?_
  obtain ⟨kk, h_kk⟩ : ∃ z : Int32, z = (((p4.toUInt32 >>> ((2 : Int32) &&& 31).toUInt32).toInt32) &&& (3 : Int32)) := ⟨_, rfl⟩
  rw [← h_kk]
  obtain ⟨T5, h5, X5, e5, E5, A5, D5, -, st5⟩ := newO X0 hx hZ hown (hw _ (List.mem_of_getElem? (i := 0) rfl)) (hw _ (List.mem_of_getElem? (i := 1) rfl)) (hw _ (List.mem_of_getElem? (i := 2) rfl)) e0 (g := (mkF m 38 #[.val (.long q0), .second, .val (.long q1), .second, .val (.long q2), .second, .val (.long q3), .second, .val (.int p4), .val (.long v2), .second, .val (.long v4), .second, .val (.int kk), .unset, .unset, .unset, .unset, .unset, .unset] [])) rfl (hb hby at_38) (by decide) (by decide)
  obtain ⟨b5, g5⟩ : ∃ z, z = h0.size := ⟨_, rfl⟩
  rw [← g5] at A5 D5 st5
  have f6 : Sta Z h5 "java/lang/Long$LongCache" "cache" "[Ljava/lang/Long;" (.ref yc) := f0_cache.ext E5
  have K5 : Keep h0 h5 [] := Keep.ext (Keep.refl h0 []) E5
  have Z5 : n0 ≤ h5.size := Nat.le_trans Z0 K5.1
  have g_b5 : n0 ≤ b5 := Nat.le_trans Z0 (Nat.le_of_eq g5.symm)
  have sz_b5 : h0.size ≤ b5 := Nat.le_trans ((Keep.refl h0 [])).1 (Nat.le_of_eq g5.symm)
  have f7 : Exa Z h5 b5 "com/example/eolog/eolog/record/OffsetAndTimestamp" := A5
  have f8 : Fld Z h5 b5 "com/example/eolog/eolog/record/OffsetAndTimestamp" "offset" "J" (.long (0 : Int64)) := D5 (Or.inr (hw _ (List.mem_of_getElem? (i := 10) rfl))) (ty := .long) (by decide)
  have f9 : Fld Z h5 b5 "com/example/eolog/eolog/record/OffsetAndTimestamp" "timestamp" "J" (.long (0 : Int64)) := D5 (Or.inr (hw _ (List.mem_of_getElem? (i := 12) rfl))) (ty := .long) (by decide)
  refine Goes.via (S' := (T5.setTop (mkF m 41 #[.val (.long q0), .second, .val (.long q1), .second, .val (.long q2), .second, .val (.long q3), .second, .val (.int p4), .val (.long v2), .second, .val (.long v4), .second, .val (.int kk), .unset, .unset, .unset, .unset, .unset, .unset] [(.ref b5)]))) (fun t k => st5 _ k) ?_
  refine Goes.via (S' := (T5.setTop (mkF m 42 #[.val (.long q0), .second, .val (.long q1), .second, .val (.long q2), .second, .val (.long q3), .second, .val (.int p4), .val (.long v2), .second, .val (.long v4), .second, .val (.int kk), .unset, .unset, .unset, .unset, .unset, .unset] [(.ref b5), (.ref b5)]))) (fun t k => XS.dup X5.here hx rfl (hb hby at_41) rfl rfl k) ?_
  refine Goes.via (S' := (T5.setTop (mkF m 43 #[.val (.long q0), .second, .val (.long q1), .second, .val (.long q2), .second, .val (.long q3), .second, .val (.int p4), .val (.long v2), .second, .val (.long v4), .second, .val (.int kk), .unset, .unset, .unset, .unset, .unset, .unset] [(.long q0), (.ref b5), (.ref b5)]))) (fun t k => XS.lloadN X5.here hx rfl (hb hby at_42) rfl k) ?_
  refine Goes.via (S' := (T5.setTop (mkF m 44 #[.val (.long q0), .second, .val (.long q1), .second, .val (.long q2), .second, .val (.long q3), .second, .val (.int p4), .val (.long v2), .second, .val (.long v4), .second, .val (.int kk), .unset, .unset, .unset, .unset, .unset, .unset] [(.long q1), (.long q0), (.ref b5), (.ref b5)]))) (fun t k => XS.lloadN X5.here hx rfl (hb hby at_43) rfl k) ?_
  obtain ⟨_, _, ⟨T10, L10, k10, n10⟩, -, X10, ⟨Lc10, hQ10, l10, y10, z10⟩, st10⟩ := X5.specialBack hx (y := (⟨"com/example/eolog/eolog/record/OffsetAndTimestamp", "<init>", "(JJ)V"⟩ : MethodName)) rfl hown (mvT hZ (hw _ (List.mem_of_getElem? (i := 3) rfl))) (mvT hZ (hw _ (List.mem_of_getElem? (i := 4) rfl))) (mvT hZ (hw _ (List.mem_of_getElem? (i := 5) rfl))) (by decide) (backOf (W := 1) (rm1 l Z a0 hw [] b5 q0 q1 (.long (0 : Int64)) (.long (0 : Int64)) h5 n0 Z5 f7 f8 f9 g_b5) hZ (hw _ (List.mem_of_getElem? (i := 5) rfl)) (hw _ (List.mem_of_getElem? (i := 2) rfl)) (by decide) (by decide)) (g := (mkF m 44 #[.val (.long q0), .second, .val (.long q1), .second, .val (.long q2), .second, .val (.long q3), .second, .val (.int p4), .val (.long v2), .second, .val (.long v4), .second, .val (.int kk), .unset, .unset, .unset, .unset, .unset, .unset] [(.long q1), (.long q0), (.ref b5), (.ref b5)])) rfl (by rw [hml]; rfl) (Steps.refl _) (a := b5) (argsL := [(.long q0), (.long q1)]) (rest := [(.ref b5)]) (lenOf pd_2 rfl) rfl (by show 2 * 0 + _ ≤ _; exact Nat.le_of_eq rfl) (hb hby at_44) (fun _ _ => ⟨rfl, e5, (by decide : 1 + 0 ≤ _), (by decide : 2 + 0 ≤ _)⟩)
  dsimp only [Pt.U, Pt.locs, Pt.cells, Pt.slots] at X10 l10 y10 z10 st10 hQ10
  subst l10 y10 z10
  obtain ⟨rfl, N10q, K10q, po10_0, po10_1, po10_2⟩ := hQ10
  have N10 := Fr.app N0 N10q
  have f11 : Sta Z T10.heap "java/lang/Long$LongCache" "cache" "[Ljava/lang/Long;" (.ref yc) := own_staKeep f6 K10q (allS (own_nst f7) all0)
  have f12 : Exa Z T10.heap b5 "com/example/eolog/eolog/record/OffsetAndTimestamp" := f7.keep K10q
  have K10 : Keep h0 T10.heap [] := Keep.trans K5 K10q (allS (Or.inr sz_b5) all0)
  have Z10 : n0 ≤ T10.heap.size := Nat.le_trans Z0 K10.1
  refine Goes.via (S' := (T10.setTop (mkF m 47 #[.val (.long q0), .second, .val (.long q1), .second, .val (.long q2), .second, .val (.long q3), .second, .val (.int p4), .val (.long v2), .second, .val (.long v4), .second, .val (.int kk), .unset, .unset, .unset, .unset, .unset, .unset] [(.ref b5)]))) (fun t k => st10.trans k) ?_
  refine Goes.via (S' := (T10.setTop (mkF m 49 #[.val (.long q0), .second, .val (.long q1), .second, .val (.long q2), .second, .val (.long q3), .second, .val (.int p4), .val (.long v2), .second, .val (.long v4), .second, .val (.int kk), .val (.ref b5), .unset, .unset, .unset, .unset, .unset] []))) (fun t k => XS.astore X10.here hx rfl (hb hby at_47) rfl rfl (l' := #[.val (.long q0), .second, .val (.long q1), .second, .val (.long q2), .second, .val (.long q3), .second, .val (.int p4), .val (.long v2), .second, .val (.long v4), .second, .val (.int kk), .val (.ref b5), .unset, .unset, .unset, .unset, .unset]) rfl k) ?_
  obtain ⟨T13, h13, X13, e13, E13, A13, D13, -, st13⟩ := newO X10 hx hZ hown (hw _ (List.mem_of_getElem? (i := 0) rfl)) (hw _ (List.mem_of_getElem? (i := 1) rfl)) (hw _ (List.mem_of_getElem? (i := 2) rfl)) rfl (g := (mkF m 49 #[.val (.long q0), .second, .val (.long q1), .second, .val (.long q2), .second, .val (.long q3), .second, .val (.int p4), .val (.long v2), .second, .val (.long v4), .second, .val (.int kk), .val (.ref b5), .unset, .unset, .unset, .unset, .unset] [])) rfl (hb hby at_49) (by decide) (by decide)
  obtain ⟨b13, g13⟩ : ∃ z, z = T10.heap.size := ⟨_, rfl⟩
  rw [← g13] at A13 D13 st13
  have f14 : Sta Z h13 "java/lang/Long$LongCache" "cache" "[Ljava/lang/Long;" (.ref yc) := f11.ext E13
  have f15 : Exa Z h13 b5 "com/example/eolog/eolog/record/OffsetAndTimestamp" := po10_0.ext E13
  have f16 : Fld Z h13 b5 "com/example/eolog/eolog/record/OffsetAndTimestamp" "offset" "J" (.long q0) := po10_1.ext E13
  have f17 : Fld Z h13 b5 "com/example/eolog/eolog/record/OffsetAndTimestamp" "timestamp" "J" (.long q1) := po10_2.ext E13
  have K13 : Keep h0 h13 [] := Keep.ext K10 E13
  have Z13 : n0 ≤ h13.size := Nat.le_trans Z0 K13.1
  have g_b13 : n0 ≤ b13 := Nat.le_trans Z10 (Nat.le_of_eq g13.symm)
  have sz_b13 : h0.size ≤ b13 := Nat.le_trans (K10).1 (Nat.le_of_eq g13.symm)
  have ne_b5_b13 : b5 ≠ b13 := Nat.ne_of_lt (Nat.lt_of_lt_of_le po10_0.lt (Nat.le_of_eq g13.symm))
  have f18 : Exa Z h13 b13 "com/example/eolog/eolog/record/OffsetAndTimestamp" := A13
  have f19 : Fld Z h13 b13 "com/example/eolog/eolog/record/OffsetAndTimestamp" "offset" "J" (.long (0 : Int64)) := D13 (Or.inr (hw _ (List.mem_of_getElem? (i := 10) rfl))) (ty := .long) (by decide)
  have f20 : Fld Z h13 b13 "com/example/eolog/eolog/record/OffsetAndTimestamp" "timestamp" "J" (.long (0 : Int64)) := D13 (Or.inr (hw _ (List.mem_of_getElem? (i := 12) rfl))) (ty := .long) (by decide)
  refine Goes.via (S' := (T13.setTop (mkF m 52 #[.val (.long q0), .second, .val (.long q1), .second, .val (.long q2), .second, .val (.long q3), .second, .val (.int p4), .val (.long v2), .second, .val (.long v4), .second, .val (.int kk), .val (.ref b5), .unset, .unset, .unset, .unset, .unset] [(.ref b13)]))) (fun t k => st13 _ k) ?_
  refine Goes.via (S' := (T13.setTop (mkF m 53 #[.val (.long q0), .second, .val (.long q1), .second, .val (.long q2), .second, .val (.long q3), .second, .val (.int p4), .val (.long v2), .second, .val (.long v4), .second, .val (.int kk), .val (.ref b5), .unset, .unset, .unset, .unset, .unset] [(.ref b13), (.ref b13)]))) (fun t k => XS.dup X13.here hx rfl (hb hby at_52) rfl rfl k) ?_
  refine Goes.via (S' := (T13.setTop (mkF m 55 #[.val (.long q0), .second, .val (.long q1), .second, .val (.long q2), .second, .val (.long q3), .second, .val (.int p4), .val (.long v2), .second, .val (.long v4), .second, .val (.int kk), .val (.ref b5), .unset, .unset, .unset, .unset, .unset] [(.long v2), (.ref b13), (.ref b13)]))) (fun t k => XS.lload X13.here hx rfl (hb hby at_53) rfl k) ?_
  refine Goes.via (S' := (T13.setTop (mkF m 57 #[.val (.long q0), .second, .val (.long q1), .second, .val (.long q2), .second, .val (.long q3), .second, .val (.int p4), .val (.long v2), .second, .val (.long v4), .second, .val (.int kk), .val (.ref b5), .unset, .unset, .unset, .unset, .unset] [(.long v4), (.long v2), (.ref b13), (.ref b13)]))) (fun t k => XS.lload X13.here hx rfl (hb hby at_55) rfl k) ?_
  obtain ⟨_, _, ⟨T21, L21, k21, n21⟩, -, X21, ⟨Lc21, hQ21, l21, y21, z21⟩, st21⟩ := X13.specialBack hx (y := (⟨"com/example/eolog/eolog/record/OffsetAndTimestamp", "<init>", "(JJ)V"⟩ : MethodName)) rfl hown (mvT hZ (hw _ (List.mem_of_getElem? (i := 3) rfl))) (mvT hZ (hw _ (List.mem_of_getElem? (i := 4) rfl))) (mvT hZ (hw _ (List.mem_of_getElem? (i := 5) rfl))) (by decide) (backOf (W := 1) (rm1 l Z a0 hw [] b13 v2 v4 (.long (0 : Int64)) (.long (0 : Int64)) h13 n0 Z13 f18 f19 f20 g_b13) hZ (hw _ (List.mem_of_getElem? (i := 5) rfl)) (hw _ (List.mem_of_getElem? (i := 2) rfl)) (by decide) (by decide)) (g := (mkF m 57 #[.val (.long q0), .second, .val (.long q1), .second, .val (.long q2), .second, .val (.long q3), .second, .val (.int p4), .val (.long v2), .second, .val (.long v4), .second, .val (.int kk), .val (.ref b5), .unset, .unset, .unset, .unset, .unset] [(.long v4), (.long v2), (.ref b13), (.ref b13)])) rfl (by rw [hml]; rfl) (Steps.refl _) (a := b13) (argsL := [(.long v2), (.long v4)]) (rest := [(.ref b13)]) (lenOf pd_2 rfl) rfl (by show 2 * 0 + _ ≤ _; exact Nat.le_of_eq rfl) (hb hby at_57) (fun _ _ => ⟨rfl, e13, (by decide : 2 + 0 ≤ _), (by decide : 4 + 0 ≤ _)⟩)
  dsimp only [Pt.U, Pt.locs, Pt.cells, Pt.slots] at X21 l21 y21 z21 st21 hQ21
  subst l21 y21 z21
  obtain ⟨rfl, N21q, K21q, po21_0, po21_1, po21_2⟩ := hQ21
  have N21 := Fr.app N10 N21q
  have f22 : Sta Z T21.heap "java/lang/Long$LongCache" "cache" "[Ljava/lang/Long;" (.ref yc) := own_staKeep f14 K21q (allS (own_nst f18) all0)
  have f23 : Exa Z T21.heap b5 "com/example/eolog/eolog/record/OffsetAndTimestamp" := f15.keep K21q
  have f24 : Fld Z T21.heap b5 "com/example/eolog/eolog/record/OffsetAndTimestamp" "offset" "J" (.long q0) := f16.keep K21q (ninS ne_b5_b13 nin0)
  have f25 : Fld Z T21.heap b5 "com/example/eolog/eolog/record/OffsetAndTimestamp" "timestamp" "J" (.long q1) := f17.keep K21q (ninS ne_b5_b13 nin0)
  have f26 : Exa Z T21.heap b13 "com/example/eolog/eolog/record/OffsetAndTimestamp" := f18.keep K21q
  have K21 : Keep h0 T21.heap [] := Keep.trans K13 K21q (allS (Or.inr sz_b13) all0)
  have Z21 : n0 ≤ T21.heap.size := Nat.le_trans Z0 K21.1
  refine Goes.via (S' := (T21.setTop (mkF m 60 #[.val (.long q0), .second, .val (.long q1), .second, .val (.long q2), .second, .val (.long q3), .second, .val (.int p4), .val (.long v2), .second, .val (.long v4), .second, .val (.int kk), .val (.ref b5), .unset, .unset, .unset, .unset, .unset] [(.ref b13)]))) (fun t k => st21.trans k) ?_
  refine Goes.via (S' := (T21.setTop (mkF m 62 #[.val (.long q0), .second, .val (.long q1), .second, .val (.long q2), .second, .val (.long q3), .second, .val (.int p4), .val (.long v2), .second, .val (.long v4), .second, .val (.int kk), .val (.ref b5), .val (.ref b13), .unset, .unset, .unset, .unset] []))) (fun t k => XS.astore X21.here hx rfl (hb hby at_60) rfl rfl (l' := #[.val (.long q0), .second, .val (.long q1), .second, .val (.long q2), .second, .val (.long q3), .second, .val (.int p4), .val (.long v2), .second, .val (.long v4), .second, .val (.int kk), .val (.ref b5), .val (.ref b13), .unset, .unset, .unset, .unset]) rfl k) ?_
  refine Goes.via (S' := (T21.setTop (mkF m 64 #[.val (.long q0), .second, .val (.long q1), .second, .val (.long q2), .second, .val (.long q3), .second, .val (.int p4), .val (.long v2), .second, .val (.long v4), .second, .val (.int kk), .val (.ref b5), .val (.ref b13), .unset, .unset, .unset, .unset] [(.int kk)]))) (fun t k => XS.iload X21.here hx rfl (hb hby at_62) rfl k) ?_
  by_cases hc27 : (kk = (0 : Int32))
  · refine Goes.via (S' := (T21.setTop (mkF m 67 #[.val (.long q0), .second, .val (.long q1), .second, .val (.long q2), .second, .val (.long q3), .second, .val (.int p4), .val (.long v2), .second, .val (.long v4), .second, .val (.int kk), .val (.ref b5), .val (.ref b13), .unset, .unset, .unset, .unset] []))) (fun t k => XS.ifNo X21.here hx rfl (hb hby at_64) rfl ((if0 _ _).trans (teq hc27).2) k) ?_
    refine Goes.via (S' := (T21.setTop (mkF m 69 #[.val (.long q0), .second, .val (.long q1), .second, .val (.long q2), .second, .val (.long q3), .second, .val (.int p4), .val (.long v2), .second, .val (.long v4), .second, .val (.int kk), .val (.ref b5), .val (.ref b13), .unset, .unset, .unset, .unset] [(.ref b13)]))) (fun t k => XS.aload X21.here hx rfl (hb hby at_67) rfl rfl k) ?_
    refine Goes.via (S' := (T21.setTop (mkF m 71 #[.val (.long q0), .second, .val (.long q1), .second, .val (.long q2), .second, .val (.long q3), .second, .val (.int p4), .val (.long v2), .second, .val (.long v4), .second, .val (.int kk), .val (.ref b5), .val (.ref b13), .val (.ref b13), .unset, .unset, .unset] []))) (fun t k => XS.astore X21.here hx rfl (hb hby at_69) rfl rfl (l' := #[.val (.long q0), .second, .val (.long q1), .second, .val (.long q2), .second, .val (.long q3), .second, .val (.int p4), .val (.long v2), .second, .val (.long v4), .second, .val (.int kk), .val (.ref b5), .val (.ref b13), .val (.ref b13), .unset, .unset, .unset]) rfl k) ?_
    refine Goes.via (S' := (T21.setTop (mkF m 72 #[.val (.long q0), .second, .val (.long q1), .second, .val (.long q2), .second, .val (.long q3), .second, .val (.int p4), .val (.long v2), .second, .val (.long v4), .second, .val (.int kk), .val (.ref b5), .val (.ref b13), .val (.ref b13), .unset, .unset, .unset] [(.long q0)]))) (fun t k => XS.lloadN X21.here hx rfl (hb hby at_71) rfl k) ?_
    refine Goes.via (S' := (T21.setTop (mkF m 74 #[.val (.long q0), .second, .val (.long q1), .second, .val (.long q2), .second, .val (.long q3), .second, .val (.int p4), .val (.long v2), .second, .val (.long v4), .second, .val (.int kk), .val (.ref b5), .val (.ref b13), .val (.ref b13), .unset, .unset, .unset] [(.long v2), (.long q0)]))) (fun t k => XS.lload X21.here hx rfl (hb hby at_72) rfl k) ?_
    refine Goes.via (S' := (T21.setTop (mkF m 75 #[.val (.long q0), .second, .val (.long q1), .second, .val (.long q2), .second, .val (.long q3), .second, .val (.int p4), .val (.long v2), .second, .val (.long v4), .second, .val (.int kk), .val (.ref b5), .val (.ref b13), .val (.ref b13), .unset, .unset, .unset] [(.int (lcmpW q0 v2))]))) (fun t k => XS.lcmp X21.here hx rfl (hb hby at_74) rfl k) ?_
    obtain ⟨v30, hv30⟩ : ∃ z : Int32, z = (if ((q0 = v2) ∧ (q1 = v4)) then (1 : Int32) else 0) := ⟨_, rfl⟩
    refine Goes.via (S' := (T21.setTop (mkF m 90 #[.val (.long q0), .second, .val (.long q1), .second, .val (.long q2), .second, .val (.long q3), .second, .val (.int p4), .val (.long v2), .second, .val (.long v4), .second, .val (.int kk), .val (.ref b5), .val (.ref b13), .val (.ref b13), .unset, .unset, .unset] [(.int v30)]))) (fun t k => ?_) ?_
    · by_cases hc28 : (q0 = v2)
      · refine XS.ifNo X21.here hx rfl (hb hby at_75) rfl ((if0 _ _).trans (teq (own_eq hc28)).2) ?_
        show Steps p.tables e below (T21.setTop (mkF m 78 #[.val (.long q0), .second, .val (.long q1), .second, .val (.long q2), .second, .val (.long q3), .second, .val (.int p4), .val (.long v2), .second, .val (.long v4), .second, .val (.int kk), .val (.ref b5), .val (.ref b13), .val (.ref b13), .unset, .unset, .unset] [])) _
        refine XS.lloadN X21.here hx rfl (hb hby at_78) rfl ?_
        show Steps p.tables e below (T21.setTop (mkF m 79 #[.val (.long q0), .second, .val (.long q1), .second, .val (.long q2), .second, .val (.long q3), .second, .val (.int p4), .val (.long v2), .second, .val (.long v4), .second, .val (.int kk), .val (.ref b5), .val (.ref b13), .val (.ref b13), .unset, .unset, .unset] [(.long q1)])) _
        refine XS.lload X21.here hx rfl (hb hby at_79) rfl ?_
        show Steps p.tables e below (T21.setTop (mkF m 81 #[.val (.long q0), .second, .val (.long q1), .second, .val (.long q2), .second, .val (.long q3), .second, .val (.int p4), .val (.long v2), .second, .val (.long v4), .second, .val (.int kk), .val (.ref b5), .val (.ref b13), .val (.ref b13), .unset, .unset, .unset] [(.long v4), (.long q1)])) _
        refine XS.lcmp X21.here hx rfl (hb hby at_81) rfl ?_
        show Steps p.tables e below (T21.setTop (mkF m 82 #[.val (.long q0), .second, .val (.long q1), .second, .val (.long q2), .second, .val (.long q3), .second, .val (.int p4), .val (.long v2), .second, .val (.long v4), .second, .val (.int kk), .val (.ref b5), .val (.ref b13), .val (.ref b13), .unset, .unset, .unset] [(.int (lcmpW q1 v4))])) _
        by_cases hc29 : (q1 = v4)
        · refine XS.ifNo X21.here hx rfl (hb hby at_82) rfl ((if0 _ _).trans (teq (own_eq hc29)).2) ?_
          show Steps p.tables e below (T21.setTop (mkF m 85 #[.val (.long q0), .second, .val (.long q1), .second, .val (.long q2), .second, .val (.long q3), .second, .val (.int p4), .val (.long v2), .second, .val (.long v4), .second, .val (.int kk), .val (.ref b5), .val (.ref b13), .val (.ref b13), .unset, .unset, .unset] [])) _
          refine XS.iconst X21.here hx rfl (hb hby at_85) ?_
          show Steps p.tables e below (T21.setTop (mkF m 86 #[.val (.long q0), .second, .val (.long q1), .second, .val (.long q2), .second, .val (.long q3), .second, .val (.int p4), .val (.long v2), .second, .val (.long v4), .second, .val (.int kk), .val (.ref b5), .val (.ref b13), .val (.ref b13), .unset, .unset, .unset] [(.int (1 : Int32))])) _
          refine XS.goto X21.here hx rfl (pc0 := 86) (pc' := 90) rfl (hb hby at_86) (by decide) (by decide) ?_
          show Steps p.tables e below (T21.setTop (mkF m 90 #[.val (.long q0), .second, .val (.long q1), .second, .val (.long q2), .second, .val (.long q3), .second, .val (.int p4), .val (.long v2), .second, .val (.long v4), .second, .val (.int kk), .val (.ref b5), .val (.ref b13), .val (.ref b13), .unset, .unset, .unset] [(.int (1 : Int32))])) _
          have q_v30 : v30 = (1 : Int32) := hv30.trans (if_pos ⟨hc28, hc29⟩)
          rw [q_v30] at k
          exact k
        · refine XS.ifYes X21.here hx rfl (pc0 := 82) (pc' := 89) rfl (hb hby at_82) rfl ((if0 _ _).trans (feq (own_neq hc29)).2) (by decide) (by decide) ?_
          show Steps p.tables e below (T21.setTop (mkF m 89 #[.val (.long q0), .second, .val (.long q1), .second, .val (.long q2), .second, .val (.long q3), .second, .val (.int p4), .val (.long v2), .second, .val (.long v4), .second, .val (.int kk), .val (.ref b5), .val (.ref b13), .val (.ref b13), .unset, .unset, .unset] [])) _
          refine XS.iconst X21.here hx rfl (hb hby at_89) ?_
          show Steps p.tables e below (T21.setTop (mkF m 90 #[.val (.long q0), .second, .val (.long q1), .second, .val (.long q2), .second, .val (.long q3), .second, .val (.int p4), .val (.long v2), .second, .val (.long v4), .second, .val (.int kk), .val (.ref b5), .val (.ref b13), .val (.ref b13), .unset, .unset, .unset] [(.int (0 : Int32))])) _
          have q_v30 : v30 = (0 : Int32) := hv30.trans (if_neg (fun q => hc29 q.2))
          rw [q_v30] at k
          exact k
      · refine XS.ifYes X21.here hx rfl (pc0 := 75) (pc' := 89) rfl (hb hby at_75) rfl ((if0 _ _).trans (feq (own_neq hc28)).2) (by decide) (by decide) ?_
        show Steps p.tables e below (T21.setTop (mkF m 89 #[.val (.long q0), .second, .val (.long q1), .second, .val (.long q2), .second, .val (.long q3), .second, .val (.int p4), .val (.long v2), .second, .val (.long v4), .second, .val (.int kk), .val (.ref b5), .val (.ref b13), .val (.ref b13), .unset, .unset, .unset] [])) _
        refine XS.iconst X21.here hx rfl (hb hby at_89) ?_
        show Steps p.tables e below (T21.setTop (mkF m 90 #[.val (.long q0), .second, .val (.long q1), .second, .val (.long q2), .second, .val (.long q3), .second, .val (.int p4), .val (.long v2), .second, .val (.long v4), .second, .val (.int kk), .val (.ref b5), .val (.ref b13), .val (.ref b13), .unset, .unset, .unset] [(.int (0 : Int32))])) _
        have q_v30 : v30 = (0 : Int32) := hv30.trans (if_neg (fun q => hc28 q.1))
        rw [q_v30] at k
        exact k
    refine Goes.via (S' := (T21.setTop (mkF m 92 #[.val (.long q0), .second, .val (.long q1), .second, .val (.long q2), .second, .val (.long q3), .second, .val (.int p4), .val (.long v2), .second, .val (.long v4), .second, .val (.int kk), .val (.ref b5), .val (.ref b13), .val (.ref b13), .val (.int v30), .unset, .unset] []))) (fun t k => XS.istore X21.here hx rfl (hb hby at_90) rfl (l' := #[.val (.long q0), .second, .val (.long q1), .second, .val (.long q2), .second, .val (.long q3), .second, .val (.int p4), .val (.long v2), .second, .val (.long v4), .second, .val (.int kk), .val (.ref b5), .val (.ref b13), .val (.ref b13), .val (.int v30), .unset, .unset]) rfl k) ?_
    refine Goes.via (S' := (T21.setTop (mkF m 135 #[.val (.long q0), .second, .val (.long q1), .second, .val (.long q2), .second, .val (.long q3), .second, .val (.int p4), .val (.long v2), .second, .val (.long v4), .second, .val (.int kk), .val (.ref b5), .val (.ref b13), .val (.ref b13), .val (.int v30), .unset, .unset] []))) (fun t k => XS.goto X21.here hx rfl (pc0 := 92) (pc' := 135) rfl (hb hby at_92) (by decide) (by decide) k) ?_
    refine Goes.via (S' := (T21.setTop (mkF m 137 #[.val (.long q0), .second, .val (.long q1), .second, .val (.long q2), .second, .val (.long q3), .second, .val (.int p4), .val (.long v2), .second, .val (.long v4), .second, .val (.int kk), .val (.ref b5), .val (.ref b13), .val (.ref b13), .val (.int v30), .unset, .unset] [(.ref b5)]))) (fun t k => XS.aload X21.here hx rfl (hb hby at_135) rfl rfl k) ?_
    refine Goes.via (S' := (T21.setTop (mkF m 139 #[.val (.long q0), .second, .val (.long q1), .second, .val (.long q2), .second, .val (.long q3), .second, .val (.int p4), .val (.long v2), .second, .val (.long v4), .second, .val (.int kk), .val (.ref b5), .val (.ref b13), .val (.ref b13), .val (.int v30), .unset, .unset] [(.ref b13), (.ref b5)]))) (fun t k => XS.aload X21.here hx rfl (hb hby at_137) rfl rfl k) ?_
    obtain ⟨cq31, kq31, q31a, q31b, q31c⟩ := isOf hZ rfl f23
    obtain ⟨_, _, ⟨T31, L31, k31, n31⟩, -, X31, ⟨Lc31, hQ31, l31, y31, z31⟩, st31⟩ := X21.virtualBack hx (y := (⟨"com/example/eolog/eolog/record/OffsetAndTimestamp", "equals", "(Ljava/lang/Object;)Z"⟩ : MethodName)) (z := (⟨"com/example/eolog/eolog/record/OffsetAndTimestamp", "equals", "(Ljava/lang/Object;)Z"⟩ : MethodName)) hown (mvT hZ (hw _ (List.mem_of_getElem? (i := 13) rfl))) (mvT hZ (hw _ (List.mem_of_getElem? (i := 14) rfl))) (notFace_of_selects (args := #[]) (mvT hZ (hw _ (List.mem_of_getElem? (i := 16) rfl)))) (mvT hZ (hw _ (List.mem_of_getElem? (i := 16) rfl))) (mvT hZ (hw _ (List.mem_of_getElem? (i := 15) rfl))) (by decide) (backOf (W := 0) (rm3 l Z a0 hw [] b5 b13 q0 q1 v2 v4 T21.heap n0 Z21 po21_0 f24 f25 po21_1 po21_2) hZ (hw _ (List.mem_of_getElem? (i := 17) rfl)) (hw _ (List.mem_of_getElem? (i := 2) rfl)) (by decide) (by decide)) q31a q31c (g := (mkF m 139 #[.val (.long q0), .second, .val (.long q1), .second, .val (.long q2), .second, .val (.long q3), .second, .val (.int p4), .val (.long v2), .second, .val (.long v4), .second, .val (.int kk), .val (.ref b5), .val (.ref b13), .val (.ref b13), .val (.int v30), .unset, .unset] [(.ref b13), (.ref b5)])) rfl (by rw [hml]; rfl) (Steps.refl _) (argsL := [(.ref b13)]) (rest := []) (lenOf pd_3 rfl) rfl (by show 2 * 0 + _ ≤ _; exact Nat.le_of_eq rfl) (hb hby at_139) (fun _ _ => ⟨rfl, rfl, (by decide : 2 + 0 ≤ _), (by decide : 4 + 0 ≤ _)⟩)
    dsimp only [Pt.U, Pt.locs, Pt.cells, Pt.slots] at X31 l31 y31 z31 st31 hQ31
    subst l31 y31 z31
    obtain ⟨r31, rfl, hr31, N31q, eq31⟩ := hQ31
    have N31 := Fr.app N21 N31q
    refine Goes.via (S' := (T31.setTop (mkF m 142 #[.val (.long q0), .second, .val (.long q1), .second, .val (.long q2), .second, .val (.long q3), .second, .val (.int p4), .val (.long v2), .second, .val (.long v4), .second, .val (.int kk), .val (.ref b5), .val (.ref b13), .val (.ref b13), .val (.int v30), .unset, .unset] [(.int r31)]))) (fun t k => st31.trans k) ?_
    refine Goes.via (S' := (T31.setTop (mkF m 144 #[.val (.long q0), .second, .val (.long q1), .second, .val (.long q2), .second, .val (.long q3), .second, .val (.int p4), .val (.long v2), .second, .val (.long v4), .second, .val (.int kk), .val (.ref b5), .val (.ref b13), .val (.ref b13), .val (.int v30), .val (.int r31), .unset] []))) (fun t k => XS.istore X31.here hx rfl (hb hby at_142) rfl (l' := #[.val (.long q0), .second, .val (.long q1), .second, .val (.long q2), .second, .val (.long q3), .second, .val (.int p4), .val (.long v2), .second, .val (.long v4), .second, .val (.int kk), .val (.ref b5), .val (.ref b13), .val (.ref b13), .val (.int v30), .val (.int r31), .unset]) rfl k) ?_
    refine Goes.via (S' := (T31.setTop (mkF m 146 #[.val (.long q0), .second, .val (.long q1), .second, .val (.long q2), .second, .val (.long q3), .second, .val (.int p4), .val (.long v2), .second, .val (.long v4), .second, .val (.int kk), .val (.ref b5), .val (.ref b13), .val (.ref b13), .val (.int v30), .val (.int r31), .unset] [(.int kk)]))) (fun t k => XS.iload X31.here hx rfl (hb hby at_144) rfl k) ?_
    refine Goes.via (S' := (T31.setTop (mkF m 149 #[.val (.long q0), .second, .val (.long q1), .second, .val (.long q2), .second, .val (.long q3), .second, .val (.int p4), .val (.long v2), .second, .val (.long v4), .second, .val (.int kk), .val (.ref b5), .val (.ref b13), .val (.ref b13), .val (.int v30), .val (.int r31), .unset] []))) (fun t k => XS.ifNo X31.here hx rfl (hb hby at_146) rfl ((if0 _ _).trans (teq hc27).2) k) ?_
    refine Goes.via (S' := (T31.setTop (mkF m 151 #[.val (.long q0), .second, .val (.long q1), .second, .val (.long q2), .second, .val (.long q3), .second, .val (.int p4), .val (.long v2), .second, .val (.long v4), .second, .val (.int kk), .val (.ref b5), .val (.ref b13), .val (.ref b13), .val (.int v30), .val (.int r31), .unset] [(.ref b13)]))) (fun t k => XS.aload X31.here hx rfl (hb hby at_149) rfl rfl k) ?_
    refine Goes.via (S' := (T31.setTop (mkF m 153 #[.val (.long q0), .second, .val (.long q1), .second, .val (.long q2), .second, .val (.long q3), .second, .val (.int p4), .val (.long v2), .second, .val (.long v4), .second, .val (.int kk), .val (.ref b5), .val (.ref b13), .val (.ref b13), .val (.int v30), .val (.int r31), .unset] [(.ref b5), (.ref b13)]))) (fun t k => XS.aload X31.here hx rfl (hb hby at_151) rfl rfl k) ?_
    obtain ⟨cq32, kq32, q32a, q32b, q32c⟩ := isOf hZ eq31 po21_0
    obtain ⟨_, _, ⟨T32, L32, k32, n32⟩, -, X32, ⟨Lc32, hQ32, l32, y32, z32⟩, st32⟩ := X31.virtualBack hx (y := (⟨"com/example/eolog/eolog/record/OffsetAndTimestamp", "equals", "(Ljava/lang/Object;)Z"⟩ : MethodName)) (z := (⟨"com/example/eolog/eolog/record/OffsetAndTimestamp", "equals", "(Ljava/lang/Object;)Z"⟩ : MethodName)) hown (mvT hZ (hw _ (List.mem_of_getElem? (i := 13) rfl))) (mvT hZ (hw _ (List.mem_of_getElem? (i := 14) rfl))) (notFace_of_selects (args := #[]) (mvT hZ (hw _ (List.mem_of_getElem? (i := 16) rfl)))) (mvT hZ (hw _ (List.mem_of_getElem? (i := 16) rfl))) (mvT hZ (hw _ (List.mem_of_getElem? (i := 15) rfl))) (by decide) (backOf (W := 0) (rm3 l Z a0 hw [] b13 b5 v2 v4 q0 q1 T21.heap n0 Z21 f23 po21_1 po21_2 f24 f25) hZ (hw _ (List.mem_of_getElem? (i := 17) rfl)) (hw _ (List.mem_of_getElem? (i := 2) rfl)) (by decide) (by decide)) q32a q32c (g := (mkF m 153 #[.val (.long q0), .second, .val (.long q1), .second, .val (.long q2), .second, .val (.long q3), .second, .val (.int p4), .val (.long v2), .second, .val (.long v4), .second, .val (.int kk), .val (.ref b5), .val (.ref b13), .val (.ref b13), .val (.int v30), .val (.int r31), .unset] [(.ref b5), (.ref b13)])) rfl (by rw [hml]; rfl) (Steps.refl _) (argsL := [(.ref b5)]) (rest := []) (lenOf pd_3 rfl) rfl (by show 2 * 0 + _ ≤ _; exact Nat.le_of_eq rfl) (hb hby at_153) (fun _ _ => ⟨rfl, eq31, (by decide : 2 + 0 ≤ _), (by decide : 4 + 0 ≤ _)⟩)
    dsimp only [Pt.U, Pt.locs, Pt.cells, Pt.slots] at X32 l32 y32 z32 st32 hQ32
    subst l32 y32 z32
    obtain ⟨r32, rfl, hr32, N32q, eq32⟩ := hQ32
    have N32 := Fr.app N31 N32q
    refine Goes.via (S' := (T32.setTop (mkF m 156 #[.val (.long q0), .second, .val (.long q1), .second, .val (.long q2), .second, .val (.long q3), .second, .val (.int p4), .val (.long v2), .second, .val (.long v4), .second, .val (.int kk), .val (.ref b5), .val (.ref b13), .val (.ref b13), .val (.int v30), .val (.int r31), .unset] [(.int r32)]))) (fun t k => st32.trans k) ?_
    refine Goes.via (S' := (T32.setTop (mkF m 158 #[.val (.long q0), .second, .val (.long q1), .second, .val (.long q2), .second, .val (.long q3), .second, .val (.int p4), .val (.long v2), .second, .val (.long v4), .second, .val (.int kk), .val (.ref b5), .val (.ref b13), .val (.ref b13), .val (.int v30), .val (.int r31), .unset] [(.int r31), (.int r32)]))) (fun t k => XS.iload X32.here hx rfl (hb hby at_156) rfl k) ?_
    refine Goes.via (S' := (T32.setTop (mkF m 161 #[.val (.long q0), .second, .val (.long q1), .second, .val (.long q2), .second, .val (.long q3), .second, .val (.int p4), .val (.long v2), .second, .val (.long v4), .second, .val (.int kk), .val (.ref b5), .val (.ref b13), .val (.ref b13), .val (.int v30), .val (.int r31), .unset] []))) (fun t k => XS.icmpNo X32.here hx rfl (hb hby at_158) rfl (teq (own_beq hr32 hr31 ⟨fun q => ⟨q.1.symm, q.2.symm⟩, fun q => ⟨q.1.symm, q.2.symm⟩⟩ : (r32 = r31))).2 k) ?_
    refine Goes.via (S' := (T32.setTop (mkF m 162 #[.val (.long q0), .second, .val (.long q1), .second, .val (.long q2), .second, .val (.long q3), .second, .val (.int p4), .val (.long v2), .second, .val (.long v4), .second, .val (.int kk), .val (.ref b5), .val (.ref b13), .val (.ref b13), .val (.int v30), .val (.int r31), .unset] [(.int (1 : Int32))]))) (fun t k => XS.iconst X32.here hx rfl (hb hby at_161) k) ?_
    refine Goes.via (S' := (T32.setTop (mkF m 170 #[.val (.long q0), .second, .val (.long q1), .second, .val (.long q2), .second, .val (.long q3), .second, .val (.int p4), .val (.long v2), .second, .val (.long v4), .second, .val (.int kk), .val (.ref b5), .val (.ref b13), .val (.ref b13), .val (.int v30), .val (.int r31), .unset] [(.int (1 : Int32))]))) (fun t k => XS.goto X32.here hx rfl (pc0 := 162) (pc' := 170) rfl (hb hby at_162) (by decide) (by decide) k) ?_
    refine Goes.via (S' := (T32.setTop (mkF m 172 #[.val (.long q0), .second, .val (.long q1), .second, .val (.long q2), .second, .val (.long q3), .second, .val (.int p4), .val (.long v2), .second, .val (.long v4), .second, .val (.int kk), .val (.ref b5), .val (.ref b13), .val (.ref b13), .val (.int v30), .val (.int r31), .val (.int (1 : Int32))] []))) (fun t k => XS.istore X32.here hx rfl (hb hby at_170) rfl (l' := #[.val (.long q0), .second, .val (.long q1), .second, .val (.long q2), .second, .val (.long q3), .second, .val (.int p4), .val (.long v2), .second, .val (.long v4), .second, .val (.int kk), .val (.ref b5), .val (.ref b13), .val (.ref b13), .val (.int v30), .val (.int r31), .val (.int (1 : Int32))]) rfl k) ?_
    refine Goes.via (S' := (T32.setTop (mkF m 174 #[.val (.long q0), .second, .val (.long q1), .second, .val (.long q2), .second, .val (.long q3), .second, .val (.int p4), .val (.long v2), .second, .val (.long v4), .second, .val (.int kk), .val (.ref b5), .val (.ref b13), .val (.ref b13), .val (.int v30), .val (.int r31), .val (.int (1 : Int32))] [(.int r31)]))) (fun t k => XS.iload X32.here hx rfl (hb hby at_172) rfl k) ?_
    refine Goes.via (S' := (T32.setTop (mkF m 176 #[.val (.long q0), .second, .val (.long q1), .second, .val (.long q2), .second, .val (.long q3), .second, .val (.int p4), .val (.long v2), .second, .val (.long v4), .second, .val (.int kk), .val (.ref b5), .val (.ref b13), .val (.ref b13), .val (.int v30), .val (.int r31), .val (.int (1 : Int32))] [(.int v30), (.int r31)]))) (fun t k => XS.iload X32.here hx rfl (hb hby at_174) rfl k) ?_
    refine Goes.via (S' := (T32.setTop (mkF m 179 #[.val (.long q0), .second, .val (.long q1), .second, .val (.long q2), .second, .val (.long q3), .second, .val (.int p4), .val (.long v2), .second, .val (.long v4), .second, .val (.int kk), .val (.ref b5), .val (.ref b13), .val (.ref b13), .val (.int v30), .val (.int r31), .val (.int (1 : Int32))] []))) (fun t k => XS.icmpNo X32.here hx rfl (hb hby at_176) rfl (teq (by simp [hv2, hv4, hv30, hr31, hr32] : (r31 = v30))).2 k) ?_
    refine Goes.via (S' := (T32.setTop (mkF m 181 #[.val (.long q0), .second, .val (.long q1), .second, .val (.long q2), .second, .val (.long q3), .second, .val (.int p4), .val (.long v2), .second, .val (.long v4), .second, .val (.int kk), .val (.ref b5), .val (.ref b13), .val (.ref b13), .val (.int v30), .val (.int r31), .val (.int (1 : Int32))] [(.int (1 : Int32))]))) (fun t k => XS.iload X32.here hx rfl (hb hby at_179) rfl k) ?_
    refine Goes.via (S' := (T32.setTop (mkF m 184 #[.val (.long q0), .second, .val (.long q1), .second, .val (.long q2), .second, .val (.long q3), .second, .val (.int p4), .val (.long v2), .second, .val (.long v4), .second, .val (.int kk), .val (.ref b5), .val (.ref b13), .val (.ref b13), .val (.int v30), .val (.int r31), .val (.int (1 : Int32))] []))) (fun t k => XS.ifNo X32.here hx rfl (hb hby at_181) rfl ((if0 _ _).trans (feq (by decide : ¬ ((1 : Int32) = (0 : Int32)))).1) k) ?_
    refine Goes.via (S' := (T32.setTop (mkF m 185 #[.val (.long q0), .second, .val (.long q1), .second, .val (.long q2), .second, .val (.long q3), .second, .val (.int p4), .val (.long v2), .second, .val (.long v4), .second, .val (.int kk), .val (.ref b5), .val (.ref b13), .val (.ref b13), .val (.int v30), .val (.int r31), .val (.int (1 : Int32))] [(.int (1 : Int32))]))) (fun t k => XS.iconst X32.here hx rfl (hb hby at_184) k) ?_
    refine Goes.via (S' := (T32.setTop (mkF m 189 #[.val (.long q0), .second, .val (.long q1), .second, .val (.long q2), .second, .val (.long q3), .second, .val (.int p4), .val (.long v2), .second, .val (.long v4), .second, .val (.int kk), .val (.ref b5), .val (.ref b13), .val (.ref b13), .val (.int v30), .val (.int r31), .val (.int (1 : Int32))] [(.int (1 : Int32))]))) (fun t k => XS.goto X32.here hx rfl (pc0 := 185) (pc' := 189) rfl (hb hby at_185) (by decide) (by decide) k) ?_
    exact own_ret X32 hx Bd.notSynchronized Bd.returns rfl (Or.inl ⟨rfl, by simp, _, rfl⟩) (hb hby at_189) eq32 ⟨rfl, N32⟩ (by decide) (by decide)
  · refine Goes.via (S' := (T21.setTop (mkF m 95 #[.val (.long q0), .second, .val (.long q1), .second, .val (.long q2), .second, .val (.long q3), .second, .val (.int p4), .val (.long v2), .second, .val (.long v4), .second, .val (.int kk), .val (.ref b5), .val (.ref b13), .unset, .unset, .unset, .unset] []))) (fun t k => XS.ifYes X21.here hx rfl (pc0 := 64) (pc' := 95) rfl (hb hby at_64) rfl ((if0 _ _).trans (feq hc27).2) (by decide) (by decide) k) ?_
    refine Goes.via (S' := (T21.setTop (mkF m 97 #[.val (.long q0), .second, .val (.long q1), .second, .val (.long q2), .second, .val (.long q3), .second, .val (.int p4), .val (.long v2), .second, .val (.long v4), .second, .val (.int kk), .val (.ref b5), .val (.ref b13), .unset, .unset, .unset, .unset] [(.int kk)]))) (fun t k => XS.iload X21.here hx rfl (hb hby at_95) rfl k) ?_
    refine Goes.via (S' := (T21.setTop (mkF m 98 #[.val (.long q0), .second, .val (.long q1), .second, .val (.long q2), .second, .val (.long q3), .second, .val (.int p4), .val (.long v2), .second, .val (.long v4), .second, .val (.int kk), .val (.ref b5), .val (.ref b13), .unset, .unset, .unset, .unset] [(.int (1 : Int32)), (.int kk)]))) (fun t k => XS.iconst X21.here hx rfl (hb hby at_97) k) ?_
    by_cases hc33 : (kk = (1 : Int32))
    · refine Goes.via (S' := (T21.setTop (mkF m 101 #[.val (.long q0), .second, .val (.long q1), .second, .val (.long q2), .second, .val (.long q3), .second, .val (.int p4), .val (.long v2), .second, .val (.long v4), .second, .val (.int kk), .val (.ref b5), .val (.ref b13), .unset, .unset, .unset, .unset] []))) (fun t k => XS.icmpNo X21.here hx rfl (hb hby at_98) rfl (teq hc33).2 k) ?_
      refine Goes.via (S' := (T21.setTop (mkF m 102 #[.val (.long q0), .second, .val (.long q1), .second, .val (.long q2), .second, .val (.long q3), .second, .val (.int p4), .val (.long v2), .second, .val (.long v4), .second, .val (.int kk), .val (.ref b5), .val (.ref b13), .unset, .unset, .unset, .unset] [.null]))) (fun t k => XS.aconstNull X21.here hx rfl (hb hby at_101) k) ?_
      refine Goes.via (S' := (T21.setTop (mkF m 104 #[.val (.long q0), .second, .val (.long q1), .second, .val (.long q2), .second, .val (.long q3), .second, .val (.int p4), .val (.long v2), .second, .val (.long v4), .second, .val (.int kk), .val (.ref b5), .val (.ref b13), .val .null, .unset, .unset, .unset] []))) (fun t k => XS.astore X21.here hx rfl (hb hby at_102) rfl rfl (l' := #[.val (.long q0), .second, .val (.long q1), .second, .val (.long q2), .second, .val (.long q3), .second, .val (.int p4), .val (.long v2), .second, .val (.long v4), .second, .val (.int kk), .val (.ref b5), .val (.ref b13), .val .null, .unset, .unset, .unset]) rfl k) ?_
      refine Goes.via (S' := (T21.setTop (mkF m 105 #[.val (.long q0), .second, .val (.long q1), .second, .val (.long q2), .second, .val (.long q3), .second, .val (.int p4), .val (.long v2), .second, .val (.long v4), .second, .val (.int kk), .val (.ref b5), .val (.ref b13), .val .null, .unset, .unset, .unset] [(.int (0 : Int32))]))) (fun t k => XS.iconst X21.here hx rfl (hb hby at_104) k) ?_
      refine Goes.via (S' := (T21.setTop (mkF m 107 #[.val (.long q0), .second, .val (.long q1), .second, .val (.long q2), .second, .val (.long q3), .second, .val (.int p4), .val (.long v2), .second, .val (.long v4), .second, .val (.int kk), .val (.ref b5), .val (.ref b13), .val .null, .val (.int (0 : Int32)), .unset, .unset] []))) (fun t k => XS.istore X21.here hx rfl (hb hby at_105) rfl (l' := #[.val (.long q0), .second, .val (.long q1), .second, .val (.long q2), .second, .val (.long q3), .second, .val (.int p4), .val (.long v2), .second, .val (.long v4), .second, .val (.int kk), .val (.ref b5), .val (.ref b13), .val .null, .val (.int (0 : Int32)), .unset, .unset]) rfl k) ?_
      refine Goes.via (S' := (T21.setTop (mkF m 135 #[.val (.long q0), .second, .val (.long q1), .second, .val (.long q2), .second, .val (.long q3), .second, .val (.int p4), .val (.long v2), .second, .val (.long v4), .second, .val (.int kk), .val (.ref b5), .val (.ref b13), .val .null, .val (.int (0 : Int32)), .unset, .unset] []))) (fun t k => XS.goto X21.here hx rfl (pc0 := 107) (pc' := 135) rfl (hb hby at_107) (by decide) (by decide) k) ?_
      refine Goes.via (S' := (T21.setTop (mkF m 137 #[.val (.long q0), .second, .val (.long q1), .second, .val (.long q2), .second, .val (.long q3), .second, .val (.int p4), .val (.long v2), .second, .val (.long v4), .second, .val (.int kk), .val (.ref b5), .val (.ref b13), .val .null, .val (.int (0 : Int32)), .unset, .unset] [(.ref b5)]))) (fun t k => XS.aload X21.here hx rfl (hb hby at_135) rfl rfl k) ?_
      refine Goes.via (S' := (T21.setTop (mkF m 139 #[.val (.long q0), .second, .val (.long q1), .second, .val (.long q2), .second, .val (.long q3), .second, .val (.int p4), .val (.long v2), .second, .val (.long v4), .second, .val (.int kk), .val (.ref b5), .val (.ref b13), .val .null, .val (.int (0 : Int32)), .unset, .unset] [.null, (.ref b5)]))) (fun t k => XS.aload X21.here hx rfl (hb hby at_137) rfl rfl k) ?_
      obtain ⟨cq34, kq34, q34a, q34b, q34c⟩ := isOf hZ rfl f23
      obtain ⟨_, _, ⟨T34, L34, k34, n34⟩, -, X34, ⟨Lc34, hQ34, l34, y34, z34⟩, st34⟩ := X21.virtualBack hx (y := (⟨"com/example/eolog/eolog/record/OffsetAndTimestamp", "equals", "(Ljava/lang/Object;)Z"⟩ : MethodName)) (z := (⟨"com/example/eolog/eolog/record/OffsetAndTimestamp", "equals", "(Ljava/lang/Object;)Z"⟩ : MethodName)) hown (mvT hZ (hw _ (List.mem_of_getElem? (i := 13) rfl))) (mvT hZ (hw _ (List.mem_of_getElem? (i := 14) rfl))) (notFace_of_selects (args := #[]) (mvT hZ (hw _ (List.mem_of_getElem? (i := 16) rfl)))) (mvT hZ (hw _ (List.mem_of_getElem? (i := 16) rfl))) (mvT hZ (hw _ (List.mem_of_getElem? (i := 15) rfl))) (by decide) (backOf (W := 0) (rm3n l Z a0 hw [] b5 T21.heap n0 Z21 ) hZ (hw _ (List.mem_of_getElem? (i := 17) rfl)) (hw _ (List.mem_of_getElem? (i := 2) rfl)) (by decide) (by decide)) q34a q34c (g := (mkF m 139 #[.val (.long q0), .second, .val (.long q1), .second, .val (.long q2), .second, .val (.long q3), .second, .val (.int p4), .val (.long v2), .second, .val (.long v4), .second, .val (.int kk), .val (.ref b5), .val (.ref b13), .val .null, .val (.int (0 : Int32)), .unset, .unset] [.null, (.ref b5)])) rfl (by rw [hml]; rfl) (Steps.refl _) (argsL := [.null]) (rest := []) (lenOf pd_3 rfl) rfl (by show 2 * 0 + _ ≤ _; exact Nat.le_of_eq rfl) (hb hby at_139) (fun _ _ => ⟨rfl, rfl, (by decide : 2 + 0 ≤ _), (by decide : 4 + 0 ≤ _)⟩)
      dsimp only [Pt.U, Pt.locs, Pt.cells, Pt.slots] at X34 l34 y34 z34 st34 hQ34
      subst l34 y34 z34
      obtain ⟨rfl, N34q, eq34⟩ := hQ34
      have N34 := Fr.app N21 N34q
      refine Goes.via (S' := (T34.setTop (mkF m 142 #[.val (.long q0), .second, .val (.long q1), .second, .val (.long q2), .second, .val (.long q3), .second, .val (.int p4), .val (.long v2), .second, .val (.long v4), .second, .val (.int kk), .val (.ref b5), .val (.ref b13), .val .null, .val (.int (0 : Int32)), .unset, .unset] [(.int (0 : Int32))]))) (fun t k => st34.trans k) ?_
      refine Goes.via (S' := (T34.setTop (mkF m 144 #[.val (.long q0), .second, .val (.long q1), .second, .val (.long q2), .second, .val (.long q3), .second, .val (.int p4), .val (.long v2), .second, .val (.long v4), .second, .val (.int kk), .val (.ref b5), .val (.ref b13), .val .null, .val (.int (0 : Int32)), .val (.int (0 : Int32)), .unset] []))) (fun t k => XS.istore X34.here hx rfl (hb hby at_142) rfl (l' := #[.val (.long q0), .second, .val (.long q1), .second, .val (.long q2), .second, .val (.long q3), .second, .val (.int p4), .val (.long v2), .second, .val (.long v4), .second, .val (.int kk), .val (.ref b5), .val (.ref b13), .val .null, .val (.int (0 : Int32)), .val (.int (0 : Int32)), .unset]) rfl k) ?_
      refine Goes.via (S' := (T34.setTop (mkF m 146 #[.val (.long q0), .second, .val (.long q1), .second, .val (.long q2), .second, .val (.long q3), .second, .val (.int p4), .val (.long v2), .second, .val (.long v4), .second, .val (.int kk), .val (.ref b5), .val (.ref b13), .val .null, .val (.int (0 : Int32)), .val (.int (0 : Int32)), .unset] [(.int kk)]))) (fun t k => XS.iload X34.here hx rfl (hb hby at_144) rfl k) ?_
      refine Goes.via (S' := (T34.setTop (mkF m 169 #[.val (.long q0), .second, .val (.long q1), .second, .val (.long q2), .second, .val (.long q3), .second, .val (.int p4), .val (.long v2), .second, .val (.long v4), .second, .val (.int kk), .val (.ref b5), .val (.ref b13), .val .null, .val (.int (0 : Int32)), .val (.int (0 : Int32)), .unset] []))) (fun t k => XS.ifYes X34.here hx rfl (pc0 := 146) (pc' := 169) rfl (hb hby at_146) rfl ((if0 _ _).trans (feq hc27).2) (by decide) (by decide) k) ?_
      refine Goes.via (S' := (T34.setTop (mkF m 170 #[.val (.long q0), .second, .val (.long q1), .second, .val (.long q2), .second, .val (.long q3), .second, .val (.int p4), .val (.long v2), .second, .val (.long v4), .second, .val (.int kk), .val (.ref b5), .val (.ref b13), .val .null, .val (.int (0 : Int32)), .val (.int (0 : Int32)), .unset] [(.int (1 : Int32))]))) (fun t k => XS.iconst X34.here hx rfl (hb hby at_169) k) ?_
      refine Goes.via (S' := (T34.setTop (mkF m 172 #[.val (.long q0), .second, .val (.long q1), .second, .val (.long q2), .second, .val (.long q3), .second, .val (.int p4), .val (.long v2), .second, .val (.long v4), .second, .val (.int kk), .val (.ref b5), .val (.ref b13), .val .null, .val (.int (0 : Int32)), .val (.int (0 : Int32)), .val (.int (1 : Int32))] []))) (fun t k => XS.istore X34.here hx rfl (hb hby at_170) rfl (l' := #[.val (.long q0), .second, .val (.long q1), .second, .val (.long q2), .second, .val (.long q3), .second, .val (.int p4), .val (.long v2), .second, .val (.long v4), .second, .val (.int kk), .val (.ref b5), .val (.ref b13), .val .null, .val (.int (0 : Int32)), .val (.int (0 : Int32)), .val (.int (1 : Int32))]) rfl k) ?_
      refine Goes.via (S' := (T34.setTop (mkF m 174 #[.val (.long q0), .second, .val (.long q1), .second, .val (.long q2), .second, .val (.long q3), .second, .val (.int p4), .val (.long v2), .second, .val (.long v4), .second, .val (.int kk), .val (.ref b5), .val (.ref b13), .val .null, .val (.int (0 : Int32)), .val (.int (0 : Int32)), .val (.int (1 : Int32))] [(.int (0 : Int32))]))) (fun t k => XS.iload X34.here hx rfl (hb hby at_172) rfl k) ?_
      refine Goes.via (S' := (T34.setTop (mkF m 176 #[.val (.long q0), .second, .val (.long q1), .second, .val (.long q2), .second, .val (.long q3), .second, .val (.int p4), .val (.long v2), .second, .val (.long v4), .second, .val (.int kk), .val (.ref b5), .val (.ref b13), .val .null, .val (.int (0 : Int32)), .val (.int (0 : Int32)), .val (.int (1 : Int32))] [(.int (0 : Int32)), (.int (0 : Int32))]))) (fun t k => XS.iload X34.here hx rfl (hb hby at_174) rfl k) ?_
      refine Goes.via (S' := (T34.setTop (mkF m 179 #[.val (.long q0), .second, .val (.long q1), .second, .val (.long q2), .second, .val (.long q3), .second, .val (.int p4), .val (.long v2), .second, .val (.long v4), .second, .val (.int kk), .val (.ref b5), .val (.ref b13), .val .null, .val (.int (0 : Int32)), .val (.int (0 : Int32)), .val (.int (1 : Int32))] []))) (fun t k => XS.icmpNo X34.here hx rfl (hb hby at_176) rfl (teq rfl).2 k) ?_
      refine Goes.via (S' := (T34.setTop (mkF m 181 #[.val (.long q0), .second, .val (.long q1), .second, .val (.long q2), .second, .val (.long q3), .second, .val (.int p4), .val (.long v2), .second, .val (.long v4), .second, .val (.int kk), .val (.ref b5), .val (.ref b13), .val .null, .val (.int (0 : Int32)), .val (.int (0 : Int32)), .val (.int (1 : Int32))] [(.int (1 : Int32))]))) (fun t k => XS.iload X34.here hx rfl (hb hby at_179) rfl k) ?_
      refine Goes.via (S' := (T34.setTop (mkF m 184 #[.val (.long q0), .second, .val (.long q1), .second, .val (.long q2), .second, .val (.long q3), .second, .val (.int p4), .val (.long v2), .second, .val (.long v4), .second, .val (.int kk), .val (.ref b5), .val (.ref b13), .val .null, .val (.int (0 : Int32)), .val (.int (0 : Int32)), .val (.int (1 : Int32))] []))) (fun t k => XS.ifNo X34.here hx rfl (hb hby at_181) rfl ((if0 _ _).trans (feq (by decide : ¬ ((1 : Int32) = (0 : Int32)))).1) k) ?_
      refine Goes.via (S' := (T34.setTop (mkF m 185 #[.val (.long q0), .second, .val (.long q1), .second, .val (.long q2), .second, .val (.long q3), .second, .val (.int p4), .val (.long v2), .second, .val (.long v4), .second, .val (.int kk), .val (.ref b5), .val (.ref b13), .val .null, .val (.int (0 : Int32)), .val (.int (0 : Int32)), .val (.int (1 : Int32))] [(.int (1 : Int32))]))) (fun t k => XS.iconst X34.here hx rfl (hb hby at_184) k) ?_
      refine Goes.via (S' := (T34.setTop (mkF m 189 #[.val (.long q0), .second, .val (.long q1), .second, .val (.long q2), .second, .val (.long q3), .second, .val (.int p4), .val (.long v2), .second, .val (.long v4), .second, .val (.int kk), .val (.ref b5), .val (.ref b13), .val .null, .val (.int (0 : Int32)), .val (.int (0 : Int32)), .val (.int (1 : Int32))] [(.int (1 : Int32))]))) (fun t k => XS.goto X34.here hx rfl (pc0 := 185) (pc' := 189) rfl (hb hby at_185) (by decide) (by decide) k) ?_
      exact own_ret X34 hx Bd.notSynchronized Bd.returns rfl (Or.inl ⟨rfl, by simp, _, rfl⟩) (hb hby at_189) eq34 ⟨rfl, N34⟩ (by decide) (by decide)
    · refine Goes.via (S' := (T21.setTop (mkF m 110 #[.val (.long q0), .second, .val (.long q1), .second, .val (.long q2), .second, .val (.long q3), .second, .val (.int p4), .val (.long v2), .second, .val (.long v4), .second, .val (.int kk), .val (.ref b5), .val (.ref b13), .unset, .unset, .unset, .unset] []))) (fun t k => XS.icmpYes X21.here hx rfl (pc0 := 98) (pc' := 110) rfl (hb hby at_98) rfl (feq hc33).2 (by decide) (by decide) k) ?_
      refine Goes.via (S' := (T21.setTop (mkF m 112 #[.val (.long q0), .second, .val (.long q1), .second, .val (.long q2), .second, .val (.long q3), .second, .val (.int p4), .val (.long v2), .second, .val (.long v4), .second, .val (.int kk), .val (.ref b5), .val (.ref b13), .unset, .unset, .unset, .unset] [(.int kk)]))) (fun t k => XS.iload X21.here hx rfl (hb hby at_110) rfl k) ?_
      refine Goes.via (S' := (T21.setTop (mkF m 113 #[.val (.long q0), .second, .val (.long q1), .second, .val (.long q2), .second, .val (.long q3), .second, .val (.int p4), .val (.long v2), .second, .val (.long v4), .second, .val (.int kk), .val (.ref b5), .val (.ref b13), .unset, .unset, .unset, .unset] [(.int (2 : Int32)), (.int kk)]))) (fun t k => XS.iconst X21.here hx rfl (hb hby at_112) k) ?_
      by_cases hc35 : (kk = (2 : Int32))
      · refine Goes.via (S' := (T21.setTop (mkF m 116 #[.val (.long q0), .second, .val (.long q1), .second, .val (.long q2), .second, .val (.long q3), .second, .val (.int p4), .val (.long v2), .second, .val (.long v4), .second, .val (.int kk), .val (.ref b5), .val (.ref b13), .unset, .unset, .unset, .unset] []))) (fun t k => XS.icmpNo X21.here hx rfl (hb hby at_113) rfl (teq hc35).2 k) ?_
        refine Goes.via (S' := (T21.setTop (mkF m 117 #[.val (.long q0), .second, .val (.long q1), .second, .val (.long q2), .second, .val (.long q3), .second, .val (.int p4), .val (.long v2), .second, .val (.long v4), .second, .val (.int kk), .val (.ref b5), .val (.ref b13), .unset, .unset, .unset, .unset] [(.long q0)]))) (fun t k => XS.lloadN X21.here hx rfl (hb hby at_116) rfl k) ?_
        obtain ⟨_, _, ⟨T36, L36, k36, n36⟩, -, X36, ⟨Lc36, hQ36, l36, y36, z36⟩, st36⟩ := Jvm.LawKit.callS X21 hx (y := (⟨"java/lang/Long", "valueOf", "(J)Ljava/lang/Long;"⟩ : MethodName)) hown (mvT hZ (hw _ (List.mem_of_getElem? (i := 20) rfl))) (mvT hZ (hw _ (List.mem_of_getElem? (i := 21) rfl))) (mvT hZ (hw _ (List.mem_of_getElem? (i := 22) rfl))) (mvT hZ (hw _ (List.mem_of_getElem? (i := 23) rfl))) (by decide) (backOf (W := 0) (rm4 l Z a0 hw [] q0 yc T21.heap n0 Z21 f22 (own_cacheKeep K21 hcache)) hZ (hw _ (List.mem_of_getElem? (i := 23) rfl)) (hw _ (List.mem_of_getElem? (i := 22) rfl)) (by decide) (by decide)) (g := (mkF m 117 #[.val (.long q0), .second, .val (.long q1), .second, .val (.long q2), .second, .val (.long q3), .second, .val (.int p4), .val (.long v2), .second, .val (.long v4), .second, .val (.int kk), .val (.ref b5), .val (.ref b13), .unset, .unset, .unset, .unset] [(.long q0)])) rfl (by rw [hml]; rfl) (argsL := [(.long q0)]) (rest := []) (lenOf pd_4 rfl) rfl (by show 2 * 0 + _ ≤ _; exact Nat.le_of_eq rfl) (hb hby at_117) (fun _ _ => ⟨rfl, rfl, (by decide : 2 + 1 ≤ _), (by decide : 4 + 1 ≤ _)⟩)
        dsimp only [Pt.U, Pt.locs, Pt.cells, Pt.slots] at X36 l36 y36 z36 st36 hQ36
        subst l36 y36 z36
        obtain ⟨r36, rfl, hr36, N36q, K36q, po36_0⟩ := hQ36
        have N36 := Fr.app N21 N36q
        have f37 : Sta Z T36.heap "java/lang/Long$LongCache" "cache" "[Ljava/lang/Long;" (.ref yc) := own_staKeep f22 K36q all0
        have f38 : Exa Z T36.heap b5 "com/example/eolog/eolog/record/OffsetAndTimestamp" := f23.keep K36q
        have f39 : Fld Z T36.heap b5 "com/example/eolog/eolog/record/OffsetAndTimestamp" "offset" "J" (.long q0) := f24.keep K36q nin0
        have f40 : Fld Z T36.heap b5 "com/example/eolog/eolog/record/OffsetAndTimestamp" "timestamp" "J" (.long q1) := f25.keep K36q nin0
        have f41 : Exa Z T36.heap b13 "com/example/eolog/eolog/record/OffsetAndTimestamp" := po21_0.keep K36q
        have f42 : Fld Z T36.heap b13 "com/example/eolog/eolog/record/OffsetAndTimestamp" "offset" "J" (.long v2) := po21_1.keep K36q nin0
        have f43 : Fld Z T36.heap b13 "com/example/eolog/eolog/record/OffsetAndTimestamp" "timestamp" "J" (.long v4) := po21_2.keep K36q nin0
        have K36 : Keep h0 T36.heap [] := Keep.trans K21 K36q all0
        have Z36 : n0 ≤ T36.heap.size := Nat.le_trans Z0 K36.1
        refine Goes.via (S' := (T36.setTop (mkF m 120 #[.val (.long q0), .second, .val (.long q1), .second, .val (.long q2), .second, .val (.long q3), .second, .val (.int p4), .val (.long v2), .second, .val (.long v4), .second, .val (.int kk), .val (.ref b5), .val (.ref b13), .unset, .unset, .unset, .unset] [(.ref r36)]))) (fun t k => st36 _ k) ?_
        refine Goes.via (S' := (T36.setTop (mkF m 122 #[.val (.long q0), .second, .val (.long q1), .second, .val (.long q2), .second, .val (.long q3), .second, .val (.int p4), .val (.long v2), .second, .val (.long v4), .second, .val (.int kk), .val (.ref b5), .val (.ref b13), .val (.ref r36), .unset, .unset, .unset] []))) (fun t k => XS.astore X36.here hx rfl (hb hby at_120) rfl rfl (l' := #[.val (.long q0), .second, .val (.long q1), .second, .val (.long q2), .second, .val (.long q3), .second, .val (.int p4), .val (.long v2), .second, .val (.long v4), .second, .val (.int kk), .val (.ref b5), .val (.ref b13), .val (.ref r36), .unset, .unset, .unset]) rfl k) ?_
        refine Goes.via (S' := (T36.setTop (mkF m 123 #[.val (.long q0), .second, .val (.long q1), .second, .val (.long q2), .second, .val (.long q3), .second, .val (.int p4), .val (.long v2), .second, .val (.long v4), .second, .val (.int kk), .val (.ref b5), .val (.ref b13), .val (.ref r36), .unset, .unset, .unset] [(.int (0 : Int32))]))) (fun t k => XS.iconst X36.here hx rfl (hb hby at_122) k) ?_
        refine Goes.via (S' := (T36.setTop (mkF m 125 #[.val (.long q0), .second, .val (.long q1), .second, .val (.long q2), .second, .val (.long q3), .second, .val (.int p4), .val (.long v2), .second, .val (.long v4), .second, .val (.int kk), .val (.ref b5), .val (.ref b13), .val (.ref r36), .val (.int (0 : Int32)), .unset, .unset] []))) (fun t k => XS.istore X36.here hx rfl (hb hby at_123) rfl (l' := #[.val (.long q0), .second, .val (.long q1), .second, .val (.long q2), .second, .val (.long q3), .second, .val (.int p4), .val (.long v2), .second, .val (.long v4), .second, .val (.int kk), .val (.ref b5), .val (.ref b13), .val (.ref r36), .val (.int (0 : Int32)), .unset, .unset]) rfl k) ?_
        refine Goes.via (S' := (T36.setTop (mkF m 135 #[.val (.long q0), .second, .val (.long q1), .second, .val (.long q2), .second, .val (.long q3), .second, .val (.int p4), .val (.long v2), .second, .val (.long v4), .second, .val (.int kk), .val (.ref b5), .val (.ref b13), .val (.ref r36), .val (.int (0 : Int32)), .unset, .unset] []))) (fun t k => XS.goto X36.here hx rfl (pc0 := 125) (pc' := 135) rfl (hb hby at_125) (by decide) (by decide) k) ?_
        refine Goes.via (S' := (T36.setTop (mkF m 137 #[.val (.long q0), .second, .val (.long q1), .second, .val (.long q2), .second, .val (.long q3), .second, .val (.int p4), .val (.long v2), .second, .val (.long v4), .second, .val (.int kk), .val (.ref b5), .val (.ref b13), .val (.ref r36), .val (.int (0 : Int32)), .unset, .unset] [(.ref b5)]))) (fun t k => XS.aload X36.here hx rfl (hb hby at_135) rfl rfl k) ?_
        refine Goes.via (S' := (T36.setTop (mkF m 139 #[.val (.long q0), .second, .val (.long q1), .second, .val (.long q2), .second, .val (.long q3), .second, .val (.int p4), .val (.long v2), .second, .val (.long v4), .second, .val (.int kk), .val (.ref b5), .val (.ref b13), .val (.ref r36), .val (.int (0 : Int32)), .unset, .unset] [(.ref r36), (.ref b5)]))) (fun t k => XS.aload X36.here hx rfl (hb hby at_137) rfl rfl k) ?_
        obtain ⟨cq44, kq44, q44a, q44b, q44c⟩ := isOf hZ rfl f38
        obtain ⟨_, _, ⟨T44, L44, k44, n44⟩, -, X44, ⟨Lc44, hQ44, l44, y44, z44⟩, st44⟩ := X36.virtualBack hx (y := (⟨"com/example/eolog/eolog/record/OffsetAndTimestamp", "equals", "(Ljava/lang/Object;)Z"⟩ : MethodName)) (z := (⟨"com/example/eolog/eolog/record/OffsetAndTimestamp", "equals", "(Ljava/lang/Object;)Z"⟩ : MethodName)) hown (mvT hZ (hw _ (List.mem_of_getElem? (i := 13) rfl))) (mvT hZ (hw _ (List.mem_of_getElem? (i := 14) rfl))) (notFace_of_selects (args := #[]) (mvT hZ (hw _ (List.mem_of_getElem? (i := 16) rfl)))) (mvT hZ (hw _ (List.mem_of_getElem? (i := 16) rfl))) (mvT hZ (hw _ (List.mem_of_getElem? (i := 15) rfl))) (by decide) (backOf (W := 0) (rm3l l Z a0 hw [] b5 r36 T36.heap n0 Z36 po36_0) hZ (hw _ (List.mem_of_getElem? (i := 17) rfl)) (hw _ (List.mem_of_getElem? (i := 2) rfl)) (by decide) (by decide)) q44a q44c (g := (mkF m 139 #[.val (.long q0), .second, .val (.long q1), .second, .val (.long q2), .second, .val (.long q3), .second, .val (.int p4), .val (.long v2), .second, .val (.long v4), .second, .val (.int kk), .val (.ref b5), .val (.ref b13), .val (.ref r36), .val (.int (0 : Int32)), .unset, .unset] [(.ref r36), (.ref b5)])) rfl (by rw [hml]; rfl) (Steps.refl _) (argsL := [(.ref r36)]) (rest := []) (lenOf pd_3 rfl) rfl (by show 2 * 0 + _ ≤ _; exact Nat.le_of_eq rfl) (hb hby at_139) (fun _ _ => ⟨rfl, rfl, (by decide : 3 + 0 ≤ _), (by decide : 5 + 0 ≤ _)⟩)
        dsimp only [Pt.U, Pt.locs, Pt.cells, Pt.slots] at X44 l44 y44 z44 st44 hQ44
        subst l44 y44 z44
        obtain ⟨rfl, N44q, eq44⟩ := hQ44
        have N44 := Fr.app N36 N44q
        refine Goes.via (S' := (T44.setTop (mkF m 142 #[.val (.long q0), .second, .val (.long q1), .second, .val (.long q2), .second, .val (.long q3), .second, .val (.int p4), .val (.long v2), .second, .val (.long v4), .second, .val (.int kk), .val (.ref b5), .val (.ref b13), .val (.ref r36), .val (.int (0 : Int32)), .unset, .unset] [(.int (0 : Int32))]))) (fun t k => st44.trans k) ?_
        refine Goes.via (S' := (T44.setTop (mkF m 144 #[.val (.long q0), .second, .val (.long q1), .second, .val (.long q2), .second, .val (.long q3), .second, .val (.int p4), .val (.long v2), .second, .val (.long v4), .second, .val (.int kk), .val (.ref b5), .val (.ref b13), .val (.ref r36), .val (.int (0 : Int32)), .val (.int (0 : Int32)), .unset] []))) (fun t k => XS.istore X44.here hx rfl (hb hby at_142) rfl (l' := #[.val (.long q0), .second, .val (.long q1), .second, .val (.long q2), .second, .val (.long q3), .second, .val (.int p4), .val (.long v2), .second, .val (.long v4), .second, .val (.int kk), .val (.ref b5), .val (.ref b13), .val (.ref r36), .val (.int (0 : Int32)), .val (.int (0 : Int32)), .unset]) rfl k) ?_
        refine Goes.via (S' := (T44.setTop (mkF m 146 #[.val (.long q0), .second, .val (.long q1), .second, .val (.long q2), .second, .val (.long q3), .second, .val (.int p4), .val (.long v2), .second, .val (.long v4), .second, .val (.int kk), .val (.ref b5), .val (.ref b13), .val (.ref r36), .val (.int (0 : Int32)), .val (.int (0 : Int32)), .unset] [(.int kk)]))) (fun t k => XS.iload X44.here hx rfl (hb hby at_144) rfl k) ?_
        refine Goes.via (S' := (T44.setTop (mkF m 169 #[.val (.long q0), .second, .val (.long q1), .second, .val (.long q2), .second, .val (.long q3), .second, .val (.int p4), .val (.long v2), .second, .val (.long v4), .second, .val (.int kk), .val (.ref b5), .val (.ref b13), .val (.ref r36), .val (.int (0 : Int32)), .val (.int (0 : Int32)), .unset] []))) (fun t k => XS.ifYes X44.here hx rfl (pc0 := 146) (pc' := 169) rfl (hb hby at_146) rfl ((if0 _ _).trans (feq hc27).2) (by decide) (by decide) k) ?_
        refine Goes.via (S' := (T44.setTop (mkF m 170 #[.val (.long q0), .second, .val (.long q1), .second, .val (.long q2), .second, .val (.long q3), .second, .val (.int p4), .val (.long v2), .second, .val (.long v4), .second, .val (.int kk), .val (.ref b5), .val (.ref b13), .val (.ref r36), .val (.int (0 : Int32)), .val (.int (0 : Int32)), .unset] [(.int (1 : Int32))]))) (fun t k => XS.iconst X44.here hx rfl (hb hby at_169) k) ?_
        refine Goes.via (S' := (T44.setTop (mkF m 172 #[.val (.long q0), .second, .val (.long q1), .second, .val (.long q2), .second, .val (.long q3), .second, .val (.int p4), .val (.long v2), .second, .val (.long v4), .second, .val (.int kk), .val (.ref b5), .val (.ref b13), .val (.ref r36), .val (.int (0 : Int32)), .val (.int (0 : Int32)), .val (.int (1 : Int32))] []))) (fun t k => XS.istore X44.here hx rfl (hb hby at_170) rfl (l' := #[.val (.long q0), .second, .val (.long q1), .second, .val (.long q2), .second, .val (.long q3), .second, .val (.int p4), .val (.long v2), .second, .val (.long v4), .second, .val (.int kk), .val (.ref b5), .val (.ref b13), .val (.ref r36), .val (.int (0 : Int32)), .val (.int (0 : Int32)), .val (.int (1 : Int32))]) rfl k) ?_
        refine Goes.via (S' := (T44.setTop (mkF m 174 #[.val (.long q0), .second, .val (.long q1), .second, .val (.long q2), .second, .val (.long q3), .second, .val (.int p4), .val (.long v2), .second, .val (.long v4), .second, .val (.int kk), .val (.ref b5), .val (.ref b13), .val (.ref r36), .val (.int (0 : Int32)), .val (.int (0 : Int32)), .val (.int (1 : Int32))] [(.int (0 : Int32))]))) (fun t k => XS.iload X44.here hx rfl (hb hby at_172) rfl k) ?_
        refine Goes.via (S' := (T44.setTop (mkF m 176 #[.val (.long q0), .second, .val (.long q1), .second, .val (.long q2), .second, .val (.long q3), .second, .val (.int p4), .val (.long v2), .second, .val (.long v4), .second, .val (.int kk), .val (.ref b5), .val (.ref b13), .val (.ref r36), .val (.int (0 : Int32)), .val (.int (0 : Int32)), .val (.int (1 : Int32))] [(.int (0 : Int32)), (.int (0 : Int32))]))) (fun t k => XS.iload X44.here hx rfl (hb hby at_174) rfl k) ?_
        refine Goes.via (S' := (T44.setTop (mkF m 179 #[.val (.long q0), .second, .val (.long q1), .second, .val (.long q2), .second, .val (.long q3), .second, .val (.int p4), .val (.long v2), .second, .val (.long v4), .second, .val (.int kk), .val (.ref b5), .val (.ref b13), .val (.ref r36), .val (.int (0 : Int32)), .val (.int (0 : Int32)), .val (.int (1 : Int32))] []))) (fun t k => XS.icmpNo X44.here hx rfl (hb hby at_176) rfl (teq rfl).2 k) ?_
        refine Goes.via (S' := (T44.setTop (mkF m 181 #[.val (.long q0), .second, .val (.long q1), .second, .val (.long q2), .second, .val (.long q3), .second, .val (.int p4), .val (.long v2), .second, .val (.long v4), .second, .val (.int kk), .val (.ref b5), .val (.ref b13), .val (.ref r36), .val (.int (0 : Int32)), .val (.int (0 : Int32)), .val (.int (1 : Int32))] [(.int (1 : Int32))]))) (fun t k => XS.iload X44.here hx rfl (hb hby at_179) rfl k) ?_
        refine Goes.via (S' := (T44.setTop (mkF m 184 #[.val (.long q0), .second, .val (.long q1), .second, .val (.long q2), .second, .val (.long q3), .second, .val (.int p4), .val (.long v2), .second, .val (.long v4), .second, .val (.int kk), .val (.ref b5), .val (.ref b13), .val (.ref r36), .val (.int (0 : Int32)), .val (.int (0 : Int32)), .val (.int (1 : Int32))] []))) (fun t k => XS.ifNo X44.here hx rfl (hb hby at_181) rfl ((if0 _ _).trans (feq (by decide : ¬ ((1 : Int32) = (0 : Int32)))).1) k) ?_
        refine Goes.via (S' := (T44.setTop (mkF m 185 #[.val (.long q0), .second, .val (.long q1), .second, .val (.long q2), .second, .val (.long q3), .second, .val (.int p4), .val (.long v2), .second, .val (.long v4), .second, .val (.int kk), .val (.ref b5), .val (.ref b13), .val (.ref r36), .val (.int (0 : Int32)), .val (.int (0 : Int32)), .val (.int (1 : Int32))] [(.int (1 : Int32))]))) (fun t k => XS.iconst X44.here hx rfl (hb hby at_184) k) ?_
        refine Goes.via (S' := (T44.setTop (mkF m 189 #[.val (.long q0), .second, .val (.long q1), .second, .val (.long q2), .second, .val (.long q3), .second, .val (.int p4), .val (.long v2), .second, .val (.long v4), .second, .val (.int kk), .val (.ref b5), .val (.ref b13), .val (.ref r36), .val (.int (0 : Int32)), .val (.int (0 : Int32)), .val (.int (1 : Int32))] [(.int (1 : Int32))]))) (fun t k => XS.goto X44.here hx rfl (pc0 := 185) (pc' := 189) rfl (hb hby at_185) (by decide) (by decide) k) ?_
        exact own_ret X44 hx Bd.notSynchronized Bd.returns rfl (Or.inl ⟨rfl, by simp, _, rfl⟩) (hb hby at_189) eq44 ⟨rfl, N44⟩ (by decide) (by decide)
      · refine Goes.via (S' := (T21.setTop (mkF m 128 #[.val (.long q0), .second, .val (.long q1), .second, .val (.long q2), .second, .val (.long q3), .second, .val (.int p4), .val (.long v2), .second, .val (.long v4), .second, .val (.int kk), .val (.ref b5), .val (.ref b13), .unset, .unset, .unset, .unset] []))) (fun t k => XS.icmpYes X21.here hx rfl (pc0 := 113) (pc' := 128) rfl (hb hby at_113) rfl (feq hc35).2 (by decide) (by decide) k) ?_
        refine Goes.via (S' := (T21.setTop (mkF m 130 #[.val (.long q0), .second, .val (.long q1), .second, .val (.long q2), .second, .val (.long q3), .second, .val (.int p4), .val (.long v2), .second, .val (.long v4), .second, .val (.int kk), .val (.ref b5), .val (.ref b13), .unset, .unset, .unset, .unset] [(.ref b5)]))) (fun t k => XS.aload X21.here hx rfl (hb hby at_128) rfl rfl k) ?_
        refine Goes.via (S' := (T21.setTop (mkF m 132 #[.val (.long q0), .second, .val (.long q1), .second, .val (.long q2), .second, .val (.long q3), .second, .val (.int p4), .val (.long v2), .second, .val (.long v4), .second, .val (.int kk), .val (.ref b5), .val (.ref b13), .val (.ref b5), .unset, .unset, .unset] []))) (fun t k => XS.astore X21.here hx rfl (hb hby at_130) rfl rfl (l' := #[.val (.long q0), .second, .val (.long q1), .second, .val (.long q2), .second, .val (.long q3), .second, .val (.int p4), .val (.long v2), .second, .val (.long v4), .second, .val (.int kk), .val (.ref b5), .val (.ref b13), .val (.ref b5), .unset, .unset, .unset]) rfl k) ?_
        refine Goes.via (S' := (T21.setTop (mkF m 133 #[.val (.long q0), .second, .val (.long q1), .second, .val (.long q2), .second, .val (.long q3), .second, .val (.int p4), .val (.long v2), .second, .val (.long v4), .second, .val (.int kk), .val (.ref b5), .val (.ref b13), .val (.ref b5), .unset, .unset, .unset] [(.int (1 : Int32))]))) (fun t k => XS.iconst X21.here hx rfl (hb hby at_132) k) ?_
        refine Goes.via (S' := (T21.setTop (mkF m 135 #[.val (.long q0), .second, .val (.long q1), .second, .val (.long q2), .second, .val (.long q3), .second, .val (.int p4), .val (.long v2), .second, .val (.long v4), .second, .val (.int kk), .val (.ref b5), .val (.ref b13), .val (.ref b5), .val (.int (1 : Int32)), .unset, .unset] []))) (fun t k => XS.istore X21.here hx rfl (hb hby at_133) rfl (l' := #[.val (.long q0), .second, .val (.long q1), .second, .val (.long q2), .second, .val (.long q3), .second, .val (.int p4), .val (.long v2), .second, .val (.long v4), .second, .val (.int kk), .val (.ref b5), .val (.ref b13), .val (.ref b5), .val (.int (1 : Int32)), .unset, .unset]) rfl k) ?_
        refine Goes.via (S' := (T21.setTop (mkF m 137 #[.val (.long q0), .second, .val (.long q1), .second, .val (.long q2), .second, .val (.long q3), .second, .val (.int p4), .val (.long v2), .second, .val (.long v4), .second, .val (.int kk), .val (.ref b5), .val (.ref b13), .val (.ref b5), .val (.int (1 : Int32)), .unset, .unset] [(.ref b5)]))) (fun t k => XS.aload X21.here hx rfl (hb hby at_135) rfl rfl k) ?_
        refine Goes.via (S' := (T21.setTop (mkF m 139 #[.val (.long q0), .second, .val (.long q1), .second, .val (.long q2), .second, .val (.long q3), .second, .val (.int p4), .val (.long v2), .second, .val (.long v4), .second, .val (.int kk), .val (.ref b5), .val (.ref b13), .val (.ref b5), .val (.int (1 : Int32)), .unset, .unset] [(.ref b5), (.ref b5)]))) (fun t k => XS.aload X21.here hx rfl (hb hby at_137) rfl rfl k) ?_
        obtain ⟨cq45, kq45, q45a, q45b, q45c⟩ := isOf hZ rfl f23
        obtain ⟨_, _, ⟨T45, L45, k45, n45⟩, -, X45, ⟨Lc45, hQ45, l45, y45, z45⟩, st45⟩ := X21.virtualBack hx (y := (⟨"com/example/eolog/eolog/record/OffsetAndTimestamp", "equals", "(Ljava/lang/Object;)Z"⟩ : MethodName)) (z := (⟨"com/example/eolog/eolog/record/OffsetAndTimestamp", "equals", "(Ljava/lang/Object;)Z"⟩ : MethodName)) hown (mvT hZ (hw _ (List.mem_of_getElem? (i := 13) rfl))) (mvT hZ (hw _ (List.mem_of_getElem? (i := 14) rfl))) (notFace_of_selects (args := #[]) (mvT hZ (hw _ (List.mem_of_getElem? (i := 16) rfl)))) (mvT hZ (hw _ (List.mem_of_getElem? (i := 16) rfl))) (mvT hZ (hw _ (List.mem_of_getElem? (i := 15) rfl))) (by decide) (backOf (W := 0) (rm3 l Z a0 hw [] b5 b5 q0 q1 q0 q1 T21.heap n0 Z21 f23 f24 f25 f24 f25) hZ (hw _ (List.mem_of_getElem? (i := 17) rfl)) (hw _ (List.mem_of_getElem? (i := 2) rfl)) (by decide) (by decide)) q45a q45c (g := (mkF m 139 #[.val (.long q0), .second, .val (.long q1), .second, .val (.long q2), .second, .val (.long q3), .second, .val (.int p4), .val (.long v2), .second, .val (.long v4), .second, .val (.int kk), .val (.ref b5), .val (.ref b13), .val (.ref b5), .val (.int (1 : Int32)), .unset, .unset] [(.ref b5), (.ref b5)])) rfl (by rw [hml]; rfl) (Steps.refl _) (argsL := [(.ref b5)]) (rest := []) (lenOf pd_3 rfl) rfl (by show 2 * 0 + _ ≤ _; exact Nat.le_of_eq rfl) (hb hby at_139) (fun _ _ => ⟨rfl, rfl, (by decide : 2 + 0 ≤ _), (by decide : 4 + 0 ≤ _)⟩)
        dsimp only [Pt.U, Pt.locs, Pt.cells, Pt.slots] at X45 l45 y45 z45 st45 hQ45
        subst l45 y45 z45
        obtain ⟨r45, rfl, hr45, N45q, eq45⟩ := hQ45
        have N45 := Fr.app N21 N45q
        refine Goes.via (S' := (T45.setTop (mkF m 142 #[.val (.long q0), .second, .val (.long q1), .second, .val (.long q2), .second, .val (.long q3), .second, .val (.int p4), .val (.long v2), .second, .val (.long v4), .second, .val (.int kk), .val (.ref b5), .val (.ref b13), .val (.ref b5), .val (.int (1 : Int32)), .unset, .unset] [(.int r45)]))) (fun t k => st45.trans k) ?_
        refine Goes.via (S' := (T45.setTop (mkF m 144 #[.val (.long q0), .second, .val (.long q1), .second, .val (.long q2), .second, .val (.long q3), .second, .val (.int p4), .val (.long v2), .second, .val (.long v4), .second, .val (.int kk), .val (.ref b5), .val (.ref b13), .val (.ref b5), .val (.int (1 : Int32)), .val (.int r45), .unset] []))) (fun t k => XS.istore X45.here hx rfl (hb hby at_142) rfl (l' := #[.val (.long q0), .second, .val (.long q1), .second, .val (.long q2), .second, .val (.long q3), .second, .val (.int p4), .val (.long v2), .second, .val (.long v4), .second, .val (.int kk), .val (.ref b5), .val (.ref b13), .val (.ref b5), .val (.int (1 : Int32)), .val (.int r45), .unset]) rfl k) ?_
        refine Goes.via (S' := (T45.setTop (mkF m 146 #[.val (.long q0), .second, .val (.long q1), .second, .val (.long q2), .second, .val (.long q3), .second, .val (.int p4), .val (.long v2), .second, .val (.long v4), .second, .val (.int kk), .val (.ref b5), .val (.ref b13), .val (.ref b5), .val (.int (1 : Int32)), .val (.int r45), .unset] [(.int kk)]))) (fun t k => XS.iload X45.here hx rfl (hb hby at_144) rfl k) ?_
        refine Goes.via (S' := (T45.setTop (mkF m 169 #[.val (.long q0), .second, .val (.long q1), .second, .val (.long q2), .second, .val (.long q3), .second, .val (.int p4), .val (.long v2), .second, .val (.long v4), .second, .val (.int kk), .val (.ref b5), .val (.ref b13), .val (.ref b5), .val (.int (1 : Int32)), .val (.int r45), .unset] []))) (fun t k => XS.ifYes X45.here hx rfl (pc0 := 146) (pc' := 169) rfl (hb hby at_146) rfl ((if0 _ _).trans (feq hc27).2) (by decide) (by decide) k) ?_
        refine Goes.via (S' := (T45.setTop (mkF m 170 #[.val (.long q0), .second, .val (.long q1), .second, .val (.long q2), .second, .val (.long q3), .second, .val (.int p4), .val (.long v2), .second, .val (.long v4), .second, .val (.int kk), .val (.ref b5), .val (.ref b13), .val (.ref b5), .val (.int (1 : Int32)), .val (.int r45), .unset] [(.int (1 : Int32))]))) (fun t k => XS.iconst X45.here hx rfl (hb hby at_169) k) ?_
        refine Goes.via (S' := (T45.setTop (mkF m 172 #[.val (.long q0), .second, .val (.long q1), .second, .val (.long q2), .second, .val (.long q3), .second, .val (.int p4), .val (.long v2), .second, .val (.long v4), .second, .val (.int kk), .val (.ref b5), .val (.ref b13), .val (.ref b5), .val (.int (1 : Int32)), .val (.int r45), .val (.int (1 : Int32))] []))) (fun t k => XS.istore X45.here hx rfl (hb hby at_170) rfl (l' := #[.val (.long q0), .second, .val (.long q1), .second, .val (.long q2), .second, .val (.long q3), .second, .val (.int p4), .val (.long v2), .second, .val (.long v4), .second, .val (.int kk), .val (.ref b5), .val (.ref b13), .val (.ref b5), .val (.int (1 : Int32)), .val (.int r45), .val (.int (1 : Int32))]) rfl k) ?_
        refine Goes.via (S' := (T45.setTop (mkF m 174 #[.val (.long q0), .second, .val (.long q1), .second, .val (.long q2), .second, .val (.long q3), .second, .val (.int p4), .val (.long v2), .second, .val (.long v4), .second, .val (.int kk), .val (.ref b5), .val (.ref b13), .val (.ref b5), .val (.int (1 : Int32)), .val (.int r45), .val (.int (1 : Int32))] [(.int r45)]))) (fun t k => XS.iload X45.here hx rfl (hb hby at_172) rfl k) ?_
        refine Goes.via (S' := (T45.setTop (mkF m 176 #[.val (.long q0), .second, .val (.long q1), .second, .val (.long q2), .second, .val (.long q3), .second, .val (.int p4), .val (.long v2), .second, .val (.long v4), .second, .val (.int kk), .val (.ref b5), .val (.ref b13), .val (.ref b5), .val (.int (1 : Int32)), .val (.int r45), .val (.int (1 : Int32))] [(.int (1 : Int32)), (.int r45)]))) (fun t k => XS.iload X45.here hx rfl (hb hby at_174) rfl k) ?_
        refine Goes.via (S' := (T45.setTop (mkF m 179 #[.val (.long q0), .second, .val (.long q1), .second, .val (.long q2), .second, .val (.long q3), .second, .val (.int p4), .val (.long v2), .second, .val (.long v4), .second, .val (.int kk), .val (.ref b5), .val (.ref b13), .val (.ref b5), .val (.int (1 : Int32)), .val (.int r45), .val (.int (1 : Int32))] []))) (fun t k => XS.icmpNo X45.here hx rfl (hb hby at_176) rfl (teq (by simp [hv2, hv4, hr45] : (r45 = (1 : Int32)))).2 k) ?_
        refine Goes.via (S' := (T45.setTop (mkF m 181 #[.val (.long q0), .second, .val (.long q1), .second, .val (.long q2), .second, .val (.long q3), .second, .val (.int p4), .val (.long v2), .second, .val (.long v4), .second, .val (.int kk), .val (.ref b5), .val (.ref b13), .val (.ref b5), .val (.int (1 : Int32)), .val (.int r45), .val (.int (1 : Int32))] [(.int (1 : Int32))]))) (fun t k => XS.iload X45.here hx rfl (hb hby at_179) rfl k) ?_
        refine Goes.via (S' := (T45.setTop (mkF m 184 #[.val (.long q0), .second, .val (.long q1), .second, .val (.long q2), .second, .val (.long q3), .second, .val (.int p4), .val (.long v2), .second, .val (.long v4), .second, .val (.int kk), .val (.ref b5), .val (.ref b13), .val (.ref b5), .val (.int (1 : Int32)), .val (.int r45), .val (.int (1 : Int32))] []))) (fun t k => XS.ifNo X45.here hx rfl (hb hby at_181) rfl ((if0 _ _).trans (feq (by decide : ¬ ((1 : Int32) = (0 : Int32)))).1) k) ?_
        refine Goes.via (S' := (T45.setTop (mkF m 185 #[.val (.long q0), .second, .val (.long q1), .second, .val (.long q2), .second, .val (.long q3), .second, .val (.int p4), .val (.long v2), .second, .val (.long v4), .second, .val (.int kk), .val (.ref b5), .val (.ref b13), .val (.ref b5), .val (.int (1 : Int32)), .val (.int r45), .val (.int (1 : Int32))] [(.int (1 : Int32))]))) (fun t k => XS.iconst X45.here hx rfl (hb hby at_184) k) ?_
        refine Goes.via (S' := (T45.setTop (mkF m 189 #[.val (.long q0), .second, .val (.long q1), .second, .val (.long q2), .second, .val (.long q3), .second, .val (.int p4), .val (.long v2), .second, .val (.long v4), .second, .val (.int kk), .val (.ref b5), .val (.ref b13), .val (.ref b5), .val (.int (1 : Int32)), .val (.int r45), .val (.int (1 : Int32))] [(.int (1 : Int32))]))) (fun t k => XS.goto X45.here hx rfl (pc0 := 185) (pc' := 189) rfl (hb hby at_185) (by decide) (by decide) k) ?_
        exact own_ret X45 hx Bd.notSynchronized Bd.returns rfl (Or.inl ⟨rfl, by simp, _, rfl⟩) (hb hby at_189) eq45 ⟨rfl, N45⟩ (by decide) (by decide)
set_option maxRecDepth 65536 in
set_option maxHeartbeats 40000000 in
theorem comes_1 {Post : Tables → Env → Array Value → State → Outcome → State → Prop} (hpost : ∀ tb e args s v u, (limb_1_1.after args s (.returned v) u = true ∧ limb_1_2.after args s (.returned v) u = true ∧ True) → FrameEnd s (.returned v) u (Jvm.fieldLocs frame_1_writes args s ++ Jvm.arrayLocs frame_1_arrays args s ++ Jvm.staticLocs frame_1_statics s) 16 128 → Post tb e args s (.returned v) u) :
    ArmFor flags0 classFile x code maxLocals ret World_1 tables_1 room_1 Calls_1 rest_1 Pre_1 Post := by
  intro l hfl _ _ p e ha hc hk s m args below hf hA hF happ hP
  obtain ⟨hcalls, hrest, hpre⟩ := hP
  obtain ⟨-, -, -, hnamed, -, -, -, hat⟩ := (Spec.applies_iff hf).mp happ
  obtain ⟨hg, hn⟩ := and_e (Cond.before_iff.mp (show (Jvm.Cond.and given_1 narrow_1).before args s = true from hpre))
  obtain ⟨g1, g2⟩ := and_e hg
  obtain ⟨g3, g4⟩ := and_e g2
  obtain ⟨g5, g6⟩ := and_e g4
  obtain ⟨g7, g8⟩ := and_e g6
  obtain ⟨g9, g10⟩ := and_e g8
  obtain ⟨w0, w1, w2, w3, w4, rfl⟩ : ∃ w0 w1 w2 w3 w4 : Value, args = #[w0, w1, w2, w3, w4] := by
    have hs : args.size = 5 := by simpa [Cond.value, given_1] using g1
    obtain ⟨L⟩ := args
    match L, hs with
    | [w0, w1, w2, w3, w4], _ => exact ⟨w0, w1, w2, w3, w4, rfl⟩
  have hw := fun d (hd : d ∈ tables_1) => atoms_spec (ws := Jvm.Cond.code x code maxLocals ret :: tables_1) hat d (List.mem_cons_of_mem _ hd)
  have hfit : Fit s := fun {y c} hc i hi => by
    obtain ⟨ha, rfl⟩ := Array.getElem?_eq_some_iff.mp hc
    have q := List.all_eq_true.mp ((Array.all_eq_true_iff_forall_mem.mp hF) _ (Array.getElem_mem ha)) i (List.mem_range.mpr hi)
    simpa [Array.getElem?_eq_getElem hi] using q
  obtain ⟨hsets, hown0⟩ := atoms_of _ (rest_1_c_eq ▸ (show rest_1_c.before _ s = true from hrest))
  have hr0 := Cond.before_iff.mp hown0
  obtain ⟨i0, ei0⟩ := isL_v g3
  obtain rfl : w0 = (.long i0) := Option.some.inj ei0
  obtain ⟨i1, ei1⟩ := isL_v g5
  obtain rfl : w1 = (.long i1) := Option.some.inj ei1
  obtain ⟨i2, ei2⟩ := isL_v g7
  obtain rfl : w2 = (.long i2) := Option.some.inj ei2
  obtain ⟨i3, ei3⟩ := isL_v g9
  obtain rfl : w3 = (.long i3) := Option.some.inj ei3
  obtain ⟨i4, ei4⟩ := is_v g10
  obtain rfl : w4 = (.int i4) := Option.some.inj ei4
  obtain ⟨yc, SC, HC⟩ := own_cacheStart (hsets _ (List.mem_of_getElem? (i := 1) rfl)) (hsets _ (List.mem_of_getElem? (i := 2) rfl)) (hsets _ (List.mem_of_getElem? (i := 3) rfl)) (hsets _ (List.mem_of_getElem? (i := 4) rfl)) (hsets _ (List.mem_of_getElem? (i := 5) rfl))
  obtain ⟨n, o, h1, h2, h3, _, L, rfl, ⟨rfl, N⟩, hq⟩ := rm0 l s _ hw tables_1 i0 i1 i2 i3 i4 yc s.heap s.heap.size (Nat.le_refl _) SC HC p e ha hc hk s m _ below hf ((Spec.applies_iff_loose hf).mp happ).1 ⟨rfl, State.Warmed39.refl s, rfl⟩ trivial
  refine ⟨n, _, h1, h2, h3, hpost _ _ _ _ _ _ ⟨Cond.after_iff.mpr rfl, Cond.after_iff.mpr (eq_i res_at (Term.int_eval (1)) rfl), trivial⟩ ⟨hq.1, hq.2.1, (hq.2.2.sift fun y hy => Or.inr (N y hy)).mono (by decide) (by decide)⟩⟩
theorem main_1_1 : Claimed_1_1 := comes_1 fun _ _ _ _ _ _ h hF => ⟨h.1, hF⟩
theorem main_1_2 : Claimed_1_2 := comes_1 fun _ _ _ _ _ _ h hF => ⟨h.2.1, hF⟩
end Jvm.Pilot.@@N@@
namespace Jvm.Pilot.@@N@@
open Jvm Jvm.ClassFile Sem Op Lib Jvm.Free Jvm.Stand Jvm.Pilot.@@N@@.Jvm.D
/-! MADE BY PROGRAM (witnessworld.py) out of the Statement's table words and the real class files: 16 classes; the members and pool entries that the words name. The judged class is class 1, her method 1. -/
namespace start1
open Jvm.ClassFile
def u (s : String) : CpInfo := .utf8 (stringToUtf16 s)
/-- a pool by its gaps: so many unusable entries, then the entry; so many at the end -/
def gap : Nat → List CpInfo → List CpInfo
  | 0, r => r
  | n + 1, r => .unusable :: gap n r
def poolList (es : List (Nat × CpInfo)) (last : Nat) : List CpInfo := es.foldr (fun e r => gap e.1 (e.2 :: r)) (gap last [])
def pool (es : List (Nat × CpInfo)) (last : Nat) : Array CpInfo := ⟨poolList es last⟩
def fileOf (pool : Array CpInfo) (this : Nat) (attrs : Array Attribute := #[]) (ms : Array MethodInfo := #[]) (fl : Nat := 33) (sup : Nat := 0) (ifs : Array Nat := #[]) (fds : Array FieldInfo := #[]) : ClassFile where
  minorVersion := 0
  majorVersion := 65
  constantPool := pool
  accessFlags := fl
  thisClass := this
  superClass := sup
  interfaces := ifs
  fields := fds
  methods := ms
  attributes := attrs
def plain (name : String) (sup : Option ClassId) : Class where
  name := name
  kind := .ordinary
  loader := none
  accessFlags := 33
  super := sup
  interfaces := #[]
  cf := none
  fields := #[]
  methods := #[]
  instanceTypes := #[]
  staticTypes := #[]
  resolved := #[]
  callSites := []
  init := .initialized
  statics := none
  mirror := none

def pool0 : Array CpInfo := pool [(5, u "<init>"), (0, u "()V"), (1, .class_ 10), (1, u "java/lang/Object")] 113

def k0c0 : Code := { maxStack := 0, maxLocals := 1, code := object_method_1_code, exceptionTable := #[], attributes := #[] }
def k0m0 : Method := { name := "<init>", desc := "()V", sig := { parameters := [], returnType := none }, accessFlags := 1, code := some k0c0 }
/-- java/lang/Object -/
def k0 : Class := { plain "java/lang/Object" none with
  accessFlags := 33
  interfaces := #[]
  cf := some (fileOf pool0 8 #[] #[{ accessFlags := 1, nameIndex := 5, descriptorIndex := 6, attributes := #[] }] 33 0 #[] #[])
  fields := #[]
  methods := #[k0m0]
  instanceTypes := #[]
  staticTypes := #[]
  resolved := Array.replicate 124 none
  statics := none }

def pool1 : Array CpInfo := pool [(2, .class_ 4), (1, u "java/lang/Object"), (0, u "<init>"), (0, u "()V"), (0, .class_ 8), (0, u "com/example/eolog/eolog/record/OffsetAndTimestamp"), (0, .methodref 7 10), (0, .nameAndType 5 11), (0, u "(JJ)V"), (0, .methodref 13 14), (0, .class_ 15), (0, .nameAndType 16 17), (0, u "java/lang/Long"), (0, u "valueOf"), (0, u "(J)Ljava/lang/Long;"), (0, .methodref 7 19), (0, .nameAndType 20 21), (0, u "equals"), (0, u "(Ljava/lang/Object;)Z"), (0, .class_ 23), (0, u "com/example/eolog/eolog/record/OffsetAndTimestampEqualsPinLaw"), (2, u "law"), (0, u "(JJJJI)Z")] 3

def k1m0 : Method := { name := "<init>", desc := "()V", sig := { parameters := [], returnType := none }, accessFlags := 1, code := none }
def k1c1 : Code := { maxStack := 6, maxLocals := 20, code := code, exceptionTable := #[], attributes := #[] }
def k1m1 : Method := { name := "law", desc := "(JJJJI)Z", sig := { parameters := [.long, .long, .long, .long, .int], returnType := some .boolean }, accessFlags := 9, code := some k1c1 }
/-- com/example/eolog/eolog/record/OffsetAndTimestampEqualsPinLaw -/
def k1 : Class := { plain "com/example/eolog/eolog/record/OffsetAndTimestampEqualsPinLaw" (some 0) with
  accessFlags := 49
  interfaces := #[]
  cf := some (fileOf pool1 22 #[] #[{ accessFlags := 1, nameIndex := 5, descriptorIndex := 6, attributes := #[] }, { accessFlags := 9, nameIndex := 26, descriptorIndex := 27, attributes := #[] }] 49 2 #[] #[])
  fields := #[]
  methods := #[k1m0, k1m1]
  instanceTypes := #[]
  staticTypes := #[]
  resolved := Array.replicate 31 none
  statics := none }

def pool2 : Array CpInfo := pool [(1, .methodref 2 3), (0, .class_ 4), (0, .nameAndType 5 6), (0, u "java/lang/Object"), (0, u "<init>"), (0, u "()V"), (0, .fieldref 8 9), (0, .class_ 10), (0, .nameAndType 11 12), (0, u "com/example/eolog/eolog/record/OffsetAndTimestamp"), (0, u "offset"), (0, u "J"), (0, .fieldref 8 14), (0, .nameAndType 15 12), (0, u "timestamp"), (10, u "(JJ)V"), (3, u "equals"), (0, u "(Ljava/lang/Object;)Z")] 21

def k2c0 : Code := { maxStack := 3, maxLocals := 5, code := prog_92_method_1_code, exceptionTable := #[], attributes := #[] }
def k2m0 : Method := { name := "<init>", desc := "(JJ)V", sig := { parameters := [.long, .long], returnType := none }, accessFlags := 1, code := some k2c0 }
def k2c1 : Code := { maxStack := 4, maxLocals := 3, code := prog_92_method_4_code, exceptionTable := #[], attributes := #[] }
def k2m1 : Method := { name := "equals", desc := "(Ljava/lang/Object;)Z", sig := { parameters := [(.object "java/lang/Object")], returnType := some .boolean }, accessFlags := 1, code := some k2c1 }
/-- com/example/eolog/eolog/record/OffsetAndTimestamp -/
def k2 : Class := { plain "com/example/eolog/eolog/record/OffsetAndTimestamp" (some 0) with
  accessFlags := 49
  interfaces := #[]
  cf := some (fileOf pool2 8 #[] #[{ accessFlags := 1, nameIndex := 5, descriptorIndex := 26, attributes := #[] }, { accessFlags := 1, nameIndex := 30, descriptorIndex := 31, attributes := #[] }] 49 2 #[] #[{ accessFlags := 18, nameIndex := 11, descriptorIndex := 12, attributes := #[] }, { accessFlags := 18, nameIndex := 15, descriptorIndex := 12, attributes := #[] }])
  fields := #[{ name := "offset", type := .long, accessFlags := 18, slot := 0, constantValue := 0 }, { name := "timestamp", type := .long, accessFlags := 18, slot := 1, constantValue := 0 }]
  methods := #[k2m0, k2m1]
  instanceTypes := #[.long, .long]
  staticTypes := #[]
  resolved := Array.replicate 53 none
  statics := none }

def pool3 : Array CpInfo := pool [(1, .class_ 2), (0, u "java/io/Serializable"), (0, .class_ 4), (0, u "java/lang/Object")] 2

/-- java/io/Serializable -/
def k3 : Class := { plain "java/io/Serializable" (some 0) with
  accessFlags := 1537
  interfaces := #[]
  cf := some (fileOf pool3 1 #[] #[] 1537 3 #[] #[])
  fields := #[]
  methods := #[]
  instanceTypes := #[]
  staticTypes := #[]
  resolved := Array.replicate 7 none
  statics := none }

def pool4 : Array CpInfo := pool [(1, .methodref 2 3), (0, .class_ 4), (0, .nameAndType 5 6), (0, u "java/lang/Object"), (0, u "<init>"), (0, u "()V"), (1, .class_ 10), (1, u "java/lang/Number"), (2, .class_ 14), (0, u "java/io/Serializable"), (0, u "serialVersionUID"), (0, u "J")] 20

def k4c0 : Code := { maxStack := 1, maxLocals := 1, code := jdk_18_method_1_code, exceptionTable := #[], attributes := #[] }
def k4m0 : Method := { name := "<init>", desc := "()V", sig := { parameters := [], returnType := none }, accessFlags := 1, code := some k4c0 }
/-- java/lang/Number -/
def k4 : Class := { plain "java/lang/Number" (some 0) with
  accessFlags := 1057
  interfaces := #[3]
  cf := some (fileOf pool4 8 #[] #[{ accessFlags := 1, nameIndex := 5, descriptorIndex := 6, attributes := #[] }] 1057 2 #[13] #[{ accessFlags := 26, nameIndex := 15, descriptorIndex := 16, attributes := #[] }])
  fields := #[{ name := "serialVersionUID", type := .long, accessFlags := 26, slot := 0, constantValue := 0 }]
  methods := #[k4m0]
  instanceTypes := #[]
  staticTypes := #[.long]
  resolved := Array.replicate 37 none
  statics := none }

def pool5 : Array CpInfo := pool [(1, .class_ 2), (0, u "java/lang/Comparable"), (0, .class_ 4), (0, u "java/lang/Object")] 7

/-- java/lang/Comparable -/
def k5 : Class := { plain "java/lang/Comparable" (some 0) with
  accessFlags := 1537
  interfaces := #[]
  cf := some (fileOf pool5 1 #[] #[] 1537 3 #[] #[])
  fields := #[]
  methods := #[]
  instanceTypes := #[]
  staticTypes := #[]
  resolved := Array.replicate 12 none
  statics := none }

def pool6 : Array CpInfo := pool [(1, .class_ 2), (0, u "java/lang/constant/Constable"), (0, .class_ 4), (0, u "java/lang/Object")] 6

/-- java/lang/constant/Constable -/
def k6 : Class := { plain "java/lang/constant/Constable" (some 0) with
  accessFlags := 1537
  interfaces := #[]
  cf := some (fileOf pool6 1 #[] #[] 1537 3 #[] #[])
  fields := #[]
  methods := #[]
  instanceTypes := #[]
  staticTypes := #[]
  resolved := Array.replicate 11 none
  statics := none }

def pool7 : Array CpInfo := pool [(1, .class_ 2), (0, u "java/lang/constant/ConstantDesc"), (0, .class_ 4), (0, u "java/lang/Object")] 32

/-- java/lang/constant/ConstantDesc -/
def k7 : Class := { plain "java/lang/constant/ConstantDesc" (some 0) with
  accessFlags := 1537
  interfaces := #[]
  cf := some (fileOf pool7 1 #[] #[] 1537 3 #[] #[])
  fields := #[]
  methods := #[]
  instanceTypes := #[]
  staticTypes := #[]
  resolved := Array.replicate 37 none
  statics := none }

def pool8 : Array CpInfo := pool [(1, .class_ 2), (0, u "java/lang/Long"), (55, .nameAndType 59 60), (0, u "<init>"), (0, u "()V"), (24, u "valueOf"), (143, u "(J)Ljava/lang/Long;"), (0, .long 18446744073709551488), (1, .long 127), (1, .fieldref 235 236), (0, .class_ 237), (0, .nameAndType 238 239), (0, u "java/lang/Long$LongCache"), (0, u "cache"), (0, u "[Ljava/lang/Long;"), (0, .methodref 1 241), (0, .nameAndType 59 242), (0, u "(J)V"), (27, .methodref 271 58), (0, .class_ 272), (0, u "java/lang/Number"), (0, .fieldref 1 274), (0, .nameAndType 275 276), (0, u "value"), (0, u "J"), (84, u "TYPE"), (0, u "Ljava/lang/Class;"), (0, .class_ 364), (0, u "java/lang/Comparable"), (0, .class_ 366), (0, u "java/lang/constant/Constable"), (0, .class_ 368), (0, u "java/lang/constant/ConstantDesc"), (0, u "MIN_VALUE"), (1, u "MAX_VALUE"), (4, u "SIZE"), (0, u "I"), (1, u "BYTES"), (1, u "serialVersionUID")] 142

def k8c0 : Code := { maxStack := 4, maxLocals := 3, code := jdk_35_method_24_code, exceptionTable := #[], attributes := #[] }
def k8m0 : Method := { name := "valueOf", desc := "(J)Ljava/lang/Long;", sig := { parameters := [.long], returnType := some (.object "java/lang/Long") }, accessFlags := 9, code := some k8c0 }
def k8c1 : Code := { maxStack := 3, maxLocals := 3, code := jdk_35_method_26_code, exceptionTable := #[], attributes := #[] }
def k8m1 : Method := { name := "<init>", desc := "(J)V", sig := { parameters := [.long], returnType := none }, accessFlags := 1, code := some k8c1 }
/-- java/lang/Long -/
def k8 : Class := { plain "java/lang/Long" (some 4) with
  accessFlags := 49
  interfaces := #[5, 6, 7]
  cf := some (fileOf pool8 1 #[.nestMembers #[235]] #[{ accessFlags := 9, nameIndex := 85, descriptorIndex := 229, attributes := #[] }, { accessFlags := 1, nameIndex := 59, descriptorIndex := 242, attributes := #[] }] 49 271 #[363, 365, 367] #[{ accessFlags := 25, nameIndex := 369, descriptorIndex := 276, attributes := #[] }, { accessFlags := 25, nameIndex := 371, descriptorIndex := 276, attributes := #[] }, { accessFlags := 25, nameIndex := 361, descriptorIndex := 362, attributes := #[] }, { accessFlags := 18, nameIndex := 275, descriptorIndex := 276, attributes := #[] }, { accessFlags := 25, nameIndex := 376, descriptorIndex := 377, attributes := #[] }, { accessFlags := 25, nameIndex := 379, descriptorIndex := 377, attributes := #[] }, { accessFlags := 26, nameIndex := 381, descriptorIndex := 276, attributes := #[] }])
  fields := #[{ name := "MIN_VALUE", type := .long, accessFlags := 25, slot := 0, constantValue := 0 }, { name := "MAX_VALUE", type := .long, accessFlags := 25, slot := 1, constantValue := 0 }, { name := "TYPE", type := (.object "java/lang/Class"), accessFlags := 25, slot := 2, constantValue := 0 }, { name := "value", type := .long, accessFlags := 18, slot := 0, constantValue := 0 }, { name := "SIZE", type := .int, accessFlags := 25, slot := 3, constantValue := 0 }, { name := "BYTES", type := .int, accessFlags := 25, slot := 4, constantValue := 0 }, { name := "serialVersionUID", type := .long, accessFlags := 26, slot := 5, constantValue := 0 }]
  methods := #[k8m0, k8m1]
  instanceTypes := #[.long]
  staticTypes := #[.long, .long, (.object "java/lang/Class"), .int, .int, .long]
  resolved := Array.replicate 524 none
  statics := none }

def pool9 : Array CpInfo := pool [(2, .class_ 4), (1, u "java/lang/Object"), (0, u "<init>"), (0, u "()V"), (0, .class_ 8), (0, u "java/lang/Long"), (7, .class_ 18), (1, u "java/lang/Long$LongCache"), (0, u "$assertionsDisabled"), (0, u "Z"), (8, u "archivedCache"), (0, u "[Ljava/lang/Long;"), (7, u "cache")] 24

def k9m0 : Method := { name := "<init>", desc := "()V", sig := { parameters := [], returnType := none }, accessFlags := 2, code := none }
/-- java/lang/Long$LongCache -/
def k9 : Class := { plain "java/lang/Long$LongCache" (some 0) with
  accessFlags := 48
  interfaces := #[]
  cf := some (fileOf pool9 16 #[.nestHost 7] #[{ accessFlags := 2, nameIndex := 5, descriptorIndex := 6, attributes := #[] }] 48 2 #[] #[{ accessFlags := 24, nameIndex := 38, descriptorIndex := 30, attributes := #[] }, { accessFlags := 8, nameIndex := 29, descriptorIndex := 30, attributes := #[] }, { accessFlags := 4120, nameIndex := 19, descriptorIndex := 20, attributes := #[] }])
  fields := #[{ name := "cache", type := (.array (.object "java/lang/Long")), accessFlags := 24, slot := 0, constantValue := 0 }, { name := "archivedCache", type := (.array (.object "java/lang/Long")), accessFlags := 8, slot := 1, constantValue := 0 }, { name := "$assertionsDisabled", type := .boolean, accessFlags := 4120, slot := 2, constantValue := 0 }]
  methods := #[k9m0]
  instanceTypes := #[]
  staticTypes := #[(.array (.object "java/lang/Long")), (.array (.object "java/lang/Long")), .boolean]
  resolved := Array.replicate 63 none
  statics := some 0 }

def pool10 : Array CpInfo := pool [(1, u "java/lang/Cloneable"), (0, .class_ 1), (0, u "java/lang/Object"), (0, .class_ 3)] 3

/-- java/lang/Cloneable -/
def k10 : Class := { plain "java/lang/Cloneable" (some 0) with
  accessFlags := 1537
  interfaces := #[]
  cf := some (fileOf pool10 2 #[] #[] 1537 4 #[] #[])
  fields := #[]
  methods := #[]
  instanceTypes := #[]
  staticTypes := #[]
  resolved := Array.replicate 8 none
  statics := none }

/-- the primitive byte -/
def k11 : Class := { plain "byte" none with kind := .primitive 'B', accessFlags := 0x411 }
/-- [B -/
def k12 : Class := { plain "[B" (some 0) with kind := .array 11 .byte, interfaces := #[10, 3], accessFlags := 1041 }

/-- the primitive int -/
def k13 : Class := { plain "int" none with kind := .primitive 'I', accessFlags := 0x411 }
/-- [I -/
def k14 : Class := { plain "[I" (some 0) with kind := .array 13 .int, interfaces := #[10, 3], accessFlags := 1041 }

/-- [Ljava/lang/Long; -/
def k15 : Class := { plain "[Ljava/lang/Long;" (some 0) with kind := .array 8 (.object "java/lang/Long"), interfaces := #[10, 3], accessFlags := 1041 }

def heap : Heap := #[{ cls := 9, slots := #[.ref 1, .null, .int 0], vm := .statics 9 },
  { cls := 15, slots := #[.ref 2, .ref 3, .ref 4, .ref 5, .ref 6, .ref 7, .ref 8, .ref 9, .ref 10, .ref 11, .ref 12, .ref 13, .ref 14, .ref 15, .ref 16, .ref 17, .ref 18, .ref 19, .ref 20, .ref 21, .ref 22, .ref 23, .ref 24, .ref 25, .ref 26, .ref 27, .ref 28, .ref 29, .ref 30, .ref 31, .ref 32, .ref 33, .ref 34, .ref 35, .ref 36, .ref 37, .ref 38, .ref 39, .ref 40, .ref 41, .ref 42, .ref 43, .ref 44, .ref 45, .ref 46, .ref 47, .ref 48, .ref 49, .ref 50, .ref 51, .ref 52, .ref 53, .ref 54, .ref 55, .ref 56, .ref 57, .ref 58, .ref 59, .ref 60, .ref 61, .ref 62, .ref 63, .ref 64, .ref 65, .ref 66, .ref 67, .ref 68, .ref 69, .ref 70, .ref 71, .ref 72, .ref 73, .ref 74, .ref 75, .ref 76, .ref 77, .ref 78, .ref 79, .ref 80, .ref 81, .ref 82, .ref 83, .ref 84, .ref 85, .ref 86, .ref 87, .ref 88, .ref 89, .ref 90, .ref 91, .ref 92, .ref 93, .ref 94, .ref 95, .ref 96, .ref 97, .ref 98, .ref 99, .ref 100, .ref 101, .ref 102, .ref 103, .ref 104, .ref 105, .ref 106, .ref 107, .ref 108, .ref 109, .ref 110, .ref 111, .ref 112, .ref 113, .ref 114, .ref 115, .ref 116, .ref 117, .ref 118, .ref 119, .ref 120, .ref 121, .ref 122, .ref 123, .ref 124, .ref 125, .ref 126, .ref 127, .ref 128, .ref 129, .ref 130, .ref 131, .ref 132, .ref 133, .ref 134, .ref 135, .ref 136, .ref 137, .ref 138, .ref 139, .ref 140, .ref 141, .ref 142, .ref 143, .ref 144, .ref 145, .ref 146, .ref 147, .ref 148, .ref 149, .ref 150, .ref 151, .ref 152, .ref 153, .ref 154, .ref 155, .ref 156, .ref 157, .ref 158, .ref 159, .ref 160, .ref 161, .ref 162, .ref 163, .ref 164, .ref 165, .ref 166, .ref 167, .ref 168, .ref 169, .ref 170, .ref 171, .ref 172, .ref 173, .ref 174, .ref 175, .ref 176, .ref 177, .ref 178, .ref 179, .ref 180, .ref 181, .ref 182, .ref 183, .ref 184, .ref 185, .ref 186, .ref 187, .ref 188, .ref 189, .ref 190, .ref 191, .ref 192, .ref 193, .ref 194, .ref 195, .ref 196, .ref 197, .ref 198, .ref 199, .ref 200, .ref 201, .ref 202, .ref 203, .ref 204, .ref 205, .ref 206, .ref 207, .ref 208, .ref 209, .ref 210, .ref 211, .ref 212, .ref 213, .ref 214, .ref 215, .ref 216, .ref 217, .ref 218, .ref 219, .ref 220, .ref 221, .ref 222, .ref 223, .ref 224, .ref 225, .ref 226, .ref 227, .ref 228, .ref 229, .ref 230, .ref 231, .ref 232, .ref 233, .ref 234, .ref 235, .ref 236, .ref 237, .ref 238, .ref 239, .ref 240, .ref 241, .ref 242, .ref 243, .ref 244, .ref 245, .ref 246, .ref 247, .ref 248, .ref 249, .ref 250, .ref 251, .ref 252, .ref 253, .ref 254, .ref 255, .ref 256, .ref 257], vm := .none },
  { cls := 8, slots := #[.long (-128)], vm := .none },
  { cls := 8, slots := #[.long (-127)], vm := .none },
  { cls := 8, slots := #[.long (-126)], vm := .none },
  { cls := 8, slots := #[.long (-125)], vm := .none },
  { cls := 8, slots := #[.long (-124)], vm := .none },
  { cls := 8, slots := #[.long (-123)], vm := .none },
  { cls := 8, slots := #[.long (-122)], vm := .none },
  { cls := 8, slots := #[.long (-121)], vm := .none },
  { cls := 8, slots := #[.long (-120)], vm := .none },
  { cls := 8, slots := #[.long (-119)], vm := .none },
  { cls := 8, slots := #[.long (-118)], vm := .none },
  { cls := 8, slots := #[.long (-117)], vm := .none },
  { cls := 8, slots := #[.long (-116)], vm := .none },
  { cls := 8, slots := #[.long (-115)], vm := .none },
  { cls := 8, slots := #[.long (-114)], vm := .none },
  { cls := 8, slots := #[.long (-113)], vm := .none },
  { cls := 8, slots := #[.long (-112)], vm := .none },
  { cls := 8, slots := #[.long (-111)], vm := .none },
  { cls := 8, slots := #[.long (-110)], vm := .none },
  { cls := 8, slots := #[.long (-109)], vm := .none },
  { cls := 8, slots := #[.long (-108)], vm := .none },
  { cls := 8, slots := #[.long (-107)], vm := .none },
  { cls := 8, slots := #[.long (-106)], vm := .none },
  { cls := 8, slots := #[.long (-105)], vm := .none },
  { cls := 8, slots := #[.long (-104)], vm := .none },
  { cls := 8, slots := #[.long (-103)], vm := .none },
  { cls := 8, slots := #[.long (-102)], vm := .none },
  { cls := 8, slots := #[.long (-101)], vm := .none },
  { cls := 8, slots := #[.long (-100)], vm := .none },
  { cls := 8, slots := #[.long (-99)], vm := .none },
  { cls := 8, slots := #[.long (-98)], vm := .none },
  { cls := 8, slots := #[.long (-97)], vm := .none },
  { cls := 8, slots := #[.long (-96)], vm := .none },
  { cls := 8, slots := #[.long (-95)], vm := .none },
  { cls := 8, slots := #[.long (-94)], vm := .none },
  { cls := 8, slots := #[.long (-93)], vm := .none },
  { cls := 8, slots := #[.long (-92)], vm := .none },
  { cls := 8, slots := #[.long (-91)], vm := .none },
  { cls := 8, slots := #[.long (-90)], vm := .none },
  { cls := 8, slots := #[.long (-89)], vm := .none },
  { cls := 8, slots := #[.long (-88)], vm := .none },
  { cls := 8, slots := #[.long (-87)], vm := .none },
  { cls := 8, slots := #[.long (-86)], vm := .none },
  { cls := 8, slots := #[.long (-85)], vm := .none },
  { cls := 8, slots := #[.long (-84)], vm := .none },
  { cls := 8, slots := #[.long (-83)], vm := .none },
  { cls := 8, slots := #[.long (-82)], vm := .none },
  { cls := 8, slots := #[.long (-81)], vm := .none },
  { cls := 8, slots := #[.long (-80)], vm := .none },
  { cls := 8, slots := #[.long (-79)], vm := .none },
  { cls := 8, slots := #[.long (-78)], vm := .none },
  { cls := 8, slots := #[.long (-77)], vm := .none },
  { cls := 8, slots := #[.long (-76)], vm := .none },
  { cls := 8, slots := #[.long (-75)], vm := .none },
  { cls := 8, slots := #[.long (-74)], vm := .none },
  { cls := 8, slots := #[.long (-73)], vm := .none },
  { cls := 8, slots := #[.long (-72)], vm := .none },
  { cls := 8, slots := #[.long (-71)], vm := .none },
  { cls := 8, slots := #[.long (-70)], vm := .none },
  { cls := 8, slots := #[.long (-69)], vm := .none },
  { cls := 8, slots := #[.long (-68)], vm := .none },
  { cls := 8, slots := #[.long (-67)], vm := .none },
  { cls := 8, slots := #[.long (-66)], vm := .none },
  { cls := 8, slots := #[.long (-65)], vm := .none },
  { cls := 8, slots := #[.long (-64)], vm := .none },
  { cls := 8, slots := #[.long (-63)], vm := .none },
  { cls := 8, slots := #[.long (-62)], vm := .none },
  { cls := 8, slots := #[.long (-61)], vm := .none },
  { cls := 8, slots := #[.long (-60)], vm := .none },
  { cls := 8, slots := #[.long (-59)], vm := .none },
  { cls := 8, slots := #[.long (-58)], vm := .none },
  { cls := 8, slots := #[.long (-57)], vm := .none },
  { cls := 8, slots := #[.long (-56)], vm := .none },
  { cls := 8, slots := #[.long (-55)], vm := .none },
  { cls := 8, slots := #[.long (-54)], vm := .none },
  { cls := 8, slots := #[.long (-53)], vm := .none },
  { cls := 8, slots := #[.long (-52)], vm := .none },
  { cls := 8, slots := #[.long (-51)], vm := .none },
  { cls := 8, slots := #[.long (-50)], vm := .none },
  { cls := 8, slots := #[.long (-49)], vm := .none },
  { cls := 8, slots := #[.long (-48)], vm := .none },
  { cls := 8, slots := #[.long (-47)], vm := .none },
  { cls := 8, slots := #[.long (-46)], vm := .none },
  { cls := 8, slots := #[.long (-45)], vm := .none },
  { cls := 8, slots := #[.long (-44)], vm := .none },
  { cls := 8, slots := #[.long (-43)], vm := .none },
  { cls := 8, slots := #[.long (-42)], vm := .none },
  { cls := 8, slots := #[.long (-41)], vm := .none },
  { cls := 8, slots := #[.long (-40)], vm := .none },
  { cls := 8, slots := #[.long (-39)], vm := .none },
  { cls := 8, slots := #[.long (-38)], vm := .none },
  { cls := 8, slots := #[.long (-37)], vm := .none },
  { cls := 8, slots := #[.long (-36)], vm := .none },
  { cls := 8, slots := #[.long (-35)], vm := .none },
  { cls := 8, slots := #[.long (-34)], vm := .none },
  { cls := 8, slots := #[.long (-33)], vm := .none },
  { cls := 8, slots := #[.long (-32)], vm := .none },
  { cls := 8, slots := #[.long (-31)], vm := .none },
  { cls := 8, slots := #[.long (-30)], vm := .none },
  { cls := 8, slots := #[.long (-29)], vm := .none },
  { cls := 8, slots := #[.long (-28)], vm := .none },
  { cls := 8, slots := #[.long (-27)], vm := .none },
  { cls := 8, slots := #[.long (-26)], vm := .none },
  { cls := 8, slots := #[.long (-25)], vm := .none },
  { cls := 8, slots := #[.long (-24)], vm := .none },
  { cls := 8, slots := #[.long (-23)], vm := .none },
  { cls := 8, slots := #[.long (-22)], vm := .none },
  { cls := 8, slots := #[.long (-21)], vm := .none },
  { cls := 8, slots := #[.long (-20)], vm := .none },
  { cls := 8, slots := #[.long (-19)], vm := .none },
  { cls := 8, slots := #[.long (-18)], vm := .none },
  { cls := 8, slots := #[.long (-17)], vm := .none },
  { cls := 8, slots := #[.long (-16)], vm := .none },
  { cls := 8, slots := #[.long (-15)], vm := .none },
  { cls := 8, slots := #[.long (-14)], vm := .none },
  { cls := 8, slots := #[.long (-13)], vm := .none },
  { cls := 8, slots := #[.long (-12)], vm := .none },
  { cls := 8, slots := #[.long (-11)], vm := .none },
  { cls := 8, slots := #[.long (-10)], vm := .none },
  { cls := 8, slots := #[.long (-9)], vm := .none },
  { cls := 8, slots := #[.long (-8)], vm := .none },
  { cls := 8, slots := #[.long (-7)], vm := .none },
  { cls := 8, slots := #[.long (-6)], vm := .none },
  { cls := 8, slots := #[.long (-5)], vm := .none },
  { cls := 8, slots := #[.long (-4)], vm := .none },
  { cls := 8, slots := #[.long (-3)], vm := .none },
  { cls := 8, slots := #[.long (-2)], vm := .none },
  { cls := 8, slots := #[.long (-1)], vm := .none },
  { cls := 8, slots := #[.long (0)], vm := .none },
  { cls := 8, slots := #[.long (1)], vm := .none },
  { cls := 8, slots := #[.long (2)], vm := .none },
  { cls := 8, slots := #[.long (3)], vm := .none },
  { cls := 8, slots := #[.long (4)], vm := .none },
  { cls := 8, slots := #[.long (5)], vm := .none },
  { cls := 8, slots := #[.long (6)], vm := .none },
  { cls := 8, slots := #[.long (7)], vm := .none },
  { cls := 8, slots := #[.long (8)], vm := .none },
  { cls := 8, slots := #[.long (9)], vm := .none },
  { cls := 8, slots := #[.long (10)], vm := .none },
  { cls := 8, slots := #[.long (11)], vm := .none },
  { cls := 8, slots := #[.long (12)], vm := .none },
  { cls := 8, slots := #[.long (13)], vm := .none },
  { cls := 8, slots := #[.long (14)], vm := .none },
  { cls := 8, slots := #[.long (15)], vm := .none },
  { cls := 8, slots := #[.long (16)], vm := .none },
  { cls := 8, slots := #[.long (17)], vm := .none },
  { cls := 8, slots := #[.long (18)], vm := .none },
  { cls := 8, slots := #[.long (19)], vm := .none },
  { cls := 8, slots := #[.long (20)], vm := .none },
  { cls := 8, slots := #[.long (21)], vm := .none },
  { cls := 8, slots := #[.long (22)], vm := .none },
  { cls := 8, slots := #[.long (23)], vm := .none },
  { cls := 8, slots := #[.long (24)], vm := .none },
  { cls := 8, slots := #[.long (25)], vm := .none },
  { cls := 8, slots := #[.long (26)], vm := .none },
  { cls := 8, slots := #[.long (27)], vm := .none },
  { cls := 8, slots := #[.long (28)], vm := .none },
  { cls := 8, slots := #[.long (29)], vm := .none },
  { cls := 8, slots := #[.long (30)], vm := .none },
  { cls := 8, slots := #[.long (31)], vm := .none },
  { cls := 8, slots := #[.long (32)], vm := .none },
  { cls := 8, slots := #[.long (33)], vm := .none },
  { cls := 8, slots := #[.long (34)], vm := .none },
  { cls := 8, slots := #[.long (35)], vm := .none },
  { cls := 8, slots := #[.long (36)], vm := .none },
  { cls := 8, slots := #[.long (37)], vm := .none },
  { cls := 8, slots := #[.long (38)], vm := .none },
  { cls := 8, slots := #[.long (39)], vm := .none },
  { cls := 8, slots := #[.long (40)], vm := .none },
  { cls := 8, slots := #[.long (41)], vm := .none },
  { cls := 8, slots := #[.long (42)], vm := .none },
  { cls := 8, slots := #[.long (43)], vm := .none },
  { cls := 8, slots := #[.long (44)], vm := .none },
  { cls := 8, slots := #[.long (45)], vm := .none },
  { cls := 8, slots := #[.long (46)], vm := .none },
  { cls := 8, slots := #[.long (47)], vm := .none },
  { cls := 8, slots := #[.long (48)], vm := .none },
  { cls := 8, slots := #[.long (49)], vm := .none },
  { cls := 8, slots := #[.long (50)], vm := .none },
  { cls := 8, slots := #[.long (51)], vm := .none },
  { cls := 8, slots := #[.long (52)], vm := .none },
  { cls := 8, slots := #[.long (53)], vm := .none },
  { cls := 8, slots := #[.long (54)], vm := .none },
  { cls := 8, slots := #[.long (55)], vm := .none },
  { cls := 8, slots := #[.long (56)], vm := .none },
  { cls := 8, slots := #[.long (57)], vm := .none },
  { cls := 8, slots := #[.long (58)], vm := .none },
  { cls := 8, slots := #[.long (59)], vm := .none },
  { cls := 8, slots := #[.long (60)], vm := .none },
  { cls := 8, slots := #[.long (61)], vm := .none },
  { cls := 8, slots := #[.long (62)], vm := .none },
  { cls := 8, slots := #[.long (63)], vm := .none },
  { cls := 8, slots := #[.long (64)], vm := .none },
  { cls := 8, slots := #[.long (65)], vm := .none },
  { cls := 8, slots := #[.long (66)], vm := .none },
  { cls := 8, slots := #[.long (67)], vm := .none },
  { cls := 8, slots := #[.long (68)], vm := .none },
  { cls := 8, slots := #[.long (69)], vm := .none },
  { cls := 8, slots := #[.long (70)], vm := .none },
  { cls := 8, slots := #[.long (71)], vm := .none },
  { cls := 8, slots := #[.long (72)], vm := .none },
  { cls := 8, slots := #[.long (73)], vm := .none },
  { cls := 8, slots := #[.long (74)], vm := .none },
  { cls := 8, slots := #[.long (75)], vm := .none },
  { cls := 8, slots := #[.long (76)], vm := .none },
  { cls := 8, slots := #[.long (77)], vm := .none },
  { cls := 8, slots := #[.long (78)], vm := .none },
  { cls := 8, slots := #[.long (79)], vm := .none },
  { cls := 8, slots := #[.long (80)], vm := .none },
  { cls := 8, slots := #[.long (81)], vm := .none },
  { cls := 8, slots := #[.long (82)], vm := .none },
  { cls := 8, slots := #[.long (83)], vm := .none },
  { cls := 8, slots := #[.long (84)], vm := .none },
  { cls := 8, slots := #[.long (85)], vm := .none },
  { cls := 8, slots := #[.long (86)], vm := .none },
  { cls := 8, slots := #[.long (87)], vm := .none },
  { cls := 8, slots := #[.long (88)], vm := .none },
  { cls := 8, slots := #[.long (89)], vm := .none },
  { cls := 8, slots := #[.long (90)], vm := .none },
  { cls := 8, slots := #[.long (91)], vm := .none },
  { cls := 8, slots := #[.long (92)], vm := .none },
  { cls := 8, slots := #[.long (93)], vm := .none },
  { cls := 8, slots := #[.long (94)], vm := .none },
  { cls := 8, slots := #[.long (95)], vm := .none },
  { cls := 8, slots := #[.long (96)], vm := .none },
  { cls := 8, slots := #[.long (97)], vm := .none },
  { cls := 8, slots := #[.long (98)], vm := .none },
  { cls := 8, slots := #[.long (99)], vm := .none },
  { cls := 8, slots := #[.long (100)], vm := .none },
  { cls := 8, slots := #[.long (101)], vm := .none },
  { cls := 8, slots := #[.long (102)], vm := .none },
  { cls := 8, slots := #[.long (103)], vm := .none },
  { cls := 8, slots := #[.long (104)], vm := .none },
  { cls := 8, slots := #[.long (105)], vm := .none },
  { cls := 8, slots := #[.long (106)], vm := .none },
  { cls := 8, slots := #[.long (107)], vm := .none },
  { cls := 8, slots := #[.long (108)], vm := .none },
  { cls := 8, slots := #[.long (109)], vm := .none },
  { cls := 8, slots := #[.long (110)], vm := .none },
  { cls := 8, slots := #[.long (111)], vm := .none },
  { cls := 8, slots := #[.long (112)], vm := .none },
  { cls := 8, slots := #[.long (113)], vm := .none },
  { cls := 8, slots := #[.long (114)], vm := .none },
  { cls := 8, slots := #[.long (115)], vm := .none },
  { cls := 8, slots := #[.long (116)], vm := .none },
  { cls := 8, slots := #[.long (117)], vm := .none },
  { cls := 8, slots := #[.long (118)], vm := .none },
  { cls := 8, slots := #[.long (119)], vm := .none },
  { cls := 8, slots := #[.long (120)], vm := .none },
  { cls := 8, slots := #[.long (121)], vm := .none },
  { cls := 8, slots := #[.long (122)], vm := .none },
  { cls := 8, slots := #[.long (123)], vm := .none },
  { cls := 8, slots := #[.long (124)], vm := .none },
  { cls := 8, slots := #[.long (125)], vm := .none },
  { cls := 8, slots := #[.long (126)], vm := .none },
  { cls := 8, slots := #[.long (127)], vm := .none }]
def classes : Array Class := #[k0, k1, k2, k3, k4, k5, k6, k7, k8, k9, k10, k11, k12, k13, k14, k15]
def interned : List (Array UInt16 × Addr) := []
def slotsUsed : Nat := 515
def theMethod : MethodId := ⟨1, 1⟩
def args0 : Array Value := #[.long 5, .long 5, .long 5, .long 5, .int 5]
def aboutOver (below : List Frame) : State where
  vm := { classes := classes, interned := interned.toArray }
  heap := heap
  slotsUsed := slotsUsed
  threads := #[{ frames := .invoking theMethod args0 :: below }]
def below0 : List Frame := [.native { method := ⟨0, 0⟩, args := #[] }]
def about1 : State := aboutOver below0
def p0 : Program := .bare "" "" ""
def e0 : Env := launch0.env 0 0 0
theorem w_frames : about1.frames = Frame.invoking theMethod args0 :: below0 := rfl
set_option maxRecDepth 65536 in
theorem w_args : argsFit about1.vm theMethod args0 = true := by decide +kernel
set_option maxRecDepth 65536 in
theorem w_heap : heapFits about1 = true := by decide +kernel
set_option maxRecDepth 65536 in
theorem w_runnable : about1.curStatus? = some .runnable := by decide +kernel
set_option maxRecDepth 65536 in
theorem w_alone : about1.alone = true := by decide +kernel
set_option maxRecDepth 65536 in
theorem w_named : about1.methodNamed? x = some theMethod := by decide +kernel
set_option maxRecDepth 65536 in
theorem w_hears : about1.hears theMethod below0 = true := by decide +kernel
set_option maxRecDepth 65536 in
theorem w_ripe : about1.ripe theMethod args0 below0 = true := by decide +kernel
theorem w_running : about1.status = .running := rfl
set_option maxRecDepth 65536 in
theorem w_room : about1.hasRoom e0.platform room_1 = true :=
  launch0.hasRoom_least _ room_1 (by decide +kernel) (by decide +kernel) (by decide +kernel) (by decide +kernel) (by decide +kernel) (by decide +kernel)
theorem allAtoms_all (ts : List Jvm.Cond) (a : Array Jvm.Value) (st : Jvm.State) : (allAtoms ts).before a st = ts.all (fun c => c.before a st) := by
  induction ts with
  | nil => rfl
  | cons c t ih =>
    show (Jvm.Cond.and c (allAtoms t)).before a st = _
    rw [Jvm.Cond.before_and, ih, List.all_cons]
def words1 : List Jvm.Cond := Jvm.Cond.code x code maxLocals ret :: tables_1
/-- a 'code' word, met by the world's own term for the bytes: nothing is compared byte by byte -/
theorem code_word {y : MethodName} {bytes : ByteArray} {mx : Nat} {rt : Option FieldType} {a : Array Value} {s : State} {m : MethodId} {meth : Method} {c : Code} (h1 : s.methodNamed? y = some m) (h2 : s.vm.method? m = some meth) (h3 : meth.code = some c) (h4 : c.code = bytes)
    (h5 : (c.maxLocals == mx && c.exceptionTable.isEmpty && decide (c.maxStack ≤ mostOperands) && decide (meth.sig.returnType = rt) && !meth.locks && decide (parseMethodDescriptor y.desc = some meth.sig)) = true) : (Jvm.Cond.code y bytes mx rt).before a s = true := by
  simp only [Bool.and_eq_true, beq_iff_eq, Bool.not_eq_true', decide_eq_true_eq] at h5
  obtain ⟨⟨⟨⟨⟨g1, g2⟩, g3⟩, g4⟩, g5⟩, g6⟩ := h5
  simp [Cond.before, Cond.holds, Cond.value, h1, h2, h3, h4, g1, g2, g3, g4, g5, g6]
def isCode : Jvm.Cond → Bool
  | .code _ _ _ _ => true
  | _ => false
theorem all_split {L : List Jvm.Cond} {P : Jvm.Cond → Bool} (h1 : L.all (fun c => isCode c || P c) = true) (h2 : ∀ c ∈ L.filter isCode, P c = true) : L.all P = true := by
  refine List.all_eq_true.mpr fun c hc => ?_
  have h := List.all_eq_true.mp h1 c hc
  rcases Bool.eq_false_or_eq_true (isCode c) with hi | hi
  · exact h2 c (List.mem_filter.mpr ⟨hc, hi⟩)
  · simpa [hi] using h
set_option maxRecDepth 65536 in
theorem w_c0 : (Jvm.Cond.code x code maxLocals ret).before args0 about1 = true := code_word (m := ⟨1, 1⟩) (meth := k1m1) (c := k1c1) (by decide +kernel) rfl rfl rfl (by decide +kernel)
set_option maxRecDepth 65536 in
theorem w_c1 : (Jvm.Cond.code ({ cls := "com/example/eolog/eolog/record/OffsetAndTimestamp", name := "<init>", desc := "(JJ)V" } : Jvm.MethodName) prog_92_method_1_code (5 : Nat) (Option.none : Option Jvm.ClassFile.FieldType)).before args0 about1 = true := code_word (m := ⟨2, 0⟩) (meth := k2m0) (c := k2c0) (by decide +kernel) rfl rfl rfl (by decide +kernel)
set_option maxRecDepth 65536 in
theorem w_c2 : (Jvm.Cond.code ({ cls := "java/lang/Object", name := "<init>", desc := "()V" } : Jvm.MethodName) object_method_1_code (1 : Nat) (Option.none : Option Jvm.ClassFile.FieldType)).before args0 about1 = true := code_word (m := ⟨0, 0⟩) (meth := k0m0) (c := k0c0) (by decide +kernel) rfl rfl rfl (by decide +kernel)
set_option maxRecDepth 65536 in
theorem w_c3 : (Jvm.Cond.code ({ cls := "com/example/eolog/eolog/record/OffsetAndTimestamp", name := "equals", desc := "(Ljava/lang/Object;)Z" } : Jvm.MethodName) prog_92_method_4_code (3 : Nat) (Option.some Jvm.ClassFile.FieldType.boolean)).before args0 about1 = true := code_word (m := ⟨2, 1⟩) (meth := k2m1) (c := k2c1) (by decide +kernel) rfl rfl rfl (by decide +kernel)
set_option maxRecDepth 65536 in
theorem w_c4 : (Jvm.Cond.code ({ cls := "java/lang/Long", name := "valueOf", desc := "(J)Ljava/lang/Long;" } : Jvm.MethodName) jdk_35_method_24_code (3 : Nat) (Option.some (Jvm.ClassFile.FieldType.object "java/lang/Long"))).before args0 about1 = true := code_word (m := ⟨8, 0⟩) (meth := k8m0) (c := k8c0) (by decide +kernel) rfl rfl rfl (by decide +kernel)
set_option maxRecDepth 65536 in
theorem w_c5 : (Jvm.Cond.code ({ cls := "java/lang/Long", name := "<init>", desc := "(J)V" } : Jvm.MethodName) jdk_35_method_26_code (3 : Nat) (Option.none : Option Jvm.ClassFile.FieldType)).before args0 about1 = true := code_word (m := ⟨8, 1⟩) (meth := k8m1) (c := k8c1) (by decide +kernel) rfl rfl rfl (by decide +kernel)
set_option maxRecDepth 65536 in
theorem w_c6 : (Jvm.Cond.code ({ cls := "java/lang/Number", name := "<init>", desc := "()V" } : Jvm.MethodName) jdk_18_method_1_code (1 : Nat) (Option.none : Option Jvm.ClassFile.FieldType)).before args0 about1 = true := code_word (m := ⟨4, 0⟩) (meth := k4m0) (c := k4c0) (by decide +kernel) rfl rfl rfl (by decide +kernel)
def codes1 : List Jvm.Cond := [Jvm.Cond.code x code maxLocals ret, Jvm.Cond.code ({ cls := "com/example/eolog/eolog/record/OffsetAndTimestamp", name := "<init>", desc := "(JJ)V" } : Jvm.MethodName) prog_92_method_1_code (5 : Nat) (Option.none : Option Jvm.ClassFile.FieldType), Jvm.Cond.code ({ cls := "java/lang/Object", name := "<init>", desc := "()V" } : Jvm.MethodName) object_method_1_code (1 : Nat) (Option.none : Option Jvm.ClassFile.FieldType), Jvm.Cond.code ({ cls := "com/example/eolog/eolog/record/OffsetAndTimestamp", name := "equals", desc := "(Ljava/lang/Object;)Z" } : Jvm.MethodName) prog_92_method_4_code (3 : Nat) (Option.some Jvm.ClassFile.FieldType.boolean), Jvm.Cond.code ({ cls := "java/lang/Long", name := "valueOf", desc := "(J)Ljava/lang/Long;" } : Jvm.MethodName) jdk_35_method_24_code (3 : Nat) (Option.some (Jvm.ClassFile.FieldType.object "java/lang/Long")), Jvm.Cond.code ({ cls := "java/lang/Long", name := "<init>", desc := "(J)V" } : Jvm.MethodName) jdk_35_method_26_code (3 : Nat) (Option.none : Option Jvm.ClassFile.FieldType), Jvm.Cond.code ({ cls := "java/lang/Number", name := "<init>", desc := "()V" } : Jvm.MethodName) jdk_18_method_1_code (1 : Nat) (Option.none : Option Jvm.ClassFile.FieldType)]
set_option maxRecDepth 65536 in
theorem codes_eq : words1.filter isCode = codes1 := rfl
theorem w_codes : ∀ c ∈ words1.filter isCode, c.before args0 about1 = true := by
  rw [codes_eq]
  intro c hc
  simp only [codes1, List.mem_cons, List.not_mem_nil, or_false] at hc
  rcases hc with rfl | rfl | rfl | rfl | rfl | rfl | rfl
  · exact w_c0
  · exact w_c1
  · exact w_c2
  · exact w_c3
  · exact w_c4
  · exact w_c5
  · exact w_c6
set_option maxRecDepth 65536 in
theorem w_t1 : (words1.take 24).all (fun c => isCode c || c.before args0 about1) = true := by decide +kernel
set_option maxRecDepth 65536 in
theorem w_t2 : (words1.drop 24).all (fun c => isCode c || c.before args0 about1) = true := by decide +kernel
theorem w_tables : (allAtoms (Jvm.Cond.code x code maxLocals ret :: tables_1)).before args0 about1 = true := by
  rw [allAtoms_all]
  show words1.all (fun c => c.before args0 about1) = true
  refine all_split ?_ w_codes
  rw [← List.take_append_drop 24 words1, List.all_append, w_t1, w_t2]
  rfl
set_option maxRecDepth 65536 in
theorem w_rest : rest_1_c.before args0 about1 = true := by decide +kernel
set_option maxRecDepth 65536 in
theorem w_case : (Jvm.Cond.and given_1 narrow_1).before args0 about1 = true := by decide +kernel
theorem w_applies : (headSpec (Jvm.Cond.code x code maxLocals ret :: tables_1) room_1).applies x e0.platform about1 = true :=
  (Spec.applies_iff w_frames).mpr ⟨w_running, w_runnable, w_alone, w_named, w_hears, w_ripe, w_room, w_tables⟩
theorem atStart : AtStart classFile x code maxLocals ret World_1 tables_1 room_1 Calls_1 rest_1 Pre_1 launch0 p0 e0 about1 theMethod args0 below0 :=
  ⟨lists_1, trivial, launch0.admits_env _ _ _, launch0.least_env, fairChoices_fair.cas, fairChoices_fair.clock, w_frames, w_args, w_heap, w_applies, trivial, w_rest, w_case⟩
end start1
theorem witness_1 : WitnessClaimed_1 := ⟨start1.p0, start1.e0, start1.about1, start1.theMethod, start1.args0, start1.below0, start1.atStart⟩
end Jvm.Pilot.@@N@@
